import JvmDerived
import JvmDerived.Pilot.@@N@@Statement
import JvmDerived.Pilot.@@N@@Code
set_option linter.unusedVariables false
set_option linter.unusedSimpArgs false
@@BLOCK:NumsL.lean.txt@@
namespace Jvm.Pilot.@@N@@
open Jvm Jvm.ClassFile Sem Op Lib Jvm.Free Jvm.Stand Jvm.LawKit Jvm.RoadKit Bundle Jvm.Pilot.@@N@@.Jvm.D
/-- a term that the case says equals an int is worth that int -/
theorem own_eqI {args : Array Value} {s : State} {t : Term} {k : Int32} (h : (Jvm.Cond.eq t (.int k)).value args s none s [] = some true) : t.eval args s none [] s = some (.int k) := by
  obtain ⟨u, y, e1, e2, k1, k2⟩ := cmp_v (Or.inl h)
  obtain rfl : y = .int k := (Option.some.inj ((Term.int_eval k).symm.trans e2)).symm
  obtain ⟨z, rfl⟩ : ∃ z, u = .int z := k2
  have q : z = k := gotT (Cond.eq_ints e1 (Term.int_eval k)) h
  rw [e1, q]
/-- a term that the case says equals one that is worth an object is worth that object -/
theorem own_eqR {args : Array Value} {s : State} {t t' : Term} {b : Addr} (h : (Jvm.Cond.eq t t').value args s none s [] = some true) (hb : t'.eval args s none [] s = some (.ref b)) : t.eval args s none [] s = some (.ref b) := by
  obtain ⟨u, y, e1, e2, k1, k2⟩ := cmp_v (Or.inl h)
  obtain rfl : y = .ref b := (Option.some.inj (hb.symm.trans e2)).symm
  have q : u = .ref b := gotT (eq_R e1 hb k2.2 rfl) h
  rw [e1, q]
/-- two objects whose fields hold unlike values are unlike -/
theorem own_ne {s : State} {a b : Addr} {C n d : String} {v w : Value} (h1 : s.fieldOf? a C n d = some v) (h2 : s.fieldOf? b C n d = some w) (q : v ≠ w) : a ≠ b := fun e => by
  subst e; exact q (Option.some.inj (h1.symm.trans h2))
section Kit
variable {p : Program} {l : Launch} {e : Env} {R : Room} {s : State} {m : MethodId} {args : Array Value} {below : List Frame} {meth : Method} {c : Code} {T T' : State} {locs : List Loc} {cells slots : Nat} {Q : Outcome → State → Prop} {pc : Nat} {Ls : Array Slot} {st : List Value} {f f' : JFrame}
/-- from this frame the run ends as Q says -/
def EndsSo (p : Program) (e : Env) (below : List Frame) (Q : Outcome → State → Prop) (T : State) (f : JFrame) : Prop := ∃ s₂ o, Steps p.tables e below (T.setTop f) s₂ ∧ s₂.status = .running ∧ Ended s₂ below o ∧ Q o s₂
theorem f_by (k : ∀ t, Steps p.tables e below (T'.setTop f') t → Steps p.tables e below (T.setTop f) t) (h : EndsSo p e below Q T' f') : EndsSo p e below Q T f := by
  obtain ⟨s₂, o, h1, r⟩ := h; exact ⟨s₂, o, k _ h1, r⟩
theorem f_run (k : Steps p.tables e below (T.setTop f) (T'.setTop f')) (h : EndsSo p e below Q T' f') : EndsSo p e below Q T f := by
  obtain ⟨s₂, o, h1, r⟩ := h; exact ⟨s₂, o, k.trans h1, r⟩
theorem f_cast (q : f = f') (h : EndsSo p e below Q T f') : EndsSo p e below Q T f := q ▸ h
theorem f_ret (X : Stand p l e R s m args below meth c T locs cells slots) (hx : p.tables.exec = Jvm.exec) (hlk : meth.locks = false) {w : Value} {t : FieldType} {i : Instr} (hret : meth.sig.returnType = some t) (hn : narrow t w = w)
    (hi : (i = .ireturn ∧ (t = .int ∨ t = .boolean ∨ t = .byte ∨ t = .char ∨ t = .short) ∧ ∃ z, w = .int z) ∨ (i = .lreturn ∧ t = .long ∧ ∃ z, w = .long z) ∨ (i = .dreturn ∧ t = .double ∧ ∃ z, w = .double z) ∨ (i = .freturn ∧ t = .float ∧ ∃ z, w = .float z) ∨ (i = .areturn ∧ t.isReference = true ∧ w.isRef = true))
    (hd : decode c.code pc = .ok (i, 1)) {QQ : Option Value → Heap → List Loc → Prop} {k n : Nat} (hq : QQ (some w) T.heap locs) (hk : cells ≤ k) (hn' : slots ≤ n) :
    EndsSo p e below (fun o U' => ∃ v L, o = .returned v ∧ QQ v U'.heap L ∧ FrameEnd s o U' L k n) T (mkF m pc Ls (w :: st)) := by
  obtain ⟨fs, hr, hrun, hended, hW, hsame⟩ := X.leave (v := some w) (fun h => by rw [hret] at h; cases h)
  exact ⟨_, _, retOut X hx hret hn hi hd hr, hrun, hended, _, _, rfl, hq, ⟨_, rfl⟩, hW, hsame.mono hk hn'⟩
theorem f_ret0 (X : Stand p l e R s m args below meth c T locs cells slots) (hx : p.tables.exec = Jvm.exec) (hlk : meth.locks = false) (hret : meth.sig.returnType = none)
    (hd : decode c.code pc = .ok (.return_, 1)) {QQ : Option Value → Heap → List Loc → Prop} {k n : Nat} (hq : QQ none T.heap locs) (hk : cells ≤ k) (hn' : slots ≤ n) :
    EndsSo p e below (fun o U' => ∃ v L, o = .returned v ∧ QQ v U'.heap L ∧ FrameEnd s o U' L k n) T (mkF m pc Ls []) := by
  obtain ⟨fs, hr, hrun, hended, hW, hsame⟩ := X.leave (v := none) (fun _ => rfl)
  exact ⟨_, _, X.returnOut hx hret hd hr, hrun, hended, _, _, rfl, hq, ⟨_, rfl⟩, hW, hsame.mono hk hn'⟩

theorem iL (X : Stand p l e R s m args below meth c T locs cells slots) (hx : p.tables.exec = Jvm.exec) {i : Nat} {v : Int32} (hd : decode c.code pc = .ok (.iload i, 2)) (hl : Ls[i]? = some (.val (.int v))) (h : EndsSo p e below Q T (mkF m (pc + 2) Ls (.int v :: st))) : EndsSo p e below Q T (mkF m pc Ls st) := f_by (fun _ k => XS.iload X.here hx rfl hd hl k) h
theorem iN (X : Stand p l e R s m args below meth c T locs cells slots) (hx : p.tables.exec = Jvm.exec) {i : Fin 4} {v : Int32} (hd : decode c.code pc = .ok (.iload_n i, 1)) (hl : Ls[i.val]? = some (.val (.int v))) (h : EndsSo p e below Q T (mkF m (pc + 1) Ls (.int v :: st))) : EndsSo p e below Q T (mkF m pc Ls st) := f_by (fun _ k => XS.iloadN X.here hx rfl hd hl k) h
theorem f_lload (X : Stand p l e R s m args below meth c T locs cells slots) (hx : p.tables.exec = Jvm.exec) {i : Nat} {v : Int64} (hd : decode c.code pc = .ok (.lload i, 2)) (hl : Ls[i]? = some (.val (.long v))) (h : EndsSo p e below Q T (mkF m (pc + 2) Ls (.long v :: st))) : EndsSo p e below Q T (mkF m pc Ls st) := f_by (fun _ k => XS.lload X.here hx rfl hd hl k) h
theorem lN (X : Stand p l e R s m args below meth c T locs cells slots) (hx : p.tables.exec = Jvm.exec) {i : Fin 4} {v : Int64} (hd : decode c.code pc = .ok (.lload_n i, 1)) (hl : Ls[i.val]? = some (.val (.long v))) (h : EndsSo p e below Q T (mkF m (pc + 1) Ls (.long v :: st))) : EndsSo p e below Q T (mkF m pc Ls st) := f_by (fun _ k => XS.lloadN X.here hx rfl hd hl k) h
theorem aA (X : Stand p l e R s m args below meth c T locs cells slots) (hx : p.tables.exec = Jvm.exec) {i : Nat} {v : Value} (hd : decode c.code pc = .ok (.aload i, 2)) (hl : Ls[i]? = some (.val v)) (hv : v.isRef = true) (h : EndsSo p e below Q T (mkF m (pc + 2) Ls (v :: st))) : EndsSo p e below Q T (mkF m pc Ls st) := f_by (fun _ k => XS.aload X.here hx rfl hd hl hv k) h
theorem aN (X : Stand p l e R s m args below meth c T locs cells slots) (hx : p.tables.exec = Jvm.exec) {i : Fin 4} {v : Value} (hd : decode c.code pc = .ok (.aload_n i, 1)) (hl : Ls[i.val]? = some (.val v)) (hv : v.isRef = true) (h : EndsSo p e below Q T (mkF m (pc + 1) Ls (v :: st))) : EndsSo p e below Q T (mkF m pc Ls st) := f_by (fun _ k => XS.aloadN X.here hx rfl hd hl hv k) h
theorem iS (X : Stand p l e R s m args below meth c T locs cells slots) (hx : p.tables.exec = Jvm.exec) {i : Nat} {v : Int32} {L' : Array Slot} (hd : decode c.code pc = .ok (.istore i, 2)) (hl : storeLocals Ls i (.int v) = some L') (h : EndsSo p e below Q T (mkF m (pc + 2) L' st)) : EndsSo p e below Q T (mkF m pc Ls (.int v :: st)) := f_by (fun _ k => XS.istore X.here hx rfl hd rfl hl k) h
theorem sN (X : Stand p l e R s m args below meth c T locs cells slots) (hx : p.tables.exec = Jvm.exec) {i : Fin 4} {v : Int32} {L' : Array Slot} (hd : decode c.code pc = .ok (.istore_n i, 1)) (hl : storeLocals Ls i.val (.int v) = some L') (h : EndsSo p e below Q T (mkF m (pc + 1) L' st)) : EndsSo p e below Q T (mkF m pc Ls (.int v :: st)) := f_by (fun _ k => XS.istoreN X.here hx rfl hd rfl hl k) h
theorem f_lstore (X : Stand p l e R s m args below meth c T locs cells slots) (hx : p.tables.exec = Jvm.exec) {i : Nat} {v : Int64} {L' : Array Slot} (hd : decode c.code pc = .ok (.lstore i, 2)) (hl : storeLocals Ls i (.long v) = some L') (h : EndsSo p e below Q T (mkF m (pc + 2) L' st)) : EndsSo p e below Q T (mkF m pc Ls (.long v :: st)) := f_by (fun _ k => XS.lstore X.here hx rfl hd rfl hl k) h
theorem f_lstoreN (X : Stand p l e R s m args below meth c T locs cells slots) (hx : p.tables.exec = Jvm.exec) {i : Fin 4} {v : Int64} {L' : Array Slot} (hd : decode c.code pc = .ok (.lstore_n i, 1)) (hl : storeLocals Ls i.val (.long v) = some L') (h : EndsSo p e below Q T (mkF m (pc + 1) L' st)) : EndsSo p e below Q T (mkF m pc Ls (.long v :: st)) := f_by (fun _ k => XS.lstoreN X.here hx rfl hd rfl hl k) h
theorem f_astore (X : Stand p l e R s m args below meth c T locs cells slots) (hx : p.tables.exec = Jvm.exec) {i : Nat} {v : Value} {L' : Array Slot} (hd : decode c.code pc = .ok (.astore i, 2)) (hv : v.isRef = true) (hl : storeLocals Ls i v = some L') (h : EndsSo p e below Q T (mkF m (pc + 2) L' st)) : EndsSo p e below Q T (mkF m pc Ls (v :: st)) := f_by (fun _ k => XS.astore X.here hx rfl hd rfl hv hl k) h
theorem f_astoreN (X : Stand p l e R s m args below meth c T locs cells slots) (hx : p.tables.exec = Jvm.exec) {i : Fin 4} {v : Value} {L' : Array Slot} (hd : decode c.code pc = .ok (.astore_n i, 1)) (hv : v.isRef = true) (hl : storeLocals Ls i.val v = some L') (h : EndsSo p e below Q T (mkF m (pc + 1) L' st)) : EndsSo p e below Q T (mkF m pc Ls (v :: st)) := f_by (fun _ k => XS.astoreN X.here hx rfl hd rfl hv hl k) h
theorem iK (X : Stand p l e R s m args below meth c T locs cells slots) (hx : p.tables.exec = Jvm.exec) {i : Int} {z : Int32} (hd : decode c.code pc = .ok (.iconst i, 1)) (h : EndsSo p e below Q T (mkF m (pc + 1) Ls (.int z :: st))) (q : Int32.ofInt i = z := by rfl) : EndsSo p e below Q T (mkF m pc Ls st) := f_by (fun _ k => XS.iconst X.here hx rfl hd (by rw [q]; exact k)) h
theorem f_bipush (X : Stand p l e R s m args below meth c T locs cells slots) (hx : p.tables.exec = Jvm.exec) {i : Int} {z : Int32} (hd : decode c.code pc = .ok (.bipush i, 2)) (h : EndsSo p e below Q T (mkF m (pc + 2) Ls (.int z :: st))) (q : (Int8.ofInt i).toInt32 = z := by rfl) : EndsSo p e below Q T (mkF m pc Ls st) := f_by (fun _ k => XS.bipush X.here hx rfl hd (by rw [q]; exact k)) h
theorem f_sipush (X : Stand p l e R s m args below meth c T locs cells slots) (hx : p.tables.exec = Jvm.exec) {i : Int} {z : Int32} (hd : decode c.code pc = .ok (.sipush i, 3)) (h : EndsSo p e below Q T (mkF m (pc + 3) Ls (.int z :: st))) (q : (Int16.ofInt i).toInt32 = z := by rfl) : EndsSo p e below Q T (mkF m pc Ls st) := f_by (fun _ k => XS.sipush X.here hx rfl hd (by rw [q]; exact k)) h
theorem f_null (X : Stand p l e R s m args below meth c T locs cells slots) (hx : p.tables.exec = Jvm.exec)  (hd : decode c.code pc = .ok (.aconst_null, 1)) (h : EndsSo p e below Q T (mkF m (pc + 1) Ls (.null :: st))) : EndsSo p e below Q T (mkF m pc Ls st) := f_by (fun _ k => XS.aconstNull X.here hx rfl hd k) h
theorem iA (X : Stand p l e R s m args below meth c T locs cells slots) (hx : p.tables.exec = Jvm.exec) {x y z : Int32} (hd : decode c.code pc = .ok (.iadd, 1)) (h : EndsSo p e below Q T (mkF m (pc + 1) Ls (.int z :: st))) (q : x + y = z := by decide +kernel) : EndsSo p e below Q T (mkF m pc Ls (.int y :: .int x :: st)) := f_by (fun _ k => XS.iadd X.here hx rfl hd rfl (by rw [q]; exact k)) h
theorem iB (X : Stand p l e R s m args below meth c T locs cells slots) (hx : p.tables.exec = Jvm.exec) {x y z : Int32} (hd : decode c.code pc = .ok (.isub, 1)) (h : EndsSo p e below Q T (mkF m (pc + 1) Ls (.int z :: st))) (q : x - y = z := by decide +kernel) : EndsSo p e below Q T (mkF m pc Ls (.int y :: .int x :: st)) := f_by (fun _ k => XS.isub X.here hx rfl hd rfl (by rw [q]; exact k)) h
theorem f_imul (X : Stand p l e R s m args below meth c T locs cells slots) (hx : p.tables.exec = Jvm.exec) {x y z : Int32} (hd : decode c.code pc = .ok (.imul, 1)) (h : EndsSo p e below Q T (mkF m (pc + 1) Ls (.int z :: st))) (q : x * y = z := by decide +kernel) : EndsSo p e below Q T (mkF m pc Ls (.int y :: .int x :: st)) := f_by (fun _ k => XS.imul X.here hx rfl hd rfl (by rw [q]; exact k)) h
theorem f_iand (X : Stand p l e R s m args below meth c T locs cells slots) (hx : p.tables.exec = Jvm.exec) {x y z : Int32} (hd : decode c.code pc = .ok (.iand, 1)) (h : EndsSo p e below Q T (mkF m (pc + 1) Ls (.int z :: st))) (q : x &&& y = z := by decide +kernel) : EndsSo p e below Q T (mkF m pc Ls (.int y :: .int x :: st)) := f_by (fun _ k => XS.iand X.here hx rfl hd rfl (by rw [q]; exact k)) h
theorem f_ior (X : Stand p l e R s m args below meth c T locs cells slots) (hx : p.tables.exec = Jvm.exec) {x y z : Int32} (hd : decode c.code pc = .ok (.ior, 1)) (h : EndsSo p e below Q T (mkF m (pc + 1) Ls (.int z :: st))) (q : x ||| y = z := by decide +kernel) : EndsSo p e below Q T (mkF m pc Ls (.int y :: .int x :: st)) := f_by (fun _ k => XS.ior X.here hx rfl hd rfl (by rw [q]; exact k)) h
theorem f_ixor (X : Stand p l e R s m args below meth c T locs cells slots) (hx : p.tables.exec = Jvm.exec) {x y z : Int32} (hd : decode c.code pc = .ok (.ixor, 1)) (h : EndsSo p e below Q T (mkF m (pc + 1) Ls (.int z :: st))) (q : x ^^^ y = z := by decide +kernel) : EndsSo p e below Q T (mkF m pc Ls (.int y :: .int x :: st)) := f_by (fun _ k => XS.ixor X.here hx rfl hd rfl (by rw [q]; exact k)) h
theorem f_ladd (X : Stand p l e R s m args below meth c T locs cells slots) (hx : p.tables.exec = Jvm.exec) {x y z : Int64} (hd : decode c.code pc = .ok (.ladd, 1)) (h : EndsSo p e below Q T (mkF m (pc + 1) Ls (.long z :: st))) (q : x + y = z := by decide +kernel) : EndsSo p e below Q T (mkF m pc Ls (.long y :: .long x :: st)) := f_by (fun _ k => XS.ladd X.here hx rfl hd rfl (by rw [q]; exact k)) h
theorem f_lsub (X : Stand p l e R s m args below meth c T locs cells slots) (hx : p.tables.exec = Jvm.exec) {x y z : Int64} (hd : decode c.code pc = .ok (.lsub, 1)) (h : EndsSo p e below Q T (mkF m (pc + 1) Ls (.long z :: st))) (q : x - y = z := by decide +kernel) : EndsSo p e below Q T (mkF m pc Ls (.long y :: .long x :: st)) := f_by (fun _ k => XS.lsub X.here hx rfl hd rfl (by rw [q]; exact k)) h
theorem f_lmul (X : Stand p l e R s m args below meth c T locs cells slots) (hx : p.tables.exec = Jvm.exec) {x y z : Int64} (hd : decode c.code pc = .ok (.lmul, 1)) (h : EndsSo p e below Q T (mkF m (pc + 1) Ls (.long z :: st))) (q : x * y = z := by decide +kernel) : EndsSo p e below Q T (mkF m pc Ls (.long y :: .long x :: st)) := f_by (fun _ k => XS.lmul X.here hx rfl hd rfl (by rw [q]; exact k)) h
theorem f_ishl (X : Stand p l e R s m args below meth c T locs cells slots) (hx : p.tables.exec = Jvm.exec) {x y z : Int32} (hd : decode c.code pc = .ok (.ishl, 1)) (h : EndsSo p e below Q T (mkF m (pc + 1) Ls (.int z :: st))) (q : x <<< (y &&& 31) = z := by decide +kernel) : EndsSo p e below Q T (mkF m pc Ls (.int y :: .int x :: st)) := f_by (fun _ k => XS.ishl X.here hx rfl hd rfl (by rw [q]; exact k)) h
theorem f_ishr (X : Stand p l e R s m args below meth c T locs cells slots) (hx : p.tables.exec = Jvm.exec) {x y z : Int32} (hd : decode c.code pc = .ok (.ishr, 1)) (h : EndsSo p e below Q T (mkF m (pc + 1) Ls (.int z :: st))) (q : x >>> (y &&& 31) = z := by decide +kernel) : EndsSo p e below Q T (mkF m pc Ls (.int y :: .int x :: st)) := f_by (fun _ k => XS.ishr X.here hx rfl hd rfl (by rw [q]; exact k)) h
theorem f_iushr (X : Stand p l e R s m args below meth c T locs cells slots) (hx : p.tables.exec = Jvm.exec) {x y z : Int32} (hd : decode c.code pc = .ok (.iushr, 1)) (h : EndsSo p e below Q T (mkF m (pc + 1) Ls (.int z :: st))) (q : (x.toUInt32 >>> (y &&& 31).toUInt32).toInt32 = z := by decide +kernel) : EndsSo p e below Q T (mkF m pc Ls (.int y :: .int x :: st)) := f_by (fun _ k => XS.iushr X.here hx rfl hd rfl (by rw [q]; exact k)) h
theorem f_idiv (X : Stand p l e R s m args below meth c T locs cells slots) (hx : p.tables.exec = Jvm.exec) {x y z : Int32} (hd : decode c.code pc = .ok (.idiv, 1)) (hy : y ≠ 0) (h : EndsSo p e below Q T (mkF m (pc + 1) Ls (.int z :: st))) (q : x / y = z := by decide +kernel) : EndsSo p e below Q T (mkF m pc Ls (.int y :: .int x :: st)) := f_by (fun _ k => XS.idiv X.here hx rfl hd rfl hy (by rw [q]; exact k)) h
theorem f_irem (X : Stand p l e R s m args below meth c T locs cells slots) (hx : p.tables.exec = Jvm.exec) {x y z : Int32} (hd : decode c.code pc = .ok (.irem, 1)) (hy : y ≠ 0) (h : EndsSo p e below Q T (mkF m (pc + 1) Ls (.int z :: st))) (q : x % y = z := by decide +kernel) : EndsSo p e below Q T (mkF m pc Ls (.int y :: .int x :: st)) := f_by (fun _ k => iremM X hx rfl hd rfl hy (by rw [q]; exact k)) h
theorem f_i2l (X : Stand p l e R s m args below meth c T locs cells slots) (hx : p.tables.exec = Jvm.exec) {x : Int32} {z : Int64} (hd : decode c.code pc = .ok (.i2l, 1)) (h : EndsSo p e below Q T (mkF m (pc + 1) Ls (.long z :: st))) (q : x.toInt64 = z := by decide +kernel) : EndsSo p e below Q T (mkF m pc Ls (.int x :: st)) := f_by (fun _ k => XS.i2l X.here hx rfl hd rfl (by rw [q]; exact k)) h
theorem lC (X : Stand p l e R s m args below meth c T locs cells slots) (hx : p.tables.exec = Jvm.exec) {x y : Int64} {z : Int32} (hd : decode c.code pc = .ok (.lcmp, 1)) (h : EndsSo p e below Q T (mkF m (pc + 1) Ls (.int z :: st))) (q : lcmpW x y = z := by decide +kernel) : EndsSo p e below Q T (mkF m pc Ls (.long y :: .long x :: st)) := f_by (fun _ k => XS.lcmp X.here hx rfl hd rfl (by rw [← q] at k; exact k)) h
theorem f_dup (X : Stand p l e R s m args below meth c T locs cells slots) (hx : p.tables.exec = Jvm.exec) {v : Value} (hd : decode c.code pc = .ok (.dup, 1)) (hc : v.category = 1) (h : EndsSo p e below Q T (mkF m (pc + 1) Ls (v :: v :: st))) : EndsSo p e below Q T (mkF m pc Ls (v :: st)) := f_by (fun _ k => XS.dup X.here hx rfl hd rfl hc k) h
theorem f_pop (X : Stand p l e R s m args below meth c T locs cells slots) (hx : p.tables.exec = Jvm.exec) {v : Value} (hd : decode c.code pc = .ok (.pop, 1)) (hc : v.category = 1) (h : EndsSo p e below Q T (mkF m (pc + 1) Ls st)) : EndsSo p e below Q T (mkF m pc Ls (v :: st)) := f_by (fun _ k => XS.pop X.here hx rfl hd rfl hc k) h
theorem f_dupX1 (X : Stand p l e R s m args below meth c T locs cells slots) (hx : p.tables.exec = Jvm.exec) {v w : Value} (hd : decode c.code pc = .ok (.dup_x1, 1)) (hc : v.category = 1) (hw : w.category = 1) (h : EndsSo p e below Q T (mkF m (pc + 1) Ls (v :: w :: v :: st))) : EndsSo p e below Q T (mkF m pc Ls (v :: w :: st)) := f_by (fun _ k => XS.dupX1 X.here hx rfl hd rfl hc hw k) h
theorem f_dup2 (X : Stand p l e R s m args below meth c T locs cells slots) (hx : p.tables.exec = Jvm.exec) {v w : Value} (hd : decode c.code pc = .ok (.dup2, 1)) (hc : v.category = 1) (hw : w.category = 1) (h : EndsSo p e below Q T (mkF m (pc + 1) Ls (v :: w :: v :: w :: st))) : EndsSo p e below Q T (mkF m pc Ls (v :: w :: st)) := f_by (fun _ k => XT.dup2 X.here hx rfl hd rfl hc hw k) h
theorem f_iinc (X : Stand p l e R s m args below meth c T locs cells slots) (hx : p.tables.exec = Jvm.exec) {i : Nat} {d : Int} {x : Int32} {L' : Array Slot} (hd : decode c.code pc = .ok (.iinc i d, 3)) (hl : Ls[i]? = some (.val (.int x))) (hl' : storeLocals Ls i (.int (x + Int32.ofInt d)) = some L') (h : EndsSo p e below Q T (mkF m (pc + 3) L' st)) : EndsSo p e below Q T (mkF m pc Ls st) := f_by (fun _ k => XS.iinc X.here hx rfl hd hl hl' k) h
theorem gT (X : Stand p l e R s m args below meth c T locs cells slots) (hx : p.tables.exec = Jvm.exec) {o : Int} (pc' : Nat) (hd : decode c.code pc = .ok (.goto o, 3)) (h : EndsSo p e below Q T (mkF m pc' Ls st)) (ho : 0 ≤ (pc : Int) + o := by decide) (hp : ((pc : Int) + o).toNat = pc' := by decide) : EndsSo p e below Q T (mkF m pc Ls st) := f_by (fun _ k => XS.goto X.here hx rfl rfl hd ho hp k) h
theorem fY (X : Stand p l e R s m args below meth c T locs cells slots) (hx : p.tables.exec = Jvm.exec) {cd : ClassFile.Cond} {x : Int32} {o : Int} (pc' : Nat) (hd : decode c.code pc = .ok (.ifCond cd o, 3)) (h : EndsSo p e below Q T (mkF m pc' Ls st)) (hc : ifCond.holds cd x = true := by decide +kernel) (ho : 0 ≤ (pc : Int) + o := by decide) (hp : ((pc : Int) + o).toNat = pc' := by decide) : EndsSo p e below Q T (mkF m pc Ls (.int x :: st)) := f_by (fun _ k => XS.ifYes X.here hx rfl rfl hd rfl hc ho hp k) h
theorem fN (X : Stand p l e R s m args below meth c T locs cells slots) (hx : p.tables.exec = Jvm.exec) {cd : ClassFile.Cond} {x : Int32} {o : Int} (hd : decode c.code pc = .ok (.ifCond cd o, 3)) (h : EndsSo p e below Q T (mkF m (pc + 3) Ls st)) (hc : ifCond.holds cd x = false := by decide +kernel) : EndsSo p e below Q T (mkF m pc Ls (.int x :: st)) := f_by (fun _ k => XS.ifNo X.here hx rfl hd rfl hc k) h
theorem cY (X : Stand p l e R s m args below meth c T locs cells slots) (hx : p.tables.exec = Jvm.exec) {cd : ClassFile.Cond} {x y : Int32} {o : Int} (pc' : Nat) (hd : decode c.code pc = .ok (.if_icmp cd o, 3)) (h : EndsSo p e below Q T (mkF m pc' Ls st)) (hc : if_icmp.holds cd x y = true := by decide +kernel) (ho : 0 ≤ (pc : Int) + o := by decide) (hp : ((pc : Int) + o).toNat = pc' := by decide) : EndsSo p e below Q T (mkF m pc Ls (.int y :: .int x :: st)) := f_by (fun _ k => XS.icmpYes X.here hx rfl rfl hd rfl hc ho hp k) h
theorem cN (X : Stand p l e R s m args below meth c T locs cells slots) (hx : p.tables.exec = Jvm.exec) {cd : ClassFile.Cond} {x y : Int32} {o : Int} (hd : decode c.code pc = .ok (.if_icmp cd o, 3)) (h : EndsSo p e below Q T (mkF m (pc + 3) Ls st)) (hc : if_icmp.holds cd x y = false := by decide +kernel) : EndsSo p e below Q T (mkF m pc Ls (.int y :: .int x :: st)) := f_by (fun _ k => XS.icmpNo X.here hx rfl hd rfl hc k) h
theorem f_ifnullY (X : Stand p l e R s m args below meth c T locs cells slots) (hx : p.tables.exec = Jvm.exec) {o : Int} (pc' : Nat) (hd : decode c.code pc = .ok (.ifnull o, 3)) (h : EndsSo p e below Q T (mkF m pc' Ls st)) (ho : 0 ≤ (pc : Int) + o := by decide) (hp : ((pc : Int) + o).toNat = pc' := by decide) : EndsSo p e below Q T (mkF m pc Ls (.null :: st)) := f_by (fun _ k => XS.ifnullYes X.here hx rfl rfl hd rfl ho hp k) h
theorem f_ifnullN (X : Stand p l e R s m args below meth c T locs cells slots) (hx : p.tables.exec = Jvm.exec) {b : Addr} {o : Int} (hd : decode c.code pc = .ok (.ifnull o, 3)) (h : EndsSo p e below Q T (mkF m (pc + 3) Ls st)) : EndsSo p e below Q T (mkF m pc Ls ((.ref b) :: st)) := f_by (fun _ k => XS.ifnullNo X.here hx rfl hd rfl k) h
theorem f_ifnonnullY (X : Stand p l e R s m args below meth c T locs cells slots) (hx : p.tables.exec = Jvm.exec) {b : Addr} {o : Int} (pc' : Nat) (hd : decode c.code pc = .ok (.ifnonnull o, 3)) (h : EndsSo p e below Q T (mkF m pc' Ls st)) (ho : 0 ≤ (pc : Int) + o := by decide) (hp : ((pc : Int) + o).toNat = pc' := by decide) : EndsSo p e below Q T (mkF m pc Ls ((.ref b) :: st)) := f_by (fun _ k => XS.ifnonnullYes X.here hx rfl rfl hd rfl ho hp k) h
theorem f_ifnonnullN (X : Stand p l e R s m args below meth c T locs cells slots) (hx : p.tables.exec = Jvm.exec) {o : Int} (hd : decode c.code pc = .ok (.ifnonnull o, 3)) (h : EndsSo p e below Q T (mkF m (pc + 3) Ls st)) : EndsSo p e below Q T (mkF m pc Ls (.null :: st)) := f_by (fun _ k => XS.ifnonnullNo X.here hx rfl hd rfl k) h
theorem f_ifnonnullYv (X : Stand p l e R s m args below meth c T locs cells slots) (hx : p.tables.exec = Jvm.exec) {v : Value} {b : Addr} {o : Int} (pc' : Nat) (hv : v = .ref b) (hd : decode c.code pc = .ok (.ifnonnull o, 3)) (h : EndsSo p e below Q T (mkF m pc' Ls st)) (ho : 0 ≤ (pc : Int) + o := by decide) (hp : ((pc : Int) + o).toNat = pc' := by decide) : EndsSo p e below Q T (mkF m pc Ls (v :: st)) := by subst hv; exact f_ifnonnullY X hx pc' hd h ho hp
theorem f_ifnonnullNv (X : Stand p l e R s m args below meth c T locs cells slots) (hx : p.tables.exec = Jvm.exec) {v : Value} {o : Int} (hv : v = .null) (hd : decode c.code pc = .ok (.ifnonnull o, 3)) (h : EndsSo p e below Q T (mkF m (pc + 3) Ls st)) : EndsSo p e below Q T (mkF m pc Ls (v :: st)) := by subst hv; exact f_ifnonnullN X hx hd h
theorem f_acmp (X : Stand p l e R s m args below meth c T locs cells slots) (hx : p.tables.exec = Jvm.exec) {cd : ACond} {x y : Value} {o : Int} (pc' : Nat) (same : Bool) (h1 : x.isRef = true) (h2 : y.isRef = true) (hd : decode c.code pc = .ok (.if_acmp cd o, 3)) (hq : decide (x = y) = same) (h : EndsSo p e below Q T (mkF m pc' Ls st)) (ho : 0 ≤ (pc : Int) + o := by decide) (hp : pc' = if acV cd same = true then ((pc : Int) + o).toNat else pc + 3 := by decide) : EndsSo p e below Q T (mkF m pc Ls (y :: x :: st)) := f_by (fun _ k => acmp (g := mkF m pc Ls (y :: x :: st)) X hx rfl h1 h2 rfl hd rfl hq ho hp k) h
theorem f_tsw (X : Stand p l e R s m args below meth c T locs cells slots) (hx : p.tables.exec = Jvm.exec) {d lo hi : Int} {offs : Array Int} {len : Nat} {o : Int} {i : Int32} (pc' : Nat) (hd : decode c.code pc = .ok (.tableswitch d lo hi offs, len)) (hin : ¬ (i.toInt < lo ∨ i.toInt > hi)) (hoff : offs[(i.toInt - lo).toNat]? = some o) (h : EndsSo p e below Q T (mkF m pc' Ls st)) (ho : 0 ≤ (pc : Int) + o := by decide) (hp : ((pc : Int) + o).toNat = pc' := by decide) : EndsSo p e below Q T (mkF m pc Ls (.int i :: st)) := f_by (fun _ k => XS.tswIn X.here hx rfl rfl hd rfl hin hoff ho hp k) h
end Kit
section Kit2
variable {p : Program} {l : Launch} {e : Env} {R : Room} {s : State} {m : MethodId} {args : Array Value} {below : List Frame} {meth : Method} {c : Code} {T : State} {locs : List Loc} {cells slots : Nat} {Z : State} {a0 : Array Value} {h : Heap}
theorem own_ltE {a : Nat} {C : String} (E : Exa Z h a C) : a < h.size := E.lt
theorem own_ltV {a : Nat} {k : ClassId} {ty : FieldType} {z : Int32} {vs : List Value} {d : Value} (E : Arv Z h a k ty z vs d) : a < h.size := E.lt
theorem own_cat {v : Value} (h : v.isRef = true) : v.category = 1 := by rcases ref_cases h with rfl | ⟨a, rfl⟩ <;> rfl
theorem own_fits {v : Value} {t : FieldType} (h : v.isRef = true) : fits (.array t) v = true := by rcases ref_cases h with rfl | ⟨a, rfl⟩ <;> rfl
theorem own_sto {a y : Addr} {v : Value} (hv : v = .null ∨ v = .ref y) (H : Sto Z h a (.ref y)) : Sto Z h a v := by
  rcases hv with rfl | rfl
  · exact Or.inl rfl
  · exact H
/-- a private method of a class that can be made selects itself -/
theorem own_selp {y : MethodName} {n : Nat} (hZ : Z.Warmed39 s.vm) (wi : (Jvm.Cond.instantiable y.cls n).before a0 Z = true) (hp : s.PrivateAt y) (hi : (Jvm.Cond.instanceMethod y).before args s = true) (hy : y.cls ≠ "java/lang/invoke/MethodHandle" ∧ y.cls ≠ "java/lang/invoke/VarHandle") : (Jvm.Cond.selects y.cls y y).before args s = true := by
  obtain ⟨c1, k1, i1, i2, -, i4, -⟩ := Cond.instantiable_spec (mv (args := args) hZ wi)
  exact selects_self_of_private i1 i2 (by simpa using (Bool.or_eq_false_iff.mp i4).1) hp hi hy
/-- anewarray of an ordinary class, with the class of what is made -/
theorem own_newR (X : Stand p l e R s m args below meth c T locs cells slots) (hx : p.tables.exec = Jvm.exec) (hZ : Z.Warmed39 s.vm) {own C : String} {index : Nat} (hO : s.vm.findClass own = some m.cls) (w1 : (Jvm.Cond.classLink own index C).before a0 Z = true) (w2 : (Jvm.Cond.arrayOver (.object C)).before a0 Z = true)
    (eT : T.heap = h) {g : JFrame} (hg : g.method = m) (hd : decode c.code g.pc = .ok (.anewarray index, 3)) {n : Int32} {rest : List Value} (hs : g.stack = .int n :: rest) (hn : ¬ n < 0) {cap : Nat} (hcap : n.toNatClampNeg ≤ cap) (hb : cap * 8 ≤ 536870912) (hc : cells + 1 ≤ R.cells) (hl : slots + cap ≤ R.slots) {ad : String} (had : "[" ++ (FieldType.object C).toString = ad) :
    ∃ T' h' cA, Stand p l e R s m args below meth c T' locs (cells + 1) (slots + cap) ∧ T'.heap = h' ∧ Ext h h' ∧ Arr Z h' h.size (newA cA (.object C) n) (.object C) ∧ Exa Z h' h.size ad ∧ Ovr Z cA C ∧
      ∀ target, Steps p.tables e below (T'.setTop { g with pc := g.pc + 3, stack := .ref h.size :: rest }) target → Steps p.tables e below (T.setTop g) target := by
  obtain ⟨vm₁, cA, kA, comp, -, h1, h2, h3, h4, X', st⟩ := X.anewarrayRefK hx hO (mv hZ w1) (Cond.arrayOver_alike hZ.alike w2) hg hd hs hn (by omega) hc (by omega)
  subst eT
  rw [had, hZ.alike.findClass] at h1
  rw [hZ.alike.findClass] at h4
  obtain ⟨kZ, z1, -⟩ := Vm.findClass_spec h1
  obtain ⟨k', z2, z3⟩ := hZ.alike.2.2 _ _ z1
  cases h2.symm.trans z2
  have kk : kZ.kind = .array comp (.object C) := by rw [← h3, z3]
  have A : Arr Z ((T.setVm vm₁).pushCell { cls := cA, slots := Array.replicate n.toNatClampNeg .null, vm := .none }).heap T.heap.size (newA cA (.object C) n) (.object C) :=
    ⟨by show (T.heap.push _)[T.heap.size]? = _; simp [newA, defaultValue], ⟨by simp [newA], kZ, z1, comp, kk⟩, by simp [newA]⟩
  exact ⟨_, _, cA, X'.more (Nat.le_refl _) (by omega), rfl, ext_of fun a q => Array.getElem?_push_lt q |>.trans (Array.getElem?_eq_getElem q).symm, A, exa_arr A h1 rfl, ⟨kZ, comp, z1, kk, h4⟩, st⟩
end Kit2
def QV (val : Value) (h0 : Heap) (n0 : Nat) (v : Option Value) (h : Heap) (L : List Loc) : Prop := v = some val ∧ Fr n0 L ∧ h = h0
def QV0 (h0 : Heap) (n0 : Nat) (v : Option Value) (h : Heap) (L : List Loc) : Prop := v = none ∧ Fr n0 L ∧ h = h0
section Kit3
variable {p : Program} {l : Launch} {e : Env} {R : Room} {s : State} {m : MethodId} {args : Array Value} {below : List Frame} {meth : Method} {c : Code} {T : State} {locs : List Loc} {cells slots : Nat} {Z : State} {a0 : Array Value} {h h' : Heap} {Q : Outcome → State → Prop} {pc : Nat} {Ls : Array Slot} {st : List Value} {a b : Nat} {own C O R0 n d : String} {index : Nat} {v w : Value} {sl : Nat} {k : ClassId} {ty : FieldType} {z j : Int32} {vs : List Value} {dv : Value}
theorem fo (W : Wr h h' a sl v) (F : Fld Z h b C n d w) (q : b ≠ a := by omega) : Fld Z h' b C n d w := Fld.other W F (Or.inl q)
theorem vo (V : Arv Z h b k ty z vs dv) (W : Wr h h' a sl v) (q : b ≠ a := by omega) : Arv Z h' b k ty z vs dv := Arv.other V W q
theorem gF (X : Stand p l e R s m args below meth c T locs cells slots) (hx : p.tables.exec = Jvm.exec) (hZ : Z.Warmed39 s.vm) (hO : s.vm.findClass own = some m.cls) (w1 : (Jvm.Cond.fieldLink own index R0 n d).before a0 Z = true) (via : Via Z R0 O n d) (eT : T.heap = h) (F : Fld Z h a O n d v) (hd : decode c.code pc = .ok (.getfield index, 3))
    (k : ∀ T', Stand p l e R s m args below meth c T' locs cells slots → T'.heap = h → EndsSo p e below Q T' (mkF m (pc + 3) Ls (v :: st))) : EndsSo p e below Q T (mkF m pc Ls (.ref a :: st)) := by
  obtain ⟨T', X', e', s'⟩ := getF X hx hZ hO (host := "") (Or.inl w1) via eT F (g := mkF m pc Ls (.ref a :: st)) rfl rfl hd
  exact f_by s' (k T' X' e')
theorem f_getS (X : Stand p l e R s m args below meth c T locs cells slots) (hx : p.tables.exec = Jvm.exec) (hZ : Z.Warmed39 s.vm) (hO : s.vm.findClass own = some m.cls) (w1 : (Jvm.Cond.fieldLink own index O n d).before a0 Z = true) (eT : T.heap = h) (F : Sta Z h O n d v) (hd : decode c.code pc = .ok (.getstatic index, 3))
    (k : ∀ T', Stand p l e R s m args below meth c T' locs cells slots → T'.heap = h → EndsSo p e below Q T' (mkF m (pc + 3) Ls (v :: st))) : EndsSo p e below Q T (mkF m pc Ls st) := by
  obtain ⟨T', X', e', s'⟩ := getS X hx hZ hO (host := "") w1 Via.refl eT F (g := mkF m pc Ls st) rfl hd
  exact f_by s' (k T' X' e')
theorem f_putF (X : Stand p l e R s m args below meth c T locs cells slots) (hx : p.tables.exec = Jvm.exec) (hZ : Z.Warmed39 s.vm) (hO : s.vm.findClass own = some m.cls) (w1 : (Jvm.Cond.fieldLink own index R0 n d).before a0 Z = true) (via : Via Z R0 O n d) (eT : T.heap = h) {old : Value} {kk : Nat} (F : Fld Z h a O n d old) (E : Exa Z h a C) (L : (Jvm.Cond.lays C O n d).before a0 Z = true ∨ ((Jvm.Cond.laysFinal C O n d).before a0 Z = true ∧ own = O ∧ meth.name = "<init>")) (wi : (Jvm.Cond.instantiable C kk).before a0 Z = true)
    (hty : parseFieldDescriptor d = some ty) (hn : narrow ty v = v) (hf : fits ty v = true) (hd : decode c.code pc = .ok (.putfield index, 3))
    (k : ∀ T' h', Stand p l e R s m args below meth c T' (locs ++ [⟨a, Jvm.RoadKit.slotOf Z O n d⟩]) cells slots → T'.heap = h' → Wr h h' a (Jvm.RoadKit.slotOf Z O n d) v → EndsSo p e below Q T' (mkF m (pc + 3) Ls st)) : EndsSo p e below Q T (mkF m pc Ls (v :: .ref a :: st)) := by
  obtain ⟨T', h', X', e', W', s'⟩ := putF X hx hZ hO (host := "") (Or.inl w1) via eT F E L wi hty hn hf (g := mkF m pc Ls (v :: .ref a :: st)) rfl rfl hd
  exact f_by s' (k T' h' X' e' W')
theorem f_len (X : Stand p l e R s m args below meth c T locs cells slots) (hx : p.tables.exec = Jvm.exec) (hZ : Z.Warmed39 s.vm) (eT : T.heap = h) (V : Arv Z h a k ty z vs dv) (hd : decode c.code pc = .ok (.arraylength, 1)) (hr : EndsSo p e below Q T (mkF m (pc + 1) Ls (.int z :: st))) : EndsSo p e below Q T (mkF m pc Ls (.ref a :: st)) := by
  obtain ⟨cl, Ar, -, S, N, -, -⟩ := V
  exact f_by (fun _ q => X.arraylength hx (by rw [eT]; exact Ar.1) (State.isArrayOf_alike hZ.alike Ar.2.1) (g := mkF m pc Ls (.ref a :: st)) rfl rfl hd _ (by rw [len_of S N]; exact q)) hr
theorem f_iald (X : Stand p l e R s m args below meth c T locs cells slots) (hx : p.tables.exec = Jvm.exec) (hZ : Z.Warmed39 s.vm) (eT : T.heap = h) (V : Arv Z h a k .int z vs dv) (hv : vs.getD j.toNatClampNeg dv = v) (hd : decode c.code pc = .ok (.iaload, 1)) (hr : EndsSo p e below Q T (mkF m (pc + 1) Ls (v :: st))) (hi : ¬ j < 0 ∧ j < z := by decide) : EndsSo p e below Q T (mkF m pc Ls (.int j :: .ref a :: st)) := by
  obtain ⟨cl, Ar, -, S, -, H, -⟩ := V
  exact f_by (fun _ q => X.iaload hx (by rw [eT]; exact Ar.1) (State.isArrayOf_alike hZ.alike Ar.2.1) Ar.2.2 (inb_of S hi) (H.at (inb_of S hi) hv) (g := mkF m pc Ls (.int j :: .ref a :: st)) rfl rfl hd _ q) hr
theorem f_lald (X : Stand p l e R s m args below meth c T locs cells slots) (hx : p.tables.exec = Jvm.exec) (hZ : Z.Warmed39 s.vm) (eT : T.heap = h) (V : Arv Z h a k .long z vs dv) (hv : vs.getD j.toNatClampNeg dv = v) (hd : decode c.code pc = .ok (.laload, 1)) (hr : EndsSo p e below Q T (mkF m (pc + 1) Ls (v :: st))) (hi : ¬ j < 0 ∧ j < z := by decide) : EndsSo p e below Q T (mkF m pc Ls (.int j :: .ref a :: st)) := by
  obtain ⟨cl, Ar, -, S, -, H, -⟩ := V
  exact f_by (fun _ q => X.laload hx (by rw [eT]; exact Ar.1) (State.isArrayOf_alike hZ.alike Ar.2.1) Ar.2.2 (inb_of S hi) (H.at (inb_of S hi) hv) (g := mkF m pc Ls (.int j :: .ref a :: st)) rfl rfl hd _ q) hr
theorem f_aald (X : Stand p l e R s m args below meth c T locs cells slots) (hx : p.tables.exec = Jvm.exec) (hZ : Z.Warmed39 s.vm) (eT : T.heap = h) (V : Arv Z h a k ty z vs dv) (ht : ty.isReference = true) (hv : vs.getD j.toNatClampNeg dv = v) (hd : decode c.code pc = .ok (.aaload, 1)) (hr : EndsSo p e below Q T (mkF m (pc + 1) Ls (v :: st))) (hi : ¬ j < 0 ∧ j < z := by decide) : EndsSo p e below Q T (mkF m pc Ls (.int j :: .ref a :: st)) := by
  obtain ⟨cl, Ar, -, S, -, H, -⟩ := V
  exact f_by (fun _ q => X.aaload hx (by rw [eT]; exact Ar.1) (State.isArrayOf_alike hZ.alike Ar.2.1) ht Ar.2.2 (inb_of S hi) (H.at (inb_of S hi) hv) (g := mkF m pc Ls (.int j :: .ref a :: st)) rfl rfl hd _ q) hr
theorem f_ist (X : Stand p l e R s m args below meth c T locs cells slots) (hx : p.tables.exec = Jvm.exec) (hZ : Z.Warmed39 s.vm) (eT : T.heap = h) {x : Int32} (V : Arv Z h a k .int z vs dv) (i : Nat) (hd : decode c.code pc = .ok (.iastore, 1))
    (kk : ∀ T' h', Stand p l e R s m args below meth c T' (locs ++ [⟨a, j.toNatClampNeg⟩]) cells slots → T'.heap = h' → Wr h h' a j.toNatClampNeg (.int x) → Arv Z h' a k .int z (vs.set i (.int x)) dv → EndsSo p e below Q T' (mkF m (pc + 1) Ls st)) (hi : ¬ j < 0 ∧ j < z := by decide) (hj : j.toNatClampNeg = i := by rfl) (hl : i < vs.length := by exact Nat.le_of_ble_eq_true rfl) : EndsSo p e below Q T (mkF m pc Ls (.int x :: .int j :: .ref a :: st)) := by
  obtain ⟨cl, Ar, q, S, N, H, G⟩ := V
  obtain ⟨T', h', X', e', W', s'⟩ := stI X hx hZ eT Ar (inb_of S hi) (g := mkF m pc Ls (.int x :: .int j :: .ref a :: st)) rfl rfl hd
  exact f_by s' (kk T' h' X' e' W' (Arv.set Ar q S N H G rfl W' i hj hl))
theorem f_lst (X : Stand p l e R s m args below meth c T locs cells slots) (hx : p.tables.exec = Jvm.exec) (hZ : Z.Warmed39 s.vm) (eT : T.heap = h) {x : Int64} (V : Arv Z h a k .long z vs dv) (i : Nat) (hd : decode c.code pc = .ok (.lastore, 1))
    (kk : ∀ T' h', Stand p l e R s m args below meth c T' (locs ++ [⟨a, j.toNatClampNeg⟩]) cells slots → T'.heap = h' → Wr h h' a j.toNatClampNeg (.long x) → Arv Z h' a k .long z (vs.set i (.long x)) dv → EndsSo p e below Q T' (mkF m (pc + 1) Ls st)) (hi : ¬ j < 0 ∧ j < z := by decide) (hj : j.toNatClampNeg = i := by rfl) (hl : i < vs.length := by exact Nat.le_of_ble_eq_true rfl) : EndsSo p e below Q T (mkF m pc Ls (.long x :: .int j :: .ref a :: st)) := by
  obtain ⟨cl, Ar, q, S, N, H, G⟩ := V
  obtain ⟨T', h', X', e', W', s'⟩ := stJ X hx hZ eT Ar (inb_of S hi) (g := mkF m pc Ls (.long x :: .int j :: .ref a :: st)) rfl rfl hd
  exact f_by s' (kk T' h' X' e' W' (Arv.set Ar q S N H G rfl W' i hj hl))
theorem f_ast (X : Stand p l e R s m args below meth c T locs cells slots) (hx : p.tables.exec = Jvm.exec) (hZ : Z.Warmed39 s.vm) (eT : T.heap = h) (V : Arv Z h a k ty z vs dv) (ht : ty.isReference = true) (F : Sto Z h a v) (hf : fits ty v = true) (i : Nat) (hd : decode c.code pc = .ok (.aastore, 1))
    (kk : ∀ T' h', Stand p l e R s m args below meth c T' (locs ++ [⟨a, j.toNatClampNeg⟩]) cells slots → T'.heap = h' → Wr h h' a j.toNatClampNeg v → Arv Z h' a k ty z (vs.set i v) dv → EndsSo p e below Q T' (mkF m (pc + 1) Ls st)) (hi : ¬ j < 0 ∧ j < z := by decide) (hj : j.toNatClampNeg = i := by rfl) (hl : i < vs.length := by exact Nat.le_of_ble_eq_true rfl) : EndsSo p e below Q T (mkF m pc Ls (v :: .int j :: .ref a :: st)) := by
  obtain ⟨cl, Ar, q, S, N, H, G⟩ := V
  obtain ⟨T', h', X', e', W', s'⟩ := stR X hx hZ eT Ar (inb_of S hi) ht F (g := mkF m pc Ls (v :: .int j :: .ref a :: st)) rfl rfl hd
  exact f_by s' (kk T' h' X' e' W' (Arv.set Ar q S N H G hf W' i hj hl))
theorem f_ldc2 (X : Stand p l e R s m args below meth c T locs cells slots) (hx : p.tables.exec = Jvm.exec) (hZ : Z.Warmed39 s.vm) (hO : s.vm.findClass own = some m.cls) {x : Int64} (w1 : (Jvm.Cond.constantLong own index x).before a0 Z = true) (hd : decode c.code pc = .ok (.ldc2_w index, 3)) (hr : EndsSo p e below Q T (mkF m (pc + 3) Ls (.long x :: st))) : EndsSo p e below Q T (mkF m pc Ls st) :=
  f_by (fun _ q => X.ldc2Long hx hO (mvT hZ w1) (g := mkF m pc Ls st) rfl hd _ q) hr
theorem f_ldc (X : Stand p l e R s m args below meth c T locs cells slots) (hx : p.tables.exec = Jvm.exec) (hZ : Z.Warmed39 s.vm) (hO : s.vm.findClass own = some m.cls) {x : Int32} (w1 : (Jvm.Cond.constant own index x).before a0 Z = true) (hd : decode c.code pc = .ok (.ldc index, 2)) (hr : EndsSo p e below Q T (mkF m (pc + 2) Ls (.int x :: st))) : EndsSo p e below Q T (mkF m pc Ls st) :=
  f_by (fun _ q => X.ldcInt hx hO (mvT hZ w1) (g := mkF m pc Ls st) rfl hd _ q) hr
/-- null or the row, by a bit -/
theorem own_mrg (X : Stand p l e R s m args below meth c T locs cells slots) (hx : p.tables.exec = Jvm.exec) {t : Int32} {row : Nat} (ht : t = 0 ∨ t = 1) (d1 : decode c.code pc = .ok (.ifCond .eq 7, 3)) (d2 : decode c.code (pc + 7) = .ok (.aload 10, 2)) (d3 : decode c.code (pc + 3) = .ok (.aconst_null, 1)) (d4 : decode c.code (pc + 4) = .ok (.goto 5, 3)) (hl : Ls[10]? = some (.val (.ref row)))
    (kk : ∀ r : Value, r.isRef = true → (r = .null ∨ r = .ref row) → ((t = 0 ∧ r = .ref row) ∨ (t = 1 ∧ r = .null)) → EndsSo p e below Q T (mkF m (pc + 9) Ls (r :: st))) : EndsSo p e below Q T (mkF m pc Ls (.int t :: st)) := by
  rcases ht with rfl | rfl
  · exact fY X hx (pc + 7) d1 (aA X hx d2 hl rfl (kk _ rfl (Or.inr rfl) (Or.inl ⟨rfl, rfl⟩))) (by decide +kernel) (by omega) (by omega)
  · exact fN X hx d1 (f_null X hx d3 (gT X hx (pc + 9) d4 (kk _ rfl (Or.inl rfl) (Or.inr ⟨rfl, rfl⟩)) (by omega) (by omega)))
theorem xw (W : Wr h h' a sl v) (F : Exa Z h b C) : Exa Z h' b C := Exa.wr W F
theorem xe (E : Ext h h') (F : Exa Z h b C) : Exa Z h' b C := Exa.ext E F
theorem fe (E : Ext h h') (F : Fld Z h b C n d w) : Fld Z h' b C n d w := Fld.ext E F
theorem ve (V : Arv Z h b k ty z vs dv) (E : Ext h h') : Arv Z h' b k ty z vs dv := Arv.ext V E
theorem own_stoV {y : Nat} (V : Arv Z h a k ty z vs dv) (Ov : Ovr Z k C) (I : Ins Z h y C true) : Sto Z h a (.ref y) := by
  obtain ⟨cl, Ar, q, -⟩ := V; exact Sto.ofV Ar q Ov I
theorem own_stoVA {y : Nat} {t : FieldType} (V : Arv Z h a k ty z vs dv) (Ov : OvrA Z k t C) (I : Ins Z h y C true) : Sto Z h a (.ref y) := by
  obtain ⟨cl, Ar, q, -⟩ := V; exact Sto.ofVA Ar q Ov I
theorem f_newP (X : Stand p l e R s m args below meth c T locs cells slots) (hx : p.tables.exec = Jvm.exec) (hZ : Z.Warmed39 s.vm) {aty : ArrayType} (w1 : (Jvm.Cond.arrayClass (newarray.typeOf aty)).before a0 Z = true) (eT : T.heap = h) (hd : decode c.code pc = .ok (.newarray aty, 2)) (cap : Nat)
    (kk : ∀ T' h' kA (b : Nat), b = h.size → Stand p l e R s m args below meth c T' locs (cells + 1) (slots + cap) → T'.heap = h' → Ext h h' → Arv Z h' b kA (newarray.typeOf aty) z ([] ++ List.replicate cap (defaultValue (newarray.typeOf aty))) (defaultValue (newarray.typeOf aty)) → EndsSo p e below Q T' (mkF m (pc + 2) Ls (.ref b :: st))) (hn : ¬ z < 0 := by decide) (hcap : z.toNatClampNeg ≤ cap := by decide) (hb : cap * 8 ≤ 536870912 := by decide) (hc : cells + 1 ≤ R.cells := by decide) (hl : slots + cap ≤ R.slots := by decide) : EndsSo p e below Q T (mkF m pc Ls (.int z :: st)) := by
  obtain ⟨T', h', kA, X', e', E', A', s'⟩ := newP X hx hZ w1 eT (g := mkF m pc Ls (.int z :: st)) rfl hd rfl hn hcap hb hc hl
  exact f_by s' (kk T' h' kA _ rfl X' e' E' ((Arv.new A' hn).pad (pad_rep [] _ cap)))
theorem f_newR (X : Stand p l e R s m args below meth c T locs cells slots) (hx : p.tables.exec = Jvm.exec) (hZ : Z.Warmed39 s.vm) (hO : s.vm.findClass own = some m.cls) (w1 : (Jvm.Cond.classLink own index C).before a0 Z = true) (w2 : (Jvm.Cond.arrayOver (.object C)).before a0 Z = true) (eT : T.heap = h) (hd : decode c.code pc = .ok (.anewarray index, 3)) (cap : Nat) {ad : String} (had : "[" ++ (FieldType.object C).toString = ad)
    (kk : ∀ T' h' kA (b : Nat), b = h.size → Stand p l e R s m args below meth c T' locs (cells + 1) (slots + cap) → T'.heap = h' → Ext h h' → Arv Z h' b kA (.object C) z ([] ++ List.replicate cap .null) .null → Exa Z h' b ad → Ovr Z kA C → EndsSo p e below Q T' (mkF m (pc + 3) Ls (.ref b :: st))) (hn : ¬ z < 0 := by decide) (hcap : z.toNatClampNeg ≤ cap := by decide) (hb : cap * 8 ≤ 536870912 := by decide) (hc : cells + 1 ≤ R.cells := by decide) (hl : slots + cap ≤ R.slots := by decide) : EndsSo p e below Q T (mkF m pc Ls (.int z :: st)) := by
  obtain ⟨T', h', kA, X', e', E', A', B', O', s'⟩ := own_newR X hx hZ hO w1 w2 eT (g := mkF m pc Ls (.int z :: st)) rfl hd rfl hn hcap hb hc hl had
  exact f_by s' (kk T' h' kA _ rfl X' e' E' ((Arv.new A' hn).pad (pad_rep [] _ cap)) B' O')
theorem f_newRA (X : Stand p l e R s m args below meth c T locs cells slots) (hx : p.tables.exec = Jvm.exec) (hZ : Z.Warmed39 s.vm) (hO : s.vm.findClass own = some m.cls) (hC : (FieldType.array ty).toString = C) (w1 : (Jvm.Cond.classLink own index C).before a0 Z = true) (w2 : (Jvm.Cond.arrayOver (.array ty)).before a0 Z = true) (eT : T.heap = h) (hd : decode c.code pc = .ok (.anewarray index, 3)) (cap : Nat) {ad : String} (had : "[" ++ C = ad)
    (kk : ∀ T' h' kA (b : Nat), b = h.size → Stand p l e R s m args below meth c T' locs (cells + 1) (slots + cap) → T'.heap = h' → Ext h h' → Arv Z h' b kA (.array ty) z ([] ++ List.replicate cap .null) .null → Exa Z h' b ad → OvrA Z kA ty C → EndsSo p e below Q T' (mkF m (pc + 3) Ls (.ref b :: st))) (hn : ¬ z < 0 := by decide) (hcap : z.toNatClampNeg ≤ cap := by decide) (hb : cap * 8 ≤ 536870912 := by decide) (hc : cells + 1 ≤ R.cells := by decide) (hl : slots + cap ≤ R.slots := by decide) : EndsSo p e below Q T (mkF m pc Ls (.int z :: st)) := by
  obtain ⟨T', h', kA, X', e', E', A', B', O', s'⟩ := newRA X hx hZ hO hC w1 w2 eT (g := mkF m pc Ls (.int z :: st)) rfl hd rfl hn hcap hb hc hl had
  exact f_by s' (kk T' h' kA _ rfl X' e' E' ((Arv.new A' hn).pad (pad_rep [] _ cap)) B' O')
theorem f_newO (X : Stand p l e R s m args below meth c T locs cells slots) (hx : p.tables.exec = Jvm.exec) (hZ : Z.Warmed39 s.vm) {nn : Nat} (hO : s.vm.findClass own = some m.cls) (w1 : (Jvm.Cond.classLink own index C).before a0 Z = true) (wi : (Jvm.Cond.instantiable C nn).before a0 Z = true) (wz : (Jvm.Cond.initialized C).before a0 Z = true) (eT : T.heap = h) (hd : decode c.code pc = .ok (.new index, 3)) 
    (kk : ∀ T' h' (b : Nat), b = h.size → Stand p l e R s m args below meth c T' locs (cells + 1) (slots + nn) → T'.heap = h' → Ext h h' → Exa Z h' b C → (∀ {O nm d : String} {ty : FieldType}, Laid Z a0 C O nm d → parseFieldDescriptor d = some ty → Fld Z h' b O nm d (defaultValue ty)) → EndsSo p e below Q T' (mkF m (pc + 3) Ls (.ref b :: st))) (hc : cells + 1 ≤ R.cells := by decide) (hl : slots + nn ≤ R.slots := by decide) : EndsSo p e below Q T (mkF m pc Ls st) := by
  obtain ⟨T', h', X', e', E', A', D', -, s'⟩ := newO X hx hZ hO w1 wi wz eT (g := mkF m pc Ls st) rfl hd hc hl
  exact f_by s' (kk T' h' _ rfl X' e' E' A' D')
variable {y : MethodName} {bytes : ByteArray} {maxL : Nat} {ret : Option FieldType} {rm : Room} {W : Nat} {as' : Array Value} {QQ : Option Value → Heap → List Loc → Prop} {argsL rest : List Value}
theorem f_stat (X : Stand p l e R s m args below meth c T locs cells slots) (hx : p.tables.exec = Jvm.exec) (hZ : Z.Warmed39 s.vm) (hO : s.vm.findClass own = some m.cls) (hml : Ls.size = c.maxLocals) (w1 : (Jvm.Cond.methodLink own index y).before a0 Z = true) (w2 : (Jvm.Cond.static y).before a0 Z = true) (w3 : (Jvm.Cond.initialized y.cls).before a0 Z = true) (w4 : (Jvm.Cond.code y bytes maxL ret).before a0 Z = true) (eT : T.heap = h)
    (hM : MetFree l y (head1 [Jvm.Cond.code y bytes maxL ret] rm) (fun a U => a = argsL.toArray ∧ Z.Warmed39 U.vm ∧ U.heap = h) (fun _ _ _ _ _ => True) (fun _ U o U' => ∃ v L, o = .returned v ∧ QQ v U'.heap L ∧ FrameEnd U o U' L rm.cells rm.slots))
    (hlen : ∀ sig, parseMethodDescriptor y.desc = some sig → argsL.length = sig.parameters.length) (hd : decode c.code pc = .ok (.invokestatic index, 3))
    (kk : ∀ T' L v, Stand p l e R s m args below meth c T' (locs ++ L) (cells + rm.cells) (slots + rm.slots) → QQ v T'.heap L → EndsSo p e below Q T' (mkF m (pc + 3) Ls (v.toList ++ rest))) (hy : y.cls ≠ "java/lang/invoke/MethodHandle" ∧ y.cls ≠ "java/lang/invoke/VarHandle" := by decide) (hf : rm.frames + 1 ≤ R.frames := by decide) (hl : (rest.map fun v => v.category).sum + (maxL + 11) + rm.locals ≤ R.locals := by exact Nat.le_of_ble_eq_true rfl) (hc : cells + rm.cells ≤ R.cells := by decide) (hs : slots + rm.slots ≤ R.slots := by decide) : EndsSo p e below Q T (mkF m pc Ls (argsL.reverse ++ rest)) := by
  obtain ⟨v, _, ⟨T', L, k, n⟩, -, X', ⟨Lc, hQ, l', y', z'⟩, s'⟩ := Jvm.LawKit.callS X hx (y := y) hO (mvT hZ w1) (mvT hZ w2) (mvT hZ w3) (mvT hZ w4) hy (backOf (W := (rest.map fun v => v.category).sum) hM hZ w4 w3 hf hl) (g := mkF m pc Ls (argsL.reverse ++ rest)) rfl hml (argsL := argsL) (rest := rest) hlen rfl (by show 2 * 0 + _ ≤ _; omega) hd (fun _ _ => ⟨rfl, eT, hc, hs⟩)
  dsimp only [Pt.U, Pt.locs, Pt.cells, Pt.slots] at X' l' y' z' s' hQ
  subst l' y' z'
  exact f_by s' (kk T' Lc v X' hQ)
theorem f_spec (X : Stand p l e R s m args below meth c T locs cells slots) (hx : p.tables.exec = Jvm.exec) (hZ : Z.Warmed39 s.vm) (hO : s.vm.findClass own = some m.cls) (hml : Ls.size = c.maxLocals) (hy1 : y.name = "<init>") (w1 : (Jvm.Cond.methodLink own index y).before a0 Z = true) (w2 : (Jvm.Cond.instanceMethod y).before a0 Z = true) (w3 : (Jvm.Cond.initialized y.cls).before a0 Z = true) (w4 : (Jvm.Cond.code y bytes maxL none).before a0 Z = true) (eT : T.heap = h)
    (hM : MetFree l y (head1 [Jvm.Cond.code y bytes maxL none] rm) (fun q U => q = (.ref a :: argsL).toArray ∧ Z.Warmed39 U.vm ∧ U.heap = h) (fun _ _ _ _ _ => True) (fun _ U o U' => ∃ v L, o = .returned v ∧ QQ v U'.heap L ∧ FrameEnd U o U' L rm.cells rm.slots))
    (hlen : ∀ sig, parseMethodDescriptor y.desc = some sig → argsL.length = sig.parameters.length) (hd : decode c.code pc = .ok (.invokespecial index, 3))
    (kk : ∀ T' L v, Stand p l e R s m args below meth c T' (locs ++ L) (cells + rm.cells) (slots + rm.slots) → QQ v T'.heap L → EndsSo p e below Q T' (mkF m (pc + 3) Ls (v.toList ++ rest))) (hy : y.cls ≠ "java/lang/invoke/MethodHandle" ∧ y.cls ≠ "java/lang/invoke/VarHandle" := by decide) (hf : rm.frames + 1 ≤ R.frames := by decide) (hl : (rest.map fun v => v.category).sum + (maxL + 11) + rm.locals ≤ R.locals := by exact Nat.le_of_ble_eq_true rfl) (hc : cells + rm.cells ≤ R.cells := by decide) (hs : slots + rm.slots ≤ R.slots := by decide) : EndsSo p e below Q T (mkF m pc Ls (argsL.reverse ++ .ref a :: rest)) := by
  obtain ⟨v, _, ⟨T', L, k, n⟩, -, X', ⟨Lc, hQ, l', y', z'⟩, s'⟩ := X.specialBack hx (y := y) hy1 hO (mvT hZ w1) (mvT hZ w2) (mvT hZ w4) hy (backOf (W := (rest.map fun v => v.category).sum) hM hZ w4 w3 hf hl) (g := mkF m pc Ls (argsL.reverse ++ .ref a :: rest)) rfl hml (Steps.refl _) (a := a) (argsL := argsL) (rest := rest) hlen rfl (by show 2 * 0 + _ ≤ _; omega) hd (fun _ _ => ⟨rfl, eT, hc, hs⟩)
  dsimp only [Pt.U, Pt.locs, Pt.cells, Pt.slots] at X' l' y' z' s' hQ
  subst l' y' z'
  exact f_run s' (kk T' Lc v X' hQ)
theorem pV (X : Stand p l e R s m args below meth c T locs cells slots) (hx : p.tables.exec = Jvm.exec) (hZ : Z.Warmed39 s.vm) (hO : s.vm.findClass own = some m.cls) (hml : Ls.size = c.maxLocals) {kk0 : Nat} (w1 : (Jvm.Cond.methodLink own index y).before a0 Z = true) (w2 : (Jvm.Cond.instanceMethod y).before a0 Z = true) (wp : (Jvm.Cond.privateMethod y).before a0 Z = true) (wi : (Jvm.Cond.instantiable y.cls kk0).before a0 Z = true) (w3 : (Jvm.Cond.initialized y.cls).before a0 Z = true) (w4 : (Jvm.Cond.code y bytes maxL ret).before a0 Z = true) (eT : T.heap = h) (E : Exa Z h a C)
    (hM : MetFree l y (head1 [Jvm.Cond.code y bytes maxL ret] rm) (fun q U => q = (.ref a :: argsL).toArray ∧ Z.Warmed39 U.vm ∧ U.heap = h) (fun _ _ _ _ _ => True) (fun _ U o U' => ∃ v L, o = .returned v ∧ QQ v U'.heap L ∧ FrameEnd U o U' L rm.cells rm.slots))
    (hlen : ∀ sig, parseMethodDescriptor y.desc = some sig → argsL.length = sig.parameters.length) (hd : decode c.code pc = .ok (.invokevirtual index, 3))
    (kk : ∀ T' L v, Stand p l e R s m args below meth c T' (locs ++ L) (cells + rm.cells) (slots + rm.slots) → QQ v T'.heap L → EndsSo p e below Q T' (mkF m (pc + 3) Ls (v.toList ++ rest))) (hy : y.cls ≠ "java/lang/invoke/MethodHandle" ∧ y.cls ≠ "java/lang/invoke/VarHandle" := by decide) (hf : rm.frames + 1 ≤ R.frames := by decide) (hl : (rest.map fun v => v.category).sum + (maxL + 11) + rm.locals ≤ R.locals := by exact Nat.le_of_ble_eq_true rfl) (hc : cells + rm.cells ≤ R.cells := by decide) (hs : slots + rm.slots ≤ R.slots := by decide) : EndsSo p e below Q T (mkF m pc Ls (argsL.reverse ++ .ref a :: rest)) := by
  obtain ⟨cq, q1, q2⟩ := Exa.cell E
  have hp : s.PrivateAt y := Cond.privateMethod_at (mvP (args := args) hZ wp)
  obtain ⟨v, _, ⟨T', L, k, n⟩, -, X', ⟨Lc, hQ, l', y', z'⟩, s'⟩ := X.privateBack hx (y := y) hO (mvT hZ w1) (mvT hZ w2) (own_selp hZ wi hp (mvT hZ w2) hy) hp (mvT hZ w4) hy (backOf (W := (rest.map fun v => v.category).sum) hM hZ w4 w3 hf hl) (g := mkF m pc Ls (argsL.reverse ++ .ref a :: rest)) rfl hml (Steps.refl _) (a := a) (by rw [eT]; exact q1) q2 (argsL := argsL) (rest := rest) hlen rfl (by show 2 * 0 + _ ≤ _; omega) hd (fun _ _ => ⟨rfl, eT, hc, hs⟩)
  dsimp only [Pt.U, Pt.locs, Pt.cells, Pt.slots] at X' l' y' z' s' hQ
  subst l' y' z'
  exact f_run s' (kk T' Lc v X' hQ)
theorem vV (X : Stand p l e R s m args below meth c T locs cells slots) (hx : p.tables.exec = Jvm.exec) (hZ : Z.Warmed39 s.vm) (hO : s.vm.findClass own = some m.cls) (hml : Ls.size = c.maxLocals) (w1 : (Jvm.Cond.methodLink own index y).before a0 Z = true) (wd : (Jvm.Cond.declares y).before a0 Z = true) (ws : (Jvm.Cond.selects C y y).before a0 Z = true) (w2 : (Jvm.Cond.instanceMethod y).before a0 Z = true) (w3 : (Jvm.Cond.initialized y.cls).before a0 Z = true) (w4 : (Jvm.Cond.code y bytes maxL ret).before a0 Z = true) (eT : T.heap = h) (E : Exa Z h a C)
    (hM : MetFree l y (head1 [Jvm.Cond.code y bytes maxL ret] rm) (fun q U => q = (.ref a :: argsL).toArray ∧ Z.Warmed39 U.vm ∧ U.heap = h) (fun _ _ _ _ _ => True) (fun _ U o U' => ∃ v L, o = .returned v ∧ QQ v U'.heap L ∧ FrameEnd U o U' L rm.cells rm.slots))
    (hlen : ∀ sig, parseMethodDescriptor y.desc = some sig → argsL.length = sig.parameters.length) (hd : decode c.code pc = .ok (.invokevirtual index, 3))
    (kk : ∀ T' L v, Stand p l e R s m args below meth c T' (locs ++ L) (cells + rm.cells) (slots + rm.slots) → QQ v T'.heap L → EndsSo p e below Q T' (mkF m (pc + 3) Ls (v.toList ++ rest))) (hy : y.cls ≠ "java/lang/invoke/MethodHandle" ∧ y.cls ≠ "java/lang/invoke/VarHandle" := by decide) (hf : rm.frames + 1 ≤ R.frames := by decide) (hl : (rest.map fun v => v.category).sum + (maxL + 11) + rm.locals ≤ R.locals := by exact Nat.le_of_ble_eq_true rfl) (hc : cells + rm.cells ≤ R.cells := by decide) (hs : slots + rm.slots ≤ R.slots := by decide) : EndsSo p e below Q T (mkF m pc Ls (argsL.reverse ++ .ref a :: rest)) := by
  obtain ⟨cq, kq, qa, qb, qc⟩ := isOf hZ eT E
  obtain ⟨v, _, ⟨T', L, k, n⟩, -, X', ⟨Lc, hQ, l', y', z'⟩, s'⟩ := X.virtualBack hx (y := y) (z := y) hO (mvT hZ w1) (mvT hZ wd) (notFace_of_selects (args := #[]) (mvT hZ ws)) (mvT hZ ws) (mvT hZ w2) hy (backOf (W := (rest.map fun v => v.category).sum) hM hZ w4 w3 hf hl) qa qc (g := mkF m pc Ls (argsL.reverse ++ .ref a :: rest)) rfl hml (Steps.refl _) (argsL := argsL) (rest := rest) hlen rfl (by show 2 * 0 + _ ≤ _; omega) hd (fun _ _ => ⟨rfl, eT, hc, hs⟩)
  dsimp only [Pt.U, Pt.locs, Pt.cells, Pt.slots] at X' l' y' z' s' hQ
  subst l' y' z'
  exact f_run s' (kk T' Lc v X' hQ)
end Kit3
abbrev HW (a0 : Array Value) (Z : State) : Prop := ∀ d ∈ tables_1, d.before a0 Z = true
abbrev MC (l : Launch) (Z : State) (y : MethodName) (bytes : ByteArray) (maxL : Nat) (ret : Option FieldType) (ws : List Jvm.Cond) (rm : Room) (A : Array Value) (h0 : Heap) (QQ : Option Value → Heap → List Loc → Prop) : Prop :=
  MetFree l y (head1 (Jvm.Cond.code y bytes maxL ret :: ws) rm) (fun a U => a = A ∧ Z.Warmed39 U.vm ∧ U.heap = h0) (fun _ _ _ _ _ => True) (fun _ U o U' => ∃ v L, o = .returned v ∧ QQ v U'.heap L ∧ FrameEnd U o U' L rm.cells rm.slots)
theorem own_met {l : Launch} {Z : State} {y : MethodName} {bytes : ByteArray} {maxL : Nat} {ret : Option FieldType} {ws : List Jvm.Cond} {rm : Room} {A : Array Value} {h0 : Heap} {QQ : Option Value → Heap → List Loc → Prop} (hp : plainFor y = true)
    (H : ∀ (p : Program) (e : Env) (s : State) (m : MethodId) (below : List Frame) (meth : Method) (c : Code) (s₁ : State), Stand p l e rm s m A below meth c s₁ [] 0 0 → p.tables.exec = Jvm.exec → Z.Warmed39 s.vm → c.code = bytes → c.maxLocals = maxL → s.vm.findClass y.cls = some m.cls → meth.name = y.name → meth.locks = false → meth.sig.returnType = ret → s₁.heap = h0 →
      EndsSo p e below (fun o U' => ∃ v L, o = .returned v ∧ QQ v U'.heap L ∧ FrameEnd s o U' L rm.cells rm.slots) s₁ (entryFrame m A maxL)) : MC l Z y bytes maxL ret ws rm A h0 QQ := by
  refine MetFree.of_bodySF hp hisR ?_
  intro p e s m args below meth c s₁ Bd hml0 hP hK
  obtain ⟨rfl, hZ, hh⟩ := hP
  exact H p e s m below meth c s₁ (Stand.of_body Bd) Bd.exec hZ Bd.bytes hml0 (findClass_of_methodNamed Bd.named) (name_of_methodNamed Bd.named Bd.method).1 (BodyLoose.notSynchronized Bd) Bd.returns (by rw [← hh, Bd.state]; rfl)
abbrev cV : String := "com/example/honest_commit/honestcommit/store/Versions"
abbrev cW : String := "com/example/honest_commit/honestcommit/store/VersionsPrunablePinLaw"
abbrev fT (Z : State) (h : Heap) (a : Nat) (v : Value) : Prop := Fld Z h a cV "timestamps" "[J" v
abbrev fR (Z : State) (h : Heap) (a : Nat) (v : Value) : Prop := Fld Z h a cV "rows" "[[Ljava/lang/Object;" v
abbrev fC (Z : State) (h : Heap) (a : Nat) (v : Value) : Prop := Fld Z h a cV "columns" "[[I" v
abbrev fS (Z : State) (h : Heap) (a : Nat) (v : Value) : Prop := Fld Z h a cV "size" "I" v
abbrev fO (Z : State) (h : Heap) (a : Nat) (v : Value) : Prop := Fld Z h a cV "oldest" "I" v
abbrev oR (Z : State) (k : ClassId) : Prop := OvrA Z k (.object "java/lang/Object") "[Ljava/lang/Object;"
abbrev oC (Z : State) (k : ClassId) : Prop := OvrA Z k .int "[I"
abbrev xR (Z : State) (h : Heap) (a : Nat) : Prop := Exa Z h a "[[Ljava/lang/Object;"
abbrev xC (Z : State) (h : Heap) (a : Nat) : Prop := Exa Z h a "[[I"
abbrev xO (Z : State) (h : Heap) (a : Nat) : Prop := Exa Z h a "[Ljava/lang/Object;"
abbrev aL (Z : State) (h : Heap) (a : Nat) (k : ClassId) (n : Int32) (vs : List Value) : Prop := Arv Z h a k .long n vs (.long (0 : Int64))
abbrev aR (Z : State) (h : Heap) (a : Nat) (k : ClassId) (n : Int32) (vs : List Value) : Prop := Arv Z h a k (.array (.object "java/lang/Object")) n vs .null
abbrev aC (Z : State) (h : Heap) (a : Nat) (k : ClassId) (n : Int32) (vs : List Value) : Prop := Arv Z h a k (.array .int) n vs .null
theorem d0_0 : decode method_2_code 0 = .ok (.iload_n 0, 1) := by decide +kernel
theorem d0_1 : decode method_2_code 1 = .ok (.iload_n 1, 1) := by decide +kernel
theorem d0_2 : decode method_2_code 2 = .ok (.iushr, 1) := by decide +kernel
theorem d0_3 : decode method_2_code 3 = .ok (.iconst 1, 1) := by decide +kernel
theorem d0_4 : decode method_2_code 4 = .ok (.iand, 1) := by decide +kernel
theorem d0_5 : decode method_2_code 5 = .ok (.ifCond .eq 7, 3) := by decide +kernel
theorem d0_8 : decode method_2_code 8 = .ok (.iconst 1, 1) := by decide +kernel
theorem d0_9 : decode method_2_code 9 = .ok (.goto 4, 3) := by decide +kernel
theorem d0_12 : decode method_2_code 12 = .ok (.iconst 0, 1) := by decide +kernel
theorem d0_13 : decode method_2_code 13 = .ok (.ireturn, 1) := by decide +kernel
theorem d1_0 : decode prog_95_method_1_code 0 = .ok (.aload_n 0, 1) := by decide +kernel
theorem d1_1 : decode prog_95_method_1_code 1 = .ok (.invokespecial 3, 3) := by decide +kernel
theorem d1_4 : decode prog_95_method_1_code 4 = .ok (.aload_n 0, 1) := by decide +kernel
theorem d1_5 : decode prog_95_method_1_code 5 = .ok (.iconst 2, 1) := by decide +kernel
theorem d1_6 : decode prog_95_method_1_code 6 = .ok (.newarray .long, 2) := by decide +kernel
theorem d1_8 : decode prog_95_method_1_code 8 = .ok (.putfield 11, 3) := by decide +kernel
theorem d1_11 : decode prog_95_method_1_code 11 = .ok (.aload_n 0, 1) := by decide +kernel
theorem d1_12 : decode prog_95_method_1_code 12 = .ok (.iconst 2, 1) := by decide +kernel
theorem d1_13 : decode prog_95_method_1_code 13 = .ok (.anewarray 15, 3) := by decide +kernel
theorem d1_16 : decode prog_95_method_1_code 16 = .ok (.putfield 17, 3) := by decide +kernel
theorem d1_19 : decode prog_95_method_1_code 19 = .ok (.aload_n 0, 1) := by decide +kernel
theorem d1_20 : decode prog_95_method_1_code 20 = .ok (.iconst 2, 1) := by decide +kernel
theorem d1_21 : decode prog_95_method_1_code 21 = .ok (.anewarray 21, 3) := by decide +kernel
theorem d1_24 : decode prog_95_method_1_code 24 = .ok (.putfield 23, 3) := by decide +kernel
theorem d1_27 : decode prog_95_method_1_code 27 = .ok (.return_, 1) := by decide +kernel
theorem d3_0 : decode prog_95_method_5_code 0 = .ok (.aload_n 0, 1) := by decide +kernel
theorem d3_1 : decode prog_95_method_5_code 1 = .ok (.getfield 35, 3) := by decide +kernel
theorem d3_4 : decode prog_95_method_5_code 4 = .ok (.ifCond .ne 5, 3) := by decide +kernel
theorem d3_7 : decode prog_95_method_5_code 7 = .ok (.iconst 1, 1) := by decide +kernel
theorem d3_8 : decode prog_95_method_5_code 8 = .ok (.ireturn, 1) := by decide +kernel
theorem d3_9 : decode prog_95_method_5_code 9 = .ok (.iconst 0, 1) := by decide +kernel
theorem d3_10 : decode prog_95_method_5_code 10 = .ok (.istore_n 3, 1) := by decide +kernel
theorem d3_11 : decode prog_95_method_5_code 11 = .ok (.iload_n 3, 1) := by decide +kernel
theorem d3_12 : decode prog_95_method_5_code 12 = .ok (.iconst 1, 1) := by decide +kernel
theorem d3_13 : decode prog_95_method_5_code 13 = .ok (.iadd, 1) := by decide +kernel
theorem d3_14 : decode prog_95_method_5_code 14 = .ok (.aload_n 0, 1) := by decide +kernel
theorem d3_15 : decode prog_95_method_5_code 15 = .ok (.getfield 35, 3) := by decide +kernel
theorem d3_18 : decode prog_95_method_5_code 18 = .ok (.if_icmp .ge 26, 3) := by decide +kernel
theorem d3_21 : decode prog_95_method_5_code 21 = .ok (.aload_n 0, 1) := by decide +kernel
theorem d3_22 : decode prog_95_method_5_code 22 = .ok (.getfield 11, 3) := by decide +kernel
theorem d3_25 : decode prog_95_method_5_code 25 = .ok (.aload_n 0, 1) := by decide +kernel
theorem d3_26 : decode prog_95_method_5_code 26 = .ok (.iload_n 3, 1) := by decide +kernel
theorem d3_27 : decode prog_95_method_5_code 27 = .ok (.iconst 1, 1) := by decide +kernel
theorem d3_28 : decode prog_95_method_5_code 28 = .ok (.iadd, 1) := by decide +kernel
theorem d3_29 : decode prog_95_method_5_code 29 = .ok (.invokevirtual 31, 3) := by decide +kernel
theorem d3_32 : decode prog_95_method_5_code 32 = .ok (.laload, 1) := by decide +kernel
theorem d3_33 : decode prog_95_method_5_code 33 = .ok (.lload_n 1, 1) := by decide +kernel
theorem d3_34 : decode prog_95_method_5_code 34 = .ok (.lcmp, 1) := by decide +kernel
theorem d3_35 : decode prog_95_method_5_code 35 = .ok (.ifCond .gt 9, 3) := by decide +kernel
theorem d3_38 : decode prog_95_method_5_code 38 = .ok (.iinc 3 1, 3) := by decide +kernel
theorem d3_41 : decode prog_95_method_5_code 41 = .ok (.goto (-30), 3) := by decide +kernel
theorem d3_44 : decode prog_95_method_5_code 44 = .ok (.aload_n 0, 1) := by decide +kernel
theorem d3_45 : decode prog_95_method_5_code 45 = .ok (.iload_n 3, 1) := by decide +kernel
theorem d3_46 : decode prog_95_method_5_code 46 = .ok (.invokevirtual 31, 3) := by decide +kernel
theorem d3_49 : decode prog_95_method_5_code 49 = .ok (.istore 4, 2) := by decide +kernel
theorem d3_51 : decode prog_95_method_5_code 51 = .ok (.aload_n 0, 1) := by decide +kernel
theorem d3_52 : decode prog_95_method_5_code 52 = .ok (.getfield 11, 3) := by decide +kernel
theorem d3_55 : decode prog_95_method_5_code 55 = .ok (.iload 4, 2) := by decide +kernel
theorem d3_57 : decode prog_95_method_5_code 57 = .ok (.laload, 1) := by decide +kernel
theorem d3_58 : decode prog_95_method_5_code 58 = .ok (.lload_n 1, 1) := by decide +kernel
theorem d3_59 : decode prog_95_method_5_code 59 = .ok (.lcmp, 1) := by decide +kernel
theorem d3_60 : decode prog_95_method_5_code 60 = .ok (.ifCond .gt 16, 3) := by decide +kernel
theorem d3_63 : decode prog_95_method_5_code 63 = .ok (.aload_n 0, 1) := by decide +kernel
theorem d3_64 : decode prog_95_method_5_code 64 = .ok (.getfield 17, 3) := by decide +kernel
theorem d3_67 : decode prog_95_method_5_code 67 = .ok (.iload 4, 2) := by decide +kernel
theorem d3_69 : decode prog_95_method_5_code 69 = .ok (.aaload, 1) := by decide +kernel
theorem d3_70 : decode prog_95_method_5_code 70 = .ok (.ifnonnull 6, 3) := by decide +kernel
theorem d3_73 : decode prog_95_method_5_code 73 = .ok (.iinc 3 1, 3) := by decide +kernel
theorem d3_76 : decode prog_95_method_5_code 76 = .ok (.aload_n 0, 1) := by decide +kernel
theorem d3_77 : decode prog_95_method_5_code 77 = .ok (.iload_n 3, 1) := by decide +kernel
theorem d3_78 : decode prog_95_method_5_code 78 = .ok (.invokevirtual 47, 3) := by decide +kernel
theorem d3_81 : decode prog_95_method_5_code 81 = .ok (.aload_n 0, 1) := by decide +kernel
theorem d3_82 : decode prog_95_method_5_code 82 = .ok (.getfield 35, 3) := by decide +kernel
theorem d3_85 : decode prog_95_method_5_code 85 = .ok (.ifCond .ne 7, 3) := by decide +kernel
theorem d3_88 : decode prog_95_method_5_code 88 = .ok (.iconst 1, 1) := by decide +kernel
theorem d3_89 : decode prog_95_method_5_code 89 = .ok (.goto 4, 3) := by decide +kernel
theorem d3_92 : decode prog_95_method_5_code 92 = .ok (.iconst 0, 1) := by decide +kernel
theorem d3_93 : decode prog_95_method_5_code 93 = .ok (.ireturn, 1) := by decide +kernel
theorem d4_0 : decode prog_95_method_7_code 0 = .ok (.aload_n 0, 1) := by decide +kernel
theorem d4_1 : decode prog_95_method_7_code 1 = .ok (.getfield 35, 3) := by decide +kernel
theorem d4_4 : decode prog_95_method_7_code 4 = .ok (.iconst 1, 1) := by decide +kernel
theorem d4_5 : decode prog_95_method_7_code 5 = .ok (.if_icmp .gt 23, 3) := by decide +kernel
theorem d4_8 : decode prog_95_method_7_code 8 = .ok (.aload_n 0, 1) := by decide +kernel
theorem d4_9 : decode prog_95_method_7_code 9 = .ok (.getfield 35, 3) := by decide +kernel
theorem d4_12 : decode prog_95_method_7_code 12 = .ok (.iconst 1, 1) := by decide +kernel
theorem d4_13 : decode prog_95_method_7_code 13 = .ok (.if_icmp .ne 19, 3) := by decide +kernel
theorem d4_16 : decode prog_95_method_7_code 16 = .ok (.aload_n 0, 1) := by decide +kernel
theorem d4_17 : decode prog_95_method_7_code 17 = .ok (.getfield 17, 3) := by decide +kernel
theorem d4_20 : decode prog_95_method_7_code 20 = .ok (.aload_n 0, 1) := by decide +kernel
theorem d4_21 : decode prog_95_method_7_code 21 = .ok (.getfield 50, 3) := by decide +kernel
theorem d4_24 : decode prog_95_method_7_code 24 = .ok (.aaload, 1) := by decide +kernel
theorem d4_25 : decode prog_95_method_7_code 25 = .ok (.ifnonnull 7, 3) := by decide +kernel
theorem d4_28 : decode prog_95_method_7_code 28 = .ok (.iconst 1, 1) := by decide +kernel
theorem d4_29 : decode prog_95_method_7_code 29 = .ok (.goto 4, 3) := by decide +kernel
theorem d4_32 : decode prog_95_method_7_code 32 = .ok (.iconst 0, 1) := by decide +kernel
theorem d4_33 : decode prog_95_method_7_code 33 = .ok (.ireturn, 1) := by decide +kernel
theorem d5_0 : decode prog_95_method_3_code 0 = .ok (.aload_n 0, 1) := by decide +kernel
theorem d5_1 : decode prog_95_method_3_code 1 = .ok (.getfield 35, 3) := by decide +kernel
theorem d5_4 : decode prog_95_method_3_code 4 = .ok (.aload_n 0, 1) := by decide +kernel
theorem d5_5 : decode prog_95_method_3_code 5 = .ok (.getfield 11, 3) := by decide +kernel
theorem d5_8 : decode prog_95_method_3_code 8 = .ok (.arraylength, 1) := by decide +kernel
theorem d5_9 : decode prog_95_method_3_code 9 = .ok (.if_icmp .ne 13, 3) := by decide +kernel
theorem d5_12 : decode prog_95_method_3_code 12 = .ok (.aload_n 0, 1) := by decide +kernel
theorem d5_13 : decode prog_95_method_3_code 13 = .ok (.iconst 2, 1) := by decide +kernel
theorem d5_14 : decode prog_95_method_3_code 14 = .ok (.aload_n 0, 1) := by decide +kernel
theorem d5_15 : decode prog_95_method_3_code 15 = .ok (.getfield 35, 3) := by decide +kernel
theorem d5_18 : decode prog_95_method_3_code 18 = .ok (.imul, 1) := by decide +kernel
theorem d5_19 : decode prog_95_method_3_code 19 = .ok (.invokevirtual 39, 3) := by decide +kernel
theorem d5_22 : decode prog_95_method_3_code 22 = .ok (.aload_n 0, 1) := by decide +kernel
theorem d5_23 : decode prog_95_method_3_code 23 = .ok (.aload_n 0, 1) := by decide +kernel
theorem d5_24 : decode prog_95_method_3_code 24 = .ok (.getfield 35, 3) := by decide +kernel
theorem d5_27 : decode prog_95_method_3_code 27 = .ok (.invokevirtual 31, 3) := by decide +kernel
theorem d5_30 : decode prog_95_method_3_code 30 = .ok (.istore 5, 2) := by decide +kernel
theorem d5_32 : decode prog_95_method_3_code 32 = .ok (.aload_n 0, 1) := by decide +kernel
theorem d5_33 : decode prog_95_method_3_code 33 = .ok (.getfield 11, 3) := by decide +kernel
theorem d5_36 : decode prog_95_method_3_code 36 = .ok (.iload 5, 2) := by decide +kernel
theorem d5_38 : decode prog_95_method_3_code 38 = .ok (.lload_n 1, 1) := by decide +kernel
theorem d5_39 : decode prog_95_method_3_code 39 = .ok (.lastore, 1) := by decide +kernel
theorem d5_40 : decode prog_95_method_3_code 40 = .ok (.aload_n 0, 1) := by decide +kernel
theorem d5_41 : decode prog_95_method_3_code 41 = .ok (.getfield 17, 3) := by decide +kernel
theorem d5_44 : decode prog_95_method_3_code 44 = .ok (.iload 5, 2) := by decide +kernel
theorem d5_46 : decode prog_95_method_3_code 46 = .ok (.aload_n 3, 1) := by decide +kernel
theorem d5_47 : decode prog_95_method_3_code 47 = .ok (.aastore, 1) := by decide +kernel
theorem d5_48 : decode prog_95_method_3_code 48 = .ok (.aload_n 0, 1) := by decide +kernel
theorem d5_49 : decode prog_95_method_3_code 49 = .ok (.getfield 23, 3) := by decide +kernel
theorem d5_52 : decode prog_95_method_3_code 52 = .ok (.iload 5, 2) := by decide +kernel
theorem d5_54 : decode prog_95_method_3_code 54 = .ok (.aload 4, 2) := by decide +kernel
theorem d5_56 : decode prog_95_method_3_code 56 = .ok (.aastore, 1) := by decide +kernel
theorem d5_57 : decode prog_95_method_3_code 57 = .ok (.aload_n 0, 1) := by decide +kernel
theorem d5_58 : decode prog_95_method_3_code 58 = .ok (.dup, 1) := by decide +kernel
theorem d5_59 : decode prog_95_method_3_code 59 = .ok (.getfield 35, 3) := by decide +kernel
theorem d5_62 : decode prog_95_method_3_code 62 = .ok (.iconst 1, 1) := by decide +kernel
theorem d5_63 : decode prog_95_method_3_code 63 = .ok (.iadd, 1) := by decide +kernel
theorem d5_64 : decode prog_95_method_3_code 64 = .ok (.putfield 35, 3) := by decide +kernel
theorem d5_67 : decode prog_95_method_3_code 67 = .ok (.return_, 1) := by decide +kernel
theorem d6_0 : decode prog_95_method_11_code 0 = .ok (.aload_n 0, 1) := by decide +kernel
theorem d6_1 : decode prog_95_method_11_code 1 = .ok (.getfield 50, 3) := by decide +kernel
theorem d6_4 : decode prog_95_method_11_code 4 = .ok (.iload_n 1, 1) := by decide +kernel
theorem d6_5 : decode prog_95_method_11_code 5 = .ok (.iadd, 1) := by decide +kernel
theorem d6_6 : decode prog_95_method_11_code 6 = .ok (.aload_n 0, 1) := by decide +kernel
theorem d6_7 : decode prog_95_method_11_code 7 = .ok (.getfield 11, 3) := by decide +kernel
theorem d6_10 : decode prog_95_method_11_code 10 = .ok (.arraylength, 1) := by decide +kernel
theorem d6_11 : decode prog_95_method_11_code 11 = .ok (.iconst 1, 1) := by decide +kernel
theorem d6_12 : decode prog_95_method_11_code 12 = .ok (.isub, 1) := by decide +kernel
theorem d6_13 : decode prog_95_method_11_code 13 = .ok (.iand, 1) := by decide +kernel
theorem d6_14 : decode prog_95_method_11_code 14 = .ok (.ireturn, 1) := by decide +kernel
theorem d7_0 : decode prog_95_method_9_code 0 = .ok (.iconst 0, 1) := by decide +kernel
theorem d7_1 : decode prog_95_method_9_code 1 = .ok (.istore_n 2, 1) := by decide +kernel
theorem d7_2 : decode prog_95_method_9_code 2 = .ok (.iload_n 2, 1) := by decide +kernel
theorem d7_3 : decode prog_95_method_9_code 3 = .ok (.iload_n 1, 1) := by decide +kernel
theorem d7_4 : decode prog_95_method_9_code 4 = .ok (.if_icmp .ge 31, 3) := by decide +kernel
theorem d7_7 : decode prog_95_method_9_code 7 = .ok (.aload_n 0, 1) := by decide +kernel
theorem d7_8 : decode prog_95_method_9_code 8 = .ok (.getfield 17, 3) := by decide +kernel
theorem d7_11 : decode prog_95_method_9_code 11 = .ok (.aload_n 0, 1) := by decide +kernel
theorem d7_12 : decode prog_95_method_9_code 12 = .ok (.iload_n 2, 1) := by decide +kernel
theorem d7_13 : decode prog_95_method_9_code 13 = .ok (.invokevirtual 31, 3) := by decide +kernel
theorem d7_16 : decode prog_95_method_9_code 16 = .ok (.aconst_null, 1) := by decide +kernel
theorem d7_17 : decode prog_95_method_9_code 17 = .ok (.aastore, 1) := by decide +kernel
theorem d7_18 : decode prog_95_method_9_code 18 = .ok (.aload_n 0, 1) := by decide +kernel
theorem d7_19 : decode prog_95_method_9_code 19 = .ok (.getfield 23, 3) := by decide +kernel
theorem d7_22 : decode prog_95_method_9_code 22 = .ok (.aload_n 0, 1) := by decide +kernel
theorem d7_23 : decode prog_95_method_9_code 23 = .ok (.iload_n 2, 1) := by decide +kernel
theorem d7_24 : decode prog_95_method_9_code 24 = .ok (.invokevirtual 31, 3) := by decide +kernel
theorem d7_27 : decode prog_95_method_9_code 27 = .ok (.aconst_null, 1) := by decide +kernel
theorem d7_28 : decode prog_95_method_9_code 28 = .ok (.aastore, 1) := by decide +kernel
theorem d7_29 : decode prog_95_method_9_code 29 = .ok (.iinc 2 1, 3) := by decide +kernel
theorem d7_32 : decode prog_95_method_9_code 32 = .ok (.goto (-30), 3) := by decide +kernel
theorem d7_35 : decode prog_95_method_9_code 35 = .ok (.aload_n 0, 1) := by decide +kernel
theorem d7_36 : decode prog_95_method_9_code 36 = .ok (.aload_n 0, 1) := by decide +kernel
theorem d7_37 : decode prog_95_method_9_code 37 = .ok (.iload_n 1, 1) := by decide +kernel
theorem d7_38 : decode prog_95_method_9_code 38 = .ok (.invokevirtual 31, 3) := by decide +kernel
theorem d7_41 : decode prog_95_method_9_code 41 = .ok (.putfield 50, 3) := by decide +kernel
theorem d7_44 : decode prog_95_method_9_code 44 = .ok (.aload_n 0, 1) := by decide +kernel
theorem d7_45 : decode prog_95_method_9_code 45 = .ok (.dup, 1) := by decide +kernel
theorem d7_46 : decode prog_95_method_9_code 46 = .ok (.getfield 35, 3) := by decide +kernel
theorem d7_49 : decode prog_95_method_9_code 49 = .ok (.iload_n 1, 1) := by decide +kernel
theorem d7_50 : decode prog_95_method_9_code 50 = .ok (.isub, 1) := by decide +kernel
theorem d7_51 : decode prog_95_method_9_code 51 = .ok (.putfield 35, 3) := by decide +kernel
theorem d7_54 : decode prog_95_method_9_code 54 = .ok (.aload_n 0, 1) := by decide +kernel
theorem d7_55 : decode prog_95_method_9_code 55 = .ok (.getfield 11, 3) := by decide +kernel
theorem d7_58 : decode prog_95_method_9_code 58 = .ok (.arraylength, 1) := by decide +kernel
theorem d7_59 : decode prog_95_method_9_code 59 = .ok (.iconst 2, 1) := by decide +kernel
theorem d7_60 : decode prog_95_method_9_code 60 = .ok (.if_icmp .le 34, 3) := by decide +kernel
theorem d7_63 : decode prog_95_method_9_code 63 = .ok (.aload_n 0, 1) := by decide +kernel
theorem d7_64 : decode prog_95_method_9_code 64 = .ok (.getfield 35, 3) := by decide +kernel
theorem d7_67 : decode prog_95_method_9_code 67 = .ok (.aload_n 0, 1) := by decide +kernel
theorem d7_68 : decode prog_95_method_9_code 68 = .ok (.getfield 11, 3) := by decide +kernel
theorem d7_71 : decode prog_95_method_9_code 71 = .ok (.arraylength, 1) := by decide +kernel
theorem d7_72 : decode prog_95_method_9_code 72 = .ok (.iconst 4, 1) := by decide +kernel
theorem d7_73 : decode prog_95_method_9_code 73 = .ok (.idiv, 1) := by decide +kernel
theorem d7_74 : decode prog_95_method_9_code 74 = .ok (.if_icmp .ge 20, 3) := by decide +kernel
theorem d7_77 : decode prog_95_method_9_code 77 = .ok (.aload_n 0, 1) := by decide +kernel
theorem d7_78 : decode prog_95_method_9_code 78 = .ok (.iconst 2, 1) := by decide +kernel
theorem d7_79 : decode prog_95_method_9_code 79 = .ok (.iconst 2, 1) := by decide +kernel
theorem d7_80 : decode prog_95_method_9_code 80 = .ok (.aload_n 0, 1) := by decide +kernel
theorem d7_81 : decode prog_95_method_9_code 81 = .ok (.getfield 35, 3) := by decide +kernel
theorem d7_84 : decode prog_95_method_9_code 84 = .ok (.invokestatic 53, 3) := by decide +kernel
theorem d7_87 : decode prog_95_method_9_code 87 = .ok (.imul, 1) := by decide +kernel
theorem d7_88 : decode prog_95_method_9_code 88 = .ok (.invokestatic 58, 3) := by decide +kernel
theorem d7_91 : decode prog_95_method_9_code 91 = .ok (.invokevirtual 39, 3) := by decide +kernel
theorem d7_94 : decode prog_95_method_9_code 94 = .ok (.return_, 1) := by decide +kernel
theorem d8_0 : decode prog_95_method_10_code 0 = .ok (.iload_n 1, 1) := by decide +kernel
theorem d8_1 : decode prog_95_method_10_code 1 = .ok (.newarray .long, 2) := by decide +kernel
theorem d8_3 : decode prog_95_method_10_code 3 = .ok (.astore_n 2, 1) := by decide +kernel
theorem d8_4 : decode prog_95_method_10_code 4 = .ok (.iload_n 1, 1) := by decide +kernel
theorem d8_5 : decode prog_95_method_10_code 5 = .ok (.anewarray 15, 3) := by decide +kernel
theorem d8_8 : decode prog_95_method_10_code 8 = .ok (.astore_n 3, 1) := by decide +kernel
theorem d8_9 : decode prog_95_method_10_code 9 = .ok (.iload_n 1, 1) := by decide +kernel
theorem d8_10 : decode prog_95_method_10_code 10 = .ok (.anewarray 21, 3) := by decide +kernel
theorem d8_13 : decode prog_95_method_10_code 13 = .ok (.astore 4, 2) := by decide +kernel
theorem d8_15 : decode prog_95_method_10_code 15 = .ok (.iconst 0, 1) := by decide +kernel
theorem d8_16 : decode prog_95_method_10_code 16 = .ok (.istore 5, 2) := by decide +kernel
theorem d8_18 : decode prog_95_method_10_code 18 = .ok (.iload 5, 2) := by decide +kernel
theorem d8_20 : decode prog_95_method_10_code 20 = .ok (.aload_n 0, 1) := by decide +kernel
theorem d8_21 : decode prog_95_method_10_code 21 = .ok (.getfield 35, 3) := by decide +kernel
theorem d8_24 : decode prog_95_method_10_code 24 = .ok (.if_icmp .ge 51, 3) := by decide +kernel
theorem d8_27 : decode prog_95_method_10_code 27 = .ok (.aload_n 0, 1) := by decide +kernel
theorem d8_28 : decode prog_95_method_10_code 28 = .ok (.iload 5, 2) := by decide +kernel
theorem d8_30 : decode prog_95_method_10_code 30 = .ok (.invokevirtual 31, 3) := by decide +kernel
theorem d8_33 : decode prog_95_method_10_code 33 = .ok (.istore 6, 2) := by decide +kernel
theorem d8_35 : decode prog_95_method_10_code 35 = .ok (.aload_n 2, 1) := by decide +kernel
theorem d8_36 : decode prog_95_method_10_code 36 = .ok (.iload 5, 2) := by decide +kernel
theorem d8_38 : decode prog_95_method_10_code 38 = .ok (.aload_n 0, 1) := by decide +kernel
theorem d8_39 : decode prog_95_method_10_code 39 = .ok (.getfield 11, 3) := by decide +kernel
theorem d8_42 : decode prog_95_method_10_code 42 = .ok (.iload 6, 2) := by decide +kernel
theorem d8_44 : decode prog_95_method_10_code 44 = .ok (.laload, 1) := by decide +kernel
theorem d8_45 : decode prog_95_method_10_code 45 = .ok (.lastore, 1) := by decide +kernel
theorem d8_46 : decode prog_95_method_10_code 46 = .ok (.aload_n 3, 1) := by decide +kernel
theorem d8_47 : decode prog_95_method_10_code 47 = .ok (.iload 5, 2) := by decide +kernel
theorem d8_49 : decode prog_95_method_10_code 49 = .ok (.aload_n 0, 1) := by decide +kernel
theorem d8_50 : decode prog_95_method_10_code 50 = .ok (.getfield 17, 3) := by decide +kernel
theorem d8_53 : decode prog_95_method_10_code 53 = .ok (.iload 6, 2) := by decide +kernel
theorem d8_55 : decode prog_95_method_10_code 55 = .ok (.aaload, 1) := by decide +kernel
theorem d8_56 : decode prog_95_method_10_code 56 = .ok (.aastore, 1) := by decide +kernel
theorem d8_57 : decode prog_95_method_10_code 57 = .ok (.aload 4, 2) := by decide +kernel
theorem d8_59 : decode prog_95_method_10_code 59 = .ok (.iload 5, 2) := by decide +kernel
theorem d8_61 : decode prog_95_method_10_code 61 = .ok (.aload_n 0, 1) := by decide +kernel
theorem d8_62 : decode prog_95_method_10_code 62 = .ok (.getfield 23, 3) := by decide +kernel
theorem d8_65 : decode prog_95_method_10_code 65 = .ok (.iload 6, 2) := by decide +kernel
theorem d8_67 : decode prog_95_method_10_code 67 = .ok (.aaload, 1) := by decide +kernel
theorem d8_68 : decode prog_95_method_10_code 68 = .ok (.aastore, 1) := by decide +kernel
theorem d8_69 : decode prog_95_method_10_code 69 = .ok (.iinc 5 1, 3) := by decide +kernel
theorem d8_72 : decode prog_95_method_10_code 72 = .ok (.goto (-54), 3) := by decide +kernel
theorem d8_75 : decode prog_95_method_10_code 75 = .ok (.aload_n 0, 1) := by decide +kernel
theorem d8_76 : decode prog_95_method_10_code 76 = .ok (.aload_n 2, 1) := by decide +kernel
theorem d8_77 : decode prog_95_method_10_code 77 = .ok (.putfield 11, 3) := by decide +kernel
theorem d8_80 : decode prog_95_method_10_code 80 = .ok (.aload_n 0, 1) := by decide +kernel
theorem d8_81 : decode prog_95_method_10_code 81 = .ok (.aload_n 3, 1) := by decide +kernel
theorem d8_82 : decode prog_95_method_10_code 82 = .ok (.putfield 17, 3) := by decide +kernel
theorem d8_85 : decode prog_95_method_10_code 85 = .ok (.aload_n 0, 1) := by decide +kernel
theorem d8_86 : decode prog_95_method_10_code 86 = .ok (.aload 4, 2) := by decide +kernel
theorem d8_88 : decode prog_95_method_10_code 88 = .ok (.putfield 23, 3) := by decide +kernel
theorem d8_91 : decode prog_95_method_10_code 91 = .ok (.aload_n 0, 1) := by decide +kernel
theorem d8_92 : decode prog_95_method_10_code 92 = .ok (.iconst 0, 1) := by decide +kernel
theorem d8_93 : decode prog_95_method_10_code 93 = .ok (.putfield 50, 3) := by decide +kernel
theorem d8_96 : decode prog_95_method_10_code 96 = .ok (.return_, 1) := by decide +kernel
theorem d9_0 : decode jdk_33_method_45_code 0 = .ok (.iload_n 0, 1) := by decide +kernel
theorem d9_1 : decode jdk_33_method_45_code 1 = .ok (.ldc 127, 2) := by decide +kernel
theorem d9_3 : decode jdk_33_method_45_code 3 = .ok (.iload_n 0, 1) := by decide +kernel
theorem d9_4 : decode jdk_33_method_45_code 4 = .ok (.invokestatic 51, 3) := by decide +kernel
theorem d9_7 : decode jdk_33_method_45_code 7 = .ok (.iushr, 1) := by decide +kernel
theorem d9_8 : decode jdk_33_method_45_code 8 = .ok (.iand, 1) := by decide +kernel
theorem d9_9 : decode jdk_33_method_45_code 9 = .ok (.ireturn, 1) := by decide +kernel
theorem d10_0 : decode jdk_33_method_47_code 0 = .ok (.iload_n 0, 1) := by decide +kernel
theorem d10_1 : decode jdk_33_method_47_code 1 = .ok (.ifCond .gt 14, 3) := by decide +kernel
theorem d10_4 : decode jdk_33_method_47_code 4 = .ok (.iload_n 0, 1) := by decide +kernel
theorem d10_5 : decode jdk_33_method_47_code 5 = .ok (.ifCond .ne 8, 3) := by decide +kernel
theorem d10_8 : decode jdk_33_method_47_code 8 = .ok (.bipush 32, 2) := by decide +kernel
theorem d10_10 : decode jdk_33_method_47_code 10 = .ok (.goto 4, 3) := by decide +kernel
theorem d10_14 : decode jdk_33_method_47_code 14 = .ok (.ireturn, 1) := by decide +kernel
theorem d11_0 : decode jdk_29_method_65_code 0 = .ok (.iload_n 0, 1) := by decide +kernel
theorem d11_1 : decode jdk_29_method_65_code 1 = .ok (.iload_n 1, 1) := by decide +kernel
theorem d11_2 : decode jdk_29_method_65_code 2 = .ok (.if_icmp .lt 7, 3) := by decide +kernel
theorem d11_5 : decode jdk_29_method_65_code 5 = .ok (.iload_n 0, 1) := by decide +kernel
theorem d11_6 : decode jdk_29_method_65_code 6 = .ok (.goto 4, 3) := by decide +kernel
theorem d11_10 : decode jdk_29_method_65_code 10 = .ok (.ireturn, 1) := by decide +kernel
theorem pn0 : plainName cW = true := by first | (simp [plainName, overriddenIn]; done) | decide +kernel
theorem pn3 : plainName cV = true := by first | (simp [plainName, overriddenIn]; done) | decide +kernel
theorem pn6 : plainName cV = true := by first | (simp [plainName, overriddenIn]; done) | decide +kernel
theorem pn12 : plainName cW = true := by first | (simp [plainName, overriddenIn]; done) | decide +kernel
theorem pn5 : plainName cV = true := by first | (simp [plainName, overriddenIn]; done) | decide +kernel
theorem pn8 : plainName cV = true := by first | (simp [plainName, overriddenIn]; done) | decide +kernel
theorem pn7 : plainName cV = true := by first | (simp [plainName, overriddenIn]; done) | decide +kernel
theorem pn4 : plainName cV = true := by first | (simp [plainName, overriddenIn]; done) | decide +kernel
theorem pn1 : plainName cV = true := by first | (simp [plainName, overriddenIn]; done) | decide +kernel
theorem pn10 : plainName "java/lang/Integer" = true := by first | (simp [plainName, overriddenIn]; done) | decide +kernel
theorem pn9 : plainName "java/lang/Integer" = true := by first | (simp [plainName, overriddenIn]; done) | decide +kernel
theorem pd0 : parseMethodDescriptor "(II)Z" = some ⟨[.int, .int], some .boolean⟩ := by decide +kernel
theorem pd1 : parseMethodDescriptor "()V" = some ⟨[], none⟩ := by decide +kernel
theorem pd2 : parseMethodDescriptor "(J)Z" = some ⟨[.long], some .boolean⟩ := by decide +kernel
theorem pd3 : parseMethodDescriptor "()Z" = some ⟨[], some .boolean⟩ := by decide +kernel
theorem pd4 : parseMethodDescriptor "(I)I" = some ⟨[.int], some .int⟩ := by decide +kernel
theorem pd5 : parseMethodDescriptor "(J[Ljava/lang/Object;[I)V" = some ⟨[.long, (.array (.object "java/lang/Object")), (.array .int)], none⟩ := by decide +kernel
theorem pd6 : parseMethodDescriptor "(I)V" = some ⟨[.int], none⟩ := by decide +kernel
theorem pd7 : parseMethodDescriptor "(II)I" = some ⟨[.int, .int], some .int⟩ := by decide +kernel
abbrev y0 : MethodName := ⟨cW, "bit", "(II)Z"⟩
abbrev y1 : MethodName := ⟨cV, "<init>", "()V"⟩
abbrev y3 : MethodName := ⟨cV, "prune", "(J)Z"⟩
abbrev y4 : MethodName := ⟨cV, "prunable", "()Z"⟩
abbrev y6 : MethodName := ⟨cV, "slot", "(I)I"⟩
abbrev y5 : MethodName := ⟨cV, "add", "(J[Ljava/lang/Object;[I)V"⟩
abbrev y7 : MethodName := ⟨cV, "dropOldest", "(I)V"⟩
abbrev y8 : MethodName := ⟨cV, "resize", "(I)V"⟩
abbrev y10 : MethodName := ⟨"java/lang/Integer", "numberOfLeadingZeros", "(I)I"⟩
abbrev y9 : MethodName := ⟨"java/lang/Integer", "highestOneBit", "(I)I"⟩
abbrev y11 : MethodName := ⟨"java/lang/Math", "max", "(II)I"⟩
abbrev rm_0_0_0_0 : Room := { frames := 0, cells := 0, slots := 0, locals := 0 }
abbrev rm_1_3_6_12 : Room := { frames := 1, cells := 3, slots := 6, locals := 12 }
abbrev rm_1_0_0_13 : Room := { frames := 1, cells := 0, slots := 0, locals := 13 }
abbrev rm_1_0_0_14 : Room := { frames := 1, cells := 0, slots := 0, locals := 14 }
abbrev rm_2_0_0_28 : Room := { frames := 2, cells := 0, slots := 0, locals := 28 }
abbrev rm_1_3_12_13 : Room := { frames := 1, cells := 3, slots := 12, locals := 13 }
abbrev rm_2_3_12_31 : Room := { frames := 2, cells := 3, slots := 12, locals := 31 }
abbrev rm_1_3_24_13 : Room := { frames := 1, cells := 3, slots := 24, locals := 13 }
abbrev rm_2_3_24_31 : Room := { frames := 2, cells := 3, slots := 24, locals := 31 }
abbrev rm_1_0_0_15 : Room := { frames := 1, cells := 0, slots := 0, locals := 15 }
abbrev rm_0_3_6_0 : Room := { frames := 0, cells := 3, slots := 6, locals := 0 }
abbrev rm_2_3_6_30 : Room := { frames := 2, cells := 3, slots := 6, locals := 30 }
abbrev rm_3_3_6_44 : Room := { frames := 3, cells := 3, slots := 6, locals := 44 }
theorem w0 {Z : State} {a0 : Array Value} (hw : HW a0 Z) : (Jvm.Cond.methodLink cW (7 : Nat) ({ cls := cW, name := "bit", desc := "(II)Z" } : Jvm.MethodName)).before a0 Z = true := hw _ (List.mem_of_getElem? (i := 0) rfl)
theorem w1 {Z : State} {a0 : Array Value} (hw : HW a0 Z) : (Jvm.Cond.static ({ cls := cW, name := "bit", desc := "(II)Z" } : Jvm.MethodName)).before a0 Z = true := hw _ (List.mem_of_getElem? (i := 1) rfl)
theorem w2 {Z : State} {a0 : Array Value} (hw : HW a0 Z) : (Jvm.Cond.initialized cW).before a0 Z = true := hw _ (List.mem_of_getElem? (i := 2) rfl)
theorem w3 {Z : State} {a0 : Array Value} (hw : HW a0 Z) : (Jvm.Cond.code ({ cls := cW, name := "bit", desc := "(II)Z" } : Jvm.MethodName) method_2_code (2 : Nat) (Option.some Jvm.ClassFile.FieldType.boolean)).before a0 Z = true := hw _ (List.mem_of_getElem? (i := 3) rfl)
theorem w4 {Z : State} {a0 : Array Value} (hw : HW a0 Z) : (Jvm.Cond.classLink cW (2 : Nat) "java/lang/Object").before a0 Z = true := hw _ (List.mem_of_getElem? (i := 4) rfl)
theorem w5 {Z : State} {a0 : Array Value} (hw : HW a0 Z) : (Jvm.Cond.arrayOver (Jvm.ClassFile.FieldType.object "java/lang/Object")).before a0 Z = true := hw _ (List.mem_of_getElem? (i := 5) rfl)
theorem w6 {Z : State} {a0 : Array Value} (hw : HW a0 Z) : (Jvm.Cond.classLink cW (13 : Nat) cV).before a0 Z = true := hw _ (List.mem_of_getElem? (i := 6) rfl)
theorem w7 {Z : State} {a0 : Array Value} (hw : HW a0 Z) : (Jvm.Cond.instantiable cV (6 : Nat)).before a0 Z = true := hw _ (List.mem_of_getElem? (i := 7) rfl)
theorem w8 {Z : State} {a0 : Array Value} (hw : HW a0 Z) : (Jvm.Cond.initialized cV).before a0 Z = true := hw _ (List.mem_of_getElem? (i := 8) rfl)
theorem w9 {Z : State} {a0 : Array Value} (hw : HW a0 Z) : (Jvm.Cond.methodLink cW (15 : Nat) ({ cls := cV, name := "<init>", desc := "()V" } : Jvm.MethodName)).before a0 Z = true := hw _ (List.mem_of_getElem? (i := 9) rfl)
theorem w10 {Z : State} {a0 : Array Value} (hw : HW a0 Z) : (Jvm.Cond.instanceMethod ({ cls := cV, name := "<init>", desc := "()V" } : Jvm.MethodName)).before a0 Z = true := hw _ (List.mem_of_getElem? (i := 10) rfl)
theorem w11 {Z : State} {a0 : Array Value} (hw : HW a0 Z) : (Jvm.Cond.code ({ cls := cV, name := "<init>", desc := "()V" } : Jvm.MethodName) prog_95_method_1_code (1 : Nat) (Option.none : Option Jvm.ClassFile.FieldType)).before a0 Z = true := hw _ (List.mem_of_getElem? (i := 11) rfl)
theorem w12 {Z : State} {a0 : Array Value} (hw : HW a0 Z) : (Jvm.Cond.methodLink cV (3 : Nat) ({ cls := "java/lang/Object", name := "<init>", desc := "()V" } : Jvm.MethodName)).before a0 Z = true := hw _ (List.mem_of_getElem? (i := 12) rfl)
theorem w13 {Z : State} {a0 : Array Value} (hw : HW a0 Z) : (Jvm.Cond.instanceMethod ({ cls := "java/lang/Object", name := "<init>", desc := "()V" } : Jvm.MethodName)).before a0 Z = true := hw _ (List.mem_of_getElem? (i := 13) rfl)
theorem w14 {Z : State} {a0 : Array Value} (hw : HW a0 Z) : (Jvm.Cond.code ({ cls := "java/lang/Object", name := "<init>", desc := "()V" } : Jvm.MethodName) object_method_1_code (1 : Nat) (Option.none : Option Jvm.ClassFile.FieldType)).before a0 Z = true := hw _ (List.mem_of_getElem? (i := 14) rfl)
theorem w15 {Z : State} {a0 : Array Value} (hw : HW a0 Z) : (Jvm.Cond.arrayClass Jvm.ClassFile.FieldType.long).before a0 Z = true := hw _ (List.mem_of_getElem? (i := 15) rfl)
theorem w16 {Z : State} {a0 : Array Value} (hw : HW a0 Z) : (Jvm.Cond.fieldLink cV (11 : Nat) cV "timestamps" "[J").before a0 Z = true := hw _ (List.mem_of_getElem? (i := 16) rfl)
theorem w17 {Z : State} {a0 : Array Value} (hw : HW a0 Z) : (Jvm.Cond.lays cV cV "timestamps" "[J").before a0 Z = true := hw _ (List.mem_of_getElem? (i := 17) rfl)
theorem w18 {Z : State} {a0 : Array Value} (hw : HW a0 Z) : (Jvm.Cond.classLink cV (15 : Nat) "[Ljava/lang/Object;").before a0 Z = true := hw _ (List.mem_of_getElem? (i := 18) rfl)
theorem w19 {Z : State} {a0 : Array Value} (hw : HW a0 Z) : (Jvm.Cond.arrayOver (Jvm.ClassFile.FieldType.array (Jvm.ClassFile.FieldType.object "java/lang/Object"))).before a0 Z = true := hw _ (List.mem_of_getElem? (i := 19) rfl)
theorem w20 {Z : State} {a0 : Array Value} (hw : HW a0 Z) : (Jvm.Cond.fieldLink cV (17 : Nat) cV "rows" "[[Ljava/lang/Object;").before a0 Z = true := hw _ (List.mem_of_getElem? (i := 20) rfl)
theorem w21 {Z : State} {a0 : Array Value} (hw : HW a0 Z) : (Jvm.Cond.lays cV cV "rows" "[[Ljava/lang/Object;").before a0 Z = true := hw _ (List.mem_of_getElem? (i := 21) rfl)
theorem w22 {Z : State} {a0 : Array Value} (hw : HW a0 Z) : (Jvm.Cond.classLink cV (21 : Nat) "[I").before a0 Z = true := hw _ (List.mem_of_getElem? (i := 22) rfl)
theorem w23 {Z : State} {a0 : Array Value} (hw : HW a0 Z) : (Jvm.Cond.arrayOver (Jvm.ClassFile.FieldType.array Jvm.ClassFile.FieldType.int)).before a0 Z = true := hw _ (List.mem_of_getElem? (i := 23) rfl)
theorem w24 {Z : State} {a0 : Array Value} (hw : HW a0 Z) : (Jvm.Cond.fieldLink cV (23 : Nat) cV "columns" "[[I").before a0 Z = true := hw _ (List.mem_of_getElem? (i := 24) rfl)
theorem w25 {Z : State} {a0 : Array Value} (hw : HW a0 Z) : (Jvm.Cond.lays cV cV "columns" "[[I").before a0 Z = true := hw _ (List.mem_of_getElem? (i := 25) rfl)
theorem w26 {Z : State} {a0 : Array Value} (hw : HW a0 Z) : (Jvm.Cond.methodLink cW (26 : Nat) ({ cls := cV, name := "prune", desc := "(J)Z" } : Jvm.MethodName)).before a0 Z = true := hw _ (List.mem_of_getElem? (i := 26) rfl)
theorem w27 {Z : State} {a0 : Array Value} (hw : HW a0 Z) : (Jvm.Cond.declares ({ cls := cV, name := "prune", desc := "(J)Z" } : Jvm.MethodName)).before a0 Z = true := hw _ (List.mem_of_getElem? (i := 27) rfl)
theorem w28 {Z : State} {a0 : Array Value} (hw : HW a0 Z) : (Jvm.Cond.instanceMethod ({ cls := cV, name := "prune", desc := "(J)Z" } : Jvm.MethodName)).before a0 Z = true := hw _ (List.mem_of_getElem? (i := 28) rfl)
theorem w29 {Z : State} {a0 : Array Value} (hw : HW a0 Z) : (Jvm.Cond.selects cV ({ cls := cV, name := "prune", desc := "(J)Z" } : Jvm.MethodName) ({ cls := cV, name := "prune", desc := "(J)Z" } : Jvm.MethodName)).before a0 Z = true := hw _ (List.mem_of_getElem? (i := 29) rfl)
theorem w30 {Z : State} {a0 : Array Value} (hw : HW a0 Z) : (Jvm.Cond.code ({ cls := cV, name := "prune", desc := "(J)Z" } : Jvm.MethodName) prog_95_method_5_code (5 : Nat) (Option.some Jvm.ClassFile.FieldType.boolean)).before a0 Z = true := hw _ (List.mem_of_getElem? (i := 30) rfl)
theorem w31 {Z : State} {a0 : Array Value} (hw : HW a0 Z) : (Jvm.Cond.fieldLink cV (35 : Nat) cV "size" "I").before a0 Z = true := hw _ (List.mem_of_getElem? (i := 31) rfl)
theorem w32 {Z : State} {a0 : Array Value} (hw : HW a0 Z) : (Jvm.Cond.lays cV cV "size" "I").before a0 Z = true := hw _ (List.mem_of_getElem? (i := 32) rfl)
theorem w33 {Z : State} {a0 : Array Value} (hw : HW a0 Z) : (Jvm.Cond.methodLink cW (34 : Nat) ({ cls := cV, name := "prunable", desc := "()Z" } : Jvm.MethodName)).before a0 Z = true := hw _ (List.mem_of_getElem? (i := 33) rfl)
theorem w34 {Z : State} {a0 : Array Value} (hw : HW a0 Z) : (Jvm.Cond.declares ({ cls := cV, name := "prunable", desc := "()Z" } : Jvm.MethodName)).before a0 Z = true := hw _ (List.mem_of_getElem? (i := 34) rfl)
theorem w35 {Z : State} {a0 : Array Value} (hw : HW a0 Z) : (Jvm.Cond.instanceMethod ({ cls := cV, name := "prunable", desc := "()Z" } : Jvm.MethodName)).before a0 Z = true := hw _ (List.mem_of_getElem? (i := 35) rfl)
theorem w36 {Z : State} {a0 : Array Value} (hw : HW a0 Z) : (Jvm.Cond.selects cV ({ cls := cV, name := "prunable", desc := "()Z" } : Jvm.MethodName) ({ cls := cV, name := "prunable", desc := "()Z" } : Jvm.MethodName)).before a0 Z = true := hw _ (List.mem_of_getElem? (i := 36) rfl)
theorem w37 {Z : State} {a0 : Array Value} (hw : HW a0 Z) : (Jvm.Cond.code ({ cls := cV, name := "prunable", desc := "()Z" } : Jvm.MethodName) prog_95_method_7_code (1 : Nat) (Option.some Jvm.ClassFile.FieldType.boolean)).before a0 Z = true := hw _ (List.mem_of_getElem? (i := 37) rfl)
theorem w38 {Z : State} {a0 : Array Value} (hw : HW a0 Z) : (Jvm.Cond.constantLong cW (16 : Nat) (10 : Int64)).before a0 Z = true := hw _ (List.mem_of_getElem? (i := 38) rfl)
theorem w39 {Z : State} {a0 : Array Value} (hw : HW a0 Z) : (Jvm.Cond.methodLink cW (18 : Nat) ({ cls := cV, name := "add", desc := "(J[Ljava/lang/Object;[I)V" } : Jvm.MethodName)).before a0 Z = true := hw _ (List.mem_of_getElem? (i := 39) rfl)
theorem w40 {Z : State} {a0 : Array Value} (hw : HW a0 Z) : (Jvm.Cond.declares ({ cls := cV, name := "add", desc := "(J[Ljava/lang/Object;[I)V" } : Jvm.MethodName)).before a0 Z = true := hw _ (List.mem_of_getElem? (i := 40) rfl)
theorem w41 {Z : State} {a0 : Array Value} (hw : HW a0 Z) : (Jvm.Cond.instanceMethod ({ cls := cV, name := "add", desc := "(J[Ljava/lang/Object;[I)V" } : Jvm.MethodName)).before a0 Z = true := hw _ (List.mem_of_getElem? (i := 41) rfl)
theorem w42 {Z : State} {a0 : Array Value} (hw : HW a0 Z) : (Jvm.Cond.selects cV ({ cls := cV, name := "add", desc := "(J[Ljava/lang/Object;[I)V" } : Jvm.MethodName) ({ cls := cV, name := "add", desc := "(J[Ljava/lang/Object;[I)V" } : Jvm.MethodName)).before a0 Z = true := hw _ (List.mem_of_getElem? (i := 42) rfl)
theorem w43 {Z : State} {a0 : Array Value} (hw : HW a0 Z) : (Jvm.Cond.code ({ cls := cV, name := "add", desc := "(J[Ljava/lang/Object;[I)V" } : Jvm.MethodName) prog_95_method_3_code (6 : Nat) (Option.none : Option Jvm.ClassFile.FieldType)).before a0 Z = true := hw _ (List.mem_of_getElem? (i := 43) rfl)
theorem w44 {Z : State} {a0 : Array Value} (hw : HW a0 Z) : (Jvm.Cond.methodLink cV (31 : Nat) ({ cls := cV, name := "slot", desc := "(I)I" } : Jvm.MethodName)).before a0 Z = true := hw _ (List.mem_of_getElem? (i := 44) rfl)
theorem w45 {Z : State} {a0 : Array Value} (hw : HW a0 Z) : (Jvm.Cond.instanceMethod ({ cls := cV, name := "slot", desc := "(I)I" } : Jvm.MethodName)).before a0 Z = true := hw _ (List.mem_of_getElem? (i := 45) rfl)
theorem w46 {Z : State} {a0 : Array Value} (hw : HW a0 Z) : (Jvm.Cond.privateMethod ({ cls := cV, name := "slot", desc := "(I)I" } : Jvm.MethodName)).before a0 Z = true := hw _ (List.mem_of_getElem? (i := 46) rfl)
theorem w47 {Z : State} {a0 : Array Value} (hw : HW a0 Z) : (Jvm.Cond.code ({ cls := cV, name := "slot", desc := "(I)I" } : Jvm.MethodName) prog_95_method_11_code (2 : Nat) (Option.some Jvm.ClassFile.FieldType.int)).before a0 Z = true := hw _ (List.mem_of_getElem? (i := 47) rfl)
theorem w48 {Z : State} {a0 : Array Value} (hw : HW a0 Z) : (Jvm.Cond.fieldLink cV (50 : Nat) cV "oldest" "I").before a0 Z = true := hw _ (List.mem_of_getElem? (i := 48) rfl)
theorem w49 {Z : State} {a0 : Array Value} (hw : HW a0 Z) : (Jvm.Cond.lays cV cV "oldest" "I").before a0 Z = true := hw _ (List.mem_of_getElem? (i := 49) rfl)
theorem w51 {Z : State} {a0 : Array Value} (hw : HW a0 Z) : (Jvm.Cond.constantLong cW (22 : Nat) (20 : Int64)).before a0 Z = true := hw _ (List.mem_of_getElem? (i := 51) rfl)
theorem w52 {Z : State} {a0 : Array Value} (hw : HW a0 Z) : (Jvm.Cond.methodLink cV (47 : Nat) ({ cls := cV, name := "dropOldest", desc := "(I)V" } : Jvm.MethodName)).before a0 Z = true := hw _ (List.mem_of_getElem? (i := 52) rfl)
theorem w53 {Z : State} {a0 : Array Value} (hw : HW a0 Z) : (Jvm.Cond.instanceMethod ({ cls := cV, name := "dropOldest", desc := "(I)V" } : Jvm.MethodName)).before a0 Z = true := hw _ (List.mem_of_getElem? (i := 53) rfl)
theorem w54 {Z : State} {a0 : Array Value} (hw : HW a0 Z) : (Jvm.Cond.privateMethod ({ cls := cV, name := "dropOldest", desc := "(I)V" } : Jvm.MethodName)).before a0 Z = true := hw _ (List.mem_of_getElem? (i := 54) rfl)
theorem w55 {Z : State} {a0 : Array Value} (hw : HW a0 Z) : (Jvm.Cond.code ({ cls := cV, name := "dropOldest", desc := "(I)V" } : Jvm.MethodName) prog_95_method_9_code (3 : Nat) (Option.none : Option Jvm.ClassFile.FieldType)).before a0 Z = true := hw _ (List.mem_of_getElem? (i := 55) rfl)
theorem w56 {Z : State} {a0 : Array Value} (hw : HW a0 Z) : (Jvm.Cond.constantLong cW (30 : Nat) (40 : Int64)).before a0 Z = true := hw _ (List.mem_of_getElem? (i := 56) rfl)
theorem w57 {Z : State} {a0 : Array Value} (hw : HW a0 Z) : (Jvm.Cond.constantLong cW (24 : Nat) (30 : Int64)).before a0 Z = true := hw _ (List.mem_of_getElem? (i := 57) rfl)
theorem w58 {Z : State} {a0 : Array Value} (hw : HW a0 Z) : (Jvm.Cond.methodLink cV (39 : Nat) ({ cls := cV, name := "resize", desc := "(I)V" } : Jvm.MethodName)).before a0 Z = true := hw _ (List.mem_of_getElem? (i := 58) rfl)
theorem w59 {Z : State} {a0 : Array Value} (hw : HW a0 Z) : (Jvm.Cond.instanceMethod ({ cls := cV, name := "resize", desc := "(I)V" } : Jvm.MethodName)).before a0 Z = true := hw _ (List.mem_of_getElem? (i := 59) rfl)
theorem w60 {Z : State} {a0 : Array Value} (hw : HW a0 Z) : (Jvm.Cond.privateMethod ({ cls := cV, name := "resize", desc := "(I)V" } : Jvm.MethodName)).before a0 Z = true := hw _ (List.mem_of_getElem? (i := 60) rfl)
theorem w61 {Z : State} {a0 : Array Value} (hw : HW a0 Z) : (Jvm.Cond.code ({ cls := cV, name := "resize", desc := "(I)V" } : Jvm.MethodName) prog_95_method_10_code (7 : Nat) (Option.none : Option Jvm.ClassFile.FieldType)).before a0 Z = true := hw _ (List.mem_of_getElem? (i := 61) rfl)
theorem w62 {Z : State} {a0 : Array Value} (hw : HW a0 Z) : (Jvm.Cond.constantLong cW (32 : Nat) (50 : Int64)).before a0 Z = true := hw _ (List.mem_of_getElem? (i := 62) rfl)
theorem w63 {Z : State} {a0 : Array Value} (hw : HW a0 Z) : (Jvm.Cond.methodLink cV (53 : Nat) ({ cls := "java/lang/Integer", name := "highestOneBit", desc := "(I)I" } : Jvm.MethodName)).before a0 Z = true := hw _ (List.mem_of_getElem? (i := 63) rfl)
theorem w64 {Z : State} {a0 : Array Value} (hw : HW a0 Z) : (Jvm.Cond.static ({ cls := "java/lang/Integer", name := "highestOneBit", desc := "(I)I" } : Jvm.MethodName)).before a0 Z = true := hw _ (List.mem_of_getElem? (i := 64) rfl)
theorem w65 {Z : State} {a0 : Array Value} (hw : HW a0 Z) : (Jvm.Cond.initialized "java/lang/Integer").before a0 Z = true := hw _ (List.mem_of_getElem? (i := 65) rfl)
theorem w66 {Z : State} {a0 : Array Value} (hw : HW a0 Z) : (Jvm.Cond.code ({ cls := "java/lang/Integer", name := "highestOneBit", desc := "(I)I" } : Jvm.MethodName) jdk_33_method_45_code (1 : Nat) (Option.some Jvm.ClassFile.FieldType.int)).before a0 Z = true := hw _ (List.mem_of_getElem? (i := 66) rfl)
theorem w67 {Z : State} {a0 : Array Value} (hw : HW a0 Z) : (Jvm.Cond.constant "java/lang/Integer" (127 : Nat) (-2147483648 : Int32)).before a0 Z = true := hw _ (List.mem_of_getElem? (i := 67) rfl)
theorem w68 {Z : State} {a0 : Array Value} (hw : HW a0 Z) : (Jvm.Cond.methodLink "java/lang/Integer" (51 : Nat) ({ cls := "java/lang/Integer", name := "numberOfLeadingZeros", desc := "(I)I" } : Jvm.MethodName)).before a0 Z = true := hw _ (List.mem_of_getElem? (i := 68) rfl)
theorem w69 {Z : State} {a0 : Array Value} (hw : HW a0 Z) : (Jvm.Cond.static ({ cls := "java/lang/Integer", name := "numberOfLeadingZeros", desc := "(I)I" } : Jvm.MethodName)).before a0 Z = true := hw _ (List.mem_of_getElem? (i := 69) rfl)
theorem w70 {Z : State} {a0 : Array Value} (hw : HW a0 Z) : (Jvm.Cond.code ({ cls := "java/lang/Integer", name := "numberOfLeadingZeros", desc := "(I)I" } : Jvm.MethodName) jdk_33_method_47_code (2 : Nat) (Option.some Jvm.ClassFile.FieldType.int)).before a0 Z = true := hw _ (List.mem_of_getElem? (i := 70) rfl)
theorem w71 {Z : State} {a0 : Array Value} (hw : HW a0 Z) : (Jvm.Cond.methodLink cV (58 : Nat) ({ cls := "java/lang/Math", name := "max", desc := "(II)I" } : Jvm.MethodName)).before a0 Z = true := hw _ (List.mem_of_getElem? (i := 71) rfl)
theorem w72 {Z : State} {a0 : Array Value} (hw : HW a0 Z) : (Jvm.Cond.static ({ cls := "java/lang/Math", name := "max", desc := "(II)I" } : Jvm.MethodName)).before a0 Z = true := hw _ (List.mem_of_getElem? (i := 72) rfl)
theorem w73 {Z : State} {a0 : Array Value} (hw : HW a0 Z) : (Jvm.Cond.initialized "java/lang/Math").before a0 Z = true := hw _ (List.mem_of_getElem? (i := 73) rfl)
theorem w74 {Z : State} {a0 : Array Value} (hw : HW a0 Z) : (Jvm.Cond.code ({ cls := "java/lang/Math", name := "max", desc := "(II)I" } : Jvm.MethodName) jdk_29_method_65_code (2 : Nat) (Option.some Jvm.ClassFile.FieldType.int)).before a0 Z = true := hw _ (List.mem_of_getElem? (i := 74) rfl)
abbrev FL (p0 : Int32) (p1 : Int64) (a b t0 t1 t2 t3 t4 : Int32) (r v : Nat) (s12 s13 s14 s15 s16 s17 : Slot) : Array Slot := #[iv p0, .val (.long p1), .second, iv a, iv b, iv t0, iv t1, iv t2, iv t3, iv t4, rv r, rv v, s12, s13, s14, s15, s16, s17]
def SG (p : Program) (s : State) (m : MethodId) (meth : Method) (c : Code) (Z : State) (a0 : Array Value) : Prop := p.tables.exec = Jvm.exec ∧ Z.Warmed39 s.vm ∧ HW a0 Z ∧ c.code = code ∧ c.maxLocals = 18 ∧ s.vm.findClass cW = some m.cls ∧ meth.locks = false ∧ meth.sig.returnType = some .boolean
def QB (h0 : Heap) (n0 : Nat) (v : Option Value) (h : Heap) (L : List Loc) : Prop := ∃ b : Int32, v = some (.int b) ∧ (b = (0 : Int32) ∨ b = (1 : Int32)) ∧ Fr n0 L ∧ h = h0
def QL (n0 : Nat) (v : Option Value) (h : Heap) (L : List Loc) : Prop := v = some (.int (1 : Int32)) ∧ Fr n0 L
abbrev LQ (s : State) (n0 : Nat) : Outcome → State → Prop := fun o U' => ∃ v L, o = .returned v ∧ QL n0 v U'.heap L ∧ FrameEnd s o U' L room_1.cells room_1.slots
theorem own_eqT {x : Int32} (h : x = (0 : Int32)) : ifCond.holds .eq x = true := (if0 _ _).trans (teq h).1
theorem own_eqF {x : Int32} (h : ¬ x = (0 : Int32)) : ifCond.holds .eq x = false := (if0 _ _).trans (feq h).1
theorem own_eq1 {x : Int32} (h : x = (1 : Int32)) : ifCond.holds .eq x = false := own_eqF (by rw [h]; decide)
theorem own_gtT {x y : Int64} (h : x < y) : ifCond.holds .gt (lcmpW y x) = true := (if0 _ _).trans (tlt (by rw [lcW]; exact (lc_gt _ _).mpr h)).2.2.1
theorem own_gtF {x y : Int64} (h : ¬ x < y) : ifCond.holds .gt (lcmpW y x) = false := (if0 _ _).trans (flt (fun q => h (by rw [lcW] at q; exact (lc_gt _ _).mp q))).2.2.1
theorem own_ltT {x y : Int64} (h : x < y) : ifCond.holds .lt (lcmpW x y) = true := (if0 _ _).trans (tlt (by rw [lcW]; exact (lc_lt _ _).mpr h)).1
theorem own_ltF {x y : Int64} (h : ¬ x < y) : ifCond.holds .lt (lcmpW x y) = false := (if0 _ _).trans (flt (fun q => h (by rw [lcW] at q; exact (lc_lt _ _).mp q))).1
theorem own_reg1 (p1 : Int64) : p1 < (10 : Int64) ∨ ¬ p1 < (10 : Int64) := Decidable.em _
theorem own_reg2 (p1 : Int64) : (p1 < (10 : Int64) ∧ p1 < (20 : Int64)) ∨ (¬ p1 < (10 : Int64) ∧ p1 < (20 : Int64)) ∨ (¬ p1 < (10 : Int64) ∧ ¬ p1 < (20 : Int64)) := by
  have e1 : (10 : Int64).toInt = 10 := by decide +kernel
  have e2 : (20 : Int64).toInt = 20 := by decide +kernel
  simp only [Int64.lt_iff_toInt_lt, e1, e2]; omega
theorem own_reg3 (p1 : Int64) : (p1 < (10 : Int64) ∧ p1 < (20 : Int64) ∧ p1 < (30 : Int64)) ∨ (¬ p1 < (10 : Int64) ∧ p1 < (20 : Int64) ∧ p1 < (30 : Int64)) ∨ (¬ p1 < (10 : Int64) ∧ ¬ p1 < (20 : Int64) ∧ p1 < (30 : Int64)) ∨ (¬ p1 < (10 : Int64) ∧ ¬ p1 < (20 : Int64) ∧ ¬ p1 < (30 : Int64)) := by
  have e1 : (10 : Int64).toInt = 10 := by decide +kernel
  have e2 : (20 : Int64).toInt = 20 := by decide +kernel
  have e3 : (30 : Int64).toInt = 30 := by decide +kernel
  simp only [Int64.lt_iff_toInt_lt, e1, e2, e3]; omega

set_option maxRecDepth 65536
set_option maxHeartbeats 40000000
theorem own_bit (l : Launch) (Z : State) (a0 : Array Value) (hw : HW a0 Z) (ws : List Jvm.Cond) (h0 : Heap) (n0 : Nat) (x i : Int32) :
    MC l Z y0 method_2_code 2 (some .boolean) ws rm_0_0_0_0 #[(.int x), (.int i)] h0 (QB h0 n0) := by
  refine own_met (plainFor_of_name pn0) fun p e s m below meth c s₁ X0 hx hZ Y hml hO hnm hlk hret e0 => f_cast (f' := mkF m 0 #[(iv x), (iv i)] []) (by first | (simp [entryFrame, mkF, argsToLocals, Value.category]; done) | rfl) ?_
  have N0 := Fr.nil n0
  by_cases hq : (((x.toUInt32 >>> (i &&& 31).toUInt32).toInt32) &&& (1 : Int32)) = (0 : Int32)
  · refine iN X0 hx (hb Y d0_0) rfl <| iN X0 hx (hb Y d0_1) rfl <| f_iushr X0 hx (z := ((x.toUInt32 >>> (i &&& 31).toUInt32).toInt32)) (hb Y d0_2) (q := rfl) <| iK X0 hx (z := 1) (hb Y d0_3) <| f_iand X0 hx (z := (((x.toUInt32 >>> (i &&& 31).toUInt32).toInt32) &&& (1 : Int32))) (hb Y d0_4) (q := rfl) <| fY X0 hx (pc := 5) 12 (hb Y d0_5) (hc := (own_eqT hq)) <| iK X0 hx (z := 0) (hb Y d0_12) ?_
    exact f_ret X0 hx hlk (i := .ireturn) hret rfl (Or.inl ⟨rfl, Or.inr (Or.inl rfl), _, rfl⟩) (hb Y d0_13) (QQ := (QB h0 n0)) ⟨_, rfl, Or.inl rfl, N0, e0⟩ (by decide) (by decide)
  · refine iN X0 hx (hb Y d0_0) rfl <| iN X0 hx (hb Y d0_1) rfl <| f_iushr X0 hx (z := ((x.toUInt32 >>> (i &&& 31).toUInt32).toInt32)) (hb Y d0_2) (q := rfl) <| iK X0 hx (z := 1) (hb Y d0_3) <| f_iand X0 hx (z := (((x.toUInt32 >>> (i &&& 31).toUInt32).toInt32) &&& (1 : Int32))) (hb Y d0_4) (q := rfl) <| fN X0 hx (hb Y d0_5) (hc := (own_eqF hq)) <| iK X0 hx (z := 1) (hb Y d0_8) <| gT X0 hx (pc := 9) 13 (hb Y d0_9) ?_
    exact f_ret X0 hx hlk (i := .ireturn) hret rfl (Or.inl ⟨rfl, Or.inr (Or.inl rfl), _, rfl⟩) (hb Y d0_13) (QQ := (QB h0 n0)) ⟨_, rfl, Or.inr rfl, N0, e0⟩ (by decide) (by decide)
section Law
variable {p : Program} {l : Launch} {e : Env} {s : State} {m : MethodId} {args : Array Value} {below : List Frame} {meth : Method} {c : Code} {T0 : State} {locs : List Loc} {Z : State} {a0 : Array Value} {h0 : Heap} {n0 : Nat}
def St0 (Z : State) (h : Heap) (n0 : Nat) (c1 : Nat) (c2 : Nat) (kc1 : ClassId) : Prop :=
  xO Z h c1 ∧
  Arv Z h c1 kc1 (.object "java/lang/Object") 1 [.null] .null ∧
  Ovr Z kc1 "java/lang/Object" ∧
  Exa Z h c2 cV ∧
  fT Z h c2 .null ∧
  fR Z h c2 .null ∧
  fC Z h c2 .null ∧
  fS Z h c2 (.int 0) ∧
  fO Z h c2 (.int 0) ∧
  n0 ≤ c1 ∧
  c1 < c2
def St1 (Z : State) (h : Heap) (n0 : Nat) (c1 : Nat) (c2 : Nat) (b17 : Nat) (b19 : Nat) (b21 : Nat) (kc1 : ClassId) (kb17 : ClassId) (kb19 : ClassId) (kb21 : ClassId) : Prop :=
  xO Z h c1 ∧
  Arv Z h c1 kc1 (.object "java/lang/Object") 1 [.null] .null ∧
  Ovr Z kc1 "java/lang/Object" ∧
  Exa Z h c2 cV ∧
  fT Z h c2 (.ref b17) ∧
  fR Z h c2 (.ref b19) ∧
  fC Z h c2 (.ref b21) ∧
  fS Z h c2 (.int 0) ∧
  fO Z h c2 (.int 0) ∧
  aL Z h b17 kb17 2 [(.long 0), (.long 0)] ∧
  xR Z h b19 ∧
  aR Z h b19 kb19 2 [.null, .null] ∧
  oR Z kb19 ∧
  xC Z h b21 ∧
  aC Z h b21 kb21 2 [.null, .null] ∧
  oC Z kb21 ∧
  n0 ≤ c1 ∧
  c1 < c2 ∧
  c2 < b17 ∧
  b17 < b19 ∧
  b19 < b21
def Qm23 (Z : State) (n0 : Nat) (c1 : Nat) (c2 : Nat) (kc1 : ClassId) (v : Option Value) (h : Heap) (L : List Loc) : Prop := v = none ∧ Fr n0 L ∧ ∃ (kb17 : ClassId) (b17 : Nat) (kb19 : ClassId) (b19 : Nat) (kb21 : ClassId) (b21 : Nat), St1 Z h n0 c1 c2 b17 b19 b21 kc1 kb17 kb19 kb21
theorem m23 (l : Launch) (Z : State) (a0 : Array Value) (hw : HW a0 Z) (ws : List Jvm.Cond) (h0 : Heap) (n0 : Nat) (c1 : Nat) (c2 : Nat) (kc1 : ClassId) (P : St0 Z h0 n0 c1 c2 kc1) :
    MC l Z y1 prog_95_method_1_code 1 none ws rm_1_3_6_12 #[(.ref c2)] h0 (Qm23 Z n0 c1 c2 kc1) := by
  obtain ⟨E_c1, V_c1, O_c1, E_c2, F_c2_t, F_c2_r, F_c2_c, F_c2_s, F_c2_o, g_c1, lt_c1_c2⟩ := id P
  refine own_met (plainFor_of_name pn1) fun p e s m below meth c s₁ X0 hx hZ Y hml hO hnm hlk hret e0 => f_cast (f' := mkF m 0 #[(rv c2)] []) (by first | (simp [entryFrame, mkF, argsToLocals, Value.category]; done) | rfl) ?_
  have N0 := Fr.nil n0
  refine aN X0 hx (hb Y d1_0) rfl rfl ?_
  obtain ⟨T16, X16, e16, st16⟩ := initO X0 hx hZ hO (w12 hw) (w13 hw) (w14 hw) e0 (g := (mkF m 1 #[(rv c2)] [(.ref c2)])) rfl (by rw [hml]; rfl) rfl (hb Y d1_1) (by decide) (W := 0) (by show 2 * 0 + _ ≤ _; exact Nat.le_of_eq rfl) (by decide)
  refine f_by st16 <| aN X16 hx (hb Y d1_4) rfl rfl <| iK X16 hx (z := 2) (hb Y d1_5) <| f_newP X16 hx hZ (aty := .long) (w15 hw) e16 (hb Y d1_6) 2 fun T17 h17 kb17 b17 g17 X17 e17 E17 V_b17 => ?_
  have lt_c2_b17 : c2 < b17 := by have := own_ltE E_c2; omega
  replace F_c2_t := (fe E17 F_c2_t)
  replace E_c2 := (xe E17 E_c2)
  refine f_putF X17 hx hZ hO (w16 hw) Via.refl e17 F_c2_t E_c2 (Or.inl (w17 hw)) (w7 hw) (ty := (.array .long)) (by decide) rfl rfl (hb Y d1_8) fun T18 h18 X18 e18 W18 => ?_
  have N18x := Fr.snoc X18 N0 (by omega : n0 ≤ c2)
  refine aN X18 hx (hb Y d1_11) rfl rfl <| iK X18 hx (z := 2) (hb Y d1_12) <| f_newRA X18 hx hZ hO (ty := (.object "java/lang/Object")) (by decide +kernel) (w18 hw) (w19 hw) e18 (hb Y d1_13) 2 (ad := "[[Ljava/lang/Object;") (by decide +kernel) fun T19 h19 kb19 b19 g19 X19 e19 E19 V_b19 E_b19 O_b19 => ?_
  have lt_b17_b19 : b17 < b19 := by have := own_ltV (vo V_b17 W18); omega
  replace F_c2_r := (fe E19 (Fld.other W18 (fe E17 F_c2_r) (Or.inr (slot_ne (Or.inl (w21 hw)) (Or.inl (w17 hw)) (by decide) (t := (.array (.array (.object "java/lang/Object")))) (t' := (.array .long)) (by decide) (by decide)))))
  replace E_c2 := (xe E19 (xw W18 E_c2))
  refine f_putF X19 hx hZ hO (w20 hw) Via.refl e19 F_c2_r E_c2 (Or.inl (w21 hw)) (w7 hw) (ty := (.array (.array (.object "java/lang/Object")))) (by decide) rfl rfl (hb Y d1_16) fun T20 h20 X20 e20 W20 => ?_
  have N20x := Fr.snoc X20 N18x (by omega : n0 ≤ c2)
  refine aN X20 hx (hb Y d1_19) rfl rfl <| iK X20 hx (z := 2) (hb Y d1_20) <| f_newRA X20 hx hZ hO (ty := .int) (by decide +kernel) (w22 hw) (w23 hw) e20 (hb Y d1_21) 2 (ad := "[[I") (by decide +kernel) fun T21 h21 kb21 b21 g21 X21 e21 E21 V_b21 E_b21 O_b21 => ?_
  have lt_b19_b21 : b19 < b21 := by have := own_ltE (xw W20 E_b19); omega
  replace F_c2_c := (fe E21 (Fld.other W20 (fe E19 (Fld.other W18 (fe E17 F_c2_c) (Or.inr (slot_ne (Or.inl (w25 hw)) (Or.inl (w17 hw)) (by decide) (t := (.array (.array .int))) (t' := (.array .long)) (by decide) (by decide))))) (Or.inr (slot_ne (Or.inl (w25 hw)) (Or.inl (w21 hw)) (by decide) (t := (.array (.array .int))) (t' := (.array (.array (.object "java/lang/Object")))) (by decide) (by decide)))))
  replace E_c2 := (xe E21 (xw W20 E_c2))
  refine f_putF X21 hx hZ hO (w24 hw) Via.refl e21 F_c2_c E_c2 (Or.inl (w25 hw)) (w7 hw) (ty := (.array (.array .int))) (by decide) rfl rfl (hb Y d1_24) fun T22 h22 X22 e22 W22 => ?_
  have N22x := Fr.snoc X22 N20x (by omega : n0 ≤ c2)
  exact f_ret0 X22 hx hlk hret (hb Y d1_27) (QQ := (Qm23 Z n0 c1 c2 kc1)) (by rw [e22]; exact ⟨rfl, N22x, kb17, b17, kb19, b19, kb21, b21, (xw W22 (xe E21 (xw W20 (xe E19 (xw W18 (xe E17 E_c1)))))), (vo (ve (vo (ve (vo (ve V_c1 E17) W18) E19) W20) E21) W22), O_c1, (xw W22 E_c2), (Fld.other W22 (fe E21 (Fld.other W20 (fe E19 (Fld.same W18 F_c2_t)) (Or.inr (slot_ne (Or.inl (w17 hw)) (Or.inl (w21 hw)) (by decide) (t := (.array .long)) (t' := (.array (.array (.object "java/lang/Object")))) (by decide) (by decide))))) (Or.inr (slot_ne (Or.inl (w17 hw)) (Or.inl (w25 hw)) (by decide) (t := (.array .long)) (t' := (.array (.array .int))) (by decide) (by decide)))), (Fld.other W22 (fe E21 (Fld.same W20 F_c2_r)) (Or.inr (slot_ne (Or.inl (w21 hw)) (Or.inl (w25 hw)) (by decide) (t := (.array (.array (.object "java/lang/Object")))) (t' := (.array (.array .int))) (by decide) (by decide)))), (Fld.same W22 F_c2_c), (Fld.other W22 (fe E21 (Fld.other W20 (fe E19 (Fld.other W18 (fe E17 F_c2_s) (Or.inr (slot_ne (Or.inl (w32 hw)) (Or.inl (w17 hw)) (by decide) (t := .int) (t' := (.array .long)) (by decide) (by decide))))) (Or.inr (slot_ne (Or.inl (w32 hw)) (Or.inl (w21 hw)) (by decide) (t := .int) (t' := (.array (.array (.object "java/lang/Object")))) (by decide) (by decide))))) (Or.inr (slot_ne (Or.inl (w32 hw)) (Or.inl (w25 hw)) (by decide) (t := .int) (t' := (.array (.array .int))) (by decide) (by decide)))), (Fld.other W22 (fe E21 (Fld.other W20 (fe E19 (Fld.other W18 (fe E17 F_c2_o) (Or.inr (slot_ne (Or.inl (w49 hw)) (Or.inl (w17 hw)) (by decide) (t := .int) (t' := (.array .long)) (by decide) (by decide))))) (Or.inr (slot_ne (Or.inl (w49 hw)) (Or.inl (w21 hw)) (by decide) (t := .int) (t' := (.array (.array (.object "java/lang/Object")))) (by decide) (by decide))))) (Or.inr (slot_ne (Or.inl (w49 hw)) (Or.inl (w25 hw)) (by decide) (t := .int) (t' := (.array (.array .int))) (by decide) (by decide)))), (vo (ve (vo (ve (vo V_b17 W18) E19) W20) E21) W22), (xw W22 (xe E21 (xw W20 E_b19))), (vo (ve (vo V_b19 W20) E21) W22), O_b19, (xw W22 E_b21), (vo V_b21 W22), O_b21, g_c1, lt_c1_c2, lt_c2_b17, lt_b17_b19, lt_b19_b21⟩) (by decide) (by decide)
def St2 (Z : State) (h : Heap) (n0 : Nat) (c1 : Nat) (c2 : Nat) (c3 : Nat) (c4 : Nat) (c5 : Nat) (kc1 : ClassId) (kc2 : ClassId) (kc3 : ClassId) (kc4 : ClassId) (t0 : Int32) (t1 : Int32) (t2 : Int32) (t3 : Int32) (t4 : Int32) (mm : Int32) : Prop :=
  xO Z h c1 ∧
  Arv Z h c1 kc1 (.object "java/lang/Object") 1 [.null] .null ∧
  Ovr Z kc1 "java/lang/Object" ∧
  Exa Z h c2 cV ∧
  fT Z h c2 (.ref c3) ∧
  fR Z h c2 (.ref c4) ∧
  fC Z h c2 (.ref c5) ∧
  fS Z h c2 (.int 0) ∧
  fO Z h c2 (.int 0) ∧
  aL Z h c3 kc2 2 [(.long 0), (.long 0)] ∧
  xR Z h c4 ∧
  aR Z h c4 kc3 2 [.null, .null] ∧
  oR Z kc3 ∧
  xC Z h c5 ∧
  aC Z h c5 kc4 2 [.null, .null] ∧
  oC Z kc4 ∧
  n0 ≤ c1 ∧
  c1 < c2 ∧
  c2 < c3 ∧
  c3 < c4 ∧
  c4 < c5 ∧
  (t0 = (0 : Int32) ∨ t0 = (1 : Int32)) ∧
  (t1 = (0 : Int32) ∨ t1 = (1 : Int32)) ∧
  (t2 = (0 : Int32) ∨ t2 = (1 : Int32)) ∧
  (t3 = (0 : Int32) ∨ t3 = (1 : Int32)) ∧
  (t4 = (0 : Int32) ∨ t4 = (1 : Int32)) ∧
  (mm = (0 : Int32) ∨ mm = (1 : Int32) ∨ mm = (2 : Int32))
theorem q33 (l : Launch) (Z : State) (a0 : Array Value) (hw : HW a0 Z) (ws : List Jvm.Cond) (h0 : Heap) (n0 : Nat) (c1 : Nat) (p1 : Int64) (F_c1_s : fS Z h0 c1 (.int 0)) :
    MC l Z y3 prog_95_method_5_code 5 (some .boolean) ws rm_0_0_0_0 #[(.ref c1), (.long p1)] h0 (QV (.int 1) h0 n0) := by
  refine own_met (plainFor_of_name pn3) fun p e s m below meth c s₁ X0 hx hZ Y hml hO hnm hlk hret e0 => f_cast (f' := mkF m 0 #[(rv c1), (.val (.long p1)), .second, .unset, .unset] []) (by first | (simp [entryFrame, mkF, argsToLocals, Value.category]; done) | rfl) ?_
  have N0 := Fr.nil n0
  refine aN X0 hx (hb Y d3_0) rfl rfl <| gF X0 hx hZ hO (w31 hw) Via.refl e0 F_c1_s (hb Y d3_1) fun T32 X32 e32 => ?_
  refine fN X32 hx (hb Y d3_4) <| iK X32 hx (z := 1) (hb Y d3_7) ?_
  exact f_ret X32 hx hlk (i := .ireturn) hret rfl (Or.inl ⟨rfl, Or.inr (Or.inl rfl), _, rfl⟩) (hb Y d3_8) (QQ := (QV (.int 1) h0 n0)) ⟨rfl, N0, e32⟩ (by decide) (by decide)
def St3 (Z : State) (h : Heap) (n0 : Nat) (c1 : Nat) (c2 : Nat) (c3 : Nat) (c4 : Nat) (c5 : Nat) (kc1 : ClassId) (kc2 : ClassId) (kc3 : ClassId) (kc4 : ClassId) (t0 : Int32) (t1 : Int32) (t2 : Int32) (t3 : Int32) (t4 : Int32) : Prop :=
  xO Z h c1 ∧
  Arv Z h c1 kc1 (.object "java/lang/Object") 1 [.null] .null ∧
  Ovr Z kc1 "java/lang/Object" ∧
  Exa Z h c2 cV ∧
  fT Z h c2 (.ref c3) ∧
  fR Z h c2 (.ref c4) ∧
  fC Z h c2 (.ref c5) ∧
  fS Z h c2 (.int 0) ∧
  fO Z h c2 (.int 0) ∧
  aL Z h c3 kc2 2 [(.long 0), (.long 0)] ∧
  xR Z h c4 ∧
  aR Z h c4 kc3 2 [.null, .null] ∧
  oR Z kc3 ∧
  xC Z h c5 ∧
  aC Z h c5 kc4 2 [.null, .null] ∧
  oC Z kc4 ∧
  n0 ≤ c1 ∧
  c1 < c2 ∧
  c2 < c3 ∧
  c3 < c4 ∧
  c4 < c5 ∧
  (t0 = (0 : Int32) ∨ t0 = (1 : Int32)) ∧
  (t1 = (0 : Int32) ∨ t1 = (1 : Int32)) ∧
  (t2 = (0 : Int32) ∨ t2 = (1 : Int32)) ∧
  (t3 = (0 : Int32) ∨ t3 = (1 : Int32)) ∧
  (t4 = (0 : Int32) ∨ t4 = (1 : Int32))
theorem q37 (l : Launch) (Z : State) (a0 : Array Value) (hw : HW a0 Z) (ws : List Jvm.Cond) (h0 : Heap) (n0 : Nat) (c1 : Nat) (F_c1_s : fS Z h0 c1 (.int 0)) :
    MC l Z y4 prog_95_method_7_code 1 (some .boolean) ws rm_0_0_0_0 #[(.ref c1)] h0 (QV (.int 0) h0 n0) := by
  refine own_met (plainFor_of_name pn4) fun p e s m below meth c s₁ X0 hx hZ Y hml hO hnm hlk hret e0 => f_cast (f' := mkF m 0 #[(rv c1)] []) (by first | (simp [entryFrame, mkF, argsToLocals, Value.category]; done) | rfl) ?_
  have N0 := Fr.nil n0
  refine aN X0 hx (hb Y d4_0) rfl rfl <| gF X0 hx hZ hO (w31 hw) Via.refl e0 F_c1_s (hb Y d4_1) fun T35 X35 e35 => ?_
  refine iK X35 hx (z := 1) (hb Y d4_4) <| cN X35 hx (hb Y d4_5) <| aN X35 hx (hb Y d4_8) rfl rfl <| gF X35 hx hZ hO (w31 hw) Via.refl e35 F_c1_s (hb Y d4_9) fun T36 X36 e36 => ?_
  refine iK X36 hx (z := 1) (hb Y d4_12) <| cY X36 hx (pc := 13) 32 (hb Y d4_13) <| iK X36 hx (z := 0) (hb Y d4_32) ?_
  exact f_ret X36 hx hlk (i := .ireturn) hret rfl (Or.inl ⟨rfl, Or.inr (Or.inl rfl), _, rfl⟩) (hb Y d4_33) (QQ := (QV (.int 0) h0 n0)) ⟨rfl, N0, e36⟩ (by decide) (by decide)
theorem D0_0  (c1 : Nat) (c2 : Nat) (c3 : Nat) (c4 : Nat) (c5 : Nat) (kc1 : ClassId) (kc2 : ClassId) (kc3 : ClassId) (kc4 : ClassId) (t0 : Int32) (t1 : Int32) (t2 : Int32) (t3 : Int32) (t4 : Int32) (p0 : Int32) (p1 : Int64) (X0 : Stand p l e room_1 s m args below meth c T0 locs 5 13) (G : SG p s m meth c Z a0) (e0 : T0.heap = h0) (N0 : Fr n0 locs) (P : St3 Z h0 n0 c1 c2 c3 c4 c5 kc1 kc2 kc3 kc4 t0 t1 t2 t3 t4) (hk0 : ∀ (T' : State) (locs' : List Loc), Stand p l e room_1 s m args below meth c T' locs' 5 13 → Fr n0 locs' → EndsSo p e below (LQ s n0) T' (mkF m 209 (FL p0 p1 0 0 t0 t1 t2 t3 t4 c1 c2 (iv 0) .unset .unset .unset .unset .unset) [])) :
    EndsSo p e below (LQ s n0) T0 (mkF m 150 (FL p0 p1 0 0 t0 t1 t2 t3 t4 c1 c2 .unset .unset .unset .unset .unset .unset) []) := by
  obtain ⟨hx, hZ, hw, Y, hml, hO, hlk, hret⟩ := id G
  obtain ⟨E_c1, V_c1, O_c1, E_c2, F_c2_t, F_c2_r, F_c2_c, F_c2_s, F_c2_o, V_c3, E_c4, V_c4, O_c4, E_c5, V_c5, O_c5, g_c1, lt_c1_c2, lt_c2_c3, lt_c3_c4, lt_c4_c5, ht0, ht1, ht2, ht3, ht4⟩ := id P
  refine iL X0 hx (hb Y at_150) rfl <| iK X0 hx (z := 1) (hb Y at_152) <| cY X0 hx (pc := 153) 176 (hb Y at_153) <| iL X0 hx (hb Y at_176) rfl <| iK X0 hx (z := 2) (hb Y at_178) <| cY X0 hx (pc := 179) 202 (hb Y at_179) <| aA X0 hx (hb Y at_202) rfl rfl <| vV X0 hx hZ hO (by rw [hml]; rfl) (w33 hw) (w34 hw) (w36 hw) (w35 hw) (w8 hw) (w37 hw) e0 E_c2 (argsL := []) (rest := []) (q37 l Z a0 hw [] h0 n0 c2 F_c2_s) (lenOf pd3 rfl) (hb Y at_204) fun T34 L34 v34 X34 hQ34 => ?_
  obtain ⟨rfl, N34q, e34⟩ := hQ34
  have N34 := Fr.app N0 N34q
  refine iS X34 hx (L' := (FL p0 p1 0 0 t0 t1 t2 t3 t4 c1 c2 (iv 0) .unset .unset .unset .unset .unset)) (hb Y at_207) rfl ?_
  exact hk0 _ _ X34 N34
theorem F1_0  {cells slots : Nat} (p0 : Int32) (p1 : Int64) (mm : Int32) (gg : Int32) (t0 : Int32) (t1 : Int32) (t2 : Int32) (t3 : Int32) (t4 : Int32) (c1 : Nat) (c2 : Nat) (X0 : Stand p l e room_1 s m args below meth c T0 locs cells slots) (G : SG p s m meth c Z a0) (h : EndsSo p e below (LQ s n0) T0 (mkF m 303 (FL p0 p1 0 mm t0 t1 t2 t3 t4 c1 c2 (iv gg) (iv 0) .unset .unset .unset .unset) [])) :
    EndsSo p e below (LQ s n0) T0 (mkF m 209 (FL p0 p1 0 mm t0 t1 t2 t3 t4 c1 c2 (iv gg) .unset .unset .unset .unset .unset) []) := by
  obtain ⟨hx, hZ, hw, Y, hml, hO, hlk, hret⟩ := id G
  refine iK X0 hx (z := 0) (hb Y at_209) <| iS X0 hx (L' := (FL p0 p1 0 mm t0 t1 t2 t3 t4 c1 c2 (iv gg) (iv 0) .unset .unset .unset .unset)) (hb Y at_210) rfl <| iN X0 hx (hb Y at_212) rfl <| iK X0 hx (z := 2) (hb Y at_213) <| cY X0 hx (pc := 214) 228 (hb Y at_214) <| iN X0 hx (hb Y at_228) rfl <| iK X0 hx (z := 3) (hb Y at_229) <| cY X0 hx (pc := 230) 244 (hb Y at_230) <| iN X0 hx (hb Y at_244) rfl <| iK X0 hx (z := 1) (hb Y at_245) <| cY X0 hx (pc := 246) 303 (hb Y at_246) ?_
  exact h
theorem F2_0  {cells slots : Nat} (p0 : Int32) (p1 : Int64) (t0 : Int32) (t1 : Int32) (t2 : Int32) (t3 : Int32) (t4 : Int32) (c1 : Nat) (c2 : Nat) (X0 : Stand p l e room_1 s m args below meth c T0 locs cells slots) (G : SG p s m meth c Z a0) (N0 : Fr n0 locs) (hK : cells ≤ room_1.cells) (hN : slots ≤ room_1.slots) :
    EndsSo p e below (LQ s n0) T0 (mkF m 303 (FL p0 p1 0 0 t0 t1 t2 t3 t4 c1 c2 (iv 0) (iv 0) .unset .unset .unset .unset) []) := by
  obtain ⟨hx, hZ, hw, Y, hml, hO, hlk, hret⟩ := id G
  refine iN X0 hx (hb Y at_303) rfl <| iL X0 hx (hb Y at_304) rfl <| iB X0 hx (z := 0) (hb Y at_306) <| iS X0 hx (L' := (FL p0 p1 0 0 t0 t1 t2 t3 t4 c1 c2 (iv 0) (iv 0) (iv 0) .unset .unset .unset)) (hb Y at_307) rfl <| iL X0 hx (hb Y at_309) rfl <| iL X0 hx (hb Y at_311) rfl <| iA X0 hx (z := 0) (hb Y at_313) <| iS X0 hx (L' := (FL p0 p1 0 0 t0 t1 t2 t3 t4 c1 c2 (iv 0) (iv 0) (iv 0) (iv 0) .unset .unset)) (hb Y at_314) rfl <| iL X0 hx (hb Y at_316) rfl <| iK X0 hx (z := 1) (hb Y at_318) <| cY X0 hx (pc := 319) 348 (hb Y at_319) <| iL X0 hx (hb Y at_348) rfl <| iS X0 hx (L' := (FL p0 p1 0 0 t0 t1 t2 t3 t4 c1 c2 (iv 0) (iv 0) (iv 0) (iv 0) (iv t3) .unset)) (hb Y at_350) rfl <| iL X0 hx (hb Y at_352) rfl <| iK X0 hx (z := 1) (hb Y at_354) <| cN X0 hx (hb Y at_355) <| iL X0 hx (hb Y at_358) rfl <| iK X0 hx (z := 1) (hb Y at_360) <| cY X0 hx (pc := 361) 373 (hb Y at_361) <| iK X0 hx (z := 0) (hb Y at_373) <| iS X0 hx (L' := (FL p0 p1 0 0 t0 t1 t2 t3 t4 c1 c2 (iv 0) (iv 0) (iv 0) (iv 0) (iv t3) (iv 0))) (hb Y at_374) rfl <| iL X0 hx (hb Y at_376) rfl <| iL X0 hx (hb Y at_378) rfl <| cN X0 hx (hb Y at_380) <| iK X0 hx (z := 1) (hb Y at_383) <| gT X0 hx (pc := 384) 388 (hb Y at_384) ?_
  exact f_ret X0 hx hlk (i := .ireturn) hret rfl (Or.inl ⟨rfl, Or.inr (Or.inl rfl), _, rfl⟩) (hb Y at_388) (QQ := (QL n0)) ⟨rfl, N0⟩ hK hN
theorem q61 (l : Launch) (Z : State) (a0 : Array Value) (hw : HW a0 Z) (ws : List Jvm.Cond) (h0 : Heap) (n0 : Nat) (c1 : Nat) (c2 : Nat) (kc3 : ClassId) (vs_c2 : List Value) (F_c1_o : fO Z h0 c1 (.int 0)) (F_c1_t : fT Z h0 c1 (.ref c2)) (V_c2 : aL Z h0 c2 kc3 2 vs_c2) :
    MC l Z y6 prog_95_method_11_code 2 (some .int) ws rm_0_0_0_0 #[(.ref c1), (.int 0)] h0 (QV (.int 0) h0 n0) := by
  refine own_met (plainFor_of_name pn6) fun p e s m below meth c s₁ X0 hx hZ Y hml hO hnm hlk hret e0 => f_cast (f' := mkF m 0 #[(rv c1), (iv 0)] []) (by first | (simp [entryFrame, mkF, argsToLocals, Value.category]; done) | rfl) ?_
  have N0 := Fr.nil n0
  refine aN X0 hx (hb Y d6_0) rfl rfl <| gF X0 hx hZ hO (w48 hw) Via.refl e0 F_c1_o (hb Y d6_1) fun T59 X59 e59 => ?_
  refine iN X59 hx (hb Y d6_4) rfl <| iA X59 hx (z := 0) (hb Y d6_5) <| aN X59 hx (hb Y d6_6) rfl rfl <| gF X59 hx hZ hO (w16 hw) Via.refl e59 F_c1_t (hb Y d6_7) fun T60 X60 e60 => ?_
  refine f_len X60 hx hZ e60 V_c2 (hb Y d6_10) <| iK X60 hx (z := 1) (hb Y d6_11) <| iB X60 hx (z := 1) (hb Y d6_12) <| f_iand X60 hx (z := 0) (hb Y d6_13) ?_
  exact f_ret X60 hx hlk (i := .ireturn) hret rfl (Or.inl ⟨rfl, Or.inl rfl, _, rfl⟩) (hb Y d6_14) (QQ := (QV (.int 0) h0 n0)) ⟨rfl, N0, e60⟩ (by decide) (by decide)
def St4 (Z : State) (h : Heap) (n0 : Nat) (c1 : Nat) (c2 : Nat) (c3 : Nat) (c4 : Nat) (c5 : Nat) (kc1 : ClassId) (kc2 : ClassId) (kc3 : ClassId) (kc4 : ClassId) (uu1 : Int64) (uu2 : Int64) (ww3 : Value) (ww4 : Value) (ww6 : Value) : Prop :=
  xO Z h c1 ∧
  Arv Z h c1 kc1 (.object "java/lang/Object") 1 [.null] .null ∧
  Ovr Z kc1 "java/lang/Object" ∧
  Exa Z h c2 cV ∧
  fT Z h c2 (.ref c3) ∧
  fR Z h c2 (.ref c4) ∧
  fC Z h c2 (.ref c5) ∧
  fS Z h c2 (.int 0) ∧
  fO Z h c2 (.int 0) ∧
  aL Z h c3 kc2 2 [(.long uu1), (.long uu2)] ∧
  xR Z h c4 ∧
  aR Z h c4 kc3 2 [ww3, ww4] ∧
  oR Z kc3 ∧
  xC Z h c5 ∧
  aC Z h c5 kc4 2 [.null, .null] ∧
  oC Z kc4 ∧
  n0 ≤ c1 ∧
  c1 < c2 ∧
  c2 < c3 ∧
  c3 < c4 ∧
  c4 < c5 ∧
  ww3.isRef = true ∧
  (ww3 = .null ∨ ww3 = .ref c1) ∧
  ww4.isRef = true ∧
  (ww4 = .null ∨ ww4 = .ref c1) ∧
  ww6.isRef = true ∧
  (ww6 = .null ∨ ww6 = .ref c1)
def St5 (Z : State) (h : Heap) (n0 : Nat) (c1 : Nat) (c2 : Nat) (c3 : Nat) (c4 : Nat) (c5 : Nat) (kc1 : ClassId) (kc2 : ClassId) (kc3 : ClassId) (kc4 : ClassId) (uu5 : Int64) (uu2 : Int64) (ww6 : Value) (ww4 : Value) (ww3 : Value) : Prop :=
  xO Z h c1 ∧
  Arv Z h c1 kc1 (.object "java/lang/Object") 1 [.null] .null ∧
  Ovr Z kc1 "java/lang/Object" ∧
  Exa Z h c2 cV ∧
  fT Z h c2 (.ref c3) ∧
  fR Z h c2 (.ref c4) ∧
  fC Z h c2 (.ref c5) ∧
  fS Z h c2 (.int 1) ∧
  fO Z h c2 (.int 0) ∧
  aL Z h c3 kc2 2 [(.long uu5), (.long uu2)] ∧
  xR Z h c4 ∧
  aR Z h c4 kc3 2 [ww6, ww4] ∧
  oR Z kc3 ∧
  xC Z h c5 ∧
  aC Z h c5 kc4 2 [.null, .null] ∧
  oC Z kc4 ∧
  n0 ≤ c1 ∧
  c1 < c2 ∧
  c2 < c3 ∧
  c3 < c4 ∧
  c4 < c5 ∧
  ww3.isRef = true ∧
  (ww3 = .null ∨ ww3 = .ref c1) ∧
  ww4.isRef = true ∧
  (ww4 = .null ∨ ww4 = .ref c1) ∧
  ww6.isRef = true ∧
  (ww6 = .null ∨ ww6 = .ref c1)
def Qm70 (Z : State) (n0 : Nat) (c1 : Nat) (c2 : Nat) (c3 : Nat) (c4 : Nat) (c5 : Nat) (kc1 : ClassId) (kc2 : ClassId) (kc3 : ClassId) (kc4 : ClassId) (uu1 : Int64) (uu2 : Int64) (ww3 : Value) (ww4 : Value) (ww6 : Value) (uu5 : Int64) (v : Option Value) (h : Heap) (L : List Loc) : Prop := v = none ∧ Fr n0 L ∧ St5 Z h n0 c1 c2 c3 c4 c5 kc1 kc2 kc3 kc4 uu5 uu2 ww6 ww4 ww3
theorem m70 (l : Launch) (Z : State) (a0 : Array Value) (hw : HW a0 Z) (ws : List Jvm.Cond) (h0 : Heap) (n0 : Nat) (c1 : Nat) (c2 : Nat) (c3 : Nat) (c4 : Nat) (c5 : Nat) (kc1 : ClassId) (kc2 : ClassId) (kc3 : ClassId) (kc4 : ClassId) (uu1 : Int64) (uu2 : Int64) (ww3 : Value) (ww4 : Value) (ww6 : Value) (uu5 : Int64) (P : St4 Z h0 n0 c1 c2 c3 c4 c5 kc1 kc2 kc3 kc4 uu1 uu2 ww3 ww4 ww6) :
    MC l Z y5 prog_95_method_3_code 6 none ws rm_1_0_0_13 #[(.ref c2), (.long uu5), ww6, .null] h0 (Qm70 Z n0 c1 c2 c3 c4 c5 kc1 kc2 kc3 kc4 uu1 uu2 ww3 ww4 ww6 uu5) := by
  obtain ⟨E_c1, V_c1, O_c1, E_c2, F_c2_t, F_c2_r, F_c2_c, F_c2_s, F_c2_o, V_c3, E_c4, V_c4, O_c4, E_c5, V_c5, O_c5, g_c1, lt_c1_c2, lt_c2_c3, lt_c3_c4, lt_c4_c5, rf_ww3, rw_ww3, rf_ww4, rw_ww4, rf_ww6, rw_ww6⟩ := id P
  refine own_met (plainFor_of_name pn5) fun p e s m below meth c s₁ X0 hx hZ Y hml hO hnm hlk hret e0 => f_cast (f' := mkF m 0 #[(rv c2), (.val (.long uu5)), .second, (.val ww6), (.val .null), .unset] []) (by rcases ref_cases rf_ww6 with q | ⟨_, q⟩ <;> (rw [q]; first | (simp [entryFrame, mkF, argsToLocals, Value.category]; done) | rfl)) ?_
  have N0 := Fr.nil n0
  refine aN X0 hx (hb Y d5_0) rfl rfl <| gF X0 hx hZ hO (w31 hw) Via.refl e0 F_c2_s (hb Y d5_1) fun T55 X55 e55 => ?_
  refine aN X55 hx (hb Y d5_4) rfl rfl <| gF X55 hx hZ hO (w16 hw) Via.refl e55 F_c2_t (hb Y d5_5) fun T56 X56 e56 => ?_
  refine f_len X56 hx hZ e56 V_c3 (hb Y d5_8) <| cY X56 hx (pc := 9) 22 (hb Y d5_9) <| aN X56 hx (hb Y d5_22) rfl rfl <| aN X56 hx (hb Y d5_23) rfl rfl <| gF X56 hx hZ hO (w31 hw) Via.refl e56 F_c2_s (hb Y d5_24) fun T57 X57 e57 => ?_
  refine pV X57 hx hZ hO (by rw [hml]; rfl) (w44 hw) (w45 hw) (w46 hw) (w7 hw) (w8 hw) (w47 hw) e57 E_c2 (argsL := [(.int 0)]) (rest := []) (q61 l Z a0 hw [] h0 n0 c2 c3 kc2 _ F_c2_o F_c2_t V_c3) (lenOf pd4 rfl) (hb Y d5_27) fun T58 L58 v58 X58 hQ58 => ?_
  obtain ⟨rfl, N58q, e58⟩ := hQ58
  have N58 := Fr.app N0 N58q
  refine iS X58 hx (L' := #[(rv c2), (.val (.long uu5)), .second, (.val ww6), (.val .null), (iv 0)]) (hb Y d5_30) rfl <| aN X58 hx (hb Y d5_32) rfl rfl <| gF X58 hx hZ hO (w16 hw) Via.refl e58 F_c2_t (hb Y d5_33) fun T62 X62 e62 => ?_
  refine iL X62 hx (hb Y d5_36) rfl <| lN X62 hx (hb Y d5_38) rfl <| f_lst X62 hx hZ e62 V_c3 0 (hb Y d5_39) fun T63 h63 X63 e63 W63 V63 => ?_
  have N63x := Fr.snoc X63 N58 (by omega : n0 ≤ c3)
  refine aN X63 hx (hb Y d5_40) rfl rfl ?_
  replace F_c2_r := (fo W63 F_c2_r)
  refine gF X63 hx hZ hO (w20 hw) Via.refl e63 F_c2_r (hb Y d5_41) fun T64 X64 e64 => ?_
  refine iL X64 hx (hb Y d5_44) rfl <| aN X64 hx (hb Y d5_46) rfl rf_ww6 ?_
  replace V_c4 := (vo V_c4 W63)
  replace E_c1 := (xw W63 E_c1)
  refine f_ast X64 hx hZ e64 V_c4 rfl (own_sto rw_ww6 (own_stoVA V_c4 O_c4 (Ins.self E_c1))) (own_fits rf_ww6) 0 (hb Y d5_47) fun T65 h65 X65 e65 W65 V65 => ?_
  have N65x := Fr.snoc X65 N63x (by omega : n0 ≤ c4)
  refine aN X65 hx (hb Y d5_48) rfl rfl ?_
  replace F_c2_c := (fo W65 (fo W63 F_c2_c))
  refine gF X65 hx hZ hO (w24 hw) Via.refl e65 F_c2_c (hb Y d5_49) fun T66 X66 e66 => ?_
  refine iL X66 hx (hb Y d5_52) rfl <| aA X66 hx (hb Y d5_54) rfl rfl ?_
  replace V_c5 := (vo (vo V_c5 W63) W65)
  refine f_ast X66 hx hZ e66 V_c5 rfl (Or.inl rfl) rfl 0 (hb Y d5_56) fun T67 h67 X67 e67 W67 V67 => ?_
  have N67x := Fr.snoc X67 N65x (by omega : n0 ≤ c5)
  refine aN X67 hx (hb Y d5_57) rfl rfl <| f_dup X67 hx (hb Y d5_58) rfl ?_
  replace F_c2_s := (fo W67 (fo W65 (fo W63 F_c2_s)))
  refine gF X67 hx hZ hO (w31 hw) Via.refl e67 F_c2_s (hb Y d5_59) fun T68 X68 e68 => ?_
  refine iK X68 hx (z := 1) (hb Y d5_62) <| iA X68 hx (z := 1) (hb Y d5_63) ?_
  replace E_c2 := (xw W67 (xw W65 (xw W63 E_c2)))
  refine f_putF X68 hx hZ hO (w31 hw) Via.refl e68 F_c2_s E_c2 (Or.inl (w32 hw)) (w7 hw) (ty := .int) (by decide) rfl rfl (hb Y d5_64) fun T69 h69 X69 e69 W69 => ?_
  have N69x := Fr.snoc X69 N67x (by omega : n0 ≤ c2)
  exact f_ret0 X69 hx hlk hret (hb Y d5_67) (QQ := (Qm70 Z n0 c1 c2 c3 c4 c5 kc1 kc2 kc3 kc4 uu1 uu2 ww3 ww4 ww6 uu5)) (by rw [e69]; exact ⟨rfl, N69x, (xw W69 (xw W67 (xw W65 E_c1))), (vo (vo (vo (vo V_c1 W63) W65) W67) W69), O_c1, (xw W69 E_c2), (Fld.other W69 (fo W67 (fo W65 (fo W63 F_c2_t))) (Or.inr (slot_ne (Or.inl (w17 hw)) (Or.inl (w32 hw)) (by decide) (t := (.array .long)) (t' := .int) (by decide) (by decide)))), (Fld.other W69 (fo W67 (fo W65 F_c2_r)) (Or.inr (slot_ne (Or.inl (w21 hw)) (Or.inl (w32 hw)) (by decide) (t := (.array (.array (.object "java/lang/Object")))) (t' := .int) (by decide) (by decide)))), (Fld.other W69 (fo W67 F_c2_c) (Or.inr (slot_ne (Or.inl (w25 hw)) (Or.inl (w32 hw)) (by decide) (t := (.array (.array .int))) (t' := .int) (by decide) (by decide)))), (Fld.same W69 F_c2_s), (Fld.other W69 (fo W67 (fo W65 (fo W63 F_c2_o))) (Or.inr (slot_ne (Or.inl (w49 hw)) (Or.inl (w32 hw)) (by decide) (t := .int) (t' := .int) (by decide) (by decide)))), (vo (vo (vo V63 W65) W67) W69), (xw W69 (xw W67 (xw W65 (xw W63 E_c4)))), (vo (vo V65 W67) W69), O_c4, (xw W69 (xw W67 (xw W65 (xw W63 E_c5)))), (vo V67 W69), O_c5, g_c1, lt_c1_c2, lt_c2_c3, lt_c3_c4, lt_c4_c5, rf_ww3, rw_ww3, rf_ww4, rw_ww4, rf_ww6, rw_ww6⟩) (by decide) (by decide)
theorem q77 (l : Launch) (Z : State) (a0 : Array Value) (hw : HW a0 Z) (ws : List Jvm.Cond) (h0 : Heap) (n0 : Nat) (c1 : Nat) (c2 : Nat) (kc3 : ClassId) (r3 : Value) (c4 : Nat) (F_c1_s : fS Z h0 c1 (.int 1)) (F_c1_r : fR Z h0 c1 (.ref c2)) (F_c1_o : fO Z h0 c1 (.int 0)) (V_c2 : aR Z h0 c2 kc3 2 [r3, .null]) (nv_r3 : r3 = .ref c4) :
    MC l Z y4 prog_95_method_7_code 1 (some .boolean) ws rm_0_0_0_0 #[(.ref c1)] h0 (QV (.int 0) h0 n0) := by
  refine own_met (plainFor_of_name pn4) fun p e s m below meth c s₁ X0 hx hZ Y hml hO hnm hlk hret e0 => f_cast (f' := mkF m 0 #[(rv c1)] []) (by first | (simp [entryFrame, mkF, argsToLocals, Value.category]; done) | rfl) ?_
  have N0 := Fr.nil n0
  refine aN X0 hx (hb Y d4_0) rfl rfl <| gF X0 hx hZ hO (w31 hw) Via.refl e0 F_c1_s (hb Y d4_1) fun T73 X73 e73 => ?_
  refine iK X73 hx (z := 1) (hb Y d4_4) <| cN X73 hx (hb Y d4_5) <| aN X73 hx (hb Y d4_8) rfl rfl <| gF X73 hx hZ hO (w31 hw) Via.refl e73 F_c1_s (hb Y d4_9) fun T74 X74 e74 => ?_
  refine iK X74 hx (z := 1) (hb Y d4_12) <| cN X74 hx (hb Y d4_13) <| aN X74 hx (hb Y d4_16) rfl rfl <| gF X74 hx hZ hO (w20 hw) Via.refl e74 F_c1_r (hb Y d4_17) fun T75 X75 e75 => ?_
  refine aN X75 hx (hb Y d4_20) rfl rfl <| gF X75 hx hZ hO (w48 hw) Via.refl e75 F_c1_o (hb Y d4_21) fun T76 X76 e76 => ?_
  refine f_aald X76 hx hZ e76 V_c2 rfl (v := r3) rfl (hb Y d4_24) <| f_ifnonnullYv X76 hx (pc := 25) 32 nv_r3 (hb Y d4_25) <| iK X76 hx (z := 0) (hb Y d4_32) ?_
  exact f_ret X76 hx hlk (i := .ireturn) hret rfl (Or.inl ⟨rfl, Or.inr (Or.inl rfl), _, rfl⟩) (hb Y d4_33) (QQ := (QV (.int 0) h0 n0)) ⟨rfl, N0, e76⟩ (by decide) (by decide)
theorem q83 (l : Launch) (Z : State) (a0 : Array Value) (hw : HW a0 Z) (ws : List Jvm.Cond) (h0 : Heap) (n0 : Nat) (c1 : Nat) (c2 : Nat) (kc3 : ClassId) (r3 : Value) (F_c1_s : fS Z h0 c1 (.int 1)) (F_c1_r : fR Z h0 c1 (.ref c2)) (F_c1_o : fO Z h0 c1 (.int 0)) (V_c2 : aR Z h0 c2 kc3 2 [r3, .null]) (nv_r3 : r3 = .null) :
    MC l Z y4 prog_95_method_7_code 1 (some .boolean) ws rm_0_0_0_0 #[(.ref c1)] h0 (QV (.int 1) h0 n0) := by
  refine own_met (plainFor_of_name pn4) fun p e s m below meth c s₁ X0 hx hZ Y hml hO hnm hlk hret e0 => f_cast (f' := mkF m 0 #[(rv c1)] []) (by first | (simp [entryFrame, mkF, argsToLocals, Value.category]; done) | rfl) ?_
  have N0 := Fr.nil n0
  refine aN X0 hx (hb Y d4_0) rfl rfl <| gF X0 hx hZ hO (w31 hw) Via.refl e0 F_c1_s (hb Y d4_1) fun T79 X79 e79 => ?_
  refine iK X79 hx (z := 1) (hb Y d4_4) <| cN X79 hx (hb Y d4_5) <| aN X79 hx (hb Y d4_8) rfl rfl <| gF X79 hx hZ hO (w31 hw) Via.refl e79 F_c1_s (hb Y d4_9) fun T80 X80 e80 => ?_
  refine iK X80 hx (z := 1) (hb Y d4_12) <| cN X80 hx (hb Y d4_13) <| aN X80 hx (hb Y d4_16) rfl rfl <| gF X80 hx hZ hO (w20 hw) Via.refl e80 F_c1_r (hb Y d4_17) fun T81 X81 e81 => ?_
  refine aN X81 hx (hb Y d4_20) rfl rfl <| gF X81 hx hZ hO (w48 hw) Via.refl e81 F_c1_o (hb Y d4_21) fun T82 X82 e82 => ?_
  refine f_aald X82 hx hZ e82 V_c2 rfl (v := r3) rfl (hb Y d4_24) <| f_ifnonnullNv X82 hx nv_r3 (hb Y d4_25) <| iK X82 hx (z := 1) (hb Y d4_28) <| gT X82 hx (pc := 29) 33 (hb Y d4_29) ?_
  exact f_ret X82 hx hlk (i := .ireturn) hret rfl (Or.inl ⟨rfl, Or.inr (Or.inl rfl), _, rfl⟩) (hb Y d4_33) (QQ := (QV (.int 1) h0 n0)) ⟨rfl, N0, e82⟩ (by decide) (by decide)
theorem D1_1  (c1 : Nat) (c2 : Nat) (c3 : Nat) (c4 : Nat) (c5 : Nat) (kc1 : ClassId) (kc2 : ClassId) (kc3 : ClassId) (kc4 : ClassId) (t0 : Int32) (t1 : Int32) (t2 : Int32) (t3 : Int32) (t4 : Int32) (p0 : Int32) (p1 : Int64) (X0 : Stand p l e room_1 s m args below meth c T0 locs 5 13) (G : SG p s m meth c Z a0) (e0 : T0.heap = h0) (N0 : Fr n0 locs) (P : St3 Z h0 n0 c1 c2 c3 c4 c5 kc1 kc2 kc3 kc4 t0 t1 t2 t3 t4) (hk0 : t3 = (0 : Int32) → ∀ (T' : State) (locs' : List Loc), Stand p l e room_1 s m args below meth c T' locs' 5 13 → Fr n0 locs' → EndsSo p e below (LQ s n0) T' (mkF m 209 (FL p0 p1 0 1 t0 t1 t2 t3 t4 c1 c2 (iv 0) .unset .unset .unset .unset .unset) [])) (hk1 : t3 = (1 : Int32) → ∀ (T' : State) (locs' : List Loc), Stand p l e room_1 s m args below meth c T' locs' 5 13 → Fr n0 locs' → EndsSo p e below (LQ s n0) T' (mkF m 209 (FL p0 p1 0 1 t0 t1 t2 t3 t4 c1 c2 (iv 1) .unset .unset .unset .unset .unset) [])) :
    EndsSo p e below (LQ s n0) T0 (mkF m 150 (FL p0 p1 0 1 t0 t1 t2 t3 t4 c1 c2 .unset .unset .unset .unset .unset .unset) []) := by
  obtain ⟨hx, hZ, hw, Y, hml, hO, hlk, hret⟩ := id G
  obtain ⟨E_c1, V_c1, O_c1, E_c2, F_c2_t, F_c2_r, F_c2_c, F_c2_s, F_c2_o, V_c3, E_c4, V_c4, O_c4, E_c5, V_c5, O_c5, g_c1, lt_c1_c2, lt_c2_c3, lt_c3_c4, lt_c4_c5, ht0, ht1, ht2, ht3, ht4⟩ := id P
  refine iL X0 hx (hb Y at_150) rfl <| iK X0 hx (z := 1) (hb Y at_152) <| cN X0 hx (hb Y at_153) <| aA X0 hx (hb Y at_156) rfl rfl <| f_ldc2 X0 hx hZ hO (w56 hw) (hb Y at_158) <| iL X0 hx (hb Y at_161) rfl <| own_mrg X0 hx (row := c1) ht3 (pc := 163) (hb Y at_163) (hb Y at_170) (hb Y at_166) (hb Y at_167) rfl fun r3 rf_r3 rw_r3 rb_r3 => ?_
  refine f_null X0 hx (hb Y at_172) ?_
  have P71 : St4 Z h0 n0 c1 c2 c3 c4 c5 kc1 kc2 kc3 kc4 (0 : Int64) (0 : Int64) .null .null r3 := ⟨E_c1, V_c1, O_c1, E_c2, F_c2_t, F_c2_r, F_c2_c, F_c2_s, F_c2_o, V_c3, E_c4, V_c4, O_c4, E_c5, V_c5, O_c5, g_c1, lt_c1_c2, lt_c2_c3, lt_c3_c4, lt_c4_c5, rfl, (Or.inl rfl), rfl, (Or.inl rfl), rf_r3, rw_r3⟩
  refine vV X0 hx hZ hO (by rw [hml]; rfl) (w39 hw) (w40 hw) (w42 hw) (w41 hw) (w8 hw) (w43 hw) e0 E_c2 (argsL := [(.long 40), r3, .null]) (rest := []) (m70 l Z a0 hw [] h0 n0 c1 c2 c3 c4 c5 kc1 kc2 kc3 kc4 (0 : Int64) (0 : Int64) .null .null r3 (40 : Int64) P71) (lenOf pd5 rfl) (hb Y at_173) fun T39 L39 v39 X39 hQ39 => ?_
  obtain ⟨rfl, N39q, P39⟩ := hQ39
  obtain ⟨E_c1, V_c1, O_c1, E_c2, F_c2_t, F_c2_r, F_c2_c, F_c2_s, F_c2_o, V_c3, E_c4, V_c4, O_c4, E_c5, V_c5, O_c5, g_c1, lt_c1_c2, lt_c2_c3, lt_c3_c4, lt_c4_c5, _, _, _, _, _, _⟩ := id P39
  have N39 := Fr.app N0 N39q
  refine iL X39 hx (hb Y at_176) rfl <| iK X39 hx (z := 2) (hb Y at_178) <| cY X39 hx (pc := 179) 202 (hb Y at_179) ?_
  rcases id rb_r3 with ⟨tv3, nv_r3⟩ | ⟨tv3, nv_r3⟩
  · refine aA X39 hx (hb Y at_202) rfl rfl <| vV X39 hx hZ hO (by rw [hml]; rfl) (w33 hw) (w34 hw) (w36 hw) (w35 hw) (w8 hw) (w37 hw) rfl E_c2 (argsL := []) (rest := []) (q77 l Z a0 hw [] T39.heap n0 c2 c4 kc3 r3 c1 F_c2_s F_c2_r F_c2_o V_c4 nv_r3) (lenOf pd3 rfl) (hb Y at_204) fun T72 L72 v72 X72 hQ72 => ?_
    obtain ⟨rfl, N72q, e72⟩ := hQ72
    have N72 := Fr.app N39 N72q
    refine iS X72 hx (L' := (FL p0 p1 0 1 t0 t1 t2 t3 t4 c1 c2 (iv 0) .unset .unset .unset .unset .unset)) (hb Y at_207) rfl ?_
    exact hk0 tv3 _ _ X72 N72
  · refine aA X39 hx (hb Y at_202) rfl rfl <| vV X39 hx hZ hO (by rw [hml]; rfl) (w33 hw) (w34 hw) (w36 hw) (w35 hw) (w8 hw) (w37 hw) rfl E_c2 (argsL := []) (rest := []) (q83 l Z a0 hw [] T39.heap n0 c2 c4 kc3 r3 F_c2_s F_c2_r F_c2_o V_c4 nv_r3) (lenOf pd3 rfl) (hb Y at_204) fun T78 L78 v78 X78 hQ78 => ?_
    obtain ⟨rfl, N78q, e78⟩ := hQ78
    have N78 := Fr.app N39 N78q
    refine iS X78 hx (L' := (FL p0 p1 0 1 t0 t1 t2 t3 t4 c1 c2 (iv 1) .unset .unset .unset .unset .unset)) (hb Y at_207) rfl ?_
    exact hk1 tv3 _ _ X78 N78
theorem F2_1  {cells slots : Nat} (p0 : Int32) (p1 : Int64) (t0 : Int32) (t1 : Int32) (t2 : Int32) (t3 : Int32) (t4 : Int32) (c1 : Nat) (c2 : Nat) (X0 : Stand p l e room_1 s m args below meth c T0 locs cells slots) (G : SG p s m meth c Z a0) (tv3 : t3 = (0 : Int32)) (N0 : Fr n0 locs) (hK : cells ≤ room_1.cells) (hN : slots ≤ room_1.slots) :
    EndsSo p e below (LQ s n0) T0 (mkF m 303 (FL p0 p1 0 1 t0 t1 t2 t3 t4 c1 c2 (iv 0) (iv 0) .unset .unset .unset .unset) []) := by
  obtain ⟨hx, hZ, hw, Y, hml, hO, hlk, hret⟩ := id G
  refine iN X0 hx (hb Y at_303) rfl <| iL X0 hx (hb Y at_304) rfl <| iB X0 hx (z := 0) (hb Y at_306) <| iS X0 hx (L' := (FL p0 p1 0 1 t0 t1 t2 t3 t4 c1 c2 (iv 0) (iv 0) (iv 0) .unset .unset .unset)) (hb Y at_307) rfl <| iL X0 hx (hb Y at_309) rfl <| iL X0 hx (hb Y at_311) rfl <| iA X0 hx (z := 1) (hb Y at_313) <| iS X0 hx (L' := (FL p0 p1 0 1 t0 t1 t2 t3 t4 c1 c2 (iv 0) (iv 0) (iv 0) (iv 1) .unset .unset)) (hb Y at_314) rfl <| iL X0 hx (hb Y at_316) rfl <| iK X0 hx (z := 1) (hb Y at_318) <| cY X0 hx (pc := 319) 348 (hb Y at_319) <| iL X0 hx (hb Y at_348) rfl <| iS X0 hx (L' := (FL p0 p1 0 1 t0 t1 t2 t3 t4 c1 c2 (iv 0) (iv 0) (iv 0) (iv 1) (iv t3) .unset)) (hb Y at_350) rfl <| iL X0 hx (hb Y at_352) rfl <| iK X0 hx (z := 1) (hb Y at_354) <| cN X0 hx (hb Y at_355) <| iL X0 hx (hb Y at_358) rfl <| iK X0 hx (z := 1) (hb Y at_360) <| cN X0 hx (hb Y at_361) <| iL X0 hx (hb Y at_364) rfl <| fY X0 hx (pc := 366) 373 (hb Y at_366) (hc := (own_eqT tv3)) <| iK X0 hx (z := 0) (hb Y at_373) <| iS X0 hx (L' := (FL p0 p1 0 1 t0 t1 t2 t3 t4 c1 c2 (iv 0) (iv 0) (iv 0) (iv 1) (iv t3) (iv 0))) (hb Y at_374) rfl <| iL X0 hx (hb Y at_376) rfl <| iL X0 hx (hb Y at_378) rfl <| cN X0 hx (hb Y at_380) <| iK X0 hx (z := 1) (hb Y at_383) <| gT X0 hx (pc := 384) 388 (hb Y at_384) ?_
  exact f_ret X0 hx hlk (i := .ireturn) hret rfl (Or.inl ⟨rfl, Or.inr (Or.inl rfl), _, rfl⟩) (hb Y at_388) (QQ := (QL n0)) ⟨rfl, N0⟩ hK hN
theorem F2_2  {cells slots : Nat} (p0 : Int32) (p1 : Int64) (t0 : Int32) (t1 : Int32) (t2 : Int32) (t3 : Int32) (t4 : Int32) (c1 : Nat) (c2 : Nat) (X0 : Stand p l e room_1 s m args below meth c T0 locs cells slots) (G : SG p s m meth c Z a0) (tv3 : t3 = (1 : Int32)) (N0 : Fr n0 locs) (hK : cells ≤ room_1.cells) (hN : slots ≤ room_1.slots) :
    EndsSo p e below (LQ s n0) T0 (mkF m 303 (FL p0 p1 0 1 t0 t1 t2 t3 t4 c1 c2 (iv 1) (iv 0) .unset .unset .unset .unset) []) := by
  obtain ⟨hx, hZ, hw, Y, hml, hO, hlk, hret⟩ := id G
  refine iN X0 hx (hb Y at_303) rfl <| iL X0 hx (hb Y at_304) rfl <| iB X0 hx (z := 0) (hb Y at_306) <| iS X0 hx (L' := (FL p0 p1 0 1 t0 t1 t2 t3 t4 c1 c2 (iv 1) (iv 0) (iv 0) .unset .unset .unset)) (hb Y at_307) rfl <| iL X0 hx (hb Y at_309) rfl <| iL X0 hx (hb Y at_311) rfl <| iA X0 hx (z := 1) (hb Y at_313) <| iS X0 hx (L' := (FL p0 p1 0 1 t0 t1 t2 t3 t4 c1 c2 (iv 1) (iv 0) (iv 0) (iv 1) .unset .unset)) (hb Y at_314) rfl <| iL X0 hx (hb Y at_316) rfl <| iK X0 hx (z := 1) (hb Y at_318) <| cY X0 hx (pc := 319) 348 (hb Y at_319) <| iL X0 hx (hb Y at_348) rfl <| iS X0 hx (L' := (FL p0 p1 0 1 t0 t1 t2 t3 t4 c1 c2 (iv 1) (iv 0) (iv 0) (iv 1) (iv t3) .unset)) (hb Y at_350) rfl <| iL X0 hx (hb Y at_352) rfl <| iK X0 hx (z := 1) (hb Y at_354) <| cN X0 hx (hb Y at_355) <| iL X0 hx (hb Y at_358) rfl <| iK X0 hx (z := 1) (hb Y at_360) <| cN X0 hx (hb Y at_361) <| iL X0 hx (hb Y at_364) rfl <| fN X0 hx (hb Y at_366) (hc := (own_eq1 tv3)) <| iK X0 hx (z := 1) (hb Y at_369) <| gT X0 hx (pc := 370) 374 (hb Y at_370) <| iS X0 hx (L' := (FL p0 p1 0 1 t0 t1 t2 t3 t4 c1 c2 (iv 1) (iv 0) (iv 0) (iv 1) (iv t3) (iv 1))) (hb Y at_374) rfl <| iL X0 hx (hb Y at_376) rfl <| iL X0 hx (hb Y at_378) rfl <| cN X0 hx (hb Y at_380) <| iK X0 hx (z := 1) (hb Y at_383) <| gT X0 hx (pc := 384) 388 (hb Y at_384) ?_
  exact f_ret X0 hx hlk (i := .ireturn) hret rfl (Or.inl ⟨rfl, Or.inr (Or.inl rfl), _, rfl⟩) (hb Y at_388) (QQ := (QL n0)) ⟨rfl, N0⟩ hK hN
theorem q123 (l : Launch) (Z : State) (a0 : Array Value) (hw : HW a0 Z) (ws : List Jvm.Cond) (h0 : Heap) (n0 : Nat) (c1 : Nat) (c2 : Nat) (kc3 : ClassId) (vs_c2 : List Value) (F_c1_o : fO Z h0 c1 (.int 0)) (F_c1_t : fT Z h0 c1 (.ref c2)) (V_c2 : aL Z h0 c2 kc3 2 vs_c2) :
    MC l Z y6 prog_95_method_11_code 2 (some .int) ws rm_0_0_0_0 #[(.ref c1), (.int 1)] h0 (QV (.int 1) h0 n0) := by
  refine own_met (plainFor_of_name pn6) fun p e s m below meth c s₁ X0 hx hZ Y hml hO hnm hlk hret e0 => f_cast (f' := mkF m 0 #[(rv c1), (iv 1)] []) (by first | (simp [entryFrame, mkF, argsToLocals, Value.category]; done) | rfl) ?_
  have N0 := Fr.nil n0
  refine aN X0 hx (hb Y d6_0) rfl rfl <| gF X0 hx hZ hO (w48 hw) Via.refl e0 F_c1_o (hb Y d6_1) fun T121 X121 e121 => ?_
  refine iN X121 hx (hb Y d6_4) rfl <| iA X121 hx (z := 1) (hb Y d6_5) <| aN X121 hx (hb Y d6_6) rfl rfl <| gF X121 hx hZ hO (w16 hw) Via.refl e121 F_c1_t (hb Y d6_7) fun T122 X122 e122 => ?_
  refine f_len X122 hx hZ e122 V_c2 (hb Y d6_10) <| iK X122 hx (z := 1) (hb Y d6_11) <| iB X122 hx (z := 1) (hb Y d6_12) <| f_iand X122 hx (z := 1) (hb Y d6_13) ?_
  exact f_ret X122 hx hlk (i := .ireturn) hret rfl (Or.inl ⟨rfl, Or.inl rfl, _, rfl⟩) (hb Y d6_14) (QQ := (QV (.int 1) h0 n0)) ⟨rfl, N0, e122⟩ (by decide) (by decide)
def St6 (Z : State) (h : Heap) (n0 : Nat) (c1 : Nat) (c2 : Nat) (c3 : Nat) (c4 : Nat) (c5 : Nat) (kc1 : ClassId) (kc2 : ClassId) (kc3 : ClassId) (kc4 : ClassId) (uu1 : Int64) (uu2 : Int64) (ww3 : Value) (ww4 : Value) (ww6 : Value) : Prop :=
  xO Z h c1 ∧
  Arv Z h c1 kc1 (.object "java/lang/Object") 1 [.null] .null ∧
  Ovr Z kc1 "java/lang/Object" ∧
  Exa Z h c2 cV ∧
  fT Z h c2 (.ref c3) ∧
  fR Z h c2 (.ref c4) ∧
  fC Z h c2 (.ref c5) ∧
  fS Z h c2 (.int 1) ∧
  fO Z h c2 (.int 0) ∧
  aL Z h c3 kc2 2 [(.long uu1), (.long uu2)] ∧
  xR Z h c4 ∧
  aR Z h c4 kc3 2 [ww3, ww4] ∧
  oR Z kc3 ∧
  xC Z h c5 ∧
  aC Z h c5 kc4 2 [.null, .null] ∧
  oC Z kc4 ∧
  n0 ≤ c1 ∧
  c1 < c2 ∧
  c2 < c3 ∧
  c3 < c4 ∧
  c4 < c5 ∧
  ww3.isRef = true ∧
  (ww3 = .null ∨ ww3 = .ref c1) ∧
  ww4.isRef = true ∧
  (ww4 = .null ∨ ww4 = .ref c1) ∧
  ww6.isRef = true ∧
  (ww6 = .null ∨ ww6 = .ref c1)
def St7 (Z : State) (h : Heap) (n0 : Nat) (c1 : Nat) (c2 : Nat) (c3 : Nat) (c4 : Nat) (c5 : Nat) (kc1 : ClassId) (kc2 : ClassId) (kc3 : ClassId) (kc4 : ClassId) (uu1 : Int64) (uu5 : Int64) (ww3 : Value) (ww6 : Value) (ww4 : Value) : Prop :=
  xO Z h c1 ∧
  Arv Z h c1 kc1 (.object "java/lang/Object") 1 [.null] .null ∧
  Ovr Z kc1 "java/lang/Object" ∧
  Exa Z h c2 cV ∧
  fT Z h c2 (.ref c3) ∧
  fR Z h c2 (.ref c4) ∧
  fC Z h c2 (.ref c5) ∧
  fS Z h c2 (.int 2) ∧
  fO Z h c2 (.int 0) ∧
  aL Z h c3 kc2 2 [(.long uu1), (.long uu5)] ∧
  xR Z h c4 ∧
  aR Z h c4 kc3 2 [ww3, ww6] ∧
  oR Z kc3 ∧
  xC Z h c5 ∧
  aC Z h c5 kc4 2 [.null, .null] ∧
  oC Z kc4 ∧
  n0 ≤ c1 ∧
  c1 < c2 ∧
  c2 < c3 ∧
  c3 < c4 ∧
  c4 < c5 ∧
  ww3.isRef = true ∧
  (ww3 = .null ∨ ww3 = .ref c1) ∧
  ww4.isRef = true ∧
  (ww4 = .null ∨ ww4 = .ref c1) ∧
  ww6.isRef = true ∧
  (ww6 = .null ∨ ww6 = .ref c1)
def Qm132 (Z : State) (n0 : Nat) (c1 : Nat) (c2 : Nat) (c3 : Nat) (c4 : Nat) (c5 : Nat) (kc1 : ClassId) (kc2 : ClassId) (kc3 : ClassId) (kc4 : ClassId) (uu1 : Int64) (uu2 : Int64) (ww3 : Value) (ww4 : Value) (ww6 : Value) (uu5 : Int64) (v : Option Value) (h : Heap) (L : List Loc) : Prop := v = none ∧ Fr n0 L ∧ St7 Z h n0 c1 c2 c3 c4 c5 kc1 kc2 kc3 kc4 uu1 uu5 ww3 ww6 ww4
theorem m132 (l : Launch) (Z : State) (a0 : Array Value) (hw : HW a0 Z) (ws : List Jvm.Cond) (h0 : Heap) (n0 : Nat) (c1 : Nat) (c2 : Nat) (c3 : Nat) (c4 : Nat) (c5 : Nat) (kc1 : ClassId) (kc2 : ClassId) (kc3 : ClassId) (kc4 : ClassId) (uu1 : Int64) (uu2 : Int64) (ww3 : Value) (ww4 : Value) (ww6 : Value) (uu5 : Int64) (P : St6 Z h0 n0 c1 c2 c3 c4 c5 kc1 kc2 kc3 kc4 uu1 uu2 ww3 ww4 ww6) :
    MC l Z y5 prog_95_method_3_code 6 none ws rm_1_0_0_13 #[(.ref c2), (.long uu5), ww6, .null] h0 (Qm132 Z n0 c1 c2 c3 c4 c5 kc1 kc2 kc3 kc4 uu1 uu2 ww3 ww4 ww6 uu5) := by
  obtain ⟨E_c1, V_c1, O_c1, E_c2, F_c2_t, F_c2_r, F_c2_c, F_c2_s, F_c2_o, V_c3, E_c4, V_c4, O_c4, E_c5, V_c5, O_c5, g_c1, lt_c1_c2, lt_c2_c3, lt_c3_c4, lt_c4_c5, rf_ww3, rw_ww3, rf_ww4, rw_ww4, rf_ww6, rw_ww6⟩ := id P
  refine own_met (plainFor_of_name pn5) fun p e s m below meth c s₁ X0 hx hZ Y hml hO hnm hlk hret e0 => f_cast (f' := mkF m 0 #[(rv c2), (.val (.long uu5)), .second, (.val ww6), (.val .null), .unset] []) (by rcases ref_cases rf_ww6 with q | ⟨_, q⟩ <;> (rw [q]; first | (simp [entryFrame, mkF, argsToLocals, Value.category]; done) | rfl)) ?_
  have N0 := Fr.nil n0
  refine aN X0 hx (hb Y d5_0) rfl rfl <| gF X0 hx hZ hO (w31 hw) Via.refl e0 F_c2_s (hb Y d5_1) fun T117 X117 e117 => ?_
  refine aN X117 hx (hb Y d5_4) rfl rfl <| gF X117 hx hZ hO (w16 hw) Via.refl e117 F_c2_t (hb Y d5_5) fun T118 X118 e118 => ?_
  refine f_len X118 hx hZ e118 V_c3 (hb Y d5_8) <| cY X118 hx (pc := 9) 22 (hb Y d5_9) <| aN X118 hx (hb Y d5_22) rfl rfl <| aN X118 hx (hb Y d5_23) rfl rfl <| gF X118 hx hZ hO (w31 hw) Via.refl e118 F_c2_s (hb Y d5_24) fun T119 X119 e119 => ?_
  refine pV X119 hx hZ hO (by rw [hml]; rfl) (w44 hw) (w45 hw) (w46 hw) (w7 hw) (w8 hw) (w47 hw) e119 E_c2 (argsL := [(.int 1)]) (rest := []) (q123 l Z a0 hw [] h0 n0 c2 c3 kc2 _ F_c2_o F_c2_t V_c3) (lenOf pd4 rfl) (hb Y d5_27) fun T120 L120 v120 X120 hQ120 => ?_
  obtain ⟨rfl, N120q, e120⟩ := hQ120
  have N120 := Fr.app N0 N120q
  refine iS X120 hx (L' := #[(rv c2), (.val (.long uu5)), .second, (.val ww6), (.val .null), (iv 1)]) (hb Y d5_30) rfl <| aN X120 hx (hb Y d5_32) rfl rfl <| gF X120 hx hZ hO (w16 hw) Via.refl e120 F_c2_t (hb Y d5_33) fun T124 X124 e124 => ?_
  refine iL X124 hx (hb Y d5_36) rfl <| lN X124 hx (hb Y d5_38) rfl <| f_lst X124 hx hZ e124 V_c3 1 (hb Y d5_39) fun T125 h125 X125 e125 W125 V125 => ?_
  have N125x := Fr.snoc X125 N120 (by omega : n0 ≤ c3)
  refine aN X125 hx (hb Y d5_40) rfl rfl ?_
  replace F_c2_r := (fo W125 F_c2_r)
  refine gF X125 hx hZ hO (w20 hw) Via.refl e125 F_c2_r (hb Y d5_41) fun T126 X126 e126 => ?_
  refine iL X126 hx (hb Y d5_44) rfl <| aN X126 hx (hb Y d5_46) rfl rf_ww6 ?_
  replace V_c4 := (vo V_c4 W125)
  replace E_c1 := (xw W125 E_c1)
  refine f_ast X126 hx hZ e126 V_c4 rfl (own_sto rw_ww6 (own_stoVA V_c4 O_c4 (Ins.self E_c1))) (own_fits rf_ww6) 1 (hb Y d5_47) fun T127 h127 X127 e127 W127 V127 => ?_
  have N127x := Fr.snoc X127 N125x (by omega : n0 ≤ c4)
  refine aN X127 hx (hb Y d5_48) rfl rfl ?_
  replace F_c2_c := (fo W127 (fo W125 F_c2_c))
  refine gF X127 hx hZ hO (w24 hw) Via.refl e127 F_c2_c (hb Y d5_49) fun T128 X128 e128 => ?_
  refine iL X128 hx (hb Y d5_52) rfl <| aA X128 hx (hb Y d5_54) rfl rfl ?_
  replace V_c5 := (vo (vo V_c5 W125) W127)
  refine f_ast X128 hx hZ e128 V_c5 rfl (Or.inl rfl) rfl 1 (hb Y d5_56) fun T129 h129 X129 e129 W129 V129 => ?_
  have N129x := Fr.snoc X129 N127x (by omega : n0 ≤ c5)
  refine aN X129 hx (hb Y d5_57) rfl rfl <| f_dup X129 hx (hb Y d5_58) rfl ?_
  replace F_c2_s := (fo W129 (fo W127 (fo W125 F_c2_s)))
  refine gF X129 hx hZ hO (w31 hw) Via.refl e129 F_c2_s (hb Y d5_59) fun T130 X130 e130 => ?_
  refine iK X130 hx (z := 1) (hb Y d5_62) <| iA X130 hx (z := 2) (hb Y d5_63) ?_
  replace E_c2 := (xw W129 (xw W127 (xw W125 E_c2)))
  refine f_putF X130 hx hZ hO (w31 hw) Via.refl e130 F_c2_s E_c2 (Or.inl (w32 hw)) (w7 hw) (ty := .int) (by decide) rfl rfl (hb Y d5_64) fun T131 h131 X131 e131 W131 => ?_
  have N131x := Fr.snoc X131 N129x (by omega : n0 ≤ c2)
  exact f_ret0 X131 hx hlk hret (hb Y d5_67) (QQ := (Qm132 Z n0 c1 c2 c3 c4 c5 kc1 kc2 kc3 kc4 uu1 uu2 ww3 ww4 ww6 uu5)) (by rw [e131]; exact ⟨rfl, N131x, (xw W131 (xw W129 (xw W127 E_c1))), (vo (vo (vo (vo V_c1 W125) W127) W129) W131), O_c1, (xw W131 E_c2), (Fld.other W131 (fo W129 (fo W127 (fo W125 F_c2_t))) (Or.inr (slot_ne (Or.inl (w17 hw)) (Or.inl (w32 hw)) (by decide) (t := (.array .long)) (t' := .int) (by decide) (by decide)))), (Fld.other W131 (fo W129 (fo W127 F_c2_r)) (Or.inr (slot_ne (Or.inl (w21 hw)) (Or.inl (w32 hw)) (by decide) (t := (.array (.array (.object "java/lang/Object")))) (t' := .int) (by decide) (by decide)))), (Fld.other W131 (fo W129 F_c2_c) (Or.inr (slot_ne (Or.inl (w25 hw)) (Or.inl (w32 hw)) (by decide) (t := (.array (.array .int))) (t' := .int) (by decide) (by decide)))), (Fld.same W131 F_c2_s), (Fld.other W131 (fo W129 (fo W127 (fo W125 F_c2_o))) (Or.inr (slot_ne (Or.inl (w49 hw)) (Or.inl (w32 hw)) (by decide) (t := .int) (t' := .int) (by decide) (by decide)))), (vo (vo (vo V125 W127) W129) W131), (xw W131 (xw W129 (xw W127 (xw W125 E_c4)))), (vo (vo V127 W129) W131), O_c4, (xw W131 (xw W129 (xw W127 (xw W125 E_c5)))), (vo V129 W131), O_c5, g_c1, lt_c1_c2, lt_c2_c3, lt_c3_c4, lt_c4_c5, rf_ww3, rw_ww3, rf_ww4, rw_ww4, rf_ww6, rw_ww6⟩) (by decide) (by decide)
theorem q136 (l : Launch) (Z : State) (a0 : Array Value) (hw : HW a0 Z) (ws : List Jvm.Cond) (h0 : Heap) (n0 : Nat) (c1 : Nat) (F_c1_s : fS Z h0 c1 (.int 2)) :
    MC l Z y4 prog_95_method_7_code 1 (some .boolean) ws rm_0_0_0_0 #[(.ref c1)] h0 (QV (.int 1) h0 n0) := by
  refine own_met (plainFor_of_name pn4) fun p e s m below meth c s₁ X0 hx hZ Y hml hO hnm hlk hret e0 => f_cast (f' := mkF m 0 #[(rv c1)] []) (by first | (simp [entryFrame, mkF, argsToLocals, Value.category]; done) | rfl) ?_
  have N0 := Fr.nil n0
  refine aN X0 hx (hb Y d4_0) rfl rfl <| gF X0 hx hZ hO (w31 hw) Via.refl e0 F_c1_s (hb Y d4_1) fun T135 X135 e135 => ?_
  refine iK X135 hx (z := 1) (hb Y d4_4) <| cY X135 hx (pc := 5) 28 (hb Y d4_5) <| iK X135 hx (z := 1) (hb Y d4_28) <| gT X135 hx (pc := 29) 33 (hb Y d4_29) ?_
  exact f_ret X135 hx hlk (i := .ireturn) hret rfl (Or.inl ⟨rfl, Or.inr (Or.inl rfl), _, rfl⟩) (hb Y d4_33) (QQ := (QV (.int 1) h0 n0)) ⟨rfl, N0, e135⟩ (by decide) (by decide)
theorem D2_2  (c1 : Nat) (c2 : Nat) (c3 : Nat) (c4 : Nat) (c5 : Nat) (kc1 : ClassId) (kc2 : ClassId) (kc3 : ClassId) (kc4 : ClassId) (t0 : Int32) (t1 : Int32) (t2 : Int32) (t3 : Int32) (t4 : Int32) (p0 : Int32) (p1 : Int64) (X0 : Stand p l e room_1 s m args below meth c T0 locs 5 13) (G : SG p s m meth c Z a0) (e0 : T0.heap = h0) (N0 : Fr n0 locs) (P : St3 Z h0 n0 c1 c2 c3 c4 c5 kc1 kc2 kc3 kc4 t0 t1 t2 t3 t4) (hk0 : ∀ (T' : State) (locs' : List Loc), Stand p l e room_1 s m args below meth c T' locs' 5 13 → Fr n0 locs' → EndsSo p e below (LQ s n0) T' (mkF m 209 (FL p0 p1 0 2 t0 t1 t2 t3 t4 c1 c2 (iv 1) .unset .unset .unset .unset .unset) [])) :
    EndsSo p e below (LQ s n0) T0 (mkF m 150 (FL p0 p1 0 2 t0 t1 t2 t3 t4 c1 c2 .unset .unset .unset .unset .unset .unset) []) := by
  obtain ⟨hx, hZ, hw, Y, hml, hO, hlk, hret⟩ := id G
  obtain ⟨E_c1, V_c1, O_c1, E_c2, F_c2_t, F_c2_r, F_c2_c, F_c2_s, F_c2_o, V_c3, E_c4, V_c4, O_c4, E_c5, V_c5, O_c5, g_c1, lt_c1_c2, lt_c2_c3, lt_c3_c4, lt_c4_c5, ht0, ht1, ht2, ht3, ht4⟩ := id P
  refine iL X0 hx (hb Y at_150) rfl <| iK X0 hx (z := 1) (hb Y at_152) <| cN X0 hx (hb Y at_153) <| aA X0 hx (hb Y at_156) rfl rfl <| f_ldc2 X0 hx hZ hO (w56 hw) (hb Y at_158) <| iL X0 hx (hb Y at_161) rfl <| own_mrg X0 hx (row := c1) ht3 (pc := 163) (hb Y at_163) (hb Y at_170) (hb Y at_166) (hb Y at_167) rfl fun r3 rf_r3 rw_r3 rb_r3 => ?_
  refine f_null X0 hx (hb Y at_172) ?_
  have P100 : St4 Z h0 n0 c1 c2 c3 c4 c5 kc1 kc2 kc3 kc4 (0 : Int64) (0 : Int64) .null .null r3 := ⟨E_c1, V_c1, O_c1, E_c2, F_c2_t, F_c2_r, F_c2_c, F_c2_s, F_c2_o, V_c3, E_c4, V_c4, O_c4, E_c5, V_c5, O_c5, g_c1, lt_c1_c2, lt_c2_c3, lt_c3_c4, lt_c4_c5, rfl, (Or.inl rfl), rfl, (Or.inl rfl), rf_r3, rw_r3⟩
  refine vV X0 hx hZ hO (by rw [hml]; rfl) (w39 hw) (w40 hw) (w42 hw) (w41 hw) (w8 hw) (w43 hw) e0 E_c2 (argsL := [(.long 40), r3, .null]) (rest := []) (m70 l Z a0 hw [] h0 n0 c1 c2 c3 c4 c5 kc1 kc2 kc3 kc4 (0 : Int64) (0 : Int64) .null .null r3 (40 : Int64) P100) (lenOf pd5 rfl) (hb Y at_173) fun T85 L85 v85 X85 hQ85 => ?_
  obtain ⟨rfl, N85q, P85⟩ := hQ85
  obtain ⟨E_c1, V_c1, O_c1, E_c2, F_c2_t, F_c2_r, F_c2_c, F_c2_s, F_c2_o, V_c3, E_c4, V_c4, O_c4, E_c5, V_c5, O_c5, g_c1, lt_c1_c2, lt_c2_c3, lt_c3_c4, lt_c4_c5, _, _, _, _, _, _⟩ := id P85
  have N85 := Fr.app N0 N85q
  refine iL X85 hx (hb Y at_176) rfl <| iK X85 hx (z := 2) (hb Y at_178) <| cN X85 hx (hb Y at_179) <| aA X85 hx (hb Y at_182) rfl rfl <| f_ldc2 X85 hx hZ hO (w62 hw) (hb Y at_184) <| iL X85 hx (hb Y at_187) rfl <| own_mrg X85 hx (row := c1) ht4 (pc := 189) (hb Y at_189) (hb Y at_196) (hb Y at_192) (hb Y at_193) rfl fun r4 rf_r4 rw_r4 rb_r4 => ?_
  refine f_null X85 hx (hb Y at_198) ?_
  have P133 : St6 Z T85.heap n0 c1 c2 c3 c4 c5 kc1 kc2 kc3 kc4 (40 : Int64) (0 : Int64) r3 .null r4 := ⟨E_c1, V_c1, O_c1, E_c2, F_c2_t, F_c2_r, F_c2_c, F_c2_s, F_c2_o, V_c3, E_c4, V_c4, O_c4, E_c5, V_c5, O_c5, g_c1, lt_c1_c2, lt_c2_c3, lt_c3_c4, lt_c4_c5, rf_r3, rw_r3, rfl, (Or.inl rfl), rf_r4, rw_r4⟩
  refine vV X85 hx hZ hO (by rw [hml]; rfl) (w39 hw) (w40 hw) (w42 hw) (w41 hw) (w8 hw) (w43 hw) rfl E_c2 (argsL := [(.long 50), r4, .null]) (rest := []) (m132 l Z a0 hw [] T85.heap n0 c1 c2 c3 c4 c5 kc1 kc2 kc3 kc4 (40 : Int64) (0 : Int64) r3 .null r4 (50 : Int64) P133) (lenOf pd5 rfl) (hb Y at_199) fun T101 L101 v101 X101 hQ101 => ?_
  obtain ⟨rfl, N101q, P101⟩ := hQ101
  obtain ⟨E_c1, V_c1, O_c1, E_c2, F_c2_t, F_c2_r, F_c2_c, F_c2_s, F_c2_o, V_c3, E_c4, V_c4, O_c4, E_c5, V_c5, O_c5, g_c1, lt_c1_c2, lt_c2_c3, lt_c3_c4, lt_c4_c5, _, _, _, _, _, _⟩ := id P101
  have N101 := Fr.app N85 N101q
  refine aA X101 hx (hb Y at_202) rfl rfl <| vV X101 hx hZ hO (by rw [hml]; rfl) (w33 hw) (w34 hw) (w36 hw) (w35 hw) (w8 hw) (w37 hw) rfl E_c2 (argsL := []) (rest := []) (q136 l Z a0 hw [] T101.heap n0 c2 F_c2_s) (lenOf pd3 rfl) (hb Y at_204) fun T134 L134 v134 X134 hQ134 => ?_
  obtain ⟨rfl, N134q, e134⟩ := hQ134
  have N134 := Fr.app N101 N134q
  refine iS X134 hx (L' := (FL p0 p1 0 2 t0 t1 t2 t3 t4 c1 c2 (iv 1) .unset .unset .unset .unset .unset)) (hb Y at_207) rfl ?_
  exact hk0 _ _ X134 N134
theorem F2_3  {cells slots : Nat} (p0 : Int32) (p1 : Int64) (t0 : Int32) (t1 : Int32) (t2 : Int32) (t3 : Int32) (t4 : Int32) (c1 : Nat) (c2 : Nat) (X0 : Stand p l e room_1 s m args below meth c T0 locs cells slots) (G : SG p s m meth c Z a0) (N0 : Fr n0 locs) (hK : cells ≤ room_1.cells) (hN : slots ≤ room_1.slots) :
    EndsSo p e below (LQ s n0) T0 (mkF m 303 (FL p0 p1 0 2 t0 t1 t2 t3 t4 c1 c2 (iv 1) (iv 0) .unset .unset .unset .unset) []) := by
  obtain ⟨hx, hZ, hw, Y, hml, hO, hlk, hret⟩ := id G
  refine iN X0 hx (hb Y at_303) rfl <| iL X0 hx (hb Y at_304) rfl <| iB X0 hx (z := 0) (hb Y at_306) <| iS X0 hx (L' := (FL p0 p1 0 2 t0 t1 t2 t3 t4 c1 c2 (iv 1) (iv 0) (iv 0) .unset .unset .unset)) (hb Y at_307) rfl <| iL X0 hx (hb Y at_309) rfl <| iL X0 hx (hb Y at_311) rfl <| iA X0 hx (z := 2) (hb Y at_313) <| iS X0 hx (L' := (FL p0 p1 0 2 t0 t1 t2 t3 t4 c1 c2 (iv 1) (iv 0) (iv 0) (iv 2) .unset .unset)) (hb Y at_314) rfl <| iL X0 hx (hb Y at_316) rfl <| iK X0 hx (z := 1) (hb Y at_318) <| cY X0 hx (pc := 319) 348 (hb Y at_319) <| iL X0 hx (hb Y at_348) rfl <| iS X0 hx (L' := (FL p0 p1 0 2 t0 t1 t2 t3 t4 c1 c2 (iv 1) (iv 0) (iv 0) (iv 2) (iv t3) .unset)) (hb Y at_350) rfl <| iL X0 hx (hb Y at_352) rfl <| iK X0 hx (z := 1) (hb Y at_354) <| cY X0 hx (pc := 355) 369 (hb Y at_355) <| iK X0 hx (z := 1) (hb Y at_369) <| gT X0 hx (pc := 370) 374 (hb Y at_370) <| iS X0 hx (L' := (FL p0 p1 0 2 t0 t1 t2 t3 t4 c1 c2 (iv 1) (iv 0) (iv 0) (iv 2) (iv t3) (iv 1))) (hb Y at_374) rfl <| iL X0 hx (hb Y at_376) rfl <| iL X0 hx (hb Y at_378) rfl <| cN X0 hx (hb Y at_380) <| iK X0 hx (z := 1) (hb Y at_383) <| gT X0 hx (pc := 384) 388 (hb Y at_384) ?_
  exact f_ret X0 hx hlk (i := .ireturn) hret rfl (Or.inl ⟨rfl, Or.inr (Or.inl rfl), _, rfl⟩) (hb Y at_388) (QQ := (QL n0)) ⟨rfl, N0⟩ hK hN
theorem C0_0  (c1 : Nat) (c2 : Nat) (c3 : Nat) (c4 : Nat) (c5 : Nat) (kc1 : ClassId) (kc2 : ClassId) (kc3 : ClassId) (kc4 : ClassId) (t0 : Int32) (t1 : Int32) (t2 : Int32) (t3 : Int32) (t4 : Int32) (mm : Int32) (p0 : Int32) (p1 : Int64) (X0 : Stand p l e room_1 s m args below meth c T0 locs 5 13) (G : SG p s m meth c Z a0) (e0 : T0.heap = h0) (N0 : Fr n0 locs) (P : St2 Z h0 n0 c1 c2 c3 c4 c5 kc1 kc2 kc3 kc4 t0 t1 t2 t3 t4 mm) :
    EndsSo p e below (LQ s n0) T0 (mkF m 143 (FL p0 p1 0 mm t0 t1 t2 t3 t4 c1 c2 .unset .unset .unset .unset .unset .unset) []) := by
  obtain ⟨hx, hZ, hw, Y, hml, hO, hlk, hret⟩ := id G
  obtain ⟨E_c1, V_c1, O_c1, E_c2, F_c2_t, F_c2_r, F_c2_c, F_c2_s, F_c2_o, V_c3, E_c4, V_c4, O_c4, E_c5, V_c5, O_c5, g_c1, lt_c1_c2, lt_c2_c3, lt_c3_c4, lt_c4_c5, ht0, ht1, ht2, ht3, ht4, hm3⟩ := id P
  refine aA X0 hx (hb Y at_143) rfl rfl <| lN X0 hx (hb Y at_145) rfl <| vV X0 hx hZ hO (by rw [hml]; rfl) (w26 hw) (w27 hw) (w29 hw) (w28 hw) (w8 hw) (w30 hw) e0 E_c2 (argsL := [(.long p1)]) (rest := []) (q33 l Z a0 hw [] h0 n0 c2 p1 F_c2_s) (lenOf pd2 rfl) (hb Y at_146) fun T31 L31 v31 X31 hQ31 => ?_
  obtain ⟨rfl, N31q, e31⟩ := hQ31
  have N31 := Fr.app N0 N31q
  refine f_pop X31 hx (hb Y at_149) rfl ?_
  rcases id hm3 with rfl | rfl | rfl
  · have P38 : St3 Z h0 n0 c1 c2 c3 c4 c5 kc1 kc2 kc3 kc4 t0 t1 t2 t3 t4 := ⟨E_c1, V_c1, O_c1, E_c2, F_c2_t, F_c2_r, F_c2_c, F_c2_s, F_c2_o, V_c3, E_c4, V_c4, O_c4, E_c5, V_c5, O_c5, g_c1, lt_c1_c2, lt_c2_c3, lt_c3_c4, lt_c4_c5, ht0, ht1, ht2, ht3, ht4⟩
    exact D0_0 c1 c2 c3 c4 c5 kc1 kc2 kc3 kc4 t0 t1 t2 t3 t4 p0 p1 X31 G e31 N31 P38 (fun T' locs' X' N' => F1_0 p0 p1 (0 : Int32) (0 : Int32) t0 t1 t2 t3 t4 c1 c2 X' G (F2_0 p0 p1 t0 t1 t2 t3 t4 c1 c2 X' G N' (by decide) (by decide)))
  · have P84 : St3 Z h0 n0 c1 c2 c3 c4 c5 kc1 kc2 kc3 kc4 t0 t1 t2 t3 t4 := ⟨E_c1, V_c1, O_c1, E_c2, F_c2_t, F_c2_r, F_c2_c, F_c2_s, F_c2_o, V_c3, E_c4, V_c4, O_c4, E_c5, V_c5, O_c5, g_c1, lt_c1_c2, lt_c2_c3, lt_c3_c4, lt_c4_c5, ht0, ht1, ht2, ht3, ht4⟩
    exact D1_1 c1 c2 c3 c4 c5 kc1 kc2 kc3 kc4 t0 t1 t2 t3 t4 p0 p1 X31 G e31 N31 P84 (fun tv3 T' locs' X' N' => F1_0 p0 p1 (1 : Int32) (0 : Int32) t0 t1 t2 t3 t4 c1 c2 X' G (F2_1 p0 p1 t0 t1 t2 t3 t4 c1 c2 X' G tv3 N' (by decide) (by decide))) (fun tv3 T' locs' X' N' => F1_0 p0 p1 (1 : Int32) (1 : Int32) t0 t1 t2 t3 t4 c1 c2 X' G (F2_2 p0 p1 t0 t1 t2 t3 t4 c1 c2 X' G tv3 N' (by decide) (by decide)))
  · have P137 : St3 Z h0 n0 c1 c2 c3 c4 c5 kc1 kc2 kc3 kc4 t0 t1 t2 t3 t4 := ⟨E_c1, V_c1, O_c1, E_c2, F_c2_t, F_c2_r, F_c2_c, F_c2_s, F_c2_o, V_c3, E_c4, V_c4, O_c4, E_c5, V_c5, O_c5, g_c1, lt_c1_c2, lt_c2_c3, lt_c3_c4, lt_c4_c5, ht0, ht1, ht2, ht3, ht4⟩
    exact D2_2 c1 c2 c3 c4 c5 kc1 kc2 kc3 kc4 t0 t1 t2 t3 t4 p0 p1 X31 G e31 N31 P137 (fun T' locs' X' N' => F1_0 p0 p1 (2 : Int32) (1 : Int32) t0 t1 t2 t3 t4 c1 c2 X' G (F2_3 p0 p1 t0 t1 t2 t3 t4 c1 c2 X' G N' (by decide) (by decide)))
theorem law_0 (l : Launch) (Z : State) (a0 : Array Value) (hw : HW a0 Z) (ws : List Jvm.Cond) (h0 : Heap) (n0 : Nat) (Z0 : n0 ≤ h0.size) (p0 : Int32) (p1 : Int64) (mm : Int32) (hn1 : (((p0.toUInt32 >>> ((5 : Int32) &&& 31).toUInt32).toInt32) &&& (3 : Int32)) = (0 : Int32)) (hmm : ((((p0.toUInt32 >>> ((7 : Int32) &&& 31).toUInt32).toInt32) &&& (255 : Int32)) % (3 : Int32)) = mm) (hm3 : mm = (0 : Int32) ∨ mm = (1 : Int32) ∨ mm = (2 : Int32)) :
    MC l Z x code maxLocals ret ws room_1 #[(.int p0), (.long p1)] h0 (QL n0) := by
  refine own_met (plainFor_of_name pn12) fun p e s m below meth c s₁ X0 hx hZ Y hml hO hnm hlk hret e0 => f_cast (f' := mkF m 0 #[(iv p0), (.val (.long p1)), .second, .unset, .unset, .unset, .unset, .unset, .unset, .unset, .unset, .unset, .unset, .unset, .unset, .unset, .unset, .unset] []) (by first | (simp [entryFrame, mkF, argsToLocals, Value.category, maxLocals]; done) | rfl) ?_
  have N0 := Fr.nil n0
  have G : SG p s m meth c Z a0 := ⟨hx, hZ, hw, Y, hml, hO, hlk, hret⟩
  refine iN X0 hx (hb Y at_0) rfl <| iK X0 hx (z := 5) (hb Y at_1) <| f_iushr X0 hx (z := ((p0.toUInt32 >>> ((5 : Int32) &&& 31).toUInt32).toInt32)) (hb Y at_2) (q := rfl) <| iK X0 hx (z := 3) (hb Y at_3) <| f_iand X0 hx (z := 0) (hb Y at_4) (q := hn1) <| sN X0 hx (L' := #[(iv p0), (.val (.long p1)), .second, (iv 0), .unset, .unset, .unset, .unset, .unset, .unset, .unset, .unset, .unset, .unset, .unset, .unset, .unset, .unset]) (hb Y at_5) rfl <| iN X0 hx (hb Y at_6) rfl <| f_bipush X0 hx (z := 7) (hb Y at_7) <| f_iushr X0 hx (z := ((p0.toUInt32 >>> ((7 : Int32) &&& 31).toUInt32).toInt32)) (hb Y at_9) (q := rfl) <| f_sipush X0 hx (z := 255) (hb Y at_10) <| f_iand X0 hx (z := (((p0.toUInt32 >>> ((7 : Int32) &&& 31).toUInt32).toInt32) &&& (255 : Int32))) (hb Y at_13) (q := rfl) <| iK X0 hx (z := 3) (hb Y at_14) <| f_irem X0 hx (z := mm) (hb Y at_15) (by decide) (q := hmm) <| iS X0 hx (L' := #[(iv p0), (.val (.long p1)), .second, (iv 0), (iv mm), .unset, .unset, .unset, .unset, .unset, .unset, .unset, .unset, .unset, .unset, .unset, .unset, .unset]) (hb Y at_16) rfl <| iN X0 hx (hb Y at_18) rfl <| iK X0 hx (z := 0) (hb Y at_19) <| f_stat X0 hx hZ hO (by rw [hml]; rfl) (w0 hw) (w1 hw) (w2 hw) (w3 hw) e0 (argsL := [(.int p0), (.int 0)]) (rest := []) (own_bit l Z a0 hw [] h0 n0 p0 (0 : Int32)) (lenOf pd0 rfl) (hb Y at_20) fun T1 L1 v1 X1 hQ1 => ?_
  obtain ⟨t0, rfl, ht0, N1q, e1⟩ := hQ1
  have N1 := Fr.app N0 N1q
  refine iS X1 hx (L' := #[(iv p0), (.val (.long p1)), .second, (iv 0), (iv mm), (iv t0), .unset, .unset, .unset, .unset, .unset, .unset, .unset, .unset, .unset, .unset, .unset, .unset]) (hb Y at_23) rfl <| iN X1 hx (hb Y at_25) rfl <| iK X1 hx (z := 1) (hb Y at_26) <| f_stat X1 hx hZ hO (by rw [hml]; rfl) (w0 hw) (w1 hw) (w2 hw) (w3 hw) e1 (argsL := [(.int p0), (.int 1)]) (rest := []) (own_bit l Z a0 hw [] h0 n0 p0 (1 : Int32)) (lenOf pd0 rfl) (hb Y at_27) fun T2 L2 v2 X2 hQ2 => ?_
  obtain ⟨t1, rfl, ht1, N2q, e2⟩ := hQ2
  have N2 := Fr.app N1 N2q
  refine iS X2 hx (L' := #[(iv p0), (.val (.long p1)), .second, (iv 0), (iv mm), (iv t0), (iv t1), .unset, .unset, .unset, .unset, .unset, .unset, .unset, .unset, .unset, .unset, .unset]) (hb Y at_30) rfl <| iN X2 hx (hb Y at_32) rfl <| iK X2 hx (z := 2) (hb Y at_33) <| f_stat X2 hx hZ hO (by rw [hml]; rfl) (w0 hw) (w1 hw) (w2 hw) (w3 hw) e2 (argsL := [(.int p0), (.int 2)]) (rest := []) (own_bit l Z a0 hw [] h0 n0 p0 (2 : Int32)) (lenOf pd0 rfl) (hb Y at_34) fun T3 L3 v3 X3 hQ3 => ?_
  obtain ⟨t2, rfl, ht2, N3q, e3⟩ := hQ3
  have N3 := Fr.app N2 N3q
  refine iS X3 hx (L' := #[(iv p0), (.val (.long p1)), .second, (iv 0), (iv mm), (iv t0), (iv t1), (iv t2), .unset, .unset, .unset, .unset, .unset, .unset, .unset, .unset, .unset, .unset]) (hb Y at_37) rfl <| iN X3 hx (hb Y at_39) rfl <| iK X3 hx (z := 3) (hb Y at_40) <| f_stat X3 hx hZ hO (by rw [hml]; rfl) (w0 hw) (w1 hw) (w2 hw) (w3 hw) e3 (argsL := [(.int p0), (.int 3)]) (rest := []) (own_bit l Z a0 hw [] h0 n0 p0 (3 : Int32)) (lenOf pd0 rfl) (hb Y at_41) fun T4 L4 v4 X4 hQ4 => ?_
  obtain ⟨t3, rfl, ht3, N4q, e4⟩ := hQ4
  have N4 := Fr.app N3 N4q
  refine iS X4 hx (L' := #[(iv p0), (.val (.long p1)), .second, (iv 0), (iv mm), (iv t0), (iv t1), (iv t2), (iv t3), .unset, .unset, .unset, .unset, .unset, .unset, .unset, .unset, .unset]) (hb Y at_44) rfl <| iN X4 hx (hb Y at_46) rfl <| iK X4 hx (z := 4) (hb Y at_47) <| f_stat X4 hx hZ hO (by rw [hml]; rfl) (w0 hw) (w1 hw) (w2 hw) (w3 hw) e4 (argsL := [(.int p0), (.int 4)]) (rest := []) (own_bit l Z a0 hw [] h0 n0 p0 (4 : Int32)) (lenOf pd0 rfl) (hb Y at_48) fun T5 L5 v5 X5 hQ5 => ?_
  obtain ⟨t4, rfl, ht4, N5q, e5⟩ := hQ5
  have N5 := Fr.app N4 N5q
  refine iS X5 hx (L' := #[(iv p0), (.val (.long p1)), .second, (iv 0), (iv mm), (iv t0), (iv t1), (iv t2), (iv t3), (iv t4), .unset, .unset, .unset, .unset, .unset, .unset, .unset, .unset]) (hb Y at_51) rfl <| iK X5 hx (z := 1) (hb Y at_53) <| f_newR X5 hx hZ hO (w4 hw) (w5 hw) e5 (hb Y at_54) 1 (ad := "[Ljava/lang/Object;") (by decide +kernel) fun T6 h6 kb6 b6 g6 X6 e6 E6 V_b6 E_b6 O_b6 => ?_
  have g_b6 : n0 ≤ b6 := by omega
  refine f_astore X6 hx (L' := #[(iv p0), (.val (.long p1)), .second, (iv 0), (iv mm), (iv t0), (iv t1), (iv t2), (iv t3), (iv t4), (rv b6), .unset, .unset, .unset, .unset, .unset, .unset, .unset]) (hb Y at_57) rfl rfl <| f_newO X6 hx hZ hO (w6 hw) (w7 hw) (w8 hw) e6 (hb Y at_59) fun T7 h7 b7 g7 X7 e7 E7 A7 D7 => ?_
  have lt_b6_b7 : b6 < b7 := by have := own_ltE E_b6; omega
  have F_b7_t : fT Z h7 b7 .null := D7 (Or.inl (w17 hw)) (ty := (.array .long)) (by decide)
  have F_b7_r : fR Z h7 b7 .null := D7 (Or.inl (w21 hw)) (ty := (.array (.array (.object "java/lang/Object")))) (by decide)
  have F_b7_c : fC Z h7 b7 .null := D7 (Or.inl (w25 hw)) (ty := (.array (.array .int))) (by decide)
  have F_b7_s : fS Z h7 b7 (.int 0) := D7 (Or.inl (w32 hw)) (ty := .int) (by decide)
  have F_b7_o : fO Z h7 b7 (.int 0) := D7 (Or.inl (w49 hw)) (ty := .int) (by decide)
  have E_b7 := A7
  refine f_dup X7 hx (hb Y at_62) rfl ?_
  have P30 : St0 Z h7 n0 b6 b7 kb6 := ⟨(xe E7 E_b6), (ve V_b6 E7), O_b6, E_b7, F_b7_t, F_b7_r, F_b7_c, F_b7_s, F_b7_o, g_b6, lt_b6_b7⟩
  refine f_spec X7 hx hZ hO (by rw [hml]; rfl) rfl (w9 hw) (w10 hw) (w8 hw) (w11 hw) e7 (a := b7) (argsL := []) (rest := [(.ref b7)]) (m23 l Z a0 hw [] h7 n0 b6 b7 kb6 P30) (lenOf pd1 rfl) (hb Y at_63) fun T8 L8 v8 X8 hQ8 => ?_
  obtain ⟨rfl, N8q, kb24, b25, kb26, b27, kb28, b29, P8⟩ := hQ8
  obtain ⟨E_b6, V_b6, O_b6, E_b7, F_b7_t, F_b7_r, F_b7_c, F_b7_s, F_b7_o, V_b25, E_b27, V_b27, O_b27, E_b29, V_b29, O_b29, g_b6, lt_b6_b7, lt_b7_b25, lt_b25_b27, lt_b27_b29⟩ := id P8
  have N8 := Fr.app N5 N8q
  refine f_astore X8 hx (L' := (FL p0 p1 0 mm t0 t1 t2 t3 t4 b6 b7 .unset .unset .unset .unset .unset .unset)) (hb Y at_66) rfl rfl <| iN X8 hx (hb Y at_68) rfl <| iK X8 hx (z := 1) (hb Y at_69) <| cY X8 hx (pc := 70) 93 (hb Y at_70) <| iN X8 hx (hb Y at_93) rfl <| iK X8 hx (z := 2) (hb Y at_94) <| cY X8 hx (pc := 95) 118 (hb Y at_95) <| iN X8 hx (hb Y at_118) rfl <| iK X8 hx (z := 3) (hb Y at_119) <| cY X8 hx (pc := 120) 143 (hb Y at_120) ?_
  have P138 : St2 Z T8.heap n0 b6 b7 b25 b27 b29 kb6 kb24 kb26 kb28 t0 t1 t2 t3 t4 mm := ⟨E_b6, V_b6, O_b6, E_b7, F_b7_t, F_b7_r, F_b7_c, F_b7_s, F_b7_o, V_b25, E_b27, V_b27, O_b27, E_b29, V_b29, O_b29, g_b6, lt_b6_b7, lt_b7_b25, lt_b25_b27, lt_b27_b29, ht0, ht1, ht2, ht3, ht4, hm3⟩
  exact C0_0 b6 b7 b25 b27 b29 kb6 kb24 kb26 kb28 t0 t1 t2 t3 t4 mm p0 p1 X8 G rfl N8 P138
def St8 (Z : State) (h : Heap) (n0 : Nat) (c1 : Nat) (c2 : Nat) (c3 : Nat) (c4 : Nat) (c5 : Nat) (kc1 : ClassId) (kc2 : ClassId) (kc3 : ClassId) (kc4 : ClassId) (r0 : Value) (t0 : Int32) (t1 : Int32) (t2 : Int32) (t3 : Int32) (t4 : Int32) (mm : Int32) (p1 : Int64) : Prop :=
  xO Z h c1 ∧
  Arv Z h c1 kc1 (.object "java/lang/Object") 1 [.null] .null ∧
  Ovr Z kc1 "java/lang/Object" ∧
  Exa Z h c2 cV ∧
  fT Z h c2 (.ref c3) ∧
  fR Z h c2 (.ref c4) ∧
  fC Z h c2 (.ref c5) ∧
  fS Z h c2 (.int 1) ∧
  fO Z h c2 (.int 0) ∧
  aL Z h c3 kc2 2 [(.long 10), (.long 0)] ∧
  xR Z h c4 ∧
  aR Z h c4 kc3 2 [r0, .null] ∧
  oR Z kc3 ∧
  xC Z h c5 ∧
  aC Z h c5 kc4 2 [.null, .null] ∧
  oC Z kc4 ∧
  n0 ≤ c1 ∧
  c1 < c2 ∧
  c2 < c3 ∧
  c3 < c4 ∧
  c4 < c5 ∧
  (t0 = (0 : Int32) ∨ t0 = (1 : Int32)) ∧
  (t1 = (0 : Int32) ∨ t1 = (1 : Int32)) ∧
  (t2 = (0 : Int32) ∨ t2 = (1 : Int32)) ∧
  (t3 = (0 : Int32) ∨ t3 = (1 : Int32)) ∧
  (t4 = (0 : Int32) ∨ t4 = (1 : Int32)) ∧
  r0.isRef = true ∧
  (r0 = .null ∨ r0 = .ref c1) ∧
  ((t0 = (0 : Int32) ∧ r0 = .ref c1) ∨ (t0 = (1 : Int32) ∧ r0 = .null)) ∧
  (mm = (0 : Int32) ∨ mm = (1 : Int32) ∨ mm = (2 : Int32)) ∧
  p1 < (10 : Int64)
def St9 (Z : State) (h : Heap) (n0 : Nat) (c1 : Nat) (c2 : Nat) (c3 : Nat) (c4 : Nat) (c5 : Nat) (kc1 : ClassId) (kc2 : ClassId) (kc3 : ClassId) (kc4 : ClassId) (uu1 : Int64) (uu2 : Int64) (ww3 : Value) (ww4 : Value) : Prop :=
  xO Z h c1 ∧
  Arv Z h c1 kc1 (.object "java/lang/Object") 1 [.null] .null ∧
  Ovr Z kc1 "java/lang/Object" ∧
  Exa Z h c2 cV ∧
  fT Z h c2 (.ref c3) ∧
  fR Z h c2 (.ref c4) ∧
  fC Z h c2 (.ref c5) ∧
  fS Z h c2 (.int 1) ∧
  fO Z h c2 (.int 0) ∧
  aL Z h c3 kc2 2 [(.long uu1), (.long uu2)] ∧
  xR Z h c4 ∧
  aR Z h c4 kc3 2 [ww3, ww4] ∧
  oR Z kc3 ∧
  xC Z h c5 ∧
  aC Z h c5 kc4 2 [.null, .null] ∧
  oC Z kc4 ∧
  n0 ≤ c1 ∧
  c1 < c2 ∧
  c2 < c3 ∧
  c3 < c4 ∧
  c4 < c5 ∧
  ww3.isRef = true ∧
  (ww3 = .null ∨ ww3 = .ref c1) ∧
  ww4.isRef = true ∧
  (ww4 = .null ∨ ww4 = .ref c1)
def Qm235 (Z : State) (n0 : Nat) (c1 : Nat) (c2 : Nat) (c3 : Nat) (c4 : Nat) (c5 : Nat) (kc1 : ClassId) (kc2 : ClassId) (kc3 : ClassId) (kc4 : ClassId) (uu1 : Int64) (uu2 : Int64) (ww3 : Value) (ww4 : Value) (v : Option Value) (h : Heap) (L : List Loc) : Prop := v = none ∧ Fr n0 L ∧ St9 Z h n0 c1 c2 c3 c4 c5 kc1 kc2 kc3 kc4 uu1 uu2 ww3 ww4
theorem m235 (l : Launch) (Z : State) (a0 : Array Value) (hw : HW a0 Z) (ws : List Jvm.Cond) (h0 : Heap) (n0 : Nat) (c1 : Nat) (c2 : Nat) (c3 : Nat) (c4 : Nat) (c5 : Nat) (kc1 : ClassId) (kc2 : ClassId) (kc3 : ClassId) (kc4 : ClassId) (uu1 : Int64) (uu2 : Int64) (ww3 : Value) (ww4 : Value) (P : St9 Z h0 n0 c1 c2 c3 c4 c5 kc1 kc2 kc3 kc4 uu1 uu2 ww3 ww4) :
    MC l Z y7 prog_95_method_9_code 3 none ws rm_1_0_0_14 #[(.ref c2), (.int 0)] h0 (Qm235 Z n0 c1 c2 c3 c4 c5 kc1 kc2 kc3 kc4 uu1 uu2 ww3 ww4) := by
  obtain ⟨E_c1, V_c1, O_c1, E_c2, F_c2_t, F_c2_r, F_c2_c, F_c2_s, F_c2_o, V_c3, E_c4, V_c4, O_c4, E_c5, V_c5, O_c5, g_c1, lt_c1_c2, lt_c2_c3, lt_c3_c4, lt_c4_c5, rf_ww3, rw_ww3, rf_ww4, rw_ww4⟩ := id P
  refine own_met (plainFor_of_name pn7) fun p e s m below meth c s₁ X0 hx hZ Y hml hO hnm hlk hret e0 => f_cast (f' := mkF m 0 #[(rv c2), (iv 0), .unset] []) (by first | (simp [entryFrame, mkF, argsToLocals, Value.category]; done) | rfl) ?_
  have N0 := Fr.nil n0
  refine iK X0 hx (z := 0) (hb Y d7_0) <| sN X0 hx (L' := #[(rv c2), (iv 0), (iv 0)]) (hb Y d7_1) rfl <| iN X0 hx (hb Y d7_2) rfl <| iN X0 hx (hb Y d7_3) rfl <| cY X0 hx (pc := 4) 35 (hb Y d7_4) <| aN X0 hx (hb Y d7_35) rfl rfl <| aN X0 hx (hb Y d7_36) rfl rfl <| iN X0 hx (hb Y d7_37) rfl <| pV X0 hx hZ hO (by rw [hml]; rfl) (w44 hw) (w45 hw) (w46 hw) (w7 hw) (w8 hw) (w47 hw) e0 E_c2 (argsL := [(.int 0)]) (rest := [(.ref c2)]) (q61 l Z a0 hw [] h0 n0 c2 c3 kc2 _ F_c2_o F_c2_t V_c3) (lenOf pd4 rfl) (hb Y d7_38) fun T228 L228 v228 X228 hQ228 => ?_
  obtain ⟨rfl, N228q, e228⟩ := hQ228
  have N228 := Fr.app N0 N228q
  refine f_putF X228 hx hZ hO (w48 hw) Via.refl e228 F_c2_o E_c2 (Or.inl (w49 hw)) (w7 hw) (ty := .int) (by decide) rfl rfl (hb Y d7_41) fun T231 h231 X231 e231 W231 => ?_
  have N231x := Fr.snoc X231 N228 (by omega : n0 ≤ c2)
  refine aN X231 hx (hb Y d7_44) rfl rfl <| f_dup X231 hx (hb Y d7_45) rfl ?_
  replace F_c2_s := (Fld.other W231 F_c2_s (Or.inr (slot_ne (Or.inl (w32 hw)) (Or.inl (w49 hw)) (by decide) (t := .int) (t' := .int) (by decide) (by decide))))
  refine gF X231 hx hZ hO (w31 hw) Via.refl e231 F_c2_s (hb Y d7_46) fun T232 X232 e232 => ?_
  refine iN X232 hx (hb Y d7_49) rfl <| iB X232 hx (z := 1) (hb Y d7_50) ?_
  replace E_c2 := (xw W231 E_c2)
  refine f_putF X232 hx hZ hO (w31 hw) Via.refl e232 F_c2_s E_c2 (Or.inl (w32 hw)) (w7 hw) (ty := .int) (by decide) rfl rfl (hb Y d7_51) fun T233 h233 X233 e233 W233 => ?_
  have N233x := Fr.snoc X233 N231x (by omega : n0 ≤ c2)
  refine aN X233 hx (hb Y d7_54) rfl rfl ?_
  replace F_c2_t := (Fld.other W233 (Fld.other W231 F_c2_t (Or.inr (slot_ne (Or.inl (w17 hw)) (Or.inl (w49 hw)) (by decide) (t := (.array .long)) (t' := .int) (by decide) (by decide)))) (Or.inr (slot_ne (Or.inl (w17 hw)) (Or.inl (w32 hw)) (by decide) (t := (.array .long)) (t' := .int) (by decide) (by decide))))
  refine gF X233 hx hZ hO (w16 hw) Via.refl e233 F_c2_t (hb Y d7_55) fun T234 X234 e234 => ?_
  replace V_c3 := (vo (vo V_c3 W231) W233)
  refine f_len X234 hx hZ e234 V_c3 (hb Y d7_58) <| iK X234 hx (z := 2) (hb Y d7_59) <| cY X234 hx (pc := 60) 94 (hb Y d7_60) ?_
  exact f_ret0 X234 hx hlk hret (hb Y d7_94) (QQ := (Qm235 Z n0 c1 c2 c3 c4 c5 kc1 kc2 kc3 kc4 uu1 uu2 ww3 ww4)) (by rw [e234]; exact ⟨rfl, N233x, (xw W233 (xw W231 E_c1)), (vo (vo V_c1 W231) W233), O_c1, (xw W233 E_c2), F_c2_t, (Fld.other W233 (Fld.other W231 F_c2_r (Or.inr (slot_ne (Or.inl (w21 hw)) (Or.inl (w49 hw)) (by decide) (t := (.array (.array (.object "java/lang/Object")))) (t' := .int) (by decide) (by decide)))) (Or.inr (slot_ne (Or.inl (w21 hw)) (Or.inl (w32 hw)) (by decide) (t := (.array (.array (.object "java/lang/Object")))) (t' := .int) (by decide) (by decide)))), (Fld.other W233 (Fld.other W231 F_c2_c (Or.inr (slot_ne (Or.inl (w25 hw)) (Or.inl (w49 hw)) (by decide) (t := (.array (.array .int))) (t' := .int) (by decide) (by decide)))) (Or.inr (slot_ne (Or.inl (w25 hw)) (Or.inl (w32 hw)) (by decide) (t := (.array (.array .int))) (t' := .int) (by decide) (by decide)))), (Fld.same W233 F_c2_s), (Fld.other W233 (Fld.same W231 F_c2_o) (Or.inr (slot_ne (Or.inl (w49 hw)) (Or.inl (w32 hw)) (by decide) (t := .int) (t' := .int) (by decide) (by decide)))), V_c3, (xw W233 (xw W231 E_c4)), (vo (vo V_c4 W231) W233), O_c4, (xw W233 (xw W231 E_c5)), (vo (vo V_c5 W231) W233), O_c5, g_c1, lt_c1_c2, lt_c2_c3, lt_c3_c4, lt_c4_c5, rf_ww3, rw_ww3, rf_ww4, rw_ww4⟩) (by decide) (by decide)
def Qm238 (Z : State) (n0 : Nat) (c1 : Nat) (c2 : Nat) (c3 : Nat) (c4 : Nat) (c5 : Nat) (kc1 : ClassId) (kc2 : ClassId) (kc3 : ClassId) (kc4 : ClassId) (r0 : Value) (t0 : Int32) (t1 : Int32) (t2 : Int32) (t3 : Int32) (t4 : Int32) (mm : Int32) (p1 : Int64) (v : Option Value) (h : Heap) (L : List Loc) : Prop := v = some (.int 0) ∧ Fr n0 L ∧ St8 Z h n0 c1 c2 c3 c4 c5 kc1 kc2 kc3 kc4 r0 t0 t1 t2 t3 t4 mm p1
theorem m238 (l : Launch) (Z : State) (a0 : Array Value) (hw : HW a0 Z) (ws : List Jvm.Cond) (h0 : Heap) (n0 : Nat) (c1 : Nat) (c2 : Nat) (c3 : Nat) (c4 : Nat) (c5 : Nat) (kc1 : ClassId) (kc2 : ClassId) (kc3 : ClassId) (kc4 : ClassId) (r0 : Value) (t0 : Int32) (t1 : Int32) (t2 : Int32) (t3 : Int32) (t4 : Int32) (mm : Int32) (p1 : Int64) (P : St8 Z h0 n0 c1 c2 c3 c4 c5 kc1 kc2 kc3 kc4 r0 t0 t1 t2 t3 t4 mm p1) :
    MC l Z y3 prog_95_method_5_code 5 (some .boolean) ws rm_2_0_0_28 #[(.ref c2), (.long p1)] h0 (Qm238 Z n0 c1 c2 c3 c4 c5 kc1 kc2 kc3 kc4 r0 t0 t1 t2 t3 t4 mm p1) := by
  obtain ⟨E_c1, V_c1, O_c1, E_c2, F_c2_t, F_c2_r, F_c2_c, F_c2_s, F_c2_o, V_c3, E_c4, V_c4, O_c4, E_c5, V_c5, O_c5, g_c1, lt_c1_c2, lt_c2_c3, lt_c3_c4, lt_c4_c5, ht0, ht1, ht2, ht3, ht4, rf_r0, rw_r0, rb_r0, hm3, z10⟩ := id P
  refine own_met (plainFor_of_name pn3) fun p e s m below meth c s₁ X0 hx hZ Y hml hO hnm hlk hret e0 => f_cast (f' := mkF m 0 #[(rv c2), (.val (.long p1)), .second, .unset, .unset] []) (by first | (simp [entryFrame, mkF, argsToLocals, Value.category]; done) | rfl) ?_
  have N0 := Fr.nil n0
  refine aN X0 hx (hb Y d3_0) rfl rfl <| gF X0 hx hZ hO (w31 hw) Via.refl e0 F_c2_s (hb Y d3_1) fun T214 X214 e214 => ?_
  refine fY X214 hx (pc := 4) 9 (hb Y d3_4) <| iK X214 hx (z := 0) (hb Y d3_9) <| sN X214 hx (L' := #[(rv c2), (.val (.long p1)), .second, (iv 0), .unset]) (hb Y d3_10) rfl <| iN X214 hx (hb Y d3_11) rfl <| iK X214 hx (z := 1) (hb Y d3_12) <| iA X214 hx (z := 1) (hb Y d3_13) <| aN X214 hx (hb Y d3_14) rfl rfl <| gF X214 hx hZ hO (w31 hw) Via.refl e214 F_c2_s (hb Y d3_15) fun T215 X215 e215 => ?_
  refine cY X215 hx (pc := 18) 44 (hb Y d3_18) <| aN X215 hx (hb Y d3_44) rfl rfl <| iN X215 hx (hb Y d3_45) rfl <| pV X215 hx hZ hO (by rw [hml]; rfl) (w44 hw) (w45 hw) (w46 hw) (w7 hw) (w8 hw) (w47 hw) e215 E_c2 (argsL := [(.int 0)]) (rest := []) (q61 l Z a0 hw [] h0 n0 c2 c3 kc2 _ F_c2_o F_c2_t V_c3) (lenOf pd4 rfl) (hb Y d3_46) fun T216 L216 v216 X216 hQ216 => ?_
  obtain ⟨rfl, N216q, e216⟩ := hQ216
  have N216 := Fr.app N0 N216q
  refine iS X216 hx (L' := #[(rv c2), (.val (.long p1)), .second, (iv 0), (iv 0)]) (hb Y d3_49) rfl <| aN X216 hx (hb Y d3_51) rfl rfl <| gF X216 hx hZ hO (w16 hw) Via.refl e216 F_c2_t (hb Y d3_52) fun T219 X219 e219 => ?_
  refine iL X219 hx (hb Y d3_55) rfl <| f_lald X219 hx hZ e219 V_c3 (v := (.long 10)) rfl (hb Y d3_57) <| lN X219 hx (hb Y d3_58) rfl <| lC X219 hx (z := (lcmpW (10 : Int64) p1)) (hb Y d3_59) (q := rfl) <| fY X219 hx (pc := 60) 76 (hb Y d3_60) (hc := (own_gtT z10)) <| aN X219 hx (hb Y d3_76) rfl rfl <| iN X219 hx (hb Y d3_77) rfl ?_
  have P236 : St9 Z h0 n0 c1 c2 c3 c4 c5 kc1 kc2 kc3 kc4 (10 : Int64) (0 : Int64) r0 .null := ⟨E_c1, V_c1, O_c1, E_c2, F_c2_t, F_c2_r, F_c2_c, F_c2_s, F_c2_o, V_c3, E_c4, V_c4, O_c4, E_c5, V_c5, O_c5, g_c1, lt_c1_c2, lt_c2_c3, lt_c3_c4, lt_c4_c5, rf_r0, rw_r0, rfl, (Or.inl rfl)⟩
  refine pV X219 hx hZ hO (by rw [hml]; rfl) (w52 hw) (w53 hw) (w54 hw) (w7 hw) (w8 hw) (w55 hw) e219 E_c2 (argsL := [(.int 0)]) (rest := []) (m235 l Z a0 hw [] h0 n0 c1 c2 c3 c4 c5 kc1 kc2 kc3 kc4 (10 : Int64) (0 : Int64) r0 .null P236) (lenOf pd6 rfl) (hb Y d3_78) fun T220 L220 v220 X220 hQ220 => ?_
  obtain ⟨rfl, N220q, P220⟩ := hQ220
  obtain ⟨E_c1, V_c1, O_c1, E_c2, F_c2_t, F_c2_r, F_c2_c, F_c2_s, F_c2_o, V_c3, E_c4, V_c4, O_c4, E_c5, V_c5, O_c5, g_c1, lt_c1_c2, lt_c2_c3, lt_c3_c4, lt_c4_c5, _, _, _, _⟩ := id P220
  have N220 := Fr.app N216 N220q
  refine aN X220 hx (hb Y d3_81) rfl rfl <| gF X220 hx hZ hO (w31 hw) Via.refl rfl F_c2_s (hb Y d3_82) fun T237 X237 e237 => ?_
  refine fY X237 hx (pc := 85) 92 (hb Y d3_85) <| iK X237 hx (z := 0) (hb Y d3_92) ?_
  exact f_ret X237 hx hlk (i := .ireturn) hret rfl (Or.inl ⟨rfl, Or.inr (Or.inl rfl), _, rfl⟩) (hb Y d3_93) (QQ := (Qm238 Z n0 c1 c2 c3 c4 c5 kc1 kc2 kc3 kc4 r0 t0 t1 t2 t3 t4 mm p1)) (by rw [e237]; exact ⟨rfl, N220, E_c1, V_c1, O_c1, E_c2, F_c2_t, F_c2_r, F_c2_c, F_c2_s, F_c2_o, V_c3, E_c4, V_c4, O_c4, E_c5, V_c5, O_c5, g_c1, lt_c1_c2, lt_c2_c3, lt_c3_c4, lt_c4_c5, ht0, ht1, ht2, ht3, ht4, rf_r0, rw_r0, rb_r0, hm3, z10⟩) (by decide) (by decide)
def St10 (Z : State) (h : Heap) (n0 : Nat) (c1 : Nat) (c2 : Nat) (c3 : Nat) (c4 : Nat) (c5 : Nat) (kc1 : ClassId) (kc2 : ClassId) (kc3 : ClassId) (kc4 : ClassId) (r0 : Value) (t0 : Int32) (t1 : Int32) (t2 : Int32) (t3 : Int32) (t4 : Int32) : Prop :=
  xO Z h c1 ∧
  Arv Z h c1 kc1 (.object "java/lang/Object") 1 [.null] .null ∧
  Ovr Z kc1 "java/lang/Object" ∧
  Exa Z h c2 cV ∧
  fT Z h c2 (.ref c3) ∧
  fR Z h c2 (.ref c4) ∧
  fC Z h c2 (.ref c5) ∧
  fS Z h c2 (.int 1) ∧
  fO Z h c2 (.int 0) ∧
  aL Z h c3 kc2 2 [(.long 10), (.long 0)] ∧
  xR Z h c4 ∧
  aR Z h c4 kc3 2 [r0, .null] ∧
  oR Z kc3 ∧
  xC Z h c5 ∧
  aC Z h c5 kc4 2 [.null, .null] ∧
  oC Z kc4 ∧
  n0 ≤ c1 ∧
  c1 < c2 ∧
  c2 < c3 ∧
  c3 < c4 ∧
  c4 < c5 ∧
  (t0 = (0 : Int32) ∨ t0 = (1 : Int32)) ∧
  (t1 = (0 : Int32) ∨ t1 = (1 : Int32)) ∧
  (t2 = (0 : Int32) ∨ t2 = (1 : Int32)) ∧
  (t3 = (0 : Int32) ∨ t3 = (1 : Int32)) ∧
  (t4 = (0 : Int32) ∨ t4 = (1 : Int32)) ∧
  r0.isRef = true ∧
  (r0 = .null ∨ r0 = .ref c1) ∧
  ((t0 = (0 : Int32) ∧ r0 = .ref c1) ∨ (t0 = (1 : Int32) ∧ r0 = .null)) ∧
  r0 = .ref c1
theorem q245 (l : Launch) (Z : State) (a0 : Array Value) (hw : HW a0 Z) (ws : List Jvm.Cond) (h0 : Heap) (n0 : Nat) (c1 : Nat) (c2 : Nat) (kc3 : ClassId) (r0 : Value) (c4 : Nat) (F_c1_s : fS Z h0 c1 (.int 1)) (F_c1_r : fR Z h0 c1 (.ref c2)) (F_c1_o : fO Z h0 c1 (.int 0)) (V_c2 : aR Z h0 c2 kc3 2 [r0, .null]) (nv_r0 : r0 = .ref c4) :
    MC l Z y4 prog_95_method_7_code 1 (some .boolean) ws rm_0_0_0_0 #[(.ref c1)] h0 (QV (.int 0) h0 n0) := by
  refine own_met (plainFor_of_name pn4) fun p e s m below meth c s₁ X0 hx hZ Y hml hO hnm hlk hret e0 => f_cast (f' := mkF m 0 #[(rv c1)] []) (by first | (simp [entryFrame, mkF, argsToLocals, Value.category]; done) | rfl) ?_
  have N0 := Fr.nil n0
  refine aN X0 hx (hb Y d4_0) rfl rfl <| gF X0 hx hZ hO (w31 hw) Via.refl e0 F_c1_s (hb Y d4_1) fun T241 X241 e241 => ?_
  refine iK X241 hx (z := 1) (hb Y d4_4) <| cN X241 hx (hb Y d4_5) <| aN X241 hx (hb Y d4_8) rfl rfl <| gF X241 hx hZ hO (w31 hw) Via.refl e241 F_c1_s (hb Y d4_9) fun T242 X242 e242 => ?_
  refine iK X242 hx (z := 1) (hb Y d4_12) <| cN X242 hx (hb Y d4_13) <| aN X242 hx (hb Y d4_16) rfl rfl <| gF X242 hx hZ hO (w20 hw) Via.refl e242 F_c1_r (hb Y d4_17) fun T243 X243 e243 => ?_
  refine aN X243 hx (hb Y d4_20) rfl rfl <| gF X243 hx hZ hO (w48 hw) Via.refl e243 F_c1_o (hb Y d4_21) fun T244 X244 e244 => ?_
  refine f_aald X244 hx hZ e244 V_c2 rfl (v := r0) rfl (hb Y d4_24) <| f_ifnonnullYv X244 hx (pc := 25) 32 nv_r0 (hb Y d4_25) <| iK X244 hx (z := 0) (hb Y d4_32) ?_
  exact f_ret X244 hx hlk (i := .ireturn) hret rfl (Or.inl ⟨rfl, Or.inr (Or.inl rfl), _, rfl⟩) (hb Y d4_33) (QQ := (QV (.int 0) h0 n0)) ⟨rfl, N0, e244⟩ (by decide) (by decide)
theorem D0_4  (c1 : Nat) (c2 : Nat) (c3 : Nat) (c4 : Nat) (c5 : Nat) (kc1 : ClassId) (kc2 : ClassId) (kc3 : ClassId) (kc4 : ClassId) (r0 : Value) (t0 : Int32) (t1 : Int32) (t2 : Int32) (t3 : Int32) (t4 : Int32) (p0 : Int32) (p1 : Int64) (X0 : Stand p l e room_1 s m args below meth c T0 locs 5 13) (G : SG p s m meth c Z a0) (e0 : T0.heap = h0) (N0 : Fr n0 locs) (P : St10 Z h0 n0 c1 c2 c3 c4 c5 kc1 kc2 kc3 kc4 r0 t0 t1 t2 t3 t4) (hk0 : ∀ (T' : State) (locs' : List Loc), Stand p l e room_1 s m args below meth c T' locs' 5 13 → Fr n0 locs' → EndsSo p e below (LQ s n0) T' (mkF m 209 (FL p0 p1 1 0 t0 t1 t2 t3 t4 c1 c2 (iv 0) .unset .unset .unset .unset .unset) [])) :
    EndsSo p e below (LQ s n0) T0 (mkF m 150 (FL p0 p1 1 0 t0 t1 t2 t3 t4 c1 c2 .unset .unset .unset .unset .unset .unset) []) := by
  obtain ⟨hx, hZ, hw, Y, hml, hO, hlk, hret⟩ := id G
  obtain ⟨E_c1, V_c1, O_c1, E_c2, F_c2_t, F_c2_r, F_c2_c, F_c2_s, F_c2_o, V_c3, E_c4, V_c4, O_c4, E_c5, V_c5, O_c5, g_c1, lt_c1_c2, lt_c2_c3, lt_c3_c4, lt_c4_c5, ht0, ht1, ht2, ht3, ht4, rf_r0, rw_r0, rb_r0, nv_r0⟩ := id P
  refine iL X0 hx (hb Y at_150) rfl <| iK X0 hx (z := 1) (hb Y at_152) <| cY X0 hx (pc := 153) 176 (hb Y at_153) <| iL X0 hx (hb Y at_176) rfl <| iK X0 hx (z := 2) (hb Y at_178) <| cY X0 hx (pc := 179) 202 (hb Y at_179) <| aA X0 hx (hb Y at_202) rfl rfl <| vV X0 hx hZ hO (by rw [hml]; rfl) (w33 hw) (w34 hw) (w36 hw) (w35 hw) (w8 hw) (w37 hw) e0 E_c2 (argsL := []) (rest := []) (q245 l Z a0 hw [] h0 n0 c2 c4 kc3 r0 c1 F_c2_s F_c2_r F_c2_o V_c4 nv_r0) (lenOf pd3 rfl) (hb Y at_204) fun T240 L240 v240 X240 hQ240 => ?_
  obtain ⟨rfl, N240q, e240⟩ := hQ240
  have N240 := Fr.app N0 N240q
  refine iS X240 hx (L' := (FL p0 p1 1 0 t0 t1 t2 t3 t4 c1 c2 (iv 0) .unset .unset .unset .unset .unset)) (hb Y at_207) rfl ?_
  exact hk0 _ _ X240 N240
theorem F1_1  {cells slots : Nat} (p0 : Int32) (p1 : Int64) (mm : Int32) (gg : Int32) (t0 : Int32) (t1 : Int32) (t2 : Int32) (t3 : Int32) (t4 : Int32) (c1 : Nat) (c2 : Nat) (X0 : Stand p l e room_1 s m args below meth c T0 locs cells slots) (G : SG p s m meth c Z a0) (z10 : p1 < (10 : Int64)) (h : EndsSo p e below (LQ s n0) T0 (mkF m 303 (FL p0 p1 1 mm t0 t1 t2 t3 t4 c1 c2 (iv gg) (iv 0) (iv t0) (.val (.long 10)) .second .unset) [])) :
    EndsSo p e below (LQ s n0) T0 (mkF m 209 (FL p0 p1 1 mm t0 t1 t2 t3 t4 c1 c2 (iv gg) .unset .unset .unset .unset .unset) []) := by
  obtain ⟨hx, hZ, hw, Y, hml, hO, hlk, hret⟩ := id G
  refine iK X0 hx (z := 0) (hb Y at_209) <| iS X0 hx (L' := (FL p0 p1 1 mm t0 t1 t2 t3 t4 c1 c2 (iv gg) (iv 0) .unset .unset .unset .unset)) (hb Y at_210) rfl <| iN X0 hx (hb Y at_212) rfl <| iK X0 hx (z := 2) (hb Y at_213) <| cY X0 hx (pc := 214) 228 (hb Y at_214) <| iN X0 hx (hb Y at_228) rfl <| iK X0 hx (z := 3) (hb Y at_229) <| cY X0 hx (pc := 230) 244 (hb Y at_230) <| iN X0 hx (hb Y at_244) rfl <| iK X0 hx (z := 1) (hb Y at_245) <| cN X0 hx (hb Y at_246) <| iL X0 hx (hb Y at_249) rfl <| fN X0 hx (hb Y at_251) <| iL X0 hx (hb Y at_254) rfl <| gT X0 hx (pc := 256) 272 (hb Y at_256) <| iS X0 hx (L' := (FL p0 p1 1 mm t0 t1 t2 t3 t4 c1 c2 (iv gg) (iv 0) (iv t0) .unset .unset .unset)) (hb Y at_272) rfl <| f_ldc2 X0 hx hZ hO (w38 hw) (hb Y at_274) <| iL X0 hx (hb Y at_277) rfl <| iK X0 hx (z := 1) (hb Y at_279) <| iA X0 hx (z := 1) (hb Y at_280) <| f_i2l X0 hx (z := 1) (hb Y at_281) <| f_lmul X0 hx (z := 10) (hb Y at_282) <| f_lstore X0 hx (L' := (FL p0 p1 1 mm t0 t1 t2 t3 t4 c1 c2 (iv gg) (iv 0) (iv t0) (.val (.long 10)) .second .unset)) (hb Y at_283) rfl <| f_lload X0 hx (hb Y at_285) rfl <| lN X0 hx (hb Y at_287) rfl <| lC X0 hx (z := (lcmpW (10 : Int64) p1)) (hb Y at_288) (q := rfl) <| fY X0 hx (pc := 289) 303 (hb Y at_289) (hc := (own_gtT z10)) ?_
  exact h
theorem F2_4  {cells slots : Nat} (p0 : Int32) (p1 : Int64) (t0 : Int32) (t1 : Int32) (t2 : Int32) (t3 : Int32) (t4 : Int32) (c1 : Nat) (c2 : Nat) (X0 : Stand p l e room_1 s m args below meth c T0 locs cells slots) (G : SG p s m meth c Z a0) (tv0 : t0 = (0 : Int32)) (N0 : Fr n0 locs) (hK : cells ≤ room_1.cells) (hN : slots ≤ room_1.slots) :
    EndsSo p e below (LQ s n0) T0 (mkF m 303 (FL p0 p1 1 0 t0 t1 t2 t3 t4 c1 c2 (iv 0) (iv 0) (iv t0) (.val (.long 10)) .second .unset) []) := by
  obtain ⟨hx, hZ, hw, Y, hml, hO, hlk, hret⟩ := id G
  refine iN X0 hx (hb Y at_303) rfl <| iL X0 hx (hb Y at_304) rfl <| iB X0 hx (z := 1) (hb Y at_306) <| iS X0 hx (L' := (FL p0 p1 1 0 t0 t1 t2 t3 t4 c1 c2 (iv 0) (iv 0) (iv 1) (.val (.long 10)) .second .unset)) (hb Y at_307) rfl <| iL X0 hx (hb Y at_309) rfl <| iL X0 hx (hb Y at_311) rfl <| iA X0 hx (z := 1) (hb Y at_313) <| iS X0 hx (L' := (FL p0 p1 1 0 t0 t1 t2 t3 t4 c1 c2 (iv 0) (iv 0) (iv 1) (iv 1) .unset .unset)) (hb Y at_314) rfl <| iL X0 hx (hb Y at_316) rfl <| iK X0 hx (z := 1) (hb Y at_318) <| cN X0 hx (hb Y at_319) <| iL X0 hx (hb Y at_322) rfl <| fN X0 hx (hb Y at_324) <| iL X0 hx (hb Y at_327) rfl <| gT X0 hx (pc := 329) 350 (hb Y at_329) <| iS X0 hx (L' := (FL p0 p1 1 0 t0 t1 t2 t3 t4 c1 c2 (iv 0) (iv 0) (iv 1) (iv 1) (iv t0) .unset)) (hb Y at_350) rfl <| iL X0 hx (hb Y at_352) rfl <| iK X0 hx (z := 1) (hb Y at_354) <| cN X0 hx (hb Y at_355) <| iL X0 hx (hb Y at_358) rfl <| iK X0 hx (z := 1) (hb Y at_360) <| cN X0 hx (hb Y at_361) <| iL X0 hx (hb Y at_364) rfl <| fY X0 hx (pc := 366) 373 (hb Y at_366) (hc := (own_eqT tv0)) <| iK X0 hx (z := 0) (hb Y at_373) <| iS X0 hx (L' := (FL p0 p1 1 0 t0 t1 t2 t3 t4 c1 c2 (iv 0) (iv 0) (iv 1) (iv 1) (iv t0) (iv 0))) (hb Y at_374) rfl <| iL X0 hx (hb Y at_376) rfl <| iL X0 hx (hb Y at_378) rfl <| cN X0 hx (hb Y at_380) <| iK X0 hx (z := 1) (hb Y at_383) <| gT X0 hx (pc := 384) 388 (hb Y at_384) ?_
  exact f_ret X0 hx hlk (i := .ireturn) hret rfl (Or.inl ⟨rfl, Or.inr (Or.inl rfl), _, rfl⟩) (hb Y at_388) (QQ := (QL n0)) ⟨rfl, N0⟩ hK hN
def St11 (Z : State) (h : Heap) (n0 : Nat) (c1 : Nat) (c2 : Nat) (c3 : Nat) (c4 : Nat) (c5 : Nat) (kc1 : ClassId) (kc2 : ClassId) (kc3 : ClassId) (kc4 : ClassId) (r0 : Value) (t0 : Int32) (t1 : Int32) (t2 : Int32) (t3 : Int32) (t4 : Int32) : Prop :=
  xO Z h c1 ∧
  Arv Z h c1 kc1 (.object "java/lang/Object") 1 [.null] .null ∧
  Ovr Z kc1 "java/lang/Object" ∧
  Exa Z h c2 cV ∧
  fT Z h c2 (.ref c3) ∧
  fR Z h c2 (.ref c4) ∧
  fC Z h c2 (.ref c5) ∧
  fS Z h c2 (.int 1) ∧
  fO Z h c2 (.int 0) ∧
  aL Z h c3 kc2 2 [(.long 10), (.long 0)] ∧
  xR Z h c4 ∧
  aR Z h c4 kc3 2 [r0, .null] ∧
  oR Z kc3 ∧
  xC Z h c5 ∧
  aC Z h c5 kc4 2 [.null, .null] ∧
  oC Z kc4 ∧
  n0 ≤ c1 ∧
  c1 < c2 ∧
  c2 < c3 ∧
  c3 < c4 ∧
  c4 < c5 ∧
  (t0 = (0 : Int32) ∨ t0 = (1 : Int32)) ∧
  (t1 = (0 : Int32) ∨ t1 = (1 : Int32)) ∧
  (t2 = (0 : Int32) ∨ t2 = (1 : Int32)) ∧
  (t3 = (0 : Int32) ∨ t3 = (1 : Int32)) ∧
  (t4 = (0 : Int32) ∨ t4 = (1 : Int32)) ∧
  r0.isRef = true ∧
  (r0 = .null ∨ r0 = .ref c1) ∧
  ((t0 = (0 : Int32) ∧ r0 = .ref c1) ∨ (t0 = (1 : Int32) ∧ r0 = .null)) ∧
  r0 = .null
theorem q252 (l : Launch) (Z : State) (a0 : Array Value) (hw : HW a0 Z) (ws : List Jvm.Cond) (h0 : Heap) (n0 : Nat) (c1 : Nat) (c2 : Nat) (kc3 : ClassId) (r0 : Value) (F_c1_s : fS Z h0 c1 (.int 1)) (F_c1_r : fR Z h0 c1 (.ref c2)) (F_c1_o : fO Z h0 c1 (.int 0)) (V_c2 : aR Z h0 c2 kc3 2 [r0, .null]) (nv_r0 : r0 = .null) :
    MC l Z y4 prog_95_method_7_code 1 (some .boolean) ws rm_0_0_0_0 #[(.ref c1)] h0 (QV (.int 1) h0 n0) := by
  refine own_met (plainFor_of_name pn4) fun p e s m below meth c s₁ X0 hx hZ Y hml hO hnm hlk hret e0 => f_cast (f' := mkF m 0 #[(rv c1)] []) (by first | (simp [entryFrame, mkF, argsToLocals, Value.category]; done) | rfl) ?_
  have N0 := Fr.nil n0
  refine aN X0 hx (hb Y d4_0) rfl rfl <| gF X0 hx hZ hO (w31 hw) Via.refl e0 F_c1_s (hb Y d4_1) fun T248 X248 e248 => ?_
  refine iK X248 hx (z := 1) (hb Y d4_4) <| cN X248 hx (hb Y d4_5) <| aN X248 hx (hb Y d4_8) rfl rfl <| gF X248 hx hZ hO (w31 hw) Via.refl e248 F_c1_s (hb Y d4_9) fun T249 X249 e249 => ?_
  refine iK X249 hx (z := 1) (hb Y d4_12) <| cN X249 hx (hb Y d4_13) <| aN X249 hx (hb Y d4_16) rfl rfl <| gF X249 hx hZ hO (w20 hw) Via.refl e249 F_c1_r (hb Y d4_17) fun T250 X250 e250 => ?_
  refine aN X250 hx (hb Y d4_20) rfl rfl <| gF X250 hx hZ hO (w48 hw) Via.refl e250 F_c1_o (hb Y d4_21) fun T251 X251 e251 => ?_
  refine f_aald X251 hx hZ e251 V_c2 rfl (v := r0) rfl (hb Y d4_24) <| f_ifnonnullNv X251 hx nv_r0 (hb Y d4_25) <| iK X251 hx (z := 1) (hb Y d4_28) <| gT X251 hx (pc := 29) 33 (hb Y d4_29) ?_
  exact f_ret X251 hx hlk (i := .ireturn) hret rfl (Or.inl ⟨rfl, Or.inr (Or.inl rfl), _, rfl⟩) (hb Y d4_33) (QQ := (QV (.int 1) h0 n0)) ⟨rfl, N0, e251⟩ (by decide) (by decide)
theorem D0_5  (c1 : Nat) (c2 : Nat) (c3 : Nat) (c4 : Nat) (c5 : Nat) (kc1 : ClassId) (kc2 : ClassId) (kc3 : ClassId) (kc4 : ClassId) (r0 : Value) (t0 : Int32) (t1 : Int32) (t2 : Int32) (t3 : Int32) (t4 : Int32) (p0 : Int32) (p1 : Int64) (X0 : Stand p l e room_1 s m args below meth c T0 locs 5 13) (G : SG p s m meth c Z a0) (e0 : T0.heap = h0) (N0 : Fr n0 locs) (P : St11 Z h0 n0 c1 c2 c3 c4 c5 kc1 kc2 kc3 kc4 r0 t0 t1 t2 t3 t4) (hk0 : ∀ (T' : State) (locs' : List Loc), Stand p l e room_1 s m args below meth c T' locs' 5 13 → Fr n0 locs' → EndsSo p e below (LQ s n0) T' (mkF m 209 (FL p0 p1 1 0 t0 t1 t2 t3 t4 c1 c2 (iv 1) .unset .unset .unset .unset .unset) [])) :
    EndsSo p e below (LQ s n0) T0 (mkF m 150 (FL p0 p1 1 0 t0 t1 t2 t3 t4 c1 c2 .unset .unset .unset .unset .unset .unset) []) := by
  obtain ⟨hx, hZ, hw, Y, hml, hO, hlk, hret⟩ := id G
  obtain ⟨E_c1, V_c1, O_c1, E_c2, F_c2_t, F_c2_r, F_c2_c, F_c2_s, F_c2_o, V_c3, E_c4, V_c4, O_c4, E_c5, V_c5, O_c5, g_c1, lt_c1_c2, lt_c2_c3, lt_c3_c4, lt_c4_c5, ht0, ht1, ht2, ht3, ht4, rf_r0, rw_r0, rb_r0, nv_r0⟩ := id P
  refine iL X0 hx (hb Y at_150) rfl <| iK X0 hx (z := 1) (hb Y at_152) <| cY X0 hx (pc := 153) 176 (hb Y at_153) <| iL X0 hx (hb Y at_176) rfl <| iK X0 hx (z := 2) (hb Y at_178) <| cY X0 hx (pc := 179) 202 (hb Y at_179) <| aA X0 hx (hb Y at_202) rfl rfl <| vV X0 hx hZ hO (by rw [hml]; rfl) (w33 hw) (w34 hw) (w36 hw) (w35 hw) (w8 hw) (w37 hw) e0 E_c2 (argsL := []) (rest := []) (q252 l Z a0 hw [] h0 n0 c2 c4 kc3 r0 F_c2_s F_c2_r F_c2_o V_c4 nv_r0) (lenOf pd3 rfl) (hb Y at_204) fun T247 L247 v247 X247 hQ247 => ?_
  obtain ⟨rfl, N247q, e247⟩ := hQ247
  have N247 := Fr.app N0 N247q
  refine iS X247 hx (L' := (FL p0 p1 1 0 t0 t1 t2 t3 t4 c1 c2 (iv 1) .unset .unset .unset .unset .unset)) (hb Y at_207) rfl ?_
  exact hk0 _ _ X247 N247
theorem F2_5  {cells slots : Nat} (p0 : Int32) (p1 : Int64) (t0 : Int32) (t1 : Int32) (t2 : Int32) (t3 : Int32) (t4 : Int32) (c1 : Nat) (c2 : Nat) (X0 : Stand p l e room_1 s m args below meth c T0 locs cells slots) (G : SG p s m meth c Z a0) (tv0 : t0 = (1 : Int32)) (N0 : Fr n0 locs) (hK : cells ≤ room_1.cells) (hN : slots ≤ room_1.slots) :
    EndsSo p e below (LQ s n0) T0 (mkF m 303 (FL p0 p1 1 0 t0 t1 t2 t3 t4 c1 c2 (iv 1) (iv 0) (iv t0) (.val (.long 10)) .second .unset) []) := by
  obtain ⟨hx, hZ, hw, Y, hml, hO, hlk, hret⟩ := id G
  refine iN X0 hx (hb Y at_303) rfl <| iL X0 hx (hb Y at_304) rfl <| iB X0 hx (z := 1) (hb Y at_306) <| iS X0 hx (L' := (FL p0 p1 1 0 t0 t1 t2 t3 t4 c1 c2 (iv 1) (iv 0) (iv 1) (.val (.long 10)) .second .unset)) (hb Y at_307) rfl <| iL X0 hx (hb Y at_309) rfl <| iL X0 hx (hb Y at_311) rfl <| iA X0 hx (z := 1) (hb Y at_313) <| iS X0 hx (L' := (FL p0 p1 1 0 t0 t1 t2 t3 t4 c1 c2 (iv 1) (iv 0) (iv 1) (iv 1) .unset .unset)) (hb Y at_314) rfl <| iL X0 hx (hb Y at_316) rfl <| iK X0 hx (z := 1) (hb Y at_318) <| cN X0 hx (hb Y at_319) <| iL X0 hx (hb Y at_322) rfl <| fN X0 hx (hb Y at_324) <| iL X0 hx (hb Y at_327) rfl <| gT X0 hx (pc := 329) 350 (hb Y at_329) <| iS X0 hx (L' := (FL p0 p1 1 0 t0 t1 t2 t3 t4 c1 c2 (iv 1) (iv 0) (iv 1) (iv 1) (iv t0) .unset)) (hb Y at_350) rfl <| iL X0 hx (hb Y at_352) rfl <| iK X0 hx (z := 1) (hb Y at_354) <| cN X0 hx (hb Y at_355) <| iL X0 hx (hb Y at_358) rfl <| iK X0 hx (z := 1) (hb Y at_360) <| cN X0 hx (hb Y at_361) <| iL X0 hx (hb Y at_364) rfl <| fN X0 hx (hb Y at_366) (hc := (own_eq1 tv0)) <| iK X0 hx (z := 1) (hb Y at_369) <| gT X0 hx (pc := 370) 374 (hb Y at_370) <| iS X0 hx (L' := (FL p0 p1 1 0 t0 t1 t2 t3 t4 c1 c2 (iv 1) (iv 0) (iv 1) (iv 1) (iv t0) (iv 1))) (hb Y at_374) rfl <| iL X0 hx (hb Y at_376) rfl <| iL X0 hx (hb Y at_378) rfl <| cN X0 hx (hb Y at_380) <| iK X0 hx (z := 1) (hb Y at_383) <| gT X0 hx (pc := 384) 388 (hb Y at_384) ?_
  exact f_ret X0 hx hlk (i := .ireturn) hret rfl (Or.inl ⟨rfl, Or.inr (Or.inl rfl), _, rfl⟩) (hb Y at_388) (QQ := (QL n0)) ⟨rfl, N0⟩ hK hN
def St12 (Z : State) (h : Heap) (n0 : Nat) (c1 : Nat) (c2 : Nat) (c3 : Nat) (c4 : Nat) (c5 : Nat) (kc1 : ClassId) (kc2 : ClassId) (kc3 : ClassId) (kc4 : ClassId) (r0 : Value) (t0 : Int32) (t1 : Int32) (t2 : Int32) (t3 : Int32) (t4 : Int32) : Prop :=
  xO Z h c1 ∧
  Arv Z h c1 kc1 (.object "java/lang/Object") 1 [.null] .null ∧
  Ovr Z kc1 "java/lang/Object" ∧
  Exa Z h c2 cV ∧
  fT Z h c2 (.ref c3) ∧
  fR Z h c2 (.ref c4) ∧
  fC Z h c2 (.ref c5) ∧
  fS Z h c2 (.int 1) ∧
  fO Z h c2 (.int 0) ∧
  aL Z h c3 kc2 2 [(.long 10), (.long 0)] ∧
  xR Z h c4 ∧
  aR Z h c4 kc3 2 [r0, .null] ∧
  oR Z kc3 ∧
  xC Z h c5 ∧
  aC Z h c5 kc4 2 [.null, .null] ∧
  oC Z kc4 ∧
  n0 ≤ c1 ∧
  c1 < c2 ∧
  c2 < c3 ∧
  c3 < c4 ∧
  c4 < c5 ∧
  (t0 = (0 : Int32) ∨ t0 = (1 : Int32)) ∧
  (t1 = (0 : Int32) ∨ t1 = (1 : Int32)) ∧
  (t2 = (0 : Int32) ∨ t2 = (1 : Int32)) ∧
  (t3 = (0 : Int32) ∨ t3 = (1 : Int32)) ∧
  (t4 = (0 : Int32) ∨ t4 = (1 : Int32)) ∧
  r0.isRef = true ∧
  (r0 = .null ∨ r0 = .ref c1) ∧
  ((t0 = (0 : Int32) ∧ r0 = .ref c1) ∨ (t0 = (1 : Int32) ∧ r0 = .null))
theorem D1_6  (c1 : Nat) (c2 : Nat) (c3 : Nat) (c4 : Nat) (c5 : Nat) (kc1 : ClassId) (kc2 : ClassId) (kc3 : ClassId) (kc4 : ClassId) (r0 : Value) (t0 : Int32) (t1 : Int32) (t2 : Int32) (t3 : Int32) (t4 : Int32) (p0 : Int32) (p1 : Int64) (X0 : Stand p l e room_1 s m args below meth c T0 locs 5 13) (G : SG p s m meth c Z a0) (e0 : T0.heap = h0) (N0 : Fr n0 locs) (P : St12 Z h0 n0 c1 c2 c3 c4 c5 kc1 kc2 kc3 kc4 r0 t0 t1 t2 t3 t4) (hk0 : ∀ (T' : State) (locs' : List Loc), Stand p l e room_1 s m args below meth c T' locs' 5 13 → Fr n0 locs' → EndsSo p e below (LQ s n0) T' (mkF m 209 (FL p0 p1 1 1 t0 t1 t2 t3 t4 c1 c2 (iv 1) .unset .unset .unset .unset .unset) [])) :
    EndsSo p e below (LQ s n0) T0 (mkF m 150 (FL p0 p1 1 1 t0 t1 t2 t3 t4 c1 c2 .unset .unset .unset .unset .unset .unset) []) := by
  obtain ⟨hx, hZ, hw, Y, hml, hO, hlk, hret⟩ := id G
  obtain ⟨E_c1, V_c1, O_c1, E_c2, F_c2_t, F_c2_r, F_c2_c, F_c2_s, F_c2_o, V_c3, E_c4, V_c4, O_c4, E_c5, V_c5, O_c5, g_c1, lt_c1_c2, lt_c2_c3, lt_c3_c4, lt_c4_c5, ht0, ht1, ht2, ht3, ht4, rf_r0, rw_r0, rb_r0⟩ := id P
  refine iL X0 hx (hb Y at_150) rfl <| iK X0 hx (z := 1) (hb Y at_152) <| cN X0 hx (hb Y at_153) <| aA X0 hx (hb Y at_156) rfl rfl <| f_ldc2 X0 hx hZ hO (w56 hw) (hb Y at_158) <| iL X0 hx (hb Y at_161) rfl <| own_mrg X0 hx (row := c1) ht3 (pc := 163) (hb Y at_163) (hb Y at_170) (hb Y at_166) (hb Y at_167) rfl fun r3 rf_r3 rw_r3 rb_r3 => ?_
  refine f_null X0 hx (hb Y at_172) ?_
  have P269 : St6 Z h0 n0 c1 c2 c3 c4 c5 kc1 kc2 kc3 kc4 (10 : Int64) (0 : Int64) r0 .null r3 := ⟨E_c1, V_c1, O_c1, E_c2, F_c2_t, F_c2_r, F_c2_c, F_c2_s, F_c2_o, V_c3, E_c4, V_c4, O_c4, E_c5, V_c5, O_c5, g_c1, lt_c1_c2, lt_c2_c3, lt_c3_c4, lt_c4_c5, rf_r0, rw_r0, rfl, (Or.inl rfl), rf_r3, rw_r3⟩
  refine vV X0 hx hZ hO (by rw [hml]; rfl) (w39 hw) (w40 hw) (w42 hw) (w41 hw) (w8 hw) (w43 hw) e0 E_c2 (argsL := [(.long 40), r3, .null]) (rest := []) (m132 l Z a0 hw [] h0 n0 c1 c2 c3 c4 c5 kc1 kc2 kc3 kc4 (10 : Int64) (0 : Int64) r0 .null r3 (40 : Int64) P269) (lenOf pd5 rfl) (hb Y at_173) fun T254 L254 v254 X254 hQ254 => ?_
  obtain ⟨rfl, N254q, P254⟩ := hQ254
  obtain ⟨E_c1, V_c1, O_c1, E_c2, F_c2_t, F_c2_r, F_c2_c, F_c2_s, F_c2_o, V_c3, E_c4, V_c4, O_c4, E_c5, V_c5, O_c5, g_c1, lt_c1_c2, lt_c2_c3, lt_c3_c4, lt_c4_c5, _, _, _, _, _, _⟩ := id P254
  have N254 := Fr.app N0 N254q
  refine iL X254 hx (hb Y at_176) rfl <| iK X254 hx (z := 2) (hb Y at_178) <| cY X254 hx (pc := 179) 202 (hb Y at_179) <| aA X254 hx (hb Y at_202) rfl rfl <| vV X254 hx hZ hO (by rw [hml]; rfl) (w33 hw) (w34 hw) (w36 hw) (w35 hw) (w8 hw) (w37 hw) rfl E_c2 (argsL := []) (rest := []) (q136 l Z a0 hw [] T254.heap n0 c2 F_c2_s) (lenOf pd3 rfl) (hb Y at_204) fun T270 L270 v270 X270 hQ270 => ?_
  obtain ⟨rfl, N270q, e270⟩ := hQ270
  have N270 := Fr.app N254 N270q
  refine iS X270 hx (L' := (FL p0 p1 1 1 t0 t1 t2 t3 t4 c1 c2 (iv 1) .unset .unset .unset .unset .unset)) (hb Y at_207) rfl ?_
  exact hk0 _ _ X270 N270
theorem F2_6  {cells slots : Nat} (p0 : Int32) (p1 : Int64) (t0 : Int32) (t1 : Int32) (t2 : Int32) (t3 : Int32) (t4 : Int32) (c1 : Nat) (c2 : Nat) (X0 : Stand p l e room_1 s m args below meth c T0 locs cells slots) (G : SG p s m meth c Z a0) (N0 : Fr n0 locs) (hK : cells ≤ room_1.cells) (hN : slots ≤ room_1.slots) :
    EndsSo p e below (LQ s n0) T0 (mkF m 303 (FL p0 p1 1 1 t0 t1 t2 t3 t4 c1 c2 (iv 1) (iv 0) (iv t0) (.val (.long 10)) .second .unset) []) := by
  obtain ⟨hx, hZ, hw, Y, hml, hO, hlk, hret⟩ := id G
  refine iN X0 hx (hb Y at_303) rfl <| iL X0 hx (hb Y at_304) rfl <| iB X0 hx (z := 1) (hb Y at_306) <| iS X0 hx (L' := (FL p0 p1 1 1 t0 t1 t2 t3 t4 c1 c2 (iv 1) (iv 0) (iv 1) (.val (.long 10)) .second .unset)) (hb Y at_307) rfl <| iL X0 hx (hb Y at_309) rfl <| iL X0 hx (hb Y at_311) rfl <| iA X0 hx (z := 2) (hb Y at_313) <| iS X0 hx (L' := (FL p0 p1 1 1 t0 t1 t2 t3 t4 c1 c2 (iv 1) (iv 0) (iv 1) (iv 2) .unset .unset)) (hb Y at_314) rfl <| iL X0 hx (hb Y at_316) rfl <| iK X0 hx (z := 1) (hb Y at_318) <| cN X0 hx (hb Y at_319) <| iL X0 hx (hb Y at_322) rfl <| fN X0 hx (hb Y at_324) <| iL X0 hx (hb Y at_327) rfl <| gT X0 hx (pc := 329) 350 (hb Y at_329) <| iS X0 hx (L' := (FL p0 p1 1 1 t0 t1 t2 t3 t4 c1 c2 (iv 1) (iv 0) (iv 1) (iv 2) (iv t0) .unset)) (hb Y at_350) rfl <| iL X0 hx (hb Y at_352) rfl <| iK X0 hx (z := 1) (hb Y at_354) <| cY X0 hx (pc := 355) 369 (hb Y at_355) <| iK X0 hx (z := 1) (hb Y at_369) <| gT X0 hx (pc := 370) 374 (hb Y at_370) <| iS X0 hx (L' := (FL p0 p1 1 1 t0 t1 t2 t3 t4 c1 c2 (iv 1) (iv 0) (iv 1) (iv 2) (iv t0) (iv 1))) (hb Y at_374) rfl <| iL X0 hx (hb Y at_376) rfl <| iL X0 hx (hb Y at_378) rfl <| cN X0 hx (hb Y at_380) <| iK X0 hx (z := 1) (hb Y at_383) <| gT X0 hx (pc := 384) 388 (hb Y at_384) ?_
  exact f_ret X0 hx hlk (i := .ireturn) hret rfl (Or.inl ⟨rfl, Or.inr (Or.inl rfl), _, rfl⟩) (hb Y at_388) (QQ := (QL n0)) ⟨rfl, N0⟩ hK hN
def St13 (Z : State) (h : Heap) (n0 : Nat) (c1 : Nat) (c2 : Nat) (c3 : Nat) (c4 : Nat) (c5 : Nat) (kc1 : ClassId) (kc2 : ClassId) (kc3 : ClassId) (kc4 : ClassId) (uu1 : Int64) (uu2 : Int64) (ww3 : Value) (ww4 : Value) : Prop :=
  xO Z h c1 ∧
  Arv Z h c1 kc1 (.object "java/lang/Object") 1 [.null] .null ∧
  Ovr Z kc1 "java/lang/Object" ∧
  Exa Z h c2 cV ∧
  fT Z h c2 (.ref c3) ∧
  fR Z h c2 (.ref c4) ∧
  fC Z h c2 (.ref c5) ∧
  fS Z h c2 (.int 2) ∧
  fO Z h c2 (.int 0) ∧
  aL Z h c3 kc2 2 [(.long uu1), (.long uu2)] ∧
  xR Z h c4 ∧
  aR Z h c4 kc3 2 [ww3, ww4] ∧
  oR Z kc3 ∧
  xC Z h c5 ∧
  aC Z h c5 kc4 2 [.null, .null] ∧
  oC Z kc4 ∧
  n0 ≤ c1 ∧
  c1 < c2 ∧
  c2 < c3 ∧
  c3 < c4 ∧
  c4 < c5 ∧
  ww3.isRef = true ∧
  (ww3 = .null ∨ ww3 = .ref c1) ∧
  ww4.isRef = true ∧
  (ww4 = .null ∨ ww4 = .ref c1)
def St14 (Z : State) (h : Heap) (n0 : Nat) (c1 : Nat) (c2 : Nat) (c3 : Nat) (c4 : Nat) (c5 : Nat) (b403 : Nat) (b404 : Nat) (b405 : Nat) (kc1 : ClassId) (kc2 : ClassId) (kc3 : ClassId) (kc4 : ClassId) (kb403 : ClassId) (kb404 : ClassId) (kb405 : ClassId) (uu1 : Int64) (uu2 : Int64) (ww3 : Value) (ww4 : Value) : Prop :=
  xO Z h c1 ∧
  Arv Z h c1 kc1 (.object "java/lang/Object") 1 [.null] .null ∧
  Ovr Z kc1 "java/lang/Object" ∧
  Exa Z h c2 cV ∧
  fT Z h c2 (.ref b403) ∧
  fR Z h c2 (.ref b404) ∧
  fC Z h c2 (.ref b405) ∧
  fS Z h c2 (.int 2) ∧
  fO Z h c2 (.int 0) ∧
  aL Z h c3 kc2 2 [(.long uu1), (.long uu2)] ∧
  xR Z h c4 ∧
  aR Z h c4 kc3 2 [ww3, ww4] ∧
  oR Z kc3 ∧
  xC Z h c5 ∧
  aC Z h c5 kc4 2 [.null, .null] ∧
  oC Z kc4 ∧
  aL Z h b403 kb403 4 [(.long uu1), (.long uu2), (.long 0), (.long 0)] ∧
  xR Z h b404 ∧
  aR Z h b404 kb404 4 [ww3, ww4, .null, .null] ∧
  oR Z kb404 ∧
  xC Z h b405 ∧
  aC Z h b405 kb405 4 [.null, .null, .null, .null] ∧
  oC Z kb405 ∧
  n0 ≤ c1 ∧
  c1 < c2 ∧
  c2 < c3 ∧
  c3 < c4 ∧
  c4 < c5 ∧
  c5 < b403 ∧
  b403 < b404 ∧
  b404 < b405 ∧
  ww3.isRef = true ∧
  (ww3 = .null ∨ ww3 = .ref c1) ∧
  ww4.isRef = true ∧
  (ww4 = .null ∨ ww4 = .ref c1)
def Qm431 (Z : State) (n0 : Nat) (c1 : Nat) (c2 : Nat) (c3 : Nat) (c4 : Nat) (c5 : Nat) (kc1 : ClassId) (kc2 : ClassId) (kc3 : ClassId) (kc4 : ClassId) (uu1 : Int64) (uu2 : Int64) (ww3 : Value) (ww4 : Value) (v : Option Value) (h : Heap) (L : List Loc) : Prop := v = none ∧ Fr n0 L ∧ ∃ (kb403 : ClassId) (b403 : Nat) (kb404 : ClassId) (b404 : Nat) (kb405 : ClassId) (b405 : Nat), St14 Z h n0 c1 c2 c3 c4 c5 b403 b404 b405 kc1 kc2 kc3 kc4 kb403 kb404 kb405 uu1 uu2 ww3 ww4
theorem m431 (l : Launch) (Z : State) (a0 : Array Value) (hw : HW a0 Z) (ws : List Jvm.Cond) (h0 : Heap) (n0 : Nat) (c1 : Nat) (c2 : Nat) (c3 : Nat) (c4 : Nat) (c5 : Nat) (kc1 : ClassId) (kc2 : ClassId) (kc3 : ClassId) (kc4 : ClassId) (uu1 : Int64) (uu2 : Int64) (ww3 : Value) (ww4 : Value) (P : St13 Z h0 n0 c1 c2 c3 c4 c5 kc1 kc2 kc3 kc4 uu1 uu2 ww3 ww4) :
    MC l Z y8 prog_95_method_10_code 7 none ws rm_1_3_12_13 #[(.ref c2), (.int 4)] h0 (Qm431 Z n0 c1 c2 c3 c4 c5 kc1 kc2 kc3 kc4 uu1 uu2 ww3 ww4) := by
  obtain ⟨E_c1, V_c1, O_c1, E_c2, F_c2_t, F_c2_r, F_c2_c, F_c2_s, F_c2_o, V_c3, E_c4, V_c4, O_c4, E_c5, V_c5, O_c5, g_c1, lt_c1_c2, lt_c2_c3, lt_c3_c4, lt_c4_c5, rf_ww3, rw_ww3, rf_ww4, rw_ww4⟩ := id P
  refine own_met (plainFor_of_name pn8) fun p e s m below meth c s₁ X0 hx hZ Y hml hO hnm hlk hret e0 => f_cast (f' := mkF m 0 #[(rv c2), (iv 4), .unset, .unset, .unset, .unset, .unset] []) (by first | (simp [entryFrame, mkF, argsToLocals, Value.category]; done) | rfl) ?_
  have N0 := Fr.nil n0
  refine iN X0 hx (hb Y d8_0) rfl <| f_newP X0 hx hZ (aty := .long) (w15 hw) e0 (hb Y d8_1) 4 fun T403 h403 kb403 b403 g403 X403 e403 E403 V_b403 => ?_
  have lt_c5_b403 : c5 < b403 := by have := own_ltE E_c5; omega
  refine f_astoreN X403 hx (L' := #[(rv c2), (iv 4), (rv b403), .unset, .unset, .unset, .unset]) (hb Y d8_3) rfl rfl <| iN X403 hx (hb Y d8_4) rfl <| f_newRA X403 hx hZ hO (ty := (.object "java/lang/Object")) (by decide +kernel) (w18 hw) (w19 hw) e403 (hb Y d8_5) 4 (ad := "[[Ljava/lang/Object;") (by decide +kernel) fun T404 h404 kb404 b404 g404 X404 e404 E404 V_b404 E_b404 O_b404 => ?_
  have lt_b403_b404 : b403 < b404 := by have := own_ltV V_b403; omega
  refine f_astoreN X404 hx (L' := #[(rv c2), (iv 4), (rv b403), (rv b404), .unset, .unset, .unset]) (hb Y d8_8) rfl rfl <| iN X404 hx (hb Y d8_9) rfl <| f_newRA X404 hx hZ hO (ty := .int) (by decide +kernel) (w22 hw) (w23 hw) e404 (hb Y d8_10) 4 (ad := "[[I") (by decide +kernel) fun T405 h405 kb405 b405 g405 X405 e405 E405 V_b405 E_b405 O_b405 => ?_
  have lt_b404_b405 : b404 < b405 := by have := own_ltE E_b404; omega
  refine f_astore X405 hx (L' := #[(rv c2), (iv 4), (rv b403), (rv b404), (rv b405), .unset, .unset]) (hb Y d8_13) rfl rfl <| iK X405 hx (z := 0) (hb Y d8_15) <| iS X405 hx (L' := #[(rv c2), (iv 4), (rv b403), (rv b404), (rv b405), (iv 0), .unset]) (hb Y d8_16) rfl <| iL X405 hx (hb Y d8_18) rfl <| aN X405 hx (hb Y d8_20) rfl rfl ?_
  replace F_c2_s := (fe E405 (fe E404 (fe E403 F_c2_s)))
  refine gF X405 hx hZ hO (w31 hw) Via.refl e405 F_c2_s (hb Y d8_21) fun T406 X406 e406 => ?_
  refine cN X406 hx (hb Y d8_24) <| aN X406 hx (hb Y d8_27) rfl rfl <| iL X406 hx (hb Y d8_28) rfl ?_
  replace F_c2_o := (fe E405 (fe E404 (fe E403 F_c2_o)))
  replace F_c2_t := (fe E405 (fe E404 (fe E403 F_c2_t)))
  replace V_c3 := (ve (ve (ve V_c3 E403) E404) E405)
  replace E_c2 := (xe E405 (xe E404 (xe E403 E_c2)))
  refine pV X406 hx hZ hO (by rw [hml]; rfl) (w44 hw) (w45 hw) (w46 hw) (w7 hw) (w8 hw) (w47 hw) e406 E_c2 (argsL := [(.int 0)]) (rest := []) (q61 l Z a0 hw [] h405 n0 c2 c3 kc2 _ F_c2_o F_c2_t V_c3) (lenOf pd4 rfl) (hb Y d8_30) fun T407 L407 v407 X407 hQ407 => ?_
  obtain ⟨rfl, N407q, e407⟩ := hQ407
  have N407 := Fr.app N0 N407q
  refine iS X407 hx (L' := #[(rv c2), (iv 4), (rv b403), (rv b404), (rv b405), (iv 0), (iv 0)]) (hb Y d8_33) rfl <| aN X407 hx (hb Y d8_35) rfl rfl <| iL X407 hx (hb Y d8_36) rfl <| aN X407 hx (hb Y d8_38) rfl rfl <| gF X407 hx hZ hO (w16 hw) Via.refl e407 F_c2_t (hb Y d8_39) fun T410 X410 e410 => ?_
  refine iL X410 hx (hb Y d8_42) rfl <| f_lald X410 hx hZ e410 V_c3 (v := (.long uu1)) rfl (hb Y d8_44) ?_
  replace V_b403 := (ve (ve V_b403 E404) E405)
  refine f_lst X410 hx hZ e410 V_b403 0 (hb Y d8_45) fun T411 h411 X411 e411 W411 V411 => ?_
  have N411x := Fr.snoc X411 N407 (by omega : n0 ≤ b403)
  refine aN X411 hx (hb Y d8_46) rfl rfl <| iL X411 hx (hb Y d8_47) rfl <| aN X411 hx (hb Y d8_49) rfl rfl ?_
  replace F_c2_r := (fo W411 (fe E405 (fe E404 (fe E403 F_c2_r))))
  refine gF X411 hx hZ hO (w20 hw) Via.refl e411 F_c2_r (hb Y d8_50) fun T412 X412 e412 => ?_
  refine iL X412 hx (hb Y d8_53) rfl ?_
  replace V_c4 := (vo (ve (ve (ve V_c4 E403) E404) E405) W411)
  refine f_aald X412 hx hZ e412 V_c4 rfl (v := ww3) rfl (hb Y d8_55) ?_
  replace V_b404 := (vo (ve V_b404 E405) W411)
  replace E_c1 := (xw W411 (xe E405 (xe E404 (xe E403 E_c1))))
  refine f_ast X412 hx hZ e412 V_b404 rfl (own_sto rw_ww3 (own_stoVA V_b404 O_b404 (Ins.self E_c1))) (own_fits rf_ww3) 0 (hb Y d8_56) fun T413 h413 X413 e413 W413 V413 => ?_
  have N413x := Fr.snoc X413 N411x (by omega : n0 ≤ b404)
  refine aA X413 hx (hb Y d8_57) rfl rfl <| iL X413 hx (hb Y d8_59) rfl <| aN X413 hx (hb Y d8_61) rfl rfl ?_
  replace F_c2_c := (fo W413 (fo W411 (fe E405 (fe E404 (fe E403 F_c2_c)))))
  refine gF X413 hx hZ hO (w24 hw) Via.refl e413 F_c2_c (hb Y d8_62) fun T414 X414 e414 => ?_
  refine iL X414 hx (hb Y d8_65) rfl ?_
  replace V_c5 := (vo (vo (ve (ve (ve V_c5 E403) E404) E405) W411) W413)
  refine f_aald X414 hx hZ e414 V_c5 rfl (v := .null) rfl (hb Y d8_67) ?_
  replace V_b405 := (vo (vo V_b405 W411) W413)
  refine f_ast X414 hx hZ e414 V_b405 rfl (Or.inl rfl) rfl 0 (hb Y d8_68) fun T415 h415 X415 e415 W415 V415 => ?_
  have N415x := Fr.snoc X415 N413x (by omega : n0 ≤ b405)
  refine f_iinc X415 hx (L' := #[(rv c2), (iv 4), (rv b403), (rv b404), (rv b405), (iv 1), (iv 0)]) (hb Y d8_69) rfl rfl <| gT X415 hx (pc := 72) 18 (hb Y d8_72) <| iL X415 hx (hb Y d8_18) rfl <| aN X415 hx (hb Y d8_20) rfl rfl ?_
  replace F_c2_s := (fo W415 (fo W413 (fo W411 F_c2_s)))
  refine gF X415 hx hZ hO (w31 hw) Via.refl e415 F_c2_s (hb Y d8_21) fun T416 X416 e416 => ?_
  refine cN X416 hx (hb Y d8_24) <| aN X416 hx (hb Y d8_27) rfl rfl <| iL X416 hx (hb Y d8_28) rfl ?_
  replace F_c2_o := (fo W415 (fo W413 (fo W411 F_c2_o)))
  replace F_c2_t := (fo W415 (fo W413 (fo W411 F_c2_t)))
  replace V_c3 := (vo (vo (vo V_c3 W411) W413) W415)
  replace E_c2 := (xw W415 (xw W413 (xw W411 E_c2)))
  refine pV X416 hx hZ hO (by rw [hml]; rfl) (w44 hw) (w45 hw) (w46 hw) (w7 hw) (w8 hw) (w47 hw) e416 E_c2 (argsL := [(.int 1)]) (rest := []) (q123 l Z a0 hw [] h415 n0 c2 c3 kc2 _ F_c2_o F_c2_t V_c3) (lenOf pd4 rfl) (hb Y d8_30) fun T417 L417 v417 X417 hQ417 => ?_
  obtain ⟨rfl, N417q, e417⟩ := hQ417
  have N417 := Fr.app N415x N417q
  refine iS X417 hx (L' := #[(rv c2), (iv 4), (rv b403), (rv b404), (rv b405), (iv 1), (iv 1)]) (hb Y d8_33) rfl <| aN X417 hx (hb Y d8_35) rfl rfl <| iL X417 hx (hb Y d8_36) rfl <| aN X417 hx (hb Y d8_38) rfl rfl <| gF X417 hx hZ hO (w16 hw) Via.refl e417 F_c2_t (hb Y d8_39) fun T420 X420 e420 => ?_
  refine iL X420 hx (hb Y d8_42) rfl <| f_lald X420 hx hZ e420 V_c3 (v := (.long uu2)) rfl (hb Y d8_44) ?_
  replace V_b403 := (vo (vo V411 W413) W415)
  refine f_lst X420 hx hZ e420 V_b403 1 (hb Y d8_45) fun T421 h421 X421 e421 W421 V421 => ?_
  have N421x := Fr.snoc X421 N417 (by omega : n0 ≤ b403)
  refine aN X421 hx (hb Y d8_46) rfl rfl <| iL X421 hx (hb Y d8_47) rfl <| aN X421 hx (hb Y d8_49) rfl rfl ?_
  replace F_c2_r := (fo W421 (fo W415 (fo W413 F_c2_r)))
  refine gF X421 hx hZ hO (w20 hw) Via.refl e421 F_c2_r (hb Y d8_50) fun T422 X422 e422 => ?_
  refine iL X422 hx (hb Y d8_53) rfl ?_
  replace V_c4 := (vo (vo (vo V_c4 W413) W415) W421)
  refine f_aald X422 hx hZ e422 V_c4 rfl (v := ww4) rfl (hb Y d8_55) ?_
  replace V_b404 := (vo (vo V413 W415) W421)
  replace E_c1 := (xw W421 (xw W415 (xw W413 E_c1)))
  refine f_ast X422 hx hZ e422 V_b404 rfl (own_sto rw_ww4 (own_stoVA V_b404 O_b404 (Ins.self E_c1))) (own_fits rf_ww4) 1 (hb Y d8_56) fun T423 h423 X423 e423 W423 V423 => ?_
  have N423x := Fr.snoc X423 N421x (by omega : n0 ≤ b404)
  refine aA X423 hx (hb Y d8_57) rfl rfl <| iL X423 hx (hb Y d8_59) rfl <| aN X423 hx (hb Y d8_61) rfl rfl ?_
  replace F_c2_c := (fo W423 (fo W421 (fo W415 F_c2_c)))
  refine gF X423 hx hZ hO (w24 hw) Via.refl e423 F_c2_c (hb Y d8_62) fun T424 X424 e424 => ?_
  refine iL X424 hx (hb Y d8_65) rfl ?_
  replace V_c5 := (vo (vo (vo V_c5 W415) W421) W423)
  refine f_aald X424 hx hZ e424 V_c5 rfl (v := .null) rfl (hb Y d8_67) ?_
  replace V_b405 := (vo (vo V415 W421) W423)
  refine f_ast X424 hx hZ e424 V_b405 rfl (Or.inl rfl) rfl 1 (hb Y d8_68) fun T425 h425 X425 e425 W425 V425 => ?_
  have N425x := Fr.snoc X425 N423x (by omega : n0 ≤ b405)
  refine f_iinc X425 hx (L' := #[(rv c2), (iv 4), (rv b403), (rv b404), (rv b405), (iv 2), (iv 1)]) (hb Y d8_69) rfl rfl <| gT X425 hx (pc := 72) 18 (hb Y d8_72) <| iL X425 hx (hb Y d8_18) rfl <| aN X425 hx (hb Y d8_20) rfl rfl ?_
  replace F_c2_s := (fo W425 (fo W423 (fo W421 F_c2_s)))
  refine gF X425 hx hZ hO (w31 hw) Via.refl e425 F_c2_s (hb Y d8_21) fun T426 X426 e426 => ?_
  refine cY X426 hx (pc := 24) 75 (hb Y d8_24) <| aN X426 hx (hb Y d8_75) rfl rfl <| aN X426 hx (hb Y d8_76) rfl rfl ?_
  replace F_c2_t := (fo W425 (fo W423 (fo W421 F_c2_t)))
  replace E_c2 := (xw W425 (xw W423 (xw W421 E_c2)))
  refine f_putF X426 hx hZ hO (w16 hw) Via.refl e426 F_c2_t E_c2 (Or.inl (w17 hw)) (w7 hw) (ty := (.array .long)) (by decide) rfl rfl (hb Y d8_77) fun T427 h427 X427 e427 W427 => ?_
  have N427x := Fr.snoc X427 N425x (by omega : n0 ≤ c2)
  refine aN X427 hx (hb Y d8_80) rfl rfl <| aN X427 hx (hb Y d8_81) rfl rfl ?_
  replace F_c2_r := (Fld.other W427 (fo W425 (fo W423 F_c2_r)) (Or.inr (slot_ne (Or.inl (w21 hw)) (Or.inl (w17 hw)) (by decide) (t := (.array (.array (.object "java/lang/Object")))) (t' := (.array .long)) (by decide) (by decide))))
  replace E_c2 := (xw W427 E_c2)
  refine f_putF X427 hx hZ hO (w20 hw) Via.refl e427 F_c2_r E_c2 (Or.inl (w21 hw)) (w7 hw) (ty := (.array (.array (.object "java/lang/Object")))) (by decide) rfl rfl (hb Y d8_82) fun T428 h428 X428 e428 W428 => ?_
  have N428x := Fr.snoc X428 N427x (by omega : n0 ≤ c2)
  refine aN X428 hx (hb Y d8_85) rfl rfl <| aA X428 hx (hb Y d8_86) rfl rfl ?_
  replace F_c2_c := (Fld.other W428 (Fld.other W427 (fo W425 F_c2_c) (Or.inr (slot_ne (Or.inl (w25 hw)) (Or.inl (w17 hw)) (by decide) (t := (.array (.array .int))) (t' := (.array .long)) (by decide) (by decide)))) (Or.inr (slot_ne (Or.inl (w25 hw)) (Or.inl (w21 hw)) (by decide) (t := (.array (.array .int))) (t' := (.array (.array (.object "java/lang/Object")))) (by decide) (by decide))))
  replace E_c2 := (xw W428 E_c2)
  refine f_putF X428 hx hZ hO (w24 hw) Via.refl e428 F_c2_c E_c2 (Or.inl (w25 hw)) (w7 hw) (ty := (.array (.array .int))) (by decide) rfl rfl (hb Y d8_88) fun T429 h429 X429 e429 W429 => ?_
  have N429x := Fr.snoc X429 N428x (by omega : n0 ≤ c2)
  refine aN X429 hx (hb Y d8_91) rfl rfl <| iK X429 hx (z := 0) (hb Y d8_92) ?_
  replace F_c2_o := (Fld.other W429 (Fld.other W428 (Fld.other W427 (fo W425 (fo W423 (fo W421 F_c2_o))) (Or.inr (slot_ne (Or.inl (w49 hw)) (Or.inl (w17 hw)) (by decide) (t := .int) (t' := (.array .long)) (by decide) (by decide)))) (Or.inr (slot_ne (Or.inl (w49 hw)) (Or.inl (w21 hw)) (by decide) (t := .int) (t' := (.array (.array (.object "java/lang/Object")))) (by decide) (by decide)))) (Or.inr (slot_ne (Or.inl (w49 hw)) (Or.inl (w25 hw)) (by decide) (t := .int) (t' := (.array (.array .int))) (by decide) (by decide))))
  replace E_c2 := (xw W429 E_c2)
  refine f_putF X429 hx hZ hO (w48 hw) Via.refl e429 F_c2_o E_c2 (Or.inl (w49 hw)) (w7 hw) (ty := .int) (by decide) rfl rfl (hb Y d8_93) fun T430 h430 X430 e430 W430 => ?_
  have N430x := Fr.snoc X430 N429x (by omega : n0 ≤ c2)
  exact f_ret0 X430 hx hlk hret (hb Y d8_96) (QQ := (Qm431 Z n0 c1 c2 c3 c4 c5 kc1 kc2 kc3 kc4 uu1 uu2 ww3 ww4)) (by rw [e430]; exact ⟨rfl, N430x, kb403, b403, kb404, b404, kb405, b405, (xw W430 (xw W429 (xw W428 (xw W427 (xw W425 (xw W423 E_c1)))))), (vo (vo (vo (vo (vo (vo (vo (vo (vo (vo (ve (ve (ve V_c1 E403) E404) E405) W411) W413) W415) W421) W423) W425) W427) W428) W429) W430), O_c1, (xw W430 E_c2), (Fld.other W430 (Fld.other W429 (Fld.other W428 (Fld.same W427 F_c2_t) (Or.inr (slot_ne (Or.inl (w17 hw)) (Or.inl (w21 hw)) (by decide) (t := (.array .long)) (t' := (.array (.array (.object "java/lang/Object")))) (by decide) (by decide)))) (Or.inr (slot_ne (Or.inl (w17 hw)) (Or.inl (w25 hw)) (by decide) (t := (.array .long)) (t' := (.array (.array .int))) (by decide) (by decide)))) (Or.inr (slot_ne (Or.inl (w17 hw)) (Or.inl (w49 hw)) (by decide) (t := (.array .long)) (t' := .int) (by decide) (by decide)))), (Fld.other W430 (Fld.other W429 (Fld.same W428 F_c2_r) (Or.inr (slot_ne (Or.inl (w21 hw)) (Or.inl (w25 hw)) (by decide) (t := (.array (.array (.object "java/lang/Object")))) (t' := (.array (.array .int))) (by decide) (by decide)))) (Or.inr (slot_ne (Or.inl (w21 hw)) (Or.inl (w49 hw)) (by decide) (t := (.array (.array (.object "java/lang/Object")))) (t' := .int) (by decide) (by decide)))), (Fld.other W430 (Fld.same W429 F_c2_c) (Or.inr (slot_ne (Or.inl (w25 hw)) (Or.inl (w49 hw)) (by decide) (t := (.array (.array .int))) (t' := .int) (by decide) (by decide)))), (Fld.other W430 (Fld.other W429 (Fld.other W428 (Fld.other W427 F_c2_s (Or.inr (slot_ne (Or.inl (w32 hw)) (Or.inl (w17 hw)) (by decide) (t := .int) (t' := (.array .long)) (by decide) (by decide)))) (Or.inr (slot_ne (Or.inl (w32 hw)) (Or.inl (w21 hw)) (by decide) (t := .int) (t' := (.array (.array (.object "java/lang/Object")))) (by decide) (by decide)))) (Or.inr (slot_ne (Or.inl (w32 hw)) (Or.inl (w25 hw)) (by decide) (t := .int) (t' := (.array (.array .int))) (by decide) (by decide)))) (Or.inr (slot_ne (Or.inl (w32 hw)) (Or.inl (w49 hw)) (by decide) (t := .int) (t' := .int) (by decide) (by decide)))), (Fld.same W430 F_c2_o), (vo (vo (vo (vo (vo (vo (vo V_c3 W421) W423) W425) W427) W428) W429) W430), (xw W430 (xw W429 (xw W428 (xw W427 (xw W425 (xw W423 (xw W421 (xw W415 (xw W413 (xw W411 (xe E405 (xe E404 (xe E403 E_c4))))))))))))), (vo (vo (vo (vo (vo (vo V_c4 W423) W425) W427) W428) W429) W430), O_c4, (xw W430 (xw W429 (xw W428 (xw W427 (xw W425 (xw W423 (xw W421 (xw W415 (xw W413 (xw W411 (xe E405 (xe E404 (xe E403 E_c5))))))))))))), (vo (vo (vo (vo (vo V_c5 W425) W427) W428) W429) W430), O_c5, (vo (vo (vo (vo (vo (vo V421 W423) W425) W427) W428) W429) W430), (xw W430 (xw W429 (xw W428 (xw W427 (xw W425 (xw W423 (xw W421 (xw W415 (xw W413 (xw W411 (xe E405 E_b404))))))))))), (vo (vo (vo (vo (vo V423 W425) W427) W428) W429) W430), O_b404, (xw W430 (xw W429 (xw W428 (xw W427 (xw W425 (xw W423 (xw W421 (xw W415 (xw W413 (xw W411 E_b405)))))))))), (vo (vo (vo (vo V425 W427) W428) W429) W430), O_b405, g_c1, lt_c1_c2, lt_c2_c3, lt_c3_c4, lt_c4_c5, lt_c5_b403, lt_b403_b404, lt_b404_b405, rf_ww3, rw_ww3, rf_ww4, rw_ww4⟩) (by decide) (by decide)
theorem q443 (l : Launch) (Z : State) (a0 : Array Value) (hw : HW a0 Z) (ws : List Jvm.Cond) (h0 : Heap) (n0 : Nat) (c1 : Nat) (c2 : Nat) (kc3 : ClassId) (vs_c2 : List Value) (F_c1_o : fO Z h0 c1 (.int 0)) (F_c1_t : fT Z h0 c1 (.ref c2)) (V_c2 : aL Z h0 c2 kc3 4 vs_c2) :
    MC l Z y6 prog_95_method_11_code 2 (some .int) ws rm_0_0_0_0 #[(.ref c1), (.int 2)] h0 (QV (.int 2) h0 n0) := by
  refine own_met (plainFor_of_name pn6) fun p e s m below meth c s₁ X0 hx hZ Y hml hO hnm hlk hret e0 => f_cast (f' := mkF m 0 #[(rv c1), (iv 2)] []) (by first | (simp [entryFrame, mkF, argsToLocals, Value.category]; done) | rfl) ?_
  have N0 := Fr.nil n0
  refine aN X0 hx (hb Y d6_0) rfl rfl <| gF X0 hx hZ hO (w48 hw) Via.refl e0 F_c1_o (hb Y d6_1) fun T441 X441 e441 => ?_
  refine iN X441 hx (hb Y d6_4) rfl <| iA X441 hx (z := 2) (hb Y d6_5) <| aN X441 hx (hb Y d6_6) rfl rfl <| gF X441 hx hZ hO (w16 hw) Via.refl e441 F_c1_t (hb Y d6_7) fun T442 X442 e442 => ?_
  refine f_len X442 hx hZ e442 V_c2 (hb Y d6_10) <| iK X442 hx (z := 1) (hb Y d6_11) <| iB X442 hx (z := 3) (hb Y d6_12) <| f_iand X442 hx (z := 2) (hb Y d6_13) ?_
  exact f_ret X442 hx hlk (i := .ireturn) hret rfl (Or.inl ⟨rfl, Or.inl rfl, _, rfl⟩) (hb Y d6_14) (QQ := (QV (.int 2) h0 n0)) ⟨rfl, N0, e442⟩ (by decide) (by decide)
def St15 (Z : State) (h : Heap) (n0 : Nat) (c1 : Nat) (c2 : Nat) (c3 : Nat) (c4 : Nat) (c5 : Nat) (kc1 : ClassId) (kc2 : ClassId) (kc3 : ClassId) (kc4 : ClassId) (uu1 : Int64) (uu2 : Int64) (ww3 : Value) (ww4 : Value) (ww6 : Value) : Prop :=
  xO Z h c1 ∧
  Arv Z h c1 kc1 (.object "java/lang/Object") 1 [.null] .null ∧
  Ovr Z kc1 "java/lang/Object" ∧
  Exa Z h c2 cV ∧
  fT Z h c2 (.ref c3) ∧
  fR Z h c2 (.ref c4) ∧
  fC Z h c2 (.ref c5) ∧
  fS Z h c2 (.int 2) ∧
  fO Z h c2 (.int 0) ∧
  aL Z h c3 kc2 2 [(.long uu1), (.long uu2)] ∧
  xR Z h c4 ∧
  aR Z h c4 kc3 2 [ww3, ww4] ∧
  oR Z kc3 ∧
  xC Z h c5 ∧
  aC Z h c5 kc4 2 [.null, .null] ∧
  oC Z kc4 ∧
  n0 ≤ c1 ∧
  c1 < c2 ∧
  c2 < c3 ∧
  c3 < c4 ∧
  c4 < c5 ∧
  ww3.isRef = true ∧
  (ww3 = .null ∨ ww3 = .ref c1) ∧
  ww4.isRef = true ∧
  (ww4 = .null ∨ ww4 = .ref c1) ∧
  ww6.isRef = true ∧
  (ww6 = .null ∨ ww6 = .ref c1)
def St16 (Z : State) (h : Heap) (n0 : Nat) (c1 : Nat) (c2 : Nat) (c3 : Nat) (c4 : Nat) (c5 : Nat) (b433 : Nat) (b435 : Nat) (b437 : Nat) (kc1 : ClassId) (kc2 : ClassId) (kc3 : ClassId) (kc4 : ClassId) (kb432 : ClassId) (kb434 : ClassId) (kb436 : ClassId) (uu1 : Int64) (uu2 : Int64) (ww3 : Value) (ww4 : Value) (uu5 : Int64) (ww6 : Value) : Prop :=
  xO Z h c1 ∧
  Arv Z h c1 kc1 (.object "java/lang/Object") 1 [.null] .null ∧
  Ovr Z kc1 "java/lang/Object" ∧
  Exa Z h c2 cV ∧
  fT Z h c2 (.ref b433) ∧
  fR Z h c2 (.ref b435) ∧
  fC Z h c2 (.ref b437) ∧
  fS Z h c2 (.int 3) ∧
  fO Z h c2 (.int 0) ∧
  aL Z h c3 kc2 2 [(.long uu1), (.long uu2)] ∧
  xR Z h c4 ∧
  aR Z h c4 kc3 2 [ww3, ww4] ∧
  oR Z kc3 ∧
  xC Z h c5 ∧
  aC Z h c5 kc4 2 [.null, .null] ∧
  oC Z kc4 ∧
  aL Z h b433 kb432 4 [(.long uu1), (.long uu2), (.long uu5), (.long 0)] ∧
  xR Z h b435 ∧
  aR Z h b435 kb434 4 [ww3, ww4, ww6, .null] ∧
  oR Z kb434 ∧
  xC Z h b437 ∧
  aC Z h b437 kb436 4 [.null, .null, .null, .null] ∧
  oC Z kb436 ∧
  n0 ≤ c1 ∧
  c1 < c2 ∧
  c2 < c3 ∧
  c3 < c4 ∧
  c4 < c5 ∧
  c5 < b433 ∧
  b433 < b435 ∧
  b435 < b437 ∧
  ww3.isRef = true ∧
  (ww3 = .null ∨ ww3 = .ref c1) ∧
  ww4.isRef = true ∧
  (ww4 = .null ∨ ww4 = .ref c1) ∧
  ww6.isRef = true ∧
  (ww6 = .null ∨ ww6 = .ref c1)
def Qm452 (Z : State) (n0 : Nat) (c1 : Nat) (c2 : Nat) (c3 : Nat) (c4 : Nat) (c5 : Nat) (kc1 : ClassId) (kc2 : ClassId) (kc3 : ClassId) (kc4 : ClassId) (uu1 : Int64) (uu2 : Int64) (ww3 : Value) (ww4 : Value) (ww6 : Value) (uu5 : Int64) (v : Option Value) (h : Heap) (L : List Loc) : Prop := v = none ∧ Fr n0 L ∧ ∃ (kb432 : ClassId) (b433 : Nat) (kb434 : ClassId) (b435 : Nat) (kb436 : ClassId) (b437 : Nat), St16 Z h n0 c1 c2 c3 c4 c5 b433 b435 b437 kc1 kc2 kc3 kc4 kb432 kb434 kb436 uu1 uu2 ww3 ww4 uu5 ww6
theorem m452 (l : Launch) (Z : State) (a0 : Array Value) (hw : HW a0 Z) (ws : List Jvm.Cond) (h0 : Heap) (n0 : Nat) (c1 : Nat) (c2 : Nat) (c3 : Nat) (c4 : Nat) (c5 : Nat) (kc1 : ClassId) (kc2 : ClassId) (kc3 : ClassId) (kc4 : ClassId) (uu1 : Int64) (uu2 : Int64) (ww3 : Value) (ww4 : Value) (ww6 : Value) (uu5 : Int64) (P : St15 Z h0 n0 c1 c2 c3 c4 c5 kc1 kc2 kc3 kc4 uu1 uu2 ww3 ww4 ww6) :
    MC l Z y5 prog_95_method_3_code 6 none ws rm_2_3_12_31 #[(.ref c2), (.long uu5), ww6, .null] h0 (Qm452 Z n0 c1 c2 c3 c4 c5 kc1 kc2 kc3 kc4 uu1 uu2 ww3 ww4 ww6 uu5) := by
  obtain ⟨E_c1, V_c1, O_c1, E_c2, F_c2_t, F_c2_r, F_c2_c, F_c2_s, F_c2_o, V_c3, E_c4, V_c4, O_c4, E_c5, V_c5, O_c5, g_c1, lt_c1_c2, lt_c2_c3, lt_c3_c4, lt_c4_c5, rf_ww3, rw_ww3, rf_ww4, rw_ww4, rf_ww6, rw_ww6⟩ := id P
  refine own_met (plainFor_of_name pn5) fun p e s m below meth c s₁ X0 hx hZ Y hml hO hnm hlk hret e0 => f_cast (f' := mkF m 0 #[(rv c2), (.val (.long uu5)), .second, (.val ww6), (.val .null), .unset] []) (by rcases ref_cases rf_ww6 with q | ⟨_, q⟩ <;> (rw [q]; first | (simp [entryFrame, mkF, argsToLocals, Value.category]; done) | rfl)) ?_
  have N0 := Fr.nil n0
  refine aN X0 hx (hb Y d5_0) rfl rfl <| gF X0 hx hZ hO (w31 hw) Via.refl e0 F_c2_s (hb Y d5_1) fun T371 X371 e371 => ?_
  refine aN X371 hx (hb Y d5_4) rfl rfl <| gF X371 hx hZ hO (w16 hw) Via.refl e371 F_c2_t (hb Y d5_5) fun T372 X372 e372 => ?_
  refine f_len X372 hx hZ e372 V_c3 (hb Y d5_8) <| cN X372 hx (hb Y d5_9) <| aN X372 hx (hb Y d5_12) rfl rfl <| iK X372 hx (z := 2) (hb Y d5_13) <| aN X372 hx (hb Y d5_14) rfl rfl <| gF X372 hx hZ hO (w31 hw) Via.refl e372 F_c2_s (hb Y d5_15) fun T373 X373 e373 => ?_
  refine f_imul X373 hx (z := 4) (hb Y d5_18) ?_
  have P438 : St13 Z h0 n0 c1 c2 c3 c4 c5 kc1 kc2 kc3 kc4 uu1 uu2 ww3 ww4 := ⟨E_c1, V_c1, O_c1, E_c2, F_c2_t, F_c2_r, F_c2_c, F_c2_s, F_c2_o, V_c3, E_c4, V_c4, O_c4, E_c5, V_c5, O_c5, g_c1, lt_c1_c2, lt_c2_c3, lt_c3_c4, lt_c4_c5, rf_ww3, rw_ww3, rf_ww4, rw_ww4⟩
  refine pV X373 hx hZ hO (by rw [hml]; rfl) (w58 hw) (w59 hw) (w60 hw) (w7 hw) (w8 hw) (w61 hw) e373 E_c2 (argsL := [(.int 4)]) (rest := []) (m431 l Z a0 hw [] h0 n0 c1 c2 c3 c4 c5 kc1 kc2 kc3 kc4 uu1 uu2 ww3 ww4 P438) (lenOf pd6 rfl) (hb Y d5_19) fun T374 L374 v374 X374 hQ374 => ?_
  obtain ⟨rfl, N374q, kb432, b433, kb434, b435, kb436, b437, P374⟩ := hQ374
  obtain ⟨E_c1, V_c1, O_c1, E_c2, F_c2_t, F_c2_r, F_c2_c, F_c2_s, F_c2_o, V_c3, E_c4, V_c4, O_c4, E_c5, V_c5, O_c5, V_b433, E_b435, V_b435, O_b435, E_b437, V_b437, O_b437, g_c1, lt_c1_c2, lt_c2_c3, lt_c3_c4, lt_c4_c5, lt_c5_b433, lt_b433_b435, lt_b435_b437, _, _, _, _⟩ := id P374
  have N374 := Fr.app N0 N374q
  refine aN X374 hx (hb Y d5_22) rfl rfl <| aN X374 hx (hb Y d5_23) rfl rfl <| gF X374 hx hZ hO (w31 hw) Via.refl rfl F_c2_s (hb Y d5_24) fun T439 X439 e439 => ?_
  refine pV X439 hx hZ hO (by rw [hml]; rfl) (w44 hw) (w45 hw) (w46 hw) (w7 hw) (w8 hw) (w47 hw) e439 E_c2 (argsL := [(.int 2)]) (rest := []) (q443 l Z a0 hw [] T374.heap n0 c2 b433 kb432 _ F_c2_o F_c2_t V_b433) (lenOf pd4 rfl) (hb Y d5_27) fun T440 L440 v440 X440 hQ440 => ?_
  obtain ⟨rfl, N440q, e440⟩ := hQ440
  have N440 := Fr.app N374 N440q
  refine iS X440 hx (L' := #[(rv c2), (.val (.long uu5)), .second, (.val ww6), (.val .null), (iv 2)]) (hb Y d5_30) rfl <| aN X440 hx (hb Y d5_32) rfl rfl <| gF X440 hx hZ hO (w16 hw) Via.refl e440 F_c2_t (hb Y d5_33) fun T444 X444 e444 => ?_
  refine iL X444 hx (hb Y d5_36) rfl <| lN X444 hx (hb Y d5_38) rfl <| f_lst X444 hx hZ e444 V_b433 2 (hb Y d5_39) fun T445 h445 X445 e445 W445 V445 => ?_
  have N445x := Fr.snoc X445 N440 (by omega : n0 ≤ b433)
  refine aN X445 hx (hb Y d5_40) rfl rfl ?_
  replace F_c2_r := (fo W445 F_c2_r)
  refine gF X445 hx hZ hO (w20 hw) Via.refl e445 F_c2_r (hb Y d5_41) fun T446 X446 e446 => ?_
  refine iL X446 hx (hb Y d5_44) rfl <| aN X446 hx (hb Y d5_46) rfl rf_ww6 ?_
  replace V_b435 := (vo V_b435 W445)
  replace E_c1 := (xw W445 E_c1)
  refine f_ast X446 hx hZ e446 V_b435 rfl (own_sto rw_ww6 (own_stoVA V_b435 O_b435 (Ins.self E_c1))) (own_fits rf_ww6) 2 (hb Y d5_47) fun T447 h447 X447 e447 W447 V447 => ?_
  have N447x := Fr.snoc X447 N445x (by omega : n0 ≤ b435)
  refine aN X447 hx (hb Y d5_48) rfl rfl ?_
  replace F_c2_c := (fo W447 (fo W445 F_c2_c))
  refine gF X447 hx hZ hO (w24 hw) Via.refl e447 F_c2_c (hb Y d5_49) fun T448 X448 e448 => ?_
  refine iL X448 hx (hb Y d5_52) rfl <| aA X448 hx (hb Y d5_54) rfl rfl ?_
  replace V_b437 := (vo (vo V_b437 W445) W447)
  refine f_ast X448 hx hZ e448 V_b437 rfl (Or.inl rfl) rfl 2 (hb Y d5_56) fun T449 h449 X449 e449 W449 V449 => ?_
  have N449x := Fr.snoc X449 N447x (by omega : n0 ≤ b437)
  refine aN X449 hx (hb Y d5_57) rfl rfl <| f_dup X449 hx (hb Y d5_58) rfl ?_
  replace F_c2_s := (fo W449 (fo W447 (fo W445 F_c2_s)))
  refine gF X449 hx hZ hO (w31 hw) Via.refl e449 F_c2_s (hb Y d5_59) fun T450 X450 e450 => ?_
  refine iK X450 hx (z := 1) (hb Y d5_62) <| iA X450 hx (z := 3) (hb Y d5_63) ?_
  replace E_c2 := (xw W449 (xw W447 (xw W445 E_c2)))
  refine f_putF X450 hx hZ hO (w31 hw) Via.refl e450 F_c2_s E_c2 (Or.inl (w32 hw)) (w7 hw) (ty := .int) (by decide) rfl rfl (hb Y d5_64) fun T451 h451 X451 e451 W451 => ?_
  have N451x := Fr.snoc X451 N449x (by omega : n0 ≤ c2)
  exact f_ret0 X451 hx hlk hret (hb Y d5_67) (QQ := (Qm452 Z n0 c1 c2 c3 c4 c5 kc1 kc2 kc3 kc4 uu1 uu2 ww3 ww4 ww6 uu5)) (by rw [e451]; exact ⟨rfl, N451x, kb432, b433, kb434, b435, kb436, b437, (xw W451 (xw W449 (xw W447 E_c1))), (vo (vo (vo (vo V_c1 W445) W447) W449) W451), O_c1, (xw W451 E_c2), (Fld.other W451 (fo W449 (fo W447 (fo W445 F_c2_t))) (Or.inr (slot_ne (Or.inl (w17 hw)) (Or.inl (w32 hw)) (by decide) (t := (.array .long)) (t' := .int) (by decide) (by decide)))), (Fld.other W451 (fo W449 (fo W447 F_c2_r)) (Or.inr (slot_ne (Or.inl (w21 hw)) (Or.inl (w32 hw)) (by decide) (t := (.array (.array (.object "java/lang/Object")))) (t' := .int) (by decide) (by decide)))), (Fld.other W451 (fo W449 F_c2_c) (Or.inr (slot_ne (Or.inl (w25 hw)) (Or.inl (w32 hw)) (by decide) (t := (.array (.array .int))) (t' := .int) (by decide) (by decide)))), (Fld.same W451 F_c2_s), (Fld.other W451 (fo W449 (fo W447 (fo W445 F_c2_o))) (Or.inr (slot_ne (Or.inl (w49 hw)) (Or.inl (w32 hw)) (by decide) (t := .int) (t' := .int) (by decide) (by decide)))), (vo (vo (vo (vo V_c3 W445) W447) W449) W451), (xw W451 (xw W449 (xw W447 (xw W445 E_c4)))), (vo (vo (vo (vo V_c4 W445) W447) W449) W451), O_c4, (xw W451 (xw W449 (xw W447 (xw W445 E_c5)))), (vo (vo (vo (vo V_c5 W445) W447) W449) W451), O_c5, (vo (vo (vo V445 W447) W449) W451), (xw W451 (xw W449 (xw W447 (xw W445 E_b435)))), (vo (vo V447 W449) W451), O_b435, (xw W451 (xw W449 (xw W447 (xw W445 E_b437)))), (vo V449 W451), O_b437, g_c1, lt_c1_c2, lt_c2_c3, lt_c3_c4, lt_c4_c5, lt_c5_b433, lt_b433_b435, lt_b435_b437, rf_ww3, rw_ww3, rf_ww4, rw_ww4, rf_ww6, rw_ww6⟩) (by decide) (by decide)
theorem q462 (l : Launch) (Z : State) (a0 : Array Value) (hw : HW a0 Z) (ws : List Jvm.Cond) (h0 : Heap) (n0 : Nat) (c1 : Nat) (F_c1_s : fS Z h0 c1 (.int 3)) :
    MC l Z y4 prog_95_method_7_code 1 (some .boolean) ws rm_0_0_0_0 #[(.ref c1)] h0 (QV (.int 1) h0 n0) := by
  refine own_met (plainFor_of_name pn4) fun p e s m below meth c s₁ X0 hx hZ Y hml hO hnm hlk hret e0 => f_cast (f' := mkF m 0 #[(rv c1)] []) (by first | (simp [entryFrame, mkF, argsToLocals, Value.category]; done) | rfl) ?_
  have N0 := Fr.nil n0
  refine aN X0 hx (hb Y d4_0) rfl rfl <| gF X0 hx hZ hO (w31 hw) Via.refl e0 F_c1_s (hb Y d4_1) fun T461 X461 e461 => ?_
  refine iK X461 hx (z := 1) (hb Y d4_4) <| cY X461 hx (pc := 5) 28 (hb Y d4_5) <| iK X461 hx (z := 1) (hb Y d4_28) <| gT X461 hx (pc := 29) 33 (hb Y d4_29) ?_
  exact f_ret X461 hx hlk (i := .ireturn) hret rfl (Or.inl ⟨rfl, Or.inr (Or.inl rfl), _, rfl⟩) (hb Y d4_33) (QQ := (QV (.int 1) h0 n0)) ⟨rfl, N0, e461⟩ (by decide) (by decide)
theorem D2_7  (c1 : Nat) (c2 : Nat) (c3 : Nat) (c4 : Nat) (c5 : Nat) (kc1 : ClassId) (kc2 : ClassId) (kc3 : ClassId) (kc4 : ClassId) (r0 : Value) (t0 : Int32) (t1 : Int32) (t2 : Int32) (t3 : Int32) (t4 : Int32) (p0 : Int32) (p1 : Int64) (X0 : Stand p l e room_1 s m args below meth c T0 locs 5 13) (G : SG p s m meth c Z a0) (e0 : T0.heap = h0) (N0 : Fr n0 locs) (P : St12 Z h0 n0 c1 c2 c3 c4 c5 kc1 kc2 kc3 kc4 r0 t0 t1 t2 t3 t4) (hk0 : ∀ (T' : State) (locs' : List Loc), Stand p l e room_1 s m args below meth c T' locs' 8 25 → Fr n0 locs' → EndsSo p e below (LQ s n0) T' (mkF m 209 (FL p0 p1 1 2 t0 t1 t2 t3 t4 c1 c2 (iv 1) .unset .unset .unset .unset .unset) [])) :
    EndsSo p e below (LQ s n0) T0 (mkF m 150 (FL p0 p1 1 2 t0 t1 t2 t3 t4 c1 c2 .unset .unset .unset .unset .unset .unset) []) := by
  obtain ⟨hx, hZ, hw, Y, hml, hO, hlk, hret⟩ := id G
  obtain ⟨E_c1, V_c1, O_c1, E_c2, F_c2_t, F_c2_r, F_c2_c, F_c2_s, F_c2_o, V_c3, E_c4, V_c4, O_c4, E_c5, V_c5, O_c5, g_c1, lt_c1_c2, lt_c2_c3, lt_c3_c4, lt_c4_c5, ht0, ht1, ht2, ht3, ht4, rf_r0, rw_r0, rb_r0⟩ := id P
  refine iL X0 hx (hb Y at_150) rfl <| iK X0 hx (z := 1) (hb Y at_152) <| cN X0 hx (hb Y at_153) <| aA X0 hx (hb Y at_156) rfl rfl <| f_ldc2 X0 hx hZ hO (w56 hw) (hb Y at_158) <| iL X0 hx (hb Y at_161) rfl <| own_mrg X0 hx (row := c1) ht3 (pc := 163) (hb Y at_163) (hb Y at_170) (hb Y at_166) (hb Y at_167) rfl fun r3 rf_r3 rw_r3 rb_r3 => ?_
  refine f_null X0 hx (hb Y at_172) ?_
  have P288 : St6 Z h0 n0 c1 c2 c3 c4 c5 kc1 kc2 kc3 kc4 (10 : Int64) (0 : Int64) r0 .null r3 := ⟨E_c1, V_c1, O_c1, E_c2, F_c2_t, F_c2_r, F_c2_c, F_c2_s, F_c2_o, V_c3, E_c4, V_c4, O_c4, E_c5, V_c5, O_c5, g_c1, lt_c1_c2, lt_c2_c3, lt_c3_c4, lt_c4_c5, rf_r0, rw_r0, rfl, (Or.inl rfl), rf_r3, rw_r3⟩
  refine vV X0 hx hZ hO (by rw [hml]; rfl) (w39 hw) (w40 hw) (w42 hw) (w41 hw) (w8 hw) (w43 hw) e0 E_c2 (argsL := [(.long 40), r3, .null]) (rest := []) (m132 l Z a0 hw [] h0 n0 c1 c2 c3 c4 c5 kc1 kc2 kc3 kc4 (10 : Int64) (0 : Int64) r0 .null r3 (40 : Int64) P288) (lenOf pd5 rfl) (hb Y at_173) fun T273 L273 v273 X273 hQ273 => ?_
  obtain ⟨rfl, N273q, P273⟩ := hQ273
  obtain ⟨E_c1, V_c1, O_c1, E_c2, F_c2_t, F_c2_r, F_c2_c, F_c2_s, F_c2_o, V_c3, E_c4, V_c4, O_c4, E_c5, V_c5, O_c5, g_c1, lt_c1_c2, lt_c2_c3, lt_c3_c4, lt_c4_c5, _, _, _, _, _, _⟩ := id P273
  have N273 := Fr.app N0 N273q
  refine iL X273 hx (hb Y at_176) rfl <| iK X273 hx (z := 2) (hb Y at_178) <| cN X273 hx (hb Y at_179) <| aA X273 hx (hb Y at_182) rfl rfl <| f_ldc2 X273 hx hZ hO (w62 hw) (hb Y at_184) <| iL X273 hx (hb Y at_187) rfl <| own_mrg X273 hx (row := c1) ht4 (pc := 189) (hb Y at_189) (hb Y at_196) (hb Y at_192) (hb Y at_193) rfl fun r4 rf_r4 rw_r4 rb_r4 => ?_
  refine f_null X273 hx (hb Y at_198) ?_
  have P459 : St15 Z T273.heap n0 c1 c2 c3 c4 c5 kc1 kc2 kc3 kc4 (10 : Int64) (40 : Int64) r0 r3 r4 := ⟨E_c1, V_c1, O_c1, E_c2, F_c2_t, F_c2_r, F_c2_c, F_c2_s, F_c2_o, V_c3, E_c4, V_c4, O_c4, E_c5, V_c5, O_c5, g_c1, lt_c1_c2, lt_c2_c3, lt_c3_c4, lt_c4_c5, rf_r0, rw_r0, rf_r3, rw_r3, rf_r4, rw_r4⟩
  refine vV X273 hx hZ hO (by rw [hml]; rfl) (w39 hw) (w40 hw) (w42 hw) (w41 hw) (w8 hw) (w43 hw) rfl E_c2 (argsL := [(.long 50), r4, .null]) (rest := []) (m452 l Z a0 hw [] T273.heap n0 c1 c2 c3 c4 c5 kc1 kc2 kc3 kc4 (10 : Int64) (40 : Int64) r0 r3 r4 (50 : Int64) P459) (lenOf pd5 rfl) (hb Y at_199) fun T289 L289 v289 X289 hQ289 => ?_
  obtain ⟨rfl, N289q, kb453, b454, kb455, b456, kb457, b458, P289⟩ := hQ289
  obtain ⟨E_c1, V_c1, O_c1, E_c2, F_c2_t, F_c2_r, F_c2_c, F_c2_s, F_c2_o, V_c3, E_c4, V_c4, O_c4, E_c5, V_c5, O_c5, V_b454, E_b456, V_b456, O_b456, E_b458, V_b458, O_b458, g_c1, lt_c1_c2, lt_c2_c3, lt_c3_c4, lt_c4_c5, lt_c5_b454, lt_b454_b456, lt_b456_b458, _, _, _, _, _, _⟩ := id P289
  have N289 := Fr.app N273 N289q
  have lt_c2_b454 : c2 < b454 := by omega
  refine aA X289 hx (hb Y at_202) rfl rfl <| vV X289 hx hZ hO (by rw [hml]; rfl) (w33 hw) (w34 hw) (w36 hw) (w35 hw) (w8 hw) (w37 hw) rfl E_c2 (argsL := []) (rest := []) (q462 l Z a0 hw [] T289.heap n0 c2 F_c2_s) (lenOf pd3 rfl) (hb Y at_204) fun T460 L460 v460 X460 hQ460 => ?_
  obtain ⟨rfl, N460q, e460⟩ := hQ460
  have N460 := Fr.app N289 N460q
  refine iS X460 hx (L' := (FL p0 p1 1 2 t0 t1 t2 t3 t4 c1 c2 (iv 1) .unset .unset .unset .unset .unset)) (hb Y at_207) rfl ?_
  exact hk0 _ _ X460 N460
theorem F2_7  {cells slots : Nat} (p0 : Int32) (p1 : Int64) (t0 : Int32) (t1 : Int32) (t2 : Int32) (t3 : Int32) (t4 : Int32) (c1 : Nat) (c2 : Nat) (X0 : Stand p l e room_1 s m args below meth c T0 locs cells slots) (G : SG p s m meth c Z a0) (N0 : Fr n0 locs) (hK : cells ≤ room_1.cells) (hN : slots ≤ room_1.slots) :
    EndsSo p e below (LQ s n0) T0 (mkF m 303 (FL p0 p1 1 2 t0 t1 t2 t3 t4 c1 c2 (iv 1) (iv 0) (iv t0) (.val (.long 10)) .second .unset) []) := by
  obtain ⟨hx, hZ, hw, Y, hml, hO, hlk, hret⟩ := id G
  refine iN X0 hx (hb Y at_303) rfl <| iL X0 hx (hb Y at_304) rfl <| iB X0 hx (z := 1) (hb Y at_306) <| iS X0 hx (L' := (FL p0 p1 1 2 t0 t1 t2 t3 t4 c1 c2 (iv 1) (iv 0) (iv 1) (.val (.long 10)) .second .unset)) (hb Y at_307) rfl <| iL X0 hx (hb Y at_309) rfl <| iL X0 hx (hb Y at_311) rfl <| iA X0 hx (z := 3) (hb Y at_313) <| iS X0 hx (L' := (FL p0 p1 1 2 t0 t1 t2 t3 t4 c1 c2 (iv 1) (iv 0) (iv 1) (iv 3) .unset .unset)) (hb Y at_314) rfl <| iL X0 hx (hb Y at_316) rfl <| iK X0 hx (z := 1) (hb Y at_318) <| cN X0 hx (hb Y at_319) <| iL X0 hx (hb Y at_322) rfl <| fN X0 hx (hb Y at_324) <| iL X0 hx (hb Y at_327) rfl <| gT X0 hx (pc := 329) 350 (hb Y at_329) <| iS X0 hx (L' := (FL p0 p1 1 2 t0 t1 t2 t3 t4 c1 c2 (iv 1) (iv 0) (iv 1) (iv 3) (iv t0) .unset)) (hb Y at_350) rfl <| iL X0 hx (hb Y at_352) rfl <| iK X0 hx (z := 1) (hb Y at_354) <| cY X0 hx (pc := 355) 369 (hb Y at_355) <| iK X0 hx (z := 1) (hb Y at_369) <| gT X0 hx (pc := 370) 374 (hb Y at_370) <| iS X0 hx (L' := (FL p0 p1 1 2 t0 t1 t2 t3 t4 c1 c2 (iv 1) (iv 0) (iv 1) (iv 3) (iv t0) (iv 1))) (hb Y at_374) rfl <| iL X0 hx (hb Y at_376) rfl <| iL X0 hx (hb Y at_378) rfl <| cN X0 hx (hb Y at_380) <| iK X0 hx (z := 1) (hb Y at_383) <| gT X0 hx (pc := 384) 388 (hb Y at_384) ?_
  exact f_ret X0 hx hlk (i := .ireturn) hret rfl (Or.inl ⟨rfl, Or.inr (Or.inl rfl), _, rfl⟩) (hb Y at_388) (QQ := (QL n0)) ⟨rfl, N0⟩ hK hN
theorem C1_4  (c1 : Nat) (c2 : Nat) (c3 : Nat) (c4 : Nat) (c5 : Nat) (kc1 : ClassId) (kc2 : ClassId) (kc3 : ClassId) (kc4 : ClassId) (r0 : Value) (t0 : Int32) (t1 : Int32) (t2 : Int32) (t3 : Int32) (t4 : Int32) (mm : Int32) (p1 : Int64) (p0 : Int32) (X0 : Stand p l e room_1 s m args below meth c T0 locs 5 13) (G : SG p s m meth c Z a0) (e0 : T0.heap = h0) (N0 : Fr n0 locs) (P : St8 Z h0 n0 c1 c2 c3 c4 c5 kc1 kc2 kc3 kc4 r0 t0 t1 t2 t3 t4 mm p1) :
    EndsSo p e below (LQ s n0) T0 (mkF m 143 (FL p0 p1 1 mm t0 t1 t2 t3 t4 c1 c2 .unset .unset .unset .unset .unset .unset) []) := by
  obtain ⟨hx, hZ, hw, Y, hml, hO, hlk, hret⟩ := id G
  obtain ⟨E_c1, V_c1, O_c1, E_c2, F_c2_t, F_c2_r, F_c2_c, F_c2_s, F_c2_o, V_c3, E_c4, V_c4, O_c4, E_c5, V_c5, O_c5, g_c1, lt_c1_c2, lt_c2_c3, lt_c3_c4, lt_c4_c5, ht0, ht1, ht2, ht3, ht4, rf_r0, rw_r0, rb_r0, hm3, z10⟩ := id P
  refine aA X0 hx (hb Y at_143) rfl rfl <| lN X0 hx (hb Y at_145) rfl ?_
  have P239 : St8 Z h0 n0 c1 c2 c3 c4 c5 kc1 kc2 kc3 kc4 r0 t0 t1 t2 t3 t4 mm p1 := ⟨E_c1, V_c1, O_c1, E_c2, F_c2_t, F_c2_r, F_c2_c, F_c2_s, F_c2_o, V_c3, E_c4, V_c4, O_c4, E_c5, V_c5, O_c5, g_c1, lt_c1_c2, lt_c2_c3, lt_c3_c4, lt_c4_c5, ht0, ht1, ht2, ht3, ht4, rf_r0, rw_r0, rb_r0, hm3, z10⟩
  refine vV X0 hx hZ hO (by rw [hml]; rfl) (w26 hw) (w27 hw) (w29 hw) (w28 hw) (w8 hw) (w30 hw) e0 E_c2 (argsL := [(.long p1)]) (rest := []) (m238 l Z a0 hw [] h0 n0 c1 c2 c3 c4 c5 kc1 kc2 kc3 kc4 r0 t0 t1 t2 t3 t4 mm p1 P239) (lenOf pd2 rfl) (hb Y at_146) fun T177 L177 v177 X177 hQ177 => ?_
  obtain ⟨rfl, N177q, P177⟩ := hQ177
  obtain ⟨E_c1, V_c1, O_c1, E_c2, F_c2_t, F_c2_r, F_c2_c, F_c2_s, F_c2_o, V_c3, E_c4, V_c4, O_c4, E_c5, V_c5, O_c5, g_c1, lt_c1_c2, lt_c2_c3, lt_c3_c4, lt_c4_c5, ht0, ht1, ht2, ht3, ht4, rf_r0, rw_r0, rb_r0, hm3, z10⟩ := id P177
  have N177 := Fr.app N0 N177q
  refine f_pop X177 hx (hb Y at_149) rfl ?_
  rcases id hm3 with rfl | rfl | rfl
  · rcases id rb_r0 with ⟨tv0, nv_r0⟩ | ⟨tv0, nv_r0⟩
    · have P246 : St10 Z T177.heap n0 c1 c2 c3 c4 c5 kc1 kc2 kc3 kc4 r0 t0 t1 t2 t3 t4 := ⟨E_c1, V_c1, O_c1, E_c2, F_c2_t, F_c2_r, F_c2_c, F_c2_s, F_c2_o, V_c3, E_c4, V_c4, O_c4, E_c5, V_c5, O_c5, g_c1, lt_c1_c2, lt_c2_c3, lt_c3_c4, lt_c4_c5, ht0, ht1, ht2, ht3, ht4, rf_r0, rw_r0, rb_r0, nv_r0⟩
      exact D0_4 c1 c2 c3 c4 c5 kc1 kc2 kc3 kc4 r0 t0 t1 t2 t3 t4 p0 p1 X177 G rfl N177 P246 (fun T' locs' X' N' => F1_1 p0 p1 (0 : Int32) (0 : Int32) t0 t1 t2 t3 t4 c1 c2 X' G z10 (F2_4 p0 p1 t0 t1 t2 t3 t4 c1 c2 X' G tv0 N' (by decide) (by decide)))
    · have P253 : St11 Z T177.heap n0 c1 c2 c3 c4 c5 kc1 kc2 kc3 kc4 r0 t0 t1 t2 t3 t4 := ⟨E_c1, V_c1, O_c1, E_c2, F_c2_t, F_c2_r, F_c2_c, F_c2_s, F_c2_o, V_c3, E_c4, V_c4, O_c4, E_c5, V_c5, O_c5, g_c1, lt_c1_c2, lt_c2_c3, lt_c3_c4, lt_c4_c5, ht0, ht1, ht2, ht3, ht4, rf_r0, rw_r0, rb_r0, nv_r0⟩
      exact D0_5 c1 c2 c3 c4 c5 kc1 kc2 kc3 kc4 r0 t0 t1 t2 t3 t4 p0 p1 X177 G rfl N177 P253 (fun T' locs' X' N' => F1_1 p0 p1 (0 : Int32) (1 : Int32) t0 t1 t2 t3 t4 c1 c2 X' G z10 (F2_5 p0 p1 t0 t1 t2 t3 t4 c1 c2 X' G tv0 N' (by decide) (by decide)))
  · have P272 : St12 Z T177.heap n0 c1 c2 c3 c4 c5 kc1 kc2 kc3 kc4 r0 t0 t1 t2 t3 t4 := ⟨E_c1, V_c1, O_c1, E_c2, F_c2_t, F_c2_r, F_c2_c, F_c2_s, F_c2_o, V_c3, E_c4, V_c4, O_c4, E_c5, V_c5, O_c5, g_c1, lt_c1_c2, lt_c2_c3, lt_c3_c4, lt_c4_c5, ht0, ht1, ht2, ht3, ht4, rf_r0, rw_r0, rb_r0⟩
    exact D1_6 c1 c2 c3 c4 c5 kc1 kc2 kc3 kc4 r0 t0 t1 t2 t3 t4 p0 p1 X177 G rfl N177 P272 (fun T' locs' X' N' => F1_1 p0 p1 (1 : Int32) (1 : Int32) t0 t1 t2 t3 t4 c1 c2 X' G z10 (F2_6 p0 p1 t0 t1 t2 t3 t4 c1 c2 X' G N' (by decide) (by decide)))
  · have P463 : St12 Z T177.heap n0 c1 c2 c3 c4 c5 kc1 kc2 kc3 kc4 r0 t0 t1 t2 t3 t4 := ⟨E_c1, V_c1, O_c1, E_c2, F_c2_t, F_c2_r, F_c2_c, F_c2_s, F_c2_o, V_c3, E_c4, V_c4, O_c4, E_c5, V_c5, O_c5, g_c1, lt_c1_c2, lt_c2_c3, lt_c3_c4, lt_c4_c5, ht0, ht1, ht2, ht3, ht4, rf_r0, rw_r0, rb_r0⟩
    exact D2_7 c1 c2 c3 c4 c5 kc1 kc2 kc3 kc4 r0 t0 t1 t2 t3 t4 p0 p1 X177 G rfl N177 P463 (fun T' locs' X' N' => F1_1 p0 p1 (2 : Int32) (1 : Int32) t0 t1 t2 t3 t4 c1 c2 X' G z10 (F2_7 p0 p1 t0 t1 t2 t3 t4 c1 c2 X' G N' (by decide) (by decide)))
def St17 (Z : State) (h : Heap) (n0 : Nat) (c1 : Nat) (c2 : Nat) (c3 : Nat) (c4 : Nat) (c5 : Nat) (kc1 : ClassId) (kc2 : ClassId) (kc3 : ClassId) (kc4 : ClassId) (r0 : Value) (t0 : Int32) (t1 : Int32) (t2 : Int32) (t3 : Int32) (t4 : Int32) (mm : Int32) (p1 : Int64) : Prop :=
  xO Z h c1 ∧
  Arv Z h c1 kc1 (.object "java/lang/Object") 1 [.null] .null ∧
  Ovr Z kc1 "java/lang/Object" ∧
  Exa Z h c2 cV ∧
  fT Z h c2 (.ref c3) ∧
  fR Z h c2 (.ref c4) ∧
  fC Z h c2 (.ref c5) ∧
  fS Z h c2 (.int 1) ∧
  fO Z h c2 (.int 0) ∧
  aL Z h c3 kc2 2 [(.long 10), (.long 0)] ∧
  xR Z h c4 ∧
  aR Z h c4 kc3 2 [r0, .null] ∧
  oR Z kc3 ∧
  xC Z h c5 ∧
  aC Z h c5 kc4 2 [.null, .null] ∧
  oC Z kc4 ∧
  n0 ≤ c1 ∧
  c1 < c2 ∧
  c2 < c3 ∧
  c3 < c4 ∧
  c4 < c5 ∧
  (t0 = (0 : Int32) ∨ t0 = (1 : Int32)) ∧
  (t1 = (0 : Int32) ∨ t1 = (1 : Int32)) ∧
  (t2 = (0 : Int32) ∨ t2 = (1 : Int32)) ∧
  (t3 = (0 : Int32) ∨ t3 = (1 : Int32)) ∧
  (t4 = (0 : Int32) ∨ t4 = (1 : Int32)) ∧
  r0.isRef = true ∧
  (r0 = .null ∨ r0 = .ref c1) ∧
  ((t0 = (0 : Int32) ∧ r0 = .ref c1) ∨ (t0 = (1 : Int32) ∧ r0 = .null)) ∧
  (mm = (0 : Int32) ∨ mm = (1 : Int32) ∨ mm = (2 : Int32)) ∧
  r0 = .ref c1 ∧
  ¬ p1 < (10 : Int64) ∧
  t0 = (0 : Int32)
def Qm512 (Z : State) (n0 : Nat) (c1 : Nat) (c2 : Nat) (c3 : Nat) (c4 : Nat) (c5 : Nat) (kc1 : ClassId) (kc2 : ClassId) (kc3 : ClassId) (kc4 : ClassId) (r0 : Value) (t0 : Int32) (t1 : Int32) (t2 : Int32) (t3 : Int32) (t4 : Int32) (mm : Int32) (p1 : Int64) (v : Option Value) (h : Heap) (L : List Loc) : Prop := v = some (.int 0) ∧ Fr n0 L ∧ St17 Z h n0 c1 c2 c3 c4 c5 kc1 kc2 kc3 kc4 r0 t0 t1 t2 t3 t4 mm p1
theorem m512 (l : Launch) (Z : State) (a0 : Array Value) (hw : HW a0 Z) (ws : List Jvm.Cond) (h0 : Heap) (n0 : Nat) (c1 : Nat) (c2 : Nat) (c3 : Nat) (c4 : Nat) (c5 : Nat) (kc1 : ClassId) (kc2 : ClassId) (kc3 : ClassId) (kc4 : ClassId) (r0 : Value) (t0 : Int32) (t1 : Int32) (t2 : Int32) (t3 : Int32) (t4 : Int32) (mm : Int32) (p1 : Int64) (P : St17 Z h0 n0 c1 c2 c3 c4 c5 kc1 kc2 kc3 kc4 r0 t0 t1 t2 t3 t4 mm p1) :
    MC l Z y3 prog_95_method_5_code 5 (some .boolean) ws rm_2_0_0_28 #[(.ref c2), (.long p1)] h0 (Qm512 Z n0 c1 c2 c3 c4 c5 kc1 kc2 kc3 kc4 r0 t0 t1 t2 t3 t4 mm p1) := by
  obtain ⟨E_c1, V_c1, O_c1, E_c2, F_c2_t, F_c2_r, F_c2_c, F_c2_s, F_c2_o, V_c3, E_c4, V_c4, O_c4, E_c5, V_c5, O_c5, g_c1, lt_c1_c2, lt_c2_c3, lt_c3_c4, lt_c4_c5, ht0, ht1, ht2, ht3, ht4, rf_r0, rw_r0, rb_r0, hm3, nv_r0, z10, tv0⟩ := id P
  refine own_met (plainFor_of_name pn3) fun p e s m below meth c s₁ X0 hx hZ Y hml hO hnm hlk hret e0 => f_cast (f' := mkF m 0 #[(rv c2), (.val (.long p1)), .second, .unset, .unset] []) (by first | (simp [entryFrame, mkF, argsToLocals, Value.category]; done) | rfl) ?_
  have N0 := Fr.nil n0
  refine aN X0 hx (hb Y d3_0) rfl rfl <| gF X0 hx hZ hO (w31 hw) Via.refl e0 F_c2_s (hb Y d3_1) fun T495 X495 e495 => ?_
  refine fY X495 hx (pc := 4) 9 (hb Y d3_4) <| iK X495 hx (z := 0) (hb Y d3_9) <| sN X495 hx (L' := #[(rv c2), (.val (.long p1)), .second, (iv 0), .unset]) (hb Y d3_10) rfl <| iN X495 hx (hb Y d3_11) rfl <| iK X495 hx (z := 1) (hb Y d3_12) <| iA X495 hx (z := 1) (hb Y d3_13) <| aN X495 hx (hb Y d3_14) rfl rfl <| gF X495 hx hZ hO (w31 hw) Via.refl e495 F_c2_s (hb Y d3_15) fun T496 X496 e496 => ?_
  refine cY X496 hx (pc := 18) 44 (hb Y d3_18) <| aN X496 hx (hb Y d3_44) rfl rfl <| iN X496 hx (hb Y d3_45) rfl <| pV X496 hx hZ hO (by rw [hml]; rfl) (w44 hw) (w45 hw) (w46 hw) (w7 hw) (w8 hw) (w47 hw) e496 E_c2 (argsL := [(.int 0)]) (rest := []) (q61 l Z a0 hw [] h0 n0 c2 c3 kc2 _ F_c2_o F_c2_t V_c3) (lenOf pd4 rfl) (hb Y d3_46) fun T497 L497 v497 X497 hQ497 => ?_
  obtain ⟨rfl, N497q, e497⟩ := hQ497
  have N497 := Fr.app N0 N497q
  refine iS X497 hx (L' := #[(rv c2), (.val (.long p1)), .second, (iv 0), (iv 0)]) (hb Y d3_49) rfl <| aN X497 hx (hb Y d3_51) rfl rfl <| gF X497 hx hZ hO (w16 hw) Via.refl e497 F_c2_t (hb Y d3_52) fun T500 X500 e500 => ?_
  refine iL X500 hx (hb Y d3_55) rfl <| f_lald X500 hx hZ e500 V_c3 (v := (.long 10)) rfl (hb Y d3_57) <| lN X500 hx (hb Y d3_58) rfl <| lC X500 hx (z := (lcmpW (10 : Int64) p1)) (hb Y d3_59) (q := rfl) <| fN X500 hx (hb Y d3_60) (hc := (own_gtF z10)) <| aN X500 hx (hb Y d3_63) rfl rfl <| gF X500 hx hZ hO (w20 hw) Via.refl e500 F_c2_r (hb Y d3_64) fun T501 X501 e501 => ?_
  refine iL X501 hx (hb Y d3_67) rfl <| f_aald X501 hx hZ e501 V_c4 rfl (v := r0) rfl (hb Y d3_69) <| f_ifnonnullYv X501 hx (pc := 70) 76 nv_r0 (hb Y d3_70) <| aN X501 hx (hb Y d3_76) rfl rfl <| iN X501 hx (hb Y d3_77) rfl ?_
  have P510 : St9 Z h0 n0 c1 c2 c3 c4 c5 kc1 kc2 kc3 kc4 (10 : Int64) (0 : Int64) r0 .null := ⟨E_c1, V_c1, O_c1, E_c2, F_c2_t, F_c2_r, F_c2_c, F_c2_s, F_c2_o, V_c3, E_c4, V_c4, O_c4, E_c5, V_c5, O_c5, g_c1, lt_c1_c2, lt_c2_c3, lt_c3_c4, lt_c4_c5, rf_r0, rw_r0, rfl, (Or.inl rfl)⟩
  refine pV X501 hx hZ hO (by rw [hml]; rfl) (w52 hw) (w53 hw) (w54 hw) (w7 hw) (w8 hw) (w55 hw) e501 E_c2 (argsL := [(.int 0)]) (rest := []) (m235 l Z a0 hw [] h0 n0 c1 c2 c3 c4 c5 kc1 kc2 kc3 kc4 (10 : Int64) (0 : Int64) r0 .null P510) (lenOf pd6 rfl) (hb Y d3_78) fun T502 L502 v502 X502 hQ502 => ?_
  obtain ⟨rfl, N502q, P502⟩ := hQ502
  obtain ⟨E_c1, V_c1, O_c1, E_c2, F_c2_t, F_c2_r, F_c2_c, F_c2_s, F_c2_o, V_c3, E_c4, V_c4, O_c4, E_c5, V_c5, O_c5, g_c1, lt_c1_c2, lt_c2_c3, lt_c3_c4, lt_c4_c5, _, _, _, _⟩ := id P502
  have N502 := Fr.app N497 N502q
  refine aN X502 hx (hb Y d3_81) rfl rfl <| gF X502 hx hZ hO (w31 hw) Via.refl rfl F_c2_s (hb Y d3_82) fun T511 X511 e511 => ?_
  refine fY X511 hx (pc := 85) 92 (hb Y d3_85) <| iK X511 hx (z := 0) (hb Y d3_92) ?_
  exact f_ret X511 hx hlk (i := .ireturn) hret rfl (Or.inl ⟨rfl, Or.inr (Or.inl rfl), _, rfl⟩) (hb Y d3_93) (QQ := (Qm512 Z n0 c1 c2 c3 c4 c5 kc1 kc2 kc3 kc4 r0 t0 t1 t2 t3 t4 mm p1)) (by rw [e511]; exact ⟨rfl, N502, E_c1, V_c1, O_c1, E_c2, F_c2_t, F_c2_r, F_c2_c, F_c2_s, F_c2_o, V_c3, E_c4, V_c4, O_c4, E_c5, V_c5, O_c5, g_c1, lt_c1_c2, lt_c2_c3, lt_c3_c4, lt_c4_c5, ht0, ht1, ht2, ht3, ht4, rf_r0, rw_r0, rb_r0, hm3, nv_r0, z10, tv0⟩) (by decide) (by decide)
theorem F1_2  {cells slots : Nat} (p0 : Int32) (p1 : Int64) (mm : Int32) (gg : Int32) (t0 : Int32) (t1 : Int32) (t2 : Int32) (t3 : Int32) (t4 : Int32) (c1 : Nat) (c2 : Nat) (X0 : Stand p l e room_1 s m args below meth c T0 locs cells slots) (G : SG p s m meth c Z a0) (z10 : ¬ p1 < (10 : Int64)) (tv0 : t0 = (0 : Int32)) (h : EndsSo p e below (LQ s n0) T0 (mkF m 303 (FL p0 p1 1 mm t0 t1 t2 t3 t4 c1 c2 (iv gg) (iv 0) (iv t0) (.val (.long 10)) .second .unset) [])) :
    EndsSo p e below (LQ s n0) T0 (mkF m 209 (FL p0 p1 1 mm t0 t1 t2 t3 t4 c1 c2 (iv gg) .unset .unset .unset .unset .unset) []) := by
  obtain ⟨hx, hZ, hw, Y, hml, hO, hlk, hret⟩ := id G
  refine iK X0 hx (z := 0) (hb Y at_209) <| iS X0 hx (L' := (FL p0 p1 1 mm t0 t1 t2 t3 t4 c1 c2 (iv gg) (iv 0) .unset .unset .unset .unset)) (hb Y at_210) rfl <| iN X0 hx (hb Y at_212) rfl <| iK X0 hx (z := 2) (hb Y at_213) <| cY X0 hx (pc := 214) 228 (hb Y at_214) <| iN X0 hx (hb Y at_228) rfl <| iK X0 hx (z := 3) (hb Y at_229) <| cY X0 hx (pc := 230) 244 (hb Y at_230) <| iN X0 hx (hb Y at_244) rfl <| iK X0 hx (z := 1) (hb Y at_245) <| cN X0 hx (hb Y at_246) <| iL X0 hx (hb Y at_249) rfl <| fN X0 hx (hb Y at_251) <| iL X0 hx (hb Y at_254) rfl <| gT X0 hx (pc := 256) 272 (hb Y at_256) <| iS X0 hx (L' := (FL p0 p1 1 mm t0 t1 t2 t3 t4 c1 c2 (iv gg) (iv 0) (iv t0) .unset .unset .unset)) (hb Y at_272) rfl <| f_ldc2 X0 hx hZ hO (w38 hw) (hb Y at_274) <| iL X0 hx (hb Y at_277) rfl <| iK X0 hx (z := 1) (hb Y at_279) <| iA X0 hx (z := 1) (hb Y at_280) <| f_i2l X0 hx (z := 1) (hb Y at_281) <| f_lmul X0 hx (z := 10) (hb Y at_282) <| f_lstore X0 hx (L' := (FL p0 p1 1 mm t0 t1 t2 t3 t4 c1 c2 (iv gg) (iv 0) (iv t0) (.val (.long 10)) .second .unset)) (hb Y at_283) rfl <| f_lload X0 hx (hb Y at_285) rfl <| lN X0 hx (hb Y at_287) rfl <| lC X0 hx (z := (lcmpW (10 : Int64) p1)) (hb Y at_288) (q := rfl) <| fN X0 hx (hb Y at_289) (hc := (own_gtF z10)) <| iL X0 hx (hb Y at_292) rfl <| fY X0 hx (pc := 294) 303 (hb Y at_294) (hc := (own_eqT tv0)) ?_
  exact h
theorem C1_9  (c1 : Nat) (c2 : Nat) (c3 : Nat) (c4 : Nat) (c5 : Nat) (kc1 : ClassId) (kc2 : ClassId) (kc3 : ClassId) (kc4 : ClassId) (r0 : Value) (t0 : Int32) (t1 : Int32) (t2 : Int32) (t3 : Int32) (t4 : Int32) (mm : Int32) (p1 : Int64) (p0 : Int32) (X0 : Stand p l e room_1 s m args below meth c T0 locs 5 13) (G : SG p s m meth c Z a0) (e0 : T0.heap = h0) (N0 : Fr n0 locs) (P : St17 Z h0 n0 c1 c2 c3 c4 c5 kc1 kc2 kc3 kc4 r0 t0 t1 t2 t3 t4 mm p1) :
    EndsSo p e below (LQ s n0) T0 (mkF m 143 (FL p0 p1 1 mm t0 t1 t2 t3 t4 c1 c2 .unset .unset .unset .unset .unset .unset) []) := by
  obtain ⟨hx, hZ, hw, Y, hml, hO, hlk, hret⟩ := id G
  obtain ⟨E_c1, V_c1, O_c1, E_c2, F_c2_t, F_c2_r, F_c2_c, F_c2_s, F_c2_o, V_c3, E_c4, V_c4, O_c4, E_c5, V_c5, O_c5, g_c1, lt_c1_c2, lt_c2_c3, lt_c3_c4, lt_c4_c5, ht0, ht1, ht2, ht3, ht4, rf_r0, rw_r0, rb_r0, hm3, nv_r0, z10, tv0⟩ := id P
  refine aA X0 hx (hb Y at_143) rfl rfl <| lN X0 hx (hb Y at_145) rfl ?_
  have P513 : St17 Z h0 n0 c1 c2 c3 c4 c5 kc1 kc2 kc3 kc4 r0 t0 t1 t2 t3 t4 mm p1 := ⟨E_c1, V_c1, O_c1, E_c2, F_c2_t, F_c2_r, F_c2_c, F_c2_s, F_c2_o, V_c3, E_c4, V_c4, O_c4, E_c5, V_c5, O_c5, g_c1, lt_c1_c2, lt_c2_c3, lt_c3_c4, lt_c4_c5, ht0, ht1, ht2, ht3, ht4, rf_r0, rw_r0, rb_r0, hm3, nv_r0, z10, tv0⟩
  refine vV X0 hx hZ hO (by rw [hml]; rfl) (w26 hw) (w27 hw) (w29 hw) (w28 hw) (w8 hw) (w30 hw) e0 E_c2 (argsL := [(.long p1)]) (rest := []) (m512 l Z a0 hw [] h0 n0 c1 c2 c3 c4 c5 kc1 kc2 kc3 kc4 r0 t0 t1 t2 t3 t4 mm p1 P513) (lenOf pd2 rfl) (hb Y at_146) fun T465 L465 v465 X465 hQ465 => ?_
  obtain ⟨rfl, N465q, P465⟩ := hQ465
  obtain ⟨E_c1, V_c1, O_c1, E_c2, F_c2_t, F_c2_r, F_c2_c, F_c2_s, F_c2_o, V_c3, E_c4, V_c4, O_c4, E_c5, V_c5, O_c5, g_c1, lt_c1_c2, lt_c2_c3, lt_c3_c4, lt_c4_c5, ht0, ht1, ht2, ht3, ht4, rf_r0, rw_r0, rb_r0, hm3, nv_r0, z10, tv0⟩ := id P465
  have N465 := Fr.app N0 N465q
  refine f_pop X465 hx (hb Y at_149) rfl ?_
  rcases id hm3 with rfl | rfl | rfl
  · have P514 : St10 Z T465.heap n0 c1 c2 c3 c4 c5 kc1 kc2 kc3 kc4 r0 t0 t1 t2 t3 t4 := ⟨E_c1, V_c1, O_c1, E_c2, F_c2_t, F_c2_r, F_c2_c, F_c2_s, F_c2_o, V_c3, E_c4, V_c4, O_c4, E_c5, V_c5, O_c5, g_c1, lt_c1_c2, lt_c2_c3, lt_c3_c4, lt_c4_c5, ht0, ht1, ht2, ht3, ht4, rf_r0, rw_r0, rb_r0, nv_r0⟩
    exact D0_4 c1 c2 c3 c4 c5 kc1 kc2 kc3 kc4 r0 t0 t1 t2 t3 t4 p0 p1 X465 G rfl N465 P514 (fun T' locs' X' N' => F1_2 p0 p1 (0 : Int32) (0 : Int32) t0 t1 t2 t3 t4 c1 c2 X' G z10 tv0 (F2_4 p0 p1 t0 t1 t2 t3 t4 c1 c2 X' G tv0 N' (by decide) (by decide)))
  · have P515 : St12 Z T465.heap n0 c1 c2 c3 c4 c5 kc1 kc2 kc3 kc4 r0 t0 t1 t2 t3 t4 := ⟨E_c1, V_c1, O_c1, E_c2, F_c2_t, F_c2_r, F_c2_c, F_c2_s, F_c2_o, V_c3, E_c4, V_c4, O_c4, E_c5, V_c5, O_c5, g_c1, lt_c1_c2, lt_c2_c3, lt_c3_c4, lt_c4_c5, ht0, ht1, ht2, ht3, ht4, rf_r0, rw_r0, rb_r0⟩
    exact D1_6 c1 c2 c3 c4 c5 kc1 kc2 kc3 kc4 r0 t0 t1 t2 t3 t4 p0 p1 X465 G rfl N465 P515 (fun T' locs' X' N' => F1_2 p0 p1 (1 : Int32) (1 : Int32) t0 t1 t2 t3 t4 c1 c2 X' G z10 tv0 (F2_6 p0 p1 t0 t1 t2 t3 t4 c1 c2 X' G N' (by decide) (by decide)))
  · have P516 : St12 Z T465.heap n0 c1 c2 c3 c4 c5 kc1 kc2 kc3 kc4 r0 t0 t1 t2 t3 t4 := ⟨E_c1, V_c1, O_c1, E_c2, F_c2_t, F_c2_r, F_c2_c, F_c2_s, F_c2_o, V_c3, E_c4, V_c4, O_c4, E_c5, V_c5, O_c5, g_c1, lt_c1_c2, lt_c2_c3, lt_c3_c4, lt_c4_c5, ht0, ht1, ht2, ht3, ht4, rf_r0, rw_r0, rb_r0⟩
    exact D2_7 c1 c2 c3 c4 c5 kc1 kc2 kc3 kc4 r0 t0 t1 t2 t3 t4 p0 p1 X465 G rfl N465 P516 (fun T' locs' X' N' => F1_2 p0 p1 (2 : Int32) (1 : Int32) t0 t1 t2 t3 t4 c1 c2 X' G z10 tv0 (F2_7 p0 p1 t0 t1 t2 t3 t4 c1 c2 X' G N' (by decide) (by decide)))
def St18 (Z : State) (h : Heap) (n0 : Nat) (c1 : Nat) (c2 : Nat) (c3 : Nat) (c4 : Nat) (c5 : Nat) (kc1 : ClassId) (kc2 : ClassId) (kc3 : ClassId) (kc4 : ClassId) (r0 : Value) (t0 : Int32) (t1 : Int32) (t2 : Int32) (t3 : Int32) (t4 : Int32) (mm : Int32) (p1 : Int64) : Prop :=
  xO Z h c1 ∧
  Arv Z h c1 kc1 (.object "java/lang/Object") 1 [.null] .null ∧
  Ovr Z kc1 "java/lang/Object" ∧
  Exa Z h c2 cV ∧
  fT Z h c2 (.ref c3) ∧
  fR Z h c2 (.ref c4) ∧
  fC Z h c2 (.ref c5) ∧
  fS Z h c2 (.int 1) ∧
  fO Z h c2 (.int 0) ∧
  aL Z h c3 kc2 2 [(.long 10), (.long 0)] ∧
  xR Z h c4 ∧
  aR Z h c4 kc3 2 [r0, .null] ∧
  oR Z kc3 ∧
  xC Z h c5 ∧
  aC Z h c5 kc4 2 [.null, .null] ∧
  oC Z kc4 ∧
  n0 ≤ c1 ∧
  c1 < c2 ∧
  c2 < c3 ∧
  c3 < c4 ∧
  c4 < c5 ∧
  (t0 = (0 : Int32) ∨ t0 = (1 : Int32)) ∧
  (t1 = (0 : Int32) ∨ t1 = (1 : Int32)) ∧
  (t2 = (0 : Int32) ∨ t2 = (1 : Int32)) ∧
  (t3 = (0 : Int32) ∨ t3 = (1 : Int32)) ∧
  (t4 = (0 : Int32) ∨ t4 = (1 : Int32)) ∧
  r0.isRef = true ∧
  (r0 = .null ∨ r0 = .ref c1) ∧
  ((t0 = (0 : Int32) ∧ r0 = .ref c1) ∨ (t0 = (1 : Int32) ∧ r0 = .null)) ∧
  (mm = (0 : Int32) ∨ mm = (1 : Int32) ∨ mm = (2 : Int32)) ∧
  r0 = .null ∧
  ¬ p1 < (10 : Int64) ∧
  t0 = (1 : Int32)
def St19 (Z : State) (h : Heap) (n0 : Nat) (c1 : Nat) (c2 : Nat) (c3 : Nat) (c4 : Nat) (c5 : Nat) (kc1 : ClassId) (kc2 : ClassId) (kc3 : ClassId) (kc4 : ClassId) (uu1 : Int64) (uu2 : Int64) (ww4 : Value) (ww3 : Value) : Prop :=
  xO Z h c1 ∧
  Arv Z h c1 kc1 (.object "java/lang/Object") 1 [.null] .null ∧
  Ovr Z kc1 "java/lang/Object" ∧
  Exa Z h c2 cV ∧
  fT Z h c2 (.ref c3) ∧
  fR Z h c2 (.ref c4) ∧
  fC Z h c2 (.ref c5) ∧
  fS Z h c2 (.int 0) ∧
  fO Z h c2 (.int 1) ∧
  aL Z h c3 kc2 2 [(.long uu1), (.long uu2)] ∧
  xR Z h c4 ∧
  aR Z h c4 kc3 2 [.null, ww4] ∧
  oR Z kc3 ∧
  xC Z h c5 ∧
  aC Z h c5 kc4 2 [.null, .null] ∧
  oC Z kc4 ∧
  n0 ≤ c1 ∧
  c1 < c2 ∧
  c2 < c3 ∧
  c3 < c4 ∧
  c4 < c5 ∧
  ww3.isRef = true ∧
  (ww3 = .null ∨ ww3 = .ref c1) ∧
  ww4.isRef = true ∧
  (ww4 = .null ∨ ww4 = .ref c1)
def Qm618 (Z : State) (n0 : Nat) (c1 : Nat) (c2 : Nat) (c3 : Nat) (c4 : Nat) (c5 : Nat) (kc1 : ClassId) (kc2 : ClassId) (kc3 : ClassId) (kc4 : ClassId) (uu1 : Int64) (uu2 : Int64) (ww3 : Value) (ww4 : Value) (v : Option Value) (h : Heap) (L : List Loc) : Prop := v = none ∧ Fr n0 L ∧ St19 Z h n0 c1 c2 c3 c4 c5 kc1 kc2 kc3 kc4 uu1 uu2 ww4 ww3
theorem m618 (l : Launch) (Z : State) (a0 : Array Value) (hw : HW a0 Z) (ws : List Jvm.Cond) (h0 : Heap) (n0 : Nat) (c1 : Nat) (c2 : Nat) (c3 : Nat) (c4 : Nat) (c5 : Nat) (kc1 : ClassId) (kc2 : ClassId) (kc3 : ClassId) (kc4 : ClassId) (uu1 : Int64) (uu2 : Int64) (ww3 : Value) (ww4 : Value) (P : St9 Z h0 n0 c1 c2 c3 c4 c5 kc1 kc2 kc3 kc4 uu1 uu2 ww3 ww4) :
    MC l Z y7 prog_95_method_9_code 3 none ws rm_1_0_0_14 #[(.ref c2), (.int 1)] h0 (Qm618 Z n0 c1 c2 c3 c4 c5 kc1 kc2 kc3 kc4 uu1 uu2 ww3 ww4) := by
  obtain ⟨E_c1, V_c1, O_c1, E_c2, F_c2_t, F_c2_r, F_c2_c, F_c2_s, F_c2_o, V_c3, E_c4, V_c4, O_c4, E_c5, V_c5, O_c5, g_c1, lt_c1_c2, lt_c2_c3, lt_c3_c4, lt_c4_c5, rf_ww3, rw_ww3, rf_ww4, rw_ww4⟩ := id P
  refine own_met (plainFor_of_name pn7) fun p e s m below meth c s₁ X0 hx hZ Y hml hO hnm hlk hret e0 => f_cast (f' := mkF m 0 #[(rv c2), (iv 1), .unset] []) (by first | (simp [entryFrame, mkF, argsToLocals, Value.category]; done) | rfl) ?_
  have N0 := Fr.nil n0
  refine iK X0 hx (z := 0) (hb Y d7_0) <| sN X0 hx (L' := #[(rv c2), (iv 1), (iv 0)]) (hb Y d7_1) rfl <| iN X0 hx (hb Y d7_2) rfl <| iN X0 hx (hb Y d7_3) rfl <| cN X0 hx (hb Y d7_4) <| aN X0 hx (hb Y d7_7) rfl rfl <| gF X0 hx hZ hO (w20 hw) Via.refl e0 F_c2_r (hb Y d7_8) fun T601 X601 e601 => ?_
  refine aN X601 hx (hb Y d7_11) rfl rfl <| iN X601 hx (hb Y d7_12) rfl <| pV X601 hx hZ hO (by rw [hml]; rfl) (w44 hw) (w45 hw) (w46 hw) (w7 hw) (w8 hw) (w47 hw) e601 E_c2 (argsL := [(.int 0)]) (rest := [(.ref c4)]) (q61 l Z a0 hw [] h0 n0 c2 c3 kc2 _ F_c2_o F_c2_t V_c3) (lenOf pd4 rfl) (hb Y d7_13) fun T602 L602 v602 X602 hQ602 => ?_
  obtain ⟨rfl, N602q, e602⟩ := hQ602
  have N602 := Fr.app N0 N602q
  refine f_null X602 hx (hb Y d7_16) <| f_ast X602 hx hZ e602 V_c4 rfl (Or.inl rfl) rfl 0 (hb Y d7_17) fun T605 h605 X605 e605 W605 V605 => ?_
  have N605x := Fr.snoc X605 N602 (by omega : n0 ≤ c4)
  refine aN X605 hx (hb Y d7_18) rfl rfl ?_
  replace F_c2_c := (fo W605 F_c2_c)
  refine gF X605 hx hZ hO (w24 hw) Via.refl e605 F_c2_c (hb Y d7_19) fun T606 X606 e606 => ?_
  refine aN X606 hx (hb Y d7_22) rfl rfl <| iN X606 hx (hb Y d7_23) rfl ?_
  replace F_c2_o := (fo W605 F_c2_o)
  replace F_c2_t := (fo W605 F_c2_t)
  replace V_c3 := (vo V_c3 W605)
  replace E_c2 := (xw W605 E_c2)
  refine pV X606 hx hZ hO (by rw [hml]; rfl) (w44 hw) (w45 hw) (w46 hw) (w7 hw) (w8 hw) (w47 hw) e606 E_c2 (argsL := [(.int 0)]) (rest := [(.ref c5)]) (q61 l Z a0 hw [] h605 n0 c2 c3 kc2 _ F_c2_o F_c2_t V_c3) (lenOf pd4 rfl) (hb Y d7_24) fun T607 L607 v607 X607 hQ607 => ?_
  obtain ⟨rfl, N607q, e607⟩ := hQ607
  have N607 := Fr.app N605x N607q
  refine f_null X607 hx (hb Y d7_27) ?_
  replace V_c5 := (vo V_c5 W605)
  refine f_ast X607 hx hZ e607 V_c5 rfl (Or.inl rfl) rfl 0 (hb Y d7_28) fun T610 h610 X610 e610 W610 V610 => ?_
  have N610x := Fr.snoc X610 N607 (by omega : n0 ≤ c5)
  refine f_iinc X610 hx (L' := #[(rv c2), (iv 1), (iv 1)]) (hb Y d7_29) rfl rfl <| gT X610 hx (pc := 32) 2 (hb Y d7_32) <| iN X610 hx (hb Y d7_2) rfl <| iN X610 hx (hb Y d7_3) rfl <| cY X610 hx (pc := 4) 35 (hb Y d7_4) <| aN X610 hx (hb Y d7_35) rfl rfl <| aN X610 hx (hb Y d7_36) rfl rfl <| iN X610 hx (hb Y d7_37) rfl ?_
  replace F_c2_o := (fo W610 F_c2_o)
  replace F_c2_t := (fo W610 F_c2_t)
  replace V_c3 := (vo V_c3 W610)
  replace E_c2 := (xw W610 E_c2)
  refine pV X610 hx hZ hO (by rw [hml]; rfl) (w44 hw) (w45 hw) (w46 hw) (w7 hw) (w8 hw) (w47 hw) e610 E_c2 (argsL := [(.int 1)]) (rest := [(.ref c2)]) (q123 l Z a0 hw [] h610 n0 c2 c3 kc2 _ F_c2_o F_c2_t V_c3) (lenOf pd4 rfl) (hb Y d7_38) fun T611 L611 v611 X611 hQ611 => ?_
  obtain ⟨rfl, N611q, e611⟩ := hQ611
  have N611 := Fr.app N610x N611q
  refine f_putF X611 hx hZ hO (w48 hw) Via.refl e611 F_c2_o E_c2 (Or.inl (w49 hw)) (w7 hw) (ty := .int) (by decide) rfl rfl (hb Y d7_41) fun T614 h614 X614 e614 W614 => ?_
  have N614x := Fr.snoc X614 N611 (by omega : n0 ≤ c2)
  refine aN X614 hx (hb Y d7_44) rfl rfl <| f_dup X614 hx (hb Y d7_45) rfl ?_
  replace F_c2_s := (Fld.other W614 (fo W610 (fo W605 F_c2_s)) (Or.inr (slot_ne (Or.inl (w32 hw)) (Or.inl (w49 hw)) (by decide) (t := .int) (t' := .int) (by decide) (by decide))))
  refine gF X614 hx hZ hO (w31 hw) Via.refl e614 F_c2_s (hb Y d7_46) fun T615 X615 e615 => ?_
  refine iN X615 hx (hb Y d7_49) rfl <| iB X615 hx (z := 0) (hb Y d7_50) ?_
  replace E_c2 := (xw W614 E_c2)
  refine f_putF X615 hx hZ hO (w31 hw) Via.refl e615 F_c2_s E_c2 (Or.inl (w32 hw)) (w7 hw) (ty := .int) (by decide) rfl rfl (hb Y d7_51) fun T616 h616 X616 e616 W616 => ?_
  have N616x := Fr.snoc X616 N614x (by omega : n0 ≤ c2)
  refine aN X616 hx (hb Y d7_54) rfl rfl ?_
  replace F_c2_t := (Fld.other W616 (Fld.other W614 F_c2_t (Or.inr (slot_ne (Or.inl (w17 hw)) (Or.inl (w49 hw)) (by decide) (t := (.array .long)) (t' := .int) (by decide) (by decide)))) (Or.inr (slot_ne (Or.inl (w17 hw)) (Or.inl (w32 hw)) (by decide) (t := (.array .long)) (t' := .int) (by decide) (by decide))))
  refine gF X616 hx hZ hO (w16 hw) Via.refl e616 F_c2_t (hb Y d7_55) fun T617 X617 e617 => ?_
  replace V_c3 := (vo (vo V_c3 W614) W616)
  refine f_len X617 hx hZ e617 V_c3 (hb Y d7_58) <| iK X617 hx (z := 2) (hb Y d7_59) <| cY X617 hx (pc := 60) 94 (hb Y d7_60) ?_
  exact f_ret0 X617 hx hlk hret (hb Y d7_94) (QQ := (Qm618 Z n0 c1 c2 c3 c4 c5 kc1 kc2 kc3 kc4 uu1 uu2 ww3 ww4)) (by rw [e617]; exact ⟨rfl, N616x, (xw W616 (xw W614 (xw W610 (xw W605 E_c1)))), (vo (vo (vo (vo V_c1 W605) W610) W614) W616), O_c1, (xw W616 E_c2), F_c2_t, (Fld.other W616 (Fld.other W614 (fo W610 (fo W605 F_c2_r)) (Or.inr (slot_ne (Or.inl (w21 hw)) (Or.inl (w49 hw)) (by decide) (t := (.array (.array (.object "java/lang/Object")))) (t' := .int) (by decide) (by decide)))) (Or.inr (slot_ne (Or.inl (w21 hw)) (Or.inl (w32 hw)) (by decide) (t := (.array (.array (.object "java/lang/Object")))) (t' := .int) (by decide) (by decide)))), (Fld.other W616 (Fld.other W614 (fo W610 F_c2_c) (Or.inr (slot_ne (Or.inl (w25 hw)) (Or.inl (w49 hw)) (by decide) (t := (.array (.array .int))) (t' := .int) (by decide) (by decide)))) (Or.inr (slot_ne (Or.inl (w25 hw)) (Or.inl (w32 hw)) (by decide) (t := (.array (.array .int))) (t' := .int) (by decide) (by decide)))), (Fld.same W616 F_c2_s), (Fld.other W616 (Fld.same W614 F_c2_o) (Or.inr (slot_ne (Or.inl (w49 hw)) (Or.inl (w32 hw)) (by decide) (t := .int) (t' := .int) (by decide) (by decide)))), V_c3, (xw W616 (xw W614 (xw W610 (xw W605 E_c4)))), (vo (vo (vo V605 W610) W614) W616), O_c4, (xw W616 (xw W614 (xw W610 (xw W605 E_c5)))), (vo (vo V610 W614) W616), O_c5, g_c1, lt_c1_c2, lt_c2_c3, lt_c3_c4, lt_c4_c5, rf_ww3, rw_ww3, rf_ww4, rw_ww4⟩) (by decide) (by decide)
def St20 (Z : State) (h : Heap) (n0 : Nat) (c1 : Nat) (c2 : Nat) (c3 : Nat) (c4 : Nat) (c5 : Nat) (kc1 : ClassId) (kc2 : ClassId) (kc3 : ClassId) (kc4 : ClassId) (t0 : Int32) (t1 : Int32) (t2 : Int32) (t3 : Int32) (t4 : Int32) (r0 : Value) (mm : Int32) (p1 : Int64) : Prop :=
  xO Z h c1 ∧
  Arv Z h c1 kc1 (.object "java/lang/Object") 1 [.null] .null ∧
  Ovr Z kc1 "java/lang/Object" ∧
  Exa Z h c2 cV ∧
  fT Z h c2 (.ref c3) ∧
  fR Z h c2 (.ref c4) ∧
  fC Z h c2 (.ref c5) ∧
  fS Z h c2 (.int 0) ∧
  fO Z h c2 (.int 1) ∧
  aL Z h c3 kc2 2 [(.long 10), (.long 0)] ∧
  xR Z h c4 ∧
  aR Z h c4 kc3 2 [.null, .null] ∧
  oR Z kc3 ∧
  xC Z h c5 ∧
  aC Z h c5 kc4 2 [.null, .null] ∧
  oC Z kc4 ∧
  n0 ≤ c1 ∧
  c1 < c2 ∧
  c2 < c3 ∧
  c3 < c4 ∧
  c4 < c5 ∧
  (t0 = (0 : Int32) ∨ t0 = (1 : Int32)) ∧
  (t1 = (0 : Int32) ∨ t1 = (1 : Int32)) ∧
  (t2 = (0 : Int32) ∨ t2 = (1 : Int32)) ∧
  (t3 = (0 : Int32) ∨ t3 = (1 : Int32)) ∧
  (t4 = (0 : Int32) ∨ t4 = (1 : Int32)) ∧
  r0.isRef = true ∧
  (r0 = .null ∨ r0 = .ref c1) ∧
  ((t0 = (0 : Int32) ∧ r0 = .ref c1) ∨ (t0 = (1 : Int32) ∧ r0 = .null)) ∧
  (mm = (0 : Int32) ∨ mm = (1 : Int32) ∨ mm = (2 : Int32)) ∧
  r0 = .null ∧
  ¬ p1 < (10 : Int64) ∧
  t0 = (1 : Int32)
def Qm621 (Z : State) (n0 : Nat) (c1 : Nat) (c2 : Nat) (c3 : Nat) (c4 : Nat) (c5 : Nat) (kc1 : ClassId) (kc2 : ClassId) (kc3 : ClassId) (kc4 : ClassId) (r0 : Value) (t0 : Int32) (t1 : Int32) (t2 : Int32) (t3 : Int32) (t4 : Int32) (mm : Int32) (p1 : Int64) (v : Option Value) (h : Heap) (L : List Loc) : Prop := v = some (.int 1) ∧ Fr n0 L ∧ St20 Z h n0 c1 c2 c3 c4 c5 kc1 kc2 kc3 kc4 t0 t1 t2 t3 t4 r0 mm p1
theorem m621 (l : Launch) (Z : State) (a0 : Array Value) (hw : HW a0 Z) (ws : List Jvm.Cond) (h0 : Heap) (n0 : Nat) (c1 : Nat) (c2 : Nat) (c3 : Nat) (c4 : Nat) (c5 : Nat) (kc1 : ClassId) (kc2 : ClassId) (kc3 : ClassId) (kc4 : ClassId) (r0 : Value) (t0 : Int32) (t1 : Int32) (t2 : Int32) (t3 : Int32) (t4 : Int32) (mm : Int32) (p1 : Int64) (P : St18 Z h0 n0 c1 c2 c3 c4 c5 kc1 kc2 kc3 kc4 r0 t0 t1 t2 t3 t4 mm p1) :
    MC l Z y3 prog_95_method_5_code 5 (some .boolean) ws rm_2_0_0_28 #[(.ref c2), (.long p1)] h0 (Qm621 Z n0 c1 c2 c3 c4 c5 kc1 kc2 kc3 kc4 r0 t0 t1 t2 t3 t4 mm p1) := by
  obtain ⟨E_c1, V_c1, O_c1, E_c2, F_c2_t, F_c2_r, F_c2_c, F_c2_s, F_c2_o, V_c3, E_c4, V_c4, O_c4, E_c5, V_c5, O_c5, g_c1, lt_c1_c2, lt_c2_c3, lt_c3_c4, lt_c4_c5, ht0, ht1, ht2, ht3, ht4, rf_r0, rw_r0, rb_r0, hm3, nv_r0, z10, tv0⟩ := id P
  refine own_met (plainFor_of_name pn3) fun p e s m below meth c s₁ X0 hx hZ Y hml hO hnm hlk hret e0 => f_cast (f' := mkF m 0 #[(rv c2), (.val (.long p1)), .second, .unset, .unset] []) (by first | (simp [entryFrame, mkF, argsToLocals, Value.category]; done) | rfl) ?_
  have N0 := Fr.nil n0
  refine aN X0 hx (hb Y d3_0) rfl rfl <| gF X0 hx hZ hO (w31 hw) Via.refl e0 F_c2_s (hb Y d3_1) fun T576 X576 e576 => ?_
  refine fY X576 hx (pc := 4) 9 (hb Y d3_4) <| iK X576 hx (z := 0) (hb Y d3_9) <| sN X576 hx (L' := #[(rv c2), (.val (.long p1)), .second, (iv 0), .unset]) (hb Y d3_10) rfl <| iN X576 hx (hb Y d3_11) rfl <| iK X576 hx (z := 1) (hb Y d3_12) <| iA X576 hx (z := 1) (hb Y d3_13) <| aN X576 hx (hb Y d3_14) rfl rfl <| gF X576 hx hZ hO (w31 hw) Via.refl e576 F_c2_s (hb Y d3_15) fun T577 X577 e577 => ?_
  refine cY X577 hx (pc := 18) 44 (hb Y d3_18) <| aN X577 hx (hb Y d3_44) rfl rfl <| iN X577 hx (hb Y d3_45) rfl <| pV X577 hx hZ hO (by rw [hml]; rfl) (w44 hw) (w45 hw) (w46 hw) (w7 hw) (w8 hw) (w47 hw) e577 E_c2 (argsL := [(.int 0)]) (rest := []) (q61 l Z a0 hw [] h0 n0 c2 c3 kc2 _ F_c2_o F_c2_t V_c3) (lenOf pd4 rfl) (hb Y d3_46) fun T578 L578 v578 X578 hQ578 => ?_
  obtain ⟨rfl, N578q, e578⟩ := hQ578
  have N578 := Fr.app N0 N578q
  refine iS X578 hx (L' := #[(rv c2), (.val (.long p1)), .second, (iv 0), (iv 0)]) (hb Y d3_49) rfl <| aN X578 hx (hb Y d3_51) rfl rfl <| gF X578 hx hZ hO (w16 hw) Via.refl e578 F_c2_t (hb Y d3_52) fun T581 X581 e581 => ?_
  refine iL X581 hx (hb Y d3_55) rfl <| f_lald X581 hx hZ e581 V_c3 (v := (.long 10)) rfl (hb Y d3_57) <| lN X581 hx (hb Y d3_58) rfl <| lC X581 hx (z := (lcmpW (10 : Int64) p1)) (hb Y d3_59) (q := rfl) <| fN X581 hx (hb Y d3_60) (hc := (own_gtF z10)) <| aN X581 hx (hb Y d3_63) rfl rfl <| gF X581 hx hZ hO (w20 hw) Via.refl e581 F_c2_r (hb Y d3_64) fun T582 X582 e582 => ?_
  refine iL X582 hx (hb Y d3_67) rfl <| f_aald X582 hx hZ e582 V_c4 rfl (v := r0) rfl (hb Y d3_69) <| f_ifnonnullNv X582 hx nv_r0 (hb Y d3_70) <| f_iinc X582 hx (L' := #[(rv c2), (.val (.long p1)), .second, (iv 1), (iv 0)]) (hb Y d3_73) rfl rfl <| aN X582 hx (hb Y d3_76) rfl rfl <| iN X582 hx (hb Y d3_77) rfl ?_
  have P619 : St9 Z h0 n0 c1 c2 c3 c4 c5 kc1 kc2 kc3 kc4 (10 : Int64) (0 : Int64) r0 .null := ⟨E_c1, V_c1, O_c1, E_c2, F_c2_t, F_c2_r, F_c2_c, F_c2_s, F_c2_o, V_c3, E_c4, V_c4, O_c4, E_c5, V_c5, O_c5, g_c1, lt_c1_c2, lt_c2_c3, lt_c3_c4, lt_c4_c5, rf_r0, rw_r0, rfl, (Or.inl rfl)⟩
  refine pV X582 hx hZ hO (by rw [hml]; rfl) (w52 hw) (w53 hw) (w54 hw) (w7 hw) (w8 hw) (w55 hw) e582 E_c2 (argsL := [(.int 1)]) (rest := []) (m618 l Z a0 hw [] h0 n0 c1 c2 c3 c4 c5 kc1 kc2 kc3 kc4 (10 : Int64) (0 : Int64) r0 .null P619) (lenOf pd6 rfl) (hb Y d3_78) fun T583 L583 v583 X583 hQ583 => ?_
  obtain ⟨rfl, N583q, P583⟩ := hQ583
  obtain ⟨E_c1, V_c1, O_c1, E_c2, F_c2_t, F_c2_r, F_c2_c, F_c2_s, F_c2_o, V_c3, E_c4, V_c4, O_c4, E_c5, V_c5, O_c5, g_c1, lt_c1_c2, lt_c2_c3, lt_c3_c4, lt_c4_c5, _, _, _, _⟩ := id P583
  have N583 := Fr.app N578 N583q
  refine aN X583 hx (hb Y d3_81) rfl rfl <| gF X583 hx hZ hO (w31 hw) Via.refl rfl F_c2_s (hb Y d3_82) fun T620 X620 e620 => ?_
  refine fN X620 hx (hb Y d3_85) <| iK X620 hx (z := 1) (hb Y d3_88) <| gT X620 hx (pc := 89) 93 (hb Y d3_89) ?_
  exact f_ret X620 hx hlk (i := .ireturn) hret rfl (Or.inl ⟨rfl, Or.inr (Or.inl rfl), _, rfl⟩) (hb Y d3_93) (QQ := (Qm621 Z n0 c1 c2 c3 c4 c5 kc1 kc2 kc3 kc4 r0 t0 t1 t2 t3 t4 mm p1)) (by rw [e620]; exact ⟨rfl, N583, E_c1, V_c1, O_c1, E_c2, F_c2_t, F_c2_r, F_c2_c, F_c2_s, F_c2_o, V_c3, E_c4, V_c4, O_c4, E_c5, V_c5, O_c5, g_c1, lt_c1_c2, lt_c2_c3, lt_c3_c4, lt_c4_c5, ht0, ht1, ht2, ht3, ht4, rf_r0, rw_r0, rb_r0, hm3, nv_r0, z10, tv0⟩) (by decide) (by decide)
def St21 (Z : State) (h : Heap) (n0 : Nat) (c1 : Nat) (c2 : Nat) (c3 : Nat) (c4 : Nat) (c5 : Nat) (kc1 : ClassId) (kc2 : ClassId) (kc3 : ClassId) (kc4 : ClassId) (t0 : Int32) (t1 : Int32) (t2 : Int32) (t3 : Int32) (t4 : Int32) (r0 : Value) : Prop :=
  xO Z h c1 ∧
  Arv Z h c1 kc1 (.object "java/lang/Object") 1 [.null] .null ∧
  Ovr Z kc1 "java/lang/Object" ∧
  Exa Z h c2 cV ∧
  fT Z h c2 (.ref c3) ∧
  fR Z h c2 (.ref c4) ∧
  fC Z h c2 (.ref c5) ∧
  fS Z h c2 (.int 0) ∧
  fO Z h c2 (.int 1) ∧
  aL Z h c3 kc2 2 [(.long 10), (.long 0)] ∧
  xR Z h c4 ∧
  aR Z h c4 kc3 2 [.null, .null] ∧
  oR Z kc3 ∧
  xC Z h c5 ∧
  aC Z h c5 kc4 2 [.null, .null] ∧
  oC Z kc4 ∧
  n0 ≤ c1 ∧
  c1 < c2 ∧
  c2 < c3 ∧
  c3 < c4 ∧
  c4 < c5 ∧
  (t0 = (0 : Int32) ∨ t0 = (1 : Int32)) ∧
  (t1 = (0 : Int32) ∨ t1 = (1 : Int32)) ∧
  (t2 = (0 : Int32) ∨ t2 = (1 : Int32)) ∧
  (t3 = (0 : Int32) ∨ t3 = (1 : Int32)) ∧
  (t4 = (0 : Int32) ∨ t4 = (1 : Int32)) ∧
  r0.isRef = true ∧
  (r0 = .null ∨ r0 = .ref c1) ∧
  ((t0 = (0 : Int32) ∧ r0 = .ref c1) ∨ (t0 = (1 : Int32) ∧ r0 = .null))
theorem D0_10  (c1 : Nat) (c2 : Nat) (c3 : Nat) (c4 : Nat) (c5 : Nat) (kc1 : ClassId) (kc2 : ClassId) (kc3 : ClassId) (kc4 : ClassId) (t0 : Int32) (t1 : Int32) (t2 : Int32) (t3 : Int32) (t4 : Int32) (r0 : Value) (p0 : Int32) (p1 : Int64) (X0 : Stand p l e room_1 s m args below meth c T0 locs 5 13) (G : SG p s m meth c Z a0) (e0 : T0.heap = h0) (N0 : Fr n0 locs) (P : St21 Z h0 n0 c1 c2 c3 c4 c5 kc1 kc2 kc3 kc4 t0 t1 t2 t3 t4 r0) (hk0 : ∀ (T' : State) (locs' : List Loc), Stand p l e room_1 s m args below meth c T' locs' 5 13 → Fr n0 locs' → EndsSo p e below (LQ s n0) T' (mkF m 209 (FL p0 p1 1 0 t0 t1 t2 t3 t4 c1 c2 (iv 0) .unset .unset .unset .unset .unset) [])) :
    EndsSo p e below (LQ s n0) T0 (mkF m 150 (FL p0 p1 1 0 t0 t1 t2 t3 t4 c1 c2 .unset .unset .unset .unset .unset .unset) []) := by
  obtain ⟨hx, hZ, hw, Y, hml, hO, hlk, hret⟩ := id G
  obtain ⟨E_c1, V_c1, O_c1, E_c2, F_c2_t, F_c2_r, F_c2_c, F_c2_s, F_c2_o, V_c3, E_c4, V_c4, O_c4, E_c5, V_c5, O_c5, g_c1, lt_c1_c2, lt_c2_c3, lt_c3_c4, lt_c4_c5, ht0, ht1, ht2, ht3, ht4, rf_r0, rw_r0, rb_r0⟩ := id P
  refine iL X0 hx (hb Y at_150) rfl <| iK X0 hx (z := 1) (hb Y at_152) <| cY X0 hx (pc := 153) 176 (hb Y at_153) <| iL X0 hx (hb Y at_176) rfl <| iK X0 hx (z := 2) (hb Y at_178) <| cY X0 hx (pc := 179) 202 (hb Y at_179) <| aA X0 hx (hb Y at_202) rfl rfl <| vV X0 hx hZ hO (by rw [hml]; rfl) (w33 hw) (w34 hw) (w36 hw) (w35 hw) (w8 hw) (w37 hw) e0 E_c2 (argsL := []) (rest := []) (q37 l Z a0 hw [] h0 n0 c2 F_c2_s) (lenOf pd3 rfl) (hb Y at_204) fun T623 L623 v623 X623 hQ623 => ?_
  obtain ⟨rfl, N623q, e623⟩ := hQ623
  have N623 := Fr.app N0 N623q
  refine iS X623 hx (L' := (FL p0 p1 1 0 t0 t1 t2 t3 t4 c1 c2 (iv 0) .unset .unset .unset .unset .unset)) (hb Y at_207) rfl ?_
  exact hk0 _ _ X623 N623
theorem F1_3  {cells slots : Nat} (p0 : Int32) (p1 : Int64) (mm : Int32) (gg : Int32) (t0 : Int32) (t1 : Int32) (t2 : Int32) (t3 : Int32) (t4 : Int32) (c1 : Nat) (c2 : Nat) (X0 : Stand p l e room_1 s m args below meth c T0 locs cells slots) (G : SG p s m meth c Z a0) (z10 : ¬ p1 < (10 : Int64)) (tv0 : t0 = (1 : Int32)) (h : EndsSo p e below (LQ s n0) T0 (mkF m 303 (FL p0 p1 1 mm t0 t1 t2 t3 t4 c1 c2 (iv gg) (iv 1) (iv t0) (.val (.long 10)) .second .unset) [])) :
    EndsSo p e below (LQ s n0) T0 (mkF m 209 (FL p0 p1 1 mm t0 t1 t2 t3 t4 c1 c2 (iv gg) .unset .unset .unset .unset .unset) []) := by
  obtain ⟨hx, hZ, hw, Y, hml, hO, hlk, hret⟩ := id G
  refine iK X0 hx (z := 0) (hb Y at_209) <| iS X0 hx (L' := (FL p0 p1 1 mm t0 t1 t2 t3 t4 c1 c2 (iv gg) (iv 0) .unset .unset .unset .unset)) (hb Y at_210) rfl <| iN X0 hx (hb Y at_212) rfl <| iK X0 hx (z := 2) (hb Y at_213) <| cY X0 hx (pc := 214) 228 (hb Y at_214) <| iN X0 hx (hb Y at_228) rfl <| iK X0 hx (z := 3) (hb Y at_229) <| cY X0 hx (pc := 230) 244 (hb Y at_230) <| iN X0 hx (hb Y at_244) rfl <| iK X0 hx (z := 1) (hb Y at_245) <| cN X0 hx (hb Y at_246) <| iL X0 hx (hb Y at_249) rfl <| fN X0 hx (hb Y at_251) <| iL X0 hx (hb Y at_254) rfl <| gT X0 hx (pc := 256) 272 (hb Y at_256) <| iS X0 hx (L' := (FL p0 p1 1 mm t0 t1 t2 t3 t4 c1 c2 (iv gg) (iv 0) (iv t0) .unset .unset .unset)) (hb Y at_272) rfl <| f_ldc2 X0 hx hZ hO (w38 hw) (hb Y at_274) <| iL X0 hx (hb Y at_277) rfl <| iK X0 hx (z := 1) (hb Y at_279) <| iA X0 hx (z := 1) (hb Y at_280) <| f_i2l X0 hx (z := 1) (hb Y at_281) <| f_lmul X0 hx (z := 10) (hb Y at_282) <| f_lstore X0 hx (L' := (FL p0 p1 1 mm t0 t1 t2 t3 t4 c1 c2 (iv gg) (iv 0) (iv t0) (.val (.long 10)) .second .unset)) (hb Y at_283) rfl <| f_lload X0 hx (hb Y at_285) rfl <| lN X0 hx (hb Y at_287) rfl <| lC X0 hx (z := (lcmpW (10 : Int64) p1)) (hb Y at_288) (q := rfl) <| fN X0 hx (hb Y at_289) (hc := (own_gtF z10)) <| iL X0 hx (hb Y at_292) rfl <| fN X0 hx (hb Y at_294) (hc := (own_eq1 tv0)) <| iL X0 hx (hb Y at_297) rfl <| iK X0 hx (z := 1) (hb Y at_299) <| iA X0 hx (z := 1) (hb Y at_300) <| iS X0 hx (L' := (FL p0 p1 1 mm t0 t1 t2 t3 t4 c1 c2 (iv gg) (iv 1) (iv t0) (.val (.long 10)) .second .unset)) (hb Y at_301) rfl ?_
  exact h
theorem F2_8  {cells slots : Nat} (p0 : Int32) (p1 : Int64) (t0 : Int32) (t1 : Int32) (t2 : Int32) (t3 : Int32) (t4 : Int32) (c1 : Nat) (c2 : Nat) (X0 : Stand p l e room_1 s m args below meth c T0 locs cells slots) (G : SG p s m meth c Z a0) (N0 : Fr n0 locs) (hK : cells ≤ room_1.cells) (hN : slots ≤ room_1.slots) :
    EndsSo p e below (LQ s n0) T0 (mkF m 303 (FL p0 p1 1 0 t0 t1 t2 t3 t4 c1 c2 (iv 0) (iv 1) (iv t0) (.val (.long 10)) .second .unset) []) := by
  obtain ⟨hx, hZ, hw, Y, hml, hO, hlk, hret⟩ := id G
  refine iN X0 hx (hb Y at_303) rfl <| iL X0 hx (hb Y at_304) rfl <| iB X0 hx (z := 0) (hb Y at_306) <| iS X0 hx (L' := (FL p0 p1 1 0 t0 t1 t2 t3 t4 c1 c2 (iv 0) (iv 1) (iv 0) (.val (.long 10)) .second .unset)) (hb Y at_307) rfl <| iL X0 hx (hb Y at_309) rfl <| iL X0 hx (hb Y at_311) rfl <| iA X0 hx (z := 0) (hb Y at_313) <| iS X0 hx (L' := (FL p0 p1 1 0 t0 t1 t2 t3 t4 c1 c2 (iv 0) (iv 1) (iv 0) (iv 0) .unset .unset)) (hb Y at_314) rfl <| iL X0 hx (hb Y at_316) rfl <| iK X0 hx (z := 1) (hb Y at_318) <| cY X0 hx (pc := 319) 348 (hb Y at_319) <| iL X0 hx (hb Y at_348) rfl <| iS X0 hx (L' := (FL p0 p1 1 0 t0 t1 t2 t3 t4 c1 c2 (iv 0) (iv 1) (iv 0) (iv 0) (iv t3) .unset)) (hb Y at_350) rfl <| iL X0 hx (hb Y at_352) rfl <| iK X0 hx (z := 1) (hb Y at_354) <| cN X0 hx (hb Y at_355) <| iL X0 hx (hb Y at_358) rfl <| iK X0 hx (z := 1) (hb Y at_360) <| cY X0 hx (pc := 361) 373 (hb Y at_361) <| iK X0 hx (z := 0) (hb Y at_373) <| iS X0 hx (L' := (FL p0 p1 1 0 t0 t1 t2 t3 t4 c1 c2 (iv 0) (iv 1) (iv 0) (iv 0) (iv t3) (iv 0))) (hb Y at_374) rfl <| iL X0 hx (hb Y at_376) rfl <| iL X0 hx (hb Y at_378) rfl <| cN X0 hx (hb Y at_380) <| iK X0 hx (z := 1) (hb Y at_383) <| gT X0 hx (pc := 384) 388 (hb Y at_384) ?_
  exact f_ret X0 hx hlk (i := .ireturn) hret rfl (Or.inl ⟨rfl, Or.inr (Or.inl rfl), _, rfl⟩) (hb Y at_388) (QQ := (QL n0)) ⟨rfl, N0⟩ hK hN
theorem q649 (l : Launch) (Z : State) (a0 : Array Value) (hw : HW a0 Z) (ws : List Jvm.Cond) (h0 : Heap) (n0 : Nat) (c1 : Nat) (c2 : Nat) (kc3 : ClassId) (vs_c2 : List Value) (F_c1_o : fO Z h0 c1 (.int 1)) (F_c1_t : fT Z h0 c1 (.ref c2)) (V_c2 : aL Z h0 c2 kc3 2 vs_c2) :
    MC l Z y6 prog_95_method_11_code 2 (some .int) ws rm_0_0_0_0 #[(.ref c1), (.int 0)] h0 (QV (.int 1) h0 n0) := by
  refine own_met (plainFor_of_name pn6) fun p e s m below meth c s₁ X0 hx hZ Y hml hO hnm hlk hret e0 => f_cast (f' := mkF m 0 #[(rv c1), (iv 0)] []) (by first | (simp [entryFrame, mkF, argsToLocals, Value.category]; done) | rfl) ?_
  have N0 := Fr.nil n0
  refine aN X0 hx (hb Y d6_0) rfl rfl <| gF X0 hx hZ hO (w48 hw) Via.refl e0 F_c1_o (hb Y d6_1) fun T647 X647 e647 => ?_
  refine iN X647 hx (hb Y d6_4) rfl <| iA X647 hx (z := 1) (hb Y d6_5) <| aN X647 hx (hb Y d6_6) rfl rfl <| gF X647 hx hZ hO (w16 hw) Via.refl e647 F_c1_t (hb Y d6_7) fun T648 X648 e648 => ?_
  refine f_len X648 hx hZ e648 V_c2 (hb Y d6_10) <| iK X648 hx (z := 1) (hb Y d6_11) <| iB X648 hx (z := 1) (hb Y d6_12) <| f_iand X648 hx (z := 1) (hb Y d6_13) ?_
  exact f_ret X648 hx hlk (i := .ireturn) hret rfl (Or.inl ⟨rfl, Or.inl rfl, _, rfl⟩) (hb Y d6_14) (QQ := (QV (.int 1) h0 n0)) ⟨rfl, N0, e648⟩ (by decide) (by decide)
def St22 (Z : State) (h : Heap) (n0 : Nat) (c1 : Nat) (c2 : Nat) (c3 : Nat) (c4 : Nat) (c5 : Nat) (kc1 : ClassId) (kc2 : ClassId) (kc3 : ClassId) (kc4 : ClassId) (uu1 : Int64) (uu2 : Int64) (ww3 : Value) (ww4 : Value) (ww6 : Value) : Prop :=
  xO Z h c1 ∧
  Arv Z h c1 kc1 (.object "java/lang/Object") 1 [.null] .null ∧
  Ovr Z kc1 "java/lang/Object" ∧
  Exa Z h c2 cV ∧
  fT Z h c2 (.ref c3) ∧
  fR Z h c2 (.ref c4) ∧
  fC Z h c2 (.ref c5) ∧
  fS Z h c2 (.int 0) ∧
  fO Z h c2 (.int 1) ∧
  aL Z h c3 kc2 2 [(.long uu1), (.long uu2)] ∧
  xR Z h c4 ∧
  aR Z h c4 kc3 2 [ww3, ww4] ∧
  oR Z kc3 ∧
  xC Z h c5 ∧
  aC Z h c5 kc4 2 [.null, .null] ∧
  oC Z kc4 ∧
  n0 ≤ c1 ∧
  c1 < c2 ∧
  c2 < c3 ∧
  c3 < c4 ∧
  c4 < c5 ∧
  ww3.isRef = true ∧
  (ww3 = .null ∨ ww3 = .ref c1) ∧
  ww4.isRef = true ∧
  (ww4 = .null ∨ ww4 = .ref c1) ∧
  ww6.isRef = true ∧
  (ww6 = .null ∨ ww6 = .ref c1)
def St23 (Z : State) (h : Heap) (n0 : Nat) (c1 : Nat) (c2 : Nat) (c3 : Nat) (c4 : Nat) (c5 : Nat) (kc1 : ClassId) (kc2 : ClassId) (kc3 : ClassId) (kc4 : ClassId) (uu1 : Int64) (uu5 : Int64) (ww3 : Value) (ww6 : Value) (ww4 : Value) : Prop :=
  xO Z h c1 ∧
  Arv Z h c1 kc1 (.object "java/lang/Object") 1 [.null] .null ∧
  Ovr Z kc1 "java/lang/Object" ∧
  Exa Z h c2 cV ∧
  fT Z h c2 (.ref c3) ∧
  fR Z h c2 (.ref c4) ∧
  fC Z h c2 (.ref c5) ∧
  fS Z h c2 (.int 1) ∧
  fO Z h c2 (.int 1) ∧
  aL Z h c3 kc2 2 [(.long uu1), (.long uu5)] ∧
  xR Z h c4 ∧
  aR Z h c4 kc3 2 [ww3, ww6] ∧
  oR Z kc3 ∧
  xC Z h c5 ∧
  aC Z h c5 kc4 2 [.null, .null] ∧
  oC Z kc4 ∧
  n0 ≤ c1 ∧
  c1 < c2 ∧
  c2 < c3 ∧
  c3 < c4 ∧
  c4 < c5 ∧
  ww3.isRef = true ∧
  (ww3 = .null ∨ ww3 = .ref c1) ∧
  ww4.isRef = true ∧
  (ww4 = .null ∨ ww4 = .ref c1) ∧
  ww6.isRef = true ∧
  (ww6 = .null ∨ ww6 = .ref c1)
def Qm658 (Z : State) (n0 : Nat) (c1 : Nat) (c2 : Nat) (c3 : Nat) (c4 : Nat) (c5 : Nat) (kc1 : ClassId) (kc2 : ClassId) (kc3 : ClassId) (kc4 : ClassId) (uu1 : Int64) (uu2 : Int64) (ww3 : Value) (ww4 : Value) (ww6 : Value) (uu5 : Int64) (v : Option Value) (h : Heap) (L : List Loc) : Prop := v = none ∧ Fr n0 L ∧ St23 Z h n0 c1 c2 c3 c4 c5 kc1 kc2 kc3 kc4 uu1 uu5 ww3 ww6 ww4
theorem m658 (l : Launch) (Z : State) (a0 : Array Value) (hw : HW a0 Z) (ws : List Jvm.Cond) (h0 : Heap) (n0 : Nat) (c1 : Nat) (c2 : Nat) (c3 : Nat) (c4 : Nat) (c5 : Nat) (kc1 : ClassId) (kc2 : ClassId) (kc3 : ClassId) (kc4 : ClassId) (uu1 : Int64) (uu2 : Int64) (ww3 : Value) (ww4 : Value) (ww6 : Value) (uu5 : Int64) (P : St22 Z h0 n0 c1 c2 c3 c4 c5 kc1 kc2 kc3 kc4 uu1 uu2 ww3 ww4 ww6) :
    MC l Z y5 prog_95_method_3_code 6 none ws rm_1_0_0_13 #[(.ref c2), (.long uu5), ww6, .null] h0 (Qm658 Z n0 c1 c2 c3 c4 c5 kc1 kc2 kc3 kc4 uu1 uu2 ww3 ww4 ww6 uu5) := by
  obtain ⟨E_c1, V_c1, O_c1, E_c2, F_c2_t, F_c2_r, F_c2_c, F_c2_s, F_c2_o, V_c3, E_c4, V_c4, O_c4, E_c5, V_c5, O_c5, g_c1, lt_c1_c2, lt_c2_c3, lt_c3_c4, lt_c4_c5, rf_ww3, rw_ww3, rf_ww4, rw_ww4, rf_ww6, rw_ww6⟩ := id P
  refine own_met (plainFor_of_name pn5) fun p e s m below meth c s₁ X0 hx hZ Y hml hO hnm hlk hret e0 => f_cast (f' := mkF m 0 #[(rv c2), (.val (.long uu5)), .second, (.val ww6), (.val .null), .unset] []) (by rcases ref_cases rf_ww6 with q | ⟨_, q⟩ <;> (rw [q]; first | (simp [entryFrame, mkF, argsToLocals, Value.category]; done) | rfl)) ?_
  have N0 := Fr.nil n0
  refine aN X0 hx (hb Y d5_0) rfl rfl <| gF X0 hx hZ hO (w31 hw) Via.refl e0 F_c2_s (hb Y d5_1) fun T643 X643 e643 => ?_
  refine aN X643 hx (hb Y d5_4) rfl rfl <| gF X643 hx hZ hO (w16 hw) Via.refl e643 F_c2_t (hb Y d5_5) fun T644 X644 e644 => ?_
  refine f_len X644 hx hZ e644 V_c3 (hb Y d5_8) <| cY X644 hx (pc := 9) 22 (hb Y d5_9) <| aN X644 hx (hb Y d5_22) rfl rfl <| aN X644 hx (hb Y d5_23) rfl rfl <| gF X644 hx hZ hO (w31 hw) Via.refl e644 F_c2_s (hb Y d5_24) fun T645 X645 e645 => ?_
  refine pV X645 hx hZ hO (by rw [hml]; rfl) (w44 hw) (w45 hw) (w46 hw) (w7 hw) (w8 hw) (w47 hw) e645 E_c2 (argsL := [(.int 0)]) (rest := []) (q649 l Z a0 hw [] h0 n0 c2 c3 kc2 _ F_c2_o F_c2_t V_c3) (lenOf pd4 rfl) (hb Y d5_27) fun T646 L646 v646 X646 hQ646 => ?_
  obtain ⟨rfl, N646q, e646⟩ := hQ646
  have N646 := Fr.app N0 N646q
  refine iS X646 hx (L' := #[(rv c2), (.val (.long uu5)), .second, (.val ww6), (.val .null), (iv 1)]) (hb Y d5_30) rfl <| aN X646 hx (hb Y d5_32) rfl rfl <| gF X646 hx hZ hO (w16 hw) Via.refl e646 F_c2_t (hb Y d5_33) fun T650 X650 e650 => ?_
  refine iL X650 hx (hb Y d5_36) rfl <| lN X650 hx (hb Y d5_38) rfl <| f_lst X650 hx hZ e650 V_c3 1 (hb Y d5_39) fun T651 h651 X651 e651 W651 V651 => ?_
  have N651x := Fr.snoc X651 N646 (by omega : n0 ≤ c3)
  refine aN X651 hx (hb Y d5_40) rfl rfl ?_
  replace F_c2_r := (fo W651 F_c2_r)
  refine gF X651 hx hZ hO (w20 hw) Via.refl e651 F_c2_r (hb Y d5_41) fun T652 X652 e652 => ?_
  refine iL X652 hx (hb Y d5_44) rfl <| aN X652 hx (hb Y d5_46) rfl rf_ww6 ?_
  replace V_c4 := (vo V_c4 W651)
  replace E_c1 := (xw W651 E_c1)
  refine f_ast X652 hx hZ e652 V_c4 rfl (own_sto rw_ww6 (own_stoVA V_c4 O_c4 (Ins.self E_c1))) (own_fits rf_ww6) 1 (hb Y d5_47) fun T653 h653 X653 e653 W653 V653 => ?_
  have N653x := Fr.snoc X653 N651x (by omega : n0 ≤ c4)
  refine aN X653 hx (hb Y d5_48) rfl rfl ?_
  replace F_c2_c := (fo W653 (fo W651 F_c2_c))
  refine gF X653 hx hZ hO (w24 hw) Via.refl e653 F_c2_c (hb Y d5_49) fun T654 X654 e654 => ?_
  refine iL X654 hx (hb Y d5_52) rfl <| aA X654 hx (hb Y d5_54) rfl rfl ?_
  replace V_c5 := (vo (vo V_c5 W651) W653)
  refine f_ast X654 hx hZ e654 V_c5 rfl (Or.inl rfl) rfl 1 (hb Y d5_56) fun T655 h655 X655 e655 W655 V655 => ?_
  have N655x := Fr.snoc X655 N653x (by omega : n0 ≤ c5)
  refine aN X655 hx (hb Y d5_57) rfl rfl <| f_dup X655 hx (hb Y d5_58) rfl ?_
  replace F_c2_s := (fo W655 (fo W653 (fo W651 F_c2_s)))
  refine gF X655 hx hZ hO (w31 hw) Via.refl e655 F_c2_s (hb Y d5_59) fun T656 X656 e656 => ?_
  refine iK X656 hx (z := 1) (hb Y d5_62) <| iA X656 hx (z := 1) (hb Y d5_63) ?_
  replace E_c2 := (xw W655 (xw W653 (xw W651 E_c2)))
  refine f_putF X656 hx hZ hO (w31 hw) Via.refl e656 F_c2_s E_c2 (Or.inl (w32 hw)) (w7 hw) (ty := .int) (by decide) rfl rfl (hb Y d5_64) fun T657 h657 X657 e657 W657 => ?_
  have N657x := Fr.snoc X657 N655x (by omega : n0 ≤ c2)
  exact f_ret0 X657 hx hlk hret (hb Y d5_67) (QQ := (Qm658 Z n0 c1 c2 c3 c4 c5 kc1 kc2 kc3 kc4 uu1 uu2 ww3 ww4 ww6 uu5)) (by rw [e657]; exact ⟨rfl, N657x, (xw W657 (xw W655 (xw W653 E_c1))), (vo (vo (vo (vo V_c1 W651) W653) W655) W657), O_c1, (xw W657 E_c2), (Fld.other W657 (fo W655 (fo W653 (fo W651 F_c2_t))) (Or.inr (slot_ne (Or.inl (w17 hw)) (Or.inl (w32 hw)) (by decide) (t := (.array .long)) (t' := .int) (by decide) (by decide)))), (Fld.other W657 (fo W655 (fo W653 F_c2_r)) (Or.inr (slot_ne (Or.inl (w21 hw)) (Or.inl (w32 hw)) (by decide) (t := (.array (.array (.object "java/lang/Object")))) (t' := .int) (by decide) (by decide)))), (Fld.other W657 (fo W655 F_c2_c) (Or.inr (slot_ne (Or.inl (w25 hw)) (Or.inl (w32 hw)) (by decide) (t := (.array (.array .int))) (t' := .int) (by decide) (by decide)))), (Fld.same W657 F_c2_s), (Fld.other W657 (fo W655 (fo W653 (fo W651 F_c2_o))) (Or.inr (slot_ne (Or.inl (w49 hw)) (Or.inl (w32 hw)) (by decide) (t := .int) (t' := .int) (by decide) (by decide)))), (vo (vo (vo V651 W653) W655) W657), (xw W657 (xw W655 (xw W653 (xw W651 E_c4)))), (vo (vo V653 W655) W657), O_c4, (xw W657 (xw W655 (xw W653 (xw W651 E_c5)))), (vo V655 W657), O_c5, g_c1, lt_c1_c2, lt_c2_c3, lt_c3_c4, lt_c4_c5, rf_ww3, rw_ww3, rf_ww4, rw_ww4, rf_ww6, rw_ww6⟩) (by decide) (by decide)
theorem q665 (l : Launch) (Z : State) (a0 : Array Value) (hw : HW a0 Z) (ws : List Jvm.Cond) (h0 : Heap) (n0 : Nat) (c1 : Nat) (c2 : Nat) (kc3 : ClassId) (r3 : Value) (c4 : Nat) (F_c1_s : fS Z h0 c1 (.int 1)) (F_c1_r : fR Z h0 c1 (.ref c2)) (F_c1_o : fO Z h0 c1 (.int 1)) (V_c2 : aR Z h0 c2 kc3 2 [.null, r3]) (nv_r3 : r3 = .ref c4) :
    MC l Z y4 prog_95_method_7_code 1 (some .boolean) ws rm_0_0_0_0 #[(.ref c1)] h0 (QV (.int 0) h0 n0) := by
  refine own_met (plainFor_of_name pn4) fun p e s m below meth c s₁ X0 hx hZ Y hml hO hnm hlk hret e0 => f_cast (f' := mkF m 0 #[(rv c1)] []) (by first | (simp [entryFrame, mkF, argsToLocals, Value.category]; done) | rfl) ?_
  have N0 := Fr.nil n0
  refine aN X0 hx (hb Y d4_0) rfl rfl <| gF X0 hx hZ hO (w31 hw) Via.refl e0 F_c1_s (hb Y d4_1) fun T661 X661 e661 => ?_
  refine iK X661 hx (z := 1) (hb Y d4_4) <| cN X661 hx (hb Y d4_5) <| aN X661 hx (hb Y d4_8) rfl rfl <| gF X661 hx hZ hO (w31 hw) Via.refl e661 F_c1_s (hb Y d4_9) fun T662 X662 e662 => ?_
  refine iK X662 hx (z := 1) (hb Y d4_12) <| cN X662 hx (hb Y d4_13) <| aN X662 hx (hb Y d4_16) rfl rfl <| gF X662 hx hZ hO (w20 hw) Via.refl e662 F_c1_r (hb Y d4_17) fun T663 X663 e663 => ?_
  refine aN X663 hx (hb Y d4_20) rfl rfl <| gF X663 hx hZ hO (w48 hw) Via.refl e663 F_c1_o (hb Y d4_21) fun T664 X664 e664 => ?_
  refine f_aald X664 hx hZ e664 V_c2 rfl (v := r3) rfl (hb Y d4_24) <| f_ifnonnullYv X664 hx (pc := 25) 32 nv_r3 (hb Y d4_25) <| iK X664 hx (z := 0) (hb Y d4_32) ?_
  exact f_ret X664 hx hlk (i := .ireturn) hret rfl (Or.inl ⟨rfl, Or.inr (Or.inl rfl), _, rfl⟩) (hb Y d4_33) (QQ := (QV (.int 0) h0 n0)) ⟨rfl, N0, e664⟩ (by decide) (by decide)
theorem q671 (l : Launch) (Z : State) (a0 : Array Value) (hw : HW a0 Z) (ws : List Jvm.Cond) (h0 : Heap) (n0 : Nat) (c1 : Nat) (c2 : Nat) (kc3 : ClassId) (r3 : Value) (F_c1_s : fS Z h0 c1 (.int 1)) (F_c1_r : fR Z h0 c1 (.ref c2)) (F_c1_o : fO Z h0 c1 (.int 1)) (V_c2 : aR Z h0 c2 kc3 2 [.null, r3]) (nv_r3 : r3 = .null) :
    MC l Z y4 prog_95_method_7_code 1 (some .boolean) ws rm_0_0_0_0 #[(.ref c1)] h0 (QV (.int 1) h0 n0) := by
  refine own_met (plainFor_of_name pn4) fun p e s m below meth c s₁ X0 hx hZ Y hml hO hnm hlk hret e0 => f_cast (f' := mkF m 0 #[(rv c1)] []) (by first | (simp [entryFrame, mkF, argsToLocals, Value.category]; done) | rfl) ?_
  have N0 := Fr.nil n0
  refine aN X0 hx (hb Y d4_0) rfl rfl <| gF X0 hx hZ hO (w31 hw) Via.refl e0 F_c1_s (hb Y d4_1) fun T667 X667 e667 => ?_
  refine iK X667 hx (z := 1) (hb Y d4_4) <| cN X667 hx (hb Y d4_5) <| aN X667 hx (hb Y d4_8) rfl rfl <| gF X667 hx hZ hO (w31 hw) Via.refl e667 F_c1_s (hb Y d4_9) fun T668 X668 e668 => ?_
  refine iK X668 hx (z := 1) (hb Y d4_12) <| cN X668 hx (hb Y d4_13) <| aN X668 hx (hb Y d4_16) rfl rfl <| gF X668 hx hZ hO (w20 hw) Via.refl e668 F_c1_r (hb Y d4_17) fun T669 X669 e669 => ?_
  refine aN X669 hx (hb Y d4_20) rfl rfl <| gF X669 hx hZ hO (w48 hw) Via.refl e669 F_c1_o (hb Y d4_21) fun T670 X670 e670 => ?_
  refine f_aald X670 hx hZ e670 V_c2 rfl (v := r3) rfl (hb Y d4_24) <| f_ifnonnullNv X670 hx nv_r3 (hb Y d4_25) <| iK X670 hx (z := 1) (hb Y d4_28) <| gT X670 hx (pc := 29) 33 (hb Y d4_29) ?_
  exact f_ret X670 hx hlk (i := .ireturn) hret rfl (Or.inl ⟨rfl, Or.inr (Or.inl rfl), _, rfl⟩) (hb Y d4_33) (QQ := (QV (.int 1) h0 n0)) ⟨rfl, N0, e670⟩ (by decide) (by decide)
theorem D1_11  (c1 : Nat) (c2 : Nat) (c3 : Nat) (c4 : Nat) (c5 : Nat) (kc1 : ClassId) (kc2 : ClassId) (kc3 : ClassId) (kc4 : ClassId) (t0 : Int32) (t1 : Int32) (t2 : Int32) (t3 : Int32) (t4 : Int32) (r0 : Value) (p0 : Int32) (p1 : Int64) (X0 : Stand p l e room_1 s m args below meth c T0 locs 5 13) (G : SG p s m meth c Z a0) (e0 : T0.heap = h0) (N0 : Fr n0 locs) (P : St21 Z h0 n0 c1 c2 c3 c4 c5 kc1 kc2 kc3 kc4 t0 t1 t2 t3 t4 r0) (hk0 : t3 = (0 : Int32) → ∀ (T' : State) (locs' : List Loc), Stand p l e room_1 s m args below meth c T' locs' 5 13 → Fr n0 locs' → EndsSo p e below (LQ s n0) T' (mkF m 209 (FL p0 p1 1 1 t0 t1 t2 t3 t4 c1 c2 (iv 0) .unset .unset .unset .unset .unset) [])) (hk1 : t3 = (1 : Int32) → ∀ (T' : State) (locs' : List Loc), Stand p l e room_1 s m args below meth c T' locs' 5 13 → Fr n0 locs' → EndsSo p e below (LQ s n0) T' (mkF m 209 (FL p0 p1 1 1 t0 t1 t2 t3 t4 c1 c2 (iv 1) .unset .unset .unset .unset .unset) [])) :
    EndsSo p e below (LQ s n0) T0 (mkF m 150 (FL p0 p1 1 1 t0 t1 t2 t3 t4 c1 c2 .unset .unset .unset .unset .unset .unset) []) := by
  obtain ⟨hx, hZ, hw, Y, hml, hO, hlk, hret⟩ := id G
  obtain ⟨E_c1, V_c1, O_c1, E_c2, F_c2_t, F_c2_r, F_c2_c, F_c2_s, F_c2_o, V_c3, E_c4, V_c4, O_c4, E_c5, V_c5, O_c5, g_c1, lt_c1_c2, lt_c2_c3, lt_c3_c4, lt_c4_c5, ht0, ht1, ht2, ht3, ht4, rf_r0, rw_r0, rb_r0⟩ := id P
  refine iL X0 hx (hb Y at_150) rfl <| iK X0 hx (z := 1) (hb Y at_152) <| cN X0 hx (hb Y at_153) <| aA X0 hx (hb Y at_156) rfl rfl <| f_ldc2 X0 hx hZ hO (w56 hw) (hb Y at_158) <| iL X0 hx (hb Y at_161) rfl <| own_mrg X0 hx (row := c1) ht3 (pc := 163) (hb Y at_163) (hb Y at_170) (hb Y at_166) (hb Y at_167) rfl fun r3 rf_r3 rw_r3 rb_r3 => ?_
  refine f_null X0 hx (hb Y at_172) ?_
  have P659 : St22 Z h0 n0 c1 c2 c3 c4 c5 kc1 kc2 kc3 kc4 (10 : Int64) (0 : Int64) .null .null r3 := ⟨E_c1, V_c1, O_c1, E_c2, F_c2_t, F_c2_r, F_c2_c, F_c2_s, F_c2_o, V_c3, E_c4, V_c4, O_c4, E_c5, V_c5, O_c5, g_c1, lt_c1_c2, lt_c2_c3, lt_c3_c4, lt_c4_c5, rfl, (Or.inl rfl), rfl, (Or.inl rfl), rf_r3, rw_r3⟩
  refine vV X0 hx hZ hO (by rw [hml]; rfl) (w39 hw) (w40 hw) (w42 hw) (w41 hw) (w8 hw) (w43 hw) e0 E_c2 (argsL := [(.long 40), r3, .null]) (rest := []) (m658 l Z a0 hw [] h0 n0 c1 c2 c3 c4 c5 kc1 kc2 kc3 kc4 (10 : Int64) (0 : Int64) .null .null r3 (40 : Int64) P659) (lenOf pd5 rfl) (hb Y at_173) fun T627 L627 v627 X627 hQ627 => ?_
  obtain ⟨rfl, N627q, P627⟩ := hQ627
  obtain ⟨E_c1, V_c1, O_c1, E_c2, F_c2_t, F_c2_r, F_c2_c, F_c2_s, F_c2_o, V_c3, E_c4, V_c4, O_c4, E_c5, V_c5, O_c5, g_c1, lt_c1_c2, lt_c2_c3, lt_c3_c4, lt_c4_c5, _, _, _, _, _, _⟩ := id P627
  have N627 := Fr.app N0 N627q
  refine iL X627 hx (hb Y at_176) rfl <| iK X627 hx (z := 2) (hb Y at_178) <| cY X627 hx (pc := 179) 202 (hb Y at_179) ?_
  rcases id rb_r3 with ⟨tv3, nv_r3⟩ | ⟨tv3, nv_r3⟩
  · refine aA X627 hx (hb Y at_202) rfl rfl <| vV X627 hx hZ hO (by rw [hml]; rfl) (w33 hw) (w34 hw) (w36 hw) (w35 hw) (w8 hw) (w37 hw) rfl E_c2 (argsL := []) (rest := []) (q665 l Z a0 hw [] T627.heap n0 c2 c4 kc3 r3 c1 F_c2_s F_c2_r F_c2_o V_c4 nv_r3) (lenOf pd3 rfl) (hb Y at_204) fun T660 L660 v660 X660 hQ660 => ?_
    obtain ⟨rfl, N660q, e660⟩ := hQ660
    have N660 := Fr.app N627 N660q
    refine iS X660 hx (L' := (FL p0 p1 1 1 t0 t1 t2 t3 t4 c1 c2 (iv 0) .unset .unset .unset .unset .unset)) (hb Y at_207) rfl ?_
    exact hk0 tv3 _ _ X660 N660
  · refine aA X627 hx (hb Y at_202) rfl rfl <| vV X627 hx hZ hO (by rw [hml]; rfl) (w33 hw) (w34 hw) (w36 hw) (w35 hw) (w8 hw) (w37 hw) rfl E_c2 (argsL := []) (rest := []) (q671 l Z a0 hw [] T627.heap n0 c2 c4 kc3 r3 F_c2_s F_c2_r F_c2_o V_c4 nv_r3) (lenOf pd3 rfl) (hb Y at_204) fun T666 L666 v666 X666 hQ666 => ?_
    obtain ⟨rfl, N666q, e666⟩ := hQ666
    have N666 := Fr.app N627 N666q
    refine iS X666 hx (L' := (FL p0 p1 1 1 t0 t1 t2 t3 t4 c1 c2 (iv 1) .unset .unset .unset .unset .unset)) (hb Y at_207) rfl ?_
    exact hk1 tv3 _ _ X666 N666
theorem F2_9  {cells slots : Nat} (p0 : Int32) (p1 : Int64) (t0 : Int32) (t1 : Int32) (t2 : Int32) (t3 : Int32) (t4 : Int32) (c1 : Nat) (c2 : Nat) (X0 : Stand p l e room_1 s m args below meth c T0 locs cells slots) (G : SG p s m meth c Z a0) (tv3 : t3 = (0 : Int32)) (N0 : Fr n0 locs) (hK : cells ≤ room_1.cells) (hN : slots ≤ room_1.slots) :
    EndsSo p e below (LQ s n0) T0 (mkF m 303 (FL p0 p1 1 1 t0 t1 t2 t3 t4 c1 c2 (iv 0) (iv 1) (iv t0) (.val (.long 10)) .second .unset) []) := by
  obtain ⟨hx, hZ, hw, Y, hml, hO, hlk, hret⟩ := id G
  refine iN X0 hx (hb Y at_303) rfl <| iL X0 hx (hb Y at_304) rfl <| iB X0 hx (z := 0) (hb Y at_306) <| iS X0 hx (L' := (FL p0 p1 1 1 t0 t1 t2 t3 t4 c1 c2 (iv 0) (iv 1) (iv 0) (.val (.long 10)) .second .unset)) (hb Y at_307) rfl <| iL X0 hx (hb Y at_309) rfl <| iL X0 hx (hb Y at_311) rfl <| iA X0 hx (z := 1) (hb Y at_313) <| iS X0 hx (L' := (FL p0 p1 1 1 t0 t1 t2 t3 t4 c1 c2 (iv 0) (iv 1) (iv 0) (iv 1) .unset .unset)) (hb Y at_314) rfl <| iL X0 hx (hb Y at_316) rfl <| iK X0 hx (z := 1) (hb Y at_318) <| cY X0 hx (pc := 319) 348 (hb Y at_319) <| iL X0 hx (hb Y at_348) rfl <| iS X0 hx (L' := (FL p0 p1 1 1 t0 t1 t2 t3 t4 c1 c2 (iv 0) (iv 1) (iv 0) (iv 1) (iv t3) .unset)) (hb Y at_350) rfl <| iL X0 hx (hb Y at_352) rfl <| iK X0 hx (z := 1) (hb Y at_354) <| cN X0 hx (hb Y at_355) <| iL X0 hx (hb Y at_358) rfl <| iK X0 hx (z := 1) (hb Y at_360) <| cN X0 hx (hb Y at_361) <| iL X0 hx (hb Y at_364) rfl <| fY X0 hx (pc := 366) 373 (hb Y at_366) (hc := (own_eqT tv3)) <| iK X0 hx (z := 0) (hb Y at_373) <| iS X0 hx (L' := (FL p0 p1 1 1 t0 t1 t2 t3 t4 c1 c2 (iv 0) (iv 1) (iv 0) (iv 1) (iv t3) (iv 0))) (hb Y at_374) rfl <| iL X0 hx (hb Y at_376) rfl <| iL X0 hx (hb Y at_378) rfl <| cN X0 hx (hb Y at_380) <| iK X0 hx (z := 1) (hb Y at_383) <| gT X0 hx (pc := 384) 388 (hb Y at_384) ?_
  exact f_ret X0 hx hlk (i := .ireturn) hret rfl (Or.inl ⟨rfl, Or.inr (Or.inl rfl), _, rfl⟩) (hb Y at_388) (QQ := (QL n0)) ⟨rfl, N0⟩ hK hN
theorem F2_10  {cells slots : Nat} (p0 : Int32) (p1 : Int64) (t0 : Int32) (t1 : Int32) (t2 : Int32) (t3 : Int32) (t4 : Int32) (c1 : Nat) (c2 : Nat) (X0 : Stand p l e room_1 s m args below meth c T0 locs cells slots) (G : SG p s m meth c Z a0) (tv3 : t3 = (1 : Int32)) (N0 : Fr n0 locs) (hK : cells ≤ room_1.cells) (hN : slots ≤ room_1.slots) :
    EndsSo p e below (LQ s n0) T0 (mkF m 303 (FL p0 p1 1 1 t0 t1 t2 t3 t4 c1 c2 (iv 1) (iv 1) (iv t0) (.val (.long 10)) .second .unset) []) := by
  obtain ⟨hx, hZ, hw, Y, hml, hO, hlk, hret⟩ := id G
  refine iN X0 hx (hb Y at_303) rfl <| iL X0 hx (hb Y at_304) rfl <| iB X0 hx (z := 0) (hb Y at_306) <| iS X0 hx (L' := (FL p0 p1 1 1 t0 t1 t2 t3 t4 c1 c2 (iv 1) (iv 1) (iv 0) (.val (.long 10)) .second .unset)) (hb Y at_307) rfl <| iL X0 hx (hb Y at_309) rfl <| iL X0 hx (hb Y at_311) rfl <| iA X0 hx (z := 1) (hb Y at_313) <| iS X0 hx (L' := (FL p0 p1 1 1 t0 t1 t2 t3 t4 c1 c2 (iv 1) (iv 1) (iv 0) (iv 1) .unset .unset)) (hb Y at_314) rfl <| iL X0 hx (hb Y at_316) rfl <| iK X0 hx (z := 1) (hb Y at_318) <| cY X0 hx (pc := 319) 348 (hb Y at_319) <| iL X0 hx (hb Y at_348) rfl <| iS X0 hx (L' := (FL p0 p1 1 1 t0 t1 t2 t3 t4 c1 c2 (iv 1) (iv 1) (iv 0) (iv 1) (iv t3) .unset)) (hb Y at_350) rfl <| iL X0 hx (hb Y at_352) rfl <| iK X0 hx (z := 1) (hb Y at_354) <| cN X0 hx (hb Y at_355) <| iL X0 hx (hb Y at_358) rfl <| iK X0 hx (z := 1) (hb Y at_360) <| cN X0 hx (hb Y at_361) <| iL X0 hx (hb Y at_364) rfl <| fN X0 hx (hb Y at_366) (hc := (own_eq1 tv3)) <| iK X0 hx (z := 1) (hb Y at_369) <| gT X0 hx (pc := 370) 374 (hb Y at_370) <| iS X0 hx (L' := (FL p0 p1 1 1 t0 t1 t2 t3 t4 c1 c2 (iv 1) (iv 1) (iv 0) (iv 1) (iv t3) (iv 1))) (hb Y at_374) rfl <| iL X0 hx (hb Y at_376) rfl <| iL X0 hx (hb Y at_378) rfl <| cN X0 hx (hb Y at_380) <| iK X0 hx (z := 1) (hb Y at_383) <| gT X0 hx (pc := 384) 388 (hb Y at_384) ?_
  exact f_ret X0 hx hlk (i := .ireturn) hret rfl (Or.inl ⟨rfl, Or.inr (Or.inl rfl), _, rfl⟩) (hb Y at_388) (QQ := (QL n0)) ⟨rfl, N0⟩ hK hN
theorem q711 (l : Launch) (Z : State) (a0 : Array Value) (hw : HW a0 Z) (ws : List Jvm.Cond) (h0 : Heap) (n0 : Nat) (c1 : Nat) (c2 : Nat) (kc3 : ClassId) (vs_c2 : List Value) (F_c1_o : fO Z h0 c1 (.int 1)) (F_c1_t : fT Z h0 c1 (.ref c2)) (V_c2 : aL Z h0 c2 kc3 2 vs_c2) :
    MC l Z y6 prog_95_method_11_code 2 (some .int) ws rm_0_0_0_0 #[(.ref c1), (.int 1)] h0 (QV (.int 0) h0 n0) := by
  refine own_met (plainFor_of_name pn6) fun p e s m below meth c s₁ X0 hx hZ Y hml hO hnm hlk hret e0 => f_cast (f' := mkF m 0 #[(rv c1), (iv 1)] []) (by first | (simp [entryFrame, mkF, argsToLocals, Value.category]; done) | rfl) ?_
  have N0 := Fr.nil n0
  refine aN X0 hx (hb Y d6_0) rfl rfl <| gF X0 hx hZ hO (w48 hw) Via.refl e0 F_c1_o (hb Y d6_1) fun T709 X709 e709 => ?_
  refine iN X709 hx (hb Y d6_4) rfl <| iA X709 hx (z := 2) (hb Y d6_5) <| aN X709 hx (hb Y d6_6) rfl rfl <| gF X709 hx hZ hO (w16 hw) Via.refl e709 F_c1_t (hb Y d6_7) fun T710 X710 e710 => ?_
  refine f_len X710 hx hZ e710 V_c2 (hb Y d6_10) <| iK X710 hx (z := 1) (hb Y d6_11) <| iB X710 hx (z := 1) (hb Y d6_12) <| f_iand X710 hx (z := 0) (hb Y d6_13) ?_
  exact f_ret X710 hx hlk (i := .ireturn) hret rfl (Or.inl ⟨rfl, Or.inl rfl, _, rfl⟩) (hb Y d6_14) (QQ := (QV (.int 0) h0 n0)) ⟨rfl, N0, e710⟩ (by decide) (by decide)
def St24 (Z : State) (h : Heap) (n0 : Nat) (c1 : Nat) (c2 : Nat) (c3 : Nat) (c4 : Nat) (c5 : Nat) (kc1 : ClassId) (kc2 : ClassId) (kc3 : ClassId) (kc4 : ClassId) (uu1 : Int64) (uu2 : Int64) (ww3 : Value) (ww4 : Value) (ww6 : Value) : Prop :=
  xO Z h c1 ∧
  Arv Z h c1 kc1 (.object "java/lang/Object") 1 [.null] .null ∧
  Ovr Z kc1 "java/lang/Object" ∧
  Exa Z h c2 cV ∧
  fT Z h c2 (.ref c3) ∧
  fR Z h c2 (.ref c4) ∧
  fC Z h c2 (.ref c5) ∧
  fS Z h c2 (.int 1) ∧
  fO Z h c2 (.int 1) ∧
  aL Z h c3 kc2 2 [(.long uu1), (.long uu2)] ∧
  xR Z h c4 ∧
  aR Z h c4 kc3 2 [ww3, ww4] ∧
  oR Z kc3 ∧
  xC Z h c5 ∧
  aC Z h c5 kc4 2 [.null, .null] ∧
  oC Z kc4 ∧
  n0 ≤ c1 ∧
  c1 < c2 ∧
  c2 < c3 ∧
  c3 < c4 ∧
  c4 < c5 ∧
  ww3.isRef = true ∧
  (ww3 = .null ∨ ww3 = .ref c1) ∧
  ww4.isRef = true ∧
  (ww4 = .null ∨ ww4 = .ref c1) ∧
  ww6.isRef = true ∧
  (ww6 = .null ∨ ww6 = .ref c1)
def St25 (Z : State) (h : Heap) (n0 : Nat) (c1 : Nat) (c2 : Nat) (c3 : Nat) (c4 : Nat) (c5 : Nat) (kc1 : ClassId) (kc2 : ClassId) (kc3 : ClassId) (kc4 : ClassId) (uu5 : Int64) (uu2 : Int64) (ww6 : Value) (ww4 : Value) (ww3 : Value) : Prop :=
  xO Z h c1 ∧
  Arv Z h c1 kc1 (.object "java/lang/Object") 1 [.null] .null ∧
  Ovr Z kc1 "java/lang/Object" ∧
  Exa Z h c2 cV ∧
  fT Z h c2 (.ref c3) ∧
  fR Z h c2 (.ref c4) ∧
  fC Z h c2 (.ref c5) ∧
  fS Z h c2 (.int 2) ∧
  fO Z h c2 (.int 1) ∧
  aL Z h c3 kc2 2 [(.long uu5), (.long uu2)] ∧
  xR Z h c4 ∧
  aR Z h c4 kc3 2 [ww6, ww4] ∧
  oR Z kc3 ∧
  xC Z h c5 ∧
  aC Z h c5 kc4 2 [.null, .null] ∧
  oC Z kc4 ∧
  n0 ≤ c1 ∧
  c1 < c2 ∧
  c2 < c3 ∧
  c3 < c4 ∧
  c4 < c5 ∧
  ww3.isRef = true ∧
  (ww3 = .null ∨ ww3 = .ref c1) ∧
  ww4.isRef = true ∧
  (ww4 = .null ∨ ww4 = .ref c1) ∧
  ww6.isRef = true ∧
  (ww6 = .null ∨ ww6 = .ref c1)
def Qm720 (Z : State) (n0 : Nat) (c1 : Nat) (c2 : Nat) (c3 : Nat) (c4 : Nat) (c5 : Nat) (kc1 : ClassId) (kc2 : ClassId) (kc3 : ClassId) (kc4 : ClassId) (uu1 : Int64) (uu2 : Int64) (ww3 : Value) (ww4 : Value) (ww6 : Value) (uu5 : Int64) (v : Option Value) (h : Heap) (L : List Loc) : Prop := v = none ∧ Fr n0 L ∧ St25 Z h n0 c1 c2 c3 c4 c5 kc1 kc2 kc3 kc4 uu5 uu2 ww6 ww4 ww3
theorem m720 (l : Launch) (Z : State) (a0 : Array Value) (hw : HW a0 Z) (ws : List Jvm.Cond) (h0 : Heap) (n0 : Nat) (c1 : Nat) (c2 : Nat) (c3 : Nat) (c4 : Nat) (c5 : Nat) (kc1 : ClassId) (kc2 : ClassId) (kc3 : ClassId) (kc4 : ClassId) (uu1 : Int64) (uu2 : Int64) (ww3 : Value) (ww4 : Value) (ww6 : Value) (uu5 : Int64) (P : St24 Z h0 n0 c1 c2 c3 c4 c5 kc1 kc2 kc3 kc4 uu1 uu2 ww3 ww4 ww6) :
    MC l Z y5 prog_95_method_3_code 6 none ws rm_1_0_0_13 #[(.ref c2), (.long uu5), ww6, .null] h0 (Qm720 Z n0 c1 c2 c3 c4 c5 kc1 kc2 kc3 kc4 uu1 uu2 ww3 ww4 ww6 uu5) := by
  obtain ⟨E_c1, V_c1, O_c1, E_c2, F_c2_t, F_c2_r, F_c2_c, F_c2_s, F_c2_o, V_c3, E_c4, V_c4, O_c4, E_c5, V_c5, O_c5, g_c1, lt_c1_c2, lt_c2_c3, lt_c3_c4, lt_c4_c5, rf_ww3, rw_ww3, rf_ww4, rw_ww4, rf_ww6, rw_ww6⟩ := id P
  refine own_met (plainFor_of_name pn5) fun p e s m below meth c s₁ X0 hx hZ Y hml hO hnm hlk hret e0 => f_cast (f' := mkF m 0 #[(rv c2), (.val (.long uu5)), .second, (.val ww6), (.val .null), .unset] []) (by rcases ref_cases rf_ww6 with q | ⟨_, q⟩ <;> (rw [q]; first | (simp [entryFrame, mkF, argsToLocals, Value.category]; done) | rfl)) ?_
  have N0 := Fr.nil n0
  refine aN X0 hx (hb Y d5_0) rfl rfl <| gF X0 hx hZ hO (w31 hw) Via.refl e0 F_c2_s (hb Y d5_1) fun T705 X705 e705 => ?_
  refine aN X705 hx (hb Y d5_4) rfl rfl <| gF X705 hx hZ hO (w16 hw) Via.refl e705 F_c2_t (hb Y d5_5) fun T706 X706 e706 => ?_
  refine f_len X706 hx hZ e706 V_c3 (hb Y d5_8) <| cY X706 hx (pc := 9) 22 (hb Y d5_9) <| aN X706 hx (hb Y d5_22) rfl rfl <| aN X706 hx (hb Y d5_23) rfl rfl <| gF X706 hx hZ hO (w31 hw) Via.refl e706 F_c2_s (hb Y d5_24) fun T707 X707 e707 => ?_
  refine pV X707 hx hZ hO (by rw [hml]; rfl) (w44 hw) (w45 hw) (w46 hw) (w7 hw) (w8 hw) (w47 hw) e707 E_c2 (argsL := [(.int 1)]) (rest := []) (q711 l Z a0 hw [] h0 n0 c2 c3 kc2 _ F_c2_o F_c2_t V_c3) (lenOf pd4 rfl) (hb Y d5_27) fun T708 L708 v708 X708 hQ708 => ?_
  obtain ⟨rfl, N708q, e708⟩ := hQ708
  have N708 := Fr.app N0 N708q
  refine iS X708 hx (L' := #[(rv c2), (.val (.long uu5)), .second, (.val ww6), (.val .null), (iv 0)]) (hb Y d5_30) rfl <| aN X708 hx (hb Y d5_32) rfl rfl <| gF X708 hx hZ hO (w16 hw) Via.refl e708 F_c2_t (hb Y d5_33) fun T712 X712 e712 => ?_
  refine iL X712 hx (hb Y d5_36) rfl <| lN X712 hx (hb Y d5_38) rfl <| f_lst X712 hx hZ e712 V_c3 0 (hb Y d5_39) fun T713 h713 X713 e713 W713 V713 => ?_
  have N713x := Fr.snoc X713 N708 (by omega : n0 ≤ c3)
  refine aN X713 hx (hb Y d5_40) rfl rfl ?_
  replace F_c2_r := (fo W713 F_c2_r)
  refine gF X713 hx hZ hO (w20 hw) Via.refl e713 F_c2_r (hb Y d5_41) fun T714 X714 e714 => ?_
  refine iL X714 hx (hb Y d5_44) rfl <| aN X714 hx (hb Y d5_46) rfl rf_ww6 ?_
  replace V_c4 := (vo V_c4 W713)
  replace E_c1 := (xw W713 E_c1)
  refine f_ast X714 hx hZ e714 V_c4 rfl (own_sto rw_ww6 (own_stoVA V_c4 O_c4 (Ins.self E_c1))) (own_fits rf_ww6) 0 (hb Y d5_47) fun T715 h715 X715 e715 W715 V715 => ?_
  have N715x := Fr.snoc X715 N713x (by omega : n0 ≤ c4)
  refine aN X715 hx (hb Y d5_48) rfl rfl ?_
  replace F_c2_c := (fo W715 (fo W713 F_c2_c))
  refine gF X715 hx hZ hO (w24 hw) Via.refl e715 F_c2_c (hb Y d5_49) fun T716 X716 e716 => ?_
  refine iL X716 hx (hb Y d5_52) rfl <| aA X716 hx (hb Y d5_54) rfl rfl ?_
  replace V_c5 := (vo (vo V_c5 W713) W715)
  refine f_ast X716 hx hZ e716 V_c5 rfl (Or.inl rfl) rfl 0 (hb Y d5_56) fun T717 h717 X717 e717 W717 V717 => ?_
  have N717x := Fr.snoc X717 N715x (by omega : n0 ≤ c5)
  refine aN X717 hx (hb Y d5_57) rfl rfl <| f_dup X717 hx (hb Y d5_58) rfl ?_
  replace F_c2_s := (fo W717 (fo W715 (fo W713 F_c2_s)))
  refine gF X717 hx hZ hO (w31 hw) Via.refl e717 F_c2_s (hb Y d5_59) fun T718 X718 e718 => ?_
  refine iK X718 hx (z := 1) (hb Y d5_62) <| iA X718 hx (z := 2) (hb Y d5_63) ?_
  replace E_c2 := (xw W717 (xw W715 (xw W713 E_c2)))
  refine f_putF X718 hx hZ hO (w31 hw) Via.refl e718 F_c2_s E_c2 (Or.inl (w32 hw)) (w7 hw) (ty := .int) (by decide) rfl rfl (hb Y d5_64) fun T719 h719 X719 e719 W719 => ?_
  have N719x := Fr.snoc X719 N717x (by omega : n0 ≤ c2)
  exact f_ret0 X719 hx hlk hret (hb Y d5_67) (QQ := (Qm720 Z n0 c1 c2 c3 c4 c5 kc1 kc2 kc3 kc4 uu1 uu2 ww3 ww4 ww6 uu5)) (by rw [e719]; exact ⟨rfl, N719x, (xw W719 (xw W717 (xw W715 E_c1))), (vo (vo (vo (vo V_c1 W713) W715) W717) W719), O_c1, (xw W719 E_c2), (Fld.other W719 (fo W717 (fo W715 (fo W713 F_c2_t))) (Or.inr (slot_ne (Or.inl (w17 hw)) (Or.inl (w32 hw)) (by decide) (t := (.array .long)) (t' := .int) (by decide) (by decide)))), (Fld.other W719 (fo W717 (fo W715 F_c2_r)) (Or.inr (slot_ne (Or.inl (w21 hw)) (Or.inl (w32 hw)) (by decide) (t := (.array (.array (.object "java/lang/Object")))) (t' := .int) (by decide) (by decide)))), (Fld.other W719 (fo W717 F_c2_c) (Or.inr (slot_ne (Or.inl (w25 hw)) (Or.inl (w32 hw)) (by decide) (t := (.array (.array .int))) (t' := .int) (by decide) (by decide)))), (Fld.same W719 F_c2_s), (Fld.other W719 (fo W717 (fo W715 (fo W713 F_c2_o))) (Or.inr (slot_ne (Or.inl (w49 hw)) (Or.inl (w32 hw)) (by decide) (t := .int) (t' := .int) (by decide) (by decide)))), (vo (vo (vo V713 W715) W717) W719), (xw W719 (xw W717 (xw W715 (xw W713 E_c4)))), (vo (vo V715 W717) W719), O_c4, (xw W719 (xw W717 (xw W715 (xw W713 E_c5)))), (vo V717 W719), O_c5, g_c1, lt_c1_c2, lt_c2_c3, lt_c3_c4, lt_c4_c5, rf_ww3, rw_ww3, rf_ww4, rw_ww4, rf_ww6, rw_ww6⟩) (by decide) (by decide)
theorem D2_12  (c1 : Nat) (c2 : Nat) (c3 : Nat) (c4 : Nat) (c5 : Nat) (kc1 : ClassId) (kc2 : ClassId) (kc3 : ClassId) (kc4 : ClassId) (t0 : Int32) (t1 : Int32) (t2 : Int32) (t3 : Int32) (t4 : Int32) (r0 : Value) (p0 : Int32) (p1 : Int64) (X0 : Stand p l e room_1 s m args below meth c T0 locs 5 13) (G : SG p s m meth c Z a0) (e0 : T0.heap = h0) (N0 : Fr n0 locs) (P : St21 Z h0 n0 c1 c2 c3 c4 c5 kc1 kc2 kc3 kc4 t0 t1 t2 t3 t4 r0) (hk0 : ∀ (T' : State) (locs' : List Loc), Stand p l e room_1 s m args below meth c T' locs' 5 13 → Fr n0 locs' → EndsSo p e below (LQ s n0) T' (mkF m 209 (FL p0 p1 1 2 t0 t1 t2 t3 t4 c1 c2 (iv 1) .unset .unset .unset .unset .unset) [])) :
    EndsSo p e below (LQ s n0) T0 (mkF m 150 (FL p0 p1 1 2 t0 t1 t2 t3 t4 c1 c2 .unset .unset .unset .unset .unset .unset) []) := by
  obtain ⟨hx, hZ, hw, Y, hml, hO, hlk, hret⟩ := id G
  obtain ⟨E_c1, V_c1, O_c1, E_c2, F_c2_t, F_c2_r, F_c2_c, F_c2_s, F_c2_o, V_c3, E_c4, V_c4, O_c4, E_c5, V_c5, O_c5, g_c1, lt_c1_c2, lt_c2_c3, lt_c3_c4, lt_c4_c5, ht0, ht1, ht2, ht3, ht4, rf_r0, rw_r0, rb_r0⟩ := id P
  refine iL X0 hx (hb Y at_150) rfl <| iK X0 hx (z := 1) (hb Y at_152) <| cN X0 hx (hb Y at_153) <| aA X0 hx (hb Y at_156) rfl rfl <| f_ldc2 X0 hx hZ hO (w56 hw) (hb Y at_158) <| iL X0 hx (hb Y at_161) rfl <| own_mrg X0 hx (row := c1) ht3 (pc := 163) (hb Y at_163) (hb Y at_170) (hb Y at_166) (hb Y at_167) rfl fun r3 rf_r3 rw_r3 rb_r3 => ?_
  refine f_null X0 hx (hb Y at_172) ?_
  have P688 : St22 Z h0 n0 c1 c2 c3 c4 c5 kc1 kc2 kc3 kc4 (10 : Int64) (0 : Int64) .null .null r3 := ⟨E_c1, V_c1, O_c1, E_c2, F_c2_t, F_c2_r, F_c2_c, F_c2_s, F_c2_o, V_c3, E_c4, V_c4, O_c4, E_c5, V_c5, O_c5, g_c1, lt_c1_c2, lt_c2_c3, lt_c3_c4, lt_c4_c5, rfl, (Or.inl rfl), rfl, (Or.inl rfl), rf_r3, rw_r3⟩
  refine vV X0 hx hZ hO (by rw [hml]; rfl) (w39 hw) (w40 hw) (w42 hw) (w41 hw) (w8 hw) (w43 hw) e0 E_c2 (argsL := [(.long 40), r3, .null]) (rest := []) (m658 l Z a0 hw [] h0 n0 c1 c2 c3 c4 c5 kc1 kc2 kc3 kc4 (10 : Int64) (0 : Int64) .null .null r3 (40 : Int64) P688) (lenOf pd5 rfl) (hb Y at_173) fun T673 L673 v673 X673 hQ673 => ?_
  obtain ⟨rfl, N673q, P673⟩ := hQ673
  obtain ⟨E_c1, V_c1, O_c1, E_c2, F_c2_t, F_c2_r, F_c2_c, F_c2_s, F_c2_o, V_c3, E_c4, V_c4, O_c4, E_c5, V_c5, O_c5, g_c1, lt_c1_c2, lt_c2_c3, lt_c3_c4, lt_c4_c5, _, _, _, _, _, _⟩ := id P673
  have N673 := Fr.app N0 N673q
  refine iL X673 hx (hb Y at_176) rfl <| iK X673 hx (z := 2) (hb Y at_178) <| cN X673 hx (hb Y at_179) <| aA X673 hx (hb Y at_182) rfl rfl <| f_ldc2 X673 hx hZ hO (w62 hw) (hb Y at_184) <| iL X673 hx (hb Y at_187) rfl <| own_mrg X673 hx (row := c1) ht4 (pc := 189) (hb Y at_189) (hb Y at_196) (hb Y at_192) (hb Y at_193) rfl fun r4 rf_r4 rw_r4 rb_r4 => ?_
  refine f_null X673 hx (hb Y at_198) ?_
  have P721 : St24 Z T673.heap n0 c1 c2 c3 c4 c5 kc1 kc2 kc3 kc4 (10 : Int64) (40 : Int64) .null r3 r4 := ⟨E_c1, V_c1, O_c1, E_c2, F_c2_t, F_c2_r, F_c2_c, F_c2_s, F_c2_o, V_c3, E_c4, V_c4, O_c4, E_c5, V_c5, O_c5, g_c1, lt_c1_c2, lt_c2_c3, lt_c3_c4, lt_c4_c5, rfl, (Or.inl rfl), rf_r3, rw_r3, rf_r4, rw_r4⟩
  refine vV X673 hx hZ hO (by rw [hml]; rfl) (w39 hw) (w40 hw) (w42 hw) (w41 hw) (w8 hw) (w43 hw) rfl E_c2 (argsL := [(.long 50), r4, .null]) (rest := []) (m720 l Z a0 hw [] T673.heap n0 c1 c2 c3 c4 c5 kc1 kc2 kc3 kc4 (10 : Int64) (40 : Int64) .null r3 r4 (50 : Int64) P721) (lenOf pd5 rfl) (hb Y at_199) fun T689 L689 v689 X689 hQ689 => ?_
  obtain ⟨rfl, N689q, P689⟩ := hQ689
  obtain ⟨E_c1, V_c1, O_c1, E_c2, F_c2_t, F_c2_r, F_c2_c, F_c2_s, F_c2_o, V_c3, E_c4, V_c4, O_c4, E_c5, V_c5, O_c5, g_c1, lt_c1_c2, lt_c2_c3, lt_c3_c4, lt_c4_c5, _, _, _, _, _, _⟩ := id P689
  have N689 := Fr.app N673 N689q
  refine aA X689 hx (hb Y at_202) rfl rfl <| vV X689 hx hZ hO (by rw [hml]; rfl) (w33 hw) (w34 hw) (w36 hw) (w35 hw) (w8 hw) (w37 hw) rfl E_c2 (argsL := []) (rest := []) (q136 l Z a0 hw [] T689.heap n0 c2 F_c2_s) (lenOf pd3 rfl) (hb Y at_204) fun T722 L722 v722 X722 hQ722 => ?_
  obtain ⟨rfl, N722q, e722⟩ := hQ722
  have N722 := Fr.app N689 N722q
  refine iS X722 hx (L' := (FL p0 p1 1 2 t0 t1 t2 t3 t4 c1 c2 (iv 1) .unset .unset .unset .unset .unset)) (hb Y at_207) rfl ?_
  exact hk0 _ _ X722 N722
theorem F2_11  {cells slots : Nat} (p0 : Int32) (p1 : Int64) (t0 : Int32) (t1 : Int32) (t2 : Int32) (t3 : Int32) (t4 : Int32) (c1 : Nat) (c2 : Nat) (X0 : Stand p l e room_1 s m args below meth c T0 locs cells slots) (G : SG p s m meth c Z a0) (N0 : Fr n0 locs) (hK : cells ≤ room_1.cells) (hN : slots ≤ room_1.slots) :
    EndsSo p e below (LQ s n0) T0 (mkF m 303 (FL p0 p1 1 2 t0 t1 t2 t3 t4 c1 c2 (iv 1) (iv 1) (iv t0) (.val (.long 10)) .second .unset) []) := by
  obtain ⟨hx, hZ, hw, Y, hml, hO, hlk, hret⟩ := id G
  refine iN X0 hx (hb Y at_303) rfl <| iL X0 hx (hb Y at_304) rfl <| iB X0 hx (z := 0) (hb Y at_306) <| iS X0 hx (L' := (FL p0 p1 1 2 t0 t1 t2 t3 t4 c1 c2 (iv 1) (iv 1) (iv 0) (.val (.long 10)) .second .unset)) (hb Y at_307) rfl <| iL X0 hx (hb Y at_309) rfl <| iL X0 hx (hb Y at_311) rfl <| iA X0 hx (z := 2) (hb Y at_313) <| iS X0 hx (L' := (FL p0 p1 1 2 t0 t1 t2 t3 t4 c1 c2 (iv 1) (iv 1) (iv 0) (iv 2) .unset .unset)) (hb Y at_314) rfl <| iL X0 hx (hb Y at_316) rfl <| iK X0 hx (z := 1) (hb Y at_318) <| cY X0 hx (pc := 319) 348 (hb Y at_319) <| iL X0 hx (hb Y at_348) rfl <| iS X0 hx (L' := (FL p0 p1 1 2 t0 t1 t2 t3 t4 c1 c2 (iv 1) (iv 1) (iv 0) (iv 2) (iv t3) .unset)) (hb Y at_350) rfl <| iL X0 hx (hb Y at_352) rfl <| iK X0 hx (z := 1) (hb Y at_354) <| cY X0 hx (pc := 355) 369 (hb Y at_355) <| iK X0 hx (z := 1) (hb Y at_369) <| gT X0 hx (pc := 370) 374 (hb Y at_370) <| iS X0 hx (L' := (FL p0 p1 1 2 t0 t1 t2 t3 t4 c1 c2 (iv 1) (iv 1) (iv 0) (iv 2) (iv t3) (iv 1))) (hb Y at_374) rfl <| iL X0 hx (hb Y at_376) rfl <| iL X0 hx (hb Y at_378) rfl <| cN X0 hx (hb Y at_380) <| iK X0 hx (z := 1) (hb Y at_383) <| gT X0 hx (pc := 384) 388 (hb Y at_384) ?_
  exact f_ret X0 hx hlk (i := .ireturn) hret rfl (Or.inl ⟨rfl, Or.inr (Or.inl rfl), _, rfl⟩) (hb Y at_388) (QQ := (QL n0)) ⟨rfl, N0⟩ hK hN
theorem C1_10  (c1 : Nat) (c2 : Nat) (c3 : Nat) (c4 : Nat) (c5 : Nat) (kc1 : ClassId) (kc2 : ClassId) (kc3 : ClassId) (kc4 : ClassId) (r0 : Value) (t0 : Int32) (t1 : Int32) (t2 : Int32) (t3 : Int32) (t4 : Int32) (mm : Int32) (p1 : Int64) (p0 : Int32) (X0 : Stand p l e room_1 s m args below meth c T0 locs 5 13) (G : SG p s m meth c Z a0) (e0 : T0.heap = h0) (N0 : Fr n0 locs) (P : St18 Z h0 n0 c1 c2 c3 c4 c5 kc1 kc2 kc3 kc4 r0 t0 t1 t2 t3 t4 mm p1) :
    EndsSo p e below (LQ s n0) T0 (mkF m 143 (FL p0 p1 1 mm t0 t1 t2 t3 t4 c1 c2 .unset .unset .unset .unset .unset .unset) []) := by
  obtain ⟨hx, hZ, hw, Y, hml, hO, hlk, hret⟩ := id G
  obtain ⟨E_c1, V_c1, O_c1, E_c2, F_c2_t, F_c2_r, F_c2_c, F_c2_s, F_c2_o, V_c3, E_c4, V_c4, O_c4, E_c5, V_c5, O_c5, g_c1, lt_c1_c2, lt_c2_c3, lt_c3_c4, lt_c4_c5, ht0, ht1, ht2, ht3, ht4, rf_r0, rw_r0, rb_r0, hm3, nv_r0, z10, tv0⟩ := id P
  refine aA X0 hx (hb Y at_143) rfl rfl <| lN X0 hx (hb Y at_145) rfl ?_
  have P622 : St18 Z h0 n0 c1 c2 c3 c4 c5 kc1 kc2 kc3 kc4 r0 t0 t1 t2 t3 t4 mm p1 := ⟨E_c1, V_c1, O_c1, E_c2, F_c2_t, F_c2_r, F_c2_c, F_c2_s, F_c2_o, V_c3, E_c4, V_c4, O_c4, E_c5, V_c5, O_c5, g_c1, lt_c1_c2, lt_c2_c3, lt_c3_c4, lt_c4_c5, ht0, ht1, ht2, ht3, ht4, rf_r0, rw_r0, rb_r0, hm3, nv_r0, z10, tv0⟩
  refine vV X0 hx hZ hO (by rw [hml]; rfl) (w26 hw) (w27 hw) (w29 hw) (w28 hw) (w8 hw) (w30 hw) e0 E_c2 (argsL := [(.long p1)]) (rest := []) (m621 l Z a0 hw [] h0 n0 c1 c2 c3 c4 c5 kc1 kc2 kc3 kc4 r0 t0 t1 t2 t3 t4 mm p1 P622) (lenOf pd2 rfl) (hb Y at_146) fun T518 L518 v518 X518 hQ518 => ?_
  obtain ⟨rfl, N518q, P518⟩ := hQ518
  obtain ⟨E_c1, V_c1, O_c1, E_c2, F_c2_t, F_c2_r, F_c2_c, F_c2_s, F_c2_o, V_c3, E_c4, V_c4, O_c4, E_c5, V_c5, O_c5, g_c1, lt_c1_c2, lt_c2_c3, lt_c3_c4, lt_c4_c5, ht0, ht1, ht2, ht3, ht4, rf_r0, rw_r0, rb_r0, hm3, nv_r0, z10, tv0⟩ := id P518
  have N518 := Fr.app N0 N518q
  refine f_pop X518 hx (hb Y at_149) rfl ?_
  rcases id hm3 with rfl | rfl | rfl
  · have P626 : St21 Z T518.heap n0 c1 c2 c3 c4 c5 kc1 kc2 kc3 kc4 t0 t1 t2 t3 t4 r0 := ⟨E_c1, V_c1, O_c1, E_c2, F_c2_t, F_c2_r, F_c2_c, F_c2_s, F_c2_o, V_c3, E_c4, V_c4, O_c4, E_c5, V_c5, O_c5, g_c1, lt_c1_c2, lt_c2_c3, lt_c3_c4, lt_c4_c5, ht0, ht1, ht2, ht3, ht4, rf_r0, rw_r0, rb_r0⟩
    exact D0_10 c1 c2 c3 c4 c5 kc1 kc2 kc3 kc4 t0 t1 t2 t3 t4 r0 p0 p1 X518 G rfl N518 P626 (fun T' locs' X' N' => F1_3 p0 p1 (0 : Int32) (0 : Int32) t0 t1 t2 t3 t4 c1 c2 X' G z10 tv0 (F2_8 p0 p1 t0 t1 t2 t3 t4 c1 c2 X' G N' (by decide) (by decide)))
  · have P672 : St21 Z T518.heap n0 c1 c2 c3 c4 c5 kc1 kc2 kc3 kc4 t0 t1 t2 t3 t4 r0 := ⟨E_c1, V_c1, O_c1, E_c2, F_c2_t, F_c2_r, F_c2_c, F_c2_s, F_c2_o, V_c3, E_c4, V_c4, O_c4, E_c5, V_c5, O_c5, g_c1, lt_c1_c2, lt_c2_c3, lt_c3_c4, lt_c4_c5, ht0, ht1, ht2, ht3, ht4, rf_r0, rw_r0, rb_r0⟩
    exact D1_11 c1 c2 c3 c4 c5 kc1 kc2 kc3 kc4 t0 t1 t2 t3 t4 r0 p0 p1 X518 G rfl N518 P672 (fun tv3 T' locs' X' N' => F1_3 p0 p1 (1 : Int32) (0 : Int32) t0 t1 t2 t3 t4 c1 c2 X' G z10 tv0 (F2_9 p0 p1 t0 t1 t2 t3 t4 c1 c2 X' G tv3 N' (by decide) (by decide))) (fun tv3 T' locs' X' N' => F1_3 p0 p1 (1 : Int32) (1 : Int32) t0 t1 t2 t3 t4 c1 c2 X' G z10 tv0 (F2_10 p0 p1 t0 t1 t2 t3 t4 c1 c2 X' G tv3 N' (by decide) (by decide)))
  · have P724 : St21 Z T518.heap n0 c1 c2 c3 c4 c5 kc1 kc2 kc3 kc4 t0 t1 t2 t3 t4 r0 := ⟨E_c1, V_c1, O_c1, E_c2, F_c2_t, F_c2_r, F_c2_c, F_c2_s, F_c2_o, V_c3, E_c4, V_c4, O_c4, E_c5, V_c5, O_c5, g_c1, lt_c1_c2, lt_c2_c3, lt_c3_c4, lt_c4_c5, ht0, ht1, ht2, ht3, ht4, rf_r0, rw_r0, rb_r0⟩
    exact D2_12 c1 c2 c3 c4 c5 kc1 kc2 kc3 kc4 t0 t1 t2 t3 t4 r0 p0 p1 X518 G rfl N518 P724 (fun T' locs' X' N' => F1_3 p0 p1 (2 : Int32) (1 : Int32) t0 t1 t2 t3 t4 c1 c2 X' G z10 tv0 (F2_11 p0 p1 t0 t1 t2 t3 t4 c1 c2 X' G N' (by decide) (by decide)))
theorem law_1 (l : Launch) (Z : State) (a0 : Array Value) (hw : HW a0 Z) (ws : List Jvm.Cond) (h0 : Heap) (n0 : Nat) (Z0 : n0 ≤ h0.size) (p0 : Int32) (p1 : Int64) (mm : Int32) (hn1 : (((p0.toUInt32 >>> ((5 : Int32) &&& 31).toUInt32).toInt32) &&& (3 : Int32)) = (1 : Int32)) (hmm : ((((p0.toUInt32 >>> ((7 : Int32) &&& 31).toUInt32).toInt32) &&& (255 : Int32)) % (3 : Int32)) = mm) (hm3 : mm = (0 : Int32) ∨ mm = (1 : Int32) ∨ mm = (2 : Int32)) :
    MC l Z x code maxLocals ret ws room_1 #[(.int p0), (.long p1)] h0 (QL n0) := by
  refine own_met (plainFor_of_name pn12) fun p e s m below meth c s₁ X0 hx hZ Y hml hO hnm hlk hret e0 => f_cast (f' := mkF m 0 #[(iv p0), (.val (.long p1)), .second, .unset, .unset, .unset, .unset, .unset, .unset, .unset, .unset, .unset, .unset, .unset, .unset, .unset, .unset, .unset] []) (by first | (simp [entryFrame, mkF, argsToLocals, Value.category, maxLocals]; done) | rfl) ?_
  have N0 := Fr.nil n0
  have G : SG p s m meth c Z a0 := ⟨hx, hZ, hw, Y, hml, hO, hlk, hret⟩
  refine iN X0 hx (hb Y at_0) rfl <| iK X0 hx (z := 5) (hb Y at_1) <| f_iushr X0 hx (z := ((p0.toUInt32 >>> ((5 : Int32) &&& 31).toUInt32).toInt32)) (hb Y at_2) (q := rfl) <| iK X0 hx (z := 3) (hb Y at_3) <| f_iand X0 hx (z := 1) (hb Y at_4) (q := hn1) <| sN X0 hx (L' := #[(iv p0), (.val (.long p1)), .second, (iv 1), .unset, .unset, .unset, .unset, .unset, .unset, .unset, .unset, .unset, .unset, .unset, .unset, .unset, .unset]) (hb Y at_5) rfl <| iN X0 hx (hb Y at_6) rfl <| f_bipush X0 hx (z := 7) (hb Y at_7) <| f_iushr X0 hx (z := ((p0.toUInt32 >>> ((7 : Int32) &&& 31).toUInt32).toInt32)) (hb Y at_9) (q := rfl) <| f_sipush X0 hx (z := 255) (hb Y at_10) <| f_iand X0 hx (z := (((p0.toUInt32 >>> ((7 : Int32) &&& 31).toUInt32).toInt32) &&& (255 : Int32))) (hb Y at_13) (q := rfl) <| iK X0 hx (z := 3) (hb Y at_14) <| f_irem X0 hx (z := mm) (hb Y at_15) (by decide) (q := hmm) <| iS X0 hx (L' := #[(iv p0), (.val (.long p1)), .second, (iv 1), (iv mm), .unset, .unset, .unset, .unset, .unset, .unset, .unset, .unset, .unset, .unset, .unset, .unset, .unset]) (hb Y at_16) rfl <| iN X0 hx (hb Y at_18) rfl <| iK X0 hx (z := 0) (hb Y at_19) <| f_stat X0 hx hZ hO (by rw [hml]; rfl) (w0 hw) (w1 hw) (w2 hw) (w3 hw) e0 (argsL := [(.int p0), (.int 0)]) (rest := []) (own_bit l Z a0 hw [] h0 n0 p0 (0 : Int32)) (lenOf pd0 rfl) (hb Y at_20) fun T139 L139 v139 X139 hQ139 => ?_
  obtain ⟨t0, rfl, ht0, N139q, e139⟩ := hQ139
  have N139 := Fr.app N0 N139q
  refine iS X139 hx (L' := #[(iv p0), (.val (.long p1)), .second, (iv 1), (iv mm), (iv t0), .unset, .unset, .unset, .unset, .unset, .unset, .unset, .unset, .unset, .unset, .unset, .unset]) (hb Y at_23) rfl <| iN X139 hx (hb Y at_25) rfl <| iK X139 hx (z := 1) (hb Y at_26) <| f_stat X139 hx hZ hO (by rw [hml]; rfl) (w0 hw) (w1 hw) (w2 hw) (w3 hw) e139 (argsL := [(.int p0), (.int 1)]) (rest := []) (own_bit l Z a0 hw [] h0 n0 p0 (1 : Int32)) (lenOf pd0 rfl) (hb Y at_27) fun T140 L140 v140 X140 hQ140 => ?_
  obtain ⟨t1, rfl, ht1, N140q, e140⟩ := hQ140
  have N140 := Fr.app N139 N140q
  refine iS X140 hx (L' := #[(iv p0), (.val (.long p1)), .second, (iv 1), (iv mm), (iv t0), (iv t1), .unset, .unset, .unset, .unset, .unset, .unset, .unset, .unset, .unset, .unset, .unset]) (hb Y at_30) rfl <| iN X140 hx (hb Y at_32) rfl <| iK X140 hx (z := 2) (hb Y at_33) <| f_stat X140 hx hZ hO (by rw [hml]; rfl) (w0 hw) (w1 hw) (w2 hw) (w3 hw) e140 (argsL := [(.int p0), (.int 2)]) (rest := []) (own_bit l Z a0 hw [] h0 n0 p0 (2 : Int32)) (lenOf pd0 rfl) (hb Y at_34) fun T141 L141 v141 X141 hQ141 => ?_
  obtain ⟨t2, rfl, ht2, N141q, e141⟩ := hQ141
  have N141 := Fr.app N140 N141q
  refine iS X141 hx (L' := #[(iv p0), (.val (.long p1)), .second, (iv 1), (iv mm), (iv t0), (iv t1), (iv t2), .unset, .unset, .unset, .unset, .unset, .unset, .unset, .unset, .unset, .unset]) (hb Y at_37) rfl <| iN X141 hx (hb Y at_39) rfl <| iK X141 hx (z := 3) (hb Y at_40) <| f_stat X141 hx hZ hO (by rw [hml]; rfl) (w0 hw) (w1 hw) (w2 hw) (w3 hw) e141 (argsL := [(.int p0), (.int 3)]) (rest := []) (own_bit l Z a0 hw [] h0 n0 p0 (3 : Int32)) (lenOf pd0 rfl) (hb Y at_41) fun T142 L142 v142 X142 hQ142 => ?_
  obtain ⟨t3, rfl, ht3, N142q, e142⟩ := hQ142
  have N142 := Fr.app N141 N142q
  refine iS X142 hx (L' := #[(iv p0), (.val (.long p1)), .second, (iv 1), (iv mm), (iv t0), (iv t1), (iv t2), (iv t3), .unset, .unset, .unset, .unset, .unset, .unset, .unset, .unset, .unset]) (hb Y at_44) rfl <| iN X142 hx (hb Y at_46) rfl <| iK X142 hx (z := 4) (hb Y at_47) <| f_stat X142 hx hZ hO (by rw [hml]; rfl) (w0 hw) (w1 hw) (w2 hw) (w3 hw) e142 (argsL := [(.int p0), (.int 4)]) (rest := []) (own_bit l Z a0 hw [] h0 n0 p0 (4 : Int32)) (lenOf pd0 rfl) (hb Y at_48) fun T143 L143 v143 X143 hQ143 => ?_
  obtain ⟨t4, rfl, ht4, N143q, e143⟩ := hQ143
  have N143 := Fr.app N142 N143q
  refine iS X143 hx (L' := #[(iv p0), (.val (.long p1)), .second, (iv 1), (iv mm), (iv t0), (iv t1), (iv t2), (iv t3), (iv t4), .unset, .unset, .unset, .unset, .unset, .unset, .unset, .unset]) (hb Y at_51) rfl <| iK X143 hx (z := 1) (hb Y at_53) <| f_newR X143 hx hZ hO (w4 hw) (w5 hw) e143 (hb Y at_54) 1 (ad := "[Ljava/lang/Object;") (by decide +kernel) fun T144 h144 kb144 b144 g144 X144 e144 E144 V_b144 E_b144 O_b144 => ?_
  have g_b144 : n0 ≤ b144 := by omega
  refine f_astore X144 hx (L' := #[(iv p0), (.val (.long p1)), .second, (iv 1), (iv mm), (iv t0), (iv t1), (iv t2), (iv t3), (iv t4), (rv b144), .unset, .unset, .unset, .unset, .unset, .unset, .unset]) (hb Y at_57) rfl rfl <| f_newO X144 hx hZ hO (w6 hw) (w7 hw) (w8 hw) e144 (hb Y at_59) fun T145 h145 b145 g145 X145 e145 E145 A145 D145 => ?_
  have lt_b144_b145 : b144 < b145 := by have := own_ltE E_b144; omega
  have F_b145_t : fT Z h145 b145 .null := D145 (Or.inl (w17 hw)) (ty := (.array .long)) (by decide)
  have F_b145_r : fR Z h145 b145 .null := D145 (Or.inl (w21 hw)) (ty := (.array (.array (.object "java/lang/Object")))) (by decide)
  have F_b145_c : fC Z h145 b145 .null := D145 (Or.inl (w25 hw)) (ty := (.array (.array .int))) (by decide)
  have F_b145_s : fS Z h145 b145 (.int 0) := D145 (Or.inl (w32 hw)) (ty := .int) (by decide)
  have F_b145_o : fO Z h145 b145 (.int 0) := D145 (Or.inl (w49 hw)) (ty := .int) (by decide)
  have E_b145 := A145
  refine f_dup X145 hx (hb Y at_62) rfl ?_
  have P160 : St0 Z h145 n0 b144 b145 kb144 := ⟨(xe E145 E_b144), (ve V_b144 E145), O_b144, E_b145, F_b145_t, F_b145_r, F_b145_c, F_b145_s, F_b145_o, g_b144, lt_b144_b145⟩
  refine f_spec X145 hx hZ hO (by rw [hml]; rfl) rfl (w9 hw) (w10 hw) (w8 hw) (w11 hw) e145 (a := b145) (argsL := []) (rest := [(.ref b145)]) (m23 l Z a0 hw [] h145 n0 b144 b145 kb144 P160) (lenOf pd1 rfl) (hb Y at_63) fun T146 L146 v146 X146 hQ146 => ?_
  obtain ⟨rfl, N146q, kb154, b155, kb156, b157, kb158, b159, P146⟩ := hQ146
  obtain ⟨E_b144, V_b144, O_b144, E_b145, F_b145_t, F_b145_r, F_b145_c, F_b145_s, F_b145_o, V_b155, E_b157, V_b157, O_b157, E_b159, V_b159, O_b159, g_b144, lt_b144_b145, lt_b145_b155, lt_b155_b157, lt_b157_b159⟩ := id P146
  have N146 := Fr.app N143 N146q
  refine f_astore X146 hx (L' := (FL p0 p1 1 mm t0 t1 t2 t3 t4 b144 b145 .unset .unset .unset .unset .unset .unset)) (hb Y at_66) rfl rfl <| iN X146 hx (hb Y at_68) rfl <| iK X146 hx (z := 1) (hb Y at_69) <| cN X146 hx (hb Y at_70) <| aA X146 hx (hb Y at_73) rfl rfl <| f_ldc2 X146 hx hZ hO (w38 hw) (hb Y at_75) <| iL X146 hx (hb Y at_78) rfl <| own_mrg X146 hx (row := b144) ht0 (pc := 80) (hb Y at_80) (hb Y at_87) (hb Y at_83) (hb Y at_84) rfl fun r0 rf_r0 rw_r0 rb_r0 => ?_
  refine f_null X146 hx (hb Y at_89) ?_
  have P176 : St4 Z T146.heap n0 b144 b145 b155 b157 b159 kb144 kb154 kb156 kb158 (0 : Int64) (0 : Int64) .null .null r0 := ⟨E_b144, V_b144, O_b144, E_b145, F_b145_t, F_b145_r, F_b145_c, F_b145_s, F_b145_o, V_b155, E_b157, V_b157, O_b157, E_b159, V_b159, O_b159, g_b144, lt_b144_b145, lt_b145_b155, lt_b155_b157, lt_b157_b159, rfl, (Or.inl rfl), rfl, (Or.inl rfl), rf_r0, rw_r0⟩
  refine vV X146 hx hZ hO (by rw [hml]; rfl) (w39 hw) (w40 hw) (w42 hw) (w41 hw) (w8 hw) (w43 hw) rfl E_b145 (argsL := [(.long 10), r0, .null]) (rest := []) (m70 l Z a0 hw [] T146.heap n0 b144 b145 b155 b157 b159 kb144 kb154 kb156 kb158 (0 : Int64) (0 : Int64) .null .null r0 (10 : Int64) P176) (lenOf pd5 rfl) (hb Y at_90) fun T161 L161 v161 X161 hQ161 => ?_
  obtain ⟨rfl, N161q, P161⟩ := hQ161
  obtain ⟨E_b144, V_b144, O_b144, E_b145, F_b145_t, F_b145_r, F_b145_c, F_b145_s, F_b145_o, V_b155, E_b157, V_b157, O_b157, E_b159, V_b159, O_b159, g_b144, lt_b144_b145, lt_b145_b155, lt_b155_b157, lt_b157_b159, _, _, _, _, _, _⟩ := id P161
  have N161 := Fr.app N146 N161q
  refine iN X161 hx (hb Y at_93) rfl <| iK X161 hx (z := 2) (hb Y at_94) <| cY X161 hx (pc := 95) 118 (hb Y at_95) <| iN X161 hx (hb Y at_118) rfl <| iK X161 hx (z := 3) (hb Y at_119) <| cY X161 hx (pc := 120) 143 (hb Y at_120) ?_
  rcases own_reg1 p1 with z10 | z10
  · have P464 : St8 Z T161.heap n0 b144 b145 b155 b157 b159 kb144 kb154 kb156 kb158 r0 t0 t1 t2 t3 t4 mm p1 := ⟨E_b144, V_b144, O_b144, E_b145, F_b145_t, F_b145_r, F_b145_c, F_b145_s, F_b145_o, V_b155, E_b157, V_b157, O_b157, E_b159, V_b159, O_b159, g_b144, lt_b144_b145, lt_b145_b155, lt_b155_b157, lt_b157_b159, ht0, ht1, ht2, ht3, ht4, rf_r0, rw_r0, rb_r0, hm3, z10⟩
    exact C1_4 b144 b145 b155 b157 b159 kb144 kb154 kb156 kb158 r0 t0 t1 t2 t3 t4 mm p1 p0 X161 G rfl N161 P464
  · rcases id rb_r0 with ⟨tv0, nv_r0⟩ | ⟨tv0, nv_r0⟩
    · have P517 : St17 Z T161.heap n0 b144 b145 b155 b157 b159 kb144 kb154 kb156 kb158 r0 t0 t1 t2 t3 t4 mm p1 := ⟨E_b144, V_b144, O_b144, E_b145, F_b145_t, F_b145_r, F_b145_c, F_b145_s, F_b145_o, V_b155, E_b157, V_b157, O_b157, E_b159, V_b159, O_b159, g_b144, lt_b144_b145, lt_b145_b155, lt_b155_b157, lt_b157_b159, ht0, ht1, ht2, ht3, ht4, rf_r0, rw_r0, rb_r0, hm3, nv_r0, z10, tv0⟩
      exact C1_9 b144 b145 b155 b157 b159 kb144 kb154 kb156 kb158 r0 t0 t1 t2 t3 t4 mm p1 p0 X161 G rfl N161 P517
    · have P725 : St18 Z T161.heap n0 b144 b145 b155 b157 b159 kb144 kb154 kb156 kb158 r0 t0 t1 t2 t3 t4 mm p1 := ⟨E_b144, V_b144, O_b144, E_b145, F_b145_t, F_b145_r, F_b145_c, F_b145_s, F_b145_o, V_b155, E_b157, V_b157, O_b157, E_b159, V_b159, O_b159, g_b144, lt_b144_b145, lt_b145_b155, lt_b155_b157, lt_b157_b159, ht0, ht1, ht2, ht3, ht4, rf_r0, rw_r0, rb_r0, hm3, nv_r0, z10, tv0⟩
      exact C1_10 b144 b145 b155 b157 b159 kb144 kb154 kb156 kb158 r0 t0 t1 t2 t3 t4 mm p1 p0 X161 G rfl N161 P725
def St26 (Z : State) (h : Heap) (n0 : Nat) (c1 : Nat) (c2 : Nat) (c3 : Nat) (c4 : Nat) (c5 : Nat) (kc1 : ClassId) (kc2 : ClassId) (kc3 : ClassId) (kc4 : ClassId) (r0 : Value) (r1 : Value) (t0 : Int32) (t1 : Int32) (t2 : Int32) (t3 : Int32) (t4 : Int32) (mm : Int32) (p1 : Int64) : Prop :=
  xO Z h c1 ∧
  Arv Z h c1 kc1 (.object "java/lang/Object") 1 [.null] .null ∧
  Ovr Z kc1 "java/lang/Object" ∧
  Exa Z h c2 cV ∧
  fT Z h c2 (.ref c3) ∧
  fR Z h c2 (.ref c4) ∧
  fC Z h c2 (.ref c5) ∧
  fS Z h c2 (.int 2) ∧
  fO Z h c2 (.int 0) ∧
  aL Z h c3 kc2 2 [(.long 10), (.long 20)] ∧
  xR Z h c4 ∧
  aR Z h c4 kc3 2 [r0, r1] ∧
  oR Z kc3 ∧
  xC Z h c5 ∧
  aC Z h c5 kc4 2 [.null, .null] ∧
  oC Z kc4 ∧
  n0 ≤ c1 ∧
  c1 < c2 ∧
  c2 < c3 ∧
  c3 < c4 ∧
  c4 < c5 ∧
  (t0 = (0 : Int32) ∨ t0 = (1 : Int32)) ∧
  (t1 = (0 : Int32) ∨ t1 = (1 : Int32)) ∧
  (t2 = (0 : Int32) ∨ t2 = (1 : Int32)) ∧
  (t3 = (0 : Int32) ∨ t3 = (1 : Int32)) ∧
  (t4 = (0 : Int32) ∨ t4 = (1 : Int32)) ∧
  r0.isRef = true ∧
  (r0 = .null ∨ r0 = .ref c1) ∧
  ((t0 = (0 : Int32) ∧ r0 = .ref c1) ∨ (t0 = (1 : Int32) ∧ r0 = .null)) ∧
  r1.isRef = true ∧
  (r1 = .null ∨ r1 = .ref c1) ∧
  ((t1 = (0 : Int32) ∧ r1 = .ref c1) ∨ (t1 = (1 : Int32) ∧ r1 = .null)) ∧
  (mm = (0 : Int32) ∨ mm = (1 : Int32) ∨ mm = (2 : Int32)) ∧
  p1 < (10 : Int64) ∧
  p1 < (20 : Int64)
def Qm846 (Z : State) (n0 : Nat) (c1 : Nat) (c2 : Nat) (c3 : Nat) (c4 : Nat) (c5 : Nat) (kc1 : ClassId) (kc2 : ClassId) (kc3 : ClassId) (kc4 : ClassId) (uu1 : Int64) (uu2 : Int64) (ww3 : Value) (ww4 : Value) (v : Option Value) (h : Heap) (L : List Loc) : Prop := v = none ∧ Fr n0 L ∧ St13 Z h n0 c1 c2 c3 c4 c5 kc1 kc2 kc3 kc4 uu1 uu2 ww3 ww4
theorem m846 (l : Launch) (Z : State) (a0 : Array Value) (hw : HW a0 Z) (ws : List Jvm.Cond) (h0 : Heap) (n0 : Nat) (c1 : Nat) (c2 : Nat) (c3 : Nat) (c4 : Nat) (c5 : Nat) (kc1 : ClassId) (kc2 : ClassId) (kc3 : ClassId) (kc4 : ClassId) (uu1 : Int64) (uu2 : Int64) (ww3 : Value) (ww4 : Value) (P : St13 Z h0 n0 c1 c2 c3 c4 c5 kc1 kc2 kc3 kc4 uu1 uu2 ww3 ww4) :
    MC l Z y7 prog_95_method_9_code 3 none ws rm_1_0_0_14 #[(.ref c2), (.int 0)] h0 (Qm846 Z n0 c1 c2 c3 c4 c5 kc1 kc2 kc3 kc4 uu1 uu2 ww3 ww4) := by
  obtain ⟨E_c1, V_c1, O_c1, E_c2, F_c2_t, F_c2_r, F_c2_c, F_c2_s, F_c2_o, V_c3, E_c4, V_c4, O_c4, E_c5, V_c5, O_c5, g_c1, lt_c1_c2, lt_c2_c3, lt_c3_c4, lt_c4_c5, rf_ww3, rw_ww3, rf_ww4, rw_ww4⟩ := id P
  refine own_met (plainFor_of_name pn7) fun p e s m below meth c s₁ X0 hx hZ Y hml hO hnm hlk hret e0 => f_cast (f' := mkF m 0 #[(rv c2), (iv 0), .unset] []) (by first | (simp [entryFrame, mkF, argsToLocals, Value.category]; done) | rfl) ?_
  have N0 := Fr.nil n0
  refine iK X0 hx (z := 0) (hb Y d7_0) <| sN X0 hx (L' := #[(rv c2), (iv 0), (iv 0)]) (hb Y d7_1) rfl <| iN X0 hx (hb Y d7_2) rfl <| iN X0 hx (hb Y d7_3) rfl <| cY X0 hx (pc := 4) 35 (hb Y d7_4) <| aN X0 hx (hb Y d7_35) rfl rfl <| aN X0 hx (hb Y d7_36) rfl rfl <| iN X0 hx (hb Y d7_37) rfl <| pV X0 hx hZ hO (by rw [hml]; rfl) (w44 hw) (w45 hw) (w46 hw) (w7 hw) (w8 hw) (w47 hw) e0 E_c2 (argsL := [(.int 0)]) (rest := [(.ref c2)]) (q61 l Z a0 hw [] h0 n0 c2 c3 kc2 _ F_c2_o F_c2_t V_c3) (lenOf pd4 rfl) (hb Y d7_38) fun T839 L839 v839 X839 hQ839 => ?_
  obtain ⟨rfl, N839q, e839⟩ := hQ839
  have N839 := Fr.app N0 N839q
  refine f_putF X839 hx hZ hO (w48 hw) Via.refl e839 F_c2_o E_c2 (Or.inl (w49 hw)) (w7 hw) (ty := .int) (by decide) rfl rfl (hb Y d7_41) fun T842 h842 X842 e842 W842 => ?_
  have N842x := Fr.snoc X842 N839 (by omega : n0 ≤ c2)
  refine aN X842 hx (hb Y d7_44) rfl rfl <| f_dup X842 hx (hb Y d7_45) rfl ?_
  replace F_c2_s := (Fld.other W842 F_c2_s (Or.inr (slot_ne (Or.inl (w32 hw)) (Or.inl (w49 hw)) (by decide) (t := .int) (t' := .int) (by decide) (by decide))))
  refine gF X842 hx hZ hO (w31 hw) Via.refl e842 F_c2_s (hb Y d7_46) fun T843 X843 e843 => ?_
  refine iN X843 hx (hb Y d7_49) rfl <| iB X843 hx (z := 2) (hb Y d7_50) ?_
  replace E_c2 := (xw W842 E_c2)
  refine f_putF X843 hx hZ hO (w31 hw) Via.refl e843 F_c2_s E_c2 (Or.inl (w32 hw)) (w7 hw) (ty := .int) (by decide) rfl rfl (hb Y d7_51) fun T844 h844 X844 e844 W844 => ?_
  have N844x := Fr.snoc X844 N842x (by omega : n0 ≤ c2)
  refine aN X844 hx (hb Y d7_54) rfl rfl ?_
  replace F_c2_t := (Fld.other W844 (Fld.other W842 F_c2_t (Or.inr (slot_ne (Or.inl (w17 hw)) (Or.inl (w49 hw)) (by decide) (t := (.array .long)) (t' := .int) (by decide) (by decide)))) (Or.inr (slot_ne (Or.inl (w17 hw)) (Or.inl (w32 hw)) (by decide) (t := (.array .long)) (t' := .int) (by decide) (by decide))))
  refine gF X844 hx hZ hO (w16 hw) Via.refl e844 F_c2_t (hb Y d7_55) fun T845 X845 e845 => ?_
  replace V_c3 := (vo (vo V_c3 W842) W844)
  refine f_len X845 hx hZ e845 V_c3 (hb Y d7_58) <| iK X845 hx (z := 2) (hb Y d7_59) <| cY X845 hx (pc := 60) 94 (hb Y d7_60) ?_
  exact f_ret0 X845 hx hlk hret (hb Y d7_94) (QQ := (Qm846 Z n0 c1 c2 c3 c4 c5 kc1 kc2 kc3 kc4 uu1 uu2 ww3 ww4)) (by rw [e845]; exact ⟨rfl, N844x, (xw W844 (xw W842 E_c1)), (vo (vo V_c1 W842) W844), O_c1, (xw W844 E_c2), F_c2_t, (Fld.other W844 (Fld.other W842 F_c2_r (Or.inr (slot_ne (Or.inl (w21 hw)) (Or.inl (w49 hw)) (by decide) (t := (.array (.array (.object "java/lang/Object")))) (t' := .int) (by decide) (by decide)))) (Or.inr (slot_ne (Or.inl (w21 hw)) (Or.inl (w32 hw)) (by decide) (t := (.array (.array (.object "java/lang/Object")))) (t' := .int) (by decide) (by decide)))), (Fld.other W844 (Fld.other W842 F_c2_c (Or.inr (slot_ne (Or.inl (w25 hw)) (Or.inl (w49 hw)) (by decide) (t := (.array (.array .int))) (t' := .int) (by decide) (by decide)))) (Or.inr (slot_ne (Or.inl (w25 hw)) (Or.inl (w32 hw)) (by decide) (t := (.array (.array .int))) (t' := .int) (by decide) (by decide)))), (Fld.same W844 F_c2_s), (Fld.other W844 (Fld.same W842 F_c2_o) (Or.inr (slot_ne (Or.inl (w49 hw)) (Or.inl (w32 hw)) (by decide) (t := .int) (t' := .int) (by decide) (by decide)))), V_c3, (xw W844 (xw W842 E_c4)), (vo (vo V_c4 W842) W844), O_c4, (xw W844 (xw W842 E_c5)), (vo (vo V_c5 W842) W844), O_c5, g_c1, lt_c1_c2, lt_c2_c3, lt_c3_c4, lt_c4_c5, rf_ww3, rw_ww3, rf_ww4, rw_ww4⟩) (by decide) (by decide)
def Qm849 (Z : State) (n0 : Nat) (c1 : Nat) (c2 : Nat) (c3 : Nat) (c4 : Nat) (c5 : Nat) (kc1 : ClassId) (kc2 : ClassId) (kc3 : ClassId) (kc4 : ClassId) (r0 : Value) (r1 : Value) (t0 : Int32) (t1 : Int32) (t2 : Int32) (t3 : Int32) (t4 : Int32) (mm : Int32) (p1 : Int64) (v : Option Value) (h : Heap) (L : List Loc) : Prop := v = some (.int 0) ∧ Fr n0 L ∧ St26 Z h n0 c1 c2 c3 c4 c5 kc1 kc2 kc3 kc4 r0 r1 t0 t1 t2 t3 t4 mm p1
theorem m849 (l : Launch) (Z : State) (a0 : Array Value) (hw : HW a0 Z) (ws : List Jvm.Cond) (h0 : Heap) (n0 : Nat) (c1 : Nat) (c2 : Nat) (c3 : Nat) (c4 : Nat) (c5 : Nat) (kc1 : ClassId) (kc2 : ClassId) (kc3 : ClassId) (kc4 : ClassId) (r0 : Value) (r1 : Value) (t0 : Int32) (t1 : Int32) (t2 : Int32) (t3 : Int32) (t4 : Int32) (mm : Int32) (p1 : Int64) (P : St26 Z h0 n0 c1 c2 c3 c4 c5 kc1 kc2 kc3 kc4 r0 r1 t0 t1 t2 t3 t4 mm p1) :
    MC l Z y3 prog_95_method_5_code 5 (some .boolean) ws rm_2_0_0_28 #[(.ref c2), (.long p1)] h0 (Qm849 Z n0 c1 c2 c3 c4 c5 kc1 kc2 kc3 kc4 r0 r1 t0 t1 t2 t3 t4 mm p1) := by
  obtain ⟨E_c1, V_c1, O_c1, E_c2, F_c2_t, F_c2_r, F_c2_c, F_c2_s, F_c2_o, V_c3, E_c4, V_c4, O_c4, E_c5, V_c5, O_c5, g_c1, lt_c1_c2, lt_c2_c3, lt_c3_c4, lt_c4_c5, ht0, ht1, ht2, ht3, ht4, rf_r0, rw_r0, rb_r0, rf_r1, rw_r1, rb_r1, hm3, z10, z20⟩ := id P
  refine own_met (plainFor_of_name pn3) fun p e s m below meth c s₁ X0 hx hZ Y hml hO hnm hlk hret e0 => f_cast (f' := mkF m 0 #[(rv c2), (.val (.long p1)), .second, .unset, .unset] []) (by first | (simp [entryFrame, mkF, argsToLocals, Value.category]; done) | rfl) ?_
  have N0 := Fr.nil n0
  refine aN X0 hx (hb Y d3_0) rfl rfl <| gF X0 hx hZ hO (w31 hw) Via.refl e0 F_c2_s (hb Y d3_1) fun T821 X821 e821 => ?_
  refine fY X821 hx (pc := 4) 9 (hb Y d3_4) <| iK X821 hx (z := 0) (hb Y d3_9) <| sN X821 hx (L' := #[(rv c2), (.val (.long p1)), .second, (iv 0), .unset]) (hb Y d3_10) rfl <| iN X821 hx (hb Y d3_11) rfl <| iK X821 hx (z := 1) (hb Y d3_12) <| iA X821 hx (z := 1) (hb Y d3_13) <| aN X821 hx (hb Y d3_14) rfl rfl <| gF X821 hx hZ hO (w31 hw) Via.refl e821 F_c2_s (hb Y d3_15) fun T822 X822 e822 => ?_
  refine cN X822 hx (hb Y d3_18) <| aN X822 hx (hb Y d3_21) rfl rfl <| gF X822 hx hZ hO (w16 hw) Via.refl e822 F_c2_t (hb Y d3_22) fun T823 X823 e823 => ?_
  refine aN X823 hx (hb Y d3_25) rfl rfl <| iN X823 hx (hb Y d3_26) rfl <| iK X823 hx (z := 1) (hb Y d3_27) <| iA X823 hx (z := 1) (hb Y d3_28) <| pV X823 hx hZ hO (by rw [hml]; rfl) (w44 hw) (w45 hw) (w46 hw) (w7 hw) (w8 hw) (w47 hw) e823 E_c2 (argsL := [(.int 1)]) (rest := [(.ref c3)]) (q123 l Z a0 hw [] h0 n0 c2 c3 kc2 _ F_c2_o F_c2_t V_c3) (lenOf pd4 rfl) (hb Y d3_29) fun T824 L824 v824 X824 hQ824 => ?_
  obtain ⟨rfl, N824q, e824⟩ := hQ824
  have N824 := Fr.app N0 N824q
  refine f_lald X824 hx hZ e824 V_c3 (v := (.long 20)) rfl (hb Y d3_32) <| lN X824 hx (hb Y d3_33) rfl <| lC X824 hx (z := (lcmpW (20 : Int64) p1)) (hb Y d3_34) (q := rfl) <| fY X824 hx (pc := 35) 44 (hb Y d3_35) (hc := (own_gtT z20)) <| aN X824 hx (hb Y d3_44) rfl rfl <| iN X824 hx (hb Y d3_45) rfl <| pV X824 hx hZ hO (by rw [hml]; rfl) (w44 hw) (w45 hw) (w46 hw) (w7 hw) (w8 hw) (w47 hw) e824 E_c2 (argsL := [(.int 0)]) (rest := []) (q61 l Z a0 hw [] h0 n0 c2 c3 kc2 _ F_c2_o F_c2_t V_c3) (lenOf pd4 rfl) (hb Y d3_46) fun T827 L827 v827 X827 hQ827 => ?_
  obtain ⟨rfl, N827q, e827⟩ := hQ827
  have N827 := Fr.app N824 N827q
  refine iS X827 hx (L' := #[(rv c2), (.val (.long p1)), .second, (iv 0), (iv 0)]) (hb Y d3_49) rfl <| aN X827 hx (hb Y d3_51) rfl rfl <| gF X827 hx hZ hO (w16 hw) Via.refl e827 F_c2_t (hb Y d3_52) fun T830 X830 e830 => ?_
  refine iL X830 hx (hb Y d3_55) rfl <| f_lald X830 hx hZ e830 V_c3 (v := (.long 10)) rfl (hb Y d3_57) <| lN X830 hx (hb Y d3_58) rfl <| lC X830 hx (z := (lcmpW (10 : Int64) p1)) (hb Y d3_59) (q := rfl) <| fY X830 hx (pc := 60) 76 (hb Y d3_60) (hc := (own_gtT z10)) <| aN X830 hx (hb Y d3_76) rfl rfl <| iN X830 hx (hb Y d3_77) rfl ?_
  have P847 : St13 Z h0 n0 c1 c2 c3 c4 c5 kc1 kc2 kc3 kc4 (10 : Int64) (20 : Int64) r0 r1 := ⟨E_c1, V_c1, O_c1, E_c2, F_c2_t, F_c2_r, F_c2_c, F_c2_s, F_c2_o, V_c3, E_c4, V_c4, O_c4, E_c5, V_c5, O_c5, g_c1, lt_c1_c2, lt_c2_c3, lt_c3_c4, lt_c4_c5, rf_r0, rw_r0, rf_r1, rw_r1⟩
  refine pV X830 hx hZ hO (by rw [hml]; rfl) (w52 hw) (w53 hw) (w54 hw) (w7 hw) (w8 hw) (w55 hw) e830 E_c2 (argsL := [(.int 0)]) (rest := []) (m846 l Z a0 hw [] h0 n0 c1 c2 c3 c4 c5 kc1 kc2 kc3 kc4 (10 : Int64) (20 : Int64) r0 r1 P847) (lenOf pd6 rfl) (hb Y d3_78) fun T831 L831 v831 X831 hQ831 => ?_
  obtain ⟨rfl, N831q, P831⟩ := hQ831
  obtain ⟨E_c1, V_c1, O_c1, E_c2, F_c2_t, F_c2_r, F_c2_c, F_c2_s, F_c2_o, V_c3, E_c4, V_c4, O_c4, E_c5, V_c5, O_c5, g_c1, lt_c1_c2, lt_c2_c3, lt_c3_c4, lt_c4_c5, _, _, _, _⟩ := id P831
  have N831 := Fr.app N827 N831q
  refine aN X831 hx (hb Y d3_81) rfl rfl <| gF X831 hx hZ hO (w31 hw) Via.refl rfl F_c2_s (hb Y d3_82) fun T848 X848 e848 => ?_
  refine fY X848 hx (pc := 85) 92 (hb Y d3_85) <| iK X848 hx (z := 0) (hb Y d3_92) ?_
  exact f_ret X848 hx hlk (i := .ireturn) hret rfl (Or.inl ⟨rfl, Or.inr (Or.inl rfl), _, rfl⟩) (hb Y d3_93) (QQ := (Qm849 Z n0 c1 c2 c3 c4 c5 kc1 kc2 kc3 kc4 r0 r1 t0 t1 t2 t3 t4 mm p1)) (by rw [e848]; exact ⟨rfl, N831, E_c1, V_c1, O_c1, E_c2, F_c2_t, F_c2_r, F_c2_c, F_c2_s, F_c2_o, V_c3, E_c4, V_c4, O_c4, E_c5, V_c5, O_c5, g_c1, lt_c1_c2, lt_c2_c3, lt_c3_c4, lt_c4_c5, ht0, ht1, ht2, ht3, ht4, rf_r0, rw_r0, rb_r0, rf_r1, rw_r1, rb_r1, hm3, z10, z20⟩) (by decide) (by decide)
def St27 (Z : State) (h : Heap) (n0 : Nat) (c1 : Nat) (c2 : Nat) (c3 : Nat) (c4 : Nat) (c5 : Nat) (kc1 : ClassId) (kc2 : ClassId) (kc3 : ClassId) (kc4 : ClassId) (r0 : Value) (r1 : Value) (t0 : Int32) (t1 : Int32) (t2 : Int32) (t3 : Int32) (t4 : Int32) : Prop :=
  xO Z h c1 ∧
  Arv Z h c1 kc1 (.object "java/lang/Object") 1 [.null] .null ∧
  Ovr Z kc1 "java/lang/Object" ∧
  Exa Z h c2 cV ∧
  fT Z h c2 (.ref c3) ∧
  fR Z h c2 (.ref c4) ∧
  fC Z h c2 (.ref c5) ∧
  fS Z h c2 (.int 2) ∧
  fO Z h c2 (.int 0) ∧
  aL Z h c3 kc2 2 [(.long 10), (.long 20)] ∧
  xR Z h c4 ∧
  aR Z h c4 kc3 2 [r0, r1] ∧
  oR Z kc3 ∧
  xC Z h c5 ∧
  aC Z h c5 kc4 2 [.null, .null] ∧
  oC Z kc4 ∧
  n0 ≤ c1 ∧
  c1 < c2 ∧
  c2 < c3 ∧
  c3 < c4 ∧
  c4 < c5 ∧
  (t0 = (0 : Int32) ∨ t0 = (1 : Int32)) ∧
  (t1 = (0 : Int32) ∨ t1 = (1 : Int32)) ∧
  (t2 = (0 : Int32) ∨ t2 = (1 : Int32)) ∧
  (t3 = (0 : Int32) ∨ t3 = (1 : Int32)) ∧
  (t4 = (0 : Int32) ∨ t4 = (1 : Int32)) ∧
  r0.isRef = true ∧
  (r0 = .null ∨ r0 = .ref c1) ∧
  ((t0 = (0 : Int32) ∧ r0 = .ref c1) ∨ (t0 = (1 : Int32) ∧ r0 = .null)) ∧
  r1.isRef = true ∧
  (r1 = .null ∨ r1 = .ref c1) ∧
  ((t1 = (0 : Int32) ∧ r1 = .ref c1) ∨ (t1 = (1 : Int32) ∧ r1 = .null))
theorem D0_14  (c1 : Nat) (c2 : Nat) (c3 : Nat) (c4 : Nat) (c5 : Nat) (kc1 : ClassId) (kc2 : ClassId) (kc3 : ClassId) (kc4 : ClassId) (r0 : Value) (r1 : Value) (t0 : Int32) (t1 : Int32) (t2 : Int32) (t3 : Int32) (t4 : Int32) (p0 : Int32) (p1 : Int64) (X0 : Stand p l e room_1 s m args below meth c T0 locs 5 13) (G : SG p s m meth c Z a0) (e0 : T0.heap = h0) (N0 : Fr n0 locs) (P : St27 Z h0 n0 c1 c2 c3 c4 c5 kc1 kc2 kc3 kc4 r0 r1 t0 t1 t2 t3 t4) (hk0 : ∀ (T' : State) (locs' : List Loc), Stand p l e room_1 s m args below meth c T' locs' 5 13 → Fr n0 locs' → EndsSo p e below (LQ s n0) T' (mkF m 209 (FL p0 p1 2 0 t0 t1 t2 t3 t4 c1 c2 (iv 1) .unset .unset .unset .unset .unset) [])) :
    EndsSo p e below (LQ s n0) T0 (mkF m 150 (FL p0 p1 2 0 t0 t1 t2 t3 t4 c1 c2 .unset .unset .unset .unset .unset .unset) []) := by
  obtain ⟨hx, hZ, hw, Y, hml, hO, hlk, hret⟩ := id G
  obtain ⟨E_c1, V_c1, O_c1, E_c2, F_c2_t, F_c2_r, F_c2_c, F_c2_s, F_c2_o, V_c3, E_c4, V_c4, O_c4, E_c5, V_c5, O_c5, g_c1, lt_c1_c2, lt_c2_c3, lt_c3_c4, lt_c4_c5, ht0, ht1, ht2, ht3, ht4, rf_r0, rw_r0, rb_r0, rf_r1, rw_r1, rb_r1⟩ := id P
  refine iL X0 hx (hb Y at_150) rfl <| iK X0 hx (z := 1) (hb Y at_152) <| cY X0 hx (pc := 153) 176 (hb Y at_153) <| iL X0 hx (hb Y at_176) rfl <| iK X0 hx (z := 2) (hb Y at_178) <| cY X0 hx (pc := 179) 202 (hb Y at_179) <| aA X0 hx (hb Y at_202) rfl rfl <| vV X0 hx hZ hO (by rw [hml]; rfl) (w33 hw) (w34 hw) (w36 hw) (w35 hw) (w8 hw) (w37 hw) e0 E_c2 (argsL := []) (rest := []) (q136 l Z a0 hw [] h0 n0 c2 F_c2_s) (lenOf pd3 rfl) (hb Y at_204) fun T851 L851 v851 X851 hQ851 => ?_
  obtain ⟨rfl, N851q, e851⟩ := hQ851
  have N851 := Fr.app N0 N851q
  refine iS X851 hx (L' := (FL p0 p1 2 0 t0 t1 t2 t3 t4 c1 c2 (iv 1) .unset .unset .unset .unset .unset)) (hb Y at_207) rfl ?_
  exact hk0 _ _ X851 N851
theorem F1_4  {cells slots : Nat} (p0 : Int32) (p1 : Int64) (mm : Int32) (gg : Int32) (t0 : Int32) (t1 : Int32) (t2 : Int32) (t3 : Int32) (t4 : Int32) (c1 : Nat) (c2 : Nat) (X0 : Stand p l e room_1 s m args below meth c T0 locs cells slots) (G : SG p s m meth c Z a0) (z10 : p1 < (10 : Int64)) (z20 : p1 < (20 : Int64)) (h : EndsSo p e below (LQ s n0) T0 (mkF m 303 (FL p0 p1 2 mm t0 t1 t2 t3 t4 c1 c2 (iv gg) (iv 0) (iv t0) (.val (.long 10)) .second .unset) [])) :
    EndsSo p e below (LQ s n0) T0 (mkF m 209 (FL p0 p1 2 mm t0 t1 t2 t3 t4 c1 c2 (iv gg) .unset .unset .unset .unset .unset) []) := by
  obtain ⟨hx, hZ, hw, Y, hml, hO, hlk, hret⟩ := id G
  refine iK X0 hx (z := 0) (hb Y at_209) <| iS X0 hx (L' := (FL p0 p1 2 mm t0 t1 t2 t3 t4 c1 c2 (iv gg) (iv 0) .unset .unset .unset .unset)) (hb Y at_210) rfl <| iN X0 hx (hb Y at_212) rfl <| iK X0 hx (z := 2) (hb Y at_213) <| cN X0 hx (hb Y at_214) <| lN X0 hx (hb Y at_217) rfl <| f_ldc2 X0 hx hZ hO (w51 hw) (hb Y at_218) <| lC X0 hx (z := (lcmpW p1 (20 : Int64))) (hb Y at_221) (q := rfl) <| fY X0 hx (pc := 222) 228 (hb Y at_222) (hc := (own_ltT z20)) <| iN X0 hx (hb Y at_228) rfl <| iK X0 hx (z := 3) (hb Y at_229) <| cY X0 hx (pc := 230) 244 (hb Y at_230) <| iN X0 hx (hb Y at_244) rfl <| iK X0 hx (z := 1) (hb Y at_245) <| cN X0 hx (hb Y at_246) <| iL X0 hx (hb Y at_249) rfl <| fN X0 hx (hb Y at_251) <| iL X0 hx (hb Y at_254) rfl <| gT X0 hx (pc := 256) 272 (hb Y at_256) <| iS X0 hx (L' := (FL p0 p1 2 mm t0 t1 t2 t3 t4 c1 c2 (iv gg) (iv 0) (iv t0) .unset .unset .unset)) (hb Y at_272) rfl <| f_ldc2 X0 hx hZ hO (w38 hw) (hb Y at_274) <| iL X0 hx (hb Y at_277) rfl <| iK X0 hx (z := 1) (hb Y at_279) <| iA X0 hx (z := 1) (hb Y at_280) <| f_i2l X0 hx (z := 1) (hb Y at_281) <| f_lmul X0 hx (z := 10) (hb Y at_282) <| f_lstore X0 hx (L' := (FL p0 p1 2 mm t0 t1 t2 t3 t4 c1 c2 (iv gg) (iv 0) (iv t0) (.val (.long 10)) .second .unset)) (hb Y at_283) rfl <| f_lload X0 hx (hb Y at_285) rfl <| lN X0 hx (hb Y at_287) rfl <| lC X0 hx (z := (lcmpW (10 : Int64) p1)) (hb Y at_288) (q := rfl) <| fY X0 hx (pc := 289) 303 (hb Y at_289) (hc := (own_gtT z10)) ?_
  exact h
theorem F2_12  {cells slots : Nat} (p0 : Int32) (p1 : Int64) (t0 : Int32) (t1 : Int32) (t2 : Int32) (t3 : Int32) (t4 : Int32) (c1 : Nat) (c2 : Nat) (X0 : Stand p l e room_1 s m args below meth c T0 locs cells slots) (G : SG p s m meth c Z a0) (N0 : Fr n0 locs) (hK : cells ≤ room_1.cells) (hN : slots ≤ room_1.slots) :
    EndsSo p e below (LQ s n0) T0 (mkF m 303 (FL p0 p1 2 0 t0 t1 t2 t3 t4 c1 c2 (iv 1) (iv 0) (iv t0) (.val (.long 10)) .second .unset) []) := by
  obtain ⟨hx, hZ, hw, Y, hml, hO, hlk, hret⟩ := id G
  refine iN X0 hx (hb Y at_303) rfl <| iL X0 hx (hb Y at_304) rfl <| iB X0 hx (z := 2) (hb Y at_306) <| iS X0 hx (L' := (FL p0 p1 2 0 t0 t1 t2 t3 t4 c1 c2 (iv 1) (iv 0) (iv 2) (.val (.long 10)) .second .unset)) (hb Y at_307) rfl <| iL X0 hx (hb Y at_309) rfl <| iL X0 hx (hb Y at_311) rfl <| iA X0 hx (z := 2) (hb Y at_313) <| iS X0 hx (L' := (FL p0 p1 2 0 t0 t1 t2 t3 t4 c1 c2 (iv 1) (iv 0) (iv 2) (iv 2) .unset .unset)) (hb Y at_314) rfl <| iL X0 hx (hb Y at_316) rfl <| iK X0 hx (z := 1) (hb Y at_318) <| cY X0 hx (pc := 319) 348 (hb Y at_319) <| iL X0 hx (hb Y at_348) rfl <| iS X0 hx (L' := (FL p0 p1 2 0 t0 t1 t2 t3 t4 c1 c2 (iv 1) (iv 0) (iv 2) (iv 2) (iv t3) .unset)) (hb Y at_350) rfl <| iL X0 hx (hb Y at_352) rfl <| iK X0 hx (z := 1) (hb Y at_354) <| cY X0 hx (pc := 355) 369 (hb Y at_355) <| iK X0 hx (z := 1) (hb Y at_369) <| gT X0 hx (pc := 370) 374 (hb Y at_370) <| iS X0 hx (L' := (FL p0 p1 2 0 t0 t1 t2 t3 t4 c1 c2 (iv 1) (iv 0) (iv 2) (iv 2) (iv t3) (iv 1))) (hb Y at_374) rfl <| iL X0 hx (hb Y at_376) rfl <| iL X0 hx (hb Y at_378) rfl <| cN X0 hx (hb Y at_380) <| iK X0 hx (z := 1) (hb Y at_383) <| gT X0 hx (pc := 384) 388 (hb Y at_384) ?_
  exact f_ret X0 hx hlk (i := .ireturn) hret rfl (Or.inl ⟨rfl, Or.inr (Or.inl rfl), _, rfl⟩) (hb Y at_388) (QQ := (QL n0)) ⟨rfl, N0⟩ hK hN
theorem D1_15  (c1 : Nat) (c2 : Nat) (c3 : Nat) (c4 : Nat) (c5 : Nat) (kc1 : ClassId) (kc2 : ClassId) (kc3 : ClassId) (kc4 : ClassId) (r0 : Value) (r1 : Value) (t0 : Int32) (t1 : Int32) (t2 : Int32) (t3 : Int32) (t4 : Int32) (p0 : Int32) (p1 : Int64) (X0 : Stand p l e room_1 s m args below meth c T0 locs 5 13) (G : SG p s m meth c Z a0) (e0 : T0.heap = h0) (N0 : Fr n0 locs) (P : St27 Z h0 n0 c1 c2 c3 c4 c5 kc1 kc2 kc3 kc4 r0 r1 t0 t1 t2 t3 t4) (hk0 : ∀ (T' : State) (locs' : List Loc), Stand p l e room_1 s m args below meth c T' locs' 8 25 → Fr n0 locs' → EndsSo p e below (LQ s n0) T' (mkF m 209 (FL p0 p1 2 1 t0 t1 t2 t3 t4 c1 c2 (iv 1) .unset .unset .unset .unset .unset) [])) :
    EndsSo p e below (LQ s n0) T0 (mkF m 150 (FL p0 p1 2 1 t0 t1 t2 t3 t4 c1 c2 .unset .unset .unset .unset .unset .unset) []) := by
  obtain ⟨hx, hZ, hw, Y, hml, hO, hlk, hret⟩ := id G
  obtain ⟨E_c1, V_c1, O_c1, E_c2, F_c2_t, F_c2_r, F_c2_c, F_c2_s, F_c2_o, V_c3, E_c4, V_c4, O_c4, E_c5, V_c5, O_c5, g_c1, lt_c1_c2, lt_c2_c3, lt_c3_c4, lt_c4_c5, ht0, ht1, ht2, ht3, ht4, rf_r0, rw_r0, rb_r0, rf_r1, rw_r1, rb_r1⟩ := id P
  refine iL X0 hx (hb Y at_150) rfl <| iK X0 hx (z := 1) (hb Y at_152) <| cN X0 hx (hb Y at_153) <| aA X0 hx (hb Y at_156) rfl rfl <| f_ldc2 X0 hx hZ hO (w56 hw) (hb Y at_158) <| iL X0 hx (hb Y at_161) rfl <| own_mrg X0 hx (row := c1) ht3 (pc := 163) (hb Y at_163) (hb Y at_170) (hb Y at_166) (hb Y at_167) rfl fun r3 rf_r3 rw_r3 rb_r3 => ?_
  refine f_null X0 hx (hb Y at_172) ?_
  have P912 : St15 Z h0 n0 c1 c2 c3 c4 c5 kc1 kc2 kc3 kc4 (10 : Int64) (20 : Int64) r0 r1 r3 := ⟨E_c1, V_c1, O_c1, E_c2, F_c2_t, F_c2_r, F_c2_c, F_c2_s, F_c2_o, V_c3, E_c4, V_c4, O_c4, E_c5, V_c5, O_c5, g_c1, lt_c1_c2, lt_c2_c3, lt_c3_c4, lt_c4_c5, rf_r0, rw_r0, rf_r1, rw_r1, rf_r3, rw_r3⟩
  refine vV X0 hx hZ hO (by rw [hml]; rfl) (w39 hw) (w40 hw) (w42 hw) (w41 hw) (w8 hw) (w43 hw) e0 E_c2 (argsL := [(.long 40), r3, .null]) (rest := []) (m452 l Z a0 hw [] h0 n0 c1 c2 c3 c4 c5 kc1 kc2 kc3 kc4 (10 : Int64) (20 : Int64) r0 r1 r3 (40 : Int64) P912) (lenOf pd5 rfl) (hb Y at_173) fun T854 L854 v854 X854 hQ854 => ?_
  obtain ⟨rfl, N854q, kb906, b907, kb908, b909, kb910, b911, P854⟩ := hQ854
  obtain ⟨E_c1, V_c1, O_c1, E_c2, F_c2_t, F_c2_r, F_c2_c, F_c2_s, F_c2_o, V_c3, E_c4, V_c4, O_c4, E_c5, V_c5, O_c5, V_b907, E_b909, V_b909, O_b909, E_b911, V_b911, O_b911, g_c1, lt_c1_c2, lt_c2_c3, lt_c3_c4, lt_c4_c5, lt_c5_b907, lt_b907_b909, lt_b909_b911, _, _, _, _, _, _⟩ := id P854
  have N854 := Fr.app N0 N854q
  have lt_c2_b907 : c2 < b907 := by omega
  refine iL X854 hx (hb Y at_176) rfl <| iK X854 hx (z := 2) (hb Y at_178) <| cY X854 hx (pc := 179) 202 (hb Y at_179) <| aA X854 hx (hb Y at_202) rfl rfl <| vV X854 hx hZ hO (by rw [hml]; rfl) (w33 hw) (w34 hw) (w36 hw) (w35 hw) (w8 hw) (w37 hw) rfl E_c2 (argsL := []) (rest := []) (q462 l Z a0 hw [] T854.heap n0 c2 F_c2_s) (lenOf pd3 rfl) (hb Y at_204) fun T913 L913 v913 X913 hQ913 => ?_
  obtain ⟨rfl, N913q, e913⟩ := hQ913
  have N913 := Fr.app N854 N913q
  refine iS X913 hx (L' := (FL p0 p1 2 1 t0 t1 t2 t3 t4 c1 c2 (iv 1) .unset .unset .unset .unset .unset)) (hb Y at_207) rfl ?_
  exact hk0 _ _ X913 N913
theorem F2_13  {cells slots : Nat} (p0 : Int32) (p1 : Int64) (t0 : Int32) (t1 : Int32) (t2 : Int32) (t3 : Int32) (t4 : Int32) (c1 : Nat) (c2 : Nat) (X0 : Stand p l e room_1 s m args below meth c T0 locs cells slots) (G : SG p s m meth c Z a0) (N0 : Fr n0 locs) (hK : cells ≤ room_1.cells) (hN : slots ≤ room_1.slots) :
    EndsSo p e below (LQ s n0) T0 (mkF m 303 (FL p0 p1 2 1 t0 t1 t2 t3 t4 c1 c2 (iv 1) (iv 0) (iv t0) (.val (.long 10)) .second .unset) []) := by
  obtain ⟨hx, hZ, hw, Y, hml, hO, hlk, hret⟩ := id G
  refine iN X0 hx (hb Y at_303) rfl <| iL X0 hx (hb Y at_304) rfl <| iB X0 hx (z := 2) (hb Y at_306) <| iS X0 hx (L' := (FL p0 p1 2 1 t0 t1 t2 t3 t4 c1 c2 (iv 1) (iv 0) (iv 2) (.val (.long 10)) .second .unset)) (hb Y at_307) rfl <| iL X0 hx (hb Y at_309) rfl <| iL X0 hx (hb Y at_311) rfl <| iA X0 hx (z := 3) (hb Y at_313) <| iS X0 hx (L' := (FL p0 p1 2 1 t0 t1 t2 t3 t4 c1 c2 (iv 1) (iv 0) (iv 2) (iv 3) .unset .unset)) (hb Y at_314) rfl <| iL X0 hx (hb Y at_316) rfl <| iK X0 hx (z := 1) (hb Y at_318) <| cY X0 hx (pc := 319) 348 (hb Y at_319) <| iL X0 hx (hb Y at_348) rfl <| iS X0 hx (L' := (FL p0 p1 2 1 t0 t1 t2 t3 t4 c1 c2 (iv 1) (iv 0) (iv 2) (iv 3) (iv t3) .unset)) (hb Y at_350) rfl <| iL X0 hx (hb Y at_352) rfl <| iK X0 hx (z := 1) (hb Y at_354) <| cY X0 hx (pc := 355) 369 (hb Y at_355) <| iK X0 hx (z := 1) (hb Y at_369) <| gT X0 hx (pc := 370) 374 (hb Y at_370) <| iS X0 hx (L' := (FL p0 p1 2 1 t0 t1 t2 t3 t4 c1 c2 (iv 1) (iv 0) (iv 2) (iv 3) (iv t3) (iv 1))) (hb Y at_374) rfl <| iL X0 hx (hb Y at_376) rfl <| iL X0 hx (hb Y at_378) rfl <| cN X0 hx (hb Y at_380) <| iK X0 hx (z := 1) (hb Y at_383) <| gT X0 hx (pc := 384) 388 (hb Y at_384) ?_
  exact f_ret X0 hx hlk (i := .ireturn) hret rfl (Or.inl ⟨rfl, Or.inr (Or.inl rfl), _, rfl⟩) (hb Y at_388) (QQ := (QL n0)) ⟨rfl, N0⟩ hK hN
theorem q997 (l : Launch) (Z : State) (a0 : Array Value) (hw : HW a0 Z) (ws : List Jvm.Cond) (h0 : Heap) (n0 : Nat) (c1 : Nat) (c2 : Nat) (kc3 : ClassId) (vs_c2 : List Value) (F_c1_o : fO Z h0 c1 (.int 0)) (F_c1_t : fT Z h0 c1 (.ref c2)) (V_c2 : aL Z h0 c2 kc3 4 vs_c2) :
    MC l Z y6 prog_95_method_11_code 2 (some .int) ws rm_0_0_0_0 #[(.ref c1), (.int 3)] h0 (QV (.int 3) h0 n0) := by
  refine own_met (plainFor_of_name pn6) fun p e s m below meth c s₁ X0 hx hZ Y hml hO hnm hlk hret e0 => f_cast (f' := mkF m 0 #[(rv c1), (iv 3)] []) (by first | (simp [entryFrame, mkF, argsToLocals, Value.category]; done) | rfl) ?_
  have N0 := Fr.nil n0
  refine aN X0 hx (hb Y d6_0) rfl rfl <| gF X0 hx hZ hO (w48 hw) Via.refl e0 F_c1_o (hb Y d6_1) fun T995 X995 e995 => ?_
  refine iN X995 hx (hb Y d6_4) rfl <| iA X995 hx (z := 3) (hb Y d6_5) <| aN X995 hx (hb Y d6_6) rfl rfl <| gF X995 hx hZ hO (w16 hw) Via.refl e995 F_c1_t (hb Y d6_7) fun T996 X996 e996 => ?_
  refine f_len X996 hx hZ e996 V_c2 (hb Y d6_10) <| iK X996 hx (z := 1) (hb Y d6_11) <| iB X996 hx (z := 3) (hb Y d6_12) <| f_iand X996 hx (z := 3) (hb Y d6_13) ?_
  exact f_ret X996 hx hlk (i := .ireturn) hret rfl (Or.inl ⟨rfl, Or.inl rfl, _, rfl⟩) (hb Y d6_14) (QQ := (QV (.int 3) h0 n0)) ⟨rfl, N0, e996⟩ (by decide) (by decide)
def St28 (Z : State) (h : Heap) (n0 : Nat) (c1 : Nat) (c2 : Nat) (c3 : Nat) (c4 : Nat) (c5 : Nat) (kc1 : ClassId) (kc2 : ClassId) (kc3 : ClassId) (kc4 : ClassId) (uu1 : Int64) (uu2 : Int64) (uu3 : Int64) (uu4 : Int64) (ww5 : Value) (ww6 : Value) (ww7 : Value) (ww8 : Value) (ww10 : Value) : Prop :=
  xO Z h c1 ∧
  Arv Z h c1 kc1 (.object "java/lang/Object") 1 [.null] .null ∧
  Ovr Z kc1 "java/lang/Object" ∧
  Exa Z h c2 cV ∧
  fT Z h c2 (.ref c3) ∧
  fR Z h c2 (.ref c4) ∧
  fC Z h c2 (.ref c5) ∧
  fS Z h c2 (.int 3) ∧
  fO Z h c2 (.int 0) ∧
  aL Z h c3 kc2 4 [(.long uu1), (.long uu2), (.long uu3), (.long uu4)] ∧
  xR Z h c4 ∧
  aR Z h c4 kc3 4 [ww5, ww6, ww7, ww8] ∧
  oR Z kc3 ∧
  xC Z h c5 ∧
  aC Z h c5 kc4 4 [.null, .null, .null, .null] ∧
  oC Z kc4 ∧
  n0 ≤ c1 ∧
  c1 < c2 ∧
  c2 < c3 ∧
  c3 < c4 ∧
  c4 < c5 ∧
  ww5.isRef = true ∧
  (ww5 = .null ∨ ww5 = .ref c1) ∧
  ww6.isRef = true ∧
  (ww6 = .null ∨ ww6 = .ref c1) ∧
  ww7.isRef = true ∧
  (ww7 = .null ∨ ww7 = .ref c1) ∧
  ww8.isRef = true ∧
  (ww8 = .null ∨ ww8 = .ref c1) ∧
  ww10.isRef = true ∧
  (ww10 = .null ∨ ww10 = .ref c1)
def St29 (Z : State) (h : Heap) (n0 : Nat) (c1 : Nat) (c2 : Nat) (c3 : Nat) (c4 : Nat) (c5 : Nat) (kc1 : ClassId) (kc2 : ClassId) (kc3 : ClassId) (kc4 : ClassId) (uu1 : Int64) (uu2 : Int64) (uu3 : Int64) (uu9 : Int64) (ww5 : Value) (ww6 : Value) (ww7 : Value) (ww10 : Value) (ww8 : Value) : Prop :=
  xO Z h c1 ∧
  Arv Z h c1 kc1 (.object "java/lang/Object") 1 [.null] .null ∧
  Ovr Z kc1 "java/lang/Object" ∧
  Exa Z h c2 cV ∧
  fT Z h c2 (.ref c3) ∧
  fR Z h c2 (.ref c4) ∧
  fC Z h c2 (.ref c5) ∧
  fS Z h c2 (.int 4) ∧
  fO Z h c2 (.int 0) ∧
  aL Z h c3 kc2 4 [(.long uu1), (.long uu2), (.long uu3), (.long uu9)] ∧
  xR Z h c4 ∧
  aR Z h c4 kc3 4 [ww5, ww6, ww7, ww10] ∧
  oR Z kc3 ∧
  xC Z h c5 ∧
  aC Z h c5 kc4 4 [.null, .null, .null, .null] ∧
  oC Z kc4 ∧
  n0 ≤ c1 ∧
  c1 < c2 ∧
  c2 < c3 ∧
  c3 < c4 ∧
  c4 < c5 ∧
  ww5.isRef = true ∧
  (ww5 = .null ∨ ww5 = .ref c1) ∧
  ww6.isRef = true ∧
  (ww6 = .null ∨ ww6 = .ref c1) ∧
  ww7.isRef = true ∧
  (ww7 = .null ∨ ww7 = .ref c1) ∧
  ww8.isRef = true ∧
  (ww8 = .null ∨ ww8 = .ref c1) ∧
  ww10.isRef = true ∧
  (ww10 = .null ∨ ww10 = .ref c1)
def Qm1006 (Z : State) (n0 : Nat) (c1 : Nat) (c2 : Nat) (c3 : Nat) (c4 : Nat) (c5 : Nat) (kc1 : ClassId) (kc2 : ClassId) (kc3 : ClassId) (kc4 : ClassId) (uu1 : Int64) (uu2 : Int64) (uu3 : Int64) (uu4 : Int64) (ww5 : Value) (ww6 : Value) (ww7 : Value) (ww8 : Value) (ww10 : Value) (uu9 : Int64) (v : Option Value) (h : Heap) (L : List Loc) : Prop := v = none ∧ Fr n0 L ∧ St29 Z h n0 c1 c2 c3 c4 c5 kc1 kc2 kc3 kc4 uu1 uu2 uu3 uu9 ww5 ww6 ww7 ww10 ww8
theorem m1006 (l : Launch) (Z : State) (a0 : Array Value) (hw : HW a0 Z) (ws : List Jvm.Cond) (h0 : Heap) (n0 : Nat) (c1 : Nat) (c2 : Nat) (c3 : Nat) (c4 : Nat) (c5 : Nat) (kc1 : ClassId) (kc2 : ClassId) (kc3 : ClassId) (kc4 : ClassId) (uu1 : Int64) (uu2 : Int64) (uu3 : Int64) (uu4 : Int64) (ww5 : Value) (ww6 : Value) (ww7 : Value) (ww8 : Value) (ww10 : Value) (uu9 : Int64) (P : St28 Z h0 n0 c1 c2 c3 c4 c5 kc1 kc2 kc3 kc4 uu1 uu2 uu3 uu4 ww5 ww6 ww7 ww8 ww10) :
    MC l Z y5 prog_95_method_3_code 6 none ws rm_1_0_0_13 #[(.ref c2), (.long uu9), ww10, .null] h0 (Qm1006 Z n0 c1 c2 c3 c4 c5 kc1 kc2 kc3 kc4 uu1 uu2 uu3 uu4 ww5 ww6 ww7 ww8 ww10 uu9) := by
  obtain ⟨E_c1, V_c1, O_c1, E_c2, F_c2_t, F_c2_r, F_c2_c, F_c2_s, F_c2_o, V_c3, E_c4, V_c4, O_c4, E_c5, V_c5, O_c5, g_c1, lt_c1_c2, lt_c2_c3, lt_c3_c4, lt_c4_c5, rf_ww5, rw_ww5, rf_ww6, rw_ww6, rf_ww7, rw_ww7, rf_ww8, rw_ww8, rf_ww10, rw_ww10⟩ := id P
  refine own_met (plainFor_of_name pn5) fun p e s m below meth c s₁ X0 hx hZ Y hml hO hnm hlk hret e0 => f_cast (f' := mkF m 0 #[(rv c2), (.val (.long uu9)), .second, (.val ww10), (.val .null), .unset] []) (by rcases ref_cases rf_ww10 with q | ⟨_, q⟩ <;> (rw [q]; first | (simp [entryFrame, mkF, argsToLocals, Value.category]; done) | rfl)) ?_
  have N0 := Fr.nil n0
  refine aN X0 hx (hb Y d5_0) rfl rfl <| gF X0 hx hZ hO (w31 hw) Via.refl e0 F_c2_s (hb Y d5_1) fun T991 X991 e991 => ?_
  refine aN X991 hx (hb Y d5_4) rfl rfl <| gF X991 hx hZ hO (w16 hw) Via.refl e991 F_c2_t (hb Y d5_5) fun T992 X992 e992 => ?_
  refine f_len X992 hx hZ e992 V_c3 (hb Y d5_8) <| cY X992 hx (pc := 9) 22 (hb Y d5_9) <| aN X992 hx (hb Y d5_22) rfl rfl <| aN X992 hx (hb Y d5_23) rfl rfl <| gF X992 hx hZ hO (w31 hw) Via.refl e992 F_c2_s (hb Y d5_24) fun T993 X993 e993 => ?_
  refine pV X993 hx hZ hO (by rw [hml]; rfl) (w44 hw) (w45 hw) (w46 hw) (w7 hw) (w8 hw) (w47 hw) e993 E_c2 (argsL := [(.int 3)]) (rest := []) (q997 l Z a0 hw [] h0 n0 c2 c3 kc2 _ F_c2_o F_c2_t V_c3) (lenOf pd4 rfl) (hb Y d5_27) fun T994 L994 v994 X994 hQ994 => ?_
  obtain ⟨rfl, N994q, e994⟩ := hQ994
  have N994 := Fr.app N0 N994q
  refine iS X994 hx (L' := #[(rv c2), (.val (.long uu9)), .second, (.val ww10), (.val .null), (iv 3)]) (hb Y d5_30) rfl <| aN X994 hx (hb Y d5_32) rfl rfl <| gF X994 hx hZ hO (w16 hw) Via.refl e994 F_c2_t (hb Y d5_33) fun T998 X998 e998 => ?_
  refine iL X998 hx (hb Y d5_36) rfl <| lN X998 hx (hb Y d5_38) rfl <| f_lst X998 hx hZ e998 V_c3 3 (hb Y d5_39) fun T999 h999 X999 e999 W999 V999 => ?_
  have N999x := Fr.snoc X999 N994 (by omega : n0 ≤ c3)
  refine aN X999 hx (hb Y d5_40) rfl rfl ?_
  replace F_c2_r := (fo W999 F_c2_r)
  refine gF X999 hx hZ hO (w20 hw) Via.refl e999 F_c2_r (hb Y d5_41) fun T1000 X1000 e1000 => ?_
  refine iL X1000 hx (hb Y d5_44) rfl <| aN X1000 hx (hb Y d5_46) rfl rf_ww10 ?_
  replace V_c4 := (vo V_c4 W999)
  replace E_c1 := (xw W999 E_c1)
  refine f_ast X1000 hx hZ e1000 V_c4 rfl (own_sto rw_ww10 (own_stoVA V_c4 O_c4 (Ins.self E_c1))) (own_fits rf_ww10) 3 (hb Y d5_47) fun T1001 h1001 X1001 e1001 W1001 V1001 => ?_
  have N1001x := Fr.snoc X1001 N999x (by omega : n0 ≤ c4)
  refine aN X1001 hx (hb Y d5_48) rfl rfl ?_
  replace F_c2_c := (fo W1001 (fo W999 F_c2_c))
  refine gF X1001 hx hZ hO (w24 hw) Via.refl e1001 F_c2_c (hb Y d5_49) fun T1002 X1002 e1002 => ?_
  refine iL X1002 hx (hb Y d5_52) rfl <| aA X1002 hx (hb Y d5_54) rfl rfl ?_
  replace V_c5 := (vo (vo V_c5 W999) W1001)
  refine f_ast X1002 hx hZ e1002 V_c5 rfl (Or.inl rfl) rfl 3 (hb Y d5_56) fun T1003 h1003 X1003 e1003 W1003 V1003 => ?_
  have N1003x := Fr.snoc X1003 N1001x (by omega : n0 ≤ c5)
  refine aN X1003 hx (hb Y d5_57) rfl rfl <| f_dup X1003 hx (hb Y d5_58) rfl ?_
  replace F_c2_s := (fo W1003 (fo W1001 (fo W999 F_c2_s)))
  refine gF X1003 hx hZ hO (w31 hw) Via.refl e1003 F_c2_s (hb Y d5_59) fun T1004 X1004 e1004 => ?_
  refine iK X1004 hx (z := 1) (hb Y d5_62) <| iA X1004 hx (z := 4) (hb Y d5_63) ?_
  replace E_c2 := (xw W1003 (xw W1001 (xw W999 E_c2)))
  refine f_putF X1004 hx hZ hO (w31 hw) Via.refl e1004 F_c2_s E_c2 (Or.inl (w32 hw)) (w7 hw) (ty := .int) (by decide) rfl rfl (hb Y d5_64) fun T1005 h1005 X1005 e1005 W1005 => ?_
  have N1005x := Fr.snoc X1005 N1003x (by omega : n0 ≤ c2)
  exact f_ret0 X1005 hx hlk hret (hb Y d5_67) (QQ := (Qm1006 Z n0 c1 c2 c3 c4 c5 kc1 kc2 kc3 kc4 uu1 uu2 uu3 uu4 ww5 ww6 ww7 ww8 ww10 uu9)) (by rw [e1005]; exact ⟨rfl, N1005x, (xw W1005 (xw W1003 (xw W1001 E_c1))), (vo (vo (vo (vo V_c1 W999) W1001) W1003) W1005), O_c1, (xw W1005 E_c2), (Fld.other W1005 (fo W1003 (fo W1001 (fo W999 F_c2_t))) (Or.inr (slot_ne (Or.inl (w17 hw)) (Or.inl (w32 hw)) (by decide) (t := (.array .long)) (t' := .int) (by decide) (by decide)))), (Fld.other W1005 (fo W1003 (fo W1001 F_c2_r)) (Or.inr (slot_ne (Or.inl (w21 hw)) (Or.inl (w32 hw)) (by decide) (t := (.array (.array (.object "java/lang/Object")))) (t' := .int) (by decide) (by decide)))), (Fld.other W1005 (fo W1003 F_c2_c) (Or.inr (slot_ne (Or.inl (w25 hw)) (Or.inl (w32 hw)) (by decide) (t := (.array (.array .int))) (t' := .int) (by decide) (by decide)))), (Fld.same W1005 F_c2_s), (Fld.other W1005 (fo W1003 (fo W1001 (fo W999 F_c2_o))) (Or.inr (slot_ne (Or.inl (w49 hw)) (Or.inl (w32 hw)) (by decide) (t := .int) (t' := .int) (by decide) (by decide)))), (vo (vo (vo V999 W1001) W1003) W1005), (xw W1005 (xw W1003 (xw W1001 (xw W999 E_c4)))), (vo (vo V1001 W1003) W1005), O_c4, (xw W1005 (xw W1003 (xw W1001 (xw W999 E_c5)))), (vo V1003 W1005), O_c5, g_c1, lt_c1_c2, lt_c2_c3, lt_c3_c4, lt_c4_c5, rf_ww5, rw_ww5, rf_ww6, rw_ww6, rf_ww7, rw_ww7, rf_ww8, rw_ww8, rf_ww10, rw_ww10⟩) (by decide) (by decide)
theorem q1010 (l : Launch) (Z : State) (a0 : Array Value) (hw : HW a0 Z) (ws : List Jvm.Cond) (h0 : Heap) (n0 : Nat) (c1 : Nat) (F_c1_s : fS Z h0 c1 (.int 4)) :
    MC l Z y4 prog_95_method_7_code 1 (some .boolean) ws rm_0_0_0_0 #[(.ref c1)] h0 (QV (.int 1) h0 n0) := by
  refine own_met (plainFor_of_name pn4) fun p e s m below meth c s₁ X0 hx hZ Y hml hO hnm hlk hret e0 => f_cast (f' := mkF m 0 #[(rv c1)] []) (by first | (simp [entryFrame, mkF, argsToLocals, Value.category]; done) | rfl) ?_
  have N0 := Fr.nil n0
  refine aN X0 hx (hb Y d4_0) rfl rfl <| gF X0 hx hZ hO (w31 hw) Via.refl e0 F_c1_s (hb Y d4_1) fun T1009 X1009 e1009 => ?_
  refine iK X1009 hx (z := 1) (hb Y d4_4) <| cY X1009 hx (pc := 5) 28 (hb Y d4_5) <| iK X1009 hx (z := 1) (hb Y d4_28) <| gT X1009 hx (pc := 29) 33 (hb Y d4_29) ?_
  exact f_ret X1009 hx hlk (i := .ireturn) hret rfl (Or.inl ⟨rfl, Or.inr (Or.inl rfl), _, rfl⟩) (hb Y d4_33) (QQ := (QV (.int 1) h0 n0)) ⟨rfl, N0, e1009⟩ (by decide) (by decide)
theorem D2_16  (c1 : Nat) (c2 : Nat) (c3 : Nat) (c4 : Nat) (c5 : Nat) (kc1 : ClassId) (kc2 : ClassId) (kc3 : ClassId) (kc4 : ClassId) (r0 : Value) (r1 : Value) (t0 : Int32) (t1 : Int32) (t2 : Int32) (t3 : Int32) (t4 : Int32) (p0 : Int32) (p1 : Int64) (X0 : Stand p l e room_1 s m args below meth c T0 locs 5 13) (G : SG p s m meth c Z a0) (e0 : T0.heap = h0) (N0 : Fr n0 locs) (P : St27 Z h0 n0 c1 c2 c3 c4 c5 kc1 kc2 kc3 kc4 r0 r1 t0 t1 t2 t3 t4) (hk0 : ∀ (T' : State) (locs' : List Loc), Stand p l e room_1 s m args below meth c T' locs' 8 25 → Fr n0 locs' → EndsSo p e below (LQ s n0) T' (mkF m 209 (FL p0 p1 2 2 t0 t1 t2 t3 t4 c1 c2 (iv 1) .unset .unset .unset .unset .unset) [])) :
    EndsSo p e below (LQ s n0) T0 (mkF m 150 (FL p0 p1 2 2 t0 t1 t2 t3 t4 c1 c2 .unset .unset .unset .unset .unset .unset) []) := by
  obtain ⟨hx, hZ, hw, Y, hml, hO, hlk, hret⟩ := id G
  obtain ⟨E_c1, V_c1, O_c1, E_c2, F_c2_t, F_c2_r, F_c2_c, F_c2_s, F_c2_o, V_c3, E_c4, V_c4, O_c4, E_c5, V_c5, O_c5, g_c1, lt_c1_c2, lt_c2_c3, lt_c3_c4, lt_c4_c5, ht0, ht1, ht2, ht3, ht4, rf_r0, rw_r0, rb_r0, rf_r1, rw_r1, rb_r1⟩ := id P
  refine iL X0 hx (hb Y at_150) rfl <| iK X0 hx (z := 1) (hb Y at_152) <| cN X0 hx (hb Y at_153) <| aA X0 hx (hb Y at_156) rfl rfl <| f_ldc2 X0 hx hZ hO (w56 hw) (hb Y at_158) <| iL X0 hx (hb Y at_161) rfl <| own_mrg X0 hx (row := c1) ht3 (pc := 163) (hb Y at_163) (hb Y at_170) (hb Y at_166) (hb Y at_167) rfl fun r3 rf_r3 rw_r3 rb_r3 => ?_
  refine f_null X0 hx (hb Y at_172) ?_
  have P974 : St15 Z h0 n0 c1 c2 c3 c4 c5 kc1 kc2 kc3 kc4 (10 : Int64) (20 : Int64) r0 r1 r3 := ⟨E_c1, V_c1, O_c1, E_c2, F_c2_t, F_c2_r, F_c2_c, F_c2_s, F_c2_o, V_c3, E_c4, V_c4, O_c4, E_c5, V_c5, O_c5, g_c1, lt_c1_c2, lt_c2_c3, lt_c3_c4, lt_c4_c5, rf_r0, rw_r0, rf_r1, rw_r1, rf_r3, rw_r3⟩
  refine vV X0 hx hZ hO (by rw [hml]; rfl) (w39 hw) (w40 hw) (w42 hw) (w41 hw) (w8 hw) (w43 hw) e0 E_c2 (argsL := [(.long 40), r3, .null]) (rest := []) (m452 l Z a0 hw [] h0 n0 c1 c2 c3 c4 c5 kc1 kc2 kc3 kc4 (10 : Int64) (20 : Int64) r0 r1 r3 (40 : Int64) P974) (lenOf pd5 rfl) (hb Y at_173) fun T916 L916 v916 X916 hQ916 => ?_
  obtain ⟨rfl, N916q, kb968, b969, kb970, b971, kb972, b973, P916⟩ := hQ916
  obtain ⟨E_c1, V_c1, O_c1, E_c2, F_c2_t, F_c2_r, F_c2_c, F_c2_s, F_c2_o, V_c3, E_c4, V_c4, O_c4, E_c5, V_c5, O_c5, V_b969, E_b971, V_b971, O_b971, E_b973, V_b973, O_b973, g_c1, lt_c1_c2, lt_c2_c3, lt_c3_c4, lt_c4_c5, lt_c5_b969, lt_b969_b971, lt_b971_b973, _, _, _, _, _, _⟩ := id P916
  have N916 := Fr.app N0 N916q
  have lt_c2_b969 : c2 < b969 := by omega
  refine iL X916 hx (hb Y at_176) rfl <| iK X916 hx (z := 2) (hb Y at_178) <| cN X916 hx (hb Y at_179) <| aA X916 hx (hb Y at_182) rfl rfl <| f_ldc2 X916 hx hZ hO (w62 hw) (hb Y at_184) <| iL X916 hx (hb Y at_187) rfl <| own_mrg X916 hx (row := c1) ht4 (pc := 189) (hb Y at_189) (hb Y at_196) (hb Y at_192) (hb Y at_193) rfl fun r4 rf_r4 rw_r4 rb_r4 => ?_
  refine f_null X916 hx (hb Y at_198) ?_
  have P1007 : St28 Z T916.heap n0 c1 c2 b969 b971 b973 kc1 kb968 kb970 kb972 (10 : Int64) (20 : Int64) (40 : Int64) (0 : Int64) r0 r1 r3 .null r4 := ⟨E_c1, V_c1, O_c1, E_c2, F_c2_t, F_c2_r, F_c2_c, F_c2_s, F_c2_o, V_b969, E_b971, V_b971, O_b971, E_b973, V_b973, O_b973, g_c1, lt_c1_c2, lt_c2_b969, lt_b969_b971, lt_b971_b973, rf_r0, rw_r0, rf_r1, rw_r1, rf_r3, rw_r3, rfl, (Or.inl rfl), rf_r4, rw_r4⟩
  refine vV X916 hx hZ hO (by rw [hml]; rfl) (w39 hw) (w40 hw) (w42 hw) (w41 hw) (w8 hw) (w43 hw) rfl E_c2 (argsL := [(.long 50), r4, .null]) (rest := []) (m1006 l Z a0 hw [] T916.heap n0 c1 c2 b969 b971 b973 kc1 kb968 kb970 kb972 (10 : Int64) (20 : Int64) (40 : Int64) (0 : Int64) r0 r1 r3 .null r4 (50 : Int64) P1007) (lenOf pd5 rfl) (hb Y at_199) fun T975 L975 v975 X975 hQ975 => ?_
  obtain ⟨rfl, N975q, P975⟩ := hQ975
  obtain ⟨E_c1, V_c1, O_c1, E_c2, F_c2_t, F_c2_r, F_c2_c, F_c2_s, F_c2_o, V_b969, E_b971, V_b971, O_b971, E_b973, V_b973, O_b973, g_c1, lt_c1_c2, lt_c2_b969, lt_b969_b971, lt_b971_b973, _, _, _, _, _, _, _, _, _, _⟩ := id P975
  have N975 := Fr.app N916 N975q
  refine aA X975 hx (hb Y at_202) rfl rfl <| vV X975 hx hZ hO (by rw [hml]; rfl) (w33 hw) (w34 hw) (w36 hw) (w35 hw) (w8 hw) (w37 hw) rfl E_c2 (argsL := []) (rest := []) (q1010 l Z a0 hw [] T975.heap n0 c2 F_c2_s) (lenOf pd3 rfl) (hb Y at_204) fun T1008 L1008 v1008 X1008 hQ1008 => ?_
  obtain ⟨rfl, N1008q, e1008⟩ := hQ1008
  have N1008 := Fr.app N975 N1008q
  refine iS X1008 hx (L' := (FL p0 p1 2 2 t0 t1 t2 t3 t4 c1 c2 (iv 1) .unset .unset .unset .unset .unset)) (hb Y at_207) rfl ?_
  exact hk0 _ _ X1008 N1008
theorem F2_14  {cells slots : Nat} (p0 : Int32) (p1 : Int64) (t0 : Int32) (t1 : Int32) (t2 : Int32) (t3 : Int32) (t4 : Int32) (c1 : Nat) (c2 : Nat) (X0 : Stand p l e room_1 s m args below meth c T0 locs cells slots) (G : SG p s m meth c Z a0) (N0 : Fr n0 locs) (hK : cells ≤ room_1.cells) (hN : slots ≤ room_1.slots) :
    EndsSo p e below (LQ s n0) T0 (mkF m 303 (FL p0 p1 2 2 t0 t1 t2 t3 t4 c1 c2 (iv 1) (iv 0) (iv t0) (.val (.long 10)) .second .unset) []) := by
  obtain ⟨hx, hZ, hw, Y, hml, hO, hlk, hret⟩ := id G
  refine iN X0 hx (hb Y at_303) rfl <| iL X0 hx (hb Y at_304) rfl <| iB X0 hx (z := 2) (hb Y at_306) <| iS X0 hx (L' := (FL p0 p1 2 2 t0 t1 t2 t3 t4 c1 c2 (iv 1) (iv 0) (iv 2) (.val (.long 10)) .second .unset)) (hb Y at_307) rfl <| iL X0 hx (hb Y at_309) rfl <| iL X0 hx (hb Y at_311) rfl <| iA X0 hx (z := 4) (hb Y at_313) <| iS X0 hx (L' := (FL p0 p1 2 2 t0 t1 t2 t3 t4 c1 c2 (iv 1) (iv 0) (iv 2) (iv 4) .unset .unset)) (hb Y at_314) rfl <| iL X0 hx (hb Y at_316) rfl <| iK X0 hx (z := 1) (hb Y at_318) <| cY X0 hx (pc := 319) 348 (hb Y at_319) <| iL X0 hx (hb Y at_348) rfl <| iS X0 hx (L' := (FL p0 p1 2 2 t0 t1 t2 t3 t4 c1 c2 (iv 1) (iv 0) (iv 2) (iv 4) (iv t3) .unset)) (hb Y at_350) rfl <| iL X0 hx (hb Y at_352) rfl <| iK X0 hx (z := 1) (hb Y at_354) <| cY X0 hx (pc := 355) 369 (hb Y at_355) <| iK X0 hx (z := 1) (hb Y at_369) <| gT X0 hx (pc := 370) 374 (hb Y at_370) <| iS X0 hx (L' := (FL p0 p1 2 2 t0 t1 t2 t3 t4 c1 c2 (iv 1) (iv 0) (iv 2) (iv 4) (iv t3) (iv 1))) (hb Y at_374) rfl <| iL X0 hx (hb Y at_376) rfl <| iL X0 hx (hb Y at_378) rfl <| cN X0 hx (hb Y at_380) <| iK X0 hx (z := 1) (hb Y at_383) <| gT X0 hx (pc := 384) 388 (hb Y at_384) ?_
  exact f_ret X0 hx hlk (i := .ireturn) hret rfl (Or.inl ⟨rfl, Or.inr (Or.inl rfl), _, rfl⟩) (hb Y at_388) (QQ := (QL n0)) ⟨rfl, N0⟩ hK hN
theorem C2_14  (c1 : Nat) (c2 : Nat) (c3 : Nat) (c4 : Nat) (c5 : Nat) (kc1 : ClassId) (kc2 : ClassId) (kc3 : ClassId) (kc4 : ClassId) (r0 : Value) (r1 : Value) (t0 : Int32) (t1 : Int32) (t2 : Int32) (t3 : Int32) (t4 : Int32) (mm : Int32) (p1 : Int64) (p0 : Int32) (X0 : Stand p l e room_1 s m args below meth c T0 locs 5 13) (G : SG p s m meth c Z a0) (e0 : T0.heap = h0) (N0 : Fr n0 locs) (P : St26 Z h0 n0 c1 c2 c3 c4 c5 kc1 kc2 kc3 kc4 r0 r1 t0 t1 t2 t3 t4 mm p1) :
    EndsSo p e below (LQ s n0) T0 (mkF m 143 (FL p0 p1 2 mm t0 t1 t2 t3 t4 c1 c2 .unset .unset .unset .unset .unset .unset) []) := by
  obtain ⟨hx, hZ, hw, Y, hml, hO, hlk, hret⟩ := id G
  obtain ⟨E_c1, V_c1, O_c1, E_c2, F_c2_t, F_c2_r, F_c2_c, F_c2_s, F_c2_o, V_c3, E_c4, V_c4, O_c4, E_c5, V_c5, O_c5, g_c1, lt_c1_c2, lt_c2_c3, lt_c3_c4, lt_c4_c5, ht0, ht1, ht2, ht3, ht4, rf_r0, rw_r0, rb_r0, rf_r1, rw_r1, rb_r1, hm3, z10, z20⟩ := id P
  refine aA X0 hx (hb Y at_143) rfl rfl <| lN X0 hx (hb Y at_145) rfl ?_
  have P850 : St26 Z h0 n0 c1 c2 c3 c4 c5 kc1 kc2 kc3 kc4 r0 r1 t0 t1 t2 t3 t4 mm p1 := ⟨E_c1, V_c1, O_c1, E_c2, F_c2_t, F_c2_r, F_c2_c, F_c2_s, F_c2_o, V_c3, E_c4, V_c4, O_c4, E_c5, V_c5, O_c5, g_c1, lt_c1_c2, lt_c2_c3, lt_c3_c4, lt_c4_c5, ht0, ht1, ht2, ht3, ht4, rf_r0, rw_r0, rb_r0, rf_r1, rw_r1, rb_r1, hm3, z10, z20⟩
  refine vV X0 hx hZ hO (by rw [hml]; rfl) (w26 hw) (w27 hw) (w29 hw) (w28 hw) (w8 hw) (w30 hw) e0 E_c2 (argsL := [(.long p1)]) (rest := []) (m849 l Z a0 hw [] h0 n0 c1 c2 c3 c4 c5 kc1 kc2 kc3 kc4 r0 r1 t0 t1 t2 t3 t4 mm p1 P850) (lenOf pd2 rfl) (hb Y at_146) fun T780 L780 v780 X780 hQ780 => ?_
  obtain ⟨rfl, N780q, P780⟩ := hQ780
  obtain ⟨E_c1, V_c1, O_c1, E_c2, F_c2_t, F_c2_r, F_c2_c, F_c2_s, F_c2_o, V_c3, E_c4, V_c4, O_c4, E_c5, V_c5, O_c5, g_c1, lt_c1_c2, lt_c2_c3, lt_c3_c4, lt_c4_c5, ht0, ht1, ht2, ht3, ht4, rf_r0, rw_r0, rb_r0, rf_r1, rw_r1, rb_r1, hm3, z10, z20⟩ := id P780
  have N780 := Fr.app N0 N780q
  refine f_pop X780 hx (hb Y at_149) rfl ?_
  rcases id hm3 with rfl | rfl | rfl
  · have P853 : St27 Z T780.heap n0 c1 c2 c3 c4 c5 kc1 kc2 kc3 kc4 r0 r1 t0 t1 t2 t3 t4 := ⟨E_c1, V_c1, O_c1, E_c2, F_c2_t, F_c2_r, F_c2_c, F_c2_s, F_c2_o, V_c3, E_c4, V_c4, O_c4, E_c5, V_c5, O_c5, g_c1, lt_c1_c2, lt_c2_c3, lt_c3_c4, lt_c4_c5, ht0, ht1, ht2, ht3, ht4, rf_r0, rw_r0, rb_r0, rf_r1, rw_r1, rb_r1⟩
    exact D0_14 c1 c2 c3 c4 c5 kc1 kc2 kc3 kc4 r0 r1 t0 t1 t2 t3 t4 p0 p1 X780 G rfl N780 P853 (fun T' locs' X' N' => F1_4 p0 p1 (0 : Int32) (1 : Int32) t0 t1 t2 t3 t4 c1 c2 X' G z10 z20 (F2_12 p0 p1 t0 t1 t2 t3 t4 c1 c2 X' G N' (by decide) (by decide)))
  · have P915 : St27 Z T780.heap n0 c1 c2 c3 c4 c5 kc1 kc2 kc3 kc4 r0 r1 t0 t1 t2 t3 t4 := ⟨E_c1, V_c1, O_c1, E_c2, F_c2_t, F_c2_r, F_c2_c, F_c2_s, F_c2_o, V_c3, E_c4, V_c4, O_c4, E_c5, V_c5, O_c5, g_c1, lt_c1_c2, lt_c2_c3, lt_c3_c4, lt_c4_c5, ht0, ht1, ht2, ht3, ht4, rf_r0, rw_r0, rb_r0, rf_r1, rw_r1, rb_r1⟩
    exact D1_15 c1 c2 c3 c4 c5 kc1 kc2 kc3 kc4 r0 r1 t0 t1 t2 t3 t4 p0 p1 X780 G rfl N780 P915 (fun T' locs' X' N' => F1_4 p0 p1 (1 : Int32) (1 : Int32) t0 t1 t2 t3 t4 c1 c2 X' G z10 z20 (F2_13 p0 p1 t0 t1 t2 t3 t4 c1 c2 X' G N' (by decide) (by decide)))
  · have P1011 : St27 Z T780.heap n0 c1 c2 c3 c4 c5 kc1 kc2 kc3 kc4 r0 r1 t0 t1 t2 t3 t4 := ⟨E_c1, V_c1, O_c1, E_c2, F_c2_t, F_c2_r, F_c2_c, F_c2_s, F_c2_o, V_c3, E_c4, V_c4, O_c4, E_c5, V_c5, O_c5, g_c1, lt_c1_c2, lt_c2_c3, lt_c3_c4, lt_c4_c5, ht0, ht1, ht2, ht3, ht4, rf_r0, rw_r0, rb_r0, rf_r1, rw_r1, rb_r1⟩
    exact D2_16 c1 c2 c3 c4 c5 kc1 kc2 kc3 kc4 r0 r1 t0 t1 t2 t3 t4 p0 p1 X780 G rfl N780 P1011 (fun T' locs' X' N' => F1_4 p0 p1 (2 : Int32) (1 : Int32) t0 t1 t2 t3 t4 c1 c2 X' G z10 z20 (F2_14 p0 p1 t0 t1 t2 t3 t4 c1 c2 X' G N' (by decide) (by decide)))
def St30 (Z : State) (h : Heap) (n0 : Nat) (c1 : Nat) (c2 : Nat) (c3 : Nat) (c4 : Nat) (c5 : Nat) (kc1 : ClassId) (kc2 : ClassId) (kc3 : ClassId) (kc4 : ClassId) (r0 : Value) (r1 : Value) (t0 : Int32) (t1 : Int32) (t2 : Int32) (t3 : Int32) (t4 : Int32) (mm : Int32) (p1 : Int64) : Prop :=
  xO Z h c1 ∧
  Arv Z h c1 kc1 (.object "java/lang/Object") 1 [.null] .null ∧
  Ovr Z kc1 "java/lang/Object" ∧
  Exa Z h c2 cV ∧
  fT Z h c2 (.ref c3) ∧
  fR Z h c2 (.ref c4) ∧
  fC Z h c2 (.ref c5) ∧
  fS Z h c2 (.int 2) ∧
  fO Z h c2 (.int 0) ∧
  aL Z h c3 kc2 2 [(.long 10), (.long 20)] ∧
  xR Z h c4 ∧
  aR Z h c4 kc3 2 [r0, r1] ∧
  oR Z kc3 ∧
  xC Z h c5 ∧
  aC Z h c5 kc4 2 [.null, .null] ∧
  oC Z kc4 ∧
  n0 ≤ c1 ∧
  c1 < c2 ∧
  c2 < c3 ∧
  c3 < c4 ∧
  c4 < c5 ∧
  (t0 = (0 : Int32) ∨ t0 = (1 : Int32)) ∧
  (t1 = (0 : Int32) ∨ t1 = (1 : Int32)) ∧
  (t2 = (0 : Int32) ∨ t2 = (1 : Int32)) ∧
  (t3 = (0 : Int32) ∨ t3 = (1 : Int32)) ∧
  (t4 = (0 : Int32) ∨ t4 = (1 : Int32)) ∧
  r0.isRef = true ∧
  (r0 = .null ∨ r0 = .ref c1) ∧
  ((t0 = (0 : Int32) ∧ r0 = .ref c1) ∨ (t0 = (1 : Int32) ∧ r0 = .null)) ∧
  r1.isRef = true ∧
  (r1 = .null ∨ r1 = .ref c1) ∧
  ((t1 = (0 : Int32) ∧ r1 = .ref c1) ∨ (t1 = (1 : Int32) ∧ r1 = .null)) ∧
  (mm = (0 : Int32) ∨ mm = (1 : Int32) ∨ mm = (2 : Int32)) ∧
  r0 = .ref c1 ∧
  ¬ p1 < (10 : Int64) ∧
  p1 < (20 : Int64) ∧
  t0 = (0 : Int32)
def Qm1068 (Z : State) (n0 : Nat) (c1 : Nat) (c2 : Nat) (c3 : Nat) (c4 : Nat) (c5 : Nat) (kc1 : ClassId) (kc2 : ClassId) (kc3 : ClassId) (kc4 : ClassId) (r0 : Value) (r1 : Value) (t0 : Int32) (t1 : Int32) (t2 : Int32) (t3 : Int32) (t4 : Int32) (mm : Int32) (p1 : Int64) (v : Option Value) (h : Heap) (L : List Loc) : Prop := v = some (.int 0) ∧ Fr n0 L ∧ St30 Z h n0 c1 c2 c3 c4 c5 kc1 kc2 kc3 kc4 r0 r1 t0 t1 t2 t3 t4 mm p1
theorem m1068 (l : Launch) (Z : State) (a0 : Array Value) (hw : HW a0 Z) (ws : List Jvm.Cond) (h0 : Heap) (n0 : Nat) (c1 : Nat) (c2 : Nat) (c3 : Nat) (c4 : Nat) (c5 : Nat) (kc1 : ClassId) (kc2 : ClassId) (kc3 : ClassId) (kc4 : ClassId) (r0 : Value) (r1 : Value) (t0 : Int32) (t1 : Int32) (t2 : Int32) (t3 : Int32) (t4 : Int32) (mm : Int32) (p1 : Int64) (P : St30 Z h0 n0 c1 c2 c3 c4 c5 kc1 kc2 kc3 kc4 r0 r1 t0 t1 t2 t3 t4 mm p1) :
    MC l Z y3 prog_95_method_5_code 5 (some .boolean) ws rm_2_0_0_28 #[(.ref c2), (.long p1)] h0 (Qm1068 Z n0 c1 c2 c3 c4 c5 kc1 kc2 kc3 kc4 r0 r1 t0 t1 t2 t3 t4 mm p1) := by
  obtain ⟨E_c1, V_c1, O_c1, E_c2, F_c2_t, F_c2_r, F_c2_c, F_c2_s, F_c2_o, V_c3, E_c4, V_c4, O_c4, E_c5, V_c5, O_c5, g_c1, lt_c1_c2, lt_c2_c3, lt_c3_c4, lt_c4_c5, ht0, ht1, ht2, ht3, ht4, rf_r0, rw_r0, rb_r0, rf_r1, rw_r1, rb_r1, hm3, nv_r0, z10, z20, tv0⟩ := id P
  refine own_met (plainFor_of_name pn3) fun p e s m below meth c s₁ X0 hx hZ Y hml hO hnm hlk hret e0 => f_cast (f' := mkF m 0 #[(rv c2), (.val (.long p1)), .second, .unset, .unset] []) (by first | (simp [entryFrame, mkF, argsToLocals, Value.category]; done) | rfl) ?_
  have N0 := Fr.nil n0
  refine aN X0 hx (hb Y d3_0) rfl rfl <| gF X0 hx hZ hO (w31 hw) Via.refl e0 F_c2_s (hb Y d3_1) fun T1047 X1047 e1047 => ?_
  refine fY X1047 hx (pc := 4) 9 (hb Y d3_4) <| iK X1047 hx (z := 0) (hb Y d3_9) <| sN X1047 hx (L' := #[(rv c2), (.val (.long p1)), .second, (iv 0), .unset]) (hb Y d3_10) rfl <| iN X1047 hx (hb Y d3_11) rfl <| iK X1047 hx (z := 1) (hb Y d3_12) <| iA X1047 hx (z := 1) (hb Y d3_13) <| aN X1047 hx (hb Y d3_14) rfl rfl <| gF X1047 hx hZ hO (w31 hw) Via.refl e1047 F_c2_s (hb Y d3_15) fun T1048 X1048 e1048 => ?_
  refine cN X1048 hx (hb Y d3_18) <| aN X1048 hx (hb Y d3_21) rfl rfl <| gF X1048 hx hZ hO (w16 hw) Via.refl e1048 F_c2_t (hb Y d3_22) fun T1049 X1049 e1049 => ?_
  refine aN X1049 hx (hb Y d3_25) rfl rfl <| iN X1049 hx (hb Y d3_26) rfl <| iK X1049 hx (z := 1) (hb Y d3_27) <| iA X1049 hx (z := 1) (hb Y d3_28) <| pV X1049 hx hZ hO (by rw [hml]; rfl) (w44 hw) (w45 hw) (w46 hw) (w7 hw) (w8 hw) (w47 hw) e1049 E_c2 (argsL := [(.int 1)]) (rest := [(.ref c3)]) (q123 l Z a0 hw [] h0 n0 c2 c3 kc2 _ F_c2_o F_c2_t V_c3) (lenOf pd4 rfl) (hb Y d3_29) fun T1050 L1050 v1050 X1050 hQ1050 => ?_
  obtain ⟨rfl, N1050q, e1050⟩ := hQ1050
  have N1050 := Fr.app N0 N1050q
  refine f_lald X1050 hx hZ e1050 V_c3 (v := (.long 20)) rfl (hb Y d3_32) <| lN X1050 hx (hb Y d3_33) rfl <| lC X1050 hx (z := (lcmpW (20 : Int64) p1)) (hb Y d3_34) (q := rfl) <| fY X1050 hx (pc := 35) 44 (hb Y d3_35) (hc := (own_gtT z20)) <| aN X1050 hx (hb Y d3_44) rfl rfl <| iN X1050 hx (hb Y d3_45) rfl <| pV X1050 hx hZ hO (by rw [hml]; rfl) (w44 hw) (w45 hw) (w46 hw) (w7 hw) (w8 hw) (w47 hw) e1050 E_c2 (argsL := [(.int 0)]) (rest := []) (q61 l Z a0 hw [] h0 n0 c2 c3 kc2 _ F_c2_o F_c2_t V_c3) (lenOf pd4 rfl) (hb Y d3_46) fun T1053 L1053 v1053 X1053 hQ1053 => ?_
  obtain ⟨rfl, N1053q, e1053⟩ := hQ1053
  have N1053 := Fr.app N1050 N1053q
  refine iS X1053 hx (L' := #[(rv c2), (.val (.long p1)), .second, (iv 0), (iv 0)]) (hb Y d3_49) rfl <| aN X1053 hx (hb Y d3_51) rfl rfl <| gF X1053 hx hZ hO (w16 hw) Via.refl e1053 F_c2_t (hb Y d3_52) fun T1056 X1056 e1056 => ?_
  refine iL X1056 hx (hb Y d3_55) rfl <| f_lald X1056 hx hZ e1056 V_c3 (v := (.long 10)) rfl (hb Y d3_57) <| lN X1056 hx (hb Y d3_58) rfl <| lC X1056 hx (z := (lcmpW (10 : Int64) p1)) (hb Y d3_59) (q := rfl) <| fN X1056 hx (hb Y d3_60) (hc := (own_gtF z10)) <| aN X1056 hx (hb Y d3_63) rfl rfl <| gF X1056 hx hZ hO (w20 hw) Via.refl e1056 F_c2_r (hb Y d3_64) fun T1057 X1057 e1057 => ?_
  refine iL X1057 hx (hb Y d3_67) rfl <| f_aald X1057 hx hZ e1057 V_c4 rfl (v := r0) rfl (hb Y d3_69) <| f_ifnonnullYv X1057 hx (pc := 70) 76 nv_r0 (hb Y d3_70) <| aN X1057 hx (hb Y d3_76) rfl rfl <| iN X1057 hx (hb Y d3_77) rfl ?_
  have P1066 : St13 Z h0 n0 c1 c2 c3 c4 c5 kc1 kc2 kc3 kc4 (10 : Int64) (20 : Int64) r0 r1 := ⟨E_c1, V_c1, O_c1, E_c2, F_c2_t, F_c2_r, F_c2_c, F_c2_s, F_c2_o, V_c3, E_c4, V_c4, O_c4, E_c5, V_c5, O_c5, g_c1, lt_c1_c2, lt_c2_c3, lt_c3_c4, lt_c4_c5, rf_r0, rw_r0, rf_r1, rw_r1⟩
  refine pV X1057 hx hZ hO (by rw [hml]; rfl) (w52 hw) (w53 hw) (w54 hw) (w7 hw) (w8 hw) (w55 hw) e1057 E_c2 (argsL := [(.int 0)]) (rest := []) (m846 l Z a0 hw [] h0 n0 c1 c2 c3 c4 c5 kc1 kc2 kc3 kc4 (10 : Int64) (20 : Int64) r0 r1 P1066) (lenOf pd6 rfl) (hb Y d3_78) fun T1058 L1058 v1058 X1058 hQ1058 => ?_
  obtain ⟨rfl, N1058q, P1058⟩ := hQ1058
  obtain ⟨E_c1, V_c1, O_c1, E_c2, F_c2_t, F_c2_r, F_c2_c, F_c2_s, F_c2_o, V_c3, E_c4, V_c4, O_c4, E_c5, V_c5, O_c5, g_c1, lt_c1_c2, lt_c2_c3, lt_c3_c4, lt_c4_c5, _, _, _, _⟩ := id P1058
  have N1058 := Fr.app N1053 N1058q
  refine aN X1058 hx (hb Y d3_81) rfl rfl <| gF X1058 hx hZ hO (w31 hw) Via.refl rfl F_c2_s (hb Y d3_82) fun T1067 X1067 e1067 => ?_
  refine fY X1067 hx (pc := 85) 92 (hb Y d3_85) <| iK X1067 hx (z := 0) (hb Y d3_92) ?_
  exact f_ret X1067 hx hlk (i := .ireturn) hret rfl (Or.inl ⟨rfl, Or.inr (Or.inl rfl), _, rfl⟩) (hb Y d3_93) (QQ := (Qm1068 Z n0 c1 c2 c3 c4 c5 kc1 kc2 kc3 kc4 r0 r1 t0 t1 t2 t3 t4 mm p1)) (by rw [e1067]; exact ⟨rfl, N1058, E_c1, V_c1, O_c1, E_c2, F_c2_t, F_c2_r, F_c2_c, F_c2_s, F_c2_o, V_c3, E_c4, V_c4, O_c4, E_c5, V_c5, O_c5, g_c1, lt_c1_c2, lt_c2_c3, lt_c3_c4, lt_c4_c5, ht0, ht1, ht2, ht3, ht4, rf_r0, rw_r0, rb_r0, rf_r1, rw_r1, rb_r1, hm3, nv_r0, z10, z20, tv0⟩) (by decide) (by decide)
theorem F1_5  {cells slots : Nat} (p0 : Int32) (p1 : Int64) (mm : Int32) (gg : Int32) (t0 : Int32) (t1 : Int32) (t2 : Int32) (t3 : Int32) (t4 : Int32) (c1 : Nat) (c2 : Nat) (X0 : Stand p l e room_1 s m args below meth c T0 locs cells slots) (G : SG p s m meth c Z a0) (z10 : ¬ p1 < (10 : Int64)) (z20 : p1 < (20 : Int64)) (tv0 : t0 = (0 : Int32)) (h : EndsSo p e below (LQ s n0) T0 (mkF m 303 (FL p0 p1 2 mm t0 t1 t2 t3 t4 c1 c2 (iv gg) (iv 0) (iv t0) (.val (.long 10)) .second .unset) [])) :
    EndsSo p e below (LQ s n0) T0 (mkF m 209 (FL p0 p1 2 mm t0 t1 t2 t3 t4 c1 c2 (iv gg) .unset .unset .unset .unset .unset) []) := by
  obtain ⟨hx, hZ, hw, Y, hml, hO, hlk, hret⟩ := id G
  refine iK X0 hx (z := 0) (hb Y at_209) <| iS X0 hx (L' := (FL p0 p1 2 mm t0 t1 t2 t3 t4 c1 c2 (iv gg) (iv 0) .unset .unset .unset .unset)) (hb Y at_210) rfl <| iN X0 hx (hb Y at_212) rfl <| iK X0 hx (z := 2) (hb Y at_213) <| cN X0 hx (hb Y at_214) <| lN X0 hx (hb Y at_217) rfl <| f_ldc2 X0 hx hZ hO (w51 hw) (hb Y at_218) <| lC X0 hx (z := (lcmpW p1 (20 : Int64))) (hb Y at_221) (q := rfl) <| fY X0 hx (pc := 222) 228 (hb Y at_222) (hc := (own_ltT z20)) <| iN X0 hx (hb Y at_228) rfl <| iK X0 hx (z := 3) (hb Y at_229) <| cY X0 hx (pc := 230) 244 (hb Y at_230) <| iN X0 hx (hb Y at_244) rfl <| iK X0 hx (z := 1) (hb Y at_245) <| cN X0 hx (hb Y at_246) <| iL X0 hx (hb Y at_249) rfl <| fN X0 hx (hb Y at_251) <| iL X0 hx (hb Y at_254) rfl <| gT X0 hx (pc := 256) 272 (hb Y at_256) <| iS X0 hx (L' := (FL p0 p1 2 mm t0 t1 t2 t3 t4 c1 c2 (iv gg) (iv 0) (iv t0) .unset .unset .unset)) (hb Y at_272) rfl <| f_ldc2 X0 hx hZ hO (w38 hw) (hb Y at_274) <| iL X0 hx (hb Y at_277) rfl <| iK X0 hx (z := 1) (hb Y at_279) <| iA X0 hx (z := 1) (hb Y at_280) <| f_i2l X0 hx (z := 1) (hb Y at_281) <| f_lmul X0 hx (z := 10) (hb Y at_282) <| f_lstore X0 hx (L' := (FL p0 p1 2 mm t0 t1 t2 t3 t4 c1 c2 (iv gg) (iv 0) (iv t0) (.val (.long 10)) .second .unset)) (hb Y at_283) rfl <| f_lload X0 hx (hb Y at_285) rfl <| lN X0 hx (hb Y at_287) rfl <| lC X0 hx (z := (lcmpW (10 : Int64) p1)) (hb Y at_288) (q := rfl) <| fN X0 hx (hb Y at_289) (hc := (own_gtF z10)) <| iL X0 hx (hb Y at_292) rfl <| fY X0 hx (pc := 294) 303 (hb Y at_294) (hc := (own_eqT tv0)) ?_
  exact h
theorem C2_18  (c1 : Nat) (c2 : Nat) (c3 : Nat) (c4 : Nat) (c5 : Nat) (kc1 : ClassId) (kc2 : ClassId) (kc3 : ClassId) (kc4 : ClassId) (r0 : Value) (r1 : Value) (t0 : Int32) (t1 : Int32) (t2 : Int32) (t3 : Int32) (t4 : Int32) (mm : Int32) (p1 : Int64) (p0 : Int32) (X0 : Stand p l e room_1 s m args below meth c T0 locs 5 13) (G : SG p s m meth c Z a0) (e0 : T0.heap = h0) (N0 : Fr n0 locs) (P : St30 Z h0 n0 c1 c2 c3 c4 c5 kc1 kc2 kc3 kc4 r0 r1 t0 t1 t2 t3 t4 mm p1) :
    EndsSo p e below (LQ s n0) T0 (mkF m 143 (FL p0 p1 2 mm t0 t1 t2 t3 t4 c1 c2 .unset .unset .unset .unset .unset .unset) []) := by
  obtain ⟨hx, hZ, hw, Y, hml, hO, hlk, hret⟩ := id G
  obtain ⟨E_c1, V_c1, O_c1, E_c2, F_c2_t, F_c2_r, F_c2_c, F_c2_s, F_c2_o, V_c3, E_c4, V_c4, O_c4, E_c5, V_c5, O_c5, g_c1, lt_c1_c2, lt_c2_c3, lt_c3_c4, lt_c4_c5, ht0, ht1, ht2, ht3, ht4, rf_r0, rw_r0, rb_r0, rf_r1, rw_r1, rb_r1, hm3, nv_r0, z10, z20, tv0⟩ := id P
  refine aA X0 hx (hb Y at_143) rfl rfl <| lN X0 hx (hb Y at_145) rfl ?_
  have P1069 : St30 Z h0 n0 c1 c2 c3 c4 c5 kc1 kc2 kc3 kc4 r0 r1 t0 t1 t2 t3 t4 mm p1 := ⟨E_c1, V_c1, O_c1, E_c2, F_c2_t, F_c2_r, F_c2_c, F_c2_s, F_c2_o, V_c3, E_c4, V_c4, O_c4, E_c5, V_c5, O_c5, g_c1, lt_c1_c2, lt_c2_c3, lt_c3_c4, lt_c4_c5, ht0, ht1, ht2, ht3, ht4, rf_r0, rw_r0, rb_r0, rf_r1, rw_r1, rb_r1, hm3, nv_r0, z10, z20, tv0⟩
  refine vV X0 hx hZ hO (by rw [hml]; rfl) (w26 hw) (w27 hw) (w29 hw) (w28 hw) (w8 hw) (w30 hw) e0 E_c2 (argsL := [(.long p1)]) (rest := []) (m1068 l Z a0 hw [] h0 n0 c1 c2 c3 c4 c5 kc1 kc2 kc3 kc4 r0 r1 t0 t1 t2 t3 t4 mm p1 P1069) (lenOf pd2 rfl) (hb Y at_146) fun T1013 L1013 v1013 X1013 hQ1013 => ?_
  obtain ⟨rfl, N1013q, P1013⟩ := hQ1013
  obtain ⟨E_c1, V_c1, O_c1, E_c2, F_c2_t, F_c2_r, F_c2_c, F_c2_s, F_c2_o, V_c3, E_c4, V_c4, O_c4, E_c5, V_c5, O_c5, g_c1, lt_c1_c2, lt_c2_c3, lt_c3_c4, lt_c4_c5, ht0, ht1, ht2, ht3, ht4, rf_r0, rw_r0, rb_r0, rf_r1, rw_r1, rb_r1, hm3, nv_r0, z10, z20, tv0⟩ := id P1013
  have N1013 := Fr.app N0 N1013q
  refine f_pop X1013 hx (hb Y at_149) rfl ?_
  rcases id hm3 with rfl | rfl | rfl
  · have P1070 : St27 Z T1013.heap n0 c1 c2 c3 c4 c5 kc1 kc2 kc3 kc4 r0 r1 t0 t1 t2 t3 t4 := ⟨E_c1, V_c1, O_c1, E_c2, F_c2_t, F_c2_r, F_c2_c, F_c2_s, F_c2_o, V_c3, E_c4, V_c4, O_c4, E_c5, V_c5, O_c5, g_c1, lt_c1_c2, lt_c2_c3, lt_c3_c4, lt_c4_c5, ht0, ht1, ht2, ht3, ht4, rf_r0, rw_r0, rb_r0, rf_r1, rw_r1, rb_r1⟩
    exact D0_14 c1 c2 c3 c4 c5 kc1 kc2 kc3 kc4 r0 r1 t0 t1 t2 t3 t4 p0 p1 X1013 G rfl N1013 P1070 (fun T' locs' X' N' => F1_5 p0 p1 (0 : Int32) (1 : Int32) t0 t1 t2 t3 t4 c1 c2 X' G z10 z20 tv0 (F2_12 p0 p1 t0 t1 t2 t3 t4 c1 c2 X' G N' (by decide) (by decide)))
  · have P1071 : St27 Z T1013.heap n0 c1 c2 c3 c4 c5 kc1 kc2 kc3 kc4 r0 r1 t0 t1 t2 t3 t4 := ⟨E_c1, V_c1, O_c1, E_c2, F_c2_t, F_c2_r, F_c2_c, F_c2_s, F_c2_o, V_c3, E_c4, V_c4, O_c4, E_c5, V_c5, O_c5, g_c1, lt_c1_c2, lt_c2_c3, lt_c3_c4, lt_c4_c5, ht0, ht1, ht2, ht3, ht4, rf_r0, rw_r0, rb_r0, rf_r1, rw_r1, rb_r1⟩
    exact D1_15 c1 c2 c3 c4 c5 kc1 kc2 kc3 kc4 r0 r1 t0 t1 t2 t3 t4 p0 p1 X1013 G rfl N1013 P1071 (fun T' locs' X' N' => F1_5 p0 p1 (1 : Int32) (1 : Int32) t0 t1 t2 t3 t4 c1 c2 X' G z10 z20 tv0 (F2_13 p0 p1 t0 t1 t2 t3 t4 c1 c2 X' G N' (by decide) (by decide)))
  · have P1072 : St27 Z T1013.heap n0 c1 c2 c3 c4 c5 kc1 kc2 kc3 kc4 r0 r1 t0 t1 t2 t3 t4 := ⟨E_c1, V_c1, O_c1, E_c2, F_c2_t, F_c2_r, F_c2_c, F_c2_s, F_c2_o, V_c3, E_c4, V_c4, O_c4, E_c5, V_c5, O_c5, g_c1, lt_c1_c2, lt_c2_c3, lt_c3_c4, lt_c4_c5, ht0, ht1, ht2, ht3, ht4, rf_r0, rw_r0, rb_r0, rf_r1, rw_r1, rb_r1⟩
    exact D2_16 c1 c2 c3 c4 c5 kc1 kc2 kc3 kc4 r0 r1 t0 t1 t2 t3 t4 p0 p1 X1013 G rfl N1013 P1072 (fun T' locs' X' N' => F1_5 p0 p1 (2 : Int32) (1 : Int32) t0 t1 t2 t3 t4 c1 c2 X' G z10 z20 tv0 (F2_14 p0 p1 t0 t1 t2 t3 t4 c1 c2 X' G N' (by decide) (by decide)))
def St31 (Z : State) (h : Heap) (n0 : Nat) (c1 : Nat) (c2 : Nat) (c3 : Nat) (c4 : Nat) (c5 : Nat) (kc1 : ClassId) (kc2 : ClassId) (kc3 : ClassId) (kc4 : ClassId) (r0 : Value) (r1 : Value) (t0 : Int32) (t1 : Int32) (t2 : Int32) (t3 : Int32) (t4 : Int32) (mm : Int32) (p1 : Int64) : Prop :=
  xO Z h c1 ∧
  Arv Z h c1 kc1 (.object "java/lang/Object") 1 [.null] .null ∧
  Ovr Z kc1 "java/lang/Object" ∧
  Exa Z h c2 cV ∧
  fT Z h c2 (.ref c3) ∧
  fR Z h c2 (.ref c4) ∧
  fC Z h c2 (.ref c5) ∧
  fS Z h c2 (.int 2) ∧
  fO Z h c2 (.int 0) ∧
  aL Z h c3 kc2 2 [(.long 10), (.long 20)] ∧
  xR Z h c4 ∧
  aR Z h c4 kc3 2 [r0, r1] ∧
  oR Z kc3 ∧
  xC Z h c5 ∧
  aC Z h c5 kc4 2 [.null, .null] ∧
  oC Z kc4 ∧
  n0 ≤ c1 ∧
  c1 < c2 ∧
  c2 < c3 ∧
  c3 < c4 ∧
  c4 < c5 ∧
  (t0 = (0 : Int32) ∨ t0 = (1 : Int32)) ∧
  (t1 = (0 : Int32) ∨ t1 = (1 : Int32)) ∧
  (t2 = (0 : Int32) ∨ t2 = (1 : Int32)) ∧
  (t3 = (0 : Int32) ∨ t3 = (1 : Int32)) ∧
  (t4 = (0 : Int32) ∨ t4 = (1 : Int32)) ∧
  r0.isRef = true ∧
  (r0 = .null ∨ r0 = .ref c1) ∧
  ((t0 = (0 : Int32) ∧ r0 = .ref c1) ∨ (t0 = (1 : Int32) ∧ r0 = .null)) ∧
  r1.isRef = true ∧
  (r1 = .null ∨ r1 = .ref c1) ∧
  ((t1 = (0 : Int32) ∧ r1 = .ref c1) ∨ (t1 = (1 : Int32) ∧ r1 = .null)) ∧
  (mm = (0 : Int32) ∨ mm = (1 : Int32) ∨ mm = (2 : Int32)) ∧
  r0 = .null ∧
  ¬ p1 < (10 : Int64) ∧
  p1 < (20 : Int64) ∧
  t0 = (1 : Int32)
def St32 (Z : State) (h : Heap) (n0 : Nat) (c1 : Nat) (c2 : Nat) (c3 : Nat) (c4 : Nat) (c5 : Nat) (kc1 : ClassId) (kc2 : ClassId) (kc3 : ClassId) (kc4 : ClassId) (uu1 : Int64) (uu2 : Int64) (ww4 : Value) (ww3 : Value) : Prop :=
  xO Z h c1 ∧
  Arv Z h c1 kc1 (.object "java/lang/Object") 1 [.null] .null ∧
  Ovr Z kc1 "java/lang/Object" ∧
  Exa Z h c2 cV ∧
  fT Z h c2 (.ref c3) ∧
  fR Z h c2 (.ref c4) ∧
  fC Z h c2 (.ref c5) ∧
  fS Z h c2 (.int 1) ∧
  fO Z h c2 (.int 1) ∧
  aL Z h c3 kc2 2 [(.long uu1), (.long uu2)] ∧
  xR Z h c4 ∧
  aR Z h c4 kc3 2 [.null, ww4] ∧
  oR Z kc3 ∧
  xC Z h c5 ∧
  aC Z h c5 kc4 2 [.null, .null] ∧
  oC Z kc4 ∧
  n0 ≤ c1 ∧
  c1 < c2 ∧
  c2 < c3 ∧
  c3 < c4 ∧
  c4 < c5 ∧
  ww3.isRef = true ∧
  (ww3 = .null ∨ ww3 = .ref c1) ∧
  ww4.isRef = true ∧
  (ww4 = .null ∨ ww4 = .ref c1)
def Qm1182 (Z : State) (n0 : Nat) (c1 : Nat) (c2 : Nat) (c3 : Nat) (c4 : Nat) (c5 : Nat) (kc1 : ClassId) (kc2 : ClassId) (kc3 : ClassId) (kc4 : ClassId) (uu1 : Int64) (uu2 : Int64) (ww3 : Value) (ww4 : Value) (v : Option Value) (h : Heap) (L : List Loc) : Prop := v = none ∧ Fr n0 L ∧ St32 Z h n0 c1 c2 c3 c4 c5 kc1 kc2 kc3 kc4 uu1 uu2 ww4 ww3
theorem m1182 (l : Launch) (Z : State) (a0 : Array Value) (hw : HW a0 Z) (ws : List Jvm.Cond) (h0 : Heap) (n0 : Nat) (c1 : Nat) (c2 : Nat) (c3 : Nat) (c4 : Nat) (c5 : Nat) (kc1 : ClassId) (kc2 : ClassId) (kc3 : ClassId) (kc4 : ClassId) (uu1 : Int64) (uu2 : Int64) (ww3 : Value) (ww4 : Value) (P : St13 Z h0 n0 c1 c2 c3 c4 c5 kc1 kc2 kc3 kc4 uu1 uu2 ww3 ww4) :
    MC l Z y7 prog_95_method_9_code 3 none ws rm_1_0_0_14 #[(.ref c2), (.int 1)] h0 (Qm1182 Z n0 c1 c2 c3 c4 c5 kc1 kc2 kc3 kc4 uu1 uu2 ww3 ww4) := by
  obtain ⟨E_c1, V_c1, O_c1, E_c2, F_c2_t, F_c2_r, F_c2_c, F_c2_s, F_c2_o, V_c3, E_c4, V_c4, O_c4, E_c5, V_c5, O_c5, g_c1, lt_c1_c2, lt_c2_c3, lt_c3_c4, lt_c4_c5, rf_ww3, rw_ww3, rf_ww4, rw_ww4⟩ := id P
  refine own_met (plainFor_of_name pn7) fun p e s m below meth c s₁ X0 hx hZ Y hml hO hnm hlk hret e0 => f_cast (f' := mkF m 0 #[(rv c2), (iv 1), .unset] []) (by first | (simp [entryFrame, mkF, argsToLocals, Value.category]; done) | rfl) ?_
  have N0 := Fr.nil n0
  refine iK X0 hx (z := 0) (hb Y d7_0) <| sN X0 hx (L' := #[(rv c2), (iv 1), (iv 0)]) (hb Y d7_1) rfl <| iN X0 hx (hb Y d7_2) rfl <| iN X0 hx (hb Y d7_3) rfl <| cN X0 hx (hb Y d7_4) <| aN X0 hx (hb Y d7_7) rfl rfl <| gF X0 hx hZ hO (w20 hw) Via.refl e0 F_c2_r (hb Y d7_8) fun T1165 X1165 e1165 => ?_
  refine aN X1165 hx (hb Y d7_11) rfl rfl <| iN X1165 hx (hb Y d7_12) rfl <| pV X1165 hx hZ hO (by rw [hml]; rfl) (w44 hw) (w45 hw) (w46 hw) (w7 hw) (w8 hw) (w47 hw) e1165 E_c2 (argsL := [(.int 0)]) (rest := [(.ref c4)]) (q61 l Z a0 hw [] h0 n0 c2 c3 kc2 _ F_c2_o F_c2_t V_c3) (lenOf pd4 rfl) (hb Y d7_13) fun T1166 L1166 v1166 X1166 hQ1166 => ?_
  obtain ⟨rfl, N1166q, e1166⟩ := hQ1166
  have N1166 := Fr.app N0 N1166q
  refine f_null X1166 hx (hb Y d7_16) <| f_ast X1166 hx hZ e1166 V_c4 rfl (Or.inl rfl) rfl 0 (hb Y d7_17) fun T1169 h1169 X1169 e1169 W1169 V1169 => ?_
  have N1169x := Fr.snoc X1169 N1166 (by omega : n0 ≤ c4)
  refine aN X1169 hx (hb Y d7_18) rfl rfl ?_
  replace F_c2_c := (fo W1169 F_c2_c)
  refine gF X1169 hx hZ hO (w24 hw) Via.refl e1169 F_c2_c (hb Y d7_19) fun T1170 X1170 e1170 => ?_
  refine aN X1170 hx (hb Y d7_22) rfl rfl <| iN X1170 hx (hb Y d7_23) rfl ?_
  replace F_c2_o := (fo W1169 F_c2_o)
  replace F_c2_t := (fo W1169 F_c2_t)
  replace V_c3 := (vo V_c3 W1169)
  replace E_c2 := (xw W1169 E_c2)
  refine pV X1170 hx hZ hO (by rw [hml]; rfl) (w44 hw) (w45 hw) (w46 hw) (w7 hw) (w8 hw) (w47 hw) e1170 E_c2 (argsL := [(.int 0)]) (rest := [(.ref c5)]) (q61 l Z a0 hw [] h1169 n0 c2 c3 kc2 _ F_c2_o F_c2_t V_c3) (lenOf pd4 rfl) (hb Y d7_24) fun T1171 L1171 v1171 X1171 hQ1171 => ?_
  obtain ⟨rfl, N1171q, e1171⟩ := hQ1171
  have N1171 := Fr.app N1169x N1171q
  refine f_null X1171 hx (hb Y d7_27) ?_
  replace V_c5 := (vo V_c5 W1169)
  refine f_ast X1171 hx hZ e1171 V_c5 rfl (Or.inl rfl) rfl 0 (hb Y d7_28) fun T1174 h1174 X1174 e1174 W1174 V1174 => ?_
  have N1174x := Fr.snoc X1174 N1171 (by omega : n0 ≤ c5)
  refine f_iinc X1174 hx (L' := #[(rv c2), (iv 1), (iv 1)]) (hb Y d7_29) rfl rfl <| gT X1174 hx (pc := 32) 2 (hb Y d7_32) <| iN X1174 hx (hb Y d7_2) rfl <| iN X1174 hx (hb Y d7_3) rfl <| cY X1174 hx (pc := 4) 35 (hb Y d7_4) <| aN X1174 hx (hb Y d7_35) rfl rfl <| aN X1174 hx (hb Y d7_36) rfl rfl <| iN X1174 hx (hb Y d7_37) rfl ?_
  replace F_c2_o := (fo W1174 F_c2_o)
  replace F_c2_t := (fo W1174 F_c2_t)
  replace V_c3 := (vo V_c3 W1174)
  replace E_c2 := (xw W1174 E_c2)
  refine pV X1174 hx hZ hO (by rw [hml]; rfl) (w44 hw) (w45 hw) (w46 hw) (w7 hw) (w8 hw) (w47 hw) e1174 E_c2 (argsL := [(.int 1)]) (rest := [(.ref c2)]) (q123 l Z a0 hw [] h1174 n0 c2 c3 kc2 _ F_c2_o F_c2_t V_c3) (lenOf pd4 rfl) (hb Y d7_38) fun T1175 L1175 v1175 X1175 hQ1175 => ?_
  obtain ⟨rfl, N1175q, e1175⟩ := hQ1175
  have N1175 := Fr.app N1174x N1175q
  refine f_putF X1175 hx hZ hO (w48 hw) Via.refl e1175 F_c2_o E_c2 (Or.inl (w49 hw)) (w7 hw) (ty := .int) (by decide) rfl rfl (hb Y d7_41) fun T1178 h1178 X1178 e1178 W1178 => ?_
  have N1178x := Fr.snoc X1178 N1175 (by omega : n0 ≤ c2)
  refine aN X1178 hx (hb Y d7_44) rfl rfl <| f_dup X1178 hx (hb Y d7_45) rfl ?_
  replace F_c2_s := (Fld.other W1178 (fo W1174 (fo W1169 F_c2_s)) (Or.inr (slot_ne (Or.inl (w32 hw)) (Or.inl (w49 hw)) (by decide) (t := .int) (t' := .int) (by decide) (by decide))))
  refine gF X1178 hx hZ hO (w31 hw) Via.refl e1178 F_c2_s (hb Y d7_46) fun T1179 X1179 e1179 => ?_
  refine iN X1179 hx (hb Y d7_49) rfl <| iB X1179 hx (z := 1) (hb Y d7_50) ?_
  replace E_c2 := (xw W1178 E_c2)
  refine f_putF X1179 hx hZ hO (w31 hw) Via.refl e1179 F_c2_s E_c2 (Or.inl (w32 hw)) (w7 hw) (ty := .int) (by decide) rfl rfl (hb Y d7_51) fun T1180 h1180 X1180 e1180 W1180 => ?_
  have N1180x := Fr.snoc X1180 N1178x (by omega : n0 ≤ c2)
  refine aN X1180 hx (hb Y d7_54) rfl rfl ?_
  replace F_c2_t := (Fld.other W1180 (Fld.other W1178 F_c2_t (Or.inr (slot_ne (Or.inl (w17 hw)) (Or.inl (w49 hw)) (by decide) (t := (.array .long)) (t' := .int) (by decide) (by decide)))) (Or.inr (slot_ne (Or.inl (w17 hw)) (Or.inl (w32 hw)) (by decide) (t := (.array .long)) (t' := .int) (by decide) (by decide))))
  refine gF X1180 hx hZ hO (w16 hw) Via.refl e1180 F_c2_t (hb Y d7_55) fun T1181 X1181 e1181 => ?_
  replace V_c3 := (vo (vo V_c3 W1178) W1180)
  refine f_len X1181 hx hZ e1181 V_c3 (hb Y d7_58) <| iK X1181 hx (z := 2) (hb Y d7_59) <| cY X1181 hx (pc := 60) 94 (hb Y d7_60) ?_
  exact f_ret0 X1181 hx hlk hret (hb Y d7_94) (QQ := (Qm1182 Z n0 c1 c2 c3 c4 c5 kc1 kc2 kc3 kc4 uu1 uu2 ww3 ww4)) (by rw [e1181]; exact ⟨rfl, N1180x, (xw W1180 (xw W1178 (xw W1174 (xw W1169 E_c1)))), (vo (vo (vo (vo V_c1 W1169) W1174) W1178) W1180), O_c1, (xw W1180 E_c2), F_c2_t, (Fld.other W1180 (Fld.other W1178 (fo W1174 (fo W1169 F_c2_r)) (Or.inr (slot_ne (Or.inl (w21 hw)) (Or.inl (w49 hw)) (by decide) (t := (.array (.array (.object "java/lang/Object")))) (t' := .int) (by decide) (by decide)))) (Or.inr (slot_ne (Or.inl (w21 hw)) (Or.inl (w32 hw)) (by decide) (t := (.array (.array (.object "java/lang/Object")))) (t' := .int) (by decide) (by decide)))), (Fld.other W1180 (Fld.other W1178 (fo W1174 F_c2_c) (Or.inr (slot_ne (Or.inl (w25 hw)) (Or.inl (w49 hw)) (by decide) (t := (.array (.array .int))) (t' := .int) (by decide) (by decide)))) (Or.inr (slot_ne (Or.inl (w25 hw)) (Or.inl (w32 hw)) (by decide) (t := (.array (.array .int))) (t' := .int) (by decide) (by decide)))), (Fld.same W1180 F_c2_s), (Fld.other W1180 (Fld.same W1178 F_c2_o) (Or.inr (slot_ne (Or.inl (w49 hw)) (Or.inl (w32 hw)) (by decide) (t := .int) (t' := .int) (by decide) (by decide)))), V_c3, (xw W1180 (xw W1178 (xw W1174 (xw W1169 E_c4)))), (vo (vo (vo V1169 W1174) W1178) W1180), O_c4, (xw W1180 (xw W1178 (xw W1174 (xw W1169 E_c5)))), (vo (vo V1174 W1178) W1180), O_c5, g_c1, lt_c1_c2, lt_c2_c3, lt_c3_c4, lt_c4_c5, rf_ww3, rw_ww3, rf_ww4, rw_ww4⟩) (by decide) (by decide)
def St33 (Z : State) (h : Heap) (n0 : Nat) (c1 : Nat) (c2 : Nat) (c3 : Nat) (c4 : Nat) (c5 : Nat) (kc1 : ClassId) (kc2 : ClassId) (kc3 : ClassId) (kc4 : ClassId) (r1 : Value) (t0 : Int32) (t1 : Int32) (t2 : Int32) (t3 : Int32) (t4 : Int32) (r0 : Value) (mm : Int32) (p1 : Int64) : Prop :=
  xO Z h c1 ∧
  Arv Z h c1 kc1 (.object "java/lang/Object") 1 [.null] .null ∧
  Ovr Z kc1 "java/lang/Object" ∧
  Exa Z h c2 cV ∧
  fT Z h c2 (.ref c3) ∧
  fR Z h c2 (.ref c4) ∧
  fC Z h c2 (.ref c5) ∧
  fS Z h c2 (.int 1) ∧
  fO Z h c2 (.int 1) ∧
  aL Z h c3 kc2 2 [(.long 10), (.long 20)] ∧
  xR Z h c4 ∧
  aR Z h c4 kc3 2 [.null, r1] ∧
  oR Z kc3 ∧
  xC Z h c5 ∧
  aC Z h c5 kc4 2 [.null, .null] ∧
  oC Z kc4 ∧
  n0 ≤ c1 ∧
  c1 < c2 ∧
  c2 < c3 ∧
  c3 < c4 ∧
  c4 < c5 ∧
  (t0 = (0 : Int32) ∨ t0 = (1 : Int32)) ∧
  (t1 = (0 : Int32) ∨ t1 = (1 : Int32)) ∧
  (t2 = (0 : Int32) ∨ t2 = (1 : Int32)) ∧
  (t3 = (0 : Int32) ∨ t3 = (1 : Int32)) ∧
  (t4 = (0 : Int32) ∨ t4 = (1 : Int32)) ∧
  r0.isRef = true ∧
  (r0 = .null ∨ r0 = .ref c1) ∧
  ((t0 = (0 : Int32) ∧ r0 = .ref c1) ∨ (t0 = (1 : Int32) ∧ r0 = .null)) ∧
  r1.isRef = true ∧
  (r1 = .null ∨ r1 = .ref c1) ∧
  ((t1 = (0 : Int32) ∧ r1 = .ref c1) ∨ (t1 = (1 : Int32) ∧ r1 = .null)) ∧
  (mm = (0 : Int32) ∨ mm = (1 : Int32) ∨ mm = (2 : Int32)) ∧
  r0 = .null ∧
  ¬ p1 < (10 : Int64) ∧
  p1 < (20 : Int64) ∧
  t0 = (1 : Int32)
def Qm1185 (Z : State) (n0 : Nat) (c1 : Nat) (c2 : Nat) (c3 : Nat) (c4 : Nat) (c5 : Nat) (kc1 : ClassId) (kc2 : ClassId) (kc3 : ClassId) (kc4 : ClassId) (r0 : Value) (r1 : Value) (t0 : Int32) (t1 : Int32) (t2 : Int32) (t3 : Int32) (t4 : Int32) (mm : Int32) (p1 : Int64) (v : Option Value) (h : Heap) (L : List Loc) : Prop := v = some (.int 0) ∧ Fr n0 L ∧ St33 Z h n0 c1 c2 c3 c4 c5 kc1 kc2 kc3 kc4 r1 t0 t1 t2 t3 t4 r0 mm p1
theorem m1185 (l : Launch) (Z : State) (a0 : Array Value) (hw : HW a0 Z) (ws : List Jvm.Cond) (h0 : Heap) (n0 : Nat) (c1 : Nat) (c2 : Nat) (c3 : Nat) (c4 : Nat) (c5 : Nat) (kc1 : ClassId) (kc2 : ClassId) (kc3 : ClassId) (kc4 : ClassId) (r0 : Value) (r1 : Value) (t0 : Int32) (t1 : Int32) (t2 : Int32) (t3 : Int32) (t4 : Int32) (mm : Int32) (p1 : Int64) (P : St31 Z h0 n0 c1 c2 c3 c4 c5 kc1 kc2 kc3 kc4 r0 r1 t0 t1 t2 t3 t4 mm p1) :
    MC l Z y3 prog_95_method_5_code 5 (some .boolean) ws rm_2_0_0_28 #[(.ref c2), (.long p1)] h0 (Qm1185 Z n0 c1 c2 c3 c4 c5 kc1 kc2 kc3 kc4 r0 r1 t0 t1 t2 t3 t4 mm p1) := by
  obtain ⟨E_c1, V_c1, O_c1, E_c2, F_c2_t, F_c2_r, F_c2_c, F_c2_s, F_c2_o, V_c3, E_c4, V_c4, O_c4, E_c5, V_c5, O_c5, g_c1, lt_c1_c2, lt_c2_c3, lt_c3_c4, lt_c4_c5, ht0, ht1, ht2, ht3, ht4, rf_r0, rw_r0, rb_r0, rf_r1, rw_r1, rb_r1, hm3, nv_r0, z10, z20, tv0⟩ := id P
  refine own_met (plainFor_of_name pn3) fun p e s m below meth c s₁ X0 hx hZ Y hml hO hnm hlk hret e0 => f_cast (f' := mkF m 0 #[(rv c2), (.val (.long p1)), .second, .unset, .unset] []) (by first | (simp [entryFrame, mkF, argsToLocals, Value.category]; done) | rfl) ?_
  have N0 := Fr.nil n0
  refine aN X0 hx (hb Y d3_0) rfl rfl <| gF X0 hx hZ hO (w31 hw) Via.refl e0 F_c2_s (hb Y d3_1) fun T1136 X1136 e1136 => ?_
  refine fY X1136 hx (pc := 4) 9 (hb Y d3_4) <| iK X1136 hx (z := 0) (hb Y d3_9) <| sN X1136 hx (L' := #[(rv c2), (.val (.long p1)), .second, (iv 0), .unset]) (hb Y d3_10) rfl <| iN X1136 hx (hb Y d3_11) rfl <| iK X1136 hx (z := 1) (hb Y d3_12) <| iA X1136 hx (z := 1) (hb Y d3_13) <| aN X1136 hx (hb Y d3_14) rfl rfl <| gF X1136 hx hZ hO (w31 hw) Via.refl e1136 F_c2_s (hb Y d3_15) fun T1137 X1137 e1137 => ?_
  refine cN X1137 hx (hb Y d3_18) <| aN X1137 hx (hb Y d3_21) rfl rfl <| gF X1137 hx hZ hO (w16 hw) Via.refl e1137 F_c2_t (hb Y d3_22) fun T1138 X1138 e1138 => ?_
  refine aN X1138 hx (hb Y d3_25) rfl rfl <| iN X1138 hx (hb Y d3_26) rfl <| iK X1138 hx (z := 1) (hb Y d3_27) <| iA X1138 hx (z := 1) (hb Y d3_28) <| pV X1138 hx hZ hO (by rw [hml]; rfl) (w44 hw) (w45 hw) (w46 hw) (w7 hw) (w8 hw) (w47 hw) e1138 E_c2 (argsL := [(.int 1)]) (rest := [(.ref c3)]) (q123 l Z a0 hw [] h0 n0 c2 c3 kc2 _ F_c2_o F_c2_t V_c3) (lenOf pd4 rfl) (hb Y d3_29) fun T1139 L1139 v1139 X1139 hQ1139 => ?_
  obtain ⟨rfl, N1139q, e1139⟩ := hQ1139
  have N1139 := Fr.app N0 N1139q
  refine f_lald X1139 hx hZ e1139 V_c3 (v := (.long 20)) rfl (hb Y d3_32) <| lN X1139 hx (hb Y d3_33) rfl <| lC X1139 hx (z := (lcmpW (20 : Int64) p1)) (hb Y d3_34) (q := rfl) <| fY X1139 hx (pc := 35) 44 (hb Y d3_35) (hc := (own_gtT z20)) <| aN X1139 hx (hb Y d3_44) rfl rfl <| iN X1139 hx (hb Y d3_45) rfl <| pV X1139 hx hZ hO (by rw [hml]; rfl) (w44 hw) (w45 hw) (w46 hw) (w7 hw) (w8 hw) (w47 hw) e1139 E_c2 (argsL := [(.int 0)]) (rest := []) (q61 l Z a0 hw [] h0 n0 c2 c3 kc2 _ F_c2_o F_c2_t V_c3) (lenOf pd4 rfl) (hb Y d3_46) fun T1142 L1142 v1142 X1142 hQ1142 => ?_
  obtain ⟨rfl, N1142q, e1142⟩ := hQ1142
  have N1142 := Fr.app N1139 N1142q
  refine iS X1142 hx (L' := #[(rv c2), (.val (.long p1)), .second, (iv 0), (iv 0)]) (hb Y d3_49) rfl <| aN X1142 hx (hb Y d3_51) rfl rfl <| gF X1142 hx hZ hO (w16 hw) Via.refl e1142 F_c2_t (hb Y d3_52) fun T1145 X1145 e1145 => ?_
  refine iL X1145 hx (hb Y d3_55) rfl <| f_lald X1145 hx hZ e1145 V_c3 (v := (.long 10)) rfl (hb Y d3_57) <| lN X1145 hx (hb Y d3_58) rfl <| lC X1145 hx (z := (lcmpW (10 : Int64) p1)) (hb Y d3_59) (q := rfl) <| fN X1145 hx (hb Y d3_60) (hc := (own_gtF z10)) <| aN X1145 hx (hb Y d3_63) rfl rfl <| gF X1145 hx hZ hO (w20 hw) Via.refl e1145 F_c2_r (hb Y d3_64) fun T1146 X1146 e1146 => ?_
  refine iL X1146 hx (hb Y d3_67) rfl <| f_aald X1146 hx hZ e1146 V_c4 rfl (v := r0) rfl (hb Y d3_69) <| f_ifnonnullNv X1146 hx nv_r0 (hb Y d3_70) <| f_iinc X1146 hx (L' := #[(rv c2), (.val (.long p1)), .second, (iv 1), (iv 0)]) (hb Y d3_73) rfl rfl <| aN X1146 hx (hb Y d3_76) rfl rfl <| iN X1146 hx (hb Y d3_77) rfl ?_
  have P1183 : St13 Z h0 n0 c1 c2 c3 c4 c5 kc1 kc2 kc3 kc4 (10 : Int64) (20 : Int64) r0 r1 := ⟨E_c1, V_c1, O_c1, E_c2, F_c2_t, F_c2_r, F_c2_c, F_c2_s, F_c2_o, V_c3, E_c4, V_c4, O_c4, E_c5, V_c5, O_c5, g_c1, lt_c1_c2, lt_c2_c3, lt_c3_c4, lt_c4_c5, rf_r0, rw_r0, rf_r1, rw_r1⟩
  refine pV X1146 hx hZ hO (by rw [hml]; rfl) (w52 hw) (w53 hw) (w54 hw) (w7 hw) (w8 hw) (w55 hw) e1146 E_c2 (argsL := [(.int 1)]) (rest := []) (m1182 l Z a0 hw [] h0 n0 c1 c2 c3 c4 c5 kc1 kc2 kc3 kc4 (10 : Int64) (20 : Int64) r0 r1 P1183) (lenOf pd6 rfl) (hb Y d3_78) fun T1147 L1147 v1147 X1147 hQ1147 => ?_
  obtain ⟨rfl, N1147q, P1147⟩ := hQ1147
  obtain ⟨E_c1, V_c1, O_c1, E_c2, F_c2_t, F_c2_r, F_c2_c, F_c2_s, F_c2_o, V_c3, E_c4, V_c4, O_c4, E_c5, V_c5, O_c5, g_c1, lt_c1_c2, lt_c2_c3, lt_c3_c4, lt_c4_c5, _, _, _, _⟩ := id P1147
  have N1147 := Fr.app N1142 N1147q
  refine aN X1147 hx (hb Y d3_81) rfl rfl <| gF X1147 hx hZ hO (w31 hw) Via.refl rfl F_c2_s (hb Y d3_82) fun T1184 X1184 e1184 => ?_
  refine fY X1184 hx (pc := 85) 92 (hb Y d3_85) <| iK X1184 hx (z := 0) (hb Y d3_92) ?_
  exact f_ret X1184 hx hlk (i := .ireturn) hret rfl (Or.inl ⟨rfl, Or.inr (Or.inl rfl), _, rfl⟩) (hb Y d3_93) (QQ := (Qm1185 Z n0 c1 c2 c3 c4 c5 kc1 kc2 kc3 kc4 r0 r1 t0 t1 t2 t3 t4 mm p1)) (by rw [e1184]; exact ⟨rfl, N1147, E_c1, V_c1, O_c1, E_c2, F_c2_t, F_c2_r, F_c2_c, F_c2_s, F_c2_o, V_c3, E_c4, V_c4, O_c4, E_c5, V_c5, O_c5, g_c1, lt_c1_c2, lt_c2_c3, lt_c3_c4, lt_c4_c5, ht0, ht1, ht2, ht3, ht4, rf_r0, rw_r0, rb_r0, rf_r1, rw_r1, rb_r1, hm3, nv_r0, z10, z20, tv0⟩) (by decide) (by decide)
def St34 (Z : State) (h : Heap) (n0 : Nat) (c1 : Nat) (c2 : Nat) (c3 : Nat) (c4 : Nat) (c5 : Nat) (kc1 : ClassId) (kc2 : ClassId) (kc3 : ClassId) (kc4 : ClassId) (r1 : Value) (t0 : Int32) (t1 : Int32) (t2 : Int32) (t3 : Int32) (t4 : Int32) (r0 : Value) : Prop :=
  xO Z h c1 ∧
  Arv Z h c1 kc1 (.object "java/lang/Object") 1 [.null] .null ∧
  Ovr Z kc1 "java/lang/Object" ∧
  Exa Z h c2 cV ∧
  fT Z h c2 (.ref c3) ∧
  fR Z h c2 (.ref c4) ∧
  fC Z h c2 (.ref c5) ∧
  fS Z h c2 (.int 1) ∧
  fO Z h c2 (.int 1) ∧
  aL Z h c3 kc2 2 [(.long 10), (.long 20)] ∧
  xR Z h c4 ∧
  aR Z h c4 kc3 2 [.null, r1] ∧
  oR Z kc3 ∧
  xC Z h c5 ∧
  aC Z h c5 kc4 2 [.null, .null] ∧
  oC Z kc4 ∧
  n0 ≤ c1 ∧
  c1 < c2 ∧
  c2 < c3 ∧
  c3 < c4 ∧
  c4 < c5 ∧
  (t0 = (0 : Int32) ∨ t0 = (1 : Int32)) ∧
  (t1 = (0 : Int32) ∨ t1 = (1 : Int32)) ∧
  (t2 = (0 : Int32) ∨ t2 = (1 : Int32)) ∧
  (t3 = (0 : Int32) ∨ t3 = (1 : Int32)) ∧
  (t4 = (0 : Int32) ∨ t4 = (1 : Int32)) ∧
  r0.isRef = true ∧
  (r0 = .null ∨ r0 = .ref c1) ∧
  ((t0 = (0 : Int32) ∧ r0 = .ref c1) ∨ (t0 = (1 : Int32) ∧ r0 = .null)) ∧
  r1.isRef = true ∧
  (r1 = .null ∨ r1 = .ref c1) ∧
  ((t1 = (0 : Int32) ∧ r1 = .ref c1) ∨ (t1 = (1 : Int32) ∧ r1 = .null)) ∧
  r0 = .null ∧
  r1 = .ref c1
theorem q1192 (l : Launch) (Z : State) (a0 : Array Value) (hw : HW a0 Z) (ws : List Jvm.Cond) (h0 : Heap) (n0 : Nat) (c1 : Nat) (c2 : Nat) (kc3 : ClassId) (r1 : Value) (c4 : Nat) (F_c1_s : fS Z h0 c1 (.int 1)) (F_c1_r : fR Z h0 c1 (.ref c2)) (F_c1_o : fO Z h0 c1 (.int 1)) (V_c2 : aR Z h0 c2 kc3 2 [.null, r1]) (nv_r1 : r1 = .ref c4) :
    MC l Z y4 prog_95_method_7_code 1 (some .boolean) ws rm_0_0_0_0 #[(.ref c1)] h0 (QV (.int 0) h0 n0) := by
  refine own_met (plainFor_of_name pn4) fun p e s m below meth c s₁ X0 hx hZ Y hml hO hnm hlk hret e0 => f_cast (f' := mkF m 0 #[(rv c1)] []) (by first | (simp [entryFrame, mkF, argsToLocals, Value.category]; done) | rfl) ?_
  have N0 := Fr.nil n0
  refine aN X0 hx (hb Y d4_0) rfl rfl <| gF X0 hx hZ hO (w31 hw) Via.refl e0 F_c1_s (hb Y d4_1) fun T1188 X1188 e1188 => ?_
  refine iK X1188 hx (z := 1) (hb Y d4_4) <| cN X1188 hx (hb Y d4_5) <| aN X1188 hx (hb Y d4_8) rfl rfl <| gF X1188 hx hZ hO (w31 hw) Via.refl e1188 F_c1_s (hb Y d4_9) fun T1189 X1189 e1189 => ?_
  refine iK X1189 hx (z := 1) (hb Y d4_12) <| cN X1189 hx (hb Y d4_13) <| aN X1189 hx (hb Y d4_16) rfl rfl <| gF X1189 hx hZ hO (w20 hw) Via.refl e1189 F_c1_r (hb Y d4_17) fun T1190 X1190 e1190 => ?_
  refine aN X1190 hx (hb Y d4_20) rfl rfl <| gF X1190 hx hZ hO (w48 hw) Via.refl e1190 F_c1_o (hb Y d4_21) fun T1191 X1191 e1191 => ?_
  refine f_aald X1191 hx hZ e1191 V_c2 rfl (v := r1) rfl (hb Y d4_24) <| f_ifnonnullYv X1191 hx (pc := 25) 32 nv_r1 (hb Y d4_25) <| iK X1191 hx (z := 0) (hb Y d4_32) ?_
  exact f_ret X1191 hx hlk (i := .ireturn) hret rfl (Or.inl ⟨rfl, Or.inr (Or.inl rfl), _, rfl⟩) (hb Y d4_33) (QQ := (QV (.int 0) h0 n0)) ⟨rfl, N0, e1191⟩ (by decide) (by decide)
theorem D0_19  (c1 : Nat) (c2 : Nat) (c3 : Nat) (c4 : Nat) (c5 : Nat) (kc1 : ClassId) (kc2 : ClassId) (kc3 : ClassId) (kc4 : ClassId) (r1 : Value) (t0 : Int32) (t1 : Int32) (t2 : Int32) (t3 : Int32) (t4 : Int32) (r0 : Value) (p0 : Int32) (p1 : Int64) (X0 : Stand p l e room_1 s m args below meth c T0 locs 5 13) (G : SG p s m meth c Z a0) (e0 : T0.heap = h0) (N0 : Fr n0 locs) (P : St34 Z h0 n0 c1 c2 c3 c4 c5 kc1 kc2 kc3 kc4 r1 t0 t1 t2 t3 t4 r0) (hk0 : ∀ (T' : State) (locs' : List Loc), Stand p l e room_1 s m args below meth c T' locs' 5 13 → Fr n0 locs' → EndsSo p e below (LQ s n0) T' (mkF m 209 (FL p0 p1 2 0 t0 t1 t2 t3 t4 c1 c2 (iv 0) .unset .unset .unset .unset .unset) [])) :
    EndsSo p e below (LQ s n0) T0 (mkF m 150 (FL p0 p1 2 0 t0 t1 t2 t3 t4 c1 c2 .unset .unset .unset .unset .unset .unset) []) := by
  obtain ⟨hx, hZ, hw, Y, hml, hO, hlk, hret⟩ := id G
  obtain ⟨E_c1, V_c1, O_c1, E_c2, F_c2_t, F_c2_r, F_c2_c, F_c2_s, F_c2_o, V_c3, E_c4, V_c4, O_c4, E_c5, V_c5, O_c5, g_c1, lt_c1_c2, lt_c2_c3, lt_c3_c4, lt_c4_c5, ht0, ht1, ht2, ht3, ht4, rf_r0, rw_r0, rb_r0, rf_r1, rw_r1, rb_r1, nv_r0, nv_r1⟩ := id P
  refine iL X0 hx (hb Y at_150) rfl <| iK X0 hx (z := 1) (hb Y at_152) <| cY X0 hx (pc := 153) 176 (hb Y at_153) <| iL X0 hx (hb Y at_176) rfl <| iK X0 hx (z := 2) (hb Y at_178) <| cY X0 hx (pc := 179) 202 (hb Y at_179) <| aA X0 hx (hb Y at_202) rfl rfl <| vV X0 hx hZ hO (by rw [hml]; rfl) (w33 hw) (w34 hw) (w36 hw) (w35 hw) (w8 hw) (w37 hw) e0 E_c2 (argsL := []) (rest := []) (q1192 l Z a0 hw [] h0 n0 c2 c4 kc3 r1 c1 F_c2_s F_c2_r F_c2_o V_c4 nv_r1) (lenOf pd3 rfl) (hb Y at_204) fun T1187 L1187 v1187 X1187 hQ1187 => ?_
  obtain ⟨rfl, N1187q, e1187⟩ := hQ1187
  have N1187 := Fr.app N0 N1187q
  refine iS X1187 hx (L' := (FL p0 p1 2 0 t0 t1 t2 t3 t4 c1 c2 (iv 0) .unset .unset .unset .unset .unset)) (hb Y at_207) rfl ?_
  exact hk0 _ _ X1187 N1187
theorem F1_6  {cells slots : Nat} (p0 : Int32) (p1 : Int64) (mm : Int32) (gg : Int32) (t0 : Int32) (t1 : Int32) (t2 : Int32) (t3 : Int32) (t4 : Int32) (c1 : Nat) (c2 : Nat) (X0 : Stand p l e room_1 s m args below meth c T0 locs cells slots) (G : SG p s m meth c Z a0) (z10 : ¬ p1 < (10 : Int64)) (z20 : p1 < (20 : Int64)) (tv0 : t0 = (1 : Int32)) (h : EndsSo p e below (LQ s n0) T0 (mkF m 303 (FL p0 p1 2 mm t0 t1 t2 t3 t4 c1 c2 (iv gg) (iv 1) (iv t0) (.val (.long 10)) .second .unset) [])) :
    EndsSo p e below (LQ s n0) T0 (mkF m 209 (FL p0 p1 2 mm t0 t1 t2 t3 t4 c1 c2 (iv gg) .unset .unset .unset .unset .unset) []) := by
  obtain ⟨hx, hZ, hw, Y, hml, hO, hlk, hret⟩ := id G
  refine iK X0 hx (z := 0) (hb Y at_209) <| iS X0 hx (L' := (FL p0 p1 2 mm t0 t1 t2 t3 t4 c1 c2 (iv gg) (iv 0) .unset .unset .unset .unset)) (hb Y at_210) rfl <| iN X0 hx (hb Y at_212) rfl <| iK X0 hx (z := 2) (hb Y at_213) <| cN X0 hx (hb Y at_214) <| lN X0 hx (hb Y at_217) rfl <| f_ldc2 X0 hx hZ hO (w51 hw) (hb Y at_218) <| lC X0 hx (z := (lcmpW p1 (20 : Int64))) (hb Y at_221) (q := rfl) <| fY X0 hx (pc := 222) 228 (hb Y at_222) (hc := (own_ltT z20)) <| iN X0 hx (hb Y at_228) rfl <| iK X0 hx (z := 3) (hb Y at_229) <| cY X0 hx (pc := 230) 244 (hb Y at_230) <| iN X0 hx (hb Y at_244) rfl <| iK X0 hx (z := 1) (hb Y at_245) <| cN X0 hx (hb Y at_246) <| iL X0 hx (hb Y at_249) rfl <| fN X0 hx (hb Y at_251) <| iL X0 hx (hb Y at_254) rfl <| gT X0 hx (pc := 256) 272 (hb Y at_256) <| iS X0 hx (L' := (FL p0 p1 2 mm t0 t1 t2 t3 t4 c1 c2 (iv gg) (iv 0) (iv t0) .unset .unset .unset)) (hb Y at_272) rfl <| f_ldc2 X0 hx hZ hO (w38 hw) (hb Y at_274) <| iL X0 hx (hb Y at_277) rfl <| iK X0 hx (z := 1) (hb Y at_279) <| iA X0 hx (z := 1) (hb Y at_280) <| f_i2l X0 hx (z := 1) (hb Y at_281) <| f_lmul X0 hx (z := 10) (hb Y at_282) <| f_lstore X0 hx (L' := (FL p0 p1 2 mm t0 t1 t2 t3 t4 c1 c2 (iv gg) (iv 0) (iv t0) (.val (.long 10)) .second .unset)) (hb Y at_283) rfl <| f_lload X0 hx (hb Y at_285) rfl <| lN X0 hx (hb Y at_287) rfl <| lC X0 hx (z := (lcmpW (10 : Int64) p1)) (hb Y at_288) (q := rfl) <| fN X0 hx (hb Y at_289) (hc := (own_gtF z10)) <| iL X0 hx (hb Y at_292) rfl <| fN X0 hx (hb Y at_294) (hc := (own_eq1 tv0)) <| iL X0 hx (hb Y at_297) rfl <| iK X0 hx (z := 1) (hb Y at_299) <| iA X0 hx (z := 1) (hb Y at_300) <| iS X0 hx (L' := (FL p0 p1 2 mm t0 t1 t2 t3 t4 c1 c2 (iv gg) (iv 1) (iv t0) (.val (.long 10)) .second .unset)) (hb Y at_301) rfl ?_
  exact h
theorem F2_15  {cells slots : Nat} (p0 : Int32) (p1 : Int64) (t0 : Int32) (t1 : Int32) (t2 : Int32) (t3 : Int32) (t4 : Int32) (c1 : Nat) (c2 : Nat) (X0 : Stand p l e room_1 s m args below meth c T0 locs cells slots) (G : SG p s m meth c Z a0) (tv1 : t1 = (0 : Int32)) (N0 : Fr n0 locs) (hK : cells ≤ room_1.cells) (hN : slots ≤ room_1.slots) :
    EndsSo p e below (LQ s n0) T0 (mkF m 303 (FL p0 p1 2 0 t0 t1 t2 t3 t4 c1 c2 (iv 0) (iv 1) (iv t0) (.val (.long 10)) .second .unset) []) := by
  obtain ⟨hx, hZ, hw, Y, hml, hO, hlk, hret⟩ := id G
  refine iN X0 hx (hb Y at_303) rfl <| iL X0 hx (hb Y at_304) rfl <| iB X0 hx (z := 1) (hb Y at_306) <| iS X0 hx (L' := (FL p0 p1 2 0 t0 t1 t2 t3 t4 c1 c2 (iv 0) (iv 1) (iv 1) (.val (.long 10)) .second .unset)) (hb Y at_307) rfl <| iL X0 hx (hb Y at_309) rfl <| iL X0 hx (hb Y at_311) rfl <| iA X0 hx (z := 1) (hb Y at_313) <| iS X0 hx (L' := (FL p0 p1 2 0 t0 t1 t2 t3 t4 c1 c2 (iv 0) (iv 1) (iv 1) (iv 1) .unset .unset)) (hb Y at_314) rfl <| iL X0 hx (hb Y at_316) rfl <| iK X0 hx (z := 1) (hb Y at_318) <| cN X0 hx (hb Y at_319) <| iL X0 hx (hb Y at_322) rfl <| fY X0 hx (pc := 324) 332 (hb Y at_324) <| iL X0 hx (hb Y at_332) rfl <| iK X0 hx (z := 1) (hb Y at_334) <| cN X0 hx (hb Y at_335) <| iL X0 hx (hb Y at_338) rfl <| gT X0 hx (pc := 340) 350 (hb Y at_340) <| iS X0 hx (L' := (FL p0 p1 2 0 t0 t1 t2 t3 t4 c1 c2 (iv 0) (iv 1) (iv 1) (iv 1) (iv t1) .unset)) (hb Y at_350) rfl <| iL X0 hx (hb Y at_352) rfl <| iK X0 hx (z := 1) (hb Y at_354) <| cN X0 hx (hb Y at_355) <| iL X0 hx (hb Y at_358) rfl <| iK X0 hx (z := 1) (hb Y at_360) <| cN X0 hx (hb Y at_361) <| iL X0 hx (hb Y at_364) rfl <| fY X0 hx (pc := 366) 373 (hb Y at_366) (hc := (own_eqT tv1)) <| iK X0 hx (z := 0) (hb Y at_373) <| iS X0 hx (L' := (FL p0 p1 2 0 t0 t1 t2 t3 t4 c1 c2 (iv 0) (iv 1) (iv 1) (iv 1) (iv t1) (iv 0))) (hb Y at_374) rfl <| iL X0 hx (hb Y at_376) rfl <| iL X0 hx (hb Y at_378) rfl <| cN X0 hx (hb Y at_380) <| iK X0 hx (z := 1) (hb Y at_383) <| gT X0 hx (pc := 384) 388 (hb Y at_384) ?_
  exact f_ret X0 hx hlk (i := .ireturn) hret rfl (Or.inl ⟨rfl, Or.inr (Or.inl rfl), _, rfl⟩) (hb Y at_388) (QQ := (QL n0)) ⟨rfl, N0⟩ hK hN
def St35 (Z : State) (h : Heap) (n0 : Nat) (c1 : Nat) (c2 : Nat) (c3 : Nat) (c4 : Nat) (c5 : Nat) (kc1 : ClassId) (kc2 : ClassId) (kc3 : ClassId) (kc4 : ClassId) (r1 : Value) (t0 : Int32) (t1 : Int32) (t2 : Int32) (t3 : Int32) (t4 : Int32) (r0 : Value) : Prop :=
  xO Z h c1 ∧
  Arv Z h c1 kc1 (.object "java/lang/Object") 1 [.null] .null ∧
  Ovr Z kc1 "java/lang/Object" ∧
  Exa Z h c2 cV ∧
  fT Z h c2 (.ref c3) ∧
  fR Z h c2 (.ref c4) ∧
  fC Z h c2 (.ref c5) ∧
  fS Z h c2 (.int 1) ∧
  fO Z h c2 (.int 1) ∧
  aL Z h c3 kc2 2 [(.long 10), (.long 20)] ∧
  xR Z h c4 ∧
  aR Z h c4 kc3 2 [.null, r1] ∧
  oR Z kc3 ∧
  xC Z h c5 ∧
  aC Z h c5 kc4 2 [.null, .null] ∧
  oC Z kc4 ∧
  n0 ≤ c1 ∧
  c1 < c2 ∧
  c2 < c3 ∧
  c3 < c4 ∧
  c4 < c5 ∧
  (t0 = (0 : Int32) ∨ t0 = (1 : Int32)) ∧
  (t1 = (0 : Int32) ∨ t1 = (1 : Int32)) ∧
  (t2 = (0 : Int32) ∨ t2 = (1 : Int32)) ∧
  (t3 = (0 : Int32) ∨ t3 = (1 : Int32)) ∧
  (t4 = (0 : Int32) ∨ t4 = (1 : Int32)) ∧
  r0.isRef = true ∧
  (r0 = .null ∨ r0 = .ref c1) ∧
  ((t0 = (0 : Int32) ∧ r0 = .ref c1) ∨ (t0 = (1 : Int32) ∧ r0 = .null)) ∧
  r1.isRef = true ∧
  (r1 = .null ∨ r1 = .ref c1) ∧
  ((t1 = (0 : Int32) ∧ r1 = .ref c1) ∨ (t1 = (1 : Int32) ∧ r1 = .null)) ∧
  r0 = .null ∧
  r1 = .null
theorem q1199 (l : Launch) (Z : State) (a0 : Array Value) (hw : HW a0 Z) (ws : List Jvm.Cond) (h0 : Heap) (n0 : Nat) (c1 : Nat) (c2 : Nat) (kc3 : ClassId) (r1 : Value) (F_c1_s : fS Z h0 c1 (.int 1)) (F_c1_r : fR Z h0 c1 (.ref c2)) (F_c1_o : fO Z h0 c1 (.int 1)) (V_c2 : aR Z h0 c2 kc3 2 [.null, r1]) (nv_r1 : r1 = .null) :
    MC l Z y4 prog_95_method_7_code 1 (some .boolean) ws rm_0_0_0_0 #[(.ref c1)] h0 (QV (.int 1) h0 n0) := by
  refine own_met (plainFor_of_name pn4) fun p e s m below meth c s₁ X0 hx hZ Y hml hO hnm hlk hret e0 => f_cast (f' := mkF m 0 #[(rv c1)] []) (by first | (simp [entryFrame, mkF, argsToLocals, Value.category]; done) | rfl) ?_
  have N0 := Fr.nil n0
  refine aN X0 hx (hb Y d4_0) rfl rfl <| gF X0 hx hZ hO (w31 hw) Via.refl e0 F_c1_s (hb Y d4_1) fun T1195 X1195 e1195 => ?_
  refine iK X1195 hx (z := 1) (hb Y d4_4) <| cN X1195 hx (hb Y d4_5) <| aN X1195 hx (hb Y d4_8) rfl rfl <| gF X1195 hx hZ hO (w31 hw) Via.refl e1195 F_c1_s (hb Y d4_9) fun T1196 X1196 e1196 => ?_
  refine iK X1196 hx (z := 1) (hb Y d4_12) <| cN X1196 hx (hb Y d4_13) <| aN X1196 hx (hb Y d4_16) rfl rfl <| gF X1196 hx hZ hO (w20 hw) Via.refl e1196 F_c1_r (hb Y d4_17) fun T1197 X1197 e1197 => ?_
  refine aN X1197 hx (hb Y d4_20) rfl rfl <| gF X1197 hx hZ hO (w48 hw) Via.refl e1197 F_c1_o (hb Y d4_21) fun T1198 X1198 e1198 => ?_
  refine f_aald X1198 hx hZ e1198 V_c2 rfl (v := r1) rfl (hb Y d4_24) <| f_ifnonnullNv X1198 hx nv_r1 (hb Y d4_25) <| iK X1198 hx (z := 1) (hb Y d4_28) <| gT X1198 hx (pc := 29) 33 (hb Y d4_29) ?_
  exact f_ret X1198 hx hlk (i := .ireturn) hret rfl (Or.inl ⟨rfl, Or.inr (Or.inl rfl), _, rfl⟩) (hb Y d4_33) (QQ := (QV (.int 1) h0 n0)) ⟨rfl, N0, e1198⟩ (by decide) (by decide)
theorem D0_20  (c1 : Nat) (c2 : Nat) (c3 : Nat) (c4 : Nat) (c5 : Nat) (kc1 : ClassId) (kc2 : ClassId) (kc3 : ClassId) (kc4 : ClassId) (r1 : Value) (t0 : Int32) (t1 : Int32) (t2 : Int32) (t3 : Int32) (t4 : Int32) (r0 : Value) (p0 : Int32) (p1 : Int64) (X0 : Stand p l e room_1 s m args below meth c T0 locs 5 13) (G : SG p s m meth c Z a0) (e0 : T0.heap = h0) (N0 : Fr n0 locs) (P : St35 Z h0 n0 c1 c2 c3 c4 c5 kc1 kc2 kc3 kc4 r1 t0 t1 t2 t3 t4 r0) (hk0 : ∀ (T' : State) (locs' : List Loc), Stand p l e room_1 s m args below meth c T' locs' 5 13 → Fr n0 locs' → EndsSo p e below (LQ s n0) T' (mkF m 209 (FL p0 p1 2 0 t0 t1 t2 t3 t4 c1 c2 (iv 1) .unset .unset .unset .unset .unset) [])) :
    EndsSo p e below (LQ s n0) T0 (mkF m 150 (FL p0 p1 2 0 t0 t1 t2 t3 t4 c1 c2 .unset .unset .unset .unset .unset .unset) []) := by
  obtain ⟨hx, hZ, hw, Y, hml, hO, hlk, hret⟩ := id G
  obtain ⟨E_c1, V_c1, O_c1, E_c2, F_c2_t, F_c2_r, F_c2_c, F_c2_s, F_c2_o, V_c3, E_c4, V_c4, O_c4, E_c5, V_c5, O_c5, g_c1, lt_c1_c2, lt_c2_c3, lt_c3_c4, lt_c4_c5, ht0, ht1, ht2, ht3, ht4, rf_r0, rw_r0, rb_r0, rf_r1, rw_r1, rb_r1, nv_r0, nv_r1⟩ := id P
  refine iL X0 hx (hb Y at_150) rfl <| iK X0 hx (z := 1) (hb Y at_152) <| cY X0 hx (pc := 153) 176 (hb Y at_153) <| iL X0 hx (hb Y at_176) rfl <| iK X0 hx (z := 2) (hb Y at_178) <| cY X0 hx (pc := 179) 202 (hb Y at_179) <| aA X0 hx (hb Y at_202) rfl rfl <| vV X0 hx hZ hO (by rw [hml]; rfl) (w33 hw) (w34 hw) (w36 hw) (w35 hw) (w8 hw) (w37 hw) e0 E_c2 (argsL := []) (rest := []) (q1199 l Z a0 hw [] h0 n0 c2 c4 kc3 r1 F_c2_s F_c2_r F_c2_o V_c4 nv_r1) (lenOf pd3 rfl) (hb Y at_204) fun T1194 L1194 v1194 X1194 hQ1194 => ?_
  obtain ⟨rfl, N1194q, e1194⟩ := hQ1194
  have N1194 := Fr.app N0 N1194q
  refine iS X1194 hx (L' := (FL p0 p1 2 0 t0 t1 t2 t3 t4 c1 c2 (iv 1) .unset .unset .unset .unset .unset)) (hb Y at_207) rfl ?_
  exact hk0 _ _ X1194 N1194
theorem F2_16  {cells slots : Nat} (p0 : Int32) (p1 : Int64) (t0 : Int32) (t1 : Int32) (t2 : Int32) (t3 : Int32) (t4 : Int32) (c1 : Nat) (c2 : Nat) (X0 : Stand p l e room_1 s m args below meth c T0 locs cells slots) (G : SG p s m meth c Z a0) (tv1 : t1 = (1 : Int32)) (N0 : Fr n0 locs) (hK : cells ≤ room_1.cells) (hN : slots ≤ room_1.slots) :
    EndsSo p e below (LQ s n0) T0 (mkF m 303 (FL p0 p1 2 0 t0 t1 t2 t3 t4 c1 c2 (iv 1) (iv 1) (iv t0) (.val (.long 10)) .second .unset) []) := by
  obtain ⟨hx, hZ, hw, Y, hml, hO, hlk, hret⟩ := id G
  refine iN X0 hx (hb Y at_303) rfl <| iL X0 hx (hb Y at_304) rfl <| iB X0 hx (z := 1) (hb Y at_306) <| iS X0 hx (L' := (FL p0 p1 2 0 t0 t1 t2 t3 t4 c1 c2 (iv 1) (iv 1) (iv 1) (.val (.long 10)) .second .unset)) (hb Y at_307) rfl <| iL X0 hx (hb Y at_309) rfl <| iL X0 hx (hb Y at_311) rfl <| iA X0 hx (z := 1) (hb Y at_313) <| iS X0 hx (L' := (FL p0 p1 2 0 t0 t1 t2 t3 t4 c1 c2 (iv 1) (iv 1) (iv 1) (iv 1) .unset .unset)) (hb Y at_314) rfl <| iL X0 hx (hb Y at_316) rfl <| iK X0 hx (z := 1) (hb Y at_318) <| cN X0 hx (hb Y at_319) <| iL X0 hx (hb Y at_322) rfl <| fY X0 hx (pc := 324) 332 (hb Y at_324) <| iL X0 hx (hb Y at_332) rfl <| iK X0 hx (z := 1) (hb Y at_334) <| cN X0 hx (hb Y at_335) <| iL X0 hx (hb Y at_338) rfl <| gT X0 hx (pc := 340) 350 (hb Y at_340) <| iS X0 hx (L' := (FL p0 p1 2 0 t0 t1 t2 t3 t4 c1 c2 (iv 1) (iv 1) (iv 1) (iv 1) (iv t1) .unset)) (hb Y at_350) rfl <| iL X0 hx (hb Y at_352) rfl <| iK X0 hx (z := 1) (hb Y at_354) <| cN X0 hx (hb Y at_355) <| iL X0 hx (hb Y at_358) rfl <| iK X0 hx (z := 1) (hb Y at_360) <| cN X0 hx (hb Y at_361) <| iL X0 hx (hb Y at_364) rfl <| fN X0 hx (hb Y at_366) (hc := (own_eq1 tv1)) <| iK X0 hx (z := 1) (hb Y at_369) <| gT X0 hx (pc := 370) 374 (hb Y at_370) <| iS X0 hx (L' := (FL p0 p1 2 0 t0 t1 t2 t3 t4 c1 c2 (iv 1) (iv 1) (iv 1) (iv 1) (iv t1) (iv 1))) (hb Y at_374) rfl <| iL X0 hx (hb Y at_376) rfl <| iL X0 hx (hb Y at_378) rfl <| cN X0 hx (hb Y at_380) <| iK X0 hx (z := 1) (hb Y at_383) <| gT X0 hx (pc := 384) 388 (hb Y at_384) ?_
  exact f_ret X0 hx hlk (i := .ireturn) hret rfl (Or.inl ⟨rfl, Or.inr (Or.inl rfl), _, rfl⟩) (hb Y at_388) (QQ := (QL n0)) ⟨rfl, N0⟩ hK hN
def St36 (Z : State) (h : Heap) (n0 : Nat) (c1 : Nat) (c2 : Nat) (c3 : Nat) (c4 : Nat) (c5 : Nat) (kc1 : ClassId) (kc2 : ClassId) (kc3 : ClassId) (kc4 : ClassId) (r1 : Value) (t0 : Int32) (t1 : Int32) (t2 : Int32) (t3 : Int32) (t4 : Int32) (r0 : Value) : Prop :=
  xO Z h c1 ∧
  Arv Z h c1 kc1 (.object "java/lang/Object") 1 [.null] .null ∧
  Ovr Z kc1 "java/lang/Object" ∧
  Exa Z h c2 cV ∧
  fT Z h c2 (.ref c3) ∧
  fR Z h c2 (.ref c4) ∧
  fC Z h c2 (.ref c5) ∧
  fS Z h c2 (.int 1) ∧
  fO Z h c2 (.int 1) ∧
  aL Z h c3 kc2 2 [(.long 10), (.long 20)] ∧
  xR Z h c4 ∧
  aR Z h c4 kc3 2 [.null, r1] ∧
  oR Z kc3 ∧
  xC Z h c5 ∧
  aC Z h c5 kc4 2 [.null, .null] ∧
  oC Z kc4 ∧
  n0 ≤ c1 ∧
  c1 < c2 ∧
  c2 < c3 ∧
  c3 < c4 ∧
  c4 < c5 ∧
  (t0 = (0 : Int32) ∨ t0 = (1 : Int32)) ∧
  (t1 = (0 : Int32) ∨ t1 = (1 : Int32)) ∧
  (t2 = (0 : Int32) ∨ t2 = (1 : Int32)) ∧
  (t3 = (0 : Int32) ∨ t3 = (1 : Int32)) ∧
  (t4 = (0 : Int32) ∨ t4 = (1 : Int32)) ∧
  r0.isRef = true ∧
  (r0 = .null ∨ r0 = .ref c1) ∧
  ((t0 = (0 : Int32) ∧ r0 = .ref c1) ∨ (t0 = (1 : Int32) ∧ r0 = .null)) ∧
  r1.isRef = true ∧
  (r1 = .null ∨ r1 = .ref c1) ∧
  ((t1 = (0 : Int32) ∧ r1 = .ref c1) ∨ (t1 = (1 : Int32) ∧ r1 = .null))
theorem D1_21  (c1 : Nat) (c2 : Nat) (c3 : Nat) (c4 : Nat) (c5 : Nat) (kc1 : ClassId) (kc2 : ClassId) (kc3 : ClassId) (kc4 : ClassId) (r1 : Value) (t0 : Int32) (t1 : Int32) (t2 : Int32) (t3 : Int32) (t4 : Int32) (r0 : Value) (p0 : Int32) (p1 : Int64) (X0 : Stand p l e room_1 s m args below meth c T0 locs 5 13) (G : SG p s m meth c Z a0) (e0 : T0.heap = h0) (N0 : Fr n0 locs) (P : St36 Z h0 n0 c1 c2 c3 c4 c5 kc1 kc2 kc3 kc4 r1 t0 t1 t2 t3 t4 r0) (hk0 : ∀ (T' : State) (locs' : List Loc), Stand p l e room_1 s m args below meth c T' locs' 5 13 → Fr n0 locs' → EndsSo p e below (LQ s n0) T' (mkF m 209 (FL p0 p1 2 1 t0 t1 t2 t3 t4 c1 c2 (iv 1) .unset .unset .unset .unset .unset) [])) :
    EndsSo p e below (LQ s n0) T0 (mkF m 150 (FL p0 p1 2 1 t0 t1 t2 t3 t4 c1 c2 .unset .unset .unset .unset .unset .unset) []) := by
  obtain ⟨hx, hZ, hw, Y, hml, hO, hlk, hret⟩ := id G
  obtain ⟨E_c1, V_c1, O_c1, E_c2, F_c2_t, F_c2_r, F_c2_c, F_c2_s, F_c2_o, V_c3, E_c4, V_c4, O_c4, E_c5, V_c5, O_c5, g_c1, lt_c1_c2, lt_c2_c3, lt_c3_c4, lt_c4_c5, ht0, ht1, ht2, ht3, ht4, rf_r0, rw_r0, rb_r0, rf_r1, rw_r1, rb_r1⟩ := id P
  refine iL X0 hx (hb Y at_150) rfl <| iK X0 hx (z := 1) (hb Y at_152) <| cN X0 hx (hb Y at_153) <| aA X0 hx (hb Y at_156) rfl rfl <| f_ldc2 X0 hx hZ hO (w56 hw) (hb Y at_158) <| iL X0 hx (hb Y at_161) rfl <| own_mrg X0 hx (row := c1) ht3 (pc := 163) (hb Y at_163) (hb Y at_170) (hb Y at_166) (hb Y at_167) rfl fun r3 rf_r3 rw_r3 rb_r3 => ?_
  refine f_null X0 hx (hb Y at_172) ?_
  have P1216 : St24 Z h0 n0 c1 c2 c3 c4 c5 kc1 kc2 kc3 kc4 (10 : Int64) (20 : Int64) .null r1 r3 := ⟨E_c1, V_c1, O_c1, E_c2, F_c2_t, F_c2_r, F_c2_c, F_c2_s, F_c2_o, V_c3, E_c4, V_c4, O_c4, E_c5, V_c5, O_c5, g_c1, lt_c1_c2, lt_c2_c3, lt_c3_c4, lt_c4_c5, rfl, (Or.inl rfl), rf_r1, rw_r1, rf_r3, rw_r3⟩
  refine vV X0 hx hZ hO (by rw [hml]; rfl) (w39 hw) (w40 hw) (w42 hw) (w41 hw) (w8 hw) (w43 hw) e0 E_c2 (argsL := [(.long 40), r3, .null]) (rest := []) (m720 l Z a0 hw [] h0 n0 c1 c2 c3 c4 c5 kc1 kc2 kc3 kc4 (10 : Int64) (20 : Int64) .null r1 r3 (40 : Int64) P1216) (lenOf pd5 rfl) (hb Y at_173) fun T1201 L1201 v1201 X1201 hQ1201 => ?_
  obtain ⟨rfl, N1201q, P1201⟩ := hQ1201
  obtain ⟨E_c1, V_c1, O_c1, E_c2, F_c2_t, F_c2_r, F_c2_c, F_c2_s, F_c2_o, V_c3, E_c4, V_c4, O_c4, E_c5, V_c5, O_c5, g_c1, lt_c1_c2, lt_c2_c3, lt_c3_c4, lt_c4_c5, _, _, _, _, _, _⟩ := id P1201
  have N1201 := Fr.app N0 N1201q
  refine iL X1201 hx (hb Y at_176) rfl <| iK X1201 hx (z := 2) (hb Y at_178) <| cY X1201 hx (pc := 179) 202 (hb Y at_179) <| aA X1201 hx (hb Y at_202) rfl rfl <| vV X1201 hx hZ hO (by rw [hml]; rfl) (w33 hw) (w34 hw) (w36 hw) (w35 hw) (w8 hw) (w37 hw) rfl E_c2 (argsL := []) (rest := []) (q136 l Z a0 hw [] T1201.heap n0 c2 F_c2_s) (lenOf pd3 rfl) (hb Y at_204) fun T1217 L1217 v1217 X1217 hQ1217 => ?_
  obtain ⟨rfl, N1217q, e1217⟩ := hQ1217
  have N1217 := Fr.app N1201 N1217q
  refine iS X1217 hx (L' := (FL p0 p1 2 1 t0 t1 t2 t3 t4 c1 c2 (iv 1) .unset .unset .unset .unset .unset)) (hb Y at_207) rfl ?_
  exact hk0 _ _ X1217 N1217
theorem F2_17  {cells slots : Nat} (p0 : Int32) (p1 : Int64) (t0 : Int32) (t1 : Int32) (t2 : Int32) (t3 : Int32) (t4 : Int32) (c1 : Nat) (c2 : Nat) (X0 : Stand p l e room_1 s m args below meth c T0 locs cells slots) (G : SG p s m meth c Z a0) (N0 : Fr n0 locs) (hK : cells ≤ room_1.cells) (hN : slots ≤ room_1.slots) :
    EndsSo p e below (LQ s n0) T0 (mkF m 303 (FL p0 p1 2 1 t0 t1 t2 t3 t4 c1 c2 (iv 1) (iv 1) (iv t0) (.val (.long 10)) .second .unset) []) := by
  obtain ⟨hx, hZ, hw, Y, hml, hO, hlk, hret⟩ := id G
  refine iN X0 hx (hb Y at_303) rfl <| iL X0 hx (hb Y at_304) rfl <| iB X0 hx (z := 1) (hb Y at_306) <| iS X0 hx (L' := (FL p0 p1 2 1 t0 t1 t2 t3 t4 c1 c2 (iv 1) (iv 1) (iv 1) (.val (.long 10)) .second .unset)) (hb Y at_307) rfl <| iL X0 hx (hb Y at_309) rfl <| iL X0 hx (hb Y at_311) rfl <| iA X0 hx (z := 2) (hb Y at_313) <| iS X0 hx (L' := (FL p0 p1 2 1 t0 t1 t2 t3 t4 c1 c2 (iv 1) (iv 1) (iv 1) (iv 2) .unset .unset)) (hb Y at_314) rfl <| iL X0 hx (hb Y at_316) rfl <| iK X0 hx (z := 1) (hb Y at_318) <| cN X0 hx (hb Y at_319) <| iL X0 hx (hb Y at_322) rfl <| fY X0 hx (pc := 324) 332 (hb Y at_324) <| iL X0 hx (hb Y at_332) rfl <| iK X0 hx (z := 1) (hb Y at_334) <| cN X0 hx (hb Y at_335) <| iL X0 hx (hb Y at_338) rfl <| gT X0 hx (pc := 340) 350 (hb Y at_340) <| iS X0 hx (L' := (FL p0 p1 2 1 t0 t1 t2 t3 t4 c1 c2 (iv 1) (iv 1) (iv 1) (iv 2) (iv t1) .unset)) (hb Y at_350) rfl <| iL X0 hx (hb Y at_352) rfl <| iK X0 hx (z := 1) (hb Y at_354) <| cY X0 hx (pc := 355) 369 (hb Y at_355) <| iK X0 hx (z := 1) (hb Y at_369) <| gT X0 hx (pc := 370) 374 (hb Y at_370) <| iS X0 hx (L' := (FL p0 p1 2 1 t0 t1 t2 t3 t4 c1 c2 (iv 1) (iv 1) (iv 1) (iv 2) (iv t1) (iv 1))) (hb Y at_374) rfl <| iL X0 hx (hb Y at_376) rfl <| iL X0 hx (hb Y at_378) rfl <| cN X0 hx (hb Y at_380) <| iK X0 hx (z := 1) (hb Y at_383) <| gT X0 hx (pc := 384) 388 (hb Y at_384) ?_
  exact f_ret X0 hx hlk (i := .ireturn) hret rfl (Or.inl ⟨rfl, Or.inr (Or.inl rfl), _, rfl⟩) (hb Y at_388) (QQ := (QL n0)) ⟨rfl, N0⟩ hK hN
def St37 (Z : State) (h : Heap) (n0 : Nat) (c1 : Nat) (c2 : Nat) (c3 : Nat) (c4 : Nat) (c5 : Nat) (kc1 : ClassId) (kc2 : ClassId) (kc3 : ClassId) (kc4 : ClassId) (uu1 : Int64) (uu2 : Int64) (ww3 : Value) (ww4 : Value) : Prop :=
  xO Z h c1 ∧
  Arv Z h c1 kc1 (.object "java/lang/Object") 1 [.null] .null ∧
  Ovr Z kc1 "java/lang/Object" ∧
  Exa Z h c2 cV ∧
  fT Z h c2 (.ref c3) ∧
  fR Z h c2 (.ref c4) ∧
  fC Z h c2 (.ref c5) ∧
  fS Z h c2 (.int 2) ∧
  fO Z h c2 (.int 1) ∧
  aL Z h c3 kc2 2 [(.long uu1), (.long uu2)] ∧
  xR Z h c4 ∧
  aR Z h c4 kc3 2 [ww3, ww4] ∧
  oR Z kc3 ∧
  xC Z h c5 ∧
  aC Z h c5 kc4 2 [.null, .null] ∧
  oC Z kc4 ∧
  n0 ≤ c1 ∧
  c1 < c2 ∧
  c2 < c3 ∧
  c3 < c4 ∧
  c4 < c5 ∧
  ww3.isRef = true ∧
  (ww3 = .null ∨ ww3 = .ref c1) ∧
  ww4.isRef = true ∧
  (ww4 = .null ∨ ww4 = .ref c1)
def St38 (Z : State) (h : Heap) (n0 : Nat) (c1 : Nat) (c2 : Nat) (c3 : Nat) (c4 : Nat) (c5 : Nat) (b1349 : Nat) (b1350 : Nat) (b1351 : Nat) (kc1 : ClassId) (kc2 : ClassId) (kc3 : ClassId) (kc4 : ClassId) (kb1349 : ClassId) (kb1350 : ClassId) (kb1351 : ClassId) (uu1 : Int64) (uu2 : Int64) (ww3 : Value) (ww4 : Value) : Prop :=
  xO Z h c1 ∧
  Arv Z h c1 kc1 (.object "java/lang/Object") 1 [.null] .null ∧
  Ovr Z kc1 "java/lang/Object" ∧
  Exa Z h c2 cV ∧
  fT Z h c2 (.ref b1349) ∧
  fR Z h c2 (.ref b1350) ∧
  fC Z h c2 (.ref b1351) ∧
  fS Z h c2 (.int 2) ∧
  fO Z h c2 (.int 0) ∧
  aL Z h c3 kc2 2 [(.long uu1), (.long uu2)] ∧
  xR Z h c4 ∧
  aR Z h c4 kc3 2 [ww3, ww4] ∧
  oR Z kc3 ∧
  xC Z h c5 ∧
  aC Z h c5 kc4 2 [.null, .null] ∧
  oC Z kc4 ∧
  aL Z h b1349 kb1349 4 [(.long uu2), (.long uu1), (.long 0), (.long 0)] ∧
  xR Z h b1350 ∧
  aR Z h b1350 kb1350 4 [ww4, ww3, .null, .null] ∧
  oR Z kb1350 ∧
  xC Z h b1351 ∧
  aC Z h b1351 kb1351 4 [.null, .null, .null, .null] ∧
  oC Z kb1351 ∧
  n0 ≤ c1 ∧
  c1 < c2 ∧
  c2 < c3 ∧
  c3 < c4 ∧
  c4 < c5 ∧
  c5 < b1349 ∧
  b1349 < b1350 ∧
  b1350 < b1351 ∧
  ww3.isRef = true ∧
  (ww3 = .null ∨ ww3 = .ref c1) ∧
  ww4.isRef = true ∧
  (ww4 = .null ∨ ww4 = .ref c1)
def Qm1377 (Z : State) (n0 : Nat) (c1 : Nat) (c2 : Nat) (c3 : Nat) (c4 : Nat) (c5 : Nat) (kc1 : ClassId) (kc2 : ClassId) (kc3 : ClassId) (kc4 : ClassId) (uu1 : Int64) (uu2 : Int64) (ww3 : Value) (ww4 : Value) (v : Option Value) (h : Heap) (L : List Loc) : Prop := v = none ∧ Fr n0 L ∧ ∃ (kb1349 : ClassId) (b1349 : Nat) (kb1350 : ClassId) (b1350 : Nat) (kb1351 : ClassId) (b1351 : Nat), St38 Z h n0 c1 c2 c3 c4 c5 b1349 b1350 b1351 kc1 kc2 kc3 kc4 kb1349 kb1350 kb1351 uu1 uu2 ww3 ww4
theorem m1377 (l : Launch) (Z : State) (a0 : Array Value) (hw : HW a0 Z) (ws : List Jvm.Cond) (h0 : Heap) (n0 : Nat) (c1 : Nat) (c2 : Nat) (c3 : Nat) (c4 : Nat) (c5 : Nat) (kc1 : ClassId) (kc2 : ClassId) (kc3 : ClassId) (kc4 : ClassId) (uu1 : Int64) (uu2 : Int64) (ww3 : Value) (ww4 : Value) (P : St37 Z h0 n0 c1 c2 c3 c4 c5 kc1 kc2 kc3 kc4 uu1 uu2 ww3 ww4) :
    MC l Z y8 prog_95_method_10_code 7 none ws rm_1_3_12_13 #[(.ref c2), (.int 4)] h0 (Qm1377 Z n0 c1 c2 c3 c4 c5 kc1 kc2 kc3 kc4 uu1 uu2 ww3 ww4) := by
  obtain ⟨E_c1, V_c1, O_c1, E_c2, F_c2_t, F_c2_r, F_c2_c, F_c2_s, F_c2_o, V_c3, E_c4, V_c4, O_c4, E_c5, V_c5, O_c5, g_c1, lt_c1_c2, lt_c2_c3, lt_c3_c4, lt_c4_c5, rf_ww3, rw_ww3, rf_ww4, rw_ww4⟩ := id P
  refine own_met (plainFor_of_name pn8) fun p e s m below meth c s₁ X0 hx hZ Y hml hO hnm hlk hret e0 => f_cast (f' := mkF m 0 #[(rv c2), (iv 4), .unset, .unset, .unset, .unset, .unset] []) (by first | (simp [entryFrame, mkF, argsToLocals, Value.category]; done) | rfl) ?_
  have N0 := Fr.nil n0
  refine iN X0 hx (hb Y d8_0) rfl <| f_newP X0 hx hZ (aty := .long) (w15 hw) e0 (hb Y d8_1) 4 fun T1349 h1349 kb1349 b1349 g1349 X1349 e1349 E1349 V_b1349 => ?_
  have lt_c5_b1349 : c5 < b1349 := by have := own_ltE E_c5; omega
  refine f_astoreN X1349 hx (L' := #[(rv c2), (iv 4), (rv b1349), .unset, .unset, .unset, .unset]) (hb Y d8_3) rfl rfl <| iN X1349 hx (hb Y d8_4) rfl <| f_newRA X1349 hx hZ hO (ty := (.object "java/lang/Object")) (by decide +kernel) (w18 hw) (w19 hw) e1349 (hb Y d8_5) 4 (ad := "[[Ljava/lang/Object;") (by decide +kernel) fun T1350 h1350 kb1350 b1350 g1350 X1350 e1350 E1350 V_b1350 E_b1350 O_b1350 => ?_
  have lt_b1349_b1350 : b1349 < b1350 := by have := own_ltV V_b1349; omega
  refine f_astoreN X1350 hx (L' := #[(rv c2), (iv 4), (rv b1349), (rv b1350), .unset, .unset, .unset]) (hb Y d8_8) rfl rfl <| iN X1350 hx (hb Y d8_9) rfl <| f_newRA X1350 hx hZ hO (ty := .int) (by decide +kernel) (w22 hw) (w23 hw) e1350 (hb Y d8_10) 4 (ad := "[[I") (by decide +kernel) fun T1351 h1351 kb1351 b1351 g1351 X1351 e1351 E1351 V_b1351 E_b1351 O_b1351 => ?_
  have lt_b1350_b1351 : b1350 < b1351 := by have := own_ltE E_b1350; omega
  refine f_astore X1351 hx (L' := #[(rv c2), (iv 4), (rv b1349), (rv b1350), (rv b1351), .unset, .unset]) (hb Y d8_13) rfl rfl <| iK X1351 hx (z := 0) (hb Y d8_15) <| iS X1351 hx (L' := #[(rv c2), (iv 4), (rv b1349), (rv b1350), (rv b1351), (iv 0), .unset]) (hb Y d8_16) rfl <| iL X1351 hx (hb Y d8_18) rfl <| aN X1351 hx (hb Y d8_20) rfl rfl ?_
  replace F_c2_s := (fe E1351 (fe E1350 (fe E1349 F_c2_s)))
  refine gF X1351 hx hZ hO (w31 hw) Via.refl e1351 F_c2_s (hb Y d8_21) fun T1352 X1352 e1352 => ?_
  refine cN X1352 hx (hb Y d8_24) <| aN X1352 hx (hb Y d8_27) rfl rfl <| iL X1352 hx (hb Y d8_28) rfl ?_
  replace F_c2_o := (fe E1351 (fe E1350 (fe E1349 F_c2_o)))
  replace F_c2_t := (fe E1351 (fe E1350 (fe E1349 F_c2_t)))
  replace V_c3 := (ve (ve (ve V_c3 E1349) E1350) E1351)
  replace E_c2 := (xe E1351 (xe E1350 (xe E1349 E_c2)))
  refine pV X1352 hx hZ hO (by rw [hml]; rfl) (w44 hw) (w45 hw) (w46 hw) (w7 hw) (w8 hw) (w47 hw) e1352 E_c2 (argsL := [(.int 0)]) (rest := []) (q649 l Z a0 hw [] h1351 n0 c2 c3 kc2 _ F_c2_o F_c2_t V_c3) (lenOf pd4 rfl) (hb Y d8_30) fun T1353 L1353 v1353 X1353 hQ1353 => ?_
  obtain ⟨rfl, N1353q, e1353⟩ := hQ1353
  have N1353 := Fr.app N0 N1353q
  refine iS X1353 hx (L' := #[(rv c2), (iv 4), (rv b1349), (rv b1350), (rv b1351), (iv 0), (iv 1)]) (hb Y d8_33) rfl <| aN X1353 hx (hb Y d8_35) rfl rfl <| iL X1353 hx (hb Y d8_36) rfl <| aN X1353 hx (hb Y d8_38) rfl rfl <| gF X1353 hx hZ hO (w16 hw) Via.refl e1353 F_c2_t (hb Y d8_39) fun T1356 X1356 e1356 => ?_
  refine iL X1356 hx (hb Y d8_42) rfl <| f_lald X1356 hx hZ e1356 V_c3 (v := (.long uu2)) rfl (hb Y d8_44) ?_
  replace V_b1349 := (ve (ve V_b1349 E1350) E1351)
  refine f_lst X1356 hx hZ e1356 V_b1349 0 (hb Y d8_45) fun T1357 h1357 X1357 e1357 W1357 V1357 => ?_
  have N1357x := Fr.snoc X1357 N1353 (by omega : n0 ≤ b1349)
  refine aN X1357 hx (hb Y d8_46) rfl rfl <| iL X1357 hx (hb Y d8_47) rfl <| aN X1357 hx (hb Y d8_49) rfl rfl ?_
  replace F_c2_r := (fo W1357 (fe E1351 (fe E1350 (fe E1349 F_c2_r))))
  refine gF X1357 hx hZ hO (w20 hw) Via.refl e1357 F_c2_r (hb Y d8_50) fun T1358 X1358 e1358 => ?_
  refine iL X1358 hx (hb Y d8_53) rfl ?_
  replace V_c4 := (vo (ve (ve (ve V_c4 E1349) E1350) E1351) W1357)
  refine f_aald X1358 hx hZ e1358 V_c4 rfl (v := ww4) rfl (hb Y d8_55) ?_
  replace V_b1350 := (vo (ve V_b1350 E1351) W1357)
  replace E_c1 := (xw W1357 (xe E1351 (xe E1350 (xe E1349 E_c1))))
  refine f_ast X1358 hx hZ e1358 V_b1350 rfl (own_sto rw_ww4 (own_stoVA V_b1350 O_b1350 (Ins.self E_c1))) (own_fits rf_ww4) 0 (hb Y d8_56) fun T1359 h1359 X1359 e1359 W1359 V1359 => ?_
  have N1359x := Fr.snoc X1359 N1357x (by omega : n0 ≤ b1350)
  refine aA X1359 hx (hb Y d8_57) rfl rfl <| iL X1359 hx (hb Y d8_59) rfl <| aN X1359 hx (hb Y d8_61) rfl rfl ?_
  replace F_c2_c := (fo W1359 (fo W1357 (fe E1351 (fe E1350 (fe E1349 F_c2_c)))))
  refine gF X1359 hx hZ hO (w24 hw) Via.refl e1359 F_c2_c (hb Y d8_62) fun T1360 X1360 e1360 => ?_
  refine iL X1360 hx (hb Y d8_65) rfl ?_
  replace V_c5 := (vo (vo (ve (ve (ve V_c5 E1349) E1350) E1351) W1357) W1359)
  refine f_aald X1360 hx hZ e1360 V_c5 rfl (v := .null) rfl (hb Y d8_67) ?_
  replace V_b1351 := (vo (vo V_b1351 W1357) W1359)
  refine f_ast X1360 hx hZ e1360 V_b1351 rfl (Or.inl rfl) rfl 0 (hb Y d8_68) fun T1361 h1361 X1361 e1361 W1361 V1361 => ?_
  have N1361x := Fr.snoc X1361 N1359x (by omega : n0 ≤ b1351)
  refine f_iinc X1361 hx (L' := #[(rv c2), (iv 4), (rv b1349), (rv b1350), (rv b1351), (iv 1), (iv 1)]) (hb Y d8_69) rfl rfl <| gT X1361 hx (pc := 72) 18 (hb Y d8_72) <| iL X1361 hx (hb Y d8_18) rfl <| aN X1361 hx (hb Y d8_20) rfl rfl ?_
  replace F_c2_s := (fo W1361 (fo W1359 (fo W1357 F_c2_s)))
  refine gF X1361 hx hZ hO (w31 hw) Via.refl e1361 F_c2_s (hb Y d8_21) fun T1362 X1362 e1362 => ?_
  refine cN X1362 hx (hb Y d8_24) <| aN X1362 hx (hb Y d8_27) rfl rfl <| iL X1362 hx (hb Y d8_28) rfl ?_
  replace F_c2_o := (fo W1361 (fo W1359 (fo W1357 F_c2_o)))
  replace F_c2_t := (fo W1361 (fo W1359 (fo W1357 F_c2_t)))
  replace V_c3 := (vo (vo (vo V_c3 W1357) W1359) W1361)
  replace E_c2 := (xw W1361 (xw W1359 (xw W1357 E_c2)))
  refine pV X1362 hx hZ hO (by rw [hml]; rfl) (w44 hw) (w45 hw) (w46 hw) (w7 hw) (w8 hw) (w47 hw) e1362 E_c2 (argsL := [(.int 1)]) (rest := []) (q711 l Z a0 hw [] h1361 n0 c2 c3 kc2 _ F_c2_o F_c2_t V_c3) (lenOf pd4 rfl) (hb Y d8_30) fun T1363 L1363 v1363 X1363 hQ1363 => ?_
  obtain ⟨rfl, N1363q, e1363⟩ := hQ1363
  have N1363 := Fr.app N1361x N1363q
  refine iS X1363 hx (L' := #[(rv c2), (iv 4), (rv b1349), (rv b1350), (rv b1351), (iv 1), (iv 0)]) (hb Y d8_33) rfl <| aN X1363 hx (hb Y d8_35) rfl rfl <| iL X1363 hx (hb Y d8_36) rfl <| aN X1363 hx (hb Y d8_38) rfl rfl <| gF X1363 hx hZ hO (w16 hw) Via.refl e1363 F_c2_t (hb Y d8_39) fun T1366 X1366 e1366 => ?_
  refine iL X1366 hx (hb Y d8_42) rfl <| f_lald X1366 hx hZ e1366 V_c3 (v := (.long uu1)) rfl (hb Y d8_44) ?_
  replace V_b1349 := (vo (vo V1357 W1359) W1361)
  refine f_lst X1366 hx hZ e1366 V_b1349 1 (hb Y d8_45) fun T1367 h1367 X1367 e1367 W1367 V1367 => ?_
  have N1367x := Fr.snoc X1367 N1363 (by omega : n0 ≤ b1349)
  refine aN X1367 hx (hb Y d8_46) rfl rfl <| iL X1367 hx (hb Y d8_47) rfl <| aN X1367 hx (hb Y d8_49) rfl rfl ?_
  replace F_c2_r := (fo W1367 (fo W1361 (fo W1359 F_c2_r)))
  refine gF X1367 hx hZ hO (w20 hw) Via.refl e1367 F_c2_r (hb Y d8_50) fun T1368 X1368 e1368 => ?_
  refine iL X1368 hx (hb Y d8_53) rfl ?_
  replace V_c4 := (vo (vo (vo V_c4 W1359) W1361) W1367)
  refine f_aald X1368 hx hZ e1368 V_c4 rfl (v := ww3) rfl (hb Y d8_55) ?_
  replace V_b1350 := (vo (vo V1359 W1361) W1367)
  replace E_c1 := (xw W1367 (xw W1361 (xw W1359 E_c1)))
  refine f_ast X1368 hx hZ e1368 V_b1350 rfl (own_sto rw_ww3 (own_stoVA V_b1350 O_b1350 (Ins.self E_c1))) (own_fits rf_ww3) 1 (hb Y d8_56) fun T1369 h1369 X1369 e1369 W1369 V1369 => ?_
  have N1369x := Fr.snoc X1369 N1367x (by omega : n0 ≤ b1350)
  refine aA X1369 hx (hb Y d8_57) rfl rfl <| iL X1369 hx (hb Y d8_59) rfl <| aN X1369 hx (hb Y d8_61) rfl rfl ?_
  replace F_c2_c := (fo W1369 (fo W1367 (fo W1361 F_c2_c)))
  refine gF X1369 hx hZ hO (w24 hw) Via.refl e1369 F_c2_c (hb Y d8_62) fun T1370 X1370 e1370 => ?_
  refine iL X1370 hx (hb Y d8_65) rfl ?_
  replace V_c5 := (vo (vo (vo V_c5 W1361) W1367) W1369)
  refine f_aald X1370 hx hZ e1370 V_c5 rfl (v := .null) rfl (hb Y d8_67) ?_
  replace V_b1351 := (vo (vo V1361 W1367) W1369)
  refine f_ast X1370 hx hZ e1370 V_b1351 rfl (Or.inl rfl) rfl 1 (hb Y d8_68) fun T1371 h1371 X1371 e1371 W1371 V1371 => ?_
  have N1371x := Fr.snoc X1371 N1369x (by omega : n0 ≤ b1351)
  refine f_iinc X1371 hx (L' := #[(rv c2), (iv 4), (rv b1349), (rv b1350), (rv b1351), (iv 2), (iv 0)]) (hb Y d8_69) rfl rfl <| gT X1371 hx (pc := 72) 18 (hb Y d8_72) <| iL X1371 hx (hb Y d8_18) rfl <| aN X1371 hx (hb Y d8_20) rfl rfl ?_
  replace F_c2_s := (fo W1371 (fo W1369 (fo W1367 F_c2_s)))
  refine gF X1371 hx hZ hO (w31 hw) Via.refl e1371 F_c2_s (hb Y d8_21) fun T1372 X1372 e1372 => ?_
  refine cY X1372 hx (pc := 24) 75 (hb Y d8_24) <| aN X1372 hx (hb Y d8_75) rfl rfl <| aN X1372 hx (hb Y d8_76) rfl rfl ?_
  replace F_c2_t := (fo W1371 (fo W1369 (fo W1367 F_c2_t)))
  replace E_c2 := (xw W1371 (xw W1369 (xw W1367 E_c2)))
  refine f_putF X1372 hx hZ hO (w16 hw) Via.refl e1372 F_c2_t E_c2 (Or.inl (w17 hw)) (w7 hw) (ty := (.array .long)) (by decide) rfl rfl (hb Y d8_77) fun T1373 h1373 X1373 e1373 W1373 => ?_
  have N1373x := Fr.snoc X1373 N1371x (by omega : n0 ≤ c2)
  refine aN X1373 hx (hb Y d8_80) rfl rfl <| aN X1373 hx (hb Y d8_81) rfl rfl ?_
  replace F_c2_r := (Fld.other W1373 (fo W1371 (fo W1369 F_c2_r)) (Or.inr (slot_ne (Or.inl (w21 hw)) (Or.inl (w17 hw)) (by decide) (t := (.array (.array (.object "java/lang/Object")))) (t' := (.array .long)) (by decide) (by decide))))
  replace E_c2 := (xw W1373 E_c2)
  refine f_putF X1373 hx hZ hO (w20 hw) Via.refl e1373 F_c2_r E_c2 (Or.inl (w21 hw)) (w7 hw) (ty := (.array (.array (.object "java/lang/Object")))) (by decide) rfl rfl (hb Y d8_82) fun T1374 h1374 X1374 e1374 W1374 => ?_
  have N1374x := Fr.snoc X1374 N1373x (by omega : n0 ≤ c2)
  refine aN X1374 hx (hb Y d8_85) rfl rfl <| aA X1374 hx (hb Y d8_86) rfl rfl ?_
  replace F_c2_c := (Fld.other W1374 (Fld.other W1373 (fo W1371 F_c2_c) (Or.inr (slot_ne (Or.inl (w25 hw)) (Or.inl (w17 hw)) (by decide) (t := (.array (.array .int))) (t' := (.array .long)) (by decide) (by decide)))) (Or.inr (slot_ne (Or.inl (w25 hw)) (Or.inl (w21 hw)) (by decide) (t := (.array (.array .int))) (t' := (.array (.array (.object "java/lang/Object")))) (by decide) (by decide))))
  replace E_c2 := (xw W1374 E_c2)
  refine f_putF X1374 hx hZ hO (w24 hw) Via.refl e1374 F_c2_c E_c2 (Or.inl (w25 hw)) (w7 hw) (ty := (.array (.array .int))) (by decide) rfl rfl (hb Y d8_88) fun T1375 h1375 X1375 e1375 W1375 => ?_
  have N1375x := Fr.snoc X1375 N1374x (by omega : n0 ≤ c2)
  refine aN X1375 hx (hb Y d8_91) rfl rfl <| iK X1375 hx (z := 0) (hb Y d8_92) ?_
  replace F_c2_o := (Fld.other W1375 (Fld.other W1374 (Fld.other W1373 (fo W1371 (fo W1369 (fo W1367 F_c2_o))) (Or.inr (slot_ne (Or.inl (w49 hw)) (Or.inl (w17 hw)) (by decide) (t := .int) (t' := (.array .long)) (by decide) (by decide)))) (Or.inr (slot_ne (Or.inl (w49 hw)) (Or.inl (w21 hw)) (by decide) (t := .int) (t' := (.array (.array (.object "java/lang/Object")))) (by decide) (by decide)))) (Or.inr (slot_ne (Or.inl (w49 hw)) (Or.inl (w25 hw)) (by decide) (t := .int) (t' := (.array (.array .int))) (by decide) (by decide))))
  replace E_c2 := (xw W1375 E_c2)
  refine f_putF X1375 hx hZ hO (w48 hw) Via.refl e1375 F_c2_o E_c2 (Or.inl (w49 hw)) (w7 hw) (ty := .int) (by decide) rfl rfl (hb Y d8_93) fun T1376 h1376 X1376 e1376 W1376 => ?_
  have N1376x := Fr.snoc X1376 N1375x (by omega : n0 ≤ c2)
  exact f_ret0 X1376 hx hlk hret (hb Y d8_96) (QQ := (Qm1377 Z n0 c1 c2 c3 c4 c5 kc1 kc2 kc3 kc4 uu1 uu2 ww3 ww4)) (by rw [e1376]; exact ⟨rfl, N1376x, kb1349, b1349, kb1350, b1350, kb1351, b1351, (xw W1376 (xw W1375 (xw W1374 (xw W1373 (xw W1371 (xw W1369 E_c1)))))), (vo (vo (vo (vo (vo (vo (vo (vo (vo (vo (ve (ve (ve V_c1 E1349) E1350) E1351) W1357) W1359) W1361) W1367) W1369) W1371) W1373) W1374) W1375) W1376), O_c1, (xw W1376 E_c2), (Fld.other W1376 (Fld.other W1375 (Fld.other W1374 (Fld.same W1373 F_c2_t) (Or.inr (slot_ne (Or.inl (w17 hw)) (Or.inl (w21 hw)) (by decide) (t := (.array .long)) (t' := (.array (.array (.object "java/lang/Object")))) (by decide) (by decide)))) (Or.inr (slot_ne (Or.inl (w17 hw)) (Or.inl (w25 hw)) (by decide) (t := (.array .long)) (t' := (.array (.array .int))) (by decide) (by decide)))) (Or.inr (slot_ne (Or.inl (w17 hw)) (Or.inl (w49 hw)) (by decide) (t := (.array .long)) (t' := .int) (by decide) (by decide)))), (Fld.other W1376 (Fld.other W1375 (Fld.same W1374 F_c2_r) (Or.inr (slot_ne (Or.inl (w21 hw)) (Or.inl (w25 hw)) (by decide) (t := (.array (.array (.object "java/lang/Object")))) (t' := (.array (.array .int))) (by decide) (by decide)))) (Or.inr (slot_ne (Or.inl (w21 hw)) (Or.inl (w49 hw)) (by decide) (t := (.array (.array (.object "java/lang/Object")))) (t' := .int) (by decide) (by decide)))), (Fld.other W1376 (Fld.same W1375 F_c2_c) (Or.inr (slot_ne (Or.inl (w25 hw)) (Or.inl (w49 hw)) (by decide) (t := (.array (.array .int))) (t' := .int) (by decide) (by decide)))), (Fld.other W1376 (Fld.other W1375 (Fld.other W1374 (Fld.other W1373 F_c2_s (Or.inr (slot_ne (Or.inl (w32 hw)) (Or.inl (w17 hw)) (by decide) (t := .int) (t' := (.array .long)) (by decide) (by decide)))) (Or.inr (slot_ne (Or.inl (w32 hw)) (Or.inl (w21 hw)) (by decide) (t := .int) (t' := (.array (.array (.object "java/lang/Object")))) (by decide) (by decide)))) (Or.inr (slot_ne (Or.inl (w32 hw)) (Or.inl (w25 hw)) (by decide) (t := .int) (t' := (.array (.array .int))) (by decide) (by decide)))) (Or.inr (slot_ne (Or.inl (w32 hw)) (Or.inl (w49 hw)) (by decide) (t := .int) (t' := .int) (by decide) (by decide)))), (Fld.same W1376 F_c2_o), (vo (vo (vo (vo (vo (vo (vo V_c3 W1367) W1369) W1371) W1373) W1374) W1375) W1376), (xw W1376 (xw W1375 (xw W1374 (xw W1373 (xw W1371 (xw W1369 (xw W1367 (xw W1361 (xw W1359 (xw W1357 (xe E1351 (xe E1350 (xe E1349 E_c4))))))))))))), (vo (vo (vo (vo (vo (vo V_c4 W1369) W1371) W1373) W1374) W1375) W1376), O_c4, (xw W1376 (xw W1375 (xw W1374 (xw W1373 (xw W1371 (xw W1369 (xw W1367 (xw W1361 (xw W1359 (xw W1357 (xe E1351 (xe E1350 (xe E1349 E_c5))))))))))))), (vo (vo (vo (vo (vo V_c5 W1371) W1373) W1374) W1375) W1376), O_c5, (vo (vo (vo (vo (vo (vo V1367 W1369) W1371) W1373) W1374) W1375) W1376), (xw W1376 (xw W1375 (xw W1374 (xw W1373 (xw W1371 (xw W1369 (xw W1367 (xw W1361 (xw W1359 (xw W1357 (xe E1351 E_b1350))))))))))), (vo (vo (vo (vo (vo V1369 W1371) W1373) W1374) W1375) W1376), O_b1350, (xw W1376 (xw W1375 (xw W1374 (xw W1373 (xw W1371 (xw W1369 (xw W1367 (xw W1361 (xw W1359 (xw W1357 E_b1351)))))))))), (vo (vo (vo (vo V1371 W1373) W1374) W1375) W1376), O_b1351, g_c1, lt_c1_c2, lt_c2_c3, lt_c3_c4, lt_c4_c5, lt_c5_b1349, lt_b1349_b1350, lt_b1350_b1351, rf_ww3, rw_ww3, rf_ww4, rw_ww4⟩) (by decide) (by decide)
def St39 (Z : State) (h : Heap) (n0 : Nat) (c1 : Nat) (c2 : Nat) (c3 : Nat) (c4 : Nat) (c5 : Nat) (kc1 : ClassId) (kc2 : ClassId) (kc3 : ClassId) (kc4 : ClassId) (uu1 : Int64) (uu2 : Int64) (ww3 : Value) (ww4 : Value) (ww6 : Value) : Prop :=
  xO Z h c1 ∧
  Arv Z h c1 kc1 (.object "java/lang/Object") 1 [.null] .null ∧
  Ovr Z kc1 "java/lang/Object" ∧
  Exa Z h c2 cV ∧
  fT Z h c2 (.ref c3) ∧
  fR Z h c2 (.ref c4) ∧
  fC Z h c2 (.ref c5) ∧
  fS Z h c2 (.int 2) ∧
  fO Z h c2 (.int 1) ∧
  aL Z h c3 kc2 2 [(.long uu1), (.long uu2)] ∧
  xR Z h c4 ∧
  aR Z h c4 kc3 2 [ww3, ww4] ∧
  oR Z kc3 ∧
  xC Z h c5 ∧
  aC Z h c5 kc4 2 [.null, .null] ∧
  oC Z kc4 ∧
  n0 ≤ c1 ∧
  c1 < c2 ∧
  c2 < c3 ∧
  c3 < c4 ∧
  c4 < c5 ∧
  ww3.isRef = true ∧
  (ww3 = .null ∨ ww3 = .ref c1) ∧
  ww4.isRef = true ∧
  (ww4 = .null ∨ ww4 = .ref c1) ∧
  ww6.isRef = true ∧
  (ww6 = .null ∨ ww6 = .ref c1)
def St40 (Z : State) (h : Heap) (n0 : Nat) (c1 : Nat) (c2 : Nat) (c3 : Nat) (c4 : Nat) (c5 : Nat) (b1379 : Nat) (b1381 : Nat) (b1383 : Nat) (kc1 : ClassId) (kc2 : ClassId) (kc3 : ClassId) (kc4 : ClassId) (kb1378 : ClassId) (kb1380 : ClassId) (kb1382 : ClassId) (uu1 : Int64) (uu2 : Int64) (ww3 : Value) (ww4 : Value) (uu5 : Int64) (ww6 : Value) : Prop :=
  xO Z h c1 ∧
  Arv Z h c1 kc1 (.object "java/lang/Object") 1 [.null] .null ∧
  Ovr Z kc1 "java/lang/Object" ∧
  Exa Z h c2 cV ∧
  fT Z h c2 (.ref b1379) ∧
  fR Z h c2 (.ref b1381) ∧
  fC Z h c2 (.ref b1383) ∧
  fS Z h c2 (.int 3) ∧
  fO Z h c2 (.int 0) ∧
  aL Z h c3 kc2 2 [(.long uu1), (.long uu2)] ∧
  xR Z h c4 ∧
  aR Z h c4 kc3 2 [ww3, ww4] ∧
  oR Z kc3 ∧
  xC Z h c5 ∧
  aC Z h c5 kc4 2 [.null, .null] ∧
  oC Z kc4 ∧
  aL Z h b1379 kb1378 4 [(.long uu2), (.long uu1), (.long uu5), (.long 0)] ∧
  xR Z h b1381 ∧
  aR Z h b1381 kb1380 4 [ww4, ww3, ww6, .null] ∧
  oR Z kb1380 ∧
  xC Z h b1383 ∧
  aC Z h b1383 kb1382 4 [.null, .null, .null, .null] ∧
  oC Z kb1382 ∧
  n0 ≤ c1 ∧
  c1 < c2 ∧
  c2 < c3 ∧
  c3 < c4 ∧
  c4 < c5 ∧
  c5 < b1379 ∧
  b1379 < b1381 ∧
  b1381 < b1383 ∧
  ww3.isRef = true ∧
  (ww3 = .null ∨ ww3 = .ref c1) ∧
  ww4.isRef = true ∧
  (ww4 = .null ∨ ww4 = .ref c1) ∧
  ww6.isRef = true ∧
  (ww6 = .null ∨ ww6 = .ref c1)
def Qm1397 (Z : State) (n0 : Nat) (c1 : Nat) (c2 : Nat) (c3 : Nat) (c4 : Nat) (c5 : Nat) (kc1 : ClassId) (kc2 : ClassId) (kc3 : ClassId) (kc4 : ClassId) (uu1 : Int64) (uu2 : Int64) (ww3 : Value) (ww4 : Value) (ww6 : Value) (uu5 : Int64) (v : Option Value) (h : Heap) (L : List Loc) : Prop := v = none ∧ Fr n0 L ∧ ∃ (kb1378 : ClassId) (b1379 : Nat) (kb1380 : ClassId) (b1381 : Nat) (kb1382 : ClassId) (b1383 : Nat), St40 Z h n0 c1 c2 c3 c4 c5 b1379 b1381 b1383 kc1 kc2 kc3 kc4 kb1378 kb1380 kb1382 uu1 uu2 ww3 ww4 uu5 ww6
theorem m1397 (l : Launch) (Z : State) (a0 : Array Value) (hw : HW a0 Z) (ws : List Jvm.Cond) (h0 : Heap) (n0 : Nat) (c1 : Nat) (c2 : Nat) (c3 : Nat) (c4 : Nat) (c5 : Nat) (kc1 : ClassId) (kc2 : ClassId) (kc3 : ClassId) (kc4 : ClassId) (uu1 : Int64) (uu2 : Int64) (ww3 : Value) (ww4 : Value) (ww6 : Value) (uu5 : Int64) (P : St39 Z h0 n0 c1 c2 c3 c4 c5 kc1 kc2 kc3 kc4 uu1 uu2 ww3 ww4 ww6) :
    MC l Z y5 prog_95_method_3_code 6 none ws rm_2_3_12_31 #[(.ref c2), (.long uu5), ww6, .null] h0 (Qm1397 Z n0 c1 c2 c3 c4 c5 kc1 kc2 kc3 kc4 uu1 uu2 ww3 ww4 ww6 uu5) := by
  obtain ⟨E_c1, V_c1, O_c1, E_c2, F_c2_t, F_c2_r, F_c2_c, F_c2_s, F_c2_o, V_c3, E_c4, V_c4, O_c4, E_c5, V_c5, O_c5, g_c1, lt_c1_c2, lt_c2_c3, lt_c3_c4, lt_c4_c5, rf_ww3, rw_ww3, rf_ww4, rw_ww4, rf_ww6, rw_ww6⟩ := id P
  refine own_met (plainFor_of_name pn5) fun p e s m below meth c s₁ X0 hx hZ Y hml hO hnm hlk hret e0 => f_cast (f' := mkF m 0 #[(rv c2), (.val (.long uu5)), .second, (.val ww6), (.val .null), .unset] []) (by rcases ref_cases rf_ww6 with q | ⟨_, q⟩ <;> (rw [q]; first | (simp [entryFrame, mkF, argsToLocals, Value.category]; done) | rfl)) ?_
  have N0 := Fr.nil n0
  refine aN X0 hx (hb Y d5_0) rfl rfl <| gF X0 hx hZ hO (w31 hw) Via.refl e0 F_c2_s (hb Y d5_1) fun T1317 X1317 e1317 => ?_
  refine aN X1317 hx (hb Y d5_4) rfl rfl <| gF X1317 hx hZ hO (w16 hw) Via.refl e1317 F_c2_t (hb Y d5_5) fun T1318 X1318 e1318 => ?_
  refine f_len X1318 hx hZ e1318 V_c3 (hb Y d5_8) <| cN X1318 hx (hb Y d5_9) <| aN X1318 hx (hb Y d5_12) rfl rfl <| iK X1318 hx (z := 2) (hb Y d5_13) <| aN X1318 hx (hb Y d5_14) rfl rfl <| gF X1318 hx hZ hO (w31 hw) Via.refl e1318 F_c2_s (hb Y d5_15) fun T1319 X1319 e1319 => ?_
  refine f_imul X1319 hx (z := 4) (hb Y d5_18) ?_
  have P1384 : St37 Z h0 n0 c1 c2 c3 c4 c5 kc1 kc2 kc3 kc4 uu1 uu2 ww3 ww4 := ⟨E_c1, V_c1, O_c1, E_c2, F_c2_t, F_c2_r, F_c2_c, F_c2_s, F_c2_o, V_c3, E_c4, V_c4, O_c4, E_c5, V_c5, O_c5, g_c1, lt_c1_c2, lt_c2_c3, lt_c3_c4, lt_c4_c5, rf_ww3, rw_ww3, rf_ww4, rw_ww4⟩
  refine pV X1319 hx hZ hO (by rw [hml]; rfl) (w58 hw) (w59 hw) (w60 hw) (w7 hw) (w8 hw) (w61 hw) e1319 E_c2 (argsL := [(.int 4)]) (rest := []) (m1377 l Z a0 hw [] h0 n0 c1 c2 c3 c4 c5 kc1 kc2 kc3 kc4 uu1 uu2 ww3 ww4 P1384) (lenOf pd6 rfl) (hb Y d5_19) fun T1320 L1320 v1320 X1320 hQ1320 => ?_
  obtain ⟨rfl, N1320q, kb1378, b1379, kb1380, b1381, kb1382, b1383, P1320⟩ := hQ1320
  obtain ⟨E_c1, V_c1, O_c1, E_c2, F_c2_t, F_c2_r, F_c2_c, F_c2_s, F_c2_o, V_c3, E_c4, V_c4, O_c4, E_c5, V_c5, O_c5, V_b1379, E_b1381, V_b1381, O_b1381, E_b1383, V_b1383, O_b1383, g_c1, lt_c1_c2, lt_c2_c3, lt_c3_c4, lt_c4_c5, lt_c5_b1379, lt_b1379_b1381, lt_b1381_b1383, _, _, _, _⟩ := id P1320
  have N1320 := Fr.app N0 N1320q
  refine aN X1320 hx (hb Y d5_22) rfl rfl <| aN X1320 hx (hb Y d5_23) rfl rfl <| gF X1320 hx hZ hO (w31 hw) Via.refl rfl F_c2_s (hb Y d5_24) fun T1385 X1385 e1385 => ?_
  refine pV X1385 hx hZ hO (by rw [hml]; rfl) (w44 hw) (w45 hw) (w46 hw) (w7 hw) (w8 hw) (w47 hw) e1385 E_c2 (argsL := [(.int 2)]) (rest := []) (q443 l Z a0 hw [] T1320.heap n0 c2 b1379 kb1378 _ F_c2_o F_c2_t V_b1379) (lenOf pd4 rfl) (hb Y d5_27) fun T1386 L1386 v1386 X1386 hQ1386 => ?_
  obtain ⟨rfl, N1386q, e1386⟩ := hQ1386
  have N1386 := Fr.app N1320 N1386q
  refine iS X1386 hx (L' := #[(rv c2), (.val (.long uu5)), .second, (.val ww6), (.val .null), (iv 2)]) (hb Y d5_30) rfl <| aN X1386 hx (hb Y d5_32) rfl rfl <| gF X1386 hx hZ hO (w16 hw) Via.refl e1386 F_c2_t (hb Y d5_33) fun T1389 X1389 e1389 => ?_
  refine iL X1389 hx (hb Y d5_36) rfl <| lN X1389 hx (hb Y d5_38) rfl <| f_lst X1389 hx hZ e1389 V_b1379 2 (hb Y d5_39) fun T1390 h1390 X1390 e1390 W1390 V1390 => ?_
  have N1390x := Fr.snoc X1390 N1386 (by omega : n0 ≤ b1379)
  refine aN X1390 hx (hb Y d5_40) rfl rfl ?_
  replace F_c2_r := (fo W1390 F_c2_r)
  refine gF X1390 hx hZ hO (w20 hw) Via.refl e1390 F_c2_r (hb Y d5_41) fun T1391 X1391 e1391 => ?_
  refine iL X1391 hx (hb Y d5_44) rfl <| aN X1391 hx (hb Y d5_46) rfl rf_ww6 ?_
  replace V_b1381 := (vo V_b1381 W1390)
  replace E_c1 := (xw W1390 E_c1)
  refine f_ast X1391 hx hZ e1391 V_b1381 rfl (own_sto rw_ww6 (own_stoVA V_b1381 O_b1381 (Ins.self E_c1))) (own_fits rf_ww6) 2 (hb Y d5_47) fun T1392 h1392 X1392 e1392 W1392 V1392 => ?_
  have N1392x := Fr.snoc X1392 N1390x (by omega : n0 ≤ b1381)
  refine aN X1392 hx (hb Y d5_48) rfl rfl ?_
  replace F_c2_c := (fo W1392 (fo W1390 F_c2_c))
  refine gF X1392 hx hZ hO (w24 hw) Via.refl e1392 F_c2_c (hb Y d5_49) fun T1393 X1393 e1393 => ?_
  refine iL X1393 hx (hb Y d5_52) rfl <| aA X1393 hx (hb Y d5_54) rfl rfl ?_
  replace V_b1383 := (vo (vo V_b1383 W1390) W1392)
  refine f_ast X1393 hx hZ e1393 V_b1383 rfl (Or.inl rfl) rfl 2 (hb Y d5_56) fun T1394 h1394 X1394 e1394 W1394 V1394 => ?_
  have N1394x := Fr.snoc X1394 N1392x (by omega : n0 ≤ b1383)
  refine aN X1394 hx (hb Y d5_57) rfl rfl <| f_dup X1394 hx (hb Y d5_58) rfl ?_
  replace F_c2_s := (fo W1394 (fo W1392 (fo W1390 F_c2_s)))
  refine gF X1394 hx hZ hO (w31 hw) Via.refl e1394 F_c2_s (hb Y d5_59) fun T1395 X1395 e1395 => ?_
  refine iK X1395 hx (z := 1) (hb Y d5_62) <| iA X1395 hx (z := 3) (hb Y d5_63) ?_
  replace E_c2 := (xw W1394 (xw W1392 (xw W1390 E_c2)))
  refine f_putF X1395 hx hZ hO (w31 hw) Via.refl e1395 F_c2_s E_c2 (Or.inl (w32 hw)) (w7 hw) (ty := .int) (by decide) rfl rfl (hb Y d5_64) fun T1396 h1396 X1396 e1396 W1396 => ?_
  have N1396x := Fr.snoc X1396 N1394x (by omega : n0 ≤ c2)
  exact f_ret0 X1396 hx hlk hret (hb Y d5_67) (QQ := (Qm1397 Z n0 c1 c2 c3 c4 c5 kc1 kc2 kc3 kc4 uu1 uu2 ww3 ww4 ww6 uu5)) (by rw [e1396]; exact ⟨rfl, N1396x, kb1378, b1379, kb1380, b1381, kb1382, b1383, (xw W1396 (xw W1394 (xw W1392 E_c1))), (vo (vo (vo (vo V_c1 W1390) W1392) W1394) W1396), O_c1, (xw W1396 E_c2), (Fld.other W1396 (fo W1394 (fo W1392 (fo W1390 F_c2_t))) (Or.inr (slot_ne (Or.inl (w17 hw)) (Or.inl (w32 hw)) (by decide) (t := (.array .long)) (t' := .int) (by decide) (by decide)))), (Fld.other W1396 (fo W1394 (fo W1392 F_c2_r)) (Or.inr (slot_ne (Or.inl (w21 hw)) (Or.inl (w32 hw)) (by decide) (t := (.array (.array (.object "java/lang/Object")))) (t' := .int) (by decide) (by decide)))), (Fld.other W1396 (fo W1394 F_c2_c) (Or.inr (slot_ne (Or.inl (w25 hw)) (Or.inl (w32 hw)) (by decide) (t := (.array (.array .int))) (t' := .int) (by decide) (by decide)))), (Fld.same W1396 F_c2_s), (Fld.other W1396 (fo W1394 (fo W1392 (fo W1390 F_c2_o))) (Or.inr (slot_ne (Or.inl (w49 hw)) (Or.inl (w32 hw)) (by decide) (t := .int) (t' := .int) (by decide) (by decide)))), (vo (vo (vo (vo V_c3 W1390) W1392) W1394) W1396), (xw W1396 (xw W1394 (xw W1392 (xw W1390 E_c4)))), (vo (vo (vo (vo V_c4 W1390) W1392) W1394) W1396), O_c4, (xw W1396 (xw W1394 (xw W1392 (xw W1390 E_c5)))), (vo (vo (vo (vo V_c5 W1390) W1392) W1394) W1396), O_c5, (vo (vo (vo V1390 W1392) W1394) W1396), (xw W1396 (xw W1394 (xw W1392 (xw W1390 E_b1381)))), (vo (vo V1392 W1394) W1396), O_b1381, (xw W1396 (xw W1394 (xw W1392 (xw W1390 E_b1383)))), (vo V1394 W1396), O_b1383, g_c1, lt_c1_c2, lt_c2_c3, lt_c3_c4, lt_c4_c5, lt_c5_b1379, lt_b1379_b1381, lt_b1381_b1383, rf_ww3, rw_ww3, rf_ww4, rw_ww4, rf_ww6, rw_ww6⟩) (by decide) (by decide)
theorem D2_22  (c1 : Nat) (c2 : Nat) (c3 : Nat) (c4 : Nat) (c5 : Nat) (kc1 : ClassId) (kc2 : ClassId) (kc3 : ClassId) (kc4 : ClassId) (r1 : Value) (t0 : Int32) (t1 : Int32) (t2 : Int32) (t3 : Int32) (t4 : Int32) (r0 : Value) (p0 : Int32) (p1 : Int64) (X0 : Stand p l e room_1 s m args below meth c T0 locs 5 13) (G : SG p s m meth c Z a0) (e0 : T0.heap = h0) (N0 : Fr n0 locs) (P : St36 Z h0 n0 c1 c2 c3 c4 c5 kc1 kc2 kc3 kc4 r1 t0 t1 t2 t3 t4 r0) (hk0 : ∀ (T' : State) (locs' : List Loc), Stand p l e room_1 s m args below meth c T' locs' 8 25 → Fr n0 locs' → EndsSo p e below (LQ s n0) T' (mkF m 209 (FL p0 p1 2 2 t0 t1 t2 t3 t4 c1 c2 (iv 1) .unset .unset .unset .unset .unset) [])) :
    EndsSo p e below (LQ s n0) T0 (mkF m 150 (FL p0 p1 2 2 t0 t1 t2 t3 t4 c1 c2 .unset .unset .unset .unset .unset .unset) []) := by
  obtain ⟨hx, hZ, hw, Y, hml, hO, hlk, hret⟩ := id G
  obtain ⟨E_c1, V_c1, O_c1, E_c2, F_c2_t, F_c2_r, F_c2_c, F_c2_s, F_c2_o, V_c3, E_c4, V_c4, O_c4, E_c5, V_c5, O_c5, g_c1, lt_c1_c2, lt_c2_c3, lt_c3_c4, lt_c4_c5, ht0, ht1, ht2, ht3, ht4, rf_r0, rw_r0, rb_r0, rf_r1, rw_r1, rb_r1⟩ := id P
  refine iL X0 hx (hb Y at_150) rfl <| iK X0 hx (z := 1) (hb Y at_152) <| cN X0 hx (hb Y at_153) <| aA X0 hx (hb Y at_156) rfl rfl <| f_ldc2 X0 hx hZ hO (w56 hw) (hb Y at_158) <| iL X0 hx (hb Y at_161) rfl <| own_mrg X0 hx (row := c1) ht3 (pc := 163) (hb Y at_163) (hb Y at_170) (hb Y at_166) (hb Y at_167) rfl fun r3 rf_r3 rw_r3 rb_r3 => ?_
  refine f_null X0 hx (hb Y at_172) ?_
  have P1235 : St24 Z h0 n0 c1 c2 c3 c4 c5 kc1 kc2 kc3 kc4 (10 : Int64) (20 : Int64) .null r1 r3 := ⟨E_c1, V_c1, O_c1, E_c2, F_c2_t, F_c2_r, F_c2_c, F_c2_s, F_c2_o, V_c3, E_c4, V_c4, O_c4, E_c5, V_c5, O_c5, g_c1, lt_c1_c2, lt_c2_c3, lt_c3_c4, lt_c4_c5, rfl, (Or.inl rfl), rf_r1, rw_r1, rf_r3, rw_r3⟩
  refine vV X0 hx hZ hO (by rw [hml]; rfl) (w39 hw) (w40 hw) (w42 hw) (w41 hw) (w8 hw) (w43 hw) e0 E_c2 (argsL := [(.long 40), r3, .null]) (rest := []) (m720 l Z a0 hw [] h0 n0 c1 c2 c3 c4 c5 kc1 kc2 kc3 kc4 (10 : Int64) (20 : Int64) .null r1 r3 (40 : Int64) P1235) (lenOf pd5 rfl) (hb Y at_173) fun T1220 L1220 v1220 X1220 hQ1220 => ?_
  obtain ⟨rfl, N1220q, P1220⟩ := hQ1220
  obtain ⟨E_c1, V_c1, O_c1, E_c2, F_c2_t, F_c2_r, F_c2_c, F_c2_s, F_c2_o, V_c3, E_c4, V_c4, O_c4, E_c5, V_c5, O_c5, g_c1, lt_c1_c2, lt_c2_c3, lt_c3_c4, lt_c4_c5, _, _, _, _, _, _⟩ := id P1220
  have N1220 := Fr.app N0 N1220q
  refine iL X1220 hx (hb Y at_176) rfl <| iK X1220 hx (z := 2) (hb Y at_178) <| cN X1220 hx (hb Y at_179) <| aA X1220 hx (hb Y at_182) rfl rfl <| f_ldc2 X1220 hx hZ hO (w62 hw) (hb Y at_184) <| iL X1220 hx (hb Y at_187) rfl <| own_mrg X1220 hx (row := c1) ht4 (pc := 189) (hb Y at_189) (hb Y at_196) (hb Y at_192) (hb Y at_193) rfl fun r4 rf_r4 rw_r4 rb_r4 => ?_
  refine f_null X1220 hx (hb Y at_198) ?_
  have P1404 : St39 Z T1220.heap n0 c1 c2 c3 c4 c5 kc1 kc2 kc3 kc4 (40 : Int64) (20 : Int64) r3 r1 r4 := ⟨E_c1, V_c1, O_c1, E_c2, F_c2_t, F_c2_r, F_c2_c, F_c2_s, F_c2_o, V_c3, E_c4, V_c4, O_c4, E_c5, V_c5, O_c5, g_c1, lt_c1_c2, lt_c2_c3, lt_c3_c4, lt_c4_c5, rf_r3, rw_r3, rf_r1, rw_r1, rf_r4, rw_r4⟩
  refine vV X1220 hx hZ hO (by rw [hml]; rfl) (w39 hw) (w40 hw) (w42 hw) (w41 hw) (w8 hw) (w43 hw) rfl E_c2 (argsL := [(.long 50), r4, .null]) (rest := []) (m1397 l Z a0 hw [] T1220.heap n0 c1 c2 c3 c4 c5 kc1 kc2 kc3 kc4 (40 : Int64) (20 : Int64) r3 r1 r4 (50 : Int64) P1404) (lenOf pd5 rfl) (hb Y at_199) fun T1236 L1236 v1236 X1236 hQ1236 => ?_
  obtain ⟨rfl, N1236q, kb1398, b1399, kb1400, b1401, kb1402, b1403, P1236⟩ := hQ1236
  obtain ⟨E_c1, V_c1, O_c1, E_c2, F_c2_t, F_c2_r, F_c2_c, F_c2_s, F_c2_o, V_c3, E_c4, V_c4, O_c4, E_c5, V_c5, O_c5, V_b1399, E_b1401, V_b1401, O_b1401, E_b1403, V_b1403, O_b1403, g_c1, lt_c1_c2, lt_c2_c3, lt_c3_c4, lt_c4_c5, lt_c5_b1399, lt_b1399_b1401, lt_b1401_b1403, _, _, _, _, _, _⟩ := id P1236
  have N1236 := Fr.app N1220 N1236q
  have lt_c2_b1399 : c2 < b1399 := by omega
  refine aA X1236 hx (hb Y at_202) rfl rfl <| vV X1236 hx hZ hO (by rw [hml]; rfl) (w33 hw) (w34 hw) (w36 hw) (w35 hw) (w8 hw) (w37 hw) rfl E_c2 (argsL := []) (rest := []) (q462 l Z a0 hw [] T1236.heap n0 c2 F_c2_s) (lenOf pd3 rfl) (hb Y at_204) fun T1405 L1405 v1405 X1405 hQ1405 => ?_
  obtain ⟨rfl, N1405q, e1405⟩ := hQ1405
  have N1405 := Fr.app N1236 N1405q
  refine iS X1405 hx (L' := (FL p0 p1 2 2 t0 t1 t2 t3 t4 c1 c2 (iv 1) .unset .unset .unset .unset .unset)) (hb Y at_207) rfl ?_
  exact hk0 _ _ X1405 N1405
theorem F2_18  {cells slots : Nat} (p0 : Int32) (p1 : Int64) (t0 : Int32) (t1 : Int32) (t2 : Int32) (t3 : Int32) (t4 : Int32) (c1 : Nat) (c2 : Nat) (X0 : Stand p l e room_1 s m args below meth c T0 locs cells slots) (G : SG p s m meth c Z a0) (N0 : Fr n0 locs) (hK : cells ≤ room_1.cells) (hN : slots ≤ room_1.slots) :
    EndsSo p e below (LQ s n0) T0 (mkF m 303 (FL p0 p1 2 2 t0 t1 t2 t3 t4 c1 c2 (iv 1) (iv 1) (iv t0) (.val (.long 10)) .second .unset) []) := by
  obtain ⟨hx, hZ, hw, Y, hml, hO, hlk, hret⟩ := id G
  refine iN X0 hx (hb Y at_303) rfl <| iL X0 hx (hb Y at_304) rfl <| iB X0 hx (z := 1) (hb Y at_306) <| iS X0 hx (L' := (FL p0 p1 2 2 t0 t1 t2 t3 t4 c1 c2 (iv 1) (iv 1) (iv 1) (.val (.long 10)) .second .unset)) (hb Y at_307) rfl <| iL X0 hx (hb Y at_309) rfl <| iL X0 hx (hb Y at_311) rfl <| iA X0 hx (z := 3) (hb Y at_313) <| iS X0 hx (L' := (FL p0 p1 2 2 t0 t1 t2 t3 t4 c1 c2 (iv 1) (iv 1) (iv 1) (iv 3) .unset .unset)) (hb Y at_314) rfl <| iL X0 hx (hb Y at_316) rfl <| iK X0 hx (z := 1) (hb Y at_318) <| cN X0 hx (hb Y at_319) <| iL X0 hx (hb Y at_322) rfl <| fY X0 hx (pc := 324) 332 (hb Y at_324) <| iL X0 hx (hb Y at_332) rfl <| iK X0 hx (z := 1) (hb Y at_334) <| cN X0 hx (hb Y at_335) <| iL X0 hx (hb Y at_338) rfl <| gT X0 hx (pc := 340) 350 (hb Y at_340) <| iS X0 hx (L' := (FL p0 p1 2 2 t0 t1 t2 t3 t4 c1 c2 (iv 1) (iv 1) (iv 1) (iv 3) (iv t1) .unset)) (hb Y at_350) rfl <| iL X0 hx (hb Y at_352) rfl <| iK X0 hx (z := 1) (hb Y at_354) <| cY X0 hx (pc := 355) 369 (hb Y at_355) <| iK X0 hx (z := 1) (hb Y at_369) <| gT X0 hx (pc := 370) 374 (hb Y at_370) <| iS X0 hx (L' := (FL p0 p1 2 2 t0 t1 t2 t3 t4 c1 c2 (iv 1) (iv 1) (iv 1) (iv 3) (iv t1) (iv 1))) (hb Y at_374) rfl <| iL X0 hx (hb Y at_376) rfl <| iL X0 hx (hb Y at_378) rfl <| cN X0 hx (hb Y at_380) <| iK X0 hx (z := 1) (hb Y at_383) <| gT X0 hx (pc := 384) 388 (hb Y at_384) ?_
  exact f_ret X0 hx hlk (i := .ireturn) hret rfl (Or.inl ⟨rfl, Or.inr (Or.inl rfl), _, rfl⟩) (hb Y at_388) (QQ := (QL n0)) ⟨rfl, N0⟩ hK hN
theorem C2_19  (c1 : Nat) (c2 : Nat) (c3 : Nat) (c4 : Nat) (c5 : Nat) (kc1 : ClassId) (kc2 : ClassId) (kc3 : ClassId) (kc4 : ClassId) (r0 : Value) (r1 : Value) (t0 : Int32) (t1 : Int32) (t2 : Int32) (t3 : Int32) (t4 : Int32) (mm : Int32) (p1 : Int64) (p0 : Int32) (X0 : Stand p l e room_1 s m args below meth c T0 locs 5 13) (G : SG p s m meth c Z a0) (e0 : T0.heap = h0) (N0 : Fr n0 locs) (P : St31 Z h0 n0 c1 c2 c3 c4 c5 kc1 kc2 kc3 kc4 r0 r1 t0 t1 t2 t3 t4 mm p1) :
    EndsSo p e below (LQ s n0) T0 (mkF m 143 (FL p0 p1 2 mm t0 t1 t2 t3 t4 c1 c2 .unset .unset .unset .unset .unset .unset) []) := by
  obtain ⟨hx, hZ, hw, Y, hml, hO, hlk, hret⟩ := id G
  obtain ⟨E_c1, V_c1, O_c1, E_c2, F_c2_t, F_c2_r, F_c2_c, F_c2_s, F_c2_o, V_c3, E_c4, V_c4, O_c4, E_c5, V_c5, O_c5, g_c1, lt_c1_c2, lt_c2_c3, lt_c3_c4, lt_c4_c5, ht0, ht1, ht2, ht3, ht4, rf_r0, rw_r0, rb_r0, rf_r1, rw_r1, rb_r1, hm3, nv_r0, z10, z20, tv0⟩ := id P
  refine aA X0 hx (hb Y at_143) rfl rfl <| lN X0 hx (hb Y at_145) rfl ?_
  have P1186 : St31 Z h0 n0 c1 c2 c3 c4 c5 kc1 kc2 kc3 kc4 r0 r1 t0 t1 t2 t3 t4 mm p1 := ⟨E_c1, V_c1, O_c1, E_c2, F_c2_t, F_c2_r, F_c2_c, F_c2_s, F_c2_o, V_c3, E_c4, V_c4, O_c4, E_c5, V_c5, O_c5, g_c1, lt_c1_c2, lt_c2_c3, lt_c3_c4, lt_c4_c5, ht0, ht1, ht2, ht3, ht4, rf_r0, rw_r0, rb_r0, rf_r1, rw_r1, rb_r1, hm3, nv_r0, z10, z20, tv0⟩
  refine vV X0 hx hZ hO (by rw [hml]; rfl) (w26 hw) (w27 hw) (w29 hw) (w28 hw) (w8 hw) (w30 hw) e0 E_c2 (argsL := [(.long p1)]) (rest := []) (m1185 l Z a0 hw [] h0 n0 c1 c2 c3 c4 c5 kc1 kc2 kc3 kc4 r0 r1 t0 t1 t2 t3 t4 mm p1 P1186) (lenOf pd2 rfl) (hb Y at_146) fun T1074 L1074 v1074 X1074 hQ1074 => ?_
  obtain ⟨rfl, N1074q, P1074⟩ := hQ1074
  obtain ⟨E_c1, V_c1, O_c1, E_c2, F_c2_t, F_c2_r, F_c2_c, F_c2_s, F_c2_o, V_c3, E_c4, V_c4, O_c4, E_c5, V_c5, O_c5, g_c1, lt_c1_c2, lt_c2_c3, lt_c3_c4, lt_c4_c5, ht0, ht1, ht2, ht3, ht4, rf_r0, rw_r0, rb_r0, rf_r1, rw_r1, rb_r1, hm3, nv_r0, z10, z20, tv0⟩ := id P1074
  have N1074 := Fr.app N0 N1074q
  refine f_pop X1074 hx (hb Y at_149) rfl ?_
  rcases id hm3 with rfl | rfl | rfl
  · rcases id rb_r1 with ⟨tv1, nv_r1⟩ | ⟨tv1, nv_r1⟩
    · have P1193 : St34 Z T1074.heap n0 c1 c2 c3 c4 c5 kc1 kc2 kc3 kc4 r1 t0 t1 t2 t3 t4 r0 := ⟨E_c1, V_c1, O_c1, E_c2, F_c2_t, F_c2_r, F_c2_c, F_c2_s, F_c2_o, V_c3, E_c4, V_c4, O_c4, E_c5, V_c5, O_c5, g_c1, lt_c1_c2, lt_c2_c3, lt_c3_c4, lt_c4_c5, ht0, ht1, ht2, ht3, ht4, rf_r0, rw_r0, rb_r0, rf_r1, rw_r1, rb_r1, nv_r0, nv_r1⟩
      exact D0_19 c1 c2 c3 c4 c5 kc1 kc2 kc3 kc4 r1 t0 t1 t2 t3 t4 r0 p0 p1 X1074 G rfl N1074 P1193 (fun T' locs' X' N' => F1_6 p0 p1 (0 : Int32) (0 : Int32) t0 t1 t2 t3 t4 c1 c2 X' G z10 z20 tv0 (F2_15 p0 p1 t0 t1 t2 t3 t4 c1 c2 X' G tv1 N' (by decide) (by decide)))
    · have P1200 : St35 Z T1074.heap n0 c1 c2 c3 c4 c5 kc1 kc2 kc3 kc4 r1 t0 t1 t2 t3 t4 r0 := ⟨E_c1, V_c1, O_c1, E_c2, F_c2_t, F_c2_r, F_c2_c, F_c2_s, F_c2_o, V_c3, E_c4, V_c4, O_c4, E_c5, V_c5, O_c5, g_c1, lt_c1_c2, lt_c2_c3, lt_c3_c4, lt_c4_c5, ht0, ht1, ht2, ht3, ht4, rf_r0, rw_r0, rb_r0, rf_r1, rw_r1, rb_r1, nv_r0, nv_r1⟩
      exact D0_20 c1 c2 c3 c4 c5 kc1 kc2 kc3 kc4 r1 t0 t1 t2 t3 t4 r0 p0 p1 X1074 G rfl N1074 P1200 (fun T' locs' X' N' => F1_6 p0 p1 (0 : Int32) (1 : Int32) t0 t1 t2 t3 t4 c1 c2 X' G z10 z20 tv0 (F2_16 p0 p1 t0 t1 t2 t3 t4 c1 c2 X' G tv1 N' (by decide) (by decide)))
  · have P1219 : St36 Z T1074.heap n0 c1 c2 c3 c4 c5 kc1 kc2 kc3 kc4 r1 t0 t1 t2 t3 t4 r0 := ⟨E_c1, V_c1, O_c1, E_c2, F_c2_t, F_c2_r, F_c2_c, F_c2_s, F_c2_o, V_c3, E_c4, V_c4, O_c4, E_c5, V_c5, O_c5, g_c1, lt_c1_c2, lt_c2_c3, lt_c3_c4, lt_c4_c5, ht0, ht1, ht2, ht3, ht4, rf_r0, rw_r0, rb_r0, rf_r1, rw_r1, rb_r1⟩
    exact D1_21 c1 c2 c3 c4 c5 kc1 kc2 kc3 kc4 r1 t0 t1 t2 t3 t4 r0 p0 p1 X1074 G rfl N1074 P1219 (fun T' locs' X' N' => F1_6 p0 p1 (1 : Int32) (1 : Int32) t0 t1 t2 t3 t4 c1 c2 X' G z10 z20 tv0 (F2_17 p0 p1 t0 t1 t2 t3 t4 c1 c2 X' G N' (by decide) (by decide)))
  · have P1407 : St36 Z T1074.heap n0 c1 c2 c3 c4 c5 kc1 kc2 kc3 kc4 r1 t0 t1 t2 t3 t4 r0 := ⟨E_c1, V_c1, O_c1, E_c2, F_c2_t, F_c2_r, F_c2_c, F_c2_s, F_c2_o, V_c3, E_c4, V_c4, O_c4, E_c5, V_c5, O_c5, g_c1, lt_c1_c2, lt_c2_c3, lt_c3_c4, lt_c4_c5, ht0, ht1, ht2, ht3, ht4, rf_r0, rw_r0, rb_r0, rf_r1, rw_r1, rb_r1⟩
    exact D2_22 c1 c2 c3 c4 c5 kc1 kc2 kc3 kc4 r1 t0 t1 t2 t3 t4 r0 p0 p1 X1074 G rfl N1074 P1407 (fun T' locs' X' N' => F1_6 p0 p1 (2 : Int32) (1 : Int32) t0 t1 t2 t3 t4 c1 c2 X' G z10 z20 tv0 (F2_18 p0 p1 t0 t1 t2 t3 t4 c1 c2 X' G N' (by decide) (by decide)))
def St41 (Z : State) (h : Heap) (n0 : Nat) (c1 : Nat) (c2 : Nat) (c3 : Nat) (c4 : Nat) (c5 : Nat) (kc1 : ClassId) (kc2 : ClassId) (kc3 : ClassId) (kc4 : ClassId) (r0 : Value) (r1 : Value) (t0 : Int32) (t1 : Int32) (t2 : Int32) (t3 : Int32) (t4 : Int32) (mm : Int32) (p1 : Int64) : Prop :=
  xO Z h c1 ∧
  Arv Z h c1 kc1 (.object "java/lang/Object") 1 [.null] .null ∧
  Ovr Z kc1 "java/lang/Object" ∧
  Exa Z h c2 cV ∧
  fT Z h c2 (.ref c3) ∧
  fR Z h c2 (.ref c4) ∧
  fC Z h c2 (.ref c5) ∧
  fS Z h c2 (.int 2) ∧
  fO Z h c2 (.int 0) ∧
  aL Z h c3 kc2 2 [(.long 10), (.long 20)] ∧
  xR Z h c4 ∧
  aR Z h c4 kc3 2 [r0, r1] ∧
  oR Z kc3 ∧
  xC Z h c5 ∧
  aC Z h c5 kc4 2 [.null, .null] ∧
  oC Z kc4 ∧
  n0 ≤ c1 ∧
  c1 < c2 ∧
  c2 < c3 ∧
  c3 < c4 ∧
  c4 < c5 ∧
  (t0 = (0 : Int32) ∨ t0 = (1 : Int32)) ∧
  (t1 = (0 : Int32) ∨ t1 = (1 : Int32)) ∧
  (t2 = (0 : Int32) ∨ t2 = (1 : Int32)) ∧
  (t3 = (0 : Int32) ∨ t3 = (1 : Int32)) ∧
  (t4 = (0 : Int32) ∨ t4 = (1 : Int32)) ∧
  r0.isRef = true ∧
  (r0 = .null ∨ r0 = .ref c1) ∧
  ((t0 = (0 : Int32) ∧ r0 = .ref c1) ∨ (t0 = (1 : Int32) ∧ r0 = .null)) ∧
  r1.isRef = true ∧
  (r1 = .null ∨ r1 = .ref c1) ∧
  ((t1 = (0 : Int32) ∧ r1 = .ref c1) ∨ (t1 = (1 : Int32) ∧ r1 = .null)) ∧
  (mm = (0 : Int32) ∨ mm = (1 : Int32) ∨ mm = (2 : Int32)) ∧
  r1 = .ref c1 ∧
  ¬ p1 < (10 : Int64) ∧
  ¬ p1 < (20 : Int64) ∧
  t1 = (0 : Int32)
def St42 (Z : State) (h : Heap) (n0 : Nat) (c1 : Nat) (c2 : Nat) (c3 : Nat) (c4 : Nat) (c5 : Nat) (kc1 : ClassId) (kc2 : ClassId) (kc3 : ClassId) (kc4 : ClassId) (r1 : Value) (t0 : Int32) (t1 : Int32) (t2 : Int32) (t3 : Int32) (t4 : Int32) (r0 : Value) (mm : Int32) (p1 : Int64) : Prop :=
  xO Z h c1 ∧
  Arv Z h c1 kc1 (.object "java/lang/Object") 1 [.null] .null ∧
  Ovr Z kc1 "java/lang/Object" ∧
  Exa Z h c2 cV ∧
  fT Z h c2 (.ref c3) ∧
  fR Z h c2 (.ref c4) ∧
  fC Z h c2 (.ref c5) ∧
  fS Z h c2 (.int 1) ∧
  fO Z h c2 (.int 1) ∧
  aL Z h c3 kc2 2 [(.long 10), (.long 20)] ∧
  xR Z h c4 ∧
  aR Z h c4 kc3 2 [.null, r1] ∧
  oR Z kc3 ∧
  xC Z h c5 ∧
  aC Z h c5 kc4 2 [.null, .null] ∧
  oC Z kc4 ∧
  n0 ≤ c1 ∧
  c1 < c2 ∧
  c2 < c3 ∧
  c3 < c4 ∧
  c4 < c5 ∧
  (t0 = (0 : Int32) ∨ t0 = (1 : Int32)) ∧
  (t1 = (0 : Int32) ∨ t1 = (1 : Int32)) ∧
  (t2 = (0 : Int32) ∨ t2 = (1 : Int32)) ∧
  (t3 = (0 : Int32) ∨ t3 = (1 : Int32)) ∧
  (t4 = (0 : Int32) ∨ t4 = (1 : Int32)) ∧
  r0.isRef = true ∧
  (r0 = .null ∨ r0 = .ref c1) ∧
  ((t0 = (0 : Int32) ∧ r0 = .ref c1) ∨ (t0 = (1 : Int32) ∧ r0 = .null)) ∧
  r1.isRef = true ∧
  (r1 = .null ∨ r1 = .ref c1) ∧
  ((t1 = (0 : Int32) ∧ r1 = .ref c1) ∨ (t1 = (1 : Int32) ∧ r1 = .null)) ∧
  (mm = (0 : Int32) ∨ mm = (1 : Int32) ∨ mm = (2 : Int32)) ∧
  r1 = .ref c1 ∧
  ¬ p1 < (10 : Int64) ∧
  ¬ p1 < (20 : Int64) ∧
  t1 = (0 : Int32)
def Qm1486 (Z : State) (n0 : Nat) (c1 : Nat) (c2 : Nat) (c3 : Nat) (c4 : Nat) (c5 : Nat) (kc1 : ClassId) (kc2 : ClassId) (kc3 : ClassId) (kc4 : ClassId) (r0 : Value) (r1 : Value) (t0 : Int32) (t1 : Int32) (t2 : Int32) (t3 : Int32) (t4 : Int32) (mm : Int32) (p1 : Int64) (v : Option Value) (h : Heap) (L : List Loc) : Prop := v = some (.int 0) ∧ Fr n0 L ∧ St42 Z h n0 c1 c2 c3 c4 c5 kc1 kc2 kc3 kc4 r1 t0 t1 t2 t3 t4 r0 mm p1
theorem m1486 (l : Launch) (Z : State) (a0 : Array Value) (hw : HW a0 Z) (ws : List Jvm.Cond) (h0 : Heap) (n0 : Nat) (c1 : Nat) (c2 : Nat) (c3 : Nat) (c4 : Nat) (c5 : Nat) (kc1 : ClassId) (kc2 : ClassId) (kc3 : ClassId) (kc4 : ClassId) (r0 : Value) (r1 : Value) (t0 : Int32) (t1 : Int32) (t2 : Int32) (t3 : Int32) (t4 : Int32) (mm : Int32) (p1 : Int64) (P : St41 Z h0 n0 c1 c2 c3 c4 c5 kc1 kc2 kc3 kc4 r0 r1 t0 t1 t2 t3 t4 mm p1) :
    MC l Z y3 prog_95_method_5_code 5 (some .boolean) ws rm_2_0_0_28 #[(.ref c2), (.long p1)] h0 (Qm1486 Z n0 c1 c2 c3 c4 c5 kc1 kc2 kc3 kc4 r0 r1 t0 t1 t2 t3 t4 mm p1) := by
  obtain ⟨E_c1, V_c1, O_c1, E_c2, F_c2_t, F_c2_r, F_c2_c, F_c2_s, F_c2_o, V_c3, E_c4, V_c4, O_c4, E_c5, V_c5, O_c5, g_c1, lt_c1_c2, lt_c2_c3, lt_c3_c4, lt_c4_c5, ht0, ht1, ht2, ht3, ht4, rf_r0, rw_r0, rb_r0, rf_r1, rw_r1, rb_r1, hm3, nv_r1, z10, z20, tv1⟩ := id P
  refine own_met (plainFor_of_name pn3) fun p e s m below meth c s₁ X0 hx hZ Y hml hO hnm hlk hret e0 => f_cast (f' := mkF m 0 #[(rv c2), (.val (.long p1)), .second, .unset, .unset] []) (by first | (simp [entryFrame, mkF, argsToLocals, Value.category]; done) | rfl) ?_
  have N0 := Fr.nil n0
  refine aN X0 hx (hb Y d3_0) rfl rfl <| gF X0 hx hZ hO (w31 hw) Via.refl e0 F_c2_s (hb Y d3_1) fun T1454 X1454 e1454 => ?_
  refine fY X1454 hx (pc := 4) 9 (hb Y d3_4) <| iK X1454 hx (z := 0) (hb Y d3_9) <| sN X1454 hx (L' := #[(rv c2), (.val (.long p1)), .second, (iv 0), .unset]) (hb Y d3_10) rfl <| iN X1454 hx (hb Y d3_11) rfl <| iK X1454 hx (z := 1) (hb Y d3_12) <| iA X1454 hx (z := 1) (hb Y d3_13) <| aN X1454 hx (hb Y d3_14) rfl rfl <| gF X1454 hx hZ hO (w31 hw) Via.refl e1454 F_c2_s (hb Y d3_15) fun T1455 X1455 e1455 => ?_
  refine cN X1455 hx (hb Y d3_18) <| aN X1455 hx (hb Y d3_21) rfl rfl <| gF X1455 hx hZ hO (w16 hw) Via.refl e1455 F_c2_t (hb Y d3_22) fun T1456 X1456 e1456 => ?_
  refine aN X1456 hx (hb Y d3_25) rfl rfl <| iN X1456 hx (hb Y d3_26) rfl <| iK X1456 hx (z := 1) (hb Y d3_27) <| iA X1456 hx (z := 1) (hb Y d3_28) <| pV X1456 hx hZ hO (by rw [hml]; rfl) (w44 hw) (w45 hw) (w46 hw) (w7 hw) (w8 hw) (w47 hw) e1456 E_c2 (argsL := [(.int 1)]) (rest := [(.ref c3)]) (q123 l Z a0 hw [] h0 n0 c2 c3 kc2 _ F_c2_o F_c2_t V_c3) (lenOf pd4 rfl) (hb Y d3_29) fun T1457 L1457 v1457 X1457 hQ1457 => ?_
  obtain ⟨rfl, N1457q, e1457⟩ := hQ1457
  have N1457 := Fr.app N0 N1457q
  refine f_lald X1457 hx hZ e1457 V_c3 (v := (.long 20)) rfl (hb Y d3_32) <| lN X1457 hx (hb Y d3_33) rfl <| lC X1457 hx (z := (lcmpW (20 : Int64) p1)) (hb Y d3_34) (q := rfl) <| fN X1457 hx (hb Y d3_35) (hc := (own_gtF z20)) <| f_iinc X1457 hx (L' := #[(rv c2), (.val (.long p1)), .second, (iv 1), .unset]) (hb Y d3_38) rfl rfl <| gT X1457 hx (pc := 41) 11 (hb Y d3_41) <| iN X1457 hx (hb Y d3_11) rfl <| iK X1457 hx (z := 1) (hb Y d3_12) <| iA X1457 hx (z := 2) (hb Y d3_13) <| aN X1457 hx (hb Y d3_14) rfl rfl <| gF X1457 hx hZ hO (w31 hw) Via.refl e1457 F_c2_s (hb Y d3_15) fun T1460 X1460 e1460 => ?_
  refine cY X1460 hx (pc := 18) 44 (hb Y d3_18) <| aN X1460 hx (hb Y d3_44) rfl rfl <| iN X1460 hx (hb Y d3_45) rfl <| pV X1460 hx hZ hO (by rw [hml]; rfl) (w44 hw) (w45 hw) (w46 hw) (w7 hw) (w8 hw) (w47 hw) e1460 E_c2 (argsL := [(.int 1)]) (rest := []) (q123 l Z a0 hw [] h0 n0 c2 c3 kc2 _ F_c2_o F_c2_t V_c3) (lenOf pd4 rfl) (hb Y d3_46) fun T1461 L1461 v1461 X1461 hQ1461 => ?_
  obtain ⟨rfl, N1461q, e1461⟩ := hQ1461
  have N1461 := Fr.app N1457 N1461q
  refine iS X1461 hx (L' := #[(rv c2), (.val (.long p1)), .second, (iv 1), (iv 1)]) (hb Y d3_49) rfl <| aN X1461 hx (hb Y d3_51) rfl rfl <| gF X1461 hx hZ hO (w16 hw) Via.refl e1461 F_c2_t (hb Y d3_52) fun T1464 X1464 e1464 => ?_
  refine iL X1464 hx (hb Y d3_55) rfl <| f_lald X1464 hx hZ e1464 V_c3 (v := (.long 20)) rfl (hb Y d3_57) <| lN X1464 hx (hb Y d3_58) rfl <| lC X1464 hx (z := (lcmpW (20 : Int64) p1)) (hb Y d3_59) (q := rfl) <| fN X1464 hx (hb Y d3_60) (hc := (own_gtF z20)) <| aN X1464 hx (hb Y d3_63) rfl rfl <| gF X1464 hx hZ hO (w20 hw) Via.refl e1464 F_c2_r (hb Y d3_64) fun T1465 X1465 e1465 => ?_
  refine iL X1465 hx (hb Y d3_67) rfl <| f_aald X1465 hx hZ e1465 V_c4 rfl (v := r1) rfl (hb Y d3_69) <| f_ifnonnullYv X1465 hx (pc := 70) 76 nv_r1 (hb Y d3_70) <| aN X1465 hx (hb Y d3_76) rfl rfl <| iN X1465 hx (hb Y d3_77) rfl ?_
  have P1484 : St13 Z h0 n0 c1 c2 c3 c4 c5 kc1 kc2 kc3 kc4 (10 : Int64) (20 : Int64) r0 r1 := ⟨E_c1, V_c1, O_c1, E_c2, F_c2_t, F_c2_r, F_c2_c, F_c2_s, F_c2_o, V_c3, E_c4, V_c4, O_c4, E_c5, V_c5, O_c5, g_c1, lt_c1_c2, lt_c2_c3, lt_c3_c4, lt_c4_c5, rf_r0, rw_r0, rf_r1, rw_r1⟩
  refine pV X1465 hx hZ hO (by rw [hml]; rfl) (w52 hw) (w53 hw) (w54 hw) (w7 hw) (w8 hw) (w55 hw) e1465 E_c2 (argsL := [(.int 1)]) (rest := []) (m1182 l Z a0 hw [] h0 n0 c1 c2 c3 c4 c5 kc1 kc2 kc3 kc4 (10 : Int64) (20 : Int64) r0 r1 P1484) (lenOf pd6 rfl) (hb Y d3_78) fun T1466 L1466 v1466 X1466 hQ1466 => ?_
  obtain ⟨rfl, N1466q, P1466⟩ := hQ1466
  obtain ⟨E_c1, V_c1, O_c1, E_c2, F_c2_t, F_c2_r, F_c2_c, F_c2_s, F_c2_o, V_c3, E_c4, V_c4, O_c4, E_c5, V_c5, O_c5, g_c1, lt_c1_c2, lt_c2_c3, lt_c3_c4, lt_c4_c5, _, _, _, _⟩ := id P1466
  have N1466 := Fr.app N1461 N1466q
  refine aN X1466 hx (hb Y d3_81) rfl rfl <| gF X1466 hx hZ hO (w31 hw) Via.refl rfl F_c2_s (hb Y d3_82) fun T1485 X1485 e1485 => ?_
  refine fY X1485 hx (pc := 85) 92 (hb Y d3_85) <| iK X1485 hx (z := 0) (hb Y d3_92) ?_
  exact f_ret X1485 hx hlk (i := .ireturn) hret rfl (Or.inl ⟨rfl, Or.inr (Or.inl rfl), _, rfl⟩) (hb Y d3_93) (QQ := (Qm1486 Z n0 c1 c2 c3 c4 c5 kc1 kc2 kc3 kc4 r0 r1 t0 t1 t2 t3 t4 mm p1)) (by rw [e1485]; exact ⟨rfl, N1466, E_c1, V_c1, O_c1, E_c2, F_c2_t, F_c2_r, F_c2_c, F_c2_s, F_c2_o, V_c3, E_c4, V_c4, O_c4, E_c5, V_c5, O_c5, g_c1, lt_c1_c2, lt_c2_c3, lt_c3_c4, lt_c4_c5, ht0, ht1, ht2, ht3, ht4, rf_r0, rw_r0, rb_r0, rf_r1, rw_r1, rb_r1, hm3, nv_r1, z10, z20, tv1⟩) (by decide) (by decide)
def St43 (Z : State) (h : Heap) (n0 : Nat) (c1 : Nat) (c2 : Nat) (c3 : Nat) (c4 : Nat) (c5 : Nat) (kc1 : ClassId) (kc2 : ClassId) (kc3 : ClassId) (kc4 : ClassId) (r1 : Value) (t0 : Int32) (t1 : Int32) (t2 : Int32) (t3 : Int32) (t4 : Int32) (r0 : Value) : Prop :=
  xO Z h c1 ∧
  Arv Z h c1 kc1 (.object "java/lang/Object") 1 [.null] .null ∧
  Ovr Z kc1 "java/lang/Object" ∧
  Exa Z h c2 cV ∧
  fT Z h c2 (.ref c3) ∧
  fR Z h c2 (.ref c4) ∧
  fC Z h c2 (.ref c5) ∧
  fS Z h c2 (.int 1) ∧
  fO Z h c2 (.int 1) ∧
  aL Z h c3 kc2 2 [(.long 10), (.long 20)] ∧
  xR Z h c4 ∧
  aR Z h c4 kc3 2 [.null, r1] ∧
  oR Z kc3 ∧
  xC Z h c5 ∧
  aC Z h c5 kc4 2 [.null, .null] ∧
  oC Z kc4 ∧
  n0 ≤ c1 ∧
  c1 < c2 ∧
  c2 < c3 ∧
  c3 < c4 ∧
  c4 < c5 ∧
  (t0 = (0 : Int32) ∨ t0 = (1 : Int32)) ∧
  (t1 = (0 : Int32) ∨ t1 = (1 : Int32)) ∧
  (t2 = (0 : Int32) ∨ t2 = (1 : Int32)) ∧
  (t3 = (0 : Int32) ∨ t3 = (1 : Int32)) ∧
  (t4 = (0 : Int32) ∨ t4 = (1 : Int32)) ∧
  r0.isRef = true ∧
  (r0 = .null ∨ r0 = .ref c1) ∧
  ((t0 = (0 : Int32) ∧ r0 = .ref c1) ∨ (t0 = (1 : Int32) ∧ r0 = .null)) ∧
  r1.isRef = true ∧
  (r1 = .null ∨ r1 = .ref c1) ∧
  ((t1 = (0 : Int32) ∧ r1 = .ref c1) ∨ (t1 = (1 : Int32) ∧ r1 = .null)) ∧
  r1 = .ref c1
theorem D0_24  (c1 : Nat) (c2 : Nat) (c3 : Nat) (c4 : Nat) (c5 : Nat) (kc1 : ClassId) (kc2 : ClassId) (kc3 : ClassId) (kc4 : ClassId) (r1 : Value) (t0 : Int32) (t1 : Int32) (t2 : Int32) (t3 : Int32) (t4 : Int32) (r0 : Value) (p0 : Int32) (p1 : Int64) (X0 : Stand p l e room_1 s m args below meth c T0 locs 5 13) (G : SG p s m meth c Z a0) (e0 : T0.heap = h0) (N0 : Fr n0 locs) (P : St43 Z h0 n0 c1 c2 c3 c4 c5 kc1 kc2 kc3 kc4 r1 t0 t1 t2 t3 t4 r0) (hk0 : ∀ (T' : State) (locs' : List Loc), Stand p l e room_1 s m args below meth c T' locs' 5 13 → Fr n0 locs' → EndsSo p e below (LQ s n0) T' (mkF m 209 (FL p0 p1 2 0 t0 t1 t2 t3 t4 c1 c2 (iv 0) .unset .unset .unset .unset .unset) [])) :
    EndsSo p e below (LQ s n0) T0 (mkF m 150 (FL p0 p1 2 0 t0 t1 t2 t3 t4 c1 c2 .unset .unset .unset .unset .unset .unset) []) := by
  obtain ⟨hx, hZ, hw, Y, hml, hO, hlk, hret⟩ := id G
  obtain ⟨E_c1, V_c1, O_c1, E_c2, F_c2_t, F_c2_r, F_c2_c, F_c2_s, F_c2_o, V_c3, E_c4, V_c4, O_c4, E_c5, V_c5, O_c5, g_c1, lt_c1_c2, lt_c2_c3, lt_c3_c4, lt_c4_c5, ht0, ht1, ht2, ht3, ht4, rf_r0, rw_r0, rb_r0, rf_r1, rw_r1, rb_r1, nv_r1⟩ := id P
  refine iL X0 hx (hb Y at_150) rfl <| iK X0 hx (z := 1) (hb Y at_152) <| cY X0 hx (pc := 153) 176 (hb Y at_153) <| iL X0 hx (hb Y at_176) rfl <| iK X0 hx (z := 2) (hb Y at_178) <| cY X0 hx (pc := 179) 202 (hb Y at_179) <| aA X0 hx (hb Y at_202) rfl rfl <| vV X0 hx hZ hO (by rw [hml]; rfl) (w33 hw) (w34 hw) (w36 hw) (w35 hw) (w8 hw) (w37 hw) e0 E_c2 (argsL := []) (rest := []) (q1192 l Z a0 hw [] h0 n0 c2 c4 kc3 r1 c1 F_c2_s F_c2_r F_c2_o V_c4 nv_r1) (lenOf pd3 rfl) (hb Y at_204) fun T1488 L1488 v1488 X1488 hQ1488 => ?_
  obtain ⟨rfl, N1488q, e1488⟩ := hQ1488
  have N1488 := Fr.app N0 N1488q
  refine iS X1488 hx (L' := (FL p0 p1 2 0 t0 t1 t2 t3 t4 c1 c2 (iv 0) .unset .unset .unset .unset .unset)) (hb Y at_207) rfl ?_
  exact hk0 _ _ X1488 N1488
theorem F1_7  {cells slots : Nat} (p0 : Int32) (p1 : Int64) (mm : Int32) (gg : Int32) (t0 : Int32) (t1 : Int32) (t2 : Int32) (t3 : Int32) (t4 : Int32) (c1 : Nat) (c2 : Nat) (X0 : Stand p l e room_1 s m args below meth c T0 locs cells slots) (G : SG p s m meth c Z a0) (z20 : ¬ p1 < (20 : Int64)) (tv1 : t1 = (0 : Int32)) (h : EndsSo p e below (LQ s n0) T0 (mkF m 303 (FL p0 p1 2 mm t0 t1 t2 t3 t4 c1 c2 (iv gg) (iv 1) (iv t1) (.val (.long 20)) .second .unset) [])) :
    EndsSo p e below (LQ s n0) T0 (mkF m 209 (FL p0 p1 2 mm t0 t1 t2 t3 t4 c1 c2 (iv gg) .unset .unset .unset .unset .unset) []) := by
  obtain ⟨hx, hZ, hw, Y, hml, hO, hlk, hret⟩ := id G
  refine iK X0 hx (z := 0) (hb Y at_209) <| iS X0 hx (L' := (FL p0 p1 2 mm t0 t1 t2 t3 t4 c1 c2 (iv gg) (iv 0) .unset .unset .unset .unset)) (hb Y at_210) rfl <| iN X0 hx (hb Y at_212) rfl <| iK X0 hx (z := 2) (hb Y at_213) <| cN X0 hx (hb Y at_214) <| lN X0 hx (hb Y at_217) rfl <| f_ldc2 X0 hx hZ hO (w51 hw) (hb Y at_218) <| lC X0 hx (z := (lcmpW p1 (20 : Int64))) (hb Y at_221) (q := rfl) <| fN X0 hx (hb Y at_222) (hc := (own_ltF z20)) <| iK X0 hx (z := 1) (hb Y at_225) <| iS X0 hx (L' := (FL p0 p1 2 mm t0 t1 t2 t3 t4 c1 c2 (iv gg) (iv 1) .unset .unset .unset .unset)) (hb Y at_226) rfl <| iN X0 hx (hb Y at_228) rfl <| iK X0 hx (z := 3) (hb Y at_229) <| cY X0 hx (pc := 230) 244 (hb Y at_230) <| iN X0 hx (hb Y at_244) rfl <| iK X0 hx (z := 1) (hb Y at_245) <| cN X0 hx (hb Y at_246) <| iL X0 hx (hb Y at_249) rfl <| fY X0 hx (pc := 251) 259 (hb Y at_251) <| iL X0 hx (hb Y at_259) rfl <| iK X0 hx (z := 1) (hb Y at_261) <| cN X0 hx (hb Y at_262) <| iL X0 hx (hb Y at_265) rfl <| gT X0 hx (pc := 267) 272 (hb Y at_267) <| iS X0 hx (L' := (FL p0 p1 2 mm t0 t1 t2 t3 t4 c1 c2 (iv gg) (iv 1) (iv t1) .unset .unset .unset)) (hb Y at_272) rfl <| f_ldc2 X0 hx hZ hO (w38 hw) (hb Y at_274) <| iL X0 hx (hb Y at_277) rfl <| iK X0 hx (z := 1) (hb Y at_279) <| iA X0 hx (z := 2) (hb Y at_280) <| f_i2l X0 hx (z := 2) (hb Y at_281) <| f_lmul X0 hx (z := 20) (hb Y at_282) <| f_lstore X0 hx (L' := (FL p0 p1 2 mm t0 t1 t2 t3 t4 c1 c2 (iv gg) (iv 1) (iv t1) (.val (.long 20)) .second .unset)) (hb Y at_283) rfl <| f_lload X0 hx (hb Y at_285) rfl <| lN X0 hx (hb Y at_287) rfl <| lC X0 hx (z := (lcmpW (20 : Int64) p1)) (hb Y at_288) (q := rfl) <| fN X0 hx (hb Y at_289) (hc := (own_gtF z20)) <| iL X0 hx (hb Y at_292) rfl <| fY X0 hx (pc := 294) 303 (hb Y at_294) (hc := (own_eqT tv1)) ?_
  exact h
theorem F2_19  {cells slots : Nat} (p0 : Int32) (p1 : Int64) (t0 : Int32) (t1 : Int32) (t2 : Int32) (t3 : Int32) (t4 : Int32) (c1 : Nat) (c2 : Nat) (X0 : Stand p l e room_1 s m args below meth c T0 locs cells slots) (G : SG p s m meth c Z a0) (tv1 : t1 = (0 : Int32)) (N0 : Fr n0 locs) (hK : cells ≤ room_1.cells) (hN : slots ≤ room_1.slots) :
    EndsSo p e below (LQ s n0) T0 (mkF m 303 (FL p0 p1 2 0 t0 t1 t2 t3 t4 c1 c2 (iv 0) (iv 1) (iv t1) (.val (.long 20)) .second .unset) []) := by
  obtain ⟨hx, hZ, hw, Y, hml, hO, hlk, hret⟩ := id G
  refine iN X0 hx (hb Y at_303) rfl <| iL X0 hx (hb Y at_304) rfl <| iB X0 hx (z := 1) (hb Y at_306) <| iS X0 hx (L' := (FL p0 p1 2 0 t0 t1 t2 t3 t4 c1 c2 (iv 0) (iv 1) (iv 1) (.val (.long 20)) .second .unset)) (hb Y at_307) rfl <| iL X0 hx (hb Y at_309) rfl <| iL X0 hx (hb Y at_311) rfl <| iA X0 hx (z := 1) (hb Y at_313) <| iS X0 hx (L' := (FL p0 p1 2 0 t0 t1 t2 t3 t4 c1 c2 (iv 0) (iv 1) (iv 1) (iv 1) .unset .unset)) (hb Y at_314) rfl <| iL X0 hx (hb Y at_316) rfl <| iK X0 hx (z := 1) (hb Y at_318) <| cN X0 hx (hb Y at_319) <| iL X0 hx (hb Y at_322) rfl <| fY X0 hx (pc := 324) 332 (hb Y at_324) <| iL X0 hx (hb Y at_332) rfl <| iK X0 hx (z := 1) (hb Y at_334) <| cN X0 hx (hb Y at_335) <| iL X0 hx (hb Y at_338) rfl <| gT X0 hx (pc := 340) 350 (hb Y at_340) <| iS X0 hx (L' := (FL p0 p1 2 0 t0 t1 t2 t3 t4 c1 c2 (iv 0) (iv 1) (iv 1) (iv 1) (iv t1) .unset)) (hb Y at_350) rfl <| iL X0 hx (hb Y at_352) rfl <| iK X0 hx (z := 1) (hb Y at_354) <| cN X0 hx (hb Y at_355) <| iL X0 hx (hb Y at_358) rfl <| iK X0 hx (z := 1) (hb Y at_360) <| cN X0 hx (hb Y at_361) <| iL X0 hx (hb Y at_364) rfl <| fY X0 hx (pc := 366) 373 (hb Y at_366) (hc := (own_eqT tv1)) <| iK X0 hx (z := 0) (hb Y at_373) <| iS X0 hx (L' := (FL p0 p1 2 0 t0 t1 t2 t3 t4 c1 c2 (iv 0) (iv 1) (iv 1) (iv 1) (iv t1) (iv 0))) (hb Y at_374) rfl <| iL X0 hx (hb Y at_376) rfl <| iL X0 hx (hb Y at_378) rfl <| cN X0 hx (hb Y at_380) <| iK X0 hx (z := 1) (hb Y at_383) <| gT X0 hx (pc := 384) 388 (hb Y at_384) ?_
  exact f_ret X0 hx hlk (i := .ireturn) hret rfl (Or.inl ⟨rfl, Or.inr (Or.inl rfl), _, rfl⟩) (hb Y at_388) (QQ := (QL n0)) ⟨rfl, N0⟩ hK hN
theorem F2_20  {cells slots : Nat} (p0 : Int32) (p1 : Int64) (t0 : Int32) (t1 : Int32) (t2 : Int32) (t3 : Int32) (t4 : Int32) (c1 : Nat) (c2 : Nat) (X0 : Stand p l e room_1 s m args below meth c T0 locs cells slots) (G : SG p s m meth c Z a0) (N0 : Fr n0 locs) (hK : cells ≤ room_1.cells) (hN : slots ≤ room_1.slots) :
    EndsSo p e below (LQ s n0) T0 (mkF m 303 (FL p0 p1 2 1 t0 t1 t2 t3 t4 c1 c2 (iv 1) (iv 1) (iv t1) (.val (.long 20)) .second .unset) []) := by
  obtain ⟨hx, hZ, hw, Y, hml, hO, hlk, hret⟩ := id G
  refine iN X0 hx (hb Y at_303) rfl <| iL X0 hx (hb Y at_304) rfl <| iB X0 hx (z := 1) (hb Y at_306) <| iS X0 hx (L' := (FL p0 p1 2 1 t0 t1 t2 t3 t4 c1 c2 (iv 1) (iv 1) (iv 1) (.val (.long 20)) .second .unset)) (hb Y at_307) rfl <| iL X0 hx (hb Y at_309) rfl <| iL X0 hx (hb Y at_311) rfl <| iA X0 hx (z := 2) (hb Y at_313) <| iS X0 hx (L' := (FL p0 p1 2 1 t0 t1 t2 t3 t4 c1 c2 (iv 1) (iv 1) (iv 1) (iv 2) .unset .unset)) (hb Y at_314) rfl <| iL X0 hx (hb Y at_316) rfl <| iK X0 hx (z := 1) (hb Y at_318) <| cN X0 hx (hb Y at_319) <| iL X0 hx (hb Y at_322) rfl <| fY X0 hx (pc := 324) 332 (hb Y at_324) <| iL X0 hx (hb Y at_332) rfl <| iK X0 hx (z := 1) (hb Y at_334) <| cN X0 hx (hb Y at_335) <| iL X0 hx (hb Y at_338) rfl <| gT X0 hx (pc := 340) 350 (hb Y at_340) <| iS X0 hx (L' := (FL p0 p1 2 1 t0 t1 t2 t3 t4 c1 c2 (iv 1) (iv 1) (iv 1) (iv 2) (iv t1) .unset)) (hb Y at_350) rfl <| iL X0 hx (hb Y at_352) rfl <| iK X0 hx (z := 1) (hb Y at_354) <| cY X0 hx (pc := 355) 369 (hb Y at_355) <| iK X0 hx (z := 1) (hb Y at_369) <| gT X0 hx (pc := 370) 374 (hb Y at_370) <| iS X0 hx (L' := (FL p0 p1 2 1 t0 t1 t2 t3 t4 c1 c2 (iv 1) (iv 1) (iv 1) (iv 2) (iv t1) (iv 1))) (hb Y at_374) rfl <| iL X0 hx (hb Y at_376) rfl <| iL X0 hx (hb Y at_378) rfl <| cN X0 hx (hb Y at_380) <| iK X0 hx (z := 1) (hb Y at_383) <| gT X0 hx (pc := 384) 388 (hb Y at_384) ?_
  exact f_ret X0 hx hlk (i := .ireturn) hret rfl (Or.inl ⟨rfl, Or.inr (Or.inl rfl), _, rfl⟩) (hb Y at_388) (QQ := (QL n0)) ⟨rfl, N0⟩ hK hN
theorem F2_21  {cells slots : Nat} (p0 : Int32) (p1 : Int64) (t0 : Int32) (t1 : Int32) (t2 : Int32) (t3 : Int32) (t4 : Int32) (c1 : Nat) (c2 : Nat) (X0 : Stand p l e room_1 s m args below meth c T0 locs cells slots) (G : SG p s m meth c Z a0) (N0 : Fr n0 locs) (hK : cells ≤ room_1.cells) (hN : slots ≤ room_1.slots) :
    EndsSo p e below (LQ s n0) T0 (mkF m 303 (FL p0 p1 2 2 t0 t1 t2 t3 t4 c1 c2 (iv 1) (iv 1) (iv t1) (.val (.long 20)) .second .unset) []) := by
  obtain ⟨hx, hZ, hw, Y, hml, hO, hlk, hret⟩ := id G
  refine iN X0 hx (hb Y at_303) rfl <| iL X0 hx (hb Y at_304) rfl <| iB X0 hx (z := 1) (hb Y at_306) <| iS X0 hx (L' := (FL p0 p1 2 2 t0 t1 t2 t3 t4 c1 c2 (iv 1) (iv 1) (iv 1) (.val (.long 20)) .second .unset)) (hb Y at_307) rfl <| iL X0 hx (hb Y at_309) rfl <| iL X0 hx (hb Y at_311) rfl <| iA X0 hx (z := 3) (hb Y at_313) <| iS X0 hx (L' := (FL p0 p1 2 2 t0 t1 t2 t3 t4 c1 c2 (iv 1) (iv 1) (iv 1) (iv 3) .unset .unset)) (hb Y at_314) rfl <| iL X0 hx (hb Y at_316) rfl <| iK X0 hx (z := 1) (hb Y at_318) <| cN X0 hx (hb Y at_319) <| iL X0 hx (hb Y at_322) rfl <| fY X0 hx (pc := 324) 332 (hb Y at_324) <| iL X0 hx (hb Y at_332) rfl <| iK X0 hx (z := 1) (hb Y at_334) <| cN X0 hx (hb Y at_335) <| iL X0 hx (hb Y at_338) rfl <| gT X0 hx (pc := 340) 350 (hb Y at_340) <| iS X0 hx (L' := (FL p0 p1 2 2 t0 t1 t2 t3 t4 c1 c2 (iv 1) (iv 1) (iv 1) (iv 3) (iv t1) .unset)) (hb Y at_350) rfl <| iL X0 hx (hb Y at_352) rfl <| iK X0 hx (z := 1) (hb Y at_354) <| cY X0 hx (pc := 355) 369 (hb Y at_355) <| iK X0 hx (z := 1) (hb Y at_369) <| gT X0 hx (pc := 370) 374 (hb Y at_370) <| iS X0 hx (L' := (FL p0 p1 2 2 t0 t1 t2 t3 t4 c1 c2 (iv 1) (iv 1) (iv 1) (iv 3) (iv t1) (iv 1))) (hb Y at_374) rfl <| iL X0 hx (hb Y at_376) rfl <| iL X0 hx (hb Y at_378) rfl <| cN X0 hx (hb Y at_380) <| iK X0 hx (z := 1) (hb Y at_383) <| gT X0 hx (pc := 384) 388 (hb Y at_384) ?_
  exact f_ret X0 hx hlk (i := .ireturn) hret rfl (Or.inl ⟨rfl, Or.inr (Or.inl rfl), _, rfl⟩) (hb Y at_388) (QQ := (QL n0)) ⟨rfl, N0⟩ hK hN
theorem C2_24  (c1 : Nat) (c2 : Nat) (c3 : Nat) (c4 : Nat) (c5 : Nat) (kc1 : ClassId) (kc2 : ClassId) (kc3 : ClassId) (kc4 : ClassId) (r0 : Value) (r1 : Value) (t0 : Int32) (t1 : Int32) (t2 : Int32) (t3 : Int32) (t4 : Int32) (mm : Int32) (p1 : Int64) (p0 : Int32) (X0 : Stand p l e room_1 s m args below meth c T0 locs 5 13) (G : SG p s m meth c Z a0) (e0 : T0.heap = h0) (N0 : Fr n0 locs) (P : St41 Z h0 n0 c1 c2 c3 c4 c5 kc1 kc2 kc3 kc4 r0 r1 t0 t1 t2 t3 t4 mm p1) :
    EndsSo p e below (LQ s n0) T0 (mkF m 143 (FL p0 p1 2 mm t0 t1 t2 t3 t4 c1 c2 .unset .unset .unset .unset .unset .unset) []) := by
  obtain ⟨hx, hZ, hw, Y, hml, hO, hlk, hret⟩ := id G
  obtain ⟨E_c1, V_c1, O_c1, E_c2, F_c2_t, F_c2_r, F_c2_c, F_c2_s, F_c2_o, V_c3, E_c4, V_c4, O_c4, E_c5, V_c5, O_c5, g_c1, lt_c1_c2, lt_c2_c3, lt_c3_c4, lt_c4_c5, ht0, ht1, ht2, ht3, ht4, rf_r0, rw_r0, rb_r0, rf_r1, rw_r1, rb_r1, hm3, nv_r1, z10, z20, tv1⟩ := id P
  refine aA X0 hx (hb Y at_143) rfl rfl <| lN X0 hx (hb Y at_145) rfl ?_
  have P1487 : St41 Z h0 n0 c1 c2 c3 c4 c5 kc1 kc2 kc3 kc4 r0 r1 t0 t1 t2 t3 t4 mm p1 := ⟨E_c1, V_c1, O_c1, E_c2, F_c2_t, F_c2_r, F_c2_c, F_c2_s, F_c2_o, V_c3, E_c4, V_c4, O_c4, E_c5, V_c5, O_c5, g_c1, lt_c1_c2, lt_c2_c3, lt_c3_c4, lt_c4_c5, ht0, ht1, ht2, ht3, ht4, rf_r0, rw_r0, rb_r0, rf_r1, rw_r1, rb_r1, hm3, nv_r1, z10, z20, tv1⟩
  refine vV X0 hx hZ hO (by rw [hml]; rfl) (w26 hw) (w27 hw) (w29 hw) (w28 hw) (w8 hw) (w30 hw) e0 E_c2 (argsL := [(.long p1)]) (rest := []) (m1486 l Z a0 hw [] h0 n0 c1 c2 c3 c4 c5 kc1 kc2 kc3 kc4 r0 r1 t0 t1 t2 t3 t4 mm p1 P1487) (lenOf pd2 rfl) (hb Y at_146) fun T1409 L1409 v1409 X1409 hQ1409 => ?_
  obtain ⟨rfl, N1409q, P1409⟩ := hQ1409
  obtain ⟨E_c1, V_c1, O_c1, E_c2, F_c2_t, F_c2_r, F_c2_c, F_c2_s, F_c2_o, V_c3, E_c4, V_c4, O_c4, E_c5, V_c5, O_c5, g_c1, lt_c1_c2, lt_c2_c3, lt_c3_c4, lt_c4_c5, ht0, ht1, ht2, ht3, ht4, rf_r0, rw_r0, rb_r0, rf_r1, rw_r1, rb_r1, hm3, nv_r1, z10, z20, tv1⟩ := id P1409
  have N1409 := Fr.app N0 N1409q
  refine f_pop X1409 hx (hb Y at_149) rfl ?_
  rcases id hm3 with rfl | rfl | rfl
  · have P1493 : St43 Z T1409.heap n0 c1 c2 c3 c4 c5 kc1 kc2 kc3 kc4 r1 t0 t1 t2 t3 t4 r0 := ⟨E_c1, V_c1, O_c1, E_c2, F_c2_t, F_c2_r, F_c2_c, F_c2_s, F_c2_o, V_c3, E_c4, V_c4, O_c4, E_c5, V_c5, O_c5, g_c1, lt_c1_c2, lt_c2_c3, lt_c3_c4, lt_c4_c5, ht0, ht1, ht2, ht3, ht4, rf_r0, rw_r0, rb_r0, rf_r1, rw_r1, rb_r1, nv_r1⟩
    exact D0_24 c1 c2 c3 c4 c5 kc1 kc2 kc3 kc4 r1 t0 t1 t2 t3 t4 r0 p0 p1 X1409 G rfl N1409 P1493 (fun T' locs' X' N' => F1_7 p0 p1 (0 : Int32) (0 : Int32) t0 t1 t2 t3 t4 c1 c2 X' G z20 tv1 (F2_19 p0 p1 t0 t1 t2 t3 t4 c1 c2 X' G tv1 N' (by decide) (by decide)))
  · have P1494 : St36 Z T1409.heap n0 c1 c2 c3 c4 c5 kc1 kc2 kc3 kc4 r1 t0 t1 t2 t3 t4 r0 := ⟨E_c1, V_c1, O_c1, E_c2, F_c2_t, F_c2_r, F_c2_c, F_c2_s, F_c2_o, V_c3, E_c4, V_c4, O_c4, E_c5, V_c5, O_c5, g_c1, lt_c1_c2, lt_c2_c3, lt_c3_c4, lt_c4_c5, ht0, ht1, ht2, ht3, ht4, rf_r0, rw_r0, rb_r0, rf_r1, rw_r1, rb_r1⟩
    exact D1_21 c1 c2 c3 c4 c5 kc1 kc2 kc3 kc4 r1 t0 t1 t2 t3 t4 r0 p0 p1 X1409 G rfl N1409 P1494 (fun T' locs' X' N' => F1_7 p0 p1 (1 : Int32) (1 : Int32) t0 t1 t2 t3 t4 c1 c2 X' G z20 tv1 (F2_20 p0 p1 t0 t1 t2 t3 t4 c1 c2 X' G N' (by decide) (by decide)))
  · have P1495 : St36 Z T1409.heap n0 c1 c2 c3 c4 c5 kc1 kc2 kc3 kc4 r1 t0 t1 t2 t3 t4 r0 := ⟨E_c1, V_c1, O_c1, E_c2, F_c2_t, F_c2_r, F_c2_c, F_c2_s, F_c2_o, V_c3, E_c4, V_c4, O_c4, E_c5, V_c5, O_c5, g_c1, lt_c1_c2, lt_c2_c3, lt_c3_c4, lt_c4_c5, ht0, ht1, ht2, ht3, ht4, rf_r0, rw_r0, rb_r0, rf_r1, rw_r1, rb_r1⟩
    exact D2_22 c1 c2 c3 c4 c5 kc1 kc2 kc3 kc4 r1 t0 t1 t2 t3 t4 r0 p0 p1 X1409 G rfl N1409 P1495 (fun T' locs' X' N' => F1_7 p0 p1 (2 : Int32) (1 : Int32) t0 t1 t2 t3 t4 c1 c2 X' G z20 tv1 (F2_21 p0 p1 t0 t1 t2 t3 t4 c1 c2 X' G N' (by decide) (by decide)))
def St44 (Z : State) (h : Heap) (n0 : Nat) (c1 : Nat) (c2 : Nat) (c3 : Nat) (c4 : Nat) (c5 : Nat) (kc1 : ClassId) (kc2 : ClassId) (kc3 : ClassId) (kc4 : ClassId) (r0 : Value) (r1 : Value) (t0 : Int32) (t1 : Int32) (t2 : Int32) (t3 : Int32) (t4 : Int32) (mm : Int32) (p1 : Int64) : Prop :=
  xO Z h c1 ∧
  Arv Z h c1 kc1 (.object "java/lang/Object") 1 [.null] .null ∧
  Ovr Z kc1 "java/lang/Object" ∧
  Exa Z h c2 cV ∧
  fT Z h c2 (.ref c3) ∧
  fR Z h c2 (.ref c4) ∧
  fC Z h c2 (.ref c5) ∧
  fS Z h c2 (.int 2) ∧
  fO Z h c2 (.int 0) ∧
  aL Z h c3 kc2 2 [(.long 10), (.long 20)] ∧
  xR Z h c4 ∧
  aR Z h c4 kc3 2 [r0, r1] ∧
  oR Z kc3 ∧
  xC Z h c5 ∧
  aC Z h c5 kc4 2 [.null, .null] ∧
  oC Z kc4 ∧
  n0 ≤ c1 ∧
  c1 < c2 ∧
  c2 < c3 ∧
  c3 < c4 ∧
  c4 < c5 ∧
  (t0 = (0 : Int32) ∨ t0 = (1 : Int32)) ∧
  (t1 = (0 : Int32) ∨ t1 = (1 : Int32)) ∧
  (t2 = (0 : Int32) ∨ t2 = (1 : Int32)) ∧
  (t3 = (0 : Int32) ∨ t3 = (1 : Int32)) ∧
  (t4 = (0 : Int32) ∨ t4 = (1 : Int32)) ∧
  r0.isRef = true ∧
  (r0 = .null ∨ r0 = .ref c1) ∧
  ((t0 = (0 : Int32) ∧ r0 = .ref c1) ∨ (t0 = (1 : Int32) ∧ r0 = .null)) ∧
  r1.isRef = true ∧
  (r1 = .null ∨ r1 = .ref c1) ∧
  ((t1 = (0 : Int32) ∧ r1 = .ref c1) ∨ (t1 = (1 : Int32) ∧ r1 = .null)) ∧
  (mm = (0 : Int32) ∨ mm = (1 : Int32) ∨ mm = (2 : Int32)) ∧
  r1 = .null ∧
  ¬ p1 < (10 : Int64) ∧
  ¬ p1 < (20 : Int64) ∧
  t1 = (1 : Int32)
theorem q1646 (l : Launch) (Z : State) (a0 : Array Value) (hw : HW a0 Z) (ws : List Jvm.Cond) (h0 : Heap) (n0 : Nat) (c1 : Nat) (c2 : Nat) (kc3 : ClassId) (vs_c2 : List Value) (F_c1_o : fO Z h0 c1 (.int 0)) (F_c1_t : fT Z h0 c1 (.ref c2)) (V_c2 : aL Z h0 c2 kc3 2 vs_c2) :
    MC l Z y6 prog_95_method_11_code 2 (some .int) ws rm_0_0_0_0 #[(.ref c1), (.int 2)] h0 (QV (.int 0) h0 n0) := by
  refine own_met (plainFor_of_name pn6) fun p e s m below meth c s₁ X0 hx hZ Y hml hO hnm hlk hret e0 => f_cast (f' := mkF m 0 #[(rv c1), (iv 2)] []) (by first | (simp [entryFrame, mkF, argsToLocals, Value.category]; done) | rfl) ?_
  have N0 := Fr.nil n0
  refine aN X0 hx (hb Y d6_0) rfl rfl <| gF X0 hx hZ hO (w48 hw) Via.refl e0 F_c1_o (hb Y d6_1) fun T1644 X1644 e1644 => ?_
  refine iN X1644 hx (hb Y d6_4) rfl <| iA X1644 hx (z := 2) (hb Y d6_5) <| aN X1644 hx (hb Y d6_6) rfl rfl <| gF X1644 hx hZ hO (w16 hw) Via.refl e1644 F_c1_t (hb Y d6_7) fun T1645 X1645 e1645 => ?_
  refine f_len X1645 hx hZ e1645 V_c2 (hb Y d6_10) <| iK X1645 hx (z := 1) (hb Y d6_11) <| iB X1645 hx (z := 1) (hb Y d6_12) <| f_iand X1645 hx (z := 0) (hb Y d6_13) ?_
  exact f_ret X1645 hx hlk (i := .ireturn) hret rfl (Or.inl ⟨rfl, Or.inl rfl, _, rfl⟩) (hb Y d6_14) (QQ := (QV (.int 0) h0 n0)) ⟨rfl, N0, e1645⟩ (by decide) (by decide)
def St45 (Z : State) (h : Heap) (n0 : Nat) (c1 : Nat) (c2 : Nat) (c3 : Nat) (c4 : Nat) (c5 : Nat) (kc1 : ClassId) (kc2 : ClassId) (kc3 : ClassId) (kc4 : ClassId) (uu1 : Int64) (uu2 : Int64) (ww3 : Value) (ww4 : Value) : Prop :=
  xO Z h c1 ∧
  Arv Z h c1 kc1 (.object "java/lang/Object") 1 [.null] .null ∧
  Ovr Z kc1 "java/lang/Object" ∧
  Exa Z h c2 cV ∧
  fT Z h c2 (.ref c3) ∧
  fR Z h c2 (.ref c4) ∧
  fC Z h c2 (.ref c5) ∧
  fS Z h c2 (.int 0) ∧
  fO Z h c2 (.int 0) ∧
  aL Z h c3 kc2 2 [(.long uu1), (.long uu2)] ∧
  xR Z h c4 ∧
  aR Z h c4 kc3 2 [.null, .null] ∧
  oR Z kc3 ∧
  xC Z h c5 ∧
  aC Z h c5 kc4 2 [.null, .null] ∧
  oC Z kc4 ∧
  n0 ≤ c1 ∧
  c1 < c2 ∧
  c2 < c3 ∧
  c3 < c4 ∧
  c4 < c5 ∧
  ww3.isRef = true ∧
  (ww3 = .null ∨ ww3 = .ref c1) ∧
  ww4.isRef = true ∧
  (ww4 = .null ∨ ww4 = .ref c1)
def Qm1651 (Z : State) (n0 : Nat) (c1 : Nat) (c2 : Nat) (c3 : Nat) (c4 : Nat) (c5 : Nat) (kc1 : ClassId) (kc2 : ClassId) (kc3 : ClassId) (kc4 : ClassId) (uu1 : Int64) (uu2 : Int64) (ww3 : Value) (ww4 : Value) (v : Option Value) (h : Heap) (L : List Loc) : Prop := v = none ∧ Fr n0 L ∧ St45 Z h n0 c1 c2 c3 c4 c5 kc1 kc2 kc3 kc4 uu1 uu2 ww3 ww4
theorem m1651 (l : Launch) (Z : State) (a0 : Array Value) (hw : HW a0 Z) (ws : List Jvm.Cond) (h0 : Heap) (n0 : Nat) (c1 : Nat) (c2 : Nat) (c3 : Nat) (c4 : Nat) (c5 : Nat) (kc1 : ClassId) (kc2 : ClassId) (kc3 : ClassId) (kc4 : ClassId) (uu1 : Int64) (uu2 : Int64) (ww3 : Value) (ww4 : Value) (P : St13 Z h0 n0 c1 c2 c3 c4 c5 kc1 kc2 kc3 kc4 uu1 uu2 ww3 ww4) :
    MC l Z y7 prog_95_method_9_code 3 none ws rm_1_0_0_14 #[(.ref c2), (.int 2)] h0 (Qm1651 Z n0 c1 c2 c3 c4 c5 kc1 kc2 kc3 kc4 uu1 uu2 ww3 ww4) := by
  obtain ⟨E_c1, V_c1, O_c1, E_c2, F_c2_t, F_c2_r, F_c2_c, F_c2_s, F_c2_o, V_c3, E_c4, V_c4, O_c4, E_c5, V_c5, O_c5, g_c1, lt_c1_c2, lt_c2_c3, lt_c3_c4, lt_c4_c5, rf_ww3, rw_ww3, rf_ww4, rw_ww4⟩ := id P
  refine own_met (plainFor_of_name pn7) fun p e s m below meth c s₁ X0 hx hZ Y hml hO hnm hlk hret e0 => f_cast (f' := mkF m 0 #[(rv c2), (iv 2), .unset] []) (by first | (simp [entryFrame, mkF, argsToLocals, Value.category]; done) | rfl) ?_
  have N0 := Fr.nil n0
  refine iK X0 hx (z := 0) (hb Y d7_0) <| sN X0 hx (L' := #[(rv c2), (iv 2), (iv 0)]) (hb Y d7_1) rfl <| iN X0 hx (hb Y d7_2) rfl <| iN X0 hx (hb Y d7_3) rfl <| cN X0 hx (hb Y d7_4) <| aN X0 hx (hb Y d7_7) rfl rfl <| gF X0 hx hZ hO (w20 hw) Via.refl e0 F_c2_r (hb Y d7_8) fun T1623 X1623 e1623 => ?_
  refine aN X1623 hx (hb Y d7_11) rfl rfl <| iN X1623 hx (hb Y d7_12) rfl <| pV X1623 hx hZ hO (by rw [hml]; rfl) (w44 hw) (w45 hw) (w46 hw) (w7 hw) (w8 hw) (w47 hw) e1623 E_c2 (argsL := [(.int 0)]) (rest := [(.ref c4)]) (q61 l Z a0 hw [] h0 n0 c2 c3 kc2 _ F_c2_o F_c2_t V_c3) (lenOf pd4 rfl) (hb Y d7_13) fun T1624 L1624 v1624 X1624 hQ1624 => ?_
  obtain ⟨rfl, N1624q, e1624⟩ := hQ1624
  have N1624 := Fr.app N0 N1624q
  refine f_null X1624 hx (hb Y d7_16) <| f_ast X1624 hx hZ e1624 V_c4 rfl (Or.inl rfl) rfl 0 (hb Y d7_17) fun T1627 h1627 X1627 e1627 W1627 V1627 => ?_
  have N1627x := Fr.snoc X1627 N1624 (by omega : n0 ≤ c4)
  refine aN X1627 hx (hb Y d7_18) rfl rfl ?_
  replace F_c2_c := (fo W1627 F_c2_c)
  refine gF X1627 hx hZ hO (w24 hw) Via.refl e1627 F_c2_c (hb Y d7_19) fun T1628 X1628 e1628 => ?_
  refine aN X1628 hx (hb Y d7_22) rfl rfl <| iN X1628 hx (hb Y d7_23) rfl ?_
  replace F_c2_o := (fo W1627 F_c2_o)
  replace F_c2_t := (fo W1627 F_c2_t)
  replace V_c3 := (vo V_c3 W1627)
  replace E_c2 := (xw W1627 E_c2)
  refine pV X1628 hx hZ hO (by rw [hml]; rfl) (w44 hw) (w45 hw) (w46 hw) (w7 hw) (w8 hw) (w47 hw) e1628 E_c2 (argsL := [(.int 0)]) (rest := [(.ref c5)]) (q61 l Z a0 hw [] h1627 n0 c2 c3 kc2 _ F_c2_o F_c2_t V_c3) (lenOf pd4 rfl) (hb Y d7_24) fun T1629 L1629 v1629 X1629 hQ1629 => ?_
  obtain ⟨rfl, N1629q, e1629⟩ := hQ1629
  have N1629 := Fr.app N1627x N1629q
  refine f_null X1629 hx (hb Y d7_27) ?_
  replace V_c5 := (vo V_c5 W1627)
  refine f_ast X1629 hx hZ e1629 V_c5 rfl (Or.inl rfl) rfl 0 (hb Y d7_28) fun T1632 h1632 X1632 e1632 W1632 V1632 => ?_
  have N1632x := Fr.snoc X1632 N1629 (by omega : n0 ≤ c5)
  refine f_iinc X1632 hx (L' := #[(rv c2), (iv 2), (iv 1)]) (hb Y d7_29) rfl rfl <| gT X1632 hx (pc := 32) 2 (hb Y d7_32) <| iN X1632 hx (hb Y d7_2) rfl <| iN X1632 hx (hb Y d7_3) rfl <| cN X1632 hx (hb Y d7_4) <| aN X1632 hx (hb Y d7_7) rfl rfl ?_
  replace F_c2_r := (fo W1632 (fo W1627 F_c2_r))
  refine gF X1632 hx hZ hO (w20 hw) Via.refl e1632 F_c2_r (hb Y d7_8) fun T1633 X1633 e1633 => ?_
  refine aN X1633 hx (hb Y d7_11) rfl rfl <| iN X1633 hx (hb Y d7_12) rfl ?_
  replace F_c2_o := (fo W1632 F_c2_o)
  replace F_c2_t := (fo W1632 F_c2_t)
  replace V_c3 := (vo V_c3 W1632)
  replace E_c2 := (xw W1632 E_c2)
  refine pV X1633 hx hZ hO (by rw [hml]; rfl) (w44 hw) (w45 hw) (w46 hw) (w7 hw) (w8 hw) (w47 hw) e1633 E_c2 (argsL := [(.int 1)]) (rest := [(.ref c4)]) (q123 l Z a0 hw [] h1632 n0 c2 c3 kc2 _ F_c2_o F_c2_t V_c3) (lenOf pd4 rfl) (hb Y d7_13) fun T1634 L1634 v1634 X1634 hQ1634 => ?_
  obtain ⟨rfl, N1634q, e1634⟩ := hQ1634
  have N1634 := Fr.app N1632x N1634q
  refine f_null X1634 hx (hb Y d7_16) ?_
  replace V_c4 := (vo V1627 W1632)
  refine f_ast X1634 hx hZ e1634 V_c4 rfl (Or.inl rfl) rfl 1 (hb Y d7_17) fun T1637 h1637 X1637 e1637 W1637 V1637 => ?_
  have N1637x := Fr.snoc X1637 N1634 (by omega : n0 ≤ c4)
  refine aN X1637 hx (hb Y d7_18) rfl rfl ?_
  replace F_c2_c := (fo W1637 (fo W1632 F_c2_c))
  refine gF X1637 hx hZ hO (w24 hw) Via.refl e1637 F_c2_c (hb Y d7_19) fun T1638 X1638 e1638 => ?_
  refine aN X1638 hx (hb Y d7_22) rfl rfl <| iN X1638 hx (hb Y d7_23) rfl ?_
  replace F_c2_o := (fo W1637 F_c2_o)
  replace F_c2_t := (fo W1637 F_c2_t)
  replace V_c3 := (vo V_c3 W1637)
  replace E_c2 := (xw W1637 E_c2)
  refine pV X1638 hx hZ hO (by rw [hml]; rfl) (w44 hw) (w45 hw) (w46 hw) (w7 hw) (w8 hw) (w47 hw) e1638 E_c2 (argsL := [(.int 1)]) (rest := [(.ref c5)]) (q123 l Z a0 hw [] h1637 n0 c2 c3 kc2 _ F_c2_o F_c2_t V_c3) (lenOf pd4 rfl) (hb Y d7_24) fun T1639 L1639 v1639 X1639 hQ1639 => ?_
  obtain ⟨rfl, N1639q, e1639⟩ := hQ1639
  have N1639 := Fr.app N1637x N1639q
  refine f_null X1639 hx (hb Y d7_27) ?_
  replace V_c5 := (vo V1632 W1637)
  refine f_ast X1639 hx hZ e1639 V_c5 rfl (Or.inl rfl) rfl 1 (hb Y d7_28) fun T1642 h1642 X1642 e1642 W1642 V1642 => ?_
  have N1642x := Fr.snoc X1642 N1639 (by omega : n0 ≤ c5)
  refine f_iinc X1642 hx (L' := #[(rv c2), (iv 2), (iv 2)]) (hb Y d7_29) rfl rfl <| gT X1642 hx (pc := 32) 2 (hb Y d7_32) <| iN X1642 hx (hb Y d7_2) rfl <| iN X1642 hx (hb Y d7_3) rfl <| cY X1642 hx (pc := 4) 35 (hb Y d7_4) <| aN X1642 hx (hb Y d7_35) rfl rfl <| aN X1642 hx (hb Y d7_36) rfl rfl <| iN X1642 hx (hb Y d7_37) rfl ?_
  replace F_c2_o := (fo W1642 F_c2_o)
  replace F_c2_t := (fo W1642 F_c2_t)
  replace V_c3 := (vo V_c3 W1642)
  replace E_c2 := (xw W1642 E_c2)
  refine pV X1642 hx hZ hO (by rw [hml]; rfl) (w44 hw) (w45 hw) (w46 hw) (w7 hw) (w8 hw) (w47 hw) e1642 E_c2 (argsL := [(.int 2)]) (rest := [(.ref c2)]) (q1646 l Z a0 hw [] h1642 n0 c2 c3 kc2 _ F_c2_o F_c2_t V_c3) (lenOf pd4 rfl) (hb Y d7_38) fun T1643 L1643 v1643 X1643 hQ1643 => ?_
  obtain ⟨rfl, N1643q, e1643⟩ := hQ1643
  have N1643 := Fr.app N1642x N1643q
  refine f_putF X1643 hx hZ hO (w48 hw) Via.refl e1643 F_c2_o E_c2 (Or.inl (w49 hw)) (w7 hw) (ty := .int) (by decide) rfl rfl (hb Y d7_41) fun T1647 h1647 X1647 e1647 W1647 => ?_
  have N1647x := Fr.snoc X1647 N1643 (by omega : n0 ≤ c2)
  refine aN X1647 hx (hb Y d7_44) rfl rfl <| f_dup X1647 hx (hb Y d7_45) rfl ?_
  replace F_c2_s := (Fld.other W1647 (fo W1642 (fo W1637 (fo W1632 (fo W1627 F_c2_s)))) (Or.inr (slot_ne (Or.inl (w32 hw)) (Or.inl (w49 hw)) (by decide) (t := .int) (t' := .int) (by decide) (by decide))))
  refine gF X1647 hx hZ hO (w31 hw) Via.refl e1647 F_c2_s (hb Y d7_46) fun T1648 X1648 e1648 => ?_
  refine iN X1648 hx (hb Y d7_49) rfl <| iB X1648 hx (z := 0) (hb Y d7_50) ?_
  replace E_c2 := (xw W1647 E_c2)
  refine f_putF X1648 hx hZ hO (w31 hw) Via.refl e1648 F_c2_s E_c2 (Or.inl (w32 hw)) (w7 hw) (ty := .int) (by decide) rfl rfl (hb Y d7_51) fun T1649 h1649 X1649 e1649 W1649 => ?_
  have N1649x := Fr.snoc X1649 N1647x (by omega : n0 ≤ c2)
  refine aN X1649 hx (hb Y d7_54) rfl rfl ?_
  replace F_c2_t := (Fld.other W1649 (Fld.other W1647 F_c2_t (Or.inr (slot_ne (Or.inl (w17 hw)) (Or.inl (w49 hw)) (by decide) (t := (.array .long)) (t' := .int) (by decide) (by decide)))) (Or.inr (slot_ne (Or.inl (w17 hw)) (Or.inl (w32 hw)) (by decide) (t := (.array .long)) (t' := .int) (by decide) (by decide))))
  refine gF X1649 hx hZ hO (w16 hw) Via.refl e1649 F_c2_t (hb Y d7_55) fun T1650 X1650 e1650 => ?_
  replace V_c3 := (vo (vo V_c3 W1647) W1649)
  refine f_len X1650 hx hZ e1650 V_c3 (hb Y d7_58) <| iK X1650 hx (z := 2) (hb Y d7_59) <| cY X1650 hx (pc := 60) 94 (hb Y d7_60) ?_
  exact f_ret0 X1650 hx hlk hret (hb Y d7_94) (QQ := (Qm1651 Z n0 c1 c2 c3 c4 c5 kc1 kc2 kc3 kc4 uu1 uu2 ww3 ww4)) (by rw [e1650]; exact ⟨rfl, N1649x, (xw W1649 (xw W1647 (xw W1642 (xw W1637 (xw W1632 (xw W1627 E_c1)))))), (vo (vo (vo (vo (vo (vo V_c1 W1627) W1632) W1637) W1642) W1647) W1649), O_c1, (xw W1649 E_c2), F_c2_t, (Fld.other W1649 (Fld.other W1647 (fo W1642 (fo W1637 F_c2_r)) (Or.inr (slot_ne (Or.inl (w21 hw)) (Or.inl (w49 hw)) (by decide) (t := (.array (.array (.object "java/lang/Object")))) (t' := .int) (by decide) (by decide)))) (Or.inr (slot_ne (Or.inl (w21 hw)) (Or.inl (w32 hw)) (by decide) (t := (.array (.array (.object "java/lang/Object")))) (t' := .int) (by decide) (by decide)))), (Fld.other W1649 (Fld.other W1647 (fo W1642 F_c2_c) (Or.inr (slot_ne (Or.inl (w25 hw)) (Or.inl (w49 hw)) (by decide) (t := (.array (.array .int))) (t' := .int) (by decide) (by decide)))) (Or.inr (slot_ne (Or.inl (w25 hw)) (Or.inl (w32 hw)) (by decide) (t := (.array (.array .int))) (t' := .int) (by decide) (by decide)))), (Fld.same W1649 F_c2_s), (Fld.other W1649 (Fld.same W1647 F_c2_o) (Or.inr (slot_ne (Or.inl (w49 hw)) (Or.inl (w32 hw)) (by decide) (t := .int) (t' := .int) (by decide) (by decide)))), V_c3, (xw W1649 (xw W1647 (xw W1642 (xw W1637 (xw W1632 (xw W1627 E_c4)))))), (vo (vo (vo V1637 W1642) W1647) W1649), O_c4, (xw W1649 (xw W1647 (xw W1642 (xw W1637 (xw W1632 (xw W1627 E_c5)))))), (vo (vo V1642 W1647) W1649), O_c5, g_c1, lt_c1_c2, lt_c2_c3, lt_c3_c4, lt_c4_c5, rf_ww3, rw_ww3, rf_ww4, rw_ww4⟩) (by decide) (by decide)
def St46 (Z : State) (h : Heap) (n0 : Nat) (c1 : Nat) (c2 : Nat) (c3 : Nat) (c4 : Nat) (c5 : Nat) (kc1 : ClassId) (kc2 : ClassId) (kc3 : ClassId) (kc4 : ClassId) (t0 : Int32) (t1 : Int32) (t2 : Int32) (t3 : Int32) (t4 : Int32) (r0 : Value) (r1 : Value) (mm : Int32) (p1 : Int64) : Prop :=
  xO Z h c1 ∧
  Arv Z h c1 kc1 (.object "java/lang/Object") 1 [.null] .null ∧
  Ovr Z kc1 "java/lang/Object" ∧
  Exa Z h c2 cV ∧
  fT Z h c2 (.ref c3) ∧
  fR Z h c2 (.ref c4) ∧
  fC Z h c2 (.ref c5) ∧
  fS Z h c2 (.int 0) ∧
  fO Z h c2 (.int 0) ∧
  aL Z h c3 kc2 2 [(.long 10), (.long 20)] ∧
  xR Z h c4 ∧
  aR Z h c4 kc3 2 [.null, .null] ∧
  oR Z kc3 ∧
  xC Z h c5 ∧
  aC Z h c5 kc4 2 [.null, .null] ∧
  oC Z kc4 ∧
  n0 ≤ c1 ∧
  c1 < c2 ∧
  c2 < c3 ∧
  c3 < c4 ∧
  c4 < c5 ∧
  (t0 = (0 : Int32) ∨ t0 = (1 : Int32)) ∧
  (t1 = (0 : Int32) ∨ t1 = (1 : Int32)) ∧
  (t2 = (0 : Int32) ∨ t2 = (1 : Int32)) ∧
  (t3 = (0 : Int32) ∨ t3 = (1 : Int32)) ∧
  (t4 = (0 : Int32) ∨ t4 = (1 : Int32)) ∧
  r0.isRef = true ∧
  (r0 = .null ∨ r0 = .ref c1) ∧
  ((t0 = (0 : Int32) ∧ r0 = .ref c1) ∨ (t0 = (1 : Int32) ∧ r0 = .null)) ∧
  r1.isRef = true ∧
  (r1 = .null ∨ r1 = .ref c1) ∧
  ((t1 = (0 : Int32) ∧ r1 = .ref c1) ∨ (t1 = (1 : Int32) ∧ r1 = .null)) ∧
  (mm = (0 : Int32) ∨ mm = (1 : Int32) ∨ mm = (2 : Int32)) ∧
  r1 = .null ∧
  ¬ p1 < (10 : Int64) ∧
  ¬ p1 < (20 : Int64) ∧
  t1 = (1 : Int32)
def Qm1654 (Z : State) (n0 : Nat) (c1 : Nat) (c2 : Nat) (c3 : Nat) (c4 : Nat) (c5 : Nat) (kc1 : ClassId) (kc2 : ClassId) (kc3 : ClassId) (kc4 : ClassId) (r0 : Value) (r1 : Value) (t0 : Int32) (t1 : Int32) (t2 : Int32) (t3 : Int32) (t4 : Int32) (mm : Int32) (p1 : Int64) (v : Option Value) (h : Heap) (L : List Loc) : Prop := v = some (.int 1) ∧ Fr n0 L ∧ St46 Z h n0 c1 c2 c3 c4 c5 kc1 kc2 kc3 kc4 t0 t1 t2 t3 t4 r0 r1 mm p1
theorem m1654 (l : Launch) (Z : State) (a0 : Array Value) (hw : HW a0 Z) (ws : List Jvm.Cond) (h0 : Heap) (n0 : Nat) (c1 : Nat) (c2 : Nat) (c3 : Nat) (c4 : Nat) (c5 : Nat) (kc1 : ClassId) (kc2 : ClassId) (kc3 : ClassId) (kc4 : ClassId) (r0 : Value) (r1 : Value) (t0 : Int32) (t1 : Int32) (t2 : Int32) (t3 : Int32) (t4 : Int32) (mm : Int32) (p1 : Int64) (P : St44 Z h0 n0 c1 c2 c3 c4 c5 kc1 kc2 kc3 kc4 r0 r1 t0 t1 t2 t3 t4 mm p1) :
    MC l Z y3 prog_95_method_5_code 5 (some .boolean) ws rm_2_0_0_28 #[(.ref c2), (.long p1)] h0 (Qm1654 Z n0 c1 c2 c3 c4 c5 kc1 kc2 kc3 kc4 r0 r1 t0 t1 t2 t3 t4 mm p1) := by
  obtain ⟨E_c1, V_c1, O_c1, E_c2, F_c2_t, F_c2_r, F_c2_c, F_c2_s, F_c2_o, V_c3, E_c4, V_c4, O_c4, E_c5, V_c5, O_c5, g_c1, lt_c1_c2, lt_c2_c3, lt_c3_c4, lt_c4_c5, ht0, ht1, ht2, ht3, ht4, rf_r0, rw_r0, rb_r0, rf_r1, rw_r1, rb_r1, hm3, nv_r1, z10, z20, tv1⟩ := id P
  refine own_met (plainFor_of_name pn3) fun p e s m below meth c s₁ X0 hx hZ Y hml hO hnm hlk hret e0 => f_cast (f' := mkF m 0 #[(rv c2), (.val (.long p1)), .second, .unset, .unset] []) (by first | (simp [entryFrame, mkF, argsToLocals, Value.category]; done) | rfl) ?_
  have N0 := Fr.nil n0
  refine aN X0 hx (hb Y d3_0) rfl rfl <| gF X0 hx hZ hO (w31 hw) Via.refl e0 F_c2_s (hb Y d3_1) fun T1582 X1582 e1582 => ?_
  refine fY X1582 hx (pc := 4) 9 (hb Y d3_4) <| iK X1582 hx (z := 0) (hb Y d3_9) <| sN X1582 hx (L' := #[(rv c2), (.val (.long p1)), .second, (iv 0), .unset]) (hb Y d3_10) rfl <| iN X1582 hx (hb Y d3_11) rfl <| iK X1582 hx (z := 1) (hb Y d3_12) <| iA X1582 hx (z := 1) (hb Y d3_13) <| aN X1582 hx (hb Y d3_14) rfl rfl <| gF X1582 hx hZ hO (w31 hw) Via.refl e1582 F_c2_s (hb Y d3_15) fun T1583 X1583 e1583 => ?_
  refine cN X1583 hx (hb Y d3_18) <| aN X1583 hx (hb Y d3_21) rfl rfl <| gF X1583 hx hZ hO (w16 hw) Via.refl e1583 F_c2_t (hb Y d3_22) fun T1584 X1584 e1584 => ?_
  refine aN X1584 hx (hb Y d3_25) rfl rfl <| iN X1584 hx (hb Y d3_26) rfl <| iK X1584 hx (z := 1) (hb Y d3_27) <| iA X1584 hx (z := 1) (hb Y d3_28) <| pV X1584 hx hZ hO (by rw [hml]; rfl) (w44 hw) (w45 hw) (w46 hw) (w7 hw) (w8 hw) (w47 hw) e1584 E_c2 (argsL := [(.int 1)]) (rest := [(.ref c3)]) (q123 l Z a0 hw [] h0 n0 c2 c3 kc2 _ F_c2_o F_c2_t V_c3) (lenOf pd4 rfl) (hb Y d3_29) fun T1585 L1585 v1585 X1585 hQ1585 => ?_
  obtain ⟨rfl, N1585q, e1585⟩ := hQ1585
  have N1585 := Fr.app N0 N1585q
  refine f_lald X1585 hx hZ e1585 V_c3 (v := (.long 20)) rfl (hb Y d3_32) <| lN X1585 hx (hb Y d3_33) rfl <| lC X1585 hx (z := (lcmpW (20 : Int64) p1)) (hb Y d3_34) (q := rfl) <| fN X1585 hx (hb Y d3_35) (hc := (own_gtF z20)) <| f_iinc X1585 hx (L' := #[(rv c2), (.val (.long p1)), .second, (iv 1), .unset]) (hb Y d3_38) rfl rfl <| gT X1585 hx (pc := 41) 11 (hb Y d3_41) <| iN X1585 hx (hb Y d3_11) rfl <| iK X1585 hx (z := 1) (hb Y d3_12) <| iA X1585 hx (z := 2) (hb Y d3_13) <| aN X1585 hx (hb Y d3_14) rfl rfl <| gF X1585 hx hZ hO (w31 hw) Via.refl e1585 F_c2_s (hb Y d3_15) fun T1588 X1588 e1588 => ?_
  refine cY X1588 hx (pc := 18) 44 (hb Y d3_18) <| aN X1588 hx (hb Y d3_44) rfl rfl <| iN X1588 hx (hb Y d3_45) rfl <| pV X1588 hx hZ hO (by rw [hml]; rfl) (w44 hw) (w45 hw) (w46 hw) (w7 hw) (w8 hw) (w47 hw) e1588 E_c2 (argsL := [(.int 1)]) (rest := []) (q123 l Z a0 hw [] h0 n0 c2 c3 kc2 _ F_c2_o F_c2_t V_c3) (lenOf pd4 rfl) (hb Y d3_46) fun T1589 L1589 v1589 X1589 hQ1589 => ?_
  obtain ⟨rfl, N1589q, e1589⟩ := hQ1589
  have N1589 := Fr.app N1585 N1589q
  refine iS X1589 hx (L' := #[(rv c2), (.val (.long p1)), .second, (iv 1), (iv 1)]) (hb Y d3_49) rfl <| aN X1589 hx (hb Y d3_51) rfl rfl <| gF X1589 hx hZ hO (w16 hw) Via.refl e1589 F_c2_t (hb Y d3_52) fun T1592 X1592 e1592 => ?_
  refine iL X1592 hx (hb Y d3_55) rfl <| f_lald X1592 hx hZ e1592 V_c3 (v := (.long 20)) rfl (hb Y d3_57) <| lN X1592 hx (hb Y d3_58) rfl <| lC X1592 hx (z := (lcmpW (20 : Int64) p1)) (hb Y d3_59) (q := rfl) <| fN X1592 hx (hb Y d3_60) (hc := (own_gtF z20)) <| aN X1592 hx (hb Y d3_63) rfl rfl <| gF X1592 hx hZ hO (w20 hw) Via.refl e1592 F_c2_r (hb Y d3_64) fun T1593 X1593 e1593 => ?_
  refine iL X1593 hx (hb Y d3_67) rfl <| f_aald X1593 hx hZ e1593 V_c4 rfl (v := r1) rfl (hb Y d3_69) <| f_ifnonnullNv X1593 hx nv_r1 (hb Y d3_70) <| f_iinc X1593 hx (L' := #[(rv c2), (.val (.long p1)), .second, (iv 2), (iv 1)]) (hb Y d3_73) rfl rfl <| aN X1593 hx (hb Y d3_76) rfl rfl <| iN X1593 hx (hb Y d3_77) rfl ?_
  have P1652 : St13 Z h0 n0 c1 c2 c3 c4 c5 kc1 kc2 kc3 kc4 (10 : Int64) (20 : Int64) r0 r1 := ⟨E_c1, V_c1, O_c1, E_c2, F_c2_t, F_c2_r, F_c2_c, F_c2_s, F_c2_o, V_c3, E_c4, V_c4, O_c4, E_c5, V_c5, O_c5, g_c1, lt_c1_c2, lt_c2_c3, lt_c3_c4, lt_c4_c5, rf_r0, rw_r0, rf_r1, rw_r1⟩
  refine pV X1593 hx hZ hO (by rw [hml]; rfl) (w52 hw) (w53 hw) (w54 hw) (w7 hw) (w8 hw) (w55 hw) e1593 E_c2 (argsL := [(.int 2)]) (rest := []) (m1651 l Z a0 hw [] h0 n0 c1 c2 c3 c4 c5 kc1 kc2 kc3 kc4 (10 : Int64) (20 : Int64) r0 r1 P1652) (lenOf pd6 rfl) (hb Y d3_78) fun T1594 L1594 v1594 X1594 hQ1594 => ?_
  obtain ⟨rfl, N1594q, P1594⟩ := hQ1594
  obtain ⟨E_c1, V_c1, O_c1, E_c2, F_c2_t, F_c2_r, F_c2_c, F_c2_s, F_c2_o, V_c3, E_c4, V_c4, O_c4, E_c5, V_c5, O_c5, g_c1, lt_c1_c2, lt_c2_c3, lt_c3_c4, lt_c4_c5, _, _, _, _⟩ := id P1594
  have N1594 := Fr.app N1589 N1594q
  refine aN X1594 hx (hb Y d3_81) rfl rfl <| gF X1594 hx hZ hO (w31 hw) Via.refl rfl F_c2_s (hb Y d3_82) fun T1653 X1653 e1653 => ?_
  refine fN X1653 hx (hb Y d3_85) <| iK X1653 hx (z := 1) (hb Y d3_88) <| gT X1653 hx (pc := 89) 93 (hb Y d3_89) ?_
  exact f_ret X1653 hx hlk (i := .ireturn) hret rfl (Or.inl ⟨rfl, Or.inr (Or.inl rfl), _, rfl⟩) (hb Y d3_93) (QQ := (Qm1654 Z n0 c1 c2 c3 c4 c5 kc1 kc2 kc3 kc4 r0 r1 t0 t1 t2 t3 t4 mm p1)) (by rw [e1653]; exact ⟨rfl, N1594, E_c1, V_c1, O_c1, E_c2, F_c2_t, F_c2_r, F_c2_c, F_c2_s, F_c2_o, V_c3, E_c4, V_c4, O_c4, E_c5, V_c5, O_c5, g_c1, lt_c1_c2, lt_c2_c3, lt_c3_c4, lt_c4_c5, ht0, ht1, ht2, ht3, ht4, rf_r0, rw_r0, rb_r0, rf_r1, rw_r1, rb_r1, hm3, nv_r1, z10, z20, tv1⟩) (by decide) (by decide)
def St47 (Z : State) (h : Heap) (n0 : Nat) (c1 : Nat) (c2 : Nat) (c3 : Nat) (c4 : Nat) (c5 : Nat) (kc1 : ClassId) (kc2 : ClassId) (kc3 : ClassId) (kc4 : ClassId) (t0 : Int32) (t1 : Int32) (t2 : Int32) (t3 : Int32) (t4 : Int32) (r0 : Value) (r1 : Value) : Prop :=
  xO Z h c1 ∧
  Arv Z h c1 kc1 (.object "java/lang/Object") 1 [.null] .null ∧
  Ovr Z kc1 "java/lang/Object" ∧
  Exa Z h c2 cV ∧
  fT Z h c2 (.ref c3) ∧
  fR Z h c2 (.ref c4) ∧
  fC Z h c2 (.ref c5) ∧
  fS Z h c2 (.int 0) ∧
  fO Z h c2 (.int 0) ∧
  aL Z h c3 kc2 2 [(.long 10), (.long 20)] ∧
  xR Z h c4 ∧
  aR Z h c4 kc3 2 [.null, .null] ∧
  oR Z kc3 ∧
  xC Z h c5 ∧
  aC Z h c5 kc4 2 [.null, .null] ∧
  oC Z kc4 ∧
  n0 ≤ c1 ∧
  c1 < c2 ∧
  c2 < c3 ∧
  c3 < c4 ∧
  c4 < c5 ∧
  (t0 = (0 : Int32) ∨ t0 = (1 : Int32)) ∧
  (t1 = (0 : Int32) ∨ t1 = (1 : Int32)) ∧
  (t2 = (0 : Int32) ∨ t2 = (1 : Int32)) ∧
  (t3 = (0 : Int32) ∨ t3 = (1 : Int32)) ∧
  (t4 = (0 : Int32) ∨ t4 = (1 : Int32)) ∧
  r0.isRef = true ∧
  (r0 = .null ∨ r0 = .ref c1) ∧
  ((t0 = (0 : Int32) ∧ r0 = .ref c1) ∨ (t0 = (1 : Int32) ∧ r0 = .null)) ∧
  r1.isRef = true ∧
  (r1 = .null ∨ r1 = .ref c1) ∧
  ((t1 = (0 : Int32) ∧ r1 = .ref c1) ∨ (t1 = (1 : Int32) ∧ r1 = .null))
theorem D0_26  (c1 : Nat) (c2 : Nat) (c3 : Nat) (c4 : Nat) (c5 : Nat) (kc1 : ClassId) (kc2 : ClassId) (kc3 : ClassId) (kc4 : ClassId) (t0 : Int32) (t1 : Int32) (t2 : Int32) (t3 : Int32) (t4 : Int32) (r0 : Value) (r1 : Value) (p0 : Int32) (p1 : Int64) (X0 : Stand p l e room_1 s m args below meth c T0 locs 5 13) (G : SG p s m meth c Z a0) (e0 : T0.heap = h0) (N0 : Fr n0 locs) (P : St47 Z h0 n0 c1 c2 c3 c4 c5 kc1 kc2 kc3 kc4 t0 t1 t2 t3 t4 r0 r1) (hk0 : ∀ (T' : State) (locs' : List Loc), Stand p l e room_1 s m args below meth c T' locs' 5 13 → Fr n0 locs' → EndsSo p e below (LQ s n0) T' (mkF m 209 (FL p0 p1 2 0 t0 t1 t2 t3 t4 c1 c2 (iv 0) .unset .unset .unset .unset .unset) [])) :
    EndsSo p e below (LQ s n0) T0 (mkF m 150 (FL p0 p1 2 0 t0 t1 t2 t3 t4 c1 c2 .unset .unset .unset .unset .unset .unset) []) := by
  obtain ⟨hx, hZ, hw, Y, hml, hO, hlk, hret⟩ := id G
  obtain ⟨E_c1, V_c1, O_c1, E_c2, F_c2_t, F_c2_r, F_c2_c, F_c2_s, F_c2_o, V_c3, E_c4, V_c4, O_c4, E_c5, V_c5, O_c5, g_c1, lt_c1_c2, lt_c2_c3, lt_c3_c4, lt_c4_c5, ht0, ht1, ht2, ht3, ht4, rf_r0, rw_r0, rb_r0, rf_r1, rw_r1, rb_r1⟩ := id P
  refine iL X0 hx (hb Y at_150) rfl <| iK X0 hx (z := 1) (hb Y at_152) <| cY X0 hx (pc := 153) 176 (hb Y at_153) <| iL X0 hx (hb Y at_176) rfl <| iK X0 hx (z := 2) (hb Y at_178) <| cY X0 hx (pc := 179) 202 (hb Y at_179) <| aA X0 hx (hb Y at_202) rfl rfl <| vV X0 hx hZ hO (by rw [hml]; rfl) (w33 hw) (w34 hw) (w36 hw) (w35 hw) (w8 hw) (w37 hw) e0 E_c2 (argsL := []) (rest := []) (q37 l Z a0 hw [] h0 n0 c2 F_c2_s) (lenOf pd3 rfl) (hb Y at_204) fun T1656 L1656 v1656 X1656 hQ1656 => ?_
  obtain ⟨rfl, N1656q, e1656⟩ := hQ1656
  have N1656 := Fr.app N0 N1656q
  refine iS X1656 hx (L' := (FL p0 p1 2 0 t0 t1 t2 t3 t4 c1 c2 (iv 0) .unset .unset .unset .unset .unset)) (hb Y at_207) rfl ?_
  exact hk0 _ _ X1656 N1656
theorem F1_8  {cells slots : Nat} (p0 : Int32) (p1 : Int64) (mm : Int32) (gg : Int32) (t0 : Int32) (t1 : Int32) (t2 : Int32) (t3 : Int32) (t4 : Int32) (c1 : Nat) (c2 : Nat) (X0 : Stand p l e room_1 s m args below meth c T0 locs cells slots) (G : SG p s m meth c Z a0) (z20 : ¬ p1 < (20 : Int64)) (tv1 : t1 = (1 : Int32)) (h : EndsSo p e below (LQ s n0) T0 (mkF m 303 (FL p0 p1 2 mm t0 t1 t2 t3 t4 c1 c2 (iv gg) (iv 2) (iv t1) (.val (.long 20)) .second .unset) [])) :
    EndsSo p e below (LQ s n0) T0 (mkF m 209 (FL p0 p1 2 mm t0 t1 t2 t3 t4 c1 c2 (iv gg) .unset .unset .unset .unset .unset) []) := by
  obtain ⟨hx, hZ, hw, Y, hml, hO, hlk, hret⟩ := id G
  refine iK X0 hx (z := 0) (hb Y at_209) <| iS X0 hx (L' := (FL p0 p1 2 mm t0 t1 t2 t3 t4 c1 c2 (iv gg) (iv 0) .unset .unset .unset .unset)) (hb Y at_210) rfl <| iN X0 hx (hb Y at_212) rfl <| iK X0 hx (z := 2) (hb Y at_213) <| cN X0 hx (hb Y at_214) <| lN X0 hx (hb Y at_217) rfl <| f_ldc2 X0 hx hZ hO (w51 hw) (hb Y at_218) <| lC X0 hx (z := (lcmpW p1 (20 : Int64))) (hb Y at_221) (q := rfl) <| fN X0 hx (hb Y at_222) (hc := (own_ltF z20)) <| iK X0 hx (z := 1) (hb Y at_225) <| iS X0 hx (L' := (FL p0 p1 2 mm t0 t1 t2 t3 t4 c1 c2 (iv gg) (iv 1) .unset .unset .unset .unset)) (hb Y at_226) rfl <| iN X0 hx (hb Y at_228) rfl <| iK X0 hx (z := 3) (hb Y at_229) <| cY X0 hx (pc := 230) 244 (hb Y at_230) <| iN X0 hx (hb Y at_244) rfl <| iK X0 hx (z := 1) (hb Y at_245) <| cN X0 hx (hb Y at_246) <| iL X0 hx (hb Y at_249) rfl <| fY X0 hx (pc := 251) 259 (hb Y at_251) <| iL X0 hx (hb Y at_259) rfl <| iK X0 hx (z := 1) (hb Y at_261) <| cN X0 hx (hb Y at_262) <| iL X0 hx (hb Y at_265) rfl <| gT X0 hx (pc := 267) 272 (hb Y at_267) <| iS X0 hx (L' := (FL p0 p1 2 mm t0 t1 t2 t3 t4 c1 c2 (iv gg) (iv 1) (iv t1) .unset .unset .unset)) (hb Y at_272) rfl <| f_ldc2 X0 hx hZ hO (w38 hw) (hb Y at_274) <| iL X0 hx (hb Y at_277) rfl <| iK X0 hx (z := 1) (hb Y at_279) <| iA X0 hx (z := 2) (hb Y at_280) <| f_i2l X0 hx (z := 2) (hb Y at_281) <| f_lmul X0 hx (z := 20) (hb Y at_282) <| f_lstore X0 hx (L' := (FL p0 p1 2 mm t0 t1 t2 t3 t4 c1 c2 (iv gg) (iv 1) (iv t1) (.val (.long 20)) .second .unset)) (hb Y at_283) rfl <| f_lload X0 hx (hb Y at_285) rfl <| lN X0 hx (hb Y at_287) rfl <| lC X0 hx (z := (lcmpW (20 : Int64) p1)) (hb Y at_288) (q := rfl) <| fN X0 hx (hb Y at_289) (hc := (own_gtF z20)) <| iL X0 hx (hb Y at_292) rfl <| fN X0 hx (hb Y at_294) (hc := (own_eq1 tv1)) <| iL X0 hx (hb Y at_297) rfl <| iK X0 hx (z := 1) (hb Y at_299) <| iA X0 hx (z := 2) (hb Y at_300) <| iS X0 hx (L' := (FL p0 p1 2 mm t0 t1 t2 t3 t4 c1 c2 (iv gg) (iv 2) (iv t1) (.val (.long 20)) .second .unset)) (hb Y at_301) rfl ?_
  exact h
theorem F2_22  {cells slots : Nat} (p0 : Int32) (p1 : Int64) (t0 : Int32) (t1 : Int32) (t2 : Int32) (t3 : Int32) (t4 : Int32) (c1 : Nat) (c2 : Nat) (X0 : Stand p l e room_1 s m args below meth c T0 locs cells slots) (G : SG p s m meth c Z a0) (N0 : Fr n0 locs) (hK : cells ≤ room_1.cells) (hN : slots ≤ room_1.slots) :
    EndsSo p e below (LQ s n0) T0 (mkF m 303 (FL p0 p1 2 0 t0 t1 t2 t3 t4 c1 c2 (iv 0) (iv 2) (iv t1) (.val (.long 20)) .second .unset) []) := by
  obtain ⟨hx, hZ, hw, Y, hml, hO, hlk, hret⟩ := id G
  refine iN X0 hx (hb Y at_303) rfl <| iL X0 hx (hb Y at_304) rfl <| iB X0 hx (z := 0) (hb Y at_306) <| iS X0 hx (L' := (FL p0 p1 2 0 t0 t1 t2 t3 t4 c1 c2 (iv 0) (iv 2) (iv 0) (.val (.long 20)) .second .unset)) (hb Y at_307) rfl <| iL X0 hx (hb Y at_309) rfl <| iL X0 hx (hb Y at_311) rfl <| iA X0 hx (z := 0) (hb Y at_313) <| iS X0 hx (L' := (FL p0 p1 2 0 t0 t1 t2 t3 t4 c1 c2 (iv 0) (iv 2) (iv 0) (iv 0) .unset .unset)) (hb Y at_314) rfl <| iL X0 hx (hb Y at_316) rfl <| iK X0 hx (z := 1) (hb Y at_318) <| cY X0 hx (pc := 319) 348 (hb Y at_319) <| iL X0 hx (hb Y at_348) rfl <| iS X0 hx (L' := (FL p0 p1 2 0 t0 t1 t2 t3 t4 c1 c2 (iv 0) (iv 2) (iv 0) (iv 0) (iv t3) .unset)) (hb Y at_350) rfl <| iL X0 hx (hb Y at_352) rfl <| iK X0 hx (z := 1) (hb Y at_354) <| cN X0 hx (hb Y at_355) <| iL X0 hx (hb Y at_358) rfl <| iK X0 hx (z := 1) (hb Y at_360) <| cY X0 hx (pc := 361) 373 (hb Y at_361) <| iK X0 hx (z := 0) (hb Y at_373) <| iS X0 hx (L' := (FL p0 p1 2 0 t0 t1 t2 t3 t4 c1 c2 (iv 0) (iv 2) (iv 0) (iv 0) (iv t3) (iv 0))) (hb Y at_374) rfl <| iL X0 hx (hb Y at_376) rfl <| iL X0 hx (hb Y at_378) rfl <| cN X0 hx (hb Y at_380) <| iK X0 hx (z := 1) (hb Y at_383) <| gT X0 hx (pc := 384) 388 (hb Y at_384) ?_
  exact f_ret X0 hx hlk (i := .ireturn) hret rfl (Or.inl ⟨rfl, Or.inr (Or.inl rfl), _, rfl⟩) (hb Y at_388) (QQ := (QL n0)) ⟨rfl, N0⟩ hK hN
theorem D1_27  (c1 : Nat) (c2 : Nat) (c3 : Nat) (c4 : Nat) (c5 : Nat) (kc1 : ClassId) (kc2 : ClassId) (kc3 : ClassId) (kc4 : ClassId) (t0 : Int32) (t1 : Int32) (t2 : Int32) (t3 : Int32) (t4 : Int32) (r0 : Value) (r1 : Value) (p0 : Int32) (p1 : Int64) (X0 : Stand p l e room_1 s m args below meth c T0 locs 5 13) (G : SG p s m meth c Z a0) (e0 : T0.heap = h0) (N0 : Fr n0 locs) (P : St47 Z h0 n0 c1 c2 c3 c4 c5 kc1 kc2 kc3 kc4 t0 t1 t2 t3 t4 r0 r1) (hk0 : t3 = (0 : Int32) → ∀ (T' : State) (locs' : List Loc), Stand p l e room_1 s m args below meth c T' locs' 5 13 → Fr n0 locs' → EndsSo p e below (LQ s n0) T' (mkF m 209 (FL p0 p1 2 1 t0 t1 t2 t3 t4 c1 c2 (iv 0) .unset .unset .unset .unset .unset) [])) (hk1 : t3 = (1 : Int32) → ∀ (T' : State) (locs' : List Loc), Stand p l e room_1 s m args below meth c T' locs' 5 13 → Fr n0 locs' → EndsSo p e below (LQ s n0) T' (mkF m 209 (FL p0 p1 2 1 t0 t1 t2 t3 t4 c1 c2 (iv 1) .unset .unset .unset .unset .unset) [])) :
    EndsSo p e below (LQ s n0) T0 (mkF m 150 (FL p0 p1 2 1 t0 t1 t2 t3 t4 c1 c2 .unset .unset .unset .unset .unset .unset) []) := by
  obtain ⟨hx, hZ, hw, Y, hml, hO, hlk, hret⟩ := id G
  obtain ⟨E_c1, V_c1, O_c1, E_c2, F_c2_t, F_c2_r, F_c2_c, F_c2_s, F_c2_o, V_c3, E_c4, V_c4, O_c4, E_c5, V_c5, O_c5, g_c1, lt_c1_c2, lt_c2_c3, lt_c3_c4, lt_c4_c5, ht0, ht1, ht2, ht3, ht4, rf_r0, rw_r0, rb_r0, rf_r1, rw_r1, rb_r1⟩ := id P
  refine iL X0 hx (hb Y at_150) rfl <| iK X0 hx (z := 1) (hb Y at_152) <| cN X0 hx (hb Y at_153) <| aA X0 hx (hb Y at_156) rfl rfl <| f_ldc2 X0 hx hZ hO (w56 hw) (hb Y at_158) <| iL X0 hx (hb Y at_161) rfl <| own_mrg X0 hx (row := c1) ht3 (pc := 163) (hb Y at_163) (hb Y at_170) (hb Y at_166) (hb Y at_167) rfl fun r3 rf_r3 rw_r3 rb_r3 => ?_
  refine f_null X0 hx (hb Y at_172) ?_
  have P1675 : St4 Z h0 n0 c1 c2 c3 c4 c5 kc1 kc2 kc3 kc4 (10 : Int64) (20 : Int64) .null .null r3 := ⟨E_c1, V_c1, O_c1, E_c2, F_c2_t, F_c2_r, F_c2_c, F_c2_s, F_c2_o, V_c3, E_c4, V_c4, O_c4, E_c5, V_c5, O_c5, g_c1, lt_c1_c2, lt_c2_c3, lt_c3_c4, lt_c4_c5, rfl, (Or.inl rfl), rfl, (Or.inl rfl), rf_r3, rw_r3⟩
  refine vV X0 hx hZ hO (by rw [hml]; rfl) (w39 hw) (w40 hw) (w42 hw) (w41 hw) (w8 hw) (w43 hw) e0 E_c2 (argsL := [(.long 40), r3, .null]) (rest := []) (m70 l Z a0 hw [] h0 n0 c1 c2 c3 c4 c5 kc1 kc2 kc3 kc4 (10 : Int64) (20 : Int64) .null .null r3 (40 : Int64) P1675) (lenOf pd5 rfl) (hb Y at_173) fun T1660 L1660 v1660 X1660 hQ1660 => ?_
  obtain ⟨rfl, N1660q, P1660⟩ := hQ1660
  obtain ⟨E_c1, V_c1, O_c1, E_c2, F_c2_t, F_c2_r, F_c2_c, F_c2_s, F_c2_o, V_c3, E_c4, V_c4, O_c4, E_c5, V_c5, O_c5, g_c1, lt_c1_c2, lt_c2_c3, lt_c3_c4, lt_c4_c5, _, _, _, _, _, _⟩ := id P1660
  have N1660 := Fr.app N0 N1660q
  refine iL X1660 hx (hb Y at_176) rfl <| iK X1660 hx (z := 2) (hb Y at_178) <| cY X1660 hx (pc := 179) 202 (hb Y at_179) ?_
  rcases id rb_r3 with ⟨tv3, nv_r3⟩ | ⟨tv3, nv_r3⟩
  · refine aA X1660 hx (hb Y at_202) rfl rfl <| vV X1660 hx hZ hO (by rw [hml]; rfl) (w33 hw) (w34 hw) (w36 hw) (w35 hw) (w8 hw) (w37 hw) rfl E_c2 (argsL := []) (rest := []) (q77 l Z a0 hw [] T1660.heap n0 c2 c4 kc3 r3 c1 F_c2_s F_c2_r F_c2_o V_c4 nv_r3) (lenOf pd3 rfl) (hb Y at_204) fun T1676 L1676 v1676 X1676 hQ1676 => ?_
    obtain ⟨rfl, N1676q, e1676⟩ := hQ1676
    have N1676 := Fr.app N1660 N1676q
    refine iS X1676 hx (L' := (FL p0 p1 2 1 t0 t1 t2 t3 t4 c1 c2 (iv 0) .unset .unset .unset .unset .unset)) (hb Y at_207) rfl ?_
    exact hk0 tv3 _ _ X1676 N1676
  · refine aA X1660 hx (hb Y at_202) rfl rfl <| vV X1660 hx hZ hO (by rw [hml]; rfl) (w33 hw) (w34 hw) (w36 hw) (w35 hw) (w8 hw) (w37 hw) rfl E_c2 (argsL := []) (rest := []) (q83 l Z a0 hw [] T1660.heap n0 c2 c4 kc3 r3 F_c2_s F_c2_r F_c2_o V_c4 nv_r3) (lenOf pd3 rfl) (hb Y at_204) fun T1681 L1681 v1681 X1681 hQ1681 => ?_
    obtain ⟨rfl, N1681q, e1681⟩ := hQ1681
    have N1681 := Fr.app N1660 N1681q
    refine iS X1681 hx (L' := (FL p0 p1 2 1 t0 t1 t2 t3 t4 c1 c2 (iv 1) .unset .unset .unset .unset .unset)) (hb Y at_207) rfl ?_
    exact hk1 tv3 _ _ X1681 N1681
theorem F2_23  {cells slots : Nat} (p0 : Int32) (p1 : Int64) (t0 : Int32) (t1 : Int32) (t2 : Int32) (t3 : Int32) (t4 : Int32) (c1 : Nat) (c2 : Nat) (X0 : Stand p l e room_1 s m args below meth c T0 locs cells slots) (G : SG p s m meth c Z a0) (tv3 : t3 = (0 : Int32)) (N0 : Fr n0 locs) (hK : cells ≤ room_1.cells) (hN : slots ≤ room_1.slots) :
    EndsSo p e below (LQ s n0) T0 (mkF m 303 (FL p0 p1 2 1 t0 t1 t2 t3 t4 c1 c2 (iv 0) (iv 2) (iv t1) (.val (.long 20)) .second .unset) []) := by
  obtain ⟨hx, hZ, hw, Y, hml, hO, hlk, hret⟩ := id G
  refine iN X0 hx (hb Y at_303) rfl <| iL X0 hx (hb Y at_304) rfl <| iB X0 hx (z := 0) (hb Y at_306) <| iS X0 hx (L' := (FL p0 p1 2 1 t0 t1 t2 t3 t4 c1 c2 (iv 0) (iv 2) (iv 0) (.val (.long 20)) .second .unset)) (hb Y at_307) rfl <| iL X0 hx (hb Y at_309) rfl <| iL X0 hx (hb Y at_311) rfl <| iA X0 hx (z := 1) (hb Y at_313) <| iS X0 hx (L' := (FL p0 p1 2 1 t0 t1 t2 t3 t4 c1 c2 (iv 0) (iv 2) (iv 0) (iv 1) .unset .unset)) (hb Y at_314) rfl <| iL X0 hx (hb Y at_316) rfl <| iK X0 hx (z := 1) (hb Y at_318) <| cY X0 hx (pc := 319) 348 (hb Y at_319) <| iL X0 hx (hb Y at_348) rfl <| iS X0 hx (L' := (FL p0 p1 2 1 t0 t1 t2 t3 t4 c1 c2 (iv 0) (iv 2) (iv 0) (iv 1) (iv t3) .unset)) (hb Y at_350) rfl <| iL X0 hx (hb Y at_352) rfl <| iK X0 hx (z := 1) (hb Y at_354) <| cN X0 hx (hb Y at_355) <| iL X0 hx (hb Y at_358) rfl <| iK X0 hx (z := 1) (hb Y at_360) <| cN X0 hx (hb Y at_361) <| iL X0 hx (hb Y at_364) rfl <| fY X0 hx (pc := 366) 373 (hb Y at_366) (hc := (own_eqT tv3)) <| iK X0 hx (z := 0) (hb Y at_373) <| iS X0 hx (L' := (FL p0 p1 2 1 t0 t1 t2 t3 t4 c1 c2 (iv 0) (iv 2) (iv 0) (iv 1) (iv t3) (iv 0))) (hb Y at_374) rfl <| iL X0 hx (hb Y at_376) rfl <| iL X0 hx (hb Y at_378) rfl <| cN X0 hx (hb Y at_380) <| iK X0 hx (z := 1) (hb Y at_383) <| gT X0 hx (pc := 384) 388 (hb Y at_384) ?_
  exact f_ret X0 hx hlk (i := .ireturn) hret rfl (Or.inl ⟨rfl, Or.inr (Or.inl rfl), _, rfl⟩) (hb Y at_388) (QQ := (QL n0)) ⟨rfl, N0⟩ hK hN
theorem F2_24  {cells slots : Nat} (p0 : Int32) (p1 : Int64) (t0 : Int32) (t1 : Int32) (t2 : Int32) (t3 : Int32) (t4 : Int32) (c1 : Nat) (c2 : Nat) (X0 : Stand p l e room_1 s m args below meth c T0 locs cells slots) (G : SG p s m meth c Z a0) (tv3 : t3 = (1 : Int32)) (N0 : Fr n0 locs) (hK : cells ≤ room_1.cells) (hN : slots ≤ room_1.slots) :
    EndsSo p e below (LQ s n0) T0 (mkF m 303 (FL p0 p1 2 1 t0 t1 t2 t3 t4 c1 c2 (iv 1) (iv 2) (iv t1) (.val (.long 20)) .second .unset) []) := by
  obtain ⟨hx, hZ, hw, Y, hml, hO, hlk, hret⟩ := id G
  refine iN X0 hx (hb Y at_303) rfl <| iL X0 hx (hb Y at_304) rfl <| iB X0 hx (z := 0) (hb Y at_306) <| iS X0 hx (L' := (FL p0 p1 2 1 t0 t1 t2 t3 t4 c1 c2 (iv 1) (iv 2) (iv 0) (.val (.long 20)) .second .unset)) (hb Y at_307) rfl <| iL X0 hx (hb Y at_309) rfl <| iL X0 hx (hb Y at_311) rfl <| iA X0 hx (z := 1) (hb Y at_313) <| iS X0 hx (L' := (FL p0 p1 2 1 t0 t1 t2 t3 t4 c1 c2 (iv 1) (iv 2) (iv 0) (iv 1) .unset .unset)) (hb Y at_314) rfl <| iL X0 hx (hb Y at_316) rfl <| iK X0 hx (z := 1) (hb Y at_318) <| cY X0 hx (pc := 319) 348 (hb Y at_319) <| iL X0 hx (hb Y at_348) rfl <| iS X0 hx (L' := (FL p0 p1 2 1 t0 t1 t2 t3 t4 c1 c2 (iv 1) (iv 2) (iv 0) (iv 1) (iv t3) .unset)) (hb Y at_350) rfl <| iL X0 hx (hb Y at_352) rfl <| iK X0 hx (z := 1) (hb Y at_354) <| cN X0 hx (hb Y at_355) <| iL X0 hx (hb Y at_358) rfl <| iK X0 hx (z := 1) (hb Y at_360) <| cN X0 hx (hb Y at_361) <| iL X0 hx (hb Y at_364) rfl <| fN X0 hx (hb Y at_366) (hc := (own_eq1 tv3)) <| iK X0 hx (z := 1) (hb Y at_369) <| gT X0 hx (pc := 370) 374 (hb Y at_370) <| iS X0 hx (L' := (FL p0 p1 2 1 t0 t1 t2 t3 t4 c1 c2 (iv 1) (iv 2) (iv 0) (iv 1) (iv t3) (iv 1))) (hb Y at_374) rfl <| iL X0 hx (hb Y at_376) rfl <| iL X0 hx (hb Y at_378) rfl <| cN X0 hx (hb Y at_380) <| iK X0 hx (z := 1) (hb Y at_383) <| gT X0 hx (pc := 384) 388 (hb Y at_384) ?_
  exact f_ret X0 hx hlk (i := .ireturn) hret rfl (Or.inl ⟨rfl, Or.inr (Or.inl rfl), _, rfl⟩) (hb Y at_388) (QQ := (QL n0)) ⟨rfl, N0⟩ hK hN
theorem D2_28  (c1 : Nat) (c2 : Nat) (c3 : Nat) (c4 : Nat) (c5 : Nat) (kc1 : ClassId) (kc2 : ClassId) (kc3 : ClassId) (kc4 : ClassId) (t0 : Int32) (t1 : Int32) (t2 : Int32) (t3 : Int32) (t4 : Int32) (r0 : Value) (r1 : Value) (p0 : Int32) (p1 : Int64) (X0 : Stand p l e room_1 s m args below meth c T0 locs 5 13) (G : SG p s m meth c Z a0) (e0 : T0.heap = h0) (N0 : Fr n0 locs) (P : St47 Z h0 n0 c1 c2 c3 c4 c5 kc1 kc2 kc3 kc4 t0 t1 t2 t3 t4 r0 r1) (hk0 : ∀ (T' : State) (locs' : List Loc), Stand p l e room_1 s m args below meth c T' locs' 5 13 → Fr n0 locs' → EndsSo p e below (LQ s n0) T' (mkF m 209 (FL p0 p1 2 2 t0 t1 t2 t3 t4 c1 c2 (iv 1) .unset .unset .unset .unset .unset) [])) :
    EndsSo p e below (LQ s n0) T0 (mkF m 150 (FL p0 p1 2 2 t0 t1 t2 t3 t4 c1 c2 .unset .unset .unset .unset .unset .unset) []) := by
  obtain ⟨hx, hZ, hw, Y, hml, hO, hlk, hret⟩ := id G
  obtain ⟨E_c1, V_c1, O_c1, E_c2, F_c2_t, F_c2_r, F_c2_c, F_c2_s, F_c2_o, V_c3, E_c4, V_c4, O_c4, E_c5, V_c5, O_c5, g_c1, lt_c1_c2, lt_c2_c3, lt_c3_c4, lt_c4_c5, ht0, ht1, ht2, ht3, ht4, rf_r0, rw_r0, rb_r0, rf_r1, rw_r1, rb_r1⟩ := id P
  refine iL X0 hx (hb Y at_150) rfl <| iK X0 hx (z := 1) (hb Y at_152) <| cN X0 hx (hb Y at_153) <| aA X0 hx (hb Y at_156) rfl rfl <| f_ldc2 X0 hx hZ hO (w56 hw) (hb Y at_158) <| iL X0 hx (hb Y at_161) rfl <| own_mrg X0 hx (row := c1) ht3 (pc := 163) (hb Y at_163) (hb Y at_170) (hb Y at_166) (hb Y at_167) rfl fun r3 rf_r3 rw_r3 rb_r3 => ?_
  refine f_null X0 hx (hb Y at_172) ?_
  have P1702 : St4 Z h0 n0 c1 c2 c3 c4 c5 kc1 kc2 kc3 kc4 (10 : Int64) (20 : Int64) .null .null r3 := ⟨E_c1, V_c1, O_c1, E_c2, F_c2_t, F_c2_r, F_c2_c, F_c2_s, F_c2_o, V_c3, E_c4, V_c4, O_c4, E_c5, V_c5, O_c5, g_c1, lt_c1_c2, lt_c2_c3, lt_c3_c4, lt_c4_c5, rfl, (Or.inl rfl), rfl, (Or.inl rfl), rf_r3, rw_r3⟩
  refine vV X0 hx hZ hO (by rw [hml]; rfl) (w39 hw) (w40 hw) (w42 hw) (w41 hw) (w8 hw) (w43 hw) e0 E_c2 (argsL := [(.long 40), r3, .null]) (rest := []) (m70 l Z a0 hw [] h0 n0 c1 c2 c3 c4 c5 kc1 kc2 kc3 kc4 (10 : Int64) (20 : Int64) .null .null r3 (40 : Int64) P1702) (lenOf pd5 rfl) (hb Y at_173) fun T1687 L1687 v1687 X1687 hQ1687 => ?_
  obtain ⟨rfl, N1687q, P1687⟩ := hQ1687
  obtain ⟨E_c1, V_c1, O_c1, E_c2, F_c2_t, F_c2_r, F_c2_c, F_c2_s, F_c2_o, V_c3, E_c4, V_c4, O_c4, E_c5, V_c5, O_c5, g_c1, lt_c1_c2, lt_c2_c3, lt_c3_c4, lt_c4_c5, _, _, _, _, _, _⟩ := id P1687
  have N1687 := Fr.app N0 N1687q
  refine iL X1687 hx (hb Y at_176) rfl <| iK X1687 hx (z := 2) (hb Y at_178) <| cN X1687 hx (hb Y at_179) <| aA X1687 hx (hb Y at_182) rfl rfl <| f_ldc2 X1687 hx hZ hO (w62 hw) (hb Y at_184) <| iL X1687 hx (hb Y at_187) rfl <| own_mrg X1687 hx (row := c1) ht4 (pc := 189) (hb Y at_189) (hb Y at_196) (hb Y at_192) (hb Y at_193) rfl fun r4 rf_r4 rw_r4 rb_r4 => ?_
  refine f_null X1687 hx (hb Y at_198) ?_
  have P1718 : St6 Z T1687.heap n0 c1 c2 c3 c4 c5 kc1 kc2 kc3 kc4 (40 : Int64) (20 : Int64) r3 .null r4 := ⟨E_c1, V_c1, O_c1, E_c2, F_c2_t, F_c2_r, F_c2_c, F_c2_s, F_c2_o, V_c3, E_c4, V_c4, O_c4, E_c5, V_c5, O_c5, g_c1, lt_c1_c2, lt_c2_c3, lt_c3_c4, lt_c4_c5, rf_r3, rw_r3, rfl, (Or.inl rfl), rf_r4, rw_r4⟩
  refine vV X1687 hx hZ hO (by rw [hml]; rfl) (w39 hw) (w40 hw) (w42 hw) (w41 hw) (w8 hw) (w43 hw) rfl E_c2 (argsL := [(.long 50), r4, .null]) (rest := []) (m132 l Z a0 hw [] T1687.heap n0 c1 c2 c3 c4 c5 kc1 kc2 kc3 kc4 (40 : Int64) (20 : Int64) r3 .null r4 (50 : Int64) P1718) (lenOf pd5 rfl) (hb Y at_199) fun T1703 L1703 v1703 X1703 hQ1703 => ?_
  obtain ⟨rfl, N1703q, P1703⟩ := hQ1703
  obtain ⟨E_c1, V_c1, O_c1, E_c2, F_c2_t, F_c2_r, F_c2_c, F_c2_s, F_c2_o, V_c3, E_c4, V_c4, O_c4, E_c5, V_c5, O_c5, g_c1, lt_c1_c2, lt_c2_c3, lt_c3_c4, lt_c4_c5, _, _, _, _, _, _⟩ := id P1703
  have N1703 := Fr.app N1687 N1703q
  refine aA X1703 hx (hb Y at_202) rfl rfl <| vV X1703 hx hZ hO (by rw [hml]; rfl) (w33 hw) (w34 hw) (w36 hw) (w35 hw) (w8 hw) (w37 hw) rfl E_c2 (argsL := []) (rest := []) (q136 l Z a0 hw [] T1703.heap n0 c2 F_c2_s) (lenOf pd3 rfl) (hb Y at_204) fun T1719 L1719 v1719 X1719 hQ1719 => ?_
  obtain ⟨rfl, N1719q, e1719⟩ := hQ1719
  have N1719 := Fr.app N1703 N1719q
  refine iS X1719 hx (L' := (FL p0 p1 2 2 t0 t1 t2 t3 t4 c1 c2 (iv 1) .unset .unset .unset .unset .unset)) (hb Y at_207) rfl ?_
  exact hk0 _ _ X1719 N1719
theorem F2_25  {cells slots : Nat} (p0 : Int32) (p1 : Int64) (t0 : Int32) (t1 : Int32) (t2 : Int32) (t3 : Int32) (t4 : Int32) (c1 : Nat) (c2 : Nat) (X0 : Stand p l e room_1 s m args below meth c T0 locs cells slots) (G : SG p s m meth c Z a0) (N0 : Fr n0 locs) (hK : cells ≤ room_1.cells) (hN : slots ≤ room_1.slots) :
    EndsSo p e below (LQ s n0) T0 (mkF m 303 (FL p0 p1 2 2 t0 t1 t2 t3 t4 c1 c2 (iv 1) (iv 2) (iv t1) (.val (.long 20)) .second .unset) []) := by
  obtain ⟨hx, hZ, hw, Y, hml, hO, hlk, hret⟩ := id G
  refine iN X0 hx (hb Y at_303) rfl <| iL X0 hx (hb Y at_304) rfl <| iB X0 hx (z := 0) (hb Y at_306) <| iS X0 hx (L' := (FL p0 p1 2 2 t0 t1 t2 t3 t4 c1 c2 (iv 1) (iv 2) (iv 0) (.val (.long 20)) .second .unset)) (hb Y at_307) rfl <| iL X0 hx (hb Y at_309) rfl <| iL X0 hx (hb Y at_311) rfl <| iA X0 hx (z := 2) (hb Y at_313) <| iS X0 hx (L' := (FL p0 p1 2 2 t0 t1 t2 t3 t4 c1 c2 (iv 1) (iv 2) (iv 0) (iv 2) .unset .unset)) (hb Y at_314) rfl <| iL X0 hx (hb Y at_316) rfl <| iK X0 hx (z := 1) (hb Y at_318) <| cY X0 hx (pc := 319) 348 (hb Y at_319) <| iL X0 hx (hb Y at_348) rfl <| iS X0 hx (L' := (FL p0 p1 2 2 t0 t1 t2 t3 t4 c1 c2 (iv 1) (iv 2) (iv 0) (iv 2) (iv t3) .unset)) (hb Y at_350) rfl <| iL X0 hx (hb Y at_352) rfl <| iK X0 hx (z := 1) (hb Y at_354) <| cY X0 hx (pc := 355) 369 (hb Y at_355) <| iK X0 hx (z := 1) (hb Y at_369) <| gT X0 hx (pc := 370) 374 (hb Y at_370) <| iS X0 hx (L' := (FL p0 p1 2 2 t0 t1 t2 t3 t4 c1 c2 (iv 1) (iv 2) (iv 0) (iv 2) (iv t3) (iv 1))) (hb Y at_374) rfl <| iL X0 hx (hb Y at_376) rfl <| iL X0 hx (hb Y at_378) rfl <| cN X0 hx (hb Y at_380) <| iK X0 hx (z := 1) (hb Y at_383) <| gT X0 hx (pc := 384) 388 (hb Y at_384) ?_
  exact f_ret X0 hx hlk (i := .ireturn) hret rfl (Or.inl ⟨rfl, Or.inr (Or.inl rfl), _, rfl⟩) (hb Y at_388) (QQ := (QL n0)) ⟨rfl, N0⟩ hK hN
theorem C2_26  (c1 : Nat) (c2 : Nat) (c3 : Nat) (c4 : Nat) (c5 : Nat) (kc1 : ClassId) (kc2 : ClassId) (kc3 : ClassId) (kc4 : ClassId) (r0 : Value) (r1 : Value) (t0 : Int32) (t1 : Int32) (t2 : Int32) (t3 : Int32) (t4 : Int32) (mm : Int32) (p1 : Int64) (p0 : Int32) (X0 : Stand p l e room_1 s m args below meth c T0 locs 5 13) (G : SG p s m meth c Z a0) (e0 : T0.heap = h0) (N0 : Fr n0 locs) (P : St44 Z h0 n0 c1 c2 c3 c4 c5 kc1 kc2 kc3 kc4 r0 r1 t0 t1 t2 t3 t4 mm p1) :
    EndsSo p e below (LQ s n0) T0 (mkF m 143 (FL p0 p1 2 mm t0 t1 t2 t3 t4 c1 c2 .unset .unset .unset .unset .unset .unset) []) := by
  obtain ⟨hx, hZ, hw, Y, hml, hO, hlk, hret⟩ := id G
  obtain ⟨E_c1, V_c1, O_c1, E_c2, F_c2_t, F_c2_r, F_c2_c, F_c2_s, F_c2_o, V_c3, E_c4, V_c4, O_c4, E_c5, V_c5, O_c5, g_c1, lt_c1_c2, lt_c2_c3, lt_c3_c4, lt_c4_c5, ht0, ht1, ht2, ht3, ht4, rf_r0, rw_r0, rb_r0, rf_r1, rw_r1, rb_r1, hm3, nv_r1, z10, z20, tv1⟩ := id P
  refine aA X0 hx (hb Y at_143) rfl rfl <| lN X0 hx (hb Y at_145) rfl ?_
  have P1655 : St44 Z h0 n0 c1 c2 c3 c4 c5 kc1 kc2 kc3 kc4 r0 r1 t0 t1 t2 t3 t4 mm p1 := ⟨E_c1, V_c1, O_c1, E_c2, F_c2_t, F_c2_r, F_c2_c, F_c2_s, F_c2_o, V_c3, E_c4, V_c4, O_c4, E_c5, V_c5, O_c5, g_c1, lt_c1_c2, lt_c2_c3, lt_c3_c4, lt_c4_c5, ht0, ht1, ht2, ht3, ht4, rf_r0, rw_r0, rb_r0, rf_r1, rw_r1, rb_r1, hm3, nv_r1, z10, z20, tv1⟩
  refine vV X0 hx hZ hO (by rw [hml]; rfl) (w26 hw) (w27 hw) (w29 hw) (w28 hw) (w8 hw) (w30 hw) e0 E_c2 (argsL := [(.long p1)]) (rest := []) (m1654 l Z a0 hw [] h0 n0 c1 c2 c3 c4 c5 kc1 kc2 kc3 kc4 r0 r1 t0 t1 t2 t3 t4 mm p1 P1655) (lenOf pd2 rfl) (hb Y at_146) fun T1497 L1497 v1497 X1497 hQ1497 => ?_
  obtain ⟨rfl, N1497q, P1497⟩ := hQ1497
  obtain ⟨E_c1, V_c1, O_c1, E_c2, F_c2_t, F_c2_r, F_c2_c, F_c2_s, F_c2_o, V_c3, E_c4, V_c4, O_c4, E_c5, V_c5, O_c5, g_c1, lt_c1_c2, lt_c2_c3, lt_c3_c4, lt_c4_c5, ht0, ht1, ht2, ht3, ht4, rf_r0, rw_r0, rb_r0, rf_r1, rw_r1, rb_r1, hm3, nv_r1, z10, z20, tv1⟩ := id P1497
  have N1497 := Fr.app N0 N1497q
  refine f_pop X1497 hx (hb Y at_149) rfl ?_
  rcases id hm3 with rfl | rfl | rfl
  · have P1659 : St47 Z T1497.heap n0 c1 c2 c3 c4 c5 kc1 kc2 kc3 kc4 t0 t1 t2 t3 t4 r0 r1 := ⟨E_c1, V_c1, O_c1, E_c2, F_c2_t, F_c2_r, F_c2_c, F_c2_s, F_c2_o, V_c3, E_c4, V_c4, O_c4, E_c5, V_c5, O_c5, g_c1, lt_c1_c2, lt_c2_c3, lt_c3_c4, lt_c4_c5, ht0, ht1, ht2, ht3, ht4, rf_r0, rw_r0, rb_r0, rf_r1, rw_r1, rb_r1⟩
    exact D0_26 c1 c2 c3 c4 c5 kc1 kc2 kc3 kc4 t0 t1 t2 t3 t4 r0 r1 p0 p1 X1497 G rfl N1497 P1659 (fun T' locs' X' N' => F1_8 p0 p1 (0 : Int32) (0 : Int32) t0 t1 t2 t3 t4 c1 c2 X' G z20 tv1 (F2_22 p0 p1 t0 t1 t2 t3 t4 c1 c2 X' G N' (by decide) (by decide)))
  · have P1686 : St47 Z T1497.heap n0 c1 c2 c3 c4 c5 kc1 kc2 kc3 kc4 t0 t1 t2 t3 t4 r0 r1 := ⟨E_c1, V_c1, O_c1, E_c2, F_c2_t, F_c2_r, F_c2_c, F_c2_s, F_c2_o, V_c3, E_c4, V_c4, O_c4, E_c5, V_c5, O_c5, g_c1, lt_c1_c2, lt_c2_c3, lt_c3_c4, lt_c4_c5, ht0, ht1, ht2, ht3, ht4, rf_r0, rw_r0, rb_r0, rf_r1, rw_r1, rb_r1⟩
    exact D1_27 c1 c2 c3 c4 c5 kc1 kc2 kc3 kc4 t0 t1 t2 t3 t4 r0 r1 p0 p1 X1497 G rfl N1497 P1686 (fun tv3 T' locs' X' N' => F1_8 p0 p1 (1 : Int32) (0 : Int32) t0 t1 t2 t3 t4 c1 c2 X' G z20 tv1 (F2_23 p0 p1 t0 t1 t2 t3 t4 c1 c2 X' G tv3 N' (by decide) (by decide))) (fun tv3 T' locs' X' N' => F1_8 p0 p1 (1 : Int32) (1 : Int32) t0 t1 t2 t3 t4 c1 c2 X' G z20 tv1 (F2_24 p0 p1 t0 t1 t2 t3 t4 c1 c2 X' G tv3 N' (by decide) (by decide)))
  · have P1721 : St47 Z T1497.heap n0 c1 c2 c3 c4 c5 kc1 kc2 kc3 kc4 t0 t1 t2 t3 t4 r0 r1 := ⟨E_c1, V_c1, O_c1, E_c2, F_c2_t, F_c2_r, F_c2_c, F_c2_s, F_c2_o, V_c3, E_c4, V_c4, O_c4, E_c5, V_c5, O_c5, g_c1, lt_c1_c2, lt_c2_c3, lt_c3_c4, lt_c4_c5, ht0, ht1, ht2, ht3, ht4, rf_r0, rw_r0, rb_r0, rf_r1, rw_r1, rb_r1⟩
    exact D2_28 c1 c2 c3 c4 c5 kc1 kc2 kc3 kc4 t0 t1 t2 t3 t4 r0 r1 p0 p1 X1497 G rfl N1497 P1721 (fun T' locs' X' N' => F1_8 p0 p1 (2 : Int32) (1 : Int32) t0 t1 t2 t3 t4 c1 c2 X' G z20 tv1 (F2_25 p0 p1 t0 t1 t2 t3 t4 c1 c2 X' G N' (by decide) (by decide)))
theorem law_2 (l : Launch) (Z : State) (a0 : Array Value) (hw : HW a0 Z) (ws : List Jvm.Cond) (h0 : Heap) (n0 : Nat) (Z0 : n0 ≤ h0.size) (p0 : Int32) (p1 : Int64) (mm : Int32) (hn1 : (((p0.toUInt32 >>> ((5 : Int32) &&& 31).toUInt32).toInt32) &&& (3 : Int32)) = (2 : Int32)) (hmm : ((((p0.toUInt32 >>> ((7 : Int32) &&& 31).toUInt32).toInt32) &&& (255 : Int32)) % (3 : Int32)) = mm) (hm3 : mm = (0 : Int32) ∨ mm = (1 : Int32) ∨ mm = (2 : Int32)) :
    MC l Z x code maxLocals ret ws room_1 #[(.int p0), (.long p1)] h0 (QL n0) := by
  refine own_met (plainFor_of_name pn12) fun p e s m below meth c s₁ X0 hx hZ Y hml hO hnm hlk hret e0 => f_cast (f' := mkF m 0 #[(iv p0), (.val (.long p1)), .second, .unset, .unset, .unset, .unset, .unset, .unset, .unset, .unset, .unset, .unset, .unset, .unset, .unset, .unset, .unset] []) (by first | (simp [entryFrame, mkF, argsToLocals, Value.category, maxLocals]; done) | rfl) ?_
  have N0 := Fr.nil n0
  have G : SG p s m meth c Z a0 := ⟨hx, hZ, hw, Y, hml, hO, hlk, hret⟩
  refine iN X0 hx (hb Y at_0) rfl <| iK X0 hx (z := 5) (hb Y at_1) <| f_iushr X0 hx (z := ((p0.toUInt32 >>> ((5 : Int32) &&& 31).toUInt32).toInt32)) (hb Y at_2) (q := rfl) <| iK X0 hx (z := 3) (hb Y at_3) <| f_iand X0 hx (z := 2) (hb Y at_4) (q := hn1) <| sN X0 hx (L' := #[(iv p0), (.val (.long p1)), .second, (iv 2), .unset, .unset, .unset, .unset, .unset, .unset, .unset, .unset, .unset, .unset, .unset, .unset, .unset, .unset]) (hb Y at_5) rfl <| iN X0 hx (hb Y at_6) rfl <| f_bipush X0 hx (z := 7) (hb Y at_7) <| f_iushr X0 hx (z := ((p0.toUInt32 >>> ((7 : Int32) &&& 31).toUInt32).toInt32)) (hb Y at_9) (q := rfl) <| f_sipush X0 hx (z := 255) (hb Y at_10) <| f_iand X0 hx (z := (((p0.toUInt32 >>> ((7 : Int32) &&& 31).toUInt32).toInt32) &&& (255 : Int32))) (hb Y at_13) (q := rfl) <| iK X0 hx (z := 3) (hb Y at_14) <| f_irem X0 hx (z := mm) (hb Y at_15) (by decide) (q := hmm) <| iS X0 hx (L' := #[(iv p0), (.val (.long p1)), .second, (iv 2), (iv mm), .unset, .unset, .unset, .unset, .unset, .unset, .unset, .unset, .unset, .unset, .unset, .unset, .unset]) (hb Y at_16) rfl <| iN X0 hx (hb Y at_18) rfl <| iK X0 hx (z := 0) (hb Y at_19) <| f_stat X0 hx hZ hO (by rw [hml]; rfl) (w0 hw) (w1 hw) (w2 hw) (w3 hw) e0 (argsL := [(.int p0), (.int 0)]) (rest := []) (own_bit l Z a0 hw [] h0 n0 p0 (0 : Int32)) (lenOf pd0 rfl) (hb Y at_20) fun T726 L726 v726 X726 hQ726 => ?_
  obtain ⟨t0, rfl, ht0, N726q, e726⟩ := hQ726
  have N726 := Fr.app N0 N726q
  refine iS X726 hx (L' := #[(iv p0), (.val (.long p1)), .second, (iv 2), (iv mm), (iv t0), .unset, .unset, .unset, .unset, .unset, .unset, .unset, .unset, .unset, .unset, .unset, .unset]) (hb Y at_23) rfl <| iN X726 hx (hb Y at_25) rfl <| iK X726 hx (z := 1) (hb Y at_26) <| f_stat X726 hx hZ hO (by rw [hml]; rfl) (w0 hw) (w1 hw) (w2 hw) (w3 hw) e726 (argsL := [(.int p0), (.int 1)]) (rest := []) (own_bit l Z a0 hw [] h0 n0 p0 (1 : Int32)) (lenOf pd0 rfl) (hb Y at_27) fun T727 L727 v727 X727 hQ727 => ?_
  obtain ⟨t1, rfl, ht1, N727q, e727⟩ := hQ727
  have N727 := Fr.app N726 N727q
  refine iS X727 hx (L' := #[(iv p0), (.val (.long p1)), .second, (iv 2), (iv mm), (iv t0), (iv t1), .unset, .unset, .unset, .unset, .unset, .unset, .unset, .unset, .unset, .unset, .unset]) (hb Y at_30) rfl <| iN X727 hx (hb Y at_32) rfl <| iK X727 hx (z := 2) (hb Y at_33) <| f_stat X727 hx hZ hO (by rw [hml]; rfl) (w0 hw) (w1 hw) (w2 hw) (w3 hw) e727 (argsL := [(.int p0), (.int 2)]) (rest := []) (own_bit l Z a0 hw [] h0 n0 p0 (2 : Int32)) (lenOf pd0 rfl) (hb Y at_34) fun T728 L728 v728 X728 hQ728 => ?_
  obtain ⟨t2, rfl, ht2, N728q, e728⟩ := hQ728
  have N728 := Fr.app N727 N728q
  refine iS X728 hx (L' := #[(iv p0), (.val (.long p1)), .second, (iv 2), (iv mm), (iv t0), (iv t1), (iv t2), .unset, .unset, .unset, .unset, .unset, .unset, .unset, .unset, .unset, .unset]) (hb Y at_37) rfl <| iN X728 hx (hb Y at_39) rfl <| iK X728 hx (z := 3) (hb Y at_40) <| f_stat X728 hx hZ hO (by rw [hml]; rfl) (w0 hw) (w1 hw) (w2 hw) (w3 hw) e728 (argsL := [(.int p0), (.int 3)]) (rest := []) (own_bit l Z a0 hw [] h0 n0 p0 (3 : Int32)) (lenOf pd0 rfl) (hb Y at_41) fun T729 L729 v729 X729 hQ729 => ?_
  obtain ⟨t3, rfl, ht3, N729q, e729⟩ := hQ729
  have N729 := Fr.app N728 N729q
  refine iS X729 hx (L' := #[(iv p0), (.val (.long p1)), .second, (iv 2), (iv mm), (iv t0), (iv t1), (iv t2), (iv t3), .unset, .unset, .unset, .unset, .unset, .unset, .unset, .unset, .unset]) (hb Y at_44) rfl <| iN X729 hx (hb Y at_46) rfl <| iK X729 hx (z := 4) (hb Y at_47) <| f_stat X729 hx hZ hO (by rw [hml]; rfl) (w0 hw) (w1 hw) (w2 hw) (w3 hw) e729 (argsL := [(.int p0), (.int 4)]) (rest := []) (own_bit l Z a0 hw [] h0 n0 p0 (4 : Int32)) (lenOf pd0 rfl) (hb Y at_48) fun T730 L730 v730 X730 hQ730 => ?_
  obtain ⟨t4, rfl, ht4, N730q, e730⟩ := hQ730
  have N730 := Fr.app N729 N730q
  refine iS X730 hx (L' := #[(iv p0), (.val (.long p1)), .second, (iv 2), (iv mm), (iv t0), (iv t1), (iv t2), (iv t3), (iv t4), .unset, .unset, .unset, .unset, .unset, .unset, .unset, .unset]) (hb Y at_51) rfl <| iK X730 hx (z := 1) (hb Y at_53) <| f_newR X730 hx hZ hO (w4 hw) (w5 hw) e730 (hb Y at_54) 1 (ad := "[Ljava/lang/Object;") (by decide +kernel) fun T731 h731 kb731 b731 g731 X731 e731 E731 V_b731 E_b731 O_b731 => ?_
  have g_b731 : n0 ≤ b731 := by omega
  refine f_astore X731 hx (L' := #[(iv p0), (.val (.long p1)), .second, (iv 2), (iv mm), (iv t0), (iv t1), (iv t2), (iv t3), (iv t4), (rv b731), .unset, .unset, .unset, .unset, .unset, .unset, .unset]) (hb Y at_57) rfl rfl <| f_newO X731 hx hZ hO (w6 hw) (w7 hw) (w8 hw) e731 (hb Y at_59) fun T732 h732 b732 g732 X732 e732 E732 A732 D732 => ?_
  have lt_b731_b732 : b731 < b732 := by have := own_ltE E_b731; omega
  have F_b732_t : fT Z h732 b732 .null := D732 (Or.inl (w17 hw)) (ty := (.array .long)) (by decide)
  have F_b732_r : fR Z h732 b732 .null := D732 (Or.inl (w21 hw)) (ty := (.array (.array (.object "java/lang/Object")))) (by decide)
  have F_b732_c : fC Z h732 b732 .null := D732 (Or.inl (w25 hw)) (ty := (.array (.array .int))) (by decide)
  have F_b732_s : fS Z h732 b732 (.int 0) := D732 (Or.inl (w32 hw)) (ty := .int) (by decide)
  have F_b732_o : fO Z h732 b732 (.int 0) := D732 (Or.inl (w49 hw)) (ty := .int) (by decide)
  have E_b732 := A732
  refine f_dup X732 hx (hb Y at_62) rfl ?_
  have P747 : St0 Z h732 n0 b731 b732 kb731 := ⟨(xe E732 E_b731), (ve V_b731 E732), O_b731, E_b732, F_b732_t, F_b732_r, F_b732_c, F_b732_s, F_b732_o, g_b731, lt_b731_b732⟩
  refine f_spec X732 hx hZ hO (by rw [hml]; rfl) rfl (w9 hw) (w10 hw) (w8 hw) (w11 hw) e732 (a := b732) (argsL := []) (rest := [(.ref b732)]) (m23 l Z a0 hw [] h732 n0 b731 b732 kb731 P747) (lenOf pd1 rfl) (hb Y at_63) fun T733 L733 v733 X733 hQ733 => ?_
  obtain ⟨rfl, N733q, kb741, b742, kb743, b744, kb745, b746, P733⟩ := hQ733
  obtain ⟨E_b731, V_b731, O_b731, E_b732, F_b732_t, F_b732_r, F_b732_c, F_b732_s, F_b732_o, V_b742, E_b744, V_b744, O_b744, E_b746, V_b746, O_b746, g_b731, lt_b731_b732, lt_b732_b742, lt_b742_b744, lt_b744_b746⟩ := id P733
  have N733 := Fr.app N730 N733q
  refine f_astore X733 hx (L' := (FL p0 p1 2 mm t0 t1 t2 t3 t4 b731 b732 .unset .unset .unset .unset .unset .unset)) (hb Y at_66) rfl rfl <| iN X733 hx (hb Y at_68) rfl <| iK X733 hx (z := 1) (hb Y at_69) <| cN X733 hx (hb Y at_70) <| aA X733 hx (hb Y at_73) rfl rfl <| f_ldc2 X733 hx hZ hO (w38 hw) (hb Y at_75) <| iL X733 hx (hb Y at_78) rfl <| own_mrg X733 hx (row := b731) ht0 (pc := 80) (hb Y at_80) (hb Y at_87) (hb Y at_83) (hb Y at_84) rfl fun r0 rf_r0 rw_r0 rb_r0 => ?_
  refine f_null X733 hx (hb Y at_89) ?_
  have P763 : St4 Z T733.heap n0 b731 b732 b742 b744 b746 kb731 kb741 kb743 kb745 (0 : Int64) (0 : Int64) .null .null r0 := ⟨E_b731, V_b731, O_b731, E_b732, F_b732_t, F_b732_r, F_b732_c, F_b732_s, F_b732_o, V_b742, E_b744, V_b744, O_b744, E_b746, V_b746, O_b746, g_b731, lt_b731_b732, lt_b732_b742, lt_b742_b744, lt_b744_b746, rfl, (Or.inl rfl), rfl, (Or.inl rfl), rf_r0, rw_r0⟩
  refine vV X733 hx hZ hO (by rw [hml]; rfl) (w39 hw) (w40 hw) (w42 hw) (w41 hw) (w8 hw) (w43 hw) rfl E_b732 (argsL := [(.long 10), r0, .null]) (rest := []) (m70 l Z a0 hw [] T733.heap n0 b731 b732 b742 b744 b746 kb731 kb741 kb743 kb745 (0 : Int64) (0 : Int64) .null .null r0 (10 : Int64) P763) (lenOf pd5 rfl) (hb Y at_90) fun T748 L748 v748 X748 hQ748 => ?_
  obtain ⟨rfl, N748q, P748⟩ := hQ748
  obtain ⟨E_b731, V_b731, O_b731, E_b732, F_b732_t, F_b732_r, F_b732_c, F_b732_s, F_b732_o, V_b742, E_b744, V_b744, O_b744, E_b746, V_b746, O_b746, g_b731, lt_b731_b732, lt_b732_b742, lt_b742_b744, lt_b744_b746, _, _, _, _, _, _⟩ := id P748
  have N748 := Fr.app N733 N748q
  refine iN X748 hx (hb Y at_93) rfl <| iK X748 hx (z := 2) (hb Y at_94) <| cN X748 hx (hb Y at_95) <| aA X748 hx (hb Y at_98) rfl rfl <| f_ldc2 X748 hx hZ hO (w51 hw) (hb Y at_100) <| iL X748 hx (hb Y at_103) rfl <| own_mrg X748 hx (row := b731) ht1 (pc := 105) (hb Y at_105) (hb Y at_112) (hb Y at_108) (hb Y at_109) rfl fun r1 rf_r1 rw_r1 rb_r1 => ?_
  refine f_null X748 hx (hb Y at_114) ?_
  have P779 : St6 Z T748.heap n0 b731 b732 b742 b744 b746 kb731 kb741 kb743 kb745 (10 : Int64) (0 : Int64) r0 .null r1 := ⟨E_b731, V_b731, O_b731, E_b732, F_b732_t, F_b732_r, F_b732_c, F_b732_s, F_b732_o, V_b742, E_b744, V_b744, O_b744, E_b746, V_b746, O_b746, g_b731, lt_b731_b732, lt_b732_b742, lt_b742_b744, lt_b744_b746, rf_r0, rw_r0, rfl, (Or.inl rfl), rf_r1, rw_r1⟩
  refine vV X748 hx hZ hO (by rw [hml]; rfl) (w39 hw) (w40 hw) (w42 hw) (w41 hw) (w8 hw) (w43 hw) rfl E_b732 (argsL := [(.long 20), r1, .null]) (rest := []) (m132 l Z a0 hw [] T748.heap n0 b731 b732 b742 b744 b746 kb731 kb741 kb743 kb745 (10 : Int64) (0 : Int64) r0 .null r1 (20 : Int64) P779) (lenOf pd5 rfl) (hb Y at_115) fun T764 L764 v764 X764 hQ764 => ?_
  obtain ⟨rfl, N764q, P764⟩ := hQ764
  obtain ⟨E_b731, V_b731, O_b731, E_b732, F_b732_t, F_b732_r, F_b732_c, F_b732_s, F_b732_o, V_b742, E_b744, V_b744, O_b744, E_b746, V_b746, O_b746, g_b731, lt_b731_b732, lt_b732_b742, lt_b742_b744, lt_b744_b746, _, _, _, _, _, _⟩ := id P764
  have N764 := Fr.app N748 N764q
  refine iN X764 hx (hb Y at_118) rfl <| iK X764 hx (z := 3) (hb Y at_119) <| cY X764 hx (pc := 120) 143 (hb Y at_120) ?_
  rcases own_reg2 p1 with ⟨z10, z20⟩ | ⟨z10, z20⟩ | ⟨z10, z20⟩
  · have P1012 : St26 Z T764.heap n0 b731 b732 b742 b744 b746 kb731 kb741 kb743 kb745 r0 r1 t0 t1 t2 t3 t4 mm p1 := ⟨E_b731, V_b731, O_b731, E_b732, F_b732_t, F_b732_r, F_b732_c, F_b732_s, F_b732_o, V_b742, E_b744, V_b744, O_b744, E_b746, V_b746, O_b746, g_b731, lt_b731_b732, lt_b732_b742, lt_b742_b744, lt_b744_b746, ht0, ht1, ht2, ht3, ht4, rf_r0, rw_r0, rb_r0, rf_r1, rw_r1, rb_r1, hm3, z10, z20⟩
    exact C2_14 b731 b732 b742 b744 b746 kb731 kb741 kb743 kb745 r0 r1 t0 t1 t2 t3 t4 mm p1 p0 X764 G rfl N764 P1012
  · rcases id rb_r0 with ⟨tv0, nv_r0⟩ | ⟨tv0, nv_r0⟩
    · have P1073 : St30 Z T764.heap n0 b731 b732 b742 b744 b746 kb731 kb741 kb743 kb745 r0 r1 t0 t1 t2 t3 t4 mm p1 := ⟨E_b731, V_b731, O_b731, E_b732, F_b732_t, F_b732_r, F_b732_c, F_b732_s, F_b732_o, V_b742, E_b744, V_b744, O_b744, E_b746, V_b746, O_b746, g_b731, lt_b731_b732, lt_b732_b742, lt_b742_b744, lt_b744_b746, ht0, ht1, ht2, ht3, ht4, rf_r0, rw_r0, rb_r0, rf_r1, rw_r1, rb_r1, hm3, nv_r0, z10, z20, tv0⟩
      exact C2_18 b731 b732 b742 b744 b746 kb731 kb741 kb743 kb745 r0 r1 t0 t1 t2 t3 t4 mm p1 p0 X764 G rfl N764 P1073
    · have P1408 : St31 Z T764.heap n0 b731 b732 b742 b744 b746 kb731 kb741 kb743 kb745 r0 r1 t0 t1 t2 t3 t4 mm p1 := ⟨E_b731, V_b731, O_b731, E_b732, F_b732_t, F_b732_r, F_b732_c, F_b732_s, F_b732_o, V_b742, E_b744, V_b744, O_b744, E_b746, V_b746, O_b746, g_b731, lt_b731_b732, lt_b732_b742, lt_b742_b744, lt_b744_b746, ht0, ht1, ht2, ht3, ht4, rf_r0, rw_r0, rb_r0, rf_r1, rw_r1, rb_r1, hm3, nv_r0, z10, z20, tv0⟩
      exact C2_19 b731 b732 b742 b744 b746 kb731 kb741 kb743 kb745 r0 r1 t0 t1 t2 t3 t4 mm p1 p0 X764 G rfl N764 P1408
  · rcases id rb_r1 with ⟨tv1, nv_r1⟩ | ⟨tv1, nv_r1⟩
    · have P1496 : St41 Z T764.heap n0 b731 b732 b742 b744 b746 kb731 kb741 kb743 kb745 r0 r1 t0 t1 t2 t3 t4 mm p1 := ⟨E_b731, V_b731, O_b731, E_b732, F_b732_t, F_b732_r, F_b732_c, F_b732_s, F_b732_o, V_b742, E_b744, V_b744, O_b744, E_b746, V_b746, O_b746, g_b731, lt_b731_b732, lt_b732_b742, lt_b742_b744, lt_b744_b746, ht0, ht1, ht2, ht3, ht4, rf_r0, rw_r0, rb_r0, rf_r1, rw_r1, rb_r1, hm3, nv_r1, z10, z20, tv1⟩
      exact C2_24 b731 b732 b742 b744 b746 kb731 kb741 kb743 kb745 r0 r1 t0 t1 t2 t3 t4 mm p1 p0 X764 G rfl N764 P1496
    · have P1722 : St44 Z T764.heap n0 b731 b732 b742 b744 b746 kb731 kb741 kb743 kb745 r0 r1 t0 t1 t2 t3 t4 mm p1 := ⟨E_b731, V_b731, O_b731, E_b732, F_b732_t, F_b732_r, F_b732_c, F_b732_s, F_b732_o, V_b742, E_b744, V_b744, O_b744, E_b746, V_b746, O_b746, g_b731, lt_b731_b732, lt_b732_b742, lt_b742_b744, lt_b744_b746, ht0, ht1, ht2, ht3, ht4, rf_r0, rw_r0, rb_r0, rf_r1, rw_r1, rb_r1, hm3, nv_r1, z10, z20, tv1⟩
      exact C2_26 b731 b732 b742 b744 b746 kb731 kb741 kb743 kb745 r0 r1 t0 t1 t2 t3 t4 mm p1 p0 X764 G rfl N764 P1722
def St48 (Z : State) (h : Heap) (n0 : Nat) (c1 : Nat) (c2 : Nat) (c3 : Nat) (c4 : Nat) (c5 : Nat) (kc1 : ClassId) (kc2 : ClassId) (kc3 : ClassId) (kc4 : ClassId) (r0 : Value) (r1 : Value) (r2 : Value) (t0 : Int32) (t1 : Int32) (t2 : Int32) (t3 : Int32) (t4 : Int32) (mm : Int32) (p1 : Int64) : Prop :=
  xO Z h c1 ∧
  Arv Z h c1 kc1 (.object "java/lang/Object") 1 [.null] .null ∧
  Ovr Z kc1 "java/lang/Object" ∧
  Exa Z h c2 cV ∧
  fT Z h c2 (.ref c3) ∧
  fR Z h c2 (.ref c4) ∧
  fC Z h c2 (.ref c5) ∧
  fS Z h c2 (.int 3) ∧
  fO Z h c2 (.int 0) ∧
  aL Z h c3 kc2 4 [(.long 10), (.long 20), (.long 30), (.long 0)] ∧
  xR Z h c4 ∧
  aR Z h c4 kc3 4 [r0, r1, r2, .null] ∧
  oR Z kc3 ∧
  xC Z h c5 ∧
  aC Z h c5 kc4 4 [.null, .null, .null, .null] ∧
  oC Z kc4 ∧
  n0 ≤ c1 ∧
  c1 < c2 ∧
  c2 < c3 ∧
  c3 < c4 ∧
  c4 < c5 ∧
  (t0 = (0 : Int32) ∨ t0 = (1 : Int32)) ∧
  (t1 = (0 : Int32) ∨ t1 = (1 : Int32)) ∧
  (t2 = (0 : Int32) ∨ t2 = (1 : Int32)) ∧
  (t3 = (0 : Int32) ∨ t3 = (1 : Int32)) ∧
  (t4 = (0 : Int32) ∨ t4 = (1 : Int32)) ∧
  r0.isRef = true ∧
  (r0 = .null ∨ r0 = .ref c1) ∧
  ((t0 = (0 : Int32) ∧ r0 = .ref c1) ∨ (t0 = (1 : Int32) ∧ r0 = .null)) ∧
  r1.isRef = true ∧
  (r1 = .null ∨ r1 = .ref c1) ∧
  ((t1 = (0 : Int32) ∧ r1 = .ref c1) ∨ (t1 = (1 : Int32) ∧ r1 = .null)) ∧
  r2.isRef = true ∧
  (r2 = .null ∨ r2 = .ref c1) ∧
  ((t2 = (0 : Int32) ∧ r2 = .ref c1) ∨ (t2 = (1 : Int32) ∧ r2 = .null)) ∧
  (mm = (0 : Int32) ∨ mm = (1 : Int32) ∨ mm = (2 : Int32)) ∧
  p1 < (10 : Int64) ∧
  p1 < (20 : Int64) ∧
  p1 < (30 : Int64)
theorem q1891 (l : Launch) (Z : State) (a0 : Array Value) (hw : HW a0 Z) (ws : List Jvm.Cond) (h0 : Heap) (n0 : Nat) (c1 : Nat) (c2 : Nat) (kc3 : ClassId) (vs_c2 : List Value) (F_c1_o : fO Z h0 c1 (.int 0)) (F_c1_t : fT Z h0 c1 (.ref c2)) (V_c2 : aL Z h0 c2 kc3 4 vs_c2) :
    MC l Z y6 prog_95_method_11_code 2 (some .int) ws rm_0_0_0_0 #[(.ref c1), (.int 1)] h0 (QV (.int 1) h0 n0) := by
  refine own_met (plainFor_of_name pn6) fun p e s m below meth c s₁ X0 hx hZ Y hml hO hnm hlk hret e0 => f_cast (f' := mkF m 0 #[(rv c1), (iv 1)] []) (by first | (simp [entryFrame, mkF, argsToLocals, Value.category]; done) | rfl) ?_
  have N0 := Fr.nil n0
  refine aN X0 hx (hb Y d6_0) rfl rfl <| gF X0 hx hZ hO (w48 hw) Via.refl e0 F_c1_o (hb Y d6_1) fun T1889 X1889 e1889 => ?_
  refine iN X1889 hx (hb Y d6_4) rfl <| iA X1889 hx (z := 1) (hb Y d6_5) <| aN X1889 hx (hb Y d6_6) rfl rfl <| gF X1889 hx hZ hO (w16 hw) Via.refl e1889 F_c1_t (hb Y d6_7) fun T1890 X1890 e1890 => ?_
  refine f_len X1890 hx hZ e1890 V_c2 (hb Y d6_10) <| iK X1890 hx (z := 1) (hb Y d6_11) <| iB X1890 hx (z := 3) (hb Y d6_12) <| f_iand X1890 hx (z := 1) (hb Y d6_13) ?_
  exact f_ret X1890 hx hlk (i := .ireturn) hret rfl (Or.inl ⟨rfl, Or.inl rfl, _, rfl⟩) (hb Y d6_14) (QQ := (QV (.int 1) h0 n0)) ⟨rfl, N0, e1890⟩ (by decide) (by decide)
theorem q1895 (l : Launch) (Z : State) (a0 : Array Value) (hw : HW a0 Z) (ws : List Jvm.Cond) (h0 : Heap) (n0 : Nat) (c1 : Nat) (c2 : Nat) (kc3 : ClassId) (vs_c2 : List Value) (F_c1_o : fO Z h0 c1 (.int 0)) (F_c1_t : fT Z h0 c1 (.ref c2)) (V_c2 : aL Z h0 c2 kc3 4 vs_c2) :
    MC l Z y6 prog_95_method_11_code 2 (some .int) ws rm_0_0_0_0 #[(.ref c1), (.int 0)] h0 (QV (.int 0) h0 n0) := by
  refine own_met (plainFor_of_name pn6) fun p e s m below meth c s₁ X0 hx hZ Y hml hO hnm hlk hret e0 => f_cast (f' := mkF m 0 #[(rv c1), (iv 0)] []) (by first | (simp [entryFrame, mkF, argsToLocals, Value.category]; done) | rfl) ?_
  have N0 := Fr.nil n0
  refine aN X0 hx (hb Y d6_0) rfl rfl <| gF X0 hx hZ hO (w48 hw) Via.refl e0 F_c1_o (hb Y d6_1) fun T1893 X1893 e1893 => ?_
  refine iN X1893 hx (hb Y d6_4) rfl <| iA X1893 hx (z := 0) (hb Y d6_5) <| aN X1893 hx (hb Y d6_6) rfl rfl <| gF X1893 hx hZ hO (w16 hw) Via.refl e1893 F_c1_t (hb Y d6_7) fun T1894 X1894 e1894 => ?_
  refine f_len X1894 hx hZ e1894 V_c2 (hb Y d6_10) <| iK X1894 hx (z := 1) (hb Y d6_11) <| iB X1894 hx (z := 3) (hb Y d6_12) <| f_iand X1894 hx (z := 0) (hb Y d6_13) ?_
  exact f_ret X1894 hx hlk (i := .ireturn) hret rfl (Or.inl ⟨rfl, Or.inl rfl, _, rfl⟩) (hb Y d6_14) (QQ := (QV (.int 0) h0 n0)) ⟨rfl, N0, e1894⟩ (by decide) (by decide)
def St49 (Z : State) (h : Heap) (n0 : Nat) (c1 : Nat) (c2 : Nat) (c3 : Nat) (c4 : Nat) (c5 : Nat) (kc1 : ClassId) (kc2 : ClassId) (kc3 : ClassId) (kc4 : ClassId) (uu1 : Int64) (uu2 : Int64) (uu3 : Int64) (uu4 : Int64) (ww5 : Value) (ww6 : Value) (ww7 : Value) (ww8 : Value) : Prop :=
  xO Z h c1 ∧
  Arv Z h c1 kc1 (.object "java/lang/Object") 1 [.null] .null ∧
  Ovr Z kc1 "java/lang/Object" ∧
  Exa Z h c2 cV ∧
  fT Z h c2 (.ref c3) ∧
  fR Z h c2 (.ref c4) ∧
  fC Z h c2 (.ref c5) ∧
  fS Z h c2 (.int 3) ∧
  fO Z h c2 (.int 0) ∧
  aL Z h c3 kc2 4 [(.long uu1), (.long uu2), (.long uu3), (.long uu4)] ∧
  xR Z h c4 ∧
  aR Z h c4 kc3 4 [ww5, ww6, ww7, ww8] ∧
  oR Z kc3 ∧
  xC Z h c5 ∧
  aC Z h c5 kc4 4 [.null, .null, .null, .null] ∧
  oC Z kc4 ∧
  n0 ≤ c1 ∧
  c1 < c2 ∧
  c2 < c3 ∧
  c3 < c4 ∧
  c4 < c5 ∧
  ww5.isRef = true ∧
  (ww5 = .null ∨ ww5 = .ref c1) ∧
  ww6.isRef = true ∧
  (ww6 = .null ∨ ww6 = .ref c1) ∧
  ww7.isRef = true ∧
  (ww7 = .null ∨ ww7 = .ref c1) ∧
  ww8.isRef = true ∧
  (ww8 = .null ∨ ww8 = .ref c1)
def Qm1916 (Z : State) (n0 : Nat) (c1 : Nat) (c2 : Nat) (c3 : Nat) (c4 : Nat) (c5 : Nat) (kc1 : ClassId) (kc2 : ClassId) (kc3 : ClassId) (kc4 : ClassId) (uu1 : Int64) (uu2 : Int64) (uu3 : Int64) (uu4 : Int64) (ww5 : Value) (ww6 : Value) (ww7 : Value) (ww8 : Value) (v : Option Value) (h : Heap) (L : List Loc) : Prop := v = none ∧ Fr n0 L ∧ St49 Z h n0 c1 c2 c3 c4 c5 kc1 kc2 kc3 kc4 uu1 uu2 uu3 uu4 ww5 ww6 ww7 ww8
theorem m1916 (l : Launch) (Z : State) (a0 : Array Value) (hw : HW a0 Z) (ws : List Jvm.Cond) (h0 : Heap) (n0 : Nat) (c1 : Nat) (c2 : Nat) (c3 : Nat) (c4 : Nat) (c5 : Nat) (kc1 : ClassId) (kc2 : ClassId) (kc3 : ClassId) (kc4 : ClassId) (uu1 : Int64) (uu2 : Int64) (uu3 : Int64) (uu4 : Int64) (ww5 : Value) (ww6 : Value) (ww7 : Value) (ww8 : Value) (P : St49 Z h0 n0 c1 c2 c3 c4 c5 kc1 kc2 kc3 kc4 uu1 uu2 uu3 uu4 ww5 ww6 ww7 ww8) :
    MC l Z y7 prog_95_method_9_code 3 none ws rm_1_0_0_14 #[(.ref c2), (.int 0)] h0 (Qm1916 Z n0 c1 c2 c3 c4 c5 kc1 kc2 kc3 kc4 uu1 uu2 uu3 uu4 ww5 ww6 ww7 ww8) := by
  obtain ⟨E_c1, V_c1, O_c1, E_c2, F_c2_t, F_c2_r, F_c2_c, F_c2_s, F_c2_o, V_c3, E_c4, V_c4, O_c4, E_c5, V_c5, O_c5, g_c1, lt_c1_c2, lt_c2_c3, lt_c3_c4, lt_c4_c5, rf_ww5, rw_ww5, rf_ww6, rw_ww6, rf_ww7, rw_ww7, rf_ww8, rw_ww8⟩ := id P
  refine own_met (plainFor_of_name pn7) fun p e s m below meth c s₁ X0 hx hZ Y hml hO hnm hlk hret e0 => f_cast (f' := mkF m 0 #[(rv c2), (iv 0), .unset] []) (by first | (simp [entryFrame, mkF, argsToLocals, Value.category]; done) | rfl) ?_
  have N0 := Fr.nil n0
  refine iK X0 hx (z := 0) (hb Y d7_0) <| sN X0 hx (L' := #[(rv c2), (iv 0), (iv 0)]) (hb Y d7_1) rfl <| iN X0 hx (hb Y d7_2) rfl <| iN X0 hx (hb Y d7_3) rfl <| cY X0 hx (pc := 4) 35 (hb Y d7_4) <| aN X0 hx (hb Y d7_35) rfl rfl <| aN X0 hx (hb Y d7_36) rfl rfl <| iN X0 hx (hb Y d7_37) rfl <| pV X0 hx hZ hO (by rw [hml]; rfl) (w44 hw) (w45 hw) (w46 hw) (w7 hw) (w8 hw) (w47 hw) e0 E_c2 (argsL := [(.int 0)]) (rest := [(.ref c2)]) (q1895 l Z a0 hw [] h0 n0 c2 c3 kc2 _ F_c2_o F_c2_t V_c3) (lenOf pd4 rfl) (hb Y d7_38) fun T1907 L1907 v1907 X1907 hQ1907 => ?_
  obtain ⟨rfl, N1907q, e1907⟩ := hQ1907
  have N1907 := Fr.app N0 N1907q
  refine f_putF X1907 hx hZ hO (w48 hw) Via.refl e1907 F_c2_o E_c2 (Or.inl (w49 hw)) (w7 hw) (ty := .int) (by decide) rfl rfl (hb Y d7_41) fun T1910 h1910 X1910 e1910 W1910 => ?_
  have N1910x := Fr.snoc X1910 N1907 (by omega : n0 ≤ c2)
  refine aN X1910 hx (hb Y d7_44) rfl rfl <| f_dup X1910 hx (hb Y d7_45) rfl ?_
  replace F_c2_s := (Fld.other W1910 F_c2_s (Or.inr (slot_ne (Or.inl (w32 hw)) (Or.inl (w49 hw)) (by decide) (t := .int) (t' := .int) (by decide) (by decide))))
  refine gF X1910 hx hZ hO (w31 hw) Via.refl e1910 F_c2_s (hb Y d7_46) fun T1911 X1911 e1911 => ?_
  refine iN X1911 hx (hb Y d7_49) rfl <| iB X1911 hx (z := 3) (hb Y d7_50) ?_
  replace E_c2 := (xw W1910 E_c2)
  refine f_putF X1911 hx hZ hO (w31 hw) Via.refl e1911 F_c2_s E_c2 (Or.inl (w32 hw)) (w7 hw) (ty := .int) (by decide) rfl rfl (hb Y d7_51) fun T1912 h1912 X1912 e1912 W1912 => ?_
  have N1912x := Fr.snoc X1912 N1910x (by omega : n0 ≤ c2)
  refine aN X1912 hx (hb Y d7_54) rfl rfl ?_
  replace F_c2_t := (Fld.other W1912 (Fld.other W1910 F_c2_t (Or.inr (slot_ne (Or.inl (w17 hw)) (Or.inl (w49 hw)) (by decide) (t := (.array .long)) (t' := .int) (by decide) (by decide)))) (Or.inr (slot_ne (Or.inl (w17 hw)) (Or.inl (w32 hw)) (by decide) (t := (.array .long)) (t' := .int) (by decide) (by decide))))
  refine gF X1912 hx hZ hO (w16 hw) Via.refl e1912 F_c2_t (hb Y d7_55) fun T1913 X1913 e1913 => ?_
  replace V_c3 := (vo (vo V_c3 W1910) W1912)
  refine f_len X1913 hx hZ e1913 V_c3 (hb Y d7_58) <| iK X1913 hx (z := 2) (hb Y d7_59) <| cN X1913 hx (hb Y d7_60) <| aN X1913 hx (hb Y d7_63) rfl rfl ?_
  replace F_c2_s := (Fld.same W1912 F_c2_s)
  refine gF X1913 hx hZ hO (w31 hw) Via.refl e1913 F_c2_s (hb Y d7_64) fun T1914 X1914 e1914 => ?_
  refine aN X1914 hx (hb Y d7_67) rfl rfl <| gF X1914 hx hZ hO (w16 hw) Via.refl e1914 F_c2_t (hb Y d7_68) fun T1915 X1915 e1915 => ?_
  refine f_len X1915 hx hZ e1915 V_c3 (hb Y d7_71) <| iK X1915 hx (z := 4) (hb Y d7_72) <| f_idiv X1915 hx (z := 1) (hb Y d7_73) (by decide) <| cY X1915 hx (pc := 74) 94 (hb Y d7_74) ?_
  exact f_ret0 X1915 hx hlk hret (hb Y d7_94) (QQ := (Qm1916 Z n0 c1 c2 c3 c4 c5 kc1 kc2 kc3 kc4 uu1 uu2 uu3 uu4 ww5 ww6 ww7 ww8)) (by rw [e1915]; exact ⟨rfl, N1912x, (xw W1912 (xw W1910 E_c1)), (vo (vo V_c1 W1910) W1912), O_c1, (xw W1912 E_c2), F_c2_t, (Fld.other W1912 (Fld.other W1910 F_c2_r (Or.inr (slot_ne (Or.inl (w21 hw)) (Or.inl (w49 hw)) (by decide) (t := (.array (.array (.object "java/lang/Object")))) (t' := .int) (by decide) (by decide)))) (Or.inr (slot_ne (Or.inl (w21 hw)) (Or.inl (w32 hw)) (by decide) (t := (.array (.array (.object "java/lang/Object")))) (t' := .int) (by decide) (by decide)))), (Fld.other W1912 (Fld.other W1910 F_c2_c (Or.inr (slot_ne (Or.inl (w25 hw)) (Or.inl (w49 hw)) (by decide) (t := (.array (.array .int))) (t' := .int) (by decide) (by decide)))) (Or.inr (slot_ne (Or.inl (w25 hw)) (Or.inl (w32 hw)) (by decide) (t := (.array (.array .int))) (t' := .int) (by decide) (by decide)))), F_c2_s, (Fld.other W1912 (Fld.same W1910 F_c2_o) (Or.inr (slot_ne (Or.inl (w49 hw)) (Or.inl (w32 hw)) (by decide) (t := .int) (t' := .int) (by decide) (by decide)))), V_c3, (xw W1912 (xw W1910 E_c4)), (vo (vo V_c4 W1910) W1912), O_c4, (xw W1912 (xw W1910 E_c5)), (vo (vo V_c5 W1910) W1912), O_c5, g_c1, lt_c1_c2, lt_c2_c3, lt_c3_c4, lt_c4_c5, rf_ww5, rw_ww5, rf_ww6, rw_ww6, rf_ww7, rw_ww7, rf_ww8, rw_ww8⟩) (by decide) (by decide)
def Qm1919 (Z : State) (n0 : Nat) (c1 : Nat) (c2 : Nat) (c3 : Nat) (c4 : Nat) (c5 : Nat) (kc1 : ClassId) (kc2 : ClassId) (kc3 : ClassId) (kc4 : ClassId) (r0 : Value) (r1 : Value) (r2 : Value) (t0 : Int32) (t1 : Int32) (t2 : Int32) (t3 : Int32) (t4 : Int32) (mm : Int32) (p1 : Int64) (v : Option Value) (h : Heap) (L : List Loc) : Prop := v = some (.int 0) ∧ Fr n0 L ∧ St48 Z h n0 c1 c2 c3 c4 c5 kc1 kc2 kc3 kc4 r0 r1 r2 t0 t1 t2 t3 t4 mm p1
theorem m1919 (l : Launch) (Z : State) (a0 : Array Value) (hw : HW a0 Z) (ws : List Jvm.Cond) (h0 : Heap) (n0 : Nat) (c1 : Nat) (c2 : Nat) (c3 : Nat) (c4 : Nat) (c5 : Nat) (kc1 : ClassId) (kc2 : ClassId) (kc3 : ClassId) (kc4 : ClassId) (r0 : Value) (r1 : Value) (r2 : Value) (t0 : Int32) (t1 : Int32) (t2 : Int32) (t3 : Int32) (t4 : Int32) (mm : Int32) (p1 : Int64) (P : St48 Z h0 n0 c1 c2 c3 c4 c5 kc1 kc2 kc3 kc4 r0 r1 r2 t0 t1 t2 t3 t4 mm p1) :
    MC l Z y3 prog_95_method_5_code 5 (some .boolean) ws rm_2_0_0_28 #[(.ref c2), (.long p1)] h0 (Qm1919 Z n0 c1 c2 c3 c4 c5 kc1 kc2 kc3 kc4 r0 r1 r2 t0 t1 t2 t3 t4 mm p1) := by
  obtain ⟨E_c1, V_c1, O_c1, E_c2, F_c2_t, F_c2_r, F_c2_c, F_c2_s, F_c2_o, V_c3, E_c4, V_c4, O_c4, E_c5, V_c5, O_c5, g_c1, lt_c1_c2, lt_c2_c3, lt_c3_c4, lt_c4_c5, ht0, ht1, ht2, ht3, ht4, rf_r0, rw_r0, rb_r0, rf_r1, rw_r1, rb_r1, rf_r2, rw_r2, rb_r2, hm3, z10, z20, z30⟩ := id P
  refine own_met (plainFor_of_name pn3) fun p e s m below meth c s₁ X0 hx hZ Y hml hO hnm hlk hret e0 => f_cast (f' := mkF m 0 #[(rv c2), (.val (.long p1)), .second, .unset, .unset] []) (by first | (simp [entryFrame, mkF, argsToLocals, Value.category]; done) | rfl) ?_
  have N0 := Fr.nil n0
  refine aN X0 hx (hb Y d3_0) rfl rfl <| gF X0 hx hZ hO (w31 hw) Via.refl e0 F_c2_s (hb Y d3_1) fun T1885 X1885 e1885 => ?_
  refine fY X1885 hx (pc := 4) 9 (hb Y d3_4) <| iK X1885 hx (z := 0) (hb Y d3_9) <| sN X1885 hx (L' := #[(rv c2), (.val (.long p1)), .second, (iv 0), .unset]) (hb Y d3_10) rfl <| iN X1885 hx (hb Y d3_11) rfl <| iK X1885 hx (z := 1) (hb Y d3_12) <| iA X1885 hx (z := 1) (hb Y d3_13) <| aN X1885 hx (hb Y d3_14) rfl rfl <| gF X1885 hx hZ hO (w31 hw) Via.refl e1885 F_c2_s (hb Y d3_15) fun T1886 X1886 e1886 => ?_
  refine cN X1886 hx (hb Y d3_18) <| aN X1886 hx (hb Y d3_21) rfl rfl <| gF X1886 hx hZ hO (w16 hw) Via.refl e1886 F_c2_t (hb Y d3_22) fun T1887 X1887 e1887 => ?_
  refine aN X1887 hx (hb Y d3_25) rfl rfl <| iN X1887 hx (hb Y d3_26) rfl <| iK X1887 hx (z := 1) (hb Y d3_27) <| iA X1887 hx (z := 1) (hb Y d3_28) <| pV X1887 hx hZ hO (by rw [hml]; rfl) (w44 hw) (w45 hw) (w46 hw) (w7 hw) (w8 hw) (w47 hw) e1887 E_c2 (argsL := [(.int 1)]) (rest := [(.ref c3)]) (q1891 l Z a0 hw [] h0 n0 c2 c3 kc2 _ F_c2_o F_c2_t V_c3) (lenOf pd4 rfl) (hb Y d3_29) fun T1888 L1888 v1888 X1888 hQ1888 => ?_
  obtain ⟨rfl, N1888q, e1888⟩ := hQ1888
  have N1888 := Fr.app N0 N1888q
  refine f_lald X1888 hx hZ e1888 V_c3 (v := (.long 20)) rfl (hb Y d3_32) <| lN X1888 hx (hb Y d3_33) rfl <| lC X1888 hx (z := (lcmpW (20 : Int64) p1)) (hb Y d3_34) (q := rfl) <| fY X1888 hx (pc := 35) 44 (hb Y d3_35) (hc := (own_gtT z20)) <| aN X1888 hx (hb Y d3_44) rfl rfl <| iN X1888 hx (hb Y d3_45) rfl <| pV X1888 hx hZ hO (by rw [hml]; rfl) (w44 hw) (w45 hw) (w46 hw) (w7 hw) (w8 hw) (w47 hw) e1888 E_c2 (argsL := [(.int 0)]) (rest := []) (q1895 l Z a0 hw [] h0 n0 c2 c3 kc2 _ F_c2_o F_c2_t V_c3) (lenOf pd4 rfl) (hb Y d3_46) fun T1892 L1892 v1892 X1892 hQ1892 => ?_
  obtain ⟨rfl, N1892q, e1892⟩ := hQ1892
  have N1892 := Fr.app N1888 N1892q
  refine iS X1892 hx (L' := #[(rv c2), (.val (.long p1)), .second, (iv 0), (iv 0)]) (hb Y d3_49) rfl <| aN X1892 hx (hb Y d3_51) rfl rfl <| gF X1892 hx hZ hO (w16 hw) Via.refl e1892 F_c2_t (hb Y d3_52) fun T1896 X1896 e1896 => ?_
  refine iL X1896 hx (hb Y d3_55) rfl <| f_lald X1896 hx hZ e1896 V_c3 (v := (.long 10)) rfl (hb Y d3_57) <| lN X1896 hx (hb Y d3_58) rfl <| lC X1896 hx (z := (lcmpW (10 : Int64) p1)) (hb Y d3_59) (q := rfl) <| fY X1896 hx (pc := 60) 76 (hb Y d3_60) (hc := (own_gtT z10)) <| aN X1896 hx (hb Y d3_76) rfl rfl <| iN X1896 hx (hb Y d3_77) rfl ?_
  have P1917 : St49 Z h0 n0 c1 c2 c3 c4 c5 kc1 kc2 kc3 kc4 (10 : Int64) (20 : Int64) (30 : Int64) (0 : Int64) r0 r1 r2 .null := ⟨E_c1, V_c1, O_c1, E_c2, F_c2_t, F_c2_r, F_c2_c, F_c2_s, F_c2_o, V_c3, E_c4, V_c4, O_c4, E_c5, V_c5, O_c5, g_c1, lt_c1_c2, lt_c2_c3, lt_c3_c4, lt_c4_c5, rf_r0, rw_r0, rf_r1, rw_r1, rf_r2, rw_r2, rfl, (Or.inl rfl)⟩
  refine pV X1896 hx hZ hO (by rw [hml]; rfl) (w52 hw) (w53 hw) (w54 hw) (w7 hw) (w8 hw) (w55 hw) e1896 E_c2 (argsL := [(.int 0)]) (rest := []) (m1916 l Z a0 hw [] h0 n0 c1 c2 c3 c4 c5 kc1 kc2 kc3 kc4 (10 : Int64) (20 : Int64) (30 : Int64) (0 : Int64) r0 r1 r2 .null P1917) (lenOf pd6 rfl) (hb Y d3_78) fun T1897 L1897 v1897 X1897 hQ1897 => ?_
  obtain ⟨rfl, N1897q, P1897⟩ := hQ1897
  obtain ⟨E_c1, V_c1, O_c1, E_c2, F_c2_t, F_c2_r, F_c2_c, F_c2_s, F_c2_o, V_c3, E_c4, V_c4, O_c4, E_c5, V_c5, O_c5, g_c1, lt_c1_c2, lt_c2_c3, lt_c3_c4, lt_c4_c5, _, _, _, _, _, _, _, _⟩ := id P1897
  have N1897 := Fr.app N1892 N1897q
  refine aN X1897 hx (hb Y d3_81) rfl rfl <| gF X1897 hx hZ hO (w31 hw) Via.refl rfl F_c2_s (hb Y d3_82) fun T1918 X1918 e1918 => ?_
  refine fY X1918 hx (pc := 85) 92 (hb Y d3_85) <| iK X1918 hx (z := 0) (hb Y d3_92) ?_
  exact f_ret X1918 hx hlk (i := .ireturn) hret rfl (Or.inl ⟨rfl, Or.inr (Or.inl rfl), _, rfl⟩) (hb Y d3_93) (QQ := (Qm1919 Z n0 c1 c2 c3 c4 c5 kc1 kc2 kc3 kc4 r0 r1 r2 t0 t1 t2 t3 t4 mm p1)) (by rw [e1918]; exact ⟨rfl, N1897, E_c1, V_c1, O_c1, E_c2, F_c2_t, F_c2_r, F_c2_c, F_c2_s, F_c2_o, V_c3, E_c4, V_c4, O_c4, E_c5, V_c5, O_c5, g_c1, lt_c1_c2, lt_c2_c3, lt_c3_c4, lt_c4_c5, ht0, ht1, ht2, ht3, ht4, rf_r0, rw_r0, rb_r0, rf_r1, rw_r1, rb_r1, rf_r2, rw_r2, rb_r2, hm3, z10, z20, z30⟩) (by decide) (by decide)
def St50 (Z : State) (h : Heap) (n0 : Nat) (c1 : Nat) (c2 : Nat) (c3 : Nat) (c4 : Nat) (c5 : Nat) (kc1 : ClassId) (kc2 : ClassId) (kc3 : ClassId) (kc4 : ClassId) (r0 : Value) (r1 : Value) (r2 : Value) (t0 : Int32) (t1 : Int32) (t2 : Int32) (t3 : Int32) (t4 : Int32) : Prop :=
  xO Z h c1 ∧
  Arv Z h c1 kc1 (.object "java/lang/Object") 1 [.null] .null ∧
  Ovr Z kc1 "java/lang/Object" ∧
  Exa Z h c2 cV ∧
  fT Z h c2 (.ref c3) ∧
  fR Z h c2 (.ref c4) ∧
  fC Z h c2 (.ref c5) ∧
  fS Z h c2 (.int 3) ∧
  fO Z h c2 (.int 0) ∧
  aL Z h c3 kc2 4 [(.long 10), (.long 20), (.long 30), (.long 0)] ∧
  xR Z h c4 ∧
  aR Z h c4 kc3 4 [r0, r1, r2, .null] ∧
  oR Z kc3 ∧
  xC Z h c5 ∧
  aC Z h c5 kc4 4 [.null, .null, .null, .null] ∧
  oC Z kc4 ∧
  n0 ≤ c1 ∧
  c1 < c2 ∧
  c2 < c3 ∧
  c3 < c4 ∧
  c4 < c5 ∧
  (t0 = (0 : Int32) ∨ t0 = (1 : Int32)) ∧
  (t1 = (0 : Int32) ∨ t1 = (1 : Int32)) ∧
  (t2 = (0 : Int32) ∨ t2 = (1 : Int32)) ∧
  (t3 = (0 : Int32) ∨ t3 = (1 : Int32)) ∧
  (t4 = (0 : Int32) ∨ t4 = (1 : Int32)) ∧
  r0.isRef = true ∧
  (r0 = .null ∨ r0 = .ref c1) ∧
  ((t0 = (0 : Int32) ∧ r0 = .ref c1) ∨ (t0 = (1 : Int32) ∧ r0 = .null)) ∧
  r1.isRef = true ∧
  (r1 = .null ∨ r1 = .ref c1) ∧
  ((t1 = (0 : Int32) ∧ r1 = .ref c1) ∨ (t1 = (1 : Int32) ∧ r1 = .null)) ∧
  r2.isRef = true ∧
  (r2 = .null ∨ r2 = .ref c1) ∧
  ((t2 = (0 : Int32) ∧ r2 = .ref c1) ∨ (t2 = (1 : Int32) ∧ r2 = .null))
theorem D0_30  (c1 : Nat) (c2 : Nat) (c3 : Nat) (c4 : Nat) (c5 : Nat) (kc1 : ClassId) (kc2 : ClassId) (kc3 : ClassId) (kc4 : ClassId) (r0 : Value) (r1 : Value) (r2 : Value) (t0 : Int32) (t1 : Int32) (t2 : Int32) (t3 : Int32) (t4 : Int32) (p0 : Int32) (p1 : Int64) (X0 : Stand p l e room_1 s m args below meth c T0 locs 8 25) (G : SG p s m meth c Z a0) (e0 : T0.heap = h0) (N0 : Fr n0 locs) (P : St50 Z h0 n0 c1 c2 c3 c4 c5 kc1 kc2 kc3 kc4 r0 r1 r2 t0 t1 t2 t3 t4) (hk0 : ∀ (T' : State) (locs' : List Loc), Stand p l e room_1 s m args below meth c T' locs' 8 25 → Fr n0 locs' → EndsSo p e below (LQ s n0) T' (mkF m 209 (FL p0 p1 3 0 t0 t1 t2 t3 t4 c1 c2 (iv 1) .unset .unset .unset .unset .unset) [])) :
    EndsSo p e below (LQ s n0) T0 (mkF m 150 (FL p0 p1 3 0 t0 t1 t2 t3 t4 c1 c2 .unset .unset .unset .unset .unset .unset) []) := by
  obtain ⟨hx, hZ, hw, Y, hml, hO, hlk, hret⟩ := id G
  obtain ⟨E_c1, V_c1, O_c1, E_c2, F_c2_t, F_c2_r, F_c2_c, F_c2_s, F_c2_o, V_c3, E_c4, V_c4, O_c4, E_c5, V_c5, O_c5, g_c1, lt_c1_c2, lt_c2_c3, lt_c3_c4, lt_c4_c5, ht0, ht1, ht2, ht3, ht4, rf_r0, rw_r0, rb_r0, rf_r1, rw_r1, rb_r1, rf_r2, rw_r2, rb_r2⟩ := id P
  refine iL X0 hx (hb Y at_150) rfl <| iK X0 hx (z := 1) (hb Y at_152) <| cY X0 hx (pc := 153) 176 (hb Y at_153) <| iL X0 hx (hb Y at_176) rfl <| iK X0 hx (z := 2) (hb Y at_178) <| cY X0 hx (pc := 179) 202 (hb Y at_179) <| aA X0 hx (hb Y at_202) rfl rfl <| vV X0 hx hZ hO (by rw [hml]; rfl) (w33 hw) (w34 hw) (w36 hw) (w35 hw) (w8 hw) (w37 hw) e0 E_c2 (argsL := []) (rest := []) (q462 l Z a0 hw [] h0 n0 c2 F_c2_s) (lenOf pd3 rfl) (hb Y at_204) fun T1921 L1921 v1921 X1921 hQ1921 => ?_
  obtain ⟨rfl, N1921q, e1921⟩ := hQ1921
  have N1921 := Fr.app N0 N1921q
  refine iS X1921 hx (L' := (FL p0 p1 3 0 t0 t1 t2 t3 t4 c1 c2 (iv 1) .unset .unset .unset .unset .unset)) (hb Y at_207) rfl ?_
  exact hk0 _ _ X1921 N1921
theorem F1_9  {cells slots : Nat} (p0 : Int32) (p1 : Int64) (mm : Int32) (gg : Int32) (t0 : Int32) (t1 : Int32) (t2 : Int32) (t3 : Int32) (t4 : Int32) (c1 : Nat) (c2 : Nat) (X0 : Stand p l e room_1 s m args below meth c T0 locs cells slots) (G : SG p s m meth c Z a0) (z10 : p1 < (10 : Int64)) (z20 : p1 < (20 : Int64)) (z30 : p1 < (30 : Int64)) (h : EndsSo p e below (LQ s n0) T0 (mkF m 303 (FL p0 p1 3 mm t0 t1 t2 t3 t4 c1 c2 (iv gg) (iv 0) (iv t0) (.val (.long 10)) .second .unset) [])) :
    EndsSo p e below (LQ s n0) T0 (mkF m 209 (FL p0 p1 3 mm t0 t1 t2 t3 t4 c1 c2 (iv gg) .unset .unset .unset .unset .unset) []) := by
  obtain ⟨hx, hZ, hw, Y, hml, hO, hlk, hret⟩ := id G
  refine iK X0 hx (z := 0) (hb Y at_209) <| iS X0 hx (L' := (FL p0 p1 3 mm t0 t1 t2 t3 t4 c1 c2 (iv gg) (iv 0) .unset .unset .unset .unset)) (hb Y at_210) rfl <| iN X0 hx (hb Y at_212) rfl <| iK X0 hx (z := 2) (hb Y at_213) <| cN X0 hx (hb Y at_214) <| lN X0 hx (hb Y at_217) rfl <| f_ldc2 X0 hx hZ hO (w51 hw) (hb Y at_218) <| lC X0 hx (z := (lcmpW p1 (20 : Int64))) (hb Y at_221) (q := rfl) <| fY X0 hx (pc := 222) 228 (hb Y at_222) (hc := (own_ltT z20)) <| iN X0 hx (hb Y at_228) rfl <| iK X0 hx (z := 3) (hb Y at_229) <| cN X0 hx (hb Y at_230) <| lN X0 hx (hb Y at_233) rfl <| f_ldc2 X0 hx hZ hO (w57 hw) (hb Y at_234) <| lC X0 hx (z := (lcmpW p1 (30 : Int64))) (hb Y at_237) (q := rfl) <| fY X0 hx (pc := 238) 244 (hb Y at_238) (hc := (own_ltT z30)) <| iN X0 hx (hb Y at_244) rfl <| iK X0 hx (z := 1) (hb Y at_245) <| cN X0 hx (hb Y at_246) <| iL X0 hx (hb Y at_249) rfl <| fN X0 hx (hb Y at_251) <| iL X0 hx (hb Y at_254) rfl <| gT X0 hx (pc := 256) 272 (hb Y at_256) <| iS X0 hx (L' := (FL p0 p1 3 mm t0 t1 t2 t3 t4 c1 c2 (iv gg) (iv 0) (iv t0) .unset .unset .unset)) (hb Y at_272) rfl <| f_ldc2 X0 hx hZ hO (w38 hw) (hb Y at_274) <| iL X0 hx (hb Y at_277) rfl <| iK X0 hx (z := 1) (hb Y at_279) <| iA X0 hx (z := 1) (hb Y at_280) <| f_i2l X0 hx (z := 1) (hb Y at_281) <| f_lmul X0 hx (z := 10) (hb Y at_282) <| f_lstore X0 hx (L' := (FL p0 p1 3 mm t0 t1 t2 t3 t4 c1 c2 (iv gg) (iv 0) (iv t0) (.val (.long 10)) .second .unset)) (hb Y at_283) rfl <| f_lload X0 hx (hb Y at_285) rfl <| lN X0 hx (hb Y at_287) rfl <| lC X0 hx (z := (lcmpW (10 : Int64) p1)) (hb Y at_288) (q := rfl) <| fY X0 hx (pc := 289) 303 (hb Y at_289) (hc := (own_gtT z10)) ?_
  exact h
theorem F2_26  {cells slots : Nat} (p0 : Int32) (p1 : Int64) (t0 : Int32) (t1 : Int32) (t2 : Int32) (t3 : Int32) (t4 : Int32) (c1 : Nat) (c2 : Nat) (X0 : Stand p l e room_1 s m args below meth c T0 locs cells slots) (G : SG p s m meth c Z a0) (N0 : Fr n0 locs) (hK : cells ≤ room_1.cells) (hN : slots ≤ room_1.slots) :
    EndsSo p e below (LQ s n0) T0 (mkF m 303 (FL p0 p1 3 0 t0 t1 t2 t3 t4 c1 c2 (iv 1) (iv 0) (iv t0) (.val (.long 10)) .second .unset) []) := by
  obtain ⟨hx, hZ, hw, Y, hml, hO, hlk, hret⟩ := id G
  refine iN X0 hx (hb Y at_303) rfl <| iL X0 hx (hb Y at_304) rfl <| iB X0 hx (z := 3) (hb Y at_306) <| iS X0 hx (L' := (FL p0 p1 3 0 t0 t1 t2 t3 t4 c1 c2 (iv 1) (iv 0) (iv 3) (.val (.long 10)) .second .unset)) (hb Y at_307) rfl <| iL X0 hx (hb Y at_309) rfl <| iL X0 hx (hb Y at_311) rfl <| iA X0 hx (z := 3) (hb Y at_313) <| iS X0 hx (L' := (FL p0 p1 3 0 t0 t1 t2 t3 t4 c1 c2 (iv 1) (iv 0) (iv 3) (iv 3) .unset .unset)) (hb Y at_314) rfl <| iL X0 hx (hb Y at_316) rfl <| iK X0 hx (z := 1) (hb Y at_318) <| cY X0 hx (pc := 319) 348 (hb Y at_319) <| iL X0 hx (hb Y at_348) rfl <| iS X0 hx (L' := (FL p0 p1 3 0 t0 t1 t2 t3 t4 c1 c2 (iv 1) (iv 0) (iv 3) (iv 3) (iv t3) .unset)) (hb Y at_350) rfl <| iL X0 hx (hb Y at_352) rfl <| iK X0 hx (z := 1) (hb Y at_354) <| cY X0 hx (pc := 355) 369 (hb Y at_355) <| iK X0 hx (z := 1) (hb Y at_369) <| gT X0 hx (pc := 370) 374 (hb Y at_370) <| iS X0 hx (L' := (FL p0 p1 3 0 t0 t1 t2 t3 t4 c1 c2 (iv 1) (iv 0) (iv 3) (iv 3) (iv t3) (iv 1))) (hb Y at_374) rfl <| iL X0 hx (hb Y at_376) rfl <| iL X0 hx (hb Y at_378) rfl <| cN X0 hx (hb Y at_380) <| iK X0 hx (z := 1) (hb Y at_383) <| gT X0 hx (pc := 384) 388 (hb Y at_384) ?_
  exact f_ret X0 hx hlk (i := .ireturn) hret rfl (Or.inl ⟨rfl, Or.inr (Or.inl rfl), _, rfl⟩) (hb Y at_388) (QQ := (QL n0)) ⟨rfl, N0⟩ hK hN
theorem D1_31  (c1 : Nat) (c2 : Nat) (c3 : Nat) (c4 : Nat) (c5 : Nat) (kc1 : ClassId) (kc2 : ClassId) (kc3 : ClassId) (kc4 : ClassId) (r0 : Value) (r1 : Value) (r2 : Value) (t0 : Int32) (t1 : Int32) (t2 : Int32) (t3 : Int32) (t4 : Int32) (p0 : Int32) (p1 : Int64) (X0 : Stand p l e room_1 s m args below meth c T0 locs 8 25) (G : SG p s m meth c Z a0) (e0 : T0.heap = h0) (N0 : Fr n0 locs) (P : St50 Z h0 n0 c1 c2 c3 c4 c5 kc1 kc2 kc3 kc4 r0 r1 r2 t0 t1 t2 t3 t4) (hk0 : ∀ (T' : State) (locs' : List Loc), Stand p l e room_1 s m args below meth c T' locs' 8 25 → Fr n0 locs' → EndsSo p e below (LQ s n0) T' (mkF m 209 (FL p0 p1 3 1 t0 t1 t2 t3 t4 c1 c2 (iv 1) .unset .unset .unset .unset .unset) [])) :
    EndsSo p e below (LQ s n0) T0 (mkF m 150 (FL p0 p1 3 1 t0 t1 t2 t3 t4 c1 c2 .unset .unset .unset .unset .unset .unset) []) := by
  obtain ⟨hx, hZ, hw, Y, hml, hO, hlk, hret⟩ := id G
  obtain ⟨E_c1, V_c1, O_c1, E_c2, F_c2_t, F_c2_r, F_c2_c, F_c2_s, F_c2_o, V_c3, E_c4, V_c4, O_c4, E_c5, V_c5, O_c5, g_c1, lt_c1_c2, lt_c2_c3, lt_c3_c4, lt_c4_c5, ht0, ht1, ht2, ht3, ht4, rf_r0, rw_r0, rb_r0, rf_r1, rw_r1, rb_r1, rf_r2, rw_r2, rb_r2⟩ := id P
  refine iL X0 hx (hb Y at_150) rfl <| iK X0 hx (z := 1) (hb Y at_152) <| cN X0 hx (hb Y at_153) <| aA X0 hx (hb Y at_156) rfl rfl <| f_ldc2 X0 hx hZ hO (w56 hw) (hb Y at_158) <| iL X0 hx (hb Y at_161) rfl <| own_mrg X0 hx (row := c1) ht3 (pc := 163) (hb Y at_163) (hb Y at_170) (hb Y at_166) (hb Y at_167) rfl fun r3 rf_r3 rw_r3 rb_r3 => ?_
  refine f_null X0 hx (hb Y at_172) ?_
  have P1939 : St28 Z h0 n0 c1 c2 c3 c4 c5 kc1 kc2 kc3 kc4 (10 : Int64) (20 : Int64) (30 : Int64) (0 : Int64) r0 r1 r2 .null r3 := ⟨E_c1, V_c1, O_c1, E_c2, F_c2_t, F_c2_r, F_c2_c, F_c2_s, F_c2_o, V_c3, E_c4, V_c4, O_c4, E_c5, V_c5, O_c5, g_c1, lt_c1_c2, lt_c2_c3, lt_c3_c4, lt_c4_c5, rf_r0, rw_r0, rf_r1, rw_r1, rf_r2, rw_r2, rfl, (Or.inl rfl), rf_r3, rw_r3⟩
  refine vV X0 hx hZ hO (by rw [hml]; rfl) (w39 hw) (w40 hw) (w42 hw) (w41 hw) (w8 hw) (w43 hw) e0 E_c2 (argsL := [(.long 40), r3, .null]) (rest := []) (m1006 l Z a0 hw [] h0 n0 c1 c2 c3 c4 c5 kc1 kc2 kc3 kc4 (10 : Int64) (20 : Int64) (30 : Int64) (0 : Int64) r0 r1 r2 .null r3 (40 : Int64) P1939) (lenOf pd5 rfl) (hb Y at_173) fun T1924 L1924 v1924 X1924 hQ1924 => ?_
  obtain ⟨rfl, N1924q, P1924⟩ := hQ1924
  obtain ⟨E_c1, V_c1, O_c1, E_c2, F_c2_t, F_c2_r, F_c2_c, F_c2_s, F_c2_o, V_c3, E_c4, V_c4, O_c4, E_c5, V_c5, O_c5, g_c1, lt_c1_c2, lt_c2_c3, lt_c3_c4, lt_c4_c5, _, _, _, _, _, _, _, _, _, _⟩ := id P1924
  have N1924 := Fr.app N0 N1924q
  refine iL X1924 hx (hb Y at_176) rfl <| iK X1924 hx (z := 2) (hb Y at_178) <| cY X1924 hx (pc := 179) 202 (hb Y at_179) <| aA X1924 hx (hb Y at_202) rfl rfl <| vV X1924 hx hZ hO (by rw [hml]; rfl) (w33 hw) (w34 hw) (w36 hw) (w35 hw) (w8 hw) (w37 hw) rfl E_c2 (argsL := []) (rest := []) (q1010 l Z a0 hw [] T1924.heap n0 c2 F_c2_s) (lenOf pd3 rfl) (hb Y at_204) fun T1940 L1940 v1940 X1940 hQ1940 => ?_
  obtain ⟨rfl, N1940q, e1940⟩ := hQ1940
  have N1940 := Fr.app N1924 N1940q
  refine iS X1940 hx (L' := (FL p0 p1 3 1 t0 t1 t2 t3 t4 c1 c2 (iv 1) .unset .unset .unset .unset .unset)) (hb Y at_207) rfl ?_
  exact hk0 _ _ X1940 N1940
theorem F2_27  {cells slots : Nat} (p0 : Int32) (p1 : Int64) (t0 : Int32) (t1 : Int32) (t2 : Int32) (t3 : Int32) (t4 : Int32) (c1 : Nat) (c2 : Nat) (X0 : Stand p l e room_1 s m args below meth c T0 locs cells slots) (G : SG p s m meth c Z a0) (N0 : Fr n0 locs) (hK : cells ≤ room_1.cells) (hN : slots ≤ room_1.slots) :
    EndsSo p e below (LQ s n0) T0 (mkF m 303 (FL p0 p1 3 1 t0 t1 t2 t3 t4 c1 c2 (iv 1) (iv 0) (iv t0) (.val (.long 10)) .second .unset) []) := by
  obtain ⟨hx, hZ, hw, Y, hml, hO, hlk, hret⟩ := id G
  refine iN X0 hx (hb Y at_303) rfl <| iL X0 hx (hb Y at_304) rfl <| iB X0 hx (z := 3) (hb Y at_306) <| iS X0 hx (L' := (FL p0 p1 3 1 t0 t1 t2 t3 t4 c1 c2 (iv 1) (iv 0) (iv 3) (.val (.long 10)) .second .unset)) (hb Y at_307) rfl <| iL X0 hx (hb Y at_309) rfl <| iL X0 hx (hb Y at_311) rfl <| iA X0 hx (z := 4) (hb Y at_313) <| iS X0 hx (L' := (FL p0 p1 3 1 t0 t1 t2 t3 t4 c1 c2 (iv 1) (iv 0) (iv 3) (iv 4) .unset .unset)) (hb Y at_314) rfl <| iL X0 hx (hb Y at_316) rfl <| iK X0 hx (z := 1) (hb Y at_318) <| cY X0 hx (pc := 319) 348 (hb Y at_319) <| iL X0 hx (hb Y at_348) rfl <| iS X0 hx (L' := (FL p0 p1 3 1 t0 t1 t2 t3 t4 c1 c2 (iv 1) (iv 0) (iv 3) (iv 4) (iv t3) .unset)) (hb Y at_350) rfl <| iL X0 hx (hb Y at_352) rfl <| iK X0 hx (z := 1) (hb Y at_354) <| cY X0 hx (pc := 355) 369 (hb Y at_355) <| iK X0 hx (z := 1) (hb Y at_369) <| gT X0 hx (pc := 370) 374 (hb Y at_370) <| iS X0 hx (L' := (FL p0 p1 3 1 t0 t1 t2 t3 t4 c1 c2 (iv 1) (iv 0) (iv 3) (iv 4) (iv t3) (iv 1))) (hb Y at_374) rfl <| iL X0 hx (hb Y at_376) rfl <| iL X0 hx (hb Y at_378) rfl <| cN X0 hx (hb Y at_380) <| iK X0 hx (z := 1) (hb Y at_383) <| gT X0 hx (pc := 384) 388 (hb Y at_384) ?_
  exact f_ret X0 hx hlk (i := .ireturn) hret rfl (Or.inl ⟨rfl, Or.inr (Or.inl rfl), _, rfl⟩) (hb Y at_388) (QQ := (QL n0)) ⟨rfl, N0⟩ hK hN
def St51 (Z : State) (h : Heap) (n0 : Nat) (c1 : Nat) (c2 : Nat) (c3 : Nat) (c4 : Nat) (c5 : Nat) (kc1 : ClassId) (kc2 : ClassId) (kc3 : ClassId) (kc4 : ClassId) (uu1 : Int64) (uu2 : Int64) (uu3 : Int64) (uu4 : Int64) (ww5 : Value) (ww6 : Value) (ww7 : Value) (ww8 : Value) : Prop :=
  xO Z h c1 ∧
  Arv Z h c1 kc1 (.object "java/lang/Object") 1 [.null] .null ∧
  Ovr Z kc1 "java/lang/Object" ∧
  Exa Z h c2 cV ∧
  fT Z h c2 (.ref c3) ∧
  fR Z h c2 (.ref c4) ∧
  fC Z h c2 (.ref c5) ∧
  fS Z h c2 (.int 4) ∧
  fO Z h c2 (.int 0) ∧
  aL Z h c3 kc2 4 [(.long uu1), (.long uu2), (.long uu3), (.long uu4)] ∧
  xR Z h c4 ∧
  aR Z h c4 kc3 4 [ww5, ww6, ww7, ww8] ∧
  oR Z kc3 ∧
  xC Z h c5 ∧
  aC Z h c5 kc4 4 [.null, .null, .null, .null] ∧
  oC Z kc4 ∧
  n0 ≤ c1 ∧
  c1 < c2 ∧
  c2 < c3 ∧
  c3 < c4 ∧
  c4 < c5 ∧
  ww5.isRef = true ∧
  (ww5 = .null ∨ ww5 = .ref c1) ∧
  ww6.isRef = true ∧
  (ww6 = .null ∨ ww6 = .ref c1) ∧
  ww7.isRef = true ∧
  (ww7 = .null ∨ ww7 = .ref c1) ∧
  ww8.isRef = true ∧
  (ww8 = .null ∨ ww8 = .ref c1)
def St52 (Z : State) (h : Heap) (n0 : Nat) (c1 : Nat) (c2 : Nat) (c3 : Nat) (c4 : Nat) (c5 : Nat) (b2133 : Nat) (b2134 : Nat) (b2135 : Nat) (kc1 : ClassId) (kc2 : ClassId) (kc3 : ClassId) (kc4 : ClassId) (kb2133 : ClassId) (kb2134 : ClassId) (kb2135 : ClassId) (uu1 : Int64) (uu2 : Int64) (uu3 : Int64) (uu4 : Int64) (ww5 : Value) (ww6 : Value) (ww7 : Value) (ww8 : Value) : Prop :=
  xO Z h c1 ∧
  Arv Z h c1 kc1 (.object "java/lang/Object") 1 [.null] .null ∧
  Ovr Z kc1 "java/lang/Object" ∧
  Exa Z h c2 cV ∧
  fT Z h c2 (.ref b2133) ∧
  fR Z h c2 (.ref b2134) ∧
  fC Z h c2 (.ref b2135) ∧
  fS Z h c2 (.int 4) ∧
  fO Z h c2 (.int 0) ∧
  aL Z h c3 kc2 4 [(.long uu1), (.long uu2), (.long uu3), (.long uu4)] ∧
  xR Z h c4 ∧
  aR Z h c4 kc3 4 [ww5, ww6, ww7, ww8] ∧
  oR Z kc3 ∧
  xC Z h c5 ∧
  aC Z h c5 kc4 4 [.null, .null, .null, .null] ∧
  oC Z kc4 ∧
  aL Z h b2133 kb2133 8 [(.long uu1), (.long uu2), (.long uu3), (.long uu4), (.long 0), (.long 0), (.long 0), (.long 0)] ∧
  xR Z h b2134 ∧
  aR Z h b2134 kb2134 8 [ww5, ww6, ww7, ww8, .null, .null, .null, .null] ∧
  oR Z kb2134 ∧
  xC Z h b2135 ∧
  aC Z h b2135 kb2135 8 [.null, .null, .null, .null, .null, .null, .null, .null] ∧
  oC Z kb2135 ∧
  n0 ≤ c1 ∧
  c1 < c2 ∧
  c2 < c3 ∧
  c3 < c4 ∧
  c4 < c5 ∧
  c5 < b2133 ∧
  b2133 < b2134 ∧
  b2134 < b2135 ∧
  ww5.isRef = true ∧
  (ww5 = .null ∨ ww5 = .ref c1) ∧
  ww6.isRef = true ∧
  (ww6 = .null ∨ ww6 = .ref c1) ∧
  ww7.isRef = true ∧
  (ww7 = .null ∨ ww7 = .ref c1) ∧
  ww8.isRef = true ∧
  (ww8 = .null ∨ ww8 = .ref c1)
def Qm2181 (Z : State) (n0 : Nat) (c1 : Nat) (c2 : Nat) (c3 : Nat) (c4 : Nat) (c5 : Nat) (kc1 : ClassId) (kc2 : ClassId) (kc3 : ClassId) (kc4 : ClassId) (uu1 : Int64) (uu2 : Int64) (uu3 : Int64) (uu4 : Int64) (ww5 : Value) (ww6 : Value) (ww7 : Value) (ww8 : Value) (v : Option Value) (h : Heap) (L : List Loc) : Prop := v = none ∧ Fr n0 L ∧ ∃ (kb2133 : ClassId) (b2133 : Nat) (kb2134 : ClassId) (b2134 : Nat) (kb2135 : ClassId) (b2135 : Nat), St52 Z h n0 c1 c2 c3 c4 c5 b2133 b2134 b2135 kc1 kc2 kc3 kc4 kb2133 kb2134 kb2135 uu1 uu2 uu3 uu4 ww5 ww6 ww7 ww8
theorem m2181 (l : Launch) (Z : State) (a0 : Array Value) (hw : HW a0 Z) (ws : List Jvm.Cond) (h0 : Heap) (n0 : Nat) (c1 : Nat) (c2 : Nat) (c3 : Nat) (c4 : Nat) (c5 : Nat) (kc1 : ClassId) (kc2 : ClassId) (kc3 : ClassId) (kc4 : ClassId) (uu1 : Int64) (uu2 : Int64) (uu3 : Int64) (uu4 : Int64) (ww5 : Value) (ww6 : Value) (ww7 : Value) (ww8 : Value) (P : St51 Z h0 n0 c1 c2 c3 c4 c5 kc1 kc2 kc3 kc4 uu1 uu2 uu3 uu4 ww5 ww6 ww7 ww8) :
    MC l Z y8 prog_95_method_10_code 7 none ws rm_1_3_24_13 #[(.ref c2), (.int 8)] h0 (Qm2181 Z n0 c1 c2 c3 c4 c5 kc1 kc2 kc3 kc4 uu1 uu2 uu3 uu4 ww5 ww6 ww7 ww8) := by
  obtain ⟨E_c1, V_c1, O_c1, E_c2, F_c2_t, F_c2_r, F_c2_c, F_c2_s, F_c2_o, V_c3, E_c4, V_c4, O_c4, E_c5, V_c5, O_c5, g_c1, lt_c1_c2, lt_c2_c3, lt_c3_c4, lt_c4_c5, rf_ww5, rw_ww5, rf_ww6, rw_ww6, rf_ww7, rw_ww7, rf_ww8, rw_ww8⟩ := id P
  refine own_met (plainFor_of_name pn8) fun p e s m below meth c s₁ X0 hx hZ Y hml hO hnm hlk hret e0 => f_cast (f' := mkF m 0 #[(rv c2), (iv 8), .unset, .unset, .unset, .unset, .unset] []) (by first | (simp [entryFrame, mkF, argsToLocals, Value.category]; done) | rfl) ?_
  have N0 := Fr.nil n0
  refine iN X0 hx (hb Y d8_0) rfl <| f_newP X0 hx hZ (aty := .long) (w15 hw) e0 (hb Y d8_1) 8 fun T2133 h2133 kb2133 b2133 g2133 X2133 e2133 E2133 V_b2133 => ?_
  have lt_c5_b2133 : c5 < b2133 := by have := own_ltE E_c5; omega
  refine f_astoreN X2133 hx (L' := #[(rv c2), (iv 8), (rv b2133), .unset, .unset, .unset, .unset]) (hb Y d8_3) rfl rfl <| iN X2133 hx (hb Y d8_4) rfl <| f_newRA X2133 hx hZ hO (ty := (.object "java/lang/Object")) (by decide +kernel) (w18 hw) (w19 hw) e2133 (hb Y d8_5) 8 (ad := "[[Ljava/lang/Object;") (by decide +kernel) fun T2134 h2134 kb2134 b2134 g2134 X2134 e2134 E2134 V_b2134 E_b2134 O_b2134 => ?_
  have lt_b2133_b2134 : b2133 < b2134 := by have := own_ltV V_b2133; omega
  refine f_astoreN X2134 hx (L' := #[(rv c2), (iv 8), (rv b2133), (rv b2134), .unset, .unset, .unset]) (hb Y d8_8) rfl rfl <| iN X2134 hx (hb Y d8_9) rfl <| f_newRA X2134 hx hZ hO (ty := .int) (by decide +kernel) (w22 hw) (w23 hw) e2134 (hb Y d8_10) 8 (ad := "[[I") (by decide +kernel) fun T2135 h2135 kb2135 b2135 g2135 X2135 e2135 E2135 V_b2135 E_b2135 O_b2135 => ?_
  have lt_b2134_b2135 : b2134 < b2135 := by have := own_ltE E_b2134; omega
  refine f_astore X2135 hx (L' := #[(rv c2), (iv 8), (rv b2133), (rv b2134), (rv b2135), .unset, .unset]) (hb Y d8_13) rfl rfl <| iK X2135 hx (z := 0) (hb Y d8_15) <| iS X2135 hx (L' := #[(rv c2), (iv 8), (rv b2133), (rv b2134), (rv b2135), (iv 0), .unset]) (hb Y d8_16) rfl <| iL X2135 hx (hb Y d8_18) rfl <| aN X2135 hx (hb Y d8_20) rfl rfl ?_
  replace F_c2_s := (fe E2135 (fe E2134 (fe E2133 F_c2_s)))
  refine gF X2135 hx hZ hO (w31 hw) Via.refl e2135 F_c2_s (hb Y d8_21) fun T2136 X2136 e2136 => ?_
  refine cN X2136 hx (hb Y d8_24) <| aN X2136 hx (hb Y d8_27) rfl rfl <| iL X2136 hx (hb Y d8_28) rfl ?_
  replace F_c2_o := (fe E2135 (fe E2134 (fe E2133 F_c2_o)))
  replace F_c2_t := (fe E2135 (fe E2134 (fe E2133 F_c2_t)))
  replace V_c3 := (ve (ve (ve V_c3 E2133) E2134) E2135)
  replace E_c2 := (xe E2135 (xe E2134 (xe E2133 E_c2)))
  refine pV X2136 hx hZ hO (by rw [hml]; rfl) (w44 hw) (w45 hw) (w46 hw) (w7 hw) (w8 hw) (w47 hw) e2136 E_c2 (argsL := [(.int 0)]) (rest := []) (q1895 l Z a0 hw [] h2135 n0 c2 c3 kc2 _ F_c2_o F_c2_t V_c3) (lenOf pd4 rfl) (hb Y d8_30) fun T2137 L2137 v2137 X2137 hQ2137 => ?_
  obtain ⟨rfl, N2137q, e2137⟩ := hQ2137
  have N2137 := Fr.app N0 N2137q
  refine iS X2137 hx (L' := #[(rv c2), (iv 8), (rv b2133), (rv b2134), (rv b2135), (iv 0), (iv 0)]) (hb Y d8_33) rfl <| aN X2137 hx (hb Y d8_35) rfl rfl <| iL X2137 hx (hb Y d8_36) rfl <| aN X2137 hx (hb Y d8_38) rfl rfl <| gF X2137 hx hZ hO (w16 hw) Via.refl e2137 F_c2_t (hb Y d8_39) fun T2140 X2140 e2140 => ?_
  refine iL X2140 hx (hb Y d8_42) rfl <| f_lald X2140 hx hZ e2140 V_c3 (v := (.long uu1)) rfl (hb Y d8_44) ?_
  replace V_b2133 := (ve (ve V_b2133 E2134) E2135)
  refine f_lst X2140 hx hZ e2140 V_b2133 0 (hb Y d8_45) fun T2141 h2141 X2141 e2141 W2141 V2141 => ?_
  have N2141x := Fr.snoc X2141 N2137 (by omega : n0 ≤ b2133)
  refine aN X2141 hx (hb Y d8_46) rfl rfl <| iL X2141 hx (hb Y d8_47) rfl <| aN X2141 hx (hb Y d8_49) rfl rfl ?_
  replace F_c2_r := (fo W2141 (fe E2135 (fe E2134 (fe E2133 F_c2_r))))
  refine gF X2141 hx hZ hO (w20 hw) Via.refl e2141 F_c2_r (hb Y d8_50) fun T2142 X2142 e2142 => ?_
  refine iL X2142 hx (hb Y d8_53) rfl ?_
  replace V_c4 := (vo (ve (ve (ve V_c4 E2133) E2134) E2135) W2141)
  refine f_aald X2142 hx hZ e2142 V_c4 rfl (v := ww5) rfl (hb Y d8_55) ?_
  replace V_b2134 := (vo (ve V_b2134 E2135) W2141)
  replace E_c1 := (xw W2141 (xe E2135 (xe E2134 (xe E2133 E_c1))))
  refine f_ast X2142 hx hZ e2142 V_b2134 rfl (own_sto rw_ww5 (own_stoVA V_b2134 O_b2134 (Ins.self E_c1))) (own_fits rf_ww5) 0 (hb Y d8_56) fun T2143 h2143 X2143 e2143 W2143 V2143 => ?_
  have N2143x := Fr.snoc X2143 N2141x (by omega : n0 ≤ b2134)
  refine aA X2143 hx (hb Y d8_57) rfl rfl <| iL X2143 hx (hb Y d8_59) rfl <| aN X2143 hx (hb Y d8_61) rfl rfl ?_
  replace F_c2_c := (fo W2143 (fo W2141 (fe E2135 (fe E2134 (fe E2133 F_c2_c)))))
  refine gF X2143 hx hZ hO (w24 hw) Via.refl e2143 F_c2_c (hb Y d8_62) fun T2144 X2144 e2144 => ?_
  refine iL X2144 hx (hb Y d8_65) rfl ?_
  replace V_c5 := (vo (vo (ve (ve (ve V_c5 E2133) E2134) E2135) W2141) W2143)
  refine f_aald X2144 hx hZ e2144 V_c5 rfl (v := .null) rfl (hb Y d8_67) ?_
  replace V_b2135 := (vo (vo V_b2135 W2141) W2143)
  refine f_ast X2144 hx hZ e2144 V_b2135 rfl (Or.inl rfl) rfl 0 (hb Y d8_68) fun T2145 h2145 X2145 e2145 W2145 V2145 => ?_
  have N2145x := Fr.snoc X2145 N2143x (by omega : n0 ≤ b2135)
  refine f_iinc X2145 hx (L' := #[(rv c2), (iv 8), (rv b2133), (rv b2134), (rv b2135), (iv 1), (iv 0)]) (hb Y d8_69) rfl rfl <| gT X2145 hx (pc := 72) 18 (hb Y d8_72) <| iL X2145 hx (hb Y d8_18) rfl <| aN X2145 hx (hb Y d8_20) rfl rfl ?_
  replace F_c2_s := (fo W2145 (fo W2143 (fo W2141 F_c2_s)))
  refine gF X2145 hx hZ hO (w31 hw) Via.refl e2145 F_c2_s (hb Y d8_21) fun T2146 X2146 e2146 => ?_
  refine cN X2146 hx (hb Y d8_24) <| aN X2146 hx (hb Y d8_27) rfl rfl <| iL X2146 hx (hb Y d8_28) rfl ?_
  replace F_c2_o := (fo W2145 (fo W2143 (fo W2141 F_c2_o)))
  replace F_c2_t := (fo W2145 (fo W2143 (fo W2141 F_c2_t)))
  replace V_c3 := (vo (vo (vo V_c3 W2141) W2143) W2145)
  replace E_c2 := (xw W2145 (xw W2143 (xw W2141 E_c2)))
  refine pV X2146 hx hZ hO (by rw [hml]; rfl) (w44 hw) (w45 hw) (w46 hw) (w7 hw) (w8 hw) (w47 hw) e2146 E_c2 (argsL := [(.int 1)]) (rest := []) (q1891 l Z a0 hw [] h2145 n0 c2 c3 kc2 _ F_c2_o F_c2_t V_c3) (lenOf pd4 rfl) (hb Y d8_30) fun T2147 L2147 v2147 X2147 hQ2147 => ?_
  obtain ⟨rfl, N2147q, e2147⟩ := hQ2147
  have N2147 := Fr.app N2145x N2147q
  refine iS X2147 hx (L' := #[(rv c2), (iv 8), (rv b2133), (rv b2134), (rv b2135), (iv 1), (iv 1)]) (hb Y d8_33) rfl <| aN X2147 hx (hb Y d8_35) rfl rfl <| iL X2147 hx (hb Y d8_36) rfl <| aN X2147 hx (hb Y d8_38) rfl rfl <| gF X2147 hx hZ hO (w16 hw) Via.refl e2147 F_c2_t (hb Y d8_39) fun T2150 X2150 e2150 => ?_
  refine iL X2150 hx (hb Y d8_42) rfl <| f_lald X2150 hx hZ e2150 V_c3 (v := (.long uu2)) rfl (hb Y d8_44) ?_
  replace V_b2133 := (vo (vo V2141 W2143) W2145)
  refine f_lst X2150 hx hZ e2150 V_b2133 1 (hb Y d8_45) fun T2151 h2151 X2151 e2151 W2151 V2151 => ?_
  have N2151x := Fr.snoc X2151 N2147 (by omega : n0 ≤ b2133)
  refine aN X2151 hx (hb Y d8_46) rfl rfl <| iL X2151 hx (hb Y d8_47) rfl <| aN X2151 hx (hb Y d8_49) rfl rfl ?_
  replace F_c2_r := (fo W2151 (fo W2145 (fo W2143 F_c2_r)))
  refine gF X2151 hx hZ hO (w20 hw) Via.refl e2151 F_c2_r (hb Y d8_50) fun T2152 X2152 e2152 => ?_
  refine iL X2152 hx (hb Y d8_53) rfl ?_
  replace V_c4 := (vo (vo (vo V_c4 W2143) W2145) W2151)
  refine f_aald X2152 hx hZ e2152 V_c4 rfl (v := ww6) rfl (hb Y d8_55) ?_
  replace V_b2134 := (vo (vo V2143 W2145) W2151)
  replace E_c1 := (xw W2151 (xw W2145 (xw W2143 E_c1)))
  refine f_ast X2152 hx hZ e2152 V_b2134 rfl (own_sto rw_ww6 (own_stoVA V_b2134 O_b2134 (Ins.self E_c1))) (own_fits rf_ww6) 1 (hb Y d8_56) fun T2153 h2153 X2153 e2153 W2153 V2153 => ?_
  have N2153x := Fr.snoc X2153 N2151x (by omega : n0 ≤ b2134)
  refine aA X2153 hx (hb Y d8_57) rfl rfl <| iL X2153 hx (hb Y d8_59) rfl <| aN X2153 hx (hb Y d8_61) rfl rfl ?_
  replace F_c2_c := (fo W2153 (fo W2151 (fo W2145 F_c2_c)))
  refine gF X2153 hx hZ hO (w24 hw) Via.refl e2153 F_c2_c (hb Y d8_62) fun T2154 X2154 e2154 => ?_
  refine iL X2154 hx (hb Y d8_65) rfl ?_
  replace V_c5 := (vo (vo (vo V_c5 W2145) W2151) W2153)
  refine f_aald X2154 hx hZ e2154 V_c5 rfl (v := .null) rfl (hb Y d8_67) ?_
  replace V_b2135 := (vo (vo V2145 W2151) W2153)
  refine f_ast X2154 hx hZ e2154 V_b2135 rfl (Or.inl rfl) rfl 1 (hb Y d8_68) fun T2155 h2155 X2155 e2155 W2155 V2155 => ?_
  have N2155x := Fr.snoc X2155 N2153x (by omega : n0 ≤ b2135)
  refine f_iinc X2155 hx (L' := #[(rv c2), (iv 8), (rv b2133), (rv b2134), (rv b2135), (iv 2), (iv 1)]) (hb Y d8_69) rfl rfl <| gT X2155 hx (pc := 72) 18 (hb Y d8_72) <| iL X2155 hx (hb Y d8_18) rfl <| aN X2155 hx (hb Y d8_20) rfl rfl ?_
  replace F_c2_s := (fo W2155 (fo W2153 (fo W2151 F_c2_s)))
  refine gF X2155 hx hZ hO (w31 hw) Via.refl e2155 F_c2_s (hb Y d8_21) fun T2156 X2156 e2156 => ?_
  refine cN X2156 hx (hb Y d8_24) <| aN X2156 hx (hb Y d8_27) rfl rfl <| iL X2156 hx (hb Y d8_28) rfl ?_
  replace F_c2_o := (fo W2155 (fo W2153 (fo W2151 F_c2_o)))
  replace F_c2_t := (fo W2155 (fo W2153 (fo W2151 F_c2_t)))
  replace V_c3 := (vo (vo (vo V_c3 W2151) W2153) W2155)
  replace E_c2 := (xw W2155 (xw W2153 (xw W2151 E_c2)))
  refine pV X2156 hx hZ hO (by rw [hml]; rfl) (w44 hw) (w45 hw) (w46 hw) (w7 hw) (w8 hw) (w47 hw) e2156 E_c2 (argsL := [(.int 2)]) (rest := []) (q443 l Z a0 hw [] h2155 n0 c2 c3 kc2 _ F_c2_o F_c2_t V_c3) (lenOf pd4 rfl) (hb Y d8_30) fun T2157 L2157 v2157 X2157 hQ2157 => ?_
  obtain ⟨rfl, N2157q, e2157⟩ := hQ2157
  have N2157 := Fr.app N2155x N2157q
  refine iS X2157 hx (L' := #[(rv c2), (iv 8), (rv b2133), (rv b2134), (rv b2135), (iv 2), (iv 2)]) (hb Y d8_33) rfl <| aN X2157 hx (hb Y d8_35) rfl rfl <| iL X2157 hx (hb Y d8_36) rfl <| aN X2157 hx (hb Y d8_38) rfl rfl <| gF X2157 hx hZ hO (w16 hw) Via.refl e2157 F_c2_t (hb Y d8_39) fun T2160 X2160 e2160 => ?_
  refine iL X2160 hx (hb Y d8_42) rfl <| f_lald X2160 hx hZ e2160 V_c3 (v := (.long uu3)) rfl (hb Y d8_44) ?_
  replace V_b2133 := (vo (vo V2151 W2153) W2155)
  refine f_lst X2160 hx hZ e2160 V_b2133 2 (hb Y d8_45) fun T2161 h2161 X2161 e2161 W2161 V2161 => ?_
  have N2161x := Fr.snoc X2161 N2157 (by omega : n0 ≤ b2133)
  refine aN X2161 hx (hb Y d8_46) rfl rfl <| iL X2161 hx (hb Y d8_47) rfl <| aN X2161 hx (hb Y d8_49) rfl rfl ?_
  replace F_c2_r := (fo W2161 (fo W2155 (fo W2153 F_c2_r)))
  refine gF X2161 hx hZ hO (w20 hw) Via.refl e2161 F_c2_r (hb Y d8_50) fun T2162 X2162 e2162 => ?_
  refine iL X2162 hx (hb Y d8_53) rfl ?_
  replace V_c4 := (vo (vo (vo V_c4 W2153) W2155) W2161)
  refine f_aald X2162 hx hZ e2162 V_c4 rfl (v := ww7) rfl (hb Y d8_55) ?_
  replace V_b2134 := (vo (vo V2153 W2155) W2161)
  replace E_c1 := (xw W2161 (xw W2155 (xw W2153 E_c1)))
  refine f_ast X2162 hx hZ e2162 V_b2134 rfl (own_sto rw_ww7 (own_stoVA V_b2134 O_b2134 (Ins.self E_c1))) (own_fits rf_ww7) 2 (hb Y d8_56) fun T2163 h2163 X2163 e2163 W2163 V2163 => ?_
  have N2163x := Fr.snoc X2163 N2161x (by omega : n0 ≤ b2134)
  refine aA X2163 hx (hb Y d8_57) rfl rfl <| iL X2163 hx (hb Y d8_59) rfl <| aN X2163 hx (hb Y d8_61) rfl rfl ?_
  replace F_c2_c := (fo W2163 (fo W2161 (fo W2155 F_c2_c)))
  refine gF X2163 hx hZ hO (w24 hw) Via.refl e2163 F_c2_c (hb Y d8_62) fun T2164 X2164 e2164 => ?_
  refine iL X2164 hx (hb Y d8_65) rfl ?_
  replace V_c5 := (vo (vo (vo V_c5 W2155) W2161) W2163)
  refine f_aald X2164 hx hZ e2164 V_c5 rfl (v := .null) rfl (hb Y d8_67) ?_
  replace V_b2135 := (vo (vo V2155 W2161) W2163)
  refine f_ast X2164 hx hZ e2164 V_b2135 rfl (Or.inl rfl) rfl 2 (hb Y d8_68) fun T2165 h2165 X2165 e2165 W2165 V2165 => ?_
  have N2165x := Fr.snoc X2165 N2163x (by omega : n0 ≤ b2135)
  refine f_iinc X2165 hx (L' := #[(rv c2), (iv 8), (rv b2133), (rv b2134), (rv b2135), (iv 3), (iv 2)]) (hb Y d8_69) rfl rfl <| gT X2165 hx (pc := 72) 18 (hb Y d8_72) <| iL X2165 hx (hb Y d8_18) rfl <| aN X2165 hx (hb Y d8_20) rfl rfl ?_
  replace F_c2_s := (fo W2165 (fo W2163 (fo W2161 F_c2_s)))
  refine gF X2165 hx hZ hO (w31 hw) Via.refl e2165 F_c2_s (hb Y d8_21) fun T2166 X2166 e2166 => ?_
  refine cN X2166 hx (hb Y d8_24) <| aN X2166 hx (hb Y d8_27) rfl rfl <| iL X2166 hx (hb Y d8_28) rfl ?_
  replace F_c2_o := (fo W2165 (fo W2163 (fo W2161 F_c2_o)))
  replace F_c2_t := (fo W2165 (fo W2163 (fo W2161 F_c2_t)))
  replace V_c3 := (vo (vo (vo V_c3 W2161) W2163) W2165)
  replace E_c2 := (xw W2165 (xw W2163 (xw W2161 E_c2)))
  refine pV X2166 hx hZ hO (by rw [hml]; rfl) (w44 hw) (w45 hw) (w46 hw) (w7 hw) (w8 hw) (w47 hw) e2166 E_c2 (argsL := [(.int 3)]) (rest := []) (q997 l Z a0 hw [] h2165 n0 c2 c3 kc2 _ F_c2_o F_c2_t V_c3) (lenOf pd4 rfl) (hb Y d8_30) fun T2167 L2167 v2167 X2167 hQ2167 => ?_
  obtain ⟨rfl, N2167q, e2167⟩ := hQ2167
  have N2167 := Fr.app N2165x N2167q
  refine iS X2167 hx (L' := #[(rv c2), (iv 8), (rv b2133), (rv b2134), (rv b2135), (iv 3), (iv 3)]) (hb Y d8_33) rfl <| aN X2167 hx (hb Y d8_35) rfl rfl <| iL X2167 hx (hb Y d8_36) rfl <| aN X2167 hx (hb Y d8_38) rfl rfl <| gF X2167 hx hZ hO (w16 hw) Via.refl e2167 F_c2_t (hb Y d8_39) fun T2170 X2170 e2170 => ?_
  refine iL X2170 hx (hb Y d8_42) rfl <| f_lald X2170 hx hZ e2170 V_c3 (v := (.long uu4)) rfl (hb Y d8_44) ?_
  replace V_b2133 := (vo (vo V2161 W2163) W2165)
  refine f_lst X2170 hx hZ e2170 V_b2133 3 (hb Y d8_45) fun T2171 h2171 X2171 e2171 W2171 V2171 => ?_
  have N2171x := Fr.snoc X2171 N2167 (by omega : n0 ≤ b2133)
  refine aN X2171 hx (hb Y d8_46) rfl rfl <| iL X2171 hx (hb Y d8_47) rfl <| aN X2171 hx (hb Y d8_49) rfl rfl ?_
  replace F_c2_r := (fo W2171 (fo W2165 (fo W2163 F_c2_r)))
  refine gF X2171 hx hZ hO (w20 hw) Via.refl e2171 F_c2_r (hb Y d8_50) fun T2172 X2172 e2172 => ?_
  refine iL X2172 hx (hb Y d8_53) rfl ?_
  replace V_c4 := (vo (vo (vo V_c4 W2163) W2165) W2171)
  refine f_aald X2172 hx hZ e2172 V_c4 rfl (v := ww8) rfl (hb Y d8_55) ?_
  replace V_b2134 := (vo (vo V2163 W2165) W2171)
  replace E_c1 := (xw W2171 (xw W2165 (xw W2163 E_c1)))
  refine f_ast X2172 hx hZ e2172 V_b2134 rfl (own_sto rw_ww8 (own_stoVA V_b2134 O_b2134 (Ins.self E_c1))) (own_fits rf_ww8) 3 (hb Y d8_56) fun T2173 h2173 X2173 e2173 W2173 V2173 => ?_
  have N2173x := Fr.snoc X2173 N2171x (by omega : n0 ≤ b2134)
  refine aA X2173 hx (hb Y d8_57) rfl rfl <| iL X2173 hx (hb Y d8_59) rfl <| aN X2173 hx (hb Y d8_61) rfl rfl ?_
  replace F_c2_c := (fo W2173 (fo W2171 (fo W2165 F_c2_c)))
  refine gF X2173 hx hZ hO (w24 hw) Via.refl e2173 F_c2_c (hb Y d8_62) fun T2174 X2174 e2174 => ?_
  refine iL X2174 hx (hb Y d8_65) rfl ?_
  replace V_c5 := (vo (vo (vo V_c5 W2165) W2171) W2173)
  refine f_aald X2174 hx hZ e2174 V_c5 rfl (v := .null) rfl (hb Y d8_67) ?_
  replace V_b2135 := (vo (vo V2165 W2171) W2173)
  refine f_ast X2174 hx hZ e2174 V_b2135 rfl (Or.inl rfl) rfl 3 (hb Y d8_68) fun T2175 h2175 X2175 e2175 W2175 V2175 => ?_
  have N2175x := Fr.snoc X2175 N2173x (by omega : n0 ≤ b2135)
  refine f_iinc X2175 hx (L' := #[(rv c2), (iv 8), (rv b2133), (rv b2134), (rv b2135), (iv 4), (iv 3)]) (hb Y d8_69) rfl rfl <| gT X2175 hx (pc := 72) 18 (hb Y d8_72) <| iL X2175 hx (hb Y d8_18) rfl <| aN X2175 hx (hb Y d8_20) rfl rfl ?_
  replace F_c2_s := (fo W2175 (fo W2173 (fo W2171 F_c2_s)))
  refine gF X2175 hx hZ hO (w31 hw) Via.refl e2175 F_c2_s (hb Y d8_21) fun T2176 X2176 e2176 => ?_
  refine cY X2176 hx (pc := 24) 75 (hb Y d8_24) <| aN X2176 hx (hb Y d8_75) rfl rfl <| aN X2176 hx (hb Y d8_76) rfl rfl ?_
  replace F_c2_t := (fo W2175 (fo W2173 (fo W2171 F_c2_t)))
  replace E_c2 := (xw W2175 (xw W2173 (xw W2171 E_c2)))
  refine f_putF X2176 hx hZ hO (w16 hw) Via.refl e2176 F_c2_t E_c2 (Or.inl (w17 hw)) (w7 hw) (ty := (.array .long)) (by decide) rfl rfl (hb Y d8_77) fun T2177 h2177 X2177 e2177 W2177 => ?_
  have N2177x := Fr.snoc X2177 N2175x (by omega : n0 ≤ c2)
  refine aN X2177 hx (hb Y d8_80) rfl rfl <| aN X2177 hx (hb Y d8_81) rfl rfl ?_
  replace F_c2_r := (Fld.other W2177 (fo W2175 (fo W2173 F_c2_r)) (Or.inr (slot_ne (Or.inl (w21 hw)) (Or.inl (w17 hw)) (by decide) (t := (.array (.array (.object "java/lang/Object")))) (t' := (.array .long)) (by decide) (by decide))))
  replace E_c2 := (xw W2177 E_c2)
  refine f_putF X2177 hx hZ hO (w20 hw) Via.refl e2177 F_c2_r E_c2 (Or.inl (w21 hw)) (w7 hw) (ty := (.array (.array (.object "java/lang/Object")))) (by decide) rfl rfl (hb Y d8_82) fun T2178 h2178 X2178 e2178 W2178 => ?_
  have N2178x := Fr.snoc X2178 N2177x (by omega : n0 ≤ c2)
  refine aN X2178 hx (hb Y d8_85) rfl rfl <| aA X2178 hx (hb Y d8_86) rfl rfl ?_
  replace F_c2_c := (Fld.other W2178 (Fld.other W2177 (fo W2175 F_c2_c) (Or.inr (slot_ne (Or.inl (w25 hw)) (Or.inl (w17 hw)) (by decide) (t := (.array (.array .int))) (t' := (.array .long)) (by decide) (by decide)))) (Or.inr (slot_ne (Or.inl (w25 hw)) (Or.inl (w21 hw)) (by decide) (t := (.array (.array .int))) (t' := (.array (.array (.object "java/lang/Object")))) (by decide) (by decide))))
  replace E_c2 := (xw W2178 E_c2)
  refine f_putF X2178 hx hZ hO (w24 hw) Via.refl e2178 F_c2_c E_c2 (Or.inl (w25 hw)) (w7 hw) (ty := (.array (.array .int))) (by decide) rfl rfl (hb Y d8_88) fun T2179 h2179 X2179 e2179 W2179 => ?_
  have N2179x := Fr.snoc X2179 N2178x (by omega : n0 ≤ c2)
  refine aN X2179 hx (hb Y d8_91) rfl rfl <| iK X2179 hx (z := 0) (hb Y d8_92) ?_
  replace F_c2_o := (Fld.other W2179 (Fld.other W2178 (Fld.other W2177 (fo W2175 (fo W2173 (fo W2171 F_c2_o))) (Or.inr (slot_ne (Or.inl (w49 hw)) (Or.inl (w17 hw)) (by decide) (t := .int) (t' := (.array .long)) (by decide) (by decide)))) (Or.inr (slot_ne (Or.inl (w49 hw)) (Or.inl (w21 hw)) (by decide) (t := .int) (t' := (.array (.array (.object "java/lang/Object")))) (by decide) (by decide)))) (Or.inr (slot_ne (Or.inl (w49 hw)) (Or.inl (w25 hw)) (by decide) (t := .int) (t' := (.array (.array .int))) (by decide) (by decide))))
  replace E_c2 := (xw W2179 E_c2)
  refine f_putF X2179 hx hZ hO (w48 hw) Via.refl e2179 F_c2_o E_c2 (Or.inl (w49 hw)) (w7 hw) (ty := .int) (by decide) rfl rfl (hb Y d8_93) fun T2180 h2180 X2180 e2180 W2180 => ?_
  have N2180x := Fr.snoc X2180 N2179x (by omega : n0 ≤ c2)
  exact f_ret0 X2180 hx hlk hret (hb Y d8_96) (QQ := (Qm2181 Z n0 c1 c2 c3 c4 c5 kc1 kc2 kc3 kc4 uu1 uu2 uu3 uu4 ww5 ww6 ww7 ww8)) (by rw [e2180]; exact ⟨rfl, N2180x, kb2133, b2133, kb2134, b2134, kb2135, b2135, (xw W2180 (xw W2179 (xw W2178 (xw W2177 (xw W2175 (xw W2173 E_c1)))))), (vo (vo (vo (vo (vo (vo (vo (vo (vo (vo (vo (vo (vo (vo (vo (vo (ve (ve (ve V_c1 E2133) E2134) E2135) W2141) W2143) W2145) W2151) W2153) W2155) W2161) W2163) W2165) W2171) W2173) W2175) W2177) W2178) W2179) W2180), O_c1, (xw W2180 E_c2), (Fld.other W2180 (Fld.other W2179 (Fld.other W2178 (Fld.same W2177 F_c2_t) (Or.inr (slot_ne (Or.inl (w17 hw)) (Or.inl (w21 hw)) (by decide) (t := (.array .long)) (t' := (.array (.array (.object "java/lang/Object")))) (by decide) (by decide)))) (Or.inr (slot_ne (Or.inl (w17 hw)) (Or.inl (w25 hw)) (by decide) (t := (.array .long)) (t' := (.array (.array .int))) (by decide) (by decide)))) (Or.inr (slot_ne (Or.inl (w17 hw)) (Or.inl (w49 hw)) (by decide) (t := (.array .long)) (t' := .int) (by decide) (by decide)))), (Fld.other W2180 (Fld.other W2179 (Fld.same W2178 F_c2_r) (Or.inr (slot_ne (Or.inl (w21 hw)) (Or.inl (w25 hw)) (by decide) (t := (.array (.array (.object "java/lang/Object")))) (t' := (.array (.array .int))) (by decide) (by decide)))) (Or.inr (slot_ne (Or.inl (w21 hw)) (Or.inl (w49 hw)) (by decide) (t := (.array (.array (.object "java/lang/Object")))) (t' := .int) (by decide) (by decide)))), (Fld.other W2180 (Fld.same W2179 F_c2_c) (Or.inr (slot_ne (Or.inl (w25 hw)) (Or.inl (w49 hw)) (by decide) (t := (.array (.array .int))) (t' := .int) (by decide) (by decide)))), (Fld.other W2180 (Fld.other W2179 (Fld.other W2178 (Fld.other W2177 F_c2_s (Or.inr (slot_ne (Or.inl (w32 hw)) (Or.inl (w17 hw)) (by decide) (t := .int) (t' := (.array .long)) (by decide) (by decide)))) (Or.inr (slot_ne (Or.inl (w32 hw)) (Or.inl (w21 hw)) (by decide) (t := .int) (t' := (.array (.array (.object "java/lang/Object")))) (by decide) (by decide)))) (Or.inr (slot_ne (Or.inl (w32 hw)) (Or.inl (w25 hw)) (by decide) (t := .int) (t' := (.array (.array .int))) (by decide) (by decide)))) (Or.inr (slot_ne (Or.inl (w32 hw)) (Or.inl (w49 hw)) (by decide) (t := .int) (t' := .int) (by decide) (by decide)))), (Fld.same W2180 F_c2_o), (vo (vo (vo (vo (vo (vo (vo V_c3 W2171) W2173) W2175) W2177) W2178) W2179) W2180), (xw W2180 (xw W2179 (xw W2178 (xw W2177 (xw W2175 (xw W2173 (xw W2171 (xw W2165 (xw W2163 (xw W2161 (xw W2155 (xw W2153 (xw W2151 (xw W2145 (xw W2143 (xw W2141 (xe E2135 (xe E2134 (xe E2133 E_c4))))))))))))))))))), (vo (vo (vo (vo (vo (vo V_c4 W2173) W2175) W2177) W2178) W2179) W2180), O_c4, (xw W2180 (xw W2179 (xw W2178 (xw W2177 (xw W2175 (xw W2173 (xw W2171 (xw W2165 (xw W2163 (xw W2161 (xw W2155 (xw W2153 (xw W2151 (xw W2145 (xw W2143 (xw W2141 (xe E2135 (xe E2134 (xe E2133 E_c5))))))))))))))))))), (vo (vo (vo (vo (vo V_c5 W2175) W2177) W2178) W2179) W2180), O_c5, (vo (vo (vo (vo (vo (vo V2171 W2173) W2175) W2177) W2178) W2179) W2180), (xw W2180 (xw W2179 (xw W2178 (xw W2177 (xw W2175 (xw W2173 (xw W2171 (xw W2165 (xw W2163 (xw W2161 (xw W2155 (xw W2153 (xw W2151 (xw W2145 (xw W2143 (xw W2141 (xe E2135 E_b2134))))))))))))))))), (vo (vo (vo (vo (vo V2173 W2175) W2177) W2178) W2179) W2180), O_b2134, (xw W2180 (xw W2179 (xw W2178 (xw W2177 (xw W2175 (xw W2173 (xw W2171 (xw W2165 (xw W2163 (xw W2161 (xw W2155 (xw W2153 (xw W2151 (xw W2145 (xw W2143 (xw W2141 E_b2135)))))))))))))))), (vo (vo (vo (vo V2175 W2177) W2178) W2179) W2180), O_b2135, g_c1, lt_c1_c2, lt_c2_c3, lt_c3_c4, lt_c4_c5, lt_c5_b2133, lt_b2133_b2134, lt_b2134_b2135, rf_ww5, rw_ww5, rf_ww6, rw_ww6, rf_ww7, rw_ww7, rf_ww8, rw_ww8⟩) (by decide) (by decide)
theorem q2193 (l : Launch) (Z : State) (a0 : Array Value) (hw : HW a0 Z) (ws : List Jvm.Cond) (h0 : Heap) (n0 : Nat) (c1 : Nat) (c2 : Nat) (kc3 : ClassId) (vs_c2 : List Value) (F_c1_o : fO Z h0 c1 (.int 0)) (F_c1_t : fT Z h0 c1 (.ref c2)) (V_c2 : aL Z h0 c2 kc3 8 vs_c2) :
    MC l Z y6 prog_95_method_11_code 2 (some .int) ws rm_0_0_0_0 #[(.ref c1), (.int 4)] h0 (QV (.int 4) h0 n0) := by
  refine own_met (plainFor_of_name pn6) fun p e s m below meth c s₁ X0 hx hZ Y hml hO hnm hlk hret e0 => f_cast (f' := mkF m 0 #[(rv c1), (iv 4)] []) (by first | (simp [entryFrame, mkF, argsToLocals, Value.category]; done) | rfl) ?_
  have N0 := Fr.nil n0
  refine aN X0 hx (hb Y d6_0) rfl rfl <| gF X0 hx hZ hO (w48 hw) Via.refl e0 F_c1_o (hb Y d6_1) fun T2191 X2191 e2191 => ?_
  refine iN X2191 hx (hb Y d6_4) rfl <| iA X2191 hx (z := 4) (hb Y d6_5) <| aN X2191 hx (hb Y d6_6) rfl rfl <| gF X2191 hx hZ hO (w16 hw) Via.refl e2191 F_c1_t (hb Y d6_7) fun T2192 X2192 e2192 => ?_
  refine f_len X2192 hx hZ e2192 V_c2 (hb Y d6_10) <| iK X2192 hx (z := 1) (hb Y d6_11) <| iB X2192 hx (z := 7) (hb Y d6_12) <| f_iand X2192 hx (z := 4) (hb Y d6_13) ?_
  exact f_ret X2192 hx hlk (i := .ireturn) hret rfl (Or.inl ⟨rfl, Or.inl rfl, _, rfl⟩) (hb Y d6_14) (QQ := (QV (.int 4) h0 n0)) ⟨rfl, N0, e2192⟩ (by decide) (by decide)
def St53 (Z : State) (h : Heap) (n0 : Nat) (c1 : Nat) (c2 : Nat) (c3 : Nat) (c4 : Nat) (c5 : Nat) (kc1 : ClassId) (kc2 : ClassId) (kc3 : ClassId) (kc4 : ClassId) (uu1 : Int64) (uu2 : Int64) (uu3 : Int64) (uu4 : Int64) (ww5 : Value) (ww6 : Value) (ww7 : Value) (ww8 : Value) (ww10 : Value) : Prop :=
  xO Z h c1 ∧
  Arv Z h c1 kc1 (.object "java/lang/Object") 1 [.null] .null ∧
  Ovr Z kc1 "java/lang/Object" ∧
  Exa Z h c2 cV ∧
  fT Z h c2 (.ref c3) ∧
  fR Z h c2 (.ref c4) ∧
  fC Z h c2 (.ref c5) ∧
  fS Z h c2 (.int 4) ∧
  fO Z h c2 (.int 0) ∧
  aL Z h c3 kc2 4 [(.long uu1), (.long uu2), (.long uu3), (.long uu4)] ∧
  xR Z h c4 ∧
  aR Z h c4 kc3 4 [ww5, ww6, ww7, ww8] ∧
  oR Z kc3 ∧
  xC Z h c5 ∧
  aC Z h c5 kc4 4 [.null, .null, .null, .null] ∧
  oC Z kc4 ∧
  n0 ≤ c1 ∧
  c1 < c2 ∧
  c2 < c3 ∧
  c3 < c4 ∧
  c4 < c5 ∧
  ww5.isRef = true ∧
  (ww5 = .null ∨ ww5 = .ref c1) ∧
  ww6.isRef = true ∧
  (ww6 = .null ∨ ww6 = .ref c1) ∧
  ww7.isRef = true ∧
  (ww7 = .null ∨ ww7 = .ref c1) ∧
  ww8.isRef = true ∧
  (ww8 = .null ∨ ww8 = .ref c1) ∧
  ww10.isRef = true ∧
  (ww10 = .null ∨ ww10 = .ref c1)
def St54 (Z : State) (h : Heap) (n0 : Nat) (c1 : Nat) (c2 : Nat) (c3 : Nat) (c4 : Nat) (c5 : Nat) (b2183 : Nat) (b2185 : Nat) (b2187 : Nat) (kc1 : ClassId) (kc2 : ClassId) (kc3 : ClassId) (kc4 : ClassId) (kb2182 : ClassId) (kb2184 : ClassId) (kb2186 : ClassId) (uu1 : Int64) (uu2 : Int64) (uu3 : Int64) (uu4 : Int64) (ww5 : Value) (ww6 : Value) (ww7 : Value) (ww8 : Value) (uu9 : Int64) (ww10 : Value) : Prop :=
  xO Z h c1 ∧
  Arv Z h c1 kc1 (.object "java/lang/Object") 1 [.null] .null ∧
  Ovr Z kc1 "java/lang/Object" ∧
  Exa Z h c2 cV ∧
  fT Z h c2 (.ref b2183) ∧
  fR Z h c2 (.ref b2185) ∧
  fC Z h c2 (.ref b2187) ∧
  fS Z h c2 (.int 5) ∧
  fO Z h c2 (.int 0) ∧
  aL Z h c3 kc2 4 [(.long uu1), (.long uu2), (.long uu3), (.long uu4)] ∧
  xR Z h c4 ∧
  aR Z h c4 kc3 4 [ww5, ww6, ww7, ww8] ∧
  oR Z kc3 ∧
  xC Z h c5 ∧
  aC Z h c5 kc4 4 [.null, .null, .null, .null] ∧
  oC Z kc4 ∧
  aL Z h b2183 kb2182 8 [(.long uu1), (.long uu2), (.long uu3), (.long uu4), (.long uu9), (.long 0), (.long 0), (.long 0)] ∧
  xR Z h b2185 ∧
  aR Z h b2185 kb2184 8 [ww5, ww6, ww7, ww8, ww10, .null, .null, .null] ∧
  oR Z kb2184 ∧
  xC Z h b2187 ∧
  aC Z h b2187 kb2186 8 [.null, .null, .null, .null, .null, .null, .null, .null] ∧
  oC Z kb2186 ∧
  n0 ≤ c1 ∧
  c1 < c2 ∧
  c2 < c3 ∧
  c3 < c4 ∧
  c4 < c5 ∧
  c5 < b2183 ∧
  b2183 < b2185 ∧
  b2185 < b2187 ∧
  ww5.isRef = true ∧
  (ww5 = .null ∨ ww5 = .ref c1) ∧
  ww6.isRef = true ∧
  (ww6 = .null ∨ ww6 = .ref c1) ∧
  ww7.isRef = true ∧
  (ww7 = .null ∨ ww7 = .ref c1) ∧
  ww8.isRef = true ∧
  (ww8 = .null ∨ ww8 = .ref c1) ∧
  ww10.isRef = true ∧
  (ww10 = .null ∨ ww10 = .ref c1)
def Qm2202 (Z : State) (n0 : Nat) (c1 : Nat) (c2 : Nat) (c3 : Nat) (c4 : Nat) (c5 : Nat) (kc1 : ClassId) (kc2 : ClassId) (kc3 : ClassId) (kc4 : ClassId) (uu1 : Int64) (uu2 : Int64) (uu3 : Int64) (uu4 : Int64) (ww5 : Value) (ww6 : Value) (ww7 : Value) (ww8 : Value) (ww10 : Value) (uu9 : Int64) (v : Option Value) (h : Heap) (L : List Loc) : Prop := v = none ∧ Fr n0 L ∧ ∃ (kb2182 : ClassId) (b2183 : Nat) (kb2184 : ClassId) (b2185 : Nat) (kb2186 : ClassId) (b2187 : Nat), St54 Z h n0 c1 c2 c3 c4 c5 b2183 b2185 b2187 kc1 kc2 kc3 kc4 kb2182 kb2184 kb2186 uu1 uu2 uu3 uu4 ww5 ww6 ww7 ww8 uu9 ww10
theorem m2202 (l : Launch) (Z : State) (a0 : Array Value) (hw : HW a0 Z) (ws : List Jvm.Cond) (h0 : Heap) (n0 : Nat) (c1 : Nat) (c2 : Nat) (c3 : Nat) (c4 : Nat) (c5 : Nat) (kc1 : ClassId) (kc2 : ClassId) (kc3 : ClassId) (kc4 : ClassId) (uu1 : Int64) (uu2 : Int64) (uu3 : Int64) (uu4 : Int64) (ww5 : Value) (ww6 : Value) (ww7 : Value) (ww8 : Value) (ww10 : Value) (uu9 : Int64) (P : St53 Z h0 n0 c1 c2 c3 c4 c5 kc1 kc2 kc3 kc4 uu1 uu2 uu3 uu4 ww5 ww6 ww7 ww8 ww10) :
    MC l Z y5 prog_95_method_3_code 6 none ws rm_2_3_24_31 #[(.ref c2), (.long uu9), ww10, .null] h0 (Qm2202 Z n0 c1 c2 c3 c4 c5 kc1 kc2 kc3 kc4 uu1 uu2 uu3 uu4 ww5 ww6 ww7 ww8 ww10 uu9) := by
  obtain ⟨E_c1, V_c1, O_c1, E_c2, F_c2_t, F_c2_r, F_c2_c, F_c2_s, F_c2_o, V_c3, E_c4, V_c4, O_c4, E_c5, V_c5, O_c5, g_c1, lt_c1_c2, lt_c2_c3, lt_c3_c4, lt_c4_c5, rf_ww5, rw_ww5, rf_ww6, rw_ww6, rf_ww7, rw_ww7, rf_ww8, rw_ww8, rf_ww10, rw_ww10⟩ := id P
  refine own_met (plainFor_of_name pn5) fun p e s m below meth c s₁ X0 hx hZ Y hml hO hnm hlk hret e0 => f_cast (f' := mkF m 0 #[(rv c2), (.val (.long uu9)), .second, (.val ww10), (.val .null), .unset] []) (by rcases ref_cases rf_ww10 with q | ⟨_, q⟩ <;> (rw [q]; first | (simp [entryFrame, mkF, argsToLocals, Value.category]; done) | rfl)) ?_
  have N0 := Fr.nil n0
  refine aN X0 hx (hb Y d5_0) rfl rfl <| gF X0 hx hZ hO (w31 hw) Via.refl e0 F_c2_s (hb Y d5_1) fun T2081 X2081 e2081 => ?_
  refine aN X2081 hx (hb Y d5_4) rfl rfl <| gF X2081 hx hZ hO (w16 hw) Via.refl e2081 F_c2_t (hb Y d5_5) fun T2082 X2082 e2082 => ?_
  refine f_len X2082 hx hZ e2082 V_c3 (hb Y d5_8) <| cN X2082 hx (hb Y d5_9) <| aN X2082 hx (hb Y d5_12) rfl rfl <| iK X2082 hx (z := 2) (hb Y d5_13) <| aN X2082 hx (hb Y d5_14) rfl rfl <| gF X2082 hx hZ hO (w31 hw) Via.refl e2082 F_c2_s (hb Y d5_15) fun T2083 X2083 e2083 => ?_
  refine f_imul X2083 hx (z := 8) (hb Y d5_18) ?_
  have P2188 : St51 Z h0 n0 c1 c2 c3 c4 c5 kc1 kc2 kc3 kc4 uu1 uu2 uu3 uu4 ww5 ww6 ww7 ww8 := ⟨E_c1, V_c1, O_c1, E_c2, F_c2_t, F_c2_r, F_c2_c, F_c2_s, F_c2_o, V_c3, E_c4, V_c4, O_c4, E_c5, V_c5, O_c5, g_c1, lt_c1_c2, lt_c2_c3, lt_c3_c4, lt_c4_c5, rf_ww5, rw_ww5, rf_ww6, rw_ww6, rf_ww7, rw_ww7, rf_ww8, rw_ww8⟩
  refine pV X2083 hx hZ hO (by rw [hml]; rfl) (w58 hw) (w59 hw) (w60 hw) (w7 hw) (w8 hw) (w61 hw) e2083 E_c2 (argsL := [(.int 8)]) (rest := []) (m2181 l Z a0 hw [] h0 n0 c1 c2 c3 c4 c5 kc1 kc2 kc3 kc4 uu1 uu2 uu3 uu4 ww5 ww6 ww7 ww8 P2188) (lenOf pd6 rfl) (hb Y d5_19) fun T2084 L2084 v2084 X2084 hQ2084 => ?_
  obtain ⟨rfl, N2084q, kb2182, b2183, kb2184, b2185, kb2186, b2187, P2084⟩ := hQ2084
  obtain ⟨E_c1, V_c1, O_c1, E_c2, F_c2_t, F_c2_r, F_c2_c, F_c2_s, F_c2_o, V_c3, E_c4, V_c4, O_c4, E_c5, V_c5, O_c5, V_b2183, E_b2185, V_b2185, O_b2185, E_b2187, V_b2187, O_b2187, g_c1, lt_c1_c2, lt_c2_c3, lt_c3_c4, lt_c4_c5, lt_c5_b2183, lt_b2183_b2185, lt_b2185_b2187, _, _, _, _, _, _, _, _⟩ := id P2084
  have N2084 := Fr.app N0 N2084q
  refine aN X2084 hx (hb Y d5_22) rfl rfl <| aN X2084 hx (hb Y d5_23) rfl rfl <| gF X2084 hx hZ hO (w31 hw) Via.refl rfl F_c2_s (hb Y d5_24) fun T2189 X2189 e2189 => ?_
  refine pV X2189 hx hZ hO (by rw [hml]; rfl) (w44 hw) (w45 hw) (w46 hw) (w7 hw) (w8 hw) (w47 hw) e2189 E_c2 (argsL := [(.int 4)]) (rest := []) (q2193 l Z a0 hw [] T2084.heap n0 c2 b2183 kb2182 _ F_c2_o F_c2_t V_b2183) (lenOf pd4 rfl) (hb Y d5_27) fun T2190 L2190 v2190 X2190 hQ2190 => ?_
  obtain ⟨rfl, N2190q, e2190⟩ := hQ2190
  have N2190 := Fr.app N2084 N2190q
  refine iS X2190 hx (L' := #[(rv c2), (.val (.long uu9)), .second, (.val ww10), (.val .null), (iv 4)]) (hb Y d5_30) rfl <| aN X2190 hx (hb Y d5_32) rfl rfl <| gF X2190 hx hZ hO (w16 hw) Via.refl e2190 F_c2_t (hb Y d5_33) fun T2194 X2194 e2194 => ?_
  refine iL X2194 hx (hb Y d5_36) rfl <| lN X2194 hx (hb Y d5_38) rfl <| f_lst X2194 hx hZ e2194 V_b2183 4 (hb Y d5_39) fun T2195 h2195 X2195 e2195 W2195 V2195 => ?_
  have N2195x := Fr.snoc X2195 N2190 (by omega : n0 ≤ b2183)
  refine aN X2195 hx (hb Y d5_40) rfl rfl ?_
  replace F_c2_r := (fo W2195 F_c2_r)
  refine gF X2195 hx hZ hO (w20 hw) Via.refl e2195 F_c2_r (hb Y d5_41) fun T2196 X2196 e2196 => ?_
  refine iL X2196 hx (hb Y d5_44) rfl <| aN X2196 hx (hb Y d5_46) rfl rf_ww10 ?_
  replace V_b2185 := (vo V_b2185 W2195)
  replace E_c1 := (xw W2195 E_c1)
  refine f_ast X2196 hx hZ e2196 V_b2185 rfl (own_sto rw_ww10 (own_stoVA V_b2185 O_b2185 (Ins.self E_c1))) (own_fits rf_ww10) 4 (hb Y d5_47) fun T2197 h2197 X2197 e2197 W2197 V2197 => ?_
  have N2197x := Fr.snoc X2197 N2195x (by omega : n0 ≤ b2185)
  refine aN X2197 hx (hb Y d5_48) rfl rfl ?_
  replace F_c2_c := (fo W2197 (fo W2195 F_c2_c))
  refine gF X2197 hx hZ hO (w24 hw) Via.refl e2197 F_c2_c (hb Y d5_49) fun T2198 X2198 e2198 => ?_
  refine iL X2198 hx (hb Y d5_52) rfl <| aA X2198 hx (hb Y d5_54) rfl rfl ?_
  replace V_b2187 := (vo (vo V_b2187 W2195) W2197)
  refine f_ast X2198 hx hZ e2198 V_b2187 rfl (Or.inl rfl) rfl 4 (hb Y d5_56) fun T2199 h2199 X2199 e2199 W2199 V2199 => ?_
  have N2199x := Fr.snoc X2199 N2197x (by omega : n0 ≤ b2187)
  refine aN X2199 hx (hb Y d5_57) rfl rfl <| f_dup X2199 hx (hb Y d5_58) rfl ?_
  replace F_c2_s := (fo W2199 (fo W2197 (fo W2195 F_c2_s)))
  refine gF X2199 hx hZ hO (w31 hw) Via.refl e2199 F_c2_s (hb Y d5_59) fun T2200 X2200 e2200 => ?_
  refine iK X2200 hx (z := 1) (hb Y d5_62) <| iA X2200 hx (z := 5) (hb Y d5_63) ?_
  replace E_c2 := (xw W2199 (xw W2197 (xw W2195 E_c2)))
  refine f_putF X2200 hx hZ hO (w31 hw) Via.refl e2200 F_c2_s E_c2 (Or.inl (w32 hw)) (w7 hw) (ty := .int) (by decide) rfl rfl (hb Y d5_64) fun T2201 h2201 X2201 e2201 W2201 => ?_
  have N2201x := Fr.snoc X2201 N2199x (by omega : n0 ≤ c2)
  exact f_ret0 X2201 hx hlk hret (hb Y d5_67) (QQ := (Qm2202 Z n0 c1 c2 c3 c4 c5 kc1 kc2 kc3 kc4 uu1 uu2 uu3 uu4 ww5 ww6 ww7 ww8 ww10 uu9)) (by rw [e2201]; exact ⟨rfl, N2201x, kb2182, b2183, kb2184, b2185, kb2186, b2187, (xw W2201 (xw W2199 (xw W2197 E_c1))), (vo (vo (vo (vo V_c1 W2195) W2197) W2199) W2201), O_c1, (xw W2201 E_c2), (Fld.other W2201 (fo W2199 (fo W2197 (fo W2195 F_c2_t))) (Or.inr (slot_ne (Or.inl (w17 hw)) (Or.inl (w32 hw)) (by decide) (t := (.array .long)) (t' := .int) (by decide) (by decide)))), (Fld.other W2201 (fo W2199 (fo W2197 F_c2_r)) (Or.inr (slot_ne (Or.inl (w21 hw)) (Or.inl (w32 hw)) (by decide) (t := (.array (.array (.object "java/lang/Object")))) (t' := .int) (by decide) (by decide)))), (Fld.other W2201 (fo W2199 F_c2_c) (Or.inr (slot_ne (Or.inl (w25 hw)) (Or.inl (w32 hw)) (by decide) (t := (.array (.array .int))) (t' := .int) (by decide) (by decide)))), (Fld.same W2201 F_c2_s), (Fld.other W2201 (fo W2199 (fo W2197 (fo W2195 F_c2_o))) (Or.inr (slot_ne (Or.inl (w49 hw)) (Or.inl (w32 hw)) (by decide) (t := .int) (t' := .int) (by decide) (by decide)))), (vo (vo (vo (vo V_c3 W2195) W2197) W2199) W2201), (xw W2201 (xw W2199 (xw W2197 (xw W2195 E_c4)))), (vo (vo (vo (vo V_c4 W2195) W2197) W2199) W2201), O_c4, (xw W2201 (xw W2199 (xw W2197 (xw W2195 E_c5)))), (vo (vo (vo (vo V_c5 W2195) W2197) W2199) W2201), O_c5, (vo (vo (vo V2195 W2197) W2199) W2201), (xw W2201 (xw W2199 (xw W2197 (xw W2195 E_b2185)))), (vo (vo V2197 W2199) W2201), O_b2185, (xw W2201 (xw W2199 (xw W2197 (xw W2195 E_b2187)))), (vo V2199 W2201), O_b2187, g_c1, lt_c1_c2, lt_c2_c3, lt_c3_c4, lt_c4_c5, lt_c5_b2183, lt_b2183_b2185, lt_b2185_b2187, rf_ww5, rw_ww5, rf_ww6, rw_ww6, rf_ww7, rw_ww7, rf_ww8, rw_ww8, rf_ww10, rw_ww10⟩) (by decide) (by decide)
theorem q2212 (l : Launch) (Z : State) (a0 : Array Value) (hw : HW a0 Z) (ws : List Jvm.Cond) (h0 : Heap) (n0 : Nat) (c1 : Nat) (F_c1_s : fS Z h0 c1 (.int 5)) :
    MC l Z y4 prog_95_method_7_code 1 (some .boolean) ws rm_0_0_0_0 #[(.ref c1)] h0 (QV (.int 1) h0 n0) := by
  refine own_met (plainFor_of_name pn4) fun p e s m below meth c s₁ X0 hx hZ Y hml hO hnm hlk hret e0 => f_cast (f' := mkF m 0 #[(rv c1)] []) (by first | (simp [entryFrame, mkF, argsToLocals, Value.category]; done) | rfl) ?_
  have N0 := Fr.nil n0
  refine aN X0 hx (hb Y d4_0) rfl rfl <| gF X0 hx hZ hO (w31 hw) Via.refl e0 F_c1_s (hb Y d4_1) fun T2211 X2211 e2211 => ?_
  refine iK X2211 hx (z := 1) (hb Y d4_4) <| cY X2211 hx (pc := 5) 28 (hb Y d4_5) <| iK X2211 hx (z := 1) (hb Y d4_28) <| gT X2211 hx (pc := 29) 33 (hb Y d4_29) ?_
  exact f_ret X2211 hx hlk (i := .ireturn) hret rfl (Or.inl ⟨rfl, Or.inr (Or.inl rfl), _, rfl⟩) (hb Y d4_33) (QQ := (QV (.int 1) h0 n0)) ⟨rfl, N0, e2211⟩ (by decide) (by decide)
theorem D2_32  (c1 : Nat) (c2 : Nat) (c3 : Nat) (c4 : Nat) (c5 : Nat) (kc1 : ClassId) (kc2 : ClassId) (kc3 : ClassId) (kc4 : ClassId) (r0 : Value) (r1 : Value) (r2 : Value) (t0 : Int32) (t1 : Int32) (t2 : Int32) (t3 : Int32) (t4 : Int32) (p0 : Int32) (p1 : Int64) (X0 : Stand p l e room_1 s m args below meth c T0 locs 8 25) (G : SG p s m meth c Z a0) (e0 : T0.heap = h0) (N0 : Fr n0 locs) (P : St50 Z h0 n0 c1 c2 c3 c4 c5 kc1 kc2 kc3 kc4 r0 r1 r2 t0 t1 t2 t3 t4) (hk0 : ∀ (T' : State) (locs' : List Loc), Stand p l e room_1 s m args below meth c T' locs' 11 49 → Fr n0 locs' → EndsSo p e below (LQ s n0) T' (mkF m 209 (FL p0 p1 3 2 t0 t1 t2 t3 t4 c1 c2 (iv 1) .unset .unset .unset .unset .unset) [])) :
    EndsSo p e below (LQ s n0) T0 (mkF m 150 (FL p0 p1 3 2 t0 t1 t2 t3 t4 c1 c2 .unset .unset .unset .unset .unset .unset) []) := by
  obtain ⟨hx, hZ, hw, Y, hml, hO, hlk, hret⟩ := id G
  obtain ⟨E_c1, V_c1, O_c1, E_c2, F_c2_t, F_c2_r, F_c2_c, F_c2_s, F_c2_o, V_c3, E_c4, V_c4, O_c4, E_c5, V_c5, O_c5, g_c1, lt_c1_c2, lt_c2_c3, lt_c3_c4, lt_c4_c5, ht0, ht1, ht2, ht3, ht4, rf_r0, rw_r0, rb_r0, rf_r1, rw_r1, rb_r1, rf_r2, rw_r2, rb_r2⟩ := id P
  refine iL X0 hx (hb Y at_150) rfl <| iK X0 hx (z := 1) (hb Y at_152) <| cN X0 hx (hb Y at_153) <| aA X0 hx (hb Y at_156) rfl rfl <| f_ldc2 X0 hx hZ hO (w56 hw) (hb Y at_158) <| iL X0 hx (hb Y at_161) rfl <| own_mrg X0 hx (row := c1) ht3 (pc := 163) (hb Y at_163) (hb Y at_170) (hb Y at_166) (hb Y at_167) rfl fun r3 rf_r3 rw_r3 rb_r3 => ?_
  refine f_null X0 hx (hb Y at_172) ?_
  have P1958 : St28 Z h0 n0 c1 c2 c3 c4 c5 kc1 kc2 kc3 kc4 (10 : Int64) (20 : Int64) (30 : Int64) (0 : Int64) r0 r1 r2 .null r3 := ⟨E_c1, V_c1, O_c1, E_c2, F_c2_t, F_c2_r, F_c2_c, F_c2_s, F_c2_o, V_c3, E_c4, V_c4, O_c4, E_c5, V_c5, O_c5, g_c1, lt_c1_c2, lt_c2_c3, lt_c3_c4, lt_c4_c5, rf_r0, rw_r0, rf_r1, rw_r1, rf_r2, rw_r2, rfl, (Or.inl rfl), rf_r3, rw_r3⟩
  refine vV X0 hx hZ hO (by rw [hml]; rfl) (w39 hw) (w40 hw) (w42 hw) (w41 hw) (w8 hw) (w43 hw) e0 E_c2 (argsL := [(.long 40), r3, .null]) (rest := []) (m1006 l Z a0 hw [] h0 n0 c1 c2 c3 c4 c5 kc1 kc2 kc3 kc4 (10 : Int64) (20 : Int64) (30 : Int64) (0 : Int64) r0 r1 r2 .null r3 (40 : Int64) P1958) (lenOf pd5 rfl) (hb Y at_173) fun T1943 L1943 v1943 X1943 hQ1943 => ?_
  obtain ⟨rfl, N1943q, P1943⟩ := hQ1943
  obtain ⟨E_c1, V_c1, O_c1, E_c2, F_c2_t, F_c2_r, F_c2_c, F_c2_s, F_c2_o, V_c3, E_c4, V_c4, O_c4, E_c5, V_c5, O_c5, g_c1, lt_c1_c2, lt_c2_c3, lt_c3_c4, lt_c4_c5, _, _, _, _, _, _, _, _, _, _⟩ := id P1943
  have N1943 := Fr.app N0 N1943q
  refine iL X1943 hx (hb Y at_176) rfl <| iK X1943 hx (z := 2) (hb Y at_178) <| cN X1943 hx (hb Y at_179) <| aA X1943 hx (hb Y at_182) rfl rfl <| f_ldc2 X1943 hx hZ hO (w62 hw) (hb Y at_184) <| iL X1943 hx (hb Y at_187) rfl <| own_mrg X1943 hx (row := c1) ht4 (pc := 189) (hb Y at_189) (hb Y at_196) (hb Y at_192) (hb Y at_193) rfl fun r4 rf_r4 rw_r4 rb_r4 => ?_
  refine f_null X1943 hx (hb Y at_198) ?_
  have P2209 : St53 Z T1943.heap n0 c1 c2 c3 c4 c5 kc1 kc2 kc3 kc4 (10 : Int64) (20 : Int64) (30 : Int64) (40 : Int64) r0 r1 r2 r3 r4 := ⟨E_c1, V_c1, O_c1, E_c2, F_c2_t, F_c2_r, F_c2_c, F_c2_s, F_c2_o, V_c3, E_c4, V_c4, O_c4, E_c5, V_c5, O_c5, g_c1, lt_c1_c2, lt_c2_c3, lt_c3_c4, lt_c4_c5, rf_r0, rw_r0, rf_r1, rw_r1, rf_r2, rw_r2, rf_r3, rw_r3, rf_r4, rw_r4⟩
  refine vV X1943 hx hZ hO (by rw [hml]; rfl) (w39 hw) (w40 hw) (w42 hw) (w41 hw) (w8 hw) (w43 hw) rfl E_c2 (argsL := [(.long 50), r4, .null]) (rest := []) (m2202 l Z a0 hw [] T1943.heap n0 c1 c2 c3 c4 c5 kc1 kc2 kc3 kc4 (10 : Int64) (20 : Int64) (30 : Int64) (40 : Int64) r0 r1 r2 r3 r4 (50 : Int64) P2209) (lenOf pd5 rfl) (hb Y at_199) fun T1959 L1959 v1959 X1959 hQ1959 => ?_
  obtain ⟨rfl, N1959q, kb2203, b2204, kb2205, b2206, kb2207, b2208, P1959⟩ := hQ1959
  obtain ⟨E_c1, V_c1, O_c1, E_c2, F_c2_t, F_c2_r, F_c2_c, F_c2_s, F_c2_o, V_c3, E_c4, V_c4, O_c4, E_c5, V_c5, O_c5, V_b2204, E_b2206, V_b2206, O_b2206, E_b2208, V_b2208, O_b2208, g_c1, lt_c1_c2, lt_c2_c3, lt_c3_c4, lt_c4_c5, lt_c5_b2204, lt_b2204_b2206, lt_b2206_b2208, _, _, _, _, _, _, _, _, _, _⟩ := id P1959
  have N1959 := Fr.app N1943 N1959q
  have lt_c2_b2204 : c2 < b2204 := by omega
  refine aA X1959 hx (hb Y at_202) rfl rfl <| vV X1959 hx hZ hO (by rw [hml]; rfl) (w33 hw) (w34 hw) (w36 hw) (w35 hw) (w8 hw) (w37 hw) rfl E_c2 (argsL := []) (rest := []) (q2212 l Z a0 hw [] T1959.heap n0 c2 F_c2_s) (lenOf pd3 rfl) (hb Y at_204) fun T2210 L2210 v2210 X2210 hQ2210 => ?_
  obtain ⟨rfl, N2210q, e2210⟩ := hQ2210
  have N2210 := Fr.app N1959 N2210q
  refine iS X2210 hx (L' := (FL p0 p1 3 2 t0 t1 t2 t3 t4 c1 c2 (iv 1) .unset .unset .unset .unset .unset)) (hb Y at_207) rfl ?_
  exact hk0 _ _ X2210 N2210
theorem F2_28  {cells slots : Nat} (p0 : Int32) (p1 : Int64) (t0 : Int32) (t1 : Int32) (t2 : Int32) (t3 : Int32) (t4 : Int32) (c1 : Nat) (c2 : Nat) (X0 : Stand p l e room_1 s m args below meth c T0 locs cells slots) (G : SG p s m meth c Z a0) (N0 : Fr n0 locs) (hK : cells ≤ room_1.cells) (hN : slots ≤ room_1.slots) :
    EndsSo p e below (LQ s n0) T0 (mkF m 303 (FL p0 p1 3 2 t0 t1 t2 t3 t4 c1 c2 (iv 1) (iv 0) (iv t0) (.val (.long 10)) .second .unset) []) := by
  obtain ⟨hx, hZ, hw, Y, hml, hO, hlk, hret⟩ := id G
  refine iN X0 hx (hb Y at_303) rfl <| iL X0 hx (hb Y at_304) rfl <| iB X0 hx (z := 3) (hb Y at_306) <| iS X0 hx (L' := (FL p0 p1 3 2 t0 t1 t2 t3 t4 c1 c2 (iv 1) (iv 0) (iv 3) (.val (.long 10)) .second .unset)) (hb Y at_307) rfl <| iL X0 hx (hb Y at_309) rfl <| iL X0 hx (hb Y at_311) rfl <| iA X0 hx (z := 5) (hb Y at_313) <| iS X0 hx (L' := (FL p0 p1 3 2 t0 t1 t2 t3 t4 c1 c2 (iv 1) (iv 0) (iv 3) (iv 5) .unset .unset)) (hb Y at_314) rfl <| iL X0 hx (hb Y at_316) rfl <| iK X0 hx (z := 1) (hb Y at_318) <| cY X0 hx (pc := 319) 348 (hb Y at_319) <| iL X0 hx (hb Y at_348) rfl <| iS X0 hx (L' := (FL p0 p1 3 2 t0 t1 t2 t3 t4 c1 c2 (iv 1) (iv 0) (iv 3) (iv 5) (iv t3) .unset)) (hb Y at_350) rfl <| iL X0 hx (hb Y at_352) rfl <| iK X0 hx (z := 1) (hb Y at_354) <| cY X0 hx (pc := 355) 369 (hb Y at_355) <| iK X0 hx (z := 1) (hb Y at_369) <| gT X0 hx (pc := 370) 374 (hb Y at_370) <| iS X0 hx (L' := (FL p0 p1 3 2 t0 t1 t2 t3 t4 c1 c2 (iv 1) (iv 0) (iv 3) (iv 5) (iv t3) (iv 1))) (hb Y at_374) rfl <| iL X0 hx (hb Y at_376) rfl <| iL X0 hx (hb Y at_378) rfl <| cN X0 hx (hb Y at_380) <| iK X0 hx (z := 1) (hb Y at_383) <| gT X0 hx (pc := 384) 388 (hb Y at_384) ?_
  exact f_ret X0 hx hlk (i := .ireturn) hret rfl (Or.inl ⟨rfl, Or.inr (Or.inl rfl), _, rfl⟩) (hb Y at_388) (QQ := (QL n0)) ⟨rfl, N0⟩ hK hN
theorem C3_30  (c1 : Nat) (c2 : Nat) (c3 : Nat) (c4 : Nat) (c5 : Nat) (kc1 : ClassId) (kc2 : ClassId) (kc3 : ClassId) (kc4 : ClassId) (r0 : Value) (r1 : Value) (r2 : Value) (t0 : Int32) (t1 : Int32) (t2 : Int32) (t3 : Int32) (t4 : Int32) (mm : Int32) (p1 : Int64) (p0 : Int32) (X0 : Stand p l e room_1 s m args below meth c T0 locs 8 25) (G : SG p s m meth c Z a0) (e0 : T0.heap = h0) (N0 : Fr n0 locs) (P : St48 Z h0 n0 c1 c2 c3 c4 c5 kc1 kc2 kc3 kc4 r0 r1 r2 t0 t1 t2 t3 t4 mm p1) :
    EndsSo p e below (LQ s n0) T0 (mkF m 143 (FL p0 p1 3 mm t0 t1 t2 t3 t4 c1 c2 .unset .unset .unset .unset .unset .unset) []) := by
  obtain ⟨hx, hZ, hw, Y, hml, hO, hlk, hret⟩ := id G
  obtain ⟨E_c1, V_c1, O_c1, E_c2, F_c2_t, F_c2_r, F_c2_c, F_c2_s, F_c2_o, V_c3, E_c4, V_c4, O_c4, E_c5, V_c5, O_c5, g_c1, lt_c1_c2, lt_c2_c3, lt_c3_c4, lt_c4_c5, ht0, ht1, ht2, ht3, ht4, rf_r0, rw_r0, rb_r0, rf_r1, rw_r1, rb_r1, rf_r2, rw_r2, rb_r2, hm3, z10, z20, z30⟩ := id P
  refine aA X0 hx (hb Y at_143) rfl rfl <| lN X0 hx (hb Y at_145) rfl ?_
  have P1920 : St48 Z h0 n0 c1 c2 c3 c4 c5 kc1 kc2 kc3 kc4 r0 r1 r2 t0 t1 t2 t3 t4 mm p1 := ⟨E_c1, V_c1, O_c1, E_c2, F_c2_t, F_c2_r, F_c2_c, F_c2_s, F_c2_o, V_c3, E_c4, V_c4, O_c4, E_c5, V_c5, O_c5, g_c1, lt_c1_c2, lt_c2_c3, lt_c3_c4, lt_c4_c5, ht0, ht1, ht2, ht3, ht4, rf_r0, rw_r0, rb_r0, rf_r1, rw_r1, rb_r1, rf_r2, rw_r2, rb_r2, hm3, z10, z20, z30⟩
  refine vV X0 hx hZ hO (by rw [hml]; rfl) (w26 hw) (w27 hw) (w29 hw) (w28 hw) (w8 hw) (w30 hw) e0 E_c2 (argsL := [(.long p1)]) (rest := []) (m1919 l Z a0 hw [] h0 n0 c1 c2 c3 c4 c5 kc1 kc2 kc3 kc4 r0 r1 r2 t0 t1 t2 t3 t4 mm p1 P1920) (lenOf pd2 rfl) (hb Y at_146) fun T1836 L1836 v1836 X1836 hQ1836 => ?_
  obtain ⟨rfl, N1836q, P1836⟩ := hQ1836
  obtain ⟨E_c1, V_c1, O_c1, E_c2, F_c2_t, F_c2_r, F_c2_c, F_c2_s, F_c2_o, V_c3, E_c4, V_c4, O_c4, E_c5, V_c5, O_c5, g_c1, lt_c1_c2, lt_c2_c3, lt_c3_c4, lt_c4_c5, ht0, ht1, ht2, ht3, ht4, rf_r0, rw_r0, rb_r0, rf_r1, rw_r1, rb_r1, rf_r2, rw_r2, rb_r2, hm3, z10, z20, z30⟩ := id P1836
  have N1836 := Fr.app N0 N1836q
  refine f_pop X1836 hx (hb Y at_149) rfl ?_
  rcases id hm3 with rfl | rfl | rfl
  · have P1923 : St50 Z T1836.heap n0 c1 c2 c3 c4 c5 kc1 kc2 kc3 kc4 r0 r1 r2 t0 t1 t2 t3 t4 := ⟨E_c1, V_c1, O_c1, E_c2, F_c2_t, F_c2_r, F_c2_c, F_c2_s, F_c2_o, V_c3, E_c4, V_c4, O_c4, E_c5, V_c5, O_c5, g_c1, lt_c1_c2, lt_c2_c3, lt_c3_c4, lt_c4_c5, ht0, ht1, ht2, ht3, ht4, rf_r0, rw_r0, rb_r0, rf_r1, rw_r1, rb_r1, rf_r2, rw_r2, rb_r2⟩
    exact D0_30 c1 c2 c3 c4 c5 kc1 kc2 kc3 kc4 r0 r1 r2 t0 t1 t2 t3 t4 p0 p1 X1836 G rfl N1836 P1923 (fun T' locs' X' N' => F1_9 p0 p1 (0 : Int32) (1 : Int32) t0 t1 t2 t3 t4 c1 c2 X' G z10 z20 z30 (F2_26 p0 p1 t0 t1 t2 t3 t4 c1 c2 X' G N' (by decide) (by decide)))
  · have P1942 : St50 Z T1836.heap n0 c1 c2 c3 c4 c5 kc1 kc2 kc3 kc4 r0 r1 r2 t0 t1 t2 t3 t4 := ⟨E_c1, V_c1, O_c1, E_c2, F_c2_t, F_c2_r, F_c2_c, F_c2_s, F_c2_o, V_c3, E_c4, V_c4, O_c4, E_c5, V_c5, O_c5, g_c1, lt_c1_c2, lt_c2_c3, lt_c3_c4, lt_c4_c5, ht0, ht1, ht2, ht3, ht4, rf_r0, rw_r0, rb_r0, rf_r1, rw_r1, rb_r1, rf_r2, rw_r2, rb_r2⟩
    exact D1_31 c1 c2 c3 c4 c5 kc1 kc2 kc3 kc4 r0 r1 r2 t0 t1 t2 t3 t4 p0 p1 X1836 G rfl N1836 P1942 (fun T' locs' X' N' => F1_9 p0 p1 (1 : Int32) (1 : Int32) t0 t1 t2 t3 t4 c1 c2 X' G z10 z20 z30 (F2_27 p0 p1 t0 t1 t2 t3 t4 c1 c2 X' G N' (by decide) (by decide)))
  · have P2213 : St50 Z T1836.heap n0 c1 c2 c3 c4 c5 kc1 kc2 kc3 kc4 r0 r1 r2 t0 t1 t2 t3 t4 := ⟨E_c1, V_c1, O_c1, E_c2, F_c2_t, F_c2_r, F_c2_c, F_c2_s, F_c2_o, V_c3, E_c4, V_c4, O_c4, E_c5, V_c5, O_c5, g_c1, lt_c1_c2, lt_c2_c3, lt_c3_c4, lt_c4_c5, ht0, ht1, ht2, ht3, ht4, rf_r0, rw_r0, rb_r0, rf_r1, rw_r1, rb_r1, rf_r2, rw_r2, rb_r2⟩
    exact D2_32 c1 c2 c3 c4 c5 kc1 kc2 kc3 kc4 r0 r1 r2 t0 t1 t2 t3 t4 p0 p1 X1836 G rfl N1836 P2213 (fun T' locs' X' N' => F1_9 p0 p1 (2 : Int32) (1 : Int32) t0 t1 t2 t3 t4 c1 c2 X' G z10 z20 z30 (F2_28 p0 p1 t0 t1 t2 t3 t4 c1 c2 X' G N' (by decide) (by decide)))
def St55 (Z : State) (h : Heap) (n0 : Nat) (c1 : Nat) (c2 : Nat) (c3 : Nat) (c4 : Nat) (c5 : Nat) (kc1 : ClassId) (kc2 : ClassId) (kc3 : ClassId) (kc4 : ClassId) (r0 : Value) (r1 : Value) (r2 : Value) (t0 : Int32) (t1 : Int32) (t2 : Int32) (t3 : Int32) (t4 : Int32) (mm : Int32) (p1 : Int64) : Prop :=
  xO Z h c1 ∧
  Arv Z h c1 kc1 (.object "java/lang/Object") 1 [.null] .null ∧
  Ovr Z kc1 "java/lang/Object" ∧
  Exa Z h c2 cV ∧
  fT Z h c2 (.ref c3) ∧
  fR Z h c2 (.ref c4) ∧
  fC Z h c2 (.ref c5) ∧
  fS Z h c2 (.int 3) ∧
  fO Z h c2 (.int 0) ∧
  aL Z h c3 kc2 4 [(.long 10), (.long 20), (.long 30), (.long 0)] ∧
  xR Z h c4 ∧
  aR Z h c4 kc3 4 [r0, r1, r2, .null] ∧
  oR Z kc3 ∧
  xC Z h c5 ∧
  aC Z h c5 kc4 4 [.null, .null, .null, .null] ∧
  oC Z kc4 ∧
  n0 ≤ c1 ∧
  c1 < c2 ∧
  c2 < c3 ∧
  c3 < c4 ∧
  c4 < c5 ∧
  (t0 = (0 : Int32) ∨ t0 = (1 : Int32)) ∧
  (t1 = (0 : Int32) ∨ t1 = (1 : Int32)) ∧
  (t2 = (0 : Int32) ∨ t2 = (1 : Int32)) ∧
  (t3 = (0 : Int32) ∨ t3 = (1 : Int32)) ∧
  (t4 = (0 : Int32) ∨ t4 = (1 : Int32)) ∧
  r0.isRef = true ∧
  (r0 = .null ∨ r0 = .ref c1) ∧
  ((t0 = (0 : Int32) ∧ r0 = .ref c1) ∨ (t0 = (1 : Int32) ∧ r0 = .null)) ∧
  r1.isRef = true ∧
  (r1 = .null ∨ r1 = .ref c1) ∧
  ((t1 = (0 : Int32) ∧ r1 = .ref c1) ∨ (t1 = (1 : Int32) ∧ r1 = .null)) ∧
  r2.isRef = true ∧
  (r2 = .null ∨ r2 = .ref c1) ∧
  ((t2 = (0 : Int32) ∧ r2 = .ref c1) ∨ (t2 = (1 : Int32) ∧ r2 = .null)) ∧
  (mm = (0 : Int32) ∨ mm = (1 : Int32) ∨ mm = (2 : Int32)) ∧
  r0 = .ref c1 ∧
  ¬ p1 < (10 : Int64) ∧
  p1 < (20 : Int64) ∧
  p1 < (30 : Int64) ∧
  t0 = (0 : Int32)
def Qm2274 (Z : State) (n0 : Nat) (c1 : Nat) (c2 : Nat) (c3 : Nat) (c4 : Nat) (c5 : Nat) (kc1 : ClassId) (kc2 : ClassId) (kc3 : ClassId) (kc4 : ClassId) (r0 : Value) (r1 : Value) (r2 : Value) (t0 : Int32) (t1 : Int32) (t2 : Int32) (t3 : Int32) (t4 : Int32) (mm : Int32) (p1 : Int64) (v : Option Value) (h : Heap) (L : List Loc) : Prop := v = some (.int 0) ∧ Fr n0 L ∧ St55 Z h n0 c1 c2 c3 c4 c5 kc1 kc2 kc3 kc4 r0 r1 r2 t0 t1 t2 t3 t4 mm p1
theorem m2274 (l : Launch) (Z : State) (a0 : Array Value) (hw : HW a0 Z) (ws : List Jvm.Cond) (h0 : Heap) (n0 : Nat) (c1 : Nat) (c2 : Nat) (c3 : Nat) (c4 : Nat) (c5 : Nat) (kc1 : ClassId) (kc2 : ClassId) (kc3 : ClassId) (kc4 : ClassId) (r0 : Value) (r1 : Value) (r2 : Value) (t0 : Int32) (t1 : Int32) (t2 : Int32) (t3 : Int32) (t4 : Int32) (mm : Int32) (p1 : Int64) (P : St55 Z h0 n0 c1 c2 c3 c4 c5 kc1 kc2 kc3 kc4 r0 r1 r2 t0 t1 t2 t3 t4 mm p1) :
    MC l Z y3 prog_95_method_5_code 5 (some .boolean) ws rm_2_0_0_28 #[(.ref c2), (.long p1)] h0 (Qm2274 Z n0 c1 c2 c3 c4 c5 kc1 kc2 kc3 kc4 r0 r1 r2 t0 t1 t2 t3 t4 mm p1) := by
  obtain ⟨E_c1, V_c1, O_c1, E_c2, F_c2_t, F_c2_r, F_c2_c, F_c2_s, F_c2_o, V_c3, E_c4, V_c4, O_c4, E_c5, V_c5, O_c5, g_c1, lt_c1_c2, lt_c2_c3, lt_c3_c4, lt_c4_c5, ht0, ht1, ht2, ht3, ht4, rf_r0, rw_r0, rb_r0, rf_r1, rw_r1, rb_r1, rf_r2, rw_r2, rb_r2, hm3, nv_r0, z10, z20, z30, tv0⟩ := id P
  refine own_met (plainFor_of_name pn3) fun p e s m below meth c s₁ X0 hx hZ Y hml hO hnm hlk hret e0 => f_cast (f' := mkF m 0 #[(rv c2), (.val (.long p1)), .second, .unset, .unset] []) (by first | (simp [entryFrame, mkF, argsToLocals, Value.category]; done) | rfl) ?_
  have N0 := Fr.nil n0
  refine aN X0 hx (hb Y d3_0) rfl rfl <| gF X0 hx hZ hO (w31 hw) Via.refl e0 F_c2_s (hb Y d3_1) fun T2251 X2251 e2251 => ?_
  refine fY X2251 hx (pc := 4) 9 (hb Y d3_4) <| iK X2251 hx (z := 0) (hb Y d3_9) <| sN X2251 hx (L' := #[(rv c2), (.val (.long p1)), .second, (iv 0), .unset]) (hb Y d3_10) rfl <| iN X2251 hx (hb Y d3_11) rfl <| iK X2251 hx (z := 1) (hb Y d3_12) <| iA X2251 hx (z := 1) (hb Y d3_13) <| aN X2251 hx (hb Y d3_14) rfl rfl <| gF X2251 hx hZ hO (w31 hw) Via.refl e2251 F_c2_s (hb Y d3_15) fun T2252 X2252 e2252 => ?_
  refine cN X2252 hx (hb Y d3_18) <| aN X2252 hx (hb Y d3_21) rfl rfl <| gF X2252 hx hZ hO (w16 hw) Via.refl e2252 F_c2_t (hb Y d3_22) fun T2253 X2253 e2253 => ?_
  refine aN X2253 hx (hb Y d3_25) rfl rfl <| iN X2253 hx (hb Y d3_26) rfl <| iK X2253 hx (z := 1) (hb Y d3_27) <| iA X2253 hx (z := 1) (hb Y d3_28) <| pV X2253 hx hZ hO (by rw [hml]; rfl) (w44 hw) (w45 hw) (w46 hw) (w7 hw) (w8 hw) (w47 hw) e2253 E_c2 (argsL := [(.int 1)]) (rest := [(.ref c3)]) (q1891 l Z a0 hw [] h0 n0 c2 c3 kc2 _ F_c2_o F_c2_t V_c3) (lenOf pd4 rfl) (hb Y d3_29) fun T2254 L2254 v2254 X2254 hQ2254 => ?_
  obtain ⟨rfl, N2254q, e2254⟩ := hQ2254
  have N2254 := Fr.app N0 N2254q
  refine f_lald X2254 hx hZ e2254 V_c3 (v := (.long 20)) rfl (hb Y d3_32) <| lN X2254 hx (hb Y d3_33) rfl <| lC X2254 hx (z := (lcmpW (20 : Int64) p1)) (hb Y d3_34) (q := rfl) <| fY X2254 hx (pc := 35) 44 (hb Y d3_35) (hc := (own_gtT z20)) <| aN X2254 hx (hb Y d3_44) rfl rfl <| iN X2254 hx (hb Y d3_45) rfl <| pV X2254 hx hZ hO (by rw [hml]; rfl) (w44 hw) (w45 hw) (w46 hw) (w7 hw) (w8 hw) (w47 hw) e2254 E_c2 (argsL := [(.int 0)]) (rest := []) (q1895 l Z a0 hw [] h0 n0 c2 c3 kc2 _ F_c2_o F_c2_t V_c3) (lenOf pd4 rfl) (hb Y d3_46) fun T2257 L2257 v2257 X2257 hQ2257 => ?_
  obtain ⟨rfl, N2257q, e2257⟩ := hQ2257
  have N2257 := Fr.app N2254 N2257q
  refine iS X2257 hx (L' := #[(rv c2), (.val (.long p1)), .second, (iv 0), (iv 0)]) (hb Y d3_49) rfl <| aN X2257 hx (hb Y d3_51) rfl rfl <| gF X2257 hx hZ hO (w16 hw) Via.refl e2257 F_c2_t (hb Y d3_52) fun T2260 X2260 e2260 => ?_
  refine iL X2260 hx (hb Y d3_55) rfl <| f_lald X2260 hx hZ e2260 V_c3 (v := (.long 10)) rfl (hb Y d3_57) <| lN X2260 hx (hb Y d3_58) rfl <| lC X2260 hx (z := (lcmpW (10 : Int64) p1)) (hb Y d3_59) (q := rfl) <| fN X2260 hx (hb Y d3_60) (hc := (own_gtF z10)) <| aN X2260 hx (hb Y d3_63) rfl rfl <| gF X2260 hx hZ hO (w20 hw) Via.refl e2260 F_c2_r (hb Y d3_64) fun T2261 X2261 e2261 => ?_
  refine iL X2261 hx (hb Y d3_67) rfl <| f_aald X2261 hx hZ e2261 V_c4 rfl (v := r0) rfl (hb Y d3_69) <| f_ifnonnullYv X2261 hx (pc := 70) 76 nv_r0 (hb Y d3_70) <| aN X2261 hx (hb Y d3_76) rfl rfl <| iN X2261 hx (hb Y d3_77) rfl ?_
  have P2272 : St49 Z h0 n0 c1 c2 c3 c4 c5 kc1 kc2 kc3 kc4 (10 : Int64) (20 : Int64) (30 : Int64) (0 : Int64) r0 r1 r2 .null := ⟨E_c1, V_c1, O_c1, E_c2, F_c2_t, F_c2_r, F_c2_c, F_c2_s, F_c2_o, V_c3, E_c4, V_c4, O_c4, E_c5, V_c5, O_c5, g_c1, lt_c1_c2, lt_c2_c3, lt_c3_c4, lt_c4_c5, rf_r0, rw_r0, rf_r1, rw_r1, rf_r2, rw_r2, rfl, (Or.inl rfl)⟩
  refine pV X2261 hx hZ hO (by rw [hml]; rfl) (w52 hw) (w53 hw) (w54 hw) (w7 hw) (w8 hw) (w55 hw) e2261 E_c2 (argsL := [(.int 0)]) (rest := []) (m1916 l Z a0 hw [] h0 n0 c1 c2 c3 c4 c5 kc1 kc2 kc3 kc4 (10 : Int64) (20 : Int64) (30 : Int64) (0 : Int64) r0 r1 r2 .null P2272) (lenOf pd6 rfl) (hb Y d3_78) fun T2262 L2262 v2262 X2262 hQ2262 => ?_
  obtain ⟨rfl, N2262q, P2262⟩ := hQ2262
  obtain ⟨E_c1, V_c1, O_c1, E_c2, F_c2_t, F_c2_r, F_c2_c, F_c2_s, F_c2_o, V_c3, E_c4, V_c4, O_c4, E_c5, V_c5, O_c5, g_c1, lt_c1_c2, lt_c2_c3, lt_c3_c4, lt_c4_c5, _, _, _, _, _, _, _, _⟩ := id P2262
  have N2262 := Fr.app N2257 N2262q
  refine aN X2262 hx (hb Y d3_81) rfl rfl <| gF X2262 hx hZ hO (w31 hw) Via.refl rfl F_c2_s (hb Y d3_82) fun T2273 X2273 e2273 => ?_
  refine fY X2273 hx (pc := 85) 92 (hb Y d3_85) <| iK X2273 hx (z := 0) (hb Y d3_92) ?_
  exact f_ret X2273 hx hlk (i := .ireturn) hret rfl (Or.inl ⟨rfl, Or.inr (Or.inl rfl), _, rfl⟩) (hb Y d3_93) (QQ := (Qm2274 Z n0 c1 c2 c3 c4 c5 kc1 kc2 kc3 kc4 r0 r1 r2 t0 t1 t2 t3 t4 mm p1)) (by rw [e2273]; exact ⟨rfl, N2262, E_c1, V_c1, O_c1, E_c2, F_c2_t, F_c2_r, F_c2_c, F_c2_s, F_c2_o, V_c3, E_c4, V_c4, O_c4, E_c5, V_c5, O_c5, g_c1, lt_c1_c2, lt_c2_c3, lt_c3_c4, lt_c4_c5, ht0, ht1, ht2, ht3, ht4, rf_r0, rw_r0, rb_r0, rf_r1, rw_r1, rb_r1, rf_r2, rw_r2, rb_r2, hm3, nv_r0, z10, z20, z30, tv0⟩) (by decide) (by decide)
theorem F1_10  {cells slots : Nat} (p0 : Int32) (p1 : Int64) (mm : Int32) (gg : Int32) (t0 : Int32) (t1 : Int32) (t2 : Int32) (t3 : Int32) (t4 : Int32) (c1 : Nat) (c2 : Nat) (X0 : Stand p l e room_1 s m args below meth c T0 locs cells slots) (G : SG p s m meth c Z a0) (z10 : ¬ p1 < (10 : Int64)) (z20 : p1 < (20 : Int64)) (z30 : p1 < (30 : Int64)) (tv0 : t0 = (0 : Int32)) (h : EndsSo p e below (LQ s n0) T0 (mkF m 303 (FL p0 p1 3 mm t0 t1 t2 t3 t4 c1 c2 (iv gg) (iv 0) (iv t0) (.val (.long 10)) .second .unset) [])) :
    EndsSo p e below (LQ s n0) T0 (mkF m 209 (FL p0 p1 3 mm t0 t1 t2 t3 t4 c1 c2 (iv gg) .unset .unset .unset .unset .unset) []) := by
  obtain ⟨hx, hZ, hw, Y, hml, hO, hlk, hret⟩ := id G
  refine iK X0 hx (z := 0) (hb Y at_209) <| iS X0 hx (L' := (FL p0 p1 3 mm t0 t1 t2 t3 t4 c1 c2 (iv gg) (iv 0) .unset .unset .unset .unset)) (hb Y at_210) rfl <| iN X0 hx (hb Y at_212) rfl <| iK X0 hx (z := 2) (hb Y at_213) <| cN X0 hx (hb Y at_214) <| lN X0 hx (hb Y at_217) rfl <| f_ldc2 X0 hx hZ hO (w51 hw) (hb Y at_218) <| lC X0 hx (z := (lcmpW p1 (20 : Int64))) (hb Y at_221) (q := rfl) <| fY X0 hx (pc := 222) 228 (hb Y at_222) (hc := (own_ltT z20)) <| iN X0 hx (hb Y at_228) rfl <| iK X0 hx (z := 3) (hb Y at_229) <| cN X0 hx (hb Y at_230) <| lN X0 hx (hb Y at_233) rfl <| f_ldc2 X0 hx hZ hO (w57 hw) (hb Y at_234) <| lC X0 hx (z := (lcmpW p1 (30 : Int64))) (hb Y at_237) (q := rfl) <| fY X0 hx (pc := 238) 244 (hb Y at_238) (hc := (own_ltT z30)) <| iN X0 hx (hb Y at_244) rfl <| iK X0 hx (z := 1) (hb Y at_245) <| cN X0 hx (hb Y at_246) <| iL X0 hx (hb Y at_249) rfl <| fN X0 hx (hb Y at_251) <| iL X0 hx (hb Y at_254) rfl <| gT X0 hx (pc := 256) 272 (hb Y at_256) <| iS X0 hx (L' := (FL p0 p1 3 mm t0 t1 t2 t3 t4 c1 c2 (iv gg) (iv 0) (iv t0) .unset .unset .unset)) (hb Y at_272) rfl <| f_ldc2 X0 hx hZ hO (w38 hw) (hb Y at_274) <| iL X0 hx (hb Y at_277) rfl <| iK X0 hx (z := 1) (hb Y at_279) <| iA X0 hx (z := 1) (hb Y at_280) <| f_i2l X0 hx (z := 1) (hb Y at_281) <| f_lmul X0 hx (z := 10) (hb Y at_282) <| f_lstore X0 hx (L' := (FL p0 p1 3 mm t0 t1 t2 t3 t4 c1 c2 (iv gg) (iv 0) (iv t0) (.val (.long 10)) .second .unset)) (hb Y at_283) rfl <| f_lload X0 hx (hb Y at_285) rfl <| lN X0 hx (hb Y at_287) rfl <| lC X0 hx (z := (lcmpW (10 : Int64) p1)) (hb Y at_288) (q := rfl) <| fN X0 hx (hb Y at_289) (hc := (own_gtF z10)) <| iL X0 hx (hb Y at_292) rfl <| fY X0 hx (pc := 294) 303 (hb Y at_294) (hc := (own_eqT tv0)) ?_
  exact h
theorem C3_34  (c1 : Nat) (c2 : Nat) (c3 : Nat) (c4 : Nat) (c5 : Nat) (kc1 : ClassId) (kc2 : ClassId) (kc3 : ClassId) (kc4 : ClassId) (r0 : Value) (r1 : Value) (r2 : Value) (t0 : Int32) (t1 : Int32) (t2 : Int32) (t3 : Int32) (t4 : Int32) (mm : Int32) (p1 : Int64) (p0 : Int32) (X0 : Stand p l e room_1 s m args below meth c T0 locs 8 25) (G : SG p s m meth c Z a0) (e0 : T0.heap = h0) (N0 : Fr n0 locs) (P : St55 Z h0 n0 c1 c2 c3 c4 c5 kc1 kc2 kc3 kc4 r0 r1 r2 t0 t1 t2 t3 t4 mm p1) :
    EndsSo p e below (LQ s n0) T0 (mkF m 143 (FL p0 p1 3 mm t0 t1 t2 t3 t4 c1 c2 .unset .unset .unset .unset .unset .unset) []) := by
  obtain ⟨hx, hZ, hw, Y, hml, hO, hlk, hret⟩ := id G
  obtain ⟨E_c1, V_c1, O_c1, E_c2, F_c2_t, F_c2_r, F_c2_c, F_c2_s, F_c2_o, V_c3, E_c4, V_c4, O_c4, E_c5, V_c5, O_c5, g_c1, lt_c1_c2, lt_c2_c3, lt_c3_c4, lt_c4_c5, ht0, ht1, ht2, ht3, ht4, rf_r0, rw_r0, rb_r0, rf_r1, rw_r1, rb_r1, rf_r2, rw_r2, rb_r2, hm3, nv_r0, z10, z20, z30, tv0⟩ := id P
  refine aA X0 hx (hb Y at_143) rfl rfl <| lN X0 hx (hb Y at_145) rfl ?_
  have P2275 : St55 Z h0 n0 c1 c2 c3 c4 c5 kc1 kc2 kc3 kc4 r0 r1 r2 t0 t1 t2 t3 t4 mm p1 := ⟨E_c1, V_c1, O_c1, E_c2, F_c2_t, F_c2_r, F_c2_c, F_c2_s, F_c2_o, V_c3, E_c4, V_c4, O_c4, E_c5, V_c5, O_c5, g_c1, lt_c1_c2, lt_c2_c3, lt_c3_c4, lt_c4_c5, ht0, ht1, ht2, ht3, ht4, rf_r0, rw_r0, rb_r0, rf_r1, rw_r1, rb_r1, rf_r2, rw_r2, rb_r2, hm3, nv_r0, z10, z20, z30, tv0⟩
  refine vV X0 hx hZ hO (by rw [hml]; rfl) (w26 hw) (w27 hw) (w29 hw) (w28 hw) (w8 hw) (w30 hw) e0 E_c2 (argsL := [(.long p1)]) (rest := []) (m2274 l Z a0 hw [] h0 n0 c1 c2 c3 c4 c5 kc1 kc2 kc3 kc4 r0 r1 r2 t0 t1 t2 t3 t4 mm p1 P2275) (lenOf pd2 rfl) (hb Y at_146) fun T2215 L2215 v2215 X2215 hQ2215 => ?_
  obtain ⟨rfl, N2215q, P2215⟩ := hQ2215
  obtain ⟨E_c1, V_c1, O_c1, E_c2, F_c2_t, F_c2_r, F_c2_c, F_c2_s, F_c2_o, V_c3, E_c4, V_c4, O_c4, E_c5, V_c5, O_c5, g_c1, lt_c1_c2, lt_c2_c3, lt_c3_c4, lt_c4_c5, ht0, ht1, ht2, ht3, ht4, rf_r0, rw_r0, rb_r0, rf_r1, rw_r1, rb_r1, rf_r2, rw_r2, rb_r2, hm3, nv_r0, z10, z20, z30, tv0⟩ := id P2215
  have N2215 := Fr.app N0 N2215q
  refine f_pop X2215 hx (hb Y at_149) rfl ?_
  rcases id hm3 with rfl | rfl | rfl
  · have P2276 : St50 Z T2215.heap n0 c1 c2 c3 c4 c5 kc1 kc2 kc3 kc4 r0 r1 r2 t0 t1 t2 t3 t4 := ⟨E_c1, V_c1, O_c1, E_c2, F_c2_t, F_c2_r, F_c2_c, F_c2_s, F_c2_o, V_c3, E_c4, V_c4, O_c4, E_c5, V_c5, O_c5, g_c1, lt_c1_c2, lt_c2_c3, lt_c3_c4, lt_c4_c5, ht0, ht1, ht2, ht3, ht4, rf_r0, rw_r0, rb_r0, rf_r1, rw_r1, rb_r1, rf_r2, rw_r2, rb_r2⟩
    exact D0_30 c1 c2 c3 c4 c5 kc1 kc2 kc3 kc4 r0 r1 r2 t0 t1 t2 t3 t4 p0 p1 X2215 G rfl N2215 P2276 (fun T' locs' X' N' => F1_10 p0 p1 (0 : Int32) (1 : Int32) t0 t1 t2 t3 t4 c1 c2 X' G z10 z20 z30 tv0 (F2_26 p0 p1 t0 t1 t2 t3 t4 c1 c2 X' G N' (by decide) (by decide)))
  · have P2277 : St50 Z T2215.heap n0 c1 c2 c3 c4 c5 kc1 kc2 kc3 kc4 r0 r1 r2 t0 t1 t2 t3 t4 := ⟨E_c1, V_c1, O_c1, E_c2, F_c2_t, F_c2_r, F_c2_c, F_c2_s, F_c2_o, V_c3, E_c4, V_c4, O_c4, E_c5, V_c5, O_c5, g_c1, lt_c1_c2, lt_c2_c3, lt_c3_c4, lt_c4_c5, ht0, ht1, ht2, ht3, ht4, rf_r0, rw_r0, rb_r0, rf_r1, rw_r1, rb_r1, rf_r2, rw_r2, rb_r2⟩
    exact D1_31 c1 c2 c3 c4 c5 kc1 kc2 kc3 kc4 r0 r1 r2 t0 t1 t2 t3 t4 p0 p1 X2215 G rfl N2215 P2277 (fun T' locs' X' N' => F1_10 p0 p1 (1 : Int32) (1 : Int32) t0 t1 t2 t3 t4 c1 c2 X' G z10 z20 z30 tv0 (F2_27 p0 p1 t0 t1 t2 t3 t4 c1 c2 X' G N' (by decide) (by decide)))
  · have P2278 : St50 Z T2215.heap n0 c1 c2 c3 c4 c5 kc1 kc2 kc3 kc4 r0 r1 r2 t0 t1 t2 t3 t4 := ⟨E_c1, V_c1, O_c1, E_c2, F_c2_t, F_c2_r, F_c2_c, F_c2_s, F_c2_o, V_c3, E_c4, V_c4, O_c4, E_c5, V_c5, O_c5, g_c1, lt_c1_c2, lt_c2_c3, lt_c3_c4, lt_c4_c5, ht0, ht1, ht2, ht3, ht4, rf_r0, rw_r0, rb_r0, rf_r1, rw_r1, rb_r1, rf_r2, rw_r2, rb_r2⟩
    exact D2_32 c1 c2 c3 c4 c5 kc1 kc2 kc3 kc4 r0 r1 r2 t0 t1 t2 t3 t4 p0 p1 X2215 G rfl N2215 P2278 (fun T' locs' X' N' => F1_10 p0 p1 (2 : Int32) (1 : Int32) t0 t1 t2 t3 t4 c1 c2 X' G z10 z20 z30 tv0 (F2_28 p0 p1 t0 t1 t2 t3 t4 c1 c2 X' G N' (by decide) (by decide)))
def St56 (Z : State) (h : Heap) (n0 : Nat) (c1 : Nat) (c2 : Nat) (c3 : Nat) (c4 : Nat) (c5 : Nat) (kc1 : ClassId) (kc2 : ClassId) (kc3 : ClassId) (kc4 : ClassId) (r0 : Value) (r1 : Value) (r2 : Value) (t0 : Int32) (t1 : Int32) (t2 : Int32) (t3 : Int32) (t4 : Int32) (mm : Int32) (p1 : Int64) : Prop :=
  xO Z h c1 ∧
  Arv Z h c1 kc1 (.object "java/lang/Object") 1 [.null] .null ∧
  Ovr Z kc1 "java/lang/Object" ∧
  Exa Z h c2 cV ∧
  fT Z h c2 (.ref c3) ∧
  fR Z h c2 (.ref c4) ∧
  fC Z h c2 (.ref c5) ∧
  fS Z h c2 (.int 3) ∧
  fO Z h c2 (.int 0) ∧
  aL Z h c3 kc2 4 [(.long 10), (.long 20), (.long 30), (.long 0)] ∧
  xR Z h c4 ∧
  aR Z h c4 kc3 4 [r0, r1, r2, .null] ∧
  oR Z kc3 ∧
  xC Z h c5 ∧
  aC Z h c5 kc4 4 [.null, .null, .null, .null] ∧
  oC Z kc4 ∧
  n0 ≤ c1 ∧
  c1 < c2 ∧
  c2 < c3 ∧
  c3 < c4 ∧
  c4 < c5 ∧
  (t0 = (0 : Int32) ∨ t0 = (1 : Int32)) ∧
  (t1 = (0 : Int32) ∨ t1 = (1 : Int32)) ∧
  (t2 = (0 : Int32) ∨ t2 = (1 : Int32)) ∧
  (t3 = (0 : Int32) ∨ t3 = (1 : Int32)) ∧
  (t4 = (0 : Int32) ∨ t4 = (1 : Int32)) ∧
  r0.isRef = true ∧
  (r0 = .null ∨ r0 = .ref c1) ∧
  ((t0 = (0 : Int32) ∧ r0 = .ref c1) ∨ (t0 = (1 : Int32) ∧ r0 = .null)) ∧
  r1.isRef = true ∧
  (r1 = .null ∨ r1 = .ref c1) ∧
  ((t1 = (0 : Int32) ∧ r1 = .ref c1) ∨ (t1 = (1 : Int32) ∧ r1 = .null)) ∧
  r2.isRef = true ∧
  (r2 = .null ∨ r2 = .ref c1) ∧
  ((t2 = (0 : Int32) ∧ r2 = .ref c1) ∨ (t2 = (1 : Int32) ∧ r2 = .null)) ∧
  (mm = (0 : Int32) ∨ mm = (1 : Int32) ∨ mm = (2 : Int32)) ∧
  r0 = .null ∧
  ¬ p1 < (10 : Int64) ∧
  p1 < (20 : Int64) ∧
  p1 < (30 : Int64) ∧
  t0 = (1 : Int32)
def St57 (Z : State) (h : Heap) (n0 : Nat) (c1 : Nat) (c2 : Nat) (c3 : Nat) (c4 : Nat) (c5 : Nat) (kc1 : ClassId) (kc2 : ClassId) (kc3 : ClassId) (kc4 : ClassId) (uu1 : Int64) (uu2 : Int64) (uu3 : Int64) (uu4 : Int64) (ww6 : Value) (ww7 : Value) (ww8 : Value) (ww5 : Value) : Prop :=
  xO Z h c1 ∧
  Arv Z h c1 kc1 (.object "java/lang/Object") 1 [.null] .null ∧
  Ovr Z kc1 "java/lang/Object" ∧
  Exa Z h c2 cV ∧
  fT Z h c2 (.ref c3) ∧
  fR Z h c2 (.ref c4) ∧
  fC Z h c2 (.ref c5) ∧
  fS Z h c2 (.int 2) ∧
  fO Z h c2 (.int 1) ∧
  aL Z h c3 kc2 4 [(.long uu1), (.long uu2), (.long uu3), (.long uu4)] ∧
  xR Z h c4 ∧
  aR Z h c4 kc3 4 [.null, ww6, ww7, ww8] ∧
  oR Z kc3 ∧
  xC Z h c5 ∧
  aC Z h c5 kc4 4 [.null, .null, .null, .null] ∧
  oC Z kc4 ∧
  n0 ≤ c1 ∧
  c1 < c2 ∧
  c2 < c3 ∧
  c3 < c4 ∧
  c4 < c5 ∧
  ww5.isRef = true ∧
  (ww5 = .null ∨ ww5 = .ref c1) ∧
  ww6.isRef = true ∧
  (ww6 = .null ∨ ww6 = .ref c1) ∧
  ww7.isRef = true ∧
  (ww7 = .null ∨ ww7 = .ref c1) ∧
  ww8.isRef = true ∧
  (ww8 = .null ∨ ww8 = .ref c1)
def Qm2396 (Z : State) (n0 : Nat) (c1 : Nat) (c2 : Nat) (c3 : Nat) (c4 : Nat) (c5 : Nat) (kc1 : ClassId) (kc2 : ClassId) (kc3 : ClassId) (kc4 : ClassId) (uu1 : Int64) (uu2 : Int64) (uu3 : Int64) (uu4 : Int64) (ww5 : Value) (ww6 : Value) (ww7 : Value) (ww8 : Value) (v : Option Value) (h : Heap) (L : List Loc) : Prop := v = none ∧ Fr n0 L ∧ St57 Z h n0 c1 c2 c3 c4 c5 kc1 kc2 kc3 kc4 uu1 uu2 uu3 uu4 ww6 ww7 ww8 ww5
theorem m2396 (l : Launch) (Z : State) (a0 : Array Value) (hw : HW a0 Z) (ws : List Jvm.Cond) (h0 : Heap) (n0 : Nat) (c1 : Nat) (c2 : Nat) (c3 : Nat) (c4 : Nat) (c5 : Nat) (kc1 : ClassId) (kc2 : ClassId) (kc3 : ClassId) (kc4 : ClassId) (uu1 : Int64) (uu2 : Int64) (uu3 : Int64) (uu4 : Int64) (ww5 : Value) (ww6 : Value) (ww7 : Value) (ww8 : Value) (P : St49 Z h0 n0 c1 c2 c3 c4 c5 kc1 kc2 kc3 kc4 uu1 uu2 uu3 uu4 ww5 ww6 ww7 ww8) :
    MC l Z y7 prog_95_method_9_code 3 none ws rm_1_0_0_14 #[(.ref c2), (.int 1)] h0 (Qm2396 Z n0 c1 c2 c3 c4 c5 kc1 kc2 kc3 kc4 uu1 uu2 uu3 uu4 ww5 ww6 ww7 ww8) := by
  obtain ⟨E_c1, V_c1, O_c1, E_c2, F_c2_t, F_c2_r, F_c2_c, F_c2_s, F_c2_o, V_c3, E_c4, V_c4, O_c4, E_c5, V_c5, O_c5, g_c1, lt_c1_c2, lt_c2_c3, lt_c3_c4, lt_c4_c5, rf_ww5, rw_ww5, rf_ww6, rw_ww6, rf_ww7, rw_ww7, rf_ww8, rw_ww8⟩ := id P
  refine own_met (plainFor_of_name pn7) fun p e s m below meth c s₁ X0 hx hZ Y hml hO hnm hlk hret e0 => f_cast (f' := mkF m 0 #[(rv c2), (iv 1), .unset] []) (by first | (simp [entryFrame, mkF, argsToLocals, Value.category]; done) | rfl) ?_
  have N0 := Fr.nil n0
  refine iK X0 hx (z := 0) (hb Y d7_0) <| sN X0 hx (L' := #[(rv c2), (iv 1), (iv 0)]) (hb Y d7_1) rfl <| iN X0 hx (hb Y d7_2) rfl <| iN X0 hx (hb Y d7_3) rfl <| cN X0 hx (hb Y d7_4) <| aN X0 hx (hb Y d7_7) rfl rfl <| gF X0 hx hZ hO (w20 hw) Via.refl e0 F_c2_r (hb Y d7_8) fun T2377 X2377 e2377 => ?_
  refine aN X2377 hx (hb Y d7_11) rfl rfl <| iN X2377 hx (hb Y d7_12) rfl <| pV X2377 hx hZ hO (by rw [hml]; rfl) (w44 hw) (w45 hw) (w46 hw) (w7 hw) (w8 hw) (w47 hw) e2377 E_c2 (argsL := [(.int 0)]) (rest := [(.ref c4)]) (q1895 l Z a0 hw [] h0 n0 c2 c3 kc2 _ F_c2_o F_c2_t V_c3) (lenOf pd4 rfl) (hb Y d7_13) fun T2378 L2378 v2378 X2378 hQ2378 => ?_
  obtain ⟨rfl, N2378q, e2378⟩ := hQ2378
  have N2378 := Fr.app N0 N2378q
  refine f_null X2378 hx (hb Y d7_16) <| f_ast X2378 hx hZ e2378 V_c4 rfl (Or.inl rfl) rfl 0 (hb Y d7_17) fun T2381 h2381 X2381 e2381 W2381 V2381 => ?_
  have N2381x := Fr.snoc X2381 N2378 (by omega : n0 ≤ c4)
  refine aN X2381 hx (hb Y d7_18) rfl rfl ?_
  replace F_c2_c := (fo W2381 F_c2_c)
  refine gF X2381 hx hZ hO (w24 hw) Via.refl e2381 F_c2_c (hb Y d7_19) fun T2382 X2382 e2382 => ?_
  refine aN X2382 hx (hb Y d7_22) rfl rfl <| iN X2382 hx (hb Y d7_23) rfl ?_
  replace F_c2_o := (fo W2381 F_c2_o)
  replace F_c2_t := (fo W2381 F_c2_t)
  replace V_c3 := (vo V_c3 W2381)
  replace E_c2 := (xw W2381 E_c2)
  refine pV X2382 hx hZ hO (by rw [hml]; rfl) (w44 hw) (w45 hw) (w46 hw) (w7 hw) (w8 hw) (w47 hw) e2382 E_c2 (argsL := [(.int 0)]) (rest := [(.ref c5)]) (q1895 l Z a0 hw [] h2381 n0 c2 c3 kc2 _ F_c2_o F_c2_t V_c3) (lenOf pd4 rfl) (hb Y d7_24) fun T2383 L2383 v2383 X2383 hQ2383 => ?_
  obtain ⟨rfl, N2383q, e2383⟩ := hQ2383
  have N2383 := Fr.app N2381x N2383q
  refine f_null X2383 hx (hb Y d7_27) ?_
  replace V_c5 := (vo V_c5 W2381)
  refine f_ast X2383 hx hZ e2383 V_c5 rfl (Or.inl rfl) rfl 0 (hb Y d7_28) fun T2386 h2386 X2386 e2386 W2386 V2386 => ?_
  have N2386x := Fr.snoc X2386 N2383 (by omega : n0 ≤ c5)
  refine f_iinc X2386 hx (L' := #[(rv c2), (iv 1), (iv 1)]) (hb Y d7_29) rfl rfl <| gT X2386 hx (pc := 32) 2 (hb Y d7_32) <| iN X2386 hx (hb Y d7_2) rfl <| iN X2386 hx (hb Y d7_3) rfl <| cY X2386 hx (pc := 4) 35 (hb Y d7_4) <| aN X2386 hx (hb Y d7_35) rfl rfl <| aN X2386 hx (hb Y d7_36) rfl rfl <| iN X2386 hx (hb Y d7_37) rfl ?_
  replace F_c2_o := (fo W2386 F_c2_o)
  replace F_c2_t := (fo W2386 F_c2_t)
  replace V_c3 := (vo V_c3 W2386)
  replace E_c2 := (xw W2386 E_c2)
  refine pV X2386 hx hZ hO (by rw [hml]; rfl) (w44 hw) (w45 hw) (w46 hw) (w7 hw) (w8 hw) (w47 hw) e2386 E_c2 (argsL := [(.int 1)]) (rest := [(.ref c2)]) (q1891 l Z a0 hw [] h2386 n0 c2 c3 kc2 _ F_c2_o F_c2_t V_c3) (lenOf pd4 rfl) (hb Y d7_38) fun T2387 L2387 v2387 X2387 hQ2387 => ?_
  obtain ⟨rfl, N2387q, e2387⟩ := hQ2387
  have N2387 := Fr.app N2386x N2387q
  refine f_putF X2387 hx hZ hO (w48 hw) Via.refl e2387 F_c2_o E_c2 (Or.inl (w49 hw)) (w7 hw) (ty := .int) (by decide) rfl rfl (hb Y d7_41) fun T2390 h2390 X2390 e2390 W2390 => ?_
  have N2390x := Fr.snoc X2390 N2387 (by omega : n0 ≤ c2)
  refine aN X2390 hx (hb Y d7_44) rfl rfl <| f_dup X2390 hx (hb Y d7_45) rfl ?_
  replace F_c2_s := (Fld.other W2390 (fo W2386 (fo W2381 F_c2_s)) (Or.inr (slot_ne (Or.inl (w32 hw)) (Or.inl (w49 hw)) (by decide) (t := .int) (t' := .int) (by decide) (by decide))))
  refine gF X2390 hx hZ hO (w31 hw) Via.refl e2390 F_c2_s (hb Y d7_46) fun T2391 X2391 e2391 => ?_
  refine iN X2391 hx (hb Y d7_49) rfl <| iB X2391 hx (z := 2) (hb Y d7_50) ?_
  replace E_c2 := (xw W2390 E_c2)
  refine f_putF X2391 hx hZ hO (w31 hw) Via.refl e2391 F_c2_s E_c2 (Or.inl (w32 hw)) (w7 hw) (ty := .int) (by decide) rfl rfl (hb Y d7_51) fun T2392 h2392 X2392 e2392 W2392 => ?_
  have N2392x := Fr.snoc X2392 N2390x (by omega : n0 ≤ c2)
  refine aN X2392 hx (hb Y d7_54) rfl rfl ?_
  replace F_c2_t := (Fld.other W2392 (Fld.other W2390 F_c2_t (Or.inr (slot_ne (Or.inl (w17 hw)) (Or.inl (w49 hw)) (by decide) (t := (.array .long)) (t' := .int) (by decide) (by decide)))) (Or.inr (slot_ne (Or.inl (w17 hw)) (Or.inl (w32 hw)) (by decide) (t := (.array .long)) (t' := .int) (by decide) (by decide))))
  refine gF X2392 hx hZ hO (w16 hw) Via.refl e2392 F_c2_t (hb Y d7_55) fun T2393 X2393 e2393 => ?_
  replace V_c3 := (vo (vo V_c3 W2390) W2392)
  refine f_len X2393 hx hZ e2393 V_c3 (hb Y d7_58) <| iK X2393 hx (z := 2) (hb Y d7_59) <| cN X2393 hx (hb Y d7_60) <| aN X2393 hx (hb Y d7_63) rfl rfl ?_
  replace F_c2_s := (Fld.same W2392 F_c2_s)
  refine gF X2393 hx hZ hO (w31 hw) Via.refl e2393 F_c2_s (hb Y d7_64) fun T2394 X2394 e2394 => ?_
  refine aN X2394 hx (hb Y d7_67) rfl rfl <| gF X2394 hx hZ hO (w16 hw) Via.refl e2394 F_c2_t (hb Y d7_68) fun T2395 X2395 e2395 => ?_
  refine f_len X2395 hx hZ e2395 V_c3 (hb Y d7_71) <| iK X2395 hx (z := 4) (hb Y d7_72) <| f_idiv X2395 hx (z := 1) (hb Y d7_73) (by decide) <| cY X2395 hx (pc := 74) 94 (hb Y d7_74) ?_
  exact f_ret0 X2395 hx hlk hret (hb Y d7_94) (QQ := (Qm2396 Z n0 c1 c2 c3 c4 c5 kc1 kc2 kc3 kc4 uu1 uu2 uu3 uu4 ww5 ww6 ww7 ww8)) (by rw [e2395]; exact ⟨rfl, N2392x, (xw W2392 (xw W2390 (xw W2386 (xw W2381 E_c1)))), (vo (vo (vo (vo V_c1 W2381) W2386) W2390) W2392), O_c1, (xw W2392 E_c2), F_c2_t, (Fld.other W2392 (Fld.other W2390 (fo W2386 (fo W2381 F_c2_r)) (Or.inr (slot_ne (Or.inl (w21 hw)) (Or.inl (w49 hw)) (by decide) (t := (.array (.array (.object "java/lang/Object")))) (t' := .int) (by decide) (by decide)))) (Or.inr (slot_ne (Or.inl (w21 hw)) (Or.inl (w32 hw)) (by decide) (t := (.array (.array (.object "java/lang/Object")))) (t' := .int) (by decide) (by decide)))), (Fld.other W2392 (Fld.other W2390 (fo W2386 F_c2_c) (Or.inr (slot_ne (Or.inl (w25 hw)) (Or.inl (w49 hw)) (by decide) (t := (.array (.array .int))) (t' := .int) (by decide) (by decide)))) (Or.inr (slot_ne (Or.inl (w25 hw)) (Or.inl (w32 hw)) (by decide) (t := (.array (.array .int))) (t' := .int) (by decide) (by decide)))), F_c2_s, (Fld.other W2392 (Fld.same W2390 F_c2_o) (Or.inr (slot_ne (Or.inl (w49 hw)) (Or.inl (w32 hw)) (by decide) (t := .int) (t' := .int) (by decide) (by decide)))), V_c3, (xw W2392 (xw W2390 (xw W2386 (xw W2381 E_c4)))), (vo (vo (vo V2381 W2386) W2390) W2392), O_c4, (xw W2392 (xw W2390 (xw W2386 (xw W2381 E_c5)))), (vo (vo V2386 W2390) W2392), O_c5, g_c1, lt_c1_c2, lt_c2_c3, lt_c3_c4, lt_c4_c5, rf_ww5, rw_ww5, rf_ww6, rw_ww6, rf_ww7, rw_ww7, rf_ww8, rw_ww8⟩) (by decide) (by decide)
def St58 (Z : State) (h : Heap) (n0 : Nat) (c1 : Nat) (c2 : Nat) (c3 : Nat) (c4 : Nat) (c5 : Nat) (kc1 : ClassId) (kc2 : ClassId) (kc3 : ClassId) (kc4 : ClassId) (r1 : Value) (r2 : Value) (t0 : Int32) (t1 : Int32) (t2 : Int32) (t3 : Int32) (t4 : Int32) (r0 : Value) (mm : Int32) (p1 : Int64) : Prop :=
  xO Z h c1 ∧
  Arv Z h c1 kc1 (.object "java/lang/Object") 1 [.null] .null ∧
  Ovr Z kc1 "java/lang/Object" ∧
  Exa Z h c2 cV ∧
  fT Z h c2 (.ref c3) ∧
  fR Z h c2 (.ref c4) ∧
  fC Z h c2 (.ref c5) ∧
  fS Z h c2 (.int 2) ∧
  fO Z h c2 (.int 1) ∧
  aL Z h c3 kc2 4 [(.long 10), (.long 20), (.long 30), (.long 0)] ∧
  xR Z h c4 ∧
  aR Z h c4 kc3 4 [.null, r1, r2, .null] ∧
  oR Z kc3 ∧
  xC Z h c5 ∧
  aC Z h c5 kc4 4 [.null, .null, .null, .null] ∧
  oC Z kc4 ∧
  n0 ≤ c1 ∧
  c1 < c2 ∧
  c2 < c3 ∧
  c3 < c4 ∧
  c4 < c5 ∧
  (t0 = (0 : Int32) ∨ t0 = (1 : Int32)) ∧
  (t1 = (0 : Int32) ∨ t1 = (1 : Int32)) ∧
  (t2 = (0 : Int32) ∨ t2 = (1 : Int32)) ∧
  (t3 = (0 : Int32) ∨ t3 = (1 : Int32)) ∧
  (t4 = (0 : Int32) ∨ t4 = (1 : Int32)) ∧
  r0.isRef = true ∧
  (r0 = .null ∨ r0 = .ref c1) ∧
  ((t0 = (0 : Int32) ∧ r0 = .ref c1) ∨ (t0 = (1 : Int32) ∧ r0 = .null)) ∧
  r1.isRef = true ∧
  (r1 = .null ∨ r1 = .ref c1) ∧
  ((t1 = (0 : Int32) ∧ r1 = .ref c1) ∨ (t1 = (1 : Int32) ∧ r1 = .null)) ∧
  r2.isRef = true ∧
  (r2 = .null ∨ r2 = .ref c1) ∧
  ((t2 = (0 : Int32) ∧ r2 = .ref c1) ∨ (t2 = (1 : Int32) ∧ r2 = .null)) ∧
  (mm = (0 : Int32) ∨ mm = (1 : Int32) ∨ mm = (2 : Int32)) ∧
  r0 = .null ∧
  ¬ p1 < (10 : Int64) ∧
  p1 < (20 : Int64) ∧
  p1 < (30 : Int64) ∧
  t0 = (1 : Int32)
def Qm2399 (Z : State) (n0 : Nat) (c1 : Nat) (c2 : Nat) (c3 : Nat) (c4 : Nat) (c5 : Nat) (kc1 : ClassId) (kc2 : ClassId) (kc3 : ClassId) (kc4 : ClassId) (r0 : Value) (r1 : Value) (r2 : Value) (t0 : Int32) (t1 : Int32) (t2 : Int32) (t3 : Int32) (t4 : Int32) (mm : Int32) (p1 : Int64) (v : Option Value) (h : Heap) (L : List Loc) : Prop := v = some (.int 0) ∧ Fr n0 L ∧ St58 Z h n0 c1 c2 c3 c4 c5 kc1 kc2 kc3 kc4 r1 r2 t0 t1 t2 t3 t4 r0 mm p1
theorem m2399 (l : Launch) (Z : State) (a0 : Array Value) (hw : HW a0 Z) (ws : List Jvm.Cond) (h0 : Heap) (n0 : Nat) (c1 : Nat) (c2 : Nat) (c3 : Nat) (c4 : Nat) (c5 : Nat) (kc1 : ClassId) (kc2 : ClassId) (kc3 : ClassId) (kc4 : ClassId) (r0 : Value) (r1 : Value) (r2 : Value) (t0 : Int32) (t1 : Int32) (t2 : Int32) (t3 : Int32) (t4 : Int32) (mm : Int32) (p1 : Int64) (P : St56 Z h0 n0 c1 c2 c3 c4 c5 kc1 kc2 kc3 kc4 r0 r1 r2 t0 t1 t2 t3 t4 mm p1) :
    MC l Z y3 prog_95_method_5_code 5 (some .boolean) ws rm_2_0_0_28 #[(.ref c2), (.long p1)] h0 (Qm2399 Z n0 c1 c2 c3 c4 c5 kc1 kc2 kc3 kc4 r0 r1 r2 t0 t1 t2 t3 t4 mm p1) := by
  obtain ⟨E_c1, V_c1, O_c1, E_c2, F_c2_t, F_c2_r, F_c2_c, F_c2_s, F_c2_o, V_c3, E_c4, V_c4, O_c4, E_c5, V_c5, O_c5, g_c1, lt_c1_c2, lt_c2_c3, lt_c3_c4, lt_c4_c5, ht0, ht1, ht2, ht3, ht4, rf_r0, rw_r0, rb_r0, rf_r1, rw_r1, rb_r1, rf_r2, rw_r2, rb_r2, hm3, nv_r0, z10, z20, z30, tv0⟩ := id P
  refine own_met (plainFor_of_name pn3) fun p e s m below meth c s₁ X0 hx hZ Y hml hO hnm hlk hret e0 => f_cast (f' := mkF m 0 #[(rv c2), (.val (.long p1)), .second, .unset, .unset] []) (by first | (simp [entryFrame, mkF, argsToLocals, Value.category]; done) | rfl) ?_
  have N0 := Fr.nil n0
  refine aN X0 hx (hb Y d3_0) rfl rfl <| gF X0 hx hZ hO (w31 hw) Via.refl e0 F_c2_s (hb Y d3_1) fun T2346 X2346 e2346 => ?_
  refine fY X2346 hx (pc := 4) 9 (hb Y d3_4) <| iK X2346 hx (z := 0) (hb Y d3_9) <| sN X2346 hx (L' := #[(rv c2), (.val (.long p1)), .second, (iv 0), .unset]) (hb Y d3_10) rfl <| iN X2346 hx (hb Y d3_11) rfl <| iK X2346 hx (z := 1) (hb Y d3_12) <| iA X2346 hx (z := 1) (hb Y d3_13) <| aN X2346 hx (hb Y d3_14) rfl rfl <| gF X2346 hx hZ hO (w31 hw) Via.refl e2346 F_c2_s (hb Y d3_15) fun T2347 X2347 e2347 => ?_
  refine cN X2347 hx (hb Y d3_18) <| aN X2347 hx (hb Y d3_21) rfl rfl <| gF X2347 hx hZ hO (w16 hw) Via.refl e2347 F_c2_t (hb Y d3_22) fun T2348 X2348 e2348 => ?_
  refine aN X2348 hx (hb Y d3_25) rfl rfl <| iN X2348 hx (hb Y d3_26) rfl <| iK X2348 hx (z := 1) (hb Y d3_27) <| iA X2348 hx (z := 1) (hb Y d3_28) <| pV X2348 hx hZ hO (by rw [hml]; rfl) (w44 hw) (w45 hw) (w46 hw) (w7 hw) (w8 hw) (w47 hw) e2348 E_c2 (argsL := [(.int 1)]) (rest := [(.ref c3)]) (q1891 l Z a0 hw [] h0 n0 c2 c3 kc2 _ F_c2_o F_c2_t V_c3) (lenOf pd4 rfl) (hb Y d3_29) fun T2349 L2349 v2349 X2349 hQ2349 => ?_
  obtain ⟨rfl, N2349q, e2349⟩ := hQ2349
  have N2349 := Fr.app N0 N2349q
  refine f_lald X2349 hx hZ e2349 V_c3 (v := (.long 20)) rfl (hb Y d3_32) <| lN X2349 hx (hb Y d3_33) rfl <| lC X2349 hx (z := (lcmpW (20 : Int64) p1)) (hb Y d3_34) (q := rfl) <| fY X2349 hx (pc := 35) 44 (hb Y d3_35) (hc := (own_gtT z20)) <| aN X2349 hx (hb Y d3_44) rfl rfl <| iN X2349 hx (hb Y d3_45) rfl <| pV X2349 hx hZ hO (by rw [hml]; rfl) (w44 hw) (w45 hw) (w46 hw) (w7 hw) (w8 hw) (w47 hw) e2349 E_c2 (argsL := [(.int 0)]) (rest := []) (q1895 l Z a0 hw [] h0 n0 c2 c3 kc2 _ F_c2_o F_c2_t V_c3) (lenOf pd4 rfl) (hb Y d3_46) fun T2352 L2352 v2352 X2352 hQ2352 => ?_
  obtain ⟨rfl, N2352q, e2352⟩ := hQ2352
  have N2352 := Fr.app N2349 N2352q
  refine iS X2352 hx (L' := #[(rv c2), (.val (.long p1)), .second, (iv 0), (iv 0)]) (hb Y d3_49) rfl <| aN X2352 hx (hb Y d3_51) rfl rfl <| gF X2352 hx hZ hO (w16 hw) Via.refl e2352 F_c2_t (hb Y d3_52) fun T2355 X2355 e2355 => ?_
  refine iL X2355 hx (hb Y d3_55) rfl <| f_lald X2355 hx hZ e2355 V_c3 (v := (.long 10)) rfl (hb Y d3_57) <| lN X2355 hx (hb Y d3_58) rfl <| lC X2355 hx (z := (lcmpW (10 : Int64) p1)) (hb Y d3_59) (q := rfl) <| fN X2355 hx (hb Y d3_60) (hc := (own_gtF z10)) <| aN X2355 hx (hb Y d3_63) rfl rfl <| gF X2355 hx hZ hO (w20 hw) Via.refl e2355 F_c2_r (hb Y d3_64) fun T2356 X2356 e2356 => ?_
  refine iL X2356 hx (hb Y d3_67) rfl <| f_aald X2356 hx hZ e2356 V_c4 rfl (v := r0) rfl (hb Y d3_69) <| f_ifnonnullNv X2356 hx nv_r0 (hb Y d3_70) <| f_iinc X2356 hx (L' := #[(rv c2), (.val (.long p1)), .second, (iv 1), (iv 0)]) (hb Y d3_73) rfl rfl <| aN X2356 hx (hb Y d3_76) rfl rfl <| iN X2356 hx (hb Y d3_77) rfl ?_
  have P2397 : St49 Z h0 n0 c1 c2 c3 c4 c5 kc1 kc2 kc3 kc4 (10 : Int64) (20 : Int64) (30 : Int64) (0 : Int64) r0 r1 r2 .null := ⟨E_c1, V_c1, O_c1, E_c2, F_c2_t, F_c2_r, F_c2_c, F_c2_s, F_c2_o, V_c3, E_c4, V_c4, O_c4, E_c5, V_c5, O_c5, g_c1, lt_c1_c2, lt_c2_c3, lt_c3_c4, lt_c4_c5, rf_r0, rw_r0, rf_r1, rw_r1, rf_r2, rw_r2, rfl, (Or.inl rfl)⟩
  refine pV X2356 hx hZ hO (by rw [hml]; rfl) (w52 hw) (w53 hw) (w54 hw) (w7 hw) (w8 hw) (w55 hw) e2356 E_c2 (argsL := [(.int 1)]) (rest := []) (m2396 l Z a0 hw [] h0 n0 c1 c2 c3 c4 c5 kc1 kc2 kc3 kc4 (10 : Int64) (20 : Int64) (30 : Int64) (0 : Int64) r0 r1 r2 .null P2397) (lenOf pd6 rfl) (hb Y d3_78) fun T2357 L2357 v2357 X2357 hQ2357 => ?_
  obtain ⟨rfl, N2357q, P2357⟩ := hQ2357
  obtain ⟨E_c1, V_c1, O_c1, E_c2, F_c2_t, F_c2_r, F_c2_c, F_c2_s, F_c2_o, V_c3, E_c4, V_c4, O_c4, E_c5, V_c5, O_c5, g_c1, lt_c1_c2, lt_c2_c3, lt_c3_c4, lt_c4_c5, _, _, _, _, _, _, _, _⟩ := id P2357
  have N2357 := Fr.app N2352 N2357q
  refine aN X2357 hx (hb Y d3_81) rfl rfl <| gF X2357 hx hZ hO (w31 hw) Via.refl rfl F_c2_s (hb Y d3_82) fun T2398 X2398 e2398 => ?_
  refine fY X2398 hx (pc := 85) 92 (hb Y d3_85) <| iK X2398 hx (z := 0) (hb Y d3_92) ?_
  exact f_ret X2398 hx hlk (i := .ireturn) hret rfl (Or.inl ⟨rfl, Or.inr (Or.inl rfl), _, rfl⟩) (hb Y d3_93) (QQ := (Qm2399 Z n0 c1 c2 c3 c4 c5 kc1 kc2 kc3 kc4 r0 r1 r2 t0 t1 t2 t3 t4 mm p1)) (by rw [e2398]; exact ⟨rfl, N2357, E_c1, V_c1, O_c1, E_c2, F_c2_t, F_c2_r, F_c2_c, F_c2_s, F_c2_o, V_c3, E_c4, V_c4, O_c4, E_c5, V_c5, O_c5, g_c1, lt_c1_c2, lt_c2_c3, lt_c3_c4, lt_c4_c5, ht0, ht1, ht2, ht3, ht4, rf_r0, rw_r0, rb_r0, rf_r1, rw_r1, rb_r1, rf_r2, rw_r2, rb_r2, hm3, nv_r0, z10, z20, z30, tv0⟩) (by decide) (by decide)
def St59 (Z : State) (h : Heap) (n0 : Nat) (c1 : Nat) (c2 : Nat) (c3 : Nat) (c4 : Nat) (c5 : Nat) (kc1 : ClassId) (kc2 : ClassId) (kc3 : ClassId) (kc4 : ClassId) (r1 : Value) (r2 : Value) (t0 : Int32) (t1 : Int32) (t2 : Int32) (t3 : Int32) (t4 : Int32) (r0 : Value) : Prop :=
  xO Z h c1 ∧
  Arv Z h c1 kc1 (.object "java/lang/Object") 1 [.null] .null ∧
  Ovr Z kc1 "java/lang/Object" ∧
  Exa Z h c2 cV ∧
  fT Z h c2 (.ref c3) ∧
  fR Z h c2 (.ref c4) ∧
  fC Z h c2 (.ref c5) ∧
  fS Z h c2 (.int 2) ∧
  fO Z h c2 (.int 1) ∧
  aL Z h c3 kc2 4 [(.long 10), (.long 20), (.long 30), (.long 0)] ∧
  xR Z h c4 ∧
  aR Z h c4 kc3 4 [.null, r1, r2, .null] ∧
  oR Z kc3 ∧
  xC Z h c5 ∧
  aC Z h c5 kc4 4 [.null, .null, .null, .null] ∧
  oC Z kc4 ∧
  n0 ≤ c1 ∧
  c1 < c2 ∧
  c2 < c3 ∧
  c3 < c4 ∧
  c4 < c5 ∧
  (t0 = (0 : Int32) ∨ t0 = (1 : Int32)) ∧
  (t1 = (0 : Int32) ∨ t1 = (1 : Int32)) ∧
  (t2 = (0 : Int32) ∨ t2 = (1 : Int32)) ∧
  (t3 = (0 : Int32) ∨ t3 = (1 : Int32)) ∧
  (t4 = (0 : Int32) ∨ t4 = (1 : Int32)) ∧
  r0.isRef = true ∧
  (r0 = .null ∨ r0 = .ref c1) ∧
  ((t0 = (0 : Int32) ∧ r0 = .ref c1) ∨ (t0 = (1 : Int32) ∧ r0 = .null)) ∧
  r1.isRef = true ∧
  (r1 = .null ∨ r1 = .ref c1) ∧
  ((t1 = (0 : Int32) ∧ r1 = .ref c1) ∨ (t1 = (1 : Int32) ∧ r1 = .null)) ∧
  r2.isRef = true ∧
  (r2 = .null ∨ r2 = .ref c1) ∧
  ((t2 = (0 : Int32) ∧ r2 = .ref c1) ∨ (t2 = (1 : Int32) ∧ r2 = .null))
theorem D0_35  (c1 : Nat) (c2 : Nat) (c3 : Nat) (c4 : Nat) (c5 : Nat) (kc1 : ClassId) (kc2 : ClassId) (kc3 : ClassId) (kc4 : ClassId) (r1 : Value) (r2 : Value) (t0 : Int32) (t1 : Int32) (t2 : Int32) (t3 : Int32) (t4 : Int32) (r0 : Value) (p0 : Int32) (p1 : Int64) (X0 : Stand p l e room_1 s m args below meth c T0 locs 8 25) (G : SG p s m meth c Z a0) (e0 : T0.heap = h0) (N0 : Fr n0 locs) (P : St59 Z h0 n0 c1 c2 c3 c4 c5 kc1 kc2 kc3 kc4 r1 r2 t0 t1 t2 t3 t4 r0) (hk0 : ∀ (T' : State) (locs' : List Loc), Stand p l e room_1 s m args below meth c T' locs' 8 25 → Fr n0 locs' → EndsSo p e below (LQ s n0) T' (mkF m 209 (FL p0 p1 3 0 t0 t1 t2 t3 t4 c1 c2 (iv 1) .unset .unset .unset .unset .unset) [])) :
    EndsSo p e below (LQ s n0) T0 (mkF m 150 (FL p0 p1 3 0 t0 t1 t2 t3 t4 c1 c2 .unset .unset .unset .unset .unset .unset) []) := by
  obtain ⟨hx, hZ, hw, Y, hml, hO, hlk, hret⟩ := id G
  obtain ⟨E_c1, V_c1, O_c1, E_c2, F_c2_t, F_c2_r, F_c2_c, F_c2_s, F_c2_o, V_c3, E_c4, V_c4, O_c4, E_c5, V_c5, O_c5, g_c1, lt_c1_c2, lt_c2_c3, lt_c3_c4, lt_c4_c5, ht0, ht1, ht2, ht3, ht4, rf_r0, rw_r0, rb_r0, rf_r1, rw_r1, rb_r1, rf_r2, rw_r2, rb_r2⟩ := id P
  refine iL X0 hx (hb Y at_150) rfl <| iK X0 hx (z := 1) (hb Y at_152) <| cY X0 hx (pc := 153) 176 (hb Y at_153) <| iL X0 hx (hb Y at_176) rfl <| iK X0 hx (z := 2) (hb Y at_178) <| cY X0 hx (pc := 179) 202 (hb Y at_179) <| aA X0 hx (hb Y at_202) rfl rfl <| vV X0 hx hZ hO (by rw [hml]; rfl) (w33 hw) (w34 hw) (w36 hw) (w35 hw) (w8 hw) (w37 hw) e0 E_c2 (argsL := []) (rest := []) (q136 l Z a0 hw [] h0 n0 c2 F_c2_s) (lenOf pd3 rfl) (hb Y at_204) fun T2401 L2401 v2401 X2401 hQ2401 => ?_
  obtain ⟨rfl, N2401q, e2401⟩ := hQ2401
  have N2401 := Fr.app N0 N2401q
  refine iS X2401 hx (L' := (FL p0 p1 3 0 t0 t1 t2 t3 t4 c1 c2 (iv 1) .unset .unset .unset .unset .unset)) (hb Y at_207) rfl ?_
  exact hk0 _ _ X2401 N2401
theorem F1_11  {cells slots : Nat} (p0 : Int32) (p1 : Int64) (mm : Int32) (gg : Int32) (t0 : Int32) (t1 : Int32) (t2 : Int32) (t3 : Int32) (t4 : Int32) (c1 : Nat) (c2 : Nat) (X0 : Stand p l e room_1 s m args below meth c T0 locs cells slots) (G : SG p s m meth c Z a0) (z10 : ¬ p1 < (10 : Int64)) (z20 : p1 < (20 : Int64)) (z30 : p1 < (30 : Int64)) (tv0 : t0 = (1 : Int32)) (h : EndsSo p e below (LQ s n0) T0 (mkF m 303 (FL p0 p1 3 mm t0 t1 t2 t3 t4 c1 c2 (iv gg) (iv 1) (iv t0) (.val (.long 10)) .second .unset) [])) :
    EndsSo p e below (LQ s n0) T0 (mkF m 209 (FL p0 p1 3 mm t0 t1 t2 t3 t4 c1 c2 (iv gg) .unset .unset .unset .unset .unset) []) := by
  obtain ⟨hx, hZ, hw, Y, hml, hO, hlk, hret⟩ := id G
  refine iK X0 hx (z := 0) (hb Y at_209) <| iS X0 hx (L' := (FL p0 p1 3 mm t0 t1 t2 t3 t4 c1 c2 (iv gg) (iv 0) .unset .unset .unset .unset)) (hb Y at_210) rfl <| iN X0 hx (hb Y at_212) rfl <| iK X0 hx (z := 2) (hb Y at_213) <| cN X0 hx (hb Y at_214) <| lN X0 hx (hb Y at_217) rfl <| f_ldc2 X0 hx hZ hO (w51 hw) (hb Y at_218) <| lC X0 hx (z := (lcmpW p1 (20 : Int64))) (hb Y at_221) (q := rfl) <| fY X0 hx (pc := 222) 228 (hb Y at_222) (hc := (own_ltT z20)) <| iN X0 hx (hb Y at_228) rfl <| iK X0 hx (z := 3) (hb Y at_229) <| cN X0 hx (hb Y at_230) <| lN X0 hx (hb Y at_233) rfl <| f_ldc2 X0 hx hZ hO (w57 hw) (hb Y at_234) <| lC X0 hx (z := (lcmpW p1 (30 : Int64))) (hb Y at_237) (q := rfl) <| fY X0 hx (pc := 238) 244 (hb Y at_238) (hc := (own_ltT z30)) <| iN X0 hx (hb Y at_244) rfl <| iK X0 hx (z := 1) (hb Y at_245) <| cN X0 hx (hb Y at_246) <| iL X0 hx (hb Y at_249) rfl <| fN X0 hx (hb Y at_251) <| iL X0 hx (hb Y at_254) rfl <| gT X0 hx (pc := 256) 272 (hb Y at_256) <| iS X0 hx (L' := (FL p0 p1 3 mm t0 t1 t2 t3 t4 c1 c2 (iv gg) (iv 0) (iv t0) .unset .unset .unset)) (hb Y at_272) rfl <| f_ldc2 X0 hx hZ hO (w38 hw) (hb Y at_274) <| iL X0 hx (hb Y at_277) rfl <| iK X0 hx (z := 1) (hb Y at_279) <| iA X0 hx (z := 1) (hb Y at_280) <| f_i2l X0 hx (z := 1) (hb Y at_281) <| f_lmul X0 hx (z := 10) (hb Y at_282) <| f_lstore X0 hx (L' := (FL p0 p1 3 mm t0 t1 t2 t3 t4 c1 c2 (iv gg) (iv 0) (iv t0) (.val (.long 10)) .second .unset)) (hb Y at_283) rfl <| f_lload X0 hx (hb Y at_285) rfl <| lN X0 hx (hb Y at_287) rfl <| lC X0 hx (z := (lcmpW (10 : Int64) p1)) (hb Y at_288) (q := rfl) <| fN X0 hx (hb Y at_289) (hc := (own_gtF z10)) <| iL X0 hx (hb Y at_292) rfl <| fN X0 hx (hb Y at_294) (hc := (own_eq1 tv0)) <| iL X0 hx (hb Y at_297) rfl <| iK X0 hx (z := 1) (hb Y at_299) <| iA X0 hx (z := 1) (hb Y at_300) <| iS X0 hx (L' := (FL p0 p1 3 mm t0 t1 t2 t3 t4 c1 c2 (iv gg) (iv 1) (iv t0) (.val (.long 10)) .second .unset)) (hb Y at_301) rfl ?_
  exact h
theorem F2_29  {cells slots : Nat} (p0 : Int32) (p1 : Int64) (t0 : Int32) (t1 : Int32) (t2 : Int32) (t3 : Int32) (t4 : Int32) (c1 : Nat) (c2 : Nat) (X0 : Stand p l e room_1 s m args below meth c T0 locs cells slots) (G : SG p s m meth c Z a0) (N0 : Fr n0 locs) (hK : cells ≤ room_1.cells) (hN : slots ≤ room_1.slots) :
    EndsSo p e below (LQ s n0) T0 (mkF m 303 (FL p0 p1 3 0 t0 t1 t2 t3 t4 c1 c2 (iv 1) (iv 1) (iv t0) (.val (.long 10)) .second .unset) []) := by
  obtain ⟨hx, hZ, hw, Y, hml, hO, hlk, hret⟩ := id G
  refine iN X0 hx (hb Y at_303) rfl <| iL X0 hx (hb Y at_304) rfl <| iB X0 hx (z := 2) (hb Y at_306) <| iS X0 hx (L' := (FL p0 p1 3 0 t0 t1 t2 t3 t4 c1 c2 (iv 1) (iv 1) (iv 2) (.val (.long 10)) .second .unset)) (hb Y at_307) rfl <| iL X0 hx (hb Y at_309) rfl <| iL X0 hx (hb Y at_311) rfl <| iA X0 hx (z := 2) (hb Y at_313) <| iS X0 hx (L' := (FL p0 p1 3 0 t0 t1 t2 t3 t4 c1 c2 (iv 1) (iv 1) (iv 2) (iv 2) .unset .unset)) (hb Y at_314) rfl <| iL X0 hx (hb Y at_316) rfl <| iK X0 hx (z := 1) (hb Y at_318) <| cY X0 hx (pc := 319) 348 (hb Y at_319) <| iL X0 hx (hb Y at_348) rfl <| iS X0 hx (L' := (FL p0 p1 3 0 t0 t1 t2 t3 t4 c1 c2 (iv 1) (iv 1) (iv 2) (iv 2) (iv t3) .unset)) (hb Y at_350) rfl <| iL X0 hx (hb Y at_352) rfl <| iK X0 hx (z := 1) (hb Y at_354) <| cY X0 hx (pc := 355) 369 (hb Y at_355) <| iK X0 hx (z := 1) (hb Y at_369) <| gT X0 hx (pc := 370) 374 (hb Y at_370) <| iS X0 hx (L' := (FL p0 p1 3 0 t0 t1 t2 t3 t4 c1 c2 (iv 1) (iv 1) (iv 2) (iv 2) (iv t3) (iv 1))) (hb Y at_374) rfl <| iL X0 hx (hb Y at_376) rfl <| iL X0 hx (hb Y at_378) rfl <| cN X0 hx (hb Y at_380) <| iK X0 hx (z := 1) (hb Y at_383) <| gT X0 hx (pc := 384) 388 (hb Y at_384) ?_
  exact f_ret X0 hx hlk (i := .ireturn) hret rfl (Or.inl ⟨rfl, Or.inr (Or.inl rfl), _, rfl⟩) (hb Y at_388) (QQ := (QL n0)) ⟨rfl, N0⟩ hK hN
theorem q2426 (l : Launch) (Z : State) (a0 : Array Value) (hw : HW a0 Z) (ws : List Jvm.Cond) (h0 : Heap) (n0 : Nat) (c1 : Nat) (c2 : Nat) (kc3 : ClassId) (vs_c2 : List Value) (F_c1_o : fO Z h0 c1 (.int 1)) (F_c1_t : fT Z h0 c1 (.ref c2)) (V_c2 : aL Z h0 c2 kc3 4 vs_c2) :
    MC l Z y6 prog_95_method_11_code 2 (some .int) ws rm_0_0_0_0 #[(.ref c1), (.int 2)] h0 (QV (.int 3) h0 n0) := by
  refine own_met (plainFor_of_name pn6) fun p e s m below meth c s₁ X0 hx hZ Y hml hO hnm hlk hret e0 => f_cast (f' := mkF m 0 #[(rv c1), (iv 2)] []) (by first | (simp [entryFrame, mkF, argsToLocals, Value.category]; done) | rfl) ?_
  have N0 := Fr.nil n0
  refine aN X0 hx (hb Y d6_0) rfl rfl <| gF X0 hx hZ hO (w48 hw) Via.refl e0 F_c1_o (hb Y d6_1) fun T2424 X2424 e2424 => ?_
  refine iN X2424 hx (hb Y d6_4) rfl <| iA X2424 hx (z := 3) (hb Y d6_5) <| aN X2424 hx (hb Y d6_6) rfl rfl <| gF X2424 hx hZ hO (w16 hw) Via.refl e2424 F_c1_t (hb Y d6_7) fun T2425 X2425 e2425 => ?_
  refine f_len X2425 hx hZ e2425 V_c2 (hb Y d6_10) <| iK X2425 hx (z := 1) (hb Y d6_11) <| iB X2425 hx (z := 3) (hb Y d6_12) <| f_iand X2425 hx (z := 3) (hb Y d6_13) ?_
  exact f_ret X2425 hx hlk (i := .ireturn) hret rfl (Or.inl ⟨rfl, Or.inl rfl, _, rfl⟩) (hb Y d6_14) (QQ := (QV (.int 3) h0 n0)) ⟨rfl, N0, e2425⟩ (by decide) (by decide)
def St60 (Z : State) (h : Heap) (n0 : Nat) (c1 : Nat) (c2 : Nat) (c3 : Nat) (c4 : Nat) (c5 : Nat) (kc1 : ClassId) (kc2 : ClassId) (kc3 : ClassId) (kc4 : ClassId) (uu1 : Int64) (uu2 : Int64) (uu3 : Int64) (uu4 : Int64) (ww5 : Value) (ww6 : Value) (ww7 : Value) (ww8 : Value) (ww10 : Value) : Prop :=
  xO Z h c1 ∧
  Arv Z h c1 kc1 (.object "java/lang/Object") 1 [.null] .null ∧
  Ovr Z kc1 "java/lang/Object" ∧
  Exa Z h c2 cV ∧
  fT Z h c2 (.ref c3) ∧
  fR Z h c2 (.ref c4) ∧
  fC Z h c2 (.ref c5) ∧
  fS Z h c2 (.int 2) ∧
  fO Z h c2 (.int 1) ∧
  aL Z h c3 kc2 4 [(.long uu1), (.long uu2), (.long uu3), (.long uu4)] ∧
  xR Z h c4 ∧
  aR Z h c4 kc3 4 [ww5, ww6, ww7, ww8] ∧
  oR Z kc3 ∧
  xC Z h c5 ∧
  aC Z h c5 kc4 4 [.null, .null, .null, .null] ∧
  oC Z kc4 ∧
  n0 ≤ c1 ∧
  c1 < c2 ∧
  c2 < c3 ∧
  c3 < c4 ∧
  c4 < c5 ∧
  ww5.isRef = true ∧
  (ww5 = .null ∨ ww5 = .ref c1) ∧
  ww6.isRef = true ∧
  (ww6 = .null ∨ ww6 = .ref c1) ∧
  ww7.isRef = true ∧
  (ww7 = .null ∨ ww7 = .ref c1) ∧
  ww8.isRef = true ∧
  (ww8 = .null ∨ ww8 = .ref c1) ∧
  ww10.isRef = true ∧
  (ww10 = .null ∨ ww10 = .ref c1)
def St61 (Z : State) (h : Heap) (n0 : Nat) (c1 : Nat) (c2 : Nat) (c3 : Nat) (c4 : Nat) (c5 : Nat) (kc1 : ClassId) (kc2 : ClassId) (kc3 : ClassId) (kc4 : ClassId) (uu1 : Int64) (uu2 : Int64) (uu3 : Int64) (uu9 : Int64) (ww5 : Value) (ww6 : Value) (ww7 : Value) (ww10 : Value) (ww8 : Value) : Prop :=
  xO Z h c1 ∧
  Arv Z h c1 kc1 (.object "java/lang/Object") 1 [.null] .null ∧
  Ovr Z kc1 "java/lang/Object" ∧
  Exa Z h c2 cV ∧
  fT Z h c2 (.ref c3) ∧
  fR Z h c2 (.ref c4) ∧
  fC Z h c2 (.ref c5) ∧
  fS Z h c2 (.int 3) ∧
  fO Z h c2 (.int 1) ∧
  aL Z h c3 kc2 4 [(.long uu1), (.long uu2), (.long uu3), (.long uu9)] ∧
  xR Z h c4 ∧
  aR Z h c4 kc3 4 [ww5, ww6, ww7, ww10] ∧
  oR Z kc3 ∧
  xC Z h c5 ∧
  aC Z h c5 kc4 4 [.null, .null, .null, .null] ∧
  oC Z kc4 ∧
  n0 ≤ c1 ∧
  c1 < c2 ∧
  c2 < c3 ∧
  c3 < c4 ∧
  c4 < c5 ∧
  ww5.isRef = true ∧
  (ww5 = .null ∨ ww5 = .ref c1) ∧
  ww6.isRef = true ∧
  (ww6 = .null ∨ ww6 = .ref c1) ∧
  ww7.isRef = true ∧
  (ww7 = .null ∨ ww7 = .ref c1) ∧
  ww8.isRef = true ∧
  (ww8 = .null ∨ ww8 = .ref c1) ∧
  ww10.isRef = true ∧
  (ww10 = .null ∨ ww10 = .ref c1)
def Qm2435 (Z : State) (n0 : Nat) (c1 : Nat) (c2 : Nat) (c3 : Nat) (c4 : Nat) (c5 : Nat) (kc1 : ClassId) (kc2 : ClassId) (kc3 : ClassId) (kc4 : ClassId) (uu1 : Int64) (uu2 : Int64) (uu3 : Int64) (uu4 : Int64) (ww5 : Value) (ww6 : Value) (ww7 : Value) (ww8 : Value) (ww10 : Value) (uu9 : Int64) (v : Option Value) (h : Heap) (L : List Loc) : Prop := v = none ∧ Fr n0 L ∧ St61 Z h n0 c1 c2 c3 c4 c5 kc1 kc2 kc3 kc4 uu1 uu2 uu3 uu9 ww5 ww6 ww7 ww10 ww8
theorem m2435 (l : Launch) (Z : State) (a0 : Array Value) (hw : HW a0 Z) (ws : List Jvm.Cond) (h0 : Heap) (n0 : Nat) (c1 : Nat) (c2 : Nat) (c3 : Nat) (c4 : Nat) (c5 : Nat) (kc1 : ClassId) (kc2 : ClassId) (kc3 : ClassId) (kc4 : ClassId) (uu1 : Int64) (uu2 : Int64) (uu3 : Int64) (uu4 : Int64) (ww5 : Value) (ww6 : Value) (ww7 : Value) (ww8 : Value) (ww10 : Value) (uu9 : Int64) (P : St60 Z h0 n0 c1 c2 c3 c4 c5 kc1 kc2 kc3 kc4 uu1 uu2 uu3 uu4 ww5 ww6 ww7 ww8 ww10) :
    MC l Z y5 prog_95_method_3_code 6 none ws rm_1_0_0_13 #[(.ref c2), (.long uu9), ww10, .null] h0 (Qm2435 Z n0 c1 c2 c3 c4 c5 kc1 kc2 kc3 kc4 uu1 uu2 uu3 uu4 ww5 ww6 ww7 ww8 ww10 uu9) := by
  obtain ⟨E_c1, V_c1, O_c1, E_c2, F_c2_t, F_c2_r, F_c2_c, F_c2_s, F_c2_o, V_c3, E_c4, V_c4, O_c4, E_c5, V_c5, O_c5, g_c1, lt_c1_c2, lt_c2_c3, lt_c3_c4, lt_c4_c5, rf_ww5, rw_ww5, rf_ww6, rw_ww6, rf_ww7, rw_ww7, rf_ww8, rw_ww8, rf_ww10, rw_ww10⟩ := id P
  refine own_met (plainFor_of_name pn5) fun p e s m below meth c s₁ X0 hx hZ Y hml hO hnm hlk hret e0 => f_cast (f' := mkF m 0 #[(rv c2), (.val (.long uu9)), .second, (.val ww10), (.val .null), .unset] []) (by rcases ref_cases rf_ww10 with q | ⟨_, q⟩ <;> (rw [q]; first | (simp [entryFrame, mkF, argsToLocals, Value.category]; done) | rfl)) ?_
  have N0 := Fr.nil n0
  refine aN X0 hx (hb Y d5_0) rfl rfl <| gF X0 hx hZ hO (w31 hw) Via.refl e0 F_c2_s (hb Y d5_1) fun T2420 X2420 e2420 => ?_
  refine aN X2420 hx (hb Y d5_4) rfl rfl <| gF X2420 hx hZ hO (w16 hw) Via.refl e2420 F_c2_t (hb Y d5_5) fun T2421 X2421 e2421 => ?_
  refine f_len X2421 hx hZ e2421 V_c3 (hb Y d5_8) <| cY X2421 hx (pc := 9) 22 (hb Y d5_9) <| aN X2421 hx (hb Y d5_22) rfl rfl <| aN X2421 hx (hb Y d5_23) rfl rfl <| gF X2421 hx hZ hO (w31 hw) Via.refl e2421 F_c2_s (hb Y d5_24) fun T2422 X2422 e2422 => ?_
  refine pV X2422 hx hZ hO (by rw [hml]; rfl) (w44 hw) (w45 hw) (w46 hw) (w7 hw) (w8 hw) (w47 hw) e2422 E_c2 (argsL := [(.int 2)]) (rest := []) (q2426 l Z a0 hw [] h0 n0 c2 c3 kc2 _ F_c2_o F_c2_t V_c3) (lenOf pd4 rfl) (hb Y d5_27) fun T2423 L2423 v2423 X2423 hQ2423 => ?_
  obtain ⟨rfl, N2423q, e2423⟩ := hQ2423
  have N2423 := Fr.app N0 N2423q
  refine iS X2423 hx (L' := #[(rv c2), (.val (.long uu9)), .second, (.val ww10), (.val .null), (iv 3)]) (hb Y d5_30) rfl <| aN X2423 hx (hb Y d5_32) rfl rfl <| gF X2423 hx hZ hO (w16 hw) Via.refl e2423 F_c2_t (hb Y d5_33) fun T2427 X2427 e2427 => ?_
  refine iL X2427 hx (hb Y d5_36) rfl <| lN X2427 hx (hb Y d5_38) rfl <| f_lst X2427 hx hZ e2427 V_c3 3 (hb Y d5_39) fun T2428 h2428 X2428 e2428 W2428 V2428 => ?_
  have N2428x := Fr.snoc X2428 N2423 (by omega : n0 ≤ c3)
  refine aN X2428 hx (hb Y d5_40) rfl rfl ?_
  replace F_c2_r := (fo W2428 F_c2_r)
  refine gF X2428 hx hZ hO (w20 hw) Via.refl e2428 F_c2_r (hb Y d5_41) fun T2429 X2429 e2429 => ?_
  refine iL X2429 hx (hb Y d5_44) rfl <| aN X2429 hx (hb Y d5_46) rfl rf_ww10 ?_
  replace V_c4 := (vo V_c4 W2428)
  replace E_c1 := (xw W2428 E_c1)
  refine f_ast X2429 hx hZ e2429 V_c4 rfl (own_sto rw_ww10 (own_stoVA V_c4 O_c4 (Ins.self E_c1))) (own_fits rf_ww10) 3 (hb Y d5_47) fun T2430 h2430 X2430 e2430 W2430 V2430 => ?_
  have N2430x := Fr.snoc X2430 N2428x (by omega : n0 ≤ c4)
  refine aN X2430 hx (hb Y d5_48) rfl rfl ?_
  replace F_c2_c := (fo W2430 (fo W2428 F_c2_c))
  refine gF X2430 hx hZ hO (w24 hw) Via.refl e2430 F_c2_c (hb Y d5_49) fun T2431 X2431 e2431 => ?_
  refine iL X2431 hx (hb Y d5_52) rfl <| aA X2431 hx (hb Y d5_54) rfl rfl ?_
  replace V_c5 := (vo (vo V_c5 W2428) W2430)
  refine f_ast X2431 hx hZ e2431 V_c5 rfl (Or.inl rfl) rfl 3 (hb Y d5_56) fun T2432 h2432 X2432 e2432 W2432 V2432 => ?_
  have N2432x := Fr.snoc X2432 N2430x (by omega : n0 ≤ c5)
  refine aN X2432 hx (hb Y d5_57) rfl rfl <| f_dup X2432 hx (hb Y d5_58) rfl ?_
  replace F_c2_s := (fo W2432 (fo W2430 (fo W2428 F_c2_s)))
  refine gF X2432 hx hZ hO (w31 hw) Via.refl e2432 F_c2_s (hb Y d5_59) fun T2433 X2433 e2433 => ?_
  refine iK X2433 hx (z := 1) (hb Y d5_62) <| iA X2433 hx (z := 3) (hb Y d5_63) ?_
  replace E_c2 := (xw W2432 (xw W2430 (xw W2428 E_c2)))
  refine f_putF X2433 hx hZ hO (w31 hw) Via.refl e2433 F_c2_s E_c2 (Or.inl (w32 hw)) (w7 hw) (ty := .int) (by decide) rfl rfl (hb Y d5_64) fun T2434 h2434 X2434 e2434 W2434 => ?_
  have N2434x := Fr.snoc X2434 N2432x (by omega : n0 ≤ c2)
  exact f_ret0 X2434 hx hlk hret (hb Y d5_67) (QQ := (Qm2435 Z n0 c1 c2 c3 c4 c5 kc1 kc2 kc3 kc4 uu1 uu2 uu3 uu4 ww5 ww6 ww7 ww8 ww10 uu9)) (by rw [e2434]; exact ⟨rfl, N2434x, (xw W2434 (xw W2432 (xw W2430 E_c1))), (vo (vo (vo (vo V_c1 W2428) W2430) W2432) W2434), O_c1, (xw W2434 E_c2), (Fld.other W2434 (fo W2432 (fo W2430 (fo W2428 F_c2_t))) (Or.inr (slot_ne (Or.inl (w17 hw)) (Or.inl (w32 hw)) (by decide) (t := (.array .long)) (t' := .int) (by decide) (by decide)))), (Fld.other W2434 (fo W2432 (fo W2430 F_c2_r)) (Or.inr (slot_ne (Or.inl (w21 hw)) (Or.inl (w32 hw)) (by decide) (t := (.array (.array (.object "java/lang/Object")))) (t' := .int) (by decide) (by decide)))), (Fld.other W2434 (fo W2432 F_c2_c) (Or.inr (slot_ne (Or.inl (w25 hw)) (Or.inl (w32 hw)) (by decide) (t := (.array (.array .int))) (t' := .int) (by decide) (by decide)))), (Fld.same W2434 F_c2_s), (Fld.other W2434 (fo W2432 (fo W2430 (fo W2428 F_c2_o))) (Or.inr (slot_ne (Or.inl (w49 hw)) (Or.inl (w32 hw)) (by decide) (t := .int) (t' := .int) (by decide) (by decide)))), (vo (vo (vo V2428 W2430) W2432) W2434), (xw W2434 (xw W2432 (xw W2430 (xw W2428 E_c4)))), (vo (vo V2430 W2432) W2434), O_c4, (xw W2434 (xw W2432 (xw W2430 (xw W2428 E_c5)))), (vo V2432 W2434), O_c5, g_c1, lt_c1_c2, lt_c2_c3, lt_c3_c4, lt_c4_c5, rf_ww5, rw_ww5, rf_ww6, rw_ww6, rf_ww7, rw_ww7, rf_ww8, rw_ww8, rf_ww10, rw_ww10⟩) (by decide) (by decide)
theorem D1_36  (c1 : Nat) (c2 : Nat) (c3 : Nat) (c4 : Nat) (c5 : Nat) (kc1 : ClassId) (kc2 : ClassId) (kc3 : ClassId) (kc4 : ClassId) (r1 : Value) (r2 : Value) (t0 : Int32) (t1 : Int32) (t2 : Int32) (t3 : Int32) (t4 : Int32) (r0 : Value) (p0 : Int32) (p1 : Int64) (X0 : Stand p l e room_1 s m args below meth c T0 locs 8 25) (G : SG p s m meth c Z a0) (e0 : T0.heap = h0) (N0 : Fr n0 locs) (P : St59 Z h0 n0 c1 c2 c3 c4 c5 kc1 kc2 kc3 kc4 r1 r2 t0 t1 t2 t3 t4 r0) (hk0 : ∀ (T' : State) (locs' : List Loc), Stand p l e room_1 s m args below meth c T' locs' 8 25 → Fr n0 locs' → EndsSo p e below (LQ s n0) T' (mkF m 209 (FL p0 p1 3 1 t0 t1 t2 t3 t4 c1 c2 (iv 1) .unset .unset .unset .unset .unset) [])) :
    EndsSo p e below (LQ s n0) T0 (mkF m 150 (FL p0 p1 3 1 t0 t1 t2 t3 t4 c1 c2 .unset .unset .unset .unset .unset .unset) []) := by
  obtain ⟨hx, hZ, hw, Y, hml, hO, hlk, hret⟩ := id G
  obtain ⟨E_c1, V_c1, O_c1, E_c2, F_c2_t, F_c2_r, F_c2_c, F_c2_s, F_c2_o, V_c3, E_c4, V_c4, O_c4, E_c5, V_c5, O_c5, g_c1, lt_c1_c2, lt_c2_c3, lt_c3_c4, lt_c4_c5, ht0, ht1, ht2, ht3, ht4, rf_r0, rw_r0, rb_r0, rf_r1, rw_r1, rb_r1, rf_r2, rw_r2, rb_r2⟩ := id P
  refine iL X0 hx (hb Y at_150) rfl <| iK X0 hx (z := 1) (hb Y at_152) <| cN X0 hx (hb Y at_153) <| aA X0 hx (hb Y at_156) rfl rfl <| f_ldc2 X0 hx hZ hO (w56 hw) (hb Y at_158) <| iL X0 hx (hb Y at_161) rfl <| own_mrg X0 hx (row := c1) ht3 (pc := 163) (hb Y at_163) (hb Y at_170) (hb Y at_166) (hb Y at_167) rfl fun r3 rf_r3 rw_r3 rb_r3 => ?_
  refine f_null X0 hx (hb Y at_172) ?_
  have P2436 : St60 Z h0 n0 c1 c2 c3 c4 c5 kc1 kc2 kc3 kc4 (10 : Int64) (20 : Int64) (30 : Int64) (0 : Int64) .null r1 r2 .null r3 := ⟨E_c1, V_c1, O_c1, E_c2, F_c2_t, F_c2_r, F_c2_c, F_c2_s, F_c2_o, V_c3, E_c4, V_c4, O_c4, E_c5, V_c5, O_c5, g_c1, lt_c1_c2, lt_c2_c3, lt_c3_c4, lt_c4_c5, rfl, (Or.inl rfl), rf_r1, rw_r1, rf_r2, rw_r2, rfl, (Or.inl rfl), rf_r3, rw_r3⟩
  refine vV X0 hx hZ hO (by rw [hml]; rfl) (w39 hw) (w40 hw) (w42 hw) (w41 hw) (w8 hw) (w43 hw) e0 E_c2 (argsL := [(.long 40), r3, .null]) (rest := []) (m2435 l Z a0 hw [] h0 n0 c1 c2 c3 c4 c5 kc1 kc2 kc3 kc4 (10 : Int64) (20 : Int64) (30 : Int64) (0 : Int64) .null r1 r2 .null r3 (40 : Int64) P2436) (lenOf pd5 rfl) (hb Y at_173) fun T2404 L2404 v2404 X2404 hQ2404 => ?_
  obtain ⟨rfl, N2404q, P2404⟩ := hQ2404
  obtain ⟨E_c1, V_c1, O_c1, E_c2, F_c2_t, F_c2_r, F_c2_c, F_c2_s, F_c2_o, V_c3, E_c4, V_c4, O_c4, E_c5, V_c5, O_c5, g_c1, lt_c1_c2, lt_c2_c3, lt_c3_c4, lt_c4_c5, _, _, _, _, _, _, _, _, _, _⟩ := id P2404
  have N2404 := Fr.app N0 N2404q
  refine iL X2404 hx (hb Y at_176) rfl <| iK X2404 hx (z := 2) (hb Y at_178) <| cY X2404 hx (pc := 179) 202 (hb Y at_179) <| aA X2404 hx (hb Y at_202) rfl rfl <| vV X2404 hx hZ hO (by rw [hml]; rfl) (w33 hw) (w34 hw) (w36 hw) (w35 hw) (w8 hw) (w37 hw) rfl E_c2 (argsL := []) (rest := []) (q462 l Z a0 hw [] T2404.heap n0 c2 F_c2_s) (lenOf pd3 rfl) (hb Y at_204) fun T2437 L2437 v2437 X2437 hQ2437 => ?_
  obtain ⟨rfl, N2437q, e2437⟩ := hQ2437
  have N2437 := Fr.app N2404 N2437q
  refine iS X2437 hx (L' := (FL p0 p1 3 1 t0 t1 t2 t3 t4 c1 c2 (iv 1) .unset .unset .unset .unset .unset)) (hb Y at_207) rfl ?_
  exact hk0 _ _ X2437 N2437
theorem F2_30  {cells slots : Nat} (p0 : Int32) (p1 : Int64) (t0 : Int32) (t1 : Int32) (t2 : Int32) (t3 : Int32) (t4 : Int32) (c1 : Nat) (c2 : Nat) (X0 : Stand p l e room_1 s m args below meth c T0 locs cells slots) (G : SG p s m meth c Z a0) (N0 : Fr n0 locs) (hK : cells ≤ room_1.cells) (hN : slots ≤ room_1.slots) :
    EndsSo p e below (LQ s n0) T0 (mkF m 303 (FL p0 p1 3 1 t0 t1 t2 t3 t4 c1 c2 (iv 1) (iv 1) (iv t0) (.val (.long 10)) .second .unset) []) := by
  obtain ⟨hx, hZ, hw, Y, hml, hO, hlk, hret⟩ := id G
  refine iN X0 hx (hb Y at_303) rfl <| iL X0 hx (hb Y at_304) rfl <| iB X0 hx (z := 2) (hb Y at_306) <| iS X0 hx (L' := (FL p0 p1 3 1 t0 t1 t2 t3 t4 c1 c2 (iv 1) (iv 1) (iv 2) (.val (.long 10)) .second .unset)) (hb Y at_307) rfl <| iL X0 hx (hb Y at_309) rfl <| iL X0 hx (hb Y at_311) rfl <| iA X0 hx (z := 3) (hb Y at_313) <| iS X0 hx (L' := (FL p0 p1 3 1 t0 t1 t2 t3 t4 c1 c2 (iv 1) (iv 1) (iv 2) (iv 3) .unset .unset)) (hb Y at_314) rfl <| iL X0 hx (hb Y at_316) rfl <| iK X0 hx (z := 1) (hb Y at_318) <| cY X0 hx (pc := 319) 348 (hb Y at_319) <| iL X0 hx (hb Y at_348) rfl <| iS X0 hx (L' := (FL p0 p1 3 1 t0 t1 t2 t3 t4 c1 c2 (iv 1) (iv 1) (iv 2) (iv 3) (iv t3) .unset)) (hb Y at_350) rfl <| iL X0 hx (hb Y at_352) rfl <| iK X0 hx (z := 1) (hb Y at_354) <| cY X0 hx (pc := 355) 369 (hb Y at_355) <| iK X0 hx (z := 1) (hb Y at_369) <| gT X0 hx (pc := 370) 374 (hb Y at_370) <| iS X0 hx (L' := (FL p0 p1 3 1 t0 t1 t2 t3 t4 c1 c2 (iv 1) (iv 1) (iv 2) (iv 3) (iv t3) (iv 1))) (hb Y at_374) rfl <| iL X0 hx (hb Y at_376) rfl <| iL X0 hx (hb Y at_378) rfl <| cN X0 hx (hb Y at_380) <| iK X0 hx (z := 1) (hb Y at_383) <| gT X0 hx (pc := 384) 388 (hb Y at_384) ?_
  exact f_ret X0 hx hlk (i := .ireturn) hret rfl (Or.inl ⟨rfl, Or.inr (Or.inl rfl), _, rfl⟩) (hb Y at_388) (QQ := (QL n0)) ⟨rfl, N0⟩ hK hN
theorem q2478 (l : Launch) (Z : State) (a0 : Array Value) (hw : HW a0 Z) (ws : List Jvm.Cond) (h0 : Heap) (n0 : Nat) (c1 : Nat) (c2 : Nat) (kc3 : ClassId) (vs_c2 : List Value) (F_c1_o : fO Z h0 c1 (.int 1)) (F_c1_t : fT Z h0 c1 (.ref c2)) (V_c2 : aL Z h0 c2 kc3 4 vs_c2) :
    MC l Z y6 prog_95_method_11_code 2 (some .int) ws rm_0_0_0_0 #[(.ref c1), (.int 3)] h0 (QV (.int 0) h0 n0) := by
  refine own_met (plainFor_of_name pn6) fun p e s m below meth c s₁ X0 hx hZ Y hml hO hnm hlk hret e0 => f_cast (f' := mkF m 0 #[(rv c1), (iv 3)] []) (by first | (simp [entryFrame, mkF, argsToLocals, Value.category]; done) | rfl) ?_
  have N0 := Fr.nil n0
  refine aN X0 hx (hb Y d6_0) rfl rfl <| gF X0 hx hZ hO (w48 hw) Via.refl e0 F_c1_o (hb Y d6_1) fun T2476 X2476 e2476 => ?_
  refine iN X2476 hx (hb Y d6_4) rfl <| iA X2476 hx (z := 4) (hb Y d6_5) <| aN X2476 hx (hb Y d6_6) rfl rfl <| gF X2476 hx hZ hO (w16 hw) Via.refl e2476 F_c1_t (hb Y d6_7) fun T2477 X2477 e2477 => ?_
  refine f_len X2477 hx hZ e2477 V_c2 (hb Y d6_10) <| iK X2477 hx (z := 1) (hb Y d6_11) <| iB X2477 hx (z := 3) (hb Y d6_12) <| f_iand X2477 hx (z := 0) (hb Y d6_13) ?_
  exact f_ret X2477 hx hlk (i := .ireturn) hret rfl (Or.inl ⟨rfl, Or.inl rfl, _, rfl⟩) (hb Y d6_14) (QQ := (QV (.int 0) h0 n0)) ⟨rfl, N0, e2477⟩ (by decide) (by decide)
def St62 (Z : State) (h : Heap) (n0 : Nat) (c1 : Nat) (c2 : Nat) (c3 : Nat) (c4 : Nat) (c5 : Nat) (kc1 : ClassId) (kc2 : ClassId) (kc3 : ClassId) (kc4 : ClassId) (uu1 : Int64) (uu2 : Int64) (uu3 : Int64) (uu4 : Int64) (ww5 : Value) (ww6 : Value) (ww7 : Value) (ww8 : Value) (ww10 : Value) : Prop :=
  xO Z h c1 ∧
  Arv Z h c1 kc1 (.object "java/lang/Object") 1 [.null] .null ∧
  Ovr Z kc1 "java/lang/Object" ∧
  Exa Z h c2 cV ∧
  fT Z h c2 (.ref c3) ∧
  fR Z h c2 (.ref c4) ∧
  fC Z h c2 (.ref c5) ∧
  fS Z h c2 (.int 3) ∧
  fO Z h c2 (.int 1) ∧
  aL Z h c3 kc2 4 [(.long uu1), (.long uu2), (.long uu3), (.long uu4)] ∧
  xR Z h c4 ∧
  aR Z h c4 kc3 4 [ww5, ww6, ww7, ww8] ∧
  oR Z kc3 ∧
  xC Z h c5 ∧
  aC Z h c5 kc4 4 [.null, .null, .null, .null] ∧
  oC Z kc4 ∧
  n0 ≤ c1 ∧
  c1 < c2 ∧
  c2 < c3 ∧
  c3 < c4 ∧
  c4 < c5 ∧
  ww5.isRef = true ∧
  (ww5 = .null ∨ ww5 = .ref c1) ∧
  ww6.isRef = true ∧
  (ww6 = .null ∨ ww6 = .ref c1) ∧
  ww7.isRef = true ∧
  (ww7 = .null ∨ ww7 = .ref c1) ∧
  ww8.isRef = true ∧
  (ww8 = .null ∨ ww8 = .ref c1) ∧
  ww10.isRef = true ∧
  (ww10 = .null ∨ ww10 = .ref c1)
def St63 (Z : State) (h : Heap) (n0 : Nat) (c1 : Nat) (c2 : Nat) (c3 : Nat) (c4 : Nat) (c5 : Nat) (kc1 : ClassId) (kc2 : ClassId) (kc3 : ClassId) (kc4 : ClassId) (uu9 : Int64) (uu2 : Int64) (uu3 : Int64) (uu4 : Int64) (ww10 : Value) (ww6 : Value) (ww7 : Value) (ww8 : Value) (ww5 : Value) : Prop :=
  xO Z h c1 ∧
  Arv Z h c1 kc1 (.object "java/lang/Object") 1 [.null] .null ∧
  Ovr Z kc1 "java/lang/Object" ∧
  Exa Z h c2 cV ∧
  fT Z h c2 (.ref c3) ∧
  fR Z h c2 (.ref c4) ∧
  fC Z h c2 (.ref c5) ∧
  fS Z h c2 (.int 4) ∧
  fO Z h c2 (.int 1) ∧
  aL Z h c3 kc2 4 [(.long uu9), (.long uu2), (.long uu3), (.long uu4)] ∧
  xR Z h c4 ∧
  aR Z h c4 kc3 4 [ww10, ww6, ww7, ww8] ∧
  oR Z kc3 ∧
  xC Z h c5 ∧
  aC Z h c5 kc4 4 [.null, .null, .null, .null] ∧
  oC Z kc4 ∧
  n0 ≤ c1 ∧
  c1 < c2 ∧
  c2 < c3 ∧
  c3 < c4 ∧
  c4 < c5 ∧
  ww5.isRef = true ∧
  (ww5 = .null ∨ ww5 = .ref c1) ∧
  ww6.isRef = true ∧
  (ww6 = .null ∨ ww6 = .ref c1) ∧
  ww7.isRef = true ∧
  (ww7 = .null ∨ ww7 = .ref c1) ∧
  ww8.isRef = true ∧
  (ww8 = .null ∨ ww8 = .ref c1) ∧
  ww10.isRef = true ∧
  (ww10 = .null ∨ ww10 = .ref c1)
def Qm2487 (Z : State) (n0 : Nat) (c1 : Nat) (c2 : Nat) (c3 : Nat) (c4 : Nat) (c5 : Nat) (kc1 : ClassId) (kc2 : ClassId) (kc3 : ClassId) (kc4 : ClassId) (uu1 : Int64) (uu2 : Int64) (uu3 : Int64) (uu4 : Int64) (ww5 : Value) (ww6 : Value) (ww7 : Value) (ww8 : Value) (ww10 : Value) (uu9 : Int64) (v : Option Value) (h : Heap) (L : List Loc) : Prop := v = none ∧ Fr n0 L ∧ St63 Z h n0 c1 c2 c3 c4 c5 kc1 kc2 kc3 kc4 uu9 uu2 uu3 uu4 ww10 ww6 ww7 ww8 ww5
theorem m2487 (l : Launch) (Z : State) (a0 : Array Value) (hw : HW a0 Z) (ws : List Jvm.Cond) (h0 : Heap) (n0 : Nat) (c1 : Nat) (c2 : Nat) (c3 : Nat) (c4 : Nat) (c5 : Nat) (kc1 : ClassId) (kc2 : ClassId) (kc3 : ClassId) (kc4 : ClassId) (uu1 : Int64) (uu2 : Int64) (uu3 : Int64) (uu4 : Int64) (ww5 : Value) (ww6 : Value) (ww7 : Value) (ww8 : Value) (ww10 : Value) (uu9 : Int64) (P : St62 Z h0 n0 c1 c2 c3 c4 c5 kc1 kc2 kc3 kc4 uu1 uu2 uu3 uu4 ww5 ww6 ww7 ww8 ww10) :
    MC l Z y5 prog_95_method_3_code 6 none ws rm_1_0_0_13 #[(.ref c2), (.long uu9), ww10, .null] h0 (Qm2487 Z n0 c1 c2 c3 c4 c5 kc1 kc2 kc3 kc4 uu1 uu2 uu3 uu4 ww5 ww6 ww7 ww8 ww10 uu9) := by
  obtain ⟨E_c1, V_c1, O_c1, E_c2, F_c2_t, F_c2_r, F_c2_c, F_c2_s, F_c2_o, V_c3, E_c4, V_c4, O_c4, E_c5, V_c5, O_c5, g_c1, lt_c1_c2, lt_c2_c3, lt_c3_c4, lt_c4_c5, rf_ww5, rw_ww5, rf_ww6, rw_ww6, rf_ww7, rw_ww7, rf_ww8, rw_ww8, rf_ww10, rw_ww10⟩ := id P
  refine own_met (plainFor_of_name pn5) fun p e s m below meth c s₁ X0 hx hZ Y hml hO hnm hlk hret e0 => f_cast (f' := mkF m 0 #[(rv c2), (.val (.long uu9)), .second, (.val ww10), (.val .null), .unset] []) (by rcases ref_cases rf_ww10 with q | ⟨_, q⟩ <;> (rw [q]; first | (simp [entryFrame, mkF, argsToLocals, Value.category]; done) | rfl)) ?_
  have N0 := Fr.nil n0
  refine aN X0 hx (hb Y d5_0) rfl rfl <| gF X0 hx hZ hO (w31 hw) Via.refl e0 F_c2_s (hb Y d5_1) fun T2472 X2472 e2472 => ?_
  refine aN X2472 hx (hb Y d5_4) rfl rfl <| gF X2472 hx hZ hO (w16 hw) Via.refl e2472 F_c2_t (hb Y d5_5) fun T2473 X2473 e2473 => ?_
  refine f_len X2473 hx hZ e2473 V_c3 (hb Y d5_8) <| cY X2473 hx (pc := 9) 22 (hb Y d5_9) <| aN X2473 hx (hb Y d5_22) rfl rfl <| aN X2473 hx (hb Y d5_23) rfl rfl <| gF X2473 hx hZ hO (w31 hw) Via.refl e2473 F_c2_s (hb Y d5_24) fun T2474 X2474 e2474 => ?_
  refine pV X2474 hx hZ hO (by rw [hml]; rfl) (w44 hw) (w45 hw) (w46 hw) (w7 hw) (w8 hw) (w47 hw) e2474 E_c2 (argsL := [(.int 3)]) (rest := []) (q2478 l Z a0 hw [] h0 n0 c2 c3 kc2 _ F_c2_o F_c2_t V_c3) (lenOf pd4 rfl) (hb Y d5_27) fun T2475 L2475 v2475 X2475 hQ2475 => ?_
  obtain ⟨rfl, N2475q, e2475⟩ := hQ2475
  have N2475 := Fr.app N0 N2475q
  refine iS X2475 hx (L' := #[(rv c2), (.val (.long uu9)), .second, (.val ww10), (.val .null), (iv 0)]) (hb Y d5_30) rfl <| aN X2475 hx (hb Y d5_32) rfl rfl <| gF X2475 hx hZ hO (w16 hw) Via.refl e2475 F_c2_t (hb Y d5_33) fun T2479 X2479 e2479 => ?_
  refine iL X2479 hx (hb Y d5_36) rfl <| lN X2479 hx (hb Y d5_38) rfl <| f_lst X2479 hx hZ e2479 V_c3 0 (hb Y d5_39) fun T2480 h2480 X2480 e2480 W2480 V2480 => ?_
  have N2480x := Fr.snoc X2480 N2475 (by omega : n0 ≤ c3)
  refine aN X2480 hx (hb Y d5_40) rfl rfl ?_
  replace F_c2_r := (fo W2480 F_c2_r)
  refine gF X2480 hx hZ hO (w20 hw) Via.refl e2480 F_c2_r (hb Y d5_41) fun T2481 X2481 e2481 => ?_
  refine iL X2481 hx (hb Y d5_44) rfl <| aN X2481 hx (hb Y d5_46) rfl rf_ww10 ?_
  replace V_c4 := (vo V_c4 W2480)
  replace E_c1 := (xw W2480 E_c1)
  refine f_ast X2481 hx hZ e2481 V_c4 rfl (own_sto rw_ww10 (own_stoVA V_c4 O_c4 (Ins.self E_c1))) (own_fits rf_ww10) 0 (hb Y d5_47) fun T2482 h2482 X2482 e2482 W2482 V2482 => ?_
  have N2482x := Fr.snoc X2482 N2480x (by omega : n0 ≤ c4)
  refine aN X2482 hx (hb Y d5_48) rfl rfl ?_
  replace F_c2_c := (fo W2482 (fo W2480 F_c2_c))
  refine gF X2482 hx hZ hO (w24 hw) Via.refl e2482 F_c2_c (hb Y d5_49) fun T2483 X2483 e2483 => ?_
  refine iL X2483 hx (hb Y d5_52) rfl <| aA X2483 hx (hb Y d5_54) rfl rfl ?_
  replace V_c5 := (vo (vo V_c5 W2480) W2482)
  refine f_ast X2483 hx hZ e2483 V_c5 rfl (Or.inl rfl) rfl 0 (hb Y d5_56) fun T2484 h2484 X2484 e2484 W2484 V2484 => ?_
  have N2484x := Fr.snoc X2484 N2482x (by omega : n0 ≤ c5)
  refine aN X2484 hx (hb Y d5_57) rfl rfl <| f_dup X2484 hx (hb Y d5_58) rfl ?_
  replace F_c2_s := (fo W2484 (fo W2482 (fo W2480 F_c2_s)))
  refine gF X2484 hx hZ hO (w31 hw) Via.refl e2484 F_c2_s (hb Y d5_59) fun T2485 X2485 e2485 => ?_
  refine iK X2485 hx (z := 1) (hb Y d5_62) <| iA X2485 hx (z := 4) (hb Y d5_63) ?_
  replace E_c2 := (xw W2484 (xw W2482 (xw W2480 E_c2)))
  refine f_putF X2485 hx hZ hO (w31 hw) Via.refl e2485 F_c2_s E_c2 (Or.inl (w32 hw)) (w7 hw) (ty := .int) (by decide) rfl rfl (hb Y d5_64) fun T2486 h2486 X2486 e2486 W2486 => ?_
  have N2486x := Fr.snoc X2486 N2484x (by omega : n0 ≤ c2)
  exact f_ret0 X2486 hx hlk hret (hb Y d5_67) (QQ := (Qm2487 Z n0 c1 c2 c3 c4 c5 kc1 kc2 kc3 kc4 uu1 uu2 uu3 uu4 ww5 ww6 ww7 ww8 ww10 uu9)) (by rw [e2486]; exact ⟨rfl, N2486x, (xw W2486 (xw W2484 (xw W2482 E_c1))), (vo (vo (vo (vo V_c1 W2480) W2482) W2484) W2486), O_c1, (xw W2486 E_c2), (Fld.other W2486 (fo W2484 (fo W2482 (fo W2480 F_c2_t))) (Or.inr (slot_ne (Or.inl (w17 hw)) (Or.inl (w32 hw)) (by decide) (t := (.array .long)) (t' := .int) (by decide) (by decide)))), (Fld.other W2486 (fo W2484 (fo W2482 F_c2_r)) (Or.inr (slot_ne (Or.inl (w21 hw)) (Or.inl (w32 hw)) (by decide) (t := (.array (.array (.object "java/lang/Object")))) (t' := .int) (by decide) (by decide)))), (Fld.other W2486 (fo W2484 F_c2_c) (Or.inr (slot_ne (Or.inl (w25 hw)) (Or.inl (w32 hw)) (by decide) (t := (.array (.array .int))) (t' := .int) (by decide) (by decide)))), (Fld.same W2486 F_c2_s), (Fld.other W2486 (fo W2484 (fo W2482 (fo W2480 F_c2_o))) (Or.inr (slot_ne (Or.inl (w49 hw)) (Or.inl (w32 hw)) (by decide) (t := .int) (t' := .int) (by decide) (by decide)))), (vo (vo (vo V2480 W2482) W2484) W2486), (xw W2486 (xw W2484 (xw W2482 (xw W2480 E_c4)))), (vo (vo V2482 W2484) W2486), O_c4, (xw W2486 (xw W2484 (xw W2482 (xw W2480 E_c5)))), (vo V2484 W2486), O_c5, g_c1, lt_c1_c2, lt_c2_c3, lt_c3_c4, lt_c4_c5, rf_ww5, rw_ww5, rf_ww6, rw_ww6, rf_ww7, rw_ww7, rf_ww8, rw_ww8, rf_ww10, rw_ww10⟩) (by decide) (by decide)
theorem D2_37  (c1 : Nat) (c2 : Nat) (c3 : Nat) (c4 : Nat) (c5 : Nat) (kc1 : ClassId) (kc2 : ClassId) (kc3 : ClassId) (kc4 : ClassId) (r1 : Value) (r2 : Value) (t0 : Int32) (t1 : Int32) (t2 : Int32) (t3 : Int32) (t4 : Int32) (r0 : Value) (p0 : Int32) (p1 : Int64) (X0 : Stand p l e room_1 s m args below meth c T0 locs 8 25) (G : SG p s m meth c Z a0) (e0 : T0.heap = h0) (N0 : Fr n0 locs) (P : St59 Z h0 n0 c1 c2 c3 c4 c5 kc1 kc2 kc3 kc4 r1 r2 t0 t1 t2 t3 t4 r0) (hk0 : ∀ (T' : State) (locs' : List Loc), Stand p l e room_1 s m args below meth c T' locs' 8 25 → Fr n0 locs' → EndsSo p e below (LQ s n0) T' (mkF m 209 (FL p0 p1 3 2 t0 t1 t2 t3 t4 c1 c2 (iv 1) .unset .unset .unset .unset .unset) [])) :
    EndsSo p e below (LQ s n0) T0 (mkF m 150 (FL p0 p1 3 2 t0 t1 t2 t3 t4 c1 c2 .unset .unset .unset .unset .unset .unset) []) := by
  obtain ⟨hx, hZ, hw, Y, hml, hO, hlk, hret⟩ := id G
  obtain ⟨E_c1, V_c1, O_c1, E_c2, F_c2_t, F_c2_r, F_c2_c, F_c2_s, F_c2_o, V_c3, E_c4, V_c4, O_c4, E_c5, V_c5, O_c5, g_c1, lt_c1_c2, lt_c2_c3, lt_c3_c4, lt_c4_c5, ht0, ht1, ht2, ht3, ht4, rf_r0, rw_r0, rb_r0, rf_r1, rw_r1, rb_r1, rf_r2, rw_r2, rb_r2⟩ := id P
  refine iL X0 hx (hb Y at_150) rfl <| iK X0 hx (z := 1) (hb Y at_152) <| cN X0 hx (hb Y at_153) <| aA X0 hx (hb Y at_156) rfl rfl <| f_ldc2 X0 hx hZ hO (w56 hw) (hb Y at_158) <| iL X0 hx (hb Y at_161) rfl <| own_mrg X0 hx (row := c1) ht3 (pc := 163) (hb Y at_163) (hb Y at_170) (hb Y at_166) (hb Y at_167) rfl fun r3 rf_r3 rw_r3 rb_r3 => ?_
  refine f_null X0 hx (hb Y at_172) ?_
  have P2455 : St60 Z h0 n0 c1 c2 c3 c4 c5 kc1 kc2 kc3 kc4 (10 : Int64) (20 : Int64) (30 : Int64) (0 : Int64) .null r1 r2 .null r3 := ⟨E_c1, V_c1, O_c1, E_c2, F_c2_t, F_c2_r, F_c2_c, F_c2_s, F_c2_o, V_c3, E_c4, V_c4, O_c4, E_c5, V_c5, O_c5, g_c1, lt_c1_c2, lt_c2_c3, lt_c3_c4, lt_c4_c5, rfl, (Or.inl rfl), rf_r1, rw_r1, rf_r2, rw_r2, rfl, (Or.inl rfl), rf_r3, rw_r3⟩
  refine vV X0 hx hZ hO (by rw [hml]; rfl) (w39 hw) (w40 hw) (w42 hw) (w41 hw) (w8 hw) (w43 hw) e0 E_c2 (argsL := [(.long 40), r3, .null]) (rest := []) (m2435 l Z a0 hw [] h0 n0 c1 c2 c3 c4 c5 kc1 kc2 kc3 kc4 (10 : Int64) (20 : Int64) (30 : Int64) (0 : Int64) .null r1 r2 .null r3 (40 : Int64) P2455) (lenOf pd5 rfl) (hb Y at_173) fun T2440 L2440 v2440 X2440 hQ2440 => ?_
  obtain ⟨rfl, N2440q, P2440⟩ := hQ2440
  obtain ⟨E_c1, V_c1, O_c1, E_c2, F_c2_t, F_c2_r, F_c2_c, F_c2_s, F_c2_o, V_c3, E_c4, V_c4, O_c4, E_c5, V_c5, O_c5, g_c1, lt_c1_c2, lt_c2_c3, lt_c3_c4, lt_c4_c5, _, _, _, _, _, _, _, _, _, _⟩ := id P2440
  have N2440 := Fr.app N0 N2440q
  refine iL X2440 hx (hb Y at_176) rfl <| iK X2440 hx (z := 2) (hb Y at_178) <| cN X2440 hx (hb Y at_179) <| aA X2440 hx (hb Y at_182) rfl rfl <| f_ldc2 X2440 hx hZ hO (w62 hw) (hb Y at_184) <| iL X2440 hx (hb Y at_187) rfl <| own_mrg X2440 hx (row := c1) ht4 (pc := 189) (hb Y at_189) (hb Y at_196) (hb Y at_192) (hb Y at_193) rfl fun r4 rf_r4 rw_r4 rb_r4 => ?_
  refine f_null X2440 hx (hb Y at_198) ?_
  have P2488 : St62 Z T2440.heap n0 c1 c2 c3 c4 c5 kc1 kc2 kc3 kc4 (10 : Int64) (20 : Int64) (30 : Int64) (40 : Int64) .null r1 r2 r3 r4 := ⟨E_c1, V_c1, O_c1, E_c2, F_c2_t, F_c2_r, F_c2_c, F_c2_s, F_c2_o, V_c3, E_c4, V_c4, O_c4, E_c5, V_c5, O_c5, g_c1, lt_c1_c2, lt_c2_c3, lt_c3_c4, lt_c4_c5, rfl, (Or.inl rfl), rf_r1, rw_r1, rf_r2, rw_r2, rf_r3, rw_r3, rf_r4, rw_r4⟩
  refine vV X2440 hx hZ hO (by rw [hml]; rfl) (w39 hw) (w40 hw) (w42 hw) (w41 hw) (w8 hw) (w43 hw) rfl E_c2 (argsL := [(.long 50), r4, .null]) (rest := []) (m2487 l Z a0 hw [] T2440.heap n0 c1 c2 c3 c4 c5 kc1 kc2 kc3 kc4 (10 : Int64) (20 : Int64) (30 : Int64) (40 : Int64) .null r1 r2 r3 r4 (50 : Int64) P2488) (lenOf pd5 rfl) (hb Y at_199) fun T2456 L2456 v2456 X2456 hQ2456 => ?_
  obtain ⟨rfl, N2456q, P2456⟩ := hQ2456
  obtain ⟨E_c1, V_c1, O_c1, E_c2, F_c2_t, F_c2_r, F_c2_c, F_c2_s, F_c2_o, V_c3, E_c4, V_c4, O_c4, E_c5, V_c5, O_c5, g_c1, lt_c1_c2, lt_c2_c3, lt_c3_c4, lt_c4_c5, _, _, _, _, _, _, _, _, _, _⟩ := id P2456
  have N2456 := Fr.app N2440 N2456q
  refine aA X2456 hx (hb Y at_202) rfl rfl <| vV X2456 hx hZ hO (by rw [hml]; rfl) (w33 hw) (w34 hw) (w36 hw) (w35 hw) (w8 hw) (w37 hw) rfl E_c2 (argsL := []) (rest := []) (q1010 l Z a0 hw [] T2456.heap n0 c2 F_c2_s) (lenOf pd3 rfl) (hb Y at_204) fun T2489 L2489 v2489 X2489 hQ2489 => ?_
  obtain ⟨rfl, N2489q, e2489⟩ := hQ2489
  have N2489 := Fr.app N2456 N2489q
  refine iS X2489 hx (L' := (FL p0 p1 3 2 t0 t1 t2 t3 t4 c1 c2 (iv 1) .unset .unset .unset .unset .unset)) (hb Y at_207) rfl ?_
  exact hk0 _ _ X2489 N2489
theorem F2_31  {cells slots : Nat} (p0 : Int32) (p1 : Int64) (t0 : Int32) (t1 : Int32) (t2 : Int32) (t3 : Int32) (t4 : Int32) (c1 : Nat) (c2 : Nat) (X0 : Stand p l e room_1 s m args below meth c T0 locs cells slots) (G : SG p s m meth c Z a0) (N0 : Fr n0 locs) (hK : cells ≤ room_1.cells) (hN : slots ≤ room_1.slots) :
    EndsSo p e below (LQ s n0) T0 (mkF m 303 (FL p0 p1 3 2 t0 t1 t2 t3 t4 c1 c2 (iv 1) (iv 1) (iv t0) (.val (.long 10)) .second .unset) []) := by
  obtain ⟨hx, hZ, hw, Y, hml, hO, hlk, hret⟩ := id G
  refine iN X0 hx (hb Y at_303) rfl <| iL X0 hx (hb Y at_304) rfl <| iB X0 hx (z := 2) (hb Y at_306) <| iS X0 hx (L' := (FL p0 p1 3 2 t0 t1 t2 t3 t4 c1 c2 (iv 1) (iv 1) (iv 2) (.val (.long 10)) .second .unset)) (hb Y at_307) rfl <| iL X0 hx (hb Y at_309) rfl <| iL X0 hx (hb Y at_311) rfl <| iA X0 hx (z := 4) (hb Y at_313) <| iS X0 hx (L' := (FL p0 p1 3 2 t0 t1 t2 t3 t4 c1 c2 (iv 1) (iv 1) (iv 2) (iv 4) .unset .unset)) (hb Y at_314) rfl <| iL X0 hx (hb Y at_316) rfl <| iK X0 hx (z := 1) (hb Y at_318) <| cY X0 hx (pc := 319) 348 (hb Y at_319) <| iL X0 hx (hb Y at_348) rfl <| iS X0 hx (L' := (FL p0 p1 3 2 t0 t1 t2 t3 t4 c1 c2 (iv 1) (iv 1) (iv 2) (iv 4) (iv t3) .unset)) (hb Y at_350) rfl <| iL X0 hx (hb Y at_352) rfl <| iK X0 hx (z := 1) (hb Y at_354) <| cY X0 hx (pc := 355) 369 (hb Y at_355) <| iK X0 hx (z := 1) (hb Y at_369) <| gT X0 hx (pc := 370) 374 (hb Y at_370) <| iS X0 hx (L' := (FL p0 p1 3 2 t0 t1 t2 t3 t4 c1 c2 (iv 1) (iv 1) (iv 2) (iv 4) (iv t3) (iv 1))) (hb Y at_374) rfl <| iL X0 hx (hb Y at_376) rfl <| iL X0 hx (hb Y at_378) rfl <| cN X0 hx (hb Y at_380) <| iK X0 hx (z := 1) (hb Y at_383) <| gT X0 hx (pc := 384) 388 (hb Y at_384) ?_
  exact f_ret X0 hx hlk (i := .ireturn) hret rfl (Or.inl ⟨rfl, Or.inr (Or.inl rfl), _, rfl⟩) (hb Y at_388) (QQ := (QL n0)) ⟨rfl, N0⟩ hK hN
theorem C3_35  (c1 : Nat) (c2 : Nat) (c3 : Nat) (c4 : Nat) (c5 : Nat) (kc1 : ClassId) (kc2 : ClassId) (kc3 : ClassId) (kc4 : ClassId) (r0 : Value) (r1 : Value) (r2 : Value) (t0 : Int32) (t1 : Int32) (t2 : Int32) (t3 : Int32) (t4 : Int32) (mm : Int32) (p1 : Int64) (p0 : Int32) (X0 : Stand p l e room_1 s m args below meth c T0 locs 8 25) (G : SG p s m meth c Z a0) (e0 : T0.heap = h0) (N0 : Fr n0 locs) (P : St56 Z h0 n0 c1 c2 c3 c4 c5 kc1 kc2 kc3 kc4 r0 r1 r2 t0 t1 t2 t3 t4 mm p1) :
    EndsSo p e below (LQ s n0) T0 (mkF m 143 (FL p0 p1 3 mm t0 t1 t2 t3 t4 c1 c2 .unset .unset .unset .unset .unset .unset) []) := by
  obtain ⟨hx, hZ, hw, Y, hml, hO, hlk, hret⟩ := id G
  obtain ⟨E_c1, V_c1, O_c1, E_c2, F_c2_t, F_c2_r, F_c2_c, F_c2_s, F_c2_o, V_c3, E_c4, V_c4, O_c4, E_c5, V_c5, O_c5, g_c1, lt_c1_c2, lt_c2_c3, lt_c3_c4, lt_c4_c5, ht0, ht1, ht2, ht3, ht4, rf_r0, rw_r0, rb_r0, rf_r1, rw_r1, rb_r1, rf_r2, rw_r2, rb_r2, hm3, nv_r0, z10, z20, z30, tv0⟩ := id P
  refine aA X0 hx (hb Y at_143) rfl rfl <| lN X0 hx (hb Y at_145) rfl ?_
  have P2400 : St56 Z h0 n0 c1 c2 c3 c4 c5 kc1 kc2 kc3 kc4 r0 r1 r2 t0 t1 t2 t3 t4 mm p1 := ⟨E_c1, V_c1, O_c1, E_c2, F_c2_t, F_c2_r, F_c2_c, F_c2_s, F_c2_o, V_c3, E_c4, V_c4, O_c4, E_c5, V_c5, O_c5, g_c1, lt_c1_c2, lt_c2_c3, lt_c3_c4, lt_c4_c5, ht0, ht1, ht2, ht3, ht4, rf_r0, rw_r0, rb_r0, rf_r1, rw_r1, rb_r1, rf_r2, rw_r2, rb_r2, hm3, nv_r0, z10, z20, z30, tv0⟩
  refine vV X0 hx hZ hO (by rw [hml]; rfl) (w26 hw) (w27 hw) (w29 hw) (w28 hw) (w8 hw) (w30 hw) e0 E_c2 (argsL := [(.long p1)]) (rest := []) (m2399 l Z a0 hw [] h0 n0 c1 c2 c3 c4 c5 kc1 kc2 kc3 kc4 r0 r1 r2 t0 t1 t2 t3 t4 mm p1 P2400) (lenOf pd2 rfl) (hb Y at_146) fun T2280 L2280 v2280 X2280 hQ2280 => ?_
  obtain ⟨rfl, N2280q, P2280⟩ := hQ2280
  obtain ⟨E_c1, V_c1, O_c1, E_c2, F_c2_t, F_c2_r, F_c2_c, F_c2_s, F_c2_o, V_c3, E_c4, V_c4, O_c4, E_c5, V_c5, O_c5, g_c1, lt_c1_c2, lt_c2_c3, lt_c3_c4, lt_c4_c5, ht0, ht1, ht2, ht3, ht4, rf_r0, rw_r0, rb_r0, rf_r1, rw_r1, rb_r1, rf_r2, rw_r2, rb_r2, hm3, nv_r0, z10, z20, z30, tv0⟩ := id P2280
  have N2280 := Fr.app N0 N2280q
  refine f_pop X2280 hx (hb Y at_149) rfl ?_
  rcases id hm3 with rfl | rfl | rfl
  · have P2403 : St59 Z T2280.heap n0 c1 c2 c3 c4 c5 kc1 kc2 kc3 kc4 r1 r2 t0 t1 t2 t3 t4 r0 := ⟨E_c1, V_c1, O_c1, E_c2, F_c2_t, F_c2_r, F_c2_c, F_c2_s, F_c2_o, V_c3, E_c4, V_c4, O_c4, E_c5, V_c5, O_c5, g_c1, lt_c1_c2, lt_c2_c3, lt_c3_c4, lt_c4_c5, ht0, ht1, ht2, ht3, ht4, rf_r0, rw_r0, rb_r0, rf_r1, rw_r1, rb_r1, rf_r2, rw_r2, rb_r2⟩
    exact D0_35 c1 c2 c3 c4 c5 kc1 kc2 kc3 kc4 r1 r2 t0 t1 t2 t3 t4 r0 p0 p1 X2280 G rfl N2280 P2403 (fun T' locs' X' N' => F1_11 p0 p1 (0 : Int32) (1 : Int32) t0 t1 t2 t3 t4 c1 c2 X' G z10 z20 z30 tv0 (F2_29 p0 p1 t0 t1 t2 t3 t4 c1 c2 X' G N' (by decide) (by decide)))
  · have P2439 : St59 Z T2280.heap n0 c1 c2 c3 c4 c5 kc1 kc2 kc3 kc4 r1 r2 t0 t1 t2 t3 t4 r0 := ⟨E_c1, V_c1, O_c1, E_c2, F_c2_t, F_c2_r, F_c2_c, F_c2_s, F_c2_o, V_c3, E_c4, V_c4, O_c4, E_c5, V_c5, O_c5, g_c1, lt_c1_c2, lt_c2_c3, lt_c3_c4, lt_c4_c5, ht0, ht1, ht2, ht3, ht4, rf_r0, rw_r0, rb_r0, rf_r1, rw_r1, rb_r1, rf_r2, rw_r2, rb_r2⟩
    exact D1_36 c1 c2 c3 c4 c5 kc1 kc2 kc3 kc4 r1 r2 t0 t1 t2 t3 t4 r0 p0 p1 X2280 G rfl N2280 P2439 (fun T' locs' X' N' => F1_11 p0 p1 (1 : Int32) (1 : Int32) t0 t1 t2 t3 t4 c1 c2 X' G z10 z20 z30 tv0 (F2_30 p0 p1 t0 t1 t2 t3 t4 c1 c2 X' G N' (by decide) (by decide)))
  · have P2491 : St59 Z T2280.heap n0 c1 c2 c3 c4 c5 kc1 kc2 kc3 kc4 r1 r2 t0 t1 t2 t3 t4 r0 := ⟨E_c1, V_c1, O_c1, E_c2, F_c2_t, F_c2_r, F_c2_c, F_c2_s, F_c2_o, V_c3, E_c4, V_c4, O_c4, E_c5, V_c5, O_c5, g_c1, lt_c1_c2, lt_c2_c3, lt_c3_c4, lt_c4_c5, ht0, ht1, ht2, ht3, ht4, rf_r0, rw_r0, rb_r0, rf_r1, rw_r1, rb_r1, rf_r2, rw_r2, rb_r2⟩
    exact D2_37 c1 c2 c3 c4 c5 kc1 kc2 kc3 kc4 r1 r2 t0 t1 t2 t3 t4 r0 p0 p1 X2280 G rfl N2280 P2491 (fun T' locs' X' N' => F1_11 p0 p1 (2 : Int32) (1 : Int32) t0 t1 t2 t3 t4 c1 c2 X' G z10 z20 z30 tv0 (F2_31 p0 p1 t0 t1 t2 t3 t4 c1 c2 X' G N' (by decide) (by decide)))
def St64 (Z : State) (h : Heap) (n0 : Nat) (c1 : Nat) (c2 : Nat) (c3 : Nat) (c4 : Nat) (c5 : Nat) (kc1 : ClassId) (kc2 : ClassId) (kc3 : ClassId) (kc4 : ClassId) (r0 : Value) (r1 : Value) (r2 : Value) (t0 : Int32) (t1 : Int32) (t2 : Int32) (t3 : Int32) (t4 : Int32) (mm : Int32) (p1 : Int64) : Prop :=
  xO Z h c1 ∧
  Arv Z h c1 kc1 (.object "java/lang/Object") 1 [.null] .null ∧
  Ovr Z kc1 "java/lang/Object" ∧
  Exa Z h c2 cV ∧
  fT Z h c2 (.ref c3) ∧
  fR Z h c2 (.ref c4) ∧
  fC Z h c2 (.ref c5) ∧
  fS Z h c2 (.int 3) ∧
  fO Z h c2 (.int 0) ∧
  aL Z h c3 kc2 4 [(.long 10), (.long 20), (.long 30), (.long 0)] ∧
  xR Z h c4 ∧
  aR Z h c4 kc3 4 [r0, r1, r2, .null] ∧
  oR Z kc3 ∧
  xC Z h c5 ∧
  aC Z h c5 kc4 4 [.null, .null, .null, .null] ∧
  oC Z kc4 ∧
  n0 ≤ c1 ∧
  c1 < c2 ∧
  c2 < c3 ∧
  c3 < c4 ∧
  c4 < c5 ∧
  (t0 = (0 : Int32) ∨ t0 = (1 : Int32)) ∧
  (t1 = (0 : Int32) ∨ t1 = (1 : Int32)) ∧
  (t2 = (0 : Int32) ∨ t2 = (1 : Int32)) ∧
  (t3 = (0 : Int32) ∨ t3 = (1 : Int32)) ∧
  (t4 = (0 : Int32) ∨ t4 = (1 : Int32)) ∧
  r0.isRef = true ∧
  (r0 = .null ∨ r0 = .ref c1) ∧
  ((t0 = (0 : Int32) ∧ r0 = .ref c1) ∨ (t0 = (1 : Int32) ∧ r0 = .null)) ∧
  r1.isRef = true ∧
  (r1 = .null ∨ r1 = .ref c1) ∧
  ((t1 = (0 : Int32) ∧ r1 = .ref c1) ∨ (t1 = (1 : Int32) ∧ r1 = .null)) ∧
  r2.isRef = true ∧
  (r2 = .null ∨ r2 = .ref c1) ∧
  ((t2 = (0 : Int32) ∧ r2 = .ref c1) ∨ (t2 = (1 : Int32) ∧ r2 = .null)) ∧
  (mm = (0 : Int32) ∨ mm = (1 : Int32) ∨ mm = (2 : Int32)) ∧
  r1 = .ref c1 ∧
  ¬ p1 < (10 : Int64) ∧
  ¬ p1 < (20 : Int64) ∧
  p1 < (30 : Int64) ∧
  t1 = (0 : Int32)
def St65 (Z : State) (h : Heap) (n0 : Nat) (c1 : Nat) (c2 : Nat) (c3 : Nat) (c4 : Nat) (c5 : Nat) (kc1 : ClassId) (kc2 : ClassId) (kc3 : ClassId) (kc4 : ClassId) (r1 : Value) (r2 : Value) (t0 : Int32) (t1 : Int32) (t2 : Int32) (t3 : Int32) (t4 : Int32) (r0 : Value) (mm : Int32) (p1 : Int64) : Prop :=
  xO Z h c1 ∧
  Arv Z h c1 kc1 (.object "java/lang/Object") 1 [.null] .null ∧
  Ovr Z kc1 "java/lang/Object" ∧
  Exa Z h c2 cV ∧
  fT Z h c2 (.ref c3) ∧
  fR Z h c2 (.ref c4) ∧
  fC Z h c2 (.ref c5) ∧
  fS Z h c2 (.int 2) ∧
  fO Z h c2 (.int 1) ∧
  aL Z h c3 kc2 4 [(.long 10), (.long 20), (.long 30), (.long 0)] ∧
  xR Z h c4 ∧
  aR Z h c4 kc3 4 [.null, r1, r2, .null] ∧
  oR Z kc3 ∧
  xC Z h c5 ∧
  aC Z h c5 kc4 4 [.null, .null, .null, .null] ∧
  oC Z kc4 ∧
  n0 ≤ c1 ∧
  c1 < c2 ∧
  c2 < c3 ∧
  c3 < c4 ∧
  c4 < c5 ∧
  (t0 = (0 : Int32) ∨ t0 = (1 : Int32)) ∧
  (t1 = (0 : Int32) ∨ t1 = (1 : Int32)) ∧
  (t2 = (0 : Int32) ∨ t2 = (1 : Int32)) ∧
  (t3 = (0 : Int32) ∨ t3 = (1 : Int32)) ∧
  (t4 = (0 : Int32) ∨ t4 = (1 : Int32)) ∧
  r0.isRef = true ∧
  (r0 = .null ∨ r0 = .ref c1) ∧
  ((t0 = (0 : Int32) ∧ r0 = .ref c1) ∨ (t0 = (1 : Int32) ∧ r0 = .null)) ∧
  r1.isRef = true ∧
  (r1 = .null ∨ r1 = .ref c1) ∧
  ((t1 = (0 : Int32) ∧ r1 = .ref c1) ∨ (t1 = (1 : Int32) ∧ r1 = .null)) ∧
  r2.isRef = true ∧
  (r2 = .null ∨ r2 = .ref c1) ∧
  ((t2 = (0 : Int32) ∧ r2 = .ref c1) ∨ (t2 = (1 : Int32) ∧ r2 = .null)) ∧
  (mm = (0 : Int32) ∨ mm = (1 : Int32) ∨ mm = (2 : Int32)) ∧
  r1 = .ref c1 ∧
  ¬ p1 < (10 : Int64) ∧
  ¬ p1 < (20 : Int64) ∧
  p1 < (30 : Int64) ∧
  t1 = (0 : Int32)
def Qm2582 (Z : State) (n0 : Nat) (c1 : Nat) (c2 : Nat) (c3 : Nat) (c4 : Nat) (c5 : Nat) (kc1 : ClassId) (kc2 : ClassId) (kc3 : ClassId) (kc4 : ClassId) (r0 : Value) (r1 : Value) (r2 : Value) (t0 : Int32) (t1 : Int32) (t2 : Int32) (t3 : Int32) (t4 : Int32) (mm : Int32) (p1 : Int64) (v : Option Value) (h : Heap) (L : List Loc) : Prop := v = some (.int 0) ∧ Fr n0 L ∧ St65 Z h n0 c1 c2 c3 c4 c5 kc1 kc2 kc3 kc4 r1 r2 t0 t1 t2 t3 t4 r0 mm p1
theorem m2582 (l : Launch) (Z : State) (a0 : Array Value) (hw : HW a0 Z) (ws : List Jvm.Cond) (h0 : Heap) (n0 : Nat) (c1 : Nat) (c2 : Nat) (c3 : Nat) (c4 : Nat) (c5 : Nat) (kc1 : ClassId) (kc2 : ClassId) (kc3 : ClassId) (kc4 : ClassId) (r0 : Value) (r1 : Value) (r2 : Value) (t0 : Int32) (t1 : Int32) (t2 : Int32) (t3 : Int32) (t4 : Int32) (mm : Int32) (p1 : Int64) (P : St64 Z h0 n0 c1 c2 c3 c4 c5 kc1 kc2 kc3 kc4 r0 r1 r2 t0 t1 t2 t3 t4 mm p1) :
    MC l Z y3 prog_95_method_5_code 5 (some .boolean) ws rm_2_0_0_28 #[(.ref c2), (.long p1)] h0 (Qm2582 Z n0 c1 c2 c3 c4 c5 kc1 kc2 kc3 kc4 r0 r1 r2 t0 t1 t2 t3 t4 mm p1) := by
  obtain ⟨E_c1, V_c1, O_c1, E_c2, F_c2_t, F_c2_r, F_c2_c, F_c2_s, F_c2_o, V_c3, E_c4, V_c4, O_c4, E_c5, V_c5, O_c5, g_c1, lt_c1_c2, lt_c2_c3, lt_c3_c4, lt_c4_c5, ht0, ht1, ht2, ht3, ht4, rf_r0, rw_r0, rb_r0, rf_r1, rw_r1, rb_r1, rf_r2, rw_r2, rb_r2, hm3, nv_r1, z10, z20, z30, tv1⟩ := id P
  refine own_met (plainFor_of_name pn3) fun p e s m below meth c s₁ X0 hx hZ Y hml hO hnm hlk hret e0 => f_cast (f' := mkF m 0 #[(rv c2), (.val (.long p1)), .second, .unset, .unset] []) (by first | (simp [entryFrame, mkF, argsToLocals, Value.category]; done) | rfl) ?_
  have N0 := Fr.nil n0
  refine aN X0 hx (hb Y d3_0) rfl rfl <| gF X0 hx hZ hO (w31 hw) Via.refl e0 F_c2_s (hb Y d3_1) fun T2544 X2544 e2544 => ?_
  refine fY X2544 hx (pc := 4) 9 (hb Y d3_4) <| iK X2544 hx (z := 0) (hb Y d3_9) <| sN X2544 hx (L' := #[(rv c2), (.val (.long p1)), .second, (iv 0), .unset]) (hb Y d3_10) rfl <| iN X2544 hx (hb Y d3_11) rfl <| iK X2544 hx (z := 1) (hb Y d3_12) <| iA X2544 hx (z := 1) (hb Y d3_13) <| aN X2544 hx (hb Y d3_14) rfl rfl <| gF X2544 hx hZ hO (w31 hw) Via.refl e2544 F_c2_s (hb Y d3_15) fun T2545 X2545 e2545 => ?_
  refine cN X2545 hx (hb Y d3_18) <| aN X2545 hx (hb Y d3_21) rfl rfl <| gF X2545 hx hZ hO (w16 hw) Via.refl e2545 F_c2_t (hb Y d3_22) fun T2546 X2546 e2546 => ?_
  refine aN X2546 hx (hb Y d3_25) rfl rfl <| iN X2546 hx (hb Y d3_26) rfl <| iK X2546 hx (z := 1) (hb Y d3_27) <| iA X2546 hx (z := 1) (hb Y d3_28) <| pV X2546 hx hZ hO (by rw [hml]; rfl) (w44 hw) (w45 hw) (w46 hw) (w7 hw) (w8 hw) (w47 hw) e2546 E_c2 (argsL := [(.int 1)]) (rest := [(.ref c3)]) (q1891 l Z a0 hw [] h0 n0 c2 c3 kc2 _ F_c2_o F_c2_t V_c3) (lenOf pd4 rfl) (hb Y d3_29) fun T2547 L2547 v2547 X2547 hQ2547 => ?_
  obtain ⟨rfl, N2547q, e2547⟩ := hQ2547
  have N2547 := Fr.app N0 N2547q
  refine f_lald X2547 hx hZ e2547 V_c3 (v := (.long 20)) rfl (hb Y d3_32) <| lN X2547 hx (hb Y d3_33) rfl <| lC X2547 hx (z := (lcmpW (20 : Int64) p1)) (hb Y d3_34) (q := rfl) <| fN X2547 hx (hb Y d3_35) (hc := (own_gtF z20)) <| f_iinc X2547 hx (L' := #[(rv c2), (.val (.long p1)), .second, (iv 1), .unset]) (hb Y d3_38) rfl rfl <| gT X2547 hx (pc := 41) 11 (hb Y d3_41) <| iN X2547 hx (hb Y d3_11) rfl <| iK X2547 hx (z := 1) (hb Y d3_12) <| iA X2547 hx (z := 2) (hb Y d3_13) <| aN X2547 hx (hb Y d3_14) rfl rfl <| gF X2547 hx hZ hO (w31 hw) Via.refl e2547 F_c2_s (hb Y d3_15) fun T2550 X2550 e2550 => ?_
  refine cN X2550 hx (hb Y d3_18) <| aN X2550 hx (hb Y d3_21) rfl rfl <| gF X2550 hx hZ hO (w16 hw) Via.refl e2550 F_c2_t (hb Y d3_22) fun T2551 X2551 e2551 => ?_
  refine aN X2551 hx (hb Y d3_25) rfl rfl <| iN X2551 hx (hb Y d3_26) rfl <| iK X2551 hx (z := 1) (hb Y d3_27) <| iA X2551 hx (z := 2) (hb Y d3_28) <| pV X2551 hx hZ hO (by rw [hml]; rfl) (w44 hw) (w45 hw) (w46 hw) (w7 hw) (w8 hw) (w47 hw) e2551 E_c2 (argsL := [(.int 2)]) (rest := [(.ref c3)]) (q443 l Z a0 hw [] h0 n0 c2 c3 kc2 _ F_c2_o F_c2_t V_c3) (lenOf pd4 rfl) (hb Y d3_29) fun T2552 L2552 v2552 X2552 hQ2552 => ?_
  obtain ⟨rfl, N2552q, e2552⟩ := hQ2552
  have N2552 := Fr.app N2547 N2552q
  refine f_lald X2552 hx hZ e2552 V_c3 (v := (.long 30)) rfl (hb Y d3_32) <| lN X2552 hx (hb Y d3_33) rfl <| lC X2552 hx (z := (lcmpW (30 : Int64) p1)) (hb Y d3_34) (q := rfl) <| fY X2552 hx (pc := 35) 44 (hb Y d3_35) (hc := (own_gtT z30)) <| aN X2552 hx (hb Y d3_44) rfl rfl <| iN X2552 hx (hb Y d3_45) rfl <| pV X2552 hx hZ hO (by rw [hml]; rfl) (w44 hw) (w45 hw) (w46 hw) (w7 hw) (w8 hw) (w47 hw) e2552 E_c2 (argsL := [(.int 1)]) (rest := []) (q1891 l Z a0 hw [] h0 n0 c2 c3 kc2 _ F_c2_o F_c2_t V_c3) (lenOf pd4 rfl) (hb Y d3_46) fun T2555 L2555 v2555 X2555 hQ2555 => ?_
  obtain ⟨rfl, N2555q, e2555⟩ := hQ2555
  have N2555 := Fr.app N2552 N2555q
  refine iS X2555 hx (L' := #[(rv c2), (.val (.long p1)), .second, (iv 1), (iv 1)]) (hb Y d3_49) rfl <| aN X2555 hx (hb Y d3_51) rfl rfl <| gF X2555 hx hZ hO (w16 hw) Via.refl e2555 F_c2_t (hb Y d3_52) fun T2558 X2558 e2558 => ?_
  refine iL X2558 hx (hb Y d3_55) rfl <| f_lald X2558 hx hZ e2558 V_c3 (v := (.long 20)) rfl (hb Y d3_57) <| lN X2558 hx (hb Y d3_58) rfl <| lC X2558 hx (z := (lcmpW (20 : Int64) p1)) (hb Y d3_59) (q := rfl) <| fN X2558 hx (hb Y d3_60) (hc := (own_gtF z20)) <| aN X2558 hx (hb Y d3_63) rfl rfl <| gF X2558 hx hZ hO (w20 hw) Via.refl e2558 F_c2_r (hb Y d3_64) fun T2559 X2559 e2559 => ?_
  refine iL X2559 hx (hb Y d3_67) rfl <| f_aald X2559 hx hZ e2559 V_c4 rfl (v := r1) rfl (hb Y d3_69) <| f_ifnonnullYv X2559 hx (pc := 70) 76 nv_r1 (hb Y d3_70) <| aN X2559 hx (hb Y d3_76) rfl rfl <| iN X2559 hx (hb Y d3_77) rfl ?_
  have P2580 : St49 Z h0 n0 c1 c2 c3 c4 c5 kc1 kc2 kc3 kc4 (10 : Int64) (20 : Int64) (30 : Int64) (0 : Int64) r0 r1 r2 .null := ⟨E_c1, V_c1, O_c1, E_c2, F_c2_t, F_c2_r, F_c2_c, F_c2_s, F_c2_o, V_c3, E_c4, V_c4, O_c4, E_c5, V_c5, O_c5, g_c1, lt_c1_c2, lt_c2_c3, lt_c3_c4, lt_c4_c5, rf_r0, rw_r0, rf_r1, rw_r1, rf_r2, rw_r2, rfl, (Or.inl rfl)⟩
  refine pV X2559 hx hZ hO (by rw [hml]; rfl) (w52 hw) (w53 hw) (w54 hw) (w7 hw) (w8 hw) (w55 hw) e2559 E_c2 (argsL := [(.int 1)]) (rest := []) (m2396 l Z a0 hw [] h0 n0 c1 c2 c3 c4 c5 kc1 kc2 kc3 kc4 (10 : Int64) (20 : Int64) (30 : Int64) (0 : Int64) r0 r1 r2 .null P2580) (lenOf pd6 rfl) (hb Y d3_78) fun T2560 L2560 v2560 X2560 hQ2560 => ?_
  obtain ⟨rfl, N2560q, P2560⟩ := hQ2560
  obtain ⟨E_c1, V_c1, O_c1, E_c2, F_c2_t, F_c2_r, F_c2_c, F_c2_s, F_c2_o, V_c3, E_c4, V_c4, O_c4, E_c5, V_c5, O_c5, g_c1, lt_c1_c2, lt_c2_c3, lt_c3_c4, lt_c4_c5, _, _, _, _, _, _, _, _⟩ := id P2560
  have N2560 := Fr.app N2555 N2560q
  refine aN X2560 hx (hb Y d3_81) rfl rfl <| gF X2560 hx hZ hO (w31 hw) Via.refl rfl F_c2_s (hb Y d3_82) fun T2581 X2581 e2581 => ?_
  refine fY X2581 hx (pc := 85) 92 (hb Y d3_85) <| iK X2581 hx (z := 0) (hb Y d3_92) ?_
  exact f_ret X2581 hx hlk (i := .ireturn) hret rfl (Or.inl ⟨rfl, Or.inr (Or.inl rfl), _, rfl⟩) (hb Y d3_93) (QQ := (Qm2582 Z n0 c1 c2 c3 c4 c5 kc1 kc2 kc3 kc4 r0 r1 r2 t0 t1 t2 t3 t4 mm p1)) (by rw [e2581]; exact ⟨rfl, N2560, E_c1, V_c1, O_c1, E_c2, F_c2_t, F_c2_r, F_c2_c, F_c2_s, F_c2_o, V_c3, E_c4, V_c4, O_c4, E_c5, V_c5, O_c5, g_c1, lt_c1_c2, lt_c2_c3, lt_c3_c4, lt_c4_c5, ht0, ht1, ht2, ht3, ht4, rf_r0, rw_r0, rb_r0, rf_r1, rw_r1, rb_r1, rf_r2, rw_r2, rb_r2, hm3, nv_r1, z10, z20, z30, tv1⟩) (by decide) (by decide)
theorem F1_12  {cells slots : Nat} (p0 : Int32) (p1 : Int64) (mm : Int32) (gg : Int32) (t0 : Int32) (t1 : Int32) (t2 : Int32) (t3 : Int32) (t4 : Int32) (c1 : Nat) (c2 : Nat) (X0 : Stand p l e room_1 s m args below meth c T0 locs cells slots) (G : SG p s m meth c Z a0) (z20 : ¬ p1 < (20 : Int64)) (z30 : p1 < (30 : Int64)) (tv1 : t1 = (0 : Int32)) (h : EndsSo p e below (LQ s n0) T0 (mkF m 303 (FL p0 p1 3 mm t0 t1 t2 t3 t4 c1 c2 (iv gg) (iv 1) (iv t1) (.val (.long 20)) .second .unset) [])) :
    EndsSo p e below (LQ s n0) T0 (mkF m 209 (FL p0 p1 3 mm t0 t1 t2 t3 t4 c1 c2 (iv gg) .unset .unset .unset .unset .unset) []) := by
  obtain ⟨hx, hZ, hw, Y, hml, hO, hlk, hret⟩ := id G
  refine iK X0 hx (z := 0) (hb Y at_209) <| iS X0 hx (L' := (FL p0 p1 3 mm t0 t1 t2 t3 t4 c1 c2 (iv gg) (iv 0) .unset .unset .unset .unset)) (hb Y at_210) rfl <| iN X0 hx (hb Y at_212) rfl <| iK X0 hx (z := 2) (hb Y at_213) <| cN X0 hx (hb Y at_214) <| lN X0 hx (hb Y at_217) rfl <| f_ldc2 X0 hx hZ hO (w51 hw) (hb Y at_218) <| lC X0 hx (z := (lcmpW p1 (20 : Int64))) (hb Y at_221) (q := rfl) <| fN X0 hx (hb Y at_222) (hc := (own_ltF z20)) <| iK X0 hx (z := 1) (hb Y at_225) <| iS X0 hx (L' := (FL p0 p1 3 mm t0 t1 t2 t3 t4 c1 c2 (iv gg) (iv 1) .unset .unset .unset .unset)) (hb Y at_226) rfl <| iN X0 hx (hb Y at_228) rfl <| iK X0 hx (z := 3) (hb Y at_229) <| cN X0 hx (hb Y at_230) <| lN X0 hx (hb Y at_233) rfl <| f_ldc2 X0 hx hZ hO (w57 hw) (hb Y at_234) <| lC X0 hx (z := (lcmpW p1 (30 : Int64))) (hb Y at_237) (q := rfl) <| fY X0 hx (pc := 238) 244 (hb Y at_238) (hc := (own_ltT z30)) <| iN X0 hx (hb Y at_244) rfl <| iK X0 hx (z := 1) (hb Y at_245) <| cN X0 hx (hb Y at_246) <| iL X0 hx (hb Y at_249) rfl <| fY X0 hx (pc := 251) 259 (hb Y at_251) <| iL X0 hx (hb Y at_259) rfl <| iK X0 hx (z := 1) (hb Y at_261) <| cN X0 hx (hb Y at_262) <| iL X0 hx (hb Y at_265) rfl <| gT X0 hx (pc := 267) 272 (hb Y at_267) <| iS X0 hx (L' := (FL p0 p1 3 mm t0 t1 t2 t3 t4 c1 c2 (iv gg) (iv 1) (iv t1) .unset .unset .unset)) (hb Y at_272) rfl <| f_ldc2 X0 hx hZ hO (w38 hw) (hb Y at_274) <| iL X0 hx (hb Y at_277) rfl <| iK X0 hx (z := 1) (hb Y at_279) <| iA X0 hx (z := 2) (hb Y at_280) <| f_i2l X0 hx (z := 2) (hb Y at_281) <| f_lmul X0 hx (z := 20) (hb Y at_282) <| f_lstore X0 hx (L' := (FL p0 p1 3 mm t0 t1 t2 t3 t4 c1 c2 (iv gg) (iv 1) (iv t1) (.val (.long 20)) .second .unset)) (hb Y at_283) rfl <| f_lload X0 hx (hb Y at_285) rfl <| lN X0 hx (hb Y at_287) rfl <| lC X0 hx (z := (lcmpW (20 : Int64) p1)) (hb Y at_288) (q := rfl) <| fN X0 hx (hb Y at_289) (hc := (own_gtF z20)) <| iL X0 hx (hb Y at_292) rfl <| fY X0 hx (pc := 294) 303 (hb Y at_294) (hc := (own_eqT tv1)) ?_
  exact h
theorem F2_32  {cells slots : Nat} (p0 : Int32) (p1 : Int64) (t0 : Int32) (t1 : Int32) (t2 : Int32) (t3 : Int32) (t4 : Int32) (c1 : Nat) (c2 : Nat) (X0 : Stand p l e room_1 s m args below meth c T0 locs cells slots) (G : SG p s m meth c Z a0) (N0 : Fr n0 locs) (hK : cells ≤ room_1.cells) (hN : slots ≤ room_1.slots) :
    EndsSo p e below (LQ s n0) T0 (mkF m 303 (FL p0 p1 3 0 t0 t1 t2 t3 t4 c1 c2 (iv 1) (iv 1) (iv t1) (.val (.long 20)) .second .unset) []) := by
  obtain ⟨hx, hZ, hw, Y, hml, hO, hlk, hret⟩ := id G
  refine iN X0 hx (hb Y at_303) rfl <| iL X0 hx (hb Y at_304) rfl <| iB X0 hx (z := 2) (hb Y at_306) <| iS X0 hx (L' := (FL p0 p1 3 0 t0 t1 t2 t3 t4 c1 c2 (iv 1) (iv 1) (iv 2) (.val (.long 20)) .second .unset)) (hb Y at_307) rfl <| iL X0 hx (hb Y at_309) rfl <| iL X0 hx (hb Y at_311) rfl <| iA X0 hx (z := 2) (hb Y at_313) <| iS X0 hx (L' := (FL p0 p1 3 0 t0 t1 t2 t3 t4 c1 c2 (iv 1) (iv 1) (iv 2) (iv 2) .unset .unset)) (hb Y at_314) rfl <| iL X0 hx (hb Y at_316) rfl <| iK X0 hx (z := 1) (hb Y at_318) <| cY X0 hx (pc := 319) 348 (hb Y at_319) <| iL X0 hx (hb Y at_348) rfl <| iS X0 hx (L' := (FL p0 p1 3 0 t0 t1 t2 t3 t4 c1 c2 (iv 1) (iv 1) (iv 2) (iv 2) (iv t3) .unset)) (hb Y at_350) rfl <| iL X0 hx (hb Y at_352) rfl <| iK X0 hx (z := 1) (hb Y at_354) <| cY X0 hx (pc := 355) 369 (hb Y at_355) <| iK X0 hx (z := 1) (hb Y at_369) <| gT X0 hx (pc := 370) 374 (hb Y at_370) <| iS X0 hx (L' := (FL p0 p1 3 0 t0 t1 t2 t3 t4 c1 c2 (iv 1) (iv 1) (iv 2) (iv 2) (iv t3) (iv 1))) (hb Y at_374) rfl <| iL X0 hx (hb Y at_376) rfl <| iL X0 hx (hb Y at_378) rfl <| cN X0 hx (hb Y at_380) <| iK X0 hx (z := 1) (hb Y at_383) <| gT X0 hx (pc := 384) 388 (hb Y at_384) ?_
  exact f_ret X0 hx hlk (i := .ireturn) hret rfl (Or.inl ⟨rfl, Or.inr (Or.inl rfl), _, rfl⟩) (hb Y at_388) (QQ := (QL n0)) ⟨rfl, N0⟩ hK hN
theorem F2_33  {cells slots : Nat} (p0 : Int32) (p1 : Int64) (t0 : Int32) (t1 : Int32) (t2 : Int32) (t3 : Int32) (t4 : Int32) (c1 : Nat) (c2 : Nat) (X0 : Stand p l e room_1 s m args below meth c T0 locs cells slots) (G : SG p s m meth c Z a0) (N0 : Fr n0 locs) (hK : cells ≤ room_1.cells) (hN : slots ≤ room_1.slots) :
    EndsSo p e below (LQ s n0) T0 (mkF m 303 (FL p0 p1 3 1 t0 t1 t2 t3 t4 c1 c2 (iv 1) (iv 1) (iv t1) (.val (.long 20)) .second .unset) []) := by
  obtain ⟨hx, hZ, hw, Y, hml, hO, hlk, hret⟩ := id G
  refine iN X0 hx (hb Y at_303) rfl <| iL X0 hx (hb Y at_304) rfl <| iB X0 hx (z := 2) (hb Y at_306) <| iS X0 hx (L' := (FL p0 p1 3 1 t0 t1 t2 t3 t4 c1 c2 (iv 1) (iv 1) (iv 2) (.val (.long 20)) .second .unset)) (hb Y at_307) rfl <| iL X0 hx (hb Y at_309) rfl <| iL X0 hx (hb Y at_311) rfl <| iA X0 hx (z := 3) (hb Y at_313) <| iS X0 hx (L' := (FL p0 p1 3 1 t0 t1 t2 t3 t4 c1 c2 (iv 1) (iv 1) (iv 2) (iv 3) .unset .unset)) (hb Y at_314) rfl <| iL X0 hx (hb Y at_316) rfl <| iK X0 hx (z := 1) (hb Y at_318) <| cY X0 hx (pc := 319) 348 (hb Y at_319) <| iL X0 hx (hb Y at_348) rfl <| iS X0 hx (L' := (FL p0 p1 3 1 t0 t1 t2 t3 t4 c1 c2 (iv 1) (iv 1) (iv 2) (iv 3) (iv t3) .unset)) (hb Y at_350) rfl <| iL X0 hx (hb Y at_352) rfl <| iK X0 hx (z := 1) (hb Y at_354) <| cY X0 hx (pc := 355) 369 (hb Y at_355) <| iK X0 hx (z := 1) (hb Y at_369) <| gT X0 hx (pc := 370) 374 (hb Y at_370) <| iS X0 hx (L' := (FL p0 p1 3 1 t0 t1 t2 t3 t4 c1 c2 (iv 1) (iv 1) (iv 2) (iv 3) (iv t3) (iv 1))) (hb Y at_374) rfl <| iL X0 hx (hb Y at_376) rfl <| iL X0 hx (hb Y at_378) rfl <| cN X0 hx (hb Y at_380) <| iK X0 hx (z := 1) (hb Y at_383) <| gT X0 hx (pc := 384) 388 (hb Y at_384) ?_
  exact f_ret X0 hx hlk (i := .ireturn) hret rfl (Or.inl ⟨rfl, Or.inr (Or.inl rfl), _, rfl⟩) (hb Y at_388) (QQ := (QL n0)) ⟨rfl, N0⟩ hK hN
theorem F2_34  {cells slots : Nat} (p0 : Int32) (p1 : Int64) (t0 : Int32) (t1 : Int32) (t2 : Int32) (t3 : Int32) (t4 : Int32) (c1 : Nat) (c2 : Nat) (X0 : Stand p l e room_1 s m args below meth c T0 locs cells slots) (G : SG p s m meth c Z a0) (N0 : Fr n0 locs) (hK : cells ≤ room_1.cells) (hN : slots ≤ room_1.slots) :
    EndsSo p e below (LQ s n0) T0 (mkF m 303 (FL p0 p1 3 2 t0 t1 t2 t3 t4 c1 c2 (iv 1) (iv 1) (iv t1) (.val (.long 20)) .second .unset) []) := by
  obtain ⟨hx, hZ, hw, Y, hml, hO, hlk, hret⟩ := id G
  refine iN X0 hx (hb Y at_303) rfl <| iL X0 hx (hb Y at_304) rfl <| iB X0 hx (z := 2) (hb Y at_306) <| iS X0 hx (L' := (FL p0 p1 3 2 t0 t1 t2 t3 t4 c1 c2 (iv 1) (iv 1) (iv 2) (.val (.long 20)) .second .unset)) (hb Y at_307) rfl <| iL X0 hx (hb Y at_309) rfl <| iL X0 hx (hb Y at_311) rfl <| iA X0 hx (z := 4) (hb Y at_313) <| iS X0 hx (L' := (FL p0 p1 3 2 t0 t1 t2 t3 t4 c1 c2 (iv 1) (iv 1) (iv 2) (iv 4) .unset .unset)) (hb Y at_314) rfl <| iL X0 hx (hb Y at_316) rfl <| iK X0 hx (z := 1) (hb Y at_318) <| cY X0 hx (pc := 319) 348 (hb Y at_319) <| iL X0 hx (hb Y at_348) rfl <| iS X0 hx (L' := (FL p0 p1 3 2 t0 t1 t2 t3 t4 c1 c2 (iv 1) (iv 1) (iv 2) (iv 4) (iv t3) .unset)) (hb Y at_350) rfl <| iL X0 hx (hb Y at_352) rfl <| iK X0 hx (z := 1) (hb Y at_354) <| cY X0 hx (pc := 355) 369 (hb Y at_355) <| iK X0 hx (z := 1) (hb Y at_369) <| gT X0 hx (pc := 370) 374 (hb Y at_370) <| iS X0 hx (L' := (FL p0 p1 3 2 t0 t1 t2 t3 t4 c1 c2 (iv 1) (iv 1) (iv 2) (iv 4) (iv t3) (iv 1))) (hb Y at_374) rfl <| iL X0 hx (hb Y at_376) rfl <| iL X0 hx (hb Y at_378) rfl <| cN X0 hx (hb Y at_380) <| iK X0 hx (z := 1) (hb Y at_383) <| gT X0 hx (pc := 384) 388 (hb Y at_384) ?_
  exact f_ret X0 hx hlk (i := .ireturn) hret rfl (Or.inl ⟨rfl, Or.inr (Or.inl rfl), _, rfl⟩) (hb Y at_388) (QQ := (QL n0)) ⟨rfl, N0⟩ hK hN
theorem C3_39  (c1 : Nat) (c2 : Nat) (c3 : Nat) (c4 : Nat) (c5 : Nat) (kc1 : ClassId) (kc2 : ClassId) (kc3 : ClassId) (kc4 : ClassId) (r0 : Value) (r1 : Value) (r2 : Value) (t0 : Int32) (t1 : Int32) (t2 : Int32) (t3 : Int32) (t4 : Int32) (mm : Int32) (p1 : Int64) (p0 : Int32) (X0 : Stand p l e room_1 s m args below meth c T0 locs 8 25) (G : SG p s m meth c Z a0) (e0 : T0.heap = h0) (N0 : Fr n0 locs) (P : St64 Z h0 n0 c1 c2 c3 c4 c5 kc1 kc2 kc3 kc4 r0 r1 r2 t0 t1 t2 t3 t4 mm p1) :
    EndsSo p e below (LQ s n0) T0 (mkF m 143 (FL p0 p1 3 mm t0 t1 t2 t3 t4 c1 c2 .unset .unset .unset .unset .unset .unset) []) := by
  obtain ⟨hx, hZ, hw, Y, hml, hO, hlk, hret⟩ := id G
  obtain ⟨E_c1, V_c1, O_c1, E_c2, F_c2_t, F_c2_r, F_c2_c, F_c2_s, F_c2_o, V_c3, E_c4, V_c4, O_c4, E_c5, V_c5, O_c5, g_c1, lt_c1_c2, lt_c2_c3, lt_c3_c4, lt_c4_c5, ht0, ht1, ht2, ht3, ht4, rf_r0, rw_r0, rb_r0, rf_r1, rw_r1, rb_r1, rf_r2, rw_r2, rb_r2, hm3, nv_r1, z10, z20, z30, tv1⟩ := id P
  refine aA X0 hx (hb Y at_143) rfl rfl <| lN X0 hx (hb Y at_145) rfl ?_
  have P2583 : St64 Z h0 n0 c1 c2 c3 c4 c5 kc1 kc2 kc3 kc4 r0 r1 r2 t0 t1 t2 t3 t4 mm p1 := ⟨E_c1, V_c1, O_c1, E_c2, F_c2_t, F_c2_r, F_c2_c, F_c2_s, F_c2_o, V_c3, E_c4, V_c4, O_c4, E_c5, V_c5, O_c5, g_c1, lt_c1_c2, lt_c2_c3, lt_c3_c4, lt_c4_c5, ht0, ht1, ht2, ht3, ht4, rf_r0, rw_r0, rb_r0, rf_r1, rw_r1, rb_r1, rf_r2, rw_r2, rb_r2, hm3, nv_r1, z10, z20, z30, tv1⟩
  refine vV X0 hx hZ hO (by rw [hml]; rfl) (w26 hw) (w27 hw) (w29 hw) (w28 hw) (w8 hw) (w30 hw) e0 E_c2 (argsL := [(.long p1)]) (rest := []) (m2582 l Z a0 hw [] h0 n0 c1 c2 c3 c4 c5 kc1 kc2 kc3 kc4 r0 r1 r2 t0 t1 t2 t3 t4 mm p1 P2583) (lenOf pd2 rfl) (hb Y at_146) fun T2493 L2493 v2493 X2493 hQ2493 => ?_
  obtain ⟨rfl, N2493q, P2493⟩ := hQ2493
  obtain ⟨E_c1, V_c1, O_c1, E_c2, F_c2_t, F_c2_r, F_c2_c, F_c2_s, F_c2_o, V_c3, E_c4, V_c4, O_c4, E_c5, V_c5, O_c5, g_c1, lt_c1_c2, lt_c2_c3, lt_c3_c4, lt_c4_c5, ht0, ht1, ht2, ht3, ht4, rf_r0, rw_r0, rb_r0, rf_r1, rw_r1, rb_r1, rf_r2, rw_r2, rb_r2, hm3, nv_r1, z10, z20, z30, tv1⟩ := id P2493
  have N2493 := Fr.app N0 N2493q
  refine f_pop X2493 hx (hb Y at_149) rfl ?_
  rcases id hm3 with rfl | rfl | rfl
  · have P2584 : St59 Z T2493.heap n0 c1 c2 c3 c4 c5 kc1 kc2 kc3 kc4 r1 r2 t0 t1 t2 t3 t4 r0 := ⟨E_c1, V_c1, O_c1, E_c2, F_c2_t, F_c2_r, F_c2_c, F_c2_s, F_c2_o, V_c3, E_c4, V_c4, O_c4, E_c5, V_c5, O_c5, g_c1, lt_c1_c2, lt_c2_c3, lt_c3_c4, lt_c4_c5, ht0, ht1, ht2, ht3, ht4, rf_r0, rw_r0, rb_r0, rf_r1, rw_r1, rb_r1, rf_r2, rw_r2, rb_r2⟩
    exact D0_35 c1 c2 c3 c4 c5 kc1 kc2 kc3 kc4 r1 r2 t0 t1 t2 t3 t4 r0 p0 p1 X2493 G rfl N2493 P2584 (fun T' locs' X' N' => F1_12 p0 p1 (0 : Int32) (1 : Int32) t0 t1 t2 t3 t4 c1 c2 X' G z20 z30 tv1 (F2_32 p0 p1 t0 t1 t2 t3 t4 c1 c2 X' G N' (by decide) (by decide)))
  · have P2585 : St59 Z T2493.heap n0 c1 c2 c3 c4 c5 kc1 kc2 kc3 kc4 r1 r2 t0 t1 t2 t3 t4 r0 := ⟨E_c1, V_c1, O_c1, E_c2, F_c2_t, F_c2_r, F_c2_c, F_c2_s, F_c2_o, V_c3, E_c4, V_c4, O_c4, E_c5, V_c5, O_c5, g_c1, lt_c1_c2, lt_c2_c3, lt_c3_c4, lt_c4_c5, ht0, ht1, ht2, ht3, ht4, rf_r0, rw_r0, rb_r0, rf_r1, rw_r1, rb_r1, rf_r2, rw_r2, rb_r2⟩
    exact D1_36 c1 c2 c3 c4 c5 kc1 kc2 kc3 kc4 r1 r2 t0 t1 t2 t3 t4 r0 p0 p1 X2493 G rfl N2493 P2585 (fun T' locs' X' N' => F1_12 p0 p1 (1 : Int32) (1 : Int32) t0 t1 t2 t3 t4 c1 c2 X' G z20 z30 tv1 (F2_33 p0 p1 t0 t1 t2 t3 t4 c1 c2 X' G N' (by decide) (by decide)))
  · have P2586 : St59 Z T2493.heap n0 c1 c2 c3 c4 c5 kc1 kc2 kc3 kc4 r1 r2 t0 t1 t2 t3 t4 r0 := ⟨E_c1, V_c1, O_c1, E_c2, F_c2_t, F_c2_r, F_c2_c, F_c2_s, F_c2_o, V_c3, E_c4, V_c4, O_c4, E_c5, V_c5, O_c5, g_c1, lt_c1_c2, lt_c2_c3, lt_c3_c4, lt_c4_c5, ht0, ht1, ht2, ht3, ht4, rf_r0, rw_r0, rb_r0, rf_r1, rw_r1, rb_r1, rf_r2, rw_r2, rb_r2⟩
    exact D2_37 c1 c2 c3 c4 c5 kc1 kc2 kc3 kc4 r1 r2 t0 t1 t2 t3 t4 r0 p0 p1 X2493 G rfl N2493 P2586 (fun T' locs' X' N' => F1_12 p0 p1 (2 : Int32) (1 : Int32) t0 t1 t2 t3 t4 c1 c2 X' G z20 z30 tv1 (F2_34 p0 p1 t0 t1 t2 t3 t4 c1 c2 X' G N' (by decide) (by decide)))
def St66 (Z : State) (h : Heap) (n0 : Nat) (c1 : Nat) (c2 : Nat) (c3 : Nat) (c4 : Nat) (c5 : Nat) (kc1 : ClassId) (kc2 : ClassId) (kc3 : ClassId) (kc4 : ClassId) (r0 : Value) (r1 : Value) (r2 : Value) (t0 : Int32) (t1 : Int32) (t2 : Int32) (t3 : Int32) (t4 : Int32) (mm : Int32) (p1 : Int64) : Prop :=
  xO Z h c1 ∧
  Arv Z h c1 kc1 (.object "java/lang/Object") 1 [.null] .null ∧
  Ovr Z kc1 "java/lang/Object" ∧
  Exa Z h c2 cV ∧
  fT Z h c2 (.ref c3) ∧
  fR Z h c2 (.ref c4) ∧
  fC Z h c2 (.ref c5) ∧
  fS Z h c2 (.int 3) ∧
  fO Z h c2 (.int 0) ∧
  aL Z h c3 kc2 4 [(.long 10), (.long 20), (.long 30), (.long 0)] ∧
  xR Z h c4 ∧
  aR Z h c4 kc3 4 [r0, r1, r2, .null] ∧
  oR Z kc3 ∧
  xC Z h c5 ∧
  aC Z h c5 kc4 4 [.null, .null, .null, .null] ∧
  oC Z kc4 ∧
  n0 ≤ c1 ∧
  c1 < c2 ∧
  c2 < c3 ∧
  c3 < c4 ∧
  c4 < c5 ∧
  (t0 = (0 : Int32) ∨ t0 = (1 : Int32)) ∧
  (t1 = (0 : Int32) ∨ t1 = (1 : Int32)) ∧
  (t2 = (0 : Int32) ∨ t2 = (1 : Int32)) ∧
  (t3 = (0 : Int32) ∨ t3 = (1 : Int32)) ∧
  (t4 = (0 : Int32) ∨ t4 = (1 : Int32)) ∧
  r0.isRef = true ∧
  (r0 = .null ∨ r0 = .ref c1) ∧
  ((t0 = (0 : Int32) ∧ r0 = .ref c1) ∨ (t0 = (1 : Int32) ∧ r0 = .null)) ∧
  r1.isRef = true ∧
  (r1 = .null ∨ r1 = .ref c1) ∧
  ((t1 = (0 : Int32) ∧ r1 = .ref c1) ∨ (t1 = (1 : Int32) ∧ r1 = .null)) ∧
  r2.isRef = true ∧
  (r2 = .null ∨ r2 = .ref c1) ∧
  ((t2 = (0 : Int32) ∧ r2 = .ref c1) ∨ (t2 = (1 : Int32) ∧ r2 = .null)) ∧
  (mm = (0 : Int32) ∨ mm = (1 : Int32) ∨ mm = (2 : Int32)) ∧
  r1 = .null ∧
  ¬ p1 < (10 : Int64) ∧
  ¬ p1 < (20 : Int64) ∧
  p1 < (30 : Int64) ∧
  t1 = (1 : Int32)
def St67 (Z : State) (h : Heap) (n0 : Nat) (c1 : Nat) (c2 : Nat) (c3 : Nat) (c4 : Nat) (c5 : Nat) (kc1 : ClassId) (kc2 : ClassId) (kc3 : ClassId) (kc4 : ClassId) (uu1 : Int64) (uu2 : Int64) (uu3 : Int64) (uu4 : Int64) (ww7 : Value) (ww8 : Value) (ww5 : Value) (ww6 : Value) : Prop :=
  xO Z h c1 ∧
  Arv Z h c1 kc1 (.object "java/lang/Object") 1 [.null] .null ∧
  Ovr Z kc1 "java/lang/Object" ∧
  Exa Z h c2 cV ∧
  fT Z h c2 (.ref c3) ∧
  fR Z h c2 (.ref c4) ∧
  fC Z h c2 (.ref c5) ∧
  fS Z h c2 (.int 1) ∧
  fO Z h c2 (.int 2) ∧
  aL Z h c3 kc2 4 [(.long uu1), (.long uu2), (.long uu3), (.long uu4)] ∧
  xR Z h c4 ∧
  aR Z h c4 kc3 4 [.null, .null, ww7, ww8] ∧
  oR Z kc3 ∧
  xC Z h c5 ∧
  aC Z h c5 kc4 4 [.null, .null, .null, .null] ∧
  oC Z kc4 ∧
  n0 ≤ c1 ∧
  c1 < c2 ∧
  c2 < c3 ∧
  c3 < c4 ∧
  c4 < c5 ∧
  ww5.isRef = true ∧
  (ww5 = .null ∨ ww5 = .ref c1) ∧
  ww6.isRef = true ∧
  (ww6 = .null ∨ ww6 = .ref c1) ∧
  ww7.isRef = true ∧
  (ww7 = .null ∨ ww7 = .ref c1) ∧
  ww8.isRef = true ∧
  (ww8 = .null ∨ ww8 = .ref c1)
def Qm2754 (Z : State) (n0 : Nat) (c1 : Nat) (c2 : Nat) (c3 : Nat) (c4 : Nat) (c5 : Nat) (kc1 : ClassId) (kc2 : ClassId) (kc3 : ClassId) (kc4 : ClassId) (uu1 : Int64) (uu2 : Int64) (uu3 : Int64) (uu4 : Int64) (ww5 : Value) (ww6 : Value) (ww7 : Value) (ww8 : Value) (v : Option Value) (h : Heap) (L : List Loc) : Prop := v = none ∧ Fr n0 L ∧ St67 Z h n0 c1 c2 c3 c4 c5 kc1 kc2 kc3 kc4 uu1 uu2 uu3 uu4 ww7 ww8 ww5 ww6
theorem m2754 (l : Launch) (Z : State) (a0 : Array Value) (hw : HW a0 Z) (ws : List Jvm.Cond) (h0 : Heap) (n0 : Nat) (c1 : Nat) (c2 : Nat) (c3 : Nat) (c4 : Nat) (c5 : Nat) (kc1 : ClassId) (kc2 : ClassId) (kc3 : ClassId) (kc4 : ClassId) (uu1 : Int64) (uu2 : Int64) (uu3 : Int64) (uu4 : Int64) (ww5 : Value) (ww6 : Value) (ww7 : Value) (ww8 : Value) (P : St49 Z h0 n0 c1 c2 c3 c4 c5 kc1 kc2 kc3 kc4 uu1 uu2 uu3 uu4 ww5 ww6 ww7 ww8) :
    MC l Z y7 prog_95_method_9_code 3 none ws rm_1_0_0_14 #[(.ref c2), (.int 2)] h0 (Qm2754 Z n0 c1 c2 c3 c4 c5 kc1 kc2 kc3 kc4 uu1 uu2 uu3 uu4 ww5 ww6 ww7 ww8) := by
  obtain ⟨E_c1, V_c1, O_c1, E_c2, F_c2_t, F_c2_r, F_c2_c, F_c2_s, F_c2_o, V_c3, E_c4, V_c4, O_c4, E_c5, V_c5, O_c5, g_c1, lt_c1_c2, lt_c2_c3, lt_c3_c4, lt_c4_c5, rf_ww5, rw_ww5, rf_ww6, rw_ww6, rf_ww7, rw_ww7, rf_ww8, rw_ww8⟩ := id P
  refine own_met (plainFor_of_name pn7) fun p e s m below meth c s₁ X0 hx hZ Y hml hO hnm hlk hret e0 => f_cast (f' := mkF m 0 #[(rv c2), (iv 2), .unset] []) (by first | (simp [entryFrame, mkF, argsToLocals, Value.category]; done) | rfl) ?_
  have N0 := Fr.nil n0
  refine iK X0 hx (z := 0) (hb Y d7_0) <| sN X0 hx (L' := #[(rv c2), (iv 2), (iv 0)]) (hb Y d7_1) rfl <| iN X0 hx (hb Y d7_2) rfl <| iN X0 hx (hb Y d7_3) rfl <| cN X0 hx (hb Y d7_4) <| aN X0 hx (hb Y d7_7) rfl rfl <| gF X0 hx hZ hO (w20 hw) Via.refl e0 F_c2_r (hb Y d7_8) fun T2725 X2725 e2725 => ?_
  refine aN X2725 hx (hb Y d7_11) rfl rfl <| iN X2725 hx (hb Y d7_12) rfl <| pV X2725 hx hZ hO (by rw [hml]; rfl) (w44 hw) (w45 hw) (w46 hw) (w7 hw) (w8 hw) (w47 hw) e2725 E_c2 (argsL := [(.int 0)]) (rest := [(.ref c4)]) (q1895 l Z a0 hw [] h0 n0 c2 c3 kc2 _ F_c2_o F_c2_t V_c3) (lenOf pd4 rfl) (hb Y d7_13) fun T2726 L2726 v2726 X2726 hQ2726 => ?_
  obtain ⟨rfl, N2726q, e2726⟩ := hQ2726
  have N2726 := Fr.app N0 N2726q
  refine f_null X2726 hx (hb Y d7_16) <| f_ast X2726 hx hZ e2726 V_c4 rfl (Or.inl rfl) rfl 0 (hb Y d7_17) fun T2729 h2729 X2729 e2729 W2729 V2729 => ?_
  have N2729x := Fr.snoc X2729 N2726 (by omega : n0 ≤ c4)
  refine aN X2729 hx (hb Y d7_18) rfl rfl ?_
  replace F_c2_c := (fo W2729 F_c2_c)
  refine gF X2729 hx hZ hO (w24 hw) Via.refl e2729 F_c2_c (hb Y d7_19) fun T2730 X2730 e2730 => ?_
  refine aN X2730 hx (hb Y d7_22) rfl rfl <| iN X2730 hx (hb Y d7_23) rfl ?_
  replace F_c2_o := (fo W2729 F_c2_o)
  replace F_c2_t := (fo W2729 F_c2_t)
  replace V_c3 := (vo V_c3 W2729)
  replace E_c2 := (xw W2729 E_c2)
  refine pV X2730 hx hZ hO (by rw [hml]; rfl) (w44 hw) (w45 hw) (w46 hw) (w7 hw) (w8 hw) (w47 hw) e2730 E_c2 (argsL := [(.int 0)]) (rest := [(.ref c5)]) (q1895 l Z a0 hw [] h2729 n0 c2 c3 kc2 _ F_c2_o F_c2_t V_c3) (lenOf pd4 rfl) (hb Y d7_24) fun T2731 L2731 v2731 X2731 hQ2731 => ?_
  obtain ⟨rfl, N2731q, e2731⟩ := hQ2731
  have N2731 := Fr.app N2729x N2731q
  refine f_null X2731 hx (hb Y d7_27) ?_
  replace V_c5 := (vo V_c5 W2729)
  refine f_ast X2731 hx hZ e2731 V_c5 rfl (Or.inl rfl) rfl 0 (hb Y d7_28) fun T2734 h2734 X2734 e2734 W2734 V2734 => ?_
  have N2734x := Fr.snoc X2734 N2731 (by omega : n0 ≤ c5)
  refine f_iinc X2734 hx (L' := #[(rv c2), (iv 2), (iv 1)]) (hb Y d7_29) rfl rfl <| gT X2734 hx (pc := 32) 2 (hb Y d7_32) <| iN X2734 hx (hb Y d7_2) rfl <| iN X2734 hx (hb Y d7_3) rfl <| cN X2734 hx (hb Y d7_4) <| aN X2734 hx (hb Y d7_7) rfl rfl ?_
  replace F_c2_r := (fo W2734 (fo W2729 F_c2_r))
  refine gF X2734 hx hZ hO (w20 hw) Via.refl e2734 F_c2_r (hb Y d7_8) fun T2735 X2735 e2735 => ?_
  refine aN X2735 hx (hb Y d7_11) rfl rfl <| iN X2735 hx (hb Y d7_12) rfl ?_
  replace F_c2_o := (fo W2734 F_c2_o)
  replace F_c2_t := (fo W2734 F_c2_t)
  replace V_c3 := (vo V_c3 W2734)
  replace E_c2 := (xw W2734 E_c2)
  refine pV X2735 hx hZ hO (by rw [hml]; rfl) (w44 hw) (w45 hw) (w46 hw) (w7 hw) (w8 hw) (w47 hw) e2735 E_c2 (argsL := [(.int 1)]) (rest := [(.ref c4)]) (q1891 l Z a0 hw [] h2734 n0 c2 c3 kc2 _ F_c2_o F_c2_t V_c3) (lenOf pd4 rfl) (hb Y d7_13) fun T2736 L2736 v2736 X2736 hQ2736 => ?_
  obtain ⟨rfl, N2736q, e2736⟩ := hQ2736
  have N2736 := Fr.app N2734x N2736q
  refine f_null X2736 hx (hb Y d7_16) ?_
  replace V_c4 := (vo V2729 W2734)
  refine f_ast X2736 hx hZ e2736 V_c4 rfl (Or.inl rfl) rfl 1 (hb Y d7_17) fun T2739 h2739 X2739 e2739 W2739 V2739 => ?_
  have N2739x := Fr.snoc X2739 N2736 (by omega : n0 ≤ c4)
  refine aN X2739 hx (hb Y d7_18) rfl rfl ?_
  replace F_c2_c := (fo W2739 (fo W2734 F_c2_c))
  refine gF X2739 hx hZ hO (w24 hw) Via.refl e2739 F_c2_c (hb Y d7_19) fun T2740 X2740 e2740 => ?_
  refine aN X2740 hx (hb Y d7_22) rfl rfl <| iN X2740 hx (hb Y d7_23) rfl ?_
  replace F_c2_o := (fo W2739 F_c2_o)
  replace F_c2_t := (fo W2739 F_c2_t)
  replace V_c3 := (vo V_c3 W2739)
  replace E_c2 := (xw W2739 E_c2)
  refine pV X2740 hx hZ hO (by rw [hml]; rfl) (w44 hw) (w45 hw) (w46 hw) (w7 hw) (w8 hw) (w47 hw) e2740 E_c2 (argsL := [(.int 1)]) (rest := [(.ref c5)]) (q1891 l Z a0 hw [] h2739 n0 c2 c3 kc2 _ F_c2_o F_c2_t V_c3) (lenOf pd4 rfl) (hb Y d7_24) fun T2741 L2741 v2741 X2741 hQ2741 => ?_
  obtain ⟨rfl, N2741q, e2741⟩ := hQ2741
  have N2741 := Fr.app N2739x N2741q
  refine f_null X2741 hx (hb Y d7_27) ?_
  replace V_c5 := (vo V2734 W2739)
  refine f_ast X2741 hx hZ e2741 V_c5 rfl (Or.inl rfl) rfl 1 (hb Y d7_28) fun T2744 h2744 X2744 e2744 W2744 V2744 => ?_
  have N2744x := Fr.snoc X2744 N2741 (by omega : n0 ≤ c5)
  refine f_iinc X2744 hx (L' := #[(rv c2), (iv 2), (iv 2)]) (hb Y d7_29) rfl rfl <| gT X2744 hx (pc := 32) 2 (hb Y d7_32) <| iN X2744 hx (hb Y d7_2) rfl <| iN X2744 hx (hb Y d7_3) rfl <| cY X2744 hx (pc := 4) 35 (hb Y d7_4) <| aN X2744 hx (hb Y d7_35) rfl rfl <| aN X2744 hx (hb Y d7_36) rfl rfl <| iN X2744 hx (hb Y d7_37) rfl ?_
  replace F_c2_o := (fo W2744 F_c2_o)
  replace F_c2_t := (fo W2744 F_c2_t)
  replace V_c3 := (vo V_c3 W2744)
  replace E_c2 := (xw W2744 E_c2)
  refine pV X2744 hx hZ hO (by rw [hml]; rfl) (w44 hw) (w45 hw) (w46 hw) (w7 hw) (w8 hw) (w47 hw) e2744 E_c2 (argsL := [(.int 2)]) (rest := [(.ref c2)]) (q443 l Z a0 hw [] h2744 n0 c2 c3 kc2 _ F_c2_o F_c2_t V_c3) (lenOf pd4 rfl) (hb Y d7_38) fun T2745 L2745 v2745 X2745 hQ2745 => ?_
  obtain ⟨rfl, N2745q, e2745⟩ := hQ2745
  have N2745 := Fr.app N2744x N2745q
  refine f_putF X2745 hx hZ hO (w48 hw) Via.refl e2745 F_c2_o E_c2 (Or.inl (w49 hw)) (w7 hw) (ty := .int) (by decide) rfl rfl (hb Y d7_41) fun T2748 h2748 X2748 e2748 W2748 => ?_
  have N2748x := Fr.snoc X2748 N2745 (by omega : n0 ≤ c2)
  refine aN X2748 hx (hb Y d7_44) rfl rfl <| f_dup X2748 hx (hb Y d7_45) rfl ?_
  replace F_c2_s := (Fld.other W2748 (fo W2744 (fo W2739 (fo W2734 (fo W2729 F_c2_s)))) (Or.inr (slot_ne (Or.inl (w32 hw)) (Or.inl (w49 hw)) (by decide) (t := .int) (t' := .int) (by decide) (by decide))))
  refine gF X2748 hx hZ hO (w31 hw) Via.refl e2748 F_c2_s (hb Y d7_46) fun T2749 X2749 e2749 => ?_
  refine iN X2749 hx (hb Y d7_49) rfl <| iB X2749 hx (z := 1) (hb Y d7_50) ?_
  replace E_c2 := (xw W2748 E_c2)
  refine f_putF X2749 hx hZ hO (w31 hw) Via.refl e2749 F_c2_s E_c2 (Or.inl (w32 hw)) (w7 hw) (ty := .int) (by decide) rfl rfl (hb Y d7_51) fun T2750 h2750 X2750 e2750 W2750 => ?_
  have N2750x := Fr.snoc X2750 N2748x (by omega : n0 ≤ c2)
  refine aN X2750 hx (hb Y d7_54) rfl rfl ?_
  replace F_c2_t := (Fld.other W2750 (Fld.other W2748 F_c2_t (Or.inr (slot_ne (Or.inl (w17 hw)) (Or.inl (w49 hw)) (by decide) (t := (.array .long)) (t' := .int) (by decide) (by decide)))) (Or.inr (slot_ne (Or.inl (w17 hw)) (Or.inl (w32 hw)) (by decide) (t := (.array .long)) (t' := .int) (by decide) (by decide))))
  refine gF X2750 hx hZ hO (w16 hw) Via.refl e2750 F_c2_t (hb Y d7_55) fun T2751 X2751 e2751 => ?_
  replace V_c3 := (vo (vo V_c3 W2748) W2750)
  refine f_len X2751 hx hZ e2751 V_c3 (hb Y d7_58) <| iK X2751 hx (z := 2) (hb Y d7_59) <| cN X2751 hx (hb Y d7_60) <| aN X2751 hx (hb Y d7_63) rfl rfl ?_
  replace F_c2_s := (Fld.same W2750 F_c2_s)
  refine gF X2751 hx hZ hO (w31 hw) Via.refl e2751 F_c2_s (hb Y d7_64) fun T2752 X2752 e2752 => ?_
  refine aN X2752 hx (hb Y d7_67) rfl rfl <| gF X2752 hx hZ hO (w16 hw) Via.refl e2752 F_c2_t (hb Y d7_68) fun T2753 X2753 e2753 => ?_
  refine f_len X2753 hx hZ e2753 V_c3 (hb Y d7_71) <| iK X2753 hx (z := 4) (hb Y d7_72) <| f_idiv X2753 hx (z := 1) (hb Y d7_73) (by decide) <| cY X2753 hx (pc := 74) 94 (hb Y d7_74) ?_
  exact f_ret0 X2753 hx hlk hret (hb Y d7_94) (QQ := (Qm2754 Z n0 c1 c2 c3 c4 c5 kc1 kc2 kc3 kc4 uu1 uu2 uu3 uu4 ww5 ww6 ww7 ww8)) (by rw [e2753]; exact ⟨rfl, N2750x, (xw W2750 (xw W2748 (xw W2744 (xw W2739 (xw W2734 (xw W2729 E_c1)))))), (vo (vo (vo (vo (vo (vo V_c1 W2729) W2734) W2739) W2744) W2748) W2750), O_c1, (xw W2750 E_c2), F_c2_t, (Fld.other W2750 (Fld.other W2748 (fo W2744 (fo W2739 F_c2_r)) (Or.inr (slot_ne (Or.inl (w21 hw)) (Or.inl (w49 hw)) (by decide) (t := (.array (.array (.object "java/lang/Object")))) (t' := .int) (by decide) (by decide)))) (Or.inr (slot_ne (Or.inl (w21 hw)) (Or.inl (w32 hw)) (by decide) (t := (.array (.array (.object "java/lang/Object")))) (t' := .int) (by decide) (by decide)))), (Fld.other W2750 (Fld.other W2748 (fo W2744 F_c2_c) (Or.inr (slot_ne (Or.inl (w25 hw)) (Or.inl (w49 hw)) (by decide) (t := (.array (.array .int))) (t' := .int) (by decide) (by decide)))) (Or.inr (slot_ne (Or.inl (w25 hw)) (Or.inl (w32 hw)) (by decide) (t := (.array (.array .int))) (t' := .int) (by decide) (by decide)))), F_c2_s, (Fld.other W2750 (Fld.same W2748 F_c2_o) (Or.inr (slot_ne (Or.inl (w49 hw)) (Or.inl (w32 hw)) (by decide) (t := .int) (t' := .int) (by decide) (by decide)))), V_c3, (xw W2750 (xw W2748 (xw W2744 (xw W2739 (xw W2734 (xw W2729 E_c4)))))), (vo (vo (vo V2739 W2744) W2748) W2750), O_c4, (xw W2750 (xw W2748 (xw W2744 (xw W2739 (xw W2734 (xw W2729 E_c5)))))), (vo (vo V2744 W2748) W2750), O_c5, g_c1, lt_c1_c2, lt_c2_c3, lt_c3_c4, lt_c4_c5, rf_ww5, rw_ww5, rf_ww6, rw_ww6, rf_ww7, rw_ww7, rf_ww8, rw_ww8⟩) (by decide) (by decide)
def St68 (Z : State) (h : Heap) (n0 : Nat) (c1 : Nat) (c2 : Nat) (c3 : Nat) (c4 : Nat) (c5 : Nat) (kc1 : ClassId) (kc2 : ClassId) (kc3 : ClassId) (kc4 : ClassId) (r2 : Value) (t0 : Int32) (t1 : Int32) (t2 : Int32) (t3 : Int32) (t4 : Int32) (r0 : Value) (r1 : Value) (mm : Int32) (p1 : Int64) : Prop :=
  xO Z h c1 ∧
  Arv Z h c1 kc1 (.object "java/lang/Object") 1 [.null] .null ∧
  Ovr Z kc1 "java/lang/Object" ∧
  Exa Z h c2 cV ∧
  fT Z h c2 (.ref c3) ∧
  fR Z h c2 (.ref c4) ∧
  fC Z h c2 (.ref c5) ∧
  fS Z h c2 (.int 1) ∧
  fO Z h c2 (.int 2) ∧
  aL Z h c3 kc2 4 [(.long 10), (.long 20), (.long 30), (.long 0)] ∧
  xR Z h c4 ∧
  aR Z h c4 kc3 4 [.null, .null, r2, .null] ∧
  oR Z kc3 ∧
  xC Z h c5 ∧
  aC Z h c5 kc4 4 [.null, .null, .null, .null] ∧
  oC Z kc4 ∧
  n0 ≤ c1 ∧
  c1 < c2 ∧
  c2 < c3 ∧
  c3 < c4 ∧
  c4 < c5 ∧
  (t0 = (0 : Int32) ∨ t0 = (1 : Int32)) ∧
  (t1 = (0 : Int32) ∨ t1 = (1 : Int32)) ∧
  (t2 = (0 : Int32) ∨ t2 = (1 : Int32)) ∧
  (t3 = (0 : Int32) ∨ t3 = (1 : Int32)) ∧
  (t4 = (0 : Int32) ∨ t4 = (1 : Int32)) ∧
  r0.isRef = true ∧
  (r0 = .null ∨ r0 = .ref c1) ∧
  ((t0 = (0 : Int32) ∧ r0 = .ref c1) ∨ (t0 = (1 : Int32) ∧ r0 = .null)) ∧
  r1.isRef = true ∧
  (r1 = .null ∨ r1 = .ref c1) ∧
  ((t1 = (0 : Int32) ∧ r1 = .ref c1) ∨ (t1 = (1 : Int32) ∧ r1 = .null)) ∧
  r2.isRef = true ∧
  (r2 = .null ∨ r2 = .ref c1) ∧
  ((t2 = (0 : Int32) ∧ r2 = .ref c1) ∨ (t2 = (1 : Int32) ∧ r2 = .null)) ∧
  (mm = (0 : Int32) ∨ mm = (1 : Int32) ∨ mm = (2 : Int32)) ∧
  r1 = .null ∧
  ¬ p1 < (10 : Int64) ∧
  ¬ p1 < (20 : Int64) ∧
  p1 < (30 : Int64) ∧
  t1 = (1 : Int32)
def Qm2757 (Z : State) (n0 : Nat) (c1 : Nat) (c2 : Nat) (c3 : Nat) (c4 : Nat) (c5 : Nat) (kc1 : ClassId) (kc2 : ClassId) (kc3 : ClassId) (kc4 : ClassId) (r0 : Value) (r1 : Value) (r2 : Value) (t0 : Int32) (t1 : Int32) (t2 : Int32) (t3 : Int32) (t4 : Int32) (mm : Int32) (p1 : Int64) (v : Option Value) (h : Heap) (L : List Loc) : Prop := v = some (.int 0) ∧ Fr n0 L ∧ St68 Z h n0 c1 c2 c3 c4 c5 kc1 kc2 kc3 kc4 r2 t0 t1 t2 t3 t4 r0 r1 mm p1
theorem m2757 (l : Launch) (Z : State) (a0 : Array Value) (hw : HW a0 Z) (ws : List Jvm.Cond) (h0 : Heap) (n0 : Nat) (c1 : Nat) (c2 : Nat) (c3 : Nat) (c4 : Nat) (c5 : Nat) (kc1 : ClassId) (kc2 : ClassId) (kc3 : ClassId) (kc4 : ClassId) (r0 : Value) (r1 : Value) (r2 : Value) (t0 : Int32) (t1 : Int32) (t2 : Int32) (t3 : Int32) (t4 : Int32) (mm : Int32) (p1 : Int64) (P : St66 Z h0 n0 c1 c2 c3 c4 c5 kc1 kc2 kc3 kc4 r0 r1 r2 t0 t1 t2 t3 t4 mm p1) :
    MC l Z y3 prog_95_method_5_code 5 (some .boolean) ws rm_2_0_0_28 #[(.ref c2), (.long p1)] h0 (Qm2757 Z n0 c1 c2 c3 c4 c5 kc1 kc2 kc3 kc4 r0 r1 r2 t0 t1 t2 t3 t4 mm p1) := by
  obtain ⟨E_c1, V_c1, O_c1, E_c2, F_c2_t, F_c2_r, F_c2_c, F_c2_s, F_c2_o, V_c3, E_c4, V_c4, O_c4, E_c5, V_c5, O_c5, g_c1, lt_c1_c2, lt_c2_c3, lt_c3_c4, lt_c4_c5, ht0, ht1, ht2, ht3, ht4, rf_r0, rw_r0, rb_r0, rf_r1, rw_r1, rb_r1, rf_r2, rw_r2, rb_r2, hm3, nv_r1, z10, z20, z30, tv1⟩ := id P
  refine own_met (plainFor_of_name pn3) fun p e s m below meth c s₁ X0 hx hZ Y hml hO hnm hlk hret e0 => f_cast (f' := mkF m 0 #[(rv c2), (.val (.long p1)), .second, .unset, .unset] []) (by first | (simp [entryFrame, mkF, argsToLocals, Value.category]; done) | rfl) ?_
  have N0 := Fr.nil n0
  refine aN X0 hx (hb Y d3_0) rfl rfl <| gF X0 hx hZ hO (w31 hw) Via.refl e0 F_c2_s (hb Y d3_1) fun T2679 X2679 e2679 => ?_
  refine fY X2679 hx (pc := 4) 9 (hb Y d3_4) <| iK X2679 hx (z := 0) (hb Y d3_9) <| sN X2679 hx (L' := #[(rv c2), (.val (.long p1)), .second, (iv 0), .unset]) (hb Y d3_10) rfl <| iN X2679 hx (hb Y d3_11) rfl <| iK X2679 hx (z := 1) (hb Y d3_12) <| iA X2679 hx (z := 1) (hb Y d3_13) <| aN X2679 hx (hb Y d3_14) rfl rfl <| gF X2679 hx hZ hO (w31 hw) Via.refl e2679 F_c2_s (hb Y d3_15) fun T2680 X2680 e2680 => ?_
  refine cN X2680 hx (hb Y d3_18) <| aN X2680 hx (hb Y d3_21) rfl rfl <| gF X2680 hx hZ hO (w16 hw) Via.refl e2680 F_c2_t (hb Y d3_22) fun T2681 X2681 e2681 => ?_
  refine aN X2681 hx (hb Y d3_25) rfl rfl <| iN X2681 hx (hb Y d3_26) rfl <| iK X2681 hx (z := 1) (hb Y d3_27) <| iA X2681 hx (z := 1) (hb Y d3_28) <| pV X2681 hx hZ hO (by rw [hml]; rfl) (w44 hw) (w45 hw) (w46 hw) (w7 hw) (w8 hw) (w47 hw) e2681 E_c2 (argsL := [(.int 1)]) (rest := [(.ref c3)]) (q1891 l Z a0 hw [] h0 n0 c2 c3 kc2 _ F_c2_o F_c2_t V_c3) (lenOf pd4 rfl) (hb Y d3_29) fun T2682 L2682 v2682 X2682 hQ2682 => ?_
  obtain ⟨rfl, N2682q, e2682⟩ := hQ2682
  have N2682 := Fr.app N0 N2682q
  refine f_lald X2682 hx hZ e2682 V_c3 (v := (.long 20)) rfl (hb Y d3_32) <| lN X2682 hx (hb Y d3_33) rfl <| lC X2682 hx (z := (lcmpW (20 : Int64) p1)) (hb Y d3_34) (q := rfl) <| fN X2682 hx (hb Y d3_35) (hc := (own_gtF z20)) <| f_iinc X2682 hx (L' := #[(rv c2), (.val (.long p1)), .second, (iv 1), .unset]) (hb Y d3_38) rfl rfl <| gT X2682 hx (pc := 41) 11 (hb Y d3_41) <| iN X2682 hx (hb Y d3_11) rfl <| iK X2682 hx (z := 1) (hb Y d3_12) <| iA X2682 hx (z := 2) (hb Y d3_13) <| aN X2682 hx (hb Y d3_14) rfl rfl <| gF X2682 hx hZ hO (w31 hw) Via.refl e2682 F_c2_s (hb Y d3_15) fun T2685 X2685 e2685 => ?_
  refine cN X2685 hx (hb Y d3_18) <| aN X2685 hx (hb Y d3_21) rfl rfl <| gF X2685 hx hZ hO (w16 hw) Via.refl e2685 F_c2_t (hb Y d3_22) fun T2686 X2686 e2686 => ?_
  refine aN X2686 hx (hb Y d3_25) rfl rfl <| iN X2686 hx (hb Y d3_26) rfl <| iK X2686 hx (z := 1) (hb Y d3_27) <| iA X2686 hx (z := 2) (hb Y d3_28) <| pV X2686 hx hZ hO (by rw [hml]; rfl) (w44 hw) (w45 hw) (w46 hw) (w7 hw) (w8 hw) (w47 hw) e2686 E_c2 (argsL := [(.int 2)]) (rest := [(.ref c3)]) (q443 l Z a0 hw [] h0 n0 c2 c3 kc2 _ F_c2_o F_c2_t V_c3) (lenOf pd4 rfl) (hb Y d3_29) fun T2687 L2687 v2687 X2687 hQ2687 => ?_
  obtain ⟨rfl, N2687q, e2687⟩ := hQ2687
  have N2687 := Fr.app N2682 N2687q
  refine f_lald X2687 hx hZ e2687 V_c3 (v := (.long 30)) rfl (hb Y d3_32) <| lN X2687 hx (hb Y d3_33) rfl <| lC X2687 hx (z := (lcmpW (30 : Int64) p1)) (hb Y d3_34) (q := rfl) <| fY X2687 hx (pc := 35) 44 (hb Y d3_35) (hc := (own_gtT z30)) <| aN X2687 hx (hb Y d3_44) rfl rfl <| iN X2687 hx (hb Y d3_45) rfl <| pV X2687 hx hZ hO (by rw [hml]; rfl) (w44 hw) (w45 hw) (w46 hw) (w7 hw) (w8 hw) (w47 hw) e2687 E_c2 (argsL := [(.int 1)]) (rest := []) (q1891 l Z a0 hw [] h0 n0 c2 c3 kc2 _ F_c2_o F_c2_t V_c3) (lenOf pd4 rfl) (hb Y d3_46) fun T2690 L2690 v2690 X2690 hQ2690 => ?_
  obtain ⟨rfl, N2690q, e2690⟩ := hQ2690
  have N2690 := Fr.app N2687 N2690q
  refine iS X2690 hx (L' := #[(rv c2), (.val (.long p1)), .second, (iv 1), (iv 1)]) (hb Y d3_49) rfl <| aN X2690 hx (hb Y d3_51) rfl rfl <| gF X2690 hx hZ hO (w16 hw) Via.refl e2690 F_c2_t (hb Y d3_52) fun T2693 X2693 e2693 => ?_
  refine iL X2693 hx (hb Y d3_55) rfl <| f_lald X2693 hx hZ e2693 V_c3 (v := (.long 20)) rfl (hb Y d3_57) <| lN X2693 hx (hb Y d3_58) rfl <| lC X2693 hx (z := (lcmpW (20 : Int64) p1)) (hb Y d3_59) (q := rfl) <| fN X2693 hx (hb Y d3_60) (hc := (own_gtF z20)) <| aN X2693 hx (hb Y d3_63) rfl rfl <| gF X2693 hx hZ hO (w20 hw) Via.refl e2693 F_c2_r (hb Y d3_64) fun T2694 X2694 e2694 => ?_
  refine iL X2694 hx (hb Y d3_67) rfl <| f_aald X2694 hx hZ e2694 V_c4 rfl (v := r1) rfl (hb Y d3_69) <| f_ifnonnullNv X2694 hx nv_r1 (hb Y d3_70) <| f_iinc X2694 hx (L' := #[(rv c2), (.val (.long p1)), .second, (iv 2), (iv 1)]) (hb Y d3_73) rfl rfl <| aN X2694 hx (hb Y d3_76) rfl rfl <| iN X2694 hx (hb Y d3_77) rfl ?_
  have P2755 : St49 Z h0 n0 c1 c2 c3 c4 c5 kc1 kc2 kc3 kc4 (10 : Int64) (20 : Int64) (30 : Int64) (0 : Int64) r0 r1 r2 .null := ⟨E_c1, V_c1, O_c1, E_c2, F_c2_t, F_c2_r, F_c2_c, F_c2_s, F_c2_o, V_c3, E_c4, V_c4, O_c4, E_c5, V_c5, O_c5, g_c1, lt_c1_c2, lt_c2_c3, lt_c3_c4, lt_c4_c5, rf_r0, rw_r0, rf_r1, rw_r1, rf_r2, rw_r2, rfl, (Or.inl rfl)⟩
  refine pV X2694 hx hZ hO (by rw [hml]; rfl) (w52 hw) (w53 hw) (w54 hw) (w7 hw) (w8 hw) (w55 hw) e2694 E_c2 (argsL := [(.int 2)]) (rest := []) (m2754 l Z a0 hw [] h0 n0 c1 c2 c3 c4 c5 kc1 kc2 kc3 kc4 (10 : Int64) (20 : Int64) (30 : Int64) (0 : Int64) r0 r1 r2 .null P2755) (lenOf pd6 rfl) (hb Y d3_78) fun T2695 L2695 v2695 X2695 hQ2695 => ?_
  obtain ⟨rfl, N2695q, P2695⟩ := hQ2695
  obtain ⟨E_c1, V_c1, O_c1, E_c2, F_c2_t, F_c2_r, F_c2_c, F_c2_s, F_c2_o, V_c3, E_c4, V_c4, O_c4, E_c5, V_c5, O_c5, g_c1, lt_c1_c2, lt_c2_c3, lt_c3_c4, lt_c4_c5, _, _, _, _, _, _, _, _⟩ := id P2695
  have N2695 := Fr.app N2690 N2695q
  refine aN X2695 hx (hb Y d3_81) rfl rfl <| gF X2695 hx hZ hO (w31 hw) Via.refl rfl F_c2_s (hb Y d3_82) fun T2756 X2756 e2756 => ?_
  refine fY X2756 hx (pc := 85) 92 (hb Y d3_85) <| iK X2756 hx (z := 0) (hb Y d3_92) ?_
  exact f_ret X2756 hx hlk (i := .ireturn) hret rfl (Or.inl ⟨rfl, Or.inr (Or.inl rfl), _, rfl⟩) (hb Y d3_93) (QQ := (Qm2757 Z n0 c1 c2 c3 c4 c5 kc1 kc2 kc3 kc4 r0 r1 r2 t0 t1 t2 t3 t4 mm p1)) (by rw [e2756]; exact ⟨rfl, N2695, E_c1, V_c1, O_c1, E_c2, F_c2_t, F_c2_r, F_c2_c, F_c2_s, F_c2_o, V_c3, E_c4, V_c4, O_c4, E_c5, V_c5, O_c5, g_c1, lt_c1_c2, lt_c2_c3, lt_c3_c4, lt_c4_c5, ht0, ht1, ht2, ht3, ht4, rf_r0, rw_r0, rb_r0, rf_r1, rw_r1, rb_r1, rf_r2, rw_r2, rb_r2, hm3, nv_r1, z10, z20, z30, tv1⟩) (by decide) (by decide)
def St69 (Z : State) (h : Heap) (n0 : Nat) (c1 : Nat) (c2 : Nat) (c3 : Nat) (c4 : Nat) (c5 : Nat) (kc1 : ClassId) (kc2 : ClassId) (kc3 : ClassId) (kc4 : ClassId) (r2 : Value) (t0 : Int32) (t1 : Int32) (t2 : Int32) (t3 : Int32) (t4 : Int32) (r0 : Value) (r1 : Value) : Prop :=
  xO Z h c1 ∧
  Arv Z h c1 kc1 (.object "java/lang/Object") 1 [.null] .null ∧
  Ovr Z kc1 "java/lang/Object" ∧
  Exa Z h c2 cV ∧
  fT Z h c2 (.ref c3) ∧
  fR Z h c2 (.ref c4) ∧
  fC Z h c2 (.ref c5) ∧
  fS Z h c2 (.int 1) ∧
  fO Z h c2 (.int 2) ∧
  aL Z h c3 kc2 4 [(.long 10), (.long 20), (.long 30), (.long 0)] ∧
  xR Z h c4 ∧
  aR Z h c4 kc3 4 [.null, .null, r2, .null] ∧
  oR Z kc3 ∧
  xC Z h c5 ∧
  aC Z h c5 kc4 4 [.null, .null, .null, .null] ∧
  oC Z kc4 ∧
  n0 ≤ c1 ∧
  c1 < c2 ∧
  c2 < c3 ∧
  c3 < c4 ∧
  c4 < c5 ∧
  (t0 = (0 : Int32) ∨ t0 = (1 : Int32)) ∧
  (t1 = (0 : Int32) ∨ t1 = (1 : Int32)) ∧
  (t2 = (0 : Int32) ∨ t2 = (1 : Int32)) ∧
  (t3 = (0 : Int32) ∨ t3 = (1 : Int32)) ∧
  (t4 = (0 : Int32) ∨ t4 = (1 : Int32)) ∧
  r0.isRef = true ∧
  (r0 = .null ∨ r0 = .ref c1) ∧
  ((t0 = (0 : Int32) ∧ r0 = .ref c1) ∨ (t0 = (1 : Int32) ∧ r0 = .null)) ∧
  r1.isRef = true ∧
  (r1 = .null ∨ r1 = .ref c1) ∧
  ((t1 = (0 : Int32) ∧ r1 = .ref c1) ∨ (t1 = (1 : Int32) ∧ r1 = .null)) ∧
  r2.isRef = true ∧
  (r2 = .null ∨ r2 = .ref c1) ∧
  ((t2 = (0 : Int32) ∧ r2 = .ref c1) ∨ (t2 = (1 : Int32) ∧ r2 = .null)) ∧
  r1 = .null ∧
  r2 = .ref c1
theorem q2764 (l : Launch) (Z : State) (a0 : Array Value) (hw : HW a0 Z) (ws : List Jvm.Cond) (h0 : Heap) (n0 : Nat) (c1 : Nat) (c2 : Nat) (kc3 : ClassId) (r2 : Value) (c4 : Nat) (F_c1_s : fS Z h0 c1 (.int 1)) (F_c1_r : fR Z h0 c1 (.ref c2)) (F_c1_o : fO Z h0 c1 (.int 2)) (V_c2 : aR Z h0 c2 kc3 4 [.null, .null, r2, .null]) (nv_r2 : r2 = .ref c4) :
    MC l Z y4 prog_95_method_7_code 1 (some .boolean) ws rm_0_0_0_0 #[(.ref c1)] h0 (QV (.int 0) h0 n0) := by
  refine own_met (plainFor_of_name pn4) fun p e s m below meth c s₁ X0 hx hZ Y hml hO hnm hlk hret e0 => f_cast (f' := mkF m 0 #[(rv c1)] []) (by first | (simp [entryFrame, mkF, argsToLocals, Value.category]; done) | rfl) ?_
  have N0 := Fr.nil n0
  refine aN X0 hx (hb Y d4_0) rfl rfl <| gF X0 hx hZ hO (w31 hw) Via.refl e0 F_c1_s (hb Y d4_1) fun T2760 X2760 e2760 => ?_
  refine iK X2760 hx (z := 1) (hb Y d4_4) <| cN X2760 hx (hb Y d4_5) <| aN X2760 hx (hb Y d4_8) rfl rfl <| gF X2760 hx hZ hO (w31 hw) Via.refl e2760 F_c1_s (hb Y d4_9) fun T2761 X2761 e2761 => ?_
  refine iK X2761 hx (z := 1) (hb Y d4_12) <| cN X2761 hx (hb Y d4_13) <| aN X2761 hx (hb Y d4_16) rfl rfl <| gF X2761 hx hZ hO (w20 hw) Via.refl e2761 F_c1_r (hb Y d4_17) fun T2762 X2762 e2762 => ?_
  refine aN X2762 hx (hb Y d4_20) rfl rfl <| gF X2762 hx hZ hO (w48 hw) Via.refl e2762 F_c1_o (hb Y d4_21) fun T2763 X2763 e2763 => ?_
  refine f_aald X2763 hx hZ e2763 V_c2 rfl (v := r2) rfl (hb Y d4_24) <| f_ifnonnullYv X2763 hx (pc := 25) 32 nv_r2 (hb Y d4_25) <| iK X2763 hx (z := 0) (hb Y d4_32) ?_
  exact f_ret X2763 hx hlk (i := .ireturn) hret rfl (Or.inl ⟨rfl, Or.inr (Or.inl rfl), _, rfl⟩) (hb Y d4_33) (QQ := (QV (.int 0) h0 n0)) ⟨rfl, N0, e2763⟩ (by decide) (by decide)
theorem D0_40  (c1 : Nat) (c2 : Nat) (c3 : Nat) (c4 : Nat) (c5 : Nat) (kc1 : ClassId) (kc2 : ClassId) (kc3 : ClassId) (kc4 : ClassId) (r2 : Value) (t0 : Int32) (t1 : Int32) (t2 : Int32) (t3 : Int32) (t4 : Int32) (r0 : Value) (r1 : Value) (p0 : Int32) (p1 : Int64) (X0 : Stand p l e room_1 s m args below meth c T0 locs 8 25) (G : SG p s m meth c Z a0) (e0 : T0.heap = h0) (N0 : Fr n0 locs) (P : St69 Z h0 n0 c1 c2 c3 c4 c5 kc1 kc2 kc3 kc4 r2 t0 t1 t2 t3 t4 r0 r1) (hk0 : ∀ (T' : State) (locs' : List Loc), Stand p l e room_1 s m args below meth c T' locs' 8 25 → Fr n0 locs' → EndsSo p e below (LQ s n0) T' (mkF m 209 (FL p0 p1 3 0 t0 t1 t2 t3 t4 c1 c2 (iv 0) .unset .unset .unset .unset .unset) [])) :
    EndsSo p e below (LQ s n0) T0 (mkF m 150 (FL p0 p1 3 0 t0 t1 t2 t3 t4 c1 c2 .unset .unset .unset .unset .unset .unset) []) := by
  obtain ⟨hx, hZ, hw, Y, hml, hO, hlk, hret⟩ := id G
  obtain ⟨E_c1, V_c1, O_c1, E_c2, F_c2_t, F_c2_r, F_c2_c, F_c2_s, F_c2_o, V_c3, E_c4, V_c4, O_c4, E_c5, V_c5, O_c5, g_c1, lt_c1_c2, lt_c2_c3, lt_c3_c4, lt_c4_c5, ht0, ht1, ht2, ht3, ht4, rf_r0, rw_r0, rb_r0, rf_r1, rw_r1, rb_r1, rf_r2, rw_r2, rb_r2, nv_r1, nv_r2⟩ := id P
  refine iL X0 hx (hb Y at_150) rfl <| iK X0 hx (z := 1) (hb Y at_152) <| cY X0 hx (pc := 153) 176 (hb Y at_153) <| iL X0 hx (hb Y at_176) rfl <| iK X0 hx (z := 2) (hb Y at_178) <| cY X0 hx (pc := 179) 202 (hb Y at_179) <| aA X0 hx (hb Y at_202) rfl rfl <| vV X0 hx hZ hO (by rw [hml]; rfl) (w33 hw) (w34 hw) (w36 hw) (w35 hw) (w8 hw) (w37 hw) e0 E_c2 (argsL := []) (rest := []) (q2764 l Z a0 hw [] h0 n0 c2 c4 kc3 r2 c1 F_c2_s F_c2_r F_c2_o V_c4 nv_r2) (lenOf pd3 rfl) (hb Y at_204) fun T2759 L2759 v2759 X2759 hQ2759 => ?_
  obtain ⟨rfl, N2759q, e2759⟩ := hQ2759
  have N2759 := Fr.app N0 N2759q
  refine iS X2759 hx (L' := (FL p0 p1 3 0 t0 t1 t2 t3 t4 c1 c2 (iv 0) .unset .unset .unset .unset .unset)) (hb Y at_207) rfl ?_
  exact hk0 _ _ X2759 N2759
theorem F1_13  {cells slots : Nat} (p0 : Int32) (p1 : Int64) (mm : Int32) (gg : Int32) (t0 : Int32) (t1 : Int32) (t2 : Int32) (t3 : Int32) (t4 : Int32) (c1 : Nat) (c2 : Nat) (X0 : Stand p l e room_1 s m args below meth c T0 locs cells slots) (G : SG p s m meth c Z a0) (z20 : ¬ p1 < (20 : Int64)) (z30 : p1 < (30 : Int64)) (tv1 : t1 = (1 : Int32)) (h : EndsSo p e below (LQ s n0) T0 (mkF m 303 (FL p0 p1 3 mm t0 t1 t2 t3 t4 c1 c2 (iv gg) (iv 2) (iv t1) (.val (.long 20)) .second .unset) [])) :
    EndsSo p e below (LQ s n0) T0 (mkF m 209 (FL p0 p1 3 mm t0 t1 t2 t3 t4 c1 c2 (iv gg) .unset .unset .unset .unset .unset) []) := by
  obtain ⟨hx, hZ, hw, Y, hml, hO, hlk, hret⟩ := id G
  refine iK X0 hx (z := 0) (hb Y at_209) <| iS X0 hx (L' := (FL p0 p1 3 mm t0 t1 t2 t3 t4 c1 c2 (iv gg) (iv 0) .unset .unset .unset .unset)) (hb Y at_210) rfl <| iN X0 hx (hb Y at_212) rfl <| iK X0 hx (z := 2) (hb Y at_213) <| cN X0 hx (hb Y at_214) <| lN X0 hx (hb Y at_217) rfl <| f_ldc2 X0 hx hZ hO (w51 hw) (hb Y at_218) <| lC X0 hx (z := (lcmpW p1 (20 : Int64))) (hb Y at_221) (q := rfl) <| fN X0 hx (hb Y at_222) (hc := (own_ltF z20)) <| iK X0 hx (z := 1) (hb Y at_225) <| iS X0 hx (L' := (FL p0 p1 3 mm t0 t1 t2 t3 t4 c1 c2 (iv gg) (iv 1) .unset .unset .unset .unset)) (hb Y at_226) rfl <| iN X0 hx (hb Y at_228) rfl <| iK X0 hx (z := 3) (hb Y at_229) <| cN X0 hx (hb Y at_230) <| lN X0 hx (hb Y at_233) rfl <| f_ldc2 X0 hx hZ hO (w57 hw) (hb Y at_234) <| lC X0 hx (z := (lcmpW p1 (30 : Int64))) (hb Y at_237) (q := rfl) <| fY X0 hx (pc := 238) 244 (hb Y at_238) (hc := (own_ltT z30)) <| iN X0 hx (hb Y at_244) rfl <| iK X0 hx (z := 1) (hb Y at_245) <| cN X0 hx (hb Y at_246) <| iL X0 hx (hb Y at_249) rfl <| fY X0 hx (pc := 251) 259 (hb Y at_251) <| iL X0 hx (hb Y at_259) rfl <| iK X0 hx (z := 1) (hb Y at_261) <| cN X0 hx (hb Y at_262) <| iL X0 hx (hb Y at_265) rfl <| gT X0 hx (pc := 267) 272 (hb Y at_267) <| iS X0 hx (L' := (FL p0 p1 3 mm t0 t1 t2 t3 t4 c1 c2 (iv gg) (iv 1) (iv t1) .unset .unset .unset)) (hb Y at_272) rfl <| f_ldc2 X0 hx hZ hO (w38 hw) (hb Y at_274) <| iL X0 hx (hb Y at_277) rfl <| iK X0 hx (z := 1) (hb Y at_279) <| iA X0 hx (z := 2) (hb Y at_280) <| f_i2l X0 hx (z := 2) (hb Y at_281) <| f_lmul X0 hx (z := 20) (hb Y at_282) <| f_lstore X0 hx (L' := (FL p0 p1 3 mm t0 t1 t2 t3 t4 c1 c2 (iv gg) (iv 1) (iv t1) (.val (.long 20)) .second .unset)) (hb Y at_283) rfl <| f_lload X0 hx (hb Y at_285) rfl <| lN X0 hx (hb Y at_287) rfl <| lC X0 hx (z := (lcmpW (20 : Int64) p1)) (hb Y at_288) (q := rfl) <| fN X0 hx (hb Y at_289) (hc := (own_gtF z20)) <| iL X0 hx (hb Y at_292) rfl <| fN X0 hx (hb Y at_294) (hc := (own_eq1 tv1)) <| iL X0 hx (hb Y at_297) rfl <| iK X0 hx (z := 1) (hb Y at_299) <| iA X0 hx (z := 2) (hb Y at_300) <| iS X0 hx (L' := (FL p0 p1 3 mm t0 t1 t2 t3 t4 c1 c2 (iv gg) (iv 2) (iv t1) (.val (.long 20)) .second .unset)) (hb Y at_301) rfl ?_
  exact h
theorem F2_35  {cells slots : Nat} (p0 : Int32) (p1 : Int64) (t0 : Int32) (t1 : Int32) (t2 : Int32) (t3 : Int32) (t4 : Int32) (c1 : Nat) (c2 : Nat) (X0 : Stand p l e room_1 s m args below meth c T0 locs cells slots) (G : SG p s m meth c Z a0) (tv2 : t2 = (0 : Int32)) (N0 : Fr n0 locs) (hK : cells ≤ room_1.cells) (hN : slots ≤ room_1.slots) :
    EndsSo p e below (LQ s n0) T0 (mkF m 303 (FL p0 p1 3 0 t0 t1 t2 t3 t4 c1 c2 (iv 0) (iv 2) (iv t1) (.val (.long 20)) .second .unset) []) := by
  obtain ⟨hx, hZ, hw, Y, hml, hO, hlk, hret⟩ := id G
  refine iN X0 hx (hb Y at_303) rfl <| iL X0 hx (hb Y at_304) rfl <| iB X0 hx (z := 1) (hb Y at_306) <| iS X0 hx (L' := (FL p0 p1 3 0 t0 t1 t2 t3 t4 c1 c2 (iv 0) (iv 2) (iv 1) (.val (.long 20)) .second .unset)) (hb Y at_307) rfl <| iL X0 hx (hb Y at_309) rfl <| iL X0 hx (hb Y at_311) rfl <| iA X0 hx (z := 1) (hb Y at_313) <| iS X0 hx (L' := (FL p0 p1 3 0 t0 t1 t2 t3 t4 c1 c2 (iv 0) (iv 2) (iv 1) (iv 1) .unset .unset)) (hb Y at_314) rfl <| iL X0 hx (hb Y at_316) rfl <| iK X0 hx (z := 1) (hb Y at_318) <| cN X0 hx (hb Y at_319) <| iL X0 hx (hb Y at_322) rfl <| fY X0 hx (pc := 324) 332 (hb Y at_324) <| iL X0 hx (hb Y at_332) rfl <| iK X0 hx (z := 1) (hb Y at_334) <| cY X0 hx (pc := 335) 343 (hb Y at_335) <| iL X0 hx (hb Y at_343) rfl <| gT X0 hx (pc := 345) 350 (hb Y at_345) <| iS X0 hx (L' := (FL p0 p1 3 0 t0 t1 t2 t3 t4 c1 c2 (iv 0) (iv 2) (iv 1) (iv 1) (iv t2) .unset)) (hb Y at_350) rfl <| iL X0 hx (hb Y at_352) rfl <| iK X0 hx (z := 1) (hb Y at_354) <| cN X0 hx (hb Y at_355) <| iL X0 hx (hb Y at_358) rfl <| iK X0 hx (z := 1) (hb Y at_360) <| cN X0 hx (hb Y at_361) <| iL X0 hx (hb Y at_364) rfl <| fY X0 hx (pc := 366) 373 (hb Y at_366) (hc := (own_eqT tv2)) <| iK X0 hx (z := 0) (hb Y at_373) <| iS X0 hx (L' := (FL p0 p1 3 0 t0 t1 t2 t3 t4 c1 c2 (iv 0) (iv 2) (iv 1) (iv 1) (iv t2) (iv 0))) (hb Y at_374) rfl <| iL X0 hx (hb Y at_376) rfl <| iL X0 hx (hb Y at_378) rfl <| cN X0 hx (hb Y at_380) <| iK X0 hx (z := 1) (hb Y at_383) <| gT X0 hx (pc := 384) 388 (hb Y at_384) ?_
  exact f_ret X0 hx hlk (i := .ireturn) hret rfl (Or.inl ⟨rfl, Or.inr (Or.inl rfl), _, rfl⟩) (hb Y at_388) (QQ := (QL n0)) ⟨rfl, N0⟩ hK hN
def St70 (Z : State) (h : Heap) (n0 : Nat) (c1 : Nat) (c2 : Nat) (c3 : Nat) (c4 : Nat) (c5 : Nat) (kc1 : ClassId) (kc2 : ClassId) (kc3 : ClassId) (kc4 : ClassId) (r2 : Value) (t0 : Int32) (t1 : Int32) (t2 : Int32) (t3 : Int32) (t4 : Int32) (r0 : Value) (r1 : Value) : Prop :=
  xO Z h c1 ∧
  Arv Z h c1 kc1 (.object "java/lang/Object") 1 [.null] .null ∧
  Ovr Z kc1 "java/lang/Object" ∧
  Exa Z h c2 cV ∧
  fT Z h c2 (.ref c3) ∧
  fR Z h c2 (.ref c4) ∧
  fC Z h c2 (.ref c5) ∧
  fS Z h c2 (.int 1) ∧
  fO Z h c2 (.int 2) ∧
  aL Z h c3 kc2 4 [(.long 10), (.long 20), (.long 30), (.long 0)] ∧
  xR Z h c4 ∧
  aR Z h c4 kc3 4 [.null, .null, r2, .null] ∧
  oR Z kc3 ∧
  xC Z h c5 ∧
  aC Z h c5 kc4 4 [.null, .null, .null, .null] ∧
  oC Z kc4 ∧
  n0 ≤ c1 ∧
  c1 < c2 ∧
  c2 < c3 ∧
  c3 < c4 ∧
  c4 < c5 ∧
  (t0 = (0 : Int32) ∨ t0 = (1 : Int32)) ∧
  (t1 = (0 : Int32) ∨ t1 = (1 : Int32)) ∧
  (t2 = (0 : Int32) ∨ t2 = (1 : Int32)) ∧
  (t3 = (0 : Int32) ∨ t3 = (1 : Int32)) ∧
  (t4 = (0 : Int32) ∨ t4 = (1 : Int32)) ∧
  r0.isRef = true ∧
  (r0 = .null ∨ r0 = .ref c1) ∧
  ((t0 = (0 : Int32) ∧ r0 = .ref c1) ∨ (t0 = (1 : Int32) ∧ r0 = .null)) ∧
  r1.isRef = true ∧
  (r1 = .null ∨ r1 = .ref c1) ∧
  ((t1 = (0 : Int32) ∧ r1 = .ref c1) ∨ (t1 = (1 : Int32) ∧ r1 = .null)) ∧
  r2.isRef = true ∧
  (r2 = .null ∨ r2 = .ref c1) ∧
  ((t2 = (0 : Int32) ∧ r2 = .ref c1) ∨ (t2 = (1 : Int32) ∧ r2 = .null)) ∧
  r1 = .null ∧
  r2 = .null
theorem q2771 (l : Launch) (Z : State) (a0 : Array Value) (hw : HW a0 Z) (ws : List Jvm.Cond) (h0 : Heap) (n0 : Nat) (c1 : Nat) (c2 : Nat) (kc3 : ClassId) (r2 : Value) (F_c1_s : fS Z h0 c1 (.int 1)) (F_c1_r : fR Z h0 c1 (.ref c2)) (F_c1_o : fO Z h0 c1 (.int 2)) (V_c2 : aR Z h0 c2 kc3 4 [.null, .null, r2, .null]) (nv_r2 : r2 = .null) :
    MC l Z y4 prog_95_method_7_code 1 (some .boolean) ws rm_0_0_0_0 #[(.ref c1)] h0 (QV (.int 1) h0 n0) := by
  refine own_met (plainFor_of_name pn4) fun p e s m below meth c s₁ X0 hx hZ Y hml hO hnm hlk hret e0 => f_cast (f' := mkF m 0 #[(rv c1)] []) (by first | (simp [entryFrame, mkF, argsToLocals, Value.category]; done) | rfl) ?_
  have N0 := Fr.nil n0
  refine aN X0 hx (hb Y d4_0) rfl rfl <| gF X0 hx hZ hO (w31 hw) Via.refl e0 F_c1_s (hb Y d4_1) fun T2767 X2767 e2767 => ?_
  refine iK X2767 hx (z := 1) (hb Y d4_4) <| cN X2767 hx (hb Y d4_5) <| aN X2767 hx (hb Y d4_8) rfl rfl <| gF X2767 hx hZ hO (w31 hw) Via.refl e2767 F_c1_s (hb Y d4_9) fun T2768 X2768 e2768 => ?_
  refine iK X2768 hx (z := 1) (hb Y d4_12) <| cN X2768 hx (hb Y d4_13) <| aN X2768 hx (hb Y d4_16) rfl rfl <| gF X2768 hx hZ hO (w20 hw) Via.refl e2768 F_c1_r (hb Y d4_17) fun T2769 X2769 e2769 => ?_
  refine aN X2769 hx (hb Y d4_20) rfl rfl <| gF X2769 hx hZ hO (w48 hw) Via.refl e2769 F_c1_o (hb Y d4_21) fun T2770 X2770 e2770 => ?_
  refine f_aald X2770 hx hZ e2770 V_c2 rfl (v := r2) rfl (hb Y d4_24) <| f_ifnonnullNv X2770 hx nv_r2 (hb Y d4_25) <| iK X2770 hx (z := 1) (hb Y d4_28) <| gT X2770 hx (pc := 29) 33 (hb Y d4_29) ?_
  exact f_ret X2770 hx hlk (i := .ireturn) hret rfl (Or.inl ⟨rfl, Or.inr (Or.inl rfl), _, rfl⟩) (hb Y d4_33) (QQ := (QV (.int 1) h0 n0)) ⟨rfl, N0, e2770⟩ (by decide) (by decide)
theorem D0_41  (c1 : Nat) (c2 : Nat) (c3 : Nat) (c4 : Nat) (c5 : Nat) (kc1 : ClassId) (kc2 : ClassId) (kc3 : ClassId) (kc4 : ClassId) (r2 : Value) (t0 : Int32) (t1 : Int32) (t2 : Int32) (t3 : Int32) (t4 : Int32) (r0 : Value) (r1 : Value) (p0 : Int32) (p1 : Int64) (X0 : Stand p l e room_1 s m args below meth c T0 locs 8 25) (G : SG p s m meth c Z a0) (e0 : T0.heap = h0) (N0 : Fr n0 locs) (P : St70 Z h0 n0 c1 c2 c3 c4 c5 kc1 kc2 kc3 kc4 r2 t0 t1 t2 t3 t4 r0 r1) (hk0 : ∀ (T' : State) (locs' : List Loc), Stand p l e room_1 s m args below meth c T' locs' 8 25 → Fr n0 locs' → EndsSo p e below (LQ s n0) T' (mkF m 209 (FL p0 p1 3 0 t0 t1 t2 t3 t4 c1 c2 (iv 1) .unset .unset .unset .unset .unset) [])) :
    EndsSo p e below (LQ s n0) T0 (mkF m 150 (FL p0 p1 3 0 t0 t1 t2 t3 t4 c1 c2 .unset .unset .unset .unset .unset .unset) []) := by
  obtain ⟨hx, hZ, hw, Y, hml, hO, hlk, hret⟩ := id G
  obtain ⟨E_c1, V_c1, O_c1, E_c2, F_c2_t, F_c2_r, F_c2_c, F_c2_s, F_c2_o, V_c3, E_c4, V_c4, O_c4, E_c5, V_c5, O_c5, g_c1, lt_c1_c2, lt_c2_c3, lt_c3_c4, lt_c4_c5, ht0, ht1, ht2, ht3, ht4, rf_r0, rw_r0, rb_r0, rf_r1, rw_r1, rb_r1, rf_r2, rw_r2, rb_r2, nv_r1, nv_r2⟩ := id P
  refine iL X0 hx (hb Y at_150) rfl <| iK X0 hx (z := 1) (hb Y at_152) <| cY X0 hx (pc := 153) 176 (hb Y at_153) <| iL X0 hx (hb Y at_176) rfl <| iK X0 hx (z := 2) (hb Y at_178) <| cY X0 hx (pc := 179) 202 (hb Y at_179) <| aA X0 hx (hb Y at_202) rfl rfl <| vV X0 hx hZ hO (by rw [hml]; rfl) (w33 hw) (w34 hw) (w36 hw) (w35 hw) (w8 hw) (w37 hw) e0 E_c2 (argsL := []) (rest := []) (q2771 l Z a0 hw [] h0 n0 c2 c4 kc3 r2 F_c2_s F_c2_r F_c2_o V_c4 nv_r2) (lenOf pd3 rfl) (hb Y at_204) fun T2766 L2766 v2766 X2766 hQ2766 => ?_
  obtain ⟨rfl, N2766q, e2766⟩ := hQ2766
  have N2766 := Fr.app N0 N2766q
  refine iS X2766 hx (L' := (FL p0 p1 3 0 t0 t1 t2 t3 t4 c1 c2 (iv 1) .unset .unset .unset .unset .unset)) (hb Y at_207) rfl ?_
  exact hk0 _ _ X2766 N2766
theorem F2_36  {cells slots : Nat} (p0 : Int32) (p1 : Int64) (t0 : Int32) (t1 : Int32) (t2 : Int32) (t3 : Int32) (t4 : Int32) (c1 : Nat) (c2 : Nat) (X0 : Stand p l e room_1 s m args below meth c T0 locs cells slots) (G : SG p s m meth c Z a0) (tv2 : t2 = (1 : Int32)) (N0 : Fr n0 locs) (hK : cells ≤ room_1.cells) (hN : slots ≤ room_1.slots) :
    EndsSo p e below (LQ s n0) T0 (mkF m 303 (FL p0 p1 3 0 t0 t1 t2 t3 t4 c1 c2 (iv 1) (iv 2) (iv t1) (.val (.long 20)) .second .unset) []) := by
  obtain ⟨hx, hZ, hw, Y, hml, hO, hlk, hret⟩ := id G
  refine iN X0 hx (hb Y at_303) rfl <| iL X0 hx (hb Y at_304) rfl <| iB X0 hx (z := 1) (hb Y at_306) <| iS X0 hx (L' := (FL p0 p1 3 0 t0 t1 t2 t3 t4 c1 c2 (iv 1) (iv 2) (iv 1) (.val (.long 20)) .second .unset)) (hb Y at_307) rfl <| iL X0 hx (hb Y at_309) rfl <| iL X0 hx (hb Y at_311) rfl <| iA X0 hx (z := 1) (hb Y at_313) <| iS X0 hx (L' := (FL p0 p1 3 0 t0 t1 t2 t3 t4 c1 c2 (iv 1) (iv 2) (iv 1) (iv 1) .unset .unset)) (hb Y at_314) rfl <| iL X0 hx (hb Y at_316) rfl <| iK X0 hx (z := 1) (hb Y at_318) <| cN X0 hx (hb Y at_319) <| iL X0 hx (hb Y at_322) rfl <| fY X0 hx (pc := 324) 332 (hb Y at_324) <| iL X0 hx (hb Y at_332) rfl <| iK X0 hx (z := 1) (hb Y at_334) <| cY X0 hx (pc := 335) 343 (hb Y at_335) <| iL X0 hx (hb Y at_343) rfl <| gT X0 hx (pc := 345) 350 (hb Y at_345) <| iS X0 hx (L' := (FL p0 p1 3 0 t0 t1 t2 t3 t4 c1 c2 (iv 1) (iv 2) (iv 1) (iv 1) (iv t2) .unset)) (hb Y at_350) rfl <| iL X0 hx (hb Y at_352) rfl <| iK X0 hx (z := 1) (hb Y at_354) <| cN X0 hx (hb Y at_355) <| iL X0 hx (hb Y at_358) rfl <| iK X0 hx (z := 1) (hb Y at_360) <| cN X0 hx (hb Y at_361) <| iL X0 hx (hb Y at_364) rfl <| fN X0 hx (hb Y at_366) (hc := (own_eq1 tv2)) <| iK X0 hx (z := 1) (hb Y at_369) <| gT X0 hx (pc := 370) 374 (hb Y at_370) <| iS X0 hx (L' := (FL p0 p1 3 0 t0 t1 t2 t3 t4 c1 c2 (iv 1) (iv 2) (iv 1) (iv 1) (iv t2) (iv 1))) (hb Y at_374) rfl <| iL X0 hx (hb Y at_376) rfl <| iL X0 hx (hb Y at_378) rfl <| cN X0 hx (hb Y at_380) <| iK X0 hx (z := 1) (hb Y at_383) <| gT X0 hx (pc := 384) 388 (hb Y at_384) ?_
  exact f_ret X0 hx hlk (i := .ireturn) hret rfl (Or.inl ⟨rfl, Or.inr (Or.inl rfl), _, rfl⟩) (hb Y at_388) (QQ := (QL n0)) ⟨rfl, N0⟩ hK hN
def St71 (Z : State) (h : Heap) (n0 : Nat) (c1 : Nat) (c2 : Nat) (c3 : Nat) (c4 : Nat) (c5 : Nat) (kc1 : ClassId) (kc2 : ClassId) (kc3 : ClassId) (kc4 : ClassId) (r2 : Value) (t0 : Int32) (t1 : Int32) (t2 : Int32) (t3 : Int32) (t4 : Int32) (r0 : Value) (r1 : Value) : Prop :=
  xO Z h c1 ∧
  Arv Z h c1 kc1 (.object "java/lang/Object") 1 [.null] .null ∧
  Ovr Z kc1 "java/lang/Object" ∧
  Exa Z h c2 cV ∧
  fT Z h c2 (.ref c3) ∧
  fR Z h c2 (.ref c4) ∧
  fC Z h c2 (.ref c5) ∧
  fS Z h c2 (.int 1) ∧
  fO Z h c2 (.int 2) ∧
  aL Z h c3 kc2 4 [(.long 10), (.long 20), (.long 30), (.long 0)] ∧
  xR Z h c4 ∧
  aR Z h c4 kc3 4 [.null, .null, r2, .null] ∧
  oR Z kc3 ∧
  xC Z h c5 ∧
  aC Z h c5 kc4 4 [.null, .null, .null, .null] ∧
  oC Z kc4 ∧
  n0 ≤ c1 ∧
  c1 < c2 ∧
  c2 < c3 ∧
  c3 < c4 ∧
  c4 < c5 ∧
  (t0 = (0 : Int32) ∨ t0 = (1 : Int32)) ∧
  (t1 = (0 : Int32) ∨ t1 = (1 : Int32)) ∧
  (t2 = (0 : Int32) ∨ t2 = (1 : Int32)) ∧
  (t3 = (0 : Int32) ∨ t3 = (1 : Int32)) ∧
  (t4 = (0 : Int32) ∨ t4 = (1 : Int32)) ∧
  r0.isRef = true ∧
  (r0 = .null ∨ r0 = .ref c1) ∧
  ((t0 = (0 : Int32) ∧ r0 = .ref c1) ∨ (t0 = (1 : Int32) ∧ r0 = .null)) ∧
  r1.isRef = true ∧
  (r1 = .null ∨ r1 = .ref c1) ∧
  ((t1 = (0 : Int32) ∧ r1 = .ref c1) ∨ (t1 = (1 : Int32) ∧ r1 = .null)) ∧
  r2.isRef = true ∧
  (r2 = .null ∨ r2 = .ref c1) ∧
  ((t2 = (0 : Int32) ∧ r2 = .ref c1) ∨ (t2 = (1 : Int32) ∧ r2 = .null))
theorem q2795 (l : Launch) (Z : State) (a0 : Array Value) (hw : HW a0 Z) (ws : List Jvm.Cond) (h0 : Heap) (n0 : Nat) (c1 : Nat) (c2 : Nat) (kc3 : ClassId) (vs_c2 : List Value) (F_c1_o : fO Z h0 c1 (.int 2)) (F_c1_t : fT Z h0 c1 (.ref c2)) (V_c2 : aL Z h0 c2 kc3 4 vs_c2) :
    MC l Z y6 prog_95_method_11_code 2 (some .int) ws rm_0_0_0_0 #[(.ref c1), (.int 1)] h0 (QV (.int 3) h0 n0) := by
  refine own_met (plainFor_of_name pn6) fun p e s m below meth c s₁ X0 hx hZ Y hml hO hnm hlk hret e0 => f_cast (f' := mkF m 0 #[(rv c1), (iv 1)] []) (by first | (simp [entryFrame, mkF, argsToLocals, Value.category]; done) | rfl) ?_
  have N0 := Fr.nil n0
  refine aN X0 hx (hb Y d6_0) rfl rfl <| gF X0 hx hZ hO (w48 hw) Via.refl e0 F_c1_o (hb Y d6_1) fun T2793 X2793 e2793 => ?_
  refine iN X2793 hx (hb Y d6_4) rfl <| iA X2793 hx (z := 3) (hb Y d6_5) <| aN X2793 hx (hb Y d6_6) rfl rfl <| gF X2793 hx hZ hO (w16 hw) Via.refl e2793 F_c1_t (hb Y d6_7) fun T2794 X2794 e2794 => ?_
  refine f_len X2794 hx hZ e2794 V_c2 (hb Y d6_10) <| iK X2794 hx (z := 1) (hb Y d6_11) <| iB X2794 hx (z := 3) (hb Y d6_12) <| f_iand X2794 hx (z := 3) (hb Y d6_13) ?_
  exact f_ret X2794 hx hlk (i := .ireturn) hret rfl (Or.inl ⟨rfl, Or.inl rfl, _, rfl⟩) (hb Y d6_14) (QQ := (QV (.int 3) h0 n0)) ⟨rfl, N0, e2794⟩ (by decide) (by decide)
def St72 (Z : State) (h : Heap) (n0 : Nat) (c1 : Nat) (c2 : Nat) (c3 : Nat) (c4 : Nat) (c5 : Nat) (kc1 : ClassId) (kc2 : ClassId) (kc3 : ClassId) (kc4 : ClassId) (uu1 : Int64) (uu2 : Int64) (uu3 : Int64) (uu4 : Int64) (ww5 : Value) (ww6 : Value) (ww7 : Value) (ww8 : Value) (ww10 : Value) : Prop :=
  xO Z h c1 ∧
  Arv Z h c1 kc1 (.object "java/lang/Object") 1 [.null] .null ∧
  Ovr Z kc1 "java/lang/Object" ∧
  Exa Z h c2 cV ∧
  fT Z h c2 (.ref c3) ∧
  fR Z h c2 (.ref c4) ∧
  fC Z h c2 (.ref c5) ∧
  fS Z h c2 (.int 1) ∧
  fO Z h c2 (.int 2) ∧
  aL Z h c3 kc2 4 [(.long uu1), (.long uu2), (.long uu3), (.long uu4)] ∧
  xR Z h c4 ∧
  aR Z h c4 kc3 4 [ww5, ww6, ww7, ww8] ∧
  oR Z kc3 ∧
  xC Z h c5 ∧
  aC Z h c5 kc4 4 [.null, .null, .null, .null] ∧
  oC Z kc4 ∧
  n0 ≤ c1 ∧
  c1 < c2 ∧
  c2 < c3 ∧
  c3 < c4 ∧
  c4 < c5 ∧
  ww5.isRef = true ∧
  (ww5 = .null ∨ ww5 = .ref c1) ∧
  ww6.isRef = true ∧
  (ww6 = .null ∨ ww6 = .ref c1) ∧
  ww7.isRef = true ∧
  (ww7 = .null ∨ ww7 = .ref c1) ∧
  ww8.isRef = true ∧
  (ww8 = .null ∨ ww8 = .ref c1) ∧
  ww10.isRef = true ∧
  (ww10 = .null ∨ ww10 = .ref c1)
def St73 (Z : State) (h : Heap) (n0 : Nat) (c1 : Nat) (c2 : Nat) (c3 : Nat) (c4 : Nat) (c5 : Nat) (kc1 : ClassId) (kc2 : ClassId) (kc3 : ClassId) (kc4 : ClassId) (uu1 : Int64) (uu2 : Int64) (uu3 : Int64) (uu9 : Int64) (ww5 : Value) (ww6 : Value) (ww7 : Value) (ww10 : Value) (ww8 : Value) : Prop :=
  xO Z h c1 ∧
  Arv Z h c1 kc1 (.object "java/lang/Object") 1 [.null] .null ∧
  Ovr Z kc1 "java/lang/Object" ∧
  Exa Z h c2 cV ∧
  fT Z h c2 (.ref c3) ∧
  fR Z h c2 (.ref c4) ∧
  fC Z h c2 (.ref c5) ∧
  fS Z h c2 (.int 2) ∧
  fO Z h c2 (.int 2) ∧
  aL Z h c3 kc2 4 [(.long uu1), (.long uu2), (.long uu3), (.long uu9)] ∧
  xR Z h c4 ∧
  aR Z h c4 kc3 4 [ww5, ww6, ww7, ww10] ∧
  oR Z kc3 ∧
  xC Z h c5 ∧
  aC Z h c5 kc4 4 [.null, .null, .null, .null] ∧
  oC Z kc4 ∧
  n0 ≤ c1 ∧
  c1 < c2 ∧
  c2 < c3 ∧
  c3 < c4 ∧
  c4 < c5 ∧
  ww5.isRef = true ∧
  (ww5 = .null ∨ ww5 = .ref c1) ∧
  ww6.isRef = true ∧
  (ww6 = .null ∨ ww6 = .ref c1) ∧
  ww7.isRef = true ∧
  (ww7 = .null ∨ ww7 = .ref c1) ∧
  ww8.isRef = true ∧
  (ww8 = .null ∨ ww8 = .ref c1) ∧
  ww10.isRef = true ∧
  (ww10 = .null ∨ ww10 = .ref c1)
def Qm2804 (Z : State) (n0 : Nat) (c1 : Nat) (c2 : Nat) (c3 : Nat) (c4 : Nat) (c5 : Nat) (kc1 : ClassId) (kc2 : ClassId) (kc3 : ClassId) (kc4 : ClassId) (uu1 : Int64) (uu2 : Int64) (uu3 : Int64) (uu4 : Int64) (ww5 : Value) (ww6 : Value) (ww7 : Value) (ww8 : Value) (ww10 : Value) (uu9 : Int64) (v : Option Value) (h : Heap) (L : List Loc) : Prop := v = none ∧ Fr n0 L ∧ St73 Z h n0 c1 c2 c3 c4 c5 kc1 kc2 kc3 kc4 uu1 uu2 uu3 uu9 ww5 ww6 ww7 ww10 ww8
theorem m2804 (l : Launch) (Z : State) (a0 : Array Value) (hw : HW a0 Z) (ws : List Jvm.Cond) (h0 : Heap) (n0 : Nat) (c1 : Nat) (c2 : Nat) (c3 : Nat) (c4 : Nat) (c5 : Nat) (kc1 : ClassId) (kc2 : ClassId) (kc3 : ClassId) (kc4 : ClassId) (uu1 : Int64) (uu2 : Int64) (uu3 : Int64) (uu4 : Int64) (ww5 : Value) (ww6 : Value) (ww7 : Value) (ww8 : Value) (ww10 : Value) (uu9 : Int64) (P : St72 Z h0 n0 c1 c2 c3 c4 c5 kc1 kc2 kc3 kc4 uu1 uu2 uu3 uu4 ww5 ww6 ww7 ww8 ww10) :
    MC l Z y5 prog_95_method_3_code 6 none ws rm_1_0_0_13 #[(.ref c2), (.long uu9), ww10, .null] h0 (Qm2804 Z n0 c1 c2 c3 c4 c5 kc1 kc2 kc3 kc4 uu1 uu2 uu3 uu4 ww5 ww6 ww7 ww8 ww10 uu9) := by
  obtain ⟨E_c1, V_c1, O_c1, E_c2, F_c2_t, F_c2_r, F_c2_c, F_c2_s, F_c2_o, V_c3, E_c4, V_c4, O_c4, E_c5, V_c5, O_c5, g_c1, lt_c1_c2, lt_c2_c3, lt_c3_c4, lt_c4_c5, rf_ww5, rw_ww5, rf_ww6, rw_ww6, rf_ww7, rw_ww7, rf_ww8, rw_ww8, rf_ww10, rw_ww10⟩ := id P
  refine own_met (plainFor_of_name pn5) fun p e s m below meth c s₁ X0 hx hZ Y hml hO hnm hlk hret e0 => f_cast (f' := mkF m 0 #[(rv c2), (.val (.long uu9)), .second, (.val ww10), (.val .null), .unset] []) (by rcases ref_cases rf_ww10 with q | ⟨_, q⟩ <;> (rw [q]; first | (simp [entryFrame, mkF, argsToLocals, Value.category]; done) | rfl)) ?_
  have N0 := Fr.nil n0
  refine aN X0 hx (hb Y d5_0) rfl rfl <| gF X0 hx hZ hO (w31 hw) Via.refl e0 F_c2_s (hb Y d5_1) fun T2789 X2789 e2789 => ?_
  refine aN X2789 hx (hb Y d5_4) rfl rfl <| gF X2789 hx hZ hO (w16 hw) Via.refl e2789 F_c2_t (hb Y d5_5) fun T2790 X2790 e2790 => ?_
  refine f_len X2790 hx hZ e2790 V_c3 (hb Y d5_8) <| cY X2790 hx (pc := 9) 22 (hb Y d5_9) <| aN X2790 hx (hb Y d5_22) rfl rfl <| aN X2790 hx (hb Y d5_23) rfl rfl <| gF X2790 hx hZ hO (w31 hw) Via.refl e2790 F_c2_s (hb Y d5_24) fun T2791 X2791 e2791 => ?_
  refine pV X2791 hx hZ hO (by rw [hml]; rfl) (w44 hw) (w45 hw) (w46 hw) (w7 hw) (w8 hw) (w47 hw) e2791 E_c2 (argsL := [(.int 1)]) (rest := []) (q2795 l Z a0 hw [] h0 n0 c2 c3 kc2 _ F_c2_o F_c2_t V_c3) (lenOf pd4 rfl) (hb Y d5_27) fun T2792 L2792 v2792 X2792 hQ2792 => ?_
  obtain ⟨rfl, N2792q, e2792⟩ := hQ2792
  have N2792 := Fr.app N0 N2792q
  refine iS X2792 hx (L' := #[(rv c2), (.val (.long uu9)), .second, (.val ww10), (.val .null), (iv 3)]) (hb Y d5_30) rfl <| aN X2792 hx (hb Y d5_32) rfl rfl <| gF X2792 hx hZ hO (w16 hw) Via.refl e2792 F_c2_t (hb Y d5_33) fun T2796 X2796 e2796 => ?_
  refine iL X2796 hx (hb Y d5_36) rfl <| lN X2796 hx (hb Y d5_38) rfl <| f_lst X2796 hx hZ e2796 V_c3 3 (hb Y d5_39) fun T2797 h2797 X2797 e2797 W2797 V2797 => ?_
  have N2797x := Fr.snoc X2797 N2792 (by omega : n0 ≤ c3)
  refine aN X2797 hx (hb Y d5_40) rfl rfl ?_
  replace F_c2_r := (fo W2797 F_c2_r)
  refine gF X2797 hx hZ hO (w20 hw) Via.refl e2797 F_c2_r (hb Y d5_41) fun T2798 X2798 e2798 => ?_
  refine iL X2798 hx (hb Y d5_44) rfl <| aN X2798 hx (hb Y d5_46) rfl rf_ww10 ?_
  replace V_c4 := (vo V_c4 W2797)
  replace E_c1 := (xw W2797 E_c1)
  refine f_ast X2798 hx hZ e2798 V_c4 rfl (own_sto rw_ww10 (own_stoVA V_c4 O_c4 (Ins.self E_c1))) (own_fits rf_ww10) 3 (hb Y d5_47) fun T2799 h2799 X2799 e2799 W2799 V2799 => ?_
  have N2799x := Fr.snoc X2799 N2797x (by omega : n0 ≤ c4)
  refine aN X2799 hx (hb Y d5_48) rfl rfl ?_
  replace F_c2_c := (fo W2799 (fo W2797 F_c2_c))
  refine gF X2799 hx hZ hO (w24 hw) Via.refl e2799 F_c2_c (hb Y d5_49) fun T2800 X2800 e2800 => ?_
  refine iL X2800 hx (hb Y d5_52) rfl <| aA X2800 hx (hb Y d5_54) rfl rfl ?_
  replace V_c5 := (vo (vo V_c5 W2797) W2799)
  refine f_ast X2800 hx hZ e2800 V_c5 rfl (Or.inl rfl) rfl 3 (hb Y d5_56) fun T2801 h2801 X2801 e2801 W2801 V2801 => ?_
  have N2801x := Fr.snoc X2801 N2799x (by omega : n0 ≤ c5)
  refine aN X2801 hx (hb Y d5_57) rfl rfl <| f_dup X2801 hx (hb Y d5_58) rfl ?_
  replace F_c2_s := (fo W2801 (fo W2799 (fo W2797 F_c2_s)))
  refine gF X2801 hx hZ hO (w31 hw) Via.refl e2801 F_c2_s (hb Y d5_59) fun T2802 X2802 e2802 => ?_
  refine iK X2802 hx (z := 1) (hb Y d5_62) <| iA X2802 hx (z := 2) (hb Y d5_63) ?_
  replace E_c2 := (xw W2801 (xw W2799 (xw W2797 E_c2)))
  refine f_putF X2802 hx hZ hO (w31 hw) Via.refl e2802 F_c2_s E_c2 (Or.inl (w32 hw)) (w7 hw) (ty := .int) (by decide) rfl rfl (hb Y d5_64) fun T2803 h2803 X2803 e2803 W2803 => ?_
  have N2803x := Fr.snoc X2803 N2801x (by omega : n0 ≤ c2)
  exact f_ret0 X2803 hx hlk hret (hb Y d5_67) (QQ := (Qm2804 Z n0 c1 c2 c3 c4 c5 kc1 kc2 kc3 kc4 uu1 uu2 uu3 uu4 ww5 ww6 ww7 ww8 ww10 uu9)) (by rw [e2803]; exact ⟨rfl, N2803x, (xw W2803 (xw W2801 (xw W2799 E_c1))), (vo (vo (vo (vo V_c1 W2797) W2799) W2801) W2803), O_c1, (xw W2803 E_c2), (Fld.other W2803 (fo W2801 (fo W2799 (fo W2797 F_c2_t))) (Or.inr (slot_ne (Or.inl (w17 hw)) (Or.inl (w32 hw)) (by decide) (t := (.array .long)) (t' := .int) (by decide) (by decide)))), (Fld.other W2803 (fo W2801 (fo W2799 F_c2_r)) (Or.inr (slot_ne (Or.inl (w21 hw)) (Or.inl (w32 hw)) (by decide) (t := (.array (.array (.object "java/lang/Object")))) (t' := .int) (by decide) (by decide)))), (Fld.other W2803 (fo W2801 F_c2_c) (Or.inr (slot_ne (Or.inl (w25 hw)) (Or.inl (w32 hw)) (by decide) (t := (.array (.array .int))) (t' := .int) (by decide) (by decide)))), (Fld.same W2803 F_c2_s), (Fld.other W2803 (fo W2801 (fo W2799 (fo W2797 F_c2_o))) (Or.inr (slot_ne (Or.inl (w49 hw)) (Or.inl (w32 hw)) (by decide) (t := .int) (t' := .int) (by decide) (by decide)))), (vo (vo (vo V2797 W2799) W2801) W2803), (xw W2803 (xw W2801 (xw W2799 (xw W2797 E_c4)))), (vo (vo V2799 W2801) W2803), O_c4, (xw W2803 (xw W2801 (xw W2799 (xw W2797 E_c5)))), (vo V2801 W2803), O_c5, g_c1, lt_c1_c2, lt_c2_c3, lt_c3_c4, lt_c4_c5, rf_ww5, rw_ww5, rf_ww6, rw_ww6, rf_ww7, rw_ww7, rf_ww8, rw_ww8, rf_ww10, rw_ww10⟩) (by decide) (by decide)
theorem D1_42  (c1 : Nat) (c2 : Nat) (c3 : Nat) (c4 : Nat) (c5 : Nat) (kc1 : ClassId) (kc2 : ClassId) (kc3 : ClassId) (kc4 : ClassId) (r2 : Value) (t0 : Int32) (t1 : Int32) (t2 : Int32) (t3 : Int32) (t4 : Int32) (r0 : Value) (r1 : Value) (p0 : Int32) (p1 : Int64) (X0 : Stand p l e room_1 s m args below meth c T0 locs 8 25) (G : SG p s m meth c Z a0) (e0 : T0.heap = h0) (N0 : Fr n0 locs) (P : St71 Z h0 n0 c1 c2 c3 c4 c5 kc1 kc2 kc3 kc4 r2 t0 t1 t2 t3 t4 r0 r1) (hk0 : ∀ (T' : State) (locs' : List Loc), Stand p l e room_1 s m args below meth c T' locs' 8 25 → Fr n0 locs' → EndsSo p e below (LQ s n0) T' (mkF m 209 (FL p0 p1 3 1 t0 t1 t2 t3 t4 c1 c2 (iv 1) .unset .unset .unset .unset .unset) [])) :
    EndsSo p e below (LQ s n0) T0 (mkF m 150 (FL p0 p1 3 1 t0 t1 t2 t3 t4 c1 c2 .unset .unset .unset .unset .unset .unset) []) := by
  obtain ⟨hx, hZ, hw, Y, hml, hO, hlk, hret⟩ := id G
  obtain ⟨E_c1, V_c1, O_c1, E_c2, F_c2_t, F_c2_r, F_c2_c, F_c2_s, F_c2_o, V_c3, E_c4, V_c4, O_c4, E_c5, V_c5, O_c5, g_c1, lt_c1_c2, lt_c2_c3, lt_c3_c4, lt_c4_c5, ht0, ht1, ht2, ht3, ht4, rf_r0, rw_r0, rb_r0, rf_r1, rw_r1, rb_r1, rf_r2, rw_r2, rb_r2⟩ := id P
  refine iL X0 hx (hb Y at_150) rfl <| iK X0 hx (z := 1) (hb Y at_152) <| cN X0 hx (hb Y at_153) <| aA X0 hx (hb Y at_156) rfl rfl <| f_ldc2 X0 hx hZ hO (w56 hw) (hb Y at_158) <| iL X0 hx (hb Y at_161) rfl <| own_mrg X0 hx (row := c1) ht3 (pc := 163) (hb Y at_163) (hb Y at_170) (hb Y at_166) (hb Y at_167) rfl fun r3 rf_r3 rw_r3 rb_r3 => ?_
  refine f_null X0 hx (hb Y at_172) ?_
  have P2805 : St72 Z h0 n0 c1 c2 c3 c4 c5 kc1 kc2 kc3 kc4 (10 : Int64) (20 : Int64) (30 : Int64) (0 : Int64) .null .null r2 .null r3 := ⟨E_c1, V_c1, O_c1, E_c2, F_c2_t, F_c2_r, F_c2_c, F_c2_s, F_c2_o, V_c3, E_c4, V_c4, O_c4, E_c5, V_c5, O_c5, g_c1, lt_c1_c2, lt_c2_c3, lt_c3_c4, lt_c4_c5, rfl, (Or.inl rfl), rfl, (Or.inl rfl), rf_r2, rw_r2, rfl, (Or.inl rfl), rf_r3, rw_r3⟩
  refine vV X0 hx hZ hO (by rw [hml]; rfl) (w39 hw) (w40 hw) (w42 hw) (w41 hw) (w8 hw) (w43 hw) e0 E_c2 (argsL := [(.long 40), r3, .null]) (rest := []) (m2804 l Z a0 hw [] h0 n0 c1 c2 c3 c4 c5 kc1 kc2 kc3 kc4 (10 : Int64) (20 : Int64) (30 : Int64) (0 : Int64) .null .null r2 .null r3 (40 : Int64) P2805) (lenOf pd5 rfl) (hb Y at_173) fun T2773 L2773 v2773 X2773 hQ2773 => ?_
  obtain ⟨rfl, N2773q, P2773⟩ := hQ2773
  obtain ⟨E_c1, V_c1, O_c1, E_c2, F_c2_t, F_c2_r, F_c2_c, F_c2_s, F_c2_o, V_c3, E_c4, V_c4, O_c4, E_c5, V_c5, O_c5, g_c1, lt_c1_c2, lt_c2_c3, lt_c3_c4, lt_c4_c5, _, _, _, _, _, _, _, _, _, _⟩ := id P2773
  have N2773 := Fr.app N0 N2773q
  refine iL X2773 hx (hb Y at_176) rfl <| iK X2773 hx (z := 2) (hb Y at_178) <| cY X2773 hx (pc := 179) 202 (hb Y at_179) <| aA X2773 hx (hb Y at_202) rfl rfl <| vV X2773 hx hZ hO (by rw [hml]; rfl) (w33 hw) (w34 hw) (w36 hw) (w35 hw) (w8 hw) (w37 hw) rfl E_c2 (argsL := []) (rest := []) (q136 l Z a0 hw [] T2773.heap n0 c2 F_c2_s) (lenOf pd3 rfl) (hb Y at_204) fun T2806 L2806 v2806 X2806 hQ2806 => ?_
  obtain ⟨rfl, N2806q, e2806⟩ := hQ2806
  have N2806 := Fr.app N2773 N2806q
  refine iS X2806 hx (L' := (FL p0 p1 3 1 t0 t1 t2 t3 t4 c1 c2 (iv 1) .unset .unset .unset .unset .unset)) (hb Y at_207) rfl ?_
  exact hk0 _ _ X2806 N2806
theorem F2_37  {cells slots : Nat} (p0 : Int32) (p1 : Int64) (t0 : Int32) (t1 : Int32) (t2 : Int32) (t3 : Int32) (t4 : Int32) (c1 : Nat) (c2 : Nat) (X0 : Stand p l e room_1 s m args below meth c T0 locs cells slots) (G : SG p s m meth c Z a0) (N0 : Fr n0 locs) (hK : cells ≤ room_1.cells) (hN : slots ≤ room_1.slots) :
    EndsSo p e below (LQ s n0) T0 (mkF m 303 (FL p0 p1 3 1 t0 t1 t2 t3 t4 c1 c2 (iv 1) (iv 2) (iv t1) (.val (.long 20)) .second .unset) []) := by
  obtain ⟨hx, hZ, hw, Y, hml, hO, hlk, hret⟩ := id G
  refine iN X0 hx (hb Y at_303) rfl <| iL X0 hx (hb Y at_304) rfl <| iB X0 hx (z := 1) (hb Y at_306) <| iS X0 hx (L' := (FL p0 p1 3 1 t0 t1 t2 t3 t4 c1 c2 (iv 1) (iv 2) (iv 1) (.val (.long 20)) .second .unset)) (hb Y at_307) rfl <| iL X0 hx (hb Y at_309) rfl <| iL X0 hx (hb Y at_311) rfl <| iA X0 hx (z := 2) (hb Y at_313) <| iS X0 hx (L' := (FL p0 p1 3 1 t0 t1 t2 t3 t4 c1 c2 (iv 1) (iv 2) (iv 1) (iv 2) .unset .unset)) (hb Y at_314) rfl <| iL X0 hx (hb Y at_316) rfl <| iK X0 hx (z := 1) (hb Y at_318) <| cN X0 hx (hb Y at_319) <| iL X0 hx (hb Y at_322) rfl <| fY X0 hx (pc := 324) 332 (hb Y at_324) <| iL X0 hx (hb Y at_332) rfl <| iK X0 hx (z := 1) (hb Y at_334) <| cY X0 hx (pc := 335) 343 (hb Y at_335) <| iL X0 hx (hb Y at_343) rfl <| gT X0 hx (pc := 345) 350 (hb Y at_345) <| iS X0 hx (L' := (FL p0 p1 3 1 t0 t1 t2 t3 t4 c1 c2 (iv 1) (iv 2) (iv 1) (iv 2) (iv t2) .unset)) (hb Y at_350) rfl <| iL X0 hx (hb Y at_352) rfl <| iK X0 hx (z := 1) (hb Y at_354) <| cY X0 hx (pc := 355) 369 (hb Y at_355) <| iK X0 hx (z := 1) (hb Y at_369) <| gT X0 hx (pc := 370) 374 (hb Y at_370) <| iS X0 hx (L' := (FL p0 p1 3 1 t0 t1 t2 t3 t4 c1 c2 (iv 1) (iv 2) (iv 1) (iv 2) (iv t2) (iv 1))) (hb Y at_374) rfl <| iL X0 hx (hb Y at_376) rfl <| iL X0 hx (hb Y at_378) rfl <| cN X0 hx (hb Y at_380) <| iK X0 hx (z := 1) (hb Y at_383) <| gT X0 hx (pc := 384) 388 (hb Y at_384) ?_
  exact f_ret X0 hx hlk (i := .ireturn) hret rfl (Or.inl ⟨rfl, Or.inr (Or.inl rfl), _, rfl⟩) (hb Y at_388) (QQ := (QL n0)) ⟨rfl, N0⟩ hK hN
theorem q2847 (l : Launch) (Z : State) (a0 : Array Value) (hw : HW a0 Z) (ws : List Jvm.Cond) (h0 : Heap) (n0 : Nat) (c1 : Nat) (c2 : Nat) (kc3 : ClassId) (vs_c2 : List Value) (F_c1_o : fO Z h0 c1 (.int 2)) (F_c1_t : fT Z h0 c1 (.ref c2)) (V_c2 : aL Z h0 c2 kc3 4 vs_c2) :
    MC l Z y6 prog_95_method_11_code 2 (some .int) ws rm_0_0_0_0 #[(.ref c1), (.int 2)] h0 (QV (.int 0) h0 n0) := by
  refine own_met (plainFor_of_name pn6) fun p e s m below meth c s₁ X0 hx hZ Y hml hO hnm hlk hret e0 => f_cast (f' := mkF m 0 #[(rv c1), (iv 2)] []) (by first | (simp [entryFrame, mkF, argsToLocals, Value.category]; done) | rfl) ?_
  have N0 := Fr.nil n0
  refine aN X0 hx (hb Y d6_0) rfl rfl <| gF X0 hx hZ hO (w48 hw) Via.refl e0 F_c1_o (hb Y d6_1) fun T2845 X2845 e2845 => ?_
  refine iN X2845 hx (hb Y d6_4) rfl <| iA X2845 hx (z := 4) (hb Y d6_5) <| aN X2845 hx (hb Y d6_6) rfl rfl <| gF X2845 hx hZ hO (w16 hw) Via.refl e2845 F_c1_t (hb Y d6_7) fun T2846 X2846 e2846 => ?_
  refine f_len X2846 hx hZ e2846 V_c2 (hb Y d6_10) <| iK X2846 hx (z := 1) (hb Y d6_11) <| iB X2846 hx (z := 3) (hb Y d6_12) <| f_iand X2846 hx (z := 0) (hb Y d6_13) ?_
  exact f_ret X2846 hx hlk (i := .ireturn) hret rfl (Or.inl ⟨rfl, Or.inl rfl, _, rfl⟩) (hb Y d6_14) (QQ := (QV (.int 0) h0 n0)) ⟨rfl, N0, e2846⟩ (by decide) (by decide)
def St74 (Z : State) (h : Heap) (n0 : Nat) (c1 : Nat) (c2 : Nat) (c3 : Nat) (c4 : Nat) (c5 : Nat) (kc1 : ClassId) (kc2 : ClassId) (kc3 : ClassId) (kc4 : ClassId) (uu1 : Int64) (uu2 : Int64) (uu3 : Int64) (uu4 : Int64) (ww5 : Value) (ww6 : Value) (ww7 : Value) (ww8 : Value) (ww10 : Value) : Prop :=
  xO Z h c1 ∧
  Arv Z h c1 kc1 (.object "java/lang/Object") 1 [.null] .null ∧
  Ovr Z kc1 "java/lang/Object" ∧
  Exa Z h c2 cV ∧
  fT Z h c2 (.ref c3) ∧
  fR Z h c2 (.ref c4) ∧
  fC Z h c2 (.ref c5) ∧
  fS Z h c2 (.int 2) ∧
  fO Z h c2 (.int 2) ∧
  aL Z h c3 kc2 4 [(.long uu1), (.long uu2), (.long uu3), (.long uu4)] ∧
  xR Z h c4 ∧
  aR Z h c4 kc3 4 [ww5, ww6, ww7, ww8] ∧
  oR Z kc3 ∧
  xC Z h c5 ∧
  aC Z h c5 kc4 4 [.null, .null, .null, .null] ∧
  oC Z kc4 ∧
  n0 ≤ c1 ∧
  c1 < c2 ∧
  c2 < c3 ∧
  c3 < c4 ∧
  c4 < c5 ∧
  ww5.isRef = true ∧
  (ww5 = .null ∨ ww5 = .ref c1) ∧
  ww6.isRef = true ∧
  (ww6 = .null ∨ ww6 = .ref c1) ∧
  ww7.isRef = true ∧
  (ww7 = .null ∨ ww7 = .ref c1) ∧
  ww8.isRef = true ∧
  (ww8 = .null ∨ ww8 = .ref c1) ∧
  ww10.isRef = true ∧
  (ww10 = .null ∨ ww10 = .ref c1)
def St75 (Z : State) (h : Heap) (n0 : Nat) (c1 : Nat) (c2 : Nat) (c3 : Nat) (c4 : Nat) (c5 : Nat) (kc1 : ClassId) (kc2 : ClassId) (kc3 : ClassId) (kc4 : ClassId) (uu9 : Int64) (uu2 : Int64) (uu3 : Int64) (uu4 : Int64) (ww10 : Value) (ww6 : Value) (ww7 : Value) (ww8 : Value) (ww5 : Value) : Prop :=
  xO Z h c1 ∧
  Arv Z h c1 kc1 (.object "java/lang/Object") 1 [.null] .null ∧
  Ovr Z kc1 "java/lang/Object" ∧
  Exa Z h c2 cV ∧
  fT Z h c2 (.ref c3) ∧
  fR Z h c2 (.ref c4) ∧
  fC Z h c2 (.ref c5) ∧
  fS Z h c2 (.int 3) ∧
  fO Z h c2 (.int 2) ∧
  aL Z h c3 kc2 4 [(.long uu9), (.long uu2), (.long uu3), (.long uu4)] ∧
  xR Z h c4 ∧
  aR Z h c4 kc3 4 [ww10, ww6, ww7, ww8] ∧
  oR Z kc3 ∧
  xC Z h c5 ∧
  aC Z h c5 kc4 4 [.null, .null, .null, .null] ∧
  oC Z kc4 ∧
  n0 ≤ c1 ∧
  c1 < c2 ∧
  c2 < c3 ∧
  c3 < c4 ∧
  c4 < c5 ∧
  ww5.isRef = true ∧
  (ww5 = .null ∨ ww5 = .ref c1) ∧
  ww6.isRef = true ∧
  (ww6 = .null ∨ ww6 = .ref c1) ∧
  ww7.isRef = true ∧
  (ww7 = .null ∨ ww7 = .ref c1) ∧
  ww8.isRef = true ∧
  (ww8 = .null ∨ ww8 = .ref c1) ∧
  ww10.isRef = true ∧
  (ww10 = .null ∨ ww10 = .ref c1)
def Qm2856 (Z : State) (n0 : Nat) (c1 : Nat) (c2 : Nat) (c3 : Nat) (c4 : Nat) (c5 : Nat) (kc1 : ClassId) (kc2 : ClassId) (kc3 : ClassId) (kc4 : ClassId) (uu1 : Int64) (uu2 : Int64) (uu3 : Int64) (uu4 : Int64) (ww5 : Value) (ww6 : Value) (ww7 : Value) (ww8 : Value) (ww10 : Value) (uu9 : Int64) (v : Option Value) (h : Heap) (L : List Loc) : Prop := v = none ∧ Fr n0 L ∧ St75 Z h n0 c1 c2 c3 c4 c5 kc1 kc2 kc3 kc4 uu9 uu2 uu3 uu4 ww10 ww6 ww7 ww8 ww5
theorem m2856 (l : Launch) (Z : State) (a0 : Array Value) (hw : HW a0 Z) (ws : List Jvm.Cond) (h0 : Heap) (n0 : Nat) (c1 : Nat) (c2 : Nat) (c3 : Nat) (c4 : Nat) (c5 : Nat) (kc1 : ClassId) (kc2 : ClassId) (kc3 : ClassId) (kc4 : ClassId) (uu1 : Int64) (uu2 : Int64) (uu3 : Int64) (uu4 : Int64) (ww5 : Value) (ww6 : Value) (ww7 : Value) (ww8 : Value) (ww10 : Value) (uu9 : Int64) (P : St74 Z h0 n0 c1 c2 c3 c4 c5 kc1 kc2 kc3 kc4 uu1 uu2 uu3 uu4 ww5 ww6 ww7 ww8 ww10) :
    MC l Z y5 prog_95_method_3_code 6 none ws rm_1_0_0_13 #[(.ref c2), (.long uu9), ww10, .null] h0 (Qm2856 Z n0 c1 c2 c3 c4 c5 kc1 kc2 kc3 kc4 uu1 uu2 uu3 uu4 ww5 ww6 ww7 ww8 ww10 uu9) := by
  obtain ⟨E_c1, V_c1, O_c1, E_c2, F_c2_t, F_c2_r, F_c2_c, F_c2_s, F_c2_o, V_c3, E_c4, V_c4, O_c4, E_c5, V_c5, O_c5, g_c1, lt_c1_c2, lt_c2_c3, lt_c3_c4, lt_c4_c5, rf_ww5, rw_ww5, rf_ww6, rw_ww6, rf_ww7, rw_ww7, rf_ww8, rw_ww8, rf_ww10, rw_ww10⟩ := id P
  refine own_met (plainFor_of_name pn5) fun p e s m below meth c s₁ X0 hx hZ Y hml hO hnm hlk hret e0 => f_cast (f' := mkF m 0 #[(rv c2), (.val (.long uu9)), .second, (.val ww10), (.val .null), .unset] []) (by rcases ref_cases rf_ww10 with q | ⟨_, q⟩ <;> (rw [q]; first | (simp [entryFrame, mkF, argsToLocals, Value.category]; done) | rfl)) ?_
  have N0 := Fr.nil n0
  refine aN X0 hx (hb Y d5_0) rfl rfl <| gF X0 hx hZ hO (w31 hw) Via.refl e0 F_c2_s (hb Y d5_1) fun T2841 X2841 e2841 => ?_
  refine aN X2841 hx (hb Y d5_4) rfl rfl <| gF X2841 hx hZ hO (w16 hw) Via.refl e2841 F_c2_t (hb Y d5_5) fun T2842 X2842 e2842 => ?_
  refine f_len X2842 hx hZ e2842 V_c3 (hb Y d5_8) <| cY X2842 hx (pc := 9) 22 (hb Y d5_9) <| aN X2842 hx (hb Y d5_22) rfl rfl <| aN X2842 hx (hb Y d5_23) rfl rfl <| gF X2842 hx hZ hO (w31 hw) Via.refl e2842 F_c2_s (hb Y d5_24) fun T2843 X2843 e2843 => ?_
  refine pV X2843 hx hZ hO (by rw [hml]; rfl) (w44 hw) (w45 hw) (w46 hw) (w7 hw) (w8 hw) (w47 hw) e2843 E_c2 (argsL := [(.int 2)]) (rest := []) (q2847 l Z a0 hw [] h0 n0 c2 c3 kc2 _ F_c2_o F_c2_t V_c3) (lenOf pd4 rfl) (hb Y d5_27) fun T2844 L2844 v2844 X2844 hQ2844 => ?_
  obtain ⟨rfl, N2844q, e2844⟩ := hQ2844
  have N2844 := Fr.app N0 N2844q
  refine iS X2844 hx (L' := #[(rv c2), (.val (.long uu9)), .second, (.val ww10), (.val .null), (iv 0)]) (hb Y d5_30) rfl <| aN X2844 hx (hb Y d5_32) rfl rfl <| gF X2844 hx hZ hO (w16 hw) Via.refl e2844 F_c2_t (hb Y d5_33) fun T2848 X2848 e2848 => ?_
  refine iL X2848 hx (hb Y d5_36) rfl <| lN X2848 hx (hb Y d5_38) rfl <| f_lst X2848 hx hZ e2848 V_c3 0 (hb Y d5_39) fun T2849 h2849 X2849 e2849 W2849 V2849 => ?_
  have N2849x := Fr.snoc X2849 N2844 (by omega : n0 ≤ c3)
  refine aN X2849 hx (hb Y d5_40) rfl rfl ?_
  replace F_c2_r := (fo W2849 F_c2_r)
  refine gF X2849 hx hZ hO (w20 hw) Via.refl e2849 F_c2_r (hb Y d5_41) fun T2850 X2850 e2850 => ?_
  refine iL X2850 hx (hb Y d5_44) rfl <| aN X2850 hx (hb Y d5_46) rfl rf_ww10 ?_
  replace V_c4 := (vo V_c4 W2849)
  replace E_c1 := (xw W2849 E_c1)
  refine f_ast X2850 hx hZ e2850 V_c4 rfl (own_sto rw_ww10 (own_stoVA V_c4 O_c4 (Ins.self E_c1))) (own_fits rf_ww10) 0 (hb Y d5_47) fun T2851 h2851 X2851 e2851 W2851 V2851 => ?_
  have N2851x := Fr.snoc X2851 N2849x (by omega : n0 ≤ c4)
  refine aN X2851 hx (hb Y d5_48) rfl rfl ?_
  replace F_c2_c := (fo W2851 (fo W2849 F_c2_c))
  refine gF X2851 hx hZ hO (w24 hw) Via.refl e2851 F_c2_c (hb Y d5_49) fun T2852 X2852 e2852 => ?_
  refine iL X2852 hx (hb Y d5_52) rfl <| aA X2852 hx (hb Y d5_54) rfl rfl ?_
  replace V_c5 := (vo (vo V_c5 W2849) W2851)
  refine f_ast X2852 hx hZ e2852 V_c5 rfl (Or.inl rfl) rfl 0 (hb Y d5_56) fun T2853 h2853 X2853 e2853 W2853 V2853 => ?_
  have N2853x := Fr.snoc X2853 N2851x (by omega : n0 ≤ c5)
  refine aN X2853 hx (hb Y d5_57) rfl rfl <| f_dup X2853 hx (hb Y d5_58) rfl ?_
  replace F_c2_s := (fo W2853 (fo W2851 (fo W2849 F_c2_s)))
  refine gF X2853 hx hZ hO (w31 hw) Via.refl e2853 F_c2_s (hb Y d5_59) fun T2854 X2854 e2854 => ?_
  refine iK X2854 hx (z := 1) (hb Y d5_62) <| iA X2854 hx (z := 3) (hb Y d5_63) ?_
  replace E_c2 := (xw W2853 (xw W2851 (xw W2849 E_c2)))
  refine f_putF X2854 hx hZ hO (w31 hw) Via.refl e2854 F_c2_s E_c2 (Or.inl (w32 hw)) (w7 hw) (ty := .int) (by decide) rfl rfl (hb Y d5_64) fun T2855 h2855 X2855 e2855 W2855 => ?_
  have N2855x := Fr.snoc X2855 N2853x (by omega : n0 ≤ c2)
  exact f_ret0 X2855 hx hlk hret (hb Y d5_67) (QQ := (Qm2856 Z n0 c1 c2 c3 c4 c5 kc1 kc2 kc3 kc4 uu1 uu2 uu3 uu4 ww5 ww6 ww7 ww8 ww10 uu9)) (by rw [e2855]; exact ⟨rfl, N2855x, (xw W2855 (xw W2853 (xw W2851 E_c1))), (vo (vo (vo (vo V_c1 W2849) W2851) W2853) W2855), O_c1, (xw W2855 E_c2), (Fld.other W2855 (fo W2853 (fo W2851 (fo W2849 F_c2_t))) (Or.inr (slot_ne (Or.inl (w17 hw)) (Or.inl (w32 hw)) (by decide) (t := (.array .long)) (t' := .int) (by decide) (by decide)))), (Fld.other W2855 (fo W2853 (fo W2851 F_c2_r)) (Or.inr (slot_ne (Or.inl (w21 hw)) (Or.inl (w32 hw)) (by decide) (t := (.array (.array (.object "java/lang/Object")))) (t' := .int) (by decide) (by decide)))), (Fld.other W2855 (fo W2853 F_c2_c) (Or.inr (slot_ne (Or.inl (w25 hw)) (Or.inl (w32 hw)) (by decide) (t := (.array (.array .int))) (t' := .int) (by decide) (by decide)))), (Fld.same W2855 F_c2_s), (Fld.other W2855 (fo W2853 (fo W2851 (fo W2849 F_c2_o))) (Or.inr (slot_ne (Or.inl (w49 hw)) (Or.inl (w32 hw)) (by decide) (t := .int) (t' := .int) (by decide) (by decide)))), (vo (vo (vo V2849 W2851) W2853) W2855), (xw W2855 (xw W2853 (xw W2851 (xw W2849 E_c4)))), (vo (vo V2851 W2853) W2855), O_c4, (xw W2855 (xw W2853 (xw W2851 (xw W2849 E_c5)))), (vo V2853 W2855), O_c5, g_c1, lt_c1_c2, lt_c2_c3, lt_c3_c4, lt_c4_c5, rf_ww5, rw_ww5, rf_ww6, rw_ww6, rf_ww7, rw_ww7, rf_ww8, rw_ww8, rf_ww10, rw_ww10⟩) (by decide) (by decide)
theorem D2_43  (c1 : Nat) (c2 : Nat) (c3 : Nat) (c4 : Nat) (c5 : Nat) (kc1 : ClassId) (kc2 : ClassId) (kc3 : ClassId) (kc4 : ClassId) (r2 : Value) (t0 : Int32) (t1 : Int32) (t2 : Int32) (t3 : Int32) (t4 : Int32) (r0 : Value) (r1 : Value) (p0 : Int32) (p1 : Int64) (X0 : Stand p l e room_1 s m args below meth c T0 locs 8 25) (G : SG p s m meth c Z a0) (e0 : T0.heap = h0) (N0 : Fr n0 locs) (P : St71 Z h0 n0 c1 c2 c3 c4 c5 kc1 kc2 kc3 kc4 r2 t0 t1 t2 t3 t4 r0 r1) (hk0 : ∀ (T' : State) (locs' : List Loc), Stand p l e room_1 s m args below meth c T' locs' 8 25 → Fr n0 locs' → EndsSo p e below (LQ s n0) T' (mkF m 209 (FL p0 p1 3 2 t0 t1 t2 t3 t4 c1 c2 (iv 1) .unset .unset .unset .unset .unset) [])) :
    EndsSo p e below (LQ s n0) T0 (mkF m 150 (FL p0 p1 3 2 t0 t1 t2 t3 t4 c1 c2 .unset .unset .unset .unset .unset .unset) []) := by
  obtain ⟨hx, hZ, hw, Y, hml, hO, hlk, hret⟩ := id G
  obtain ⟨E_c1, V_c1, O_c1, E_c2, F_c2_t, F_c2_r, F_c2_c, F_c2_s, F_c2_o, V_c3, E_c4, V_c4, O_c4, E_c5, V_c5, O_c5, g_c1, lt_c1_c2, lt_c2_c3, lt_c3_c4, lt_c4_c5, ht0, ht1, ht2, ht3, ht4, rf_r0, rw_r0, rb_r0, rf_r1, rw_r1, rb_r1, rf_r2, rw_r2, rb_r2⟩ := id P
  refine iL X0 hx (hb Y at_150) rfl <| iK X0 hx (z := 1) (hb Y at_152) <| cN X0 hx (hb Y at_153) <| aA X0 hx (hb Y at_156) rfl rfl <| f_ldc2 X0 hx hZ hO (w56 hw) (hb Y at_158) <| iL X0 hx (hb Y at_161) rfl <| own_mrg X0 hx (row := c1) ht3 (pc := 163) (hb Y at_163) (hb Y at_170) (hb Y at_166) (hb Y at_167) rfl fun r3 rf_r3 rw_r3 rb_r3 => ?_
  refine f_null X0 hx (hb Y at_172) ?_
  have P2824 : St72 Z h0 n0 c1 c2 c3 c4 c5 kc1 kc2 kc3 kc4 (10 : Int64) (20 : Int64) (30 : Int64) (0 : Int64) .null .null r2 .null r3 := ⟨E_c1, V_c1, O_c1, E_c2, F_c2_t, F_c2_r, F_c2_c, F_c2_s, F_c2_o, V_c3, E_c4, V_c4, O_c4, E_c5, V_c5, O_c5, g_c1, lt_c1_c2, lt_c2_c3, lt_c3_c4, lt_c4_c5, rfl, (Or.inl rfl), rfl, (Or.inl rfl), rf_r2, rw_r2, rfl, (Or.inl rfl), rf_r3, rw_r3⟩
  refine vV X0 hx hZ hO (by rw [hml]; rfl) (w39 hw) (w40 hw) (w42 hw) (w41 hw) (w8 hw) (w43 hw) e0 E_c2 (argsL := [(.long 40), r3, .null]) (rest := []) (m2804 l Z a0 hw [] h0 n0 c1 c2 c3 c4 c5 kc1 kc2 kc3 kc4 (10 : Int64) (20 : Int64) (30 : Int64) (0 : Int64) .null .null r2 .null r3 (40 : Int64) P2824) (lenOf pd5 rfl) (hb Y at_173) fun T2809 L2809 v2809 X2809 hQ2809 => ?_
  obtain ⟨rfl, N2809q, P2809⟩ := hQ2809
  obtain ⟨E_c1, V_c1, O_c1, E_c2, F_c2_t, F_c2_r, F_c2_c, F_c2_s, F_c2_o, V_c3, E_c4, V_c4, O_c4, E_c5, V_c5, O_c5, g_c1, lt_c1_c2, lt_c2_c3, lt_c3_c4, lt_c4_c5, _, _, _, _, _, _, _, _, _, _⟩ := id P2809
  have N2809 := Fr.app N0 N2809q
  refine iL X2809 hx (hb Y at_176) rfl <| iK X2809 hx (z := 2) (hb Y at_178) <| cN X2809 hx (hb Y at_179) <| aA X2809 hx (hb Y at_182) rfl rfl <| f_ldc2 X2809 hx hZ hO (w62 hw) (hb Y at_184) <| iL X2809 hx (hb Y at_187) rfl <| own_mrg X2809 hx (row := c1) ht4 (pc := 189) (hb Y at_189) (hb Y at_196) (hb Y at_192) (hb Y at_193) rfl fun r4 rf_r4 rw_r4 rb_r4 => ?_
  refine f_null X2809 hx (hb Y at_198) ?_
  have P2857 : St74 Z T2809.heap n0 c1 c2 c3 c4 c5 kc1 kc2 kc3 kc4 (10 : Int64) (20 : Int64) (30 : Int64) (40 : Int64) .null .null r2 r3 r4 := ⟨E_c1, V_c1, O_c1, E_c2, F_c2_t, F_c2_r, F_c2_c, F_c2_s, F_c2_o, V_c3, E_c4, V_c4, O_c4, E_c5, V_c5, O_c5, g_c1, lt_c1_c2, lt_c2_c3, lt_c3_c4, lt_c4_c5, rfl, (Or.inl rfl), rfl, (Or.inl rfl), rf_r2, rw_r2, rf_r3, rw_r3, rf_r4, rw_r4⟩
  refine vV X2809 hx hZ hO (by rw [hml]; rfl) (w39 hw) (w40 hw) (w42 hw) (w41 hw) (w8 hw) (w43 hw) rfl E_c2 (argsL := [(.long 50), r4, .null]) (rest := []) (m2856 l Z a0 hw [] T2809.heap n0 c1 c2 c3 c4 c5 kc1 kc2 kc3 kc4 (10 : Int64) (20 : Int64) (30 : Int64) (40 : Int64) .null .null r2 r3 r4 (50 : Int64) P2857) (lenOf pd5 rfl) (hb Y at_199) fun T2825 L2825 v2825 X2825 hQ2825 => ?_
  obtain ⟨rfl, N2825q, P2825⟩ := hQ2825
  obtain ⟨E_c1, V_c1, O_c1, E_c2, F_c2_t, F_c2_r, F_c2_c, F_c2_s, F_c2_o, V_c3, E_c4, V_c4, O_c4, E_c5, V_c5, O_c5, g_c1, lt_c1_c2, lt_c2_c3, lt_c3_c4, lt_c4_c5, _, _, _, _, _, _, _, _, _, _⟩ := id P2825
  have N2825 := Fr.app N2809 N2825q
  refine aA X2825 hx (hb Y at_202) rfl rfl <| vV X2825 hx hZ hO (by rw [hml]; rfl) (w33 hw) (w34 hw) (w36 hw) (w35 hw) (w8 hw) (w37 hw) rfl E_c2 (argsL := []) (rest := []) (q462 l Z a0 hw [] T2825.heap n0 c2 F_c2_s) (lenOf pd3 rfl) (hb Y at_204) fun T2858 L2858 v2858 X2858 hQ2858 => ?_
  obtain ⟨rfl, N2858q, e2858⟩ := hQ2858
  have N2858 := Fr.app N2825 N2858q
  refine iS X2858 hx (L' := (FL p0 p1 3 2 t0 t1 t2 t3 t4 c1 c2 (iv 1) .unset .unset .unset .unset .unset)) (hb Y at_207) rfl ?_
  exact hk0 _ _ X2858 N2858
theorem F2_38  {cells slots : Nat} (p0 : Int32) (p1 : Int64) (t0 : Int32) (t1 : Int32) (t2 : Int32) (t3 : Int32) (t4 : Int32) (c1 : Nat) (c2 : Nat) (X0 : Stand p l e room_1 s m args below meth c T0 locs cells slots) (G : SG p s m meth c Z a0) (N0 : Fr n0 locs) (hK : cells ≤ room_1.cells) (hN : slots ≤ room_1.slots) :
    EndsSo p e below (LQ s n0) T0 (mkF m 303 (FL p0 p1 3 2 t0 t1 t2 t3 t4 c1 c2 (iv 1) (iv 2) (iv t1) (.val (.long 20)) .second .unset) []) := by
  obtain ⟨hx, hZ, hw, Y, hml, hO, hlk, hret⟩ := id G
  refine iN X0 hx (hb Y at_303) rfl <| iL X0 hx (hb Y at_304) rfl <| iB X0 hx (z := 1) (hb Y at_306) <| iS X0 hx (L' := (FL p0 p1 3 2 t0 t1 t2 t3 t4 c1 c2 (iv 1) (iv 2) (iv 1) (.val (.long 20)) .second .unset)) (hb Y at_307) rfl <| iL X0 hx (hb Y at_309) rfl <| iL X0 hx (hb Y at_311) rfl <| iA X0 hx (z := 3) (hb Y at_313) <| iS X0 hx (L' := (FL p0 p1 3 2 t0 t1 t2 t3 t4 c1 c2 (iv 1) (iv 2) (iv 1) (iv 3) .unset .unset)) (hb Y at_314) rfl <| iL X0 hx (hb Y at_316) rfl <| iK X0 hx (z := 1) (hb Y at_318) <| cN X0 hx (hb Y at_319) <| iL X0 hx (hb Y at_322) rfl <| fY X0 hx (pc := 324) 332 (hb Y at_324) <| iL X0 hx (hb Y at_332) rfl <| iK X0 hx (z := 1) (hb Y at_334) <| cY X0 hx (pc := 335) 343 (hb Y at_335) <| iL X0 hx (hb Y at_343) rfl <| gT X0 hx (pc := 345) 350 (hb Y at_345) <| iS X0 hx (L' := (FL p0 p1 3 2 t0 t1 t2 t3 t4 c1 c2 (iv 1) (iv 2) (iv 1) (iv 3) (iv t2) .unset)) (hb Y at_350) rfl <| iL X0 hx (hb Y at_352) rfl <| iK X0 hx (z := 1) (hb Y at_354) <| cY X0 hx (pc := 355) 369 (hb Y at_355) <| iK X0 hx (z := 1) (hb Y at_369) <| gT X0 hx (pc := 370) 374 (hb Y at_370) <| iS X0 hx (L' := (FL p0 p1 3 2 t0 t1 t2 t3 t4 c1 c2 (iv 1) (iv 2) (iv 1) (iv 3) (iv t2) (iv 1))) (hb Y at_374) rfl <| iL X0 hx (hb Y at_376) rfl <| iL X0 hx (hb Y at_378) rfl <| cN X0 hx (hb Y at_380) <| iK X0 hx (z := 1) (hb Y at_383) <| gT X0 hx (pc := 384) 388 (hb Y at_384) ?_
  exact f_ret X0 hx hlk (i := .ireturn) hret rfl (Or.inl ⟨rfl, Or.inr (Or.inl rfl), _, rfl⟩) (hb Y at_388) (QQ := (QL n0)) ⟨rfl, N0⟩ hK hN
theorem C3_40  (c1 : Nat) (c2 : Nat) (c3 : Nat) (c4 : Nat) (c5 : Nat) (kc1 : ClassId) (kc2 : ClassId) (kc3 : ClassId) (kc4 : ClassId) (r0 : Value) (r1 : Value) (r2 : Value) (t0 : Int32) (t1 : Int32) (t2 : Int32) (t3 : Int32) (t4 : Int32) (mm : Int32) (p1 : Int64) (p0 : Int32) (X0 : Stand p l e room_1 s m args below meth c T0 locs 8 25) (G : SG p s m meth c Z a0) (e0 : T0.heap = h0) (N0 : Fr n0 locs) (P : St66 Z h0 n0 c1 c2 c3 c4 c5 kc1 kc2 kc3 kc4 r0 r1 r2 t0 t1 t2 t3 t4 mm p1) :
    EndsSo p e below (LQ s n0) T0 (mkF m 143 (FL p0 p1 3 mm t0 t1 t2 t3 t4 c1 c2 .unset .unset .unset .unset .unset .unset) []) := by
  obtain ⟨hx, hZ, hw, Y, hml, hO, hlk, hret⟩ := id G
  obtain ⟨E_c1, V_c1, O_c1, E_c2, F_c2_t, F_c2_r, F_c2_c, F_c2_s, F_c2_o, V_c3, E_c4, V_c4, O_c4, E_c5, V_c5, O_c5, g_c1, lt_c1_c2, lt_c2_c3, lt_c3_c4, lt_c4_c5, ht0, ht1, ht2, ht3, ht4, rf_r0, rw_r0, rb_r0, rf_r1, rw_r1, rb_r1, rf_r2, rw_r2, rb_r2, hm3, nv_r1, z10, z20, z30, tv1⟩ := id P
  refine aA X0 hx (hb Y at_143) rfl rfl <| lN X0 hx (hb Y at_145) rfl ?_
  have P2758 : St66 Z h0 n0 c1 c2 c3 c4 c5 kc1 kc2 kc3 kc4 r0 r1 r2 t0 t1 t2 t3 t4 mm p1 := ⟨E_c1, V_c1, O_c1, E_c2, F_c2_t, F_c2_r, F_c2_c, F_c2_s, F_c2_o, V_c3, E_c4, V_c4, O_c4, E_c5, V_c5, O_c5, g_c1, lt_c1_c2, lt_c2_c3, lt_c3_c4, lt_c4_c5, ht0, ht1, ht2, ht3, ht4, rf_r0, rw_r0, rb_r0, rf_r1, rw_r1, rb_r1, rf_r2, rw_r2, rb_r2, hm3, nv_r1, z10, z20, z30, tv1⟩
  refine vV X0 hx hZ hO (by rw [hml]; rfl) (w26 hw) (w27 hw) (w29 hw) (w28 hw) (w8 hw) (w30 hw) e0 E_c2 (argsL := [(.long p1)]) (rest := []) (m2757 l Z a0 hw [] h0 n0 c1 c2 c3 c4 c5 kc1 kc2 kc3 kc4 r0 r1 r2 t0 t1 t2 t3 t4 mm p1 P2758) (lenOf pd2 rfl) (hb Y at_146) fun T2588 L2588 v2588 X2588 hQ2588 => ?_
  obtain ⟨rfl, N2588q, P2588⟩ := hQ2588
  obtain ⟨E_c1, V_c1, O_c1, E_c2, F_c2_t, F_c2_r, F_c2_c, F_c2_s, F_c2_o, V_c3, E_c4, V_c4, O_c4, E_c5, V_c5, O_c5, g_c1, lt_c1_c2, lt_c2_c3, lt_c3_c4, lt_c4_c5, ht0, ht1, ht2, ht3, ht4, rf_r0, rw_r0, rb_r0, rf_r1, rw_r1, rb_r1, rf_r2, rw_r2, rb_r2, hm3, nv_r1, z10, z20, z30, tv1⟩ := id P2588
  have N2588 := Fr.app N0 N2588q
  refine f_pop X2588 hx (hb Y at_149) rfl ?_
  rcases id hm3 with rfl | rfl | rfl
  · rcases id rb_r2 with ⟨tv2, nv_r2⟩ | ⟨tv2, nv_r2⟩
    · have P2765 : St69 Z T2588.heap n0 c1 c2 c3 c4 c5 kc1 kc2 kc3 kc4 r2 t0 t1 t2 t3 t4 r0 r1 := ⟨E_c1, V_c1, O_c1, E_c2, F_c2_t, F_c2_r, F_c2_c, F_c2_s, F_c2_o, V_c3, E_c4, V_c4, O_c4, E_c5, V_c5, O_c5, g_c1, lt_c1_c2, lt_c2_c3, lt_c3_c4, lt_c4_c5, ht0, ht1, ht2, ht3, ht4, rf_r0, rw_r0, rb_r0, rf_r1, rw_r1, rb_r1, rf_r2, rw_r2, rb_r2, nv_r1, nv_r2⟩
      exact D0_40 c1 c2 c3 c4 c5 kc1 kc2 kc3 kc4 r2 t0 t1 t2 t3 t4 r0 r1 p0 p1 X2588 G rfl N2588 P2765 (fun T' locs' X' N' => F1_13 p0 p1 (0 : Int32) (0 : Int32) t0 t1 t2 t3 t4 c1 c2 X' G z20 z30 tv1 (F2_35 p0 p1 t0 t1 t2 t3 t4 c1 c2 X' G tv2 N' (by decide) (by decide)))
    · have P2772 : St70 Z T2588.heap n0 c1 c2 c3 c4 c5 kc1 kc2 kc3 kc4 r2 t0 t1 t2 t3 t4 r0 r1 := ⟨E_c1, V_c1, O_c1, E_c2, F_c2_t, F_c2_r, F_c2_c, F_c2_s, F_c2_o, V_c3, E_c4, V_c4, O_c4, E_c5, V_c5, O_c5, g_c1, lt_c1_c2, lt_c2_c3, lt_c3_c4, lt_c4_c5, ht0, ht1, ht2, ht3, ht4, rf_r0, rw_r0, rb_r0, rf_r1, rw_r1, rb_r1, rf_r2, rw_r2, rb_r2, nv_r1, nv_r2⟩
      exact D0_41 c1 c2 c3 c4 c5 kc1 kc2 kc3 kc4 r2 t0 t1 t2 t3 t4 r0 r1 p0 p1 X2588 G rfl N2588 P2772 (fun T' locs' X' N' => F1_13 p0 p1 (0 : Int32) (1 : Int32) t0 t1 t2 t3 t4 c1 c2 X' G z20 z30 tv1 (F2_36 p0 p1 t0 t1 t2 t3 t4 c1 c2 X' G tv2 N' (by decide) (by decide)))
  · have P2808 : St71 Z T2588.heap n0 c1 c2 c3 c4 c5 kc1 kc2 kc3 kc4 r2 t0 t1 t2 t3 t4 r0 r1 := ⟨E_c1, V_c1, O_c1, E_c2, F_c2_t, F_c2_r, F_c2_c, F_c2_s, F_c2_o, V_c3, E_c4, V_c4, O_c4, E_c5, V_c5, O_c5, g_c1, lt_c1_c2, lt_c2_c3, lt_c3_c4, lt_c4_c5, ht0, ht1, ht2, ht3, ht4, rf_r0, rw_r0, rb_r0, rf_r1, rw_r1, rb_r1, rf_r2, rw_r2, rb_r2⟩
    exact D1_42 c1 c2 c3 c4 c5 kc1 kc2 kc3 kc4 r2 t0 t1 t2 t3 t4 r0 r1 p0 p1 X2588 G rfl N2588 P2808 (fun T' locs' X' N' => F1_13 p0 p1 (1 : Int32) (1 : Int32) t0 t1 t2 t3 t4 c1 c2 X' G z20 z30 tv1 (F2_37 p0 p1 t0 t1 t2 t3 t4 c1 c2 X' G N' (by decide) (by decide)))
  · have P2860 : St71 Z T2588.heap n0 c1 c2 c3 c4 c5 kc1 kc2 kc3 kc4 r2 t0 t1 t2 t3 t4 r0 r1 := ⟨E_c1, V_c1, O_c1, E_c2, F_c2_t, F_c2_r, F_c2_c, F_c2_s, F_c2_o, V_c3, E_c4, V_c4, O_c4, E_c5, V_c5, O_c5, g_c1, lt_c1_c2, lt_c2_c3, lt_c3_c4, lt_c4_c5, ht0, ht1, ht2, ht3, ht4, rf_r0, rw_r0, rb_r0, rf_r1, rw_r1, rb_r1, rf_r2, rw_r2, rb_r2⟩
    exact D2_43 c1 c2 c3 c4 c5 kc1 kc2 kc3 kc4 r2 t0 t1 t2 t3 t4 r0 r1 p0 p1 X2588 G rfl N2588 P2860 (fun T' locs' X' N' => F1_13 p0 p1 (2 : Int32) (1 : Int32) t0 t1 t2 t3 t4 c1 c2 X' G z20 z30 tv1 (F2_38 p0 p1 t0 t1 t2 t3 t4 c1 c2 X' G N' (by decide) (by decide)))
def St76 (Z : State) (h : Heap) (n0 : Nat) (c1 : Nat) (c2 : Nat) (c3 : Nat) (c4 : Nat) (c5 : Nat) (kc1 : ClassId) (kc2 : ClassId) (kc3 : ClassId) (kc4 : ClassId) (r0 : Value) (r1 : Value) (r2 : Value) (t0 : Int32) (t1 : Int32) (t2 : Int32) (t3 : Int32) (t4 : Int32) (mm : Int32) (p1 : Int64) : Prop :=
  xO Z h c1 ∧
  Arv Z h c1 kc1 (.object "java/lang/Object") 1 [.null] .null ∧
  Ovr Z kc1 "java/lang/Object" ∧
  Exa Z h c2 cV ∧
  fT Z h c2 (.ref c3) ∧
  fR Z h c2 (.ref c4) ∧
  fC Z h c2 (.ref c5) ∧
  fS Z h c2 (.int 3) ∧
  fO Z h c2 (.int 0) ∧
  aL Z h c3 kc2 4 [(.long 10), (.long 20), (.long 30), (.long 0)] ∧
  xR Z h c4 ∧
  aR Z h c4 kc3 4 [r0, r1, r2, .null] ∧
  oR Z kc3 ∧
  xC Z h c5 ∧
  aC Z h c5 kc4 4 [.null, .null, .null, .null] ∧
  oC Z kc4 ∧
  n0 ≤ c1 ∧
  c1 < c2 ∧
  c2 < c3 ∧
  c3 < c4 ∧
  c4 < c5 ∧
  (t0 = (0 : Int32) ∨ t0 = (1 : Int32)) ∧
  (t1 = (0 : Int32) ∨ t1 = (1 : Int32)) ∧
  (t2 = (0 : Int32) ∨ t2 = (1 : Int32)) ∧
  (t3 = (0 : Int32) ∨ t3 = (1 : Int32)) ∧
  (t4 = (0 : Int32) ∨ t4 = (1 : Int32)) ∧
  r0.isRef = true ∧
  (r0 = .null ∨ r0 = .ref c1) ∧
  ((t0 = (0 : Int32) ∧ r0 = .ref c1) ∨ (t0 = (1 : Int32) ∧ r0 = .null)) ∧
  r1.isRef = true ∧
  (r1 = .null ∨ r1 = .ref c1) ∧
  ((t1 = (0 : Int32) ∧ r1 = .ref c1) ∨ (t1 = (1 : Int32) ∧ r1 = .null)) ∧
  r2.isRef = true ∧
  (r2 = .null ∨ r2 = .ref c1) ∧
  ((t2 = (0 : Int32) ∧ r2 = .ref c1) ∨ (t2 = (1 : Int32) ∧ r2 = .null)) ∧
  (mm = (0 : Int32) ∨ mm = (1 : Int32) ∨ mm = (2 : Int32)) ∧
  r2 = .ref c1 ∧
  ¬ p1 < (10 : Int64) ∧
  ¬ p1 < (20 : Int64) ∧
  ¬ p1 < (30 : Int64) ∧
  t2 = (0 : Int32)
def St77 (Z : State) (h : Heap) (n0 : Nat) (c1 : Nat) (c2 : Nat) (c3 : Nat) (c4 : Nat) (c5 : Nat) (kc1 : ClassId) (kc2 : ClassId) (kc3 : ClassId) (kc4 : ClassId) (r2 : Value) (t0 : Int32) (t1 : Int32) (t2 : Int32) (t3 : Int32) (t4 : Int32) (r0 : Value) (r1 : Value) (mm : Int32) (p1 : Int64) : Prop :=
  xO Z h c1 ∧
  Arv Z h c1 kc1 (.object "java/lang/Object") 1 [.null] .null ∧
  Ovr Z kc1 "java/lang/Object" ∧
  Exa Z h c2 cV ∧
  fT Z h c2 (.ref c3) ∧
  fR Z h c2 (.ref c4) ∧
  fC Z h c2 (.ref c5) ∧
  fS Z h c2 (.int 1) ∧
  fO Z h c2 (.int 2) ∧
  aL Z h c3 kc2 4 [(.long 10), (.long 20), (.long 30), (.long 0)] ∧
  xR Z h c4 ∧
  aR Z h c4 kc3 4 [.null, .null, r2, .null] ∧
  oR Z kc3 ∧
  xC Z h c5 ∧
  aC Z h c5 kc4 4 [.null, .null, .null, .null] ∧
  oC Z kc4 ∧
  n0 ≤ c1 ∧
  c1 < c2 ∧
  c2 < c3 ∧
  c3 < c4 ∧
  c4 < c5 ∧
  (t0 = (0 : Int32) ∨ t0 = (1 : Int32)) ∧
  (t1 = (0 : Int32) ∨ t1 = (1 : Int32)) ∧
  (t2 = (0 : Int32) ∨ t2 = (1 : Int32)) ∧
  (t3 = (0 : Int32) ∨ t3 = (1 : Int32)) ∧
  (t4 = (0 : Int32) ∨ t4 = (1 : Int32)) ∧
  r0.isRef = true ∧
  (r0 = .null ∨ r0 = .ref c1) ∧
  ((t0 = (0 : Int32) ∧ r0 = .ref c1) ∨ (t0 = (1 : Int32) ∧ r0 = .null)) ∧
  r1.isRef = true ∧
  (r1 = .null ∨ r1 = .ref c1) ∧
  ((t1 = (0 : Int32) ∧ r1 = .ref c1) ∨ (t1 = (1 : Int32) ∧ r1 = .null)) ∧
  r2.isRef = true ∧
  (r2 = .null ∨ r2 = .ref c1) ∧
  ((t2 = (0 : Int32) ∧ r2 = .ref c1) ∨ (t2 = (1 : Int32) ∧ r2 = .null)) ∧
  (mm = (0 : Int32) ∨ mm = (1 : Int32) ∨ mm = (2 : Int32)) ∧
  r2 = .ref c1 ∧
  ¬ p1 < (10 : Int64) ∧
  ¬ p1 < (20 : Int64) ∧
  ¬ p1 < (30 : Int64) ∧
  t2 = (0 : Int32)
def Qm2973 (Z : State) (n0 : Nat) (c1 : Nat) (c2 : Nat) (c3 : Nat) (c4 : Nat) (c5 : Nat) (kc1 : ClassId) (kc2 : ClassId) (kc3 : ClassId) (kc4 : ClassId) (r0 : Value) (r1 : Value) (r2 : Value) (t0 : Int32) (t1 : Int32) (t2 : Int32) (t3 : Int32) (t4 : Int32) (mm : Int32) (p1 : Int64) (v : Option Value) (h : Heap) (L : List Loc) : Prop := v = some (.int 0) ∧ Fr n0 L ∧ St77 Z h n0 c1 c2 c3 c4 c5 kc1 kc2 kc3 kc4 r2 t0 t1 t2 t3 t4 r0 r1 mm p1
theorem m2973 (l : Launch) (Z : State) (a0 : Array Value) (hw : HW a0 Z) (ws : List Jvm.Cond) (h0 : Heap) (n0 : Nat) (c1 : Nat) (c2 : Nat) (c3 : Nat) (c4 : Nat) (c5 : Nat) (kc1 : ClassId) (kc2 : ClassId) (kc3 : ClassId) (kc4 : ClassId) (r0 : Value) (r1 : Value) (r2 : Value) (t0 : Int32) (t1 : Int32) (t2 : Int32) (t3 : Int32) (t4 : Int32) (mm : Int32) (p1 : Int64) (P : St76 Z h0 n0 c1 c2 c3 c4 c5 kc1 kc2 kc3 kc4 r0 r1 r2 t0 t1 t2 t3 t4 mm p1) :
    MC l Z y3 prog_95_method_5_code 5 (some .boolean) ws rm_2_0_0_28 #[(.ref c2), (.long p1)] h0 (Qm2973 Z n0 c1 c2 c3 c4 c5 kc1 kc2 kc3 kc4 r0 r1 r2 t0 t1 t2 t3 t4 mm p1) := by
  obtain ⟨E_c1, V_c1, O_c1, E_c2, F_c2_t, F_c2_r, F_c2_c, F_c2_s, F_c2_o, V_c3, E_c4, V_c4, O_c4, E_c5, V_c5, O_c5, g_c1, lt_c1_c2, lt_c2_c3, lt_c3_c4, lt_c4_c5, ht0, ht1, ht2, ht3, ht4, rf_r0, rw_r0, rb_r0, rf_r1, rw_r1, rb_r1, rf_r2, rw_r2, rb_r2, hm3, nv_r2, z10, z20, z30, tv2⟩ := id P
  refine own_met (plainFor_of_name pn3) fun p e s m below meth c s₁ X0 hx hZ Y hml hO hnm hlk hret e0 => f_cast (f' := mkF m 0 #[(rv c2), (.val (.long p1)), .second, .unset, .unset] []) (by first | (simp [entryFrame, mkF, argsToLocals, Value.category]; done) | rfl) ?_
  have N0 := Fr.nil n0
  refine aN X0 hx (hb Y d3_0) rfl rfl <| gF X0 hx hZ hO (w31 hw) Via.refl e0 F_c2_s (hb Y d3_1) fun T2924 X2924 e2924 => ?_
  refine fY X2924 hx (pc := 4) 9 (hb Y d3_4) <| iK X2924 hx (z := 0) (hb Y d3_9) <| sN X2924 hx (L' := #[(rv c2), (.val (.long p1)), .second, (iv 0), .unset]) (hb Y d3_10) rfl <| iN X2924 hx (hb Y d3_11) rfl <| iK X2924 hx (z := 1) (hb Y d3_12) <| iA X2924 hx (z := 1) (hb Y d3_13) <| aN X2924 hx (hb Y d3_14) rfl rfl <| gF X2924 hx hZ hO (w31 hw) Via.refl e2924 F_c2_s (hb Y d3_15) fun T2925 X2925 e2925 => ?_
  refine cN X2925 hx (hb Y d3_18) <| aN X2925 hx (hb Y d3_21) rfl rfl <| gF X2925 hx hZ hO (w16 hw) Via.refl e2925 F_c2_t (hb Y d3_22) fun T2926 X2926 e2926 => ?_
  refine aN X2926 hx (hb Y d3_25) rfl rfl <| iN X2926 hx (hb Y d3_26) rfl <| iK X2926 hx (z := 1) (hb Y d3_27) <| iA X2926 hx (z := 1) (hb Y d3_28) <| pV X2926 hx hZ hO (by rw [hml]; rfl) (w44 hw) (w45 hw) (w46 hw) (w7 hw) (w8 hw) (w47 hw) e2926 E_c2 (argsL := [(.int 1)]) (rest := [(.ref c3)]) (q1891 l Z a0 hw [] h0 n0 c2 c3 kc2 _ F_c2_o F_c2_t V_c3) (lenOf pd4 rfl) (hb Y d3_29) fun T2927 L2927 v2927 X2927 hQ2927 => ?_
  obtain ⟨rfl, N2927q, e2927⟩ := hQ2927
  have N2927 := Fr.app N0 N2927q
  refine f_lald X2927 hx hZ e2927 V_c3 (v := (.long 20)) rfl (hb Y d3_32) <| lN X2927 hx (hb Y d3_33) rfl <| lC X2927 hx (z := (lcmpW (20 : Int64) p1)) (hb Y d3_34) (q := rfl) <| fN X2927 hx (hb Y d3_35) (hc := (own_gtF z20)) <| f_iinc X2927 hx (L' := #[(rv c2), (.val (.long p1)), .second, (iv 1), .unset]) (hb Y d3_38) rfl rfl <| gT X2927 hx (pc := 41) 11 (hb Y d3_41) <| iN X2927 hx (hb Y d3_11) rfl <| iK X2927 hx (z := 1) (hb Y d3_12) <| iA X2927 hx (z := 2) (hb Y d3_13) <| aN X2927 hx (hb Y d3_14) rfl rfl <| gF X2927 hx hZ hO (w31 hw) Via.refl e2927 F_c2_s (hb Y d3_15) fun T2930 X2930 e2930 => ?_
  refine cN X2930 hx (hb Y d3_18) <| aN X2930 hx (hb Y d3_21) rfl rfl <| gF X2930 hx hZ hO (w16 hw) Via.refl e2930 F_c2_t (hb Y d3_22) fun T2931 X2931 e2931 => ?_
  refine aN X2931 hx (hb Y d3_25) rfl rfl <| iN X2931 hx (hb Y d3_26) rfl <| iK X2931 hx (z := 1) (hb Y d3_27) <| iA X2931 hx (z := 2) (hb Y d3_28) <| pV X2931 hx hZ hO (by rw [hml]; rfl) (w44 hw) (w45 hw) (w46 hw) (w7 hw) (w8 hw) (w47 hw) e2931 E_c2 (argsL := [(.int 2)]) (rest := [(.ref c3)]) (q443 l Z a0 hw [] h0 n0 c2 c3 kc2 _ F_c2_o F_c2_t V_c3) (lenOf pd4 rfl) (hb Y d3_29) fun T2932 L2932 v2932 X2932 hQ2932 => ?_
  obtain ⟨rfl, N2932q, e2932⟩ := hQ2932
  have N2932 := Fr.app N2927 N2932q
  refine f_lald X2932 hx hZ e2932 V_c3 (v := (.long 30)) rfl (hb Y d3_32) <| lN X2932 hx (hb Y d3_33) rfl <| lC X2932 hx (z := (lcmpW (30 : Int64) p1)) (hb Y d3_34) (q := rfl) <| fN X2932 hx (hb Y d3_35) (hc := (own_gtF z30)) <| f_iinc X2932 hx (L' := #[(rv c2), (.val (.long p1)), .second, (iv 2), .unset]) (hb Y d3_38) rfl rfl <| gT X2932 hx (pc := 41) 11 (hb Y d3_41) <| iN X2932 hx (hb Y d3_11) rfl <| iK X2932 hx (z := 1) (hb Y d3_12) <| iA X2932 hx (z := 3) (hb Y d3_13) <| aN X2932 hx (hb Y d3_14) rfl rfl <| gF X2932 hx hZ hO (w31 hw) Via.refl e2932 F_c2_s (hb Y d3_15) fun T2935 X2935 e2935 => ?_
  refine cY X2935 hx (pc := 18) 44 (hb Y d3_18) <| aN X2935 hx (hb Y d3_44) rfl rfl <| iN X2935 hx (hb Y d3_45) rfl <| pV X2935 hx hZ hO (by rw [hml]; rfl) (w44 hw) (w45 hw) (w46 hw) (w7 hw) (w8 hw) (w47 hw) e2935 E_c2 (argsL := [(.int 2)]) (rest := []) (q443 l Z a0 hw [] h0 n0 c2 c3 kc2 _ F_c2_o F_c2_t V_c3) (lenOf pd4 rfl) (hb Y d3_46) fun T2936 L2936 v2936 X2936 hQ2936 => ?_
  obtain ⟨rfl, N2936q, e2936⟩ := hQ2936
  have N2936 := Fr.app N2932 N2936q
  refine iS X2936 hx (L' := #[(rv c2), (.val (.long p1)), .second, (iv 2), (iv 2)]) (hb Y d3_49) rfl <| aN X2936 hx (hb Y d3_51) rfl rfl <| gF X2936 hx hZ hO (w16 hw) Via.refl e2936 F_c2_t (hb Y d3_52) fun T2939 X2939 e2939 => ?_
  refine iL X2939 hx (hb Y d3_55) rfl <| f_lald X2939 hx hZ e2939 V_c3 (v := (.long 30)) rfl (hb Y d3_57) <| lN X2939 hx (hb Y d3_58) rfl <| lC X2939 hx (z := (lcmpW (30 : Int64) p1)) (hb Y d3_59) (q := rfl) <| fN X2939 hx (hb Y d3_60) (hc := (own_gtF z30)) <| aN X2939 hx (hb Y d3_63) rfl rfl <| gF X2939 hx hZ hO (w20 hw) Via.refl e2939 F_c2_r (hb Y d3_64) fun T2940 X2940 e2940 => ?_
  refine iL X2940 hx (hb Y d3_67) rfl <| f_aald X2940 hx hZ e2940 V_c4 rfl (v := r2) rfl (hb Y d3_69) <| f_ifnonnullYv X2940 hx (pc := 70) 76 nv_r2 (hb Y d3_70) <| aN X2940 hx (hb Y d3_76) rfl rfl <| iN X2940 hx (hb Y d3_77) rfl ?_
  have P2971 : St49 Z h0 n0 c1 c2 c3 c4 c5 kc1 kc2 kc3 kc4 (10 : Int64) (20 : Int64) (30 : Int64) (0 : Int64) r0 r1 r2 .null := ⟨E_c1, V_c1, O_c1, E_c2, F_c2_t, F_c2_r, F_c2_c, F_c2_s, F_c2_o, V_c3, E_c4, V_c4, O_c4, E_c5, V_c5, O_c5, g_c1, lt_c1_c2, lt_c2_c3, lt_c3_c4, lt_c4_c5, rf_r0, rw_r0, rf_r1, rw_r1, rf_r2, rw_r2, rfl, (Or.inl rfl)⟩
  refine pV X2940 hx hZ hO (by rw [hml]; rfl) (w52 hw) (w53 hw) (w54 hw) (w7 hw) (w8 hw) (w55 hw) e2940 E_c2 (argsL := [(.int 2)]) (rest := []) (m2754 l Z a0 hw [] h0 n0 c1 c2 c3 c4 c5 kc1 kc2 kc3 kc4 (10 : Int64) (20 : Int64) (30 : Int64) (0 : Int64) r0 r1 r2 .null P2971) (lenOf pd6 rfl) (hb Y d3_78) fun T2941 L2941 v2941 X2941 hQ2941 => ?_
  obtain ⟨rfl, N2941q, P2941⟩ := hQ2941
  obtain ⟨E_c1, V_c1, O_c1, E_c2, F_c2_t, F_c2_r, F_c2_c, F_c2_s, F_c2_o, V_c3, E_c4, V_c4, O_c4, E_c5, V_c5, O_c5, g_c1, lt_c1_c2, lt_c2_c3, lt_c3_c4, lt_c4_c5, _, _, _, _, _, _, _, _⟩ := id P2941
  have N2941 := Fr.app N2936 N2941q
  refine aN X2941 hx (hb Y d3_81) rfl rfl <| gF X2941 hx hZ hO (w31 hw) Via.refl rfl F_c2_s (hb Y d3_82) fun T2972 X2972 e2972 => ?_
  refine fY X2972 hx (pc := 85) 92 (hb Y d3_85) <| iK X2972 hx (z := 0) (hb Y d3_92) ?_
  exact f_ret X2972 hx hlk (i := .ireturn) hret rfl (Or.inl ⟨rfl, Or.inr (Or.inl rfl), _, rfl⟩) (hb Y d3_93) (QQ := (Qm2973 Z n0 c1 c2 c3 c4 c5 kc1 kc2 kc3 kc4 r0 r1 r2 t0 t1 t2 t3 t4 mm p1)) (by rw [e2972]; exact ⟨rfl, N2941, E_c1, V_c1, O_c1, E_c2, F_c2_t, F_c2_r, F_c2_c, F_c2_s, F_c2_o, V_c3, E_c4, V_c4, O_c4, E_c5, V_c5, O_c5, g_c1, lt_c1_c2, lt_c2_c3, lt_c3_c4, lt_c4_c5, ht0, ht1, ht2, ht3, ht4, rf_r0, rw_r0, rb_r0, rf_r1, rw_r1, rb_r1, rf_r2, rw_r2, rb_r2, hm3, nv_r2, z10, z20, z30, tv2⟩) (by decide) (by decide)
def St78 (Z : State) (h : Heap) (n0 : Nat) (c1 : Nat) (c2 : Nat) (c3 : Nat) (c4 : Nat) (c5 : Nat) (kc1 : ClassId) (kc2 : ClassId) (kc3 : ClassId) (kc4 : ClassId) (r2 : Value) (t0 : Int32) (t1 : Int32) (t2 : Int32) (t3 : Int32) (t4 : Int32) (r0 : Value) (r1 : Value) : Prop :=
  xO Z h c1 ∧
  Arv Z h c1 kc1 (.object "java/lang/Object") 1 [.null] .null ∧
  Ovr Z kc1 "java/lang/Object" ∧
  Exa Z h c2 cV ∧
  fT Z h c2 (.ref c3) ∧
  fR Z h c2 (.ref c4) ∧
  fC Z h c2 (.ref c5) ∧
  fS Z h c2 (.int 1) ∧
  fO Z h c2 (.int 2) ∧
  aL Z h c3 kc2 4 [(.long 10), (.long 20), (.long 30), (.long 0)] ∧
  xR Z h c4 ∧
  aR Z h c4 kc3 4 [.null, .null, r2, .null] ∧
  oR Z kc3 ∧
  xC Z h c5 ∧
  aC Z h c5 kc4 4 [.null, .null, .null, .null] ∧
  oC Z kc4 ∧
  n0 ≤ c1 ∧
  c1 < c2 ∧
  c2 < c3 ∧
  c3 < c4 ∧
  c4 < c5 ∧
  (t0 = (0 : Int32) ∨ t0 = (1 : Int32)) ∧
  (t1 = (0 : Int32) ∨ t1 = (1 : Int32)) ∧
  (t2 = (0 : Int32) ∨ t2 = (1 : Int32)) ∧
  (t3 = (0 : Int32) ∨ t3 = (1 : Int32)) ∧
  (t4 = (0 : Int32) ∨ t4 = (1 : Int32)) ∧
  r0.isRef = true ∧
  (r0 = .null ∨ r0 = .ref c1) ∧
  ((t0 = (0 : Int32) ∧ r0 = .ref c1) ∨ (t0 = (1 : Int32) ∧ r0 = .null)) ∧
  r1.isRef = true ∧
  (r1 = .null ∨ r1 = .ref c1) ∧
  ((t1 = (0 : Int32) ∧ r1 = .ref c1) ∨ (t1 = (1 : Int32) ∧ r1 = .null)) ∧
  r2.isRef = true ∧
  (r2 = .null ∨ r2 = .ref c1) ∧
  ((t2 = (0 : Int32) ∧ r2 = .ref c1) ∨ (t2 = (1 : Int32) ∧ r2 = .null)) ∧
  r2 = .ref c1
theorem D0_45  (c1 : Nat) (c2 : Nat) (c3 : Nat) (c4 : Nat) (c5 : Nat) (kc1 : ClassId) (kc2 : ClassId) (kc3 : ClassId) (kc4 : ClassId) (r2 : Value) (t0 : Int32) (t1 : Int32) (t2 : Int32) (t3 : Int32) (t4 : Int32) (r0 : Value) (r1 : Value) (p0 : Int32) (p1 : Int64) (X0 : Stand p l e room_1 s m args below meth c T0 locs 8 25) (G : SG p s m meth c Z a0) (e0 : T0.heap = h0) (N0 : Fr n0 locs) (P : St78 Z h0 n0 c1 c2 c3 c4 c5 kc1 kc2 kc3 kc4 r2 t0 t1 t2 t3 t4 r0 r1) (hk0 : ∀ (T' : State) (locs' : List Loc), Stand p l e room_1 s m args below meth c T' locs' 8 25 → Fr n0 locs' → EndsSo p e below (LQ s n0) T' (mkF m 209 (FL p0 p1 3 0 t0 t1 t2 t3 t4 c1 c2 (iv 0) .unset .unset .unset .unset .unset) [])) :
    EndsSo p e below (LQ s n0) T0 (mkF m 150 (FL p0 p1 3 0 t0 t1 t2 t3 t4 c1 c2 .unset .unset .unset .unset .unset .unset) []) := by
  obtain ⟨hx, hZ, hw, Y, hml, hO, hlk, hret⟩ := id G
  obtain ⟨E_c1, V_c1, O_c1, E_c2, F_c2_t, F_c2_r, F_c2_c, F_c2_s, F_c2_o, V_c3, E_c4, V_c4, O_c4, E_c5, V_c5, O_c5, g_c1, lt_c1_c2, lt_c2_c3, lt_c3_c4, lt_c4_c5, ht0, ht1, ht2, ht3, ht4, rf_r0, rw_r0, rb_r0, rf_r1, rw_r1, rb_r1, rf_r2, rw_r2, rb_r2, nv_r2⟩ := id P
  refine iL X0 hx (hb Y at_150) rfl <| iK X0 hx (z := 1) (hb Y at_152) <| cY X0 hx (pc := 153) 176 (hb Y at_153) <| iL X0 hx (hb Y at_176) rfl <| iK X0 hx (z := 2) (hb Y at_178) <| cY X0 hx (pc := 179) 202 (hb Y at_179) <| aA X0 hx (hb Y at_202) rfl rfl <| vV X0 hx hZ hO (by rw [hml]; rfl) (w33 hw) (w34 hw) (w36 hw) (w35 hw) (w8 hw) (w37 hw) e0 E_c2 (argsL := []) (rest := []) (q2764 l Z a0 hw [] h0 n0 c2 c4 kc3 r2 c1 F_c2_s F_c2_r F_c2_o V_c4 nv_r2) (lenOf pd3 rfl) (hb Y at_204) fun T2975 L2975 v2975 X2975 hQ2975 => ?_
  obtain ⟨rfl, N2975q, e2975⟩ := hQ2975
  have N2975 := Fr.app N0 N2975q
  refine iS X2975 hx (L' := (FL p0 p1 3 0 t0 t1 t2 t3 t4 c1 c2 (iv 0) .unset .unset .unset .unset .unset)) (hb Y at_207) rfl ?_
  exact hk0 _ _ X2975 N2975
theorem F1_14  {cells slots : Nat} (p0 : Int32) (p1 : Int64) (mm : Int32) (gg : Int32) (t0 : Int32) (t1 : Int32) (t2 : Int32) (t3 : Int32) (t4 : Int32) (c1 : Nat) (c2 : Nat) (X0 : Stand p l e room_1 s m args below meth c T0 locs cells slots) (G : SG p s m meth c Z a0) (z20 : ¬ p1 < (20 : Int64)) (z30 : ¬ p1 < (30 : Int64)) (tv2 : t2 = (0 : Int32)) (h : EndsSo p e below (LQ s n0) T0 (mkF m 303 (FL p0 p1 3 mm t0 t1 t2 t3 t4 c1 c2 (iv gg) (iv 2) (iv t2) (.val (.long 30)) .second .unset) [])) :
    EndsSo p e below (LQ s n0) T0 (mkF m 209 (FL p0 p1 3 mm t0 t1 t2 t3 t4 c1 c2 (iv gg) .unset .unset .unset .unset .unset) []) := by
  obtain ⟨hx, hZ, hw, Y, hml, hO, hlk, hret⟩ := id G
  refine iK X0 hx (z := 0) (hb Y at_209) <| iS X0 hx (L' := (FL p0 p1 3 mm t0 t1 t2 t3 t4 c1 c2 (iv gg) (iv 0) .unset .unset .unset .unset)) (hb Y at_210) rfl <| iN X0 hx (hb Y at_212) rfl <| iK X0 hx (z := 2) (hb Y at_213) <| cN X0 hx (hb Y at_214) <| lN X0 hx (hb Y at_217) rfl <| f_ldc2 X0 hx hZ hO (w51 hw) (hb Y at_218) <| lC X0 hx (z := (lcmpW p1 (20 : Int64))) (hb Y at_221) (q := rfl) <| fN X0 hx (hb Y at_222) (hc := (own_ltF z20)) <| iK X0 hx (z := 1) (hb Y at_225) <| iS X0 hx (L' := (FL p0 p1 3 mm t0 t1 t2 t3 t4 c1 c2 (iv gg) (iv 1) .unset .unset .unset .unset)) (hb Y at_226) rfl <| iN X0 hx (hb Y at_228) rfl <| iK X0 hx (z := 3) (hb Y at_229) <| cN X0 hx (hb Y at_230) <| lN X0 hx (hb Y at_233) rfl <| f_ldc2 X0 hx hZ hO (w57 hw) (hb Y at_234) <| lC X0 hx (z := (lcmpW p1 (30 : Int64))) (hb Y at_237) (q := rfl) <| fN X0 hx (hb Y at_238) (hc := (own_ltF z30)) <| iK X0 hx (z := 2) (hb Y at_241) <| iS X0 hx (L' := (FL p0 p1 3 mm t0 t1 t2 t3 t4 c1 c2 (iv gg) (iv 2) .unset .unset .unset .unset)) (hb Y at_242) rfl <| iN X0 hx (hb Y at_244) rfl <| iK X0 hx (z := 1) (hb Y at_245) <| cN X0 hx (hb Y at_246) <| iL X0 hx (hb Y at_249) rfl <| fY X0 hx (pc := 251) 259 (hb Y at_251) <| iL X0 hx (hb Y at_259) rfl <| iK X0 hx (z := 1) (hb Y at_261) <| cY X0 hx (pc := 262) 270 (hb Y at_262) <| iL X0 hx (hb Y at_270) rfl <| iS X0 hx (L' := (FL p0 p1 3 mm t0 t1 t2 t3 t4 c1 c2 (iv gg) (iv 2) (iv t2) .unset .unset .unset)) (hb Y at_272) rfl <| f_ldc2 X0 hx hZ hO (w38 hw) (hb Y at_274) <| iL X0 hx (hb Y at_277) rfl <| iK X0 hx (z := 1) (hb Y at_279) <| iA X0 hx (z := 3) (hb Y at_280) <| f_i2l X0 hx (z := 3) (hb Y at_281) <| f_lmul X0 hx (z := 30) (hb Y at_282) <| f_lstore X0 hx (L' := (FL p0 p1 3 mm t0 t1 t2 t3 t4 c1 c2 (iv gg) (iv 2) (iv t2) (.val (.long 30)) .second .unset)) (hb Y at_283) rfl <| f_lload X0 hx (hb Y at_285) rfl <| lN X0 hx (hb Y at_287) rfl <| lC X0 hx (z := (lcmpW (30 : Int64) p1)) (hb Y at_288) (q := rfl) <| fN X0 hx (hb Y at_289) (hc := (own_gtF z30)) <| iL X0 hx (hb Y at_292) rfl <| fY X0 hx (pc := 294) 303 (hb Y at_294) (hc := (own_eqT tv2)) ?_
  exact h
theorem F2_39  {cells slots : Nat} (p0 : Int32) (p1 : Int64) (t0 : Int32) (t1 : Int32) (t2 : Int32) (t3 : Int32) (t4 : Int32) (c1 : Nat) (c2 : Nat) (X0 : Stand p l e room_1 s m args below meth c T0 locs cells slots) (G : SG p s m meth c Z a0) (tv2 : t2 = (0 : Int32)) (N0 : Fr n0 locs) (hK : cells ≤ room_1.cells) (hN : slots ≤ room_1.slots) :
    EndsSo p e below (LQ s n0) T0 (mkF m 303 (FL p0 p1 3 0 t0 t1 t2 t3 t4 c1 c2 (iv 0) (iv 2) (iv t2) (.val (.long 30)) .second .unset) []) := by
  obtain ⟨hx, hZ, hw, Y, hml, hO, hlk, hret⟩ := id G
  refine iN X0 hx (hb Y at_303) rfl <| iL X0 hx (hb Y at_304) rfl <| iB X0 hx (z := 1) (hb Y at_306) <| iS X0 hx (L' := (FL p0 p1 3 0 t0 t1 t2 t3 t4 c1 c2 (iv 0) (iv 2) (iv 1) (.val (.long 30)) .second .unset)) (hb Y at_307) rfl <| iL X0 hx (hb Y at_309) rfl <| iL X0 hx (hb Y at_311) rfl <| iA X0 hx (z := 1) (hb Y at_313) <| iS X0 hx (L' := (FL p0 p1 3 0 t0 t1 t2 t3 t4 c1 c2 (iv 0) (iv 2) (iv 1) (iv 1) .unset .unset)) (hb Y at_314) rfl <| iL X0 hx (hb Y at_316) rfl <| iK X0 hx (z := 1) (hb Y at_318) <| cN X0 hx (hb Y at_319) <| iL X0 hx (hb Y at_322) rfl <| fY X0 hx (pc := 324) 332 (hb Y at_324) <| iL X0 hx (hb Y at_332) rfl <| iK X0 hx (z := 1) (hb Y at_334) <| cY X0 hx (pc := 335) 343 (hb Y at_335) <| iL X0 hx (hb Y at_343) rfl <| gT X0 hx (pc := 345) 350 (hb Y at_345) <| iS X0 hx (L' := (FL p0 p1 3 0 t0 t1 t2 t3 t4 c1 c2 (iv 0) (iv 2) (iv 1) (iv 1) (iv t2) .unset)) (hb Y at_350) rfl <| iL X0 hx (hb Y at_352) rfl <| iK X0 hx (z := 1) (hb Y at_354) <| cN X0 hx (hb Y at_355) <| iL X0 hx (hb Y at_358) rfl <| iK X0 hx (z := 1) (hb Y at_360) <| cN X0 hx (hb Y at_361) <| iL X0 hx (hb Y at_364) rfl <| fY X0 hx (pc := 366) 373 (hb Y at_366) (hc := (own_eqT tv2)) <| iK X0 hx (z := 0) (hb Y at_373) <| iS X0 hx (L' := (FL p0 p1 3 0 t0 t1 t2 t3 t4 c1 c2 (iv 0) (iv 2) (iv 1) (iv 1) (iv t2) (iv 0))) (hb Y at_374) rfl <| iL X0 hx (hb Y at_376) rfl <| iL X0 hx (hb Y at_378) rfl <| cN X0 hx (hb Y at_380) <| iK X0 hx (z := 1) (hb Y at_383) <| gT X0 hx (pc := 384) 388 (hb Y at_384) ?_
  exact f_ret X0 hx hlk (i := .ireturn) hret rfl (Or.inl ⟨rfl, Or.inr (Or.inl rfl), _, rfl⟩) (hb Y at_388) (QQ := (QL n0)) ⟨rfl, N0⟩ hK hN
theorem F2_40  {cells slots : Nat} (p0 : Int32) (p1 : Int64) (t0 : Int32) (t1 : Int32) (t2 : Int32) (t3 : Int32) (t4 : Int32) (c1 : Nat) (c2 : Nat) (X0 : Stand p l e room_1 s m args below meth c T0 locs cells slots) (G : SG p s m meth c Z a0) (N0 : Fr n0 locs) (hK : cells ≤ room_1.cells) (hN : slots ≤ room_1.slots) :
    EndsSo p e below (LQ s n0) T0 (mkF m 303 (FL p0 p1 3 1 t0 t1 t2 t3 t4 c1 c2 (iv 1) (iv 2) (iv t2) (.val (.long 30)) .second .unset) []) := by
  obtain ⟨hx, hZ, hw, Y, hml, hO, hlk, hret⟩ := id G
  refine iN X0 hx (hb Y at_303) rfl <| iL X0 hx (hb Y at_304) rfl <| iB X0 hx (z := 1) (hb Y at_306) <| iS X0 hx (L' := (FL p0 p1 3 1 t0 t1 t2 t3 t4 c1 c2 (iv 1) (iv 2) (iv 1) (.val (.long 30)) .second .unset)) (hb Y at_307) rfl <| iL X0 hx (hb Y at_309) rfl <| iL X0 hx (hb Y at_311) rfl <| iA X0 hx (z := 2) (hb Y at_313) <| iS X0 hx (L' := (FL p0 p1 3 1 t0 t1 t2 t3 t4 c1 c2 (iv 1) (iv 2) (iv 1) (iv 2) .unset .unset)) (hb Y at_314) rfl <| iL X0 hx (hb Y at_316) rfl <| iK X0 hx (z := 1) (hb Y at_318) <| cN X0 hx (hb Y at_319) <| iL X0 hx (hb Y at_322) rfl <| fY X0 hx (pc := 324) 332 (hb Y at_324) <| iL X0 hx (hb Y at_332) rfl <| iK X0 hx (z := 1) (hb Y at_334) <| cY X0 hx (pc := 335) 343 (hb Y at_335) <| iL X0 hx (hb Y at_343) rfl <| gT X0 hx (pc := 345) 350 (hb Y at_345) <| iS X0 hx (L' := (FL p0 p1 3 1 t0 t1 t2 t3 t4 c1 c2 (iv 1) (iv 2) (iv 1) (iv 2) (iv t2) .unset)) (hb Y at_350) rfl <| iL X0 hx (hb Y at_352) rfl <| iK X0 hx (z := 1) (hb Y at_354) <| cY X0 hx (pc := 355) 369 (hb Y at_355) <| iK X0 hx (z := 1) (hb Y at_369) <| gT X0 hx (pc := 370) 374 (hb Y at_370) <| iS X0 hx (L' := (FL p0 p1 3 1 t0 t1 t2 t3 t4 c1 c2 (iv 1) (iv 2) (iv 1) (iv 2) (iv t2) (iv 1))) (hb Y at_374) rfl <| iL X0 hx (hb Y at_376) rfl <| iL X0 hx (hb Y at_378) rfl <| cN X0 hx (hb Y at_380) <| iK X0 hx (z := 1) (hb Y at_383) <| gT X0 hx (pc := 384) 388 (hb Y at_384) ?_
  exact f_ret X0 hx hlk (i := .ireturn) hret rfl (Or.inl ⟨rfl, Or.inr (Or.inl rfl), _, rfl⟩) (hb Y at_388) (QQ := (QL n0)) ⟨rfl, N0⟩ hK hN
theorem F2_41  {cells slots : Nat} (p0 : Int32) (p1 : Int64) (t0 : Int32) (t1 : Int32) (t2 : Int32) (t3 : Int32) (t4 : Int32) (c1 : Nat) (c2 : Nat) (X0 : Stand p l e room_1 s m args below meth c T0 locs cells slots) (G : SG p s m meth c Z a0) (N0 : Fr n0 locs) (hK : cells ≤ room_1.cells) (hN : slots ≤ room_1.slots) :
    EndsSo p e below (LQ s n0) T0 (mkF m 303 (FL p0 p1 3 2 t0 t1 t2 t3 t4 c1 c2 (iv 1) (iv 2) (iv t2) (.val (.long 30)) .second .unset) []) := by
  obtain ⟨hx, hZ, hw, Y, hml, hO, hlk, hret⟩ := id G
  refine iN X0 hx (hb Y at_303) rfl <| iL X0 hx (hb Y at_304) rfl <| iB X0 hx (z := 1) (hb Y at_306) <| iS X0 hx (L' := (FL p0 p1 3 2 t0 t1 t2 t3 t4 c1 c2 (iv 1) (iv 2) (iv 1) (.val (.long 30)) .second .unset)) (hb Y at_307) rfl <| iL X0 hx (hb Y at_309) rfl <| iL X0 hx (hb Y at_311) rfl <| iA X0 hx (z := 3) (hb Y at_313) <| iS X0 hx (L' := (FL p0 p1 3 2 t0 t1 t2 t3 t4 c1 c2 (iv 1) (iv 2) (iv 1) (iv 3) .unset .unset)) (hb Y at_314) rfl <| iL X0 hx (hb Y at_316) rfl <| iK X0 hx (z := 1) (hb Y at_318) <| cN X0 hx (hb Y at_319) <| iL X0 hx (hb Y at_322) rfl <| fY X0 hx (pc := 324) 332 (hb Y at_324) <| iL X0 hx (hb Y at_332) rfl <| iK X0 hx (z := 1) (hb Y at_334) <| cY X0 hx (pc := 335) 343 (hb Y at_335) <| iL X0 hx (hb Y at_343) rfl <| gT X0 hx (pc := 345) 350 (hb Y at_345) <| iS X0 hx (L' := (FL p0 p1 3 2 t0 t1 t2 t3 t4 c1 c2 (iv 1) (iv 2) (iv 1) (iv 3) (iv t2) .unset)) (hb Y at_350) rfl <| iL X0 hx (hb Y at_352) rfl <| iK X0 hx (z := 1) (hb Y at_354) <| cY X0 hx (pc := 355) 369 (hb Y at_355) <| iK X0 hx (z := 1) (hb Y at_369) <| gT X0 hx (pc := 370) 374 (hb Y at_370) <| iS X0 hx (L' := (FL p0 p1 3 2 t0 t1 t2 t3 t4 c1 c2 (iv 1) (iv 2) (iv 1) (iv 3) (iv t2) (iv 1))) (hb Y at_374) rfl <| iL X0 hx (hb Y at_376) rfl <| iL X0 hx (hb Y at_378) rfl <| cN X0 hx (hb Y at_380) <| iK X0 hx (z := 1) (hb Y at_383) <| gT X0 hx (pc := 384) 388 (hb Y at_384) ?_
  exact f_ret X0 hx hlk (i := .ireturn) hret rfl (Or.inl ⟨rfl, Or.inr (Or.inl rfl), _, rfl⟩) (hb Y at_388) (QQ := (QL n0)) ⟨rfl, N0⟩ hK hN
theorem C3_45  (c1 : Nat) (c2 : Nat) (c3 : Nat) (c4 : Nat) (c5 : Nat) (kc1 : ClassId) (kc2 : ClassId) (kc3 : ClassId) (kc4 : ClassId) (r0 : Value) (r1 : Value) (r2 : Value) (t0 : Int32) (t1 : Int32) (t2 : Int32) (t3 : Int32) (t4 : Int32) (mm : Int32) (p1 : Int64) (p0 : Int32) (X0 : Stand p l e room_1 s m args below meth c T0 locs 8 25) (G : SG p s m meth c Z a0) (e0 : T0.heap = h0) (N0 : Fr n0 locs) (P : St76 Z h0 n0 c1 c2 c3 c4 c5 kc1 kc2 kc3 kc4 r0 r1 r2 t0 t1 t2 t3 t4 mm p1) :
    EndsSo p e below (LQ s n0) T0 (mkF m 143 (FL p0 p1 3 mm t0 t1 t2 t3 t4 c1 c2 .unset .unset .unset .unset .unset .unset) []) := by
  obtain ⟨hx, hZ, hw, Y, hml, hO, hlk, hret⟩ := id G
  obtain ⟨E_c1, V_c1, O_c1, E_c2, F_c2_t, F_c2_r, F_c2_c, F_c2_s, F_c2_o, V_c3, E_c4, V_c4, O_c4, E_c5, V_c5, O_c5, g_c1, lt_c1_c2, lt_c2_c3, lt_c3_c4, lt_c4_c5, ht0, ht1, ht2, ht3, ht4, rf_r0, rw_r0, rb_r0, rf_r1, rw_r1, rb_r1, rf_r2, rw_r2, rb_r2, hm3, nv_r2, z10, z20, z30, tv2⟩ := id P
  refine aA X0 hx (hb Y at_143) rfl rfl <| lN X0 hx (hb Y at_145) rfl ?_
  have P2974 : St76 Z h0 n0 c1 c2 c3 c4 c5 kc1 kc2 kc3 kc4 r0 r1 r2 t0 t1 t2 t3 t4 mm p1 := ⟨E_c1, V_c1, O_c1, E_c2, F_c2_t, F_c2_r, F_c2_c, F_c2_s, F_c2_o, V_c3, E_c4, V_c4, O_c4, E_c5, V_c5, O_c5, g_c1, lt_c1_c2, lt_c2_c3, lt_c3_c4, lt_c4_c5, ht0, ht1, ht2, ht3, ht4, rf_r0, rw_r0, rb_r0, rf_r1, rw_r1, rb_r1, rf_r2, rw_r2, rb_r2, hm3, nv_r2, z10, z20, z30, tv2⟩
  refine vV X0 hx hZ hO (by rw [hml]; rfl) (w26 hw) (w27 hw) (w29 hw) (w28 hw) (w8 hw) (w30 hw) e0 E_c2 (argsL := [(.long p1)]) (rest := []) (m2973 l Z a0 hw [] h0 n0 c1 c2 c3 c4 c5 kc1 kc2 kc3 kc4 r0 r1 r2 t0 t1 t2 t3 t4 mm p1 P2974) (lenOf pd2 rfl) (hb Y at_146) fun T2862 L2862 v2862 X2862 hQ2862 => ?_
  obtain ⟨rfl, N2862q, P2862⟩ := hQ2862
  obtain ⟨E_c1, V_c1, O_c1, E_c2, F_c2_t, F_c2_r, F_c2_c, F_c2_s, F_c2_o, V_c3, E_c4, V_c4, O_c4, E_c5, V_c5, O_c5, g_c1, lt_c1_c2, lt_c2_c3, lt_c3_c4, lt_c4_c5, ht0, ht1, ht2, ht3, ht4, rf_r0, rw_r0, rb_r0, rf_r1, rw_r1, rb_r1, rf_r2, rw_r2, rb_r2, hm3, nv_r2, z10, z20, z30, tv2⟩ := id P2862
  have N2862 := Fr.app N0 N2862q
  refine f_pop X2862 hx (hb Y at_149) rfl ?_
  rcases id hm3 with rfl | rfl | rfl
  · have P2980 : St78 Z T2862.heap n0 c1 c2 c3 c4 c5 kc1 kc2 kc3 kc4 r2 t0 t1 t2 t3 t4 r0 r1 := ⟨E_c1, V_c1, O_c1, E_c2, F_c2_t, F_c2_r, F_c2_c, F_c2_s, F_c2_o, V_c3, E_c4, V_c4, O_c4, E_c5, V_c5, O_c5, g_c1, lt_c1_c2, lt_c2_c3, lt_c3_c4, lt_c4_c5, ht0, ht1, ht2, ht3, ht4, rf_r0, rw_r0, rb_r0, rf_r1, rw_r1, rb_r1, rf_r2, rw_r2, rb_r2, nv_r2⟩
    exact D0_45 c1 c2 c3 c4 c5 kc1 kc2 kc3 kc4 r2 t0 t1 t2 t3 t4 r0 r1 p0 p1 X2862 G rfl N2862 P2980 (fun T' locs' X' N' => F1_14 p0 p1 (0 : Int32) (0 : Int32) t0 t1 t2 t3 t4 c1 c2 X' G z20 z30 tv2 (F2_39 p0 p1 t0 t1 t2 t3 t4 c1 c2 X' G tv2 N' (by decide) (by decide)))
  · have P2981 : St71 Z T2862.heap n0 c1 c2 c3 c4 c5 kc1 kc2 kc3 kc4 r2 t0 t1 t2 t3 t4 r0 r1 := ⟨E_c1, V_c1, O_c1, E_c2, F_c2_t, F_c2_r, F_c2_c, F_c2_s, F_c2_o, V_c3, E_c4, V_c4, O_c4, E_c5, V_c5, O_c5, g_c1, lt_c1_c2, lt_c2_c3, lt_c3_c4, lt_c4_c5, ht0, ht1, ht2, ht3, ht4, rf_r0, rw_r0, rb_r0, rf_r1, rw_r1, rb_r1, rf_r2, rw_r2, rb_r2⟩
    exact D1_42 c1 c2 c3 c4 c5 kc1 kc2 kc3 kc4 r2 t0 t1 t2 t3 t4 r0 r1 p0 p1 X2862 G rfl N2862 P2981 (fun T' locs' X' N' => F1_14 p0 p1 (1 : Int32) (1 : Int32) t0 t1 t2 t3 t4 c1 c2 X' G z20 z30 tv2 (F2_40 p0 p1 t0 t1 t2 t3 t4 c1 c2 X' G N' (by decide) (by decide)))
  · have P2982 : St71 Z T2862.heap n0 c1 c2 c3 c4 c5 kc1 kc2 kc3 kc4 r2 t0 t1 t2 t3 t4 r0 r1 := ⟨E_c1, V_c1, O_c1, E_c2, F_c2_t, F_c2_r, F_c2_c, F_c2_s, F_c2_o, V_c3, E_c4, V_c4, O_c4, E_c5, V_c5, O_c5, g_c1, lt_c1_c2, lt_c2_c3, lt_c3_c4, lt_c4_c5, ht0, ht1, ht2, ht3, ht4, rf_r0, rw_r0, rb_r0, rf_r1, rw_r1, rb_r1, rf_r2, rw_r2, rb_r2⟩
    exact D2_43 c1 c2 c3 c4 c5 kc1 kc2 kc3 kc4 r2 t0 t1 t2 t3 t4 r0 r1 p0 p1 X2862 G rfl N2862 P2982 (fun T' locs' X' N' => F1_14 p0 p1 (2 : Int32) (1 : Int32) t0 t1 t2 t3 t4 c1 c2 X' G z20 z30 tv2 (F2_41 p0 p1 t0 t1 t2 t3 t4 c1 c2 X' G N' (by decide) (by decide)))
def St79 (Z : State) (h : Heap) (n0 : Nat) (c1 : Nat) (c2 : Nat) (c3 : Nat) (c4 : Nat) (c5 : Nat) (kc1 : ClassId) (kc2 : ClassId) (kc3 : ClassId) (kc4 : ClassId) (r0 : Value) (r1 : Value) (r2 : Value) (t0 : Int32) (t1 : Int32) (t2 : Int32) (t3 : Int32) (t4 : Int32) (mm : Int32) (p1 : Int64) : Prop :=
  xO Z h c1 ∧
  Arv Z h c1 kc1 (.object "java/lang/Object") 1 [.null] .null ∧
  Ovr Z kc1 "java/lang/Object" ∧
  Exa Z h c2 cV ∧
  fT Z h c2 (.ref c3) ∧
  fR Z h c2 (.ref c4) ∧
  fC Z h c2 (.ref c5) ∧
  fS Z h c2 (.int 3) ∧
  fO Z h c2 (.int 0) ∧
  aL Z h c3 kc2 4 [(.long 10), (.long 20), (.long 30), (.long 0)] ∧
  xR Z h c4 ∧
  aR Z h c4 kc3 4 [r0, r1, r2, .null] ∧
  oR Z kc3 ∧
  xC Z h c5 ∧
  aC Z h c5 kc4 4 [.null, .null, .null, .null] ∧
  oC Z kc4 ∧
  n0 ≤ c1 ∧
  c1 < c2 ∧
  c2 < c3 ∧
  c3 < c4 ∧
  c4 < c5 ∧
  (t0 = (0 : Int32) ∨ t0 = (1 : Int32)) ∧
  (t1 = (0 : Int32) ∨ t1 = (1 : Int32)) ∧
  (t2 = (0 : Int32) ∨ t2 = (1 : Int32)) ∧
  (t3 = (0 : Int32) ∨ t3 = (1 : Int32)) ∧
  (t4 = (0 : Int32) ∨ t4 = (1 : Int32)) ∧
  r0.isRef = true ∧
  (r0 = .null ∨ r0 = .ref c1) ∧
  ((t0 = (0 : Int32) ∧ r0 = .ref c1) ∨ (t0 = (1 : Int32) ∧ r0 = .null)) ∧
  r1.isRef = true ∧
  (r1 = .null ∨ r1 = .ref c1) ∧
  ((t1 = (0 : Int32) ∧ r1 = .ref c1) ∨ (t1 = (1 : Int32) ∧ r1 = .null)) ∧
  r2.isRef = true ∧
  (r2 = .null ∨ r2 = .ref c1) ∧
  ((t2 = (0 : Int32) ∧ r2 = .ref c1) ∨ (t2 = (1 : Int32) ∧ r2 = .null)) ∧
  (mm = (0 : Int32) ∨ mm = (1 : Int32) ∨ mm = (2 : Int32)) ∧
  r2 = .null ∧
  ¬ p1 < (10 : Int64) ∧
  ¬ p1 < (20 : Int64) ∧
  ¬ p1 < (30 : Int64) ∧
  t2 = (1 : Int32)
theorem q3297 (l : Launch) (Z : State) (a0 : Array Value) (hw : HW a0 Z) (ws : List Jvm.Cond) (h0 : Heap) (n0 : Nat) :
    MC l Z y10 jdk_33_method_47_code 2 (some .int) ws rm_0_0_0_0 #[(.int 0)] h0 (QV (.int 32) h0 n0) := by
  refine own_met (plainFor_of_name pn10) fun p e s m below meth c s₁ X0 hx hZ Y hml hO hnm hlk hret e0 => f_cast (f' := mkF m 0 #[(iv 0), .unset] []) (by first | (simp [entryFrame, mkF, argsToLocals, Value.category]; done) | rfl) ?_
  have N0 := Fr.nil n0
  refine iN X0 hx (hb Y d10_0) rfl <| fN X0 hx (hb Y d10_1) <| iN X0 hx (hb Y d10_4) rfl <| fN X0 hx (hb Y d10_5) <| f_bipush X0 hx (z := 32) (hb Y d10_8) <| gT X0 hx (pc := 10) 14 (hb Y d10_10) ?_
  exact f_ret X0 hx hlk (i := .ireturn) hret rfl (Or.inl ⟨rfl, Or.inl rfl, _, rfl⟩) (hb Y d10_14) (QQ := (QV (.int 32) h0 n0)) ⟨rfl, N0, e0⟩ (by decide) (by decide)
theorem q3298 (l : Launch) (Z : State) (a0 : Array Value) (hw : HW a0 Z) (ws : List Jvm.Cond) (h0 : Heap) (n0 : Nat) :
    MC l Z y9 jdk_33_method_45_code 1 (some .int) ws rm_1_0_0_15 #[(.int 0)] h0 (QV (.int 0) h0 n0) := by
  refine own_met (plainFor_of_name pn9) fun p e s m below meth c s₁ X0 hx hZ Y hml hO hnm hlk hret e0 => f_cast (f' := mkF m 0 #[(iv 0)] []) (by first | (simp [entryFrame, mkF, argsToLocals, Value.category]; done) | rfl) ?_
  have N0 := Fr.nil n0
  refine iN X0 hx (hb Y d9_0) rfl <| f_ldc X0 hx hZ hO (w67 hw) (hb Y d9_1) <| iN X0 hx (hb Y d9_3) rfl <| f_stat X0 hx hZ hO (by rw [hml]; rfl) (w68 hw) (w69 hw) (w65 hw) (w70 hw) e0 (argsL := [(.int 0)]) (rest := [(.int (-2147483648 : Int32)), (.int 0)]) (q3297 l Z a0 hw [] h0 n0) (lenOf pd4 rfl) (hb Y d9_4) fun T3296 L3296 v3296 X3296 hQ3296 => ?_
  obtain ⟨rfl, N3296q, e3296⟩ := hQ3296
  have N3296 := Fr.app N0 N3296q
  refine f_iushr X3296 hx (z := (-2147483648 : Int32)) (hb Y d9_7) <| f_iand X3296 hx (z := 0) (hb Y d9_8) ?_
  exact f_ret X3296 hx hlk (i := .ireturn) hret rfl (Or.inl ⟨rfl, Or.inl rfl, _, rfl⟩) (hb Y d9_9) (QQ := (QV (.int 0) h0 n0)) ⟨rfl, N3296, e3296⟩ (by decide) (by decide)
theorem q3300 (l : Launch) (Z : State) (a0 : Array Value) (hw : HW a0 Z) (ws : List Jvm.Cond) (h0 : Heap) (n0 : Nat) :
    MC l Z y11 jdk_29_method_65_code 2 (some .int) ws rm_0_0_0_0 #[(.int 2), (.int 0)] h0 (QV (.int 2) h0 n0) := by
  refine own_met (Jvm.Free.JP.mathPlain rfl (by decide +kernel)) fun p e s m below meth c s₁ X0 hx hZ Y hml hO hnm hlk hret e0 => f_cast (f' := mkF m 0 #[(iv 2), (iv 0)] []) (by first | (simp [entryFrame, mkF, argsToLocals, Value.category]; done) | rfl) ?_
  have N0 := Fr.nil n0
  refine iN X0 hx (hb Y d11_0) rfl <| iN X0 hx (hb Y d11_1) rfl <| cN X0 hx (hb Y d11_2) <| iN X0 hx (hb Y d11_5) rfl <| gT X0 hx (pc := 6) 10 (hb Y d11_6) ?_
  exact f_ret X0 hx hlk (i := .ireturn) hret rfl (Or.inl ⟨rfl, Or.inl rfl, _, rfl⟩) (hb Y d11_10) (QQ := (QV (.int 2) h0 n0)) ⟨rfl, N0, e0⟩ (by decide) (by decide)
def St80 (Z : State) (h : Heap) (n0 : Nat) (c1 : Nat) (c2 : Nat) (c3 : Nat) (c4 : Nat) (c5 : Nat) (kc1 : ClassId) (kc2 : ClassId) (kc3 : ClassId) (kc4 : ClassId) (uu1 : Int64) (uu2 : Int64) (uu3 : Int64) (uu4 : Int64) (ww5 : Value) (ww6 : Value) (ww7 : Value) (ww8 : Value) : Prop :=
  xO Z h c1 ∧
  Arv Z h c1 kc1 (.object "java/lang/Object") 1 [.null] .null ∧
  Ovr Z kc1 "java/lang/Object" ∧
  Exa Z h c2 cV ∧
  fT Z h c2 (.ref c3) ∧
  fR Z h c2 (.ref c4) ∧
  fC Z h c2 (.ref c5) ∧
  fS Z h c2 (.int 0) ∧
  fO Z h c2 (.int 3) ∧
  aL Z h c3 kc2 4 [(.long uu1), (.long uu2), (.long uu3), (.long uu4)] ∧
  xR Z h c4 ∧
  aR Z h c4 kc3 4 [ww5, ww6, ww7, ww8] ∧
  oR Z kc3 ∧
  xC Z h c5 ∧
  aC Z h c5 kc4 4 [.null, .null, .null, .null] ∧
  oC Z kc4 ∧
  n0 ≤ c1 ∧
  c1 < c2 ∧
  c2 < c3 ∧
  c3 < c4 ∧
  c4 < c5 ∧
  ww5.isRef = true ∧
  (ww5 = .null ∨ ww5 = .ref c1) ∧
  ww6.isRef = true ∧
  (ww6 = .null ∨ ww6 = .ref c1) ∧
  ww7.isRef = true ∧
  (ww7 = .null ∨ ww7 = .ref c1) ∧
  ww8.isRef = true ∧
  (ww8 = .null ∨ ww8 = .ref c1)
def St81 (Z : State) (h : Heap) (n0 : Nat) (c1 : Nat) (c2 : Nat) (c3 : Nat) (c4 : Nat) (c5 : Nat) (b3310 : Nat) (b3311 : Nat) (b3312 : Nat) (kc1 : ClassId) (kc2 : ClassId) (kc3 : ClassId) (kc4 : ClassId) (kb3310 : ClassId) (kb3311 : ClassId) (kb3312 : ClassId) (uu1 : Int64) (uu2 : Int64) (uu3 : Int64) (uu4 : Int64) (ww5 : Value) (ww6 : Value) (ww7 : Value) (ww8 : Value) : Prop :=
  xO Z h c1 ∧
  Arv Z h c1 kc1 (.object "java/lang/Object") 1 [.null] .null ∧
  Ovr Z kc1 "java/lang/Object" ∧
  Exa Z h c2 cV ∧
  fT Z h c2 (.ref b3310) ∧
  fR Z h c2 (.ref b3311) ∧
  fC Z h c2 (.ref b3312) ∧
  fS Z h c2 (.int 0) ∧
  fO Z h c2 (.int 0) ∧
  aL Z h c3 kc2 4 [(.long uu1), (.long uu2), (.long uu3), (.long uu4)] ∧
  xR Z h c4 ∧
  aR Z h c4 kc3 4 [ww5, ww6, ww7, ww8] ∧
  oR Z kc3 ∧
  xC Z h c5 ∧
  aC Z h c5 kc4 4 [.null, .null, .null, .null] ∧
  oC Z kc4 ∧
  aL Z h b3310 kb3310 2 [(.long 0), (.long 0)] ∧
  xR Z h b3311 ∧
  aR Z h b3311 kb3311 2 [.null, .null] ∧
  oR Z kb3311 ∧
  xC Z h b3312 ∧
  aC Z h b3312 kb3312 2 [.null, .null] ∧
  oC Z kb3312 ∧
  n0 ≤ c1 ∧
  c1 < c2 ∧
  c2 < c3 ∧
  c3 < c4 ∧
  c4 < c5 ∧
  c5 < b3310 ∧
  b3310 < b3311 ∧
  b3311 < b3312 ∧
  ww5.isRef = true ∧
  (ww5 = .null ∨ ww5 = .ref c1) ∧
  ww6.isRef = true ∧
  (ww6 = .null ∨ ww6 = .ref c1) ∧
  ww7.isRef = true ∧
  (ww7 = .null ∨ ww7 = .ref c1) ∧
  ww8.isRef = true ∧
  (ww8 = .null ∨ ww8 = .ref c1)
def Qm3318 (Z : State) (n0 : Nat) (c1 : Nat) (c2 : Nat) (c3 : Nat) (c4 : Nat) (c5 : Nat) (kc1 : ClassId) (kc2 : ClassId) (kc3 : ClassId) (kc4 : ClassId) (uu1 : Int64) (uu2 : Int64) (uu3 : Int64) (uu4 : Int64) (ww5 : Value) (ww6 : Value) (ww7 : Value) (ww8 : Value) (v : Option Value) (h : Heap) (L : List Loc) : Prop := v = none ∧ Fr n0 L ∧ ∃ (kb3310 : ClassId) (b3310 : Nat) (kb3311 : ClassId) (b3311 : Nat) (kb3312 : ClassId) (b3312 : Nat), St81 Z h n0 c1 c2 c3 c4 c5 b3310 b3311 b3312 kc1 kc2 kc3 kc4 kb3310 kb3311 kb3312 uu1 uu2 uu3 uu4 ww5 ww6 ww7 ww8
theorem m3318 (l : Launch) (Z : State) (a0 : Array Value) (hw : HW a0 Z) (ws : List Jvm.Cond) (h0 : Heap) (n0 : Nat) (c1 : Nat) (c2 : Nat) (c3 : Nat) (c4 : Nat) (c5 : Nat) (kc1 : ClassId) (kc2 : ClassId) (kc3 : ClassId) (kc4 : ClassId) (uu1 : Int64) (uu2 : Int64) (uu3 : Int64) (uu4 : Int64) (ww5 : Value) (ww6 : Value) (ww7 : Value) (ww8 : Value) (P : St80 Z h0 n0 c1 c2 c3 c4 c5 kc1 kc2 kc3 kc4 uu1 uu2 uu3 uu4 ww5 ww6 ww7 ww8) :
    MC l Z y8 prog_95_method_10_code 7 none ws rm_0_3_6_0 #[(.ref c2), (.int 2)] h0 (Qm3318 Z n0 c1 c2 c3 c4 c5 kc1 kc2 kc3 kc4 uu1 uu2 uu3 uu4 ww5 ww6 ww7 ww8) := by
  obtain ⟨E_c1, V_c1, O_c1, E_c2, F_c2_t, F_c2_r, F_c2_c, F_c2_s, F_c2_o, V_c3, E_c4, V_c4, O_c4, E_c5, V_c5, O_c5, g_c1, lt_c1_c2, lt_c2_c3, lt_c3_c4, lt_c4_c5, rf_ww5, rw_ww5, rf_ww6, rw_ww6, rf_ww7, rw_ww7, rf_ww8, rw_ww8⟩ := id P
  refine own_met (plainFor_of_name pn8) fun p e s m below meth c s₁ X0 hx hZ Y hml hO hnm hlk hret e0 => f_cast (f' := mkF m 0 #[(rv c2), (iv 2), .unset, .unset, .unset, .unset, .unset] []) (by first | (simp [entryFrame, mkF, argsToLocals, Value.category]; done) | rfl) ?_
  have N0 := Fr.nil n0
  refine iN X0 hx (hb Y d8_0) rfl <| f_newP X0 hx hZ (aty := .long) (w15 hw) e0 (hb Y d8_1) 2 fun T3310 h3310 kb3310 b3310 g3310 X3310 e3310 E3310 V_b3310 => ?_
  have lt_c5_b3310 : c5 < b3310 := by have := own_ltE E_c5; omega
  refine f_astoreN X3310 hx (L' := #[(rv c2), (iv 2), (rv b3310), .unset, .unset, .unset, .unset]) (hb Y d8_3) rfl rfl <| iN X3310 hx (hb Y d8_4) rfl <| f_newRA X3310 hx hZ hO (ty := (.object "java/lang/Object")) (by decide +kernel) (w18 hw) (w19 hw) e3310 (hb Y d8_5) 2 (ad := "[[Ljava/lang/Object;") (by decide +kernel) fun T3311 h3311 kb3311 b3311 g3311 X3311 e3311 E3311 V_b3311 E_b3311 O_b3311 => ?_
  have lt_b3310_b3311 : b3310 < b3311 := by have := own_ltV V_b3310; omega
  refine f_astoreN X3311 hx (L' := #[(rv c2), (iv 2), (rv b3310), (rv b3311), .unset, .unset, .unset]) (hb Y d8_8) rfl rfl <| iN X3311 hx (hb Y d8_9) rfl <| f_newRA X3311 hx hZ hO (ty := .int) (by decide +kernel) (w22 hw) (w23 hw) e3311 (hb Y d8_10) 2 (ad := "[[I") (by decide +kernel) fun T3312 h3312 kb3312 b3312 g3312 X3312 e3312 E3312 V_b3312 E_b3312 O_b3312 => ?_
  have lt_b3311_b3312 : b3311 < b3312 := by have := own_ltE E_b3311; omega
  refine f_astore X3312 hx (L' := #[(rv c2), (iv 2), (rv b3310), (rv b3311), (rv b3312), .unset, .unset]) (hb Y d8_13) rfl rfl <| iK X3312 hx (z := 0) (hb Y d8_15) <| iS X3312 hx (L' := #[(rv c2), (iv 2), (rv b3310), (rv b3311), (rv b3312), (iv 0), .unset]) (hb Y d8_16) rfl <| iL X3312 hx (hb Y d8_18) rfl <| aN X3312 hx (hb Y d8_20) rfl rfl ?_
  replace F_c2_s := (fe E3312 (fe E3311 (fe E3310 F_c2_s)))
  refine gF X3312 hx hZ hO (w31 hw) Via.refl e3312 F_c2_s (hb Y d8_21) fun T3313 X3313 e3313 => ?_
  refine cY X3313 hx (pc := 24) 75 (hb Y d8_24) <| aN X3313 hx (hb Y d8_75) rfl rfl <| aN X3313 hx (hb Y d8_76) rfl rfl ?_
  replace F_c2_t := (fe E3312 (fe E3311 (fe E3310 F_c2_t)))
  replace E_c2 := (xe E3312 (xe E3311 (xe E3310 E_c2)))
  refine f_putF X3313 hx hZ hO (w16 hw) Via.refl e3313 F_c2_t E_c2 (Or.inl (w17 hw)) (w7 hw) (ty := (.array .long)) (by decide) rfl rfl (hb Y d8_77) fun T3314 h3314 X3314 e3314 W3314 => ?_
  have N3314x := Fr.snoc X3314 N0 (by omega : n0 ≤ c2)
  refine aN X3314 hx (hb Y d8_80) rfl rfl <| aN X3314 hx (hb Y d8_81) rfl rfl ?_
  replace F_c2_r := (Fld.other W3314 (fe E3312 (fe E3311 (fe E3310 F_c2_r))) (Or.inr (slot_ne (Or.inl (w21 hw)) (Or.inl (w17 hw)) (by decide) (t := (.array (.array (.object "java/lang/Object")))) (t' := (.array .long)) (by decide) (by decide))))
  replace E_c2 := (xw W3314 E_c2)
  refine f_putF X3314 hx hZ hO (w20 hw) Via.refl e3314 F_c2_r E_c2 (Or.inl (w21 hw)) (w7 hw) (ty := (.array (.array (.object "java/lang/Object")))) (by decide) rfl rfl (hb Y d8_82) fun T3315 h3315 X3315 e3315 W3315 => ?_
  have N3315x := Fr.snoc X3315 N3314x (by omega : n0 ≤ c2)
  refine aN X3315 hx (hb Y d8_85) rfl rfl <| aA X3315 hx (hb Y d8_86) rfl rfl ?_
  replace F_c2_c := (Fld.other W3315 (Fld.other W3314 (fe E3312 (fe E3311 (fe E3310 F_c2_c))) (Or.inr (slot_ne (Or.inl (w25 hw)) (Or.inl (w17 hw)) (by decide) (t := (.array (.array .int))) (t' := (.array .long)) (by decide) (by decide)))) (Or.inr (slot_ne (Or.inl (w25 hw)) (Or.inl (w21 hw)) (by decide) (t := (.array (.array .int))) (t' := (.array (.array (.object "java/lang/Object")))) (by decide) (by decide))))
  replace E_c2 := (xw W3315 E_c2)
  refine f_putF X3315 hx hZ hO (w24 hw) Via.refl e3315 F_c2_c E_c2 (Or.inl (w25 hw)) (w7 hw) (ty := (.array (.array .int))) (by decide) rfl rfl (hb Y d8_88) fun T3316 h3316 X3316 e3316 W3316 => ?_
  have N3316x := Fr.snoc X3316 N3315x (by omega : n0 ≤ c2)
  refine aN X3316 hx (hb Y d8_91) rfl rfl <| iK X3316 hx (z := 0) (hb Y d8_92) ?_
  replace F_c2_o := (Fld.other W3316 (Fld.other W3315 (Fld.other W3314 (fe E3312 (fe E3311 (fe E3310 F_c2_o))) (Or.inr (slot_ne (Or.inl (w49 hw)) (Or.inl (w17 hw)) (by decide) (t := .int) (t' := (.array .long)) (by decide) (by decide)))) (Or.inr (slot_ne (Or.inl (w49 hw)) (Or.inl (w21 hw)) (by decide) (t := .int) (t' := (.array (.array (.object "java/lang/Object")))) (by decide) (by decide)))) (Or.inr (slot_ne (Or.inl (w49 hw)) (Or.inl (w25 hw)) (by decide) (t := .int) (t' := (.array (.array .int))) (by decide) (by decide))))
  replace E_c2 := (xw W3316 E_c2)
  refine f_putF X3316 hx hZ hO (w48 hw) Via.refl e3316 F_c2_o E_c2 (Or.inl (w49 hw)) (w7 hw) (ty := .int) (by decide) rfl rfl (hb Y d8_93) fun T3317 h3317 X3317 e3317 W3317 => ?_
  have N3317x := Fr.snoc X3317 N3316x (by omega : n0 ≤ c2)
  exact f_ret0 X3317 hx hlk hret (hb Y d8_96) (QQ := (Qm3318 Z n0 c1 c2 c3 c4 c5 kc1 kc2 kc3 kc4 uu1 uu2 uu3 uu4 ww5 ww6 ww7 ww8)) (by rw [e3317]; exact ⟨rfl, N3317x, kb3310, b3310, kb3311, b3311, kb3312, b3312, (xw W3317 (xw W3316 (xw W3315 (xw W3314 (xe E3312 (xe E3311 (xe E3310 E_c1))))))), (vo (vo (vo (vo (ve (ve (ve V_c1 E3310) E3311) E3312) W3314) W3315) W3316) W3317), O_c1, (xw W3317 E_c2), (Fld.other W3317 (Fld.other W3316 (Fld.other W3315 (Fld.same W3314 F_c2_t) (Or.inr (slot_ne (Or.inl (w17 hw)) (Or.inl (w21 hw)) (by decide) (t := (.array .long)) (t' := (.array (.array (.object "java/lang/Object")))) (by decide) (by decide)))) (Or.inr (slot_ne (Or.inl (w17 hw)) (Or.inl (w25 hw)) (by decide) (t := (.array .long)) (t' := (.array (.array .int))) (by decide) (by decide)))) (Or.inr (slot_ne (Or.inl (w17 hw)) (Or.inl (w49 hw)) (by decide) (t := (.array .long)) (t' := .int) (by decide) (by decide)))), (Fld.other W3317 (Fld.other W3316 (Fld.same W3315 F_c2_r) (Or.inr (slot_ne (Or.inl (w21 hw)) (Or.inl (w25 hw)) (by decide) (t := (.array (.array (.object "java/lang/Object")))) (t' := (.array (.array .int))) (by decide) (by decide)))) (Or.inr (slot_ne (Or.inl (w21 hw)) (Or.inl (w49 hw)) (by decide) (t := (.array (.array (.object "java/lang/Object")))) (t' := .int) (by decide) (by decide)))), (Fld.other W3317 (Fld.same W3316 F_c2_c) (Or.inr (slot_ne (Or.inl (w25 hw)) (Or.inl (w49 hw)) (by decide) (t := (.array (.array .int))) (t' := .int) (by decide) (by decide)))), (Fld.other W3317 (Fld.other W3316 (Fld.other W3315 (Fld.other W3314 F_c2_s (Or.inr (slot_ne (Or.inl (w32 hw)) (Or.inl (w17 hw)) (by decide) (t := .int) (t' := (.array .long)) (by decide) (by decide)))) (Or.inr (slot_ne (Or.inl (w32 hw)) (Or.inl (w21 hw)) (by decide) (t := .int) (t' := (.array (.array (.object "java/lang/Object")))) (by decide) (by decide)))) (Or.inr (slot_ne (Or.inl (w32 hw)) (Or.inl (w25 hw)) (by decide) (t := .int) (t' := (.array (.array .int))) (by decide) (by decide)))) (Or.inr (slot_ne (Or.inl (w32 hw)) (Or.inl (w49 hw)) (by decide) (t := .int) (t' := .int) (by decide) (by decide)))), (Fld.same W3317 F_c2_o), (vo (vo (vo (vo (ve (ve (ve V_c3 E3310) E3311) E3312) W3314) W3315) W3316) W3317), (xw W3317 (xw W3316 (xw W3315 (xw W3314 (xe E3312 (xe E3311 (xe E3310 E_c4))))))), (vo (vo (vo (vo (ve (ve (ve V_c4 E3310) E3311) E3312) W3314) W3315) W3316) W3317), O_c4, (xw W3317 (xw W3316 (xw W3315 (xw W3314 (xe E3312 (xe E3311 (xe E3310 E_c5))))))), (vo (vo (vo (vo (ve (ve (ve V_c5 E3310) E3311) E3312) W3314) W3315) W3316) W3317), O_c5, (vo (vo (vo (vo (ve (ve V_b3310 E3311) E3312) W3314) W3315) W3316) W3317), (xw W3317 (xw W3316 (xw W3315 (xw W3314 (xe E3312 E_b3311))))), (vo (vo (vo (vo (ve V_b3311 E3312) W3314) W3315) W3316) W3317), O_b3311, (xw W3317 (xw W3316 (xw W3315 (xw W3314 E_b3312)))), (vo (vo (vo (vo V_b3312 W3314) W3315) W3316) W3317), O_b3312, g_c1, lt_c1_c2, lt_c2_c3, lt_c3_c4, lt_c4_c5, lt_c5_b3310, lt_b3310_b3311, lt_b3311_b3312, rf_ww5, rw_ww5, rf_ww6, rw_ww6, rf_ww7, rw_ww7, rf_ww8, rw_ww8⟩) (by decide) (by decide)
def St82 (Z : State) (h : Heap) (n0 : Nat) (c1 : Nat) (c2 : Nat) (c3 : Nat) (c4 : Nat) (c5 : Nat) (b3320 : Nat) (b3322 : Nat) (b3324 : Nat) (kc1 : ClassId) (kc2 : ClassId) (kc3 : ClassId) (kc4 : ClassId) (kb3319 : ClassId) (kb3321 : ClassId) (kb3323 : ClassId) (uu1 : Int64) (uu2 : Int64) (uu3 : Int64) (uu4 : Int64) (ww8 : Value) (ww5 : Value) (ww6 : Value) (ww7 : Value) : Prop :=
  xO Z h c1 ∧
  Arv Z h c1 kc1 (.object "java/lang/Object") 1 [.null] .null ∧
  Ovr Z kc1 "java/lang/Object" ∧
  Exa Z h c2 cV ∧
  fT Z h c2 (.ref b3320) ∧
  fR Z h c2 (.ref b3322) ∧
  fC Z h c2 (.ref b3324) ∧
  fS Z h c2 (.int 0) ∧
  fO Z h c2 (.int 0) ∧
  aL Z h c3 kc2 4 [(.long uu1), (.long uu2), (.long uu3), (.long uu4)] ∧
  xR Z h c4 ∧
  aR Z h c4 kc3 4 [.null, .null, .null, ww8] ∧
  oR Z kc3 ∧
  xC Z h c5 ∧
  aC Z h c5 kc4 4 [.null, .null, .null, .null] ∧
  oC Z kc4 ∧
  aL Z h b3320 kb3319 2 [(.long 0), (.long 0)] ∧
  xR Z h b3322 ∧
  aR Z h b3322 kb3321 2 [.null, .null] ∧
  oR Z kb3321 ∧
  xC Z h b3324 ∧
  aC Z h b3324 kb3323 2 [.null, .null] ∧
  oC Z kb3323 ∧
  n0 ≤ c1 ∧
  c1 < c2 ∧
  c2 < c3 ∧
  c3 < c4 ∧
  c4 < c5 ∧
  c5 < b3320 ∧
  b3320 < b3322 ∧
  b3322 < b3324 ∧
  ww5.isRef = true ∧
  (ww5 = .null ∨ ww5 = .ref c1) ∧
  ww6.isRef = true ∧
  (ww6 = .null ∨ ww6 = .ref c1) ∧
  ww7.isRef = true ∧
  (ww7 = .null ∨ ww7 = .ref c1) ∧
  ww8.isRef = true ∧
  (ww8 = .null ∨ ww8 = .ref c1)
def Qm3326 (Z : State) (n0 : Nat) (c1 : Nat) (c2 : Nat) (c3 : Nat) (c4 : Nat) (c5 : Nat) (kc1 : ClassId) (kc2 : ClassId) (kc3 : ClassId) (kc4 : ClassId) (uu1 : Int64) (uu2 : Int64) (uu3 : Int64) (uu4 : Int64) (ww5 : Value) (ww6 : Value) (ww7 : Value) (ww8 : Value) (v : Option Value) (h : Heap) (L : List Loc) : Prop := v = none ∧ Fr n0 L ∧ ∃ (kb3319 : ClassId) (b3320 : Nat) (kb3321 : ClassId) (b3322 : Nat) (kb3323 : ClassId) (b3324 : Nat), St82 Z h n0 c1 c2 c3 c4 c5 b3320 b3322 b3324 kc1 kc2 kc3 kc4 kb3319 kb3321 kb3323 uu1 uu2 uu3 uu4 ww8 ww5 ww6 ww7
theorem m3326 (l : Launch) (Z : State) (a0 : Array Value) (hw : HW a0 Z) (ws : List Jvm.Cond) (h0 : Heap) (n0 : Nat) (c1 : Nat) (c2 : Nat) (c3 : Nat) (c4 : Nat) (c5 : Nat) (kc1 : ClassId) (kc2 : ClassId) (kc3 : ClassId) (kc4 : ClassId) (uu1 : Int64) (uu2 : Int64) (uu3 : Int64) (uu4 : Int64) (ww5 : Value) (ww6 : Value) (ww7 : Value) (ww8 : Value) (P : St49 Z h0 n0 c1 c2 c3 c4 c5 kc1 kc2 kc3 kc4 uu1 uu2 uu3 uu4 ww5 ww6 ww7 ww8) :
    MC l Z y7 prog_95_method_9_code 3 none ws rm_2_3_6_30 #[(.ref c2), (.int 3)] h0 (Qm3326 Z n0 c1 c2 c3 c4 c5 kc1 kc2 kc3 kc4 uu1 uu2 uu3 uu4 ww5 ww6 ww7 ww8) := by
  obtain ⟨E_c1, V_c1, O_c1, E_c2, F_c2_t, F_c2_r, F_c2_c, F_c2_s, F_c2_o, V_c3, E_c4, V_c4, O_c4, E_c5, V_c5, O_c5, g_c1, lt_c1_c2, lt_c2_c3, lt_c3_c4, lt_c4_c5, rf_ww5, rw_ww5, rf_ww6, rw_ww6, rf_ww7, rw_ww7, rf_ww8, rw_ww8⟩ := id P
  refine own_met (plainFor_of_name pn7) fun p e s m below meth c s₁ X0 hx hZ Y hml hO hnm hlk hret e0 => f_cast (f' := mkF m 0 #[(rv c2), (iv 3), .unset] []) (by first | (simp [entryFrame, mkF, argsToLocals, Value.category]; done) | rfl) ?_
  have N0 := Fr.nil n0
  refine iK X0 hx (z := 0) (hb Y d7_0) <| sN X0 hx (L' := #[(rv c2), (iv 3), (iv 0)]) (hb Y d7_1) rfl <| iN X0 hx (hb Y d7_2) rfl <| iN X0 hx (hb Y d7_3) rfl <| cN X0 hx (hb Y d7_4) <| aN X0 hx (hb Y d7_7) rfl rfl <| gF X0 hx hZ hO (w20 hw) Via.refl e0 F_c2_r (hb Y d7_8) fun T3255 X3255 e3255 => ?_
  refine aN X3255 hx (hb Y d7_11) rfl rfl <| iN X3255 hx (hb Y d7_12) rfl <| pV X3255 hx hZ hO (by rw [hml]; rfl) (w44 hw) (w45 hw) (w46 hw) (w7 hw) (w8 hw) (w47 hw) e3255 E_c2 (argsL := [(.int 0)]) (rest := [(.ref c4)]) (q1895 l Z a0 hw [] h0 n0 c2 c3 kc2 _ F_c2_o F_c2_t V_c3) (lenOf pd4 rfl) (hb Y d7_13) fun T3256 L3256 v3256 X3256 hQ3256 => ?_
  obtain ⟨rfl, N3256q, e3256⟩ := hQ3256
  have N3256 := Fr.app N0 N3256q
  refine f_null X3256 hx (hb Y d7_16) <| f_ast X3256 hx hZ e3256 V_c4 rfl (Or.inl rfl) rfl 0 (hb Y d7_17) fun T3259 h3259 X3259 e3259 W3259 V3259 => ?_
  have N3259x := Fr.snoc X3259 N3256 (by omega : n0 ≤ c4)
  refine aN X3259 hx (hb Y d7_18) rfl rfl ?_
  replace F_c2_c := (fo W3259 F_c2_c)
  refine gF X3259 hx hZ hO (w24 hw) Via.refl e3259 F_c2_c (hb Y d7_19) fun T3260 X3260 e3260 => ?_
  refine aN X3260 hx (hb Y d7_22) rfl rfl <| iN X3260 hx (hb Y d7_23) rfl ?_
  replace F_c2_o := (fo W3259 F_c2_o)
  replace F_c2_t := (fo W3259 F_c2_t)
  replace V_c3 := (vo V_c3 W3259)
  replace E_c2 := (xw W3259 E_c2)
  refine pV X3260 hx hZ hO (by rw [hml]; rfl) (w44 hw) (w45 hw) (w46 hw) (w7 hw) (w8 hw) (w47 hw) e3260 E_c2 (argsL := [(.int 0)]) (rest := [(.ref c5)]) (q1895 l Z a0 hw [] h3259 n0 c2 c3 kc2 _ F_c2_o F_c2_t V_c3) (lenOf pd4 rfl) (hb Y d7_24) fun T3261 L3261 v3261 X3261 hQ3261 => ?_
  obtain ⟨rfl, N3261q, e3261⟩ := hQ3261
  have N3261 := Fr.app N3259x N3261q
  refine f_null X3261 hx (hb Y d7_27) ?_
  replace V_c5 := (vo V_c5 W3259)
  refine f_ast X3261 hx hZ e3261 V_c5 rfl (Or.inl rfl) rfl 0 (hb Y d7_28) fun T3264 h3264 X3264 e3264 W3264 V3264 => ?_
  have N3264x := Fr.snoc X3264 N3261 (by omega : n0 ≤ c5)
  refine f_iinc X3264 hx (L' := #[(rv c2), (iv 3), (iv 1)]) (hb Y d7_29) rfl rfl <| gT X3264 hx (pc := 32) 2 (hb Y d7_32) <| iN X3264 hx (hb Y d7_2) rfl <| iN X3264 hx (hb Y d7_3) rfl <| cN X3264 hx (hb Y d7_4) <| aN X3264 hx (hb Y d7_7) rfl rfl ?_
  replace F_c2_r := (fo W3264 (fo W3259 F_c2_r))
  refine gF X3264 hx hZ hO (w20 hw) Via.refl e3264 F_c2_r (hb Y d7_8) fun T3265 X3265 e3265 => ?_
  refine aN X3265 hx (hb Y d7_11) rfl rfl <| iN X3265 hx (hb Y d7_12) rfl ?_
  replace F_c2_o := (fo W3264 F_c2_o)
  replace F_c2_t := (fo W3264 F_c2_t)
  replace V_c3 := (vo V_c3 W3264)
  replace E_c2 := (xw W3264 E_c2)
  refine pV X3265 hx hZ hO (by rw [hml]; rfl) (w44 hw) (w45 hw) (w46 hw) (w7 hw) (w8 hw) (w47 hw) e3265 E_c2 (argsL := [(.int 1)]) (rest := [(.ref c4)]) (q1891 l Z a0 hw [] h3264 n0 c2 c3 kc2 _ F_c2_o F_c2_t V_c3) (lenOf pd4 rfl) (hb Y d7_13) fun T3266 L3266 v3266 X3266 hQ3266 => ?_
  obtain ⟨rfl, N3266q, e3266⟩ := hQ3266
  have N3266 := Fr.app N3264x N3266q
  refine f_null X3266 hx (hb Y d7_16) ?_
  replace V_c4 := (vo V3259 W3264)
  refine f_ast X3266 hx hZ e3266 V_c4 rfl (Or.inl rfl) rfl 1 (hb Y d7_17) fun T3269 h3269 X3269 e3269 W3269 V3269 => ?_
  have N3269x := Fr.snoc X3269 N3266 (by omega : n0 ≤ c4)
  refine aN X3269 hx (hb Y d7_18) rfl rfl ?_
  replace F_c2_c := (fo W3269 (fo W3264 F_c2_c))
  refine gF X3269 hx hZ hO (w24 hw) Via.refl e3269 F_c2_c (hb Y d7_19) fun T3270 X3270 e3270 => ?_
  refine aN X3270 hx (hb Y d7_22) rfl rfl <| iN X3270 hx (hb Y d7_23) rfl ?_
  replace F_c2_o := (fo W3269 F_c2_o)
  replace F_c2_t := (fo W3269 F_c2_t)
  replace V_c3 := (vo V_c3 W3269)
  replace E_c2 := (xw W3269 E_c2)
  refine pV X3270 hx hZ hO (by rw [hml]; rfl) (w44 hw) (w45 hw) (w46 hw) (w7 hw) (w8 hw) (w47 hw) e3270 E_c2 (argsL := [(.int 1)]) (rest := [(.ref c5)]) (q1891 l Z a0 hw [] h3269 n0 c2 c3 kc2 _ F_c2_o F_c2_t V_c3) (lenOf pd4 rfl) (hb Y d7_24) fun T3271 L3271 v3271 X3271 hQ3271 => ?_
  obtain ⟨rfl, N3271q, e3271⟩ := hQ3271
  have N3271 := Fr.app N3269x N3271q
  refine f_null X3271 hx (hb Y d7_27) ?_
  replace V_c5 := (vo V3264 W3269)
  refine f_ast X3271 hx hZ e3271 V_c5 rfl (Or.inl rfl) rfl 1 (hb Y d7_28) fun T3274 h3274 X3274 e3274 W3274 V3274 => ?_
  have N3274x := Fr.snoc X3274 N3271 (by omega : n0 ≤ c5)
  refine f_iinc X3274 hx (L' := #[(rv c2), (iv 3), (iv 2)]) (hb Y d7_29) rfl rfl <| gT X3274 hx (pc := 32) 2 (hb Y d7_32) <| iN X3274 hx (hb Y d7_2) rfl <| iN X3274 hx (hb Y d7_3) rfl <| cN X3274 hx (hb Y d7_4) <| aN X3274 hx (hb Y d7_7) rfl rfl ?_
  replace F_c2_r := (fo W3274 (fo W3269 F_c2_r))
  refine gF X3274 hx hZ hO (w20 hw) Via.refl e3274 F_c2_r (hb Y d7_8) fun T3275 X3275 e3275 => ?_
  refine aN X3275 hx (hb Y d7_11) rfl rfl <| iN X3275 hx (hb Y d7_12) rfl ?_
  replace F_c2_o := (fo W3274 F_c2_o)
  replace F_c2_t := (fo W3274 F_c2_t)
  replace V_c3 := (vo V_c3 W3274)
  replace E_c2 := (xw W3274 E_c2)
  refine pV X3275 hx hZ hO (by rw [hml]; rfl) (w44 hw) (w45 hw) (w46 hw) (w7 hw) (w8 hw) (w47 hw) e3275 E_c2 (argsL := [(.int 2)]) (rest := [(.ref c4)]) (q443 l Z a0 hw [] h3274 n0 c2 c3 kc2 _ F_c2_o F_c2_t V_c3) (lenOf pd4 rfl) (hb Y d7_13) fun T3276 L3276 v3276 X3276 hQ3276 => ?_
  obtain ⟨rfl, N3276q, e3276⟩ := hQ3276
  have N3276 := Fr.app N3274x N3276q
  refine f_null X3276 hx (hb Y d7_16) ?_
  replace V_c4 := (vo V3269 W3274)
  refine f_ast X3276 hx hZ e3276 V_c4 rfl (Or.inl rfl) rfl 2 (hb Y d7_17) fun T3279 h3279 X3279 e3279 W3279 V3279 => ?_
  have N3279x := Fr.snoc X3279 N3276 (by omega : n0 ≤ c4)
  refine aN X3279 hx (hb Y d7_18) rfl rfl ?_
  replace F_c2_c := (fo W3279 (fo W3274 F_c2_c))
  refine gF X3279 hx hZ hO (w24 hw) Via.refl e3279 F_c2_c (hb Y d7_19) fun T3280 X3280 e3280 => ?_
  refine aN X3280 hx (hb Y d7_22) rfl rfl <| iN X3280 hx (hb Y d7_23) rfl ?_
  replace F_c2_o := (fo W3279 F_c2_o)
  replace F_c2_t := (fo W3279 F_c2_t)
  replace V_c3 := (vo V_c3 W3279)
  replace E_c2 := (xw W3279 E_c2)
  refine pV X3280 hx hZ hO (by rw [hml]; rfl) (w44 hw) (w45 hw) (w46 hw) (w7 hw) (w8 hw) (w47 hw) e3280 E_c2 (argsL := [(.int 2)]) (rest := [(.ref c5)]) (q443 l Z a0 hw [] h3279 n0 c2 c3 kc2 _ F_c2_o F_c2_t V_c3) (lenOf pd4 rfl) (hb Y d7_24) fun T3281 L3281 v3281 X3281 hQ3281 => ?_
  obtain ⟨rfl, N3281q, e3281⟩ := hQ3281
  have N3281 := Fr.app N3279x N3281q
  refine f_null X3281 hx (hb Y d7_27) ?_
  replace V_c5 := (vo V3274 W3279)
  refine f_ast X3281 hx hZ e3281 V_c5 rfl (Or.inl rfl) rfl 2 (hb Y d7_28) fun T3284 h3284 X3284 e3284 W3284 V3284 => ?_
  have N3284x := Fr.snoc X3284 N3281 (by omega : n0 ≤ c5)
  refine f_iinc X3284 hx (L' := #[(rv c2), (iv 3), (iv 3)]) (hb Y d7_29) rfl rfl <| gT X3284 hx (pc := 32) 2 (hb Y d7_32) <| iN X3284 hx (hb Y d7_2) rfl <| iN X3284 hx (hb Y d7_3) rfl <| cY X3284 hx (pc := 4) 35 (hb Y d7_4) <| aN X3284 hx (hb Y d7_35) rfl rfl <| aN X3284 hx (hb Y d7_36) rfl rfl <| iN X3284 hx (hb Y d7_37) rfl ?_
  replace F_c2_o := (fo W3284 F_c2_o)
  replace F_c2_t := (fo W3284 F_c2_t)
  replace V_c3 := (vo V_c3 W3284)
  replace E_c2 := (xw W3284 E_c2)
  refine pV X3284 hx hZ hO (by rw [hml]; rfl) (w44 hw) (w45 hw) (w46 hw) (w7 hw) (w8 hw) (w47 hw) e3284 E_c2 (argsL := [(.int 3)]) (rest := [(.ref c2)]) (q997 l Z a0 hw [] h3284 n0 c2 c3 kc2 _ F_c2_o F_c2_t V_c3) (lenOf pd4 rfl) (hb Y d7_38) fun T3285 L3285 v3285 X3285 hQ3285 => ?_
  obtain ⟨rfl, N3285q, e3285⟩ := hQ3285
  have N3285 := Fr.app N3284x N3285q
  refine f_putF X3285 hx hZ hO (w48 hw) Via.refl e3285 F_c2_o E_c2 (Or.inl (w49 hw)) (w7 hw) (ty := .int) (by decide) rfl rfl (hb Y d7_41) fun T3288 h3288 X3288 e3288 W3288 => ?_
  have N3288x := Fr.snoc X3288 N3285 (by omega : n0 ≤ c2)
  refine aN X3288 hx (hb Y d7_44) rfl rfl <| f_dup X3288 hx (hb Y d7_45) rfl ?_
  replace F_c2_s := (Fld.other W3288 (fo W3284 (fo W3279 (fo W3274 (fo W3269 (fo W3264 (fo W3259 F_c2_s)))))) (Or.inr (slot_ne (Or.inl (w32 hw)) (Or.inl (w49 hw)) (by decide) (t := .int) (t' := .int) (by decide) (by decide))))
  refine gF X3288 hx hZ hO (w31 hw) Via.refl e3288 F_c2_s (hb Y d7_46) fun T3289 X3289 e3289 => ?_
  refine iN X3289 hx (hb Y d7_49) rfl <| iB X3289 hx (z := 0) (hb Y d7_50) ?_
  replace E_c2 := (xw W3288 E_c2)
  refine f_putF X3289 hx hZ hO (w31 hw) Via.refl e3289 F_c2_s E_c2 (Or.inl (w32 hw)) (w7 hw) (ty := .int) (by decide) rfl rfl (hb Y d7_51) fun T3290 h3290 X3290 e3290 W3290 => ?_
  have N3290x := Fr.snoc X3290 N3288x (by omega : n0 ≤ c2)
  refine aN X3290 hx (hb Y d7_54) rfl rfl ?_
  replace F_c2_t := (Fld.other W3290 (Fld.other W3288 F_c2_t (Or.inr (slot_ne (Or.inl (w17 hw)) (Or.inl (w49 hw)) (by decide) (t := (.array .long)) (t' := .int) (by decide) (by decide)))) (Or.inr (slot_ne (Or.inl (w17 hw)) (Or.inl (w32 hw)) (by decide) (t := (.array .long)) (t' := .int) (by decide) (by decide))))
  refine gF X3290 hx hZ hO (w16 hw) Via.refl e3290 F_c2_t (hb Y d7_55) fun T3291 X3291 e3291 => ?_
  replace V_c3 := (vo (vo V_c3 W3288) W3290)
  refine f_len X3291 hx hZ e3291 V_c3 (hb Y d7_58) <| iK X3291 hx (z := 2) (hb Y d7_59) <| cN X3291 hx (hb Y d7_60) <| aN X3291 hx (hb Y d7_63) rfl rfl ?_
  replace F_c2_s := (Fld.same W3290 F_c2_s)
  refine gF X3291 hx hZ hO (w31 hw) Via.refl e3291 F_c2_s (hb Y d7_64) fun T3292 X3292 e3292 => ?_
  refine aN X3292 hx (hb Y d7_67) rfl rfl <| gF X3292 hx hZ hO (w16 hw) Via.refl e3292 F_c2_t (hb Y d7_68) fun T3293 X3293 e3293 => ?_
  refine f_len X3293 hx hZ e3293 V_c3 (hb Y d7_71) <| iK X3293 hx (z := 4) (hb Y d7_72) <| f_idiv X3293 hx (z := 1) (hb Y d7_73) (by decide) <| cN X3293 hx (hb Y d7_74) <| aN X3293 hx (hb Y d7_77) rfl rfl <| iK X3293 hx (z := 2) (hb Y d7_78) <| iK X3293 hx (z := 2) (hb Y d7_79) <| aN X3293 hx (hb Y d7_80) rfl rfl <| gF X3293 hx hZ hO (w31 hw) Via.refl e3293 F_c2_s (hb Y d7_81) fun T3294 X3294 e3294 => ?_
  refine f_stat X3294 hx hZ hO (by rw [hml]; rfl) (w63 hw) (w64 hw) (w65 hw) (w66 hw) e3294 (argsL := [(.int 0)]) (rest := [(.int 2), (.int 2), (.ref c2)]) (q3298 l Z a0 hw [] h3290 n0) (lenOf pd4 rfl) (hb Y d7_84) fun T3295 L3295 v3295 X3295 hQ3295 => ?_
  obtain ⟨rfl, N3295q, e3295⟩ := hQ3295
  have N3295 := Fr.app N3290x N3295q
  refine f_imul X3295 hx (z := 0) (hb Y d7_87) <| f_stat X3295 hx hZ hO (by rw [hml]; rfl) (w71 hw) (w72 hw) (w73 hw) (w74 hw) e3295 (argsL := [(.int 2), (.int 0)]) (rest := [(.ref c2)]) (q3300 l Z a0 hw [] h3290 n0) (lenOf pd7 rfl) (hb Y d7_88) fun T3299 L3299 v3299 X3299 hQ3299 => ?_
  obtain ⟨rfl, N3299q, e3299⟩ := hQ3299
  have N3299 := Fr.app N3295 N3299q
  have P3325 : St80 Z h3290 n0 c1 c2 c3 c4 c5 kc1 kc2 kc3 kc4 uu1 uu2 uu3 uu4 .null .null .null ww8 := ⟨(xw W3290 (xw W3288 (xw W3284 (xw W3279 (xw W3274 (xw W3269 (xw W3264 (xw W3259 E_c1)))))))), (vo (vo (vo (vo (vo (vo (vo (vo V_c1 W3259) W3264) W3269) W3274) W3279) W3284) W3288) W3290), O_c1, (xw W3290 E_c2), F_c2_t, (Fld.other W3290 (Fld.other W3288 (fo W3284 (fo W3279 F_c2_r)) (Or.inr (slot_ne (Or.inl (w21 hw)) (Or.inl (w49 hw)) (by decide) (t := (.array (.array (.object "java/lang/Object")))) (t' := .int) (by decide) (by decide)))) (Or.inr (slot_ne (Or.inl (w21 hw)) (Or.inl (w32 hw)) (by decide) (t := (.array (.array (.object "java/lang/Object")))) (t' := .int) (by decide) (by decide)))), (Fld.other W3290 (Fld.other W3288 (fo W3284 F_c2_c) (Or.inr (slot_ne (Or.inl (w25 hw)) (Or.inl (w49 hw)) (by decide) (t := (.array (.array .int))) (t' := .int) (by decide) (by decide)))) (Or.inr (slot_ne (Or.inl (w25 hw)) (Or.inl (w32 hw)) (by decide) (t := (.array (.array .int))) (t' := .int) (by decide) (by decide)))), F_c2_s, (Fld.other W3290 (Fld.same W3288 F_c2_o) (Or.inr (slot_ne (Or.inl (w49 hw)) (Or.inl (w32 hw)) (by decide) (t := .int) (t' := .int) (by decide) (by decide)))), V_c3, (xw W3290 (xw W3288 (xw W3284 (xw W3279 (xw W3274 (xw W3269 (xw W3264 (xw W3259 E_c4)))))))), (vo (vo (vo V3279 W3284) W3288) W3290), O_c4, (xw W3290 (xw W3288 (xw W3284 (xw W3279 (xw W3274 (xw W3269 (xw W3264 (xw W3259 E_c5)))))))), (vo (vo V3284 W3288) W3290), O_c5, g_c1, lt_c1_c2, lt_c2_c3, lt_c3_c4, lt_c4_c5, rfl, (Or.inl rfl), rfl, (Or.inl rfl), rfl, (Or.inl rfl), rf_ww8, rw_ww8⟩
  replace E_c2 := (xw W3290 E_c2)
  refine pV X3299 hx hZ hO (by rw [hml]; rfl) (w58 hw) (w59 hw) (w60 hw) (w7 hw) (w8 hw) (w61 hw) e3299 E_c2 (argsL := [(.int 2)]) (rest := []) (m3318 l Z a0 hw [] h3290 n0 c1 c2 c3 c4 c5 kc1 kc2 kc3 kc4 uu1 uu2 uu3 uu4 .null .null .null ww8 P3325) (lenOf pd6 rfl) (hb Y d7_91) fun T3301 L3301 v3301 X3301 hQ3301 => ?_
  obtain ⟨rfl, N3301q, kb3319, b3320, kb3321, b3322, kb3323, b3324, P3301⟩ := hQ3301
  obtain ⟨E_c1, V_c1, O_c1, E_c2, F_c2_t, F_c2_r, F_c2_c, F_c2_s, F_c2_o, V_c3, E_c4, V_c4, O_c4, E_c5, V_c5, O_c5, V_b3320, E_b3322, V_b3322, O_b3322, E_b3324, V_b3324, O_b3324, g_c1, lt_c1_c2, lt_c2_c3, lt_c3_c4, lt_c4_c5, lt_c5_b3320, lt_b3320_b3322, lt_b3322_b3324, _, _, _, _, _, _, _, _⟩ := id P3301
  have N3301 := Fr.app N3299 N3301q
  exact f_ret0 X3301 hx hlk hret (hb Y d7_94) (QQ := (Qm3326 Z n0 c1 c2 c3 c4 c5 kc1 kc2 kc3 kc4 uu1 uu2 uu3 uu4 ww5 ww6 ww7 ww8)) ⟨rfl, N3301, kb3319, b3320, kb3321, b3322, kb3323, b3324, E_c1, V_c1, O_c1, E_c2, F_c2_t, F_c2_r, F_c2_c, F_c2_s, F_c2_o, V_c3, E_c4, V_c4, O_c4, E_c5, V_c5, O_c5, V_b3320, E_b3322, V_b3322, O_b3322, E_b3324, V_b3324, O_b3324, g_c1, lt_c1_c2, lt_c2_c3, lt_c3_c4, lt_c4_c5, lt_c5_b3320, lt_b3320_b3322, lt_b3322_b3324, rf_ww5, rw_ww5, rf_ww6, rw_ww6, rf_ww7, rw_ww7, rf_ww8, rw_ww8⟩ (by decide) (by decide)
def St83 (Z : State) (h : Heap) (n0 : Nat) (c1 : Nat) (c2 : Nat) (c3 : Nat) (c4 : Nat) (c5 : Nat) (b3328 : Nat) (b3330 : Nat) (b3332 : Nat) (kc1 : ClassId) (kc2 : ClassId) (kc3 : ClassId) (kc4 : ClassId) (kb3327 : ClassId) (kb3329 : ClassId) (kb3331 : ClassId) (t0 : Int32) (t1 : Int32) (t2 : Int32) (t3 : Int32) (t4 : Int32) (r0 : Value) (r1 : Value) (r2 : Value) (mm : Int32) (p1 : Int64) : Prop :=
  xO Z h c1 ∧
  Arv Z h c1 kc1 (.object "java/lang/Object") 1 [.null] .null ∧
  Ovr Z kc1 "java/lang/Object" ∧
  Exa Z h c2 cV ∧
  fT Z h c2 (.ref b3328) ∧
  fR Z h c2 (.ref b3330) ∧
  fC Z h c2 (.ref b3332) ∧
  fS Z h c2 (.int 0) ∧
  fO Z h c2 (.int 0) ∧
  aL Z h c3 kc2 4 [(.long 10), (.long 20), (.long 30), (.long 0)] ∧
  xR Z h c4 ∧
  aR Z h c4 kc3 4 [.null, .null, .null, .null] ∧
  oR Z kc3 ∧
  xC Z h c5 ∧
  aC Z h c5 kc4 4 [.null, .null, .null, .null] ∧
  oC Z kc4 ∧
  aL Z h b3328 kb3327 2 [(.long 0), (.long 0)] ∧
  xR Z h b3330 ∧
  aR Z h b3330 kb3329 2 [.null, .null] ∧
  oR Z kb3329 ∧
  xC Z h b3332 ∧
  aC Z h b3332 kb3331 2 [.null, .null] ∧
  oC Z kb3331 ∧
  n0 ≤ c1 ∧
  c1 < c2 ∧
  c2 < c3 ∧
  c3 < c4 ∧
  c4 < c5 ∧
  c5 < b3328 ∧
  b3328 < b3330 ∧
  b3330 < b3332 ∧
  (t0 = (0 : Int32) ∨ t0 = (1 : Int32)) ∧
  (t1 = (0 : Int32) ∨ t1 = (1 : Int32)) ∧
  (t2 = (0 : Int32) ∨ t2 = (1 : Int32)) ∧
  (t3 = (0 : Int32) ∨ t3 = (1 : Int32)) ∧
  (t4 = (0 : Int32) ∨ t4 = (1 : Int32)) ∧
  r0.isRef = true ∧
  (r0 = .null ∨ r0 = .ref c1) ∧
  ((t0 = (0 : Int32) ∧ r0 = .ref c1) ∨ (t0 = (1 : Int32) ∧ r0 = .null)) ∧
  r1.isRef = true ∧
  (r1 = .null ∨ r1 = .ref c1) ∧
  ((t1 = (0 : Int32) ∧ r1 = .ref c1) ∨ (t1 = (1 : Int32) ∧ r1 = .null)) ∧
  r2.isRef = true ∧
  (r2 = .null ∨ r2 = .ref c1) ∧
  ((t2 = (0 : Int32) ∧ r2 = .ref c1) ∨ (t2 = (1 : Int32) ∧ r2 = .null)) ∧
  (mm = (0 : Int32) ∨ mm = (1 : Int32) ∨ mm = (2 : Int32)) ∧
  r2 = .null ∧
  ¬ p1 < (10 : Int64) ∧
  ¬ p1 < (20 : Int64) ∧
  ¬ p1 < (30 : Int64) ∧
  t2 = (1 : Int32)
def Qm3335 (Z : State) (n0 : Nat) (c1 : Nat) (c2 : Nat) (c3 : Nat) (c4 : Nat) (c5 : Nat) (kc1 : ClassId) (kc2 : ClassId) (kc3 : ClassId) (kc4 : ClassId) (r0 : Value) (r1 : Value) (r2 : Value) (t0 : Int32) (t1 : Int32) (t2 : Int32) (t3 : Int32) (t4 : Int32) (mm : Int32) (p1 : Int64) (v : Option Value) (h : Heap) (L : List Loc) : Prop := v = some (.int 1) ∧ Fr n0 L ∧ ∃ (kb3327 : ClassId) (b3328 : Nat) (kb3329 : ClassId) (b3330 : Nat) (kb3331 : ClassId) (b3332 : Nat), St83 Z h n0 c1 c2 c3 c4 c5 b3328 b3330 b3332 kc1 kc2 kc3 kc4 kb3327 kb3329 kb3331 t0 t1 t2 t3 t4 r0 r1 r2 mm p1
theorem m3335 (l : Launch) (Z : State) (a0 : Array Value) (hw : HW a0 Z) (ws : List Jvm.Cond) (h0 : Heap) (n0 : Nat) (c1 : Nat) (c2 : Nat) (c3 : Nat) (c4 : Nat) (c5 : Nat) (kc1 : ClassId) (kc2 : ClassId) (kc3 : ClassId) (kc4 : ClassId) (r0 : Value) (r1 : Value) (r2 : Value) (t0 : Int32) (t1 : Int32) (t2 : Int32) (t3 : Int32) (t4 : Int32) (mm : Int32) (p1 : Int64) (P : St79 Z h0 n0 c1 c2 c3 c4 c5 kc1 kc2 kc3 kc4 r0 r1 r2 t0 t1 t2 t3 t4 mm p1) :
    MC l Z y3 prog_95_method_5_code 5 (some .boolean) ws rm_3_3_6_44 #[(.ref c2), (.long p1)] h0 (Qm3335 Z n0 c1 c2 c3 c4 c5 kc1 kc2 kc3 kc4 r0 r1 r2 t0 t1 t2 t3 t4 mm p1) := by
  obtain ⟨E_c1, V_c1, O_c1, E_c2, F_c2_t, F_c2_r, F_c2_c, F_c2_s, F_c2_o, V_c3, E_c4, V_c4, O_c4, E_c5, V_c5, O_c5, g_c1, lt_c1_c2, lt_c2_c3, lt_c3_c4, lt_c4_c5, ht0, ht1, ht2, ht3, ht4, rf_r0, rw_r0, rb_r0, rf_r1, rw_r1, rb_r1, rf_r2, rw_r2, rb_r2, hm3, nv_r2, z10, z20, z30, tv2⟩ := id P
  refine own_met (plainFor_of_name pn3) fun p e s m below meth c s₁ X0 hx hZ Y hml hO hnm hlk hret e0 => f_cast (f' := mkF m 0 #[(rv c2), (.val (.long p1)), .second, .unset, .unset] []) (by first | (simp [entryFrame, mkF, argsToLocals, Value.category]; done) | rfl) ?_
  have N0 := Fr.nil n0
  refine aN X0 hx (hb Y d3_0) rfl rfl <| gF X0 hx hZ hO (w31 hw) Via.refl e0 F_c2_s (hb Y d3_1) fun T3166 X3166 e3166 => ?_
  refine fY X3166 hx (pc := 4) 9 (hb Y d3_4) <| iK X3166 hx (z := 0) (hb Y d3_9) <| sN X3166 hx (L' := #[(rv c2), (.val (.long p1)), .second, (iv 0), .unset]) (hb Y d3_10) rfl <| iN X3166 hx (hb Y d3_11) rfl <| iK X3166 hx (z := 1) (hb Y d3_12) <| iA X3166 hx (z := 1) (hb Y d3_13) <| aN X3166 hx (hb Y d3_14) rfl rfl <| gF X3166 hx hZ hO (w31 hw) Via.refl e3166 F_c2_s (hb Y d3_15) fun T3167 X3167 e3167 => ?_
  refine cN X3167 hx (hb Y d3_18) <| aN X3167 hx (hb Y d3_21) rfl rfl <| gF X3167 hx hZ hO (w16 hw) Via.refl e3167 F_c2_t (hb Y d3_22) fun T3168 X3168 e3168 => ?_
  refine aN X3168 hx (hb Y d3_25) rfl rfl <| iN X3168 hx (hb Y d3_26) rfl <| iK X3168 hx (z := 1) (hb Y d3_27) <| iA X3168 hx (z := 1) (hb Y d3_28) <| pV X3168 hx hZ hO (by rw [hml]; rfl) (w44 hw) (w45 hw) (w46 hw) (w7 hw) (w8 hw) (w47 hw) e3168 E_c2 (argsL := [(.int 1)]) (rest := [(.ref c3)]) (q1891 l Z a0 hw [] h0 n0 c2 c3 kc2 _ F_c2_o F_c2_t V_c3) (lenOf pd4 rfl) (hb Y d3_29) fun T3169 L3169 v3169 X3169 hQ3169 => ?_
  obtain ⟨rfl, N3169q, e3169⟩ := hQ3169
  have N3169 := Fr.app N0 N3169q
  refine f_lald X3169 hx hZ e3169 V_c3 (v := (.long 20)) rfl (hb Y d3_32) <| lN X3169 hx (hb Y d3_33) rfl <| lC X3169 hx (z := (lcmpW (20 : Int64) p1)) (hb Y d3_34) (q := rfl) <| fN X3169 hx (hb Y d3_35) (hc := (own_gtF z20)) <| f_iinc X3169 hx (L' := #[(rv c2), (.val (.long p1)), .second, (iv 1), .unset]) (hb Y d3_38) rfl rfl <| gT X3169 hx (pc := 41) 11 (hb Y d3_41) <| iN X3169 hx (hb Y d3_11) rfl <| iK X3169 hx (z := 1) (hb Y d3_12) <| iA X3169 hx (z := 2) (hb Y d3_13) <| aN X3169 hx (hb Y d3_14) rfl rfl <| gF X3169 hx hZ hO (w31 hw) Via.refl e3169 F_c2_s (hb Y d3_15) fun T3172 X3172 e3172 => ?_
  refine cN X3172 hx (hb Y d3_18) <| aN X3172 hx (hb Y d3_21) rfl rfl <| gF X3172 hx hZ hO (w16 hw) Via.refl e3172 F_c2_t (hb Y d3_22) fun T3173 X3173 e3173 => ?_
  refine aN X3173 hx (hb Y d3_25) rfl rfl <| iN X3173 hx (hb Y d3_26) rfl <| iK X3173 hx (z := 1) (hb Y d3_27) <| iA X3173 hx (z := 2) (hb Y d3_28) <| pV X3173 hx hZ hO (by rw [hml]; rfl) (w44 hw) (w45 hw) (w46 hw) (w7 hw) (w8 hw) (w47 hw) e3173 E_c2 (argsL := [(.int 2)]) (rest := [(.ref c3)]) (q443 l Z a0 hw [] h0 n0 c2 c3 kc2 _ F_c2_o F_c2_t V_c3) (lenOf pd4 rfl) (hb Y d3_29) fun T3174 L3174 v3174 X3174 hQ3174 => ?_
  obtain ⟨rfl, N3174q, e3174⟩ := hQ3174
  have N3174 := Fr.app N3169 N3174q
  refine f_lald X3174 hx hZ e3174 V_c3 (v := (.long 30)) rfl (hb Y d3_32) <| lN X3174 hx (hb Y d3_33) rfl <| lC X3174 hx (z := (lcmpW (30 : Int64) p1)) (hb Y d3_34) (q := rfl) <| fN X3174 hx (hb Y d3_35) (hc := (own_gtF z30)) <| f_iinc X3174 hx (L' := #[(rv c2), (.val (.long p1)), .second, (iv 2), .unset]) (hb Y d3_38) rfl rfl <| gT X3174 hx (pc := 41) 11 (hb Y d3_41) <| iN X3174 hx (hb Y d3_11) rfl <| iK X3174 hx (z := 1) (hb Y d3_12) <| iA X3174 hx (z := 3) (hb Y d3_13) <| aN X3174 hx (hb Y d3_14) rfl rfl <| gF X3174 hx hZ hO (w31 hw) Via.refl e3174 F_c2_s (hb Y d3_15) fun T3177 X3177 e3177 => ?_
  refine cY X3177 hx (pc := 18) 44 (hb Y d3_18) <| aN X3177 hx (hb Y d3_44) rfl rfl <| iN X3177 hx (hb Y d3_45) rfl <| pV X3177 hx hZ hO (by rw [hml]; rfl) (w44 hw) (w45 hw) (w46 hw) (w7 hw) (w8 hw) (w47 hw) e3177 E_c2 (argsL := [(.int 2)]) (rest := []) (q443 l Z a0 hw [] h0 n0 c2 c3 kc2 _ F_c2_o F_c2_t V_c3) (lenOf pd4 rfl) (hb Y d3_46) fun T3178 L3178 v3178 X3178 hQ3178 => ?_
  obtain ⟨rfl, N3178q, e3178⟩ := hQ3178
  have N3178 := Fr.app N3174 N3178q
  refine iS X3178 hx (L' := #[(rv c2), (.val (.long p1)), .second, (iv 2), (iv 2)]) (hb Y d3_49) rfl <| aN X3178 hx (hb Y d3_51) rfl rfl <| gF X3178 hx hZ hO (w16 hw) Via.refl e3178 F_c2_t (hb Y d3_52) fun T3181 X3181 e3181 => ?_
  refine iL X3181 hx (hb Y d3_55) rfl <| f_lald X3181 hx hZ e3181 V_c3 (v := (.long 30)) rfl (hb Y d3_57) <| lN X3181 hx (hb Y d3_58) rfl <| lC X3181 hx (z := (lcmpW (30 : Int64) p1)) (hb Y d3_59) (q := rfl) <| fN X3181 hx (hb Y d3_60) (hc := (own_gtF z30)) <| aN X3181 hx (hb Y d3_63) rfl rfl <| gF X3181 hx hZ hO (w20 hw) Via.refl e3181 F_c2_r (hb Y d3_64) fun T3182 X3182 e3182 => ?_
  refine iL X3182 hx (hb Y d3_67) rfl <| f_aald X3182 hx hZ e3182 V_c4 rfl (v := r2) rfl (hb Y d3_69) <| f_ifnonnullNv X3182 hx nv_r2 (hb Y d3_70) <| f_iinc X3182 hx (L' := #[(rv c2), (.val (.long p1)), .second, (iv 3), (iv 2)]) (hb Y d3_73) rfl rfl <| aN X3182 hx (hb Y d3_76) rfl rfl <| iN X3182 hx (hb Y d3_77) rfl ?_
  have P3333 : St49 Z h0 n0 c1 c2 c3 c4 c5 kc1 kc2 kc3 kc4 (10 : Int64) (20 : Int64) (30 : Int64) (0 : Int64) r0 r1 r2 .null := ⟨E_c1, V_c1, O_c1, E_c2, F_c2_t, F_c2_r, F_c2_c, F_c2_s, F_c2_o, V_c3, E_c4, V_c4, O_c4, E_c5, V_c5, O_c5, g_c1, lt_c1_c2, lt_c2_c3, lt_c3_c4, lt_c4_c5, rf_r0, rw_r0, rf_r1, rw_r1, rf_r2, rw_r2, rfl, (Or.inl rfl)⟩
  refine pV X3182 hx hZ hO (by rw [hml]; rfl) (w52 hw) (w53 hw) (w54 hw) (w7 hw) (w8 hw) (w55 hw) e3182 E_c2 (argsL := [(.int 3)]) (rest := []) (m3326 l Z a0 hw [] h0 n0 c1 c2 c3 c4 c5 kc1 kc2 kc3 kc4 (10 : Int64) (20 : Int64) (30 : Int64) (0 : Int64) r0 r1 r2 .null P3333) (lenOf pd6 rfl) (hb Y d3_78) fun T3183 L3183 v3183 X3183 hQ3183 => ?_
  obtain ⟨rfl, N3183q, kb3327, b3328, kb3329, b3330, kb3331, b3332, P3183⟩ := hQ3183
  obtain ⟨E_c1, V_c1, O_c1, E_c2, F_c2_t, F_c2_r, F_c2_c, F_c2_s, F_c2_o, V_c3, E_c4, V_c4, O_c4, E_c5, V_c5, O_c5, V_b3328, E_b3330, V_b3330, O_b3330, E_b3332, V_b3332, O_b3332, g_c1, lt_c1_c2, lt_c2_c3, lt_c3_c4, lt_c4_c5, lt_c5_b3328, lt_b3328_b3330, lt_b3330_b3332, _, _, _, _, _, _, _, _⟩ := id P3183
  have N3183 := Fr.app N3178 N3183q
  refine aN X3183 hx (hb Y d3_81) rfl rfl <| gF X3183 hx hZ hO (w31 hw) Via.refl rfl F_c2_s (hb Y d3_82) fun T3334 X3334 e3334 => ?_
  refine fN X3334 hx (hb Y d3_85) <| iK X3334 hx (z := 1) (hb Y d3_88) <| gT X3334 hx (pc := 89) 93 (hb Y d3_89) ?_
  exact f_ret X3334 hx hlk (i := .ireturn) hret rfl (Or.inl ⟨rfl, Or.inr (Or.inl rfl), _, rfl⟩) (hb Y d3_93) (QQ := (Qm3335 Z n0 c1 c2 c3 c4 c5 kc1 kc2 kc3 kc4 r0 r1 r2 t0 t1 t2 t3 t4 mm p1)) (by rw [e3334]; exact ⟨rfl, N3183, kb3327, b3328, kb3329, b3330, kb3331, b3332, E_c1, V_c1, O_c1, E_c2, F_c2_t, F_c2_r, F_c2_c, F_c2_s, F_c2_o, V_c3, E_c4, V_c4, O_c4, E_c5, V_c5, O_c5, V_b3328, E_b3330, V_b3330, O_b3330, E_b3332, V_b3332, O_b3332, g_c1, lt_c1_c2, lt_c2_c3, lt_c3_c4, lt_c4_c5, lt_c5_b3328, lt_b3328_b3330, lt_b3330_b3332, ht0, ht1, ht2, ht3, ht4, rf_r0, rw_r0, rb_r0, rf_r1, rw_r1, rb_r1, rf_r2, rw_r2, rb_r2, hm3, nv_r2, z10, z20, z30, tv2⟩) (by decide) (by decide)
def St84 (Z : State) (h : Heap) (n0 : Nat) (c1 : Nat) (c2 : Nat) (c3 : Nat) (c4 : Nat) (c5 : Nat) (kc1 : ClassId) (kc2 : ClassId) (kc3 : ClassId) (kc4 : ClassId) (t0 : Int32) (t1 : Int32) (t2 : Int32) (t3 : Int32) (t4 : Int32) (r0 : Value) (r1 : Value) (r2 : Value) : Prop :=
  xO Z h c1 ∧
  Arv Z h c1 kc1 (.object "java/lang/Object") 1 [.null] .null ∧
  Ovr Z kc1 "java/lang/Object" ∧
  Exa Z h c2 cV ∧
  fT Z h c2 (.ref c3) ∧
  fR Z h c2 (.ref c4) ∧
  fC Z h c2 (.ref c5) ∧
  fS Z h c2 (.int 0) ∧
  fO Z h c2 (.int 0) ∧
  aL Z h c3 kc2 2 [(.long 0), (.long 0)] ∧
  xR Z h c4 ∧
  aR Z h c4 kc3 2 [.null, .null] ∧
  oR Z kc3 ∧
  xC Z h c5 ∧
  aC Z h c5 kc4 2 [.null, .null] ∧
  oC Z kc4 ∧
  n0 ≤ c1 ∧
  c1 < c2 ∧
  c2 < c3 ∧
  c3 < c4 ∧
  c4 < c5 ∧
  (t0 = (0 : Int32) ∨ t0 = (1 : Int32)) ∧
  (t1 = (0 : Int32) ∨ t1 = (1 : Int32)) ∧
  (t2 = (0 : Int32) ∨ t2 = (1 : Int32)) ∧
  (t3 = (0 : Int32) ∨ t3 = (1 : Int32)) ∧
  (t4 = (0 : Int32) ∨ t4 = (1 : Int32)) ∧
  r0.isRef = true ∧
  (r0 = .null ∨ r0 = .ref c1) ∧
  ((t0 = (0 : Int32) ∧ r0 = .ref c1) ∨ (t0 = (1 : Int32) ∧ r0 = .null)) ∧
  r1.isRef = true ∧
  (r1 = .null ∨ r1 = .ref c1) ∧
  ((t1 = (0 : Int32) ∧ r1 = .ref c1) ∨ (t1 = (1 : Int32) ∧ r1 = .null)) ∧
  r2.isRef = true ∧
  (r2 = .null ∨ r2 = .ref c1) ∧
  ((t2 = (0 : Int32) ∧ r2 = .ref c1) ∨ (t2 = (1 : Int32) ∧ r2 = .null))
theorem D0_47  (c1 : Nat) (c2 : Nat) (c3 : Nat) (c4 : Nat) (c5 : Nat) (kc1 : ClassId) (kc2 : ClassId) (kc3 : ClassId) (kc4 : ClassId) (t0 : Int32) (t1 : Int32) (t2 : Int32) (t3 : Int32) (t4 : Int32) (r0 : Value) (r1 : Value) (r2 : Value) (p0 : Int32) (p1 : Int64) (X0 : Stand p l e room_1 s m args below meth c T0 locs 11 31) (G : SG p s m meth c Z a0) (e0 : T0.heap = h0) (N0 : Fr n0 locs) (P : St84 Z h0 n0 c1 c2 c3 c4 c5 kc1 kc2 kc3 kc4 t0 t1 t2 t3 t4 r0 r1 r2) (hk0 : ∀ (T' : State) (locs' : List Loc), Stand p l e room_1 s m args below meth c T' locs' 11 31 → Fr n0 locs' → EndsSo p e below (LQ s n0) T' (mkF m 209 (FL p0 p1 3 0 t0 t1 t2 t3 t4 c1 c2 (iv 0) .unset .unset .unset .unset .unset) [])) :
    EndsSo p e below (LQ s n0) T0 (mkF m 150 (FL p0 p1 3 0 t0 t1 t2 t3 t4 c1 c2 .unset .unset .unset .unset .unset .unset) []) := by
  obtain ⟨hx, hZ, hw, Y, hml, hO, hlk, hret⟩ := id G
  obtain ⟨E_c1, V_c1, O_c1, E_c2, F_c2_t, F_c2_r, F_c2_c, F_c2_s, F_c2_o, V_c3, E_c4, V_c4, O_c4, E_c5, V_c5, O_c5, g_c1, lt_c1_c2, lt_c2_c3, lt_c3_c4, lt_c4_c5, ht0, ht1, ht2, ht3, ht4, rf_r0, rw_r0, rb_r0, rf_r1, rw_r1, rb_r1, rf_r2, rw_r2, rb_r2⟩ := id P
  refine iL X0 hx (hb Y at_150) rfl <| iK X0 hx (z := 1) (hb Y at_152) <| cY X0 hx (pc := 153) 176 (hb Y at_153) <| iL X0 hx (hb Y at_176) rfl <| iK X0 hx (z := 2) (hb Y at_178) <| cY X0 hx (pc := 179) 202 (hb Y at_179) <| aA X0 hx (hb Y at_202) rfl rfl <| vV X0 hx hZ hO (by rw [hml]; rfl) (w33 hw) (w34 hw) (w36 hw) (w35 hw) (w8 hw) (w37 hw) e0 E_c2 (argsL := []) (rest := []) (q37 l Z a0 hw [] h0 n0 c2 F_c2_s) (lenOf pd3 rfl) (hb Y at_204) fun T3343 L3343 v3343 X3343 hQ3343 => ?_
  obtain ⟨rfl, N3343q, e3343⟩ := hQ3343
  have N3343 := Fr.app N0 N3343q
  refine iS X3343 hx (L' := (FL p0 p1 3 0 t0 t1 t2 t3 t4 c1 c2 (iv 0) .unset .unset .unset .unset .unset)) (hb Y at_207) rfl ?_
  exact hk0 _ _ X3343 N3343
theorem F1_15  {cells slots : Nat} (p0 : Int32) (p1 : Int64) (mm : Int32) (gg : Int32) (t0 : Int32) (t1 : Int32) (t2 : Int32) (t3 : Int32) (t4 : Int32) (c1 : Nat) (c2 : Nat) (X0 : Stand p l e room_1 s m args below meth c T0 locs cells slots) (G : SG p s m meth c Z a0) (z20 : ¬ p1 < (20 : Int64)) (z30 : ¬ p1 < (30 : Int64)) (tv2 : t2 = (1 : Int32)) (h : EndsSo p e below (LQ s n0) T0 (mkF m 303 (FL p0 p1 3 mm t0 t1 t2 t3 t4 c1 c2 (iv gg) (iv 3) (iv t2) (.val (.long 30)) .second .unset) [])) :
    EndsSo p e below (LQ s n0) T0 (mkF m 209 (FL p0 p1 3 mm t0 t1 t2 t3 t4 c1 c2 (iv gg) .unset .unset .unset .unset .unset) []) := by
  obtain ⟨hx, hZ, hw, Y, hml, hO, hlk, hret⟩ := id G
  refine iK X0 hx (z := 0) (hb Y at_209) <| iS X0 hx (L' := (FL p0 p1 3 mm t0 t1 t2 t3 t4 c1 c2 (iv gg) (iv 0) .unset .unset .unset .unset)) (hb Y at_210) rfl <| iN X0 hx (hb Y at_212) rfl <| iK X0 hx (z := 2) (hb Y at_213) <| cN X0 hx (hb Y at_214) <| lN X0 hx (hb Y at_217) rfl <| f_ldc2 X0 hx hZ hO (w51 hw) (hb Y at_218) <| lC X0 hx (z := (lcmpW p1 (20 : Int64))) (hb Y at_221) (q := rfl) <| fN X0 hx (hb Y at_222) (hc := (own_ltF z20)) <| iK X0 hx (z := 1) (hb Y at_225) <| iS X0 hx (L' := (FL p0 p1 3 mm t0 t1 t2 t3 t4 c1 c2 (iv gg) (iv 1) .unset .unset .unset .unset)) (hb Y at_226) rfl <| iN X0 hx (hb Y at_228) rfl <| iK X0 hx (z := 3) (hb Y at_229) <| cN X0 hx (hb Y at_230) <| lN X0 hx (hb Y at_233) rfl <| f_ldc2 X0 hx hZ hO (w57 hw) (hb Y at_234) <| lC X0 hx (z := (lcmpW p1 (30 : Int64))) (hb Y at_237) (q := rfl) <| fN X0 hx (hb Y at_238) (hc := (own_ltF z30)) <| iK X0 hx (z := 2) (hb Y at_241) <| iS X0 hx (L' := (FL p0 p1 3 mm t0 t1 t2 t3 t4 c1 c2 (iv gg) (iv 2) .unset .unset .unset .unset)) (hb Y at_242) rfl <| iN X0 hx (hb Y at_244) rfl <| iK X0 hx (z := 1) (hb Y at_245) <| cN X0 hx (hb Y at_246) <| iL X0 hx (hb Y at_249) rfl <| fY X0 hx (pc := 251) 259 (hb Y at_251) <| iL X0 hx (hb Y at_259) rfl <| iK X0 hx (z := 1) (hb Y at_261) <| cY X0 hx (pc := 262) 270 (hb Y at_262) <| iL X0 hx (hb Y at_270) rfl <| iS X0 hx (L' := (FL p0 p1 3 mm t0 t1 t2 t3 t4 c1 c2 (iv gg) (iv 2) (iv t2) .unset .unset .unset)) (hb Y at_272) rfl <| f_ldc2 X0 hx hZ hO (w38 hw) (hb Y at_274) <| iL X0 hx (hb Y at_277) rfl <| iK X0 hx (z := 1) (hb Y at_279) <| iA X0 hx (z := 3) (hb Y at_280) <| f_i2l X0 hx (z := 3) (hb Y at_281) <| f_lmul X0 hx (z := 30) (hb Y at_282) <| f_lstore X0 hx (L' := (FL p0 p1 3 mm t0 t1 t2 t3 t4 c1 c2 (iv gg) (iv 2) (iv t2) (.val (.long 30)) .second .unset)) (hb Y at_283) rfl <| f_lload X0 hx (hb Y at_285) rfl <| lN X0 hx (hb Y at_287) rfl <| lC X0 hx (z := (lcmpW (30 : Int64) p1)) (hb Y at_288) (q := rfl) <| fN X0 hx (hb Y at_289) (hc := (own_gtF z30)) <| iL X0 hx (hb Y at_292) rfl <| fN X0 hx (hb Y at_294) (hc := (own_eq1 tv2)) <| iL X0 hx (hb Y at_297) rfl <| iK X0 hx (z := 1) (hb Y at_299) <| iA X0 hx (z := 3) (hb Y at_300) <| iS X0 hx (L' := (FL p0 p1 3 mm t0 t1 t2 t3 t4 c1 c2 (iv gg) (iv 3) (iv t2) (.val (.long 30)) .second .unset)) (hb Y at_301) rfl ?_
  exact h
theorem F2_42  {cells slots : Nat} (p0 : Int32) (p1 : Int64) (t0 : Int32) (t1 : Int32) (t2 : Int32) (t3 : Int32) (t4 : Int32) (c1 : Nat) (c2 : Nat) (X0 : Stand p l e room_1 s m args below meth c T0 locs cells slots) (G : SG p s m meth c Z a0) (N0 : Fr n0 locs) (hK : cells ≤ room_1.cells) (hN : slots ≤ room_1.slots) :
    EndsSo p e below (LQ s n0) T0 (mkF m 303 (FL p0 p1 3 0 t0 t1 t2 t3 t4 c1 c2 (iv 0) (iv 3) (iv t2) (.val (.long 30)) .second .unset) []) := by
  obtain ⟨hx, hZ, hw, Y, hml, hO, hlk, hret⟩ := id G
  refine iN X0 hx (hb Y at_303) rfl <| iL X0 hx (hb Y at_304) rfl <| iB X0 hx (z := 0) (hb Y at_306) <| iS X0 hx (L' := (FL p0 p1 3 0 t0 t1 t2 t3 t4 c1 c2 (iv 0) (iv 3) (iv 0) (.val (.long 30)) .second .unset)) (hb Y at_307) rfl <| iL X0 hx (hb Y at_309) rfl <| iL X0 hx (hb Y at_311) rfl <| iA X0 hx (z := 0) (hb Y at_313) <| iS X0 hx (L' := (FL p0 p1 3 0 t0 t1 t2 t3 t4 c1 c2 (iv 0) (iv 3) (iv 0) (iv 0) .unset .unset)) (hb Y at_314) rfl <| iL X0 hx (hb Y at_316) rfl <| iK X0 hx (z := 1) (hb Y at_318) <| cY X0 hx (pc := 319) 348 (hb Y at_319) <| iL X0 hx (hb Y at_348) rfl <| iS X0 hx (L' := (FL p0 p1 3 0 t0 t1 t2 t3 t4 c1 c2 (iv 0) (iv 3) (iv 0) (iv 0) (iv t3) .unset)) (hb Y at_350) rfl <| iL X0 hx (hb Y at_352) rfl <| iK X0 hx (z := 1) (hb Y at_354) <| cN X0 hx (hb Y at_355) <| iL X0 hx (hb Y at_358) rfl <| iK X0 hx (z := 1) (hb Y at_360) <| cY X0 hx (pc := 361) 373 (hb Y at_361) <| iK X0 hx (z := 0) (hb Y at_373) <| iS X0 hx (L' := (FL p0 p1 3 0 t0 t1 t2 t3 t4 c1 c2 (iv 0) (iv 3) (iv 0) (iv 0) (iv t3) (iv 0))) (hb Y at_374) rfl <| iL X0 hx (hb Y at_376) rfl <| iL X0 hx (hb Y at_378) rfl <| cN X0 hx (hb Y at_380) <| iK X0 hx (z := 1) (hb Y at_383) <| gT X0 hx (pc := 384) 388 (hb Y at_384) ?_
  exact f_ret X0 hx hlk (i := .ireturn) hret rfl (Or.inl ⟨rfl, Or.inr (Or.inl rfl), _, rfl⟩) (hb Y at_388) (QQ := (QL n0)) ⟨rfl, N0⟩ hK hN
theorem D1_48  (c1 : Nat) (c2 : Nat) (c3 : Nat) (c4 : Nat) (c5 : Nat) (kc1 : ClassId) (kc2 : ClassId) (kc3 : ClassId) (kc4 : ClassId) (t0 : Int32) (t1 : Int32) (t2 : Int32) (t3 : Int32) (t4 : Int32) (r0 : Value) (r1 : Value) (r2 : Value) (p0 : Int32) (p1 : Int64) (X0 : Stand p l e room_1 s m args below meth c T0 locs 11 31) (G : SG p s m meth c Z a0) (e0 : T0.heap = h0) (N0 : Fr n0 locs) (P : St84 Z h0 n0 c1 c2 c3 c4 c5 kc1 kc2 kc3 kc4 t0 t1 t2 t3 t4 r0 r1 r2) (hk0 : t3 = (0 : Int32) → ∀ (T' : State) (locs' : List Loc), Stand p l e room_1 s m args below meth c T' locs' 11 31 → Fr n0 locs' → EndsSo p e below (LQ s n0) T' (mkF m 209 (FL p0 p1 3 1 t0 t1 t2 t3 t4 c1 c2 (iv 0) .unset .unset .unset .unset .unset) [])) (hk1 : t3 = (1 : Int32) → ∀ (T' : State) (locs' : List Loc), Stand p l e room_1 s m args below meth c T' locs' 11 31 → Fr n0 locs' → EndsSo p e below (LQ s n0) T' (mkF m 209 (FL p0 p1 3 1 t0 t1 t2 t3 t4 c1 c2 (iv 1) .unset .unset .unset .unset .unset) [])) :
    EndsSo p e below (LQ s n0) T0 (mkF m 150 (FL p0 p1 3 1 t0 t1 t2 t3 t4 c1 c2 .unset .unset .unset .unset .unset .unset) []) := by
  obtain ⟨hx, hZ, hw, Y, hml, hO, hlk, hret⟩ := id G
  obtain ⟨E_c1, V_c1, O_c1, E_c2, F_c2_t, F_c2_r, F_c2_c, F_c2_s, F_c2_o, V_c3, E_c4, V_c4, O_c4, E_c5, V_c5, O_c5, g_c1, lt_c1_c2, lt_c2_c3, lt_c3_c4, lt_c4_c5, ht0, ht1, ht2, ht3, ht4, rf_r0, rw_r0, rb_r0, rf_r1, rw_r1, rb_r1, rf_r2, rw_r2, rb_r2⟩ := id P
  refine iL X0 hx (hb Y at_150) rfl <| iK X0 hx (z := 1) (hb Y at_152) <| cN X0 hx (hb Y at_153) <| aA X0 hx (hb Y at_156) rfl rfl <| f_ldc2 X0 hx hZ hO (w56 hw) (hb Y at_158) <| iL X0 hx (hb Y at_161) rfl <| own_mrg X0 hx (row := c1) ht3 (pc := 163) (hb Y at_163) (hb Y at_170) (hb Y at_166) (hb Y at_167) rfl fun r3 rf_r3 rw_r3 rb_r3 => ?_
  refine f_null X0 hx (hb Y at_172) ?_
  have P3362 : St4 Z h0 n0 c1 c2 c3 c4 c5 kc1 kc2 kc3 kc4 (0 : Int64) (0 : Int64) .null .null r3 := ⟨E_c1, V_c1, O_c1, E_c2, F_c2_t, F_c2_r, F_c2_c, F_c2_s, F_c2_o, V_c3, E_c4, V_c4, O_c4, E_c5, V_c5, O_c5, g_c1, lt_c1_c2, lt_c2_c3, lt_c3_c4, lt_c4_c5, rfl, (Or.inl rfl), rfl, (Or.inl rfl), rf_r3, rw_r3⟩
  refine vV X0 hx hZ hO (by rw [hml]; rfl) (w39 hw) (w40 hw) (w42 hw) (w41 hw) (w8 hw) (w43 hw) e0 E_c2 (argsL := [(.long 40), r3, .null]) (rest := []) (m70 l Z a0 hw [] h0 n0 c1 c2 c3 c4 c5 kc1 kc2 kc3 kc4 (0 : Int64) (0 : Int64) .null .null r3 (40 : Int64) P3362) (lenOf pd5 rfl) (hb Y at_173) fun T3347 L3347 v3347 X3347 hQ3347 => ?_
  obtain ⟨rfl, N3347q, P3347⟩ := hQ3347
  obtain ⟨E_c1, V_c1, O_c1, E_c2, F_c2_t, F_c2_r, F_c2_c, F_c2_s, F_c2_o, V_c3, E_c4, V_c4, O_c4, E_c5, V_c5, O_c5, g_c1, lt_c1_c2, lt_c2_c3, lt_c3_c4, lt_c4_c5, _, _, _, _, _, _⟩ := id P3347
  have N3347 := Fr.app N0 N3347q
  refine iL X3347 hx (hb Y at_176) rfl <| iK X3347 hx (z := 2) (hb Y at_178) <| cY X3347 hx (pc := 179) 202 (hb Y at_179) ?_
  rcases id rb_r3 with ⟨tv3, nv_r3⟩ | ⟨tv3, nv_r3⟩
  · refine aA X3347 hx (hb Y at_202) rfl rfl <| vV X3347 hx hZ hO (by rw [hml]; rfl) (w33 hw) (w34 hw) (w36 hw) (w35 hw) (w8 hw) (w37 hw) rfl E_c2 (argsL := []) (rest := []) (q77 l Z a0 hw [] T3347.heap n0 c2 c4 kc3 r3 c1 F_c2_s F_c2_r F_c2_o V_c4 nv_r3) (lenOf pd3 rfl) (hb Y at_204) fun T3363 L3363 v3363 X3363 hQ3363 => ?_
    obtain ⟨rfl, N3363q, e3363⟩ := hQ3363
    have N3363 := Fr.app N3347 N3363q
    refine iS X3363 hx (L' := (FL p0 p1 3 1 t0 t1 t2 t3 t4 c1 c2 (iv 0) .unset .unset .unset .unset .unset)) (hb Y at_207) rfl ?_
    exact hk0 tv3 _ _ X3363 N3363
  · refine aA X3347 hx (hb Y at_202) rfl rfl <| vV X3347 hx hZ hO (by rw [hml]; rfl) (w33 hw) (w34 hw) (w36 hw) (w35 hw) (w8 hw) (w37 hw) rfl E_c2 (argsL := []) (rest := []) (q83 l Z a0 hw [] T3347.heap n0 c2 c4 kc3 r3 F_c2_s F_c2_r F_c2_o V_c4 nv_r3) (lenOf pd3 rfl) (hb Y at_204) fun T3368 L3368 v3368 X3368 hQ3368 => ?_
    obtain ⟨rfl, N3368q, e3368⟩ := hQ3368
    have N3368 := Fr.app N3347 N3368q
    refine iS X3368 hx (L' := (FL p0 p1 3 1 t0 t1 t2 t3 t4 c1 c2 (iv 1) .unset .unset .unset .unset .unset)) (hb Y at_207) rfl ?_
    exact hk1 tv3 _ _ X3368 N3368
theorem F2_43  {cells slots : Nat} (p0 : Int32) (p1 : Int64) (t0 : Int32) (t1 : Int32) (t2 : Int32) (t3 : Int32) (t4 : Int32) (c1 : Nat) (c2 : Nat) (X0 : Stand p l e room_1 s m args below meth c T0 locs cells slots) (G : SG p s m meth c Z a0) (tv3 : t3 = (0 : Int32)) (N0 : Fr n0 locs) (hK : cells ≤ room_1.cells) (hN : slots ≤ room_1.slots) :
    EndsSo p e below (LQ s n0) T0 (mkF m 303 (FL p0 p1 3 1 t0 t1 t2 t3 t4 c1 c2 (iv 0) (iv 3) (iv t2) (.val (.long 30)) .second .unset) []) := by
  obtain ⟨hx, hZ, hw, Y, hml, hO, hlk, hret⟩ := id G
  refine iN X0 hx (hb Y at_303) rfl <| iL X0 hx (hb Y at_304) rfl <| iB X0 hx (z := 0) (hb Y at_306) <| iS X0 hx (L' := (FL p0 p1 3 1 t0 t1 t2 t3 t4 c1 c2 (iv 0) (iv 3) (iv 0) (.val (.long 30)) .second .unset)) (hb Y at_307) rfl <| iL X0 hx (hb Y at_309) rfl <| iL X0 hx (hb Y at_311) rfl <| iA X0 hx (z := 1) (hb Y at_313) <| iS X0 hx (L' := (FL p0 p1 3 1 t0 t1 t2 t3 t4 c1 c2 (iv 0) (iv 3) (iv 0) (iv 1) .unset .unset)) (hb Y at_314) rfl <| iL X0 hx (hb Y at_316) rfl <| iK X0 hx (z := 1) (hb Y at_318) <| cY X0 hx (pc := 319) 348 (hb Y at_319) <| iL X0 hx (hb Y at_348) rfl <| iS X0 hx (L' := (FL p0 p1 3 1 t0 t1 t2 t3 t4 c1 c2 (iv 0) (iv 3) (iv 0) (iv 1) (iv t3) .unset)) (hb Y at_350) rfl <| iL X0 hx (hb Y at_352) rfl <| iK X0 hx (z := 1) (hb Y at_354) <| cN X0 hx (hb Y at_355) <| iL X0 hx (hb Y at_358) rfl <| iK X0 hx (z := 1) (hb Y at_360) <| cN X0 hx (hb Y at_361) <| iL X0 hx (hb Y at_364) rfl <| fY X0 hx (pc := 366) 373 (hb Y at_366) (hc := (own_eqT tv3)) <| iK X0 hx (z := 0) (hb Y at_373) <| iS X0 hx (L' := (FL p0 p1 3 1 t0 t1 t2 t3 t4 c1 c2 (iv 0) (iv 3) (iv 0) (iv 1) (iv t3) (iv 0))) (hb Y at_374) rfl <| iL X0 hx (hb Y at_376) rfl <| iL X0 hx (hb Y at_378) rfl <| cN X0 hx (hb Y at_380) <| iK X0 hx (z := 1) (hb Y at_383) <| gT X0 hx (pc := 384) 388 (hb Y at_384) ?_
  exact f_ret X0 hx hlk (i := .ireturn) hret rfl (Or.inl ⟨rfl, Or.inr (Or.inl rfl), _, rfl⟩) (hb Y at_388) (QQ := (QL n0)) ⟨rfl, N0⟩ hK hN
theorem F2_44  {cells slots : Nat} (p0 : Int32) (p1 : Int64) (t0 : Int32) (t1 : Int32) (t2 : Int32) (t3 : Int32) (t4 : Int32) (c1 : Nat) (c2 : Nat) (X0 : Stand p l e room_1 s m args below meth c T0 locs cells slots) (G : SG p s m meth c Z a0) (tv3 : t3 = (1 : Int32)) (N0 : Fr n0 locs) (hK : cells ≤ room_1.cells) (hN : slots ≤ room_1.slots) :
    EndsSo p e below (LQ s n0) T0 (mkF m 303 (FL p0 p1 3 1 t0 t1 t2 t3 t4 c1 c2 (iv 1) (iv 3) (iv t2) (.val (.long 30)) .second .unset) []) := by
  obtain ⟨hx, hZ, hw, Y, hml, hO, hlk, hret⟩ := id G
  refine iN X0 hx (hb Y at_303) rfl <| iL X0 hx (hb Y at_304) rfl <| iB X0 hx (z := 0) (hb Y at_306) <| iS X0 hx (L' := (FL p0 p1 3 1 t0 t1 t2 t3 t4 c1 c2 (iv 1) (iv 3) (iv 0) (.val (.long 30)) .second .unset)) (hb Y at_307) rfl <| iL X0 hx (hb Y at_309) rfl <| iL X0 hx (hb Y at_311) rfl <| iA X0 hx (z := 1) (hb Y at_313) <| iS X0 hx (L' := (FL p0 p1 3 1 t0 t1 t2 t3 t4 c1 c2 (iv 1) (iv 3) (iv 0) (iv 1) .unset .unset)) (hb Y at_314) rfl <| iL X0 hx (hb Y at_316) rfl <| iK X0 hx (z := 1) (hb Y at_318) <| cY X0 hx (pc := 319) 348 (hb Y at_319) <| iL X0 hx (hb Y at_348) rfl <| iS X0 hx (L' := (FL p0 p1 3 1 t0 t1 t2 t3 t4 c1 c2 (iv 1) (iv 3) (iv 0) (iv 1) (iv t3) .unset)) (hb Y at_350) rfl <| iL X0 hx (hb Y at_352) rfl <| iK X0 hx (z := 1) (hb Y at_354) <| cN X0 hx (hb Y at_355) <| iL X0 hx (hb Y at_358) rfl <| iK X0 hx (z := 1) (hb Y at_360) <| cN X0 hx (hb Y at_361) <| iL X0 hx (hb Y at_364) rfl <| fN X0 hx (hb Y at_366) (hc := (own_eq1 tv3)) <| iK X0 hx (z := 1) (hb Y at_369) <| gT X0 hx (pc := 370) 374 (hb Y at_370) <| iS X0 hx (L' := (FL p0 p1 3 1 t0 t1 t2 t3 t4 c1 c2 (iv 1) (iv 3) (iv 0) (iv 1) (iv t3) (iv 1))) (hb Y at_374) rfl <| iL X0 hx (hb Y at_376) rfl <| iL X0 hx (hb Y at_378) rfl <| cN X0 hx (hb Y at_380) <| iK X0 hx (z := 1) (hb Y at_383) <| gT X0 hx (pc := 384) 388 (hb Y at_384) ?_
  exact f_ret X0 hx hlk (i := .ireturn) hret rfl (Or.inl ⟨rfl, Or.inr (Or.inl rfl), _, rfl⟩) (hb Y at_388) (QQ := (QL n0)) ⟨rfl, N0⟩ hK hN
theorem D2_49  (c1 : Nat) (c2 : Nat) (c3 : Nat) (c4 : Nat) (c5 : Nat) (kc1 : ClassId) (kc2 : ClassId) (kc3 : ClassId) (kc4 : ClassId) (t0 : Int32) (t1 : Int32) (t2 : Int32) (t3 : Int32) (t4 : Int32) (r0 : Value) (r1 : Value) (r2 : Value) (p0 : Int32) (p1 : Int64) (X0 : Stand p l e room_1 s m args below meth c T0 locs 11 31) (G : SG p s m meth c Z a0) (e0 : T0.heap = h0) (N0 : Fr n0 locs) (P : St84 Z h0 n0 c1 c2 c3 c4 c5 kc1 kc2 kc3 kc4 t0 t1 t2 t3 t4 r0 r1 r2) (hk0 : ∀ (T' : State) (locs' : List Loc), Stand p l e room_1 s m args below meth c T' locs' 11 31 → Fr n0 locs' → EndsSo p e below (LQ s n0) T' (mkF m 209 (FL p0 p1 3 2 t0 t1 t2 t3 t4 c1 c2 (iv 1) .unset .unset .unset .unset .unset) [])) :
    EndsSo p e below (LQ s n0) T0 (mkF m 150 (FL p0 p1 3 2 t0 t1 t2 t3 t4 c1 c2 .unset .unset .unset .unset .unset .unset) []) := by
  obtain ⟨hx, hZ, hw, Y, hml, hO, hlk, hret⟩ := id G
  obtain ⟨E_c1, V_c1, O_c1, E_c2, F_c2_t, F_c2_r, F_c2_c, F_c2_s, F_c2_o, V_c3, E_c4, V_c4, O_c4, E_c5, V_c5, O_c5, g_c1, lt_c1_c2, lt_c2_c3, lt_c3_c4, lt_c4_c5, ht0, ht1, ht2, ht3, ht4, rf_r0, rw_r0, rb_r0, rf_r1, rw_r1, rb_r1, rf_r2, rw_r2, rb_r2⟩ := id P
  refine iL X0 hx (hb Y at_150) rfl <| iK X0 hx (z := 1) (hb Y at_152) <| cN X0 hx (hb Y at_153) <| aA X0 hx (hb Y at_156) rfl rfl <| f_ldc2 X0 hx hZ hO (w56 hw) (hb Y at_158) <| iL X0 hx (hb Y at_161) rfl <| own_mrg X0 hx (row := c1) ht3 (pc := 163) (hb Y at_163) (hb Y at_170) (hb Y at_166) (hb Y at_167) rfl fun r3 rf_r3 rw_r3 rb_r3 => ?_
  refine f_null X0 hx (hb Y at_172) ?_
  have P3389 : St4 Z h0 n0 c1 c2 c3 c4 c5 kc1 kc2 kc3 kc4 (0 : Int64) (0 : Int64) .null .null r3 := ⟨E_c1, V_c1, O_c1, E_c2, F_c2_t, F_c2_r, F_c2_c, F_c2_s, F_c2_o, V_c3, E_c4, V_c4, O_c4, E_c5, V_c5, O_c5, g_c1, lt_c1_c2, lt_c2_c3, lt_c3_c4, lt_c4_c5, rfl, (Or.inl rfl), rfl, (Or.inl rfl), rf_r3, rw_r3⟩
  refine vV X0 hx hZ hO (by rw [hml]; rfl) (w39 hw) (w40 hw) (w42 hw) (w41 hw) (w8 hw) (w43 hw) e0 E_c2 (argsL := [(.long 40), r3, .null]) (rest := []) (m70 l Z a0 hw [] h0 n0 c1 c2 c3 c4 c5 kc1 kc2 kc3 kc4 (0 : Int64) (0 : Int64) .null .null r3 (40 : Int64) P3389) (lenOf pd5 rfl) (hb Y at_173) fun T3374 L3374 v3374 X3374 hQ3374 => ?_
  obtain ⟨rfl, N3374q, P3374⟩ := hQ3374
  obtain ⟨E_c1, V_c1, O_c1, E_c2, F_c2_t, F_c2_r, F_c2_c, F_c2_s, F_c2_o, V_c3, E_c4, V_c4, O_c4, E_c5, V_c5, O_c5, g_c1, lt_c1_c2, lt_c2_c3, lt_c3_c4, lt_c4_c5, _, _, _, _, _, _⟩ := id P3374
  have N3374 := Fr.app N0 N3374q
  refine iL X3374 hx (hb Y at_176) rfl <| iK X3374 hx (z := 2) (hb Y at_178) <| cN X3374 hx (hb Y at_179) <| aA X3374 hx (hb Y at_182) rfl rfl <| f_ldc2 X3374 hx hZ hO (w62 hw) (hb Y at_184) <| iL X3374 hx (hb Y at_187) rfl <| own_mrg X3374 hx (row := c1) ht4 (pc := 189) (hb Y at_189) (hb Y at_196) (hb Y at_192) (hb Y at_193) rfl fun r4 rf_r4 rw_r4 rb_r4 => ?_
  refine f_null X3374 hx (hb Y at_198) ?_
  have P3405 : St6 Z T3374.heap n0 c1 c2 c3 c4 c5 kc1 kc2 kc3 kc4 (40 : Int64) (0 : Int64) r3 .null r4 := ⟨E_c1, V_c1, O_c1, E_c2, F_c2_t, F_c2_r, F_c2_c, F_c2_s, F_c2_o, V_c3, E_c4, V_c4, O_c4, E_c5, V_c5, O_c5, g_c1, lt_c1_c2, lt_c2_c3, lt_c3_c4, lt_c4_c5, rf_r3, rw_r3, rfl, (Or.inl rfl), rf_r4, rw_r4⟩
  refine vV X3374 hx hZ hO (by rw [hml]; rfl) (w39 hw) (w40 hw) (w42 hw) (w41 hw) (w8 hw) (w43 hw) rfl E_c2 (argsL := [(.long 50), r4, .null]) (rest := []) (m132 l Z a0 hw [] T3374.heap n0 c1 c2 c3 c4 c5 kc1 kc2 kc3 kc4 (40 : Int64) (0 : Int64) r3 .null r4 (50 : Int64) P3405) (lenOf pd5 rfl) (hb Y at_199) fun T3390 L3390 v3390 X3390 hQ3390 => ?_
  obtain ⟨rfl, N3390q, P3390⟩ := hQ3390
  obtain ⟨E_c1, V_c1, O_c1, E_c2, F_c2_t, F_c2_r, F_c2_c, F_c2_s, F_c2_o, V_c3, E_c4, V_c4, O_c4, E_c5, V_c5, O_c5, g_c1, lt_c1_c2, lt_c2_c3, lt_c3_c4, lt_c4_c5, _, _, _, _, _, _⟩ := id P3390
  have N3390 := Fr.app N3374 N3390q
  refine aA X3390 hx (hb Y at_202) rfl rfl <| vV X3390 hx hZ hO (by rw [hml]; rfl) (w33 hw) (w34 hw) (w36 hw) (w35 hw) (w8 hw) (w37 hw) rfl E_c2 (argsL := []) (rest := []) (q136 l Z a0 hw [] T3390.heap n0 c2 F_c2_s) (lenOf pd3 rfl) (hb Y at_204) fun T3406 L3406 v3406 X3406 hQ3406 => ?_
  obtain ⟨rfl, N3406q, e3406⟩ := hQ3406
  have N3406 := Fr.app N3390 N3406q
  refine iS X3406 hx (L' := (FL p0 p1 3 2 t0 t1 t2 t3 t4 c1 c2 (iv 1) .unset .unset .unset .unset .unset)) (hb Y at_207) rfl ?_
  exact hk0 _ _ X3406 N3406
theorem F2_45  {cells slots : Nat} (p0 : Int32) (p1 : Int64) (t0 : Int32) (t1 : Int32) (t2 : Int32) (t3 : Int32) (t4 : Int32) (c1 : Nat) (c2 : Nat) (X0 : Stand p l e room_1 s m args below meth c T0 locs cells slots) (G : SG p s m meth c Z a0) (N0 : Fr n0 locs) (hK : cells ≤ room_1.cells) (hN : slots ≤ room_1.slots) :
    EndsSo p e below (LQ s n0) T0 (mkF m 303 (FL p0 p1 3 2 t0 t1 t2 t3 t4 c1 c2 (iv 1) (iv 3) (iv t2) (.val (.long 30)) .second .unset) []) := by
  obtain ⟨hx, hZ, hw, Y, hml, hO, hlk, hret⟩ := id G
  refine iN X0 hx (hb Y at_303) rfl <| iL X0 hx (hb Y at_304) rfl <| iB X0 hx (z := 0) (hb Y at_306) <| iS X0 hx (L' := (FL p0 p1 3 2 t0 t1 t2 t3 t4 c1 c2 (iv 1) (iv 3) (iv 0) (.val (.long 30)) .second .unset)) (hb Y at_307) rfl <| iL X0 hx (hb Y at_309) rfl <| iL X0 hx (hb Y at_311) rfl <| iA X0 hx (z := 2) (hb Y at_313) <| iS X0 hx (L' := (FL p0 p1 3 2 t0 t1 t2 t3 t4 c1 c2 (iv 1) (iv 3) (iv 0) (iv 2) .unset .unset)) (hb Y at_314) rfl <| iL X0 hx (hb Y at_316) rfl <| iK X0 hx (z := 1) (hb Y at_318) <| cY X0 hx (pc := 319) 348 (hb Y at_319) <| iL X0 hx (hb Y at_348) rfl <| iS X0 hx (L' := (FL p0 p1 3 2 t0 t1 t2 t3 t4 c1 c2 (iv 1) (iv 3) (iv 0) (iv 2) (iv t3) .unset)) (hb Y at_350) rfl <| iL X0 hx (hb Y at_352) rfl <| iK X0 hx (z := 1) (hb Y at_354) <| cY X0 hx (pc := 355) 369 (hb Y at_355) <| iK X0 hx (z := 1) (hb Y at_369) <| gT X0 hx (pc := 370) 374 (hb Y at_370) <| iS X0 hx (L' := (FL p0 p1 3 2 t0 t1 t2 t3 t4 c1 c2 (iv 1) (iv 3) (iv 0) (iv 2) (iv t3) (iv 1))) (hb Y at_374) rfl <| iL X0 hx (hb Y at_376) rfl <| iL X0 hx (hb Y at_378) rfl <| cN X0 hx (hb Y at_380) <| iK X0 hx (z := 1) (hb Y at_383) <| gT X0 hx (pc := 384) 388 (hb Y at_384) ?_
  exact f_ret X0 hx hlk (i := .ireturn) hret rfl (Or.inl ⟨rfl, Or.inr (Or.inl rfl), _, rfl⟩) (hb Y at_388) (QQ := (QL n0)) ⟨rfl, N0⟩ hK hN
theorem C3_47  (c1 : Nat) (c2 : Nat) (c3 : Nat) (c4 : Nat) (c5 : Nat) (kc1 : ClassId) (kc2 : ClassId) (kc3 : ClassId) (kc4 : ClassId) (r0 : Value) (r1 : Value) (r2 : Value) (t0 : Int32) (t1 : Int32) (t2 : Int32) (t3 : Int32) (t4 : Int32) (mm : Int32) (p1 : Int64) (p0 : Int32) (X0 : Stand p l e room_1 s m args below meth c T0 locs 8 25) (G : SG p s m meth c Z a0) (e0 : T0.heap = h0) (N0 : Fr n0 locs) (P : St79 Z h0 n0 c1 c2 c3 c4 c5 kc1 kc2 kc3 kc4 r0 r1 r2 t0 t1 t2 t3 t4 mm p1) :
    EndsSo p e below (LQ s n0) T0 (mkF m 143 (FL p0 p1 3 mm t0 t1 t2 t3 t4 c1 c2 .unset .unset .unset .unset .unset .unset) []) := by
  obtain ⟨hx, hZ, hw, Y, hml, hO, hlk, hret⟩ := id G
  obtain ⟨E_c1, V_c1, O_c1, E_c2, F_c2_t, F_c2_r, F_c2_c, F_c2_s, F_c2_o, V_c3, E_c4, V_c4, O_c4, E_c5, V_c5, O_c5, g_c1, lt_c1_c2, lt_c2_c3, lt_c3_c4, lt_c4_c5, ht0, ht1, ht2, ht3, ht4, rf_r0, rw_r0, rb_r0, rf_r1, rw_r1, rb_r1, rf_r2, rw_r2, rb_r2, hm3, nv_r2, z10, z20, z30, tv2⟩ := id P
  refine aA X0 hx (hb Y at_143) rfl rfl <| lN X0 hx (hb Y at_145) rfl ?_
  have P3342 : St79 Z h0 n0 c1 c2 c3 c4 c5 kc1 kc2 kc3 kc4 r0 r1 r2 t0 t1 t2 t3 t4 mm p1 := ⟨E_c1, V_c1, O_c1, E_c2, F_c2_t, F_c2_r, F_c2_c, F_c2_s, F_c2_o, V_c3, E_c4, V_c4, O_c4, E_c5, V_c5, O_c5, g_c1, lt_c1_c2, lt_c2_c3, lt_c3_c4, lt_c4_c5, ht0, ht1, ht2, ht3, ht4, rf_r0, rw_r0, rb_r0, rf_r1, rw_r1, rb_r1, rf_r2, rw_r2, rb_r2, hm3, nv_r2, z10, z20, z30, tv2⟩
  refine vV X0 hx hZ hO (by rw [hml]; rfl) (w26 hw) (w27 hw) (w29 hw) (w28 hw) (w8 hw) (w30 hw) e0 E_c2 (argsL := [(.long p1)]) (rest := []) (m3335 l Z a0 hw [] h0 n0 c1 c2 c3 c4 c5 kc1 kc2 kc3 kc4 r0 r1 r2 t0 t1 t2 t3 t4 mm p1 P3342) (lenOf pd2 rfl) (hb Y at_146) fun T2984 L2984 v2984 X2984 hQ2984 => ?_
  obtain ⟨rfl, N2984q, kb3336, b3337, kb3338, b3339, kb3340, b3341, P2984⟩ := hQ2984
  obtain ⟨E_c1, V_c1, O_c1, E_c2, F_c2_t, F_c2_r, F_c2_c, F_c2_s, F_c2_o, V_c3, E_c4, V_c4, O_c4, E_c5, V_c5, O_c5, V_b3337, E_b3339, V_b3339, O_b3339, E_b3341, V_b3341, O_b3341, g_c1, lt_c1_c2, lt_c2_c3, lt_c3_c4, lt_c4_c5, lt_c5_b3337, lt_b3337_b3339, lt_b3339_b3341, ht0, ht1, ht2, ht3, ht4, rf_r0, rw_r0, rb_r0, rf_r1, rw_r1, rb_r1, rf_r2, rw_r2, rb_r2, hm3, nv_r2, z10, z20, z30, tv2⟩ := id P2984
  have N2984 := Fr.app N0 N2984q
  have lt_c2_b3337 : c2 < b3337 := by omega
  refine f_pop X2984 hx (hb Y at_149) rfl ?_
  rcases id hm3 with rfl | rfl | rfl
  · have P3346 : St84 Z T2984.heap n0 c1 c2 b3337 b3339 b3341 kc1 kb3336 kb3338 kb3340 t0 t1 t2 t3 t4 r0 r1 r2 := ⟨E_c1, V_c1, O_c1, E_c2, F_c2_t, F_c2_r, F_c2_c, F_c2_s, F_c2_o, V_b3337, E_b3339, V_b3339, O_b3339, E_b3341, V_b3341, O_b3341, g_c1, lt_c1_c2, lt_c2_b3337, lt_b3337_b3339, lt_b3339_b3341, ht0, ht1, ht2, ht3, ht4, rf_r0, rw_r0, rb_r0, rf_r1, rw_r1, rb_r1, rf_r2, rw_r2, rb_r2⟩
    exact D0_47 c1 c2 b3337 b3339 b3341 kc1 kb3336 kb3338 kb3340 t0 t1 t2 t3 t4 r0 r1 r2 p0 p1 X2984 G rfl N2984 P3346 (fun T' locs' X' N' => F1_15 p0 p1 (0 : Int32) (0 : Int32) t0 t1 t2 t3 t4 c1 c2 X' G z20 z30 tv2 (F2_42 p0 p1 t0 t1 t2 t3 t4 c1 c2 X' G N' (by decide) (by decide)))
  · have P3373 : St84 Z T2984.heap n0 c1 c2 b3337 b3339 b3341 kc1 kb3336 kb3338 kb3340 t0 t1 t2 t3 t4 r0 r1 r2 := ⟨E_c1, V_c1, O_c1, E_c2, F_c2_t, F_c2_r, F_c2_c, F_c2_s, F_c2_o, V_b3337, E_b3339, V_b3339, O_b3339, E_b3341, V_b3341, O_b3341, g_c1, lt_c1_c2, lt_c2_b3337, lt_b3337_b3339, lt_b3339_b3341, ht0, ht1, ht2, ht3, ht4, rf_r0, rw_r0, rb_r0, rf_r1, rw_r1, rb_r1, rf_r2, rw_r2, rb_r2⟩
    exact D1_48 c1 c2 b3337 b3339 b3341 kc1 kb3336 kb3338 kb3340 t0 t1 t2 t3 t4 r0 r1 r2 p0 p1 X2984 G rfl N2984 P3373 (fun tv3 T' locs' X' N' => F1_15 p0 p1 (1 : Int32) (0 : Int32) t0 t1 t2 t3 t4 c1 c2 X' G z20 z30 tv2 (F2_43 p0 p1 t0 t1 t2 t3 t4 c1 c2 X' G tv3 N' (by decide) (by decide))) (fun tv3 T' locs' X' N' => F1_15 p0 p1 (1 : Int32) (1 : Int32) t0 t1 t2 t3 t4 c1 c2 X' G z20 z30 tv2 (F2_44 p0 p1 t0 t1 t2 t3 t4 c1 c2 X' G tv3 N' (by decide) (by decide)))
  · have P3408 : St84 Z T2984.heap n0 c1 c2 b3337 b3339 b3341 kc1 kb3336 kb3338 kb3340 t0 t1 t2 t3 t4 r0 r1 r2 := ⟨E_c1, V_c1, O_c1, E_c2, F_c2_t, F_c2_r, F_c2_c, F_c2_s, F_c2_o, V_b3337, E_b3339, V_b3339, O_b3339, E_b3341, V_b3341, O_b3341, g_c1, lt_c1_c2, lt_c2_b3337, lt_b3337_b3339, lt_b3339_b3341, ht0, ht1, ht2, ht3, ht4, rf_r0, rw_r0, rb_r0, rf_r1, rw_r1, rb_r1, rf_r2, rw_r2, rb_r2⟩
    exact D2_49 c1 c2 b3337 b3339 b3341 kc1 kb3336 kb3338 kb3340 t0 t1 t2 t3 t4 r0 r1 r2 p0 p1 X2984 G rfl N2984 P3408 (fun T' locs' X' N' => F1_15 p0 p1 (2 : Int32) (1 : Int32) t0 t1 t2 t3 t4 c1 c2 X' G z20 z30 tv2 (F2_45 p0 p1 t0 t1 t2 t3 t4 c1 c2 X' G N' (by decide) (by decide)))
theorem law_3 (l : Launch) (Z : State) (a0 : Array Value) (hw : HW a0 Z) (ws : List Jvm.Cond) (h0 : Heap) (n0 : Nat) (Z0 : n0 ≤ h0.size) (p0 : Int32) (p1 : Int64) (mm : Int32) (hn1 : (((p0.toUInt32 >>> ((5 : Int32) &&& 31).toUInt32).toInt32) &&& (3 : Int32)) = (3 : Int32)) (hmm : ((((p0.toUInt32 >>> ((7 : Int32) &&& 31).toUInt32).toInt32) &&& (255 : Int32)) % (3 : Int32)) = mm) (hm3 : mm = (0 : Int32) ∨ mm = (1 : Int32) ∨ mm = (2 : Int32)) :
    MC l Z x code maxLocals ret ws room_1 #[(.int p0), (.long p1)] h0 (QL n0) := by
  refine own_met (plainFor_of_name pn12) fun p e s m below meth c s₁ X0 hx hZ Y hml hO hnm hlk hret e0 => f_cast (f' := mkF m 0 #[(iv p0), (.val (.long p1)), .second, .unset, .unset, .unset, .unset, .unset, .unset, .unset, .unset, .unset, .unset, .unset, .unset, .unset, .unset, .unset] []) (by first | (simp [entryFrame, mkF, argsToLocals, Value.category, maxLocals]; done) | rfl) ?_
  have N0 := Fr.nil n0
  have G : SG p s m meth c Z a0 := ⟨hx, hZ, hw, Y, hml, hO, hlk, hret⟩
  refine iN X0 hx (hb Y at_0) rfl <| iK X0 hx (z := 5) (hb Y at_1) <| f_iushr X0 hx (z := ((p0.toUInt32 >>> ((5 : Int32) &&& 31).toUInt32).toInt32)) (hb Y at_2) (q := rfl) <| iK X0 hx (z := 3) (hb Y at_3) <| f_iand X0 hx (z := 3) (hb Y at_4) (q := hn1) <| sN X0 hx (L' := #[(iv p0), (.val (.long p1)), .second, (iv 3), .unset, .unset, .unset, .unset, .unset, .unset, .unset, .unset, .unset, .unset, .unset, .unset, .unset, .unset]) (hb Y at_5) rfl <| iN X0 hx (hb Y at_6) rfl <| f_bipush X0 hx (z := 7) (hb Y at_7) <| f_iushr X0 hx (z := ((p0.toUInt32 >>> ((7 : Int32) &&& 31).toUInt32).toInt32)) (hb Y at_9) (q := rfl) <| f_sipush X0 hx (z := 255) (hb Y at_10) <| f_iand X0 hx (z := (((p0.toUInt32 >>> ((7 : Int32) &&& 31).toUInt32).toInt32) &&& (255 : Int32))) (hb Y at_13) (q := rfl) <| iK X0 hx (z := 3) (hb Y at_14) <| f_irem X0 hx (z := mm) (hb Y at_15) (by decide) (q := hmm) <| iS X0 hx (L' := #[(iv p0), (.val (.long p1)), .second, (iv 3), (iv mm), .unset, .unset, .unset, .unset, .unset, .unset, .unset, .unset, .unset, .unset, .unset, .unset, .unset]) (hb Y at_16) rfl <| iN X0 hx (hb Y at_18) rfl <| iK X0 hx (z := 0) (hb Y at_19) <| f_stat X0 hx hZ hO (by rw [hml]; rfl) (w0 hw) (w1 hw) (w2 hw) (w3 hw) e0 (argsL := [(.int p0), (.int 0)]) (rest := []) (own_bit l Z a0 hw [] h0 n0 p0 (0 : Int32)) (lenOf pd0 rfl) (hb Y at_20) fun T1723 L1723 v1723 X1723 hQ1723 => ?_
  obtain ⟨t0, rfl, ht0, N1723q, e1723⟩ := hQ1723
  have N1723 := Fr.app N0 N1723q
  refine iS X1723 hx (L' := #[(iv p0), (.val (.long p1)), .second, (iv 3), (iv mm), (iv t0), .unset, .unset, .unset, .unset, .unset, .unset, .unset, .unset, .unset, .unset, .unset, .unset]) (hb Y at_23) rfl <| iN X1723 hx (hb Y at_25) rfl <| iK X1723 hx (z := 1) (hb Y at_26) <| f_stat X1723 hx hZ hO (by rw [hml]; rfl) (w0 hw) (w1 hw) (w2 hw) (w3 hw) e1723 (argsL := [(.int p0), (.int 1)]) (rest := []) (own_bit l Z a0 hw [] h0 n0 p0 (1 : Int32)) (lenOf pd0 rfl) (hb Y at_27) fun T1724 L1724 v1724 X1724 hQ1724 => ?_
  obtain ⟨t1, rfl, ht1, N1724q, e1724⟩ := hQ1724
  have N1724 := Fr.app N1723 N1724q
  refine iS X1724 hx (L' := #[(iv p0), (.val (.long p1)), .second, (iv 3), (iv mm), (iv t0), (iv t1), .unset, .unset, .unset, .unset, .unset, .unset, .unset, .unset, .unset, .unset, .unset]) (hb Y at_30) rfl <| iN X1724 hx (hb Y at_32) rfl <| iK X1724 hx (z := 2) (hb Y at_33) <| f_stat X1724 hx hZ hO (by rw [hml]; rfl) (w0 hw) (w1 hw) (w2 hw) (w3 hw) e1724 (argsL := [(.int p0), (.int 2)]) (rest := []) (own_bit l Z a0 hw [] h0 n0 p0 (2 : Int32)) (lenOf pd0 rfl) (hb Y at_34) fun T1725 L1725 v1725 X1725 hQ1725 => ?_
  obtain ⟨t2, rfl, ht2, N1725q, e1725⟩ := hQ1725
  have N1725 := Fr.app N1724 N1725q
  refine iS X1725 hx (L' := #[(iv p0), (.val (.long p1)), .second, (iv 3), (iv mm), (iv t0), (iv t1), (iv t2), .unset, .unset, .unset, .unset, .unset, .unset, .unset, .unset, .unset, .unset]) (hb Y at_37) rfl <| iN X1725 hx (hb Y at_39) rfl <| iK X1725 hx (z := 3) (hb Y at_40) <| f_stat X1725 hx hZ hO (by rw [hml]; rfl) (w0 hw) (w1 hw) (w2 hw) (w3 hw) e1725 (argsL := [(.int p0), (.int 3)]) (rest := []) (own_bit l Z a0 hw [] h0 n0 p0 (3 : Int32)) (lenOf pd0 rfl) (hb Y at_41) fun T1726 L1726 v1726 X1726 hQ1726 => ?_
  obtain ⟨t3, rfl, ht3, N1726q, e1726⟩ := hQ1726
  have N1726 := Fr.app N1725 N1726q
  refine iS X1726 hx (L' := #[(iv p0), (.val (.long p1)), .second, (iv 3), (iv mm), (iv t0), (iv t1), (iv t2), (iv t3), .unset, .unset, .unset, .unset, .unset, .unset, .unset, .unset, .unset]) (hb Y at_44) rfl <| iN X1726 hx (hb Y at_46) rfl <| iK X1726 hx (z := 4) (hb Y at_47) <| f_stat X1726 hx hZ hO (by rw [hml]; rfl) (w0 hw) (w1 hw) (w2 hw) (w3 hw) e1726 (argsL := [(.int p0), (.int 4)]) (rest := []) (own_bit l Z a0 hw [] h0 n0 p0 (4 : Int32)) (lenOf pd0 rfl) (hb Y at_48) fun T1727 L1727 v1727 X1727 hQ1727 => ?_
  obtain ⟨t4, rfl, ht4, N1727q, e1727⟩ := hQ1727
  have N1727 := Fr.app N1726 N1727q
  refine iS X1727 hx (L' := #[(iv p0), (.val (.long p1)), .second, (iv 3), (iv mm), (iv t0), (iv t1), (iv t2), (iv t3), (iv t4), .unset, .unset, .unset, .unset, .unset, .unset, .unset, .unset]) (hb Y at_51) rfl <| iK X1727 hx (z := 1) (hb Y at_53) <| f_newR X1727 hx hZ hO (w4 hw) (w5 hw) e1727 (hb Y at_54) 1 (ad := "[Ljava/lang/Object;") (by decide +kernel) fun T1728 h1728 kb1728 b1728 g1728 X1728 e1728 E1728 V_b1728 E_b1728 O_b1728 => ?_
  have g_b1728 : n0 ≤ b1728 := by omega
  refine f_astore X1728 hx (L' := #[(iv p0), (.val (.long p1)), .second, (iv 3), (iv mm), (iv t0), (iv t1), (iv t2), (iv t3), (iv t4), (rv b1728), .unset, .unset, .unset, .unset, .unset, .unset, .unset]) (hb Y at_57) rfl rfl <| f_newO X1728 hx hZ hO (w6 hw) (w7 hw) (w8 hw) e1728 (hb Y at_59) fun T1729 h1729 b1729 g1729 X1729 e1729 E1729 A1729 D1729 => ?_
  have lt_b1728_b1729 : b1728 < b1729 := by have := own_ltE E_b1728; omega
  have F_b1729_t : fT Z h1729 b1729 .null := D1729 (Or.inl (w17 hw)) (ty := (.array .long)) (by decide)
  have F_b1729_r : fR Z h1729 b1729 .null := D1729 (Or.inl (w21 hw)) (ty := (.array (.array (.object "java/lang/Object")))) (by decide)
  have F_b1729_c : fC Z h1729 b1729 .null := D1729 (Or.inl (w25 hw)) (ty := (.array (.array .int))) (by decide)
  have F_b1729_s : fS Z h1729 b1729 (.int 0) := D1729 (Or.inl (w32 hw)) (ty := .int) (by decide)
  have F_b1729_o : fO Z h1729 b1729 (.int 0) := D1729 (Or.inl (w49 hw)) (ty := .int) (by decide)
  have E_b1729 := A1729
  refine f_dup X1729 hx (hb Y at_62) rfl ?_
  have P1744 : St0 Z h1729 n0 b1728 b1729 kb1728 := ⟨(xe E1729 E_b1728), (ve V_b1728 E1729), O_b1728, E_b1729, F_b1729_t, F_b1729_r, F_b1729_c, F_b1729_s, F_b1729_o, g_b1728, lt_b1728_b1729⟩
  refine f_spec X1729 hx hZ hO (by rw [hml]; rfl) rfl (w9 hw) (w10 hw) (w8 hw) (w11 hw) e1729 (a := b1729) (argsL := []) (rest := [(.ref b1729)]) (m23 l Z a0 hw [] h1729 n0 b1728 b1729 kb1728 P1744) (lenOf pd1 rfl) (hb Y at_63) fun T1730 L1730 v1730 X1730 hQ1730 => ?_
  obtain ⟨rfl, N1730q, kb1738, b1739, kb1740, b1741, kb1742, b1743, P1730⟩ := hQ1730
  obtain ⟨E_b1728, V_b1728, O_b1728, E_b1729, F_b1729_t, F_b1729_r, F_b1729_c, F_b1729_s, F_b1729_o, V_b1739, E_b1741, V_b1741, O_b1741, E_b1743, V_b1743, O_b1743, g_b1728, lt_b1728_b1729, lt_b1729_b1739, lt_b1739_b1741, lt_b1741_b1743⟩ := id P1730
  have N1730 := Fr.app N1727 N1730q
  refine f_astore X1730 hx (L' := (FL p0 p1 3 mm t0 t1 t2 t3 t4 b1728 b1729 .unset .unset .unset .unset .unset .unset)) (hb Y at_66) rfl rfl <| iN X1730 hx (hb Y at_68) rfl <| iK X1730 hx (z := 1) (hb Y at_69) <| cN X1730 hx (hb Y at_70) <| aA X1730 hx (hb Y at_73) rfl rfl <| f_ldc2 X1730 hx hZ hO (w38 hw) (hb Y at_75) <| iL X1730 hx (hb Y at_78) rfl <| own_mrg X1730 hx (row := b1728) ht0 (pc := 80) (hb Y at_80) (hb Y at_87) (hb Y at_83) (hb Y at_84) rfl fun r0 rf_r0 rw_r0 rb_r0 => ?_
  refine f_null X1730 hx (hb Y at_89) ?_
  have P1760 : St4 Z T1730.heap n0 b1728 b1729 b1739 b1741 b1743 kb1728 kb1738 kb1740 kb1742 (0 : Int64) (0 : Int64) .null .null r0 := ⟨E_b1728, V_b1728, O_b1728, E_b1729, F_b1729_t, F_b1729_r, F_b1729_c, F_b1729_s, F_b1729_o, V_b1739, E_b1741, V_b1741, O_b1741, E_b1743, V_b1743, O_b1743, g_b1728, lt_b1728_b1729, lt_b1729_b1739, lt_b1739_b1741, lt_b1741_b1743, rfl, (Or.inl rfl), rfl, (Or.inl rfl), rf_r0, rw_r0⟩
  refine vV X1730 hx hZ hO (by rw [hml]; rfl) (w39 hw) (w40 hw) (w42 hw) (w41 hw) (w8 hw) (w43 hw) rfl E_b1729 (argsL := [(.long 10), r0, .null]) (rest := []) (m70 l Z a0 hw [] T1730.heap n0 b1728 b1729 b1739 b1741 b1743 kb1728 kb1738 kb1740 kb1742 (0 : Int64) (0 : Int64) .null .null r0 (10 : Int64) P1760) (lenOf pd5 rfl) (hb Y at_90) fun T1745 L1745 v1745 X1745 hQ1745 => ?_
  obtain ⟨rfl, N1745q, P1745⟩ := hQ1745
  obtain ⟨E_b1728, V_b1728, O_b1728, E_b1729, F_b1729_t, F_b1729_r, F_b1729_c, F_b1729_s, F_b1729_o, V_b1739, E_b1741, V_b1741, O_b1741, E_b1743, V_b1743, O_b1743, g_b1728, lt_b1728_b1729, lt_b1729_b1739, lt_b1739_b1741, lt_b1741_b1743, _, _, _, _, _, _⟩ := id P1745
  have N1745 := Fr.app N1730 N1745q
  refine iN X1745 hx (hb Y at_93) rfl <| iK X1745 hx (z := 2) (hb Y at_94) <| cN X1745 hx (hb Y at_95) <| aA X1745 hx (hb Y at_98) rfl rfl <| f_ldc2 X1745 hx hZ hO (w51 hw) (hb Y at_100) <| iL X1745 hx (hb Y at_103) rfl <| own_mrg X1745 hx (row := b1728) ht1 (pc := 105) (hb Y at_105) (hb Y at_112) (hb Y at_108) (hb Y at_109) rfl fun r1 rf_r1 rw_r1 rb_r1 => ?_
  refine f_null X1745 hx (hb Y at_114) ?_
  have P1776 : St6 Z T1745.heap n0 b1728 b1729 b1739 b1741 b1743 kb1728 kb1738 kb1740 kb1742 (10 : Int64) (0 : Int64) r0 .null r1 := ⟨E_b1728, V_b1728, O_b1728, E_b1729, F_b1729_t, F_b1729_r, F_b1729_c, F_b1729_s, F_b1729_o, V_b1739, E_b1741, V_b1741, O_b1741, E_b1743, V_b1743, O_b1743, g_b1728, lt_b1728_b1729, lt_b1729_b1739, lt_b1739_b1741, lt_b1741_b1743, rf_r0, rw_r0, rfl, (Or.inl rfl), rf_r1, rw_r1⟩
  refine vV X1745 hx hZ hO (by rw [hml]; rfl) (w39 hw) (w40 hw) (w42 hw) (w41 hw) (w8 hw) (w43 hw) rfl E_b1729 (argsL := [(.long 20), r1, .null]) (rest := []) (m132 l Z a0 hw [] T1745.heap n0 b1728 b1729 b1739 b1741 b1743 kb1728 kb1738 kb1740 kb1742 (10 : Int64) (0 : Int64) r0 .null r1 (20 : Int64) P1776) (lenOf pd5 rfl) (hb Y at_115) fun T1761 L1761 v1761 X1761 hQ1761 => ?_
  obtain ⟨rfl, N1761q, P1761⟩ := hQ1761
  obtain ⟨E_b1728, V_b1728, O_b1728, E_b1729, F_b1729_t, F_b1729_r, F_b1729_c, F_b1729_s, F_b1729_o, V_b1739, E_b1741, V_b1741, O_b1741, E_b1743, V_b1743, O_b1743, g_b1728, lt_b1728_b1729, lt_b1729_b1739, lt_b1739_b1741, lt_b1741_b1743, _, _, _, _, _, _⟩ := id P1761
  have N1761 := Fr.app N1745 N1761q
  refine iN X1761 hx (hb Y at_118) rfl <| iK X1761 hx (z := 3) (hb Y at_119) <| cN X1761 hx (hb Y at_120) <| aA X1761 hx (hb Y at_123) rfl rfl <| f_ldc2 X1761 hx hZ hO (w57 hw) (hb Y at_125) <| iL X1761 hx (hb Y at_128) rfl <| own_mrg X1761 hx (row := b1728) ht2 (pc := 130) (hb Y at_130) (hb Y at_137) (hb Y at_133) (hb Y at_134) rfl fun r2 rf_r2 rw_r2 rb_r2 => ?_
  refine f_null X1761 hx (hb Y at_139) ?_
  have P1835 : St15 Z T1761.heap n0 b1728 b1729 b1739 b1741 b1743 kb1728 kb1738 kb1740 kb1742 (10 : Int64) (20 : Int64) r0 r1 r2 := ⟨E_b1728, V_b1728, O_b1728, E_b1729, F_b1729_t, F_b1729_r, F_b1729_c, F_b1729_s, F_b1729_o, V_b1739, E_b1741, V_b1741, O_b1741, E_b1743, V_b1743, O_b1743, g_b1728, lt_b1728_b1729, lt_b1729_b1739, lt_b1739_b1741, lt_b1741_b1743, rf_r0, rw_r0, rf_r1, rw_r1, rf_r2, rw_r2⟩
  refine vV X1761 hx hZ hO (by rw [hml]; rfl) (w39 hw) (w40 hw) (w42 hw) (w41 hw) (w8 hw) (w43 hw) rfl E_b1729 (argsL := [(.long 30), r2, .null]) (rest := []) (m452 l Z a0 hw [] T1761.heap n0 b1728 b1729 b1739 b1741 b1743 kb1728 kb1738 kb1740 kb1742 (10 : Int64) (20 : Int64) r0 r1 r2 (30 : Int64) P1835) (lenOf pd5 rfl) (hb Y at_140) fun T1777 L1777 v1777 X1777 hQ1777 => ?_
  obtain ⟨rfl, N1777q, kb1829, b1830, kb1831, b1832, kb1833, b1834, P1777⟩ := hQ1777
  obtain ⟨E_b1728, V_b1728, O_b1728, E_b1729, F_b1729_t, F_b1729_r, F_b1729_c, F_b1729_s, F_b1729_o, V_b1739, E_b1741, V_b1741, O_b1741, E_b1743, V_b1743, O_b1743, V_b1830, E_b1832, V_b1832, O_b1832, E_b1834, V_b1834, O_b1834, g_b1728, lt_b1728_b1729, lt_b1729_b1739, lt_b1739_b1741, lt_b1741_b1743, lt_b1743_b1830, lt_b1830_b1832, lt_b1832_b1834, _, _, _, _, _, _⟩ := id P1777
  have N1777 := Fr.app N1761 N1777q
  have lt_b1729_b1830 : b1729 < b1830 := by omega
  rcases own_reg3 p1 with ⟨z10, z20, z30⟩ | ⟨z10, z20, z30⟩ | ⟨z10, z20, z30⟩ | ⟨z10, z20, z30⟩
  · have P2214 : St48 Z T1777.heap n0 b1728 b1729 b1830 b1832 b1834 kb1728 kb1829 kb1831 kb1833 r0 r1 r2 t0 t1 t2 t3 t4 mm p1 := ⟨E_b1728, V_b1728, O_b1728, E_b1729, F_b1729_t, F_b1729_r, F_b1729_c, F_b1729_s, F_b1729_o, V_b1830, E_b1832, V_b1832, O_b1832, E_b1834, V_b1834, O_b1834, g_b1728, lt_b1728_b1729, lt_b1729_b1830, lt_b1830_b1832, lt_b1832_b1834, ht0, ht1, ht2, ht3, ht4, rf_r0, rw_r0, rb_r0, rf_r1, rw_r1, rb_r1, rf_r2, rw_r2, rb_r2, hm3, z10, z20, z30⟩
    exact C3_30 b1728 b1729 b1830 b1832 b1834 kb1728 kb1829 kb1831 kb1833 r0 r1 r2 t0 t1 t2 t3 t4 mm p1 p0 X1777 G rfl N1777 P2214
  · rcases id rb_r0 with ⟨tv0, nv_r0⟩ | ⟨tv0, nv_r0⟩
    · have P2279 : St55 Z T1777.heap n0 b1728 b1729 b1830 b1832 b1834 kb1728 kb1829 kb1831 kb1833 r0 r1 r2 t0 t1 t2 t3 t4 mm p1 := ⟨E_b1728, V_b1728, O_b1728, E_b1729, F_b1729_t, F_b1729_r, F_b1729_c, F_b1729_s, F_b1729_o, V_b1830, E_b1832, V_b1832, O_b1832, E_b1834, V_b1834, O_b1834, g_b1728, lt_b1728_b1729, lt_b1729_b1830, lt_b1830_b1832, lt_b1832_b1834, ht0, ht1, ht2, ht3, ht4, rf_r0, rw_r0, rb_r0, rf_r1, rw_r1, rb_r1, rf_r2, rw_r2, rb_r2, hm3, nv_r0, z10, z20, z30, tv0⟩
      exact C3_34 b1728 b1729 b1830 b1832 b1834 kb1728 kb1829 kb1831 kb1833 r0 r1 r2 t0 t1 t2 t3 t4 mm p1 p0 X1777 G rfl N1777 P2279
    · have P2492 : St56 Z T1777.heap n0 b1728 b1729 b1830 b1832 b1834 kb1728 kb1829 kb1831 kb1833 r0 r1 r2 t0 t1 t2 t3 t4 mm p1 := ⟨E_b1728, V_b1728, O_b1728, E_b1729, F_b1729_t, F_b1729_r, F_b1729_c, F_b1729_s, F_b1729_o, V_b1830, E_b1832, V_b1832, O_b1832, E_b1834, V_b1834, O_b1834, g_b1728, lt_b1728_b1729, lt_b1729_b1830, lt_b1830_b1832, lt_b1832_b1834, ht0, ht1, ht2, ht3, ht4, rf_r0, rw_r0, rb_r0, rf_r1, rw_r1, rb_r1, rf_r2, rw_r2, rb_r2, hm3, nv_r0, z10, z20, z30, tv0⟩
      exact C3_35 b1728 b1729 b1830 b1832 b1834 kb1728 kb1829 kb1831 kb1833 r0 r1 r2 t0 t1 t2 t3 t4 mm p1 p0 X1777 G rfl N1777 P2492
  · rcases id rb_r1 with ⟨tv1, nv_r1⟩ | ⟨tv1, nv_r1⟩
    · have P2587 : St64 Z T1777.heap n0 b1728 b1729 b1830 b1832 b1834 kb1728 kb1829 kb1831 kb1833 r0 r1 r2 t0 t1 t2 t3 t4 mm p1 := ⟨E_b1728, V_b1728, O_b1728, E_b1729, F_b1729_t, F_b1729_r, F_b1729_c, F_b1729_s, F_b1729_o, V_b1830, E_b1832, V_b1832, O_b1832, E_b1834, V_b1834, O_b1834, g_b1728, lt_b1728_b1729, lt_b1729_b1830, lt_b1830_b1832, lt_b1832_b1834, ht0, ht1, ht2, ht3, ht4, rf_r0, rw_r0, rb_r0, rf_r1, rw_r1, rb_r1, rf_r2, rw_r2, rb_r2, hm3, nv_r1, z10, z20, z30, tv1⟩
      exact C3_39 b1728 b1729 b1830 b1832 b1834 kb1728 kb1829 kb1831 kb1833 r0 r1 r2 t0 t1 t2 t3 t4 mm p1 p0 X1777 G rfl N1777 P2587
    · have P2861 : St66 Z T1777.heap n0 b1728 b1729 b1830 b1832 b1834 kb1728 kb1829 kb1831 kb1833 r0 r1 r2 t0 t1 t2 t3 t4 mm p1 := ⟨E_b1728, V_b1728, O_b1728, E_b1729, F_b1729_t, F_b1729_r, F_b1729_c, F_b1729_s, F_b1729_o, V_b1830, E_b1832, V_b1832, O_b1832, E_b1834, V_b1834, O_b1834, g_b1728, lt_b1728_b1729, lt_b1729_b1830, lt_b1830_b1832, lt_b1832_b1834, ht0, ht1, ht2, ht3, ht4, rf_r0, rw_r0, rb_r0, rf_r1, rw_r1, rb_r1, rf_r2, rw_r2, rb_r2, hm3, nv_r1, z10, z20, z30, tv1⟩
      exact C3_40 b1728 b1729 b1830 b1832 b1834 kb1728 kb1829 kb1831 kb1833 r0 r1 r2 t0 t1 t2 t3 t4 mm p1 p0 X1777 G rfl N1777 P2861
  · rcases id rb_r2 with ⟨tv2, nv_r2⟩ | ⟨tv2, nv_r2⟩
    · have P2983 : St76 Z T1777.heap n0 b1728 b1729 b1830 b1832 b1834 kb1728 kb1829 kb1831 kb1833 r0 r1 r2 t0 t1 t2 t3 t4 mm p1 := ⟨E_b1728, V_b1728, O_b1728, E_b1729, F_b1729_t, F_b1729_r, F_b1729_c, F_b1729_s, F_b1729_o, V_b1830, E_b1832, V_b1832, O_b1832, E_b1834, V_b1834, O_b1834, g_b1728, lt_b1728_b1729, lt_b1729_b1830, lt_b1830_b1832, lt_b1832_b1834, ht0, ht1, ht2, ht3, ht4, rf_r0, rw_r0, rb_r0, rf_r1, rw_r1, rb_r1, rf_r2, rw_r2, rb_r2, hm3, nv_r2, z10, z20, z30, tv2⟩
      exact C3_45 b1728 b1729 b1830 b1832 b1834 kb1728 kb1829 kb1831 kb1833 r0 r1 r2 t0 t1 t2 t3 t4 mm p1 p0 X1777 G rfl N1777 P2983
    · have P3409 : St79 Z T1777.heap n0 b1728 b1729 b1830 b1832 b1834 kb1728 kb1829 kb1831 kb1833 r0 r1 r2 t0 t1 t2 t3 t4 mm p1 := ⟨E_b1728, V_b1728, O_b1728, E_b1729, F_b1729_t, F_b1729_r, F_b1729_c, F_b1729_s, F_b1729_o, V_b1830, E_b1832, V_b1832, O_b1832, E_b1834, V_b1834, O_b1834, g_b1728, lt_b1728_b1729, lt_b1729_b1830, lt_b1830_b1832, lt_b1832_b1834, ht0, ht1, ht2, ht3, ht4, rf_r0, rw_r0, rb_r0, rf_r1, rw_r1, rb_r1, rf_r2, rw_r2, rb_r2, hm3, nv_r2, z10, z20, z30, tv2⟩
      exact C3_47 b1728 b1729 b1830 b1832 b1834 kb1728 kb1829 kb1831 kb1833 r0 r1 r2 t0 t1 t2 t3 t4 mm p1 p0 X1777 G rfl N1777 P3409
end Law
theorem own_lt3 (z : Int32) (h1 : 0 ≤ z.toInt) (h2 : z.toInt < 3) : z = (0 : Int32) ∨ z = (1 : Int32) ∨ z = (2 : Int32) := by
  have e0 : (0 : Int32).toInt = 0 := by decide +kernel
  have e1 : (1 : Int32).toInt = 1 := by decide +kernel
  have e2 : (2 : Int32).toInt = 2 := by decide +kernel
  simp only [← Int32.toInt_inj]
  omega
theorem own_lt4 (z : Int32) (h1 : 0 ≤ z.toInt) (h2 : z.toInt < 4) : z = (0 : Int32) ∨ z = (1 : Int32) ∨ z = (2 : Int32) ∨ z = (3 : Int32) := by
  have e0 : (0 : Int32).toInt = 0 := by decide +kernel
  have e1 : (1 : Int32).toInt = 1 := by decide +kernel
  have e2 : (2 : Int32).toInt = 2 := by decide +kernel
  have e3 : (3 : Int32).toInt = 3 := by decide +kernel
  simp only [← Int32.toInt_inj]
  omega
theorem own_and4 (p : Int32) : (p &&& (3 : Int32)) = (0 : Int32) ∨ (p &&& (3 : Int32)) = (1 : Int32) ∨ (p &&& (3 : Int32)) = (2 : Int32) ∨ (p &&& (3 : Int32)) = (3 : Int32) := by
  have e := Jvm.Kit.i32_mask p 3 (k := 2) (by decide) (by decide)
  exact own_lt4 _ (by rw [e]; omega) (by rw [e]; omega)
theorem own_m3 (q : Int32) : ((q &&& (255 : Int32)) % (3 : Int32)) = (0 : Int32) ∨ ((q &&& (255 : Int32)) % (3 : Int32)) = (1 : Int32) ∨ ((q &&& (255 : Int32)) % (3 : Int32)) = (2 : Int32) := by
  have e := Jvm.Kit.i32_mask q 255 (k := 8) (by decide) (by decide)
  have e2 : ((q &&& (255 : Int32)) % (3 : Int32)).toInt = (q &&& (255 : Int32)).toInt % 3 := Jvm.Kit.i32_rem_nonneg (by rw [e]; omega)
  exact own_lt3 _ (by rw [e2]; omega) (by rw [e2]; omega)
theorem rm0 (l : Launch) (Z : State) (a0 : Array Value) (hw : HW a0 Z) (ws : List Jvm.Cond) (h0 : Heap) (n0 : Nat) (Z0 : n0 ≤ h0.size) (p0 : Int32) (p1 : Int64) :
    MC l Z x code maxLocals ret ws room_1 #[(.int p0), (.long p1)] h0 (QL n0) := by
  rcases own_and4 ((p0.toUInt32 >>> ((5 : Int32) &&& 31).toUInt32).toInt32) with hn1 | hn1 | hn1 | hn1
  · exact law_0 l Z a0 hw ws h0 n0 Z0 p0 p1 _ hn1 rfl (own_m3 _)
  · exact law_1 l Z a0 hw ws h0 n0 Z0 p0 p1 _ hn1 rfl (own_m3 _)
  · exact law_2 l Z a0 hw ws h0 n0 Z0 p0 p1 _ hn1 rfl (own_m3 _)
  · exact law_3 l Z a0 hw ws h0 n0 Z0 p0 p1 _ hn1 rfl (own_m3 _)
theorem comes_1 {Post : Tables → Env → Array Value → State → Outcome → State → Prop} (hpost : ∀ tb e args s v u, (limb_1_1.after args s (.returned v) u = true ∧ limb_1_2.after args s (.returned v) u = true ∧ True) → FrameEnd s (.returned v) u (Jvm.fieldLocs frame_1_writes args s ++ Jvm.arrayLocs frame_1_arrays args s ++ Jvm.staticLocs frame_1_statics s) 32 192 → Post tb e args s (.returned v) u) :
    ArmFor flags0 classFile x code maxLocals ret World_1 tables_1 room_1 Calls_1 rest_1 Pre_1 Post := by
  intro l hfl _ _ p e ha hc hk s m args below hf hA hF happ hP
  obtain ⟨hcalls, hrest, hpre⟩ := hP
  obtain ⟨-, -, -, hnamed, -, -, -, hat⟩ := (Spec.applies_iff hf).mp happ
  obtain ⟨hg, hn⟩ := and_e (Cond.before_iff.mp (show (Jvm.Cond.and given_1 narrow_1).before args s = true from hpre))
  obtain ⟨g0, gr0⟩ := and_e hg
  obtain ⟨ga0, gr1⟩ := and_e gr0
  have ga1 := gr1
  obtain ⟨w0_, w1_, rfl⟩ : ∃ w0_ w1_ : Value, args = #[w0_, w1_] := by
    have hs : args.size = 2 := by simpa [Cond.value, given_1] using g0
    obtain ⟨L⟩ := args
    match L, hs with
    | [w0_, w1_], _ => exact ⟨w0_, w1_, rfl⟩
  have hw := fun d (hd : d ∈ tables_1) => atoms_spec (ws := Jvm.Cond.code x code maxLocals ret :: tables_1) hat d (List.mem_cons_of_mem _ hd)
  obtain ⟨p0, ei0⟩ := is_v ga0
  obtain rfl : w0_ = (.int p0) := Option.some.inj ei0
  obtain ⟨p1, ei1⟩ := isL_v ga1
  obtain rfl : w1_ = (.long p1) := Option.some.inj ei1
  obtain ⟨n, o, h1, h2, h3, _, L, rfl, ⟨rfl, N⟩, hq⟩ := rm0 l s _ hw tables_1 s.heap s.heap.size (Nat.le_refl _) p0 p1 p e ha hc hk s m _ below hf ((Spec.applies_iff_loose hf).mp happ).1 ⟨rfl, State.Warmed39.refl s, rfl⟩ trivial
  refine ⟨n, _, h1, h2, h3, hpost _ _ _ _ _ _ ⟨Cond.after_iff.mpr rfl, Cond.after_iff.mpr (eq_i res_at (Term.int_eval (1)) rfl), trivial⟩ ⟨hq.1, hq.2.1, (hq.2.2.sift fun y hy => Or.inr (N y hy)).mono (by decide) (by decide)⟩⟩
theorem main_1_1 : Claimed_1_1 := comes_1 fun _ _ _ _ _ _ h hF => ⟨h.1, hF⟩
theorem main_1_2 : Claimed_1_2 := comes_1 fun _ _ _ _ _ _ h hF => ⟨h.2.1, hF⟩
end Jvm.Pilot.@@N@@
namespace Jvm.Pilot.@@N@@
open Jvm Jvm.ClassFile Sem Op Lib Jvm.Free Jvm.Stand Jvm.Pilot.@@N@@.Jvm.D
/-! MADE BY PROGRAM (witnessworld.py) out of the Statement's table words and the real class files: 18 classes; the members and pool entries that the words name. The judged class is class 1, her method 2. -/
namespace start1
open Jvm.ClassFile
def u (s : String) : CpInfo := .utf8 (stringToUtf16 s)
/-- a pool by its gaps: so many unusable entries, then the entry; so many at the end -/
def gap : Nat → List CpInfo → List CpInfo
  | 0, r => r
  | n + 1, r => .unusable :: gap n r
def poolList (es : List (Nat × CpInfo)) (last : Nat) : List CpInfo := es.foldr (fun e r => gap e.1 (e.2 :: r)) (gap last [])
def pool (es : List (Nat × CpInfo)) (last : Nat) : Array CpInfo := ⟨poolList es last⟩
def fileOf (pool : Array CpInfo) (this : Nat) (attrs : Array Attribute := #[]) (ms : Array MethodInfo := #[]) (fl : Nat := 33) (sup : Nat := 0) (ifs : Array Nat := #[]) (fds : Array FieldInfo := #[]) : ClassFile where
  minorVersion := 0
  majorVersion := 65
  constantPool := pool
  accessFlags := fl
  thisClass := this
  superClass := sup
  interfaces := ifs
  fields := fds
  methods := ms
  attributes := attrs
def plain (name : String) (sup : Option ClassId) : Class where
  name := name
  kind := .ordinary
  loader := none
  accessFlags := 33
  super := sup
  interfaces := #[]
  cf := none
  fields := #[]
  methods := #[]
  instanceTypes := #[]
  staticTypes := #[]
  resolved := #[]
  callSites := []
  init := .initialized
  statics := none
  mirror := none

def pool0 : Array CpInfo := pool [(5, u "<init>"), (0, u "()V"), (1, .class_ 10), (1, u "java/lang/Object")] 113

def k0c0 : Code := { maxStack := 0, maxLocals := 1, code := object_method_1_code, exceptionTable := #[], attributes := #[] }
def k0m0 : Method := { name := "<init>", desc := "()V", sig := { parameters := [], returnType := none }, accessFlags := 1, code := some k0c0 }
/-- java/lang/Object -/
def k0 : Class := { plain "java/lang/Object" none with
  accessFlags := 33
  interfaces := #[]
  cf := some (fileOf pool0 8 #[] #[{ accessFlags := 1, nameIndex := 5, descriptorIndex := 6, attributes := #[] }] 33 0 #[] #[])
  fields := #[]
  methods := #[k0m0]
  instanceTypes := #[]
  staticTypes := #[]
  resolved := Array.replicate 124 none
  statics := none }

def pool1 : Array CpInfo := pool [(2, .class_ 4), (0, .nameAndType 5 6), (0, u "java/lang/Object"), (0, u "<init>"), (0, u "()V"), (0, .methodref 8 9), (0, .class_ 10), (0, .nameAndType 11 12), (0, u "com/example/honest_commit/honestcommit/store/VersionsPrunablePinLaw"), (0, u "bit"), (0, u "(II)Z"), (0, .class_ 14), (0, u "com/example/honest_commit/honestcommit/store/Versions"), (0, .methodref 13 3), (0, .long 10), (1, .methodref 13 19), (0, .nameAndType 20 21), (0, u "add"), (0, u "(J[Ljava/lang/Object;[I)V"), (0, .long 20), (1, .long 30), (1, .methodref 13 27), (0, .nameAndType 28 29), (0, u "prune"), (0, u "(J)Z"), (0, .long 40), (1, .long 50), (1, .methodref 13 35), (0, .nameAndType 36 37), (0, u "prunable"), (0, u "()Z"), (3, u "law"), (0, u "(IJ)Z")] 4

def k1m0 : Method := { name := "<init>", desc := "()V", sig := { parameters := [], returnType := none }, accessFlags := 1, code := none }
def k1c1 : Code := { maxStack := 2, maxLocals := 2, code := method_2_code, exceptionTable := #[], attributes := #[] }
def k1m1 : Method := { name := "bit", desc := "(II)Z", sig := { parameters := [.int, .int], returnType := some .boolean }, accessFlags := 10, code := some k1c1 }
def k1c2 : Code := { maxStack := 5, maxLocals := 18, code := code, exceptionTable := #[], attributes := #[] }
def k1m2 : Method := { name := "law", desc := "(IJ)Z", sig := { parameters := [.int, .long], returnType := some .boolean }, accessFlags := 9, code := some k1c2 }
/-- com/example/honest_commit/honestcommit/store/VersionsPrunablePinLaw -/
def k1 : Class := { plain "com/example/honest_commit/honestcommit/store/VersionsPrunablePinLaw" (some 0) with
  accessFlags := 49
  interfaces := #[]
  cf := some (fileOf pool1 8 #[] #[{ accessFlags := 1, nameIndex := 5, descriptorIndex := 6, attributes := #[] }, { accessFlags := 10, nameIndex := 11, descriptorIndex := 12, attributes := #[] }, { accessFlags := 9, nameIndex := 41, descriptorIndex := 42, attributes := #[] }] 49 2 #[] #[])
  fields := #[]
  methods := #[k1m0, k1m1, k1m2]
  instanceTypes := #[]
  staticTypes := #[]
  resolved := Array.replicate 47 none
  statics := none }

def pool2 : Array CpInfo := pool [(3, .methodref 4 5), (0, .class_ 6), (0, .nameAndType 7 8), (0, u "java/lang/Object"), (0, u "<init>"), (0, u "()V"), (0, .class_ 10), (0, u "com/example/honest_commit/honestcommit/store/Versions"), (0, .fieldref 9 12), (0, .nameAndType 13 14), (0, u "timestamps"), (0, u "[J"), (0, .class_ 16), (0, u "[Ljava/lang/Object;"), (0, .fieldref 9 18), (0, .nameAndType 19 20), (0, u "rows"), (0, u "[[Ljava/lang/Object;"), (0, .class_ 22), (0, u "[I"), (0, .fieldref 9 24), (0, .nameAndType 25 26), (0, u "columns"), (0, u "[[I"), (4, .methodref 9 32), (0, .nameAndType 33 34), (0, u "slot"), (0, u "(I)I"), (0, .fieldref 9 36), (0, .nameAndType 37 38), (0, u "size"), (0, u "I"), (0, .methodref 9 40), (0, .nameAndType 41 42), (0, u "resize"), (0, u "(I)V"), (4, .methodref 9 48), (0, .nameAndType 49 42), (0, u "dropOldest"), (0, .fieldref 9 51), (0, .nameAndType 52 38), (0, u "oldest"), (0, .methodref 54 55), (0, .class_ 56), (0, .nameAndType 57 34), (0, u "java/lang/Integer"), (0, u "highestOneBit"), (0, .methodref 59 60), (0, .class_ 61), (0, .nameAndType 62 63), (0, u "java/lang/Math"), (0, u "max"), (0, u "(II)I"), (0, u "NEWEST"), (0, u "J"), (3, u "LEAST_CAPACITY"), (1, u "queued"), (0, u "Z"), (5, u "add"), (0, u "(J[Ljava/lang/Object;[I)V"), (2, u "prune"), (0, u "(J)Z"), (1, u "prunable"), (0, u "()Z")] 5

def k2c0 : Code := { maxStack := 2, maxLocals := 1, code := prog_95_method_1_code, exceptionTable := #[], attributes := #[] }
def k2m0 : Method := { name := "<init>", desc := "()V", sig := { parameters := [], returnType := none }, accessFlags := 0, code := some k2c0 }
def k2c1 : Code := { maxStack := 4, maxLocals := 6, code := prog_95_method_3_code, exceptionTable := #[], attributes := #[] }
def k2m1 : Method := { name := "add", desc := "(J[Ljava/lang/Object;[I)V", sig := { parameters := [.long, (.array (.object "java/lang/Object")), (.array .int)], returnType := none }, accessFlags := 0, code := some k2c1 }
def k2c2 : Code := { maxStack := 4, maxLocals := 5, code := prog_95_method_5_code, exceptionTable := #[], attributes := #[] }
def k2m2 : Method := { name := "prune", desc := "(J)Z", sig := { parameters := [.long], returnType := some .boolean }, accessFlags := 0, code := some k2c2 }
def k2c3 : Code := { maxStack := 2, maxLocals := 1, code := prog_95_method_7_code, exceptionTable := #[], attributes := #[] }
def k2m3 : Method := { name := "prunable", desc := "()Z", sig := { parameters := [], returnType := some .boolean }, accessFlags := 0, code := some k2c3 }
def k2c4 : Code := { maxStack := 4, maxLocals := 3, code := prog_95_method_9_code, exceptionTable := #[], attributes := #[] }
def k2m4 : Method := { name := "dropOldest", desc := "(I)V", sig := { parameters := [.int], returnType := none }, accessFlags := 2, code := some k2c4 }
def k2c5 : Code := { maxStack := 4, maxLocals := 7, code := prog_95_method_10_code, exceptionTable := #[], attributes := #[] }
def k2m5 : Method := { name := "resize", desc := "(I)V", sig := { parameters := [.int], returnType := none }, accessFlags := 2, code := some k2c5 }
def k2c6 : Code := { maxStack := 3, maxLocals := 2, code := prog_95_method_11_code, exceptionTable := #[], attributes := #[] }
def k2m6 : Method := { name := "slot", desc := "(I)I", sig := { parameters := [.int], returnType := some .int }, accessFlags := 2, code := some k2c6 }
/-- com/example/honest_commit/honestcommit/store/Versions -/
def k2 : Class := { plain "com/example/honest_commit/honestcommit/store/Versions" (some 0) with
  accessFlags := 32
  interfaces := #[]
  cf := some (fileOf pool2 9 #[] #[{ accessFlags := 0, nameIndex := 7, descriptorIndex := 8, attributes := #[] }, { accessFlags := 0, nameIndex := 78, descriptorIndex := 79, attributes := #[] }, { accessFlags := 0, nameIndex := 82, descriptorIndex := 83, attributes := #[] }, { accessFlags := 0, nameIndex := 85, descriptorIndex := 86, attributes := #[] }, { accessFlags := 2, nameIndex := 49, descriptorIndex := 42, attributes := #[] }, { accessFlags := 2, nameIndex := 41, descriptorIndex := 42, attributes := #[] }, { accessFlags := 2, nameIndex := 33, descriptorIndex := 34, attributes := #[] }] 32 4 #[] #[{ accessFlags := 24, nameIndex := 64, descriptorIndex := 65, attributes := #[] }, { accessFlags := 26, nameIndex := 69, descriptorIndex := 38, attributes := #[] }, { accessFlags := 2, nameIndex := 13, descriptorIndex := 14, attributes := #[] }, { accessFlags := 2, nameIndex := 19, descriptorIndex := 20, attributes := #[] }, { accessFlags := 2, nameIndex := 25, descriptorIndex := 26, attributes := #[] }, { accessFlags := 2, nameIndex := 52, descriptorIndex := 38, attributes := #[] }, { accessFlags := 2, nameIndex := 37, descriptorIndex := 38, attributes := #[] }, { accessFlags := 0, nameIndex := 71, descriptorIndex := 72, attributes := #[] }])
  fields := #[{ name := "NEWEST", type := .long, accessFlags := 24, slot := 0, constantValue := 0 }, { name := "LEAST_CAPACITY", type := .int, accessFlags := 26, slot := 1, constantValue := 0 }, { name := "timestamps", type := (.array .long), accessFlags := 2, slot := 0, constantValue := 0 }, { name := "rows", type := (.array (.array (.object "java/lang/Object"))), accessFlags := 2, slot := 1, constantValue := 0 }, { name := "columns", type := (.array (.array .int)), accessFlags := 2, slot := 2, constantValue := 0 }, { name := "oldest", type := .int, accessFlags := 2, slot := 3, constantValue := 0 }, { name := "size", type := .int, accessFlags := 2, slot := 4, constantValue := 0 }, { name := "queued", type := .boolean, accessFlags := 0, slot := 5, constantValue := 0 }]
  methods := #[k2m0, k2m1, k2m2, k2m3, k2m4, k2m5, k2m6]
  instanceTypes := #[(.array .long), (.array (.array (.object "java/lang/Object"))), (.array (.array .int)), .int, .int, .boolean]
  staticTypes := #[.long, .int]
  resolved := Array.replicate 92 none
  statics := none }

def pool3 : Array CpInfo := pool [(1, .class_ 2), (0, u "java/io/Serializable"), (0, .class_ 4), (0, u "java/lang/Object")] 2

/-- java/io/Serializable -/
def k3 : Class := { plain "java/io/Serializable" (some 0) with
  accessFlags := 1537
  interfaces := #[]
  cf := some (fileOf pool3 1 #[] #[] 1537 3 #[] #[])
  fields := #[]
  methods := #[]
  instanceTypes := #[]
  staticTypes := #[]
  resolved := Array.replicate 7 none
  statics := none }

def pool4 : Array CpInfo := pool [(2, .class_ 4), (1, u "java/lang/Object"), (0, u "<init>"), (0, u "()V"), (1, .class_ 10), (1, u "java/lang/Number"), (2, .class_ 14), (0, u "java/io/Serializable"), (0, u "serialVersionUID"), (0, u "J")] 20

def k4m0 : Method := { name := "<init>", desc := "()V", sig := { parameters := [], returnType := none }, accessFlags := 1, code := none }
/-- java/lang/Number -/
def k4 : Class := { plain "java/lang/Number" (some 0) with
  accessFlags := 1057
  interfaces := #[3]
  cf := some (fileOf pool4 8 #[] #[{ accessFlags := 1, nameIndex := 5, descriptorIndex := 6, attributes := #[] }] 1057 2 #[13] #[{ accessFlags := 26, nameIndex := 15, descriptorIndex := 16, attributes := #[] }])
  fields := #[{ name := "serialVersionUID", type := .long, accessFlags := 26, slot := 0, constantValue := 0 }]
  methods := #[k4m0]
  instanceTypes := #[]
  staticTypes := #[.long]
  resolved := Array.replicate 37 none
  statics := none }

def pool5 : Array CpInfo := pool [(1, .class_ 2), (0, u "java/lang/Comparable"), (0, .class_ 4), (0, u "java/lang/Object")] 7

/-- java/lang/Comparable -/
def k5 : Class := { plain "java/lang/Comparable" (some 0) with
  accessFlags := 1537
  interfaces := #[]
  cf := some (fileOf pool5 1 #[] #[] 1537 3 #[] #[])
  fields := #[]
  methods := #[]
  instanceTypes := #[]
  staticTypes := #[]
  resolved := Array.replicate 12 none
  statics := none }

def pool6 : Array CpInfo := pool [(1, .class_ 2), (0, u "java/lang/constant/Constable"), (0, .class_ 4), (0, u "java/lang/Object")] 6

/-- java/lang/constant/Constable -/
def k6 : Class := { plain "java/lang/constant/Constable" (some 0) with
  accessFlags := 1537
  interfaces := #[]
  cf := some (fileOf pool6 1 #[] #[] 1537 3 #[] #[])
  fields := #[]
  methods := #[]
  instanceTypes := #[]
  staticTypes := #[]
  resolved := Array.replicate 11 none
  statics := none }

def pool7 : Array CpInfo := pool [(1, .class_ 2), (0, u "java/lang/constant/ConstantDesc"), (0, .class_ 4), (0, u "java/lang/Object")] 32

/-- java/lang/constant/ConstantDesc -/
def k7 : Class := { plain "java/lang/constant/ConstantDesc" (some 0) with
  accessFlags := 1537
  interfaces := #[]
  cf := some (fileOf pool7 1 #[] #[] 1537 3 #[] #[])
  fields := #[]
  methods := #[]
  instanceTypes := #[]
  staticTypes := #[]
  resolved := Array.replicate 37 none
  statics := none }

def pool8 : Array CpInfo := pool [(1, .class_ 2), (0, u "java/lang/Integer"), (16, u "digits"), (0, u "[C"), (30, .methodref 1 52), (0, .nameAndType 53 54), (0, u "numberOfLeadingZeros"), (0, u "(I)I"), (30, u "DigitOnes"), (0, u "[B"), (2, u "DigitTens"), (37, .integer 2147483648), (61, .class_ 190), (0, u "java/lang/Integer$IntegerCache"), (3, u "I"), (8, .class_ 204), (0, u "java/lang/Number"), (2, u "value"), (94, u "TYPE"), (0, u "Ljava/lang/Class;"), (0, .class_ 305), (0, u "java/lang/Comparable"), (0, .class_ 307), (0, u "java/lang/constant/Constable"), (0, .class_ 309), (0, u "java/lang/constant/ConstantDesc"), (0, u "MIN_VALUE"), (1, u "MAX_VALUE"), (3, u "SIZE"), (1, u "BYTES"), (1, u "serialVersionUID"), (0, u "J"), (81, u "highestOneBit")] 49

def k8c0 : Code := { maxStack := 3, maxLocals := 1, code := jdk_33_method_45_code, exceptionTable := #[], attributes := #[] }
def k8m0 : Method := { name := "highestOneBit", desc := "(I)I", sig := { parameters := [.int], returnType := some .int }, accessFlags := 9, code := some k8c0 }
def k8c1 : Code := { maxStack := 3, maxLocals := 2, code := jdk_33_method_47_code, exceptionTable := #[], attributes := #[] }
def k8m1 : Method := { name := "numberOfLeadingZeros", desc := "(I)I", sig := { parameters := [.int], returnType := some .int }, accessFlags := 9, code := some k8c1 }
/-- java/lang/Integer -/
def k8 : Class := { plain "java/lang/Integer" (some 4) with
  accessFlags := 49
  interfaces := #[5, 6, 7]
  cf := some (fileOf pool8 1 #[.nestMembers #[189]] #[{ accessFlags := 9, nameIndex := 403, descriptorIndex := 54, attributes := #[] }, { accessFlags := 9, nameIndex := 53, descriptorIndex := 54, attributes := #[] }] 49 203 #[304, 306, 308] #[{ accessFlags := 25, nameIndex := 310, descriptorIndex := 194, attributes := #[] }, { accessFlags := 25, nameIndex := 312, descriptorIndex := 194, attributes := #[] }, { accessFlags := 25, nameIndex := 302, descriptorIndex := 303, attributes := #[] }, { accessFlags := 24, nameIndex := 19, descriptorIndex := 20, attributes := #[] }, { accessFlags := 24, nameIndex := 89, descriptorIndex := 86, attributes := #[] }, { accessFlags := 24, nameIndex := 85, descriptorIndex := 86, attributes := #[] }, { accessFlags := 18, nameIndex := 207, descriptorIndex := 194, attributes := #[] }, { accessFlags := 25, nameIndex := 316, descriptorIndex := 194, attributes := #[] }, { accessFlags := 25, nameIndex := 318, descriptorIndex := 194, attributes := #[] }, { accessFlags := 26, nameIndex := 320, descriptorIndex := 321, attributes := #[] }])
  fields := #[{ name := "MIN_VALUE", type := .int, accessFlags := 25, slot := 0, constantValue := 0 }, { name := "MAX_VALUE", type := .int, accessFlags := 25, slot := 1, constantValue := 0 }, { name := "TYPE", type := (.object "java/lang/Class"), accessFlags := 25, slot := 2, constantValue := 0 }, { name := "digits", type := (.array .char), accessFlags := 24, slot := 3, constantValue := 0 }, { name := "DigitTens", type := (.array .byte), accessFlags := 24, slot := 4, constantValue := 0 }, { name := "DigitOnes", type := (.array .byte), accessFlags := 24, slot := 5, constantValue := 0 }, { name := "value", type := .int, accessFlags := 18, slot := 0, constantValue := 0 }, { name := "SIZE", type := .int, accessFlags := 25, slot := 6, constantValue := 0 }, { name := "BYTES", type := .int, accessFlags := 25, slot := 7, constantValue := 0 }, { name := "serialVersionUID", type := .long, accessFlags := 26, slot := 8, constantValue := 0 }]
  methods := #[k8m0, k8m1]
  instanceTypes := #[.int]
  staticTypes := #[.int, .int, (.object "java/lang/Class"), (.array .char), (.array .byte), (.array .byte), .int, .int, .long]
  resolved := Array.replicate 453 none
  statics := none }

def pool9 : Array CpInfo := pool [(1, .class_ 2), (0, u "java/lang/Math"), (1, .class_ 6), (1, u "java/lang/Object"), (0, u "<init>"), (0, u "()V"), (89, .class_ 100), (1, u "java/lang/Math$RandomNumberGeneratorHolder"), (71, u "negativeZeroFloatBits"), (0, u "J"), (2, u "negativeZeroDoubleBits"), (21, u "max"), (46, u "$assertionsDisabled"), (0, u "Z"), (88, u "(II)I"), (2, u "twoToTheDoubleScaleDown"), (0, u "D"), (4, u "twoToTheDoubleScaleUp"), (9, u "E"), (3, u "PI"), (2, u "TAU"), (2, u "DEGREES_TO_RADIANS"), (0, u "RADIANS_TO_DEGREES")] 94

def k9m0 : Method := { name := "<init>", desc := "()V", sig := { parameters := [], returnType := none }, accessFlags := 2, code := none }
def k9c1 : Code := { maxStack := 2, maxLocals := 2, code := jdk_29_method_65_code, exceptionTable := #[], attributes := #[] }
def k9m1 : Method := { name := "max", desc := "(II)I", sig := { parameters := [.int, .int], returnType := some .int }, accessFlags := 9, code := some k9c1 }
/-- java/lang/Math -/
def k9 : Class := { plain "java/lang/Math" (some 0) with
  accessFlags := 49
  interfaces := #[]
  cf := some (fileOf pool9 1 #[.nestMembers #[98]] #[{ accessFlags := 2, nameIndex := 7, descriptorIndex := 8, attributes := #[] }, { accessFlags := 9, nameIndex := 198, descriptorIndex := 335, attributes := #[] }] 49 4 #[] #[{ accessFlags := 25, nameIndex := 354, descriptorIndex := 339, attributes := #[] }, { accessFlags := 25, nameIndex := 358, descriptorIndex := 339, attributes := #[] }, { accessFlags := 25, nameIndex := 361, descriptorIndex := 339, attributes := #[] }, { accessFlags := 26, nameIndex := 364, descriptorIndex := 339, attributes := #[] }, { accessFlags := 26, nameIndex := 365, descriptorIndex := 339, attributes := #[] }, { accessFlags := 26, nameIndex := 172, descriptorIndex := 173, attributes := #[] }, { accessFlags := 26, nameIndex := 176, descriptorIndex := 173, attributes := #[] }, { accessFlags := 8, nameIndex := 344, descriptorIndex := 339, attributes := #[] }, { accessFlags := 8, nameIndex := 338, descriptorIndex := 339, attributes := #[] }, { accessFlags := 4120, nameIndex := 245, descriptorIndex := 246, attributes := #[] }])
  fields := #[{ name := "E", type := .double, accessFlags := 25, slot := 0, constantValue := 0 }, { name := "PI", type := .double, accessFlags := 25, slot := 1, constantValue := 0 }, { name := "TAU", type := .double, accessFlags := 25, slot := 2, constantValue := 0 }, { name := "DEGREES_TO_RADIANS", type := .double, accessFlags := 26, slot := 3, constantValue := 0 }, { name := "RADIANS_TO_DEGREES", type := .double, accessFlags := 26, slot := 4, constantValue := 0 }, { name := "negativeZeroFloatBits", type := .long, accessFlags := 26, slot := 5, constantValue := 0 }, { name := "negativeZeroDoubleBits", type := .long, accessFlags := 26, slot := 6, constantValue := 0 }, { name := "twoToTheDoubleScaleUp", type := .double, accessFlags := 8, slot := 7, constantValue := 0 }, { name := "twoToTheDoubleScaleDown", type := .double, accessFlags := 8, slot := 8, constantValue := 0 }, { name := "$assertionsDisabled", type := .boolean, accessFlags := 4120, slot := 9, constantValue := 0 }]
  methods := #[k9m0, k9m1]
  instanceTypes := #[]
  staticTypes := #[.double, .double, .double, .double, .double, .long, .long, .double, .double, .boolean]
  resolved := Array.replicate 460 none
  statics := none }

def pool10 : Array CpInfo := pool [(1, u "java/lang/Cloneable"), (0, .class_ 1), (0, u "java/lang/Object"), (0, .class_ 3)] 3

/-- java/lang/Cloneable -/
def k10 : Class := { plain "java/lang/Cloneable" (some 0) with
  accessFlags := 1537
  interfaces := #[]
  cf := some (fileOf pool10 2 #[] #[] 1537 4 #[] #[])
  fields := #[]
  methods := #[]
  instanceTypes := #[]
  staticTypes := #[]
  resolved := Array.replicate 8 none
  statics := none }

/-- the primitive byte -/
def k11 : Class := { plain "byte" none with kind := .primitive 'B', accessFlags := 0x411 }
/-- [B -/
def k12 : Class := { plain "[B" (some 0) with kind := .array 11 .byte, interfaces := #[10, 3], accessFlags := 1041 }

/-- the primitive int -/
def k13 : Class := { plain "int" none with kind := .primitive 'I', accessFlags := 0x411 }
/-- [I -/
def k14 : Class := { plain "[I" (some 0) with kind := .array 13 .int, interfaces := #[10, 3], accessFlags := 1041 }

/-- the primitive long -/
def k15 : Class := { plain "long" none with kind := .primitive 'J', accessFlags := 0x411 }
/-- [J -/
def k16 : Class := { plain "[J" (some 0) with kind := .array 15 .long, interfaces := #[10, 3], accessFlags := 1041 }

/-- [Ljava/lang/Object; -/
def k17 : Class := { plain "[Ljava/lang/Object;" (some 0) with kind := .array 0 (.object "java/lang/Object"), interfaces := #[10, 3], accessFlags := 1041 }

/-- [[Ljava/lang/Object; -/
def k18 : Class := { plain "[[Ljava/lang/Object;" (some 0) with kind := .array 17 (.array (.object "java/lang/Object")), interfaces := #[10, 3], accessFlags := 1041 }
/-- [[I -/
def k19 : Class := { plain "[[I" (some 0) with kind := .array 14 (.array .int), interfaces := #[10, 3], accessFlags := 1041 }

def heap : Heap := #[]
def classes : Array Class := #[k0, k1, k2, k3, k4, k5, k6, k7, k8, k9, k10, k11, k12, k13, k14, k15, k16, k17, k18, k19]
def interned : List (Array UInt16 × Addr) := []
def slotsUsed : Nat := 0
def theMethod : MethodId := ⟨1, 2⟩
def args0 : Array Value := #[.int 5, .long 3]
def aboutOver (below : List Frame) : State where
  vm := { classes := classes, interned := interned.toArray }
  heap := heap
  slotsUsed := slotsUsed
  threads := #[{ frames := .invoking theMethod args0 :: below }]
def below0 : List Frame := [.native { method := ⟨0, 0⟩, args := #[] }]
def about1 : State := aboutOver below0
def p0 : Program := .bare "" "" ""
def e0 : Env := launch0.env 0 0 0
theorem w_frames : about1.frames = Frame.invoking theMethod args0 :: below0 := rfl
set_option maxRecDepth 65536 in
theorem w_args : argsFit about1.vm theMethod args0 = true := by decide +kernel
set_option maxRecDepth 65536 in
theorem w_heap : heapFits about1 = true := by decide +kernel
set_option maxRecDepth 65536 in
theorem w_runnable : about1.curStatus? = some .runnable := by decide +kernel
set_option maxRecDepth 65536 in
theorem w_alone : about1.alone = true := by decide +kernel
set_option maxRecDepth 65536 in
theorem w_named : about1.methodNamed? x = some theMethod := by decide +kernel
set_option maxRecDepth 65536 in
theorem w_hears : about1.hears theMethod below0 = true := by decide +kernel
set_option maxRecDepth 65536 in
theorem w_ripe : about1.ripe theMethod args0 below0 = true := by decide +kernel
theorem w_running : about1.status = .running := rfl
set_option maxRecDepth 65536 in
theorem w_room : about1.hasRoom e0.platform room_1 = true :=
  launch0.hasRoom_least _ room_1 (by decide +kernel) (by decide +kernel) (by decide +kernel) (by decide +kernel) (by decide +kernel) (by decide +kernel)
theorem allAtoms_all (ts : List Jvm.Cond) (a : Array Jvm.Value) (st : Jvm.State) : (allAtoms ts).before a st = ts.all (fun c => c.before a st) := by
  induction ts with
  | nil => rfl
  | cons c t ih =>
    show (Jvm.Cond.and c (allAtoms t)).before a st = _
    rw [Jvm.Cond.before_and, ih, List.all_cons]
def words1 : List Jvm.Cond := Jvm.Cond.code x code maxLocals ret :: tables_1
/-- a 'code' word, met by the world's own term for the bytes: nothing is compared byte by byte -/
theorem code_word {y : MethodName} {bytes : ByteArray} {mx : Nat} {rt : Option FieldType} {a : Array Value} {s : State} {m : MethodId} {meth : Method} {c : Code} (h1 : s.methodNamed? y = some m) (h2 : s.vm.method? m = some meth) (h3 : meth.code = some c) (h4 : c.code = bytes)
    (h5 : (c.maxLocals == mx && c.exceptionTable.isEmpty && decide (c.maxStack ≤ mostOperands) && decide (meth.sig.returnType = rt) && !meth.locks && decide (parseMethodDescriptor y.desc = some meth.sig)) = true) : (Jvm.Cond.code y bytes mx rt).before a s = true := by
  simp only [Bool.and_eq_true, beq_iff_eq, Bool.not_eq_true', decide_eq_true_eq] at h5
  obtain ⟨⟨⟨⟨⟨g1, g2⟩, g3⟩, g4⟩, g5⟩, g6⟩ := h5
  simp [Cond.before, Cond.holds, Cond.value, h1, h2, h3, h4, g1, g2, g3, g4, g5, g6]
def isCode : Jvm.Cond → Bool
  | .code _ _ _ _ => true
  | _ => false
theorem all_split {L : List Jvm.Cond} {P : Jvm.Cond → Bool} (h1 : L.all (fun c => isCode c || P c) = true) (h2 : ∀ c ∈ L.filter isCode, P c = true) : L.all P = true := by
  refine List.all_eq_true.mpr fun c hc => ?_
  have h := List.all_eq_true.mp h1 c hc
  rcases Bool.eq_false_or_eq_true (isCode c) with hi | hi
  · exact h2 c (List.mem_filter.mpr ⟨hc, hi⟩)
  · simpa [hi] using h
set_option maxRecDepth 65536 in
theorem w_c0 : (Jvm.Cond.code x code maxLocals ret).before args0 about1 = true := code_word (m := ⟨1, 2⟩) (meth := k1m2) (c := k1c2) (by decide +kernel) rfl rfl rfl (by decide +kernel)
set_option maxRecDepth 65536 in
theorem w_c1 : (Jvm.Cond.code ({ cls := "com/example/honest_commit/honestcommit/store/VersionsPrunablePinLaw", name := "bit", desc := "(II)Z" } : Jvm.MethodName) method_2_code (2 : Nat) (Option.some Jvm.ClassFile.FieldType.boolean)).before args0 about1 = true := code_word (m := ⟨1, 1⟩) (meth := k1m1) (c := k1c1) (by decide +kernel) rfl rfl rfl (by decide +kernel)
set_option maxRecDepth 65536 in
theorem w_c2 : (Jvm.Cond.code ({ cls := "com/example/honest_commit/honestcommit/store/Versions", name := "<init>", desc := "()V" } : Jvm.MethodName) prog_95_method_1_code (1 : Nat) (Option.none : Option Jvm.ClassFile.FieldType)).before args0 about1 = true := code_word (m := ⟨2, 0⟩) (meth := k2m0) (c := k2c0) (by decide +kernel) rfl rfl rfl (by decide +kernel)
set_option maxRecDepth 65536 in
theorem w_c3 : (Jvm.Cond.code ({ cls := "java/lang/Object", name := "<init>", desc := "()V" } : Jvm.MethodName) object_method_1_code (1 : Nat) (Option.none : Option Jvm.ClassFile.FieldType)).before args0 about1 = true := code_word (m := ⟨0, 0⟩) (meth := k0m0) (c := k0c0) (by decide +kernel) rfl rfl rfl (by decide +kernel)
set_option maxRecDepth 65536 in
theorem w_c4 : (Jvm.Cond.code ({ cls := "com/example/honest_commit/honestcommit/store/Versions", name := "prune", desc := "(J)Z" } : Jvm.MethodName) prog_95_method_5_code (5 : Nat) (Option.some Jvm.ClassFile.FieldType.boolean)).before args0 about1 = true := code_word (m := ⟨2, 2⟩) (meth := k2m2) (c := k2c2) (by decide +kernel) rfl rfl rfl (by decide +kernel)
set_option maxRecDepth 65536 in
theorem w_c5 : (Jvm.Cond.code ({ cls := "com/example/honest_commit/honestcommit/store/Versions", name := "prunable", desc := "()Z" } : Jvm.MethodName) prog_95_method_7_code (1 : Nat) (Option.some Jvm.ClassFile.FieldType.boolean)).before args0 about1 = true := code_word (m := ⟨2, 3⟩) (meth := k2m3) (c := k2c3) (by decide +kernel) rfl rfl rfl (by decide +kernel)
set_option maxRecDepth 65536 in
theorem w_c6 : (Jvm.Cond.code ({ cls := "com/example/honest_commit/honestcommit/store/Versions", name := "add", desc := "(J[Ljava/lang/Object;[I)V" } : Jvm.MethodName) prog_95_method_3_code (6 : Nat) (Option.none : Option Jvm.ClassFile.FieldType)).before args0 about1 = true := code_word (m := ⟨2, 1⟩) (meth := k2m1) (c := k2c1) (by decide +kernel) rfl rfl rfl (by decide +kernel)
set_option maxRecDepth 65536 in
theorem w_c7 : (Jvm.Cond.code ({ cls := "com/example/honest_commit/honestcommit/store/Versions", name := "slot", desc := "(I)I" } : Jvm.MethodName) prog_95_method_11_code (2 : Nat) (Option.some Jvm.ClassFile.FieldType.int)).before args0 about1 = true := code_word (m := ⟨2, 6⟩) (meth := k2m6) (c := k2c6) (by decide +kernel) rfl rfl rfl (by decide +kernel)
set_option maxRecDepth 65536 in
theorem w_c8 : (Jvm.Cond.code ({ cls := "com/example/honest_commit/honestcommit/store/Versions", name := "dropOldest", desc := "(I)V" } : Jvm.MethodName) prog_95_method_9_code (3 : Nat) (Option.none : Option Jvm.ClassFile.FieldType)).before args0 about1 = true := code_word (m := ⟨2, 4⟩) (meth := k2m4) (c := k2c4) (by decide +kernel) rfl rfl rfl (by decide +kernel)
set_option maxRecDepth 65536 in
theorem w_c9 : (Jvm.Cond.code ({ cls := "com/example/honest_commit/honestcommit/store/Versions", name := "resize", desc := "(I)V" } : Jvm.MethodName) prog_95_method_10_code (7 : Nat) (Option.none : Option Jvm.ClassFile.FieldType)).before args0 about1 = true := code_word (m := ⟨2, 5⟩) (meth := k2m5) (c := k2c5) (by decide +kernel) rfl rfl rfl (by decide +kernel)
set_option maxRecDepth 65536 in
theorem w_c10 : (Jvm.Cond.code ({ cls := "java/lang/Integer", name := "highestOneBit", desc := "(I)I" } : Jvm.MethodName) jdk_33_method_45_code (1 : Nat) (Option.some Jvm.ClassFile.FieldType.int)).before args0 about1 = true := code_word (m := ⟨8, 0⟩) (meth := k8m0) (c := k8c0) (by decide +kernel) rfl rfl rfl (by decide +kernel)
set_option maxRecDepth 65536 in
theorem w_c11 : (Jvm.Cond.code ({ cls := "java/lang/Integer", name := "numberOfLeadingZeros", desc := "(I)I" } : Jvm.MethodName) jdk_33_method_47_code (2 : Nat) (Option.some Jvm.ClassFile.FieldType.int)).before args0 about1 = true := code_word (m := ⟨8, 1⟩) (meth := k8m1) (c := k8c1) (by decide +kernel) rfl rfl rfl (by decide +kernel)
set_option maxRecDepth 65536 in
theorem w_c12 : (Jvm.Cond.code ({ cls := "java/lang/Math", name := "max", desc := "(II)I" } : Jvm.MethodName) jdk_29_method_65_code (2 : Nat) (Option.some Jvm.ClassFile.FieldType.int)).before args0 about1 = true := code_word (m := ⟨9, 1⟩) (meth := k9m1) (c := k9c1) (by decide +kernel) rfl rfl rfl (by decide +kernel)
def codes1 : List Jvm.Cond := [Jvm.Cond.code x code maxLocals ret, Jvm.Cond.code ({ cls := "com/example/honest_commit/honestcommit/store/VersionsPrunablePinLaw", name := "bit", desc := "(II)Z" } : Jvm.MethodName) method_2_code (2 : Nat) (Option.some Jvm.ClassFile.FieldType.boolean), Jvm.Cond.code ({ cls := "com/example/honest_commit/honestcommit/store/Versions", name := "<init>", desc := "()V" } : Jvm.MethodName) prog_95_method_1_code (1 : Nat) (Option.none : Option Jvm.ClassFile.FieldType), Jvm.Cond.code ({ cls := "java/lang/Object", name := "<init>", desc := "()V" } : Jvm.MethodName) object_method_1_code (1 : Nat) (Option.none : Option Jvm.ClassFile.FieldType), Jvm.Cond.code ({ cls := "com/example/honest_commit/honestcommit/store/Versions", name := "prune", desc := "(J)Z" } : Jvm.MethodName) prog_95_method_5_code (5 : Nat) (Option.some Jvm.ClassFile.FieldType.boolean), Jvm.Cond.code ({ cls := "com/example/honest_commit/honestcommit/store/Versions", name := "prunable", desc := "()Z" } : Jvm.MethodName) prog_95_method_7_code (1 : Nat) (Option.some Jvm.ClassFile.FieldType.boolean), Jvm.Cond.code ({ cls := "com/example/honest_commit/honestcommit/store/Versions", name := "add", desc := "(J[Ljava/lang/Object;[I)V" } : Jvm.MethodName) prog_95_method_3_code (6 : Nat) (Option.none : Option Jvm.ClassFile.FieldType), Jvm.Cond.code ({ cls := "com/example/honest_commit/honestcommit/store/Versions", name := "slot", desc := "(I)I" } : Jvm.MethodName) prog_95_method_11_code (2 : Nat) (Option.some Jvm.ClassFile.FieldType.int), Jvm.Cond.code ({ cls := "com/example/honest_commit/honestcommit/store/Versions", name := "dropOldest", desc := "(I)V" } : Jvm.MethodName) prog_95_method_9_code (3 : Nat) (Option.none : Option Jvm.ClassFile.FieldType), Jvm.Cond.code ({ cls := "com/example/honest_commit/honestcommit/store/Versions", name := "resize", desc := "(I)V" } : Jvm.MethodName) prog_95_method_10_code (7 : Nat) (Option.none : Option Jvm.ClassFile.FieldType), Jvm.Cond.code ({ cls := "java/lang/Integer", name := "highestOneBit", desc := "(I)I" } : Jvm.MethodName) jdk_33_method_45_code (1 : Nat) (Option.some Jvm.ClassFile.FieldType.int), Jvm.Cond.code ({ cls := "java/lang/Integer", name := "numberOfLeadingZeros", desc := "(I)I" } : Jvm.MethodName) jdk_33_method_47_code (2 : Nat) (Option.some Jvm.ClassFile.FieldType.int), Jvm.Cond.code ({ cls := "java/lang/Math", name := "max", desc := "(II)I" } : Jvm.MethodName) jdk_29_method_65_code (2 : Nat) (Option.some Jvm.ClassFile.FieldType.int)]
set_option maxRecDepth 65536 in
theorem codes_eq : words1.filter isCode = codes1 := rfl
theorem w_codes : ∀ c ∈ words1.filter isCode, c.before args0 about1 = true := by
  rw [codes_eq]
  intro c hc
  simp only [codes1, List.mem_cons, List.not_mem_nil, or_false] at hc
  rcases hc with rfl | rfl | rfl | rfl | rfl | rfl | rfl | rfl | rfl | rfl | rfl | rfl | rfl
  · exact w_c0
  · exact w_c1
  · exact w_c2
  · exact w_c3
  · exact w_c4
  · exact w_c5
  · exact w_c6
  · exact w_c7
  · exact w_c8
  · exact w_c9
  · exact w_c10
  · exact w_c11
  · exact w_c12
set_option maxRecDepth 65536 in
theorem w_t1 : (words1.take 24).all (fun c => isCode c || c.before args0 about1) = true := by decide +kernel
set_option maxRecDepth 65536 in
theorem w_t2 : ((words1.drop 24).take 24).all (fun c => isCode c || c.before args0 about1) = true := by decide +kernel
set_option maxRecDepth 65536 in
theorem w_t3 : (((words1.drop 24).drop 24).take 24).all (fun c => isCode c || c.before args0 about1) = true := by decide +kernel
set_option maxRecDepth 65536 in
theorem w_t4 : (((words1.drop 24).drop 24).drop 24).all (fun c => isCode c || c.before args0 about1) = true := by decide +kernel
theorem w_tables : (allAtoms (Jvm.Cond.code x code maxLocals ret :: tables_1)).before args0 about1 = true := by
  rw [allAtoms_all]
  show words1.all (fun c => c.before args0 about1) = true
  refine all_split ?_ w_codes
  rw [← List.take_append_drop 24 words1, List.all_append, w_t1, ← List.take_append_drop 24 (words1.drop 24), List.all_append, w_t2, ← List.take_append_drop 24 ((words1.drop 24).drop 24), List.all_append, w_t3, w_t4]
  rfl
set_option maxRecDepth 65536 in
theorem w_case : (Jvm.Cond.and given_1 narrow_1).before args0 about1 = true := by decide +kernel
theorem w_applies : (headSpec (Jvm.Cond.code x code maxLocals ret :: tables_1) room_1).applies x e0.platform about1 = true :=
  (Spec.applies_iff w_frames).mpr ⟨w_running, w_runnable, w_alone, w_named, w_hears, w_ripe, w_room, w_tables⟩
theorem atStart : AtStart classFile x code maxLocals ret World_1 tables_1 room_1 Calls_1 rest_1 Pre_1 launch0 p0 e0 about1 theMethod args0 below0 :=
  ⟨lists_1, trivial, launch0.admits_env _ _ _, launch0.least_env, fairChoices_fair.cas, fairChoices_fair.clock, w_frames, w_args, w_heap, w_applies, trivial, trivial, w_case⟩
end start1
theorem witness_1 : WitnessClaimed_1 := ⟨start1.p0, start1.e0, start1.about1, start1.theMethod, start1.args0, start1.below0, start1.atStart⟩
end Jvm.Pilot.@@N@@
