import JvmDerived
import JvmDerived.Pilot.@@N@@Statement
import JvmDerived.Pilot.@@N@@Code
set_option linter.unusedVariables false
set_option linter.unusedSimpArgs false
namespace Jvm.Pilot.@@N@@
open Jvm Jvm.ClassFile Sem Op Lib Jvm.Free Jvm.Stand Jvm.LawKit Jvm.RoadKit Bundle Jvm.Pilot.@@N@@.Jvm.D
/-- the rest of a walk: from the frame g over T the run comes to an end that E describes -/
def Goes (p : Program) (e : Env) (below : List Frame) (E : Option Value → State → Prop) (T : State) (g : JFrame) : Prop :=
  ∃ U o, Steps p.tables e below (T.setTop g) U ∧ U.status = .running ∧ Ended U below o ∧ ∃ v, o = .returned v ∧ E v U
def EndN (s : State) (cs ss : Nat) (Q : Option Value → Heap → List Loc → Prop) (v : Option Value) (U : State) : Prop := ∃ L, Q v U.heap L ∧ FrameEnd s (.returned v) U L cs ss
def EndW (s : State) (cs ss : Nat) (Q : Option Value → Heap → Vm → List Loc → Prop) (v : Option Value) (U : State) : Prop := ∃ L, Q v U.heap U.vm L ∧ ReturnedEndW s (.returned v) U L cs ss
section Own
variable {p : Program} {l : Launch} {e : Env} {R : Room} {s : State} {m : MethodId} {args : Array Value} {below : List Frame} {meth : Method} {c : Code} {T T' : State} {locs : List Loc} {cells slots : Nat} {cs ss : Nat} {E : Option Value → State → Prop} {pc pc' : Nat} {Ls Ls' : Array Slot} {st : List Value}
theorem Goes.pre {g g' : JFrame} (h : ∀ target, Steps p.tables e below (T'.setTop g') target → Steps p.tables e below (T.setTop g) target) (k : Goes p e below E T' g') : Goes p e below E T g := by
  obtain ⟨U, o, h1, r⟩ := k
  exact ⟨U, o, h _ h1, r⟩
theorem Goes.aft {g g' : JFrame} (h : Steps p.tables e below (T.setTop g) (T'.setTop g')) (k : Goes p e below E T' g') : Goes p e below E T g := by
  obtain ⟨U, o, h1, r⟩ := k
  exact ⟨U, o, h.trans h1, r⟩
theorem own_enter {maxL : Nat} {g : JFrame} {Q : Option Value → Heap → List Loc → Prop} (hg : entryFrame m args maxL = g) (k : Goes p e below (EndN s cs ss Q) T g) : ∃ s₂ o, Steps p.tables e below (T.setTop (entryFrame m args maxL)) s₂ ∧ s₂.status = .running ∧ Ended s₂ below o ∧ ∃ v L, o = .returned v ∧ Q v s₂.heap L ∧ FrameEnd s o s₂ L cs ss := by
  subst hg
  obtain ⟨U, o, h1, h2, h3, v, rfl, L, h4, h5⟩ := k
  exact ⟨U, _, h1, h2, h3, v, L, rfl, h4, h5⟩
theorem own_enterW {maxL : Nat} {g : JFrame} {Q : Option Value → Heap → Vm → List Loc → Prop} (hg : entryFrame m args maxL = g) (k : Goes p e below (EndW s cs ss Q) T g) : ∃ s₂ o, Steps p.tables e below (T.setTop (entryFrame m args maxL)) s₂ ∧ s₂.status = .running ∧ Ended s₂ below o ∧ ∃ v L, o = .returned v ∧ Q v s₂.heap s₂.vm L ∧ ReturnedEndW s o s₂ L cs ss := by
  subst hg
  obtain ⟨U, o, h1, h2, h3, v, rfl, L, h4, h5⟩ := k
  exact ⟨U, _, h1, h2, h3, v, L, rfl, h4, h5⟩
theorem own_retN {Q : Option Value → Heap → List Loc → Prop} (X : Stand p l e R s m args below meth c T locs cells slots) (hx : p.tables.exec = Jvm.exec) (hlk : meth.locks = false) {t : FieldType} (hret : meth.sig.returnType = some t) (ht : t = .boolean ∨ t = .byte ∨ t = .char ∨ t = .short) {z : Int32} (hd : decode c.code pc = .ok (.ireturn, 1)) (h1 : cells ≤ cs) (h2 : slots ≤ ss) (hq : Q (some (.int (nar t z))) T.heap locs) : Goes p e below (EndN s cs ss Q) T (mkF m pc Ls (.int z :: st)) := by
  obtain ⟨fs, hr, hrun, hended, hW, hsame⟩ := X.leave (v := some (.int (nar t z))) (fun h => by rw [hret] at h; cases h) hlk
  exact ⟨_, _, retN X hx hret ht hd hr, hrun, hended, _, rfl, _, hq, ⟨_, rfl⟩, hW, hsame.mono h1 h2⟩
theorem own_retNW {Q : Option Value → Heap → Vm → List Loc → Prop} {s0 : State} {vm1 : Vm} {k1 : Nat} (X : Stand p l e R (s0.setVm vm1) m args below meth c T locs cells slots) (hx : p.tables.exec = Jvm.exec) (hS : s0.Since vm1 k1) (hk1 : k1 ≤ Array.size T.heap) (hlk : meth.locks = false) {t : FieldType} (hret : meth.sig.returnType = some t) (ht : t = .boolean ∨ t = .byte ∨ t = .char ∨ t = .short) {z : Int32} (hd : decode c.code pc = .ok (.ireturn, 1)) (h1 : cells ≤ cs) (h2 : slots ≤ ss) (hq : Q (some (.int (nar t z))) T.heap T.vm locs) : Goes p e below (EndW s0 cs ss Q) T (mkF m pc Ls (.int z :: st)) := by
  obtain ⟨fs, hr, hrun, hended, hend⟩ := X.leaveW hS hk1 (v := some (.int (nar t z))) (fun h => by rw [hret] at h; cases h) hlk
  exact ⟨_, _, retN X hx hret ht hd hr, hrun, hended, _, rfl, _, hq, hend.1, hend.2.1, hend.2.2.1, hend.2.2.2.mono h1 h2⟩
theorem own_retI {Q : Option Value → Heap → List Loc → Prop} (X : Stand p l e R s m args below meth c T locs cells slots) (hx : p.tables.exec = Jvm.exec) (hlk : meth.locks = false) (hret : meth.sig.returnType = some .int) {z : Int32} (hd : decode c.code pc = .ok (.ireturn, 1)) (h1 : cells ≤ cs) (h2 : slots ≤ ss) (hq : Q (some (.int z)) T.heap locs) : Goes p e below (EndN s cs ss Q) T (mkF m pc Ls (.int z :: st)) := by
  obtain ⟨fs, hr, hrun, hended, hW, hsame⟩ := X.leave (v := some (.int z)) (fun h => by rw [hret] at h; cases h) hlk
  exact ⟨_, _, retOut X hx hret rfl (Or.inl ⟨rfl, Or.inl rfl, z, rfl⟩) hd hr, hrun, hended, _, rfl, _, hq, ⟨_, rfl⟩, hW, hsame.mono h1 h2⟩
theorem own_retJ {Q : Option Value → Heap → List Loc → Prop} (X : Stand p l e R s m args below meth c T locs cells slots) (hx : p.tables.exec = Jvm.exec) (hlk : meth.locks = false) (hret : meth.sig.returnType = some .long) {z : Int64} (hd : decode c.code pc = .ok (.lreturn, 1)) (h1 : cells ≤ cs) (h2 : slots ≤ ss) (hq : Q (some (.long z)) T.heap locs) : Goes p e below (EndN s cs ss Q) T (mkF m pc Ls (.long z :: st)) := by
  obtain ⟨fs, hr, hrun, hended, hW, hsame⟩ := X.leave (v := some (.long z)) (fun h => by rw [hret] at h; cases h) hlk
  exact ⟨_, _, retOut X hx hret rfl (Or.inr (Or.inl ⟨rfl, rfl, z, rfl⟩)) hd hr, hrun, hended, _, rfl, _, hq, ⟨_, rfl⟩, hW, hsame.mono h1 h2⟩
theorem own_retA {Q : Option Value → Heap → List Loc → Prop} (X : Stand p l e R s m args below meth c T locs cells slots) (hx : p.tables.exec = Jvm.exec) (hlk : meth.locks = false) {t : FieldType} (hret : meth.sig.returnType = some t) {w : Value} (ht : t.isReference = true) (hw : w.isRef = true) (hn : narrow t w = w) (hd : decode c.code pc = .ok (.areturn, 1)) (h1 : cells ≤ cs) (h2 : slots ≤ ss) (hq : Q (some w) T.heap locs) : Goes p e below (EndN s cs ss Q) T (mkF m pc Ls (w :: st)) := by
  obtain ⟨fs, hr, hrun, hended, hW, hsame⟩ := X.leave (v := some w) (fun h => by rw [hret] at h; cases h) hlk
  exact ⟨_, _, retOut X hx hret hn (Or.inr (Or.inr (Or.inr (Or.inr ⟨rfl, ht, hw⟩)))) hd hr, hrun, hended, _, rfl, _, hq, ⟨_, rfl⟩, hW, hsame.mono h1 h2⟩
theorem own_ret0 {Q : Option Value → Heap → List Loc → Prop} (X : Stand p l e R s m args below meth c T locs cells slots) (hx : p.tables.exec = Jvm.exec) (hlk : meth.locks = false) (hret : meth.sig.returnType = none) (hd : decode c.code pc = .ok (.return_, 1)) (h1 : cells ≤ cs) (h2 : slots ≤ ss) (hq : Q none T.heap locs) : Goes p e below (EndN s cs ss Q) T (mkF m pc Ls []) := by
  obtain ⟨fs, hr, hrun, hended, hW, hsame⟩ := X.leave (v := none) (fun _ => rfl) hlk
  exact ⟨_, _, X.returnOut hx hret hd hr, hrun, hended, _, rfl, _, hq, ⟨_, rfl⟩, hW, hsame.mono h1 h2⟩
theorem own_ret0W {Q : Option Value → Heap → Vm → List Loc → Prop} {s0 : State} {vm1 : Vm} {k1 : Nat} (X : Stand p l e R (s0.setVm vm1) m args below meth c T locs cells slots) (hx : p.tables.exec = Jvm.exec) (hS : s0.Since vm1 k1) (hk1 : k1 ≤ Array.size T.heap) (hlk : meth.locks = false) (hret : meth.sig.returnType = none) (hd : decode c.code pc = .ok (.return_, 1)) (h1 : cells ≤ cs) (h2 : slots ≤ ss) (hq : Q none T.heap T.vm locs) : Goes p e below (EndW s0 cs ss Q) T (mkF m pc Ls []) := by
  obtain ⟨fs, hr, hrun, hended, hend⟩ := X.leaveW hS hk1 (v := none) (fun _ => rfl) hlk
  exact ⟨_, _, X.returnOut hx hret hd hr, hrun, hended, _, rfl, _, hq, hend.1, hend.2.1, hend.2.2.1, hend.2.2.2.mono h1 h2⟩
theorem own_iload (X : Stand p l e R s m args below meth c T locs cells slots) (hx : p.tables.exec = Jvm.exec) {i : Nat} {v : Int32} (hd : decode c.code pc = .ok (.iload i, 2)) (hl : Ls[i]? = some (.val (.int v))) (hp : pc + 2 = pc') (k : Goes p e below E T (mkF m pc' Ls (.int v :: st))) : Goes p e below E T (mkF m pc Ls st) := by
  subst hp
  exact Goes.pre (fun _ k => XS.iload X.here hx rfl hd hl k) k
theorem own_iloadN (X : Stand p l e R s m args below meth c T locs cells slots) (hx : p.tables.exec = Jvm.exec) {i : Fin 4} {v : Int32} (hd : decode c.code pc = .ok (.iload_n i, 1)) (hl : Ls[i.val]? = some (.val (.int v))) (hp : pc + 1 = pc') (k : Goes p e below E T (mkF m pc' Ls (.int v :: st))) : Goes p e below E T (mkF m pc Ls st) := by
  subst hp
  exact Goes.pre (fun _ k => XS.iloadN X.here hx rfl hd hl k) k
theorem own_lload (X : Stand p l e R s m args below meth c T locs cells slots) (hx : p.tables.exec = Jvm.exec) {i : Nat} {v : Int64} (hd : decode c.code pc = .ok (.lload i, 2)) (hl : Ls[i]? = some (.val (.long v))) (hp : pc + 2 = pc') (k : Goes p e below E T (mkF m pc' Ls (.long v :: st))) : Goes p e below E T (mkF m pc Ls st) := by
  subst hp
  exact Goes.pre (fun _ k => XS.lload X.here hx rfl hd hl k) k
theorem own_lloadN (X : Stand p l e R s m args below meth c T locs cells slots) (hx : p.tables.exec = Jvm.exec) {i : Fin 4} {v : Int64} (hd : decode c.code pc = .ok (.lload_n i, 1)) (hl : Ls[i.val]? = some (.val (.long v))) (hp : pc + 1 = pc') (k : Goes p e below E T (mkF m pc' Ls (.long v :: st))) : Goes p e below E T (mkF m pc Ls st) := by
  subst hp
  exact Goes.pre (fun _ k => XS.lloadN X.here hx rfl hd hl k) k
theorem own_aload (X : Stand p l e R s m args below meth c T locs cells slots) (hx : p.tables.exec = Jvm.exec) {i : Nat} {v : Value} (hd : decode c.code pc = .ok (.aload i, 2)) (hl : Ls[i]? = some (.val v)) (hv : v.isRef = true) (hp : pc + 2 = pc') (k : Goes p e below E T (mkF m pc' Ls (v :: st))) : Goes p e below E T (mkF m pc Ls st) := by
  subst hp
  exact Goes.pre (fun _ k => XS.aload X.here hx rfl hd hl hv k) k
theorem own_aloadN (X : Stand p l e R s m args below meth c T locs cells slots) (hx : p.tables.exec = Jvm.exec) {i : Fin 4} {v : Value} (hd : decode c.code pc = .ok (.aload_n i, 1)) (hl : Ls[i.val]? = some (.val v)) (hv : v.isRef = true) (hp : pc + 1 = pc') (k : Goes p e below E T (mkF m pc' Ls (v :: st))) : Goes p e below E T (mkF m pc Ls st) := by
  subst hp
  exact Goes.pre (fun _ k => XS.aloadN X.here hx rfl hd hl hv k) k
theorem own_istore (X : Stand p l e R s m args below meth c T locs cells slots) (hx : p.tables.exec = Jvm.exec) {i : Nat} {x : Int32} (hd : decode c.code pc = .ok (.istore i, 2)) (hl : storeLocals Ls i (.int x) = some Ls') (hp : pc + 2 = pc') (k : Goes p e below E T (mkF m pc' Ls' st)) : Goes p e below E T (mkF m pc Ls (.int x :: st)) := by
  subst hp
  exact Goes.pre (fun _ k => XS.istore X.here hx rfl hd rfl hl k) k
theorem own_istoreN (X : Stand p l e R s m args below meth c T locs cells slots) (hx : p.tables.exec = Jvm.exec) {i : Fin 4} {x : Int32} (hd : decode c.code pc = .ok (.istore_n i, 1)) (hl : storeLocals Ls i.val (.int x) = some Ls') (hp : pc + 1 = pc') (k : Goes p e below E T (mkF m pc' Ls' st)) : Goes p e below E T (mkF m pc Ls (.int x :: st)) := by
  subst hp
  exact Goes.pre (fun _ k => XS.istoreN X.here hx rfl hd rfl hl k) k
theorem own_lstore (X : Stand p l e R s m args below meth c T locs cells slots) (hx : p.tables.exec = Jvm.exec) {i : Nat} {x : Int64} (hd : decode c.code pc = .ok (.lstore i, 2)) (hl : storeLocals Ls i (.long x) = some Ls') (hp : pc + 2 = pc') (k : Goes p e below E T (mkF m pc' Ls' st)) : Goes p e below E T (mkF m pc Ls (.long x :: st)) := by
  subst hp
  exact Goes.pre (fun _ k => XS.lstore X.here hx rfl hd rfl hl k) k
theorem own_lstoreN (X : Stand p l e R s m args below meth c T locs cells slots) (hx : p.tables.exec = Jvm.exec) {i : Fin 4} {x : Int64} (hd : decode c.code pc = .ok (.lstore_n i, 1)) (hl : storeLocals Ls i.val (.long x) = some Ls') (hp : pc + 1 = pc') (k : Goes p e below E T (mkF m pc' Ls' st)) : Goes p e below E T (mkF m pc Ls (.long x :: st)) := by
  subst hp
  exact Goes.pre (fun _ k => XS.lstoreN X.here hx rfl hd rfl hl k) k
theorem own_astore (X : Stand p l e R s m args below meth c T locs cells slots) (hx : p.tables.exec = Jvm.exec) {i : Nat} {x : Value} (hd : decode c.code pc = .ok (.astore i, 2)) (hv : x.isRef = true) (hl : storeLocals Ls i x = some Ls') (hp : pc + 2 = pc') (k : Goes p e below E T (mkF m pc' Ls' st)) : Goes p e below E T (mkF m pc Ls (x :: st)) := by
  subst hp
  exact Goes.pre (fun _ k => XS.astore X.here hx rfl hd rfl hv hl k) k
theorem own_astoreN (X : Stand p l e R s m args below meth c T locs cells slots) (hx : p.tables.exec = Jvm.exec) {i : Fin 4} {x : Value} (hd : decode c.code pc = .ok (.astore_n i, 1)) (hv : x.isRef = true) (hl : storeLocals Ls i.val x = some Ls') (hp : pc + 1 = pc') (k : Goes p e below E T (mkF m pc' Ls' st)) : Goes p e below E T (mkF m pc Ls (x :: st)) := by
  subst hp
  exact Goes.pre (fun _ k => XS.astoreN X.here hx rfl hd rfl hv hl k) k
theorem own_iinc (X : Stand p l e R s m args below meth c T locs cells slots) (hx : p.tables.exec = Jvm.exec) {i : Nat} {q : Int} {x y : Int32} (hd : decode c.code pc = .ok (.iinc i q, 3)) (hl : Ls[i]? = some (.val (.int x))) (hy : x + Int32.ofInt q = y) (hl' : storeLocals Ls i (.int y) = some Ls') (hp : pc + 3 = pc') (k : Goes p e below E T (mkF m pc' Ls' st)) : Goes p e below E T (mkF m pc Ls st) := by
  subst hp
  exact Goes.pre (fun _ k => XS.iinc X.here hx rfl hd hl (hy.symm ▸ hl') k) k
theorem own_iconst (X : Stand p l e R s m args below meth c T locs cells slots) (hx : p.tables.exec = Jvm.exec) {i : Int} {v : Int32} (hd : decode c.code pc = .ok (.iconst i, 1)) (hv : Int32.ofInt i = v) (hp : pc + 1 = pc') (k : Goes p e below E T (mkF m pc' Ls (.int v :: st))) : Goes p e below E T (mkF m pc Ls st) := by
  subst hp hv
  exact Goes.pre (fun _ k => XS.iconst X.here hx rfl hd k) k
theorem own_bipush (X : Stand p l e R s m args below meth c T locs cells slots) (hx : p.tables.exec = Jvm.exec) {i : Int} {v : Int32} (hd : decode c.code pc = .ok (.bipush i, 2)) (hv : (Int8.ofInt i).toInt32 = v) (hp : pc + 2 = pc') (k : Goes p e below E T (mkF m pc' Ls (.int v :: st))) : Goes p e below E T (mkF m pc Ls st) := by
  subst hp hv
  exact Goes.pre (fun _ k => XS.bipush X.here hx rfl hd k) k
theorem own_lconst (X : Stand p l e R s m args below meth c T locs cells slots) (hx : p.tables.exec = Jvm.exec) {i : Fin 2} {v : Int64} (hd : decode c.code pc = .ok (.lconst i, 1)) (hv : Int64.ofNat i = v) (hp : pc + 1 = pc') (k : Goes p e below E T (mkF m pc' Ls (.long v :: st))) : Goes p e below E T (mkF m pc Ls st) := by
  subst hp hv
  exact Goes.pre (fun _ k => XS.lconst X.here hx rfl hd k) k
theorem own_aconstNull (X : Stand p l e R s m args below meth c T locs cells slots) (hx : p.tables.exec = Jvm.exec)  (hd : decode c.code pc = .ok (.aconst_null, 1))  (hp : pc + 1 = pc') (k : Goes p e below E T (mkF m pc' Ls (.null :: st))) : Goes p e below E T (mkF m pc Ls st) := by
  subst hp
  exact Goes.pre (fun _ k => XS.aconstNull X.here hx rfl hd k) k
theorem own_iadd (X : Stand p l e R s m args below meth c T locs cells slots) (hx : p.tables.exec = Jvm.exec) {x y : Int32} (hd : decode c.code pc = .ok (.iadd, 1))  (hp : pc + 1 = pc') (k : Goes p e below E T (mkF m pc' Ls (.int (x + y) :: st))) : Goes p e below E T (mkF m pc Ls (.int y :: .int x :: st)) := by
  subst hp
  exact Goes.pre (fun _ k => XS.iadd X.here hx rfl hd rfl k) k
theorem own_isub (X : Stand p l e R s m args below meth c T locs cells slots) (hx : p.tables.exec = Jvm.exec) {x y : Int32} (hd : decode c.code pc = .ok (.isub, 1))  (hp : pc + 1 = pc') (k : Goes p e below E T (mkF m pc' Ls (.int (x - y) :: st))) : Goes p e below E T (mkF m pc Ls (.int y :: .int x :: st)) := by
  subst hp
  exact Goes.pre (fun _ k => XS.isub X.here hx rfl hd rfl k) k
theorem own_imul (X : Stand p l e R s m args below meth c T locs cells slots) (hx : p.tables.exec = Jvm.exec) {x y : Int32} (hd : decode c.code pc = .ok (.imul, 1))  (hp : pc + 1 = pc') (k : Goes p e below E T (mkF m pc' Ls (.int (x * y) :: st))) : Goes p e below E T (mkF m pc Ls (.int y :: .int x :: st)) := by
  subst hp
  exact Goes.pre (fun _ k => XS.imul X.here hx rfl hd rfl k) k
theorem own_iand (X : Stand p l e R s m args below meth c T locs cells slots) (hx : p.tables.exec = Jvm.exec) {x y : Int32} (hd : decode c.code pc = .ok (.iand, 1))  (hp : pc + 1 = pc') (k : Goes p e below E T (mkF m pc' Ls (.int (x &&& y) :: st))) : Goes p e below E T (mkF m pc Ls (.int y :: .int x :: st)) := by
  subst hp
  exact Goes.pre (fun _ k => XS.iand X.here hx rfl hd rfl k) k
theorem own_iushr (X : Stand p l e R s m args below meth c T locs cells slots) (hx : p.tables.exec = Jvm.exec) {x y : Int32} (hd : decode c.code pc = .ok (.iushr, 1))  (hp : pc + 1 = pc') (k : Goes p e below E T (mkF m pc' Ls (.int ((x.toUInt32 >>> (y &&& 31).toUInt32).toInt32) :: st))) : Goes p e below E T (mkF m pc Ls (.int y :: .int x :: st)) := by
  subst hp
  exact Goes.pre (fun _ k => XS.iushr X.here hx rfl hd rfl k) k
theorem own_irem (X : Stand p l e R s m args below meth c T locs cells slots) (hx : p.tables.exec = Jvm.exec) {x y : Int32} (hd : decode c.code pc = .ok (.irem, 1)) (hy : y ≠ 0) (hp : pc + 1 = pc') (k : Goes p e below E T (mkF m pc' Ls (.int (x % y) :: st))) : Goes p e below E T (mkF m pc Ls (.int y :: .int x :: st)) := by
  subst hp
  exact Goes.pre (fun _ k => iremM X hx rfl hd rfl hy k) k
theorem own_ladd (X : Stand p l e R s m args below meth c T locs cells slots) (hx : p.tables.exec = Jvm.exec) {x y : Int64} (hd : decode c.code pc = .ok (.ladd, 1))  (hp : pc + 1 = pc') (k : Goes p e below E T (mkF m pc' Ls (.long (x + y) :: st))) : Goes p e below E T (mkF m pc Ls (.long y :: .long x :: st)) := by
  subst hp
  exact Goes.pre (fun _ k => XS.ladd X.here hx rfl hd rfl k) k
theorem own_lsub (X : Stand p l e R s m args below meth c T locs cells slots) (hx : p.tables.exec = Jvm.exec) {x y : Int64} (hd : decode c.code pc = .ok (.lsub, 1))  (hp : pc + 1 = pc') (k : Goes p e below E T (mkF m pc' Ls (.long (x - y) :: st))) : Goes p e below E T (mkF m pc Ls (.long y :: .long x :: st)) := by
  subst hp
  exact Goes.pre (fun _ k => XS.lsub X.here hx rfl hd rfl k) k
theorem own_land (X : Stand p l e R s m args below meth c T locs cells slots) (hx : p.tables.exec = Jvm.exec) {x y : Int64} (hd : decode c.code pc = .ok (.land, 1))  (hp : pc + 1 = pc') (k : Goes p e below E T (mkF m pc' Ls (.long (x &&& y) :: st))) : Goes p e below E T (mkF m pc Ls (.long y :: .long x :: st)) := by
  subst hp
  exact Goes.pre (fun _ k => XS.land X.here hx rfl hd rfl k) k
theorem own_lxor (X : Stand p l e R s m args below meth c T locs cells slots) (hx : p.tables.exec = Jvm.exec) {x y : Int64} (hd : decode c.code pc = .ok (.lxor, 1))  (hp : pc + 1 = pc') (k : Goes p e below E T (mkF m pc' Ls (.long (x ^^^ y) :: st))) : Goes p e below E T (mkF m pc Ls (.long y :: .long x :: st)) := by
  subst hp
  exact Goes.pre (fun _ k => XS.lxor X.here hx rfl hd rfl k) k
theorem own_lcmp (X : Stand p l e R s m args below meth c T locs cells slots) (hx : p.tables.exec = Jvm.exec) {x y : Int64} (hd : decode c.code pc = .ok (.lcmp, 1))  (hp : pc + 1 = pc') (k : Goes p e below E T (mkF m pc' Ls (.int (lcmpW x y) :: st))) : Goes p e below E T (mkF m pc Ls (.long y :: .long x :: st)) := by
  subst hp
  exact Goes.pre (fun _ k => XS.lcmp X.here hx rfl hd rfl k) k
theorem own_i2c (X : Stand p l e R s m args below meth c T locs cells slots) (hx : p.tables.exec = Jvm.exec) {x : Int32} (hd : decode c.code pc = .ok (.i2c, 1))  (hp : pc + 1 = pc') (k : Goes p e below E T (mkF m pc' Ls (.int (x.toUInt32.toUInt16.toUInt32.toInt32) :: st))) : Goes p e below E T (mkF m pc Ls (.int x :: st)) := by
  subst hp
  exact Goes.pre (fun _ k => XS.i2c X.here hx rfl hd rfl k) k
theorem own_dup (X : Stand p l e R s m args below meth c T locs cells slots) (hx : p.tables.exec = Jvm.exec) {x : Value} (hd : decode c.code pc = .ok (.dup, 1)) (hc : x.category = 1) (hp : pc + 1 = pc') (k : Goes p e below E T (mkF m pc' Ls (x :: x :: st))) : Goes p e below E T (mkF m pc Ls (x :: st)) := by
  subst hp
  exact Goes.pre (fun _ k => XS.dup X.here hx rfl hd rfl hc k) k
theorem own_pop (X : Stand p l e R s m args below meth c T locs cells slots) (hx : p.tables.exec = Jvm.exec) {x : Value} (hd : decode c.code pc = .ok (.pop, 1)) (hc : x.category = 1) (hp : pc + 1 = pc') (k : Goes p e below E T (mkF m pc' Ls st)) : Goes p e below E T (mkF m pc Ls (x :: st)) := by
  subst hp
  exact Goes.pre (fun _ k => XS.pop X.here hx rfl hd rfl hc k) k
theorem own_goto (X : Stand p l e R s m args below meth c T locs cells slots) (hx : p.tables.exec = Jvm.exec) {o : Int}  (hd : decode c.code pc = .ok (.goto o, 3))  (ho : 0 ≤ (pc : Int) + o) (hp : ((pc : Int) + o).toNat = pc') (k : Goes p e below E T (mkF m pc' Ls st)) : Goes p e below E T (mkF m pc Ls st) := by
  exact Goes.pre (fun _ k => XS.goto X.here hx rfl rfl hd ho hp k) k
theorem own_ifY (X : Stand p l e R s m args below meth c T locs cells slots) (hx : p.tables.exec = Jvm.exec) {o : Int} {cd : ClassFile.Cond} {x : Int32} (hd : decode c.code pc = .ok (.ifCond cd o, 3)) (hc : ifCond.holds cd x = true) (ho : 0 ≤ (pc : Int) + o) (hp : ((pc : Int) + o).toNat = pc') (k : Goes p e below E T (mkF m pc' Ls st)) : Goes p e below E T (mkF m pc Ls (.int x :: st)) := by
  exact Goes.pre (fun _ k => XS.ifYes X.here hx rfl rfl hd rfl hc ho hp k) k
theorem own_icmpY (X : Stand p l e R s m args below meth c T locs cells slots) (hx : p.tables.exec = Jvm.exec) {o : Int} {cd : ClassFile.Cond} {x y : Int32} (hd : decode c.code pc = .ok (.if_icmp cd o, 3)) (hc : if_icmp.holds cd x y = true) (ho : 0 ≤ (pc : Int) + o) (hp : ((pc : Int) + o).toNat = pc') (k : Goes p e below E T (mkF m pc' Ls st)) : Goes p e below E T (mkF m pc Ls (.int y :: .int x :: st)) := by
  exact Goes.pre (fun _ k => XS.icmpYes X.here hx rfl rfl hd rfl hc ho hp k) k
theorem own_ifN (X : Stand p l e R s m args below meth c T locs cells slots) (hx : p.tables.exec = Jvm.exec) {o : Int} {cd : ClassFile.Cond} {x : Int32} (hd : decode c.code pc = .ok (.ifCond cd o, 3)) (hc : ifCond.holds cd x = false) (hp : pc + 3 = pc') (k : Goes p e below E T (mkF m pc' Ls st)) : Goes p e below E T (mkF m pc Ls (.int x :: st)) := by
  subst hp
  exact Goes.pre (fun _ k => XS.ifNo X.here hx rfl hd rfl hc k) k
theorem own_icmpN (X : Stand p l e R s m args below meth c T locs cells slots) (hx : p.tables.exec = Jvm.exec) {o : Int} {cd : ClassFile.Cond} {x y : Int32} (hd : decode c.code pc = .ok (.if_icmp cd o, 3)) (hc : if_icmp.holds cd x y = false) (hp : pc + 3 = pc') (k : Goes p e below E T (mkF m pc' Ls st)) : Goes p e below E T (mkF m pc Ls (.int y :: .int x :: st)) := by
  subst hp
  exact Goes.pre (fun _ k => XS.icmpNo X.here hx rfl hd rfl hc k) k
theorem own_ifnullY (X : Stand p l e R s m args below meth c T locs cells slots) (hx : p.tables.exec = Jvm.exec) {o : Int}  (hd : decode c.code pc = .ok (.ifnull o, 3))  (ho : 0 ≤ (pc : Int) + o) (hp : ((pc : Int) + o).toNat = pc') (k : Goes p e below E T (mkF m pc' Ls st)) : Goes p e below E T (mkF m pc Ls (.null :: st)) := by
  exact Goes.pre (fun _ k => XS.ifnullYes X.here hx rfl rfl hd rfl ho hp k) k
theorem own_ifnullN (X : Stand p l e R s m args below meth c T locs cells slots) (hx : p.tables.exec = Jvm.exec) {o : Int} {b : Addr} (hd : decode c.code pc = .ok (.ifnull o, 3))  (hp : pc + 3 = pc') (k : Goes p e below E T (mkF m pc' Ls st)) : Goes p e below E T (mkF m pc Ls (.ref b :: st)) := by
  subst hp
  exact Goes.pre (fun _ k => XS.ifnullNo X.here hx rfl hd rfl k) k
theorem own_ifnonnullY (X : Stand p l e R s m args below meth c T locs cells slots) (hx : p.tables.exec = Jvm.exec) {o : Int} {b : Addr} (hd : decode c.code pc = .ok (.ifnonnull o, 3))  (ho : 0 ≤ (pc : Int) + o) (hp : ((pc : Int) + o).toNat = pc') (k : Goes p e below E T (mkF m pc' Ls st)) : Goes p e below E T (mkF m pc Ls (.ref b :: st)) := by
  exact Goes.pre (fun _ k => XS.ifnonnullYes X.here hx rfl rfl hd rfl ho hp k) k
theorem own_ifnonnullN (X : Stand p l e R s m args below meth c T locs cells slots) (hx : p.tables.exec = Jvm.exec) {o : Int} (hd : decode c.code pc = .ok (.ifnonnull o, 3))  (hp : pc + 3 = pc') (k : Goes p e below E T (mkF m pc' Ls st)) : Goes p e below E T (mkF m pc Ls (.null :: st)) := by
  subst hp
  exact Goes.pre (fun _ k => XS.ifnonnullNo X.here hx rfl hd rfl k) k
theorem own_ldc2 (X : Stand p l e R s m args below meth c T locs cells slots) (hx : p.tables.exec = Jvm.exec) {own : String} {i : Nat} {v : Int64} (hown : s.vm.findClass own = some m.cls) (w : (Cond.constantLong own i v).before args s = true) (hd : decode c.code pc = .ok (.ldc2_w i, 3)) (hp : pc + 3 = pc') (k : Goes p e below E T (mkF m pc' Ls (.long v :: st))) : Goes p e below E T (mkF m pc Ls st) := by
  subst hp
  exact Goes.pre (fun t k => X.ldc2Long hx hown w (g := mkF m pc Ls st) rfl hd t k) k
theorem own_ldcI (X : Stand p l e R s m args below meth c T locs cells slots) (hx : p.tables.exec = Jvm.exec) {own : String} {i : Nat} {v : Int32} (hown : s.vm.findClass own = some m.cls) (w : (Cond.constant own i v).before args s = true) (hd : decode c.code pc = .ok (.ldc i, 2)) (hp : pc + 2 = pc') (k : Goes p e below E T (mkF m pc' Ls (.int v :: st))) : Goes p e below E T (mkF m pc Ls st) := by
  subst hp
  exact Goes.pre (fun t k => X.ldcInt hx hown w (g := mkF m pc Ls st) rfl hd t k) k
theorem own_sipush (X : Stand p l e R s m args below meth c T locs cells slots) (hx : p.tables.exec = Jvm.exec) {i : Int} {v : Int32} (hd : decode c.code pc = .ok (.sipush i, 3)) (hv : (Int16.ofInt i).toInt32 = v) (hp : pc + 3 = pc') (k : Goes p e below E T (mkF m pc' Ls (.int v :: st))) : Goes p e below E T (mkF m pc Ls st) := by
  subst hp hv
  exact Goes.pre (fun _ k => XS.sipush X.here hx rfl hd k) k
theorem own_istoreS (X : Stand p l e R s m args below meth c T locs cells slots) (hx : p.tables.exec = Jvm.exec) {i : Nat} {x : Int32} {o : Slot} (hd : decode c.code pc = .ok (.istore i, 2)) (hold : Ls[i]? = some o) (ho : One o) (hl : Ls.setIfInBounds i (.val (.int x)) = Ls') (hp : pc + 2 = pc') (k : Goes p e below E T (mkF m pc' Ls' st)) : Goes p e below E T (mkF m pc Ls (.int x :: st)) := by
  subst hp
  exact Goes.pre (fun _ k => XS.istoreS X.here hx rfl hd rfl hold ho (hl.symm ▸ k)) k
theorem own_i2b (X : Stand p l e R s m args below meth c T locs cells slots) (hx : p.tables.exec = Jvm.exec) {x : Int32} (hd : decode c.code pc = .ok (.i2b, 1))  (hp : pc + 1 = pc') (k : Goes p e below E T (mkF m pc' Ls (.int x.toInt8.toInt32 :: st))) : Goes p e below E T (mkF m pc Ls (.int x :: st)) := by
  subst hp
  exact Goes.pre (fun _ k => XS.i2b X.here hx rfl hd rfl k) k
theorem own_dupX1 (X : Stand p l e R s m args below meth c T locs cells slots) (hx : p.tables.exec = Jvm.exec) {x y : Value} (hd : decode c.code pc = .ok (.dup_x1, 1)) (hc : x.category = 1) (hc' : y.category = 1) (hp : pc + 1 = pc') (k : Goes p e below E T (mkF m pc' Ls (x :: y :: x :: st))) : Goes p e below E T (mkF m pc Ls (x :: y :: st)) := by
  subst hp
  exact Goes.pre (fun _ k => XS.dupX1 X.here hx rfl hd rfl hc hc' k) k
end Own
theorem own_Tlt {a b : Int64} (h : a < b) : ifCond.holds .lt (lcmpW a b) = true ∧ ifCond.holds .ge (lcmpW a b) = false := ⟨(if0 _ _).trans (tlt ((lw_lt a b).mpr h)).1, (if0 _ _).trans (tlt ((lw_lt a b).mpr h)).2.1⟩
theorem own_Flt {a b : Int64} (h : ¬ a < b) : ifCond.holds .lt (lcmpW a b) = false ∧ ifCond.holds .ge (lcmpW a b) = true := ⟨(if0 _ _).trans (flt fun q => h ((lw_lt a b).mp q)).1, (if0 _ _).trans (flt fun q => h ((lw_lt a b).mp q)).2.1⟩
theorem own_Tgt {a b : Int64} (h : b < a) : ifCond.holds .gt (lcmpW a b) = true ∧ ifCond.holds .le (lcmpW a b) = false := ⟨(if0 _ _).trans (tlt ((lw_gt a b).mpr h)).2.2.1, (if0 _ _).trans (tlt ((lw_gt a b).mpr h)).2.2.2⟩
theorem own_Fgt {a b : Int64} (h : ¬ b < a) : ifCond.holds .gt (lcmpW a b) = false ∧ ifCond.holds .le (lcmpW a b) = true := ⟨(if0 _ _).trans (flt fun q => h ((lw_gt a b).mp q)).2.2.1, (if0 _ _).trans (flt fun q => h ((lw_gt a b).mp q)).2.2.2⟩
theorem own_Teq {a b : Int64} (h : a = b) : ifCond.holds .eq (lcmpW a b) = true ∧ ifCond.holds .ne (lcmpW a b) = false := ⟨(if0 _ _).trans (teq ((lw_eq a b).mpr h)).1, (if0 _ _).trans (teq ((lw_eq a b).mpr h)).2⟩
theorem own_Feq {a b : Int64} (h : ¬ a = b) : ifCond.holds .eq (lcmpW a b) = false ∧ ifCond.holds .ne (lcmpW a b) = true := ⟨(if0 _ _).trans (feq fun q => h ((lw_eq a b).mp q)).1, (if0 _ _).trans (feq fun q => h ((lw_eq a b).mp q)).2⟩
/-- an array of ints (chars), its values as a list -/
def own_PA (Z : State) (h : Heap) (a : Addr) (ty : FieldType) (vs : List Int32) : Prop := ∃ c : Cell, Arr Z h a c ty ∧ c.slots = (vs.map Value.int).toArray
section OwnArr
variable {p : Program} {l : Launch} {e : Env} {R : Room} {s : State} {m : MethodId} {args : Array Value} {below : List Frame} {meth : Method} {c : Code} {T T' : State} {locs : List Loc} {cells slots : Nat} {E : Option Value → State → Prop} {pc pc' : Nat} {Ls Ls' : Array Slot} {st : List Value} {Z : State} {a0 : Array Value} {h h' : Heap} {a b : Addr} {ty : FieldType} {vs : List Int32}
theorem own_PA.lt (F : own_PA Z h a ty vs) : a < Array.size h := by obtain ⟨c, A, -⟩ := F; exact A.lt
theorem own_PA.ext (F : own_PA Z h a ty vs) (Ex : Ext h h') : own_PA Z h' a ty vs := by obtain ⟨c, A, q⟩ := F; exact ⟨c, A.ext Ex, q⟩
theorem own_PA.keep {us : List Addr} (F : own_PA Z h a ty vs) (K : Keep h h' us) (q : a ∉ us) : own_PA Z h' a ty vs := by obtain ⟨c, A, r⟩ := F; exact ⟨c, ⟨K.2.1 a c A.1 q, A.2⟩, r⟩
theorem own_PA.other {sl : Nat} {v : Value} (F : own_PA Z h b ty vs) (W : Wr h h' a sl v) (q : b ≠ a) : own_PA Z h' b ty vs := by obtain ⟨c, A, r⟩ := F; exact ⟨c, A.other W q, r⟩
theorem own_PA.set {k : Nat} {v : Int32} (F : own_PA Z h a ty vs) (W : Wr h h' a k (.int v)) : own_PA Z h' a ty (vs.set k v) := by
  obtain ⟨c, A, r⟩ := F
  refine ⟨_, A.same W, ?_⟩
  simp [Cell.setSlot, r, List.map_set]
theorem own_PA.new {k : ClassId} {n : Int32} {i : Nat} (A : Arr Z h a (newA k ty n) ty) (hd : defaultValue ty = .int 0) (hn : n.toNatClampNeg = i) : own_PA Z h a ty (List.replicate i 0) := by
  subst hn
  exact ⟨_, A, by simp [newA, hd]⟩
theorem own_in {c : Cell} {j : Int32} {k : Nat} {v : Int32} (r : c.slots = (vs.map Value.int).toArray) (hj : ¬ j < 0) (hk : j.toNatClampNeg = k) (hl : k < vs.length) : ¬ (j < 0 ∨ c.slots.size ≤ j.toNatClampNeg) := by
  rw [r, hk]
  simp only [List.size_toArray, List.length_map]
  exact fun q => q.elim hj (fun q => absurd hl (Nat.not_lt.mpr q))
theorem own_at {c : Cell} {j : Int32} {k : Nat} {v : Int32} (r : c.slots = (vs.map Value.int).toArray) (hk : j.toNatClampNeg = k) (hv : vs[k]? = some v) : c.slots[j.toNatClampNeg]? = some (.int v) := by
  rw [r, hk]
  simp [hv]
theorem own_iaload (X : Stand p l e R s m args below meth c T locs cells slots) (hx : p.tables.exec = Jvm.exec) (hZ : Z.Warmed39 s.vm) (eT : T.heap = h) (F : own_PA Z h a .int vs) (hd : decode c.code pc = .ok (.iaload, 1)) {j v : Int32} {k : Nat} (hj : ¬ j < 0) (hk : j.toNatClampNeg = k) (hv : vs[k]? = some v) (hp : pc + 1 = pc')
    (q : Goes p e below E T (mkF m pc' Ls (.int v :: st))) : Goes p e below E T (mkF m pc Ls (.int j :: .ref a :: st)) := by
  subst hp
  obtain ⟨c', A, r⟩ := F
  exact Goes.pre (fun t q => X.iaload hx (j := j) (v := .int v) (by rw [eT]; exact A.1) (State.isArrayOf_alike hZ.alike A.2.1) A.2.2 (own_in (v := v) r hj hk (List.getElem?_eq_some_iff.mp hv).1) (own_at r hk hv) (g := mkF m pc Ls (.int j :: .ref a :: st)) rfl rfl hd t q) q
theorem own_caload (X : Stand p l e R s m args below meth c T locs cells slots) (hx : p.tables.exec = Jvm.exec) (hZ : Z.Warmed39 s.vm) (eT : T.heap = h) (F : own_PA Z h a .char vs) (hd : decode c.code pc = .ok (.caload, 1)) {j v : Int32} {k : Nat} (hj : ¬ j < 0) (hk : j.toNatClampNeg = k) (hv : vs[k]? = some v) (hp : pc + 1 = pc')
    (q : Goes p e below E T (mkF m pc' Ls (.int v :: st))) : Goes p e below E T (mkF m pc Ls (.int j :: .ref a :: st)) := by
  subst hp
  obtain ⟨c', A, r⟩ := F
  exact Goes.pre (fun t q => X.caload hx (j := j) (v := .int v) (by rw [eT]; exact A.1) (State.isArrayOf_alike hZ.alike A.2.1) A.2.2 (own_in (v := v) r hj hk (List.getElem?_eq_some_iff.mp hv).1) (own_at r hk hv) (g := mkF m pc Ls (.int j :: .ref a :: st)) rfl rfl hd t q) q
theorem own_arraylength (X : Stand p l e R s m args below meth c T locs cells slots) (hx : p.tables.exec = Jvm.exec) (hZ : Z.Warmed39 s.vm) (eT : T.heap = h) (F : own_PA Z h a ty vs) (hd : decode c.code pc = .ok (.arraylength, 1)) {n : Int32} (hn : vs.length.toInt32 = n) (hp : pc + 1 = pc')
    (q : Goes p e below E T (mkF m pc' Ls (.int n :: st))) : Goes p e below E T (mkF m pc Ls (.ref a :: st)) := by
  subst hp hn
  obtain ⟨c', A, r⟩ := F
  have z : c'.slots.size = vs.length := by rw [r]; simp
  exact Goes.pre (fun t q => X.arraylength hx (by rw [eT]; exact A.1) (State.isArrayOf_alike hZ.alike A.2.1) (g := mkF m pc Ls (.ref a :: st)) rfl rfl hd t (by rw [z]; exact q)) q
theorem own_iastore (X : Stand p l e R s m args below meth c T locs cells slots) (hx : p.tables.exec = Jvm.exec) (hZ : Z.Warmed39 s.vm) (eT : T.heap = h) (F : own_PA Z h a .int vs) (hd : decode c.code pc = .ok (.iastore, 1)) {j v : Int32} {k : Nat} (hj : ¬ j < 0) (hk : j.toNatClampNeg = k) (hl : k < vs.length) (hp : pc + 1 = pc')
    (q : ∀ T' h', Stand p l e R s m args below meth c T' (locs ++ [⟨a, k⟩]) cells slots → T'.heap = h' → Wr h h' a k (.int v) → own_PA Z h' a .int (vs.set k v) → Goes p e below E T' (mkF m pc' Ls st)) : Goes p e below E T (mkF m pc Ls (.int v :: .int j :: .ref a :: st)) := by
  subst hp
  have F0 := F
  obtain ⟨c', A, r⟩ := F
  obtain ⟨T', h', X', e', W, t⟩ := stI X hx hZ eT A (j := j) (x := v) (own_in (v := v) r hj hk hl) (g := mkF m pc Ls (.int v :: .int j :: .ref a :: st)) rfl rfl hd
  rw [hk] at X' W
  exact Goes.pre t (q T' h' X' e' W (F0.set W))
theorem own_castore (X : Stand p l e R s m args below meth c T locs cells slots) (hx : p.tables.exec = Jvm.exec) (hZ : Z.Warmed39 s.vm) (eT : T.heap = h) (F : own_PA Z h a .char vs) (hd : decode c.code pc = .ok (.castore, 1)) {j v w : Int32} {k : Nat} (hw : nar .char v = w) (hj : ¬ j < 0) (hk : j.toNatClampNeg = k) (hl : k < vs.length) (hp : pc + 1 = pc')
    (q : ∀ T' h', Stand p l e R s m args below meth c T' (locs ++ [⟨a, k⟩]) cells slots → T'.heap = h' → Wr h h' a k (.int w) → own_PA Z h' a .char (vs.set k w) → Goes p e below E T' (mkF m pc' Ls st)) : Goes p e below E T (mkF m pc Ls (.int v :: .int j :: .ref a :: st)) := by
  subst hp hw
  have F0 := F
  obtain ⟨c', A, r⟩ := F
  obtain ⟨T', h', X', e', W, t⟩ := stC X hx hZ eT A (j := j) (x := v) (own_in (v := v) r hj hk hl) (g := mkF m pc Ls (.int v :: .int j :: .ref a :: st)) rfl rfl hd
  rw [hk] at X' W
  exact Goes.pre t (q T' h' X' e' W (F0.set W))
theorem own_newarray (X : Stand p l e R s m args below meth c T locs cells slots) (hx : p.tables.exec = Jvm.exec) (hZ : Z.Warmed39 s.vm) {aty : ArrayType} (w : (Cond.arrayClass (newarray.typeOf aty)).before a0 Z = true) (eT : T.heap = h) (hd : decode c.code pc = .ok (.newarray aty, 2)) {n : Int32} {k cap : Nat} (hty : defaultValue (newarray.typeOf aty) = .int 0) (hn : ¬ n < 0) (hk : n.toNatClampNeg = k) (hcap : k ≤ cap) (hb : cap * 8 ≤ 536870912) (hc : cells + 1 ≤ R.cells) (hl : slots + cap ≤ R.slots) (hp : pc + 2 = pc')
    (q : ∀ T' h' a, a = Array.size h → Stand p l e R s m args below meth c T' locs (cells + 1) (slots + cap) → T'.heap = h' → Ext h h' → own_PA Z h' a (newarray.typeOf aty) (List.replicate k 0) → Goes p e below E T' (mkF m pc' Ls (.ref a :: st))) : Goes p e below E T (mkF m pc Ls (.int n :: st)) := by
  subst hp
  obtain ⟨T', h', cA, X', e', E, A, t⟩ := newP X hx hZ w eT (g := mkF m pc Ls (.int n :: st)) rfl hd rfl hn (cap := cap) (hk ▸ hcap) hb hc hl
  exact Goes.pre t (q T' h' _ rfl X' e' E (own_PA.new A hty hk))
end OwnArr
/-- an array of ScannedEvents, its values as a list -/
def own_RA (Z : State) (h : Heap) (a : Addr) (vs : List Value) : Prop := ∃ c : Cell, Arr Z h a c (.object "com/example/dipper/dipper/stream/ScannedEvent") ∧ Ovr Z c.cls "com/example/dipper/dipper/stream/ScannedEvent" ∧ c.slots = vs.toArray
section OwnRef
variable {p : Program} {l : Launch} {e : Env} {R : Room} {s : State} {m : MethodId} {args : Array Value} {below : List Frame} {meth : Method} {c : Code} {T T' : State} {locs : List Loc} {cells slots : Nat} {E : Option Value → State → Prop} {pc pc' : Nat} {Ls Ls' : Array Slot} {st : List Value} {Z : State} {a0 : Array Value} {h h' : Heap} {a b : Addr} {ty : FieldType} {vs : List Value}
theorem own_RA.lt (F : own_RA Z h a vs) : a < Array.size h := by obtain ⟨c, A, -⟩ := F; exact A.lt
theorem own_RA.ext (F : own_RA Z h a vs) (E : Ext h h') : own_RA Z h' a vs := by obtain ⟨c, A, q⟩ := F; exact ⟨c, A.ext E, q⟩
theorem own_RA.keep {us : List Addr} (F : own_RA Z h a vs) (K : Keep h h' us) (q : a ∉ us) : own_RA Z h' a vs := by obtain ⟨c, A, r⟩ := F; exact ⟨c, ⟨K.2.1 a c A.1 q, A.2⟩, r⟩
theorem own_RA.other {sl : Nat} {v : Value} (F : own_RA Z h b vs) (W : Wr h h' a sl v) (q : b ≠ a) : own_RA Z h' b vs := by obtain ⟨c, A, r⟩ := F; exact ⟨c, A.other W q, r⟩
theorem own_RA.set {k : Nat} {v : Value} (F : own_RA Z h a vs) (W : Wr h h' a k v) : own_RA Z h' a (vs.set k v) := by
  obtain ⟨c, A, o, r⟩ := F
  refine ⟨_, A.same W, o, ?_⟩
  simp [Cell.setSlot, r]
theorem own_inR {c : Cell} {j : Int32} {k : Nat} (r : c.slots = vs.toArray) (hj : ¬ j < 0) (hk : j.toNatClampNeg = k) (hl : k < vs.length) : ¬ (j < 0 ∨ c.slots.size ≤ j.toNatClampNeg) := by
  rw [r, hk]
  simp only [List.size_toArray]
  exact fun q => q.elim hj (fun q => absurd hl (Nat.not_lt.mpr q))
theorem own_aaload (X : Stand p l e R s m args below meth c T locs cells slots) (hx : p.tables.exec = Jvm.exec) (hZ : Z.Warmed39 s.vm) (eT : T.heap = h) (F : own_RA Z h a vs) (hd : decode c.code pc = .ok (.aaload, 1)) {j : Int32} {v : Value} {k : Nat} (hj : ¬ j < 0) (hk : j.toNatClampNeg = k) (hv : vs[k]? = some v) (hp : pc + 1 = pc')
    (q : Goes p e below E T (mkF m pc' Ls (v :: st))) : Goes p e below E T (mkF m pc Ls (.int j :: .ref a :: st)) := by
  subst hp
  obtain ⟨c', A, -, r⟩ := F
  exact Goes.pre (fun t q => X.aaload hx (j := j) (v := v) (by rw [eT]; exact A.1) (State.isArrayOf_alike hZ.alike A.2.1) rfl A.2.2 (own_inR r hj hk (List.getElem?_eq_some_iff.mp hv).1) (by rw [r, hk]; simpa using hv) (g := mkF m pc Ls (.int j :: .ref a :: st)) rfl rfl hd t q) q
theorem own_alenR (X : Stand p l e R s m args below meth c T locs cells slots) (hx : p.tables.exec = Jvm.exec) (hZ : Z.Warmed39 s.vm) (eT : T.heap = h) (F : own_RA Z h a vs) (hd : decode c.code pc = .ok (.arraylength, 1)) {n : Int32} (hn : vs.length.toInt32 = n) (hp : pc + 1 = pc')
    (q : Goes p e below E T (mkF m pc' Ls (.int n :: st))) : Goes p e below E T (mkF m pc Ls (.ref a :: st)) := by
  subst hp hn
  obtain ⟨c', A, -, r⟩ := F
  have z : c'.slots.size = vs.length := by rw [r]; simp
  exact Goes.pre (fun t q => X.arraylength hx (by rw [eT]; exact A.1) (State.isArrayOf_alike hZ.alike A.2.1) (g := mkF m pc Ls (.ref a :: st)) rfl rfl hd t (by rw [z]; exact q)) q
theorem own_aastore (X : Stand p l e R s m args below meth c T locs cells slots) (hx : p.tables.exec = Jvm.exec) (hZ : Z.Warmed39 s.vm) (eT : T.heap = h) (F : own_RA Z h a vs) (hd : decode c.code pc = .ok (.aastore, 1)) {j : Int32} {y : Addr} {k : Nat} (I : Exa Z h y "com/example/dipper/dipper/stream/ScannedEvent") (hj : ¬ j < 0) (hk : j.toNatClampNeg = k) (hl : k < vs.length) (hp : pc + 1 = pc')
    (q : ∀ T' h', Stand p l e R s m args below meth c T' (locs ++ [⟨a, k⟩]) cells slots → T'.heap = h' → Wr h h' a k (.ref y) → own_RA Z h' a (vs.set k (.ref y)) → Goes p e below E T' (mkF m pc' Ls st)) : Goes p e below E T (mkF m pc Ls (.ref y :: .int j :: .ref a :: st)) := by
  subst hp
  have F0 := F
  obtain ⟨c', A, O, r⟩ := F
  obtain ⟨T', h', X', e', W, t⟩ := stR X hx hZ eT A (j := j) (v := .ref y) (own_inR r hj hk hl) rfl (Sto.of A O (Ins.self I)) (g := mkF m pc Ls (.ref y :: .int j :: .ref a :: st)) rfl rfl hd
  rw [hk] at X' W
  exact Goes.pre t (q T' h' X' e' W (F0.set W))
theorem own_anewarray (X : Stand p l e R s m args below meth c T locs cells slots) (hx : p.tables.exec = Jvm.exec) (hZ : Z.Warmed39 s.vm) {own : String} {index : Nat} (hown : s.vm.findClass own = some m.cls) (w1 : (Cond.classLink own index "com/example/dipper/dipper/stream/ScannedEvent").before a0 Z = true) (w2 : (Cond.arrayOver (.object "com/example/dipper/dipper/stream/ScannedEvent")).before a0 Z = true) (eT : T.heap = h) (hd : decode c.code pc = .ok (.anewarray index, 3)) {n : Int32} {k : Nat} (hn : ¬ n < 0) (hk : n.toNatClampNeg = k) (hb : k * 8 ≤ 536870912) (hc : cells + 1 ≤ R.cells) (hl : slots + k ≤ R.slots) (hp : pc + 3 = pc')
    (q : ∀ T' h' a, a = Array.size h → Stand p l e R s m args below meth c T' locs (cells + 1) (slots + k) → T'.heap = h' → Ext h h' → own_RA Z h' a (List.replicate k .null) → Goes p e below E T' (mkF m pc' Ls (.ref a :: st))) : Goes p e below E T (mkF m pc Ls (.int n :: st)) := by
  subst hp
  obtain ⟨T', h', cA, X', e', Ex, A, O, t⟩ := newR X hx hZ hown w1 w2 eT (g := mkF m pc Ls (.int n :: st)) rfl hd rfl hn (cap := k) (Nat.le_of_eq hk) hb hc hl
  exact Goes.pre t (q T' h' _ rfl X' e' Ex ⟨_, A, O, by simp [newA, hk, defaultValue]⟩)
end OwnRef
/-- a String of Latin-1 bytes -/
def own_StrV (Z : State) (h : Heap) (a : Addr) (bs : List Int32) : Prop := Exa Z h a "java/lang/String" ∧ Fld Z h a "java/lang/String" "coder" "B" (.int (0 : Int32)) ∧ ∃ b, Fld Z h a "java/lang/String" "value" "[B" (.ref b) ∧ own_PA Z h b .byte bs
/-- what a walk may have written: events, the queue's owner, arrays of events -/
def own_W (Z : State) (h : Heap) (us : List Addr) : Prop := ∀ x ∈ us, Exa Z h x "com/example/dipper/dipper/stream/ScannedEvent" ∨ Exa Z h x "com/example/dipper/dipper/stream/ScannedEvents" ∨ ∃ vs, own_RA Z h x vs
def own_CS (Z : State) (h : Heap) : Prop := ∃ z : Int32, ¬ z = (0 : Int32) ∧ Sta Z h "java/lang/String" "COMPACT_STRINGS" "Z" (.int z)
/-- the literal: not loaded since the start, or loaded, and empty -/
def own_LV (Z : State) (vm : Vm) (h : Heap) : Prop := IB Z vm [] ∨ ∃ a, Lit (Z.setVm vm) "com/example/dipper/dipper/stream/ScannedEvents" 59 a ∧ own_StrV Z h a []
section OwnStr
variable {Z s : State} {a0 : Array Value} {h h' : Heap} {a b : Addr} {bs : List Int32} {us : List Addr} {vm0 vm1 : Vm}
theorem own_wE (hw : ∀ d ∈ tables_1, d.before a0 Z = true) : (Cond.instantiable "com/example/dipper/dipper/stream/ScannedEvent" 8).before a0 Z = true := (hw _ (List.mem_of_getElem? (i := 22) rfl))
theorem own_wQ (hw : ∀ d ∈ tables_1, d.before a0 Z = true) : (Cond.instantiable "com/example/dipper/dipper/stream/ScannedEvents" 11).before a0 Z = true := (hw _ (List.mem_of_getElem? (i := 2) rfl))
theorem own_wS (hw : ∀ d ∈ tables_1, d.before a0 Z = true) : (Cond.instantiable "java/lang/String" 4).before a0 Z = true := (hw _ (List.mem_of_getElem? (i := 45) rfl))
theorem own_W.nil : own_W Z h [] := fun _ q => nomatch q
theorem own_W.ev (F : Exa Z h a "com/example/dipper/dipper/stream/ScannedEvent") (W : own_W Z h us) : own_W Z h (a :: us) := fun x q => (List.mem_cons.mp q).elim (fun e => e ▸ Or.inl F) (W x)
theorem own_W.qs (F : Exa Z h a "com/example/dipper/dipper/stream/ScannedEvents") (W : own_W Z h us) : own_W Z h (a :: us) := fun x q => (List.mem_cons.mp q).elim (fun e => e ▸ Or.inr (Or.inl F)) (W x)
theorem own_W.ra {vs : List Value} (F : own_RA Z h a vs) (W : own_W Z h us) : own_W Z h (a :: us) := fun x q => (List.mem_cons.mp q).elim (fun e => e ▸ Or.inr (Or.inr ⟨vs, F⟩)) (W x)
theorem own_W.str (hw : ∀ d ∈ tables_1, d.before a0 Z = true) (W : own_W Z h us) (F : Exa Z h a "java/lang/String") : a ∉ us := fun q => by
  rcases W a q with E | E | ⟨vs, c, A, -⟩
  · exact ne_exa F E (by decide) rfl
  · exact ne_exa F E (by decide) rfl
  · exact ne_arr F (own_wS hw) A rfl
theorem own_W.pa {ty : FieldType} {vs : List Int32} (hw : ∀ d ∈ tables_1, d.before a0 Z = true) (W : own_W Z h us) (F : own_PA Z h a ty vs) (ht : ty = .byte ∨ ty = .char) : a ∉ us := fun q => by
  obtain ⟨c, A, -⟩ := F
  rcases W a q with E | E | ⟨vs, c', A', -⟩
  · exact ne_arr E (own_wE hw) A rfl
  · exact ne_arr E (own_wQ hw) A rfl
  · cases A.1.symm.trans A'.1
    obtain ⟨-, k1, h1, p1, q1⟩ := A.2.1
    obtain ⟨-, k2, h2, p2, q2⟩ := A'.2.1
    cases h1.symm.trans h2
    have := q1.symm.trans q2
    rcases ht with rfl | rfl <;> simp at this
theorem own_StrV.keep (hw : ∀ d ∈ tables_1, d.before a0 Z = true) (F : own_StrV Z h a bs) (K : Keep h h' us) (W : own_W Z h us) : own_StrV Z h' a bs := by
  obtain ⟨F1, F2, b, F3, F4⟩ := F
  exact ⟨F1.keep K, F2.keep K (W.str hw F1), b, F3.keep K (W.str hw F1), F4.keep K (W.pa hw F4 (Or.inl rfl))⟩
theorem own_StrV.ext (F : own_StrV Z h a bs) (E : Ext h h') : own_StrV Z h' a bs := by
  obtain ⟨F1, F2, b, F3, F4⟩ := F
  exact ⟨F1.ext E, F2.ext E, b, F3.ext E, F4.ext E⟩
theorem own_CS.keep (F : own_CS Z h) (K : Keep h h' us) (W : own_W Z h us) : own_CS Z h' := by
  obtain ⟨z, hz, cf, i, k, f, st, cell, h1, h2, h3, h4, h5, h6, h7⟩ := F
  refine ⟨z, hz, cf, i, k, f, st, cell, h1, h2, h3, h4, K.2.1 st cell h5 fun q => ?_, h6, h7⟩
  rcases W st q with ⟨c', k', e1, -, -, e4, -⟩ | ⟨c', k', e1, -, -, e4, -⟩ | ⟨vs, c', A', -⟩
  · cases h5.symm.trans e1; rw [h6] at e4; cases e4
  · cases h5.symm.trans e1; rw [h6] at e4; cases e4
  · cases h5.symm.trans A'.1; have e4 := A'.plain; rw [h6] at e4; cases e4
theorem own_CS.ext (F : own_CS Z h) (E : Ext h h') : own_CS Z h' := by obtain ⟨z, hz, S⟩ := F; exact ⟨z, hz, S.ext E⟩
theorem own_CS.wr {sl : Nat} {v : Value} (F : own_CS Z h) (W : Wr h h' a sl v) : own_CS Z h' := by obtain ⟨z, hz, S⟩ := F; exact ⟨z, hz, S.wr W⟩
theorem own_LV.keep (hw : ∀ d ∈ tables_1, d.before a0 Z = true) (F : own_LV Z vm0 h) (K : Keep h h' us) (W : own_W Z h us) : own_LV Z vm0 h' := by
  rcases F with F | ⟨a, L, S⟩
  · exact Or.inl F
  · exact Or.inr ⟨a, L, S.keep hw K W⟩
theorem own_LV.ext (F : own_LV Z vm0 h) (E : Ext h h') : own_LV Z vm0 h' := by
  rcases F with F | ⟨a, L, S⟩
  · exact Or.inl F
  · exact Or.inr ⟨a, L, S.ext E⟩
theorem own_LV.warm (F : own_LV Z s.vm h) (hW : s.WarmedH vm1) : own_LV Z vm1 h := by
  rcases F with ⟨more, e, hm⟩ | ⟨a, L, S⟩
  · exact Or.inl ⟨more, hW.interned_eq.trans e, hm⟩
  · exact Or.inr ⟨a, Lit.stays (s := s) (vm0 := s.vm) L hW.wide, S⟩
end OwnStr
section OwnMore
variable {p : Program} {l : Launch} {e : Env} {R : Room} {s : State} {m : MethodId} {args : Array Value} {below : List Frame} {meth : Method} {c : Code} {T T' : State} {locs : List Loc} {cells slots : Nat} {E : Option Value → State → Prop} {pc pc' : Nat} {Ls Ls' : Array Slot} {st : List Value} {Z : State} {a0 : Array Value} {h h' : Heap} {a b : Addr} {vs : List Int32}
theorem own_baload (X : Stand p l e R s m args below meth c T locs cells slots) (hx : p.tables.exec = Jvm.exec) (hZ : Z.Warmed39 s.vm) (eT : T.heap = h) (F : own_PA Z h a .byte vs) (hd : decode c.code pc = .ok (.baload, 1)) {j v : Int32} {k : Nat} (hj : ¬ j < 0) (hk : j.toNatClampNeg = k) (hv : vs[k]? = some v) (hp : pc + 1 = pc')
    (q : Goes p e below E T (mkF m pc' Ls (.int v :: st))) : Goes p e below E T (mkF m pc Ls (.int j :: .ref a :: st)) := by
  subst hp
  obtain ⟨c', A, r⟩ := F
  exact Goes.pre (fun t q => X.baloadBytes hx (j := j) (v := .int v) (by rw [eT]; exact A.1) (State.isArrayOf_alike hZ.alike A.2.1) A.2.2 (own_in (v := v) r hj hk (List.getElem?_eq_some_iff.mp hv).1) (own_at r hk hv) (g := mkF m pc Ls (.int j :: .ref a :: st)) rfl rfl hd t q) q
theorem own_bastore (X : Stand p l e R s m args below meth c T locs cells slots) (hx : p.tables.exec = Jvm.exec) (hZ : Z.Warmed39 s.vm) (eT : T.heap = h) (F : own_PA Z h a .byte vs) (hd : decode c.code pc = .ok (.bastore, 1)) {j v w : Int32} {k : Nat} (hw : nar .byte v = w) (hj : ¬ j < 0) (hk : j.toNatClampNeg = k) (hl : k < vs.length) (hp : pc + 1 = pc')
    (q : ∀ T' h', Stand p l e R s m args below meth c T' (locs ++ [⟨a, k⟩]) cells slots → T'.heap = h' → Wr h h' a k (.int w) → own_PA Z h' a .byte (vs.set k w) → Goes p e below E T' (mkF m pc' Ls st)) : Goes p e below E T (mkF m pc Ls (.int v :: .int j :: .ref a :: st)) := by
  subst hp hw
  have F0 := F
  obtain ⟨c', A, r⟩ := F
  obtain ⟨T', h', X', e', W, t⟩ := stB X hx hZ eT A (j := j) (x := v) (own_in (v := v) r hj hk hl) (g := mkF m pc Ls (.int v :: .int j :: .ref a :: st)) rfl rfl hd
  rw [hk] at X' W
  exact Goes.pre t (q T' h' X' e' W (F0.set W))
theorem own_acmpY (X : Stand p l e R s m args below meth c T locs cells slots) (hx : p.tables.exec = Jvm.exec) {o : Int} {cd : ClassFile.ACond} (hd : decode c.code pc = .ok (.if_acmp cd o, 3)) (hc : if_acmp.holds cd (some a) (some b) = true) (ho : 0 ≤ (pc : Int) + o) (hp : ((pc : Int) + o).toNat = pc') (k : Goes p e below E T (mkF m pc' Ls st)) : Goes p e below E T (mkF m pc Ls (.ref b :: .ref a :: st)) := by
  exact Goes.pre (fun _ k => XS.acmpYes X.here hx rfl rfl hd rfl hc ho hp k) k
theorem own_acmpN (X : Stand p l e R s m args below meth c T locs cells slots) (hx : p.tables.exec = Jvm.exec) {o : Int} {cd : ClassFile.ACond} (hd : decode c.code pc = .ok (.if_acmp cd o, 3)) (hc : if_acmp.holds cd (some a) (some b) = false) (hp : pc + 3 = pc') (k : Goes p e below E T (mkF m pc' Ls st)) : Goes p e below E T (mkF m pc Ls (.ref b :: .ref a :: st)) := by
  subst hp
  exact Goes.pre (fun _ k => XS.acmpNo X.here hx rfl hd rfl hc k) k
/-- the class of the queue is no interface: read off a word on another of its methods -/
theorem own_noFace {y z : MethodName} {C : String} {a1 : Array Value} (w : (Cond.selects C y z).before a1 s = true) {mk : MethodId} (hn : s.vm.findClass z.cls = some mk.cls) : ∃ k, s.vm.classes[mk.cls]? = some k ∧ k.isInterface = false := by
  obtain ⟨c1, r1, m1, -, -, h3, -, k, h4, h5⟩ := Cond.selects_spec w
  have q := findClass_of_methodNamed h3
  have e := Option.some.inj (hn.symm.trans q)
  exact ⟨k, by rw [e]; exact h4, h5⟩
theorem own_private (X : Stand p l e R s m args below meth c T locs cells slots) (hexec : p.tables.exec = Jvm.exec) {own : String} {index : Nat} {y z z' : MethodName} {C : String} {bytes : ByteArray} {maxL : Nat} {ret : Option FieldType}
    (hown : s.vm.findClass own = some m.cls) (hlink : (Cond.methodLink own index y).before args s = true) (hinst : (Cond.instanceMethod y).before args s = true) (hsel : (Cond.selects C z z').before args s = true) (hz : z'.cls = y.cls)
    (hpriv : s.PrivateAt y) (hcode : (Cond.code y bytes maxL ret).before args s = true) (hy : y.cls ≠ "java/lang/invoke/MethodHandle" ∧ y.cls ≠ "java/lang/invoke/VarHandle")
    {W : Nat} {Pre : Pt → Array Value → Prop} {Post : Pt → Array Value → Option Value → Pt → Prop} (hK : Back l R p e below s args y 3 W Pre Post)
    (Ex : ∃ (cell : Cell) (k : Class), T.heap[a]? = some cell ∧ cell.vm.isStatics = false)
    {g : JFrame} (hg : g.method = m) (hsize : g.locals.size = c.maxLocals) {argsL rest : List Value} (hlen : ∀ sig, parseMethodDescriptor y.desc = some sig → argsL.length = sig.parameters.length)
    (hstack : g.stack = argsL.reverse ++ .ref a :: rest) (hW : 2 * g.monitorRoom + (rest.map fun v => v.category).sum ≤ W) (hdg : decode c.code g.pc = .ok (.invokevirtual index, 3))
    (hpre : ∀ vm₁, s.WarmedH vm₁ → Pre ⟨T.setVm vm₁, locs, cells, slots⟩ (.ref a :: argsL).toArray) :
    ∃ (v : Option Value) (vm₁ : Vm) (B : Pt), s.WarmedH vm₁ ∧ Stand p l e R s m args below meth c B.U B.locs B.cells B.slots ∧ Post ⟨T.setVm vm₁, locs, cells, slots⟩ (.ref a :: argsL).toArray v B ∧
      Steps p.tables e below (T.setTop g) (B.U.setTop { g with pc := g.pc + 3, stack := v.toList ++ rest }) := by
  obtain ⟨mk, methM, hnamed, hmethM, hstM, habM⟩ := Cond.instanceMethod_spec hinst
  obtain ⟨methN, cM, hmethN, -, -, -, -, -, -, hsigM⟩ := Cond.code_spec hnamed hcode
  cases hmethM.symm.trans hmethN
  obtain ⟨kP, hkP, hkPi⟩ := own_noFace hsel (mk := mk) (by rw [hz]; exact findClass_of_methodNamed hnamed)
  obtain ⟨cell, _, hcell, hst⟩ := Ex
  obtain ⟨vm₁, X₁, step⟩ := X.invokevirtual hexec hown hlink hnamed hmethM hstM hkP hkPi hy (a := a) (cell := cell) hcell (fun q hq => by rw [hq] at hst; cases hst) (selectMethod_private hmethM (hpriv mk methM hnamed hmethM)) hmethM habM hkP hkPi (g := g) hg (argsL := argsL) (rest := rest) (hlen _ hsigM) hstack hdg
  obtain ⟨v, B, X', hpost, go⟩ := hK m meth c ⟨T.setVm vm₁, locs, cells, slots⟩ { g with stack := rest } (.invokevirtual index) mk (.ref a :: argsL).toArray X₁ hg hsize hdg hW (X₁.named hnamed) (hpre vm₁ X₁.warmed)
  exact ⟨v, vm₁, B, X₁.warmed, X', hpost, step _ fun acts => by rw [doInvoke_state]; exact go⟩
end OwnMore
def own_Ev (Z : State) (h : Heap) (a : Addr) (ty : Int32) (ch : Value) (sa : Int32) (ln : Int32) (tx : Value) (ns : Value) (lo : Value) (qn : Value) : Prop := Exa Z h a "com/example/dipper/dipper/stream/ScannedEvent" ∧ Fld Z h a "com/example/dipper/dipper/stream/ScannedEvent" "type" "I" (.int ty) ∧ Fld Z h a "com/example/dipper/dipper/stream/ScannedEvent" "characters" "[C" ch ∧ Fld Z h a "com/example/dipper/dipper/stream/ScannedEvent" "start" "I" (.int sa) ∧ Fld Z h a "com/example/dipper/dipper/stream/ScannedEvent" "length" "I" (.int ln) ∧ Fld Z h a "com/example/dipper/dipper/stream/ScannedEvent" "text" "Ljava/lang/String;" tx ∧ Fld Z h a "com/example/dipper/dipper/stream/ScannedEvent" "namespace" "Ljava/lang/String;" ns ∧ Fld Z h a "com/example/dipper/dipper/stream/ScannedEvent" "localName" "Ljava/lang/String;" lo ∧ Fld Z h a "com/example/dipper/dipper/stream/ScannedEvent" "qualifiedName" "Ljava/lang/String;" qn
theorem own_Ev.keep {Z : State} {h h' : Heap} {a : Addr} {ty : Int32} {ch : Value} {sa : Int32} {ln : Int32} {tx : Value} {ns : Value} {lo : Value} {qn : Value} {us : List Addr} (F : own_Ev Z h a ty ch sa ln tx ns lo qn) (K : Keep h h' us) (q : a ∉ us) : own_Ev Z h' a ty ch sa ln tx ns lo qn := ⟨F.1.keep K, F.2.1.keep K q, F.2.2.1.keep K q, F.2.2.2.1.keep K q, F.2.2.2.2.1.keep K q, F.2.2.2.2.2.1.keep K q, F.2.2.2.2.2.2.1.keep K q, F.2.2.2.2.2.2.2.1.keep K q, F.2.2.2.2.2.2.2.2.keep K q⟩
theorem own_Ev.ext {Z : State} {h h' : Heap} {a : Addr} {ty : Int32} {ch : Value} {sa : Int32} {ln : Int32} {tx : Value} {ns : Value} {lo : Value} {qn : Value} (F : own_Ev Z h a ty ch sa ln tx ns lo qn) (K : Ext h h') : own_Ev Z h' a ty ch sa ln tx ns lo qn := ⟨F.1.ext K, F.2.1.ext K, F.2.2.1.ext K, F.2.2.2.1.ext K, F.2.2.2.2.1.ext K, F.2.2.2.2.2.1.ext K, F.2.2.2.2.2.2.1.ext K, F.2.2.2.2.2.2.2.1.ext K, F.2.2.2.2.2.2.2.2.ext K⟩
def own_Q (Z : State) (h : Heap) (q qa : Addr) (vs : List Value) (hd ct : Int32) : Prop := Exa Z h q "com/example/dipper/dipper/stream/ScannedEvents" ∧ Fld Z h q "com/example/dipper/dipper/stream/ScannedEvents" "queue" "[Lcom/example/dipper/dipper/stream/ScannedEvent;" (.ref qa) ∧ Fld Z h q "com/example/dipper/dipper/stream/ScannedEvents" "head" "I" (.int hd) ∧ Fld Z h q "com/example/dipper/dipper/stream/ScannedEvents" "count" "I" (.int ct) ∧ Fld Z h q "com/example/dipper/dipper/stream/ScannedEvents" "unreported" "I" (.int (0 : Int32)) ∧ own_RA Z h qa vs
theorem own_Q.keep {Z : State} {h h' : Heap} {q qa : Addr} {vs : List Value} {hd ct : Int32} {us : List Addr} (F : own_Q Z h q qa vs hd ct) (K : Keep h h' us) (n1 : q ∉ us) (n2 : qa ∉ us) : own_Q Z h' q qa vs hd ct := ⟨F.1.keep K, F.2.1.keep K n1, F.2.2.1.keep K n1, F.2.2.2.1.keep K n1, F.2.2.2.2.1.keep K n1, F.2.2.2.2.2.keep K n2⟩
theorem own_Q.ext {Z : State} {h h' : Heap} {q qa : Addr} {vs : List Value} {hd ct : Int32} (F : own_Q Z h q qa vs hd ct) (K : Ext h h') : own_Q Z h' q qa vs hd ct := ⟨F.1.ext K, F.2.1.ext K, F.2.2.1.ext K, F.2.2.2.1.ext K, F.2.2.2.2.1.ext K, F.2.2.2.2.2.ext K⟩
def own_bt (c : Int32) : Int32 := nar .byte c.toInt8.toInt32
theorem d3_0 : decode prog_162_method_1_code 0 = .ok (.aload_n 0, 1) := by decide +kernel
theorem d3_1 : decode prog_162_method_1_code 1 = .ok (.invokespecial 1, 3) := by decide +kernel
theorem d3_4 : decode prog_162_method_1_code 4 = .ok (.return_, 1) := by decide +kernel
theorem pn_1 : plainFor (⟨"com/example/dipper/dipper/stream/ScannedEvent", "<init>", "()V"⟩ : MethodName) = true := by first | (refine plainFor_of_name ?_; simp [plainName, overriddenIn]; done) | decide +kernel
theorem pd_1 : parseMethodDescriptor "()V" = some ⟨[], none⟩ := by decide +kernel
theorem ef_1 (m : MethodId) (a1 : Addr) : entryFrame m #[(.ref a1)] 1 = mkF m 0 #[.val (.ref a1)] [] := by first | (simp [entryFrame, mkF, argsToLocals, Value.category]; done) | rfl
def Q_1 (Z : State) (a1 : Addr) (h0 : Heap) (n0 : Nat) (v : Option Value) (h : Heap) (L : List Loc) : Prop := v = none ∧ Fr n0 L ∧ h = h0
set_option maxRecDepth 65536 in
set_option maxHeartbeats 40000000 in
theorem rm_1 (l : Launch) (Z : State) (a0 : Array Value) (hw : ∀ d ∈ tables_1, d.before a0 Z = true) (ws : List Jvm.Cond) (a1 : Addr) (h0 : Heap) (n0 : Nat) (Z0 : n0 ≤ h0.size) :
    MetFree l (⟨"com/example/dipper/dipper/stream/ScannedEvent", "<init>", "()V"⟩ : MethodName) (head1 (Jvm.Cond.code (⟨"com/example/dipper/dipper/stream/ScannedEvent", "<init>", "()V"⟩ : MethodName) prog_162_method_1_code 1 none :: ws) ({ frames := 1, cells := 0, slots := 0, locals := 12 } : Room)) (fun a U => a = #[(.ref a1)] ∧ Z.Warmed39 U.vm ∧ U.heap = h0) (fun _ _ _ _ _ => True) (fun _ U o U' => ∃ v L, o = .returned v ∧ (Q_1 Z a1 h0 n0) v U'.heap L ∧ FrameEnd U o U' L ({ frames := 1, cells := 0, slots := 0, locals := 12 } : Room).cells ({ frames := 1, cells := 0, slots := 0, locals := 12 } : Room).slots) := by
  refine MetFree.of_bodySF pn_1 hisR ?_
  intro p e s m args below meth c s₁ Bd hml0 hP hK
  obtain ⟨rfl, hZ, hh⟩ := hP
  have hx := Bd.exec
  have hby := Bd.bytes
  have hlk : meth.locks = false := BodyLoose.notSynchronized Bd
  have hml : c.maxLocals = 1 := hml0
  have hown : s.vm.findClass "com/example/dipper/dipper/stream/ScannedEvent" = some m.cls := findClass_of_methodNamed Bd.named
  have hnm := (name_of_methodNamed Bd.named Bd.method).1
  have X0 : Stand p l e ({ frames := 1, cells := 0, slots := 0, locals := 12 } : Room) s m #[(.ref a1)] below meth c s₁ [] 0 0 := Stand.of_body Bd
  have e0 : s₁.heap = h0 := by rw [← hh, Bd.state]; rfl
  have N0 := Fr.nil n0
  refine own_enter (Q := (Q_1 Z a1 h0 n0)) (cs := 0) (ss := 0) (ef_1 m a1) ?_
  show Goes p e below (EndN s 0 0 (Q_1 Z a1 h0 n0)) s₁ (mkF m 0 #[.val (.ref a1)] [])
  refine own_aloadN (pc' := 1) X0 hx (hb hby d3_0) rfl rfl rfl ?_
  obtain ⟨T101, X101, e101, st101⟩ := initO X0 hx hZ hown (hw _ (List.mem_of_getElem? (i := 27) rfl)) (hw _ (List.mem_of_getElem? (i := 8) rfl)) (hw _ (List.mem_of_getElem? (i := 9) rfl)) e0 (g := (mkF m 1 #[.val (.ref a1)] [(.ref a1)])) rfl (by rw [hml]; rfl) rfl (hb hby d3_1) (by decide) (W := 0) (by show 2 * 0 + _ ≤ _; exact Nat.le_of_eq rfl) (by decide)
  refine Goes.pre st101 ?_
  show Goes p e below (EndN s 0 0 (Q_1 Z a1 h0 n0)) T101 (mkF m 4 #[.val (.ref a1)] [])
  exact own_ret0 X101 hx hlk Bd.returns (hb hby d3_4) (by decide) (by decide) ⟨rfl, N0, e101⟩
theorem d6_0 : decode jdk_43_method_3_code 0 = .ok (.iload_n 0, 1) := by decide +kernel
theorem d6_1 : decode jdk_43_method_3_code 1 = .ok (.sipush 255, 3) := by decide +kernel
theorem d6_4 : decode jdk_43_method_3_code 4 = .ok (.if_icmp .gt 7, 3) := by decide +kernel
theorem d6_7 : decode jdk_43_method_3_code 7 = .ok (.iconst 1, 1) := by decide +kernel
theorem d6_8 : decode jdk_43_method_3_code 8 = .ok (.goto 4, 3) := by decide +kernel
theorem d6_11 : decode jdk_43_method_3_code 11 = .ok (.iconst 0, 1) := by decide +kernel
theorem d6_12 : decode jdk_43_method_3_code 12 = .ok (.ireturn, 1) := by decide +kernel
theorem pn_2 : plainFor (⟨"java/lang/StringLatin1", "canEncode", "(C)Z"⟩ : MethodName) = true := by first | (refine plainFor_of_name ?_; simp [plainName, overriddenIn]; done) | decide +kernel
theorem pd_2 : parseMethodDescriptor "(C)Z" = some ⟨[.char], some .boolean⟩ := by decide +kernel
theorem ef_2 (m : MethodId) (c1 : Int32) : entryFrame m #[(.int c1)] 1 = mkF m 0 #[.val (.int c1)] [] := by first | (simp [entryFrame, mkF, argsToLocals, Value.category]; done) | rfl
def Q_2 (Z : State) (c1 : Int32) (h0 : Heap) (n0 : Nat) (v : Option Value) (h : Heap) (L : List Loc) : Prop := v = some (.int (1 : Int32)) ∧ Fr n0 L ∧ h = h0
set_option maxRecDepth 65536 in
set_option maxHeartbeats 40000000 in
theorem rm_2 (l : Launch) (Z : State) (a0 : Array Value) (hw : ∀ d ∈ tables_1, d.before a0 Z = true) (ws : List Jvm.Cond) (c1 : Int32) (h0 : Heap) (n0 : Nat) (Z0 : n0 ≤ h0.size) (hc : ¬ (255 : Int32) < c1) :
    MetFree l (⟨"java/lang/StringLatin1", "canEncode", "(C)Z"⟩ : MethodName) (head1 (Jvm.Cond.code (⟨"java/lang/StringLatin1", "canEncode", "(C)Z"⟩ : MethodName) jdk_43_method_3_code 1 (some .boolean) :: ws) ({ frames := 0, cells := 0, slots := 0, locals := 0 } : Room)) (fun a U => a = #[(.int c1)] ∧ Z.Warmed39 U.vm ∧ U.heap = h0) (fun _ _ _ _ _ => True) (fun _ U o U' => ∃ v L, o = .returned v ∧ (Q_2 Z c1 h0 n0) v U'.heap L ∧ FrameEnd U o U' L ({ frames := 0, cells := 0, slots := 0, locals := 0 } : Room).cells ({ frames := 0, cells := 0, slots := 0, locals := 0 } : Room).slots) := by
  refine MetFree.of_bodySF pn_2 hisR ?_
  intro p e s m args below meth c s₁ Bd hml0 hP hK
  obtain ⟨rfl, hZ, hh⟩ := hP
  have hx := Bd.exec
  have hby := Bd.bytes
  have hlk : meth.locks = false := BodyLoose.notSynchronized Bd
  have hml : c.maxLocals = 1 := hml0
  have hown : s.vm.findClass "java/lang/StringLatin1" = some m.cls := findClass_of_methodNamed Bd.named
  have hnm := (name_of_methodNamed Bd.named Bd.method).1
  have X0 : Stand p l e ({ frames := 0, cells := 0, slots := 0, locals := 0 } : Room) s m #[(.int c1)] below meth c s₁ [] 0 0 := Stand.of_body Bd
  have e0 : s₁.heap = h0 := by rw [← hh, Bd.state]; rfl
  have N0 := Fr.nil n0
  refine own_enter (Q := (Q_2 Z c1 h0 n0)) (cs := 0) (ss := 0) (ef_2 m c1) ?_
  show Goes p e below (EndN s 0 0 (Q_2 Z c1 h0 n0)) s₁ (mkF m 0 #[.val (.int c1)] [])
  refine own_iloadN (pc' := 1) X0 hx (hb hby d6_0) rfl rfl ?_
  refine own_sipush (pc' := 4) X0 hx (hb hby d6_1) (v := (255 : Int32)) rfl rfl ?_
  refine own_icmpN (pc' := 7) X0 hx (hb hby d6_4) (flt hc).2.2.1 rfl ?_
  refine own_iconst (pc' := 8) X0 hx (hb hby d6_7) (v := (1 : Int32)) rfl rfl ?_
  refine own_goto X0 hx (hb hby d6_8) (by decide) (pc' := 12) (by decide) ?_
  exact own_retN X0 hx hlk (t := .boolean) Bd.returns (by simp) (hb hby d6_12) (by decide) (by decide) ⟨rfl, N0, e0⟩
theorem d7_0 : decode jdk_43_method_46_code 0 = .ok (.iconst 1, 1) := by decide +kernel
theorem d7_1 : decode jdk_43_method_46_code 1 = .ok (.newarray .byte, 2) := by decide +kernel
theorem d7_3 : decode jdk_43_method_46_code 3 = .ok (.dup, 1) := by decide +kernel
theorem d7_4 : decode jdk_43_method_46_code 4 = .ok (.iconst 0, 1) := by decide +kernel
theorem d7_5 : decode jdk_43_method_46_code 5 = .ok (.iload_n 0, 1) := by decide +kernel
theorem d7_6 : decode jdk_43_method_46_code 6 = .ok (.i2b, 1) := by decide +kernel
theorem d7_7 : decode jdk_43_method_46_code 7 = .ok (.bastore, 1) := by decide +kernel
theorem d7_8 : decode jdk_43_method_46_code 8 = .ok (.areturn, 1) := by decide +kernel
theorem pn_3 : plainFor (⟨"java/lang/StringLatin1", "toBytes", "(C)[B"⟩ : MethodName) = true := by first | (refine plainFor_of_name ?_; simp [plainName, overriddenIn]; done) | decide +kernel
theorem pd_3 : parseMethodDescriptor "(C)[B" = some ⟨[.char], some (.array .byte)⟩ := by decide +kernel
theorem ef_3 (m : MethodId) (c1 : Int32) : entryFrame m #[(.int c1)] 1 = mkF m 0 #[.val (.int c1)] [] := by first | (simp [entryFrame, mkF, argsToLocals, Value.category]; done) | rfl
def Q_3 (Z : State) (c1 : Int32) (h0 : Heap) (n0 : Nat) (v : Option Value) (h : Heap) (L : List Loc) : Prop := ∃ b : Addr, v = some (.ref b) ∧ Fr n0 L ∧ Keep h0 h [] ∧ own_PA Z h b .byte [own_bt c1] ∧ Array.size h0 ≤ b
set_option maxRecDepth 65536 in
set_option maxHeartbeats 40000000 in
theorem rm_3 (l : Launch) (Z : State) (a0 : Array Value) (hw : ∀ d ∈ tables_1, d.before a0 Z = true) (ws : List Jvm.Cond) (c1 : Int32) (h0 : Heap) (n0 : Nat) (Z0 : n0 ≤ h0.size) :
    MetFree l (⟨"java/lang/StringLatin1", "toBytes", "(C)[B"⟩ : MethodName) (head1 (Jvm.Cond.code (⟨"java/lang/StringLatin1", "toBytes", "(C)[B"⟩ : MethodName) jdk_43_method_46_code 1 (some (.array .byte)) :: ws) ({ frames := 0, cells := 1, slots := 1, locals := 0 } : Room)) (fun a U => a = #[(.int c1)] ∧ Z.Warmed39 U.vm ∧ U.heap = h0) (fun _ _ _ _ _ => True) (fun _ U o U' => ∃ v L, o = .returned v ∧ (Q_3 Z c1 h0 n0) v U'.heap L ∧ FrameEnd U o U' L ({ frames := 0, cells := 1, slots := 1, locals := 0 } : Room).cells ({ frames := 0, cells := 1, slots := 1, locals := 0 } : Room).slots) := by
  refine MetFree.of_bodySF pn_3 hisR ?_
  intro p e s m args below meth c s₁ Bd hml0 hP hK
  obtain ⟨rfl, hZ, hh⟩ := hP
  have hx := Bd.exec
  have hby := Bd.bytes
  have hlk : meth.locks = false := BodyLoose.notSynchronized Bd
  have hml : c.maxLocals = 1 := hml0
  have hown : s.vm.findClass "java/lang/StringLatin1" = some m.cls := findClass_of_methodNamed Bd.named
  have hnm := (name_of_methodNamed Bd.named Bd.method).1
  have X0 : Stand p l e ({ frames := 0, cells := 1, slots := 1, locals := 0 } : Room) s m #[(.int c1)] below meth c s₁ [] 0 0 := Stand.of_body Bd
  have e0 : s₁.heap = h0 := by rw [← hh, Bd.state]; rfl
  have N0 := Fr.nil n0
  refine own_enter (Q := (Q_3 Z c1 h0 n0)) (cs := 1) (ss := 1) (ef_3 m c1) ?_
  show Goes p e below (EndN s 1 1 (Q_3 Z c1 h0 n0)) s₁ (mkF m 0 #[.val (.int c1)] [])
  refine own_iconst (pc' := 1) X0 hx (hb hby d7_0) (v := (1 : Int32)) rfl rfl ?_
  refine own_newarray (pc' := 3) X0 hx hZ (hw _ (List.mem_of_getElem? (i := 49) rfl)) e0 (hb hby d7_1) (k := 1) (cap := 1) rfl (by decide) rfl (by decide) (by decide) (by decide) (by decide) rfl ?_
  intro T102 h102 a102 g102 X102 e102 E102 P102
  show Goes p e below (EndN s 1 1 (Q_3 Z c1 h0 n0)) T102 (mkF m 3 #[.val (.int c1)] [(.ref a102)])
  refine own_dup (pc' := 4) X102 hx (hb hby d7_3) rfl rfl ?_
  refine own_iconst (pc' := 5) X102 hx (hb hby d7_4) (v := (0 : Int32)) rfl rfl ?_
  refine own_iloadN (pc' := 6) X102 hx (hb hby d7_5) rfl rfl ?_
  refine own_i2b (pc' := 7) X102 hx (hb hby d7_6) rfl ?_
  refine own_bastore (pc' := 8) X102 hx hZ e102 P102 (hb hby d7_7) rfl (by decide) (k := 0) (by decide) (by simp) rfl ?_
  intro T103 h103 X103 e103 W103 P103
  have N103 := Fr.snoc X103 N0 (by rw [g102]; exact Z0)
  show Goes p e below (EndN s 1 1 (Q_3 Z c1 h0 n0)) T103 (mkF m 8 #[.val (.int c1)] [(.ref a102)])
  have K3 : Keep h0 h103 [] := ((Keep.refl h0 []).ext E102).wr W103 (Or.inr (Nat.le_of_eq g102.symm))
  exact own_retA X103 hx hlk Bd.returns rfl rfl rfl (hb hby d7_8) (by decide) (by decide) ⟨a102, rfl, N103, by rw [e103]; exact K3, by rw [e103]; exact P103, Nat.le_of_eq g102.symm⟩
theorem d8_0 : decode jdk_42_method_151_code 0 = .ok (.aload_n 0, 1) := by decide +kernel
theorem d8_1 : decode jdk_42_method_151_code 1 = .ok (.invokespecial 1, 3) := by decide +kernel
theorem d8_4 : decode jdk_42_method_151_code 4 = .ok (.aload_n 0, 1) := by decide +kernel
theorem d8_5 : decode jdk_42_method_151_code 5 = .ok (.aload_n 1, 1) := by decide +kernel
theorem d8_6 : decode jdk_42_method_151_code 6 = .ok (.putfield 9, 3) := by decide +kernel
theorem d8_9 : decode jdk_42_method_151_code 9 = .ok (.aload_n 0, 1) := by decide +kernel
theorem d8_10 : decode jdk_42_method_151_code 10 = .ok (.iload_n 2, 1) := by decide +kernel
theorem d8_11 : decode jdk_42_method_151_code 11 = .ok (.putfield 15, 3) := by decide +kernel
theorem d8_14 : decode jdk_42_method_151_code 14 = .ok (.return_, 1) := by decide +kernel
theorem pn_4 : plainFor (⟨"java/lang/String", "<init>", "([BB)V"⟩ : MethodName) = true := by first | (refine plainFor_of_name ?_; simp [plainName, overriddenIn]; done) | decide +kernel
theorem pd_4 : parseMethodDescriptor "([BB)V" = some ⟨[(.array .byte), .byte], none⟩ := by decide +kernel
theorem ef_4 (m : MethodId) (a1 : Addr) (b1 : Addr) : entryFrame m #[(.ref a1), (.ref b1), (.int (0 : Int32))] 3 = mkF m 0 #[.val (.ref a1), .val (.ref b1), .val (.int (0 : Int32))] [] := by first | (simp [entryFrame, mkF, argsToLocals, Value.category]; done) | rfl
def Q_4 (Z : State) (a1 : Addr) (b1 : Addr) (h0 : Heap) (n0 : Nat) (v : Option Value) (h : Heap) (L : List Loc) : Prop := v = none ∧ Fr n0 L ∧ Keep h0 h [a1] ∧ Exa Z h a1 "java/lang/String" ∧ Fld Z h a1 "java/lang/String" "value" "[B" (.ref b1) ∧ Fld Z h a1 "java/lang/String" "coder" "B" (.int (0 : Int32))
set_option maxRecDepth 65536 in
set_option maxHeartbeats 40000000 in
theorem rm_4 (l : Launch) (Z : State) (a0 : Array Value) (hw : ∀ d ∈ tables_1, d.before a0 Z = true) (ws : List Jvm.Cond) (a1 : Addr) (b1 : Addr) (h0 : Heap) (n0 : Nat) (Z0 : n0 ≤ h0.size) (F1 : Fld Z h0 a1 "java/lang/String" "value" "[B" .null) (F2 : Fld Z h0 a1 "java/lang/String" "coder" "B" (.int (0 : Int32))) (E1 : Exa Z h0 a1 "java/lang/String") (g1 : n0 ≤ a1) :
    MetFree l (⟨"java/lang/String", "<init>", "([BB)V"⟩ : MethodName) (head1 (Jvm.Cond.code (⟨"java/lang/String", "<init>", "([BB)V"⟩ : MethodName) jdk_42_method_151_code 3 none :: ws) ({ frames := 1, cells := 0, slots := 0, locals := 12 } : Room)) (fun a U => a = #[(.ref a1), (.ref b1), (.int (0 : Int32))] ∧ Z.Warmed39 U.vm ∧ U.heap = h0) (fun _ _ _ _ _ => True) (fun _ U o U' => ∃ v L, o = .returned v ∧ (Q_4 Z a1 b1 h0 n0) v U'.heap L ∧ FrameEnd U o U' L ({ frames := 1, cells := 0, slots := 0, locals := 12 } : Room).cells ({ frames := 1, cells := 0, slots := 0, locals := 12 } : Room).slots) := by
  refine MetFree.of_bodySF pn_4 hisR ?_
  intro p e s m args below meth c s₁ Bd hml0 hP hK
  obtain ⟨rfl, hZ, hh⟩ := hP
  have hx := Bd.exec
  have hby := Bd.bytes
  have hlk : meth.locks = false := BodyLoose.notSynchronized Bd
  have hml : c.maxLocals = 3 := hml0
  have hown : s.vm.findClass "java/lang/String" = some m.cls := findClass_of_methodNamed Bd.named
  have hnm := (name_of_methodNamed Bd.named Bd.method).1
  have X0 : Stand p l e ({ frames := 1, cells := 0, slots := 0, locals := 12 } : Room) s m #[(.ref a1), (.ref b1), (.int (0 : Int32))] below meth c s₁ [] 0 0 := Stand.of_body Bd
  have e0 : s₁.heap = h0 := by rw [← hh, Bd.state]; rfl
  have N0 := Fr.nil n0
  refine own_enter (Q := (Q_4 Z a1 b1 h0 n0)) (cs := 0) (ss := 0) (ef_4 m a1 b1) ?_
  show Goes p e below (EndN s 0 0 (Q_4 Z a1 b1 h0 n0)) s₁ (mkF m 0 #[.val (.ref a1), .val (.ref b1), .val (.int (0 : Int32))] [])
  refine own_aloadN (pc' := 1) X0 hx (hb hby d8_0) rfl rfl rfl ?_
  obtain ⟨T104, X104, e104, st104⟩ := initO X0 hx hZ hown (hw _ (List.mem_of_getElem? (i := 54) rfl)) (hw _ (List.mem_of_getElem? (i := 8) rfl)) (hw _ (List.mem_of_getElem? (i := 9) rfl)) e0 (g := (mkF m 1 #[.val (.ref a1), .val (.ref b1), .val (.int (0 : Int32))] [(.ref a1)])) rfl (by rw [hml]; rfl) rfl (hb hby d8_1) (by decide) (W := 0) (by show 2 * 0 + _ ≤ _; exact Nat.le_of_eq rfl) (by decide)
  refine Goes.pre st104 ?_
  show Goes p e below (EndN s 0 0 (Q_4 Z a1 b1 h0 n0)) T104 (mkF m 4 #[.val (.ref a1), .val (.ref b1), .val (.int (0 : Int32))] [])
  refine own_aloadN (pc' := 5) X104 hx (hb hby d8_4) rfl rfl rfl ?_
  refine own_aloadN (pc' := 6) X104 hx (hb hby d8_5) rfl rfl rfl ?_
  obtain ⟨T105, h105, X105, e105, W105, st105⟩ := putF X104 hx hZ hown (host := "") (Or.inl (hw _ (List.mem_of_getElem? (i := 55) rfl))) Via.refl e104 F1 E1 (Or.inr ⟨(hw _ (List.mem_of_getElem? (i := 56) rfl)), rfl, hnm⟩) (hw _ (List.mem_of_getElem? (i := 45) rfl)) (ty := (.array .byte)) (by decide) rfl rfl (g := (mkF m 6 #[.val (.ref a1), .val (.ref b1), .val (.int (0 : Int32))] [(.ref b1), (.ref a1)])) rfl rfl (hb hby d8_6)
  have N105 := Fr.snoc X105 N0 g1
  refine Goes.pre st105 ?_
  show Goes p e below (EndN s 0 0 (Q_4 Z a1 b1 h0 n0)) T105 (mkF m 9 #[.val (.ref a1), .val (.ref b1), .val (.int (0 : Int32))] [])
  have F105_a1_value := F1.same W105
  have F105_a1_coder := F2.other W105 (Or.inr (slot_ne (Or.inr (hw _ (List.mem_of_getElem? (i := 58) rfl))) (Or.inr (hw _ (List.mem_of_getElem? (i := 56) rfl))) (by decide) (t := .byte) (t' := (.array .byte)) (by decide) (by decide)))
  have E105_a1 := E1.wr W105
  have K105 := Keep.wr (Keep.refl h0 [a1]) W105 (Or.inl (List.mem_of_getElem? (i := 0) rfl))
  refine own_aloadN (pc' := 10) X105 hx (hb hby d8_9) rfl rfl rfl ?_
  refine own_iloadN (pc' := 11) X105 hx (hb hby d8_10) rfl rfl ?_
  obtain ⟨T106, h106, X106, e106, W106, st106⟩ := putF X105 hx hZ hown (host := "") (Or.inl (hw _ (List.mem_of_getElem? (i := 57) rfl))) Via.refl e105 F105_a1_coder E105_a1 (Or.inr ⟨(hw _ (List.mem_of_getElem? (i := 58) rfl)), rfl, hnm⟩) (hw _ (List.mem_of_getElem? (i := 45) rfl)) (ty := .byte) (by decide) rfl rfl (g := (mkF m 11 #[.val (.ref a1), .val (.ref b1), .val (.int (0 : Int32))] [(.int (0 : Int32)), (.ref a1)])) rfl rfl (hb hby d8_11)
  have N106 := Fr.snoc X106 N105 g1
  refine Goes.pre st106 ?_
  show Goes p e below (EndN s 0 0 (Q_4 Z a1 b1 h0 n0)) T106 (mkF m 14 #[.val (.ref a1), .val (.ref b1), .val (.int (0 : Int32))] [])
  have F106_a1_value := F105_a1_value.other W106 (Or.inr (slot_ne (Or.inr (hw _ (List.mem_of_getElem? (i := 56) rfl))) (Or.inr (hw _ (List.mem_of_getElem? (i := 58) rfl))) (by decide) (t := (.array .byte)) (t' := .byte) (by decide) (by decide)))
  have F106_a1_coder := F105_a1_coder.same W106
  have E106_a1 := E105_a1.wr W106
  have K106 := Keep.wr K105 W106 (Or.inl (List.mem_of_getElem? (i := 0) rfl))
  exact own_ret0 X106 hx hlk Bd.returns (hb hby d8_14) (by decide) (by decide) (by rw [e106]; exact ⟨rfl, N106, K106, E106_a1, F106_a1_value, F106_a1_coder⟩)
theorem d5_0 : decode jdk_42_method_139_code 0 = .ok (.getstatic 38, 3) := by decide +kernel
theorem d5_3 : decode jdk_42_method_139_code 3 = .ok (.ifCond .eq 23, 3) := by decide +kernel
theorem d5_6 : decode jdk_42_method_139_code 6 = .ok (.iload_n 0, 1) := by decide +kernel
theorem d5_7 : decode jdk_42_method_139_code 7 = .ok (.invokestatic 1015, 3) := by decide +kernel
theorem d5_10 : decode jdk_42_method_139_code 10 = .ok (.ifCond .eq 16, 3) := by decide +kernel
theorem d5_13 : decode jdk_42_method_139_code 13 = .ok (.new 10, 3) := by decide +kernel
theorem d5_16 : decode jdk_42_method_139_code 16 = .ok (.dup, 1) := by decide +kernel
theorem d5_17 : decode jdk_42_method_139_code 17 = .ok (.iload_n 0, 1) := by decide +kernel
theorem d5_18 : decode jdk_42_method_139_code 18 = .ok (.invokestatic 1018, 3) := by decide +kernel
theorem d5_21 : decode jdk_42_method_139_code 21 = .ok (.iconst 0, 1) := by decide +kernel
theorem d5_22 : decode jdk_42_method_139_code 22 = .ok (.invokespecial 209, 3) := by decide +kernel
theorem d5_25 : decode jdk_42_method_139_code 25 = .ok (.areturn, 1) := by decide +kernel
theorem d5_26 : decode jdk_42_method_139_code 26 = .ok (.new 10, 3) := by decide +kernel
theorem d5_29 : decode jdk_42_method_139_code 29 = .ok (.dup, 1) := by decide +kernel
theorem d5_30 : decode jdk_42_method_139_code 30 = .ok (.iload_n 0, 1) := by decide +kernel
theorem d5_31 : decode jdk_42_method_139_code 31 = .ok (.invokestatic 1021, 3) := by decide +kernel
theorem d5_34 : decode jdk_42_method_139_code 34 = .ok (.iconst 1, 1) := by decide +kernel
theorem d5_35 : decode jdk_42_method_139_code 35 = .ok (.invokespecial 209, 3) := by decide +kernel
theorem d5_38 : decode jdk_42_method_139_code 38 = .ok (.areturn, 1) := by decide +kernel
theorem pn_5 : plainFor (⟨"java/lang/String", "valueOf", "(C)Ljava/lang/String;"⟩ : MethodName) = true := by first | (refine plainFor_of_name ?_; simp [plainName, overriddenIn]; done) | decide +kernel
theorem pd_5 : parseMethodDescriptor "(C)Ljava/lang/String;" = some ⟨[.char], some (.object "java/lang/String")⟩ := by decide +kernel
theorem ef_5 (m : MethodId) (c1 : Int32) : entryFrame m #[(.int c1)] 1 = mkF m 0 #[.val (.int c1)] [] := by first | (simp [entryFrame, mkF, argsToLocals, Value.category]; done) | rfl
def Q_5 (Z : State) (c1 : Int32) (h0 : Heap) (n0 : Nat) (v : Option Value) (h : Heap) (L : List Loc) : Prop := ∃ sx : Addr, v = some (.ref sx) ∧ Fr n0 L ∧ Keep h0 h [] ∧ own_StrV Z h sx [own_bt c1] ∧ Array.size h0 ≤ sx
set_option maxRecDepth 65536 in
set_option maxHeartbeats 40000000 in
theorem rm_5 (l : Launch) (Z : State) (a0 : Array Value) (hw : ∀ d ∈ tables_1, d.before a0 Z = true) (ws : List Jvm.Cond) (c1 : Int32) (h0 : Heap) (n0 : Nat) (Z0 : n0 ≤ h0.size) (hc : ¬ (255 : Int32) < c1) (CS : own_CS Z h0) :
    MetFree l (⟨"java/lang/String", "valueOf", "(C)Ljava/lang/String;"⟩ : MethodName) (head1 (Jvm.Cond.code (⟨"java/lang/String", "valueOf", "(C)Ljava/lang/String;"⟩ : MethodName) jdk_42_method_139_code 1 (some (.object "java/lang/String")) :: ws) ({ frames := 2, cells := 2, slots := 5, locals := 40 } : Room)) (fun a U => a = #[(.int c1)] ∧ Z.Warmed39 U.vm ∧ U.heap = h0) (fun _ _ _ _ _ => True) (fun _ U o U' => ∃ v L, o = .returned v ∧ (Q_5 Z c1 h0 n0) v U'.heap L ∧ FrameEnd U o U' L ({ frames := 2, cells := 2, slots := 5, locals := 40 } : Room).cells ({ frames := 2, cells := 2, slots := 5, locals := 40 } : Room).slots) := by
  refine MetFree.of_bodySF pn_5 hisR ?_
  intro p e s m args below meth c s₁ Bd hml0 hP hK
  obtain ⟨rfl, hZ, hh⟩ := hP
  have hx := Bd.exec
  have hby := Bd.bytes
  have hlk : meth.locks = false := BodyLoose.notSynchronized Bd
  have hml : c.maxLocals = 1 := hml0
  have hown : s.vm.findClass "java/lang/String" = some m.cls := findClass_of_methodNamed Bd.named
  have hnm := (name_of_methodNamed Bd.named Bd.method).1
  have X0 : Stand p l e ({ frames := 2, cells := 2, slots := 5, locals := 40 } : Room) s m #[(.int c1)] below meth c s₁ [] 0 0 := Stand.of_body Bd
  have e0 : s₁.heap = h0 := by rw [← hh, Bd.state]; rfl
  have N0 := Fr.nil n0
  refine own_enter (Q := (Q_5 Z c1 h0 n0)) (cs := 2) (ss := 5) (ef_5 m c1) ?_
  show Goes p e below (EndN s 2 5 (Q_5 Z c1 h0 n0)) s₁ (mkF m 0 #[.val (.int c1)] [])
  obtain ⟨zs, hzs, Sz⟩ := CS
  obtain ⟨T107, X107, e107, st107⟩ := getS (host := "") X0 hx hZ hown (hw _ (List.mem_of_getElem? (i := 39) rfl)) Via.refl e0 Sz (g := (mkF m 0 #[.val (.int c1)] [])) rfl (hb hby d5_0)
  refine Goes.pre st107 ?_
  show Goes p e below (EndN s 2 5 (Q_5 Z c1 h0 n0)) T107 (mkF m 3 #[.val (.int c1)] [(.int zs)])
  refine own_ifN (pc' := 6) X107 hx (hb hby d5_3) ((if0 _ _).trans (feq hzs).1) rfl ?_
  refine own_iloadN (pc' := 7) X107 hx (hb hby d5_6) rfl rfl ?_
  obtain ⟨_, _, ⟨T108, L108, k108, n108⟩, -, X108, ⟨Lc108, hQ108, l108, y108, z108⟩, st108⟩ := Jvm.LawKit.callS X107 hx (y := (⟨"java/lang/StringLatin1", "canEncode", "(C)Z"⟩ : MethodName)) hown (mvT hZ (hw _ (List.mem_of_getElem? (i := 40) rfl))) (mvT hZ (hw _ (List.mem_of_getElem? (i := 41) rfl))) (mvT hZ (hw _ (List.mem_of_getElem? (i := 42) rfl))) (mvT hZ (hw _ (List.mem_of_getElem? (i := 43) rfl))) (by decide) (backOf (W := 0) (rm_2 l Z a0 hw [] c1 h0 n0 Z0 hc) hZ (hw _ (List.mem_of_getElem? (i := 43) rfl)) (hw _ (List.mem_of_getElem? (i := 42) rfl)) (by decide) (by decide)) (g := (mkF m 7 #[.val (.int c1)] [(.int c1)])) rfl (by rw [hml]; rfl) (argsL := [(.int c1)]) (rest := []) (lenOf pd_2 rfl) rfl (by show 2 * 0 + _ ≤ _; exact Nat.le_of_eq rfl) (hb hby d5_7) (fun _ _ => ⟨rfl, e107, (by decide : 0 + 0 ≤ _), (by decide : 0 + 0 ≤ _)⟩)
  dsimp only [Pt.U, Pt.locs, Pt.cells, Pt.slots] at X108 l108 y108 z108 st108 hQ108
  subst l108 y108 z108
  obtain ⟨rfl, M108, ece⟩ := hQ108
  have N108 := Fr.app N0 M108
  refine Goes.pre st108 ?_
  show Goes p e below (EndN s 2 5 (Q_5 Z c1 h0 n0)) T108 (mkF m 10 #[.val (.int c1)] [(.int (1 : Int32))])
  refine own_ifN (pc' := 13) X108 hx (hb hby d5_10) (by decide) rfl ?_
  obtain ⟨T109, h109, X109, e109, E109, A109, D109, -, st109⟩ := newO X108 hx hZ hown (hw _ (List.mem_of_getElem? (i := 44) rfl)) (hw _ (List.mem_of_getElem? (i := 45) rfl)) (hw _ (List.mem_of_getElem? (i := 37) rfl)) ece (g := (mkF m 13 #[.val (.int c1)] [])) rfl (hb hby d5_13) (by decide) (by decide)
  obtain ⟨a109, g109⟩ : ∃ z, z = Array.size (h0) := ⟨_, rfl⟩
  rw [← g109] at A109 D109 st109
  refine Goes.pre st109 ?_
  show Goes p e below (EndN s 2 5 (Q_5 Z c1 h0 n0)) T109 (mkF m 16 #[.val (.int c1)] [(.ref a109)])
  have F109_value : Fld Z h109 a109 "java/lang/String" "value" "[B" .null := D109 (Or.inr (hw _ (List.mem_of_getElem? (i := 56) rfl))) (ty := (.array .byte)) (by decide)
  have F109_coder : Fld Z h109 a109 "java/lang/String" "coder" "B" (.int (0 : Int32)) := D109 (Or.inr (hw _ (List.mem_of_getElem? (i := 58) rfl))) (ty := .byte) (by decide)
  have Z109 : n0 ≤ Array.size h109 := Nat.le_trans Z0 E109.1
  refine own_dup (pc' := 17) X109 hx (hb hby d5_16) rfl rfl ?_
  refine own_iloadN (pc' := 18) X109 hx (hb hby d5_17) rfl rfl ?_
  obtain ⟨_, _, ⟨T110, L110, k110, n110⟩, -, X110, ⟨Lc110, hQ110, l110, y110, z110⟩, st110⟩ := Jvm.LawKit.callS X109 hx (y := (⟨"java/lang/StringLatin1", "toBytes", "(C)[B"⟩ : MethodName)) hown (mvT hZ (hw _ (List.mem_of_getElem? (i := 46) rfl))) (mvT hZ (hw _ (List.mem_of_getElem? (i := 47) rfl))) (mvT hZ (hw _ (List.mem_of_getElem? (i := 42) rfl))) (mvT hZ (hw _ (List.mem_of_getElem? (i := 48) rfl))) (by decide) (backOf (W := 2) (rm_3 l Z a0 hw [] c1 h109 n0 Z109) hZ (hw _ (List.mem_of_getElem? (i := 48) rfl)) (hw _ (List.mem_of_getElem? (i := 42) rfl)) (by decide) (by decide)) (g := (mkF m 18 #[.val (.int c1)] [(.int c1), (.ref a109), (.ref a109)])) rfl (by rw [hml]; rfl) (argsL := [(.int c1)]) (rest := [(.ref a109), (.ref a109)]) (lenOf pd_3 rfl) rfl (by show 2 * 0 + _ ≤ _; exact Nat.le_of_eq rfl) (hb hby d5_18) (fun _ _ => ⟨rfl, e109, (by decide : 1 + 1 ≤ _), (by decide : 4 + 1 ≤ _)⟩)
  dsimp only [Pt.U, Pt.locs, Pt.cells, Pt.slots] at X110 l110 y110 z110 st110 hQ110
  subst l110 y110 z110
  obtain ⟨b110, rfl, M110, K110, P110, g110⟩ := hQ110
  have N110 := Fr.app N108 M110
  refine Goes.pre st110 ?_
  show Goes p e below (EndN s 2 5 (Q_5 Z c1 h0 n0)) T110 (mkF m 21 #[.val (.int c1)] [(.ref b110), (.ref a109), (.ref a109)])
  have F110_value := F109_value.keep K110 nin0
  have F110_coder := F109_coder.keep K110 nin0
  have A110 := A109.keep K110
  have Z110 : n0 ≤ Array.size T110.heap := Nat.le_trans Z109 K110.1
  have ga110 : n0 ≤ a109 := Nat.le_trans Z0 (Nat.le_of_eq g109.symm)
  refine own_iconst (pc' := 22) X110 hx (hb hby d5_21) (v := (0 : Int32)) rfl rfl ?_
  obtain ⟨_, _, ⟨T111, L111, k111, n111⟩, -, X111, ⟨Lc111, hQ111, l111, y111, z111⟩, st111⟩ := X110.specialBack hx (y := (⟨"java/lang/String", "<init>", "([BB)V"⟩ : MethodName)) rfl hown (mvT hZ (hw _ (List.mem_of_getElem? (i := 50) rfl))) (mvT hZ (hw _ (List.mem_of_getElem? (i := 51) rfl))) (mvT hZ (hw _ (List.mem_of_getElem? (i := 53) rfl))) (by decide) (backOf (W := 1) (rm_4 l Z a0 hw [] a109 b110 T110.heap n0 Z110 F110_value F110_coder A110 ga110) hZ (hw _ (List.mem_of_getElem? (i := 53) rfl)) (hw _ (List.mem_of_getElem? (i := 37) rfl)) (by decide) (by decide)) (g := (mkF m 22 #[.val (.int c1)] [(.int (0 : Int32)), (.ref b110), (.ref a109), (.ref a109)])) rfl (by rw [hml]; rfl) (Steps.refl _) (a := a109) (argsL := [(.ref b110), (.int (0 : Int32))]) (rest := [(.ref a109)]) (lenOf pd_4 rfl) rfl (by show 2 * 0 + _ ≤ _; exact Nat.le_of_eq rfl) (hb hby d5_22) (fun _ _ => ⟨rfl, rfl, (by decide : 2 + 0 ≤ _), (by decide : 5 + 0 ≤ _)⟩)
  dsimp only [Pt.U, Pt.locs, Pt.cells, Pt.slots] at X111 l111 y111 z111 st111 hQ111
  subst l111 y111 z111
  obtain ⟨rfl, M111, K111, E111, FV111, FC111⟩ := hQ111
  have N111 := Fr.app N110 M111
  refine Goes.aft st111 ?_
  show Goes p e below (EndN s 2 5 (Q_5 Z c1 h0 n0)) T111 (mkF m 25 #[.val (.int c1)] [(.ref a109)])
  have neb : b110 ≠ a109 := fun q => absurd (Nat.lt_of_lt_of_le A109.lt (q ▸ g110)) (Nat.lt_irrefl _)
  have Pb := P110.keep K111 (ninS neb nin0)
  have K5 : Keep h0 T111.heap [] := (((Keep.refl h0 []).ext E109).trans K110 (fun x q => nomatch q)).trans K111 (allS (Or.inr (Nat.le_of_eq g109.symm)) all0)
  exact own_retA X111 hx hlk Bd.returns rfl rfl rfl (hb hby d5_25) (by decide) (by decide) ⟨a109, rfl, N111, K5, ⟨E111, FC111, b110, FV111, Pb⟩, Nat.le_of_eq g109.symm⟩
theorem d19_0 : decode jdk_43_method_13_code 0 = .ok (.aload_n 0, 1) := by decide +kernel
theorem d19_1 : decode jdk_43_method_13_code 1 = .ok (.arraylength, 1) := by decide +kernel
theorem d19_2 : decode jdk_43_method_13_code 2 = .ok (.aload_n 1, 1) := by decide +kernel
theorem d19_3 : decode jdk_43_method_13_code 3 = .ok (.arraylength, 1) := by decide +kernel
theorem d19_4 : decode jdk_43_method_13_code 4 = .ok (.if_icmp .ne 30, 3) := by decide +kernel
theorem d19_7 : decode jdk_43_method_13_code 7 = .ok (.iconst 0, 1) := by decide +kernel
theorem d19_8 : decode jdk_43_method_13_code 8 = .ok (.istore_n 2, 1) := by decide +kernel
theorem d19_9 : decode jdk_43_method_13_code 9 = .ok (.iload_n 2, 1) := by decide +kernel
theorem d19_10 : decode jdk_43_method_13_code 10 = .ok (.aload_n 0, 1) := by decide +kernel
theorem d19_11 : decode jdk_43_method_13_code 11 = .ok (.arraylength, 1) := by decide +kernel
theorem d19_12 : decode jdk_43_method_13_code 12 = .ok (.if_icmp .ge 20, 3) := by decide +kernel
theorem d19_15 : decode jdk_43_method_13_code 15 = .ok (.aload_n 0, 1) := by decide +kernel
theorem d19_16 : decode jdk_43_method_13_code 16 = .ok (.iload_n 2, 1) := by decide +kernel
theorem d19_17 : decode jdk_43_method_13_code 17 = .ok (.baload, 1) := by decide +kernel
theorem d19_18 : decode jdk_43_method_13_code 18 = .ok (.aload_n 1, 1) := by decide +kernel
theorem d19_19 : decode jdk_43_method_13_code 19 = .ok (.iload_n 2, 1) := by decide +kernel
theorem d19_20 : decode jdk_43_method_13_code 20 = .ok (.baload, 1) := by decide +kernel
theorem d19_21 : decode jdk_43_method_13_code 21 = .ok (.if_icmp .eq 5, 3) := by decide +kernel
theorem d19_24 : decode jdk_43_method_13_code 24 = .ok (.iconst 0, 1) := by decide +kernel
theorem d19_25 : decode jdk_43_method_13_code 25 = .ok (.ireturn, 1) := by decide +kernel
theorem d19_26 : decode jdk_43_method_13_code 26 = .ok (.iinc 2 1, 3) := by decide +kernel
theorem d19_29 : decode jdk_43_method_13_code 29 = .ok (.goto (-20), 3) := by decide +kernel
theorem d19_32 : decode jdk_43_method_13_code 32 = .ok (.iconst 1, 1) := by decide +kernel
theorem d19_33 : decode jdk_43_method_13_code 33 = .ok (.ireturn, 1) := by decide +kernel
theorem d19_34 : decode jdk_43_method_13_code 34 = .ok (.iconst 0, 1) := by decide +kernel
theorem d19_35 : decode jdk_43_method_13_code 35 = .ok (.ireturn, 1) := by decide +kernel
theorem pn_6 : plainFor (⟨"java/lang/StringLatin1", "equals", "([B[B)Z"⟩ : MethodName) = true := by first | (refine plainFor_of_name ?_; simp [plainName, overriddenIn]; done) | decide +kernel
theorem pd_6 : parseMethodDescriptor "([B[B)Z" = some ⟨[(.array .byte), (.array .byte)], some .boolean⟩ := by decide +kernel
theorem ef_6 (m : MethodId) (b1 : Addr) (b2 : Addr) (x1 : Int32) : entryFrame m #[(.ref b1), (.ref b2)] 3 = mkF m 0 #[.val (.ref b1), .val (.ref b2), .unset] [] := by first | (simp [entryFrame, mkF, argsToLocals, Value.category]; done) | rfl
def Q_6 (Z : State) (b1 : Addr) (b2 : Addr) (x1 : Int32) (h0 : Heap) (n0 : Nat) (v : Option Value) (h : Heap) (L : List Loc) : Prop := v = some (.int (1 : Int32)) ∧ Fr n0 L ∧ h = h0
set_option maxRecDepth 65536 in
set_option maxHeartbeats 40000000 in
theorem rm_6 (l : Launch) (Z : State) (a0 : Array Value) (hw : ∀ d ∈ tables_1, d.before a0 Z = true) (ws : List Jvm.Cond) (b1 : Addr) (b2 : Addr) (x1 : Int32) (h0 : Heap) (n0 : Nat) (Z0 : n0 ≤ h0.size) (P1 : own_PA Z h0 b1 .byte [x1]) (P2 : own_PA Z h0 b2 .byte [x1]) :
    MetFree l (⟨"java/lang/StringLatin1", "equals", "([B[B)Z"⟩ : MethodName) (head1 (Jvm.Cond.code (⟨"java/lang/StringLatin1", "equals", "([B[B)Z"⟩ : MethodName) jdk_43_method_13_code 3 (some .boolean) :: ws) ({ frames := 0, cells := 0, slots := 0, locals := 0 } : Room)) (fun a U => a = #[(.ref b1), (.ref b2)] ∧ Z.Warmed39 U.vm ∧ U.heap = h0) (fun _ _ _ _ _ => True) (fun _ U o U' => ∃ v L, o = .returned v ∧ (Q_6 Z b1 b2 x1 h0 n0) v U'.heap L ∧ FrameEnd U o U' L ({ frames := 0, cells := 0, slots := 0, locals := 0 } : Room).cells ({ frames := 0, cells := 0, slots := 0, locals := 0 } : Room).slots) := by
  refine MetFree.of_bodySF pn_6 hisR ?_
  intro p e s m args below meth c s₁ Bd hml0 hP hK
  obtain ⟨rfl, hZ, hh⟩ := hP
  have hx := Bd.exec
  have hby := Bd.bytes
  have hlk : meth.locks = false := BodyLoose.notSynchronized Bd
  have hml : c.maxLocals = 3 := hml0
  have hown : s.vm.findClass "java/lang/StringLatin1" = some m.cls := findClass_of_methodNamed Bd.named
  have hnm := (name_of_methodNamed Bd.named Bd.method).1
  have X0 : Stand p l e ({ frames := 0, cells := 0, slots := 0, locals := 0 } : Room) s m #[(.ref b1), (.ref b2)] below meth c s₁ [] 0 0 := Stand.of_body Bd
  have e0 : s₁.heap = h0 := by rw [← hh, Bd.state]; rfl
  have N0 := Fr.nil n0
  refine own_enter (Q := (Q_6 Z b1 b2 x1 h0 n0)) (cs := 0) (ss := 0) (ef_6 m b1 b2 x1) ?_
  show Goes p e below (EndN s 0 0 (Q_6 Z b1 b2 x1 h0 n0)) s₁ (mkF m 0 #[.val (.ref b1), .val (.ref b2), .unset] [])
  refine own_aloadN (pc' := 1) X0 hx (hb hby d19_0) rfl rfl rfl ?_
  refine own_arraylength (pc' := 2) X0 hx hZ e0 P1 (hb hby d19_1) (n := (1 : Int32)) rfl rfl ?_
  refine own_aloadN (pc' := 3) X0 hx (hb hby d19_2) rfl rfl rfl ?_
  refine own_arraylength (pc' := 4) X0 hx hZ e0 P2 (hb hby d19_3) (n := (1 : Int32)) rfl rfl ?_
  refine own_icmpN (pc' := 7) X0 hx (hb hby d19_4) (by decide) rfl ?_
  refine own_iconst (pc' := 8) X0 hx (hb hby d19_7) (v := (0 : Int32)) rfl rfl ?_
  refine own_istoreN (pc' := 9) X0 hx (hb hby d19_8) (Ls' := #[.val (.ref b1), .val (.ref b2), .val (.int (0 : Int32))]) rfl rfl ?_
  refine own_iloadN (pc' := 10) X0 hx (hb hby d19_9) rfl rfl ?_
  refine own_aloadN (pc' := 11) X0 hx (hb hby d19_10) rfl rfl rfl ?_
  refine own_arraylength (pc' := 12) X0 hx hZ e0 P1 (hb hby d19_11) (n := (1 : Int32)) rfl rfl ?_
  refine own_icmpN (pc' := 15) X0 hx (hb hby d19_12) (by decide) rfl ?_
  refine own_aloadN (pc' := 16) X0 hx (hb hby d19_15) rfl rfl rfl ?_
  refine own_iloadN (pc' := 17) X0 hx (hb hby d19_16) rfl rfl ?_
  refine own_baload (pc' := 18) X0 hx hZ e0 P1 (hb hby d19_17) (v := x1) (by decide) (k := 0) (by decide) rfl rfl ?_
  refine own_aloadN (pc' := 19) X0 hx (hb hby d19_18) rfl rfl rfl ?_
  refine own_iloadN (pc' := 20) X0 hx (hb hby d19_19) rfl rfl ?_
  refine own_baload (pc' := 21) X0 hx hZ e0 P2 (hb hby d19_20) (v := x1) (by decide) (k := 0) (by decide) rfl rfl ?_
  refine own_icmpY X0 hx (hb hby d19_21) (teq rfl).1 (by decide) (pc' := 26) (by decide) ?_
  refine own_iinc (pc' := 29) X0 hx (hb hby d19_26) rfl (y := (1 : Int32)) (by decide) (Ls' := #[.val (.ref b1), .val (.ref b2), .val (.int (1 : Int32))]) rfl rfl ?_
  refine own_goto X0 hx (hb hby d19_29) (by decide) (pc' := 9) (by decide) ?_
  refine own_iloadN (pc' := 10) X0 hx (hb hby d19_9) rfl rfl ?_
  refine own_aloadN (pc' := 11) X0 hx (hb hby d19_10) rfl rfl rfl ?_
  refine own_arraylength (pc' := 12) X0 hx hZ e0 P1 (hb hby d19_11) (n := (1 : Int32)) rfl rfl ?_
  refine own_icmpY X0 hx (hb hby d19_12) (by decide) (by decide) (pc' := 32) (by decide) ?_
  refine own_iconst (pc' := 33) X0 hx (hb hby d19_32) (v := (1 : Int32)) rfl rfl ?_
  exact own_retN X0 hx hlk (t := .boolean) Bd.returns (by simp) (hb hby d19_33) (by decide) (by decide) ⟨rfl, N0, e0⟩
theorem d18_0 : decode jdk_42_method_66_code 0 = .ok (.aload_n 0, 1) := by decide +kernel
theorem d18_1 : decode jdk_42_method_66_code 1 = .ok (.aload_n 1, 1) := by decide +kernel
theorem d18_2 : decode jdk_42_method_66_code 2 = .ok (.if_acmp .ne 5, 3) := by decide +kernel
theorem d18_5 : decode jdk_42_method_66_code 5 = .ok (.iconst 1, 1) := by decide +kernel
theorem d18_6 : decode jdk_42_method_66_code 6 = .ok (.ireturn, 1) := by decide +kernel
theorem d18_7 : decode jdk_42_method_66_code 7 = .ok (.aload_n 1, 1) := by decide +kernel
theorem d18_8 : decode jdk_42_method_66_code 8 = .ok (.instanceof 10, 3) := by decide +kernel
theorem d18_11 : decode jdk_42_method_66_code 11 = .ok (.ifCond .eq 43, 3) := by decide +kernel
theorem d18_14 : decode jdk_42_method_66_code 14 = .ok (.aload_n 1, 1) := by decide +kernel
theorem d18_15 : decode jdk_42_method_66_code 15 = .ok (.checkcast 10, 3) := by decide +kernel
theorem d18_18 : decode jdk_42_method_66_code 18 = .ok (.astore_n 2, 1) := by decide +kernel
theorem d18_19 : decode jdk_42_method_66_code 19 = .ok (.getstatic 38, 3) := by decide +kernel
theorem d18_22 : decode jdk_42_method_66_code 22 = .ok (.ifCond .eq 14, 3) := by decide +kernel
theorem d18_25 : decode jdk_42_method_66_code 25 = .ok (.aload_n 0, 1) := by decide +kernel
theorem d18_26 : decode jdk_42_method_66_code 26 = .ok (.getfield 15, 3) := by decide +kernel
theorem d18_29 : decode jdk_42_method_66_code 29 = .ok (.aload_n 2, 1) := by decide +kernel
theorem d18_30 : decode jdk_42_method_66_code 30 = .ok (.getfield 15, 3) := by decide +kernel
theorem d18_33 : decode jdk_42_method_66_code 33 = .ok (.if_icmp .ne 21, 3) := by decide +kernel
theorem d18_36 : decode jdk_42_method_66_code 36 = .ok (.aload_n 0, 1) := by decide +kernel
theorem d18_37 : decode jdk_42_method_66_code 37 = .ok (.getfield 9, 3) := by decide +kernel
theorem d18_40 : decode jdk_42_method_66_code 40 = .ok (.aload_n 2, 1) := by decide +kernel
theorem d18_41 : decode jdk_42_method_66_code 41 = .ok (.getfield 9, 3) := by decide +kernel
theorem d18_44 : decode jdk_42_method_66_code 44 = .ok (.invokestatic 541, 3) := by decide +kernel
theorem d18_47 : decode jdk_42_method_66_code 47 = .ok (.ifCond .eq 7, 3) := by decide +kernel
theorem d18_50 : decode jdk_42_method_66_code 50 = .ok (.iconst 1, 1) := by decide +kernel
theorem d18_51 : decode jdk_42_method_66_code 51 = .ok (.goto 4, 3) := by decide +kernel
theorem d18_54 : decode jdk_42_method_66_code 54 = .ok (.iconst 0, 1) := by decide +kernel
theorem d18_55 : decode jdk_42_method_66_code 55 = .ok (.ireturn, 1) := by decide +kernel
theorem pn_7 : plainFor (⟨"java/lang/String", "equals", "(Ljava/lang/Object;)Z"⟩ : MethodName) = true := by first | (refine plainFor_of_name ?_; simp [plainName, overriddenIn]; done) | decide +kernel
theorem pd_7 : parseMethodDescriptor "(Ljava/lang/Object;)Z" = some ⟨[(.object "java/lang/Object")], some .boolean⟩ := by decide +kernel
theorem ef_7 (m : MethodId) (a1 : Addr) (a2 : Addr) (x1 : Int32) : entryFrame m #[(.ref a1), (.ref a2)] 3 = mkF m 0 #[.val (.ref a1), .val (.ref a2), .unset] [] := by first | (simp [entryFrame, mkF, argsToLocals, Value.category]; done) | rfl
def Q_7 (Z : State) (a1 : Addr) (a2 : Addr) (x1 : Int32) (h0 : Heap) (n0 : Nat) (v : Option Value) (h : Heap) (L : List Loc) : Prop := v = some (.int (1 : Int32)) ∧ Fr n0 L ∧ h = h0
set_option maxRecDepth 65536 in
set_option maxHeartbeats 40000000 in
theorem rm_7 (l : Launch) (Z : State) (a0 : Array Value) (hw : ∀ d ∈ tables_1, d.before a0 Z = true) (ws : List Jvm.Cond) (a1 : Addr) (a2 : Addr) (x1 : Int32) (h0 : Heap) (n0 : Nat) (Z0 : n0 ≤ h0.size) (S1 : own_StrV Z h0 a1 [x1]) (S2 : own_StrV Z h0 a2 [x1]) (CS : own_CS Z h0) :
    MetFree l (⟨"java/lang/String", "equals", "(Ljava/lang/Object;)Z"⟩ : MethodName) (head1 (Jvm.Cond.code (⟨"java/lang/String", "equals", "(Ljava/lang/Object;)Z"⟩ : MethodName) jdk_42_method_66_code 3 (some .boolean) :: ws) ({ frames := 1, cells := 0, slots := 0, locals := 14 } : Room)) (fun a U => a = #[(.ref a1), (.ref a2)] ∧ Z.Warmed39 U.vm ∧ U.heap = h0) (fun _ _ _ _ _ => True) (fun _ U o U' => ∃ v L, o = .returned v ∧ (Q_7 Z a1 a2 x1 h0 n0) v U'.heap L ∧ FrameEnd U o U' L ({ frames := 1, cells := 0, slots := 0, locals := 14 } : Room).cells ({ frames := 1, cells := 0, slots := 0, locals := 14 } : Room).slots) := by
  refine MetFree.of_bodySF pn_7 hisR ?_
  intro p e s m args below meth c s₁ Bd hml0 hP hK
  obtain ⟨rfl, hZ, hh⟩ := hP
  have hx := Bd.exec
  have hby := Bd.bytes
  have hlk : meth.locks = false := BodyLoose.notSynchronized Bd
  have hml : c.maxLocals = 3 := hml0
  have hown : s.vm.findClass "java/lang/String" = some m.cls := findClass_of_methodNamed Bd.named
  have hnm := (name_of_methodNamed Bd.named Bd.method).1
  have X0 : Stand p l e ({ frames := 1, cells := 0, slots := 0, locals := 14 } : Room) s m #[(.ref a1), (.ref a2)] below meth c s₁ [] 0 0 := Stand.of_body Bd
  have e0 : s₁.heap = h0 := by rw [← hh, Bd.state]; rfl
  have N0 := Fr.nil n0
  refine own_enter (Q := (Q_7 Z a1 a2 x1 h0 n0)) (cs := 0) (ss := 0) (ef_7 m a1 a2 x1) ?_
  show Goes p e below (EndN s 0 0 (Q_7 Z a1 a2 x1 h0 n0)) s₁ (mkF m 0 #[.val (.ref a1), .val (.ref a2), .unset] [])
  obtain ⟨F1a, F1b, y1, F1c, F1d⟩ := S1
  obtain ⟨F2a, F2b, y2, F2c, F2d⟩ := S2
  refine own_aloadN (pc' := 1) X0 hx (hb hby d18_0) rfl rfl rfl ?_
  refine own_aloadN (pc' := 2) X0 hx (hb hby d18_1) rfl rfl rfl ?_
  by_cases ha : a1 = a2
  · refine own_acmpN (pc' := 5) X0 hx (hb hby d18_2) (by simp [if_acmp.holds, ha]) rfl ?_
    refine own_iconst (pc' := 6) X0 hx (hb hby d18_5) (v := (1 : Int32)) rfl rfl ?_
    exact own_retN X0 hx hlk (t := .boolean) Bd.returns (by simp) (hb hby d18_6) (by decide) (by decide) ⟨rfl, N0, e0⟩
  · refine own_acmpY X0 hx (hb hby d18_2) (by simp [if_acmp.holds, ha]) (by decide) (pc' := 7) (by decide) ?_
    refine own_aloadN (pc' := 8) X0 hx (hb hby d18_7) rfl rfl rfl ?_
    obtain ⟨T112, X112, e112, st112⟩ := instY X0 hx hZ hown (hw _ (List.mem_of_getElem? (i := 44) rfl)) e0 (Ins.self F2a) (g := (mkF m 8 #[.val (.ref a1), .val (.ref a2), .unset] [(.ref a2)])) rfl rfl (hb hby d18_8)
    refine Goes.pre st112 ?_
    show Goes p e below (EndN s 0 0 (Q_7 Z a1 a2 x1 h0 n0)) T112 (mkF m 11 #[.val (.ref a1), .val (.ref a2), .unset] [(.int (1 : Int32))])
    refine own_ifN (pc' := 14) X112 hx (hb hby d18_11) (by decide) rfl ?_
    refine own_aloadN (pc' := 15) X112 hx (hb hby d18_14) rfl rfl rfl ?_
    obtain ⟨T113, X113, e113, st113⟩ := castY X112 hx hZ hown (hw _ (List.mem_of_getElem? (i := 44) rfl)) e112 (Ins.self F2a) (g := (mkF m 15 #[.val (.ref a1), .val (.ref a2), .unset] [(.ref a2)])) rfl rfl (hb hby d18_15)
    refine Goes.pre st113 ?_
    show Goes p e below (EndN s 0 0 (Q_7 Z a1 a2 x1 h0 n0)) T113 (mkF m 18 #[.val (.ref a1), .val (.ref a2), .unset] [(.ref a2)])
    refine own_astoreN (pc' := 19) X113 hx (hb hby d18_18) rfl (Ls' := #[.val (.ref a1), .val (.ref a2), .val (.ref a2)]) rfl rfl ?_
    obtain ⟨zs, hzs, Sz⟩ := CS
    obtain ⟨T114, X114, e114, st114⟩ := getS (host := "") X113 hx hZ hown (hw _ (List.mem_of_getElem? (i := 39) rfl)) Via.refl e113 Sz (g := (mkF m 19 #[.val (.ref a1), .val (.ref a2), .val (.ref a2)] [])) rfl (hb hby d18_19)
    refine Goes.pre st114 ?_
    show Goes p e below (EndN s 0 0 (Q_7 Z a1 a2 x1 h0 n0)) T114 (mkF m 22 #[.val (.ref a1), .val (.ref a2), .val (.ref a2)] [(.int zs)])
    refine own_ifN (pc' := 25) X114 hx (hb hby d18_22) ((if0 _ _).trans (feq hzs).1) rfl ?_
    refine own_aloadN (pc' := 26) X114 hx (hb hby d18_25) rfl rfl rfl ?_
    obtain ⟨T115, X115, e115, st115⟩ := getF X114 hx hZ hown (host := "") (Or.inl (hw _ (List.mem_of_getElem? (i := 57) rfl))) Via.refl e114 F1b (g := (mkF m 26 #[.val (.ref a1), .val (.ref a2), .val (.ref a2)] [(.ref a1)])) rfl rfl (hb hby d18_26)
    refine Goes.pre st115 ?_
    show Goes p e below (EndN s 0 0 (Q_7 Z a1 a2 x1 h0 n0)) T115 (mkF m 29 #[.val (.ref a1), .val (.ref a2), .val (.ref a2)] [(.int (0 : Int32))])
    refine own_aloadN (pc' := 30) X115 hx (hb hby d18_29) rfl rfl rfl ?_
    obtain ⟨T116, X116, e116, st116⟩ := getF X115 hx hZ hown (host := "") (Or.inl (hw _ (List.mem_of_getElem? (i := 57) rfl))) Via.refl e115 F2b (g := (mkF m 30 #[.val (.ref a1), .val (.ref a2), .val (.ref a2)] [(.ref a2), (.int (0 : Int32))])) rfl rfl (hb hby d18_30)
    refine Goes.pre st116 ?_
    show Goes p e below (EndN s 0 0 (Q_7 Z a1 a2 x1 h0 n0)) T116 (mkF m 33 #[.val (.ref a1), .val (.ref a2), .val (.ref a2)] [(.int (0 : Int32)), (.int (0 : Int32))])
    refine own_icmpN (pc' := 36) X116 hx (hb hby d18_33) (by decide) rfl ?_
    refine own_aloadN (pc' := 37) X116 hx (hb hby d18_36) rfl rfl rfl ?_
    obtain ⟨T117, X117, e117, st117⟩ := getF X116 hx hZ hown (host := "") (Or.inl (hw _ (List.mem_of_getElem? (i := 55) rfl))) Via.refl e116 F1c (g := (mkF m 37 #[.val (.ref a1), .val (.ref a2), .val (.ref a2)] [(.ref a1)])) rfl rfl (hb hby d18_37)
    refine Goes.pre st117 ?_
    show Goes p e below (EndN s 0 0 (Q_7 Z a1 a2 x1 h0 n0)) T117 (mkF m 40 #[.val (.ref a1), .val (.ref a2), .val (.ref a2)] [(.ref y1)])
    refine own_aloadN (pc' := 41) X117 hx (hb hby d18_40) rfl rfl rfl ?_
    obtain ⟨T118, X118, e118, st118⟩ := getF X117 hx hZ hown (host := "") (Or.inl (hw _ (List.mem_of_getElem? (i := 55) rfl))) Via.refl e117 F2c (g := (mkF m 41 #[.val (.ref a1), .val (.ref a2), .val (.ref a2)] [(.ref a2), (.ref y1)])) rfl rfl (hb hby d18_41)
    refine Goes.pre st118 ?_
    show Goes p e below (EndN s 0 0 (Q_7 Z a1 a2 x1 h0 n0)) T118 (mkF m 44 #[.val (.ref a1), .val (.ref a2), .val (.ref a2)] [(.ref y2), (.ref y1)])
    obtain ⟨_, _, ⟨T119, L119, k119, n119⟩, -, X119, ⟨Lc119, hQ119, l119, y119, z119⟩, st119⟩ := Jvm.LawKit.callS X118 hx (y := (⟨"java/lang/StringLatin1", "equals", "([B[B)Z"⟩ : MethodName)) hown (mvT hZ (hw _ (List.mem_of_getElem? (i := 135) rfl))) (mvT hZ (hw _ (List.mem_of_getElem? (i := 136) rfl))) (mvT hZ (hw _ (List.mem_of_getElem? (i := 42) rfl))) (mvT hZ (hw _ (List.mem_of_getElem? (i := 137) rfl))) (by decide) (backOf (W := 0) (rm_6 l Z a0 hw [] y1 y2 x1 h0 n0 Z0 F1d F2d) hZ (hw _ (List.mem_of_getElem? (i := 137) rfl)) (hw _ (List.mem_of_getElem? (i := 42) rfl)) (by decide) (by decide)) (g := (mkF m 44 #[.val (.ref a1), .val (.ref a2), .val (.ref a2)] [(.ref y2), (.ref y1)])) rfl (by rw [hml]; rfl) (argsL := [(.ref y1), (.ref y2)]) (rest := []) (lenOf pd_6 rfl) rfl (by show 2 * 0 + _ ≤ _; exact Nat.le_of_eq rfl) (hb hby d18_44) (fun _ _ => ⟨rfl, e118, (by decide : 0 + 0 ≤ _), (by decide : 0 + 0 ≤ _)⟩)
    dsimp only [Pt.U, Pt.locs, Pt.cells, Pt.slots] at X119 l119 y119 z119 st119 hQ119
    subst l119 y119 z119
    obtain ⟨rfl, M119, ec⟩ := hQ119
    have N119 := Fr.app N0 M119
    refine Goes.pre st119 ?_
    show Goes p e below (EndN s 0 0 (Q_7 Z a1 a2 x1 h0 n0)) T119 (mkF m 47 #[.val (.ref a1), .val (.ref a2), .val (.ref a2)] [(.int (1 : Int32))])
    refine own_ifN (pc' := 50) X119 hx (hb hby d18_47) (by decide) rfl ?_
    refine own_iconst (pc' := 51) X119 hx (hb hby d18_50) (v := (1 : Int32)) rfl rfl ?_
    refine own_goto X119 hx (hb hby d18_51) (by decide) (pc' := 55) (by decide) ?_
    exact own_retN X119 hx hlk (t := .boolean) Bd.returns (by simp) (hb hby d18_55) (by decide) (by decide) ⟨rfl, N119, ec⟩
theorem d24_0 : decode jdk_42_method_55_code 0 = .ok (.aload_n 0, 1) := by decide +kernel
theorem d24_1 : decode jdk_42_method_55_code 1 = .ok (.getfield 9, 3) := by decide +kernel
theorem d24_4 : decode jdk_42_method_55_code 4 = .ok (.arraylength, 1) := by decide +kernel
theorem d24_5 : decode jdk_42_method_55_code 5 = .ok (.ifCond .ne 7, 3) := by decide +kernel
theorem d24_8 : decode jdk_42_method_55_code 8 = .ok (.iconst 1, 1) := by decide +kernel
theorem d24_9 : decode jdk_42_method_55_code 9 = .ok (.goto 4, 3) := by decide +kernel
theorem d24_12 : decode jdk_42_method_55_code 12 = .ok (.iconst 0, 1) := by decide +kernel
theorem d24_13 : decode jdk_42_method_55_code 13 = .ok (.ireturn, 1) := by decide +kernel
theorem pn_8 : plainFor (⟨"java/lang/String", "isEmpty", "()Z"⟩ : MethodName) = true := by first | (refine plainFor_of_name ?_; simp [plainName, overriddenIn]; done) | decide +kernel
theorem pd_8 : parseMethodDescriptor "()Z" = some ⟨[], some .boolean⟩ := by decide +kernel
theorem ef_8 (m : MethodId) (a1 : Addr) : entryFrame m #[(.ref a1)] 1 = mkF m 0 #[.val (.ref a1)] [] := by first | (simp [entryFrame, mkF, argsToLocals, Value.category]; done) | rfl
def Q_8 (Z : State) (a1 : Addr) (h0 : Heap) (n0 : Nat) (v : Option Value) (h : Heap) (L : List Loc) : Prop := v = some (.int (1 : Int32)) ∧ Fr n0 L ∧ h = h0
set_option maxRecDepth 65536 in
set_option maxHeartbeats 40000000 in
theorem rm_8 (l : Launch) (Z : State) (a0 : Array Value) (hw : ∀ d ∈ tables_1, d.before a0 Z = true) (ws : List Jvm.Cond) (a1 : Addr) (h0 : Heap) (n0 : Nat) (Z0 : n0 ≤ h0.size) (S1 : own_StrV Z h0 a1 []) :
    MetFree l (⟨"java/lang/String", "isEmpty", "()Z"⟩ : MethodName) (head1 (Jvm.Cond.code (⟨"java/lang/String", "isEmpty", "()Z"⟩ : MethodName) jdk_42_method_55_code 1 (some .boolean) :: ws) ({ frames := 0, cells := 0, slots := 0, locals := 0 } : Room)) (fun a U => a = #[(.ref a1)] ∧ Z.Warmed39 U.vm ∧ U.heap = h0) (fun _ _ _ _ _ => True) (fun _ U o U' => ∃ v L, o = .returned v ∧ (Q_8 Z a1 h0 n0) v U'.heap L ∧ FrameEnd U o U' L ({ frames := 0, cells := 0, slots := 0, locals := 0 } : Room).cells ({ frames := 0, cells := 0, slots := 0, locals := 0 } : Room).slots) := by
  refine MetFree.of_bodySF pn_8 hisR ?_
  intro p e s m args below meth c s₁ Bd hml0 hP hK
  obtain ⟨rfl, hZ, hh⟩ := hP
  have hx := Bd.exec
  have hby := Bd.bytes
  have hlk : meth.locks = false := BodyLoose.notSynchronized Bd
  have hml : c.maxLocals = 1 := hml0
  have hown : s.vm.findClass "java/lang/String" = some m.cls := findClass_of_methodNamed Bd.named
  have hnm := (name_of_methodNamed Bd.named Bd.method).1
  have X0 : Stand p l e ({ frames := 0, cells := 0, slots := 0, locals := 0 } : Room) s m #[(.ref a1)] below meth c s₁ [] 0 0 := Stand.of_body Bd
  have e0 : s₁.heap = h0 := by rw [← hh, Bd.state]; rfl
  have N0 := Fr.nil n0
  refine own_enter (Q := (Q_8 Z a1 h0 n0)) (cs := 0) (ss := 0) (ef_8 m a1) ?_
  show Goes p e below (EndN s 0 0 (Q_8 Z a1 h0 n0)) s₁ (mkF m 0 #[.val (.ref a1)] [])
  obtain ⟨F1a, F1b, y1, F1c, F1d⟩ := S1
  refine own_aloadN (pc' := 1) X0 hx (hb hby d24_0) rfl rfl rfl ?_
  obtain ⟨T120, X120, e120, st120⟩ := getF X0 hx hZ hown (host := "") (Or.inl (hw _ (List.mem_of_getElem? (i := 55) rfl))) Via.refl e0 F1c (g := (mkF m 1 #[.val (.ref a1)] [(.ref a1)])) rfl rfl (hb hby d24_1)
  refine Goes.pre st120 ?_
  show Goes p e below (EndN s 0 0 (Q_8 Z a1 h0 n0)) T120 (mkF m 4 #[.val (.ref a1)] [(.ref y1)])
  refine own_arraylength (pc' := 5) X120 hx hZ e120 F1d (hb hby d24_4) (n := (0 : Int32)) rfl rfl ?_
  refine own_ifN (pc' := 8) X120 hx (hb hby d24_5) (by decide) rfl ?_
  refine own_iconst (pc' := 9) X120 hx (hb hby d24_8) (v := (1 : Int32)) rfl rfl ?_
  refine own_goto X120 hx (hb hby d24_9) (by decide) (pc' := 13) (by decide) ?_
  exact own_retN X120 hx hlk (t := .boolean) Bd.returns (by simp) (hb hby d24_13) (by decide) (by decide) ⟨rfl, N0, e120⟩
theorem d11_0 : decode prog_162_method_2_code 0 = .ok (.aload_n 0, 1) := by decide +kernel
theorem d11_1 : decode prog_162_method_2_code 1 = .ok (.iload_n 1, 1) := by decide +kernel
theorem d11_2 : decode prog_162_method_2_code 2 = .ok (.putfield 7, 3) := by decide +kernel
theorem d11_5 : decode prog_162_method_2_code 5 = .ok (.aload_n 0, 1) := by decide +kernel
theorem d11_6 : decode prog_162_method_2_code 6 = .ok (.aconst_null, 1) := by decide +kernel
theorem d11_7 : decode prog_162_method_2_code 7 = .ok (.putfield 13, 3) := by decide +kernel
theorem d11_10 : decode prog_162_method_2_code 10 = .ok (.aload_n 0, 1) := by decide +kernel
theorem d11_11 : decode prog_162_method_2_code 11 = .ok (.iconst 0, 1) := by decide +kernel
theorem d11_12 : decode prog_162_method_2_code 12 = .ok (.putfield 17, 3) := by decide +kernel
theorem d11_15 : decode prog_162_method_2_code 15 = .ok (.aload_n 0, 1) := by decide +kernel
theorem d11_16 : decode prog_162_method_2_code 16 = .ok (.iconst 0, 1) := by decide +kernel
theorem d11_17 : decode prog_162_method_2_code 17 = .ok (.putfield 20, 3) := by decide +kernel
theorem d11_20 : decode prog_162_method_2_code 20 = .ok (.aload_n 0, 1) := by decide +kernel
theorem d11_21 : decode prog_162_method_2_code 21 = .ok (.aconst_null, 1) := by decide +kernel
theorem d11_22 : decode prog_162_method_2_code 22 = .ok (.putfield 23, 3) := by decide +kernel
theorem d11_25 : decode prog_162_method_2_code 25 = .ok (.aload_n 0, 1) := by decide +kernel
theorem d11_26 : decode prog_162_method_2_code 26 = .ok (.aconst_null, 1) := by decide +kernel
theorem d11_27 : decode prog_162_method_2_code 27 = .ok (.putfield 27, 3) := by decide +kernel
theorem d11_30 : decode prog_162_method_2_code 30 = .ok (.aload_n 0, 1) := by decide +kernel
theorem d11_31 : decode prog_162_method_2_code 31 = .ok (.aconst_null, 1) := by decide +kernel
theorem d11_32 : decode prog_162_method_2_code 32 = .ok (.putfield 30, 3) := by decide +kernel
theorem d11_35 : decode prog_162_method_2_code 35 = .ok (.aload_n 0, 1) := by decide +kernel
theorem d11_36 : decode prog_162_method_2_code 36 = .ok (.aconst_null, 1) := by decide +kernel
theorem d11_37 : decode prog_162_method_2_code 37 = .ok (.putfield 33, 3) := by decide +kernel
theorem d11_40 : decode prog_162_method_2_code 40 = .ok (.return_, 1) := by decide +kernel
theorem pn_9 : plainFor (⟨"com/example/dipper/dipper/stream/ScannedEvent", "clear", "(I)V"⟩ : MethodName) = true := by first | (refine plainFor_of_name ?_; simp [plainName, overriddenIn]; done) | decide +kernel
theorem pd_9 : parseMethodDescriptor "(I)V" = some ⟨[.int], none⟩ := by decide +kernel
theorem ef_9 (m : MethodId) (a1 : Addr) (t1 : Int32) (ty : Int32) (ch : Value) (sa : Int32) (ln : Int32) (tx : Value) (ns : Value) (lo : Value) (qn : Value) : entryFrame m #[(.ref a1), (.int t1)] 2 = mkF m 0 #[.val (.ref a1), .val (.int t1)] [] := by first | (simp [entryFrame, mkF, argsToLocals, Value.category]; done) | rfl
def Q_9 (Z : State) (a1 : Addr) (t1 : Int32) (ty : Int32) (ch : Value) (sa : Int32) (ln : Int32) (tx : Value) (ns : Value) (lo : Value) (qn : Value) (h0 : Heap) (n0 : Nat) (v : Option Value) (h : Heap) (L : List Loc) : Prop := v = none ∧ Fr n0 L ∧ Keep h0 h [a1] ∧ own_Ev Z h a1 t1 .null (0 : Int32) (0 : Int32) .null .null .null .null
set_option maxRecDepth 65536 in
set_option maxHeartbeats 40000000 in
theorem rm_9 (l : Launch) (Z : State) (a0 : Array Value) (hw : ∀ d ∈ tables_1, d.before a0 Z = true) (ws : List Jvm.Cond) (a1 : Addr) (t1 : Int32) (ty : Int32) (ch : Value) (sa : Int32) (ln : Int32) (tx : Value) (ns : Value) (lo : Value) (qn : Value) (h0 : Heap) (n0 : Nat) (Z0 : n0 ≤ h0.size) (V1 : own_Ev Z h0 a1 ty ch sa ln tx ns lo qn) (g1 : n0 ≤ a1) :
    MetFree l (⟨"com/example/dipper/dipper/stream/ScannedEvent", "clear", "(I)V"⟩ : MethodName) (head1 (Jvm.Cond.code (⟨"com/example/dipper/dipper/stream/ScannedEvent", "clear", "(I)V"⟩ : MethodName) prog_162_method_2_code 2 none :: ws) ({ frames := 0, cells := 0, slots := 0, locals := 0 } : Room)) (fun a U => a = #[(.ref a1), (.int t1)] ∧ Z.Warmed39 U.vm ∧ U.heap = h0) (fun _ _ _ _ _ => True) (fun _ U o U' => ∃ v L, o = .returned v ∧ (Q_9 Z a1 t1 ty ch sa ln tx ns lo qn h0 n0) v U'.heap L ∧ FrameEnd U o U' L ({ frames := 0, cells := 0, slots := 0, locals := 0 } : Room).cells ({ frames := 0, cells := 0, slots := 0, locals := 0 } : Room).slots) := by
  refine MetFree.of_bodySF pn_9 hisR ?_
  intro p e s m args below meth c s₁ Bd hml0 hP hK
  obtain ⟨rfl, hZ, hh⟩ := hP
  have hx := Bd.exec
  have hby := Bd.bytes
  have hlk : meth.locks = false := BodyLoose.notSynchronized Bd
  have hml : c.maxLocals = 2 := hml0
  have hown : s.vm.findClass "com/example/dipper/dipper/stream/ScannedEvent" = some m.cls := findClass_of_methodNamed Bd.named
  have hnm := (name_of_methodNamed Bd.named Bd.method).1
  have X0 : Stand p l e ({ frames := 0, cells := 0, slots := 0, locals := 0 } : Room) s m #[(.ref a1), (.int t1)] below meth c s₁ [] 0 0 := Stand.of_body Bd
  have e0 : s₁.heap = h0 := by rw [← hh, Bd.state]; rfl
  have N0 := Fr.nil n0
  refine own_enter (Q := (Q_9 Z a1 t1 ty ch sa ln tx ns lo qn h0 n0)) (cs := 0) (ss := 0) (ef_9 m a1 t1 ty ch sa ln tx ns lo qn) ?_
  show Goes p e below (EndN s 0 0 (Q_9 Z a1 t1 ty ch sa ln tx ns lo qn h0 n0)) s₁ (mkF m 0 #[.val (.ref a1), .val (.int t1)] [])
  obtain ⟨E1, F0, F1, F2, F3, F4, F5, F6, F7⟩ := V1
  refine own_aloadN (pc' := 1) X0 hx (hb hby d11_0) rfl rfl rfl ?_
  refine own_iloadN (pc' := 2) X0 hx (hb hby d11_1) rfl rfl ?_
  obtain ⟨T121, h121, X121, e121, W121, st121⟩ := putF X0 hx hZ hown (host := "") (Or.inl (hw _ (List.mem_of_getElem? (i := 79) rfl))) Via.refl e0 F0 E1 (Or.inl (hw _ (List.mem_of_getElem? (i := 80) rfl))) (hw _ (List.mem_of_getElem? (i := 22) rfl)) (ty := .int) (by decide) rfl rfl (g := (mkF m 2 #[.val (.ref a1), .val (.int t1)] [(.int t1), (.ref a1)])) rfl rfl (hb hby d11_2)
  have N121 := Fr.snoc X121 N0 g1
  refine Goes.pre st121 ?_
  show Goes p e below (EndN s 0 0 (Q_9 Z a1 t1 ty ch sa ln tx ns lo qn h0 n0)) T121 (mkF m 5 #[.val (.ref a1), .val (.int t1)] [])
  have F121_a1_type := F0.same W121
  have F121_a1_characters := F1.other W121 (Or.inr (slot_ne (Or.inl (hw _ (List.mem_of_getElem? (i := 82) rfl))) (Or.inl (hw _ (List.mem_of_getElem? (i := 80) rfl))) (by decide) (t := (.array .char)) (t' := .int) (by decide) (by decide)))
  have F121_a1_start := F2.other W121 (Or.inr (slot_ne (Or.inl (hw _ (List.mem_of_getElem? (i := 84) rfl))) (Or.inl (hw _ (List.mem_of_getElem? (i := 80) rfl))) (by decide) (t := .int) (t' := .int) (by decide) (by decide)))
  have F121_a1_length := F3.other W121 (Or.inr (slot_ne (Or.inl (hw _ (List.mem_of_getElem? (i := 86) rfl))) (Or.inl (hw _ (List.mem_of_getElem? (i := 80) rfl))) (by decide) (t := .int) (t' := .int) (by decide) (by decide)))
  have F121_a1_text := F4.other W121 (Or.inr (slot_ne (Or.inl (hw _ (List.mem_of_getElem? (i := 88) rfl))) (Or.inl (hw _ (List.mem_of_getElem? (i := 80) rfl))) (by decide) (t := (.object "java/lang/String")) (t' := .int) (by decide) (by decide)))
  have F121_a1_namespace := F5.other W121 (Or.inr (slot_ne (Or.inl (hw _ (List.mem_of_getElem? (i := 90) rfl))) (Or.inl (hw _ (List.mem_of_getElem? (i := 80) rfl))) (by decide) (t := (.object "java/lang/String")) (t' := .int) (by decide) (by decide)))
  have F121_a1_localName := F6.other W121 (Or.inr (slot_ne (Or.inl (hw _ (List.mem_of_getElem? (i := 92) rfl))) (Or.inl (hw _ (List.mem_of_getElem? (i := 80) rfl))) (by decide) (t := (.object "java/lang/String")) (t' := .int) (by decide) (by decide)))
  have F121_a1_qualifiedName := F7.other W121 (Or.inr (slot_ne (Or.inl (hw _ (List.mem_of_getElem? (i := 94) rfl))) (Or.inl (hw _ (List.mem_of_getElem? (i := 80) rfl))) (by decide) (t := (.object "java/lang/String")) (t' := .int) (by decide) (by decide)))
  have E121_a1 := E1.wr W121
  have K121 := Keep.wr (Keep.refl h0 [a1]) W121 (Or.inl (List.mem_of_getElem? (i := 0) rfl))
  refine own_aloadN (pc' := 6) X121 hx (hb hby d11_5) rfl rfl rfl ?_
  refine own_aconstNull (pc' := 7) X121 hx (hb hby d11_6) rfl ?_
  obtain ⟨T122, h122, X122, e122, W122, st122⟩ := putF X121 hx hZ hown (host := "") (Or.inl (hw _ (List.mem_of_getElem? (i := 81) rfl))) Via.refl e121 F121_a1_characters E121_a1 (Or.inl (hw _ (List.mem_of_getElem? (i := 82) rfl))) (hw _ (List.mem_of_getElem? (i := 22) rfl)) (ty := (.array .char)) (by decide) rfl rfl (g := (mkF m 7 #[.val (.ref a1), .val (.int t1)] [(.null), (.ref a1)])) rfl rfl (hb hby d11_7)
  have N122 := Fr.snoc X122 N121 g1
  refine Goes.pre st122 ?_
  show Goes p e below (EndN s 0 0 (Q_9 Z a1 t1 ty ch sa ln tx ns lo qn h0 n0)) T122 (mkF m 10 #[.val (.ref a1), .val (.int t1)] [])
  have F122_a1_type := F121_a1_type.other W122 (Or.inr (slot_ne (Or.inl (hw _ (List.mem_of_getElem? (i := 80) rfl))) (Or.inl (hw _ (List.mem_of_getElem? (i := 82) rfl))) (by decide) (t := .int) (t' := (.array .char)) (by decide) (by decide)))
  have F122_a1_characters := F121_a1_characters.same W122
  have F122_a1_start := F121_a1_start.other W122 (Or.inr (slot_ne (Or.inl (hw _ (List.mem_of_getElem? (i := 84) rfl))) (Or.inl (hw _ (List.mem_of_getElem? (i := 82) rfl))) (by decide) (t := .int) (t' := (.array .char)) (by decide) (by decide)))
  have F122_a1_length := F121_a1_length.other W122 (Or.inr (slot_ne (Or.inl (hw _ (List.mem_of_getElem? (i := 86) rfl))) (Or.inl (hw _ (List.mem_of_getElem? (i := 82) rfl))) (by decide) (t := .int) (t' := (.array .char)) (by decide) (by decide)))
  have F122_a1_text := F121_a1_text.other W122 (Or.inr (slot_ne (Or.inl (hw _ (List.mem_of_getElem? (i := 88) rfl))) (Or.inl (hw _ (List.mem_of_getElem? (i := 82) rfl))) (by decide) (t := (.object "java/lang/String")) (t' := (.array .char)) (by decide) (by decide)))
  have F122_a1_namespace := F121_a1_namespace.other W122 (Or.inr (slot_ne (Or.inl (hw _ (List.mem_of_getElem? (i := 90) rfl))) (Or.inl (hw _ (List.mem_of_getElem? (i := 82) rfl))) (by decide) (t := (.object "java/lang/String")) (t' := (.array .char)) (by decide) (by decide)))
  have F122_a1_localName := F121_a1_localName.other W122 (Or.inr (slot_ne (Or.inl (hw _ (List.mem_of_getElem? (i := 92) rfl))) (Or.inl (hw _ (List.mem_of_getElem? (i := 82) rfl))) (by decide) (t := (.object "java/lang/String")) (t' := (.array .char)) (by decide) (by decide)))
  have F122_a1_qualifiedName := F121_a1_qualifiedName.other W122 (Or.inr (slot_ne (Or.inl (hw _ (List.mem_of_getElem? (i := 94) rfl))) (Or.inl (hw _ (List.mem_of_getElem? (i := 82) rfl))) (by decide) (t := (.object "java/lang/String")) (t' := (.array .char)) (by decide) (by decide)))
  have E122_a1 := E121_a1.wr W122
  have K122 := Keep.wr K121 W122 (Or.inl (List.mem_of_getElem? (i := 0) rfl))
  refine own_aloadN (pc' := 11) X122 hx (hb hby d11_10) rfl rfl rfl ?_
  refine own_iconst (pc' := 12) X122 hx (hb hby d11_11) (v := (0 : Int32)) rfl rfl ?_
  obtain ⟨T123, h123, X123, e123, W123, st123⟩ := putF X122 hx hZ hown (host := "") (Or.inl (hw _ (List.mem_of_getElem? (i := 83) rfl))) Via.refl e122 F122_a1_start E122_a1 (Or.inl (hw _ (List.mem_of_getElem? (i := 84) rfl))) (hw _ (List.mem_of_getElem? (i := 22) rfl)) (ty := .int) (by decide) rfl rfl (g := (mkF m 12 #[.val (.ref a1), .val (.int t1)] [(.int (0 : Int32)), (.ref a1)])) rfl rfl (hb hby d11_12)
  have N123 := Fr.snoc X123 N122 g1
  refine Goes.pre st123 ?_
  show Goes p e below (EndN s 0 0 (Q_9 Z a1 t1 ty ch sa ln tx ns lo qn h0 n0)) T123 (mkF m 15 #[.val (.ref a1), .val (.int t1)] [])
  have F123_a1_type := F122_a1_type.other W123 (Or.inr (slot_ne (Or.inl (hw _ (List.mem_of_getElem? (i := 80) rfl))) (Or.inl (hw _ (List.mem_of_getElem? (i := 84) rfl))) (by decide) (t := .int) (t' := .int) (by decide) (by decide)))
  have F123_a1_characters := F122_a1_characters.other W123 (Or.inr (slot_ne (Or.inl (hw _ (List.mem_of_getElem? (i := 82) rfl))) (Or.inl (hw _ (List.mem_of_getElem? (i := 84) rfl))) (by decide) (t := (.array .char)) (t' := .int) (by decide) (by decide)))
  have F123_a1_start := F122_a1_start.same W123
  have F123_a1_length := F122_a1_length.other W123 (Or.inr (slot_ne (Or.inl (hw _ (List.mem_of_getElem? (i := 86) rfl))) (Or.inl (hw _ (List.mem_of_getElem? (i := 84) rfl))) (by decide) (t := .int) (t' := .int) (by decide) (by decide)))
  have F123_a1_text := F122_a1_text.other W123 (Or.inr (slot_ne (Or.inl (hw _ (List.mem_of_getElem? (i := 88) rfl))) (Or.inl (hw _ (List.mem_of_getElem? (i := 84) rfl))) (by decide) (t := (.object "java/lang/String")) (t' := .int) (by decide) (by decide)))
  have F123_a1_namespace := F122_a1_namespace.other W123 (Or.inr (slot_ne (Or.inl (hw _ (List.mem_of_getElem? (i := 90) rfl))) (Or.inl (hw _ (List.mem_of_getElem? (i := 84) rfl))) (by decide) (t := (.object "java/lang/String")) (t' := .int) (by decide) (by decide)))
  have F123_a1_localName := F122_a1_localName.other W123 (Or.inr (slot_ne (Or.inl (hw _ (List.mem_of_getElem? (i := 92) rfl))) (Or.inl (hw _ (List.mem_of_getElem? (i := 84) rfl))) (by decide) (t := (.object "java/lang/String")) (t' := .int) (by decide) (by decide)))
  have F123_a1_qualifiedName := F122_a1_qualifiedName.other W123 (Or.inr (slot_ne (Or.inl (hw _ (List.mem_of_getElem? (i := 94) rfl))) (Or.inl (hw _ (List.mem_of_getElem? (i := 84) rfl))) (by decide) (t := (.object "java/lang/String")) (t' := .int) (by decide) (by decide)))
  have E123_a1 := E122_a1.wr W123
  have K123 := Keep.wr K122 W123 (Or.inl (List.mem_of_getElem? (i := 0) rfl))
  refine own_aloadN (pc' := 16) X123 hx (hb hby d11_15) rfl rfl rfl ?_
  refine own_iconst (pc' := 17) X123 hx (hb hby d11_16) (v := (0 : Int32)) rfl rfl ?_
  obtain ⟨T124, h124, X124, e124, W124, st124⟩ := putF X123 hx hZ hown (host := "") (Or.inl (hw _ (List.mem_of_getElem? (i := 85) rfl))) Via.refl e123 F123_a1_length E123_a1 (Or.inl (hw _ (List.mem_of_getElem? (i := 86) rfl))) (hw _ (List.mem_of_getElem? (i := 22) rfl)) (ty := .int) (by decide) rfl rfl (g := (mkF m 17 #[.val (.ref a1), .val (.int t1)] [(.int (0 : Int32)), (.ref a1)])) rfl rfl (hb hby d11_17)
  have N124 := Fr.snoc X124 N123 g1
  refine Goes.pre st124 ?_
  show Goes p e below (EndN s 0 0 (Q_9 Z a1 t1 ty ch sa ln tx ns lo qn h0 n0)) T124 (mkF m 20 #[.val (.ref a1), .val (.int t1)] [])
  have F124_a1_type := F123_a1_type.other W124 (Or.inr (slot_ne (Or.inl (hw _ (List.mem_of_getElem? (i := 80) rfl))) (Or.inl (hw _ (List.mem_of_getElem? (i := 86) rfl))) (by decide) (t := .int) (t' := .int) (by decide) (by decide)))
  have F124_a1_characters := F123_a1_characters.other W124 (Or.inr (slot_ne (Or.inl (hw _ (List.mem_of_getElem? (i := 82) rfl))) (Or.inl (hw _ (List.mem_of_getElem? (i := 86) rfl))) (by decide) (t := (.array .char)) (t' := .int) (by decide) (by decide)))
  have F124_a1_start := F123_a1_start.other W124 (Or.inr (slot_ne (Or.inl (hw _ (List.mem_of_getElem? (i := 84) rfl))) (Or.inl (hw _ (List.mem_of_getElem? (i := 86) rfl))) (by decide) (t := .int) (t' := .int) (by decide) (by decide)))
  have F124_a1_length := F123_a1_length.same W124
  have F124_a1_text := F123_a1_text.other W124 (Or.inr (slot_ne (Or.inl (hw _ (List.mem_of_getElem? (i := 88) rfl))) (Or.inl (hw _ (List.mem_of_getElem? (i := 86) rfl))) (by decide) (t := (.object "java/lang/String")) (t' := .int) (by decide) (by decide)))
  have F124_a1_namespace := F123_a1_namespace.other W124 (Or.inr (slot_ne (Or.inl (hw _ (List.mem_of_getElem? (i := 90) rfl))) (Or.inl (hw _ (List.mem_of_getElem? (i := 86) rfl))) (by decide) (t := (.object "java/lang/String")) (t' := .int) (by decide) (by decide)))
  have F124_a1_localName := F123_a1_localName.other W124 (Or.inr (slot_ne (Or.inl (hw _ (List.mem_of_getElem? (i := 92) rfl))) (Or.inl (hw _ (List.mem_of_getElem? (i := 86) rfl))) (by decide) (t := (.object "java/lang/String")) (t' := .int) (by decide) (by decide)))
  have F124_a1_qualifiedName := F123_a1_qualifiedName.other W124 (Or.inr (slot_ne (Or.inl (hw _ (List.mem_of_getElem? (i := 94) rfl))) (Or.inl (hw _ (List.mem_of_getElem? (i := 86) rfl))) (by decide) (t := (.object "java/lang/String")) (t' := .int) (by decide) (by decide)))
  have E124_a1 := E123_a1.wr W124
  have K124 := Keep.wr K123 W124 (Or.inl (List.mem_of_getElem? (i := 0) rfl))
  refine own_aloadN (pc' := 21) X124 hx (hb hby d11_20) rfl rfl rfl ?_
  refine own_aconstNull (pc' := 22) X124 hx (hb hby d11_21) rfl ?_
  obtain ⟨T125, h125, X125, e125, W125, st125⟩ := putF X124 hx hZ hown (host := "") (Or.inl (hw _ (List.mem_of_getElem? (i := 87) rfl))) Via.refl e124 F124_a1_text E124_a1 (Or.inl (hw _ (List.mem_of_getElem? (i := 88) rfl))) (hw _ (List.mem_of_getElem? (i := 22) rfl)) (ty := (.object "java/lang/String")) (by decide) rfl rfl (g := (mkF m 22 #[.val (.ref a1), .val (.int t1)] [(.null), (.ref a1)])) rfl rfl (hb hby d11_22)
  have N125 := Fr.snoc X125 N124 g1
  refine Goes.pre st125 ?_
  show Goes p e below (EndN s 0 0 (Q_9 Z a1 t1 ty ch sa ln tx ns lo qn h0 n0)) T125 (mkF m 25 #[.val (.ref a1), .val (.int t1)] [])
  have F125_a1_type := F124_a1_type.other W125 (Or.inr (slot_ne (Or.inl (hw _ (List.mem_of_getElem? (i := 80) rfl))) (Or.inl (hw _ (List.mem_of_getElem? (i := 88) rfl))) (by decide) (t := .int) (t' := (.object "java/lang/String")) (by decide) (by decide)))
  have F125_a1_characters := F124_a1_characters.other W125 (Or.inr (slot_ne (Or.inl (hw _ (List.mem_of_getElem? (i := 82) rfl))) (Or.inl (hw _ (List.mem_of_getElem? (i := 88) rfl))) (by decide) (t := (.array .char)) (t' := (.object "java/lang/String")) (by decide) (by decide)))
  have F125_a1_start := F124_a1_start.other W125 (Or.inr (slot_ne (Or.inl (hw _ (List.mem_of_getElem? (i := 84) rfl))) (Or.inl (hw _ (List.mem_of_getElem? (i := 88) rfl))) (by decide) (t := .int) (t' := (.object "java/lang/String")) (by decide) (by decide)))
  have F125_a1_length := F124_a1_length.other W125 (Or.inr (slot_ne (Or.inl (hw _ (List.mem_of_getElem? (i := 86) rfl))) (Or.inl (hw _ (List.mem_of_getElem? (i := 88) rfl))) (by decide) (t := .int) (t' := (.object "java/lang/String")) (by decide) (by decide)))
  have F125_a1_text := F124_a1_text.same W125
  have F125_a1_namespace := F124_a1_namespace.other W125 (Or.inr (slot_ne (Or.inl (hw _ (List.mem_of_getElem? (i := 90) rfl))) (Or.inl (hw _ (List.mem_of_getElem? (i := 88) rfl))) (by decide) (t := (.object "java/lang/String")) (t' := (.object "java/lang/String")) (by decide) (by decide)))
  have F125_a1_localName := F124_a1_localName.other W125 (Or.inr (slot_ne (Or.inl (hw _ (List.mem_of_getElem? (i := 92) rfl))) (Or.inl (hw _ (List.mem_of_getElem? (i := 88) rfl))) (by decide) (t := (.object "java/lang/String")) (t' := (.object "java/lang/String")) (by decide) (by decide)))
  have F125_a1_qualifiedName := F124_a1_qualifiedName.other W125 (Or.inr (slot_ne (Or.inl (hw _ (List.mem_of_getElem? (i := 94) rfl))) (Or.inl (hw _ (List.mem_of_getElem? (i := 88) rfl))) (by decide) (t := (.object "java/lang/String")) (t' := (.object "java/lang/String")) (by decide) (by decide)))
  have E125_a1 := E124_a1.wr W125
  have K125 := Keep.wr K124 W125 (Or.inl (List.mem_of_getElem? (i := 0) rfl))
  refine own_aloadN (pc' := 26) X125 hx (hb hby d11_25) rfl rfl rfl ?_
  refine own_aconstNull (pc' := 27) X125 hx (hb hby d11_26) rfl ?_
  obtain ⟨T126, h126, X126, e126, W126, st126⟩ := putF X125 hx hZ hown (host := "") (Or.inl (hw _ (List.mem_of_getElem? (i := 89) rfl))) Via.refl e125 F125_a1_namespace E125_a1 (Or.inl (hw _ (List.mem_of_getElem? (i := 90) rfl))) (hw _ (List.mem_of_getElem? (i := 22) rfl)) (ty := (.object "java/lang/String")) (by decide) rfl rfl (g := (mkF m 27 #[.val (.ref a1), .val (.int t1)] [(.null), (.ref a1)])) rfl rfl (hb hby d11_27)
  have N126 := Fr.snoc X126 N125 g1
  refine Goes.pre st126 ?_
  show Goes p e below (EndN s 0 0 (Q_9 Z a1 t1 ty ch sa ln tx ns lo qn h0 n0)) T126 (mkF m 30 #[.val (.ref a1), .val (.int t1)] [])
  have F126_a1_type := F125_a1_type.other W126 (Or.inr (slot_ne (Or.inl (hw _ (List.mem_of_getElem? (i := 80) rfl))) (Or.inl (hw _ (List.mem_of_getElem? (i := 90) rfl))) (by decide) (t := .int) (t' := (.object "java/lang/String")) (by decide) (by decide)))
  have F126_a1_characters := F125_a1_characters.other W126 (Or.inr (slot_ne (Or.inl (hw _ (List.mem_of_getElem? (i := 82) rfl))) (Or.inl (hw _ (List.mem_of_getElem? (i := 90) rfl))) (by decide) (t := (.array .char)) (t' := (.object "java/lang/String")) (by decide) (by decide)))
  have F126_a1_start := F125_a1_start.other W126 (Or.inr (slot_ne (Or.inl (hw _ (List.mem_of_getElem? (i := 84) rfl))) (Or.inl (hw _ (List.mem_of_getElem? (i := 90) rfl))) (by decide) (t := .int) (t' := (.object "java/lang/String")) (by decide) (by decide)))
  have F126_a1_length := F125_a1_length.other W126 (Or.inr (slot_ne (Or.inl (hw _ (List.mem_of_getElem? (i := 86) rfl))) (Or.inl (hw _ (List.mem_of_getElem? (i := 90) rfl))) (by decide) (t := .int) (t' := (.object "java/lang/String")) (by decide) (by decide)))
  have F126_a1_text := F125_a1_text.other W126 (Or.inr (slot_ne (Or.inl (hw _ (List.mem_of_getElem? (i := 88) rfl))) (Or.inl (hw _ (List.mem_of_getElem? (i := 90) rfl))) (by decide) (t := (.object "java/lang/String")) (t' := (.object "java/lang/String")) (by decide) (by decide)))
  have F126_a1_namespace := F125_a1_namespace.same W126
  have F126_a1_localName := F125_a1_localName.other W126 (Or.inr (slot_ne (Or.inl (hw _ (List.mem_of_getElem? (i := 92) rfl))) (Or.inl (hw _ (List.mem_of_getElem? (i := 90) rfl))) (by decide) (t := (.object "java/lang/String")) (t' := (.object "java/lang/String")) (by decide) (by decide)))
  have F126_a1_qualifiedName := F125_a1_qualifiedName.other W126 (Or.inr (slot_ne (Or.inl (hw _ (List.mem_of_getElem? (i := 94) rfl))) (Or.inl (hw _ (List.mem_of_getElem? (i := 90) rfl))) (by decide) (t := (.object "java/lang/String")) (t' := (.object "java/lang/String")) (by decide) (by decide)))
  have E126_a1 := E125_a1.wr W126
  have K126 := Keep.wr K125 W126 (Or.inl (List.mem_of_getElem? (i := 0) rfl))
  refine own_aloadN (pc' := 31) X126 hx (hb hby d11_30) rfl rfl rfl ?_
  refine own_aconstNull (pc' := 32) X126 hx (hb hby d11_31) rfl ?_
  obtain ⟨T127, h127, X127, e127, W127, st127⟩ := putF X126 hx hZ hown (host := "") (Or.inl (hw _ (List.mem_of_getElem? (i := 91) rfl))) Via.refl e126 F126_a1_localName E126_a1 (Or.inl (hw _ (List.mem_of_getElem? (i := 92) rfl))) (hw _ (List.mem_of_getElem? (i := 22) rfl)) (ty := (.object "java/lang/String")) (by decide) rfl rfl (g := (mkF m 32 #[.val (.ref a1), .val (.int t1)] [(.null), (.ref a1)])) rfl rfl (hb hby d11_32)
  have N127 := Fr.snoc X127 N126 g1
  refine Goes.pre st127 ?_
  show Goes p e below (EndN s 0 0 (Q_9 Z a1 t1 ty ch sa ln tx ns lo qn h0 n0)) T127 (mkF m 35 #[.val (.ref a1), .val (.int t1)] [])
  have F127_a1_type := F126_a1_type.other W127 (Or.inr (slot_ne (Or.inl (hw _ (List.mem_of_getElem? (i := 80) rfl))) (Or.inl (hw _ (List.mem_of_getElem? (i := 92) rfl))) (by decide) (t := .int) (t' := (.object "java/lang/String")) (by decide) (by decide)))
  have F127_a1_characters := F126_a1_characters.other W127 (Or.inr (slot_ne (Or.inl (hw _ (List.mem_of_getElem? (i := 82) rfl))) (Or.inl (hw _ (List.mem_of_getElem? (i := 92) rfl))) (by decide) (t := (.array .char)) (t' := (.object "java/lang/String")) (by decide) (by decide)))
  have F127_a1_start := F126_a1_start.other W127 (Or.inr (slot_ne (Or.inl (hw _ (List.mem_of_getElem? (i := 84) rfl))) (Or.inl (hw _ (List.mem_of_getElem? (i := 92) rfl))) (by decide) (t := .int) (t' := (.object "java/lang/String")) (by decide) (by decide)))
  have F127_a1_length := F126_a1_length.other W127 (Or.inr (slot_ne (Or.inl (hw _ (List.mem_of_getElem? (i := 86) rfl))) (Or.inl (hw _ (List.mem_of_getElem? (i := 92) rfl))) (by decide) (t := .int) (t' := (.object "java/lang/String")) (by decide) (by decide)))
  have F127_a1_text := F126_a1_text.other W127 (Or.inr (slot_ne (Or.inl (hw _ (List.mem_of_getElem? (i := 88) rfl))) (Or.inl (hw _ (List.mem_of_getElem? (i := 92) rfl))) (by decide) (t := (.object "java/lang/String")) (t' := (.object "java/lang/String")) (by decide) (by decide)))
  have F127_a1_namespace := F126_a1_namespace.other W127 (Or.inr (slot_ne (Or.inl (hw _ (List.mem_of_getElem? (i := 90) rfl))) (Or.inl (hw _ (List.mem_of_getElem? (i := 92) rfl))) (by decide) (t := (.object "java/lang/String")) (t' := (.object "java/lang/String")) (by decide) (by decide)))
  have F127_a1_localName := F126_a1_localName.same W127
  have F127_a1_qualifiedName := F126_a1_qualifiedName.other W127 (Or.inr (slot_ne (Or.inl (hw _ (List.mem_of_getElem? (i := 94) rfl))) (Or.inl (hw _ (List.mem_of_getElem? (i := 92) rfl))) (by decide) (t := (.object "java/lang/String")) (t' := (.object "java/lang/String")) (by decide) (by decide)))
  have E127_a1 := E126_a1.wr W127
  have K127 := Keep.wr K126 W127 (Or.inl (List.mem_of_getElem? (i := 0) rfl))
  refine own_aloadN (pc' := 36) X127 hx (hb hby d11_35) rfl rfl rfl ?_
  refine own_aconstNull (pc' := 37) X127 hx (hb hby d11_36) rfl ?_
  obtain ⟨T128, h128, X128, e128, W128, st128⟩ := putF X127 hx hZ hown (host := "") (Or.inl (hw _ (List.mem_of_getElem? (i := 93) rfl))) Via.refl e127 F127_a1_qualifiedName E127_a1 (Or.inl (hw _ (List.mem_of_getElem? (i := 94) rfl))) (hw _ (List.mem_of_getElem? (i := 22) rfl)) (ty := (.object "java/lang/String")) (by decide) rfl rfl (g := (mkF m 37 #[.val (.ref a1), .val (.int t1)] [(.null), (.ref a1)])) rfl rfl (hb hby d11_37)
  have N128 := Fr.snoc X128 N127 g1
  refine Goes.pre st128 ?_
  show Goes p e below (EndN s 0 0 (Q_9 Z a1 t1 ty ch sa ln tx ns lo qn h0 n0)) T128 (mkF m 40 #[.val (.ref a1), .val (.int t1)] [])
  have F128_a1_type := F127_a1_type.other W128 (Or.inr (slot_ne (Or.inl (hw _ (List.mem_of_getElem? (i := 80) rfl))) (Or.inl (hw _ (List.mem_of_getElem? (i := 94) rfl))) (by decide) (t := .int) (t' := (.object "java/lang/String")) (by decide) (by decide)))
  have F128_a1_characters := F127_a1_characters.other W128 (Or.inr (slot_ne (Or.inl (hw _ (List.mem_of_getElem? (i := 82) rfl))) (Or.inl (hw _ (List.mem_of_getElem? (i := 94) rfl))) (by decide) (t := (.array .char)) (t' := (.object "java/lang/String")) (by decide) (by decide)))
  have F128_a1_start := F127_a1_start.other W128 (Or.inr (slot_ne (Or.inl (hw _ (List.mem_of_getElem? (i := 84) rfl))) (Or.inl (hw _ (List.mem_of_getElem? (i := 94) rfl))) (by decide) (t := .int) (t' := (.object "java/lang/String")) (by decide) (by decide)))
  have F128_a1_length := F127_a1_length.other W128 (Or.inr (slot_ne (Or.inl (hw _ (List.mem_of_getElem? (i := 86) rfl))) (Or.inl (hw _ (List.mem_of_getElem? (i := 94) rfl))) (by decide) (t := .int) (t' := (.object "java/lang/String")) (by decide) (by decide)))
  have F128_a1_text := F127_a1_text.other W128 (Or.inr (slot_ne (Or.inl (hw _ (List.mem_of_getElem? (i := 88) rfl))) (Or.inl (hw _ (List.mem_of_getElem? (i := 94) rfl))) (by decide) (t := (.object "java/lang/String")) (t' := (.object "java/lang/String")) (by decide) (by decide)))
  have F128_a1_namespace := F127_a1_namespace.other W128 (Or.inr (slot_ne (Or.inl (hw _ (List.mem_of_getElem? (i := 90) rfl))) (Or.inl (hw _ (List.mem_of_getElem? (i := 94) rfl))) (by decide) (t := (.object "java/lang/String")) (t' := (.object "java/lang/String")) (by decide) (by decide)))
  have F128_a1_localName := F127_a1_localName.other W128 (Or.inr (slot_ne (Or.inl (hw _ (List.mem_of_getElem? (i := 92) rfl))) (Or.inl (hw _ (List.mem_of_getElem? (i := 94) rfl))) (by decide) (t := (.object "java/lang/String")) (t' := (.object "java/lang/String")) (by decide) (by decide)))
  have F128_a1_qualifiedName := F127_a1_qualifiedName.same W128
  have E128_a1 := E127_a1.wr W128
  have K128 := Keep.wr K127 W128 (Or.inl (List.mem_of_getElem? (i := 0) rfl))
  exact own_ret0 X128 hx hlk Bd.returns (hb hby d11_40) (by decide) (by decide) (by rw [e128]; exact ⟨rfl, N128, K128, ⟨E128_a1, F128_a1_type, F128_a1_characters, F128_a1_start, F128_a1_length, F128_a1_text, F128_a1_namespace, F128_a1_localName, F128_a1_qualifiedName⟩⟩)
theorem d12_0 : decode prog_162_method_4_code 0 = .ok (.aload_n 0, 1) := by decide +kernel
theorem d12_1 : decode prog_162_method_4_code 1 = .ok (.aload_n 1, 1) := by decide +kernel
theorem d12_2 : decode prog_162_method_4_code 2 = .ok (.putfield 13, 3) := by decide +kernel
theorem d12_5 : decode prog_162_method_4_code 5 = .ok (.aload_n 0, 1) := by decide +kernel
theorem d12_6 : decode prog_162_method_4_code 6 = .ok (.iload_n 2, 1) := by decide +kernel
theorem d12_7 : decode prog_162_method_4_code 7 = .ok (.putfield 17, 3) := by decide +kernel
theorem d12_10 : decode prog_162_method_4_code 10 = .ok (.aload_n 0, 1) := by decide +kernel
theorem d12_11 : decode prog_162_method_4_code 11 = .ok (.iload_n 3, 1) := by decide +kernel
theorem d12_12 : decode prog_162_method_4_code 12 = .ok (.putfield 20, 3) := by decide +kernel
theorem d12_15 : decode prog_162_method_4_code 15 = .ok (.return_, 1) := by decide +kernel
theorem pn_10 : plainFor (⟨"com/example/dipper/dipper/stream/ScannedEvent", "characters", "([CII)V"⟩ : MethodName) = true := by first | (refine plainFor_of_name ?_; simp [plainName, overriddenIn]; done) | decide +kernel
theorem pd_10 : parseMethodDescriptor "([CII)V" = some ⟨[(.array .char), .int, .int], none⟩ := by decide +kernel
theorem ef_10 (m : MethodId) (a1 : Addr) (x1 : Addr) (x2 : Int32) (x3 : Int32) (ty : Int32) (ch : Value) (sa : Int32) (ln : Int32) (tx : Value) (ns : Value) (lo : Value) (qn : Value) : entryFrame m #[(.ref a1), (.ref x1), (.int x2), (.int x3)] 4 = mkF m 0 #[.val (.ref a1), .val (.ref x1), .val (.int x2), .val (.int x3)] [] := by first | (simp [entryFrame, mkF, argsToLocals, Value.category]; done) | rfl
def Q_10 (Z : State) (a1 : Addr) (x1 : Addr) (x2 : Int32) (x3 : Int32) (ty : Int32) (ch : Value) (sa : Int32) (ln : Int32) (tx : Value) (ns : Value) (lo : Value) (qn : Value) (h0 : Heap) (n0 : Nat) (v : Option Value) (h : Heap) (L : List Loc) : Prop := v = none ∧ Fr n0 L ∧ Keep h0 h [a1] ∧ own_Ev Z h a1 ty (.ref x1) x2 x3 tx ns lo qn
set_option maxRecDepth 65536 in
set_option maxHeartbeats 40000000 in
theorem rm_10 (l : Launch) (Z : State) (a0 : Array Value) (hw : ∀ d ∈ tables_1, d.before a0 Z = true) (ws : List Jvm.Cond) (a1 : Addr) (x1 : Addr) (x2 : Int32) (x3 : Int32) (ty : Int32) (ch : Value) (sa : Int32) (ln : Int32) (tx : Value) (ns : Value) (lo : Value) (qn : Value) (h0 : Heap) (n0 : Nat) (Z0 : n0 ≤ h0.size) (V1 : own_Ev Z h0 a1 ty ch sa ln tx ns lo qn) (g1 : n0 ≤ a1) :
    MetFree l (⟨"com/example/dipper/dipper/stream/ScannedEvent", "characters", "([CII)V"⟩ : MethodName) (head1 (Jvm.Cond.code (⟨"com/example/dipper/dipper/stream/ScannedEvent", "characters", "([CII)V"⟩ : MethodName) prog_162_method_4_code 4 none :: ws) ({ frames := 0, cells := 0, slots := 0, locals := 0 } : Room)) (fun a U => a = #[(.ref a1), (.ref x1), (.int x2), (.int x3)] ∧ Z.Warmed39 U.vm ∧ U.heap = h0) (fun _ _ _ _ _ => True) (fun _ U o U' => ∃ v L, o = .returned v ∧ (Q_10 Z a1 x1 x2 x3 ty ch sa ln tx ns lo qn h0 n0) v U'.heap L ∧ FrameEnd U o U' L ({ frames := 0, cells := 0, slots := 0, locals := 0 } : Room).cells ({ frames := 0, cells := 0, slots := 0, locals := 0 } : Room).slots) := by
  refine MetFree.of_bodySF pn_10 hisR ?_
  intro p e s m args below meth c s₁ Bd hml0 hP hK
  obtain ⟨rfl, hZ, hh⟩ := hP
  have hx := Bd.exec
  have hby := Bd.bytes
  have hlk : meth.locks = false := BodyLoose.notSynchronized Bd
  have hml : c.maxLocals = 4 := hml0
  have hown : s.vm.findClass "com/example/dipper/dipper/stream/ScannedEvent" = some m.cls := findClass_of_methodNamed Bd.named
  have hnm := (name_of_methodNamed Bd.named Bd.method).1
  have X0 : Stand p l e ({ frames := 0, cells := 0, slots := 0, locals := 0 } : Room) s m #[(.ref a1), (.ref x1), (.int x2), (.int x3)] below meth c s₁ [] 0 0 := Stand.of_body Bd
  have e0 : s₁.heap = h0 := by rw [← hh, Bd.state]; rfl
  have N0 := Fr.nil n0
  refine own_enter (Q := (Q_10 Z a1 x1 x2 x3 ty ch sa ln tx ns lo qn h0 n0)) (cs := 0) (ss := 0) (ef_10 m a1 x1 x2 x3 ty ch sa ln tx ns lo qn) ?_
  show Goes p e below (EndN s 0 0 (Q_10 Z a1 x1 x2 x3 ty ch sa ln tx ns lo qn h0 n0)) s₁ (mkF m 0 #[.val (.ref a1), .val (.ref x1), .val (.int x2), .val (.int x3)] [])
  obtain ⟨E1, F0, F1, F2, F3, F4, F5, F6, F7⟩ := V1
  refine own_aloadN (pc' := 1) X0 hx (hb hby d12_0) rfl rfl rfl ?_
  refine own_aloadN (pc' := 2) X0 hx (hb hby d12_1) rfl rfl rfl ?_
  obtain ⟨T129, h129, X129, e129, W129, st129⟩ := putF X0 hx hZ hown (host := "") (Or.inl (hw _ (List.mem_of_getElem? (i := 81) rfl))) Via.refl e0 F1 E1 (Or.inl (hw _ (List.mem_of_getElem? (i := 82) rfl))) (hw _ (List.mem_of_getElem? (i := 22) rfl)) (ty := (.array .char)) (by decide) rfl rfl (g := (mkF m 2 #[.val (.ref a1), .val (.ref x1), .val (.int x2), .val (.int x3)] [(.ref x1), (.ref a1)])) rfl rfl (hb hby d12_2)
  have N129 := Fr.snoc X129 N0 g1
  refine Goes.pre st129 ?_
  show Goes p e below (EndN s 0 0 (Q_10 Z a1 x1 x2 x3 ty ch sa ln tx ns lo qn h0 n0)) T129 (mkF m 5 #[.val (.ref a1), .val (.ref x1), .val (.int x2), .val (.int x3)] [])
  have F129_a1_type := F0.other W129 (Or.inr (slot_ne (Or.inl (hw _ (List.mem_of_getElem? (i := 80) rfl))) (Or.inl (hw _ (List.mem_of_getElem? (i := 82) rfl))) (by decide) (t := .int) (t' := (.array .char)) (by decide) (by decide)))
  have F129_a1_characters := F1.same W129
  have F129_a1_start := F2.other W129 (Or.inr (slot_ne (Or.inl (hw _ (List.mem_of_getElem? (i := 84) rfl))) (Or.inl (hw _ (List.mem_of_getElem? (i := 82) rfl))) (by decide) (t := .int) (t' := (.array .char)) (by decide) (by decide)))
  have F129_a1_length := F3.other W129 (Or.inr (slot_ne (Or.inl (hw _ (List.mem_of_getElem? (i := 86) rfl))) (Or.inl (hw _ (List.mem_of_getElem? (i := 82) rfl))) (by decide) (t := .int) (t' := (.array .char)) (by decide) (by decide)))
  have F129_a1_text := F4.other W129 (Or.inr (slot_ne (Or.inl (hw _ (List.mem_of_getElem? (i := 88) rfl))) (Or.inl (hw _ (List.mem_of_getElem? (i := 82) rfl))) (by decide) (t := (.object "java/lang/String")) (t' := (.array .char)) (by decide) (by decide)))
  have F129_a1_namespace := F5.other W129 (Or.inr (slot_ne (Or.inl (hw _ (List.mem_of_getElem? (i := 90) rfl))) (Or.inl (hw _ (List.mem_of_getElem? (i := 82) rfl))) (by decide) (t := (.object "java/lang/String")) (t' := (.array .char)) (by decide) (by decide)))
  have F129_a1_localName := F6.other W129 (Or.inr (slot_ne (Or.inl (hw _ (List.mem_of_getElem? (i := 92) rfl))) (Or.inl (hw _ (List.mem_of_getElem? (i := 82) rfl))) (by decide) (t := (.object "java/lang/String")) (t' := (.array .char)) (by decide) (by decide)))
  have F129_a1_qualifiedName := F7.other W129 (Or.inr (slot_ne (Or.inl (hw _ (List.mem_of_getElem? (i := 94) rfl))) (Or.inl (hw _ (List.mem_of_getElem? (i := 82) rfl))) (by decide) (t := (.object "java/lang/String")) (t' := (.array .char)) (by decide) (by decide)))
  have E129_a1 := E1.wr W129
  have K129 := Keep.wr (Keep.refl h0 [a1]) W129 (Or.inl (List.mem_of_getElem? (i := 0) rfl))
  refine own_aloadN (pc' := 6) X129 hx (hb hby d12_5) rfl rfl rfl ?_
  refine own_iloadN (pc' := 7) X129 hx (hb hby d12_6) rfl rfl ?_
  obtain ⟨T130, h130, X130, e130, W130, st130⟩ := putF X129 hx hZ hown (host := "") (Or.inl (hw _ (List.mem_of_getElem? (i := 83) rfl))) Via.refl e129 F129_a1_start E129_a1 (Or.inl (hw _ (List.mem_of_getElem? (i := 84) rfl))) (hw _ (List.mem_of_getElem? (i := 22) rfl)) (ty := .int) (by decide) rfl rfl (g := (mkF m 7 #[.val (.ref a1), .val (.ref x1), .val (.int x2), .val (.int x3)] [(.int x2), (.ref a1)])) rfl rfl (hb hby d12_7)
  have N130 := Fr.snoc X130 N129 g1
  refine Goes.pre st130 ?_
  show Goes p e below (EndN s 0 0 (Q_10 Z a1 x1 x2 x3 ty ch sa ln tx ns lo qn h0 n0)) T130 (mkF m 10 #[.val (.ref a1), .val (.ref x1), .val (.int x2), .val (.int x3)] [])
  have F130_a1_type := F129_a1_type.other W130 (Or.inr (slot_ne (Or.inl (hw _ (List.mem_of_getElem? (i := 80) rfl))) (Or.inl (hw _ (List.mem_of_getElem? (i := 84) rfl))) (by decide) (t := .int) (t' := .int) (by decide) (by decide)))
  have F130_a1_characters := F129_a1_characters.other W130 (Or.inr (slot_ne (Or.inl (hw _ (List.mem_of_getElem? (i := 82) rfl))) (Or.inl (hw _ (List.mem_of_getElem? (i := 84) rfl))) (by decide) (t := (.array .char)) (t' := .int) (by decide) (by decide)))
  have F130_a1_start := F129_a1_start.same W130
  have F130_a1_length := F129_a1_length.other W130 (Or.inr (slot_ne (Or.inl (hw _ (List.mem_of_getElem? (i := 86) rfl))) (Or.inl (hw _ (List.mem_of_getElem? (i := 84) rfl))) (by decide) (t := .int) (t' := .int) (by decide) (by decide)))
  have F130_a1_text := F129_a1_text.other W130 (Or.inr (slot_ne (Or.inl (hw _ (List.mem_of_getElem? (i := 88) rfl))) (Or.inl (hw _ (List.mem_of_getElem? (i := 84) rfl))) (by decide) (t := (.object "java/lang/String")) (t' := .int) (by decide) (by decide)))
  have F130_a1_namespace := F129_a1_namespace.other W130 (Or.inr (slot_ne (Or.inl (hw _ (List.mem_of_getElem? (i := 90) rfl))) (Or.inl (hw _ (List.mem_of_getElem? (i := 84) rfl))) (by decide) (t := (.object "java/lang/String")) (t' := .int) (by decide) (by decide)))
  have F130_a1_localName := F129_a1_localName.other W130 (Or.inr (slot_ne (Or.inl (hw _ (List.mem_of_getElem? (i := 92) rfl))) (Or.inl (hw _ (List.mem_of_getElem? (i := 84) rfl))) (by decide) (t := (.object "java/lang/String")) (t' := .int) (by decide) (by decide)))
  have F130_a1_qualifiedName := F129_a1_qualifiedName.other W130 (Or.inr (slot_ne (Or.inl (hw _ (List.mem_of_getElem? (i := 94) rfl))) (Or.inl (hw _ (List.mem_of_getElem? (i := 84) rfl))) (by decide) (t := (.object "java/lang/String")) (t' := .int) (by decide) (by decide)))
  have E130_a1 := E129_a1.wr W130
  have K130 := Keep.wr K129 W130 (Or.inl (List.mem_of_getElem? (i := 0) rfl))
  refine own_aloadN (pc' := 11) X130 hx (hb hby d12_10) rfl rfl rfl ?_
  refine own_iloadN (pc' := 12) X130 hx (hb hby d12_11) rfl rfl ?_
  obtain ⟨T131, h131, X131, e131, W131, st131⟩ := putF X130 hx hZ hown (host := "") (Or.inl (hw _ (List.mem_of_getElem? (i := 85) rfl))) Via.refl e130 F130_a1_length E130_a1 (Or.inl (hw _ (List.mem_of_getElem? (i := 86) rfl))) (hw _ (List.mem_of_getElem? (i := 22) rfl)) (ty := .int) (by decide) rfl rfl (g := (mkF m 12 #[.val (.ref a1), .val (.ref x1), .val (.int x2), .val (.int x3)] [(.int x3), (.ref a1)])) rfl rfl (hb hby d12_12)
  have N131 := Fr.snoc X131 N130 g1
  refine Goes.pre st131 ?_
  show Goes p e below (EndN s 0 0 (Q_10 Z a1 x1 x2 x3 ty ch sa ln tx ns lo qn h0 n0)) T131 (mkF m 15 #[.val (.ref a1), .val (.ref x1), .val (.int x2), .val (.int x3)] [])
  have F131_a1_type := F130_a1_type.other W131 (Or.inr (slot_ne (Or.inl (hw _ (List.mem_of_getElem? (i := 80) rfl))) (Or.inl (hw _ (List.mem_of_getElem? (i := 86) rfl))) (by decide) (t := .int) (t' := .int) (by decide) (by decide)))
  have F131_a1_characters := F130_a1_characters.other W131 (Or.inr (slot_ne (Or.inl (hw _ (List.mem_of_getElem? (i := 82) rfl))) (Or.inl (hw _ (List.mem_of_getElem? (i := 86) rfl))) (by decide) (t := (.array .char)) (t' := .int) (by decide) (by decide)))
  have F131_a1_start := F130_a1_start.other W131 (Or.inr (slot_ne (Or.inl (hw _ (List.mem_of_getElem? (i := 84) rfl))) (Or.inl (hw _ (List.mem_of_getElem? (i := 86) rfl))) (by decide) (t := .int) (t' := .int) (by decide) (by decide)))
  have F131_a1_length := F130_a1_length.same W131
  have F131_a1_text := F130_a1_text.other W131 (Or.inr (slot_ne (Or.inl (hw _ (List.mem_of_getElem? (i := 88) rfl))) (Or.inl (hw _ (List.mem_of_getElem? (i := 86) rfl))) (by decide) (t := (.object "java/lang/String")) (t' := .int) (by decide) (by decide)))
  have F131_a1_namespace := F130_a1_namespace.other W131 (Or.inr (slot_ne (Or.inl (hw _ (List.mem_of_getElem? (i := 90) rfl))) (Or.inl (hw _ (List.mem_of_getElem? (i := 86) rfl))) (by decide) (t := (.object "java/lang/String")) (t' := .int) (by decide) (by decide)))
  have F131_a1_localName := F130_a1_localName.other W131 (Or.inr (slot_ne (Or.inl (hw _ (List.mem_of_getElem? (i := 92) rfl))) (Or.inl (hw _ (List.mem_of_getElem? (i := 86) rfl))) (by decide) (t := (.object "java/lang/String")) (t' := .int) (by decide) (by decide)))
  have F131_a1_qualifiedName := F130_a1_qualifiedName.other W131 (Or.inr (slot_ne (Or.inl (hw _ (List.mem_of_getElem? (i := 94) rfl))) (Or.inl (hw _ (List.mem_of_getElem? (i := 86) rfl))) (by decide) (t := (.object "java/lang/String")) (t' := .int) (by decide) (by decide)))
  have E131_a1 := E130_a1.wr W131
  have K131 := Keep.wr K130 W131 (Or.inl (List.mem_of_getElem? (i := 0) rfl))
  exact own_ret0 X131 hx hlk Bd.returns (hb hby d12_15) (by decide) (by decide) (by rw [e131]; exact ⟨rfl, N131, K131, ⟨E131_a1, F131_a1_type, F131_a1_characters, F131_a1_start, F131_a1_length, F131_a1_text, F131_a1_namespace, F131_a1_localName, F131_a1_qualifiedName⟩⟩)
theorem d22_0 : decode prog_162_method_3_code 0 = .ok (.aload_n 0, 1) := by decide +kernel
theorem d22_1 : decode prog_162_method_3_code 1 = .ok (.aload_n 1, 1) := by decide +kernel
theorem d22_2 : decode prog_162_method_3_code 2 = .ok (.putfield 27, 3) := by decide +kernel
theorem d22_5 : decode prog_162_method_3_code 5 = .ok (.aload_n 0, 1) := by decide +kernel
theorem d22_6 : decode prog_162_method_3_code 6 = .ok (.aload_n 2, 1) := by decide +kernel
theorem d22_7 : decode prog_162_method_3_code 7 = .ok (.putfield 30, 3) := by decide +kernel
theorem d22_10 : decode prog_162_method_3_code 10 = .ok (.aload_n 0, 1) := by decide +kernel
theorem d22_11 : decode prog_162_method_3_code 11 = .ok (.aload_n 3, 1) := by decide +kernel
theorem d22_12 : decode prog_162_method_3_code 12 = .ok (.putfield 33, 3) := by decide +kernel
theorem d22_15 : decode prog_162_method_3_code 15 = .ok (.return_, 1) := by decide +kernel
theorem pn_11 : plainFor (⟨"com/example/dipper/dipper/stream/ScannedEvent", "name", "(Ljava/lang/String;Ljava/lang/String;Ljava/lang/String;)V"⟩ : MethodName) = true := by first | (refine plainFor_of_name ?_; simp [plainName, overriddenIn]; done) | decide +kernel
theorem pd_11 : parseMethodDescriptor "(Ljava/lang/String;Ljava/lang/String;Ljava/lang/String;)V" = some ⟨[(.object "java/lang/String"), (.object "java/lang/String"), (.object "java/lang/String")], none⟩ := by decide +kernel
theorem ef_11 (m : MethodId) (a1 : Addr) (x1 : Addr) (x2 : Addr) (x3 : Addr) (ty : Int32) (ch : Value) (sa : Int32) (ln : Int32) (tx : Value) (ns : Value) (lo : Value) (qn : Value) : entryFrame m #[(.ref a1), (.ref x1), (.ref x2), (.ref x3)] 4 = mkF m 0 #[.val (.ref a1), .val (.ref x1), .val (.ref x2), .val (.ref x3)] [] := by first | (simp [entryFrame, mkF, argsToLocals, Value.category]; done) | rfl
def Q_11 (Z : State) (a1 : Addr) (x1 : Addr) (x2 : Addr) (x3 : Addr) (ty : Int32) (ch : Value) (sa : Int32) (ln : Int32) (tx : Value) (ns : Value) (lo : Value) (qn : Value) (h0 : Heap) (n0 : Nat) (v : Option Value) (h : Heap) (L : List Loc) : Prop := v = none ∧ Fr n0 L ∧ Keep h0 h [a1] ∧ own_Ev Z h a1 ty ch sa ln tx (.ref x1) (.ref x2) (.ref x3)
set_option maxRecDepth 65536 in
set_option maxHeartbeats 40000000 in
theorem rm_11 (l : Launch) (Z : State) (a0 : Array Value) (hw : ∀ d ∈ tables_1, d.before a0 Z = true) (ws : List Jvm.Cond) (a1 : Addr) (x1 : Addr) (x2 : Addr) (x3 : Addr) (ty : Int32) (ch : Value) (sa : Int32) (ln : Int32) (tx : Value) (ns : Value) (lo : Value) (qn : Value) (h0 : Heap) (n0 : Nat) (Z0 : n0 ≤ h0.size) (V1 : own_Ev Z h0 a1 ty ch sa ln tx ns lo qn) (g1 : n0 ≤ a1) :
    MetFree l (⟨"com/example/dipper/dipper/stream/ScannedEvent", "name", "(Ljava/lang/String;Ljava/lang/String;Ljava/lang/String;)V"⟩ : MethodName) (head1 (Jvm.Cond.code (⟨"com/example/dipper/dipper/stream/ScannedEvent", "name", "(Ljava/lang/String;Ljava/lang/String;Ljava/lang/String;)V"⟩ : MethodName) prog_162_method_3_code 4 none :: ws) ({ frames := 0, cells := 0, slots := 0, locals := 0 } : Room)) (fun a U => a = #[(.ref a1), (.ref x1), (.ref x2), (.ref x3)] ∧ Z.Warmed39 U.vm ∧ U.heap = h0) (fun _ _ _ _ _ => True) (fun _ U o U' => ∃ v L, o = .returned v ∧ (Q_11 Z a1 x1 x2 x3 ty ch sa ln tx ns lo qn h0 n0) v U'.heap L ∧ FrameEnd U o U' L ({ frames := 0, cells := 0, slots := 0, locals := 0 } : Room).cells ({ frames := 0, cells := 0, slots := 0, locals := 0 } : Room).slots) := by
  refine MetFree.of_bodySF pn_11 hisR ?_
  intro p e s m args below meth c s₁ Bd hml0 hP hK
  obtain ⟨rfl, hZ, hh⟩ := hP
  have hx := Bd.exec
  have hby := Bd.bytes
  have hlk : meth.locks = false := BodyLoose.notSynchronized Bd
  have hml : c.maxLocals = 4 := hml0
  have hown : s.vm.findClass "com/example/dipper/dipper/stream/ScannedEvent" = some m.cls := findClass_of_methodNamed Bd.named
  have hnm := (name_of_methodNamed Bd.named Bd.method).1
  have X0 : Stand p l e ({ frames := 0, cells := 0, slots := 0, locals := 0 } : Room) s m #[(.ref a1), (.ref x1), (.ref x2), (.ref x3)] below meth c s₁ [] 0 0 := Stand.of_body Bd
  have e0 : s₁.heap = h0 := by rw [← hh, Bd.state]; rfl
  have N0 := Fr.nil n0
  refine own_enter (Q := (Q_11 Z a1 x1 x2 x3 ty ch sa ln tx ns lo qn h0 n0)) (cs := 0) (ss := 0) (ef_11 m a1 x1 x2 x3 ty ch sa ln tx ns lo qn) ?_
  show Goes p e below (EndN s 0 0 (Q_11 Z a1 x1 x2 x3 ty ch sa ln tx ns lo qn h0 n0)) s₁ (mkF m 0 #[.val (.ref a1), .val (.ref x1), .val (.ref x2), .val (.ref x3)] [])
  obtain ⟨E1, F0, F1, F2, F3, F4, F5, F6, F7⟩ := V1
  refine own_aloadN (pc' := 1) X0 hx (hb hby d22_0) rfl rfl rfl ?_
  refine own_aloadN (pc' := 2) X0 hx (hb hby d22_1) rfl rfl rfl ?_
  obtain ⟨T132, h132, X132, e132, W132, st132⟩ := putF X0 hx hZ hown (host := "") (Or.inl (hw _ (List.mem_of_getElem? (i := 89) rfl))) Via.refl e0 F5 E1 (Or.inl (hw _ (List.mem_of_getElem? (i := 90) rfl))) (hw _ (List.mem_of_getElem? (i := 22) rfl)) (ty := (.object "java/lang/String")) (by decide) rfl rfl (g := (mkF m 2 #[.val (.ref a1), .val (.ref x1), .val (.ref x2), .val (.ref x3)] [(.ref x1), (.ref a1)])) rfl rfl (hb hby d22_2)
  have N132 := Fr.snoc X132 N0 g1
  refine Goes.pre st132 ?_
  show Goes p e below (EndN s 0 0 (Q_11 Z a1 x1 x2 x3 ty ch sa ln tx ns lo qn h0 n0)) T132 (mkF m 5 #[.val (.ref a1), .val (.ref x1), .val (.ref x2), .val (.ref x3)] [])
  have F132_a1_type := F0.other W132 (Or.inr (slot_ne (Or.inl (hw _ (List.mem_of_getElem? (i := 80) rfl))) (Or.inl (hw _ (List.mem_of_getElem? (i := 90) rfl))) (by decide) (t := .int) (t' := (.object "java/lang/String")) (by decide) (by decide)))
  have F132_a1_characters := F1.other W132 (Or.inr (slot_ne (Or.inl (hw _ (List.mem_of_getElem? (i := 82) rfl))) (Or.inl (hw _ (List.mem_of_getElem? (i := 90) rfl))) (by decide) (t := (.array .char)) (t' := (.object "java/lang/String")) (by decide) (by decide)))
  have F132_a1_start := F2.other W132 (Or.inr (slot_ne (Or.inl (hw _ (List.mem_of_getElem? (i := 84) rfl))) (Or.inl (hw _ (List.mem_of_getElem? (i := 90) rfl))) (by decide) (t := .int) (t' := (.object "java/lang/String")) (by decide) (by decide)))
  have F132_a1_length := F3.other W132 (Or.inr (slot_ne (Or.inl (hw _ (List.mem_of_getElem? (i := 86) rfl))) (Or.inl (hw _ (List.mem_of_getElem? (i := 90) rfl))) (by decide) (t := .int) (t' := (.object "java/lang/String")) (by decide) (by decide)))
  have F132_a1_text := F4.other W132 (Or.inr (slot_ne (Or.inl (hw _ (List.mem_of_getElem? (i := 88) rfl))) (Or.inl (hw _ (List.mem_of_getElem? (i := 90) rfl))) (by decide) (t := (.object "java/lang/String")) (t' := (.object "java/lang/String")) (by decide) (by decide)))
  have F132_a1_namespace := F5.same W132
  have F132_a1_localName := F6.other W132 (Or.inr (slot_ne (Or.inl (hw _ (List.mem_of_getElem? (i := 92) rfl))) (Or.inl (hw _ (List.mem_of_getElem? (i := 90) rfl))) (by decide) (t := (.object "java/lang/String")) (t' := (.object "java/lang/String")) (by decide) (by decide)))
  have F132_a1_qualifiedName := F7.other W132 (Or.inr (slot_ne (Or.inl (hw _ (List.mem_of_getElem? (i := 94) rfl))) (Or.inl (hw _ (List.mem_of_getElem? (i := 90) rfl))) (by decide) (t := (.object "java/lang/String")) (t' := (.object "java/lang/String")) (by decide) (by decide)))
  have E132_a1 := E1.wr W132
  have K132 := Keep.wr (Keep.refl h0 [a1]) W132 (Or.inl (List.mem_of_getElem? (i := 0) rfl))
  refine own_aloadN (pc' := 6) X132 hx (hb hby d22_5) rfl rfl rfl ?_
  refine own_aloadN (pc' := 7) X132 hx (hb hby d22_6) rfl rfl rfl ?_
  obtain ⟨T133, h133, X133, e133, W133, st133⟩ := putF X132 hx hZ hown (host := "") (Or.inl (hw _ (List.mem_of_getElem? (i := 91) rfl))) Via.refl e132 F132_a1_localName E132_a1 (Or.inl (hw _ (List.mem_of_getElem? (i := 92) rfl))) (hw _ (List.mem_of_getElem? (i := 22) rfl)) (ty := (.object "java/lang/String")) (by decide) rfl rfl (g := (mkF m 7 #[.val (.ref a1), .val (.ref x1), .val (.ref x2), .val (.ref x3)] [(.ref x2), (.ref a1)])) rfl rfl (hb hby d22_7)
  have N133 := Fr.snoc X133 N132 g1
  refine Goes.pre st133 ?_
  show Goes p e below (EndN s 0 0 (Q_11 Z a1 x1 x2 x3 ty ch sa ln tx ns lo qn h0 n0)) T133 (mkF m 10 #[.val (.ref a1), .val (.ref x1), .val (.ref x2), .val (.ref x3)] [])
  have F133_a1_type := F132_a1_type.other W133 (Or.inr (slot_ne (Or.inl (hw _ (List.mem_of_getElem? (i := 80) rfl))) (Or.inl (hw _ (List.mem_of_getElem? (i := 92) rfl))) (by decide) (t := .int) (t' := (.object "java/lang/String")) (by decide) (by decide)))
  have F133_a1_characters := F132_a1_characters.other W133 (Or.inr (slot_ne (Or.inl (hw _ (List.mem_of_getElem? (i := 82) rfl))) (Or.inl (hw _ (List.mem_of_getElem? (i := 92) rfl))) (by decide) (t := (.array .char)) (t' := (.object "java/lang/String")) (by decide) (by decide)))
  have F133_a1_start := F132_a1_start.other W133 (Or.inr (slot_ne (Or.inl (hw _ (List.mem_of_getElem? (i := 84) rfl))) (Or.inl (hw _ (List.mem_of_getElem? (i := 92) rfl))) (by decide) (t := .int) (t' := (.object "java/lang/String")) (by decide) (by decide)))
  have F133_a1_length := F132_a1_length.other W133 (Or.inr (slot_ne (Or.inl (hw _ (List.mem_of_getElem? (i := 86) rfl))) (Or.inl (hw _ (List.mem_of_getElem? (i := 92) rfl))) (by decide) (t := .int) (t' := (.object "java/lang/String")) (by decide) (by decide)))
  have F133_a1_text := F132_a1_text.other W133 (Or.inr (slot_ne (Or.inl (hw _ (List.mem_of_getElem? (i := 88) rfl))) (Or.inl (hw _ (List.mem_of_getElem? (i := 92) rfl))) (by decide) (t := (.object "java/lang/String")) (t' := (.object "java/lang/String")) (by decide) (by decide)))
  have F133_a1_namespace := F132_a1_namespace.other W133 (Or.inr (slot_ne (Or.inl (hw _ (List.mem_of_getElem? (i := 90) rfl))) (Or.inl (hw _ (List.mem_of_getElem? (i := 92) rfl))) (by decide) (t := (.object "java/lang/String")) (t' := (.object "java/lang/String")) (by decide) (by decide)))
  have F133_a1_localName := F132_a1_localName.same W133
  have F133_a1_qualifiedName := F132_a1_qualifiedName.other W133 (Or.inr (slot_ne (Or.inl (hw _ (List.mem_of_getElem? (i := 94) rfl))) (Or.inl (hw _ (List.mem_of_getElem? (i := 92) rfl))) (by decide) (t := (.object "java/lang/String")) (t' := (.object "java/lang/String")) (by decide) (by decide)))
  have E133_a1 := E132_a1.wr W133
  have K133 := Keep.wr K132 W133 (Or.inl (List.mem_of_getElem? (i := 0) rfl))
  refine own_aloadN (pc' := 11) X133 hx (hb hby d22_10) rfl rfl rfl ?_
  refine own_aloadN (pc' := 12) X133 hx (hb hby d22_11) rfl rfl rfl ?_
  obtain ⟨T134, h134, X134, e134, W134, st134⟩ := putF X133 hx hZ hown (host := "") (Or.inl (hw _ (List.mem_of_getElem? (i := 93) rfl))) Via.refl e133 F133_a1_qualifiedName E133_a1 (Or.inl (hw _ (List.mem_of_getElem? (i := 94) rfl))) (hw _ (List.mem_of_getElem? (i := 22) rfl)) (ty := (.object "java/lang/String")) (by decide) rfl rfl (g := (mkF m 12 #[.val (.ref a1), .val (.ref x1), .val (.ref x2), .val (.ref x3)] [(.ref x3), (.ref a1)])) rfl rfl (hb hby d22_12)
  have N134 := Fr.snoc X134 N133 g1
  refine Goes.pre st134 ?_
  show Goes p e below (EndN s 0 0 (Q_11 Z a1 x1 x2 x3 ty ch sa ln tx ns lo qn h0 n0)) T134 (mkF m 15 #[.val (.ref a1), .val (.ref x1), .val (.ref x2), .val (.ref x3)] [])
  have F134_a1_type := F133_a1_type.other W134 (Or.inr (slot_ne (Or.inl (hw _ (List.mem_of_getElem? (i := 80) rfl))) (Or.inl (hw _ (List.mem_of_getElem? (i := 94) rfl))) (by decide) (t := .int) (t' := (.object "java/lang/String")) (by decide) (by decide)))
  have F134_a1_characters := F133_a1_characters.other W134 (Or.inr (slot_ne (Or.inl (hw _ (List.mem_of_getElem? (i := 82) rfl))) (Or.inl (hw _ (List.mem_of_getElem? (i := 94) rfl))) (by decide) (t := (.array .char)) (t' := (.object "java/lang/String")) (by decide) (by decide)))
  have F134_a1_start := F133_a1_start.other W134 (Or.inr (slot_ne (Or.inl (hw _ (List.mem_of_getElem? (i := 84) rfl))) (Or.inl (hw _ (List.mem_of_getElem? (i := 94) rfl))) (by decide) (t := .int) (t' := (.object "java/lang/String")) (by decide) (by decide)))
  have F134_a1_length := F133_a1_length.other W134 (Or.inr (slot_ne (Or.inl (hw _ (List.mem_of_getElem? (i := 86) rfl))) (Or.inl (hw _ (List.mem_of_getElem? (i := 94) rfl))) (by decide) (t := .int) (t' := (.object "java/lang/String")) (by decide) (by decide)))
  have F134_a1_text := F133_a1_text.other W134 (Or.inr (slot_ne (Or.inl (hw _ (List.mem_of_getElem? (i := 88) rfl))) (Or.inl (hw _ (List.mem_of_getElem? (i := 94) rfl))) (by decide) (t := (.object "java/lang/String")) (t' := (.object "java/lang/String")) (by decide) (by decide)))
  have F134_a1_namespace := F133_a1_namespace.other W134 (Or.inr (slot_ne (Or.inl (hw _ (List.mem_of_getElem? (i := 90) rfl))) (Or.inl (hw _ (List.mem_of_getElem? (i := 94) rfl))) (by decide) (t := (.object "java/lang/String")) (t' := (.object "java/lang/String")) (by decide) (by decide)))
  have F134_a1_localName := F133_a1_localName.other W134 (Or.inr (slot_ne (Or.inl (hw _ (List.mem_of_getElem? (i := 92) rfl))) (Or.inl (hw _ (List.mem_of_getElem? (i := 94) rfl))) (by decide) (t := (.object "java/lang/String")) (t' := (.object "java/lang/String")) (by decide) (by decide)))
  have F134_a1_qualifiedName := F133_a1_qualifiedName.same W134
  have E134_a1 := E133_a1.wr W134
  have K134 := Keep.wr K133 W134 (Or.inl (List.mem_of_getElem? (i := 0) rfl))
  exact own_ret0 X134 hx hlk Bd.returns (hb hby d22_15) (by decide) (by decide) (by rw [e134]; exact ⟨rfl, N134, K134, ⟨E134_a1, F134_a1_type, F134_a1_characters, F134_a1_start, F134_a1_length, F134_a1_text, F134_a1_namespace, F134_a1_localName, F134_a1_qualifiedName⟩⟩)
section OwnQ
variable {Z : State} {a0 : Array Value} {h h' : Heap} {q qa ev : Addr} {vs : List Value} {hd ct : Int32}
theorem own_Q.neQ (F : own_Q Z h q qa vs hd ct) (E : Exa Z h ev "com/example/dipper/dipper/stream/ScannedEvent") : q ≠ ev := ne_exa F.1 E (by decide)
theorem own_RA.neE {a : Addr} (hw : ∀ d ∈ tables_1, d.before a0 Z = true) (F : own_RA Z h a vs) (E : Exa Z h ev "com/example/dipper/dipper/stream/ScannedEvent") : a ≠ ev := by
  obtain ⟨c, A, -⟩ := F
  exact (ne_arr E (own_wE hw) A).symm
theorem own_RA.neQ {a : Addr} (hw : ∀ d ∈ tables_1, d.before a0 Z = true) (F : own_RA Z h a vs) (E : Exa Z h q "com/example/dipper/dipper/stream/ScannedEvents") : a ≠ q := by
  obtain ⟨c, A, -⟩ := F
  exact (ne_arr E (own_wQ hw) A).symm
end OwnQ
/-- what 'add' asks: a free event, or the full queue of four that starts at one -/
def own_AP (Z : State) (n0 : Nat) (h0 : Heap) (vs : List Value) (hd ct : Int32) : Prop :=
  (vs.length = 4 ∧ ¬ ct = (4 : Int32) ∧ ¬ ((hd + ct) % (4 : Int32)) < 0 ∧ ∃ ev : Addr, vs[((hd + ct) % (4 : Int32)).toNatClampNeg]? = some (.ref ev) ∧ n0 ≤ ev ∧ ∃ (ty : Int32) (ch : Value) (sa : Int32) (ln : Int32) (tx : Value) (ns : Value) (lo : Value) (qn : Value), own_Ev Z h0 ev ty ch sa ln tx ns lo qn) ∨
  (hd = (1 : Int32) ∧ ct = (4 : Int32) ∧ ∃ e0 e1 e2 e3 : Addr, vs = [.ref e0, .ref e1, .ref e2, .ref e3] ∧ Exa Z h0 e0 "com/example/dipper/dipper/stream/ScannedEvent" ∧ Exa Z h0 e1 "com/example/dipper/dipper/stream/ScannedEvent" ∧ Exa Z h0 e2 "com/example/dipper/dipper/stream/ScannedEvent" ∧ Exa Z h0 e3 "com/example/dipper/dipper/stream/ScannedEvent")
/-- .. and what it leaves of the queue -/
def own_AR (h0 : Heap) (q qa : Addr) (vs : List Value) (hd ct : Int32) (qb : Addr) (us : List Value) (hq : Int32) (ev : Addr) (wr : List Addr) : Prop :=
  (¬ ct = (4 : Int32) ∧ qb = qa ∧ us = vs ∧ hq = hd ∧ wr = [q, ev] ∧ vs[((hd + ct) % (4 : Int32)).toNatClampNeg]? = some (.ref ev)) ∨
  (ct = (4 : Int32) ∧ wr = [q] ∧ hq = (0 : Int32) ∧ Array.size h0 ≤ ev ∧ Array.size h0 ≤ qb ∧ ∃ e0 e1 e2 e3 n5 n6 n7 : Addr, vs = [.ref e0, .ref e1, .ref e2, .ref e3] ∧ us = [.ref e1, .ref e2, .ref e3, .ref e0, .ref ev, .ref n5, .ref n6, .ref n7])
theorem d10_0 : decode prog_163_method_8_code 0 = .ok (.aload_n 0, 1) := by decide +kernel
theorem d10_1 : decode prog_163_method_8_code 1 = .ok (.getfield 32, 3) := by decide +kernel
theorem d10_4 : decode prog_163_method_8_code 4 = .ok (.aload_n 0, 1) := by decide +kernel
theorem d10_5 : decode prog_163_method_8_code 5 = .ok (.getfield 9, 3) := by decide +kernel
theorem d10_8 : decode prog_163_method_8_code 8 = .ok (.arraylength, 1) := by decide +kernel
theorem d10_9 : decode prog_163_method_8_code 9 = .ok (.if_icmp .ne 85, 3) := by decide +kernel
theorem d10_12 : decode prog_163_method_8_code 12 = .ok (.aload_n 0, 1) := by decide +kernel
theorem d10_13 : decode prog_163_method_8_code 13 = .ok (.getfield 32, 3) := by decide +kernel
theorem d10_16 : decode prog_163_method_8_code 16 = .ok (.iconst 2, 1) := by decide +kernel
theorem d10_17 : decode prog_163_method_8_code 17 = .ok (.imul, 1) := by decide +kernel
theorem d10_18 : decode prog_163_method_8_code 18 = .ok (.anewarray 7, 3) := by decide +kernel
theorem d10_21 : decode prog_163_method_8_code 21 = .ok (.astore_n 2, 1) := by decide +kernel
theorem d10_22 : decode prog_163_method_8_code 22 = .ok (.iconst 0, 1) := by decide +kernel
theorem d10_23 : decode prog_163_method_8_code 23 = .ok (.istore_n 3, 1) := by decide +kernel
theorem d10_24 : decode prog_163_method_8_code 24 = .ok (.iload_n 3, 1) := by decide +kernel
theorem d10_25 : decode prog_163_method_8_code 25 = .ok (.aload_n 0, 1) := by decide +kernel
theorem d10_26 : decode prog_163_method_8_code 26 = .ok (.getfield 32, 3) := by decide +kernel
theorem d10_29 : decode prog_163_method_8_code 29 = .ok (.if_icmp .ge 28, 3) := by decide +kernel
theorem d10_32 : decode prog_163_method_8_code 32 = .ok (.aload_n 2, 1) := by decide +kernel
theorem d10_33 : decode prog_163_method_8_code 33 = .ok (.iload_n 3, 1) := by decide +kernel
theorem d10_34 : decode prog_163_method_8_code 34 = .ok (.aload_n 0, 1) := by decide +kernel
theorem d10_35 : decode prog_163_method_8_code 35 = .ok (.getfield 9, 3) := by decide +kernel
theorem d10_38 : decode prog_163_method_8_code 38 = .ok (.aload_n 0, 1) := by decide +kernel
theorem d10_39 : decode prog_163_method_8_code 39 = .ok (.getfield 36, 3) := by decide +kernel
theorem d10_42 : decode prog_163_method_8_code 42 = .ok (.iload_n 3, 1) := by decide +kernel
theorem d10_43 : decode prog_163_method_8_code 43 = .ok (.iadd, 1) := by decide +kernel
theorem d10_44 : decode prog_163_method_8_code 44 = .ok (.aload_n 0, 1) := by decide +kernel
theorem d10_45 : decode prog_163_method_8_code 45 = .ok (.getfield 32, 3) := by decide +kernel
theorem d10_48 : decode prog_163_method_8_code 48 = .ok (.irem, 1) := by decide +kernel
theorem d10_49 : decode prog_163_method_8_code 49 = .ok (.aaload, 1) := by decide +kernel
theorem d10_50 : decode prog_163_method_8_code 50 = .ok (.aastore, 1) := by decide +kernel
theorem d10_51 : decode prog_163_method_8_code 51 = .ok (.iinc 3 1, 3) := by decide +kernel
theorem d10_54 : decode prog_163_method_8_code 54 = .ok (.goto (-30), 3) := by decide +kernel
theorem d10_57 : decode prog_163_method_8_code 57 = .ok (.aload_n 0, 1) := by decide +kernel
theorem d10_58 : decode prog_163_method_8_code 58 = .ok (.getfield 32, 3) := by decide +kernel
theorem d10_61 : decode prog_163_method_8_code 61 = .ok (.istore_n 3, 1) := by decide +kernel
theorem d10_62 : decode prog_163_method_8_code 62 = .ok (.iload_n 3, 1) := by decide +kernel
theorem d10_63 : decode prog_163_method_8_code 63 = .ok (.aload_n 2, 1) := by decide +kernel
theorem d10_64 : decode prog_163_method_8_code 64 = .ok (.arraylength, 1) := by decide +kernel
theorem d10_65 : decode prog_163_method_8_code 65 = .ok (.if_icmp .ge 19, 3) := by decide +kernel
theorem d10_68 : decode prog_163_method_8_code 68 = .ok (.aload_n 2, 1) := by decide +kernel
theorem d10_69 : decode prog_163_method_8_code 69 = .ok (.iload_n 3, 1) := by decide +kernel
theorem d10_70 : decode prog_163_method_8_code 70 = .ok (.new 7, 3) := by decide +kernel
theorem d10_73 : decode prog_163_method_8_code 73 = .ok (.dup, 1) := by decide +kernel
theorem d10_74 : decode prog_163_method_8_code 74 = .ok (.invokespecial 31, 3) := by decide +kernel
theorem d10_77 : decode prog_163_method_8_code 77 = .ok (.aastore, 1) := by decide +kernel
theorem d10_78 : decode prog_163_method_8_code 78 = .ok (.iinc 3 1, 3) := by decide +kernel
theorem d10_81 : decode prog_163_method_8_code 81 = .ok (.goto (-19), 3) := by decide +kernel
theorem d10_84 : decode prog_163_method_8_code 84 = .ok (.aload_n 0, 1) := by decide +kernel
theorem d10_85 : decode prog_163_method_8_code 85 = .ok (.aload_n 2, 1) := by decide +kernel
theorem d10_86 : decode prog_163_method_8_code 86 = .ok (.putfield 9, 3) := by decide +kernel
theorem d10_89 : decode prog_163_method_8_code 89 = .ok (.aload_n 0, 1) := by decide +kernel
theorem d10_90 : decode prog_163_method_8_code 90 = .ok (.iconst 0, 1) := by decide +kernel
theorem d10_91 : decode prog_163_method_8_code 91 = .ok (.putfield 36, 3) := by decide +kernel
theorem d10_94 : decode prog_163_method_8_code 94 = .ok (.aload_n 0, 1) := by decide +kernel
theorem d10_95 : decode prog_163_method_8_code 95 = .ok (.getfield 9, 3) := by decide +kernel
theorem d10_98 : decode prog_163_method_8_code 98 = .ok (.aload_n 0, 1) := by decide +kernel
theorem d10_99 : decode prog_163_method_8_code 99 = .ok (.getfield 36, 3) := by decide +kernel
theorem d10_102 : decode prog_163_method_8_code 102 = .ok (.aload_n 0, 1) := by decide +kernel
theorem d10_103 : decode prog_163_method_8_code 103 = .ok (.dup, 1) := by decide +kernel
theorem d10_104 : decode prog_163_method_8_code 104 = .ok (.getfield 32, 3) := by decide +kernel
theorem d10_107 : decode prog_163_method_8_code 107 = .ok (.dup_x1, 1) := by decide +kernel
theorem d10_108 : decode prog_163_method_8_code 108 = .ok (.iconst 1, 1) := by decide +kernel
theorem d10_109 : decode prog_163_method_8_code 109 = .ok (.iadd, 1) := by decide +kernel
theorem d10_110 : decode prog_163_method_8_code 110 = .ok (.putfield 32, 3) := by decide +kernel
theorem d10_113 : decode prog_163_method_8_code 113 = .ok (.iadd, 1) := by decide +kernel
theorem d10_114 : decode prog_163_method_8_code 114 = .ok (.aload_n 0, 1) := by decide +kernel
theorem d10_115 : decode prog_163_method_8_code 115 = .ok (.getfield 9, 3) := by decide +kernel
theorem d10_118 : decode prog_163_method_8_code 118 = .ok (.arraylength, 1) := by decide +kernel
theorem d10_119 : decode prog_163_method_8_code 119 = .ok (.irem, 1) := by decide +kernel
theorem d10_120 : decode prog_163_method_8_code 120 = .ok (.aaload, 1) := by decide +kernel
theorem d10_121 : decode prog_163_method_8_code 121 = .ok (.astore_n 2, 1) := by decide +kernel
theorem d10_122 : decode prog_163_method_8_code 122 = .ok (.aload_n 2, 1) := by decide +kernel
theorem d10_123 : decode prog_163_method_8_code 123 = .ok (.iload_n 1, 1) := by decide +kernel
theorem d10_124 : decode prog_163_method_8_code 124 = .ok (.invokevirtual 49, 3) := by decide +kernel
theorem d10_127 : decode prog_163_method_8_code 127 = .ok (.aload_n 2, 1) := by decide +kernel
theorem d10_128 : decode prog_163_method_8_code 128 = .ok (.areturn, 1) := by decide +kernel
theorem pn_12 : plainFor (⟨"com/example/dipper/dipper/stream/ScannedEvents", "add", "(I)Lcom/example/dipper/dipper/stream/ScannedEvent;"⟩ : MethodName) = true := by first | (refine plainFor_of_name ?_; simp [plainName, overriddenIn]; done) | decide +kernel
theorem pd_12 : parseMethodDescriptor "(I)Lcom/example/dipper/dipper/stream/ScannedEvent;" = some ⟨[.int], some (.object "com/example/dipper/dipper/stream/ScannedEvent")⟩ := by decide +kernel
theorem ef_12 (m : MethodId) (q : Addr) (qa : Addr) (vs : List Value) (hd : Int32) (ct : Int32) (t1 : Int32) : entryFrame m #[(.ref q), (.int t1)] 4 = mkF m 0 #[.val (.ref q), .val (.int t1), .unset, .unset] [] := by first | (simp [entryFrame, mkF, argsToLocals, Value.category]; done) | rfl
def Q_12 (Z : State) (q : Addr) (qa : Addr) (vs : List Value) (hd : Int32) (ct : Int32) (t1 : Int32) (h0 : Heap) (n0 : Nat) (v : Option Value) (h : Heap) (L : List Loc) : Prop := ∃ (qb : Addr) (us : List Value) (hq : Int32) (ev : Addr) (wr : List Addr), v = some (.ref ev) ∧ Fr n0 L ∧ own_AR h0 q qa vs hd ct qb us hq ev wr ∧ own_Q Z h q qb us hq (ct + (1 : Int32)) ∧ (own_Ev Z h ev t1 .null (0 : Int32) (0 : Int32) .null .null .null .null) ∧ Keep h0 h wr ∧ own_W Z h0 wr ∧ n0 ≤ ev ∧ n0 ≤ qb ∧ (ev ∈ wr ∨ Array.size h0 ≤ ev)
set_option maxRecDepth 65536 in
set_option maxHeartbeats 40000000 in
theorem rm_12 (l : Launch) (Z : State) (a0 : Array Value) (hw : ∀ d ∈ tables_1, d.before a0 Z = true) (ws : List Jvm.Cond) (q : Addr) (qa : Addr) (vs : List Value) (hd : Int32) (ct : Int32) (t1 : Int32) (h0 : Heap) (n0 : Nat) (Z0 : n0 ≤ h0.size) (Q1 : own_Q Z h0 q qa vs hd ct) (gq : n0 ≤ q) (ga : n0 ≤ qa) (AP : own_AP Z n0 h0 vs hd ct) :
    MetFree l (⟨"com/example/dipper/dipper/stream/ScannedEvents", "add", "(I)Lcom/example/dipper/dipper/stream/ScannedEvent;"⟩ : MethodName) (head1 (Jvm.Cond.code (⟨"com/example/dipper/dipper/stream/ScannedEvents", "add", "(I)Lcom/example/dipper/dipper/stream/ScannedEvent;"⟩ : MethodName) prog_163_method_8_code 4 (some (.object "com/example/dipper/dipper/stream/ScannedEvent")) :: ws) ({ frames := 2, cells := 5, slots := 40, locals := 27 } : Room)) (fun a U => a = #[(.ref q), (.int t1)] ∧ Z.Warmed39 U.vm ∧ U.heap = h0) (fun _ _ _ _ _ => True) (fun _ U o U' => ∃ v L, o = .returned v ∧ (Q_12 Z q qa vs hd ct t1 h0 n0) v U'.heap L ∧ FrameEnd U o U' L ({ frames := 2, cells := 5, slots := 40, locals := 27 } : Room).cells ({ frames := 2, cells := 5, slots := 40, locals := 27 } : Room).slots) := by
  refine MetFree.of_bodySF pn_12 hisR ?_
  intro p e s m args below meth c s₁ Bd hml0 hP hK
  obtain ⟨rfl, hZ, hh⟩ := hP
  have hx := Bd.exec
  have hby := Bd.bytes
  have hlk : meth.locks = false := BodyLoose.notSynchronized Bd
  have hml : c.maxLocals = 4 := hml0
  have hown : s.vm.findClass "com/example/dipper/dipper/stream/ScannedEvents" = some m.cls := findClass_of_methodNamed Bd.named
  have hnm := (name_of_methodNamed Bd.named Bd.method).1
  have X0 : Stand p l e ({ frames := 2, cells := 5, slots := 40, locals := 27 } : Room) s m #[(.ref q), (.int t1)] below meth c s₁ [] 0 0 := Stand.of_body Bd
  have e0 : s₁.heap = h0 := by rw [← hh, Bd.state]; rfl
  have N0 := Fr.nil n0
  refine own_enter (Q := (Q_12 Z q qa vs hd ct t1 h0 n0)) (cs := 5) (ss := 40) (ef_12 m q qa vs hd ct t1) ?_
  show Goes p e below (EndN s 5 40 (Q_12 Z q qa vs hd ct t1 h0 n0)) s₁ (mkF m 0 #[.val (.ref q), .val (.int t1), .unset, .unset] [])
  obtain ⟨EQ, G1, G2, G3, G4, RA⟩ := Q1
  have neAQ := RA.neQ hw EQ
  rcases AP with ⟨hvl, hct, hj0, ev, hev, gev, ty, ch, sa, ln, tx, ns, lo, qn, V1⟩ | ⟨rfl, rfl, b0, b1, b2, b3, rfl, X0e, X1e, X2e, X3e⟩
  · obtain ⟨EE, F0, F1, F2, F3, F4, F5, F6, F7⟩ := V1
    have neQE : q ≠ ev := ne_exa EQ EE (by decide)
    have neAE : qa ≠ ev := RA.neE hw EE
    refine own_aloadN (pc' := 1) X0 hx (hb hby d10_0) rfl rfl rfl ?_
    obtain ⟨T135, X135, e135, st135⟩ := getF X0 hx hZ hown (host := "") (Or.inl (hw _ (List.mem_of_getElem? (i := 70) rfl))) Via.refl e0 G3 (g := (mkF m 1 #[.val (.ref q), .val (.int t1), .unset, .unset] [(.ref q)])) rfl rfl (hb hby d10_1)
    refine Goes.pre st135 ?_
    show Goes p e below (EndN s 5 40 (Q_12 Z q qa vs hd ct t1 h0 n0)) T135 (mkF m 4 #[.val (.ref q), .val (.int t1), .unset, .unset] [(.int ct)])
    refine own_aloadN (pc' := 5) X135 hx (hb hby d10_4) rfl rfl rfl ?_
    obtain ⟨T136, X136, e136, st136⟩ := getF X135 hx hZ hown (host := "") (Or.inl (hw _ (List.mem_of_getElem? (i := 12) rfl))) Via.refl e135 G1 (g := (mkF m 5 #[.val (.ref q), .val (.int t1), .unset, .unset] [(.ref q), (.int ct)])) rfl rfl (hb hby d10_5)
    refine Goes.pre st136 ?_
    show Goes p e below (EndN s 5 40 (Q_12 Z q qa vs hd ct t1 h0 n0)) T136 (mkF m 8 #[.val (.ref q), .val (.int t1), .unset, .unset] [(.ref qa), (.int ct)])
    refine own_alenR (pc' := 9) X136 hx hZ e136 RA (hb hby d10_8) (n := (4 : Int32)) (by rw [hvl]; rfl) rfl ?_
    refine own_icmpY X136 hx (hb hby d10_9) (feq hct).2 (by decide) (pc' := 94) (by decide) ?_
    refine own_aloadN (pc' := 95) X136 hx (hb hby d10_94) rfl rfl rfl ?_
    obtain ⟨T137, X137, e137, st137⟩ := getF X136 hx hZ hown (host := "") (Or.inl (hw _ (List.mem_of_getElem? (i := 12) rfl))) Via.refl e136 G1 (g := (mkF m 95 #[.val (.ref q), .val (.int t1), .unset, .unset] [(.ref q)])) rfl rfl (hb hby d10_95)
    refine Goes.pre st137 ?_
    show Goes p e below (EndN s 5 40 (Q_12 Z q qa vs hd ct t1 h0 n0)) T137 (mkF m 98 #[.val (.ref q), .val (.int t1), .unset, .unset] [(.ref qa)])
    refine own_aloadN (pc' := 99) X137 hx (hb hby d10_98) rfl rfl rfl ?_
    obtain ⟨T138, X138, e138, st138⟩ := getF X137 hx hZ hown (host := "") (Or.inl (hw _ (List.mem_of_getElem? (i := 72) rfl))) Via.refl e137 G2 (g := (mkF m 99 #[.val (.ref q), .val (.int t1), .unset, .unset] [(.ref q), (.ref qa)])) rfl rfl (hb hby d10_99)
    refine Goes.pre st138 ?_
    show Goes p e below (EndN s 5 40 (Q_12 Z q qa vs hd ct t1 h0 n0)) T138 (mkF m 102 #[.val (.ref q), .val (.int t1), .unset, .unset] [(.int hd), (.ref qa)])
    refine own_aloadN (pc' := 103) X138 hx (hb hby d10_102) rfl rfl rfl ?_
    refine own_dup (pc' := 104) X138 hx (hb hby d10_103) rfl rfl ?_
    obtain ⟨T139, X139, e139, st139⟩ := getF X138 hx hZ hown (host := "") (Or.inl (hw _ (List.mem_of_getElem? (i := 70) rfl))) Via.refl e138 G3 (g := (mkF m 104 #[.val (.ref q), .val (.int t1), .unset, .unset] [(.ref q), (.ref q), (.int hd), (.ref qa)])) rfl rfl (hb hby d10_104)
    refine Goes.pre st139 ?_
    show Goes p e below (EndN s 5 40 (Q_12 Z q qa vs hd ct t1 h0 n0)) T139 (mkF m 107 #[.val (.ref q), .val (.int t1), .unset, .unset] [(.int ct), (.ref q), (.int hd), (.ref qa)])
    refine own_dupX1 (pc' := 108) X139 hx (hb hby d10_107) rfl rfl rfl ?_
    refine own_iconst (pc' := 109) X139 hx (hb hby d10_108) (v := (1 : Int32)) rfl rfl ?_
    refine own_iadd (pc' := 110) X139 hx (hb hby d10_109) rfl ?_
    obtain ⟨T140, h140, X140, e140, W140, st140⟩ := putF X139 hx hZ hown (host := "") (Or.inl (hw _ (List.mem_of_getElem? (i := 70) rfl))) Via.refl e139 G3 EQ (Or.inl (hw _ (List.mem_of_getElem? (i := 71) rfl))) (hw _ (List.mem_of_getElem? (i := 2) rfl)) (ty := .int) (by decide) rfl rfl (g := (mkF m 110 #[.val (.ref q), .val (.int t1), .unset, .unset] [(.int (ct + (1 : Int32))), (.ref q), (.int ct), (.int hd), (.ref qa)])) rfl rfl (hb hby d10_110)
    have N140 := Fr.snoc X140 N0 gq
    refine Goes.pre st140 ?_
    show Goes p e below (EndN s 5 40 (Q_12 Z q qa vs hd ct t1 h0 n0)) T140 (mkF m 113 #[.val (.ref q), .val (.int t1), .unset, .unset] [(.int ct), (.int hd), (.ref qa)])
    have F140_q_queue := G1.other W140 (Or.inr (slot_ne (Or.inl (hw _ (List.mem_of_getElem? (i := 13) rfl))) (Or.inl (hw _ (List.mem_of_getElem? (i := 71) rfl))) (by decide) (t := (.array (.object "com/example/dipper/dipper/stream/ScannedEvent"))) (t' := .int) (by decide) (by decide)))
    have F140_q_head := G2.other W140 (Or.inr (slot_ne (Or.inl (hw _ (List.mem_of_getElem? (i := 73) rfl))) (Or.inl (hw _ (List.mem_of_getElem? (i := 71) rfl))) (by decide) (t := .int) (t' := .int) (by decide) (by decide)))
    have F140_q_count := G3.same W140
    have F140_q_unreported := G4.other W140 (Or.inr (slot_ne (Or.inl (hw _ (List.mem_of_getElem? (i := 65) rfl))) (Or.inl (hw _ (List.mem_of_getElem? (i := 71) rfl))) (by decide) (t := .int) (t' := .int) (by decide) (by decide)))
    have F140_ev_type := F0.other W140 (Or.inl (Ne.symm neQE))
    have F140_ev_characters := F1.other W140 (Or.inl (Ne.symm neQE))
    have F140_ev_start := F2.other W140 (Or.inl (Ne.symm neQE))
    have F140_ev_length := F3.other W140 (Or.inl (Ne.symm neQE))
    have F140_ev_text := F4.other W140 (Or.inl (Ne.symm neQE))
    have F140_ev_namespace := F5.other W140 (Or.inl (Ne.symm neQE))
    have F140_ev_localName := F6.other W140 (Or.inl (Ne.symm neQE))
    have F140_ev_qualifiedName := F7.other W140 (Or.inl (Ne.symm neQE))
    have E140_q := EQ.wr W140
    have E140_ev := EE.wr W140
    have K140 := Keep.wr (Keep.refl h0 [q, ev]) W140 (Or.inl (List.mem_of_getElem? (i := 0) rfl))
    have R140_qa := RA.other W140 neAQ
    have Zz140 : n0 ≤ Array.size h140 := by rw [W140.size]; exact Z0
    refine own_iadd (pc' := 114) X140 hx (hb hby d10_113) rfl ?_
    refine own_aloadN (pc' := 115) X140 hx (hb hby d10_114) rfl rfl rfl ?_
    obtain ⟨T141, X141, e141, st141⟩ := getF X140 hx hZ hown (host := "") (Or.inl (hw _ (List.mem_of_getElem? (i := 12) rfl))) Via.refl e140 F140_q_queue (g := (mkF m 115 #[.val (.ref q), .val (.int t1), .unset, .unset] [(.ref q), (.int (hd + ct)), (.ref qa)])) rfl rfl (hb hby d10_115)
    refine Goes.pre st141 ?_
    show Goes p e below (EndN s 5 40 (Q_12 Z q qa vs hd ct t1 h0 n0)) T141 (mkF m 118 #[.val (.ref q), .val (.int t1), .unset, .unset] [(.ref qa), (.int (hd + ct)), (.ref qa)])
    refine own_alenR (pc' := 119) X141 hx hZ e141 R140_qa (hb hby d10_118) (n := (4 : Int32)) (by rw [hvl]; rfl) rfl ?_
    refine own_irem (pc' := 120) X141 hx (hb hby d10_119) (by decide) rfl ?_
    refine own_aaload (pc' := 121) X141 hx hZ e141 R140_qa (hb hby d10_120) (v := .ref ev) hj0 rfl hev rfl ?_
    refine own_astoreN (pc' := 122) X141 hx (hb hby d10_121) rfl (Ls' := #[.val (.ref q), .val (.int t1), .val (.ref ev), .unset]) rfl rfl ?_
    refine own_aloadN (pc' := 123) X141 hx (hb hby d10_122) rfl rfl rfl ?_
    refine own_iloadN (pc' := 124) X141 hx (hb hby d10_123) rfl rfl ?_
    obtain ⟨cq143, kq143, q143a, q143b, q143c⟩ := isOf hZ e141 E140_ev
    obtain ⟨_, _, ⟨T142, L142, k142, n142⟩, -, X142, ⟨Lc142, hQ142, l142, y142, z142⟩, st142⟩ := X141.virtualBack hx (y := (⟨"com/example/dipper/dipper/stream/ScannedEvent", "clear", "(I)V"⟩ : MethodName)) (z := (⟨"com/example/dipper/dipper/stream/ScannedEvent", "clear", "(I)V"⟩ : MethodName)) hown (mvT hZ (hw _ (List.mem_of_getElem? (i := 74) rfl))) (mvT hZ (hw _ (List.mem_of_getElem? (i := 75) rfl))) (notFace_of_selects (args := #[]) (mvT hZ (hw _ (List.mem_of_getElem? (i := 77) rfl)))) (mvT hZ (hw _ (List.mem_of_getElem? (i := 77) rfl))) (mvT hZ (hw _ (List.mem_of_getElem? (i := 76) rfl))) (by decide) (backOf (W := 0) (rm_9 l Z a0 hw [] ev t1 ty ch sa ln tx ns lo qn h140 n0 Zz140 ⟨E140_ev, F140_ev_type, F140_ev_characters, F140_ev_start, F140_ev_length, F140_ev_text, F140_ev_namespace, F140_ev_localName, F140_ev_qualifiedName⟩ gev) hZ (hw _ (List.mem_of_getElem? (i := 78) rfl)) (hw _ (List.mem_of_getElem? (i := 23) rfl)) (by decide) (by decide)) q143a q143c (g := (mkF m 124 #[.val (.ref q), .val (.int t1), .val (.ref ev), .unset] [(.int t1), (.ref ev)])) rfl (by rw [hml]; rfl) (Steps.refl _) (argsL := [(.int t1)]) (rest := []) (lenOf pd_9 rfl) rfl (by show 2 * 0 + _ ≤ _; exact Nat.le_of_eq rfl) (hb hby d10_124) (fun _ _ => ⟨rfl, e141, (by decide : 0 + 0 ≤ _), (by decide : 0 + 0 ≤ _)⟩)
    dsimp only [Pt.U, Pt.locs, Pt.cells, Pt.slots] at X142 l142 y142 z142 st142 hQ142
    subst l142 y142 z142
    obtain ⟨rfl, M142, K142, V142⟩ := hQ142
    have N142 := Fr.app N140 M142
    refine Goes.aft st142 ?_
    show Goes p e below (EndN s 5 40 (Q_12 Z q qa vs hd ct t1 h0 n0)) T142 (mkF m 127 #[.val (.ref q), .val (.int t1), .val (.ref ev), .unset] [])
    refine own_aloadN (pc' := 128) X142 hx (hb hby d10_127) rfl rfl rfl ?_
    have QQ : own_Q Z T142.heap q qa vs hd (ct + (1 : Int32)) := (show own_Q Z h140 q qa vs hd (ct + (1 : Int32)) from ⟨E140_q, F140_q_queue, F140_q_head, F140_q_count, F140_q_unreported, R140_qa⟩).keep K142 (ninS neQE nin0) (ninS neAE nin0)
    have KK : Keep h0 T142.heap [q, ev] := Keep.trans K140 K142 (allS (Or.inl (List.mem_of_getElem? (i := 1) rfl)) all0)
    exact own_retA X142 hx hlk Bd.returns rfl rfl rfl (hb hby d10_128) (by decide) (by decide) ⟨qa, vs, hd, ev, [q, ev], rfl, N142, Or.inl ⟨hct, rfl, rfl, rfl, rfl, hev⟩, QQ, V142, KK, own_W.qs EQ (own_W.ev EE own_W.nil), gev, ga, Or.inl (List.mem_of_getElem? (i := 1) rfl)⟩
  · have hvl : (4 : Nat) = 4 := rfl
    refine own_aloadN (pc' := 1) X0 hx (hb hby d10_0) rfl rfl rfl ?_
    obtain ⟨T144, X144, e144, st144⟩ := getF X0 hx hZ hown (host := "") (Or.inl (hw _ (List.mem_of_getElem? (i := 70) rfl))) Via.refl e0 G3 (g := (mkF m 1 #[.val (.ref q), .val (.int t1), .unset, .unset] [(.ref q)])) rfl rfl (hb hby d10_1)
    refine Goes.pre st144 ?_
    show Goes p e below (EndN s 5 40 (Q_12 Z q qa [.ref b0, .ref b1, .ref b2, .ref b3] (1 : Int32) (4 : Int32) t1 h0 n0)) T144 (mkF m 4 #[.val (.ref q), .val (.int t1), .unset, .unset] [(.int (4 : Int32))])
    refine own_aloadN (pc' := 5) X144 hx (hb hby d10_4) rfl rfl rfl ?_
    obtain ⟨T145, X145, e145, st145⟩ := getF X144 hx hZ hown (host := "") (Or.inl (hw _ (List.mem_of_getElem? (i := 12) rfl))) Via.refl e144 G1 (g := (mkF m 5 #[.val (.ref q), .val (.int t1), .unset, .unset] [(.ref q), (.int (4 : Int32))])) rfl rfl (hb hby d10_5)
    refine Goes.pre st145 ?_
    show Goes p e below (EndN s 5 40 (Q_12 Z q qa [.ref b0, .ref b1, .ref b2, .ref b3] (1 : Int32) (4 : Int32) t1 h0 n0)) T145 (mkF m 8 #[.val (.ref q), .val (.int t1), .unset, .unset] [(.ref qa), (.int (4 : Int32))])
    refine own_alenR (pc' := 9) X145 hx hZ e145 RA (hb hby d10_8) (n := (4 : Int32)) rfl rfl ?_
    refine own_icmpN (pc' := 12) X145 hx (hb hby d10_9) (by decide) rfl ?_
    refine own_aloadN (pc' := 13) X145 hx (hb hby d10_12) rfl rfl rfl ?_
    obtain ⟨T146, X146, e146, st146⟩ := getF X145 hx hZ hown (host := "") (Or.inl (hw _ (List.mem_of_getElem? (i := 70) rfl))) Via.refl e145 G3 (g := (mkF m 13 #[.val (.ref q), .val (.int t1), .unset, .unset] [(.ref q)])) rfl rfl (hb hby d10_13)
    refine Goes.pre st146 ?_
    show Goes p e below (EndN s 5 40 (Q_12 Z q qa [.ref b0, .ref b1, .ref b2, .ref b3] (1 : Int32) (4 : Int32) t1 h0 n0)) T146 (mkF m 16 #[.val (.ref q), .val (.int t1), .unset, .unset] [(.int (4 : Int32))])
    refine own_iconst (pc' := 17) X146 hx (hb hby d10_16) (v := (2 : Int32)) rfl rfl ?_
    refine own_imul (pc' := 18) X146 hx (hb hby d10_17) rfl ?_
    rw [show ((4 : Int32) * (2 : Int32)) = (8 : Int32) from by decide]
    refine own_anewarray (pc' := 21) X146 hx hZ hown (hw _ (List.mem_of_getElem? (i := 10) rfl)) (hw _ (List.mem_of_getElem? (i := 11) rfl)) e146 (hb hby d10_18) (k := 8) (by decide) (by decide) (by decide) (by decide) (by decide) rfl ?_
    intro T147 h147 a147 g147 X147 e147 Ex147 R147
    show Goes p e below (EndN s 5 40 (Q_12 Z q qa [.ref b0, .ref b1, .ref b2, .ref b3] (1 : Int32) (4 : Int32) t1 h0 n0)) T147 (mkF m 21 #[.val (.ref q), .val (.int t1), .unset, .unset] [(.ref a147)])
    have gn147 : n0 ≤ a147 := by rw [g147]; exact Z0
    have go147 : Array.size h0 ≤ a147 := by rw [g147]; exact ((Keep.refl h0 [q])).1
    have F147_q_queue := G1.ext Ex147
    have F147_q_head := G2.ext Ex147
    have F147_q_count := G3.ext Ex147
    have F147_q_unreported := G4.ext Ex147
    have E147_q := EQ.ext Ex147
    have E147_b0 := X0e.ext Ex147
    have E147_b1 := X1e.ext Ex147
    have E147_b2 := X2e.ext Ex147
    have E147_b3 := X3e.ext Ex147
    have R147_qa := RA.ext Ex147
    have K147 := Keep.ext (Keep.refl h0 [q]) Ex147
    have Zz147 : n0 ≤ Array.size h147 := Nat.le_trans Z0 Ex147.1
    have nq147 := R147.neQ hw E147_q
    have nx147 : qa ≠ a147 := fun q => absurd (q ▸ RA.lt) (Nat.not_lt.mpr go147)
    refine own_astoreN (pc' := 22) X147 hx (hb hby d10_21) rfl (Ls' := #[.val (.ref q), .val (.int t1), .val (.ref a147), .unset]) rfl rfl ?_
    refine own_iconst (pc' := 23) X147 hx (hb hby d10_22) (v := (0 : Int32)) rfl rfl ?_
    refine own_istoreN (pc' := 24) X147 hx (hb hby d10_23) (Ls' := #[.val (.ref q), .val (.int t1), .val (.ref a147), .val (.int (0 : Int32))]) rfl rfl ?_
    refine own_iloadN (pc' := 25) X147 hx (hb hby d10_24) rfl rfl ?_
    refine own_aloadN (pc' := 26) X147 hx (hb hby d10_25) rfl rfl rfl ?_
    obtain ⟨T148, X148, e148, st148⟩ := getF X147 hx hZ hown (host := "") (Or.inl (hw _ (List.mem_of_getElem? (i := 70) rfl))) Via.refl e147 F147_q_count (g := (mkF m 26 #[.val (.ref q), .val (.int t1), .val (.ref a147), .val (.int (0 : Int32))] [(.ref q), (.int (0 : Int32))])) rfl rfl (hb hby d10_26)
    refine Goes.pre st148 ?_
    show Goes p e below (EndN s 5 40 (Q_12 Z q qa [.ref b0, .ref b1, .ref b2, .ref b3] (1 : Int32) (4 : Int32) t1 h0 n0)) T148 (mkF m 29 #[.val (.ref q), .val (.int t1), .val (.ref a147), .val (.int (0 : Int32))] [(.int (4 : Int32)), (.int (0 : Int32))])
    refine own_icmpN (pc' := 32) X148 hx (hb hby d10_29) (by decide) rfl ?_
    refine own_aloadN (pc' := 33) X148 hx (hb hby d10_32) rfl rfl rfl ?_
    refine own_iloadN (pc' := 34) X148 hx (hb hby d10_33) rfl rfl ?_
    refine own_aloadN (pc' := 35) X148 hx (hb hby d10_34) rfl rfl rfl ?_
    obtain ⟨T149, X149, e149, st149⟩ := getF X148 hx hZ hown (host := "") (Or.inl (hw _ (List.mem_of_getElem? (i := 12) rfl))) Via.refl e148 F147_q_queue (g := (mkF m 35 #[.val (.ref q), .val (.int t1), .val (.ref a147), .val (.int (0 : Int32))] [(.ref q), (.int (0 : Int32)), (.ref a147)])) rfl rfl (hb hby d10_35)
    refine Goes.pre st149 ?_
    show Goes p e below (EndN s 5 40 (Q_12 Z q qa [.ref b0, .ref b1, .ref b2, .ref b3] (1 : Int32) (4 : Int32) t1 h0 n0)) T149 (mkF m 38 #[.val (.ref q), .val (.int t1), .val (.ref a147), .val (.int (0 : Int32))] [(.ref qa), (.int (0 : Int32)), (.ref a147)])
    refine own_aloadN (pc' := 39) X149 hx (hb hby d10_38) rfl rfl rfl ?_
    obtain ⟨T150, X150, e150, st150⟩ := getF X149 hx hZ hown (host := "") (Or.inl (hw _ (List.mem_of_getElem? (i := 72) rfl))) Via.refl e149 F147_q_head (g := (mkF m 39 #[.val (.ref q), .val (.int t1), .val (.ref a147), .val (.int (0 : Int32))] [(.ref q), (.ref qa), (.int (0 : Int32)), (.ref a147)])) rfl rfl (hb hby d10_39)
    refine Goes.pre st150 ?_
    show Goes p e below (EndN s 5 40 (Q_12 Z q qa [.ref b0, .ref b1, .ref b2, .ref b3] (1 : Int32) (4 : Int32) t1 h0 n0)) T150 (mkF m 42 #[.val (.ref q), .val (.int t1), .val (.ref a147), .val (.int (0 : Int32))] [(.int (1 : Int32)), (.ref qa), (.int (0 : Int32)), (.ref a147)])
    refine own_iloadN (pc' := 43) X150 hx (hb hby d10_42) rfl rfl ?_
    refine own_iadd (pc' := 44) X150 hx (hb hby d10_43) rfl ?_
    rw [show ((1 : Int32) + (0 : Int32)) = (1 : Int32) from by decide]
    refine own_aloadN (pc' := 45) X150 hx (hb hby d10_44) rfl rfl rfl ?_
    obtain ⟨T151, X151, e151, st151⟩ := getF X150 hx hZ hown (host := "") (Or.inl (hw _ (List.mem_of_getElem? (i := 70) rfl))) Via.refl e150 F147_q_count (g := (mkF m 45 #[.val (.ref q), .val (.int t1), .val (.ref a147), .val (.int (0 : Int32))] [(.ref q), (.int (1 : Int32)), (.ref qa), (.int (0 : Int32)), (.ref a147)])) rfl rfl (hb hby d10_45)
    refine Goes.pre st151 ?_
    show Goes p e below (EndN s 5 40 (Q_12 Z q qa [.ref b0, .ref b1, .ref b2, .ref b3] (1 : Int32) (4 : Int32) t1 h0 n0)) T151 (mkF m 48 #[.val (.ref q), .val (.int t1), .val (.ref a147), .val (.int (0 : Int32))] [(.int (4 : Int32)), (.int (1 : Int32)), (.ref qa), (.int (0 : Int32)), (.ref a147)])
    refine own_irem (pc' := 49) X151 hx (hb hby d10_48) (by decide) rfl ?_
    rw [show ((1 : Int32) % (4 : Int32)) = (1 : Int32) from by decide]
    refine own_aaload (pc' := 50) X151 hx hZ e151 R147_qa (hb hby d10_49) (v := .ref b1) (by decide) (k := 1) (by decide) rfl rfl ?_
    refine own_aastore (pc' := 51) X151 hx hZ e151 R147 (hb hby d10_50) E147_b1 (k := 0) (by decide) (by decide) (by simp) rfl ?_
    intro T152 h152 X152 e152 W152 R152
    have N152 := Fr.snoc X152 N0 gn147
    have R152x : own_RA Z h152 a147 [.ref b1, .null, .null, .null, .null, .null, .null, .null] := R152
    have R152_qa := R147_qa.other W152 nx147
    have E152_q := E147_q.wr W152
    have E152_b0 := E147_b0.wr W152
    have E152_b1 := E147_b1.wr W152
    have E152_b2 := E147_b2.wr W152
    have E152_b3 := E147_b3.wr W152
    have F152_q_queue := F147_q_queue.other W152 (Or.inl (Ne.symm (own_RA.neQ hw R147 E147_q)))
    have F152_q_head := F147_q_head.other W152 (Or.inl (Ne.symm (own_RA.neQ hw R147 E147_q)))
    have F152_q_count := F147_q_count.other W152 (Or.inl (Ne.symm (own_RA.neQ hw R147 E147_q)))
    have F152_q_unreported := F147_q_unreported.other W152 (Or.inl (Ne.symm (own_RA.neQ hw R147 E147_q)))
    have K152 := Keep.wr K147 W152 (Or.inr go147)
    have Zz152 : n0 ≤ Array.size h152 := by rw [W152.size]; exact Zz147
    show Goes p e below (EndN s 5 40 (Q_12 Z q qa [.ref b0, .ref b1, .ref b2, .ref b3] (1 : Int32) (4 : Int32) t1 h0 n0)) T152 (mkF m 51 #[.val (.ref q), .val (.int t1), .val (.ref a147), .val (.int (0 : Int32))] [])
    refine own_iinc (pc' := 54) X152 hx (hb hby d10_51) rfl (y := (1 : Int32)) (by decide) (Ls' := #[.val (.ref q), .val (.int t1), .val (.ref a147), .val (.int (1 : Int32))]) rfl rfl ?_
    refine own_goto X152 hx (hb hby d10_54) (by decide) (pc' := 24) (by decide) ?_
    refine own_iloadN (pc' := 25) X152 hx (hb hby d10_24) rfl rfl ?_
    refine own_aloadN (pc' := 26) X152 hx (hb hby d10_25) rfl rfl rfl ?_
    obtain ⟨T153, X153, e153, st153⟩ := getF X152 hx hZ hown (host := "") (Or.inl (hw _ (List.mem_of_getElem? (i := 70) rfl))) Via.refl e152 F152_q_count (g := (mkF m 26 #[.val (.ref q), .val (.int t1), .val (.ref a147), .val (.int (1 : Int32))] [(.ref q), (.int (1 : Int32))])) rfl rfl (hb hby d10_26)
    refine Goes.pre st153 ?_
    show Goes p e below (EndN s 5 40 (Q_12 Z q qa [.ref b0, .ref b1, .ref b2, .ref b3] (1 : Int32) (4 : Int32) t1 h0 n0)) T153 (mkF m 29 #[.val (.ref q), .val (.int t1), .val (.ref a147), .val (.int (1 : Int32))] [(.int (4 : Int32)), (.int (1 : Int32))])
    refine own_icmpN (pc' := 32) X153 hx (hb hby d10_29) (by decide) rfl ?_
    refine own_aloadN (pc' := 33) X153 hx (hb hby d10_32) rfl rfl rfl ?_
    refine own_iloadN (pc' := 34) X153 hx (hb hby d10_33) rfl rfl ?_
    refine own_aloadN (pc' := 35) X153 hx (hb hby d10_34) rfl rfl rfl ?_
    obtain ⟨T154, X154, e154, st154⟩ := getF X153 hx hZ hown (host := "") (Or.inl (hw _ (List.mem_of_getElem? (i := 12) rfl))) Via.refl e153 F152_q_queue (g := (mkF m 35 #[.val (.ref q), .val (.int t1), .val (.ref a147), .val (.int (1 : Int32))] [(.ref q), (.int (1 : Int32)), (.ref a147)])) rfl rfl (hb hby d10_35)
    refine Goes.pre st154 ?_
    show Goes p e below (EndN s 5 40 (Q_12 Z q qa [.ref b0, .ref b1, .ref b2, .ref b3] (1 : Int32) (4 : Int32) t1 h0 n0)) T154 (mkF m 38 #[.val (.ref q), .val (.int t1), .val (.ref a147), .val (.int (1 : Int32))] [(.ref qa), (.int (1 : Int32)), (.ref a147)])
    refine own_aloadN (pc' := 39) X154 hx (hb hby d10_38) rfl rfl rfl ?_
    obtain ⟨T155, X155, e155, st155⟩ := getF X154 hx hZ hown (host := "") (Or.inl (hw _ (List.mem_of_getElem? (i := 72) rfl))) Via.refl e154 F152_q_head (g := (mkF m 39 #[.val (.ref q), .val (.int t1), .val (.ref a147), .val (.int (1 : Int32))] [(.ref q), (.ref qa), (.int (1 : Int32)), (.ref a147)])) rfl rfl (hb hby d10_39)
    refine Goes.pre st155 ?_
    show Goes p e below (EndN s 5 40 (Q_12 Z q qa [.ref b0, .ref b1, .ref b2, .ref b3] (1 : Int32) (4 : Int32) t1 h0 n0)) T155 (mkF m 42 #[.val (.ref q), .val (.int t1), .val (.ref a147), .val (.int (1 : Int32))] [(.int (1 : Int32)), (.ref qa), (.int (1 : Int32)), (.ref a147)])
    refine own_iloadN (pc' := 43) X155 hx (hb hby d10_42) rfl rfl ?_
    refine own_iadd (pc' := 44) X155 hx (hb hby d10_43) rfl ?_
    rw [show ((1 : Int32) + (1 : Int32)) = (2 : Int32) from by decide]
    refine own_aloadN (pc' := 45) X155 hx (hb hby d10_44) rfl rfl rfl ?_
    obtain ⟨T156, X156, e156, st156⟩ := getF X155 hx hZ hown (host := "") (Or.inl (hw _ (List.mem_of_getElem? (i := 70) rfl))) Via.refl e155 F152_q_count (g := (mkF m 45 #[.val (.ref q), .val (.int t1), .val (.ref a147), .val (.int (1 : Int32))] [(.ref q), (.int (2 : Int32)), (.ref qa), (.int (1 : Int32)), (.ref a147)])) rfl rfl (hb hby d10_45)
    refine Goes.pre st156 ?_
    show Goes p e below (EndN s 5 40 (Q_12 Z q qa [.ref b0, .ref b1, .ref b2, .ref b3] (1 : Int32) (4 : Int32) t1 h0 n0)) T156 (mkF m 48 #[.val (.ref q), .val (.int t1), .val (.ref a147), .val (.int (1 : Int32))] [(.int (4 : Int32)), (.int (2 : Int32)), (.ref qa), (.int (1 : Int32)), (.ref a147)])
    refine own_irem (pc' := 49) X156 hx (hb hby d10_48) (by decide) rfl ?_
    rw [show ((2 : Int32) % (4 : Int32)) = (2 : Int32) from by decide]
    refine own_aaload (pc' := 50) X156 hx hZ e156 R152_qa (hb hby d10_49) (v := .ref b2) (by decide) (k := 2) (by decide) rfl rfl ?_
    refine own_aastore (pc' := 51) X156 hx hZ e156 R152x (hb hby d10_50) E152_b2 (k := 1) (by decide) (by decide) (by simp) rfl ?_
    intro T157 h157 X157 e157 W157 R157
    have N157 := Fr.snoc X157 N152 gn147
    have R157x : own_RA Z h157 a147 [.ref b1, .ref b2, .null, .null, .null, .null, .null, .null] := R157
    have R157_qa := R152_qa.other W157 nx147
    have E157_q := E152_q.wr W157
    have E157_b0 := E152_b0.wr W157
    have E157_b1 := E152_b1.wr W157
    have E157_b2 := E152_b2.wr W157
    have E157_b3 := E152_b3.wr W157
    have F157_q_queue := F152_q_queue.other W157 (Or.inl (Ne.symm (own_RA.neQ hw R152x E152_q)))
    have F157_q_head := F152_q_head.other W157 (Or.inl (Ne.symm (own_RA.neQ hw R152x E152_q)))
    have F157_q_count := F152_q_count.other W157 (Or.inl (Ne.symm (own_RA.neQ hw R152x E152_q)))
    have F157_q_unreported := F152_q_unreported.other W157 (Or.inl (Ne.symm (own_RA.neQ hw R152x E152_q)))
    have K157 := Keep.wr K152 W157 (Or.inr go147)
    have Zz157 : n0 ≤ Array.size h157 := by rw [W157.size]; exact Zz152
    show Goes p e below (EndN s 5 40 (Q_12 Z q qa [.ref b0, .ref b1, .ref b2, .ref b3] (1 : Int32) (4 : Int32) t1 h0 n0)) T157 (mkF m 51 #[.val (.ref q), .val (.int t1), .val (.ref a147), .val (.int (1 : Int32))] [])
    refine own_iinc (pc' := 54) X157 hx (hb hby d10_51) rfl (y := (2 : Int32)) (by decide) (Ls' := #[.val (.ref q), .val (.int t1), .val (.ref a147), .val (.int (2 : Int32))]) rfl rfl ?_
    refine own_goto X157 hx (hb hby d10_54) (by decide) (pc' := 24) (by decide) ?_
    refine own_iloadN (pc' := 25) X157 hx (hb hby d10_24) rfl rfl ?_
    refine own_aloadN (pc' := 26) X157 hx (hb hby d10_25) rfl rfl rfl ?_
    obtain ⟨T158, X158, e158, st158⟩ := getF X157 hx hZ hown (host := "") (Or.inl (hw _ (List.mem_of_getElem? (i := 70) rfl))) Via.refl e157 F157_q_count (g := (mkF m 26 #[.val (.ref q), .val (.int t1), .val (.ref a147), .val (.int (2 : Int32))] [(.ref q), (.int (2 : Int32))])) rfl rfl (hb hby d10_26)
    refine Goes.pre st158 ?_
    show Goes p e below (EndN s 5 40 (Q_12 Z q qa [.ref b0, .ref b1, .ref b2, .ref b3] (1 : Int32) (4 : Int32) t1 h0 n0)) T158 (mkF m 29 #[.val (.ref q), .val (.int t1), .val (.ref a147), .val (.int (2 : Int32))] [(.int (4 : Int32)), (.int (2 : Int32))])
    refine own_icmpN (pc' := 32) X158 hx (hb hby d10_29) (by decide) rfl ?_
    refine own_aloadN (pc' := 33) X158 hx (hb hby d10_32) rfl rfl rfl ?_
    refine own_iloadN (pc' := 34) X158 hx (hb hby d10_33) rfl rfl ?_
    refine own_aloadN (pc' := 35) X158 hx (hb hby d10_34) rfl rfl rfl ?_
    obtain ⟨T159, X159, e159, st159⟩ := getF X158 hx hZ hown (host := "") (Or.inl (hw _ (List.mem_of_getElem? (i := 12) rfl))) Via.refl e158 F157_q_queue (g := (mkF m 35 #[.val (.ref q), .val (.int t1), .val (.ref a147), .val (.int (2 : Int32))] [(.ref q), (.int (2 : Int32)), (.ref a147)])) rfl rfl (hb hby d10_35)
    refine Goes.pre st159 ?_
    show Goes p e below (EndN s 5 40 (Q_12 Z q qa [.ref b0, .ref b1, .ref b2, .ref b3] (1 : Int32) (4 : Int32) t1 h0 n0)) T159 (mkF m 38 #[.val (.ref q), .val (.int t1), .val (.ref a147), .val (.int (2 : Int32))] [(.ref qa), (.int (2 : Int32)), (.ref a147)])
    refine own_aloadN (pc' := 39) X159 hx (hb hby d10_38) rfl rfl rfl ?_
    obtain ⟨T160, X160, e160, st160⟩ := getF X159 hx hZ hown (host := "") (Or.inl (hw _ (List.mem_of_getElem? (i := 72) rfl))) Via.refl e159 F157_q_head (g := (mkF m 39 #[.val (.ref q), .val (.int t1), .val (.ref a147), .val (.int (2 : Int32))] [(.ref q), (.ref qa), (.int (2 : Int32)), (.ref a147)])) rfl rfl (hb hby d10_39)
    refine Goes.pre st160 ?_
    show Goes p e below (EndN s 5 40 (Q_12 Z q qa [.ref b0, .ref b1, .ref b2, .ref b3] (1 : Int32) (4 : Int32) t1 h0 n0)) T160 (mkF m 42 #[.val (.ref q), .val (.int t1), .val (.ref a147), .val (.int (2 : Int32))] [(.int (1 : Int32)), (.ref qa), (.int (2 : Int32)), (.ref a147)])
    refine own_iloadN (pc' := 43) X160 hx (hb hby d10_42) rfl rfl ?_
    refine own_iadd (pc' := 44) X160 hx (hb hby d10_43) rfl ?_
    rw [show ((1 : Int32) + (2 : Int32)) = (3 : Int32) from by decide]
    refine own_aloadN (pc' := 45) X160 hx (hb hby d10_44) rfl rfl rfl ?_
    obtain ⟨T161, X161, e161, st161⟩ := getF X160 hx hZ hown (host := "") (Or.inl (hw _ (List.mem_of_getElem? (i := 70) rfl))) Via.refl e160 F157_q_count (g := (mkF m 45 #[.val (.ref q), .val (.int t1), .val (.ref a147), .val (.int (2 : Int32))] [(.ref q), (.int (3 : Int32)), (.ref qa), (.int (2 : Int32)), (.ref a147)])) rfl rfl (hb hby d10_45)
    refine Goes.pre st161 ?_
    show Goes p e below (EndN s 5 40 (Q_12 Z q qa [.ref b0, .ref b1, .ref b2, .ref b3] (1 : Int32) (4 : Int32) t1 h0 n0)) T161 (mkF m 48 #[.val (.ref q), .val (.int t1), .val (.ref a147), .val (.int (2 : Int32))] [(.int (4 : Int32)), (.int (3 : Int32)), (.ref qa), (.int (2 : Int32)), (.ref a147)])
    refine own_irem (pc' := 49) X161 hx (hb hby d10_48) (by decide) rfl ?_
    rw [show ((3 : Int32) % (4 : Int32)) = (3 : Int32) from by decide]
    refine own_aaload (pc' := 50) X161 hx hZ e161 R157_qa (hb hby d10_49) (v := .ref b3) (by decide) (k := 3) (by decide) rfl rfl ?_
    refine own_aastore (pc' := 51) X161 hx hZ e161 R157x (hb hby d10_50) E157_b3 (k := 2) (by decide) (by decide) (by simp) rfl ?_
    intro T162 h162 X162 e162 W162 R162
    have N162 := Fr.snoc X162 N157 gn147
    have R162x : own_RA Z h162 a147 [.ref b1, .ref b2, .ref b3, .null, .null, .null, .null, .null] := R162
    have R162_qa := R157_qa.other W162 nx147
    have E162_q := E157_q.wr W162
    have E162_b0 := E157_b0.wr W162
    have E162_b1 := E157_b1.wr W162
    have E162_b2 := E157_b2.wr W162
    have E162_b3 := E157_b3.wr W162
    have F162_q_queue := F157_q_queue.other W162 (Or.inl (Ne.symm (own_RA.neQ hw R157x E157_q)))
    have F162_q_head := F157_q_head.other W162 (Or.inl (Ne.symm (own_RA.neQ hw R157x E157_q)))
    have F162_q_count := F157_q_count.other W162 (Or.inl (Ne.symm (own_RA.neQ hw R157x E157_q)))
    have F162_q_unreported := F157_q_unreported.other W162 (Or.inl (Ne.symm (own_RA.neQ hw R157x E157_q)))
    have K162 := Keep.wr K157 W162 (Or.inr go147)
    have Zz162 : n0 ≤ Array.size h162 := by rw [W162.size]; exact Zz157
    show Goes p e below (EndN s 5 40 (Q_12 Z q qa [.ref b0, .ref b1, .ref b2, .ref b3] (1 : Int32) (4 : Int32) t1 h0 n0)) T162 (mkF m 51 #[.val (.ref q), .val (.int t1), .val (.ref a147), .val (.int (2 : Int32))] [])
    refine own_iinc (pc' := 54) X162 hx (hb hby d10_51) rfl (y := (3 : Int32)) (by decide) (Ls' := #[.val (.ref q), .val (.int t1), .val (.ref a147), .val (.int (3 : Int32))]) rfl rfl ?_
    refine own_goto X162 hx (hb hby d10_54) (by decide) (pc' := 24) (by decide) ?_
    refine own_iloadN (pc' := 25) X162 hx (hb hby d10_24) rfl rfl ?_
    refine own_aloadN (pc' := 26) X162 hx (hb hby d10_25) rfl rfl rfl ?_
    obtain ⟨T163, X163, e163, st163⟩ := getF X162 hx hZ hown (host := "") (Or.inl (hw _ (List.mem_of_getElem? (i := 70) rfl))) Via.refl e162 F162_q_count (g := (mkF m 26 #[.val (.ref q), .val (.int t1), .val (.ref a147), .val (.int (3 : Int32))] [(.ref q), (.int (3 : Int32))])) rfl rfl (hb hby d10_26)
    refine Goes.pre st163 ?_
    show Goes p e below (EndN s 5 40 (Q_12 Z q qa [.ref b0, .ref b1, .ref b2, .ref b3] (1 : Int32) (4 : Int32) t1 h0 n0)) T163 (mkF m 29 #[.val (.ref q), .val (.int t1), .val (.ref a147), .val (.int (3 : Int32))] [(.int (4 : Int32)), (.int (3 : Int32))])
    refine own_icmpN (pc' := 32) X163 hx (hb hby d10_29) (by decide) rfl ?_
    refine own_aloadN (pc' := 33) X163 hx (hb hby d10_32) rfl rfl rfl ?_
    refine own_iloadN (pc' := 34) X163 hx (hb hby d10_33) rfl rfl ?_
    refine own_aloadN (pc' := 35) X163 hx (hb hby d10_34) rfl rfl rfl ?_
    obtain ⟨T164, X164, e164, st164⟩ := getF X163 hx hZ hown (host := "") (Or.inl (hw _ (List.mem_of_getElem? (i := 12) rfl))) Via.refl e163 F162_q_queue (g := (mkF m 35 #[.val (.ref q), .val (.int t1), .val (.ref a147), .val (.int (3 : Int32))] [(.ref q), (.int (3 : Int32)), (.ref a147)])) rfl rfl (hb hby d10_35)
    refine Goes.pre st164 ?_
    show Goes p e below (EndN s 5 40 (Q_12 Z q qa [.ref b0, .ref b1, .ref b2, .ref b3] (1 : Int32) (4 : Int32) t1 h0 n0)) T164 (mkF m 38 #[.val (.ref q), .val (.int t1), .val (.ref a147), .val (.int (3 : Int32))] [(.ref qa), (.int (3 : Int32)), (.ref a147)])
    refine own_aloadN (pc' := 39) X164 hx (hb hby d10_38) rfl rfl rfl ?_
    obtain ⟨T165, X165, e165, st165⟩ := getF X164 hx hZ hown (host := "") (Or.inl (hw _ (List.mem_of_getElem? (i := 72) rfl))) Via.refl e164 F162_q_head (g := (mkF m 39 #[.val (.ref q), .val (.int t1), .val (.ref a147), .val (.int (3 : Int32))] [(.ref q), (.ref qa), (.int (3 : Int32)), (.ref a147)])) rfl rfl (hb hby d10_39)
    refine Goes.pre st165 ?_
    show Goes p e below (EndN s 5 40 (Q_12 Z q qa [.ref b0, .ref b1, .ref b2, .ref b3] (1 : Int32) (4 : Int32) t1 h0 n0)) T165 (mkF m 42 #[.val (.ref q), .val (.int t1), .val (.ref a147), .val (.int (3 : Int32))] [(.int (1 : Int32)), (.ref qa), (.int (3 : Int32)), (.ref a147)])
    refine own_iloadN (pc' := 43) X165 hx (hb hby d10_42) rfl rfl ?_
    refine own_iadd (pc' := 44) X165 hx (hb hby d10_43) rfl ?_
    rw [show ((1 : Int32) + (3 : Int32)) = (4 : Int32) from by decide]
    refine own_aloadN (pc' := 45) X165 hx (hb hby d10_44) rfl rfl rfl ?_
    obtain ⟨T166, X166, e166, st166⟩ := getF X165 hx hZ hown (host := "") (Or.inl (hw _ (List.mem_of_getElem? (i := 70) rfl))) Via.refl e165 F162_q_count (g := (mkF m 45 #[.val (.ref q), .val (.int t1), .val (.ref a147), .val (.int (3 : Int32))] [(.ref q), (.int (4 : Int32)), (.ref qa), (.int (3 : Int32)), (.ref a147)])) rfl rfl (hb hby d10_45)
    refine Goes.pre st166 ?_
    show Goes p e below (EndN s 5 40 (Q_12 Z q qa [.ref b0, .ref b1, .ref b2, .ref b3] (1 : Int32) (4 : Int32) t1 h0 n0)) T166 (mkF m 48 #[.val (.ref q), .val (.int t1), .val (.ref a147), .val (.int (3 : Int32))] [(.int (4 : Int32)), (.int (4 : Int32)), (.ref qa), (.int (3 : Int32)), (.ref a147)])
    refine own_irem (pc' := 49) X166 hx (hb hby d10_48) (by decide) rfl ?_
    rw [show ((4 : Int32) % (4 : Int32)) = (0 : Int32) from by decide]
    refine own_aaload (pc' := 50) X166 hx hZ e166 R162_qa (hb hby d10_49) (v := .ref b0) (by decide) (k := 0) (by decide) rfl rfl ?_
    refine own_aastore (pc' := 51) X166 hx hZ e166 R162x (hb hby d10_50) E162_b0 (k := 3) (by decide) (by decide) (by simp) rfl ?_
    intro T167 h167 X167 e167 W167 R167
    have N167 := Fr.snoc X167 N162 gn147
    have R167x : own_RA Z h167 a147 [.ref b1, .ref b2, .ref b3, .ref b0, .null, .null, .null, .null] := R167
    have R167_qa := R162_qa.other W167 nx147
    have E167_q := E162_q.wr W167
    have E167_b0 := E162_b0.wr W167
    have E167_b1 := E162_b1.wr W167
    have E167_b2 := E162_b2.wr W167
    have E167_b3 := E162_b3.wr W167
    have F167_q_queue := F162_q_queue.other W167 (Or.inl (Ne.symm (own_RA.neQ hw R162x E162_q)))
    have F167_q_head := F162_q_head.other W167 (Or.inl (Ne.symm (own_RA.neQ hw R162x E162_q)))
    have F167_q_count := F162_q_count.other W167 (Or.inl (Ne.symm (own_RA.neQ hw R162x E162_q)))
    have F167_q_unreported := F162_q_unreported.other W167 (Or.inl (Ne.symm (own_RA.neQ hw R162x E162_q)))
    have K167 := Keep.wr K162 W167 (Or.inr go147)
    have Zz167 : n0 ≤ Array.size h167 := by rw [W167.size]; exact Zz162
    show Goes p e below (EndN s 5 40 (Q_12 Z q qa [.ref b0, .ref b1, .ref b2, .ref b3] (1 : Int32) (4 : Int32) t1 h0 n0)) T167 (mkF m 51 #[.val (.ref q), .val (.int t1), .val (.ref a147), .val (.int (3 : Int32))] [])
    refine own_iinc (pc' := 54) X167 hx (hb hby d10_51) rfl (y := (4 : Int32)) (by decide) (Ls' := #[.val (.ref q), .val (.int t1), .val (.ref a147), .val (.int (4 : Int32))]) rfl rfl ?_
    refine own_goto X167 hx (hb hby d10_54) (by decide) (pc' := 24) (by decide) ?_
    refine own_iloadN (pc' := 25) X167 hx (hb hby d10_24) rfl rfl ?_
    refine own_aloadN (pc' := 26) X167 hx (hb hby d10_25) rfl rfl rfl ?_
    obtain ⟨T168, X168, e168, st168⟩ := getF X167 hx hZ hown (host := "") (Or.inl (hw _ (List.mem_of_getElem? (i := 70) rfl))) Via.refl e167 F167_q_count (g := (mkF m 26 #[.val (.ref q), .val (.int t1), .val (.ref a147), .val (.int (4 : Int32))] [(.ref q), (.int (4 : Int32))])) rfl rfl (hb hby d10_26)
    refine Goes.pre st168 ?_
    show Goes p e below (EndN s 5 40 (Q_12 Z q qa [.ref b0, .ref b1, .ref b2, .ref b3] (1 : Int32) (4 : Int32) t1 h0 n0)) T168 (mkF m 29 #[.val (.ref q), .val (.int t1), .val (.ref a147), .val (.int (4 : Int32))] [(.int (4 : Int32)), (.int (4 : Int32))])
    refine own_icmpY X168 hx (hb hby d10_29) (by decide) (by decide) (pc' := 57) (by decide) ?_
    refine own_aloadN (pc' := 58) X168 hx (hb hby d10_57) rfl rfl rfl ?_
    obtain ⟨T169, X169, e169, st169⟩ := getF X168 hx hZ hown (host := "") (Or.inl (hw _ (List.mem_of_getElem? (i := 70) rfl))) Via.refl e168 F167_q_count (g := (mkF m 58 #[.val (.ref q), .val (.int t1), .val (.ref a147), .val (.int (4 : Int32))] [(.ref q)])) rfl rfl (hb hby d10_58)
    refine Goes.pre st169 ?_
    show Goes p e below (EndN s 5 40 (Q_12 Z q qa [.ref b0, .ref b1, .ref b2, .ref b3] (1 : Int32) (4 : Int32) t1 h0 n0)) T169 (mkF m 61 #[.val (.ref q), .val (.int t1), .val (.ref a147), .val (.int (4 : Int32))] [(.int (4 : Int32))])
    refine own_istoreN (pc' := 62) X169 hx (hb hby d10_61) (Ls' := #[.val (.ref q), .val (.int t1), .val (.ref a147), .val (.int (4 : Int32))]) rfl rfl ?_
    refine own_iloadN (pc' := 63) X169 hx (hb hby d10_62) rfl rfl ?_
    refine own_aloadN (pc' := 64) X169 hx (hb hby d10_63) rfl rfl rfl ?_
    refine own_alenR (pc' := 65) X169 hx hZ e169 R167x (hb hby d10_64) (n := (8 : Int32)) rfl rfl ?_
    refine own_icmpN (pc' := 68) X169 hx (hb hby d10_65) (by decide) rfl ?_
    refine own_aloadN (pc' := 69) X169 hx (hb hby d10_68) rfl rfl rfl ?_
    refine own_iloadN (pc' := 70) X169 hx (hb hby d10_69) rfl rfl ?_
    obtain ⟨T170, h170, X170, e170, E170, A170, D170, -, st170⟩ := newO X169 hx hZ hown (hw _ (List.mem_of_getElem? (i := 10) rfl)) (hw _ (List.mem_of_getElem? (i := 22) rfl)) (hw _ (List.mem_of_getElem? (i := 23) rfl)) e169 (g := (mkF m 70 #[.val (.ref q), .val (.int t1), .val (.ref a147), .val (.int (4 : Int32))] [(.int (4 : Int32)), (.ref a147)])) rfl (hb hby d10_70) (by decide) (by decide)
    obtain ⟨a170, g170⟩ : ∃ z, z = Array.size (h167) := ⟨_, rfl⟩
    rw [← g170] at A170 D170 st170
    refine Goes.pre st170 ?_
    show Goes p e below (EndN s 5 40 (Q_12 Z q qa [.ref b0, .ref b1, .ref b2, .ref b3] (1 : Int32) (4 : Int32) t1 h0 n0)) T170 (mkF m 73 #[.val (.ref q), .val (.int t1), .val (.ref a147), .val (.int (4 : Int32))] [(.ref a170), (.int (4 : Int32)), (.ref a147)])
    have F170_type : Fld Z h170 a170 "com/example/dipper/dipper/stream/ScannedEvent" "type" "I" (.int (0 : Int32)) := D170 (Or.inl (hw _ (List.mem_of_getElem? (i := 80) rfl))) (ty := .int) (by decide)
    have F170_characters : Fld Z h170 a170 "com/example/dipper/dipper/stream/ScannedEvent" "characters" "[C" .null := D170 (Or.inl (hw _ (List.mem_of_getElem? (i := 82) rfl))) (ty := (.array .char)) (by decide)
    have F170_start : Fld Z h170 a170 "com/example/dipper/dipper/stream/ScannedEvent" "start" "I" (.int (0 : Int32)) := D170 (Or.inl (hw _ (List.mem_of_getElem? (i := 84) rfl))) (ty := .int) (by decide)
    have F170_length : Fld Z h170 a170 "com/example/dipper/dipper/stream/ScannedEvent" "length" "I" (.int (0 : Int32)) := D170 (Or.inl (hw _ (List.mem_of_getElem? (i := 86) rfl))) (ty := .int) (by decide)
    have F170_text : Fld Z h170 a170 "com/example/dipper/dipper/stream/ScannedEvent" "text" "Ljava/lang/String;" .null := D170 (Or.inl (hw _ (List.mem_of_getElem? (i := 88) rfl))) (ty := (.object "java/lang/String")) (by decide)
    have F170_namespace : Fld Z h170 a170 "com/example/dipper/dipper/stream/ScannedEvent" "namespace" "Ljava/lang/String;" .null := D170 (Or.inl (hw _ (List.mem_of_getElem? (i := 90) rfl))) (ty := (.object "java/lang/String")) (by decide)
    have F170_localName : Fld Z h170 a170 "com/example/dipper/dipper/stream/ScannedEvent" "localName" "Ljava/lang/String;" .null := D170 (Or.inl (hw _ (List.mem_of_getElem? (i := 92) rfl))) (ty := (.object "java/lang/String")) (by decide)
    have F170_qualifiedName : Fld Z h170 a170 "com/example/dipper/dipper/stream/ScannedEvent" "qualifiedName" "Ljava/lang/String;" .null := D170 (Or.inl (hw _ (List.mem_of_getElem? (i := 94) rfl))) (ty := (.object "java/lang/String")) (by decide)
    have gn170 : n0 ≤ a170 := by rw [g170]; exact Zz167
    have go170 : Array.size h0 ≤ a170 := by rw [g170]; exact (K167).1
    have F170c_q_queue := F167_q_queue.ext E170
    have F170c_q_head := F167_q_head.ext E170
    have F170c_q_count := F167_q_count.ext E170
    have F170c_q_unreported := F167_q_unreported.ext E170
    have E170c_q := E167_q.ext E170
    have E170c_b0 := E167_b0.ext E170
    have E170c_b1 := E167_b1.ext E170
    have E170c_b2 := E167_b2.ext E170
    have E170c_b3 := E167_b3.ext E170
    have R170c_a147 := R167x.ext E170
    have R170c_qa := R167_qa.ext E170
    have K170c := Keep.ext K167 E170
    have Zz170c : n0 ≤ Array.size h170 := Nat.le_trans Zz167 E170.1
    have nq170 : a170 ≠ q := Ne.symm (ne_exa E170c_q A170 (by decide))
    refine own_dup (pc' := 74) X170 hx (hb hby d10_73) rfl rfl ?_
    obtain ⟨_, _, ⟨T171, L171, k171, n171⟩, -, X171, ⟨Lc171, hQ171, l171, y171, z171⟩, st171⟩ := X170.specialBack hx (y := (⟨"com/example/dipper/dipper/stream/ScannedEvent", "<init>", "()V"⟩ : MethodName)) rfl hown (mvT hZ (hw _ (List.mem_of_getElem? (i := 24) rfl))) (mvT hZ (hw _ (List.mem_of_getElem? (i := 25) rfl))) (mvT hZ (hw _ (List.mem_of_getElem? (i := 26) rfl))) (by decide) (backOf (W := 3) (rm_1 l Z a0 hw [] a170 h170 n0 Zz170c) hZ (hw _ (List.mem_of_getElem? (i := 26) rfl)) (hw _ (List.mem_of_getElem? (i := 23) rfl)) (by decide) (by decide)) (g := (mkF m 74 #[.val (.ref q), .val (.int t1), .val (.ref a147), .val (.int (4 : Int32))] [(.ref a170), (.ref a170), (.int (4 : Int32)), (.ref a147)])) rfl (by rw [hml]; rfl) (Steps.refl _) (a := a170) (argsL := []) (rest := [(.ref a170), (.int (4 : Int32)), (.ref a147)]) (lenOf pd_1 rfl) rfl (by show 2 * 0 + _ ≤ _; exact Nat.le_of_eq rfl) (hb hby d10_74) (fun _ _ => ⟨rfl, e170, (by decide : 2 + 0 ≤ _), (by decide : 16 + 0 ≤ _)⟩)
    dsimp only [Pt.U, Pt.locs, Pt.cells, Pt.slots] at X171 l171 y171 z171 st171 hQ171
    subst l171 y171 z171
    obtain ⟨rfl, M171, ei171⟩ := hQ171
    have N171 := Fr.app N167 M171
    refine Goes.aft st171 ?_
    show Goes p e below (EndN s 5 40 (Q_12 Z q qa [.ref b0, .ref b1, .ref b2, .ref b3] (1 : Int32) (4 : Int32) t1 h0 n0)) T171 (mkF m 77 #[.val (.ref q), .val (.int t1), .val (.ref a147), .val (.int (4 : Int32))] [(.ref a170), (.int (4 : Int32)), (.ref a147)])
    refine own_aastore (pc' := 78) X171 hx hZ ei171 R170c_a147 (hb hby d10_77) A170 (k := 4) (by decide) (by decide) (by simp) rfl ?_
    intro T172 h172 X172 e172 W172 R172
    have N172 := Fr.snoc X172 N171 gn147
    have R172x : own_RA Z h172 a147 [.ref b1, .ref b2, .ref b3, .ref b0, .ref a170, .null, .null, .null] := R172
    have R172_qa := R170c_qa.other W172 nx147
    have E172_q := E170c_q.wr W172
    have E172_b0 := E170c_b0.wr W172
    have E172_b1 := E170c_b1.wr W172
    have E172_b2 := E170c_b2.wr W172
    have E172_b3 := E170c_b3.wr W172
    have E172_a170 := A170.wr W172
    have F172_q_queue := F170c_q_queue.other W172 (Or.inl (Ne.symm (own_RA.neQ hw R170c_a147 E170c_q)))
    have F172_q_head := F170c_q_head.other W172 (Or.inl (Ne.symm (own_RA.neQ hw R170c_a147 E170c_q)))
    have F172_q_count := F170c_q_count.other W172 (Or.inl (Ne.symm (own_RA.neQ hw R170c_a147 E170c_q)))
    have F172_q_unreported := F170c_q_unreported.other W172 (Or.inl (Ne.symm (own_RA.neQ hw R170c_a147 E170c_q)))
    have F172_a170_type := F170_type.other W172 (Or.inl (Ne.symm (own_RA.neE hw R170c_a147 A170)))
    have F172_a170_characters := F170_characters.other W172 (Or.inl (Ne.symm (own_RA.neE hw R170c_a147 A170)))
    have F172_a170_start := F170_start.other W172 (Or.inl (Ne.symm (own_RA.neE hw R170c_a147 A170)))
    have F172_a170_length := F170_length.other W172 (Or.inl (Ne.symm (own_RA.neE hw R170c_a147 A170)))
    have F172_a170_text := F170_text.other W172 (Or.inl (Ne.symm (own_RA.neE hw R170c_a147 A170)))
    have F172_a170_namespace := F170_namespace.other W172 (Or.inl (Ne.symm (own_RA.neE hw R170c_a147 A170)))
    have F172_a170_localName := F170_localName.other W172 (Or.inl (Ne.symm (own_RA.neE hw R170c_a147 A170)))
    have F172_a170_qualifiedName := F170_qualifiedName.other W172 (Or.inl (Ne.symm (own_RA.neE hw R170c_a147 A170)))
    have K172 := Keep.wr K170c W172 (Or.inr go147)
    have Zz172 : n0 ≤ Array.size h172 := by rw [W172.size]; exact Zz170c
    show Goes p e below (EndN s 5 40 (Q_12 Z q qa [.ref b0, .ref b1, .ref b2, .ref b3] (1 : Int32) (4 : Int32) t1 h0 n0)) T172 (mkF m 78 #[.val (.ref q), .val (.int t1), .val (.ref a147), .val (.int (4 : Int32))] [])
    refine own_iinc (pc' := 81) X172 hx (hb hby d10_78) rfl (y := (5 : Int32)) (by decide) (Ls' := #[.val (.ref q), .val (.int t1), .val (.ref a147), .val (.int (5 : Int32))]) rfl rfl ?_
    refine own_goto X172 hx (hb hby d10_81) (by decide) (pc' := 62) (by decide) ?_
    refine own_iloadN (pc' := 63) X172 hx (hb hby d10_62) rfl rfl ?_
    refine own_aloadN (pc' := 64) X172 hx (hb hby d10_63) rfl rfl rfl ?_
    refine own_alenR (pc' := 65) X172 hx hZ e172 R172x (hb hby d10_64) (n := (8 : Int32)) rfl rfl ?_
    refine own_icmpN (pc' := 68) X172 hx (hb hby d10_65) (by decide) rfl ?_
    refine own_aloadN (pc' := 69) X172 hx (hb hby d10_68) rfl rfl rfl ?_
    refine own_iloadN (pc' := 70) X172 hx (hb hby d10_69) rfl rfl ?_
    obtain ⟨T173, h173, X173, e173, E173, A173, D173, -, st173⟩ := newO X172 hx hZ hown (hw _ (List.mem_of_getElem? (i := 10) rfl)) (hw _ (List.mem_of_getElem? (i := 22) rfl)) (hw _ (List.mem_of_getElem? (i := 23) rfl)) e172 (g := (mkF m 70 #[.val (.ref q), .val (.int t1), .val (.ref a147), .val (.int (5 : Int32))] [(.int (5 : Int32)), (.ref a147)])) rfl (hb hby d10_70) (by decide) (by decide)
    obtain ⟨a173, g173⟩ : ∃ z, z = Array.size (h172) := ⟨_, rfl⟩
    rw [← g173] at A173 D173 st173
    refine Goes.pre st173 ?_
    show Goes p e below (EndN s 5 40 (Q_12 Z q qa [.ref b0, .ref b1, .ref b2, .ref b3] (1 : Int32) (4 : Int32) t1 h0 n0)) T173 (mkF m 73 #[.val (.ref q), .val (.int t1), .val (.ref a147), .val (.int (5 : Int32))] [(.ref a173), (.int (5 : Int32)), (.ref a147)])
    have gn173 : n0 ≤ a173 := by rw [g173]; exact Zz172
    have go173 : Array.size h0 ≤ a173 := by rw [g173]; exact (K172).1
    have F173c_q_queue := F172_q_queue.ext E173
    have F173c_q_head := F172_q_head.ext E173
    have F173c_q_count := F172_q_count.ext E173
    have F173c_q_unreported := F172_q_unreported.ext E173
    have F173c_a170_type := F172_a170_type.ext E173
    have F173c_a170_characters := F172_a170_characters.ext E173
    have F173c_a170_start := F172_a170_start.ext E173
    have F173c_a170_length := F172_a170_length.ext E173
    have F173c_a170_text := F172_a170_text.ext E173
    have F173c_a170_namespace := F172_a170_namespace.ext E173
    have F173c_a170_localName := F172_a170_localName.ext E173
    have F173c_a170_qualifiedName := F172_a170_qualifiedName.ext E173
    have E173c_q := E172_q.ext E173
    have E173c_b0 := E172_b0.ext E173
    have E173c_b1 := E172_b1.ext E173
    have E173c_b2 := E172_b2.ext E173
    have E173c_b3 := E172_b3.ext E173
    have E173c_a170 := E172_a170.ext E173
    have R173c_a147 := R172x.ext E173
    have R173c_qa := R172_qa.ext E173
    have K173c := Keep.ext K172 E173
    have Zz173c : n0 ≤ Array.size h173 := Nat.le_trans Zz172 E173.1
    have nq173 : a173 ≠ q := Ne.symm (ne_exa E173c_q A173 (by decide))
    refine own_dup (pc' := 74) X173 hx (hb hby d10_73) rfl rfl ?_
    obtain ⟨_, _, ⟨T174, L174, k174, n174⟩, -, X174, ⟨Lc174, hQ174, l174, y174, z174⟩, st174⟩ := X173.specialBack hx (y := (⟨"com/example/dipper/dipper/stream/ScannedEvent", "<init>", "()V"⟩ : MethodName)) rfl hown (mvT hZ (hw _ (List.mem_of_getElem? (i := 24) rfl))) (mvT hZ (hw _ (List.mem_of_getElem? (i := 25) rfl))) (mvT hZ (hw _ (List.mem_of_getElem? (i := 26) rfl))) (by decide) (backOf (W := 3) (rm_1 l Z a0 hw [] a173 h173 n0 Zz173c) hZ (hw _ (List.mem_of_getElem? (i := 26) rfl)) (hw _ (List.mem_of_getElem? (i := 23) rfl)) (by decide) (by decide)) (g := (mkF m 74 #[.val (.ref q), .val (.int t1), .val (.ref a147), .val (.int (5 : Int32))] [(.ref a173), (.ref a173), (.int (5 : Int32)), (.ref a147)])) rfl (by rw [hml]; rfl) (Steps.refl _) (a := a173) (argsL := []) (rest := [(.ref a173), (.int (5 : Int32)), (.ref a147)]) (lenOf pd_1 rfl) rfl (by show 2 * 0 + _ ≤ _; exact Nat.le_of_eq rfl) (hb hby d10_74) (fun _ _ => ⟨rfl, e173, (by decide : 3 + 0 ≤ _), (by decide : 24 + 0 ≤ _)⟩)
    dsimp only [Pt.U, Pt.locs, Pt.cells, Pt.slots] at X174 l174 y174 z174 st174 hQ174
    subst l174 y174 z174
    obtain ⟨rfl, M174, ei174⟩ := hQ174
    have N174 := Fr.app N172 M174
    refine Goes.aft st174 ?_
    show Goes p e below (EndN s 5 40 (Q_12 Z q qa [.ref b0, .ref b1, .ref b2, .ref b3] (1 : Int32) (4 : Int32) t1 h0 n0)) T174 (mkF m 77 #[.val (.ref q), .val (.int t1), .val (.ref a147), .val (.int (5 : Int32))] [(.ref a173), (.int (5 : Int32)), (.ref a147)])
    refine own_aastore (pc' := 78) X174 hx hZ ei174 R173c_a147 (hb hby d10_77) A173 (k := 5) (by decide) (by decide) (by simp) rfl ?_
    intro T175 h175 X175 e175 W175 R175
    have N175 := Fr.snoc X175 N174 gn147
    have R175x : own_RA Z h175 a147 [.ref b1, .ref b2, .ref b3, .ref b0, .ref a170, .ref a173, .null, .null] := R175
    have R175_qa := R173c_qa.other W175 nx147
    have E175_q := E173c_q.wr W175
    have E175_b0 := E173c_b0.wr W175
    have E175_b1 := E173c_b1.wr W175
    have E175_b2 := E173c_b2.wr W175
    have E175_b3 := E173c_b3.wr W175
    have E175_a170 := E173c_a170.wr W175
    have E175_a173 := A173.wr W175
    have F175_q_queue := F173c_q_queue.other W175 (Or.inl (Ne.symm (own_RA.neQ hw R173c_a147 E173c_q)))
    have F175_q_head := F173c_q_head.other W175 (Or.inl (Ne.symm (own_RA.neQ hw R173c_a147 E173c_q)))
    have F175_q_count := F173c_q_count.other W175 (Or.inl (Ne.symm (own_RA.neQ hw R173c_a147 E173c_q)))
    have F175_q_unreported := F173c_q_unreported.other W175 (Or.inl (Ne.symm (own_RA.neQ hw R173c_a147 E173c_q)))
    have F175_a170_type := F173c_a170_type.other W175 (Or.inl (Ne.symm (own_RA.neE hw R173c_a147 E173c_a170)))
    have F175_a170_characters := F173c_a170_characters.other W175 (Or.inl (Ne.symm (own_RA.neE hw R173c_a147 E173c_a170)))
    have F175_a170_start := F173c_a170_start.other W175 (Or.inl (Ne.symm (own_RA.neE hw R173c_a147 E173c_a170)))
    have F175_a170_length := F173c_a170_length.other W175 (Or.inl (Ne.symm (own_RA.neE hw R173c_a147 E173c_a170)))
    have F175_a170_text := F173c_a170_text.other W175 (Or.inl (Ne.symm (own_RA.neE hw R173c_a147 E173c_a170)))
    have F175_a170_namespace := F173c_a170_namespace.other W175 (Or.inl (Ne.symm (own_RA.neE hw R173c_a147 E173c_a170)))
    have F175_a170_localName := F173c_a170_localName.other W175 (Or.inl (Ne.symm (own_RA.neE hw R173c_a147 E173c_a170)))
    have F175_a170_qualifiedName := F173c_a170_qualifiedName.other W175 (Or.inl (Ne.symm (own_RA.neE hw R173c_a147 E173c_a170)))
    have K175 := Keep.wr K173c W175 (Or.inr go147)
    have Zz175 : n0 ≤ Array.size h175 := by rw [W175.size]; exact Zz173c
    show Goes p e below (EndN s 5 40 (Q_12 Z q qa [.ref b0, .ref b1, .ref b2, .ref b3] (1 : Int32) (4 : Int32) t1 h0 n0)) T175 (mkF m 78 #[.val (.ref q), .val (.int t1), .val (.ref a147), .val (.int (5 : Int32))] [])
    refine own_iinc (pc' := 81) X175 hx (hb hby d10_78) rfl (y := (6 : Int32)) (by decide) (Ls' := #[.val (.ref q), .val (.int t1), .val (.ref a147), .val (.int (6 : Int32))]) rfl rfl ?_
    refine own_goto X175 hx (hb hby d10_81) (by decide) (pc' := 62) (by decide) ?_
    refine own_iloadN (pc' := 63) X175 hx (hb hby d10_62) rfl rfl ?_
    refine own_aloadN (pc' := 64) X175 hx (hb hby d10_63) rfl rfl rfl ?_
    refine own_alenR (pc' := 65) X175 hx hZ e175 R175x (hb hby d10_64) (n := (8 : Int32)) rfl rfl ?_
    refine own_icmpN (pc' := 68) X175 hx (hb hby d10_65) (by decide) rfl ?_
    refine own_aloadN (pc' := 69) X175 hx (hb hby d10_68) rfl rfl rfl ?_
    refine own_iloadN (pc' := 70) X175 hx (hb hby d10_69) rfl rfl ?_
    obtain ⟨T176, h176, X176, e176, E176, A176, D176, -, st176⟩ := newO X175 hx hZ hown (hw _ (List.mem_of_getElem? (i := 10) rfl)) (hw _ (List.mem_of_getElem? (i := 22) rfl)) (hw _ (List.mem_of_getElem? (i := 23) rfl)) e175 (g := (mkF m 70 #[.val (.ref q), .val (.int t1), .val (.ref a147), .val (.int (6 : Int32))] [(.int (6 : Int32)), (.ref a147)])) rfl (hb hby d10_70) (by decide) (by decide)
    obtain ⟨a176, g176⟩ : ∃ z, z = Array.size (h175) := ⟨_, rfl⟩
    rw [← g176] at A176 D176 st176
    refine Goes.pre st176 ?_
    show Goes p e below (EndN s 5 40 (Q_12 Z q qa [.ref b0, .ref b1, .ref b2, .ref b3] (1 : Int32) (4 : Int32) t1 h0 n0)) T176 (mkF m 73 #[.val (.ref q), .val (.int t1), .val (.ref a147), .val (.int (6 : Int32))] [(.ref a176), (.int (6 : Int32)), (.ref a147)])
    have gn176 : n0 ≤ a176 := by rw [g176]; exact Zz175
    have go176 : Array.size h0 ≤ a176 := by rw [g176]; exact (K175).1
    have F176c_q_queue := F175_q_queue.ext E176
    have F176c_q_head := F175_q_head.ext E176
    have F176c_q_count := F175_q_count.ext E176
    have F176c_q_unreported := F175_q_unreported.ext E176
    have F176c_a170_type := F175_a170_type.ext E176
    have F176c_a170_characters := F175_a170_characters.ext E176
    have F176c_a170_start := F175_a170_start.ext E176
    have F176c_a170_length := F175_a170_length.ext E176
    have F176c_a170_text := F175_a170_text.ext E176
    have F176c_a170_namespace := F175_a170_namespace.ext E176
    have F176c_a170_localName := F175_a170_localName.ext E176
    have F176c_a170_qualifiedName := F175_a170_qualifiedName.ext E176
    have E176c_q := E175_q.ext E176
    have E176c_b0 := E175_b0.ext E176
    have E176c_b1 := E175_b1.ext E176
    have E176c_b2 := E175_b2.ext E176
    have E176c_b3 := E175_b3.ext E176
    have E176c_a170 := E175_a170.ext E176
    have E176c_a173 := E175_a173.ext E176
    have R176c_a147 := R175x.ext E176
    have R176c_qa := R175_qa.ext E176
    have K176c := Keep.ext K175 E176
    have Zz176c : n0 ≤ Array.size h176 := Nat.le_trans Zz175 E176.1
    have nq176 : a176 ≠ q := Ne.symm (ne_exa E176c_q A176 (by decide))
    refine own_dup (pc' := 74) X176 hx (hb hby d10_73) rfl rfl ?_
    obtain ⟨_, _, ⟨T177, L177, k177, n177⟩, -, X177, ⟨Lc177, hQ177, l177, y177, z177⟩, st177⟩ := X176.specialBack hx (y := (⟨"com/example/dipper/dipper/stream/ScannedEvent", "<init>", "()V"⟩ : MethodName)) rfl hown (mvT hZ (hw _ (List.mem_of_getElem? (i := 24) rfl))) (mvT hZ (hw _ (List.mem_of_getElem? (i := 25) rfl))) (mvT hZ (hw _ (List.mem_of_getElem? (i := 26) rfl))) (by decide) (backOf (W := 3) (rm_1 l Z a0 hw [] a176 h176 n0 Zz176c) hZ (hw _ (List.mem_of_getElem? (i := 26) rfl)) (hw _ (List.mem_of_getElem? (i := 23) rfl)) (by decide) (by decide)) (g := (mkF m 74 #[.val (.ref q), .val (.int t1), .val (.ref a147), .val (.int (6 : Int32))] [(.ref a176), (.ref a176), (.int (6 : Int32)), (.ref a147)])) rfl (by rw [hml]; rfl) (Steps.refl _) (a := a176) (argsL := []) (rest := [(.ref a176), (.int (6 : Int32)), (.ref a147)]) (lenOf pd_1 rfl) rfl (by show 2 * 0 + _ ≤ _; exact Nat.le_of_eq rfl) (hb hby d10_74) (fun _ _ => ⟨rfl, e176, (by decide : 4 + 0 ≤ _), (by decide : 32 + 0 ≤ _)⟩)
    dsimp only [Pt.U, Pt.locs, Pt.cells, Pt.slots] at X177 l177 y177 z177 st177 hQ177
    subst l177 y177 z177
    obtain ⟨rfl, M177, ei177⟩ := hQ177
    have N177 := Fr.app N175 M177
    refine Goes.aft st177 ?_
    show Goes p e below (EndN s 5 40 (Q_12 Z q qa [.ref b0, .ref b1, .ref b2, .ref b3] (1 : Int32) (4 : Int32) t1 h0 n0)) T177 (mkF m 77 #[.val (.ref q), .val (.int t1), .val (.ref a147), .val (.int (6 : Int32))] [(.ref a176), (.int (6 : Int32)), (.ref a147)])
    refine own_aastore (pc' := 78) X177 hx hZ ei177 R176c_a147 (hb hby d10_77) A176 (k := 6) (by decide) (by decide) (by simp) rfl ?_
    intro T178 h178 X178 e178 W178 R178
    have N178 := Fr.snoc X178 N177 gn147
    have R178x : own_RA Z h178 a147 [.ref b1, .ref b2, .ref b3, .ref b0, .ref a170, .ref a173, .ref a176, .null] := R178
    have R178_qa := R176c_qa.other W178 nx147
    have E178_q := E176c_q.wr W178
    have E178_b0 := E176c_b0.wr W178
    have E178_b1 := E176c_b1.wr W178
    have E178_b2 := E176c_b2.wr W178
    have E178_b3 := E176c_b3.wr W178
    have E178_a170 := E176c_a170.wr W178
    have E178_a173 := E176c_a173.wr W178
    have E178_a176 := A176.wr W178
    have F178_q_queue := F176c_q_queue.other W178 (Or.inl (Ne.symm (own_RA.neQ hw R176c_a147 E176c_q)))
    have F178_q_head := F176c_q_head.other W178 (Or.inl (Ne.symm (own_RA.neQ hw R176c_a147 E176c_q)))
    have F178_q_count := F176c_q_count.other W178 (Or.inl (Ne.symm (own_RA.neQ hw R176c_a147 E176c_q)))
    have F178_q_unreported := F176c_q_unreported.other W178 (Or.inl (Ne.symm (own_RA.neQ hw R176c_a147 E176c_q)))
    have F178_a170_type := F176c_a170_type.other W178 (Or.inl (Ne.symm (own_RA.neE hw R176c_a147 E176c_a170)))
    have F178_a170_characters := F176c_a170_characters.other W178 (Or.inl (Ne.symm (own_RA.neE hw R176c_a147 E176c_a170)))
    have F178_a170_start := F176c_a170_start.other W178 (Or.inl (Ne.symm (own_RA.neE hw R176c_a147 E176c_a170)))
    have F178_a170_length := F176c_a170_length.other W178 (Or.inl (Ne.symm (own_RA.neE hw R176c_a147 E176c_a170)))
    have F178_a170_text := F176c_a170_text.other W178 (Or.inl (Ne.symm (own_RA.neE hw R176c_a147 E176c_a170)))
    have F178_a170_namespace := F176c_a170_namespace.other W178 (Or.inl (Ne.symm (own_RA.neE hw R176c_a147 E176c_a170)))
    have F178_a170_localName := F176c_a170_localName.other W178 (Or.inl (Ne.symm (own_RA.neE hw R176c_a147 E176c_a170)))
    have F178_a170_qualifiedName := F176c_a170_qualifiedName.other W178 (Or.inl (Ne.symm (own_RA.neE hw R176c_a147 E176c_a170)))
    have K178 := Keep.wr K176c W178 (Or.inr go147)
    have Zz178 : n0 ≤ Array.size h178 := by rw [W178.size]; exact Zz176c
    show Goes p e below (EndN s 5 40 (Q_12 Z q qa [.ref b0, .ref b1, .ref b2, .ref b3] (1 : Int32) (4 : Int32) t1 h0 n0)) T178 (mkF m 78 #[.val (.ref q), .val (.int t1), .val (.ref a147), .val (.int (6 : Int32))] [])
    refine own_iinc (pc' := 81) X178 hx (hb hby d10_78) rfl (y := (7 : Int32)) (by decide) (Ls' := #[.val (.ref q), .val (.int t1), .val (.ref a147), .val (.int (7 : Int32))]) rfl rfl ?_
    refine own_goto X178 hx (hb hby d10_81) (by decide) (pc' := 62) (by decide) ?_
    refine own_iloadN (pc' := 63) X178 hx (hb hby d10_62) rfl rfl ?_
    refine own_aloadN (pc' := 64) X178 hx (hb hby d10_63) rfl rfl rfl ?_
    refine own_alenR (pc' := 65) X178 hx hZ e178 R178x (hb hby d10_64) (n := (8 : Int32)) rfl rfl ?_
    refine own_icmpN (pc' := 68) X178 hx (hb hby d10_65) (by decide) rfl ?_
    refine own_aloadN (pc' := 69) X178 hx (hb hby d10_68) rfl rfl rfl ?_
    refine own_iloadN (pc' := 70) X178 hx (hb hby d10_69) rfl rfl ?_
    obtain ⟨T179, h179, X179, e179, E179, A179, D179, -, st179⟩ := newO X178 hx hZ hown (hw _ (List.mem_of_getElem? (i := 10) rfl)) (hw _ (List.mem_of_getElem? (i := 22) rfl)) (hw _ (List.mem_of_getElem? (i := 23) rfl)) e178 (g := (mkF m 70 #[.val (.ref q), .val (.int t1), .val (.ref a147), .val (.int (7 : Int32))] [(.int (7 : Int32)), (.ref a147)])) rfl (hb hby d10_70) (by decide) (by decide)
    obtain ⟨a179, g179⟩ : ∃ z, z = Array.size (h178) := ⟨_, rfl⟩
    rw [← g179] at A179 D179 st179
    refine Goes.pre st179 ?_
    show Goes p e below (EndN s 5 40 (Q_12 Z q qa [.ref b0, .ref b1, .ref b2, .ref b3] (1 : Int32) (4 : Int32) t1 h0 n0)) T179 (mkF m 73 #[.val (.ref q), .val (.int t1), .val (.ref a147), .val (.int (7 : Int32))] [(.ref a179), (.int (7 : Int32)), (.ref a147)])
    have gn179 : n0 ≤ a179 := by rw [g179]; exact Zz178
    have go179 : Array.size h0 ≤ a179 := by rw [g179]; exact (K178).1
    have F179c_q_queue := F178_q_queue.ext E179
    have F179c_q_head := F178_q_head.ext E179
    have F179c_q_count := F178_q_count.ext E179
    have F179c_q_unreported := F178_q_unreported.ext E179
    have F179c_a170_type := F178_a170_type.ext E179
    have F179c_a170_characters := F178_a170_characters.ext E179
    have F179c_a170_start := F178_a170_start.ext E179
    have F179c_a170_length := F178_a170_length.ext E179
    have F179c_a170_text := F178_a170_text.ext E179
    have F179c_a170_namespace := F178_a170_namespace.ext E179
    have F179c_a170_localName := F178_a170_localName.ext E179
    have F179c_a170_qualifiedName := F178_a170_qualifiedName.ext E179
    have E179c_q := E178_q.ext E179
    have E179c_b0 := E178_b0.ext E179
    have E179c_b1 := E178_b1.ext E179
    have E179c_b2 := E178_b2.ext E179
    have E179c_b3 := E178_b3.ext E179
    have E179c_a170 := E178_a170.ext E179
    have E179c_a173 := E178_a173.ext E179
    have E179c_a176 := E178_a176.ext E179
    have R179c_a147 := R178x.ext E179
    have R179c_qa := R178_qa.ext E179
    have K179c := Keep.ext K178 E179
    have Zz179c : n0 ≤ Array.size h179 := Nat.le_trans Zz178 E179.1
    have nq179 : a179 ≠ q := Ne.symm (ne_exa E179c_q A179 (by decide))
    refine own_dup (pc' := 74) X179 hx (hb hby d10_73) rfl rfl ?_
    obtain ⟨_, _, ⟨T180, L180, k180, n180⟩, -, X180, ⟨Lc180, hQ180, l180, y180, z180⟩, st180⟩ := X179.specialBack hx (y := (⟨"com/example/dipper/dipper/stream/ScannedEvent", "<init>", "()V"⟩ : MethodName)) rfl hown (mvT hZ (hw _ (List.mem_of_getElem? (i := 24) rfl))) (mvT hZ (hw _ (List.mem_of_getElem? (i := 25) rfl))) (mvT hZ (hw _ (List.mem_of_getElem? (i := 26) rfl))) (by decide) (backOf (W := 3) (rm_1 l Z a0 hw [] a179 h179 n0 Zz179c) hZ (hw _ (List.mem_of_getElem? (i := 26) rfl)) (hw _ (List.mem_of_getElem? (i := 23) rfl)) (by decide) (by decide)) (g := (mkF m 74 #[.val (.ref q), .val (.int t1), .val (.ref a147), .val (.int (7 : Int32))] [(.ref a179), (.ref a179), (.int (7 : Int32)), (.ref a147)])) rfl (by rw [hml]; rfl) (Steps.refl _) (a := a179) (argsL := []) (rest := [(.ref a179), (.int (7 : Int32)), (.ref a147)]) (lenOf pd_1 rfl) rfl (by show 2 * 0 + _ ≤ _; exact Nat.le_of_eq rfl) (hb hby d10_74) (fun _ _ => ⟨rfl, e179, (by decide : 5 + 0 ≤ _), (by decide : 40 + 0 ≤ _)⟩)
    dsimp only [Pt.U, Pt.locs, Pt.cells, Pt.slots] at X180 l180 y180 z180 st180 hQ180
    subst l180 y180 z180
    obtain ⟨rfl, M180, ei180⟩ := hQ180
    have N180 := Fr.app N178 M180
    refine Goes.aft st180 ?_
    show Goes p e below (EndN s 5 40 (Q_12 Z q qa [.ref b0, .ref b1, .ref b2, .ref b3] (1 : Int32) (4 : Int32) t1 h0 n0)) T180 (mkF m 77 #[.val (.ref q), .val (.int t1), .val (.ref a147), .val (.int (7 : Int32))] [(.ref a179), (.int (7 : Int32)), (.ref a147)])
    refine own_aastore (pc' := 78) X180 hx hZ ei180 R179c_a147 (hb hby d10_77) A179 (k := 7) (by decide) (by decide) (by simp) rfl ?_
    intro T181 h181 X181 e181 W181 R181
    have N181 := Fr.snoc X181 N180 gn147
    have R181x : own_RA Z h181 a147 [.ref b1, .ref b2, .ref b3, .ref b0, .ref a170, .ref a173, .ref a176, .ref a179] := R181
    have R181_qa := R179c_qa.other W181 nx147
    have E181_q := E179c_q.wr W181
    have E181_b0 := E179c_b0.wr W181
    have E181_b1 := E179c_b1.wr W181
    have E181_b2 := E179c_b2.wr W181
    have E181_b3 := E179c_b3.wr W181
    have E181_a170 := E179c_a170.wr W181
    have E181_a173 := E179c_a173.wr W181
    have E181_a176 := E179c_a176.wr W181
    have E181_a179 := A179.wr W181
    have F181_q_queue := F179c_q_queue.other W181 (Or.inl (Ne.symm (own_RA.neQ hw R179c_a147 E179c_q)))
    have F181_q_head := F179c_q_head.other W181 (Or.inl (Ne.symm (own_RA.neQ hw R179c_a147 E179c_q)))
    have F181_q_count := F179c_q_count.other W181 (Or.inl (Ne.symm (own_RA.neQ hw R179c_a147 E179c_q)))
    have F181_q_unreported := F179c_q_unreported.other W181 (Or.inl (Ne.symm (own_RA.neQ hw R179c_a147 E179c_q)))
    have F181_a170_type := F179c_a170_type.other W181 (Or.inl (Ne.symm (own_RA.neE hw R179c_a147 E179c_a170)))
    have F181_a170_characters := F179c_a170_characters.other W181 (Or.inl (Ne.symm (own_RA.neE hw R179c_a147 E179c_a170)))
    have F181_a170_start := F179c_a170_start.other W181 (Or.inl (Ne.symm (own_RA.neE hw R179c_a147 E179c_a170)))
    have F181_a170_length := F179c_a170_length.other W181 (Or.inl (Ne.symm (own_RA.neE hw R179c_a147 E179c_a170)))
    have F181_a170_text := F179c_a170_text.other W181 (Or.inl (Ne.symm (own_RA.neE hw R179c_a147 E179c_a170)))
    have F181_a170_namespace := F179c_a170_namespace.other W181 (Or.inl (Ne.symm (own_RA.neE hw R179c_a147 E179c_a170)))
    have F181_a170_localName := F179c_a170_localName.other W181 (Or.inl (Ne.symm (own_RA.neE hw R179c_a147 E179c_a170)))
    have F181_a170_qualifiedName := F179c_a170_qualifiedName.other W181 (Or.inl (Ne.symm (own_RA.neE hw R179c_a147 E179c_a170)))
    have K181 := Keep.wr K179c W181 (Or.inr go147)
    have Zz181 : n0 ≤ Array.size h181 := by rw [W181.size]; exact Zz179c
    show Goes p e below (EndN s 5 40 (Q_12 Z q qa [.ref b0, .ref b1, .ref b2, .ref b3] (1 : Int32) (4 : Int32) t1 h0 n0)) T181 (mkF m 78 #[.val (.ref q), .val (.int t1), .val (.ref a147), .val (.int (7 : Int32))] [])
    refine own_iinc (pc' := 81) X181 hx (hb hby d10_78) rfl (y := (8 : Int32)) (by decide) (Ls' := #[.val (.ref q), .val (.int t1), .val (.ref a147), .val (.int (8 : Int32))]) rfl rfl ?_
    refine own_goto X181 hx (hb hby d10_81) (by decide) (pc' := 62) (by decide) ?_
    refine own_iloadN (pc' := 63) X181 hx (hb hby d10_62) rfl rfl ?_
    refine own_aloadN (pc' := 64) X181 hx (hb hby d10_63) rfl rfl rfl ?_
    refine own_alenR (pc' := 65) X181 hx hZ e181 R181x (hb hby d10_64) (n := (8 : Int32)) rfl rfl ?_
    refine own_icmpY X181 hx (hb hby d10_65) (by decide) (by decide) (pc' := 84) (by decide) ?_
    refine own_aloadN (pc' := 85) X181 hx (hb hby d10_84) rfl rfl rfl ?_
    refine own_aloadN (pc' := 86) X181 hx (hb hby d10_85) rfl rfl rfl ?_
    obtain ⟨T182, h182, X182, e182, W182, st182⟩ := putF X181 hx hZ hown (host := "") (Or.inl (hw _ (List.mem_of_getElem? (i := 12) rfl))) Via.refl e181 F181_q_queue E181_q (Or.inl (hw _ (List.mem_of_getElem? (i := 13) rfl))) (hw _ (List.mem_of_getElem? (i := 2) rfl)) (ty := (.array (.object "com/example/dipper/dipper/stream/ScannedEvent"))) (by decide) rfl rfl (g := (mkF m 86 #[.val (.ref q), .val (.int t1), .val (.ref a147), .val (.int (8 : Int32))] [(.ref a147), (.ref q)])) rfl rfl (hb hby d10_86)
    have N182 := Fr.snoc X182 N181 gq
    refine Goes.pre st182 ?_
    show Goes p e below (EndN s 5 40 (Q_12 Z q qa [.ref b0, .ref b1, .ref b2, .ref b3] (1 : Int32) (4 : Int32) t1 h0 n0)) T182 (mkF m 89 #[.val (.ref q), .val (.int t1), .val (.ref a147), .val (.int (8 : Int32))] [])
    have F182_q_queue := F181_q_queue.same W182
    have F182_q_head := F181_q_head.other W182 (Or.inr (slot_ne (Or.inl (hw _ (List.mem_of_getElem? (i := 73) rfl))) (Or.inl (hw _ (List.mem_of_getElem? (i := 13) rfl))) (by decide) (t := .int) (t' := (.array (.object "com/example/dipper/dipper/stream/ScannedEvent"))) (by decide) (by decide)))
    have F182_q_count := F181_q_count.other W182 (Or.inr (slot_ne (Or.inl (hw _ (List.mem_of_getElem? (i := 71) rfl))) (Or.inl (hw _ (List.mem_of_getElem? (i := 13) rfl))) (by decide) (t := .int) (t' := (.array (.object "com/example/dipper/dipper/stream/ScannedEvent"))) (by decide) (by decide)))
    have F182_q_unreported := F181_q_unreported.other W182 (Or.inr (slot_ne (Or.inl (hw _ (List.mem_of_getElem? (i := 65) rfl))) (Or.inl (hw _ (List.mem_of_getElem? (i := 13) rfl))) (by decide) (t := .int) (t' := (.array (.object "com/example/dipper/dipper/stream/ScannedEvent"))) (by decide) (by decide)))
    have F182_a170_type := F181_a170_type.other W182 (Or.inl nq170)
    have F182_a170_characters := F181_a170_characters.other W182 (Or.inl nq170)
    have F182_a170_start := F181_a170_start.other W182 (Or.inl nq170)
    have F182_a170_length := F181_a170_length.other W182 (Or.inl nq170)
    have F182_a170_text := F181_a170_text.other W182 (Or.inl nq170)
    have F182_a170_namespace := F181_a170_namespace.other W182 (Or.inl nq170)
    have F182_a170_localName := F181_a170_localName.other W182 (Or.inl nq170)
    have F182_a170_qualifiedName := F181_a170_qualifiedName.other W182 (Or.inl nq170)
    have E182_q := E181_q.wr W182
    have E182_b0 := E181_b0.wr W182
    have E182_b1 := E181_b1.wr W182
    have E182_b2 := E181_b2.wr W182
    have E182_b3 := E181_b3.wr W182
    have E182_a170 := E181_a170.wr W182
    have E182_a173 := E181_a173.wr W182
    have E182_a176 := E181_a176.wr W182
    have E182_a179 := E181_a179.wr W182
    have K182 := Keep.wr K181 W182 (Or.inl (List.mem_of_getElem? (i := 0) rfl))
    have R182_a147 := R181x.other W182 nq147
    have R182_qa := R181_qa.other W182 neAQ
    have Zz182 : n0 ≤ Array.size h182 := by rw [W182.size]; exact Zz181
    refine own_aloadN (pc' := 90) X182 hx (hb hby d10_89) rfl rfl rfl ?_
    refine own_iconst (pc' := 91) X182 hx (hb hby d10_90) (v := (0 : Int32)) rfl rfl ?_
    obtain ⟨T183, h183, X183, e183, W183, st183⟩ := putF X182 hx hZ hown (host := "") (Or.inl (hw _ (List.mem_of_getElem? (i := 72) rfl))) Via.refl e182 F182_q_head E182_q (Or.inl (hw _ (List.mem_of_getElem? (i := 73) rfl))) (hw _ (List.mem_of_getElem? (i := 2) rfl)) (ty := .int) (by decide) rfl rfl (g := (mkF m 91 #[.val (.ref q), .val (.int t1), .val (.ref a147), .val (.int (8 : Int32))] [(.int (0 : Int32)), (.ref q)])) rfl rfl (hb hby d10_91)
    have N183 := Fr.snoc X183 N182 gq
    refine Goes.pre st183 ?_
    show Goes p e below (EndN s 5 40 (Q_12 Z q qa [.ref b0, .ref b1, .ref b2, .ref b3] (1 : Int32) (4 : Int32) t1 h0 n0)) T183 (mkF m 94 #[.val (.ref q), .val (.int t1), .val (.ref a147), .val (.int (8 : Int32))] [])
    have F183_q_queue := F182_q_queue.other W183 (Or.inr (slot_ne (Or.inl (hw _ (List.mem_of_getElem? (i := 13) rfl))) (Or.inl (hw _ (List.mem_of_getElem? (i := 73) rfl))) (by decide) (t := (.array (.object "com/example/dipper/dipper/stream/ScannedEvent"))) (t' := .int) (by decide) (by decide)))
    have F183_q_head := F182_q_head.same W183
    have F183_q_count := F182_q_count.other W183 (Or.inr (slot_ne (Or.inl (hw _ (List.mem_of_getElem? (i := 71) rfl))) (Or.inl (hw _ (List.mem_of_getElem? (i := 73) rfl))) (by decide) (t := .int) (t' := .int) (by decide) (by decide)))
    have F183_q_unreported := F182_q_unreported.other W183 (Or.inr (slot_ne (Or.inl (hw _ (List.mem_of_getElem? (i := 65) rfl))) (Or.inl (hw _ (List.mem_of_getElem? (i := 73) rfl))) (by decide) (t := .int) (t' := .int) (by decide) (by decide)))
    have F183_a170_type := F182_a170_type.other W183 (Or.inl nq170)
    have F183_a170_characters := F182_a170_characters.other W183 (Or.inl nq170)
    have F183_a170_start := F182_a170_start.other W183 (Or.inl nq170)
    have F183_a170_length := F182_a170_length.other W183 (Or.inl nq170)
    have F183_a170_text := F182_a170_text.other W183 (Or.inl nq170)
    have F183_a170_namespace := F182_a170_namespace.other W183 (Or.inl nq170)
    have F183_a170_localName := F182_a170_localName.other W183 (Or.inl nq170)
    have F183_a170_qualifiedName := F182_a170_qualifiedName.other W183 (Or.inl nq170)
    have E183_q := E182_q.wr W183
    have E183_b0 := E182_b0.wr W183
    have E183_b1 := E182_b1.wr W183
    have E183_b2 := E182_b2.wr W183
    have E183_b3 := E182_b3.wr W183
    have E183_a170 := E182_a170.wr W183
    have E183_a173 := E182_a173.wr W183
    have E183_a176 := E182_a176.wr W183
    have E183_a179 := E182_a179.wr W183
    have K183 := Keep.wr K182 W183 (Or.inl (List.mem_of_getElem? (i := 0) rfl))
    have R183_a147 := R182_a147.other W183 nq147
    have R183_qa := R182_qa.other W183 neAQ
    have Zz183 : n0 ≤ Array.size h183 := by rw [W183.size]; exact Zz182
    refine own_aloadN (pc' := 95) X183 hx (hb hby d10_94) rfl rfl rfl ?_
    obtain ⟨T184, X184, e184, st184⟩ := getF X183 hx hZ hown (host := "") (Or.inl (hw _ (List.mem_of_getElem? (i := 12) rfl))) Via.refl e183 F183_q_queue (g := (mkF m 95 #[.val (.ref q), .val (.int t1), .val (.ref a147), .val (.int (8 : Int32))] [(.ref q)])) rfl rfl (hb hby d10_95)
    refine Goes.pre st184 ?_
    show Goes p e below (EndN s 5 40 (Q_12 Z q qa [.ref b0, .ref b1, .ref b2, .ref b3] (1 : Int32) (4 : Int32) t1 h0 n0)) T184 (mkF m 98 #[.val (.ref q), .val (.int t1), .val (.ref a147), .val (.int (8 : Int32))] [(.ref a147)])
    refine own_aloadN (pc' := 99) X184 hx (hb hby d10_98) rfl rfl rfl ?_
    obtain ⟨T185, X185, e185, st185⟩ := getF X184 hx hZ hown (host := "") (Or.inl (hw _ (List.mem_of_getElem? (i := 72) rfl))) Via.refl e184 F183_q_head (g := (mkF m 99 #[.val (.ref q), .val (.int t1), .val (.ref a147), .val (.int (8 : Int32))] [(.ref q), (.ref a147)])) rfl rfl (hb hby d10_99)
    refine Goes.pre st185 ?_
    show Goes p e below (EndN s 5 40 (Q_12 Z q qa [.ref b0, .ref b1, .ref b2, .ref b3] (1 : Int32) (4 : Int32) t1 h0 n0)) T185 (mkF m 102 #[.val (.ref q), .val (.int t1), .val (.ref a147), .val (.int (8 : Int32))] [(.int (0 : Int32)), (.ref a147)])
    refine own_aloadN (pc' := 103) X185 hx (hb hby d10_102) rfl rfl rfl ?_
    refine own_dup (pc' := 104) X185 hx (hb hby d10_103) rfl rfl ?_
    obtain ⟨T186, X186, e186, st186⟩ := getF X185 hx hZ hown (host := "") (Or.inl (hw _ (List.mem_of_getElem? (i := 70) rfl))) Via.refl e185 F183_q_count (g := (mkF m 104 #[.val (.ref q), .val (.int t1), .val (.ref a147), .val (.int (8 : Int32))] [(.ref q), (.ref q), (.int (0 : Int32)), (.ref a147)])) rfl rfl (hb hby d10_104)
    refine Goes.pre st186 ?_
    show Goes p e below (EndN s 5 40 (Q_12 Z q qa [.ref b0, .ref b1, .ref b2, .ref b3] (1 : Int32) (4 : Int32) t1 h0 n0)) T186 (mkF m 107 #[.val (.ref q), .val (.int t1), .val (.ref a147), .val (.int (8 : Int32))] [(.int (4 : Int32)), (.ref q), (.int (0 : Int32)), (.ref a147)])
    refine own_dupX1 (pc' := 108) X186 hx (hb hby d10_107) rfl rfl rfl ?_
    refine own_iconst (pc' := 109) X186 hx (hb hby d10_108) (v := (1 : Int32)) rfl rfl ?_
    refine own_iadd (pc' := 110) X186 hx (hb hby d10_109) rfl ?_
    rw [show ((4 : Int32) + (1 : Int32)) = (5 : Int32) from by decide]
    obtain ⟨T187, h187, X187, e187, W187, st187⟩ := putF X186 hx hZ hown (host := "") (Or.inl (hw _ (List.mem_of_getElem? (i := 70) rfl))) Via.refl e186 F183_q_count E183_q (Or.inl (hw _ (List.mem_of_getElem? (i := 71) rfl))) (hw _ (List.mem_of_getElem? (i := 2) rfl)) (ty := .int) (by decide) rfl rfl (g := (mkF m 110 #[.val (.ref q), .val (.int t1), .val (.ref a147), .val (.int (8 : Int32))] [(.int (5 : Int32)), (.ref q), (.int (4 : Int32)), (.int (0 : Int32)), (.ref a147)])) rfl rfl (hb hby d10_110)
    have N187 := Fr.snoc X187 N183 gq
    refine Goes.pre st187 ?_
    show Goes p e below (EndN s 5 40 (Q_12 Z q qa [.ref b0, .ref b1, .ref b2, .ref b3] (1 : Int32) (4 : Int32) t1 h0 n0)) T187 (mkF m 113 #[.val (.ref q), .val (.int t1), .val (.ref a147), .val (.int (8 : Int32))] [(.int (4 : Int32)), (.int (0 : Int32)), (.ref a147)])
    have F187_q_queue := F183_q_queue.other W187 (Or.inr (slot_ne (Or.inl (hw _ (List.mem_of_getElem? (i := 13) rfl))) (Or.inl (hw _ (List.mem_of_getElem? (i := 71) rfl))) (by decide) (t := (.array (.object "com/example/dipper/dipper/stream/ScannedEvent"))) (t' := .int) (by decide) (by decide)))
    have F187_q_head := F183_q_head.other W187 (Or.inr (slot_ne (Or.inl (hw _ (List.mem_of_getElem? (i := 73) rfl))) (Or.inl (hw _ (List.mem_of_getElem? (i := 71) rfl))) (by decide) (t := .int) (t' := .int) (by decide) (by decide)))
    have F187_q_count := F183_q_count.same W187
    have F187_q_unreported := F183_q_unreported.other W187 (Or.inr (slot_ne (Or.inl (hw _ (List.mem_of_getElem? (i := 65) rfl))) (Or.inl (hw _ (List.mem_of_getElem? (i := 71) rfl))) (by decide) (t := .int) (t' := .int) (by decide) (by decide)))
    have F187_a170_type := F183_a170_type.other W187 (Or.inl nq170)
    have F187_a170_characters := F183_a170_characters.other W187 (Or.inl nq170)
    have F187_a170_start := F183_a170_start.other W187 (Or.inl nq170)
    have F187_a170_length := F183_a170_length.other W187 (Or.inl nq170)
    have F187_a170_text := F183_a170_text.other W187 (Or.inl nq170)
    have F187_a170_namespace := F183_a170_namespace.other W187 (Or.inl nq170)
    have F187_a170_localName := F183_a170_localName.other W187 (Or.inl nq170)
    have F187_a170_qualifiedName := F183_a170_qualifiedName.other W187 (Or.inl nq170)
    have E187_q := E183_q.wr W187
    have E187_b0 := E183_b0.wr W187
    have E187_b1 := E183_b1.wr W187
    have E187_b2 := E183_b2.wr W187
    have E187_b3 := E183_b3.wr W187
    have E187_a170 := E183_a170.wr W187
    have E187_a173 := E183_a173.wr W187
    have E187_a176 := E183_a176.wr W187
    have E187_a179 := E183_a179.wr W187
    have K187 := Keep.wr K183 W187 (Or.inl (List.mem_of_getElem? (i := 0) rfl))
    have R187_a147 := R183_a147.other W187 nq147
    have R187_qa := R183_qa.other W187 neAQ
    have Zz187 : n0 ≤ Array.size h187 := by rw [W187.size]; exact Zz183
    refine own_iadd (pc' := 114) X187 hx (hb hby d10_113) rfl ?_
    rw [show ((0 : Int32) + (4 : Int32)) = (4 : Int32) from by decide]
    refine own_aloadN (pc' := 115) X187 hx (hb hby d10_114) rfl rfl rfl ?_
    obtain ⟨T188, X188, e188, st188⟩ := getF X187 hx hZ hown (host := "") (Or.inl (hw _ (List.mem_of_getElem? (i := 12) rfl))) Via.refl e187 F187_q_queue (g := (mkF m 115 #[.val (.ref q), .val (.int t1), .val (.ref a147), .val (.int (8 : Int32))] [(.ref q), (.int (4 : Int32)), (.ref a147)])) rfl rfl (hb hby d10_115)
    refine Goes.pre st188 ?_
    show Goes p e below (EndN s 5 40 (Q_12 Z q qa [.ref b0, .ref b1, .ref b2, .ref b3] (1 : Int32) (4 : Int32) t1 h0 n0)) T188 (mkF m 118 #[.val (.ref q), .val (.int t1), .val (.ref a147), .val (.int (8 : Int32))] [(.ref a147), (.int (4 : Int32)), (.ref a147)])
    refine own_alenR (pc' := 119) X188 hx hZ e188 R187_a147 (hb hby d10_118) (n := (8 : Int32)) rfl rfl ?_
    refine own_irem (pc' := 120) X188 hx (hb hby d10_119) (by decide) rfl ?_
    rw [show ((4 : Int32) % (8 : Int32)) = (4 : Int32) from by decide]
    refine own_aaload (pc' := 121) X188 hx hZ e188 R187_a147 (hb hby d10_120) (v := .ref a170) (by decide) (k := 4) (by decide) rfl rfl ?_
    refine own_astoreN (pc' := 122) X188 hx (hb hby d10_121) rfl (Ls' := #[.val (.ref q), .val (.int t1), .val (.ref a170), .val (.int (8 : Int32))]) rfl rfl ?_
    refine own_aloadN (pc' := 123) X188 hx (hb hby d10_122) rfl rfl rfl ?_
    refine own_iloadN (pc' := 124) X188 hx (hb hby d10_123) rfl rfl ?_
    obtain ⟨cq190, kq190, q190a, q190b, q190c⟩ := isOf hZ e188 E187_a170
    obtain ⟨_, _, ⟨T189, L189, k189, n189⟩, -, X189, ⟨Lc189, hQ189, l189, y189, z189⟩, st189⟩ := X188.virtualBack hx (y := (⟨"com/example/dipper/dipper/stream/ScannedEvent", "clear", "(I)V"⟩ : MethodName)) (z := (⟨"com/example/dipper/dipper/stream/ScannedEvent", "clear", "(I)V"⟩ : MethodName)) hown (mvT hZ (hw _ (List.mem_of_getElem? (i := 74) rfl))) (mvT hZ (hw _ (List.mem_of_getElem? (i := 75) rfl))) (notFace_of_selects (args := #[]) (mvT hZ (hw _ (List.mem_of_getElem? (i := 77) rfl)))) (mvT hZ (hw _ (List.mem_of_getElem? (i := 77) rfl))) (mvT hZ (hw _ (List.mem_of_getElem? (i := 76) rfl))) (by decide) (backOf (W := 0) (rm_9 l Z a0 hw [] a170 t1 (0 : Int32) .null (0 : Int32) (0 : Int32) .null .null .null .null h187 n0 Zz187 ⟨E187_a170, F187_a170_type, F187_a170_characters, F187_a170_start, F187_a170_length, F187_a170_text, F187_a170_namespace, F187_a170_localName, F187_a170_qualifiedName⟩ gn170) hZ (hw _ (List.mem_of_getElem? (i := 78) rfl)) (hw _ (List.mem_of_getElem? (i := 23) rfl)) (by decide) (by decide)) q190a q190c (g := (mkF m 124 #[.val (.ref q), .val (.int t1), .val (.ref a170), .val (.int (8 : Int32))] [(.int t1), (.ref a170)])) rfl (by rw [hml]; rfl) (Steps.refl _) (argsL := [(.int t1)]) (rest := []) (lenOf pd_9 rfl) rfl (by show 2 * 0 + _ ≤ _; exact Nat.le_of_eq rfl) (hb hby d10_124) (fun _ _ => ⟨rfl, e188, (by decide : 5 + 0 ≤ _), (by decide : 40 + 0 ≤ _)⟩)
    dsimp only [Pt.U, Pt.locs, Pt.cells, Pt.slots] at X189 l189 y189 z189 st189 hQ189
    subst l189 y189 z189
    obtain ⟨rfl, M189, K189, V189⟩ := hQ189
    have N189 := Fr.app N187 M189
    refine Goes.aft st189 ?_
    show Goes p e below (EndN s 5 40 (Q_12 Z q qa [.ref b0, .ref b1, .ref b2, .ref b3] (1 : Int32) (4 : Int32) t1 h0 n0)) T189 (mkF m 127 #[.val (.ref q), .val (.int t1), .val (.ref a170), .val (.int (8 : Int32))] [])
    refine own_aloadN (pc' := 128) X189 hx (hb hby d10_127) rfl rfl rfl ?_
    have neQE : q ≠ a170 := ne_exa E187_q E187_a170 (by decide)
    have neAE := R187_a147.neE hw E187_a170
    have QQ : own_Q Z T189.heap q a147 [.ref b1, .ref b2, .ref b3, .ref b0, .ref a170, .ref a173, .ref a176, .ref a179] (0 : Int32) ((4 : Int32) + (1 : Int32)) := (show own_Q Z h187 q a147 [.ref b1, .ref b2, .ref b3, .ref b0, .ref a170, .ref a173, .ref a176, .ref a179] (0 : Int32) (5 : Int32) from ⟨E187_q, F187_q_queue, F187_q_head, F187_q_count, F187_q_unreported, R187_a147⟩).keep K189 (ninS neQE nin0) (ninS neAE nin0)
    have KK : Keep h0 T189.heap [q] := Keep.trans K187 K189 (allS (Or.inr go170) all0)
    exact own_retA X189 hx hlk Bd.returns rfl rfl rfl (hb hby d10_128) (by decide) (by decide) ⟨a147, _, (0 : Int32), a170, [q], rfl, N189, Or.inr ⟨rfl, rfl, rfl, go170, go147, b0, b1, b2, b3, a173, a176, a179, rfl, rfl⟩, QQ, V189, KK, own_W.qs EQ own_W.nil, gn170, gn147, Or.inr go170⟩
theorem d9_0 : decode prog_163_method_14_code 0 = .ok (.aload_n 0, 1) := by decide +kernel
theorem d9_1 : decode prog_163_method_14_code 1 = .ok (.getfield 64, 3) := by decide +kernel
theorem d9_4 : decode prog_163_method_14_code 4 = .ok (.ifCond .ne 14, 3) := by decide +kernel
theorem d9_7 : decode prog_163_method_14_code 7 = .ok (.aload_n 0, 1) := by decide +kernel
theorem d9_8 : decode prog_163_method_14_code 8 = .ok (.iconst 4, 1) := by decide +kernel
theorem d9_9 : decode prog_163_method_14_code 9 = .ok (.invokevirtual 55, 3) := by decide +kernel
theorem d9_12 : decode prog_163_method_14_code 12 = .ok (.aload_n 1, 1) := by decide +kernel
theorem d9_13 : decode prog_163_method_14_code 13 = .ok (.iload_n 2, 1) := by decide +kernel
theorem d9_14 : decode prog_163_method_14_code 14 = .ok (.iload_n 3, 1) := by decide +kernel
theorem d9_15 : decode prog_163_method_14_code 15 = .ok (.invokevirtual 82, 3) := by decide +kernel
theorem d9_18 : decode prog_163_method_14_code 18 = .ok (.return_, 1) := by decide +kernel
theorem pn_13 : plainFor (⟨"com/example/dipper/dipper/stream/ScannedEvents", "characters", "([CII)V"⟩ : MethodName) = true := by first | (refine plainFor_of_name ?_; simp [plainName, overriddenIn]; done) | decide +kernel
theorem pd_13 : parseMethodDescriptor "([CII)V" = some ⟨[(.array .char), .int, .int], none⟩ := by decide +kernel
theorem ef_13 (m : MethodId) (q : Addr) (qa : Addr) (vs : List Value) (hd : Int32) (ct : Int32) (x1 : Addr) (x2 : Int32) (x3 : Int32) : entryFrame m #[(.ref q), (.ref x1), (.int x2), (.int x3)] 4 = mkF m 0 #[.val (.ref q), .val (.ref x1), .val (.int x2), .val (.int x3)] [] := by first | (simp [entryFrame, mkF, argsToLocals, Value.category]; done) | rfl
def Q_13 (Z : State) (q : Addr) (qa : Addr) (vs : List Value) (hd : Int32) (ct : Int32) (x1 : Addr) (x2 : Int32) (x3 : Int32) (h0 : Heap) (n0 : Nat) (v : Option Value) (h : Heap) (L : List Loc) : Prop := ∃ (qb : Addr) (us : List Value) (hq : Int32) (ev : Addr) (wr : List Addr), v = none ∧ Fr n0 L ∧ own_AR h0 q qa vs hd ct qb us hq ev wr ∧ own_Q Z h q qb us hq (ct + (1 : Int32)) ∧ (own_Ev Z h ev (4 : Int32) (.ref x1) x2 x3 .null .null .null .null) ∧ Keep h0 h wr ∧ own_W Z h0 wr ∧ n0 ≤ ev ∧ n0 ≤ qb ∧ (ev ∈ wr ∨ Array.size h0 ≤ ev)
set_option maxRecDepth 65536 in
set_option maxHeartbeats 40000000 in
theorem rm_13 (l : Launch) (Z : State) (a0 : Array Value) (hw : ∀ d ∈ tables_1, d.before a0 Z = true) (ws : List Jvm.Cond) (q : Addr) (qa : Addr) (vs : List Value) (hd : Int32) (ct : Int32) (x1 : Addr) (x2 : Int32) (x3 : Int32) (h0 : Heap) (n0 : Nat) (Z0 : n0 ≤ h0.size) (Q1 : own_Q Z h0 q qa vs hd ct) (gq : n0 ≤ q) (ga : n0 ≤ qa) (AP : own_AP Z n0 h0 vs hd ct) :
    MetFree l (⟨"com/example/dipper/dipper/stream/ScannedEvents", "characters", "([CII)V"⟩ : MethodName) (head1 (Jvm.Cond.code (⟨"com/example/dipper/dipper/stream/ScannedEvents", "characters", "([CII)V"⟩ : MethodName) prog_163_method_14_code 4 none :: ws) ({ frames := 3, cells := 5, slots := 40, locals := 42 } : Room)) (fun a U => a = #[(.ref q), (.ref x1), (.int x2), (.int x3)] ∧ Z.Warmed39 U.vm ∧ U.heap = h0) (fun _ _ _ _ _ => True) (fun _ U o U' => ∃ v L, o = .returned v ∧ (Q_13 Z q qa vs hd ct x1 x2 x3 h0 n0) v U'.heap L ∧ FrameEnd U o U' L ({ frames := 3, cells := 5, slots := 40, locals := 42 } : Room).cells ({ frames := 3, cells := 5, slots := 40, locals := 42 } : Room).slots) := by
  refine MetFree.of_bodySF pn_13 hisR ?_
  intro p e s m args below meth c s₁ Bd hml0 hP hK
  obtain ⟨rfl, hZ, hh⟩ := hP
  have hx := Bd.exec
  have hby := Bd.bytes
  have hlk : meth.locks = false := BodyLoose.notSynchronized Bd
  have hml : c.maxLocals = 4 := hml0
  have hown : s.vm.findClass "com/example/dipper/dipper/stream/ScannedEvents" = some m.cls := findClass_of_methodNamed Bd.named
  have hnm := (name_of_methodNamed Bd.named Bd.method).1
  have X0 : Stand p l e ({ frames := 3, cells := 5, slots := 40, locals := 42 } : Room) s m #[(.ref q), (.ref x1), (.int x2), (.int x3)] below meth c s₁ [] 0 0 := Stand.of_body Bd
  have e0 : s₁.heap = h0 := by rw [← hh, Bd.state]; rfl
  have N0 := Fr.nil n0
  refine own_enter (Q := (Q_13 Z q qa vs hd ct x1 x2 x3 h0 n0)) (cs := 5) (ss := 40) (ef_13 m q qa vs hd ct x1 x2 x3) ?_
  show Goes p e below (EndN s 5 40 (Q_13 Z q qa vs hd ct x1 x2 x3 h0 n0)) s₁ (mkF m 0 #[.val (.ref q), .val (.ref x1), .val (.int x2), .val (.int x3)] [])
  refine own_aloadN (pc' := 1) X0 hx (hb hby d9_0) rfl rfl rfl ?_
  obtain ⟨T191, X191, e191, st191⟩ := getF X0 hx hZ hown (host := "") (Or.inl (hw _ (List.mem_of_getElem? (i := 64) rfl))) Via.refl e0 Q1.2.2.2.2.1 (g := (mkF m 1 #[.val (.ref q), .val (.ref x1), .val (.int x2), .val (.int x3)] [(.ref q)])) rfl rfl (hb hby d9_1)
  refine Goes.pre st191 ?_
  show Goes p e below (EndN s 5 40 (Q_13 Z q qa vs hd ct x1 x2 x3 h0 n0)) T191 (mkF m 4 #[.val (.ref q), .val (.ref x1), .val (.int x2), .val (.int x3)] [(.int (0 : Int32))])
  refine own_ifN (pc' := 7) X191 hx (hb hby d9_4) (by decide) rfl ?_
  refine own_aloadN (pc' := 8) X191 hx (hb hby d9_7) rfl rfl rfl ?_
  refine own_iconst (pc' := 9) X191 hx (hb hby d9_8) (v := (4 : Int32)) rfl rfl ?_
  obtain ⟨_, _, ⟨T192, L192, k192, n192⟩, -, X192, ⟨Lc192, hQ192, l192, y192, z192⟩, st192⟩ := own_private X191 hx (y := (⟨"com/example/dipper/dipper/stream/ScannedEvents", "add", "(I)Lcom/example/dipper/dipper/stream/ScannedEvent;"⟩ : MethodName)) hown (mvT hZ (hw _ (List.mem_of_getElem? (i := 66) rfl))) (mvT hZ (hw _ (List.mem_of_getElem? (i := 67) rfl))) (mvT hZ (hw _ (List.mem_of_getElem? (i := 142) rfl))) rfl (Cond.privateMethod_at (mvP hZ (hw _ (List.mem_of_getElem? (i := 68) rfl)) (args := #[]))) (mvT hZ (hw _ (List.mem_of_getElem? (i := 69) rfl))) (by decide) (backOf (W := 0) (rm_12 l Z a0 hw [] q qa vs hd ct (4 : Int32) h0 n0 Z0 Q1 gq ga AP) hZ (hw _ (List.mem_of_getElem? (i := 69) rfl)) (hw _ (List.mem_of_getElem? (i := 3) rfl)) (by decide) (by decide)) (a := q) (by obtain ⟨c1, k1, h1, -, -, h4, -⟩ := Q1.1; exact ⟨c1, k1, by rw [e191]; exact h1, h4⟩) (g := (mkF m 9 #[.val (.ref q), .val (.ref x1), .val (.int x2), .val (.int x3)] [(.int (4 : Int32)), (.ref q)])) rfl (by rw [hml]; rfl) (argsL := [(.int (4 : Int32))]) (rest := []) (lenOf pd_12 rfl) rfl (by show 2 * 0 + _ ≤ _; exact Nat.le_of_eq rfl) (hb hby d9_9) (fun _ _ => ⟨rfl, e191, (by decide : 0 + 5 ≤ _), (by decide : 0 + 40 ≤ _)⟩)
  dsimp only [Pt.U, Pt.locs, Pt.cells, Pt.slots] at X192 l192 y192 z192 st192 hQ192
  subst l192 y192 z192
  obtain ⟨qb, us, hq, ev, wr, rfl, M192, AR, QQ, VV, KK, WW, gev, gqb, hor⟩ := hQ192
  have N192 := Fr.app N0 M192
  refine Goes.aft st192 ?_
  show Goes p e below (EndN s 5 40 (Q_13 Z q qa vs hd ct x1 x2 x3 h0 n0)) T192 (mkF m 12 #[.val (.ref q), .val (.ref x1), .val (.int x2), .val (.int x3)] [(.ref ev)])
  have ZA : n0 ≤ Array.size T192.heap := Nat.le_trans Z0 KK.1
  refine own_aloadN (pc' := 13) X192 hx (hb hby d9_12) rfl rfl rfl ?_
  refine own_iloadN (pc' := 14) X192 hx (hb hby d9_13) rfl rfl ?_
  refine own_iloadN (pc' := 15) X192 hx (hb hby d9_14) rfl rfl ?_
  obtain ⟨cq194, kq194, q194a, q194b, q194c⟩ := isOf hZ rfl VV.1
  obtain ⟨_, _, ⟨T193, L193, k193, n193⟩, -, X193, ⟨Lc193, hQ193, l193, y193, z193⟩, st193⟩ := X192.virtualBack hx (y := (⟨"com/example/dipper/dipper/stream/ScannedEvent", "characters", "([CII)V"⟩ : MethodName)) (z := (⟨"com/example/dipper/dipper/stream/ScannedEvent", "characters", "([CII)V"⟩ : MethodName)) hown (mvT hZ (hw _ (List.mem_of_getElem? (i := 95) rfl))) (mvT hZ (hw _ (List.mem_of_getElem? (i := 96) rfl))) (notFace_of_selects (args := #[]) (mvT hZ (hw _ (List.mem_of_getElem? (i := 98) rfl)))) (mvT hZ (hw _ (List.mem_of_getElem? (i := 98) rfl))) (mvT hZ (hw _ (List.mem_of_getElem? (i := 97) rfl))) (by decide) (backOf (W := 0) (rm_10 l Z a0 hw [] ev x1 x2 x3 (4 : Int32) .null (0 : Int32) (0 : Int32) .null .null .null .null T192.heap n0 ZA VV gev) hZ (hw _ (List.mem_of_getElem? (i := 99) rfl)) (hw _ (List.mem_of_getElem? (i := 23) rfl)) (by decide) (by decide)) q194a q194c (g := (mkF m 15 #[.val (.ref q), .val (.ref x1), .val (.int x2), .val (.int x3)] [(.int x3), (.int x2), (.ref x1), (.ref ev)])) rfl (by rw [hml]; rfl) (Steps.refl _) (argsL := [(.ref x1), (.int x2), (.int x3)]) (rest := []) (lenOf pd_10 rfl) rfl (by show 2 * 0 + _ ≤ _; exact Nat.le_of_eq rfl) (hb hby d9_15) (fun _ _ => ⟨rfl, rfl, (by decide : 5 + 0 ≤ _), (by decide : 40 + 0 ≤ _)⟩)
  dsimp only [Pt.U, Pt.locs, Pt.cells, Pt.slots] at X193 l193 y193 z193 st193 hQ193
  subst l193 y193 z193
  obtain ⟨rfl, M193, K193, V193⟩ := hQ193
  have N193 := Fr.app N192 M193
  refine Goes.aft st193 ?_
  show Goes p e below (EndN s 5 40 (Q_13 Z q qa vs hd ct x1 x2 x3 h0 n0)) T193 (mkF m 18 #[.val (.ref q), .val (.ref x1), .val (.int x2), .val (.int x3)] [])
  exact own_ret0 X193 hx hlk Bd.returns (hb hby d9_18) (by decide) (by decide) (by rw [show T193.heap = T193.heap from rfl]; exact ⟨qb, us, hq, ev, wr, rfl, N193, AR, QQ.keep K193 (ninS (QQ.neQ VV.1) nin0) (ninS (QQ.2.2.2.2.2.neE hw VV.1) nin0), V193, KK.trans K193 (allS hor all0), WW, gev, gqb, hor⟩)
theorem d17_0 : decode prog_163_method_15_code 0 = .ok (.aload_n 0, 1) := by decide +kernel
theorem d17_1 : decode prog_163_method_15_code 1 = .ok (.getfield 64, 3) := by decide +kernel
theorem d17_4 : decode prog_163_method_15_code 4 = .ok (.ifCond .ne 15, 3) := by decide +kernel
theorem d17_7 : decode prog_163_method_15_code 7 = .ok (.aload_n 0, 1) := by decide +kernel
theorem d17_8 : decode prog_163_method_15_code 8 = .ok (.bipush 12, 2) := by decide +kernel
theorem d17_10 : decode prog_163_method_15_code 10 = .ok (.invokevirtual 55, 3) := by decide +kernel
theorem d17_13 : decode prog_163_method_15_code 13 = .ok (.aload_n 1, 1) := by decide +kernel
theorem d17_14 : decode prog_163_method_15_code 14 = .ok (.iload_n 2, 1) := by decide +kernel
theorem d17_15 : decode prog_163_method_15_code 15 = .ok (.iload_n 3, 1) := by decide +kernel
theorem d17_16 : decode prog_163_method_15_code 16 = .ok (.invokevirtual 82, 3) := by decide +kernel
theorem d17_19 : decode prog_163_method_15_code 19 = .ok (.return_, 1) := by decide +kernel
theorem pn_14 : plainFor (⟨"com/example/dipper/dipper/stream/ScannedEvents", "cdataSection", "([CII)V"⟩ : MethodName) = true := by first | (refine plainFor_of_name ?_; simp [plainName, overriddenIn]; done) | decide +kernel
theorem pd_14 : parseMethodDescriptor "([CII)V" = some ⟨[(.array .char), .int, .int], none⟩ := by decide +kernel
theorem ef_14 (m : MethodId) (q : Addr) (qa : Addr) (vs : List Value) (hd : Int32) (ct : Int32) (x1 : Addr) (x2 : Int32) (x3 : Int32) : entryFrame m #[(.ref q), (.ref x1), (.int x2), (.int x3)] 4 = mkF m 0 #[.val (.ref q), .val (.ref x1), .val (.int x2), .val (.int x3)] [] := by first | (simp [entryFrame, mkF, argsToLocals, Value.category]; done) | rfl
def Q_14 (Z : State) (q : Addr) (qa : Addr) (vs : List Value) (hd : Int32) (ct : Int32) (x1 : Addr) (x2 : Int32) (x3 : Int32) (h0 : Heap) (n0 : Nat) (v : Option Value) (h : Heap) (L : List Loc) : Prop := ∃ (qb : Addr) (us : List Value) (hq : Int32) (ev : Addr) (wr : List Addr), v = none ∧ Fr n0 L ∧ own_AR h0 q qa vs hd ct qb us hq ev wr ∧ own_Q Z h q qb us hq (ct + (1 : Int32)) ∧ (own_Ev Z h ev (12 : Int32) (.ref x1) x2 x3 .null .null .null .null) ∧ Keep h0 h wr ∧ own_W Z h0 wr ∧ n0 ≤ ev ∧ n0 ≤ qb ∧ (ev ∈ wr ∨ Array.size h0 ≤ ev)
set_option maxRecDepth 65536 in
set_option maxHeartbeats 40000000 in
theorem rm_14 (l : Launch) (Z : State) (a0 : Array Value) (hw : ∀ d ∈ tables_1, d.before a0 Z = true) (ws : List Jvm.Cond) (q : Addr) (qa : Addr) (vs : List Value) (hd : Int32) (ct : Int32) (x1 : Addr) (x2 : Int32) (x3 : Int32) (h0 : Heap) (n0 : Nat) (Z0 : n0 ≤ h0.size) (Q1 : own_Q Z h0 q qa vs hd ct) (gq : n0 ≤ q) (ga : n0 ≤ qa) (AP : own_AP Z n0 h0 vs hd ct) :
    MetFree l (⟨"com/example/dipper/dipper/stream/ScannedEvents", "cdataSection", "([CII)V"⟩ : MethodName) (head1 (Jvm.Cond.code (⟨"com/example/dipper/dipper/stream/ScannedEvents", "cdataSection", "([CII)V"⟩ : MethodName) prog_163_method_15_code 4 none :: ws) ({ frames := 3, cells := 5, slots := 40, locals := 42 } : Room)) (fun a U => a = #[(.ref q), (.ref x1), (.int x2), (.int x3)] ∧ Z.Warmed39 U.vm ∧ U.heap = h0) (fun _ _ _ _ _ => True) (fun _ U o U' => ∃ v L, o = .returned v ∧ (Q_14 Z q qa vs hd ct x1 x2 x3 h0 n0) v U'.heap L ∧ FrameEnd U o U' L ({ frames := 3, cells := 5, slots := 40, locals := 42 } : Room).cells ({ frames := 3, cells := 5, slots := 40, locals := 42 } : Room).slots) := by
  refine MetFree.of_bodySF pn_14 hisR ?_
  intro p e s m args below meth c s₁ Bd hml0 hP hK
  obtain ⟨rfl, hZ, hh⟩ := hP
  have hx := Bd.exec
  have hby := Bd.bytes
  have hlk : meth.locks = false := BodyLoose.notSynchronized Bd
  have hml : c.maxLocals = 4 := hml0
  have hown : s.vm.findClass "com/example/dipper/dipper/stream/ScannedEvents" = some m.cls := findClass_of_methodNamed Bd.named
  have hnm := (name_of_methodNamed Bd.named Bd.method).1
  have X0 : Stand p l e ({ frames := 3, cells := 5, slots := 40, locals := 42 } : Room) s m #[(.ref q), (.ref x1), (.int x2), (.int x3)] below meth c s₁ [] 0 0 := Stand.of_body Bd
  have e0 : s₁.heap = h0 := by rw [← hh, Bd.state]; rfl
  have N0 := Fr.nil n0
  refine own_enter (Q := (Q_14 Z q qa vs hd ct x1 x2 x3 h0 n0)) (cs := 5) (ss := 40) (ef_14 m q qa vs hd ct x1 x2 x3) ?_
  show Goes p e below (EndN s 5 40 (Q_14 Z q qa vs hd ct x1 x2 x3 h0 n0)) s₁ (mkF m 0 #[.val (.ref q), .val (.ref x1), .val (.int x2), .val (.int x3)] [])
  refine own_aloadN (pc' := 1) X0 hx (hb hby d17_0) rfl rfl rfl ?_
  obtain ⟨T195, X195, e195, st195⟩ := getF X0 hx hZ hown (host := "") (Or.inl (hw _ (List.mem_of_getElem? (i := 64) rfl))) Via.refl e0 Q1.2.2.2.2.1 (g := (mkF m 1 #[.val (.ref q), .val (.ref x1), .val (.int x2), .val (.int x3)] [(.ref q)])) rfl rfl (hb hby d17_1)
  refine Goes.pre st195 ?_
  show Goes p e below (EndN s 5 40 (Q_14 Z q qa vs hd ct x1 x2 x3 h0 n0)) T195 (mkF m 4 #[.val (.ref q), .val (.ref x1), .val (.int x2), .val (.int x3)] [(.int (0 : Int32))])
  refine own_ifN (pc' := 7) X195 hx (hb hby d17_4) (by decide) rfl ?_
  refine own_aloadN (pc' := 8) X195 hx (hb hby d17_7) rfl rfl rfl ?_
  refine own_bipush (pc' := 10) X195 hx (hb hby d17_8) (v := (12 : Int32)) rfl rfl ?_
  obtain ⟨_, _, ⟨T196, L196, k196, n196⟩, -, X196, ⟨Lc196, hQ196, l196, y196, z196⟩, st196⟩ := own_private X195 hx (y := (⟨"com/example/dipper/dipper/stream/ScannedEvents", "add", "(I)Lcom/example/dipper/dipper/stream/ScannedEvent;"⟩ : MethodName)) hown (mvT hZ (hw _ (List.mem_of_getElem? (i := 66) rfl))) (mvT hZ (hw _ (List.mem_of_getElem? (i := 67) rfl))) (mvT hZ (hw _ (List.mem_of_getElem? (i := 142) rfl))) rfl (Cond.privateMethod_at (mvP hZ (hw _ (List.mem_of_getElem? (i := 68) rfl)) (args := #[]))) (mvT hZ (hw _ (List.mem_of_getElem? (i := 69) rfl))) (by decide) (backOf (W := 0) (rm_12 l Z a0 hw [] q qa vs hd ct (12 : Int32) h0 n0 Z0 Q1 gq ga AP) hZ (hw _ (List.mem_of_getElem? (i := 69) rfl)) (hw _ (List.mem_of_getElem? (i := 3) rfl)) (by decide) (by decide)) (a := q) (by obtain ⟨c1, k1, h1, -, -, h4, -⟩ := Q1.1; exact ⟨c1, k1, by rw [e195]; exact h1, h4⟩) (g := (mkF m 10 #[.val (.ref q), .val (.ref x1), .val (.int x2), .val (.int x3)] [(.int (12 : Int32)), (.ref q)])) rfl (by rw [hml]; rfl) (argsL := [(.int (12 : Int32))]) (rest := []) (lenOf pd_12 rfl) rfl (by show 2 * 0 + _ ≤ _; exact Nat.le_of_eq rfl) (hb hby d17_10) (fun _ _ => ⟨rfl, e195, (by decide : 0 + 5 ≤ _), (by decide : 0 + 40 ≤ _)⟩)
  dsimp only [Pt.U, Pt.locs, Pt.cells, Pt.slots] at X196 l196 y196 z196 st196 hQ196
  subst l196 y196 z196
  obtain ⟨qb, us, hq, ev, wr, rfl, M196, AR, QQ, VV, KK, WW, gev, gqb, hor⟩ := hQ196
  have N196 := Fr.app N0 M196
  refine Goes.aft st196 ?_
  show Goes p e below (EndN s 5 40 (Q_14 Z q qa vs hd ct x1 x2 x3 h0 n0)) T196 (mkF m 13 #[.val (.ref q), .val (.ref x1), .val (.int x2), .val (.int x3)] [(.ref ev)])
  have ZA : n0 ≤ Array.size T196.heap := Nat.le_trans Z0 KK.1
  refine own_aloadN (pc' := 14) X196 hx (hb hby d17_13) rfl rfl rfl ?_
  refine own_iloadN (pc' := 15) X196 hx (hb hby d17_14) rfl rfl ?_
  refine own_iloadN (pc' := 16) X196 hx (hb hby d17_15) rfl rfl ?_
  obtain ⟨cq198, kq198, q198a, q198b, q198c⟩ := isOf hZ rfl VV.1
  obtain ⟨_, _, ⟨T197, L197, k197, n197⟩, -, X197, ⟨Lc197, hQ197, l197, y197, z197⟩, st197⟩ := X196.virtualBack hx (y := (⟨"com/example/dipper/dipper/stream/ScannedEvent", "characters", "([CII)V"⟩ : MethodName)) (z := (⟨"com/example/dipper/dipper/stream/ScannedEvent", "characters", "([CII)V"⟩ : MethodName)) hown (mvT hZ (hw _ (List.mem_of_getElem? (i := 95) rfl))) (mvT hZ (hw _ (List.mem_of_getElem? (i := 96) rfl))) (notFace_of_selects (args := #[]) (mvT hZ (hw _ (List.mem_of_getElem? (i := 98) rfl)))) (mvT hZ (hw _ (List.mem_of_getElem? (i := 98) rfl))) (mvT hZ (hw _ (List.mem_of_getElem? (i := 97) rfl))) (by decide) (backOf (W := 0) (rm_10 l Z a0 hw [] ev x1 x2 x3 (12 : Int32) .null (0 : Int32) (0 : Int32) .null .null .null .null T196.heap n0 ZA VV gev) hZ (hw _ (List.mem_of_getElem? (i := 99) rfl)) (hw _ (List.mem_of_getElem? (i := 23) rfl)) (by decide) (by decide)) q198a q198c (g := (mkF m 16 #[.val (.ref q), .val (.ref x1), .val (.int x2), .val (.int x3)] [(.int x3), (.int x2), (.ref x1), (.ref ev)])) rfl (by rw [hml]; rfl) (Steps.refl _) (argsL := [(.ref x1), (.int x2), (.int x3)]) (rest := []) (lenOf pd_10 rfl) rfl (by show 2 * 0 + _ ≤ _; exact Nat.le_of_eq rfl) (hb hby d17_16) (fun _ _ => ⟨rfl, rfl, (by decide : 5 + 0 ≤ _), (by decide : 40 + 0 ≤ _)⟩)
  dsimp only [Pt.U, Pt.locs, Pt.cells, Pt.slots] at X197 l197 y197 z197 st197 hQ197
  subst l197 y197 z197
  obtain ⟨rfl, M197, K197, V197⟩ := hQ197
  have N197 := Fr.app N196 M197
  refine Goes.aft st197 ?_
  show Goes p e below (EndN s 5 40 (Q_14 Z q qa vs hd ct x1 x2 x3 h0 n0)) T197 (mkF m 19 #[.val (.ref q), .val (.ref x1), .val (.int x2), .val (.int x3)] [])
  exact own_ret0 X197 hx hlk Bd.returns (hb hby d17_19) (by decide) (by decide) (by rw [show T197.heap = T197.heap from rfl]; exact ⟨qb, us, hq, ev, wr, rfl, N197, AR, QQ.keep K197 (ninS (QQ.neQ VV.1) nin0) (ninS (QQ.2.2.2.2.2.neE hw VV.1) nin0), V197, KK.trans K197 (allS hor all0), WW, gev, gqb, hor⟩)
theorem d16_0 : decode prog_163_method_16_code 0 = .ok (.aload_n 0, 1) := by decide +kernel
theorem d16_1 : decode prog_163_method_16_code 1 = .ok (.getfield 64, 3) := by decide +kernel
theorem d16_4 : decode prog_163_method_16_code 4 = .ok (.ifCond .ne 14, 3) := by decide +kernel
theorem d16_7 : decode prog_163_method_16_code 7 = .ok (.aload_n 0, 1) := by decide +kernel
theorem d16_8 : decode prog_163_method_16_code 8 = .ok (.iconst 5, 1) := by decide +kernel
theorem d16_9 : decode prog_163_method_16_code 9 = .ok (.invokevirtual 55, 3) := by decide +kernel
theorem d16_12 : decode prog_163_method_16_code 12 = .ok (.aload_n 1, 1) := by decide +kernel
theorem d16_13 : decode prog_163_method_16_code 13 = .ok (.iload_n 2, 1) := by decide +kernel
theorem d16_14 : decode prog_163_method_16_code 14 = .ok (.iload_n 3, 1) := by decide +kernel
theorem d16_15 : decode prog_163_method_16_code 15 = .ok (.invokevirtual 82, 3) := by decide +kernel
theorem d16_18 : decode prog_163_method_16_code 18 = .ok (.return_, 1) := by decide +kernel
theorem pn_15 : plainFor (⟨"com/example/dipper/dipper/stream/ScannedEvents", "comment", "([CII)V"⟩ : MethodName) = true := by first | (refine plainFor_of_name ?_; simp [plainName, overriddenIn]; done) | decide +kernel
theorem pd_15 : parseMethodDescriptor "([CII)V" = some ⟨[(.array .char), .int, .int], none⟩ := by decide +kernel
theorem ef_15 (m : MethodId) (q : Addr) (qa : Addr) (vs : List Value) (hd : Int32) (ct : Int32) (x1 : Addr) (x2 : Int32) (x3 : Int32) : entryFrame m #[(.ref q), (.ref x1), (.int x2), (.int x3)] 4 = mkF m 0 #[.val (.ref q), .val (.ref x1), .val (.int x2), .val (.int x3)] [] := by first | (simp [entryFrame, mkF, argsToLocals, Value.category]; done) | rfl
def Q_15 (Z : State) (q : Addr) (qa : Addr) (vs : List Value) (hd : Int32) (ct : Int32) (x1 : Addr) (x2 : Int32) (x3 : Int32) (h0 : Heap) (n0 : Nat) (v : Option Value) (h : Heap) (L : List Loc) : Prop := ∃ (qb : Addr) (us : List Value) (hq : Int32) (ev : Addr) (wr : List Addr), v = none ∧ Fr n0 L ∧ own_AR h0 q qa vs hd ct qb us hq ev wr ∧ own_Q Z h q qb us hq (ct + (1 : Int32)) ∧ (own_Ev Z h ev (5 : Int32) (.ref x1) x2 x3 .null .null .null .null) ∧ Keep h0 h wr ∧ own_W Z h0 wr ∧ n0 ≤ ev ∧ n0 ≤ qb ∧ (ev ∈ wr ∨ Array.size h0 ≤ ev)
set_option maxRecDepth 65536 in
set_option maxHeartbeats 40000000 in
theorem rm_15 (l : Launch) (Z : State) (a0 : Array Value) (hw : ∀ d ∈ tables_1, d.before a0 Z = true) (ws : List Jvm.Cond) (q : Addr) (qa : Addr) (vs : List Value) (hd : Int32) (ct : Int32) (x1 : Addr) (x2 : Int32) (x3 : Int32) (h0 : Heap) (n0 : Nat) (Z0 : n0 ≤ h0.size) (Q1 : own_Q Z h0 q qa vs hd ct) (gq : n0 ≤ q) (ga : n0 ≤ qa) (AP : own_AP Z n0 h0 vs hd ct) :
    MetFree l (⟨"com/example/dipper/dipper/stream/ScannedEvents", "comment", "([CII)V"⟩ : MethodName) (head1 (Jvm.Cond.code (⟨"com/example/dipper/dipper/stream/ScannedEvents", "comment", "([CII)V"⟩ : MethodName) prog_163_method_16_code 4 none :: ws) ({ frames := 3, cells := 5, slots := 40, locals := 42 } : Room)) (fun a U => a = #[(.ref q), (.ref x1), (.int x2), (.int x3)] ∧ Z.Warmed39 U.vm ∧ U.heap = h0) (fun _ _ _ _ _ => True) (fun _ U o U' => ∃ v L, o = .returned v ∧ (Q_15 Z q qa vs hd ct x1 x2 x3 h0 n0) v U'.heap L ∧ FrameEnd U o U' L ({ frames := 3, cells := 5, slots := 40, locals := 42 } : Room).cells ({ frames := 3, cells := 5, slots := 40, locals := 42 } : Room).slots) := by
  refine MetFree.of_bodySF pn_15 hisR ?_
  intro p e s m args below meth c s₁ Bd hml0 hP hK
  obtain ⟨rfl, hZ, hh⟩ := hP
  have hx := Bd.exec
  have hby := Bd.bytes
  have hlk : meth.locks = false := BodyLoose.notSynchronized Bd
  have hml : c.maxLocals = 4 := hml0
  have hown : s.vm.findClass "com/example/dipper/dipper/stream/ScannedEvents" = some m.cls := findClass_of_methodNamed Bd.named
  have hnm := (name_of_methodNamed Bd.named Bd.method).1
  have X0 : Stand p l e ({ frames := 3, cells := 5, slots := 40, locals := 42 } : Room) s m #[(.ref q), (.ref x1), (.int x2), (.int x3)] below meth c s₁ [] 0 0 := Stand.of_body Bd
  have e0 : s₁.heap = h0 := by rw [← hh, Bd.state]; rfl
  have N0 := Fr.nil n0
  refine own_enter (Q := (Q_15 Z q qa vs hd ct x1 x2 x3 h0 n0)) (cs := 5) (ss := 40) (ef_15 m q qa vs hd ct x1 x2 x3) ?_
  show Goes p e below (EndN s 5 40 (Q_15 Z q qa vs hd ct x1 x2 x3 h0 n0)) s₁ (mkF m 0 #[.val (.ref q), .val (.ref x1), .val (.int x2), .val (.int x3)] [])
  refine own_aloadN (pc' := 1) X0 hx (hb hby d16_0) rfl rfl rfl ?_
  obtain ⟨T199, X199, e199, st199⟩ := getF X0 hx hZ hown (host := "") (Or.inl (hw _ (List.mem_of_getElem? (i := 64) rfl))) Via.refl e0 Q1.2.2.2.2.1 (g := (mkF m 1 #[.val (.ref q), .val (.ref x1), .val (.int x2), .val (.int x3)] [(.ref q)])) rfl rfl (hb hby d16_1)
  refine Goes.pre st199 ?_
  show Goes p e below (EndN s 5 40 (Q_15 Z q qa vs hd ct x1 x2 x3 h0 n0)) T199 (mkF m 4 #[.val (.ref q), .val (.ref x1), .val (.int x2), .val (.int x3)] [(.int (0 : Int32))])
  refine own_ifN (pc' := 7) X199 hx (hb hby d16_4) (by decide) rfl ?_
  refine own_aloadN (pc' := 8) X199 hx (hb hby d16_7) rfl rfl rfl ?_
  refine own_iconst (pc' := 9) X199 hx (hb hby d16_8) (v := (5 : Int32)) rfl rfl ?_
  obtain ⟨_, _, ⟨T200, L200, k200, n200⟩, -, X200, ⟨Lc200, hQ200, l200, y200, z200⟩, st200⟩ := own_private X199 hx (y := (⟨"com/example/dipper/dipper/stream/ScannedEvents", "add", "(I)Lcom/example/dipper/dipper/stream/ScannedEvent;"⟩ : MethodName)) hown (mvT hZ (hw _ (List.mem_of_getElem? (i := 66) rfl))) (mvT hZ (hw _ (List.mem_of_getElem? (i := 67) rfl))) (mvT hZ (hw _ (List.mem_of_getElem? (i := 142) rfl))) rfl (Cond.privateMethod_at (mvP hZ (hw _ (List.mem_of_getElem? (i := 68) rfl)) (args := #[]))) (mvT hZ (hw _ (List.mem_of_getElem? (i := 69) rfl))) (by decide) (backOf (W := 0) (rm_12 l Z a0 hw [] q qa vs hd ct (5 : Int32) h0 n0 Z0 Q1 gq ga AP) hZ (hw _ (List.mem_of_getElem? (i := 69) rfl)) (hw _ (List.mem_of_getElem? (i := 3) rfl)) (by decide) (by decide)) (a := q) (by obtain ⟨c1, k1, h1, -, -, h4, -⟩ := Q1.1; exact ⟨c1, k1, by rw [e199]; exact h1, h4⟩) (g := (mkF m 9 #[.val (.ref q), .val (.ref x1), .val (.int x2), .val (.int x3)] [(.int (5 : Int32)), (.ref q)])) rfl (by rw [hml]; rfl) (argsL := [(.int (5 : Int32))]) (rest := []) (lenOf pd_12 rfl) rfl (by show 2 * 0 + _ ≤ _; exact Nat.le_of_eq rfl) (hb hby d16_9) (fun _ _ => ⟨rfl, e199, (by decide : 0 + 5 ≤ _), (by decide : 0 + 40 ≤ _)⟩)
  dsimp only [Pt.U, Pt.locs, Pt.cells, Pt.slots] at X200 l200 y200 z200 st200 hQ200
  subst l200 y200 z200
  obtain ⟨qb, us, hq, ev, wr, rfl, M200, AR, QQ, VV, KK, WW, gev, gqb, hor⟩ := hQ200
  have N200 := Fr.app N0 M200
  refine Goes.aft st200 ?_
  show Goes p e below (EndN s 5 40 (Q_15 Z q qa vs hd ct x1 x2 x3 h0 n0)) T200 (mkF m 12 #[.val (.ref q), .val (.ref x1), .val (.int x2), .val (.int x3)] [(.ref ev)])
  have ZA : n0 ≤ Array.size T200.heap := Nat.le_trans Z0 KK.1
  refine own_aloadN (pc' := 13) X200 hx (hb hby d16_12) rfl rfl rfl ?_
  refine own_iloadN (pc' := 14) X200 hx (hb hby d16_13) rfl rfl ?_
  refine own_iloadN (pc' := 15) X200 hx (hb hby d16_14) rfl rfl ?_
  obtain ⟨cq202, kq202, q202a, q202b, q202c⟩ := isOf hZ rfl VV.1
  obtain ⟨_, _, ⟨T201, L201, k201, n201⟩, -, X201, ⟨Lc201, hQ201, l201, y201, z201⟩, st201⟩ := X200.virtualBack hx (y := (⟨"com/example/dipper/dipper/stream/ScannedEvent", "characters", "([CII)V"⟩ : MethodName)) (z := (⟨"com/example/dipper/dipper/stream/ScannedEvent", "characters", "([CII)V"⟩ : MethodName)) hown (mvT hZ (hw _ (List.mem_of_getElem? (i := 95) rfl))) (mvT hZ (hw _ (List.mem_of_getElem? (i := 96) rfl))) (notFace_of_selects (args := #[]) (mvT hZ (hw _ (List.mem_of_getElem? (i := 98) rfl)))) (mvT hZ (hw _ (List.mem_of_getElem? (i := 98) rfl))) (mvT hZ (hw _ (List.mem_of_getElem? (i := 97) rfl))) (by decide) (backOf (W := 0) (rm_10 l Z a0 hw [] ev x1 x2 x3 (5 : Int32) .null (0 : Int32) (0 : Int32) .null .null .null .null T200.heap n0 ZA VV gev) hZ (hw _ (List.mem_of_getElem? (i := 99) rfl)) (hw _ (List.mem_of_getElem? (i := 23) rfl)) (by decide) (by decide)) q202a q202c (g := (mkF m 15 #[.val (.ref q), .val (.ref x1), .val (.int x2), .val (.int x3)] [(.int x3), (.int x2), (.ref x1), (.ref ev)])) rfl (by rw [hml]; rfl) (Steps.refl _) (argsL := [(.ref x1), (.int x2), (.int x3)]) (rest := []) (lenOf pd_10 rfl) rfl (by show 2 * 0 + _ ≤ _; exact Nat.le_of_eq rfl) (hb hby d16_15) (fun _ _ => ⟨rfl, rfl, (by decide : 5 + 0 ≤ _), (by decide : 40 + 0 ≤ _)⟩)
  dsimp only [Pt.U, Pt.locs, Pt.cells, Pt.slots] at X201 l201 y201 z201 st201 hQ201
  subst l201 y201 z201
  obtain ⟨rfl, M201, K201, V201⟩ := hQ201
  have N201 := Fr.app N200 M201
  refine Goes.aft st201 ?_
  show Goes p e below (EndN s 5 40 (Q_15 Z q qa vs hd ct x1 x2 x3 h0 n0)) T201 (mkF m 18 #[.val (.ref q), .val (.ref x1), .val (.int x2), .val (.int x3)] [])
  exact own_ret0 X201 hx hlk Bd.returns (hb hby d16_18) (by decide) (by decide) (by rw [show T201.heap = T201.heap from rfl]; exact ⟨qb, us, hq, ev, wr, rfl, N201, AR, QQ.keep K201 (ninS (QQ.neQ VV.1) nin0) (ninS (QQ.2.2.2.2.2.neE hw VV.1) nin0), V201, KK.trans K201 (allS hor all0), WW, gev, gqb, hor⟩)
theorem d21_0 : decode prog_163_method_13_code 0 = .ok (.aload_n 0, 1) := by decide +kernel
theorem d21_1 : decode prog_163_method_13_code 1 = .ok (.getfield 64, 3) := by decide +kernel
theorem d21_4 : decode prog_163_method_13_code 4 = .ok (.ifCond .ne 14, 3) := by decide +kernel
theorem d21_7 : decode prog_163_method_13_code 7 = .ok (.aload_n 0, 1) := by decide +kernel
theorem d21_8 : decode prog_163_method_13_code 8 = .ok (.iconst 2, 1) := by decide +kernel
theorem d21_9 : decode prog_163_method_13_code 9 = .ok (.invokevirtual 55, 3) := by decide +kernel
theorem d21_12 : decode prog_163_method_13_code 12 = .ok (.aload_n 1, 1) := by decide +kernel
theorem d21_13 : decode prog_163_method_13_code 13 = .ok (.aload_n 2, 1) := by decide +kernel
theorem d21_14 : decode prog_163_method_13_code 14 = .ok (.aload_n 3, 1) := by decide +kernel
theorem d21_15 : decode prog_163_method_13_code 15 = .ok (.invokevirtual 78, 3) := by decide +kernel
theorem d21_18 : decode prog_163_method_13_code 18 = .ok (.return_, 1) := by decide +kernel
theorem pn_17 : plainFor (⟨"com/example/dipper/dipper/stream/ScannedEvents", "endElement", "(Ljava/lang/String;Ljava/lang/String;Ljava/lang/String;)V"⟩ : MethodName) = true := by first | (refine plainFor_of_name ?_; simp [plainName, overriddenIn]; done) | decide +kernel
theorem pd_17 : parseMethodDescriptor "(Ljava/lang/String;Ljava/lang/String;Ljava/lang/String;)V" = some ⟨[(.object "java/lang/String"), (.object "java/lang/String"), (.object "java/lang/String")], none⟩ := by decide +kernel
theorem ef_17 (m : MethodId) (q : Addr) (qa : Addr) (vs : List Value) (hd : Int32) (ct : Int32) (x1 : Addr) (x2 : Addr) (x3 : Addr) : entryFrame m #[(.ref q), (.ref x1), (.ref x2), (.ref x3)] 4 = mkF m 0 #[.val (.ref q), .val (.ref x1), .val (.ref x2), .val (.ref x3)] [] := by first | (simp [entryFrame, mkF, argsToLocals, Value.category]; done) | rfl
def Q_17 (Z : State) (q : Addr) (qa : Addr) (vs : List Value) (hd : Int32) (ct : Int32) (x1 : Addr) (x2 : Addr) (x3 : Addr) (h0 : Heap) (n0 : Nat) (v : Option Value) (h : Heap) (L : List Loc) : Prop := ∃ (qb : Addr) (us : List Value) (hq : Int32) (ev : Addr) (wr : List Addr), v = none ∧ Fr n0 L ∧ own_AR h0 q qa vs hd ct qb us hq ev wr ∧ own_Q Z h q qb us hq (ct + (1 : Int32)) ∧ (own_Ev Z h ev (2 : Int32) .null (0 : Int32) (0 : Int32) .null (.ref x1) (.ref x2) (.ref x3)) ∧ Keep h0 h wr ∧ own_W Z h0 wr ∧ n0 ≤ ev ∧ n0 ≤ qb ∧ (ev ∈ wr ∨ Array.size h0 ≤ ev)
set_option maxRecDepth 65536 in
set_option maxHeartbeats 40000000 in
theorem rm_17 (l : Launch) (Z : State) (a0 : Array Value) (hw : ∀ d ∈ tables_1, d.before a0 Z = true) (ws : List Jvm.Cond) (q : Addr) (qa : Addr) (vs : List Value) (hd : Int32) (ct : Int32) (x1 : Addr) (x2 : Addr) (x3 : Addr) (h0 : Heap) (n0 : Nat) (Z0 : n0 ≤ h0.size) (Q1 : own_Q Z h0 q qa vs hd ct) (gq : n0 ≤ q) (ga : n0 ≤ qa) (AP : own_AP Z n0 h0 vs hd ct) :
    MetFree l (⟨"com/example/dipper/dipper/stream/ScannedEvents", "endElement", "(Ljava/lang/String;Ljava/lang/String;Ljava/lang/String;)V"⟩ : MethodName) (head1 (Jvm.Cond.code (⟨"com/example/dipper/dipper/stream/ScannedEvents", "endElement", "(Ljava/lang/String;Ljava/lang/String;Ljava/lang/String;)V"⟩ : MethodName) prog_163_method_13_code 4 none :: ws) ({ frames := 3, cells := 5, slots := 40, locals := 42 } : Room)) (fun a U => a = #[(.ref q), (.ref x1), (.ref x2), (.ref x3)] ∧ Z.Warmed39 U.vm ∧ U.heap = h0) (fun _ _ _ _ _ => True) (fun _ U o U' => ∃ v L, o = .returned v ∧ (Q_17 Z q qa vs hd ct x1 x2 x3 h0 n0) v U'.heap L ∧ FrameEnd U o U' L ({ frames := 3, cells := 5, slots := 40, locals := 42 } : Room).cells ({ frames := 3, cells := 5, slots := 40, locals := 42 } : Room).slots) := by
  refine MetFree.of_bodySF pn_17 hisR ?_
  intro p e s m args below meth c s₁ Bd hml0 hP hK
  obtain ⟨rfl, hZ, hh⟩ := hP
  have hx := Bd.exec
  have hby := Bd.bytes
  have hlk : meth.locks = false := BodyLoose.notSynchronized Bd
  have hml : c.maxLocals = 4 := hml0
  have hown : s.vm.findClass "com/example/dipper/dipper/stream/ScannedEvents" = some m.cls := findClass_of_methodNamed Bd.named
  have hnm := (name_of_methodNamed Bd.named Bd.method).1
  have X0 : Stand p l e ({ frames := 3, cells := 5, slots := 40, locals := 42 } : Room) s m #[(.ref q), (.ref x1), (.ref x2), (.ref x3)] below meth c s₁ [] 0 0 := Stand.of_body Bd
  have e0 : s₁.heap = h0 := by rw [← hh, Bd.state]; rfl
  have N0 := Fr.nil n0
  refine own_enter (Q := (Q_17 Z q qa vs hd ct x1 x2 x3 h0 n0)) (cs := 5) (ss := 40) (ef_17 m q qa vs hd ct x1 x2 x3) ?_
  show Goes p e below (EndN s 5 40 (Q_17 Z q qa vs hd ct x1 x2 x3 h0 n0)) s₁ (mkF m 0 #[.val (.ref q), .val (.ref x1), .val (.ref x2), .val (.ref x3)] [])
  refine own_aloadN (pc' := 1) X0 hx (hb hby d21_0) rfl rfl rfl ?_
  obtain ⟨T203, X203, e203, st203⟩ := getF X0 hx hZ hown (host := "") (Or.inl (hw _ (List.mem_of_getElem? (i := 64) rfl))) Via.refl e0 Q1.2.2.2.2.1 (g := (mkF m 1 #[.val (.ref q), .val (.ref x1), .val (.ref x2), .val (.ref x3)] [(.ref q)])) rfl rfl (hb hby d21_1)
  refine Goes.pre st203 ?_
  show Goes p e below (EndN s 5 40 (Q_17 Z q qa vs hd ct x1 x2 x3 h0 n0)) T203 (mkF m 4 #[.val (.ref q), .val (.ref x1), .val (.ref x2), .val (.ref x3)] [(.int (0 : Int32))])
  refine own_ifN (pc' := 7) X203 hx (hb hby d21_4) (by decide) rfl ?_
  refine own_aloadN (pc' := 8) X203 hx (hb hby d21_7) rfl rfl rfl ?_
  refine own_iconst (pc' := 9) X203 hx (hb hby d21_8) (v := (2 : Int32)) rfl rfl ?_
  obtain ⟨_, _, ⟨T204, L204, k204, n204⟩, -, X204, ⟨Lc204, hQ204, l204, y204, z204⟩, st204⟩ := own_private X203 hx (y := (⟨"com/example/dipper/dipper/stream/ScannedEvents", "add", "(I)Lcom/example/dipper/dipper/stream/ScannedEvent;"⟩ : MethodName)) hown (mvT hZ (hw _ (List.mem_of_getElem? (i := 66) rfl))) (mvT hZ (hw _ (List.mem_of_getElem? (i := 67) rfl))) (mvT hZ (hw _ (List.mem_of_getElem? (i := 142) rfl))) rfl (Cond.privateMethod_at (mvP hZ (hw _ (List.mem_of_getElem? (i := 68) rfl)) (args := #[]))) (mvT hZ (hw _ (List.mem_of_getElem? (i := 69) rfl))) (by decide) (backOf (W := 0) (rm_12 l Z a0 hw [] q qa vs hd ct (2 : Int32) h0 n0 Z0 Q1 gq ga AP) hZ (hw _ (List.mem_of_getElem? (i := 69) rfl)) (hw _ (List.mem_of_getElem? (i := 3) rfl)) (by decide) (by decide)) (a := q) (by obtain ⟨c1, k1, h1, -, -, h4, -⟩ := Q1.1; exact ⟨c1, k1, by rw [e203]; exact h1, h4⟩) (g := (mkF m 9 #[.val (.ref q), .val (.ref x1), .val (.ref x2), .val (.ref x3)] [(.int (2 : Int32)), (.ref q)])) rfl (by rw [hml]; rfl) (argsL := [(.int (2 : Int32))]) (rest := []) (lenOf pd_12 rfl) rfl (by show 2 * 0 + _ ≤ _; exact Nat.le_of_eq rfl) (hb hby d21_9) (fun _ _ => ⟨rfl, e203, (by decide : 0 + 5 ≤ _), (by decide : 0 + 40 ≤ _)⟩)
  dsimp only [Pt.U, Pt.locs, Pt.cells, Pt.slots] at X204 l204 y204 z204 st204 hQ204
  subst l204 y204 z204
  obtain ⟨qb, us, hq, ev, wr, rfl, M204, AR, QQ, VV, KK, WW, gev, gqb, hor⟩ := hQ204
  have N204 := Fr.app N0 M204
  refine Goes.aft st204 ?_
  show Goes p e below (EndN s 5 40 (Q_17 Z q qa vs hd ct x1 x2 x3 h0 n0)) T204 (mkF m 12 #[.val (.ref q), .val (.ref x1), .val (.ref x2), .val (.ref x3)] [(.ref ev)])
  have ZA : n0 ≤ Array.size T204.heap := Nat.le_trans Z0 KK.1
  refine own_aloadN (pc' := 13) X204 hx (hb hby d21_12) rfl rfl rfl ?_
  refine own_aloadN (pc' := 14) X204 hx (hb hby d21_13) rfl rfl rfl ?_
  refine own_aloadN (pc' := 15) X204 hx (hb hby d21_14) rfl rfl rfl ?_
  obtain ⟨cq206, kq206, q206a, q206b, q206c⟩ := isOf hZ rfl VV.1
  obtain ⟨_, _, ⟨T205, L205, k205, n205⟩, -, X205, ⟨Lc205, hQ205, l205, y205, z205⟩, st205⟩ := X204.virtualBack hx (y := (⟨"com/example/dipper/dipper/stream/ScannedEvent", "name", "(Ljava/lang/String;Ljava/lang/String;Ljava/lang/String;)V"⟩ : MethodName)) (z := (⟨"com/example/dipper/dipper/stream/ScannedEvent", "name", "(Ljava/lang/String;Ljava/lang/String;Ljava/lang/String;)V"⟩ : MethodName)) hown (mvT hZ (hw _ (List.mem_of_getElem? (i := 149) rfl))) (mvT hZ (hw _ (List.mem_of_getElem? (i := 150) rfl))) (notFace_of_selects (args := #[]) (mvT hZ (hw _ (List.mem_of_getElem? (i := 152) rfl)))) (mvT hZ (hw _ (List.mem_of_getElem? (i := 152) rfl))) (mvT hZ (hw _ (List.mem_of_getElem? (i := 151) rfl))) (by decide) (backOf (W := 0) (rm_11 l Z a0 hw [] ev x1 x2 x3 (2 : Int32) .null (0 : Int32) (0 : Int32) .null .null .null .null T204.heap n0 ZA VV gev) hZ (hw _ (List.mem_of_getElem? (i := 153) rfl)) (hw _ (List.mem_of_getElem? (i := 23) rfl)) (by decide) (by decide)) q206a q206c (g := (mkF m 15 #[.val (.ref q), .val (.ref x1), .val (.ref x2), .val (.ref x3)] [(.ref x3), (.ref x2), (.ref x1), (.ref ev)])) rfl (by rw [hml]; rfl) (Steps.refl _) (argsL := [(.ref x1), (.ref x2), (.ref x3)]) (rest := []) (lenOf pd_11 rfl) rfl (by show 2 * 0 + _ ≤ _; exact Nat.le_of_eq rfl) (hb hby d21_15) (fun _ _ => ⟨rfl, rfl, (by decide : 5 + 0 ≤ _), (by decide : 40 + 0 ≤ _)⟩)
  dsimp only [Pt.U, Pt.locs, Pt.cells, Pt.slots] at X205 l205 y205 z205 st205 hQ205
  subst l205 y205 z205
  obtain ⟨rfl, M205, K205, V205⟩ := hQ205
  have N205 := Fr.app N204 M205
  refine Goes.aft st205 ?_
  show Goes p e below (EndN s 5 40 (Q_17 Z q qa vs hd ct x1 x2 x3 h0 n0)) T205 (mkF m 18 #[.val (.ref q), .val (.ref x1), .val (.ref x2), .val (.ref x3)] [])
  exact own_ret0 X205 hx hlk Bd.returns (hb hby d21_18) (by decide) (by decide) (by rw [show T205.heap = T205.heap from rfl]; exact ⟨qb, us, hq, ev, wr, rfl, N205, AR, QQ.keep K205 (ninS (QQ.neQ VV.1) nin0) (ninS (QQ.2.2.2.2.2.neE hw VV.1) nin0), V205, KK.trans K205 (allS hor all0), WW, gev, gqb, hor⟩)
theorem d13_0 : decode prog_163_method_17_code 0 = .ok (.aload_n 0, 1) := by decide +kernel
theorem d13_1 : decode prog_163_method_17_code 1 = .ok (.getfield 64, 3) := by decide +kernel
theorem d13_4 : decode prog_163_method_17_code 4 = .ok (.ifCond .ne 19, 3) := by decide +kernel
theorem d13_7 : decode prog_163_method_17_code 7 = .ok (.aload_n 0, 1) := by decide +kernel
theorem d13_8 : decode prog_163_method_17_code 8 = .ok (.iconst 3, 1) := by decide +kernel
theorem d13_9 : decode prog_163_method_17_code 9 = .ok (.invokevirtual 55, 3) := by decide +kernel
theorem d13_12 : decode prog_163_method_17_code 12 = .ok (.astore_n 3, 1) := by decide +kernel
theorem d13_13 : decode prog_163_method_17_code 13 = .ok (.aload_n 3, 1) := by decide +kernel
theorem d13_14 : decode prog_163_method_17_code 14 = .ok (.aload_n 1, 1) := by decide +kernel
theorem d13_15 : decode prog_163_method_17_code 15 = .ok (.putfield 86, 3) := by decide +kernel
theorem d13_18 : decode prog_163_method_17_code 18 = .ok (.aload_n 3, 1) := by decide +kernel
theorem d13_19 : decode prog_163_method_17_code 19 = .ok (.aload_n 2, 1) := by decide +kernel
theorem d13_20 : decode prog_163_method_17_code 20 = .ok (.putfield 61, 3) := by decide +kernel
theorem d13_23 : decode prog_163_method_17_code 23 = .ok (.return_, 1) := by decide +kernel
theorem pn_16 : plainFor (⟨"com/example/dipper/dipper/stream/ScannedEvents", "processingInstruction", "(Ljava/lang/String;Ljava/lang/String;)V"⟩ : MethodName) = true := by first | (refine plainFor_of_name ?_; simp [plainName, overriddenIn]; done) | decide +kernel
theorem pd_16 : parseMethodDescriptor "(Ljava/lang/String;Ljava/lang/String;)V" = some ⟨[(.object "java/lang/String"), (.object "java/lang/String")], none⟩ := by decide +kernel
theorem ef_16 (m : MethodId) (q : Addr) (qa : Addr) (vs : List Value) (hd : Int32) (ct : Int32) (x1 : Addr) (x2 : Addr) : entryFrame m #[(.ref q), (.ref x1), (.ref x2)] 4 = mkF m 0 #[.val (.ref q), .val (.ref x1), .val (.ref x2), .unset] [] := by first | (simp [entryFrame, mkF, argsToLocals, Value.category]; done) | rfl
def Q_16 (Z : State) (q : Addr) (qa : Addr) (vs : List Value) (hd : Int32) (ct : Int32) (x1 : Addr) (x2 : Addr) (h0 : Heap) (n0 : Nat) (v : Option Value) (h : Heap) (L : List Loc) : Prop := ∃ (qb : Addr) (us : List Value) (hq : Int32) (ev : Addr) (wr : List Addr), v = none ∧ Fr n0 L ∧ own_AR h0 q qa vs hd ct qb us hq ev wr ∧ own_Q Z h q qb us hq (ct + (1 : Int32)) ∧ (own_Ev Z h ev (3 : Int32) .null (0 : Int32) (0 : Int32) (.ref x2) .null (.ref x1) .null) ∧ Keep h0 h wr ∧ own_W Z h0 wr ∧ n0 ≤ ev ∧ n0 ≤ qb ∧ (ev ∈ wr ∨ Array.size h0 ≤ ev)
set_option maxRecDepth 65536 in
set_option maxHeartbeats 40000000 in
theorem rm_16 (l : Launch) (Z : State) (a0 : Array Value) (hw : ∀ d ∈ tables_1, d.before a0 Z = true) (ws : List Jvm.Cond) (q : Addr) (qa : Addr) (vs : List Value) (hd : Int32) (ct : Int32) (x1 : Addr) (x2 : Addr) (h0 : Heap) (n0 : Nat) (Z0 : n0 ≤ h0.size) (Q1 : own_Q Z h0 q qa vs hd ct) (gq : n0 ≤ q) (ga : n0 ≤ qa) (AP : own_AP Z n0 h0 vs hd ct) :
    MetFree l (⟨"com/example/dipper/dipper/stream/ScannedEvents", "processingInstruction", "(Ljava/lang/String;Ljava/lang/String;)V"⟩ : MethodName) (head1 (Jvm.Cond.code (⟨"com/example/dipper/dipper/stream/ScannedEvents", "processingInstruction", "(Ljava/lang/String;Ljava/lang/String;)V"⟩ : MethodName) prog_163_method_17_code 4 none :: ws) ({ frames := 3, cells := 5, slots := 40, locals := 42 } : Room)) (fun a U => a = #[(.ref q), (.ref x1), (.ref x2)] ∧ Z.Warmed39 U.vm ∧ U.heap = h0) (fun _ _ _ _ _ => True) (fun _ U o U' => ∃ v L, o = .returned v ∧ (Q_16 Z q qa vs hd ct x1 x2 h0 n0) v U'.heap L ∧ FrameEnd U o U' L ({ frames := 3, cells := 5, slots := 40, locals := 42 } : Room).cells ({ frames := 3, cells := 5, slots := 40, locals := 42 } : Room).slots) := by
  refine MetFree.of_bodySF pn_16 hisR ?_
  intro p e s m args below meth c s₁ Bd hml0 hP hK
  obtain ⟨rfl, hZ, hh⟩ := hP
  have hx := Bd.exec
  have hby := Bd.bytes
  have hlk : meth.locks = false := BodyLoose.notSynchronized Bd
  have hml : c.maxLocals = 4 := hml0
  have hown : s.vm.findClass "com/example/dipper/dipper/stream/ScannedEvents" = some m.cls := findClass_of_methodNamed Bd.named
  have hnm := (name_of_methodNamed Bd.named Bd.method).1
  have X0 : Stand p l e ({ frames := 3, cells := 5, slots := 40, locals := 42 } : Room) s m #[(.ref q), (.ref x1), (.ref x2)] below meth c s₁ [] 0 0 := Stand.of_body Bd
  have e0 : s₁.heap = h0 := by rw [← hh, Bd.state]; rfl
  have N0 := Fr.nil n0
  refine own_enter (Q := (Q_16 Z q qa vs hd ct x1 x2 h0 n0)) (cs := 5) (ss := 40) (ef_16 m q qa vs hd ct x1 x2) ?_
  show Goes p e below (EndN s 5 40 (Q_16 Z q qa vs hd ct x1 x2 h0 n0)) s₁ (mkF m 0 #[.val (.ref q), .val (.ref x1), .val (.ref x2), .unset] [])
  refine own_aloadN (pc' := 1) X0 hx (hb hby d13_0) rfl rfl rfl ?_
  obtain ⟨T207, X207, e207, st207⟩ := getF X0 hx hZ hown (host := "") (Or.inl (hw _ (List.mem_of_getElem? (i := 64) rfl))) Via.refl e0 Q1.2.2.2.2.1 (g := (mkF m 1 #[.val (.ref q), .val (.ref x1), .val (.ref x2), .unset] [(.ref q)])) rfl rfl (hb hby d13_1)
  refine Goes.pre st207 ?_
  show Goes p e below (EndN s 5 40 (Q_16 Z q qa vs hd ct x1 x2 h0 n0)) T207 (mkF m 4 #[.val (.ref q), .val (.ref x1), .val (.ref x2), .unset] [(.int (0 : Int32))])
  refine own_ifN (pc' := 7) X207 hx (hb hby d13_4) (by decide) rfl ?_
  refine own_aloadN (pc' := 8) X207 hx (hb hby d13_7) rfl rfl rfl ?_
  refine own_iconst (pc' := 9) X207 hx (hb hby d13_8) (v := (3 : Int32)) rfl rfl ?_
  obtain ⟨_, _, ⟨T208, L208, k208, n208⟩, -, X208, ⟨Lc208, hQ208, l208, y208, z208⟩, st208⟩ := own_private X207 hx (y := (⟨"com/example/dipper/dipper/stream/ScannedEvents", "add", "(I)Lcom/example/dipper/dipper/stream/ScannedEvent;"⟩ : MethodName)) hown (mvT hZ (hw _ (List.mem_of_getElem? (i := 66) rfl))) (mvT hZ (hw _ (List.mem_of_getElem? (i := 67) rfl))) (mvT hZ (hw _ (List.mem_of_getElem? (i := 142) rfl))) rfl (Cond.privateMethod_at (mvP hZ (hw _ (List.mem_of_getElem? (i := 68) rfl)) (args := #[]))) (mvT hZ (hw _ (List.mem_of_getElem? (i := 69) rfl))) (by decide) (backOf (W := 0) (rm_12 l Z a0 hw [] q qa vs hd ct (3 : Int32) h0 n0 Z0 Q1 gq ga AP) hZ (hw _ (List.mem_of_getElem? (i := 69) rfl)) (hw _ (List.mem_of_getElem? (i := 3) rfl)) (by decide) (by decide)) (a := q) (by obtain ⟨c1, k1, h1, -, -, h4, -⟩ := Q1.1; exact ⟨c1, k1, by rw [e207]; exact h1, h4⟩) (g := (mkF m 9 #[.val (.ref q), .val (.ref x1), .val (.ref x2), .unset] [(.int (3 : Int32)), (.ref q)])) rfl (by rw [hml]; rfl) (argsL := [(.int (3 : Int32))]) (rest := []) (lenOf pd_12 rfl) rfl (by show 2 * 0 + _ ≤ _; exact Nat.le_of_eq rfl) (hb hby d13_9) (fun _ _ => ⟨rfl, e207, (by decide : 0 + 5 ≤ _), (by decide : 0 + 40 ≤ _)⟩)
  dsimp only [Pt.U, Pt.locs, Pt.cells, Pt.slots] at X208 l208 y208 z208 st208 hQ208
  subst l208 y208 z208
  obtain ⟨qb, us, hq, ev, wr, rfl, M208, AR, QQ, VV, KK, WW, gev, gqb, hor⟩ := hQ208
  have N208 := Fr.app N0 M208
  refine Goes.aft st208 ?_
  show Goes p e below (EndN s 5 40 (Q_16 Z q qa vs hd ct x1 x2 h0 n0)) T208 (mkF m 12 #[.val (.ref q), .val (.ref x1), .val (.ref x2), .unset] [(.ref ev)])
  have ZA : n0 ≤ Array.size T208.heap := Nat.le_trans Z0 KK.1
  obtain ⟨EE, F0, F1, F2, F3, F4, F5, F6, F7⟩ := id VV
  refine own_astoreN (pc' := 13) X208 hx (hb hby d13_12) rfl (Ls' := #[.val (.ref q), .val (.ref x1), .val (.ref x2), .val (.ref ev)]) rfl rfl ?_
  refine own_aloadN (pc' := 14) X208 hx (hb hby d13_13) rfl rfl rfl ?_
  refine own_aloadN (pc' := 15) X208 hx (hb hby d13_14) rfl rfl rfl ?_
  obtain ⟨T209, h209, X209, e209, W209, st209⟩ := putF X208 hx hZ hown (host := "") (Or.inl (hw _ (List.mem_of_getElem? (i := 105) rfl))) Via.refl rfl F6 EE (Or.inl (hw _ (List.mem_of_getElem? (i := 92) rfl))) (hw _ (List.mem_of_getElem? (i := 22) rfl)) (ty := (.object "java/lang/String")) (by decide) rfl rfl (g := (mkF m 15 #[.val (.ref q), .val (.ref x1), .val (.ref x2), .val (.ref ev)] [(.ref x1), (.ref ev)])) rfl rfl (hb hby d13_15)
  have N209 := Fr.snoc X209 N208 gev
  refine Goes.pre st209 ?_
  show Goes p e below (EndN s 5 40 (Q_16 Z q qa vs hd ct x1 x2 h0 n0)) T209 (mkF m 18 #[.val (.ref q), .val (.ref x1), .val (.ref x2), .val (.ref ev)] [])
  have F209_ev_type := F0.other W209 (Or.inr (slot_ne (Or.inl (hw _ (List.mem_of_getElem? (i := 80) rfl))) (Or.inl (hw _ (List.mem_of_getElem? (i := 92) rfl))) (by decide) (t := .int) (t' := (.object "java/lang/String")) (by decide) (by decide)))
  have F209_ev_characters := F1.other W209 (Or.inr (slot_ne (Or.inl (hw _ (List.mem_of_getElem? (i := 82) rfl))) (Or.inl (hw _ (List.mem_of_getElem? (i := 92) rfl))) (by decide) (t := (.array .char)) (t' := (.object "java/lang/String")) (by decide) (by decide)))
  have F209_ev_start := F2.other W209 (Or.inr (slot_ne (Or.inl (hw _ (List.mem_of_getElem? (i := 84) rfl))) (Or.inl (hw _ (List.mem_of_getElem? (i := 92) rfl))) (by decide) (t := .int) (t' := (.object "java/lang/String")) (by decide) (by decide)))
  have F209_ev_length := F3.other W209 (Or.inr (slot_ne (Or.inl (hw _ (List.mem_of_getElem? (i := 86) rfl))) (Or.inl (hw _ (List.mem_of_getElem? (i := 92) rfl))) (by decide) (t := .int) (t' := (.object "java/lang/String")) (by decide) (by decide)))
  have F209_ev_text := F4.other W209 (Or.inr (slot_ne (Or.inl (hw _ (List.mem_of_getElem? (i := 88) rfl))) (Or.inl (hw _ (List.mem_of_getElem? (i := 92) rfl))) (by decide) (t := (.object "java/lang/String")) (t' := (.object "java/lang/String")) (by decide) (by decide)))
  have F209_ev_namespace := F5.other W209 (Or.inr (slot_ne (Or.inl (hw _ (List.mem_of_getElem? (i := 90) rfl))) (Or.inl (hw _ (List.mem_of_getElem? (i := 92) rfl))) (by decide) (t := (.object "java/lang/String")) (t' := (.object "java/lang/String")) (by decide) (by decide)))
  have F209_ev_localName := F6.same W209
  have F209_ev_qualifiedName := F7.other W209 (Or.inr (slot_ne (Or.inl (hw _ (List.mem_of_getElem? (i := 94) rfl))) (Or.inl (hw _ (List.mem_of_getElem? (i := 92) rfl))) (by decide) (t := (.object "java/lang/String")) (t' := (.object "java/lang/String")) (by decide) (by decide)))
  have E209_ev := EE.wr W209
  have K209 := Keep.wr (Keep.refl T208.heap [ev]) W209 (Or.inl (List.mem_of_getElem? (i := 0) rfl))
  refine own_aloadN (pc' := 19) X209 hx (hb hby d13_18) rfl rfl rfl ?_
  refine own_aloadN (pc' := 20) X209 hx (hb hby d13_19) rfl rfl rfl ?_
  obtain ⟨T210, h210, X210, e210, W210, st210⟩ := putF X209 hx hZ hown (host := "") (Or.inl (hw _ (List.mem_of_getElem? (i := 106) rfl))) Via.refl e209 F209_ev_text E209_ev (Or.inl (hw _ (List.mem_of_getElem? (i := 88) rfl))) (hw _ (List.mem_of_getElem? (i := 22) rfl)) (ty := (.object "java/lang/String")) (by decide) rfl rfl (g := (mkF m 20 #[.val (.ref q), .val (.ref x1), .val (.ref x2), .val (.ref ev)] [(.ref x2), (.ref ev)])) rfl rfl (hb hby d13_20)
  have N210 := Fr.snoc X210 N209 gev
  refine Goes.pre st210 ?_
  show Goes p e below (EndN s 5 40 (Q_16 Z q qa vs hd ct x1 x2 h0 n0)) T210 (mkF m 23 #[.val (.ref q), .val (.ref x1), .val (.ref x2), .val (.ref ev)] [])
  have F210_ev_type := F209_ev_type.other W210 (Or.inr (slot_ne (Or.inl (hw _ (List.mem_of_getElem? (i := 80) rfl))) (Or.inl (hw _ (List.mem_of_getElem? (i := 88) rfl))) (by decide) (t := .int) (t' := (.object "java/lang/String")) (by decide) (by decide)))
  have F210_ev_characters := F209_ev_characters.other W210 (Or.inr (slot_ne (Or.inl (hw _ (List.mem_of_getElem? (i := 82) rfl))) (Or.inl (hw _ (List.mem_of_getElem? (i := 88) rfl))) (by decide) (t := (.array .char)) (t' := (.object "java/lang/String")) (by decide) (by decide)))
  have F210_ev_start := F209_ev_start.other W210 (Or.inr (slot_ne (Or.inl (hw _ (List.mem_of_getElem? (i := 84) rfl))) (Or.inl (hw _ (List.mem_of_getElem? (i := 88) rfl))) (by decide) (t := .int) (t' := (.object "java/lang/String")) (by decide) (by decide)))
  have F210_ev_length := F209_ev_length.other W210 (Or.inr (slot_ne (Or.inl (hw _ (List.mem_of_getElem? (i := 86) rfl))) (Or.inl (hw _ (List.mem_of_getElem? (i := 88) rfl))) (by decide) (t := .int) (t' := (.object "java/lang/String")) (by decide) (by decide)))
  have F210_ev_text := F209_ev_text.same W210
  have F210_ev_namespace := F209_ev_namespace.other W210 (Or.inr (slot_ne (Or.inl (hw _ (List.mem_of_getElem? (i := 90) rfl))) (Or.inl (hw _ (List.mem_of_getElem? (i := 88) rfl))) (by decide) (t := (.object "java/lang/String")) (t' := (.object "java/lang/String")) (by decide) (by decide)))
  have F210_ev_localName := F209_ev_localName.other W210 (Or.inr (slot_ne (Or.inl (hw _ (List.mem_of_getElem? (i := 92) rfl))) (Or.inl (hw _ (List.mem_of_getElem? (i := 88) rfl))) (by decide) (t := (.object "java/lang/String")) (t' := (.object "java/lang/String")) (by decide) (by decide)))
  have F210_ev_qualifiedName := F209_ev_qualifiedName.other W210 (Or.inr (slot_ne (Or.inl (hw _ (List.mem_of_getElem? (i := 94) rfl))) (Or.inl (hw _ (List.mem_of_getElem? (i := 88) rfl))) (by decide) (t := (.object "java/lang/String")) (t' := (.object "java/lang/String")) (by decide) (by decide)))
  have E210_ev := E209_ev.wr W210
  have K210 := Keep.wr K209 W210 (Or.inl (List.mem_of_getElem? (i := 0) rfl))
  exact own_ret0 X210 hx hlk Bd.returns (hb hby d13_23) (by decide) (by decide) (by rw [e210]; exact ⟨qb, us, hq, ev, wr, rfl, N210, AR, QQ.keep K210 (ninS (QQ.neQ VV.1) nin0) (ninS (QQ.2.2.2.2.2.neE hw VV.1) nin0), ⟨E210_ev, F210_ev_type, F210_ev_characters, F210_ev_start, F210_ev_length, F210_ev_text, F210_ev_namespace, F210_ev_localName, F210_ev_qualifiedName⟩, KK.trans K210 (allS hor all0), WW, gev, gqb, hor⟩)
theorem d26_0 : decode prog_163_method_21_code 0 = .ok (.aload_n 0, 1) := by decide +kernel
theorem d26_1 : decode prog_163_method_21_code 1 = .ok (.bipush 9, 2) := by decide +kernel
theorem d26_3 : decode prog_163_method_21_code 3 = .ok (.invokevirtual 55, 3) := by decide +kernel
theorem d26_6 : decode prog_163_method_21_code 6 = .ok (.astore_n 3, 1) := by decide +kernel
theorem d26_7 : decode prog_163_method_21_code 7 = .ok (.aload_n 3, 1) := by decide +kernel
theorem d26_8 : decode prog_163_method_21_code 8 = .ok (.aload_n 1, 1) := by decide +kernel
theorem d26_9 : decode prog_163_method_21_code 9 = .ok (.putfield 86, 3) := by decide +kernel
theorem d26_12 : decode prog_163_method_21_code 12 = .ok (.aload_n 3, 1) := by decide +kernel
theorem d26_13 : decode prog_163_method_21_code 13 = .ok (.aload_n 2, 1) := by decide +kernel
theorem d26_14 : decode prog_163_method_21_code 14 = .ok (.putfield 61, 3) := by decide +kernel
theorem d26_17 : decode prog_163_method_21_code 17 = .ok (.return_, 1) := by decide +kernel
theorem pn_20 : plainFor (⟨"com/example/dipper/dipper/stream/ScannedEvents", "reference", "(Ljava/lang/String;Ljava/lang/String;)V"⟩ : MethodName) = true := by first | (refine plainFor_of_name ?_; simp [plainName, overriddenIn]; done) | decide +kernel
theorem pd_20 : parseMethodDescriptor "(Ljava/lang/String;Ljava/lang/String;)V" = some ⟨[(.object "java/lang/String"), (.object "java/lang/String")], none⟩ := by decide +kernel
theorem ef_20 (m : MethodId) (q : Addr) (qa : Addr) (vs : List Value) (hd : Int32) (ct : Int32) (x1 : Addr) (x2 : Addr) : entryFrame m #[(.ref q), (.ref x1), (.ref x2)] 4 = mkF m 0 #[.val (.ref q), .val (.ref x1), .val (.ref x2), .unset] [] := by first | (simp [entryFrame, mkF, argsToLocals, Value.category]; done) | rfl
def Q_20 (Z : State) (q : Addr) (qa : Addr) (vs : List Value) (hd : Int32) (ct : Int32) (x1 : Addr) (x2 : Addr) (h0 : Heap) (n0 : Nat) (v : Option Value) (h : Heap) (L : List Loc) : Prop := ∃ (qb : Addr) (us : List Value) (hq : Int32) (ev : Addr) (wr : List Addr), v = none ∧ Fr n0 L ∧ own_AR h0 q qa vs hd ct qb us hq ev wr ∧ own_Q Z h q qb us hq (ct + (1 : Int32)) ∧ (own_Ev Z h ev (9 : Int32) .null (0 : Int32) (0 : Int32) (.ref x2) .null (.ref x1) .null) ∧ Keep h0 h wr ∧ own_W Z h0 wr ∧ n0 ≤ ev ∧ n0 ≤ qb ∧ (ev ∈ wr ∨ Array.size h0 ≤ ev)
set_option maxRecDepth 65536 in
set_option maxHeartbeats 40000000 in
theorem rm_20 (l : Launch) (Z : State) (a0 : Array Value) (hw : ∀ d ∈ tables_1, d.before a0 Z = true) (ws : List Jvm.Cond) (q : Addr) (qa : Addr) (vs : List Value) (hd : Int32) (ct : Int32) (x1 : Addr) (x2 : Addr) (h0 : Heap) (n0 : Nat) (Z0 : n0 ≤ h0.size) (Q1 : own_Q Z h0 q qa vs hd ct) (gq : n0 ≤ q) (ga : n0 ≤ qa) (AP : own_AP Z n0 h0 vs hd ct) :
    MetFree l (⟨"com/example/dipper/dipper/stream/ScannedEvents", "reference", "(Ljava/lang/String;Ljava/lang/String;)V"⟩ : MethodName) (head1 (Jvm.Cond.code (⟨"com/example/dipper/dipper/stream/ScannedEvents", "reference", "(Ljava/lang/String;Ljava/lang/String;)V"⟩ : MethodName) prog_163_method_21_code 4 none :: ws) ({ frames := 3, cells := 5, slots := 40, locals := 42 } : Room)) (fun a U => a = #[(.ref q), (.ref x1), (.ref x2)] ∧ Z.Warmed39 U.vm ∧ U.heap = h0) (fun _ _ _ _ _ => True) (fun _ U o U' => ∃ v L, o = .returned v ∧ (Q_20 Z q qa vs hd ct x1 x2 h0 n0) v U'.heap L ∧ FrameEnd U o U' L ({ frames := 3, cells := 5, slots := 40, locals := 42 } : Room).cells ({ frames := 3, cells := 5, slots := 40, locals := 42 } : Room).slots) := by
  refine MetFree.of_bodySF pn_20 hisR ?_
  intro p e s m args below meth c s₁ Bd hml0 hP hK
  obtain ⟨rfl, hZ, hh⟩ := hP
  have hx := Bd.exec
  have hby := Bd.bytes
  have hlk : meth.locks = false := BodyLoose.notSynchronized Bd
  have hml : c.maxLocals = 4 := hml0
  have hown : s.vm.findClass "com/example/dipper/dipper/stream/ScannedEvents" = some m.cls := findClass_of_methodNamed Bd.named
  have hnm := (name_of_methodNamed Bd.named Bd.method).1
  have X0 : Stand p l e ({ frames := 3, cells := 5, slots := 40, locals := 42 } : Room) s m #[(.ref q), (.ref x1), (.ref x2)] below meth c s₁ [] 0 0 := Stand.of_body Bd
  have e0 : s₁.heap = h0 := by rw [← hh, Bd.state]; rfl
  have N0 := Fr.nil n0
  refine own_enter (Q := (Q_20 Z q qa vs hd ct x1 x2 h0 n0)) (cs := 5) (ss := 40) (ef_20 m q qa vs hd ct x1 x2) ?_
  show Goes p e below (EndN s 5 40 (Q_20 Z q qa vs hd ct x1 x2 h0 n0)) s₁ (mkF m 0 #[.val (.ref q), .val (.ref x1), .val (.ref x2), .unset] [])
  refine own_aloadN (pc' := 1) X0 hx (hb hby d26_0) rfl rfl rfl ?_
  refine own_bipush (pc' := 3) X0 hx (hb hby d26_1) (v := (9 : Int32)) rfl rfl ?_
  obtain ⟨_, _, ⟨T211, L211, k211, n211⟩, -, X211, ⟨Lc211, hQ211, l211, y211, z211⟩, st211⟩ := own_private X0 hx (y := (⟨"com/example/dipper/dipper/stream/ScannedEvents", "add", "(I)Lcom/example/dipper/dipper/stream/ScannedEvent;"⟩ : MethodName)) hown (mvT hZ (hw _ (List.mem_of_getElem? (i := 66) rfl))) (mvT hZ (hw _ (List.mem_of_getElem? (i := 67) rfl))) (mvT hZ (hw _ (List.mem_of_getElem? (i := 142) rfl))) rfl (Cond.privateMethod_at (mvP hZ (hw _ (List.mem_of_getElem? (i := 68) rfl)) (args := #[]))) (mvT hZ (hw _ (List.mem_of_getElem? (i := 69) rfl))) (by decide) (backOf (W := 0) (rm_12 l Z a0 hw [] q qa vs hd ct (9 : Int32) h0 n0 Z0 Q1 gq ga AP) hZ (hw _ (List.mem_of_getElem? (i := 69) rfl)) (hw _ (List.mem_of_getElem? (i := 3) rfl)) (by decide) (by decide)) (a := q) (by obtain ⟨c1, k1, h1, -, -, h4, -⟩ := Q1.1; exact ⟨c1, k1, by rw [e0]; exact h1, h4⟩) (g := (mkF m 3 #[.val (.ref q), .val (.ref x1), .val (.ref x2), .unset] [(.int (9 : Int32)), (.ref q)])) rfl (by rw [hml]; rfl) (argsL := [(.int (9 : Int32))]) (rest := []) (lenOf pd_12 rfl) rfl (by show 2 * 0 + _ ≤ _; exact Nat.le_of_eq rfl) (hb hby d26_3) (fun _ _ => ⟨rfl, e0, (by decide : 0 + 5 ≤ _), (by decide : 0 + 40 ≤ _)⟩)
  dsimp only [Pt.U, Pt.locs, Pt.cells, Pt.slots] at X211 l211 y211 z211 st211 hQ211
  subst l211 y211 z211
  obtain ⟨qb, us, hq, ev, wr, rfl, M211, AR, QQ, VV, KK, WW, gev, gqb, hor⟩ := hQ211
  have N211 := Fr.app N0 M211
  refine Goes.aft st211 ?_
  show Goes p e below (EndN s 5 40 (Q_20 Z q qa vs hd ct x1 x2 h0 n0)) T211 (mkF m 6 #[.val (.ref q), .val (.ref x1), .val (.ref x2), .unset] [(.ref ev)])
  have ZA : n0 ≤ Array.size T211.heap := Nat.le_trans Z0 KK.1
  obtain ⟨EE, F0, F1, F2, F3, F4, F5, F6, F7⟩ := id VV
  refine own_astoreN (pc' := 7) X211 hx (hb hby d26_6) rfl (Ls' := #[.val (.ref q), .val (.ref x1), .val (.ref x2), .val (.ref ev)]) rfl rfl ?_
  refine own_aloadN (pc' := 8) X211 hx (hb hby d26_7) rfl rfl rfl ?_
  refine own_aloadN (pc' := 9) X211 hx (hb hby d26_8) rfl rfl rfl ?_
  obtain ⟨T212, h212, X212, e212, W212, st212⟩ := putF X211 hx hZ hown (host := "") (Or.inl (hw _ (List.mem_of_getElem? (i := 105) rfl))) Via.refl rfl F6 EE (Or.inl (hw _ (List.mem_of_getElem? (i := 92) rfl))) (hw _ (List.mem_of_getElem? (i := 22) rfl)) (ty := (.object "java/lang/String")) (by decide) rfl rfl (g := (mkF m 9 #[.val (.ref q), .val (.ref x1), .val (.ref x2), .val (.ref ev)] [(.ref x1), (.ref ev)])) rfl rfl (hb hby d26_9)
  have N212 := Fr.snoc X212 N211 gev
  refine Goes.pre st212 ?_
  show Goes p e below (EndN s 5 40 (Q_20 Z q qa vs hd ct x1 x2 h0 n0)) T212 (mkF m 12 #[.val (.ref q), .val (.ref x1), .val (.ref x2), .val (.ref ev)] [])
  have F212_ev_type := F0.other W212 (Or.inr (slot_ne (Or.inl (hw _ (List.mem_of_getElem? (i := 80) rfl))) (Or.inl (hw _ (List.mem_of_getElem? (i := 92) rfl))) (by decide) (t := .int) (t' := (.object "java/lang/String")) (by decide) (by decide)))
  have F212_ev_characters := F1.other W212 (Or.inr (slot_ne (Or.inl (hw _ (List.mem_of_getElem? (i := 82) rfl))) (Or.inl (hw _ (List.mem_of_getElem? (i := 92) rfl))) (by decide) (t := (.array .char)) (t' := (.object "java/lang/String")) (by decide) (by decide)))
  have F212_ev_start := F2.other W212 (Or.inr (slot_ne (Or.inl (hw _ (List.mem_of_getElem? (i := 84) rfl))) (Or.inl (hw _ (List.mem_of_getElem? (i := 92) rfl))) (by decide) (t := .int) (t' := (.object "java/lang/String")) (by decide) (by decide)))
  have F212_ev_length := F3.other W212 (Or.inr (slot_ne (Or.inl (hw _ (List.mem_of_getElem? (i := 86) rfl))) (Or.inl (hw _ (List.mem_of_getElem? (i := 92) rfl))) (by decide) (t := .int) (t' := (.object "java/lang/String")) (by decide) (by decide)))
  have F212_ev_text := F4.other W212 (Or.inr (slot_ne (Or.inl (hw _ (List.mem_of_getElem? (i := 88) rfl))) (Or.inl (hw _ (List.mem_of_getElem? (i := 92) rfl))) (by decide) (t := (.object "java/lang/String")) (t' := (.object "java/lang/String")) (by decide) (by decide)))
  have F212_ev_namespace := F5.other W212 (Or.inr (slot_ne (Or.inl (hw _ (List.mem_of_getElem? (i := 90) rfl))) (Or.inl (hw _ (List.mem_of_getElem? (i := 92) rfl))) (by decide) (t := (.object "java/lang/String")) (t' := (.object "java/lang/String")) (by decide) (by decide)))
  have F212_ev_localName := F6.same W212
  have F212_ev_qualifiedName := F7.other W212 (Or.inr (slot_ne (Or.inl (hw _ (List.mem_of_getElem? (i := 94) rfl))) (Or.inl (hw _ (List.mem_of_getElem? (i := 92) rfl))) (by decide) (t := (.object "java/lang/String")) (t' := (.object "java/lang/String")) (by decide) (by decide)))
  have E212_ev := EE.wr W212
  have K212 := Keep.wr (Keep.refl T211.heap [ev]) W212 (Or.inl (List.mem_of_getElem? (i := 0) rfl))
  refine own_aloadN (pc' := 13) X212 hx (hb hby d26_12) rfl rfl rfl ?_
  refine own_aloadN (pc' := 14) X212 hx (hb hby d26_13) rfl rfl rfl ?_
  obtain ⟨T213, h213, X213, e213, W213, st213⟩ := putF X212 hx hZ hown (host := "") (Or.inl (hw _ (List.mem_of_getElem? (i := 106) rfl))) Via.refl e212 F212_ev_text E212_ev (Or.inl (hw _ (List.mem_of_getElem? (i := 88) rfl))) (hw _ (List.mem_of_getElem? (i := 22) rfl)) (ty := (.object "java/lang/String")) (by decide) rfl rfl (g := (mkF m 14 #[.val (.ref q), .val (.ref x1), .val (.ref x2), .val (.ref ev)] [(.ref x2), (.ref ev)])) rfl rfl (hb hby d26_14)
  have N213 := Fr.snoc X213 N212 gev
  refine Goes.pre st213 ?_
  show Goes p e below (EndN s 5 40 (Q_20 Z q qa vs hd ct x1 x2 h0 n0)) T213 (mkF m 17 #[.val (.ref q), .val (.ref x1), .val (.ref x2), .val (.ref ev)] [])
  have F213_ev_type := F212_ev_type.other W213 (Or.inr (slot_ne (Or.inl (hw _ (List.mem_of_getElem? (i := 80) rfl))) (Or.inl (hw _ (List.mem_of_getElem? (i := 88) rfl))) (by decide) (t := .int) (t' := (.object "java/lang/String")) (by decide) (by decide)))
  have F213_ev_characters := F212_ev_characters.other W213 (Or.inr (slot_ne (Or.inl (hw _ (List.mem_of_getElem? (i := 82) rfl))) (Or.inl (hw _ (List.mem_of_getElem? (i := 88) rfl))) (by decide) (t := (.array .char)) (t' := (.object "java/lang/String")) (by decide) (by decide)))
  have F213_ev_start := F212_ev_start.other W213 (Or.inr (slot_ne (Or.inl (hw _ (List.mem_of_getElem? (i := 84) rfl))) (Or.inl (hw _ (List.mem_of_getElem? (i := 88) rfl))) (by decide) (t := .int) (t' := (.object "java/lang/String")) (by decide) (by decide)))
  have F213_ev_length := F212_ev_length.other W213 (Or.inr (slot_ne (Or.inl (hw _ (List.mem_of_getElem? (i := 86) rfl))) (Or.inl (hw _ (List.mem_of_getElem? (i := 88) rfl))) (by decide) (t := .int) (t' := (.object "java/lang/String")) (by decide) (by decide)))
  have F213_ev_text := F212_ev_text.same W213
  have F213_ev_namespace := F212_ev_namespace.other W213 (Or.inr (slot_ne (Or.inl (hw _ (List.mem_of_getElem? (i := 90) rfl))) (Or.inl (hw _ (List.mem_of_getElem? (i := 88) rfl))) (by decide) (t := (.object "java/lang/String")) (t' := (.object "java/lang/String")) (by decide) (by decide)))
  have F213_ev_localName := F212_ev_localName.other W213 (Or.inr (slot_ne (Or.inl (hw _ (List.mem_of_getElem? (i := 92) rfl))) (Or.inl (hw _ (List.mem_of_getElem? (i := 88) rfl))) (by decide) (t := (.object "java/lang/String")) (t' := (.object "java/lang/String")) (by decide) (by decide)))
  have F213_ev_qualifiedName := F212_ev_qualifiedName.other W213 (Or.inr (slot_ne (Or.inl (hw _ (List.mem_of_getElem? (i := 94) rfl))) (Or.inl (hw _ (List.mem_of_getElem? (i := 88) rfl))) (by decide) (t := (.object "java/lang/String")) (t' := (.object "java/lang/String")) (by decide) (by decide)))
  have E213_ev := E212_ev.wr W213
  have K213 := Keep.wr K212 W213 (Or.inl (List.mem_of_getElem? (i := 0) rfl))
  exact own_ret0 X213 hx hlk Bd.returns (hb hby d26_17) (by decide) (by decide) (by rw [e213]; exact ⟨qb, us, hq, ev, wr, rfl, N213, AR, QQ.keep K213 (ninS (QQ.neQ VV.1) nin0) (ninS (QQ.2.2.2.2.2.neE hw VV.1) nin0), ⟨E213_ev, F213_ev_type, F213_ev_characters, F213_ev_start, F213_ev_length, F213_ev_text, F213_ev_namespace, F213_ev_localName, F213_ev_qualifiedName⟩, KK.trans K213 (allS hor all0), WW, gev, gqb, hor⟩)
theorem d23_0 : decode prog_163_method_11_code 0 = .ok (.aload_n 0, 1) := by decide +kernel
theorem d23_1 : decode prog_163_method_11_code 1 = .ok (.bipush 11, 2) := by decide +kernel
theorem d23_3 : decode prog_163_method_11_code 3 = .ok (.invokevirtual 55, 3) := by decide +kernel
theorem d23_6 : decode prog_163_method_11_code 6 = .ok (.aload_n 1, 1) := by decide +kernel
theorem d23_7 : decode prog_163_method_11_code 7 = .ok (.ifnonnull 8, 3) := by decide +kernel
theorem d23_10 : decode prog_163_method_11_code 10 = .ok (.ldc 59, 2) := by decide +kernel
theorem d23_12 : decode prog_163_method_11_code 12 = .ok (.goto 4, 3) := by decide +kernel
theorem d23_15 : decode prog_163_method_11_code 15 = .ok (.aload_n 1, 1) := by decide +kernel
theorem d23_16 : decode prog_163_method_11_code 16 = .ok (.putfield 61, 3) := by decide +kernel
theorem d23_19 : decode prog_163_method_11_code 19 = .ok (.return_, 1) := by decide +kernel
theorem pn_18 : plainFor (⟨"com/example/dipper/dipper/stream/ScannedEvents", "endDocumentType", "(Ljava/lang/String;)V"⟩ : MethodName) = true := by first | (refine plainFor_of_name ?_; simp [plainName, overriddenIn]; done) | decide +kernel
theorem pd_18 : parseMethodDescriptor "(Ljava/lang/String;)V" = some ⟨[(.object "java/lang/String")], none⟩ := by decide +kernel
theorem ef_18 (m : MethodId) (q : Addr) (qa : Addr) (vs : List Value) (hd : Int32) (ct : Int32) (x1 : Addr) : entryFrame m #[(.ref q), (.ref x1)] 2 = mkF m 0 #[.val (.ref q), .val (.ref x1)] [] := by first | (simp [entryFrame, mkF, argsToLocals, Value.category]; done) | rfl
def Q_18 (Z : State) (q : Addr) (qa : Addr) (vs : List Value) (hd : Int32) (ct : Int32) (x1 : Addr) (h0 : Heap) (n0 : Nat) (v : Option Value) (h : Heap) (L : List Loc) : Prop := ∃ (qb : Addr) (us : List Value) (hq : Int32) (ev : Addr) (wr : List Addr), v = none ∧ Fr n0 L ∧ own_AR h0 q qa vs hd ct qb us hq ev wr ∧ own_Q Z h q qb us hq (ct + (1 : Int32)) ∧ (own_Ev Z h ev (11 : Int32) .null (0 : Int32) (0 : Int32) (.ref x1) .null .null .null) ∧ Keep h0 h wr ∧ own_W Z h0 wr ∧ n0 ≤ ev ∧ n0 ≤ qb ∧ (ev ∈ wr ∨ Array.size h0 ≤ ev)
set_option maxRecDepth 65536 in
set_option maxHeartbeats 40000000 in
theorem rm_18 (l : Launch) (Z : State) (a0 : Array Value) (hw : ∀ d ∈ tables_1, d.before a0 Z = true) (ws : List Jvm.Cond) (q : Addr) (qa : Addr) (vs : List Value) (hd : Int32) (ct : Int32) (x1 : Addr) (h0 : Heap) (n0 : Nat) (Z0 : n0 ≤ h0.size) (Q1 : own_Q Z h0 q qa vs hd ct) (gq : n0 ≤ q) (ga : n0 ≤ qa) (AP : own_AP Z n0 h0 vs hd ct) :
    MetFree l (⟨"com/example/dipper/dipper/stream/ScannedEvents", "endDocumentType", "(Ljava/lang/String;)V"⟩ : MethodName) (head1 (Jvm.Cond.code (⟨"com/example/dipper/dipper/stream/ScannedEvents", "endDocumentType", "(Ljava/lang/String;)V"⟩ : MethodName) prog_163_method_11_code 2 none :: ws) ({ frames := 3, cells := 5, slots := 40, locals := 42 } : Room)) (fun a U => a = #[(.ref q), (.ref x1)] ∧ Z.Warmed39 U.vm ∧ U.heap = h0) (fun _ _ _ _ _ => True) (fun _ U o U' => ∃ v L, o = .returned v ∧ (Q_18 Z q qa vs hd ct x1 h0 n0) v U'.heap L ∧ FrameEnd U o U' L ({ frames := 3, cells := 5, slots := 40, locals := 42 } : Room).cells ({ frames := 3, cells := 5, slots := 40, locals := 42 } : Room).slots) := by
  refine MetFree.of_bodySF pn_18 hisR ?_
  intro p e s m args below meth c s₁ Bd hml0 hP hK
  obtain ⟨rfl, hZ, hh⟩ := hP
  have hx := Bd.exec
  have hby := Bd.bytes
  have hlk : meth.locks = false := BodyLoose.notSynchronized Bd
  have hml : c.maxLocals = 2 := hml0
  have hown : s.vm.findClass "com/example/dipper/dipper/stream/ScannedEvents" = some m.cls := findClass_of_methodNamed Bd.named
  have hnm := (name_of_methodNamed Bd.named Bd.method).1
  have X0 : Stand p l e ({ frames := 3, cells := 5, slots := 40, locals := 42 } : Room) s m #[(.ref q), (.ref x1)] below meth c s₁ [] 0 0 := Stand.of_body Bd
  have e0 : s₁.heap = h0 := by rw [← hh, Bd.state]; rfl
  have N0 := Fr.nil n0
  refine own_enter (Q := (Q_18 Z q qa vs hd ct x1 h0 n0)) (cs := 5) (ss := 40) (ef_18 m q qa vs hd ct x1) ?_
  show Goes p e below (EndN s 5 40 (Q_18 Z q qa vs hd ct x1 h0 n0)) s₁ (mkF m 0 #[.val (.ref q), .val (.ref x1)] [])
  refine own_aloadN (pc' := 1) X0 hx (hb hby d23_0) rfl rfl rfl ?_
  refine own_bipush (pc' := 3) X0 hx (hb hby d23_1) (v := (11 : Int32)) rfl rfl ?_
  obtain ⟨_, _, ⟨T214, L214, k214, n214⟩, -, X214, ⟨Lc214, hQ214, l214, y214, z214⟩, st214⟩ := own_private X0 hx (y := (⟨"com/example/dipper/dipper/stream/ScannedEvents", "add", "(I)Lcom/example/dipper/dipper/stream/ScannedEvent;"⟩ : MethodName)) hown (mvT hZ (hw _ (List.mem_of_getElem? (i := 66) rfl))) (mvT hZ (hw _ (List.mem_of_getElem? (i := 67) rfl))) (mvT hZ (hw _ (List.mem_of_getElem? (i := 142) rfl))) rfl (Cond.privateMethod_at (mvP hZ (hw _ (List.mem_of_getElem? (i := 68) rfl)) (args := #[]))) (mvT hZ (hw _ (List.mem_of_getElem? (i := 69) rfl))) (by decide) (backOf (W := 0) (rm_12 l Z a0 hw [] q qa vs hd ct (11 : Int32) h0 n0 Z0 Q1 gq ga AP) hZ (hw _ (List.mem_of_getElem? (i := 69) rfl)) (hw _ (List.mem_of_getElem? (i := 3) rfl)) (by decide) (by decide)) (a := q) (by obtain ⟨c1, k1, h1, -, -, h4, -⟩ := Q1.1; exact ⟨c1, k1, by rw [e0]; exact h1, h4⟩) (g := (mkF m 3 #[.val (.ref q), .val (.ref x1)] [(.int (11 : Int32)), (.ref q)])) rfl (by rw [hml]; rfl) (argsL := [(.int (11 : Int32))]) (rest := []) (lenOf pd_12 rfl) rfl (by show 2 * 0 + _ ≤ _; exact Nat.le_of_eq rfl) (hb hby d23_3) (fun _ _ => ⟨rfl, e0, (by decide : 0 + 5 ≤ _), (by decide : 0 + 40 ≤ _)⟩)
  dsimp only [Pt.U, Pt.locs, Pt.cells, Pt.slots] at X214 l214 y214 z214 st214 hQ214
  subst l214 y214 z214
  obtain ⟨qb, us, hq, ev, wr, rfl, M214, AR, QQ, VV, KK, WW, gev, gqb, hor⟩ := hQ214
  have N214 := Fr.app N0 M214
  refine Goes.aft st214 ?_
  show Goes p e below (EndN s 5 40 (Q_18 Z q qa vs hd ct x1 h0 n0)) T214 (mkF m 6 #[.val (.ref q), .val (.ref x1)] [(.ref ev)])
  have ZA : n0 ≤ Array.size T214.heap := Nat.le_trans Z0 KK.1
  obtain ⟨EE, F0, F1, F2, F3, F4, F5, F6, F7⟩ := id VV
  refine own_aloadN (pc' := 7) X214 hx (hb hby d23_6) rfl rfl rfl ?_
  refine own_ifnonnullY X214 hx (hb hby d23_7) (by decide) (pc' := 15) (by decide) ?_
  refine own_aloadN (pc' := 16) X214 hx (hb hby d23_15) rfl rfl rfl ?_
  obtain ⟨T215, h215, X215, e215, W215, st215⟩ := putF X214 hx hZ hown (host := "") (Or.inl (hw _ (List.mem_of_getElem? (i := 106) rfl))) Via.refl rfl F4 EE (Or.inl (hw _ (List.mem_of_getElem? (i := 88) rfl))) (hw _ (List.mem_of_getElem? (i := 22) rfl)) (ty := (.object "java/lang/String")) (by decide) rfl rfl (g := (mkF m 16 #[.val (.ref q), .val (.ref x1)] [(.ref x1), (.ref ev)])) rfl rfl (hb hby d23_16)
  have N215 := Fr.snoc X215 N214 gev
  refine Goes.pre st215 ?_
  show Goes p e below (EndN s 5 40 (Q_18 Z q qa vs hd ct x1 h0 n0)) T215 (mkF m 19 #[.val (.ref q), .val (.ref x1)] [])
  have F215_ev_type := F0.other W215 (Or.inr (slot_ne (Or.inl (hw _ (List.mem_of_getElem? (i := 80) rfl))) (Or.inl (hw _ (List.mem_of_getElem? (i := 88) rfl))) (by decide) (t := .int) (t' := (.object "java/lang/String")) (by decide) (by decide)))
  have F215_ev_characters := F1.other W215 (Or.inr (slot_ne (Or.inl (hw _ (List.mem_of_getElem? (i := 82) rfl))) (Or.inl (hw _ (List.mem_of_getElem? (i := 88) rfl))) (by decide) (t := (.array .char)) (t' := (.object "java/lang/String")) (by decide) (by decide)))
  have F215_ev_start := F2.other W215 (Or.inr (slot_ne (Or.inl (hw _ (List.mem_of_getElem? (i := 84) rfl))) (Or.inl (hw _ (List.mem_of_getElem? (i := 88) rfl))) (by decide) (t := .int) (t' := (.object "java/lang/String")) (by decide) (by decide)))
  have F215_ev_length := F3.other W215 (Or.inr (slot_ne (Or.inl (hw _ (List.mem_of_getElem? (i := 86) rfl))) (Or.inl (hw _ (List.mem_of_getElem? (i := 88) rfl))) (by decide) (t := .int) (t' := (.object "java/lang/String")) (by decide) (by decide)))
  have F215_ev_text := F4.same W215
  have F215_ev_namespace := F5.other W215 (Or.inr (slot_ne (Or.inl (hw _ (List.mem_of_getElem? (i := 90) rfl))) (Or.inl (hw _ (List.mem_of_getElem? (i := 88) rfl))) (by decide) (t := (.object "java/lang/String")) (t' := (.object "java/lang/String")) (by decide) (by decide)))
  have F215_ev_localName := F6.other W215 (Or.inr (slot_ne (Or.inl (hw _ (List.mem_of_getElem? (i := 92) rfl))) (Or.inl (hw _ (List.mem_of_getElem? (i := 88) rfl))) (by decide) (t := (.object "java/lang/String")) (t' := (.object "java/lang/String")) (by decide) (by decide)))
  have F215_ev_qualifiedName := F7.other W215 (Or.inr (slot_ne (Or.inl (hw _ (List.mem_of_getElem? (i := 94) rfl))) (Or.inl (hw _ (List.mem_of_getElem? (i := 88) rfl))) (by decide) (t := (.object "java/lang/String")) (t' := (.object "java/lang/String")) (by decide) (by decide)))
  have E215_ev := EE.wr W215
  have K215 := Keep.wr (Keep.refl T214.heap [ev]) W215 (Or.inl (List.mem_of_getElem? (i := 0) rfl))
  exact own_ret0 X215 hx hlk Bd.returns (hb hby d23_19) (by decide) (by decide) (by rw [e215]; exact ⟨qb, us, hq, ev, wr, rfl, N215, AR, QQ.keep K215 (ninS (QQ.neQ VV.1) nin0) (ninS (QQ.2.2.2.2.2.neE hw VV.1) nin0), ⟨E215_ev, F215_ev_type, F215_ev_characters, F215_ev_start, F215_ev_length, F215_ev_text, F215_ev_namespace, F215_ev_localName, F215_ev_qualifiedName⟩, KK.trans K215 (allS hor all0), WW, gev, gqb, hor⟩)
theorem d20_0 : decode prog_163_method_2_code 0 = .ok (.aload_n 0, 1) := by decide +kernel
theorem d20_1 : decode prog_163_method_2_code 1 = .ok (.getfield 32, 3) := by decide +kernel
theorem d20_4 : decode prog_163_method_2_code 4 = .ok (.ifCond .ne 7, 3) := by decide +kernel
theorem d20_7 : decode prog_163_method_2_code 7 = .ok (.iconst 1, 1) := by decide +kernel
theorem d20_8 : decode prog_163_method_2_code 8 = .ok (.goto 4, 3) := by decide +kernel
theorem d20_11 : decode prog_163_method_2_code 11 = .ok (.iconst 0, 1) := by decide +kernel
theorem d20_12 : decode prog_163_method_2_code 12 = .ok (.ireturn, 1) := by decide +kernel
theorem pn_22 : plainFor (⟨"com/example/dipper/dipper/stream/ScannedEvents", "isEmpty", "()Z"⟩ : MethodName) = true := by first | (refine plainFor_of_name ?_; simp [plainName, overriddenIn]; done) | decide +kernel
theorem pd_22 : parseMethodDescriptor "()Z" = some ⟨[], some .boolean⟩ := by decide +kernel
theorem ef_22 (m : MethodId) (q : Addr) : entryFrame m #[(.ref q)] 1 = mkF m 0 #[.val (.ref q)] [] := by first | (simp [entryFrame, mkF, argsToLocals, Value.category]; done) | rfl
def Q_22 (Z : State) (q : Addr) (h0 : Heap) (n0 : Nat) (v : Option Value) (h : Heap) (L : List Loc) : Prop := v = some (.int (1 : Int32)) ∧ Fr n0 L ∧ h = h0
set_option maxRecDepth 65536 in
set_option maxHeartbeats 40000000 in
theorem rm_22 (l : Launch) (Z : State) (a0 : Array Value) (hw : ∀ d ∈ tables_1, d.before a0 Z = true) (ws : List Jvm.Cond) (q : Addr) (h0 : Heap) (n0 : Nat) (Z0 : n0 ≤ h0.size) (G3 : Fld Z h0 q "com/example/dipper/dipper/stream/ScannedEvents" "count" "I" (.int (0 : Int32))) :
    MetFree l (⟨"com/example/dipper/dipper/stream/ScannedEvents", "isEmpty", "()Z"⟩ : MethodName) (head1 (Jvm.Cond.code (⟨"com/example/dipper/dipper/stream/ScannedEvents", "isEmpty", "()Z"⟩ : MethodName) prog_163_method_2_code 1 (some .boolean) :: ws) ({ frames := 0, cells := 0, slots := 0, locals := 0 } : Room)) (fun a U => a = #[(.ref q)] ∧ Z.Warmed39 U.vm ∧ U.heap = h0) (fun _ _ _ _ _ => True) (fun _ U o U' => ∃ v L, o = .returned v ∧ (Q_22 Z q h0 n0) v U'.heap L ∧ FrameEnd U o U' L ({ frames := 0, cells := 0, slots := 0, locals := 0 } : Room).cells ({ frames := 0, cells := 0, slots := 0, locals := 0 } : Room).slots) := by
  refine MetFree.of_bodySF pn_22 hisR ?_
  intro p e s m args below meth c s₁ Bd hml0 hP hK
  obtain ⟨rfl, hZ, hh⟩ := hP
  have hx := Bd.exec
  have hby := Bd.bytes
  have hlk : meth.locks = false := BodyLoose.notSynchronized Bd
  have hml : c.maxLocals = 1 := hml0
  have hown : s.vm.findClass "com/example/dipper/dipper/stream/ScannedEvents" = some m.cls := findClass_of_methodNamed Bd.named
  have hnm := (name_of_methodNamed Bd.named Bd.method).1
  have X0 : Stand p l e ({ frames := 0, cells := 0, slots := 0, locals := 0 } : Room) s m #[(.ref q)] below meth c s₁ [] 0 0 := Stand.of_body Bd
  have e0 : s₁.heap = h0 := by rw [← hh, Bd.state]; rfl
  have N0 := Fr.nil n0
  refine own_enter (Q := (Q_22 Z q h0 n0)) (cs := 0) (ss := 0) (ef_22 m q) ?_
  show Goes p e below (EndN s 0 0 (Q_22 Z q h0 n0)) s₁ (mkF m 0 #[.val (.ref q)] [])
  refine own_aloadN (pc' := 1) X0 hx (hb hby d20_0) rfl rfl rfl ?_
  obtain ⟨T216, X216, e216, st216⟩ := getF X0 hx hZ hown (host := "") (Or.inl (hw _ (List.mem_of_getElem? (i := 70) rfl))) Via.refl e0 G3 (g := (mkF m 1 #[.val (.ref q)] [(.ref q)])) rfl rfl (hb hby d20_1)
  refine Goes.pre st216 ?_
  show Goes p e below (EndN s 0 0 (Q_22 Z q h0 n0)) T216 (mkF m 4 #[.val (.ref q)] [(.int (0 : Int32))])
  refine own_ifN (pc' := 7) X216 hx (hb hby d20_4) (by decide) rfl ?_
  refine own_iconst (pc' := 8) X216 hx (hb hby d20_7) (v := (1 : Int32)) rfl rfl ?_
  refine own_goto X216 hx (hb hby d20_8) (by decide) (pc' := 12) (by decide) ?_
  exact own_retN X216 hx hlk (t := .boolean) Bd.returns (by simp) (hb hby d20_12) (by decide) (by decide) ⟨rfl, N0, e216⟩
theorem d14_0 : decode prog_163_method_4_code 0 = .ok (.aload_n 0, 1) := by decide +kernel
theorem d14_1 : decode prog_163_method_4_code 1 = .ok (.getfield 9, 3) := by decide +kernel
theorem d14_4 : decode prog_163_method_4_code 4 = .ok (.aload_n 0, 1) := by decide +kernel
theorem d14_5 : decode prog_163_method_4_code 5 = .ok (.getfield 36, 3) := by decide +kernel
theorem d14_8 : decode prog_163_method_4_code 8 = .ok (.aaload, 1) := by decide +kernel
theorem d14_9 : decode prog_163_method_4_code 9 = .ok (.astore_n 2, 1) := by decide +kernel
theorem d14_10 : decode prog_163_method_4_code 10 = .ok (.aload_n 0, 1) := by decide +kernel
theorem d14_11 : decode prog_163_method_4_code 11 = .ok (.getfield 9, 3) := by decide +kernel
theorem d14_14 : decode prog_163_method_4_code 14 = .ok (.aload_n 0, 1) := by decide +kernel
theorem d14_15 : decode prog_163_method_4_code 15 = .ok (.getfield 36, 3) := by decide +kernel
theorem d14_18 : decode prog_163_method_4_code 18 = .ok (.aload_n 1, 1) := by decide +kernel
theorem d14_19 : decode prog_163_method_4_code 19 = .ok (.aastore, 1) := by decide +kernel
theorem d14_20 : decode prog_163_method_4_code 20 = .ok (.aload_n 0, 1) := by decide +kernel
theorem d14_21 : decode prog_163_method_4_code 21 = .ok (.aload_n 0, 1) := by decide +kernel
theorem d14_22 : decode prog_163_method_4_code 22 = .ok (.getfield 36, 3) := by decide +kernel
theorem d14_25 : decode prog_163_method_4_code 25 = .ok (.iconst 1, 1) := by decide +kernel
theorem d14_26 : decode prog_163_method_4_code 26 = .ok (.iadd, 1) := by decide +kernel
theorem d14_27 : decode prog_163_method_4_code 27 = .ok (.aload_n 0, 1) := by decide +kernel
theorem d14_28 : decode prog_163_method_4_code 28 = .ok (.getfield 9, 3) := by decide +kernel
theorem d14_31 : decode prog_163_method_4_code 31 = .ok (.arraylength, 1) := by decide +kernel
theorem d14_32 : decode prog_163_method_4_code 32 = .ok (.irem, 1) := by decide +kernel
theorem d14_33 : decode prog_163_method_4_code 33 = .ok (.putfield 36, 3) := by decide +kernel
theorem d14_36 : decode prog_163_method_4_code 36 = .ok (.aload_n 0, 1) := by decide +kernel
theorem d14_37 : decode prog_163_method_4_code 37 = .ok (.dup, 1) := by decide +kernel
theorem d14_38 : decode prog_163_method_4_code 38 = .ok (.getfield 32, 3) := by decide +kernel
theorem d14_41 : decode prog_163_method_4_code 41 = .ok (.iconst 1, 1) := by decide +kernel
theorem d14_42 : decode prog_163_method_4_code 42 = .ok (.isub, 1) := by decide +kernel
theorem d14_43 : decode prog_163_method_4_code 43 = .ok (.putfield 32, 3) := by decide +kernel
theorem d14_46 : decode prog_163_method_4_code 46 = .ok (.aload_n 2, 1) := by decide +kernel
theorem d14_47 : decode prog_163_method_4_code 47 = .ok (.areturn, 1) := by decide +kernel
theorem pn_21 : plainFor (⟨"com/example/dipper/dipper/stream/ScannedEvents", "take", "(Lcom/example/dipper/dipper/stream/ScannedEvent;)Lcom/example/dipper/dipper/stream/ScannedEvent;"⟩ : MethodName) = true := by first | (refine plainFor_of_name ?_; simp [plainName, overriddenIn]; done) | decide +kernel
theorem pd_21 : parseMethodDescriptor "(Lcom/example/dipper/dipper/stream/ScannedEvent;)Lcom/example/dipper/dipper/stream/ScannedEvent;" = some ⟨[(.object "com/example/dipper/dipper/stream/ScannedEvent")], some (.object "com/example/dipper/dipper/stream/ScannedEvent")⟩ := by decide +kernel
theorem ef_21 (m : MethodId) (q : Addr) (qa : Addr) (vs : List Value) (hd : Int32) (ct : Int32) (u1 : Addr) (t1 : Addr) (k : Nat) (n1 : Int32) : entryFrame m #[(.ref q), (.ref u1)] 3 = mkF m 0 #[.val (.ref q), .val (.ref u1), .unset] [] := by first | (simp [entryFrame, mkF, argsToLocals, Value.category]; done) | rfl
def Q_21 (Z : State) (q : Addr) (qa : Addr) (vs : List Value) (hd : Int32) (ct : Int32) (u1 : Addr) (t1 : Addr) (k : Nat) (n1 : Int32) (h0 : Heap) (n0 : Nat) (v : Option Value) (h : Heap) (L : List Loc) : Prop := v = some (.ref t1) ∧ Fr n0 L ∧ Keep h0 h [q, qa] ∧ own_Q Z h q qa (vs.set k (.ref u1)) ((hd + (1 : Int32)) % n1) (ct - (1 : Int32))
set_option maxRecDepth 65536 in
set_option maxHeartbeats 40000000 in
theorem rm_21 (l : Launch) (Z : State) (a0 : Array Value) (hw : ∀ d ∈ tables_1, d.before a0 Z = true) (ws : List Jvm.Cond) (q : Addr) (qa : Addr) (vs : List Value) (hd : Int32) (ct : Int32) (u1 : Addr) (t1 : Addr) (k : Nat) (n1 : Int32) (h0 : Heap) (n0 : Nat) (Z0 : n0 ≤ h0.size) (Q1 : own_Q Z h0 q qa vs hd ct) (gq : n0 ≤ q) (ga : n0 ≤ qa) (EU : Exa Z h0 u1 "com/example/dipper/dipper/stream/ScannedEvent") (hj : ¬ hd < 0) (hk : hd.toNatClampNeg = k) (hv : vs[k]? = some (.ref t1)) (hn : vs.length.toInt32 = n1) (hn0 : ¬ n1 = (0 : Int32)) :
    MetFree l (⟨"com/example/dipper/dipper/stream/ScannedEvents", "take", "(Lcom/example/dipper/dipper/stream/ScannedEvent;)Lcom/example/dipper/dipper/stream/ScannedEvent;"⟩ : MethodName) (head1 (Jvm.Cond.code (⟨"com/example/dipper/dipper/stream/ScannedEvents", "take", "(Lcom/example/dipper/dipper/stream/ScannedEvent;)Lcom/example/dipper/dipper/stream/ScannedEvent;"⟩ : MethodName) prog_163_method_4_code 3 (some (.object "com/example/dipper/dipper/stream/ScannedEvent")) :: ws) ({ frames := 0, cells := 0, slots := 0, locals := 0 } : Room)) (fun a U => a = #[(.ref q), (.ref u1)] ∧ Z.Warmed39 U.vm ∧ U.heap = h0) (fun _ _ _ _ _ => True) (fun _ U o U' => ∃ v L, o = .returned v ∧ (Q_21 Z q qa vs hd ct u1 t1 k n1 h0 n0) v U'.heap L ∧ FrameEnd U o U' L ({ frames := 0, cells := 0, slots := 0, locals := 0 } : Room).cells ({ frames := 0, cells := 0, slots := 0, locals := 0 } : Room).slots) := by
  refine MetFree.of_bodySF pn_21 hisR ?_
  intro p e s m args below meth c s₁ Bd hml0 hP hK
  obtain ⟨rfl, hZ, hh⟩ := hP
  have hx := Bd.exec
  have hby := Bd.bytes
  have hlk : meth.locks = false := BodyLoose.notSynchronized Bd
  have hml : c.maxLocals = 3 := hml0
  have hown : s.vm.findClass "com/example/dipper/dipper/stream/ScannedEvents" = some m.cls := findClass_of_methodNamed Bd.named
  have hnm := (name_of_methodNamed Bd.named Bd.method).1
  have X0 : Stand p l e ({ frames := 0, cells := 0, slots := 0, locals := 0 } : Room) s m #[(.ref q), (.ref u1)] below meth c s₁ [] 0 0 := Stand.of_body Bd
  have e0 : s₁.heap = h0 := by rw [← hh, Bd.state]; rfl
  have N0 := Fr.nil n0
  refine own_enter (Q := (Q_21 Z q qa vs hd ct u1 t1 k n1 h0 n0)) (cs := 0) (ss := 0) (ef_21 m q qa vs hd ct u1 t1 k n1) ?_
  show Goes p e below (EndN s 0 0 (Q_21 Z q qa vs hd ct u1 t1 k n1 h0 n0)) s₁ (mkF m 0 #[.val (.ref q), .val (.ref u1), .unset] [])
  obtain ⟨EQ, G1, G2, G3, G4, RA⟩ := Q1
  have neAQ := RA.neQ hw EQ
  refine own_aloadN (pc' := 1) X0 hx (hb hby d14_0) rfl rfl rfl ?_
  obtain ⟨T217, X217, e217, st217⟩ := getF X0 hx hZ hown (host := "") (Or.inl (hw _ (List.mem_of_getElem? (i := 12) rfl))) Via.refl e0 G1 (g := (mkF m 1 #[.val (.ref q), .val (.ref u1), .unset] [(.ref q)])) rfl rfl (hb hby d14_1)
  refine Goes.pre st217 ?_
  show Goes p e below (EndN s 0 0 (Q_21 Z q qa vs hd ct u1 t1 k n1 h0 n0)) T217 (mkF m 4 #[.val (.ref q), .val (.ref u1), .unset] [(.ref qa)])
  refine own_aloadN (pc' := 5) X217 hx (hb hby d14_4) rfl rfl rfl ?_
  obtain ⟨T218, X218, e218, st218⟩ := getF X217 hx hZ hown (host := "") (Or.inl (hw _ (List.mem_of_getElem? (i := 72) rfl))) Via.refl e217 G2 (g := (mkF m 5 #[.val (.ref q), .val (.ref u1), .unset] [(.ref q), (.ref qa)])) rfl rfl (hb hby d14_5)
  refine Goes.pre st218 ?_
  show Goes p e below (EndN s 0 0 (Q_21 Z q qa vs hd ct u1 t1 k n1 h0 n0)) T218 (mkF m 8 #[.val (.ref q), .val (.ref u1), .unset] [(.int hd), (.ref qa)])
  refine own_aaload (pc' := 9) X218 hx hZ e218 RA (hb hby d14_8) (v := .ref t1) hj hk hv rfl ?_
  refine own_astoreN (pc' := 10) X218 hx (hb hby d14_9) rfl (Ls' := #[.val (.ref q), .val (.ref u1), .val (.ref t1)]) rfl rfl ?_
  refine own_aloadN (pc' := 11) X218 hx (hb hby d14_10) rfl rfl rfl ?_
  obtain ⟨T219, X219, e219, st219⟩ := getF X218 hx hZ hown (host := "") (Or.inl (hw _ (List.mem_of_getElem? (i := 12) rfl))) Via.refl e218 G1 (g := (mkF m 11 #[.val (.ref q), .val (.ref u1), .val (.ref t1)] [(.ref q)])) rfl rfl (hb hby d14_11)
  refine Goes.pre st219 ?_
  show Goes p e below (EndN s 0 0 (Q_21 Z q qa vs hd ct u1 t1 k n1 h0 n0)) T219 (mkF m 14 #[.val (.ref q), .val (.ref u1), .val (.ref t1)] [(.ref qa)])
  refine own_aloadN (pc' := 15) X219 hx (hb hby d14_14) rfl rfl rfl ?_
  obtain ⟨T220, X220, e220, st220⟩ := getF X219 hx hZ hown (host := "") (Or.inl (hw _ (List.mem_of_getElem? (i := 72) rfl))) Via.refl e219 G2 (g := (mkF m 15 #[.val (.ref q), .val (.ref u1), .val (.ref t1)] [(.ref q), (.ref qa)])) rfl rfl (hb hby d14_15)
  refine Goes.pre st220 ?_
  show Goes p e below (EndN s 0 0 (Q_21 Z q qa vs hd ct u1 t1 k n1 h0 n0)) T220 (mkF m 18 #[.val (.ref q), .val (.ref u1), .val (.ref t1)] [(.int hd), (.ref qa)])
  refine own_aloadN (pc' := 19) X220 hx (hb hby d14_18) rfl rfl rfl ?_
  refine own_aastore (pc' := 20) X220 hx hZ e220 RA (hb hby d14_19) EU hj hk (List.getElem?_eq_some_iff.mp hv).1 rfl ?_
  intro T221 h221 X221 e221 W221 R221
  have N221 := Fr.snoc X221 N0 ga
  have F221_queue := G1.other W221 (Or.inl (Ne.symm neAQ))
  have F221_head := G2.other W221 (Or.inl (Ne.symm neAQ))
  have F221_count := G3.other W221 (Or.inl (Ne.symm neAQ))
  have F221_unreported := G4.other W221 (Or.inl (Ne.symm neAQ))
  have E221_q := EQ.wr W221
  have K221 := Keep.wr (Keep.refl h0 [q, qa]) W221 (Or.inl (List.mem_of_getElem? (i := 1) rfl))
  show Goes p e below (EndN s 0 0 (Q_21 Z q qa vs hd ct u1 t1 k n1 h0 n0)) T221 (mkF m 20 #[.val (.ref q), .val (.ref u1), .val (.ref t1)] [])
  refine own_aloadN (pc' := 21) X221 hx (hb hby d14_20) rfl rfl rfl ?_
  refine own_aloadN (pc' := 22) X221 hx (hb hby d14_21) rfl rfl rfl ?_
  obtain ⟨T222, X222, e222, st222⟩ := getF X221 hx hZ hown (host := "") (Or.inl (hw _ (List.mem_of_getElem? (i := 72) rfl))) Via.refl e221 F221_head (g := (mkF m 22 #[.val (.ref q), .val (.ref u1), .val (.ref t1)] [(.ref q), (.ref q)])) rfl rfl (hb hby d14_22)
  refine Goes.pre st222 ?_
  show Goes p e below (EndN s 0 0 (Q_21 Z q qa vs hd ct u1 t1 k n1 h0 n0)) T222 (mkF m 25 #[.val (.ref q), .val (.ref u1), .val (.ref t1)] [(.int hd), (.ref q)])
  refine own_iconst (pc' := 26) X222 hx (hb hby d14_25) (v := (1 : Int32)) rfl rfl ?_
  refine own_iadd (pc' := 27) X222 hx (hb hby d14_26) rfl ?_
  refine own_aloadN (pc' := 28) X222 hx (hb hby d14_27) rfl rfl rfl ?_
  obtain ⟨T223, X223, e223, st223⟩ := getF X222 hx hZ hown (host := "") (Or.inl (hw _ (List.mem_of_getElem? (i := 12) rfl))) Via.refl e222 F221_queue (g := (mkF m 28 #[.val (.ref q), .val (.ref u1), .val (.ref t1)] [(.ref q), (.int (hd + (1 : Int32))), (.ref q)])) rfl rfl (hb hby d14_28)
  refine Goes.pre st223 ?_
  show Goes p e below (EndN s 0 0 (Q_21 Z q qa vs hd ct u1 t1 k n1 h0 n0)) T223 (mkF m 31 #[.val (.ref q), .val (.ref u1), .val (.ref t1)] [(.ref qa), (.int (hd + (1 : Int32))), (.ref q)])
  refine own_alenR (pc' := 32) X223 hx hZ e223 R221 (hb hby d14_31) (n := n1) (by rw [List.length_set]; exact hn) rfl ?_
  refine own_irem (pc' := 33) X223 hx (hb hby d14_32) hn0 rfl ?_
  obtain ⟨T224, h224, X224, e224, W224, st224⟩ := putF X223 hx hZ hown (host := "") (Or.inl (hw _ (List.mem_of_getElem? (i := 72) rfl))) Via.refl e223 F221_head E221_q (Or.inl (hw _ (List.mem_of_getElem? (i := 73) rfl))) (hw _ (List.mem_of_getElem? (i := 2) rfl)) (ty := .int) (by decide) rfl rfl (g := (mkF m 33 #[.val (.ref q), .val (.ref u1), .val (.ref t1)] [(.int ((hd + (1 : Int32)) % n1)), (.ref q)])) rfl rfl (hb hby d14_33)
  have N224 := Fr.snoc X224 N221 gq
  refine Goes.pre st224 ?_
  show Goes p e below (EndN s 0 0 (Q_21 Z q qa vs hd ct u1 t1 k n1 h0 n0)) T224 (mkF m 36 #[.val (.ref q), .val (.ref u1), .val (.ref t1)] [])
  have F224_q_queue := F221_queue.other W224 (Or.inr (slot_ne (Or.inl (hw _ (List.mem_of_getElem? (i := 13) rfl))) (Or.inl (hw _ (List.mem_of_getElem? (i := 73) rfl))) (by decide) (t := (.array (.object "com/example/dipper/dipper/stream/ScannedEvent"))) (t' := .int) (by decide) (by decide)))
  have F224_q_head := F221_head.same W224
  have F224_q_count := F221_count.other W224 (Or.inr (slot_ne (Or.inl (hw _ (List.mem_of_getElem? (i := 71) rfl))) (Or.inl (hw _ (List.mem_of_getElem? (i := 73) rfl))) (by decide) (t := .int) (t' := .int) (by decide) (by decide)))
  have F224_q_unreported := F221_unreported.other W224 (Or.inr (slot_ne (Or.inl (hw _ (List.mem_of_getElem? (i := 65) rfl))) (Or.inl (hw _ (List.mem_of_getElem? (i := 73) rfl))) (by decide) (t := .int) (t' := .int) (by decide) (by decide)))
  have E224_q := E221_q.wr W224
  have K224 := Keep.wr K221 W224 (Or.inl (List.mem_of_getElem? (i := 0) rfl))
  have R224_qa := R221.other W224 neAQ
  refine own_aloadN (pc' := 37) X224 hx (hb hby d14_36) rfl rfl rfl ?_
  refine own_dup (pc' := 38) X224 hx (hb hby d14_37) rfl rfl ?_
  obtain ⟨T225, X225, e225, st225⟩ := getF X224 hx hZ hown (host := "") (Or.inl (hw _ (List.mem_of_getElem? (i := 70) rfl))) Via.refl e224 F224_q_count (g := (mkF m 38 #[.val (.ref q), .val (.ref u1), .val (.ref t1)] [(.ref q), (.ref q)])) rfl rfl (hb hby d14_38)
  refine Goes.pre st225 ?_
  show Goes p e below (EndN s 0 0 (Q_21 Z q qa vs hd ct u1 t1 k n1 h0 n0)) T225 (mkF m 41 #[.val (.ref q), .val (.ref u1), .val (.ref t1)] [(.int ct), (.ref q)])
  refine own_iconst (pc' := 42) X225 hx (hb hby d14_41) (v := (1 : Int32)) rfl rfl ?_
  refine own_isub (pc' := 43) X225 hx (hb hby d14_42) rfl ?_
  obtain ⟨T226, h226, X226, e226, W226, st226⟩ := putF X225 hx hZ hown (host := "") (Or.inl (hw _ (List.mem_of_getElem? (i := 70) rfl))) Via.refl e225 F224_q_count E224_q (Or.inl (hw _ (List.mem_of_getElem? (i := 71) rfl))) (hw _ (List.mem_of_getElem? (i := 2) rfl)) (ty := .int) (by decide) rfl rfl (g := (mkF m 43 #[.val (.ref q), .val (.ref u1), .val (.ref t1)] [(.int (ct - (1 : Int32))), (.ref q)])) rfl rfl (hb hby d14_43)
  have N226 := Fr.snoc X226 N224 gq
  refine Goes.pre st226 ?_
  show Goes p e below (EndN s 0 0 (Q_21 Z q qa vs hd ct u1 t1 k n1 h0 n0)) T226 (mkF m 46 #[.val (.ref q), .val (.ref u1), .val (.ref t1)] [])
  have F226_q_queue := F224_q_queue.other W226 (Or.inr (slot_ne (Or.inl (hw _ (List.mem_of_getElem? (i := 13) rfl))) (Or.inl (hw _ (List.mem_of_getElem? (i := 71) rfl))) (by decide) (t := (.array (.object "com/example/dipper/dipper/stream/ScannedEvent"))) (t' := .int) (by decide) (by decide)))
  have F226_q_head := F224_q_head.other W226 (Or.inr (slot_ne (Or.inl (hw _ (List.mem_of_getElem? (i := 73) rfl))) (Or.inl (hw _ (List.mem_of_getElem? (i := 71) rfl))) (by decide) (t := .int) (t' := .int) (by decide) (by decide)))
  have F226_q_count := F224_q_count.same W226
  have F226_q_unreported := F224_q_unreported.other W226 (Or.inr (slot_ne (Or.inl (hw _ (List.mem_of_getElem? (i := 65) rfl))) (Or.inl (hw _ (List.mem_of_getElem? (i := 71) rfl))) (by decide) (t := .int) (t' := .int) (by decide) (by decide)))
  have E226_q := E224_q.wr W226
  have K226 := Keep.wr K224 W226 (Or.inl (List.mem_of_getElem? (i := 0) rfl))
  have R226_qa := R224_qa.other W226 neAQ
  refine own_aloadN (pc' := 47) X226 hx (hb hby d14_46) rfl rfl rfl ?_
  exact own_retA X226 hx hlk Bd.returns rfl rfl rfl (hb hby d14_47) (by decide) (by decide) (by rw [e226]; exact ⟨rfl, N226, K226, E226_q, F226_q_queue, F226_q_head, F226_q_count, F226_q_unreported, R226_qa⟩)
theorem d1_0 : decode prog_163_method_1_code 0 = .ok (.aload_n 0, 1) := by decide +kernel
theorem d1_1 : decode prog_163_method_1_code 1 = .ok (.invokespecial 1, 3) := by decide +kernel
theorem d1_4 : decode prog_163_method_1_code 4 = .ok (.aload_n 0, 1) := by decide +kernel
theorem d1_5 : decode prog_163_method_1_code 5 = .ok (.iconst 4, 1) := by decide +kernel
theorem d1_6 : decode prog_163_method_1_code 6 = .ok (.anewarray 7, 3) := by decide +kernel
theorem d1_9 : decode prog_163_method_1_code 9 = .ok (.putfield 9, 3) := by decide +kernel
theorem d1_12 : decode prog_163_method_1_code 12 = .ok (.aload_n 0, 1) := by decide +kernel
theorem d1_13 : decode prog_163_method_1_code 13 = .ok (.iload_n 1, 1) := by decide +kernel
theorem d1_14 : decode prog_163_method_1_code 14 = .ok (.putfield 15, 3) := by decide +kernel
theorem d1_17 : decode prog_163_method_1_code 17 = .ok (.aload_n 0, 1) := by decide +kernel
theorem d1_18 : decode prog_163_method_1_code 18 = .ok (.aload_n 2, 1) := by decide +kernel
theorem d1_19 : decode prog_163_method_1_code 19 = .ok (.putfield 19, 3) := by decide +kernel
theorem d1_22 : decode prog_163_method_1_code 22 = .ok (.aload_n 0, 1) := by decide +kernel
theorem d1_23 : decode prog_163_method_1_code 23 = .ok (.aload_n 3, 1) := by decide +kernel
theorem d1_24 : decode prog_163_method_1_code 24 = .ok (.putfield 23, 3) := by decide +kernel
theorem d1_27 : decode prog_163_method_1_code 27 = .ok (.aload_n 0, 1) := by decide +kernel
theorem d1_28 : decode prog_163_method_1_code 28 = .ok (.aload 4, 2) := by decide +kernel
theorem d1_30 : decode prog_163_method_1_code 30 = .ok (.putfield 27, 3) := by decide +kernel
theorem d1_33 : decode prog_163_method_1_code 33 = .ok (.iconst 0, 1) := by decide +kernel
theorem d1_34 : decode prog_163_method_1_code 34 = .ok (.istore 5, 2) := by decide +kernel
theorem d1_36 : decode prog_163_method_1_code 36 = .ok (.iload 5, 2) := by decide +kernel
theorem d1_38 : decode prog_163_method_1_code 38 = .ok (.aload_n 0, 1) := by decide +kernel
theorem d1_39 : decode prog_163_method_1_code 39 = .ok (.getfield 9, 3) := by decide +kernel
theorem d1_42 : decode prog_163_method_1_code 42 = .ok (.arraylength, 1) := by decide +kernel
theorem d1_43 : decode prog_163_method_1_code 43 = .ok (.if_icmp .ge 23, 3) := by decide +kernel
theorem d1_46 : decode prog_163_method_1_code 46 = .ok (.aload_n 0, 1) := by decide +kernel
theorem d1_47 : decode prog_163_method_1_code 47 = .ok (.getfield 9, 3) := by decide +kernel
theorem d1_50 : decode prog_163_method_1_code 50 = .ok (.iload 5, 2) := by decide +kernel
theorem d1_52 : decode prog_163_method_1_code 52 = .ok (.new 7, 3) := by decide +kernel
theorem d1_55 : decode prog_163_method_1_code 55 = .ok (.dup, 1) := by decide +kernel
theorem d1_56 : decode prog_163_method_1_code 56 = .ok (.invokespecial 31, 3) := by decide +kernel
theorem d1_59 : decode prog_163_method_1_code 59 = .ok (.aastore, 1) := by decide +kernel
theorem d1_60 : decode prog_163_method_1_code 60 = .ok (.iinc 5 1, 3) := by decide +kernel
theorem d1_63 : decode prog_163_method_1_code 63 = .ok (.goto (-27), 3) := by decide +kernel
theorem d1_66 : decode prog_163_method_1_code 66 = .ok (.return_, 1) := by decide +kernel
theorem pn_23 : plainFor (⟨"com/example/dipper/dipper/stream/ScannedEvents", "<init>", "(ZLcom/example/dipper/dipper/stream/SaxAttributes;Lcom/example/dipper/dipper/stream/OpenDeclarations;Ljava/util/Map;)V"⟩ : MethodName) = true := by first | (refine plainFor_of_name ?_; simp [plainName, overriddenIn]; done) | decide +kernel
theorem pd_23 : parseMethodDescriptor "(ZLcom/example/dipper/dipper/stream/SaxAttributes;Lcom/example/dipper/dipper/stream/OpenDeclarations;Ljava/util/Map;)V" = some ⟨[.boolean, (.object "com/example/dipper/dipper/stream/SaxAttributes"), (.object "com/example/dipper/dipper/stream/OpenDeclarations"), (.object "java/util/Map")], none⟩ := by decide +kernel
theorem ef_23 (m : MethodId) (q : Addr) : entryFrame m #[(.ref q), (.int (1 : Int32)), (.null), (.null), (.null)] 6 = mkF m 0 #[.val (.ref q), .val (.int (1 : Int32)), .val (.null), .val (.null), .val (.null), .unset] [] := by first | (simp [entryFrame, mkF, argsToLocals, Value.category]; done) | rfl
def Q_23 (Z : State) (q : Addr) (h0 : Heap) (n0 : Nat) (v : Option Value) (h : Heap) (L : List Loc) : Prop := v = none ∧ Fr n0 L ∧ Keep h0 h [q] ∧ ∃ qa e0 e1 e2 e3 : Addr, own_Q Z h q qa [.ref e0, .ref e1, .ref e2, .ref e3] (0 : Int32) (0 : Int32) ∧ own_Ev Z h e0 (0 : Int32) .null (0 : Int32) (0 : Int32) .null .null .null .null ∧ own_Ev Z h e1 (0 : Int32) .null (0 : Int32) (0 : Int32) .null .null .null .null ∧ own_Ev Z h e2 (0 : Int32) .null (0 : Int32) (0 : Int32) .null .null .null .null ∧ own_Ev Z h e3 (0 : Int32) .null (0 : Int32) (0 : Int32) .null .null .null .null ∧ e0 ≠ e1 ∧ e0 ≠ e2 ∧ e0 ≠ e3 ∧ e1 ≠ e2 ∧ e1 ≠ e3 ∧ e2 ≠ e3 ∧ Array.size h0 ≤ qa ∧ Array.size h0 ≤ e0 ∧ Array.size h0 ≤ e1 ∧ Array.size h0 ≤ e2 ∧ Array.size h0 ≤ e3
set_option maxRecDepth 65536 in
set_option maxHeartbeats 40000000 in
theorem rm_23 (l : Launch) (Z : State) (a0 : Array Value) (hw : ∀ d ∈ tables_1, d.before a0 Z = true) (ws : List Jvm.Cond) (q : Addr) (h0 : Heap) (n0 : Nat) (Z0 : n0 ≤ h0.size) (EQ : Exa Z h0 q "com/example/dipper/dipper/stream/ScannedEvents") (D : ∀ {O nm d : String} {ty : FieldType}, Laid Z a0 "com/example/dipper/dipper/stream/ScannedEvents" O nm d → parseFieldDescriptor d = some ty → Fld Z h0 q O nm d (defaultValue ty)) (gq : n0 ≤ q) :
    MetFree l (⟨"com/example/dipper/dipper/stream/ScannedEvents", "<init>", "(ZLcom/example/dipper/dipper/stream/SaxAttributes;Lcom/example/dipper/dipper/stream/OpenDeclarations;Ljava/util/Map;)V"⟩ : MethodName) (head1 (Jvm.Cond.code (⟨"com/example/dipper/dipper/stream/ScannedEvents", "<init>", "(ZLcom/example/dipper/dipper/stream/SaxAttributes;Lcom/example/dipper/dipper/stream/OpenDeclarations;Ljava/util/Map;)V"⟩ : MethodName) prog_163_method_1_code 6 none :: ws) ({ frames := 2, cells := 5, slots := 36, locals := 30 } : Room)) (fun a U => a = #[(.ref q), (.int (1 : Int32)), (.null), (.null), (.null)] ∧ Z.Warmed39 U.vm ∧ U.heap = h0) (fun _ _ _ _ _ => True) (fun _ U o U' => ∃ v L, o = .returned v ∧ (Q_23 Z q h0 n0) v U'.heap L ∧ FrameEnd U o U' L ({ frames := 2, cells := 5, slots := 36, locals := 30 } : Room).cells ({ frames := 2, cells := 5, slots := 36, locals := 30 } : Room).slots) := by
  refine MetFree.of_bodySF pn_23 hisR ?_
  intro p e s m args below meth c s₁ Bd hml0 hP hK
  obtain ⟨rfl, hZ, hh⟩ := hP
  have hx := Bd.exec
  have hby := Bd.bytes
  have hlk : meth.locks = false := BodyLoose.notSynchronized Bd
  have hml : c.maxLocals = 6 := hml0
  have hown : s.vm.findClass "com/example/dipper/dipper/stream/ScannedEvents" = some m.cls := findClass_of_methodNamed Bd.named
  have hnm := (name_of_methodNamed Bd.named Bd.method).1
  have X0 : Stand p l e ({ frames := 2, cells := 5, slots := 36, locals := 30 } : Room) s m #[(.ref q), (.int (1 : Int32)), (.null), (.null), (.null)] below meth c s₁ [] 0 0 := Stand.of_body Bd
  have e0 : s₁.heap = h0 := by rw [← hh, Bd.state]; rfl
  have N0 := Fr.nil n0
  refine own_enter (Q := (Q_23 Z q h0 n0)) (cs := 5) (ss := 36) (ef_23 m q) ?_
  show Goes p e below (EndN s 5 36 (Q_23 Z q h0 n0)) s₁ (mkF m 0 #[.val (.ref q), .val (.int (1 : Int32)), .val (.null), .val (.null), .val (.null), .unset] [])
  have H0 := D (Or.inl (hw _ (List.mem_of_getElem? (i := 13) rfl))) (ty := (.array (.object "com/example/dipper/dipper/stream/ScannedEvent"))) (by decide)
  have H1 := D (Or.inr (hw _ (List.mem_of_getElem? (i := 15) rfl))) (ty := .boolean) (by decide)
  have H2 := D (Or.inr (hw _ (List.mem_of_getElem? (i := 17) rfl))) (ty := (.object "com/example/dipper/dipper/stream/SaxAttributes")) (by decide)
  have H3 := D (Or.inr (hw _ (List.mem_of_getElem? (i := 19) rfl))) (ty := (.object "com/example/dipper/dipper/stream/OpenDeclarations")) (by decide)
  have H4 := D (Or.inr (hw _ (List.mem_of_getElem? (i := 21) rfl))) (ty := (.object "java/util/Map")) (by decide)
  have H5 := D (Or.inl (hw _ (List.mem_of_getElem? (i := 73) rfl))) (ty := .int) (by decide)
  have H6 := D (Or.inl (hw _ (List.mem_of_getElem? (i := 71) rfl))) (ty := .int) (by decide)
  have H7 := D (Or.inl (hw _ (List.mem_of_getElem? (i := 65) rfl))) (ty := .int) (by decide)
  refine own_aloadN (pc' := 1) X0 hx (hb hby d1_0) rfl rfl rfl ?_
  obtain ⟨T227, X227, e227, st227⟩ := initO X0 hx hZ hown (hw _ (List.mem_of_getElem? (i := 7) rfl)) (hw _ (List.mem_of_getElem? (i := 8) rfl)) (hw _ (List.mem_of_getElem? (i := 9) rfl)) e0 (g := (mkF m 1 #[.val (.ref q), .val (.int (1 : Int32)), .val (.null), .val (.null), .val (.null), .unset] [(.ref q)])) rfl (by rw [hml]; rfl) rfl (hb hby d1_1) (by decide) (W := 0) (by show 2 * 0 + _ ≤ _; exact Nat.le_of_eq rfl) (by decide)
  refine Goes.pre st227 ?_
  show Goes p e below (EndN s 5 36 (Q_23 Z q h0 n0)) T227 (mkF m 4 #[.val (.ref q), .val (.int (1 : Int32)), .val (.null), .val (.null), .val (.null), .unset] [])
  refine own_aloadN (pc' := 5) X227 hx (hb hby d1_4) rfl rfl rfl ?_
  refine own_iconst (pc' := 6) X227 hx (hb hby d1_5) (v := (4 : Int32)) rfl rfl ?_
  refine own_anewarray (pc' := 9) X227 hx hZ hown (hw _ (List.mem_of_getElem? (i := 10) rfl)) (hw _ (List.mem_of_getElem? (i := 11) rfl)) e227 (hb hby d1_6) (k := 4) (by decide) (by decide) (by decide) (by decide) (by decide) rfl ?_
  intro T228 h228 a228 g228 X228 e228 Ex228 R228
  show Goes p e below (EndN s 5 36 (Q_23 Z q h0 n0)) T228 (mkF m 9 #[.val (.ref q), .val (.int (1 : Int32)), .val (.null), .val (.null), .val (.null), .unset] [(.ref a228), (.ref q)])
  have gn228 : n0 ≤ a228 := by rw [g228]; exact Z0
  have go228 : Array.size h0 ≤ a228 := by rw [g228]; exact ((Keep.refl h0 [q])).1
  have F228_q_x0 := H0.ext Ex228
  have F228_q_x1 := H1.ext Ex228
  have F228_q_x2 := H2.ext Ex228
  have F228_q_x3 := H3.ext Ex228
  have F228_q_x4 := H4.ext Ex228
  have F228_q_x5 := H5.ext Ex228
  have F228_q_x6 := H6.ext Ex228
  have F228_q_x7 := H7.ext Ex228
  have E228_q := EQ.ext Ex228
  have K228 := Keep.ext (Keep.refl h0 [q]) Ex228
  have Zz228 : n0 ≤ Array.size h228 := Nat.le_trans Z0 Ex228.1
  have nq228 := R228.neQ hw E228_q
  obtain ⟨T229, h229, X229, e229, W229, st229⟩ := putF X228 hx hZ hown (host := "") (Or.inl (hw _ (List.mem_of_getElem? (i := 12) rfl))) Via.refl e228 F228_q_x0 E228_q (Or.inl (hw _ (List.mem_of_getElem? (i := 13) rfl))) (hw _ (List.mem_of_getElem? (i := 2) rfl)) (ty := (.array (.object "com/example/dipper/dipper/stream/ScannedEvent"))) (by decide) rfl rfl (g := (mkF m 9 #[.val (.ref q), .val (.int (1 : Int32)), .val (.null), .val (.null), .val (.null), .unset] [(.ref a228), (.ref q)])) rfl rfl (hb hby d1_9)
  have N229 := Fr.snoc X229 N0 gq
  refine Goes.pre st229 ?_
  show Goes p e below (EndN s 5 36 (Q_23 Z q h0 n0)) T229 (mkF m 12 #[.val (.ref q), .val (.int (1 : Int32)), .val (.null), .val (.null), .val (.null), .unset] [])
  have F229_q_queue := F228_q_x0.same W229
  have F229_q_replacing := F228_q_x1.other W229 (Or.inr (slot_ne (Or.inr (hw _ (List.mem_of_getElem? (i := 15) rfl))) (Or.inl (hw _ (List.mem_of_getElem? (i := 13) rfl))) (by decide) (t := .boolean) (t' := (.array (.object "com/example/dipper/dipper/stream/ScannedEvent"))) (by decide) (by decide)))
  have F229_q_atts := F228_q_x2.other W229 (Or.inr (slot_ne (Or.inr (hw _ (List.mem_of_getElem? (i := 17) rfl))) (Or.inl (hw _ (List.mem_of_getElem? (i := 13) rfl))) (by decide) (t := (.object "com/example/dipper/dipper/stream/SaxAttributes")) (t' := (.array (.object "com/example/dipper/dipper/stream/ScannedEvent"))) (by decide) (by decide)))
  have F229_q_declared := F228_q_x3.other W229 (Or.inr (slot_ne (Or.inr (hw _ (List.mem_of_getElem? (i := 19) rfl))) (Or.inl (hw _ (List.mem_of_getElem? (i := 13) rfl))) (by decide) (t := (.object "com/example/dipper/dipper/stream/OpenDeclarations")) (t' := (.array (.object "com/example/dipper/dipper/stream/ScannedEvent"))) (by decide) (by decide)))
  have F229_q_replacements := F228_q_x4.other W229 (Or.inr (slot_ne (Or.inr (hw _ (List.mem_of_getElem? (i := 21) rfl))) (Or.inl (hw _ (List.mem_of_getElem? (i := 13) rfl))) (by decide) (t := (.object "java/util/Map")) (t' := (.array (.object "com/example/dipper/dipper/stream/ScannedEvent"))) (by decide) (by decide)))
  have F229_q_head := F228_q_x5.other W229 (Or.inr (slot_ne (Or.inl (hw _ (List.mem_of_getElem? (i := 73) rfl))) (Or.inl (hw _ (List.mem_of_getElem? (i := 13) rfl))) (by decide) (t := .int) (t' := (.array (.object "com/example/dipper/dipper/stream/ScannedEvent"))) (by decide) (by decide)))
  have F229_q_count := F228_q_x6.other W229 (Or.inr (slot_ne (Or.inl (hw _ (List.mem_of_getElem? (i := 71) rfl))) (Or.inl (hw _ (List.mem_of_getElem? (i := 13) rfl))) (by decide) (t := .int) (t' := (.array (.object "com/example/dipper/dipper/stream/ScannedEvent"))) (by decide) (by decide)))
  have F229_q_unreported := F228_q_x7.other W229 (Or.inr (slot_ne (Or.inl (hw _ (List.mem_of_getElem? (i := 65) rfl))) (Or.inl (hw _ (List.mem_of_getElem? (i := 13) rfl))) (by decide) (t := .int) (t' := (.array (.object "com/example/dipper/dipper/stream/ScannedEvent"))) (by decide) (by decide)))
  have E229_q := E228_q.wr W229
  have K229 := Keep.wr K228 W229 (Or.inl (List.mem_of_getElem? (i := 0) rfl))
  have R229_a228 := R228.other W229 nq228
  have Zz229 : n0 ≤ Array.size h229 := by rw [W229.size]; exact Zz228
  refine own_aloadN (pc' := 13) X229 hx (hb hby d1_12) rfl rfl rfl ?_
  refine own_iloadN (pc' := 14) X229 hx (hb hby d1_13) rfl rfl ?_
  obtain ⟨T230, h230, X230, e230, W230, st230⟩ := putF X229 hx hZ hown (host := "") (Or.inl (hw _ (List.mem_of_getElem? (i := 14) rfl))) Via.refl e229 F229_q_replacing E229_q (Or.inr ⟨(hw _ (List.mem_of_getElem? (i := 15) rfl)), rfl, hnm⟩) (hw _ (List.mem_of_getElem? (i := 2) rfl)) (ty := .boolean) (by decide) rfl rfl (g := (mkF m 14 #[.val (.ref q), .val (.int (1 : Int32)), .val (.null), .val (.null), .val (.null), .unset] [(.int (1 : Int32)), (.ref q)])) rfl rfl (hb hby d1_14)
  have N230 := Fr.snoc X230 N229 gq
  refine Goes.pre st230 ?_
  show Goes p e below (EndN s 5 36 (Q_23 Z q h0 n0)) T230 (mkF m 17 #[.val (.ref q), .val (.int (1 : Int32)), .val (.null), .val (.null), .val (.null), .unset] [])
  have F230_q_queue := F229_q_queue.other W230 (Or.inr (slot_ne (Or.inl (hw _ (List.mem_of_getElem? (i := 13) rfl))) (Or.inr (hw _ (List.mem_of_getElem? (i := 15) rfl))) (by decide) (t := (.array (.object "com/example/dipper/dipper/stream/ScannedEvent"))) (t' := .boolean) (by decide) (by decide)))
  have F230_q_replacing := F229_q_replacing.same W230
  have F230_q_atts := F229_q_atts.other W230 (Or.inr (slot_ne (Or.inr (hw _ (List.mem_of_getElem? (i := 17) rfl))) (Or.inr (hw _ (List.mem_of_getElem? (i := 15) rfl))) (by decide) (t := (.object "com/example/dipper/dipper/stream/SaxAttributes")) (t' := .boolean) (by decide) (by decide)))
  have F230_q_declared := F229_q_declared.other W230 (Or.inr (slot_ne (Or.inr (hw _ (List.mem_of_getElem? (i := 19) rfl))) (Or.inr (hw _ (List.mem_of_getElem? (i := 15) rfl))) (by decide) (t := (.object "com/example/dipper/dipper/stream/OpenDeclarations")) (t' := .boolean) (by decide) (by decide)))
  have F230_q_replacements := F229_q_replacements.other W230 (Or.inr (slot_ne (Or.inr (hw _ (List.mem_of_getElem? (i := 21) rfl))) (Or.inr (hw _ (List.mem_of_getElem? (i := 15) rfl))) (by decide) (t := (.object "java/util/Map")) (t' := .boolean) (by decide) (by decide)))
  have F230_q_head := F229_q_head.other W230 (Or.inr (slot_ne (Or.inl (hw _ (List.mem_of_getElem? (i := 73) rfl))) (Or.inr (hw _ (List.mem_of_getElem? (i := 15) rfl))) (by decide) (t := .int) (t' := .boolean) (by decide) (by decide)))
  have F230_q_count := F229_q_count.other W230 (Or.inr (slot_ne (Or.inl (hw _ (List.mem_of_getElem? (i := 71) rfl))) (Or.inr (hw _ (List.mem_of_getElem? (i := 15) rfl))) (by decide) (t := .int) (t' := .boolean) (by decide) (by decide)))
  have F230_q_unreported := F229_q_unreported.other W230 (Or.inr (slot_ne (Or.inl (hw _ (List.mem_of_getElem? (i := 65) rfl))) (Or.inr (hw _ (List.mem_of_getElem? (i := 15) rfl))) (by decide) (t := .int) (t' := .boolean) (by decide) (by decide)))
  have E230_q := E229_q.wr W230
  have K230 := Keep.wr K229 W230 (Or.inl (List.mem_of_getElem? (i := 0) rfl))
  have R230_a228 := R229_a228.other W230 nq228
  have Zz230 : n0 ≤ Array.size h230 := by rw [W230.size]; exact Zz229
  refine own_aloadN (pc' := 18) X230 hx (hb hby d1_17) rfl rfl rfl ?_
  refine own_aloadN (pc' := 19) X230 hx (hb hby d1_18) rfl rfl rfl ?_
  obtain ⟨T231, h231, X231, e231, W231, st231⟩ := putF X230 hx hZ hown (host := "") (Or.inl (hw _ (List.mem_of_getElem? (i := 16) rfl))) Via.refl e230 F230_q_atts E230_q (Or.inr ⟨(hw _ (List.mem_of_getElem? (i := 17) rfl)), rfl, hnm⟩) (hw _ (List.mem_of_getElem? (i := 2) rfl)) (ty := (.object "com/example/dipper/dipper/stream/SaxAttributes")) (by decide) rfl rfl (g := (mkF m 19 #[.val (.ref q), .val (.int (1 : Int32)), .val (.null), .val (.null), .val (.null), .unset] [(.null), (.ref q)])) rfl rfl (hb hby d1_19)
  have N231 := Fr.snoc X231 N230 gq
  refine Goes.pre st231 ?_
  show Goes p e below (EndN s 5 36 (Q_23 Z q h0 n0)) T231 (mkF m 22 #[.val (.ref q), .val (.int (1 : Int32)), .val (.null), .val (.null), .val (.null), .unset] [])
  have F231_q_queue := F230_q_queue.other W231 (Or.inr (slot_ne (Or.inl (hw _ (List.mem_of_getElem? (i := 13) rfl))) (Or.inr (hw _ (List.mem_of_getElem? (i := 17) rfl))) (by decide) (t := (.array (.object "com/example/dipper/dipper/stream/ScannedEvent"))) (t' := (.object "com/example/dipper/dipper/stream/SaxAttributes")) (by decide) (by decide)))
  have F231_q_replacing := F230_q_replacing.other W231 (Or.inr (slot_ne (Or.inr (hw _ (List.mem_of_getElem? (i := 15) rfl))) (Or.inr (hw _ (List.mem_of_getElem? (i := 17) rfl))) (by decide) (t := .boolean) (t' := (.object "com/example/dipper/dipper/stream/SaxAttributes")) (by decide) (by decide)))
  have F231_q_atts := F230_q_atts.same W231
  have F231_q_declared := F230_q_declared.other W231 (Or.inr (slot_ne (Or.inr (hw _ (List.mem_of_getElem? (i := 19) rfl))) (Or.inr (hw _ (List.mem_of_getElem? (i := 17) rfl))) (by decide) (t := (.object "com/example/dipper/dipper/stream/OpenDeclarations")) (t' := (.object "com/example/dipper/dipper/stream/SaxAttributes")) (by decide) (by decide)))
  have F231_q_replacements := F230_q_replacements.other W231 (Or.inr (slot_ne (Or.inr (hw _ (List.mem_of_getElem? (i := 21) rfl))) (Or.inr (hw _ (List.mem_of_getElem? (i := 17) rfl))) (by decide) (t := (.object "java/util/Map")) (t' := (.object "com/example/dipper/dipper/stream/SaxAttributes")) (by decide) (by decide)))
  have F231_q_head := F230_q_head.other W231 (Or.inr (slot_ne (Or.inl (hw _ (List.mem_of_getElem? (i := 73) rfl))) (Or.inr (hw _ (List.mem_of_getElem? (i := 17) rfl))) (by decide) (t := .int) (t' := (.object "com/example/dipper/dipper/stream/SaxAttributes")) (by decide) (by decide)))
  have F231_q_count := F230_q_count.other W231 (Or.inr (slot_ne (Or.inl (hw _ (List.mem_of_getElem? (i := 71) rfl))) (Or.inr (hw _ (List.mem_of_getElem? (i := 17) rfl))) (by decide) (t := .int) (t' := (.object "com/example/dipper/dipper/stream/SaxAttributes")) (by decide) (by decide)))
  have F231_q_unreported := F230_q_unreported.other W231 (Or.inr (slot_ne (Or.inl (hw _ (List.mem_of_getElem? (i := 65) rfl))) (Or.inr (hw _ (List.mem_of_getElem? (i := 17) rfl))) (by decide) (t := .int) (t' := (.object "com/example/dipper/dipper/stream/SaxAttributes")) (by decide) (by decide)))
  have E231_q := E230_q.wr W231
  have K231 := Keep.wr K230 W231 (Or.inl (List.mem_of_getElem? (i := 0) rfl))
  have R231_a228 := R230_a228.other W231 nq228
  have Zz231 : n0 ≤ Array.size h231 := by rw [W231.size]; exact Zz230
  refine own_aloadN (pc' := 23) X231 hx (hb hby d1_22) rfl rfl rfl ?_
  refine own_aloadN (pc' := 24) X231 hx (hb hby d1_23) rfl rfl rfl ?_
  obtain ⟨T232, h232, X232, e232, W232, st232⟩ := putF X231 hx hZ hown (host := "") (Or.inl (hw _ (List.mem_of_getElem? (i := 18) rfl))) Via.refl e231 F231_q_declared E231_q (Or.inr ⟨(hw _ (List.mem_of_getElem? (i := 19) rfl)), rfl, hnm⟩) (hw _ (List.mem_of_getElem? (i := 2) rfl)) (ty := (.object "com/example/dipper/dipper/stream/OpenDeclarations")) (by decide) rfl rfl (g := (mkF m 24 #[.val (.ref q), .val (.int (1 : Int32)), .val (.null), .val (.null), .val (.null), .unset] [(.null), (.ref q)])) rfl rfl (hb hby d1_24)
  have N232 := Fr.snoc X232 N231 gq
  refine Goes.pre st232 ?_
  show Goes p e below (EndN s 5 36 (Q_23 Z q h0 n0)) T232 (mkF m 27 #[.val (.ref q), .val (.int (1 : Int32)), .val (.null), .val (.null), .val (.null), .unset] [])
  have F232_q_queue := F231_q_queue.other W232 (Or.inr (slot_ne (Or.inl (hw _ (List.mem_of_getElem? (i := 13) rfl))) (Or.inr (hw _ (List.mem_of_getElem? (i := 19) rfl))) (by decide) (t := (.array (.object "com/example/dipper/dipper/stream/ScannedEvent"))) (t' := (.object "com/example/dipper/dipper/stream/OpenDeclarations")) (by decide) (by decide)))
  have F232_q_replacing := F231_q_replacing.other W232 (Or.inr (slot_ne (Or.inr (hw _ (List.mem_of_getElem? (i := 15) rfl))) (Or.inr (hw _ (List.mem_of_getElem? (i := 19) rfl))) (by decide) (t := .boolean) (t' := (.object "com/example/dipper/dipper/stream/OpenDeclarations")) (by decide) (by decide)))
  have F232_q_atts := F231_q_atts.other W232 (Or.inr (slot_ne (Or.inr (hw _ (List.mem_of_getElem? (i := 17) rfl))) (Or.inr (hw _ (List.mem_of_getElem? (i := 19) rfl))) (by decide) (t := (.object "com/example/dipper/dipper/stream/SaxAttributes")) (t' := (.object "com/example/dipper/dipper/stream/OpenDeclarations")) (by decide) (by decide)))
  have F232_q_declared := F231_q_declared.same W232
  have F232_q_replacements := F231_q_replacements.other W232 (Or.inr (slot_ne (Or.inr (hw _ (List.mem_of_getElem? (i := 21) rfl))) (Or.inr (hw _ (List.mem_of_getElem? (i := 19) rfl))) (by decide) (t := (.object "java/util/Map")) (t' := (.object "com/example/dipper/dipper/stream/OpenDeclarations")) (by decide) (by decide)))
  have F232_q_head := F231_q_head.other W232 (Or.inr (slot_ne (Or.inl (hw _ (List.mem_of_getElem? (i := 73) rfl))) (Or.inr (hw _ (List.mem_of_getElem? (i := 19) rfl))) (by decide) (t := .int) (t' := (.object "com/example/dipper/dipper/stream/OpenDeclarations")) (by decide) (by decide)))
  have F232_q_count := F231_q_count.other W232 (Or.inr (slot_ne (Or.inl (hw _ (List.mem_of_getElem? (i := 71) rfl))) (Or.inr (hw _ (List.mem_of_getElem? (i := 19) rfl))) (by decide) (t := .int) (t' := (.object "com/example/dipper/dipper/stream/OpenDeclarations")) (by decide) (by decide)))
  have F232_q_unreported := F231_q_unreported.other W232 (Or.inr (slot_ne (Or.inl (hw _ (List.mem_of_getElem? (i := 65) rfl))) (Or.inr (hw _ (List.mem_of_getElem? (i := 19) rfl))) (by decide) (t := .int) (t' := (.object "com/example/dipper/dipper/stream/OpenDeclarations")) (by decide) (by decide)))
  have E232_q := E231_q.wr W232
  have K232 := Keep.wr K231 W232 (Or.inl (List.mem_of_getElem? (i := 0) rfl))
  have R232_a228 := R231_a228.other W232 nq228
  have Zz232 : n0 ≤ Array.size h232 := by rw [W232.size]; exact Zz231
  refine own_aloadN (pc' := 28) X232 hx (hb hby d1_27) rfl rfl rfl ?_
  refine own_aload (pc' := 30) X232 hx (hb hby d1_28) rfl rfl rfl ?_
  obtain ⟨T233, h233, X233, e233, W233, st233⟩ := putF X232 hx hZ hown (host := "") (Or.inl (hw _ (List.mem_of_getElem? (i := 20) rfl))) Via.refl e232 F232_q_replacements E232_q (Or.inr ⟨(hw _ (List.mem_of_getElem? (i := 21) rfl)), rfl, hnm⟩) (hw _ (List.mem_of_getElem? (i := 2) rfl)) (ty := (.object "java/util/Map")) (by decide) rfl rfl (g := (mkF m 30 #[.val (.ref q), .val (.int (1 : Int32)), .val (.null), .val (.null), .val (.null), .unset] [(.null), (.ref q)])) rfl rfl (hb hby d1_30)
  have N233 := Fr.snoc X233 N232 gq
  refine Goes.pre st233 ?_
  show Goes p e below (EndN s 5 36 (Q_23 Z q h0 n0)) T233 (mkF m 33 #[.val (.ref q), .val (.int (1 : Int32)), .val (.null), .val (.null), .val (.null), .unset] [])
  have F233_q_queue := F232_q_queue.other W233 (Or.inr (slot_ne (Or.inl (hw _ (List.mem_of_getElem? (i := 13) rfl))) (Or.inr (hw _ (List.mem_of_getElem? (i := 21) rfl))) (by decide) (t := (.array (.object "com/example/dipper/dipper/stream/ScannedEvent"))) (t' := (.object "java/util/Map")) (by decide) (by decide)))
  have F233_q_replacing := F232_q_replacing.other W233 (Or.inr (slot_ne (Or.inr (hw _ (List.mem_of_getElem? (i := 15) rfl))) (Or.inr (hw _ (List.mem_of_getElem? (i := 21) rfl))) (by decide) (t := .boolean) (t' := (.object "java/util/Map")) (by decide) (by decide)))
  have F233_q_atts := F232_q_atts.other W233 (Or.inr (slot_ne (Or.inr (hw _ (List.mem_of_getElem? (i := 17) rfl))) (Or.inr (hw _ (List.mem_of_getElem? (i := 21) rfl))) (by decide) (t := (.object "com/example/dipper/dipper/stream/SaxAttributes")) (t' := (.object "java/util/Map")) (by decide) (by decide)))
  have F233_q_declared := F232_q_declared.other W233 (Or.inr (slot_ne (Or.inr (hw _ (List.mem_of_getElem? (i := 19) rfl))) (Or.inr (hw _ (List.mem_of_getElem? (i := 21) rfl))) (by decide) (t := (.object "com/example/dipper/dipper/stream/OpenDeclarations")) (t' := (.object "java/util/Map")) (by decide) (by decide)))
  have F233_q_replacements := F232_q_replacements.same W233
  have F233_q_head := F232_q_head.other W233 (Or.inr (slot_ne (Or.inl (hw _ (List.mem_of_getElem? (i := 73) rfl))) (Or.inr (hw _ (List.mem_of_getElem? (i := 21) rfl))) (by decide) (t := .int) (t' := (.object "java/util/Map")) (by decide) (by decide)))
  have F233_q_count := F232_q_count.other W233 (Or.inr (slot_ne (Or.inl (hw _ (List.mem_of_getElem? (i := 71) rfl))) (Or.inr (hw _ (List.mem_of_getElem? (i := 21) rfl))) (by decide) (t := .int) (t' := (.object "java/util/Map")) (by decide) (by decide)))
  have F233_q_unreported := F232_q_unreported.other W233 (Or.inr (slot_ne (Or.inl (hw _ (List.mem_of_getElem? (i := 65) rfl))) (Or.inr (hw _ (List.mem_of_getElem? (i := 21) rfl))) (by decide) (t := .int) (t' := (.object "java/util/Map")) (by decide) (by decide)))
  have E233_q := E232_q.wr W233
  have K233 := Keep.wr K232 W233 (Or.inl (List.mem_of_getElem? (i := 0) rfl))
  have R233_a228 := R232_a228.other W233 nq228
  have Zz233 : n0 ≤ Array.size h233 := by rw [W233.size]; exact Zz232
  refine own_iconst (pc' := 34) X233 hx (hb hby d1_33) (v := (0 : Int32)) rfl rfl ?_
  refine own_istore (pc' := 36) X233 hx (hb hby d1_34) (Ls' := #[.val (.ref q), .val (.int (1 : Int32)), .val (.null), .val (.null), .val (.null), .val (.int (0 : Int32))]) rfl rfl ?_
  refine own_iload (pc' := 38) X233 hx (hb hby d1_36) rfl rfl ?_
  refine own_aloadN (pc' := 39) X233 hx (hb hby d1_38) rfl rfl rfl ?_
  obtain ⟨T234, X234, e234, st234⟩ := getF X233 hx hZ hown (host := "") (Or.inl (hw _ (List.mem_of_getElem? (i := 12) rfl))) Via.refl e233 F233_q_queue (g := (mkF m 39 #[.val (.ref q), .val (.int (1 : Int32)), .val (.null), .val (.null), .val (.null), .val (.int (0 : Int32))] [(.ref q), (.int (0 : Int32))])) rfl rfl (hb hby d1_39)
  refine Goes.pre st234 ?_
  show Goes p e below (EndN s 5 36 (Q_23 Z q h0 n0)) T234 (mkF m 42 #[.val (.ref q), .val (.int (1 : Int32)), .val (.null), .val (.null), .val (.null), .val (.int (0 : Int32))] [(.ref a228), (.int (0 : Int32))])
  refine own_alenR (pc' := 43) X234 hx hZ e234 R233_a228 (hb hby d1_42) (n := (4 : Int32)) rfl rfl ?_
  refine own_icmpN (pc' := 46) X234 hx (hb hby d1_43) (by decide) rfl ?_
  refine own_aloadN (pc' := 47) X234 hx (hb hby d1_46) rfl rfl rfl ?_
  obtain ⟨T235, X235, e235, st235⟩ := getF X234 hx hZ hown (host := "") (Or.inl (hw _ (List.mem_of_getElem? (i := 12) rfl))) Via.refl e234 F233_q_queue (g := (mkF m 47 #[.val (.ref q), .val (.int (1 : Int32)), .val (.null), .val (.null), .val (.null), .val (.int (0 : Int32))] [(.ref q)])) rfl rfl (hb hby d1_47)
  refine Goes.pre st235 ?_
  show Goes p e below (EndN s 5 36 (Q_23 Z q h0 n0)) T235 (mkF m 50 #[.val (.ref q), .val (.int (1 : Int32)), .val (.null), .val (.null), .val (.null), .val (.int (0 : Int32))] [(.ref a228)])
  refine own_iload (pc' := 52) X235 hx (hb hby d1_50) rfl rfl ?_
  obtain ⟨T236, h236, X236, e236, E236, A236, D236, -, st236⟩ := newO X235 hx hZ hown (hw _ (List.mem_of_getElem? (i := 10) rfl)) (hw _ (List.mem_of_getElem? (i := 22) rfl)) (hw _ (List.mem_of_getElem? (i := 23) rfl)) e235 (g := (mkF m 52 #[.val (.ref q), .val (.int (1 : Int32)), .val (.null), .val (.null), .val (.null), .val (.int (0 : Int32))] [(.int (0 : Int32)), (.ref a228)])) rfl (hb hby d1_52) (by decide) (by decide)
  obtain ⟨a236, g236⟩ : ∃ z, z = Array.size (h233) := ⟨_, rfl⟩
  rw [← g236] at A236 D236 st236
  refine Goes.pre st236 ?_
  show Goes p e below (EndN s 5 36 (Q_23 Z q h0 n0)) T236 (mkF m 55 #[.val (.ref q), .val (.int (1 : Int32)), .val (.null), .val (.null), .val (.null), .val (.int (0 : Int32))] [(.ref a236), (.int (0 : Int32)), (.ref a228)])
  have F236_type : Fld Z h236 a236 "com/example/dipper/dipper/stream/ScannedEvent" "type" "I" (.int (0 : Int32)) := D236 (Or.inl (hw _ (List.mem_of_getElem? (i := 80) rfl))) (ty := .int) (by decide)
  have F236_characters : Fld Z h236 a236 "com/example/dipper/dipper/stream/ScannedEvent" "characters" "[C" .null := D236 (Or.inl (hw _ (List.mem_of_getElem? (i := 82) rfl))) (ty := (.array .char)) (by decide)
  have F236_start : Fld Z h236 a236 "com/example/dipper/dipper/stream/ScannedEvent" "start" "I" (.int (0 : Int32)) := D236 (Or.inl (hw _ (List.mem_of_getElem? (i := 84) rfl))) (ty := .int) (by decide)
  have F236_length : Fld Z h236 a236 "com/example/dipper/dipper/stream/ScannedEvent" "length" "I" (.int (0 : Int32)) := D236 (Or.inl (hw _ (List.mem_of_getElem? (i := 86) rfl))) (ty := .int) (by decide)
  have F236_text : Fld Z h236 a236 "com/example/dipper/dipper/stream/ScannedEvent" "text" "Ljava/lang/String;" .null := D236 (Or.inl (hw _ (List.mem_of_getElem? (i := 88) rfl))) (ty := (.object "java/lang/String")) (by decide)
  have F236_namespace : Fld Z h236 a236 "com/example/dipper/dipper/stream/ScannedEvent" "namespace" "Ljava/lang/String;" .null := D236 (Or.inl (hw _ (List.mem_of_getElem? (i := 90) rfl))) (ty := (.object "java/lang/String")) (by decide)
  have F236_localName : Fld Z h236 a236 "com/example/dipper/dipper/stream/ScannedEvent" "localName" "Ljava/lang/String;" .null := D236 (Or.inl (hw _ (List.mem_of_getElem? (i := 92) rfl))) (ty := (.object "java/lang/String")) (by decide)
  have F236_qualifiedName : Fld Z h236 a236 "com/example/dipper/dipper/stream/ScannedEvent" "qualifiedName" "Ljava/lang/String;" .null := D236 (Or.inl (hw _ (List.mem_of_getElem? (i := 94) rfl))) (ty := (.object "java/lang/String")) (by decide)
  have gn236 : n0 ≤ a236 := by rw [g236]; exact Zz233
  have go236 : Array.size h0 ≤ a236 := by rw [g236]; exact (K233).1
  have F236c_q_x0 := F233_q_queue.ext E236
  have F236c_q_x1 := F233_q_replacing.ext E236
  have F236c_q_x2 := F233_q_atts.ext E236
  have F236c_q_x3 := F233_q_declared.ext E236
  have F236c_q_x4 := F233_q_replacements.ext E236
  have F236c_q_x5 := F233_q_head.ext E236
  have F236c_q_x6 := F233_q_count.ext E236
  have F236c_q_x7 := F233_q_unreported.ext E236
  have E236c_q := E233_q.ext E236
  have R236c_a228 := R233_a228.ext E236
  have K236c := Keep.ext K233 E236
  have Zz236c : n0 ≤ Array.size h236 := Nat.le_trans Zz233 E236.1
  have V236 : own_Ev Z h236 a236 (0 : Int32) .null (0 : Int32) (0 : Int32) .null .null .null .null := ⟨A236, F236_type, F236_characters, F236_start, F236_length, F236_text, F236_namespace, F236_localName, F236_qualifiedName⟩
  refine own_dup (pc' := 56) X236 hx (hb hby d1_55) rfl rfl ?_
  obtain ⟨_, _, ⟨T237, L237, k237, n237⟩, -, X237, ⟨Lc237, hQ237, l237, y237, z237⟩, st237⟩ := X236.specialBack hx (y := (⟨"com/example/dipper/dipper/stream/ScannedEvent", "<init>", "()V"⟩ : MethodName)) rfl hown (mvT hZ (hw _ (List.mem_of_getElem? (i := 24) rfl))) (mvT hZ (hw _ (List.mem_of_getElem? (i := 25) rfl))) (mvT hZ (hw _ (List.mem_of_getElem? (i := 26) rfl))) (by decide) (backOf (W := 3) (rm_1 l Z a0 hw [] a236 h236 n0 Zz236c) hZ (hw _ (List.mem_of_getElem? (i := 26) rfl)) (hw _ (List.mem_of_getElem? (i := 23) rfl)) (by decide) (by decide)) (g := (mkF m 56 #[.val (.ref q), .val (.int (1 : Int32)), .val (.null), .val (.null), .val (.null), .val (.int (0 : Int32))] [(.ref a236), (.ref a236), (.int (0 : Int32)), (.ref a228)])) rfl (by rw [hml]; rfl) (Steps.refl _) (a := a236) (argsL := []) (rest := [(.ref a236), (.int (0 : Int32)), (.ref a228)]) (lenOf pd_1 rfl) rfl (by show 2 * 0 + _ ≤ _; exact Nat.le_of_eq rfl) (hb hby d1_56) (fun _ _ => ⟨rfl, e236, (by decide : 2 + 0 ≤ _), (by decide : 12 + 0 ≤ _)⟩)
  dsimp only [Pt.U, Pt.locs, Pt.cells, Pt.slots] at X237 l237 y237 z237 st237 hQ237
  subst l237 y237 z237
  obtain ⟨rfl, M237, ei237⟩ := hQ237
  have N237 := Fr.app N233 M237
  refine Goes.aft st237 ?_
  show Goes p e below (EndN s 5 36 (Q_23 Z q h0 n0)) T237 (mkF m 59 #[.val (.ref q), .val (.int (1 : Int32)), .val (.null), .val (.null), .val (.null), .val (.int (0 : Int32))] [(.ref a236), (.int (0 : Int32)), (.ref a228)])
  refine own_aastore (pc' := 60) X237 hx hZ ei237 R236c_a228 (hb hby d1_59) V236.1 (k := 0) (by decide) (by decide) (by simp) rfl ?_
  intro T238 h238 X238 e238 W238 R238
  have N238 := Fr.snoc X238 N237 gn228
  have R238x : own_RA Z h238 a228 [.ref a236, .null, .null, .null] := R238
  have E238_q := E236c_q.wr W238
  have F238_q_x0 := F236c_q_x0.other W238 (Or.inl (Ne.symm (own_RA.neQ hw R236c_a228 E236c_q)))
  have F238_q_x1 := F236c_q_x1.other W238 (Or.inl (Ne.symm (own_RA.neQ hw R236c_a228 E236c_q)))
  have F238_q_x2 := F236c_q_x2.other W238 (Or.inl (Ne.symm (own_RA.neQ hw R236c_a228 E236c_q)))
  have F238_q_x3 := F236c_q_x3.other W238 (Or.inl (Ne.symm (own_RA.neQ hw R236c_a228 E236c_q)))
  have F238_q_x4 := F236c_q_x4.other W238 (Or.inl (Ne.symm (own_RA.neQ hw R236c_a228 E236c_q)))
  have F238_q_x5 := F236c_q_x5.other W238 (Or.inl (Ne.symm (own_RA.neQ hw R236c_a228 E236c_q)))
  have F238_q_x6 := F236c_q_x6.other W238 (Or.inl (Ne.symm (own_RA.neQ hw R236c_a228 E236c_q)))
  have F238_q_x7 := F236c_q_x7.other W238 (Or.inl (Ne.symm (own_RA.neQ hw R236c_a228 E236c_q)))
  have V238_a236 := V236.keep (Keep.of_wr W238) (ninS (Ne.symm (own_RA.neE hw R236c_a228 V236.1)) nin0)
  have K238 := Keep.wr K236c W238 (Or.inr go228)
  have Zz238 : n0 ≤ Array.size h238 := by rw [W238.size]; exact Zz236c
  show Goes p e below (EndN s 5 36 (Q_23 Z q h0 n0)) T238 (mkF m 60 #[.val (.ref q), .val (.int (1 : Int32)), .val (.null), .val (.null), .val (.null), .val (.int (0 : Int32))] [])
  refine own_iinc (pc' := 63) X238 hx (hb hby d1_60) rfl (y := (1 : Int32)) (by decide) (Ls' := #[.val (.ref q), .val (.int (1 : Int32)), .val (.null), .val (.null), .val (.null), .val (.int (1 : Int32))]) rfl rfl ?_
  refine own_goto X238 hx (hb hby d1_63) (by decide) (pc' := 36) (by decide) ?_
  refine own_iload (pc' := 38) X238 hx (hb hby d1_36) rfl rfl ?_
  refine own_aloadN (pc' := 39) X238 hx (hb hby d1_38) rfl rfl rfl ?_
  obtain ⟨T239, X239, e239, st239⟩ := getF X238 hx hZ hown (host := "") (Or.inl (hw _ (List.mem_of_getElem? (i := 12) rfl))) Via.refl e238 F238_q_x0 (g := (mkF m 39 #[.val (.ref q), .val (.int (1 : Int32)), .val (.null), .val (.null), .val (.null), .val (.int (1 : Int32))] [(.ref q), (.int (1 : Int32))])) rfl rfl (hb hby d1_39)
  refine Goes.pre st239 ?_
  show Goes p e below (EndN s 5 36 (Q_23 Z q h0 n0)) T239 (mkF m 42 #[.val (.ref q), .val (.int (1 : Int32)), .val (.null), .val (.null), .val (.null), .val (.int (1 : Int32))] [(.ref a228), (.int (1 : Int32))])
  refine own_alenR (pc' := 43) X239 hx hZ e239 R238x (hb hby d1_42) (n := (4 : Int32)) rfl rfl ?_
  refine own_icmpN (pc' := 46) X239 hx (hb hby d1_43) (by decide) rfl ?_
  refine own_aloadN (pc' := 47) X239 hx (hb hby d1_46) rfl rfl rfl ?_
  obtain ⟨T240, X240, e240, st240⟩ := getF X239 hx hZ hown (host := "") (Or.inl (hw _ (List.mem_of_getElem? (i := 12) rfl))) Via.refl e239 F238_q_x0 (g := (mkF m 47 #[.val (.ref q), .val (.int (1 : Int32)), .val (.null), .val (.null), .val (.null), .val (.int (1 : Int32))] [(.ref q)])) rfl rfl (hb hby d1_47)
  refine Goes.pre st240 ?_
  show Goes p e below (EndN s 5 36 (Q_23 Z q h0 n0)) T240 (mkF m 50 #[.val (.ref q), .val (.int (1 : Int32)), .val (.null), .val (.null), .val (.null), .val (.int (1 : Int32))] [(.ref a228)])
  refine own_iload (pc' := 52) X240 hx (hb hby d1_50) rfl rfl ?_
  obtain ⟨T241, h241, X241, e241, E241, A241, D241, -, st241⟩ := newO X240 hx hZ hown (hw _ (List.mem_of_getElem? (i := 10) rfl)) (hw _ (List.mem_of_getElem? (i := 22) rfl)) (hw _ (List.mem_of_getElem? (i := 23) rfl)) e240 (g := (mkF m 52 #[.val (.ref q), .val (.int (1 : Int32)), .val (.null), .val (.null), .val (.null), .val (.int (1 : Int32))] [(.int (1 : Int32)), (.ref a228)])) rfl (hb hby d1_52) (by decide) (by decide)
  obtain ⟨a241, g241⟩ : ∃ z, z = Array.size (h238) := ⟨_, rfl⟩
  rw [← g241] at A241 D241 st241
  refine Goes.pre st241 ?_
  show Goes p e below (EndN s 5 36 (Q_23 Z q h0 n0)) T241 (mkF m 55 #[.val (.ref q), .val (.int (1 : Int32)), .val (.null), .val (.null), .val (.null), .val (.int (1 : Int32))] [(.ref a241), (.int (1 : Int32)), (.ref a228)])
  have F241_type : Fld Z h241 a241 "com/example/dipper/dipper/stream/ScannedEvent" "type" "I" (.int (0 : Int32)) := D241 (Or.inl (hw _ (List.mem_of_getElem? (i := 80) rfl))) (ty := .int) (by decide)
  have F241_characters : Fld Z h241 a241 "com/example/dipper/dipper/stream/ScannedEvent" "characters" "[C" .null := D241 (Or.inl (hw _ (List.mem_of_getElem? (i := 82) rfl))) (ty := (.array .char)) (by decide)
  have F241_start : Fld Z h241 a241 "com/example/dipper/dipper/stream/ScannedEvent" "start" "I" (.int (0 : Int32)) := D241 (Or.inl (hw _ (List.mem_of_getElem? (i := 84) rfl))) (ty := .int) (by decide)
  have F241_length : Fld Z h241 a241 "com/example/dipper/dipper/stream/ScannedEvent" "length" "I" (.int (0 : Int32)) := D241 (Or.inl (hw _ (List.mem_of_getElem? (i := 86) rfl))) (ty := .int) (by decide)
  have F241_text : Fld Z h241 a241 "com/example/dipper/dipper/stream/ScannedEvent" "text" "Ljava/lang/String;" .null := D241 (Or.inl (hw _ (List.mem_of_getElem? (i := 88) rfl))) (ty := (.object "java/lang/String")) (by decide)
  have F241_namespace : Fld Z h241 a241 "com/example/dipper/dipper/stream/ScannedEvent" "namespace" "Ljava/lang/String;" .null := D241 (Or.inl (hw _ (List.mem_of_getElem? (i := 90) rfl))) (ty := (.object "java/lang/String")) (by decide)
  have F241_localName : Fld Z h241 a241 "com/example/dipper/dipper/stream/ScannedEvent" "localName" "Ljava/lang/String;" .null := D241 (Or.inl (hw _ (List.mem_of_getElem? (i := 92) rfl))) (ty := (.object "java/lang/String")) (by decide)
  have F241_qualifiedName : Fld Z h241 a241 "com/example/dipper/dipper/stream/ScannedEvent" "qualifiedName" "Ljava/lang/String;" .null := D241 (Or.inl (hw _ (List.mem_of_getElem? (i := 94) rfl))) (ty := (.object "java/lang/String")) (by decide)
  have gn241 : n0 ≤ a241 := by rw [g241]; exact Zz238
  have go241 : Array.size h0 ≤ a241 := by rw [g241]; exact (K238).1
  have ne_a236_a241 : a236 ≠ a241 := fun q => absurd (q ▸ V238_a236.1.lt) (by rw [g241]; exact Nat.lt_irrefl _)
  have F241c_q_x0 := F238_q_x0.ext E241
  have F241c_q_x1 := F238_q_x1.ext E241
  have F241c_q_x2 := F238_q_x2.ext E241
  have F241c_q_x3 := F238_q_x3.ext E241
  have F241c_q_x4 := F238_q_x4.ext E241
  have F241c_q_x5 := F238_q_x5.ext E241
  have F241c_q_x6 := F238_q_x6.ext E241
  have F241c_q_x7 := F238_q_x7.ext E241
  have E241c_q := E238_q.ext E241
  have R241c_a228 := R238x.ext E241
  have V241c_a236 := V238_a236.ext E241
  have K241c := Keep.ext K238 E241
  have Zz241c : n0 ≤ Array.size h241 := Nat.le_trans Zz238 E241.1
  have V241 : own_Ev Z h241 a241 (0 : Int32) .null (0 : Int32) (0 : Int32) .null .null .null .null := ⟨A241, F241_type, F241_characters, F241_start, F241_length, F241_text, F241_namespace, F241_localName, F241_qualifiedName⟩
  refine own_dup (pc' := 56) X241 hx (hb hby d1_55) rfl rfl ?_
  obtain ⟨_, _, ⟨T242, L242, k242, n242⟩, -, X242, ⟨Lc242, hQ242, l242, y242, z242⟩, st242⟩ := X241.specialBack hx (y := (⟨"com/example/dipper/dipper/stream/ScannedEvent", "<init>", "()V"⟩ : MethodName)) rfl hown (mvT hZ (hw _ (List.mem_of_getElem? (i := 24) rfl))) (mvT hZ (hw _ (List.mem_of_getElem? (i := 25) rfl))) (mvT hZ (hw _ (List.mem_of_getElem? (i := 26) rfl))) (by decide) (backOf (W := 3) (rm_1 l Z a0 hw [] a241 h241 n0 Zz241c) hZ (hw _ (List.mem_of_getElem? (i := 26) rfl)) (hw _ (List.mem_of_getElem? (i := 23) rfl)) (by decide) (by decide)) (g := (mkF m 56 #[.val (.ref q), .val (.int (1 : Int32)), .val (.null), .val (.null), .val (.null), .val (.int (1 : Int32))] [(.ref a241), (.ref a241), (.int (1 : Int32)), (.ref a228)])) rfl (by rw [hml]; rfl) (Steps.refl _) (a := a241) (argsL := []) (rest := [(.ref a241), (.int (1 : Int32)), (.ref a228)]) (lenOf pd_1 rfl) rfl (by show 2 * 0 + _ ≤ _; exact Nat.le_of_eq rfl) (hb hby d1_56) (fun _ _ => ⟨rfl, e241, (by decide : 3 + 0 ≤ _), (by decide : 20 + 0 ≤ _)⟩)
  dsimp only [Pt.U, Pt.locs, Pt.cells, Pt.slots] at X242 l242 y242 z242 st242 hQ242
  subst l242 y242 z242
  obtain ⟨rfl, M242, ei242⟩ := hQ242
  have N242 := Fr.app N238 M242
  refine Goes.aft st242 ?_
  show Goes p e below (EndN s 5 36 (Q_23 Z q h0 n0)) T242 (mkF m 59 #[.val (.ref q), .val (.int (1 : Int32)), .val (.null), .val (.null), .val (.null), .val (.int (1 : Int32))] [(.ref a241), (.int (1 : Int32)), (.ref a228)])
  refine own_aastore (pc' := 60) X242 hx hZ ei242 R241c_a228 (hb hby d1_59) V241.1 (k := 1) (by decide) (by decide) (by simp) rfl ?_
  intro T243 h243 X243 e243 W243 R243
  have N243 := Fr.snoc X243 N242 gn228
  have R243x : own_RA Z h243 a228 [.ref a236, .ref a241, .null, .null] := R243
  have E243_q := E241c_q.wr W243
  have F243_q_x0 := F241c_q_x0.other W243 (Or.inl (Ne.symm (own_RA.neQ hw R241c_a228 E241c_q)))
  have F243_q_x1 := F241c_q_x1.other W243 (Or.inl (Ne.symm (own_RA.neQ hw R241c_a228 E241c_q)))
  have F243_q_x2 := F241c_q_x2.other W243 (Or.inl (Ne.symm (own_RA.neQ hw R241c_a228 E241c_q)))
  have F243_q_x3 := F241c_q_x3.other W243 (Or.inl (Ne.symm (own_RA.neQ hw R241c_a228 E241c_q)))
  have F243_q_x4 := F241c_q_x4.other W243 (Or.inl (Ne.symm (own_RA.neQ hw R241c_a228 E241c_q)))
  have F243_q_x5 := F241c_q_x5.other W243 (Or.inl (Ne.symm (own_RA.neQ hw R241c_a228 E241c_q)))
  have F243_q_x6 := F241c_q_x6.other W243 (Or.inl (Ne.symm (own_RA.neQ hw R241c_a228 E241c_q)))
  have F243_q_x7 := F241c_q_x7.other W243 (Or.inl (Ne.symm (own_RA.neQ hw R241c_a228 E241c_q)))
  have V243_a236 := V241c_a236.keep (Keep.of_wr W243) (ninS (Ne.symm (own_RA.neE hw R241c_a228 V241c_a236.1)) nin0)
  have V243_a241 := V241.keep (Keep.of_wr W243) (ninS (Ne.symm (own_RA.neE hw R241c_a228 V241.1)) nin0)
  have K243 := Keep.wr K241c W243 (Or.inr go228)
  have Zz243 : n0 ≤ Array.size h243 := by rw [W243.size]; exact Zz241c
  show Goes p e below (EndN s 5 36 (Q_23 Z q h0 n0)) T243 (mkF m 60 #[.val (.ref q), .val (.int (1 : Int32)), .val (.null), .val (.null), .val (.null), .val (.int (1 : Int32))] [])
  refine own_iinc (pc' := 63) X243 hx (hb hby d1_60) rfl (y := (2 : Int32)) (by decide) (Ls' := #[.val (.ref q), .val (.int (1 : Int32)), .val (.null), .val (.null), .val (.null), .val (.int (2 : Int32))]) rfl rfl ?_
  refine own_goto X243 hx (hb hby d1_63) (by decide) (pc' := 36) (by decide) ?_
  refine own_iload (pc' := 38) X243 hx (hb hby d1_36) rfl rfl ?_
  refine own_aloadN (pc' := 39) X243 hx (hb hby d1_38) rfl rfl rfl ?_
  obtain ⟨T244, X244, e244, st244⟩ := getF X243 hx hZ hown (host := "") (Or.inl (hw _ (List.mem_of_getElem? (i := 12) rfl))) Via.refl e243 F243_q_x0 (g := (mkF m 39 #[.val (.ref q), .val (.int (1 : Int32)), .val (.null), .val (.null), .val (.null), .val (.int (2 : Int32))] [(.ref q), (.int (2 : Int32))])) rfl rfl (hb hby d1_39)
  refine Goes.pre st244 ?_
  show Goes p e below (EndN s 5 36 (Q_23 Z q h0 n0)) T244 (mkF m 42 #[.val (.ref q), .val (.int (1 : Int32)), .val (.null), .val (.null), .val (.null), .val (.int (2 : Int32))] [(.ref a228), (.int (2 : Int32))])
  refine own_alenR (pc' := 43) X244 hx hZ e244 R243x (hb hby d1_42) (n := (4 : Int32)) rfl rfl ?_
  refine own_icmpN (pc' := 46) X244 hx (hb hby d1_43) (by decide) rfl ?_
  refine own_aloadN (pc' := 47) X244 hx (hb hby d1_46) rfl rfl rfl ?_
  obtain ⟨T245, X245, e245, st245⟩ := getF X244 hx hZ hown (host := "") (Or.inl (hw _ (List.mem_of_getElem? (i := 12) rfl))) Via.refl e244 F243_q_x0 (g := (mkF m 47 #[.val (.ref q), .val (.int (1 : Int32)), .val (.null), .val (.null), .val (.null), .val (.int (2 : Int32))] [(.ref q)])) rfl rfl (hb hby d1_47)
  refine Goes.pre st245 ?_
  show Goes p e below (EndN s 5 36 (Q_23 Z q h0 n0)) T245 (mkF m 50 #[.val (.ref q), .val (.int (1 : Int32)), .val (.null), .val (.null), .val (.null), .val (.int (2 : Int32))] [(.ref a228)])
  refine own_iload (pc' := 52) X245 hx (hb hby d1_50) rfl rfl ?_
  obtain ⟨T246, h246, X246, e246, E246, A246, D246, -, st246⟩ := newO X245 hx hZ hown (hw _ (List.mem_of_getElem? (i := 10) rfl)) (hw _ (List.mem_of_getElem? (i := 22) rfl)) (hw _ (List.mem_of_getElem? (i := 23) rfl)) e245 (g := (mkF m 52 #[.val (.ref q), .val (.int (1 : Int32)), .val (.null), .val (.null), .val (.null), .val (.int (2 : Int32))] [(.int (2 : Int32)), (.ref a228)])) rfl (hb hby d1_52) (by decide) (by decide)
  obtain ⟨a246, g246⟩ : ∃ z, z = Array.size (h243) := ⟨_, rfl⟩
  rw [← g246] at A246 D246 st246
  refine Goes.pre st246 ?_
  show Goes p e below (EndN s 5 36 (Q_23 Z q h0 n0)) T246 (mkF m 55 #[.val (.ref q), .val (.int (1 : Int32)), .val (.null), .val (.null), .val (.null), .val (.int (2 : Int32))] [(.ref a246), (.int (2 : Int32)), (.ref a228)])
  have F246_type : Fld Z h246 a246 "com/example/dipper/dipper/stream/ScannedEvent" "type" "I" (.int (0 : Int32)) := D246 (Or.inl (hw _ (List.mem_of_getElem? (i := 80) rfl))) (ty := .int) (by decide)
  have F246_characters : Fld Z h246 a246 "com/example/dipper/dipper/stream/ScannedEvent" "characters" "[C" .null := D246 (Or.inl (hw _ (List.mem_of_getElem? (i := 82) rfl))) (ty := (.array .char)) (by decide)
  have F246_start : Fld Z h246 a246 "com/example/dipper/dipper/stream/ScannedEvent" "start" "I" (.int (0 : Int32)) := D246 (Or.inl (hw _ (List.mem_of_getElem? (i := 84) rfl))) (ty := .int) (by decide)
  have F246_length : Fld Z h246 a246 "com/example/dipper/dipper/stream/ScannedEvent" "length" "I" (.int (0 : Int32)) := D246 (Or.inl (hw _ (List.mem_of_getElem? (i := 86) rfl))) (ty := .int) (by decide)
  have F246_text : Fld Z h246 a246 "com/example/dipper/dipper/stream/ScannedEvent" "text" "Ljava/lang/String;" .null := D246 (Or.inl (hw _ (List.mem_of_getElem? (i := 88) rfl))) (ty := (.object "java/lang/String")) (by decide)
  have F246_namespace : Fld Z h246 a246 "com/example/dipper/dipper/stream/ScannedEvent" "namespace" "Ljava/lang/String;" .null := D246 (Or.inl (hw _ (List.mem_of_getElem? (i := 90) rfl))) (ty := (.object "java/lang/String")) (by decide)
  have F246_localName : Fld Z h246 a246 "com/example/dipper/dipper/stream/ScannedEvent" "localName" "Ljava/lang/String;" .null := D246 (Or.inl (hw _ (List.mem_of_getElem? (i := 92) rfl))) (ty := (.object "java/lang/String")) (by decide)
  have F246_qualifiedName : Fld Z h246 a246 "com/example/dipper/dipper/stream/ScannedEvent" "qualifiedName" "Ljava/lang/String;" .null := D246 (Or.inl (hw _ (List.mem_of_getElem? (i := 94) rfl))) (ty := (.object "java/lang/String")) (by decide)
  have gn246 : n0 ≤ a246 := by rw [g246]; exact Zz243
  have go246 : Array.size h0 ≤ a246 := by rw [g246]; exact (K243).1
  have ne_a236_a246 : a236 ≠ a246 := fun q => absurd (q ▸ V243_a236.1.lt) (by rw [g246]; exact Nat.lt_irrefl _)
  have ne_a241_a246 : a241 ≠ a246 := fun q => absurd (q ▸ V243_a241.1.lt) (by rw [g246]; exact Nat.lt_irrefl _)
  have F246c_q_x0 := F243_q_x0.ext E246
  have F246c_q_x1 := F243_q_x1.ext E246
  have F246c_q_x2 := F243_q_x2.ext E246
  have F246c_q_x3 := F243_q_x3.ext E246
  have F246c_q_x4 := F243_q_x4.ext E246
  have F246c_q_x5 := F243_q_x5.ext E246
  have F246c_q_x6 := F243_q_x6.ext E246
  have F246c_q_x7 := F243_q_x7.ext E246
  have E246c_q := E243_q.ext E246
  have R246c_a228 := R243x.ext E246
  have V246c_a236 := V243_a236.ext E246
  have V246c_a241 := V243_a241.ext E246
  have K246c := Keep.ext K243 E246
  have Zz246c : n0 ≤ Array.size h246 := Nat.le_trans Zz243 E246.1
  have V246 : own_Ev Z h246 a246 (0 : Int32) .null (0 : Int32) (0 : Int32) .null .null .null .null := ⟨A246, F246_type, F246_characters, F246_start, F246_length, F246_text, F246_namespace, F246_localName, F246_qualifiedName⟩
  refine own_dup (pc' := 56) X246 hx (hb hby d1_55) rfl rfl ?_
  obtain ⟨_, _, ⟨T247, L247, k247, n247⟩, -, X247, ⟨Lc247, hQ247, l247, y247, z247⟩, st247⟩ := X246.specialBack hx (y := (⟨"com/example/dipper/dipper/stream/ScannedEvent", "<init>", "()V"⟩ : MethodName)) rfl hown (mvT hZ (hw _ (List.mem_of_getElem? (i := 24) rfl))) (mvT hZ (hw _ (List.mem_of_getElem? (i := 25) rfl))) (mvT hZ (hw _ (List.mem_of_getElem? (i := 26) rfl))) (by decide) (backOf (W := 3) (rm_1 l Z a0 hw [] a246 h246 n0 Zz246c) hZ (hw _ (List.mem_of_getElem? (i := 26) rfl)) (hw _ (List.mem_of_getElem? (i := 23) rfl)) (by decide) (by decide)) (g := (mkF m 56 #[.val (.ref q), .val (.int (1 : Int32)), .val (.null), .val (.null), .val (.null), .val (.int (2 : Int32))] [(.ref a246), (.ref a246), (.int (2 : Int32)), (.ref a228)])) rfl (by rw [hml]; rfl) (Steps.refl _) (a := a246) (argsL := []) (rest := [(.ref a246), (.int (2 : Int32)), (.ref a228)]) (lenOf pd_1 rfl) rfl (by show 2 * 0 + _ ≤ _; exact Nat.le_of_eq rfl) (hb hby d1_56) (fun _ _ => ⟨rfl, e246, (by decide : 4 + 0 ≤ _), (by decide : 28 + 0 ≤ _)⟩)
  dsimp only [Pt.U, Pt.locs, Pt.cells, Pt.slots] at X247 l247 y247 z247 st247 hQ247
  subst l247 y247 z247
  obtain ⟨rfl, M247, ei247⟩ := hQ247
  have N247 := Fr.app N243 M247
  refine Goes.aft st247 ?_
  show Goes p e below (EndN s 5 36 (Q_23 Z q h0 n0)) T247 (mkF m 59 #[.val (.ref q), .val (.int (1 : Int32)), .val (.null), .val (.null), .val (.null), .val (.int (2 : Int32))] [(.ref a246), (.int (2 : Int32)), (.ref a228)])
  refine own_aastore (pc' := 60) X247 hx hZ ei247 R246c_a228 (hb hby d1_59) V246.1 (k := 2) (by decide) (by decide) (by simp) rfl ?_
  intro T248 h248 X248 e248 W248 R248
  have N248 := Fr.snoc X248 N247 gn228
  have R248x : own_RA Z h248 a228 [.ref a236, .ref a241, .ref a246, .null] := R248
  have E248_q := E246c_q.wr W248
  have F248_q_x0 := F246c_q_x0.other W248 (Or.inl (Ne.symm (own_RA.neQ hw R246c_a228 E246c_q)))
  have F248_q_x1 := F246c_q_x1.other W248 (Or.inl (Ne.symm (own_RA.neQ hw R246c_a228 E246c_q)))
  have F248_q_x2 := F246c_q_x2.other W248 (Or.inl (Ne.symm (own_RA.neQ hw R246c_a228 E246c_q)))
  have F248_q_x3 := F246c_q_x3.other W248 (Or.inl (Ne.symm (own_RA.neQ hw R246c_a228 E246c_q)))
  have F248_q_x4 := F246c_q_x4.other W248 (Or.inl (Ne.symm (own_RA.neQ hw R246c_a228 E246c_q)))
  have F248_q_x5 := F246c_q_x5.other W248 (Or.inl (Ne.symm (own_RA.neQ hw R246c_a228 E246c_q)))
  have F248_q_x6 := F246c_q_x6.other W248 (Or.inl (Ne.symm (own_RA.neQ hw R246c_a228 E246c_q)))
  have F248_q_x7 := F246c_q_x7.other W248 (Or.inl (Ne.symm (own_RA.neQ hw R246c_a228 E246c_q)))
  have V248_a236 := V246c_a236.keep (Keep.of_wr W248) (ninS (Ne.symm (own_RA.neE hw R246c_a228 V246c_a236.1)) nin0)
  have V248_a241 := V246c_a241.keep (Keep.of_wr W248) (ninS (Ne.symm (own_RA.neE hw R246c_a228 V246c_a241.1)) nin0)
  have V248_a246 := V246.keep (Keep.of_wr W248) (ninS (Ne.symm (own_RA.neE hw R246c_a228 V246.1)) nin0)
  have K248 := Keep.wr K246c W248 (Or.inr go228)
  have Zz248 : n0 ≤ Array.size h248 := by rw [W248.size]; exact Zz246c
  show Goes p e below (EndN s 5 36 (Q_23 Z q h0 n0)) T248 (mkF m 60 #[.val (.ref q), .val (.int (1 : Int32)), .val (.null), .val (.null), .val (.null), .val (.int (2 : Int32))] [])
  refine own_iinc (pc' := 63) X248 hx (hb hby d1_60) rfl (y := (3 : Int32)) (by decide) (Ls' := #[.val (.ref q), .val (.int (1 : Int32)), .val (.null), .val (.null), .val (.null), .val (.int (3 : Int32))]) rfl rfl ?_
  refine own_goto X248 hx (hb hby d1_63) (by decide) (pc' := 36) (by decide) ?_
  refine own_iload (pc' := 38) X248 hx (hb hby d1_36) rfl rfl ?_
  refine own_aloadN (pc' := 39) X248 hx (hb hby d1_38) rfl rfl rfl ?_
  obtain ⟨T249, X249, e249, st249⟩ := getF X248 hx hZ hown (host := "") (Or.inl (hw _ (List.mem_of_getElem? (i := 12) rfl))) Via.refl e248 F248_q_x0 (g := (mkF m 39 #[.val (.ref q), .val (.int (1 : Int32)), .val (.null), .val (.null), .val (.null), .val (.int (3 : Int32))] [(.ref q), (.int (3 : Int32))])) rfl rfl (hb hby d1_39)
  refine Goes.pre st249 ?_
  show Goes p e below (EndN s 5 36 (Q_23 Z q h0 n0)) T249 (mkF m 42 #[.val (.ref q), .val (.int (1 : Int32)), .val (.null), .val (.null), .val (.null), .val (.int (3 : Int32))] [(.ref a228), (.int (3 : Int32))])
  refine own_alenR (pc' := 43) X249 hx hZ e249 R248x (hb hby d1_42) (n := (4 : Int32)) rfl rfl ?_
  refine own_icmpN (pc' := 46) X249 hx (hb hby d1_43) (by decide) rfl ?_
  refine own_aloadN (pc' := 47) X249 hx (hb hby d1_46) rfl rfl rfl ?_
  obtain ⟨T250, X250, e250, st250⟩ := getF X249 hx hZ hown (host := "") (Or.inl (hw _ (List.mem_of_getElem? (i := 12) rfl))) Via.refl e249 F248_q_x0 (g := (mkF m 47 #[.val (.ref q), .val (.int (1 : Int32)), .val (.null), .val (.null), .val (.null), .val (.int (3 : Int32))] [(.ref q)])) rfl rfl (hb hby d1_47)
  refine Goes.pre st250 ?_
  show Goes p e below (EndN s 5 36 (Q_23 Z q h0 n0)) T250 (mkF m 50 #[.val (.ref q), .val (.int (1 : Int32)), .val (.null), .val (.null), .val (.null), .val (.int (3 : Int32))] [(.ref a228)])
  refine own_iload (pc' := 52) X250 hx (hb hby d1_50) rfl rfl ?_
  obtain ⟨T251, h251, X251, e251, E251, A251, D251, -, st251⟩ := newO X250 hx hZ hown (hw _ (List.mem_of_getElem? (i := 10) rfl)) (hw _ (List.mem_of_getElem? (i := 22) rfl)) (hw _ (List.mem_of_getElem? (i := 23) rfl)) e250 (g := (mkF m 52 #[.val (.ref q), .val (.int (1 : Int32)), .val (.null), .val (.null), .val (.null), .val (.int (3 : Int32))] [(.int (3 : Int32)), (.ref a228)])) rfl (hb hby d1_52) (by decide) (by decide)
  obtain ⟨a251, g251⟩ : ∃ z, z = Array.size (h248) := ⟨_, rfl⟩
  rw [← g251] at A251 D251 st251
  refine Goes.pre st251 ?_
  show Goes p e below (EndN s 5 36 (Q_23 Z q h0 n0)) T251 (mkF m 55 #[.val (.ref q), .val (.int (1 : Int32)), .val (.null), .val (.null), .val (.null), .val (.int (3 : Int32))] [(.ref a251), (.int (3 : Int32)), (.ref a228)])
  have F251_type : Fld Z h251 a251 "com/example/dipper/dipper/stream/ScannedEvent" "type" "I" (.int (0 : Int32)) := D251 (Or.inl (hw _ (List.mem_of_getElem? (i := 80) rfl))) (ty := .int) (by decide)
  have F251_characters : Fld Z h251 a251 "com/example/dipper/dipper/stream/ScannedEvent" "characters" "[C" .null := D251 (Or.inl (hw _ (List.mem_of_getElem? (i := 82) rfl))) (ty := (.array .char)) (by decide)
  have F251_start : Fld Z h251 a251 "com/example/dipper/dipper/stream/ScannedEvent" "start" "I" (.int (0 : Int32)) := D251 (Or.inl (hw _ (List.mem_of_getElem? (i := 84) rfl))) (ty := .int) (by decide)
  have F251_length : Fld Z h251 a251 "com/example/dipper/dipper/stream/ScannedEvent" "length" "I" (.int (0 : Int32)) := D251 (Or.inl (hw _ (List.mem_of_getElem? (i := 86) rfl))) (ty := .int) (by decide)
  have F251_text : Fld Z h251 a251 "com/example/dipper/dipper/stream/ScannedEvent" "text" "Ljava/lang/String;" .null := D251 (Or.inl (hw _ (List.mem_of_getElem? (i := 88) rfl))) (ty := (.object "java/lang/String")) (by decide)
  have F251_namespace : Fld Z h251 a251 "com/example/dipper/dipper/stream/ScannedEvent" "namespace" "Ljava/lang/String;" .null := D251 (Or.inl (hw _ (List.mem_of_getElem? (i := 90) rfl))) (ty := (.object "java/lang/String")) (by decide)
  have F251_localName : Fld Z h251 a251 "com/example/dipper/dipper/stream/ScannedEvent" "localName" "Ljava/lang/String;" .null := D251 (Or.inl (hw _ (List.mem_of_getElem? (i := 92) rfl))) (ty := (.object "java/lang/String")) (by decide)
  have F251_qualifiedName : Fld Z h251 a251 "com/example/dipper/dipper/stream/ScannedEvent" "qualifiedName" "Ljava/lang/String;" .null := D251 (Or.inl (hw _ (List.mem_of_getElem? (i := 94) rfl))) (ty := (.object "java/lang/String")) (by decide)
  have gn251 : n0 ≤ a251 := by rw [g251]; exact Zz248
  have go251 : Array.size h0 ≤ a251 := by rw [g251]; exact (K248).1
  have ne_a236_a251 : a236 ≠ a251 := fun q => absurd (q ▸ V248_a236.1.lt) (by rw [g251]; exact Nat.lt_irrefl _)
  have ne_a241_a251 : a241 ≠ a251 := fun q => absurd (q ▸ V248_a241.1.lt) (by rw [g251]; exact Nat.lt_irrefl _)
  have ne_a246_a251 : a246 ≠ a251 := fun q => absurd (q ▸ V248_a246.1.lt) (by rw [g251]; exact Nat.lt_irrefl _)
  have F251c_q_x0 := F248_q_x0.ext E251
  have F251c_q_x1 := F248_q_x1.ext E251
  have F251c_q_x2 := F248_q_x2.ext E251
  have F251c_q_x3 := F248_q_x3.ext E251
  have F251c_q_x4 := F248_q_x4.ext E251
  have F251c_q_x5 := F248_q_x5.ext E251
  have F251c_q_x6 := F248_q_x6.ext E251
  have F251c_q_x7 := F248_q_x7.ext E251
  have E251c_q := E248_q.ext E251
  have R251c_a228 := R248x.ext E251
  have V251c_a236 := V248_a236.ext E251
  have V251c_a241 := V248_a241.ext E251
  have V251c_a246 := V248_a246.ext E251
  have K251c := Keep.ext K248 E251
  have Zz251c : n0 ≤ Array.size h251 := Nat.le_trans Zz248 E251.1
  have V251 : own_Ev Z h251 a251 (0 : Int32) .null (0 : Int32) (0 : Int32) .null .null .null .null := ⟨A251, F251_type, F251_characters, F251_start, F251_length, F251_text, F251_namespace, F251_localName, F251_qualifiedName⟩
  refine own_dup (pc' := 56) X251 hx (hb hby d1_55) rfl rfl ?_
  obtain ⟨_, _, ⟨T252, L252, k252, n252⟩, -, X252, ⟨Lc252, hQ252, l252, y252, z252⟩, st252⟩ := X251.specialBack hx (y := (⟨"com/example/dipper/dipper/stream/ScannedEvent", "<init>", "()V"⟩ : MethodName)) rfl hown (mvT hZ (hw _ (List.mem_of_getElem? (i := 24) rfl))) (mvT hZ (hw _ (List.mem_of_getElem? (i := 25) rfl))) (mvT hZ (hw _ (List.mem_of_getElem? (i := 26) rfl))) (by decide) (backOf (W := 3) (rm_1 l Z a0 hw [] a251 h251 n0 Zz251c) hZ (hw _ (List.mem_of_getElem? (i := 26) rfl)) (hw _ (List.mem_of_getElem? (i := 23) rfl)) (by decide) (by decide)) (g := (mkF m 56 #[.val (.ref q), .val (.int (1 : Int32)), .val (.null), .val (.null), .val (.null), .val (.int (3 : Int32))] [(.ref a251), (.ref a251), (.int (3 : Int32)), (.ref a228)])) rfl (by rw [hml]; rfl) (Steps.refl _) (a := a251) (argsL := []) (rest := [(.ref a251), (.int (3 : Int32)), (.ref a228)]) (lenOf pd_1 rfl) rfl (by show 2 * 0 + _ ≤ _; exact Nat.le_of_eq rfl) (hb hby d1_56) (fun _ _ => ⟨rfl, e251, (by decide : 5 + 0 ≤ _), (by decide : 36 + 0 ≤ _)⟩)
  dsimp only [Pt.U, Pt.locs, Pt.cells, Pt.slots] at X252 l252 y252 z252 st252 hQ252
  subst l252 y252 z252
  obtain ⟨rfl, M252, ei252⟩ := hQ252
  have N252 := Fr.app N248 M252
  refine Goes.aft st252 ?_
  show Goes p e below (EndN s 5 36 (Q_23 Z q h0 n0)) T252 (mkF m 59 #[.val (.ref q), .val (.int (1 : Int32)), .val (.null), .val (.null), .val (.null), .val (.int (3 : Int32))] [(.ref a251), (.int (3 : Int32)), (.ref a228)])
  refine own_aastore (pc' := 60) X252 hx hZ ei252 R251c_a228 (hb hby d1_59) V251.1 (k := 3) (by decide) (by decide) (by simp) rfl ?_
  intro T253 h253 X253 e253 W253 R253
  have N253 := Fr.snoc X253 N252 gn228
  have R253x : own_RA Z h253 a228 [.ref a236, .ref a241, .ref a246, .ref a251] := R253
  have E253_q := E251c_q.wr W253
  have F253_q_x0 := F251c_q_x0.other W253 (Or.inl (Ne.symm (own_RA.neQ hw R251c_a228 E251c_q)))
  have F253_q_x1 := F251c_q_x1.other W253 (Or.inl (Ne.symm (own_RA.neQ hw R251c_a228 E251c_q)))
  have F253_q_x2 := F251c_q_x2.other W253 (Or.inl (Ne.symm (own_RA.neQ hw R251c_a228 E251c_q)))
  have F253_q_x3 := F251c_q_x3.other W253 (Or.inl (Ne.symm (own_RA.neQ hw R251c_a228 E251c_q)))
  have F253_q_x4 := F251c_q_x4.other W253 (Or.inl (Ne.symm (own_RA.neQ hw R251c_a228 E251c_q)))
  have F253_q_x5 := F251c_q_x5.other W253 (Or.inl (Ne.symm (own_RA.neQ hw R251c_a228 E251c_q)))
  have F253_q_x6 := F251c_q_x6.other W253 (Or.inl (Ne.symm (own_RA.neQ hw R251c_a228 E251c_q)))
  have F253_q_x7 := F251c_q_x7.other W253 (Or.inl (Ne.symm (own_RA.neQ hw R251c_a228 E251c_q)))
  have V253_a236 := V251c_a236.keep (Keep.of_wr W253) (ninS (Ne.symm (own_RA.neE hw R251c_a228 V251c_a236.1)) nin0)
  have V253_a241 := V251c_a241.keep (Keep.of_wr W253) (ninS (Ne.symm (own_RA.neE hw R251c_a228 V251c_a241.1)) nin0)
  have V253_a246 := V251c_a246.keep (Keep.of_wr W253) (ninS (Ne.symm (own_RA.neE hw R251c_a228 V251c_a246.1)) nin0)
  have V253_a251 := V251.keep (Keep.of_wr W253) (ninS (Ne.symm (own_RA.neE hw R251c_a228 V251.1)) nin0)
  have K253 := Keep.wr K251c W253 (Or.inr go228)
  have Zz253 : n0 ≤ Array.size h253 := by rw [W253.size]; exact Zz251c
  show Goes p e below (EndN s 5 36 (Q_23 Z q h0 n0)) T253 (mkF m 60 #[.val (.ref q), .val (.int (1 : Int32)), .val (.null), .val (.null), .val (.null), .val (.int (3 : Int32))] [])
  refine own_iinc (pc' := 63) X253 hx (hb hby d1_60) rfl (y := (4 : Int32)) (by decide) (Ls' := #[.val (.ref q), .val (.int (1 : Int32)), .val (.null), .val (.null), .val (.null), .val (.int (4 : Int32))]) rfl rfl ?_
  refine own_goto X253 hx (hb hby d1_63) (by decide) (pc' := 36) (by decide) ?_
  refine own_iload (pc' := 38) X253 hx (hb hby d1_36) rfl rfl ?_
  refine own_aloadN (pc' := 39) X253 hx (hb hby d1_38) rfl rfl rfl ?_
  obtain ⟨T254, X254, e254, st254⟩ := getF X253 hx hZ hown (host := "") (Or.inl (hw _ (List.mem_of_getElem? (i := 12) rfl))) Via.refl e253 F253_q_x0 (g := (mkF m 39 #[.val (.ref q), .val (.int (1 : Int32)), .val (.null), .val (.null), .val (.null), .val (.int (4 : Int32))] [(.ref q), (.int (4 : Int32))])) rfl rfl (hb hby d1_39)
  refine Goes.pre st254 ?_
  show Goes p e below (EndN s 5 36 (Q_23 Z q h0 n0)) T254 (mkF m 42 #[.val (.ref q), .val (.int (1 : Int32)), .val (.null), .val (.null), .val (.null), .val (.int (4 : Int32))] [(.ref a228), (.int (4 : Int32))])
  refine own_alenR (pc' := 43) X254 hx hZ e254 R253x (hb hby d1_42) (n := (4 : Int32)) rfl rfl ?_
  refine own_icmpY X254 hx (hb hby d1_43) (by decide) (by decide) (pc' := 66) (by decide) ?_
  exact own_ret0 X254 hx hlk Bd.returns (hb hby d1_66) (by decide) (by decide) (by rw [e254]; exact ⟨rfl, N253, K253, a228, a236, a241, a246, a251, ⟨E253_q, F253_q_x0, F253_q_x5, F253_q_x6, F253_q_x7, R253x⟩, V253_a236, V253_a241, V253_a246, V253_a251, ne_a236_a241, ne_a236_a246, ne_a236_a251, ne_a241_a246, ne_a241_a251, ne_a246_a251, go228, go236, go241, go246, go251⟩)
def own_st (w : Int32) : Int32 := (((w).toUInt32 >>> ((3 : Int32) &&& 31).toUInt32).toInt32) &&& (3 : Int32)
def own_ln (w : Int32) : Int32 := (((w).toUInt32 >>> ((5 : Int32) &&& 31).toUInt32).toInt32) &&& (3 : Int32)
def own_cv (w : Int32) : Int32 := (((((w).toUInt32 >>> ((7 : Int32) &&& 31).toUInt32).toInt32) &&& (255 : Int32)).toUInt32.toUInt16.toUInt32.toInt32)
theorem own_cv255 (w : Int32) : ¬ (255 : Int32) < own_cv w := by
  unfold own_cv
  rw [i2c_mask]
  have k := c_mask (((w).toUInt32 >>> ((7 : Int32) &&& 31).toUInt32).toInt32) (255 : Int32) 8 (by decide) (by decide)
  have t : (255 : Int32).toInt = 255 := by decide
  rw [Int32.lt_iff_toInt_lt, k, t]
  omega
theorem own_k7 (q : Int32) : (q &&& (7 : Int32)) = (0 : Int32) ∨ (q &&& (7 : Int32)) = (1 : Int32) ∨ (q &&& (7 : Int32)) = (2 : Int32) ∨ (q &&& (7 : Int32)) = (3 : Int32) ∨ (q &&& (7 : Int32)) = (4 : Int32) ∨ (q &&& (7 : Int32)) = (5 : Int32) ∨ (q &&& (7 : Int32)) = (6 : Int32) ∨ (q &&& (7 : Int32)) = (7 : Int32) := by
  have hm := c_mask q 7 3 (by decide) (by decide)
  generalize (q &&& (7 : Int32)) = k at *
  simp only [← Int32.toInt_inj, Int32.reduceToInt]
  omega
def own_Is (Z : State) (h : Heap) (ev : Addr) (w : Int32) (x1 : Addr) : Prop := ∃ (ty : Int32) (ch : Value) (sa : Int32) (ln : Int32) (tx : Value) (ns : Value) (lo : Value) (qn : Value), own_Ev Z h ev ty ch sa ln tx ns lo qn ∧ (((w &&& (7 : Int32)) = (0 : Int32) ∧ ty = (4 : Int32) ∧ ch = .ref x1 ∧ sa = own_st w ∧ ln = own_ln w) ∨ ((w &&& (7 : Int32)) = (1 : Int32) ∧ ty = (12 : Int32) ∧ ch = .ref x1 ∧ sa = own_st w ∧ ln = own_ln w) ∨ ((w &&& (7 : Int32)) = (2 : Int32) ∧ ty = (5 : Int32) ∧ ch = .ref x1 ∧ sa = own_st w ∧ ln = own_ln w) ∨ ((w &&& (7 : Int32)) = (3 : Int32) ∧ ty = (3 : Int32) ∧ ∃ a1 a2 : Addr, lo = .ref a1 ∧ tx = .ref a2 ∧ own_StrV Z h a1 [own_bt (own_cv w)] ∧ own_StrV Z h a2 [own_bt (own_cv w)]) ∨ ((w &&& (7 : Int32)) = (4 : Int32) ∧ ty = (2 : Int32) ∧ ∃ a1 a2 a3 : Addr, ns = .ref a1 ∧ lo = .ref a2 ∧ qn = .ref a3 ∧ own_StrV Z h a1 [own_bt (own_cv w)] ∧ own_StrV Z h a2 [own_bt (own_cv w)] ∧ own_StrV Z h a3 [own_bt (own_cv w)]) ∨ ((w &&& (7 : Int32)) = (5 : Int32) ∧ ty = (11 : Int32) ∧ ∃ a1 : Addr, tx = .ref a1 ∧ own_StrV Z h a1 [own_bt (own_cv w)]) ∨ ((w &&& (7 : Int32)) = (6 : Int32) ∧ ty = (9 : Int32) ∧ ∃ a1 a2 : Addr, lo = .ref a1 ∧ tx = .ref a2 ∧ own_StrV Z h a1 [own_bt (own_cv w)] ∧ own_StrV Z h a2 []) ∨ ((w &&& (7 : Int32)) = (7 : Int32) ∧ ty = (11 : Int32) ∧ ∃ a1 : Addr, tx = .ref a1 ∧ own_StrV Z h a1 []))
theorem own_Is.exa {Z : State} {h : Heap} {ev x1 : Addr} {w : Int32} (F : own_Is Z h ev w x1) : Exa Z h ev "com/example/dipper/dipper/stream/ScannedEvent" := by
  obtain ⟨_, _, _, _, _, _, _, _, V, -⟩ := F
  exact V.1
theorem own_Is.keep {Z : State} {a0 : Array Value} {h h' : Heap} {ev x1 : Addr} {w : Int32} {us : List Addr} (hw : ∀ d ∈ tables_1, d.before a0 Z = true) (F : own_Is Z h ev w x1) (K : Keep h h' us) (W : own_W Z h us) (q : ev ∉ us) : own_Is Z h' ev w x1 := by
  obtain ⟨ty, ch, sa, ln, tx, ns, lo, qn, V, F⟩ := F
  refine ⟨ty, ch, sa, ln, tx, ns, lo, qn, V.keep K q, ?_⟩
  rcases F with F | F | F | ⟨k, t, a1, a2, l1, l2, S1, S2⟩ | ⟨k, t, a1, a2, a3, l1, l2, l3, S1, S2, S3⟩ | ⟨k, t, a1, l1, S1⟩ | ⟨k, t, a1, a2, l1, l2, S1, S2⟩ | ⟨k, t, a1, l1, S1⟩
  · exact Or.inl F
  · exact Or.inr (Or.inl F)
  · exact Or.inr (Or.inr (Or.inl F))
  · exact Or.inr (Or.inr (Or.inr (Or.inl ⟨k, t, a1, a2, l1, l2, S1.keep hw K W, S2.keep hw K W⟩)))
  · exact Or.inr (Or.inr (Or.inr (Or.inr (Or.inl ⟨k, t, a1, a2, a3, l1, l2, l3, S1.keep hw K W, S2.keep hw K W, S3.keep hw K W⟩))))
  · exact Or.inr (Or.inr (Or.inr (Or.inr (Or.inr (Or.inl ⟨k, t, a1, l1, S1.keep hw K W⟩)))))
  · exact Or.inr (Or.inr (Or.inr (Or.inr (Or.inr (Or.inr (Or.inl ⟨k, t, a1, a2, l1, l2, S1.keep hw K W, S2.keep hw K W⟩))))))
  · exact Or.inr (Or.inr (Or.inr (Or.inr (Or.inr (Or.inr (Or.inr ⟨k, t, a1, l1, S1.keep hw K W⟩))))))
theorem d15_0 : decode method_3_code 0 = .ok (.iload_n 1, 1) := by decide +kernel
theorem d15_1 : decode method_3_code 1 = .ok (.bipush 7, 2) := by decide +kernel
theorem d15_3 : decode method_3_code 3 = .ok (.iand, 1) := by decide +kernel
theorem d15_4 : decode method_3_code 4 = .ok (.istore_n 3, 1) := by decide +kernel
theorem d15_5 : decode method_3_code 5 = .ok (.iload_n 1, 1) := by decide +kernel
theorem d15_6 : decode method_3_code 6 = .ok (.iconst 3, 1) := by decide +kernel
theorem d15_7 : decode method_3_code 7 = .ok (.iushr, 1) := by decide +kernel
theorem d15_8 : decode method_3_code 8 = .ok (.iconst 3, 1) := by decide +kernel
theorem d15_9 : decode method_3_code 9 = .ok (.iand, 1) := by decide +kernel
theorem d15_10 : decode method_3_code 10 = .ok (.istore 4, 2) := by decide +kernel
theorem d15_12 : decode method_3_code 12 = .ok (.iload_n 1, 1) := by decide +kernel
theorem d15_13 : decode method_3_code 13 = .ok (.iconst 5, 1) := by decide +kernel
theorem d15_14 : decode method_3_code 14 = .ok (.iushr, 1) := by decide +kernel
theorem d15_15 : decode method_3_code 15 = .ok (.iconst 3, 1) := by decide +kernel
theorem d15_16 : decode method_3_code 16 = .ok (.iand, 1) := by decide +kernel
theorem d15_17 : decode method_3_code 17 = .ok (.istore 5, 2) := by decide +kernel
theorem d15_19 : decode method_3_code 19 = .ok (.iload_n 1, 1) := by decide +kernel
theorem d15_20 : decode method_3_code 20 = .ok (.bipush 7, 2) := by decide +kernel
theorem d15_22 : decode method_3_code 22 = .ok (.iushr, 1) := by decide +kernel
theorem d15_23 : decode method_3_code 23 = .ok (.sipush 255, 3) := by decide +kernel
theorem d15_26 : decode method_3_code 26 = .ok (.iand, 1) := by decide +kernel
theorem d15_27 : decode method_3_code 27 = .ok (.i2c, 1) := by decide +kernel
theorem d15_28 : decode method_3_code 28 = .ok (.invokestatic 7, 3) := by decide +kernel
theorem d15_31 : decode method_3_code 31 = .ok (.astore 6, 2) := by decide +kernel
theorem d15_33 : decode method_3_code 33 = .ok (.iload_n 3, 1) := by decide +kernel
theorem d15_34 : decode method_3_code 34 = .ok (.ifCond .ne 43, 3) := by decide +kernel
theorem d15_37 : decode method_3_code 37 = .ok (.aload_n 0, 1) := by decide +kernel
theorem d15_38 : decode method_3_code 38 = .ok (.getfield 40, 3) := by decide +kernel
theorem d15_41 : decode method_3_code 41 = .ok (.iconst 4, 1) := by decide +kernel
theorem d15_42 : decode method_3_code 42 = .ok (.if_icmp .ne 33, 3) := by decide +kernel
theorem d15_45 : decode method_3_code 45 = .ok (.aload_n 0, 1) := by decide +kernel
theorem d15_46 : decode method_3_code 46 = .ok (.getfield 46, 3) := by decide +kernel
theorem d15_49 : decode method_3_code 49 = .ok (.aload_n 2, 1) := by decide +kernel
theorem d15_50 : decode method_3_code 50 = .ok (.if_acmp .ne 25, 3) := by decide +kernel
theorem d15_53 : decode method_3_code 53 = .ok (.aload_n 0, 1) := by decide +kernel
theorem d15_54 : decode method_3_code 54 = .ok (.getfield 49, 3) := by decide +kernel
theorem d15_57 : decode method_3_code 57 = .ok (.iload 4, 2) := by decide +kernel
theorem d15_59 : decode method_3_code 59 = .ok (.if_icmp .ne 16, 3) := by decide +kernel
theorem d15_62 : decode method_3_code 62 = .ok (.aload_n 0, 1) := by decide +kernel
theorem d15_63 : decode method_3_code 63 = .ok (.getfield 52, 3) := by decide +kernel
theorem d15_66 : decode method_3_code 66 = .ok (.iload 5, 2) := by decide +kernel
theorem d15_68 : decode method_3_code 68 = .ok (.if_icmp .ne 7, 3) := by decide +kernel
theorem d15_71 : decode method_3_code 71 = .ok (.iconst 1, 1) := by decide +kernel
theorem d15_72 : decode method_3_code 72 = .ok (.goto 4, 3) := by decide +kernel
theorem d15_75 : decode method_3_code 75 = .ok (.iconst 0, 1) := by decide +kernel
theorem d15_76 : decode method_3_code 76 = .ok (.ireturn, 1) := by decide +kernel
theorem d15_77 : decode method_3_code 77 = .ok (.iload_n 3, 1) := by decide +kernel
theorem d15_78 : decode method_3_code 78 = .ok (.iconst 1, 1) := by decide +kernel
theorem d15_79 : decode method_3_code 79 = .ok (.if_icmp .ne 44, 3) := by decide +kernel
theorem d15_82 : decode method_3_code 82 = .ok (.aload_n 0, 1) := by decide +kernel
theorem d15_83 : decode method_3_code 83 = .ok (.getfield 40, 3) := by decide +kernel
theorem d15_86 : decode method_3_code 86 = .ok (.bipush 12, 2) := by decide +kernel
theorem d15_88 : decode method_3_code 88 = .ok (.if_icmp .ne 33, 3) := by decide +kernel
theorem d15_91 : decode method_3_code 91 = .ok (.aload_n 0, 1) := by decide +kernel
theorem d15_92 : decode method_3_code 92 = .ok (.getfield 46, 3) := by decide +kernel
theorem d15_95 : decode method_3_code 95 = .ok (.aload_n 2, 1) := by decide +kernel
theorem d15_96 : decode method_3_code 96 = .ok (.if_acmp .ne 25, 3) := by decide +kernel
theorem d15_99 : decode method_3_code 99 = .ok (.aload_n 0, 1) := by decide +kernel
theorem d15_100 : decode method_3_code 100 = .ok (.getfield 49, 3) := by decide +kernel
theorem d15_103 : decode method_3_code 103 = .ok (.iload 4, 2) := by decide +kernel
theorem d15_105 : decode method_3_code 105 = .ok (.if_icmp .ne 16, 3) := by decide +kernel
theorem d15_108 : decode method_3_code 108 = .ok (.aload_n 0, 1) := by decide +kernel
theorem d15_109 : decode method_3_code 109 = .ok (.getfield 52, 3) := by decide +kernel
theorem d15_112 : decode method_3_code 112 = .ok (.iload 5, 2) := by decide +kernel
theorem d15_114 : decode method_3_code 114 = .ok (.if_icmp .ne 7, 3) := by decide +kernel
theorem d15_117 : decode method_3_code 117 = .ok (.iconst 1, 1) := by decide +kernel
theorem d15_118 : decode method_3_code 118 = .ok (.goto 4, 3) := by decide +kernel
theorem d15_121 : decode method_3_code 121 = .ok (.iconst 0, 1) := by decide +kernel
theorem d15_122 : decode method_3_code 122 = .ok (.ireturn, 1) := by decide +kernel
theorem d15_123 : decode method_3_code 123 = .ok (.iload_n 3, 1) := by decide +kernel
theorem d15_124 : decode method_3_code 124 = .ok (.iconst 2, 1) := by decide +kernel
theorem d15_125 : decode method_3_code 125 = .ok (.if_icmp .ne 43, 3) := by decide +kernel
theorem d15_128 : decode method_3_code 128 = .ok (.aload_n 0, 1) := by decide +kernel
theorem d15_129 : decode method_3_code 129 = .ok (.getfield 40, 3) := by decide +kernel
theorem d15_132 : decode method_3_code 132 = .ok (.iconst 5, 1) := by decide +kernel
theorem d15_133 : decode method_3_code 133 = .ok (.if_icmp .ne 33, 3) := by decide +kernel
theorem d15_136 : decode method_3_code 136 = .ok (.aload_n 0, 1) := by decide +kernel
theorem d15_137 : decode method_3_code 137 = .ok (.getfield 46, 3) := by decide +kernel
theorem d15_140 : decode method_3_code 140 = .ok (.aload_n 2, 1) := by decide +kernel
theorem d15_141 : decode method_3_code 141 = .ok (.if_acmp .ne 25, 3) := by decide +kernel
theorem d15_144 : decode method_3_code 144 = .ok (.aload_n 0, 1) := by decide +kernel
theorem d15_145 : decode method_3_code 145 = .ok (.getfield 49, 3) := by decide +kernel
theorem d15_148 : decode method_3_code 148 = .ok (.iload 4, 2) := by decide +kernel
theorem d15_150 : decode method_3_code 150 = .ok (.if_icmp .ne 16, 3) := by decide +kernel
theorem d15_153 : decode method_3_code 153 = .ok (.aload_n 0, 1) := by decide +kernel
theorem d15_154 : decode method_3_code 154 = .ok (.getfield 52, 3) := by decide +kernel
theorem d15_157 : decode method_3_code 157 = .ok (.iload 5, 2) := by decide +kernel
theorem d15_159 : decode method_3_code 159 = .ok (.if_icmp .ne 7, 3) := by decide +kernel
theorem d15_162 : decode method_3_code 162 = .ok (.iconst 1, 1) := by decide +kernel
theorem d15_163 : decode method_3_code 163 = .ok (.goto 4, 3) := by decide +kernel
theorem d15_166 : decode method_3_code 166 = .ok (.iconst 0, 1) := by decide +kernel
theorem d15_167 : decode method_3_code 167 = .ok (.ireturn, 1) := by decide +kernel
theorem d15_168 : decode method_3_code 168 = .ok (.iload_n 3, 1) := by decide +kernel
theorem d15_169 : decode method_3_code 169 = .ok (.iconst 3, 1) := by decide +kernel
theorem d15_170 : decode method_3_code 170 = .ok (.if_icmp .ne 41, 3) := by decide +kernel
theorem d15_173 : decode method_3_code 173 = .ok (.aload_n 0, 1) := by decide +kernel
theorem d15_174 : decode method_3_code 174 = .ok (.getfield 40, 3) := by decide +kernel
theorem d15_177 : decode method_3_code 177 = .ok (.iconst 3, 1) := by decide +kernel
theorem d15_178 : decode method_3_code 178 = .ok (.if_icmp .ne 31, 3) := by decide +kernel
theorem d15_181 : decode method_3_code 181 = .ok (.aload 6, 2) := by decide +kernel
theorem d15_183 : decode method_3_code 183 = .ok (.aload_n 0, 1) := by decide +kernel
theorem d15_184 : decode method_3_code 184 = .ok (.getfield 55, 3) := by decide +kernel
theorem d15_187 : decode method_3_code 187 = .ok (.invokevirtual 59, 3) := by decide +kernel
theorem d15_190 : decode method_3_code 190 = .ok (.ifCond .eq 19, 3) := by decide +kernel
theorem d15_193 : decode method_3_code 193 = .ok (.aload 6, 2) := by decide +kernel
theorem d15_195 : decode method_3_code 195 = .ok (.aload_n 0, 1) := by decide +kernel
theorem d15_196 : decode method_3_code 196 = .ok (.getfield 63, 3) := by decide +kernel
theorem d15_199 : decode method_3_code 199 = .ok (.invokevirtual 59, 3) := by decide +kernel
theorem d15_202 : decode method_3_code 202 = .ok (.ifCond .eq 7, 3) := by decide +kernel
theorem d15_205 : decode method_3_code 205 = .ok (.iconst 1, 1) := by decide +kernel
theorem d15_206 : decode method_3_code 206 = .ok (.goto 4, 3) := by decide +kernel
theorem d15_209 : decode method_3_code 209 = .ok (.iconst 0, 1) := by decide +kernel
theorem d15_210 : decode method_3_code 210 = .ok (.ireturn, 1) := by decide +kernel
theorem d15_211 : decode method_3_code 211 = .ok (.iload_n 3, 1) := by decide +kernel
theorem d15_212 : decode method_3_code 212 = .ok (.iconst 4, 1) := by decide +kernel
theorem d15_213 : decode method_3_code 213 = .ok (.if_icmp .ne 53, 3) := by decide +kernel
theorem d15_216 : decode method_3_code 216 = .ok (.aload_n 0, 1) := by decide +kernel
theorem d15_217 : decode method_3_code 217 = .ok (.getfield 40, 3) := by decide +kernel
theorem d15_220 : decode method_3_code 220 = .ok (.iconst 2, 1) := by decide +kernel
theorem d15_221 : decode method_3_code 221 = .ok (.if_icmp .ne 43, 3) := by decide +kernel
theorem d15_224 : decode method_3_code 224 = .ok (.aload 6, 2) := by decide +kernel
theorem d15_226 : decode method_3_code 226 = .ok (.aload_n 0, 1) := by decide +kernel
theorem d15_227 : decode method_3_code 227 = .ok (.getfield 66, 3) := by decide +kernel
theorem d15_230 : decode method_3_code 230 = .ok (.invokevirtual 59, 3) := by decide +kernel
theorem d15_233 : decode method_3_code 233 = .ok (.ifCond .eq 31, 3) := by decide +kernel
theorem d15_236 : decode method_3_code 236 = .ok (.aload 6, 2) := by decide +kernel
theorem d15_238 : decode method_3_code 238 = .ok (.aload_n 0, 1) := by decide +kernel
theorem d15_239 : decode method_3_code 239 = .ok (.getfield 55, 3) := by decide +kernel
theorem d15_242 : decode method_3_code 242 = .ok (.invokevirtual 59, 3) := by decide +kernel
theorem d15_245 : decode method_3_code 245 = .ok (.ifCond .eq 19, 3) := by decide +kernel
theorem d15_248 : decode method_3_code 248 = .ok (.aload 6, 2) := by decide +kernel
theorem d15_250 : decode method_3_code 250 = .ok (.aload_n 0, 1) := by decide +kernel
theorem d15_251 : decode method_3_code 251 = .ok (.getfield 69, 3) := by decide +kernel
theorem d15_254 : decode method_3_code 254 = .ok (.invokevirtual 59, 3) := by decide +kernel
theorem d15_257 : decode method_3_code 257 = .ok (.ifCond .eq 7, 3) := by decide +kernel
theorem d15_260 : decode method_3_code 260 = .ok (.iconst 1, 1) := by decide +kernel
theorem d15_261 : decode method_3_code 261 = .ok (.goto 4, 3) := by decide +kernel
theorem d15_264 : decode method_3_code 264 = .ok (.iconst 0, 1) := by decide +kernel
theorem d15_265 : decode method_3_code 265 = .ok (.ireturn, 1) := by decide +kernel
theorem d15_266 : decode method_3_code 266 = .ok (.iload_n 3, 1) := by decide +kernel
theorem d15_267 : decode method_3_code 267 = .ok (.iconst 5, 1) := by decide +kernel
theorem d15_268 : decode method_3_code 268 = .ok (.if_icmp .ne 30, 3) := by decide +kernel
theorem d15_271 : decode method_3_code 271 = .ok (.aload_n 0, 1) := by decide +kernel
theorem d15_272 : decode method_3_code 272 = .ok (.getfield 40, 3) := by decide +kernel
theorem d15_275 : decode method_3_code 275 = .ok (.bipush 11, 2) := by decide +kernel
theorem d15_277 : decode method_3_code 277 = .ok (.if_icmp .ne 19, 3) := by decide +kernel
theorem d15_280 : decode method_3_code 280 = .ok (.aload 6, 2) := by decide +kernel
theorem d15_282 : decode method_3_code 282 = .ok (.aload_n 0, 1) := by decide +kernel
theorem d15_283 : decode method_3_code 283 = .ok (.getfield 63, 3) := by decide +kernel
theorem d15_286 : decode method_3_code 286 = .ok (.invokevirtual 59, 3) := by decide +kernel
theorem d15_289 : decode method_3_code 289 = .ok (.ifCond .eq 7, 3) := by decide +kernel
theorem d15_292 : decode method_3_code 292 = .ok (.iconst 1, 1) := by decide +kernel
theorem d15_293 : decode method_3_code 293 = .ok (.goto 4, 3) := by decide +kernel
theorem d15_296 : decode method_3_code 296 = .ok (.iconst 0, 1) := by decide +kernel
theorem d15_297 : decode method_3_code 297 = .ok (.ireturn, 1) := by decide +kernel
theorem d15_298 : decode method_3_code 298 = .ok (.iload_n 3, 1) := by decide +kernel
theorem d15_299 : decode method_3_code 299 = .ok (.bipush 6, 2) := by decide +kernel
theorem d15_301 : decode method_3_code 301 = .ok (.if_icmp .ne 47, 3) := by decide +kernel
theorem d15_304 : decode method_3_code 304 = .ok (.aload_n 0, 1) := by decide +kernel
theorem d15_305 : decode method_3_code 305 = .ok (.getfield 40, 3) := by decide +kernel
theorem d15_308 : decode method_3_code 308 = .ok (.bipush 9, 2) := by decide +kernel
theorem d15_310 : decode method_3_code 310 = .ok (.if_icmp .ne 36, 3) := by decide +kernel
theorem d15_313 : decode method_3_code 313 = .ok (.aload 6, 2) := by decide +kernel
theorem d15_315 : decode method_3_code 315 = .ok (.aload_n 0, 1) := by decide +kernel
theorem d15_316 : decode method_3_code 316 = .ok (.getfield 55, 3) := by decide +kernel
theorem d15_319 : decode method_3_code 319 = .ok (.invokevirtual 59, 3) := by decide +kernel
theorem d15_322 : decode method_3_code 322 = .ok (.ifCond .eq 24, 3) := by decide +kernel
theorem d15_325 : decode method_3_code 325 = .ok (.aload_n 0, 1) := by decide +kernel
theorem d15_326 : decode method_3_code 326 = .ok (.getfield 63, 3) := by decide +kernel
theorem d15_329 : decode method_3_code 329 = .ok (.ifnull 17, 3) := by decide +kernel
theorem d15_332 : decode method_3_code 332 = .ok (.aload_n 0, 1) := by decide +kernel
theorem d15_333 : decode method_3_code 333 = .ok (.getfield 63, 3) := by decide +kernel
theorem d15_336 : decode method_3_code 336 = .ok (.invokevirtual 72, 3) := by decide +kernel
theorem d15_339 : decode method_3_code 339 = .ok (.ifCond .eq 7, 3) := by decide +kernel
theorem d15_342 : decode method_3_code 342 = .ok (.iconst 1, 1) := by decide +kernel
theorem d15_343 : decode method_3_code 343 = .ok (.goto 4, 3) := by decide +kernel
theorem d15_346 : decode method_3_code 346 = .ok (.iconst 0, 1) := by decide +kernel
theorem d15_347 : decode method_3_code 347 = .ok (.ireturn, 1) := by decide +kernel
theorem d15_348 : decode method_3_code 348 = .ok (.aload_n 0, 1) := by decide +kernel
theorem d15_349 : decode method_3_code 349 = .ok (.getfield 40, 3) := by decide +kernel
theorem d15_352 : decode method_3_code 352 = .ok (.bipush 11, 2) := by decide +kernel
theorem d15_354 : decode method_3_code 354 = .ok (.if_icmp .ne 24, 3) := by decide +kernel
theorem d15_357 : decode method_3_code 357 = .ok (.aload_n 0, 1) := by decide +kernel
theorem d15_358 : decode method_3_code 358 = .ok (.getfield 63, 3) := by decide +kernel
theorem d15_361 : decode method_3_code 361 = .ok (.ifnull 17, 3) := by decide +kernel
theorem d15_364 : decode method_3_code 364 = .ok (.aload_n 0, 1) := by decide +kernel
theorem d15_365 : decode method_3_code 365 = .ok (.getfield 63, 3) := by decide +kernel
theorem d15_368 : decode method_3_code 368 = .ok (.invokevirtual 72, 3) := by decide +kernel
theorem d15_371 : decode method_3_code 371 = .ok (.ifCond .eq 7, 3) := by decide +kernel
theorem d15_374 : decode method_3_code 374 = .ok (.iconst 1, 1) := by decide +kernel
theorem d15_375 : decode method_3_code 375 = .ok (.goto 4, 3) := by decide +kernel
theorem d15_378 : decode method_3_code 378 = .ok (.iconst 0, 1) := by decide +kernel
theorem d15_379 : decode method_3_code 379 = .ok (.ireturn, 1) := by decide +kernel
theorem pn_24 : plainFor (⟨"com/example/dipper/dipper/stream/ScannedEventsTakePinLaw", "is", "(Lcom/example/dipper/dipper/stream/ScannedEvent;I[C)Z"⟩ : MethodName) = true := by first | (refine plainFor_of_name ?_; simp [plainName, overriddenIn]; done) | decide +kernel
theorem pd_24 : parseMethodDescriptor "(Lcom/example/dipper/dipper/stream/ScannedEvent;I[C)Z" = some ⟨[(.object "com/example/dipper/dipper/stream/ScannedEvent"), .int, (.array .char)], some .boolean⟩ := by decide +kernel
theorem ef_24 (m : MethodId) (ev : Addr) (w1 : Int32) (x1 : Addr) : entryFrame m #[(.ref ev), (.int w1), (.ref x1)] 7 = mkF m 0 #[.val (.ref ev), .val (.int w1), .val (.ref x1), .unset, .unset, .unset, .unset] [] := by first | (simp [entryFrame, mkF, argsToLocals, Value.category]; done) | rfl
def Q_24 (Z : State) (ev : Addr) (w1 : Int32) (x1 : Addr) (h0 : Heap) (n0 : Nat) (v : Option Value) (h : Heap) (L : List Loc) : Prop := v = some (.int (1 : Int32)) ∧ Fr n0 L ∧ Keep h0 h []
set_option maxRecDepth 65536 in
set_option maxHeartbeats 40000000 in
theorem rm_24 (l : Launch) (Z : State) (a0 : Array Value) (hw : ∀ d ∈ tables_1, d.before a0 Z = true) (ws : List Jvm.Cond) (ev : Addr) (w1 : Int32) (x1 : Addr) (h0 : Heap) (n0 : Nat) (Z0 : n0 ≤ h0.size) (IS : own_Is Z h0 ev w1 x1) (CS : own_CS Z h0) :
    MetFree l (⟨"com/example/dipper/dipper/stream/ScannedEventsTakePinLaw", "is", "(Lcom/example/dipper/dipper/stream/ScannedEvent;I[C)Z"⟩ : MethodName) (head1 (Jvm.Cond.code (⟨"com/example/dipper/dipper/stream/ScannedEventsTakePinLaw", "is", "(Lcom/example/dipper/dipper/stream/ScannedEvent;I[C)Z"⟩ : MethodName) method_3_code 7 (some .boolean) :: ws) ({ frames := 3, cells := 2, slots := 5, locals := 54 } : Room)) (fun a U => a = #[(.ref ev), (.int w1), (.ref x1)] ∧ Z.Warmed39 U.vm ∧ U.heap = h0) (fun _ _ _ _ _ => True) (fun _ U o U' => ∃ v L, o = .returned v ∧ (Q_24 Z ev w1 x1 h0 n0) v U'.heap L ∧ FrameEnd U o U' L ({ frames := 3, cells := 2, slots := 5, locals := 54 } : Room).cells ({ frames := 3, cells := 2, slots := 5, locals := 54 } : Room).slots) := by
  refine MetFree.of_bodySF pn_24 hisR ?_
  intro p e s m args below meth c s₁ Bd hml0 hP hK
  obtain ⟨rfl, hZ, hh⟩ := hP
  have hx := Bd.exec
  have hby := Bd.bytes
  have hlk : meth.locks = false := BodyLoose.notSynchronized Bd
  have hml : c.maxLocals = 7 := hml0
  have hown : s.vm.findClass "com/example/dipper/dipper/stream/ScannedEventsTakePinLaw" = some m.cls := findClass_of_methodNamed Bd.named
  have hnm := (name_of_methodNamed Bd.named Bd.method).1
  have X0 : Stand p l e ({ frames := 3, cells := 2, slots := 5, locals := 54 } : Room) s m #[(.ref ev), (.int w1), (.ref x1)] below meth c s₁ [] 0 0 := Stand.of_body Bd
  have e0 : s₁.heap = h0 := by rw [← hh, Bd.state]; rfl
  have N0 := Fr.nil n0
  refine own_enter (Q := (Q_24 Z ev w1 x1 h0 n0)) (cs := 2) (ss := 5) (ef_24 m ev w1 x1) ?_
  show Goes p e below (EndN s 2 5 (Q_24 Z ev w1 x1 h0 n0)) s₁ (mkF m 0 #[.val (.ref ev), .val (.int w1), .val (.ref x1), .unset, .unset, .unset, .unset] [])
  obtain ⟨ty, ch, sa, ln, tx, ns, lo, qn, V, D⟩ := IS
  refine own_iloadN (pc' := 1) X0 hx (hb hby d15_0) rfl rfl ?_
  refine own_bipush (pc' := 3) X0 hx (hb hby d15_1) (v := (7 : Int32)) rfl rfl ?_
  refine own_iand (pc' := 4) X0 hx (hb hby d15_3) rfl ?_
  refine own_istoreN (pc' := 5) X0 hx (hb hby d15_4) (Ls' := #[.val (.ref ev), .val (.int w1), .val (.ref x1), .val (.int (w1 &&& (7 : Int32))), .unset, .unset, .unset]) rfl rfl ?_
  refine own_iloadN (pc' := 6) X0 hx (hb hby d15_5) rfl rfl ?_
  refine own_iconst (pc' := 7) X0 hx (hb hby d15_6) (v := (3 : Int32)) rfl rfl ?_
  refine own_iushr (pc' := 8) X0 hx (hb hby d15_7) rfl ?_
  refine own_iconst (pc' := 9) X0 hx (hb hby d15_8) (v := (3 : Int32)) rfl rfl ?_
  refine own_iand (pc' := 10) X0 hx (hb hby d15_9) rfl ?_
  refine own_istore (pc' := 12) X0 hx (hb hby d15_10) (Ls' := #[.val (.ref ev), .val (.int w1), .val (.ref x1), .val (.int (w1 &&& (7 : Int32))), .val (.int ((((w1).toUInt32 >>> ((3 : Int32) &&& 31).toUInt32).toInt32) &&& (3 : Int32))), .unset, .unset]) rfl rfl ?_
  show Goes p e below (EndN s 2 5 (Q_24 Z ev w1 x1 h0 n0)) s₁ (mkF m 12 #[.val (.ref ev), .val (.int w1), .val (.ref x1), .val (.int (w1 &&& (7 : Int32))), .val (.int (own_st w1)), .unset, .unset] [])
  refine own_iloadN (pc' := 13) X0 hx (hb hby d15_12) rfl rfl ?_
  refine own_iconst (pc' := 14) X0 hx (hb hby d15_13) (v := (5 : Int32)) rfl rfl ?_
  refine own_iushr (pc' := 15) X0 hx (hb hby d15_14) rfl ?_
  refine own_iconst (pc' := 16) X0 hx (hb hby d15_15) (v := (3 : Int32)) rfl rfl ?_
  refine own_iand (pc' := 17) X0 hx (hb hby d15_16) rfl ?_
  refine own_istore (pc' := 19) X0 hx (hb hby d15_17) (Ls' := #[.val (.ref ev), .val (.int w1), .val (.ref x1), .val (.int (w1 &&& (7 : Int32))), .val (.int (own_st w1)), .val (.int ((((w1).toUInt32 >>> ((5 : Int32) &&& 31).toUInt32).toInt32) &&& (3 : Int32))), .unset]) rfl rfl ?_
  show Goes p e below (EndN s 2 5 (Q_24 Z ev w1 x1 h0 n0)) s₁ (mkF m 19 #[.val (.ref ev), .val (.int w1), .val (.ref x1), .val (.int (w1 &&& (7 : Int32))), .val (.int (own_st w1)), .val (.int (own_ln w1)), .unset] [])
  refine own_iloadN (pc' := 20) X0 hx (hb hby d15_19) rfl rfl ?_
  refine own_bipush (pc' := 22) X0 hx (hb hby d15_20) (v := (7 : Int32)) rfl rfl ?_
  refine own_iushr (pc' := 23) X0 hx (hb hby d15_22) rfl ?_
  refine own_sipush (pc' := 26) X0 hx (hb hby d15_23) (v := (255 : Int32)) rfl rfl ?_
  refine own_iand (pc' := 27) X0 hx (hb hby d15_26) rfl ?_
  refine own_i2c (pc' := 28) X0 hx (hb hby d15_27) rfl ?_
  show Goes p e below (EndN s 2 5 (Q_24 Z ev w1 x1 h0 n0)) s₁ (mkF m 28 #[.val (.ref ev), .val (.int w1), .val (.ref x1), .val (.int (w1 &&& (7 : Int32))), .val (.int (own_st w1)), .val (.int (own_ln w1)), .unset] [(.int (own_cv w1))])
  obtain ⟨_, _, ⟨T255, L255, k255, n255⟩, -, X255, ⟨Lc255, hQ255, l255, y255, z255⟩, st255⟩ := Jvm.LawKit.callS X0 hx (y := (⟨"java/lang/String", "valueOf", "(C)Ljava/lang/String;"⟩ : MethodName)) hown (mvT hZ (hw _ (List.mem_of_getElem? (i := 35) rfl))) (mvT hZ (hw _ (List.mem_of_getElem? (i := 36) rfl))) (mvT hZ (hw _ (List.mem_of_getElem? (i := 37) rfl))) (mvT hZ (hw _ (List.mem_of_getElem? (i := 38) rfl))) (by decide) (backOf (W := 0) (rm_5 l Z a0 hw [] (own_cv w1) h0 n0 Z0 (own_cv255 w1) CS) hZ (hw _ (List.mem_of_getElem? (i := 38) rfl)) (hw _ (List.mem_of_getElem? (i := 37) rfl)) (by decide) (by decide)) (g := (mkF m 28 #[.val (.ref ev), .val (.int w1), .val (.ref x1), .val (.int (w1 &&& (7 : Int32))), .val (.int (own_st w1)), .val (.int (own_ln w1)), .unset] [(.int (own_cv w1))])) rfl (by rw [hml]; rfl) (argsL := [(.int (own_cv w1))]) (rest := []) (lenOf pd_5 rfl) rfl (by show 2 * 0 + _ ≤ _; exact Nat.le_of_eq rfl) (hb hby d15_28) (fun _ _ => ⟨rfl, e0, (by decide : 0 + 2 ≤ _), (by decide : 0 + 5 ≤ _)⟩)
  dsimp only [Pt.U, Pt.locs, Pt.cells, Pt.slots] at X255 l255 y255 z255 st255 hQ255
  subst l255 y255 z255
  obtain ⟨s6, rfl, M255, K5, S6, g6⟩ := hQ255
  have N255 := Fr.app N0 M255
  refine Goes.pre st255 ?_
  show Goes p e below (EndN s 2 5 (Q_24 Z ev w1 x1 h0 n0)) T255 (mkF m 31 #[.val (.ref ev), .val (.int w1), .val (.ref x1), .val (.int (w1 &&& (7 : Int32))), .val (.int (own_st w1)), .val (.int (own_ln w1)), .unset] [(.ref s6)])
  refine own_astore (pc' := 33) X255 hx (hb hby d15_31) rfl (Ls' := #[.val (.ref ev), .val (.int w1), .val (.ref x1), .val (.int (w1 &&& (7 : Int32))), .val (.int (own_st w1)), .val (.int (own_ln w1)), .val (.ref s6)]) rfl rfl ?_
  have V5 := V.keep K5 nin0
  have CS5 := CS.keep K5 own_W.nil
  have Z5 : n0 ≤ Array.size T255.heap := Nat.le_trans Z0 K5.1
  obtain ⟨EE, F0, F1, F2, F3, F4, F5, F6, F7⟩ := V5
  rcases D with ⟨hk, rfl, rfl, rfl, rfl⟩ | ⟨hk, rfl, rfl, rfl, rfl⟩ | ⟨hk, rfl, rfl, rfl, rfl⟩ | ⟨hk, rfl, y1, y2, rfl, rfl, S1, S2⟩ | ⟨hk, rfl, y1, y2, y3, rfl, rfl, rfl, S1, S2, S3⟩ | ⟨hk, rfl, y1, rfl, S1⟩ | ⟨hk, rfl, y1, y2, rfl, rfl, S1, S2⟩ | ⟨hk, rfl, y1, rfl, S1⟩
  · rw [hk]
    show Goes p e below (EndN s 2 5 (Q_24 Z ev w1 x1 h0 n0)) T255 (mkF m 33 #[.val (.ref ev), .val (.int w1), .val (.ref x1), .val (.int (0 : Int32)), .val (.int (own_st w1)), .val (.int (own_ln w1)), .val (.ref s6)] [])
    refine own_iloadN (pc' := 34) X255 hx (hb hby d15_33) rfl rfl ?_
    refine own_ifN (pc' := 37) X255 hx (hb hby d15_34) (by decide) rfl ?_
    refine own_aloadN (pc' := 38) X255 hx (hb hby d15_37) rfl rfl rfl ?_
    obtain ⟨T256, X256, e256, st256⟩ := getF X255 hx hZ hown (host := "") (Or.inl (hw _ (List.mem_of_getElem? (i := 115) rfl))) Via.refl rfl F0 (g := (mkF m 38 #[.val (.ref ev), .val (.int w1), .val (.ref x1), .val (.int (0 : Int32)), .val (.int (own_st w1)), .val (.int (own_ln w1)), .val (.ref s6)] [(.ref ev)])) rfl rfl (hb hby d15_38)
    refine Goes.pre st256 ?_
    show Goes p e below (EndN s 2 5 (Q_24 Z ev w1 x1 h0 n0)) T256 (mkF m 41 #[.val (.ref ev), .val (.int w1), .val (.ref x1), .val (.int (0 : Int32)), .val (.int (own_st w1)), .val (.int (own_ln w1)), .val (.ref s6)] [(.int (4 : Int32))])
    refine own_iconst (pc' := 42) X256 hx (hb hby d15_41) (v := (4 : Int32)) rfl rfl ?_
    refine own_icmpN (pc' := 45) X256 hx (hb hby d15_42) (by decide) rfl ?_
    refine own_aloadN (pc' := 46) X256 hx (hb hby d15_45) rfl rfl rfl ?_
    obtain ⟨T257, X257, e257, st257⟩ := getF X256 hx hZ hown (host := "") (Or.inl (hw _ (List.mem_of_getElem? (i := 116) rfl))) Via.refl e256 F1 (g := (mkF m 46 #[.val (.ref ev), .val (.int w1), .val (.ref x1), .val (.int (0 : Int32)), .val (.int (own_st w1)), .val (.int (own_ln w1)), .val (.ref s6)] [(.ref ev)])) rfl rfl (hb hby d15_46)
    refine Goes.pre st257 ?_
    show Goes p e below (EndN s 2 5 (Q_24 Z ev w1 x1 h0 n0)) T257 (mkF m 49 #[.val (.ref ev), .val (.int w1), .val (.ref x1), .val (.int (0 : Int32)), .val (.int (own_st w1)), .val (.int (own_ln w1)), .val (.ref s6)] [(.ref x1)])
    refine own_aloadN (pc' := 50) X257 hx (hb hby d15_49) rfl rfl rfl ?_
    refine own_acmpN (pc' := 53) X257 hx (hb hby d15_50) (by simp [if_acmp.holds]) rfl ?_
    refine own_aloadN (pc' := 54) X257 hx (hb hby d15_53) rfl rfl rfl ?_
    obtain ⟨T258, X258, e258, st258⟩ := getF X257 hx hZ hown (host := "") (Or.inl (hw _ (List.mem_of_getElem? (i := 117) rfl))) Via.refl e257 F2 (g := (mkF m 54 #[.val (.ref ev), .val (.int w1), .val (.ref x1), .val (.int (0 : Int32)), .val (.int (own_st w1)), .val (.int (own_ln w1)), .val (.ref s6)] [(.ref ev)])) rfl rfl (hb hby d15_54)
    refine Goes.pre st258 ?_
    show Goes p e below (EndN s 2 5 (Q_24 Z ev w1 x1 h0 n0)) T258 (mkF m 57 #[.val (.ref ev), .val (.int w1), .val (.ref x1), .val (.int (0 : Int32)), .val (.int (own_st w1)), .val (.int (own_ln w1)), .val (.ref s6)] [(.int (own_st w1))])
    refine own_iload (pc' := 59) X258 hx (hb hby d15_57) rfl rfl ?_
    refine own_icmpN (pc' := 62) X258 hx (hb hby d15_59) (teq rfl).2 rfl ?_
    refine own_aloadN (pc' := 63) X258 hx (hb hby d15_62) rfl rfl rfl ?_
    obtain ⟨T259, X259, e259, st259⟩ := getF X258 hx hZ hown (host := "") (Or.inl (hw _ (List.mem_of_getElem? (i := 118) rfl))) Via.refl e258 F3 (g := (mkF m 63 #[.val (.ref ev), .val (.int w1), .val (.ref x1), .val (.int (0 : Int32)), .val (.int (own_st w1)), .val (.int (own_ln w1)), .val (.ref s6)] [(.ref ev)])) rfl rfl (hb hby d15_63)
    refine Goes.pre st259 ?_
    show Goes p e below (EndN s 2 5 (Q_24 Z ev w1 x1 h0 n0)) T259 (mkF m 66 #[.val (.ref ev), .val (.int w1), .val (.ref x1), .val (.int (0 : Int32)), .val (.int (own_st w1)), .val (.int (own_ln w1)), .val (.ref s6)] [(.int (own_ln w1))])
    refine own_iload (pc' := 68) X259 hx (hb hby d15_66) rfl rfl ?_
    refine own_icmpN (pc' := 71) X259 hx (hb hby d15_68) (teq rfl).2 rfl ?_
    refine own_iconst (pc' := 72) X259 hx (hb hby d15_71) (v := (1 : Int32)) rfl rfl ?_
    refine own_goto X259 hx (hb hby d15_72) (by decide) (pc' := 76) (by decide) ?_
    exact own_retN X259 hx hlk (t := .boolean) Bd.returns (by simp) (hb hby d15_76) (by decide) (by decide) ⟨rfl, N255, by rw [e259]; exact K5⟩
  · rw [hk]
    show Goes p e below (EndN s 2 5 (Q_24 Z ev w1 x1 h0 n0)) T255 (mkF m 33 #[.val (.ref ev), .val (.int w1), .val (.ref x1), .val (.int (1 : Int32)), .val (.int (own_st w1)), .val (.int (own_ln w1)), .val (.ref s6)] [])
    refine own_iloadN (pc' := 34) X255 hx (hb hby d15_33) rfl rfl ?_
    refine own_ifY X255 hx (hb hby d15_34) (by decide) (by decide) (pc' := 77) (by decide) ?_
    refine own_iloadN (pc' := 78) X255 hx (hb hby d15_77) rfl rfl ?_
    refine own_iconst (pc' := 79) X255 hx (hb hby d15_78) (v := (1 : Int32)) rfl rfl ?_
    refine own_icmpN (pc' := 82) X255 hx (hb hby d15_79) (by decide) rfl ?_
    refine own_aloadN (pc' := 83) X255 hx (hb hby d15_82) rfl rfl rfl ?_
    obtain ⟨T260, X260, e260, st260⟩ := getF X255 hx hZ hown (host := "") (Or.inl (hw _ (List.mem_of_getElem? (i := 115) rfl))) Via.refl rfl F0 (g := (mkF m 83 #[.val (.ref ev), .val (.int w1), .val (.ref x1), .val (.int (1 : Int32)), .val (.int (own_st w1)), .val (.int (own_ln w1)), .val (.ref s6)] [(.ref ev)])) rfl rfl (hb hby d15_83)
    refine Goes.pre st260 ?_
    show Goes p e below (EndN s 2 5 (Q_24 Z ev w1 x1 h0 n0)) T260 (mkF m 86 #[.val (.ref ev), .val (.int w1), .val (.ref x1), .val (.int (1 : Int32)), .val (.int (own_st w1)), .val (.int (own_ln w1)), .val (.ref s6)] [(.int (12 : Int32))])
    refine own_bipush (pc' := 88) X260 hx (hb hby d15_86) (v := (12 : Int32)) rfl rfl ?_
    refine own_icmpN (pc' := 91) X260 hx (hb hby d15_88) (by decide) rfl ?_
    refine own_aloadN (pc' := 92) X260 hx (hb hby d15_91) rfl rfl rfl ?_
    obtain ⟨T261, X261, e261, st261⟩ := getF X260 hx hZ hown (host := "") (Or.inl (hw _ (List.mem_of_getElem? (i := 116) rfl))) Via.refl e260 F1 (g := (mkF m 92 #[.val (.ref ev), .val (.int w1), .val (.ref x1), .val (.int (1 : Int32)), .val (.int (own_st w1)), .val (.int (own_ln w1)), .val (.ref s6)] [(.ref ev)])) rfl rfl (hb hby d15_92)
    refine Goes.pre st261 ?_
    show Goes p e below (EndN s 2 5 (Q_24 Z ev w1 x1 h0 n0)) T261 (mkF m 95 #[.val (.ref ev), .val (.int w1), .val (.ref x1), .val (.int (1 : Int32)), .val (.int (own_st w1)), .val (.int (own_ln w1)), .val (.ref s6)] [(.ref x1)])
    refine own_aloadN (pc' := 96) X261 hx (hb hby d15_95) rfl rfl rfl ?_
    refine own_acmpN (pc' := 99) X261 hx (hb hby d15_96) (by simp [if_acmp.holds]) rfl ?_
    refine own_aloadN (pc' := 100) X261 hx (hb hby d15_99) rfl rfl rfl ?_
    obtain ⟨T262, X262, e262, st262⟩ := getF X261 hx hZ hown (host := "") (Or.inl (hw _ (List.mem_of_getElem? (i := 117) rfl))) Via.refl e261 F2 (g := (mkF m 100 #[.val (.ref ev), .val (.int w1), .val (.ref x1), .val (.int (1 : Int32)), .val (.int (own_st w1)), .val (.int (own_ln w1)), .val (.ref s6)] [(.ref ev)])) rfl rfl (hb hby d15_100)
    refine Goes.pre st262 ?_
    show Goes p e below (EndN s 2 5 (Q_24 Z ev w1 x1 h0 n0)) T262 (mkF m 103 #[.val (.ref ev), .val (.int w1), .val (.ref x1), .val (.int (1 : Int32)), .val (.int (own_st w1)), .val (.int (own_ln w1)), .val (.ref s6)] [(.int (own_st w1))])
    refine own_iload (pc' := 105) X262 hx (hb hby d15_103) rfl rfl ?_
    refine own_icmpN (pc' := 108) X262 hx (hb hby d15_105) (teq rfl).2 rfl ?_
    refine own_aloadN (pc' := 109) X262 hx (hb hby d15_108) rfl rfl rfl ?_
    obtain ⟨T263, X263, e263, st263⟩ := getF X262 hx hZ hown (host := "") (Or.inl (hw _ (List.mem_of_getElem? (i := 118) rfl))) Via.refl e262 F3 (g := (mkF m 109 #[.val (.ref ev), .val (.int w1), .val (.ref x1), .val (.int (1 : Int32)), .val (.int (own_st w1)), .val (.int (own_ln w1)), .val (.ref s6)] [(.ref ev)])) rfl rfl (hb hby d15_109)
    refine Goes.pre st263 ?_
    show Goes p e below (EndN s 2 5 (Q_24 Z ev w1 x1 h0 n0)) T263 (mkF m 112 #[.val (.ref ev), .val (.int w1), .val (.ref x1), .val (.int (1 : Int32)), .val (.int (own_st w1)), .val (.int (own_ln w1)), .val (.ref s6)] [(.int (own_ln w1))])
    refine own_iload (pc' := 114) X263 hx (hb hby d15_112) rfl rfl ?_
    refine own_icmpN (pc' := 117) X263 hx (hb hby d15_114) (teq rfl).2 rfl ?_
    refine own_iconst (pc' := 118) X263 hx (hb hby d15_117) (v := (1 : Int32)) rfl rfl ?_
    refine own_goto X263 hx (hb hby d15_118) (by decide) (pc' := 122) (by decide) ?_
    exact own_retN X263 hx hlk (t := .boolean) Bd.returns (by simp) (hb hby d15_122) (by decide) (by decide) ⟨rfl, N255, by rw [e263]; exact K5⟩
  · rw [hk]
    show Goes p e below (EndN s 2 5 (Q_24 Z ev w1 x1 h0 n0)) T255 (mkF m 33 #[.val (.ref ev), .val (.int w1), .val (.ref x1), .val (.int (2 : Int32)), .val (.int (own_st w1)), .val (.int (own_ln w1)), .val (.ref s6)] [])
    refine own_iloadN (pc' := 34) X255 hx (hb hby d15_33) rfl rfl ?_
    refine own_ifY X255 hx (hb hby d15_34) (by decide) (by decide) (pc' := 77) (by decide) ?_
    refine own_iloadN (pc' := 78) X255 hx (hb hby d15_77) rfl rfl ?_
    refine own_iconst (pc' := 79) X255 hx (hb hby d15_78) (v := (1 : Int32)) rfl rfl ?_
    refine own_icmpY X255 hx (hb hby d15_79) (by decide) (by decide) (pc' := 123) (by decide) ?_
    refine own_iloadN (pc' := 124) X255 hx (hb hby d15_123) rfl rfl ?_
    refine own_iconst (pc' := 125) X255 hx (hb hby d15_124) (v := (2 : Int32)) rfl rfl ?_
    refine own_icmpN (pc' := 128) X255 hx (hb hby d15_125) (by decide) rfl ?_
    refine own_aloadN (pc' := 129) X255 hx (hb hby d15_128) rfl rfl rfl ?_
    obtain ⟨T264, X264, e264, st264⟩ := getF X255 hx hZ hown (host := "") (Or.inl (hw _ (List.mem_of_getElem? (i := 115) rfl))) Via.refl rfl F0 (g := (mkF m 129 #[.val (.ref ev), .val (.int w1), .val (.ref x1), .val (.int (2 : Int32)), .val (.int (own_st w1)), .val (.int (own_ln w1)), .val (.ref s6)] [(.ref ev)])) rfl rfl (hb hby d15_129)
    refine Goes.pre st264 ?_
    show Goes p e below (EndN s 2 5 (Q_24 Z ev w1 x1 h0 n0)) T264 (mkF m 132 #[.val (.ref ev), .val (.int w1), .val (.ref x1), .val (.int (2 : Int32)), .val (.int (own_st w1)), .val (.int (own_ln w1)), .val (.ref s6)] [(.int (5 : Int32))])
    refine own_iconst (pc' := 133) X264 hx (hb hby d15_132) (v := (5 : Int32)) rfl rfl ?_
    refine own_icmpN (pc' := 136) X264 hx (hb hby d15_133) (by decide) rfl ?_
    refine own_aloadN (pc' := 137) X264 hx (hb hby d15_136) rfl rfl rfl ?_
    obtain ⟨T265, X265, e265, st265⟩ := getF X264 hx hZ hown (host := "") (Or.inl (hw _ (List.mem_of_getElem? (i := 116) rfl))) Via.refl e264 F1 (g := (mkF m 137 #[.val (.ref ev), .val (.int w1), .val (.ref x1), .val (.int (2 : Int32)), .val (.int (own_st w1)), .val (.int (own_ln w1)), .val (.ref s6)] [(.ref ev)])) rfl rfl (hb hby d15_137)
    refine Goes.pre st265 ?_
    show Goes p e below (EndN s 2 5 (Q_24 Z ev w1 x1 h0 n0)) T265 (mkF m 140 #[.val (.ref ev), .val (.int w1), .val (.ref x1), .val (.int (2 : Int32)), .val (.int (own_st w1)), .val (.int (own_ln w1)), .val (.ref s6)] [(.ref x1)])
    refine own_aloadN (pc' := 141) X265 hx (hb hby d15_140) rfl rfl rfl ?_
    refine own_acmpN (pc' := 144) X265 hx (hb hby d15_141) (by simp [if_acmp.holds]) rfl ?_
    refine own_aloadN (pc' := 145) X265 hx (hb hby d15_144) rfl rfl rfl ?_
    obtain ⟨T266, X266, e266, st266⟩ := getF X265 hx hZ hown (host := "") (Or.inl (hw _ (List.mem_of_getElem? (i := 117) rfl))) Via.refl e265 F2 (g := (mkF m 145 #[.val (.ref ev), .val (.int w1), .val (.ref x1), .val (.int (2 : Int32)), .val (.int (own_st w1)), .val (.int (own_ln w1)), .val (.ref s6)] [(.ref ev)])) rfl rfl (hb hby d15_145)
    refine Goes.pre st266 ?_
    show Goes p e below (EndN s 2 5 (Q_24 Z ev w1 x1 h0 n0)) T266 (mkF m 148 #[.val (.ref ev), .val (.int w1), .val (.ref x1), .val (.int (2 : Int32)), .val (.int (own_st w1)), .val (.int (own_ln w1)), .val (.ref s6)] [(.int (own_st w1))])
    refine own_iload (pc' := 150) X266 hx (hb hby d15_148) rfl rfl ?_
    refine own_icmpN (pc' := 153) X266 hx (hb hby d15_150) (teq rfl).2 rfl ?_
    refine own_aloadN (pc' := 154) X266 hx (hb hby d15_153) rfl rfl rfl ?_
    obtain ⟨T267, X267, e267, st267⟩ := getF X266 hx hZ hown (host := "") (Or.inl (hw _ (List.mem_of_getElem? (i := 118) rfl))) Via.refl e266 F3 (g := (mkF m 154 #[.val (.ref ev), .val (.int w1), .val (.ref x1), .val (.int (2 : Int32)), .val (.int (own_st w1)), .val (.int (own_ln w1)), .val (.ref s6)] [(.ref ev)])) rfl rfl (hb hby d15_154)
    refine Goes.pre st267 ?_
    show Goes p e below (EndN s 2 5 (Q_24 Z ev w1 x1 h0 n0)) T267 (mkF m 157 #[.val (.ref ev), .val (.int w1), .val (.ref x1), .val (.int (2 : Int32)), .val (.int (own_st w1)), .val (.int (own_ln w1)), .val (.ref s6)] [(.int (own_ln w1))])
    refine own_iload (pc' := 159) X267 hx (hb hby d15_157) rfl rfl ?_
    refine own_icmpN (pc' := 162) X267 hx (hb hby d15_159) (teq rfl).2 rfl ?_
    refine own_iconst (pc' := 163) X267 hx (hb hby d15_162) (v := (1 : Int32)) rfl rfl ?_
    refine own_goto X267 hx (hb hby d15_163) (by decide) (pc' := 167) (by decide) ?_
    exact own_retN X267 hx hlk (t := .boolean) Bd.returns (by simp) (hb hby d15_167) (by decide) (by decide) ⟨rfl, N255, by rw [e267]; exact K5⟩
  · rw [hk]
    show Goes p e below (EndN s 2 5 (Q_24 Z ev w1 x1 h0 n0)) T255 (mkF m 33 #[.val (.ref ev), .val (.int w1), .val (.ref x1), .val (.int (3 : Int32)), .val (.int (own_st w1)), .val (.int (own_ln w1)), .val (.ref s6)] [])
    have S1k := S1.keep hw K5 own_W.nil
    have S2k := S2.keep hw K5 own_W.nil
    refine own_iloadN (pc' := 34) X255 hx (hb hby d15_33) rfl rfl ?_
    refine own_ifY X255 hx (hb hby d15_34) (by decide) (by decide) (pc' := 77) (by decide) ?_
    refine own_iloadN (pc' := 78) X255 hx (hb hby d15_77) rfl rfl ?_
    refine own_iconst (pc' := 79) X255 hx (hb hby d15_78) (v := (1 : Int32)) rfl rfl ?_
    refine own_icmpY X255 hx (hb hby d15_79) (by decide) (by decide) (pc' := 123) (by decide) ?_
    refine own_iloadN (pc' := 124) X255 hx (hb hby d15_123) rfl rfl ?_
    refine own_iconst (pc' := 125) X255 hx (hb hby d15_124) (v := (2 : Int32)) rfl rfl ?_
    refine own_icmpY X255 hx (hb hby d15_125) (by decide) (by decide) (pc' := 168) (by decide) ?_
    refine own_iloadN (pc' := 169) X255 hx (hb hby d15_168) rfl rfl ?_
    refine own_iconst (pc' := 170) X255 hx (hb hby d15_169) (v := (3 : Int32)) rfl rfl ?_
    refine own_icmpN (pc' := 173) X255 hx (hb hby d15_170) (by decide) rfl ?_
    refine own_aloadN (pc' := 174) X255 hx (hb hby d15_173) rfl rfl rfl ?_
    obtain ⟨T268, X268, e268, st268⟩ := getF X255 hx hZ hown (host := "") (Or.inl (hw _ (List.mem_of_getElem? (i := 115) rfl))) Via.refl rfl F0 (g := (mkF m 174 #[.val (.ref ev), .val (.int w1), .val (.ref x1), .val (.int (3 : Int32)), .val (.int (own_st w1)), .val (.int (own_ln w1)), .val (.ref s6)] [(.ref ev)])) rfl rfl (hb hby d15_174)
    refine Goes.pre st268 ?_
    show Goes p e below (EndN s 2 5 (Q_24 Z ev w1 x1 h0 n0)) T268 (mkF m 177 #[.val (.ref ev), .val (.int w1), .val (.ref x1), .val (.int (3 : Int32)), .val (.int (own_st w1)), .val (.int (own_ln w1)), .val (.ref s6)] [(.int (3 : Int32))])
    refine own_iconst (pc' := 178) X268 hx (hb hby d15_177) (v := (3 : Int32)) rfl rfl ?_
    refine own_icmpN (pc' := 181) X268 hx (hb hby d15_178) (by decide) rfl ?_
    refine own_aload (pc' := 183) X268 hx (hb hby d15_181) rfl rfl rfl ?_
    refine own_aloadN (pc' := 184) X268 hx (hb hby d15_183) rfl rfl rfl ?_
    obtain ⟨T269, X269, e269, st269⟩ := getF X268 hx hZ hown (host := "") (Or.inl (hw _ (List.mem_of_getElem? (i := 129) rfl))) Via.refl e268 F6 (g := (mkF m 184 #[.val (.ref ev), .val (.int w1), .val (.ref x1), .val (.int (3 : Int32)), .val (.int (own_st w1)), .val (.int (own_ln w1)), .val (.ref s6)] [(.ref ev), (.ref s6)])) rfl rfl (hb hby d15_184)
    refine Goes.pre st269 ?_
    show Goes p e below (EndN s 2 5 (Q_24 Z ev w1 x1 h0 n0)) T269 (mkF m 187 #[.val (.ref ev), .val (.int w1), .val (.ref x1), .val (.int (3 : Int32)), .val (.int (own_st w1)), .val (.int (own_ln w1)), .val (.ref s6)] [(.ref y1), (.ref s6)])
    obtain ⟨cq271, kq271, q271a, q271b, q271c⟩ := isOf hZ e269 S6.1
    obtain ⟨_, _, ⟨T270, L270, k270, n270⟩, -, X270, ⟨Lc270, hQ270, l270, y270, z270⟩, st270⟩ := X269.virtualBack hx (y := (⟨"java/lang/String", "equals", "(Ljava/lang/Object;)Z"⟩ : MethodName)) (z := (⟨"java/lang/String", "equals", "(Ljava/lang/Object;)Z"⟩ : MethodName)) hown (mvT hZ (hw _ (List.mem_of_getElem? (i := 130) rfl))) (mvT hZ (hw _ (List.mem_of_getElem? (i := 131) rfl))) (notFace_of_selects (args := #[]) (mvT hZ (hw _ (List.mem_of_getElem? (i := 133) rfl)))) (mvT hZ (hw _ (List.mem_of_getElem? (i := 133) rfl))) (mvT hZ (hw _ (List.mem_of_getElem? (i := 132) rfl))) (by decide) (backOf (W := 0) (rm_7 l Z a0 hw [] s6 y1 (own_bt (own_cv w1)) T255.heap n0 Z5 S6 S1k CS5) hZ (hw _ (List.mem_of_getElem? (i := 134) rfl)) (hw _ (List.mem_of_getElem? (i := 37) rfl)) (by decide) (by decide)) q271a q271c (g := (mkF m 187 #[.val (.ref ev), .val (.int w1), .val (.ref x1), .val (.int (3 : Int32)), .val (.int (own_st w1)), .val (.int (own_ln w1)), .val (.ref s6)] [(.ref y1), (.ref s6)])) rfl (by rw [hml]; rfl) (Steps.refl _) (argsL := [(.ref y1)]) (rest := []) (lenOf pd_7 rfl) rfl (by show 2 * 0 + _ ≤ _; exact Nat.le_of_eq rfl) (hb hby d15_187) (fun _ _ => ⟨rfl, e269, (by decide : 2 + 0 ≤ _), (by decide : 5 + 0 ≤ _)⟩)
    dsimp only [Pt.U, Pt.locs, Pt.cells, Pt.slots] at X270 l270 y270 z270 st270 hQ270
    subst l270 y270 z270
    obtain ⟨rfl, M270, eq270⟩ := hQ270
    have N270 := Fr.app N255 M270
    refine Goes.aft st270 ?_
    show Goes p e below (EndN s 2 5 (Q_24 Z ev w1 x1 h0 n0)) T270 (mkF m 190 #[.val (.ref ev), .val (.int w1), .val (.ref x1), .val (.int (3 : Int32)), .val (.int (own_st w1)), .val (.int (own_ln w1)), .val (.ref s6)] [(.int (1 : Int32))])
    refine own_ifN (pc' := 193) X270 hx (hb hby d15_190) (by decide) rfl ?_
    refine own_aload (pc' := 195) X270 hx (hb hby d15_193) rfl rfl rfl ?_
    refine own_aloadN (pc' := 196) X270 hx (hb hby d15_195) rfl rfl rfl ?_
    obtain ⟨T272, X272, e272, st272⟩ := getF X270 hx hZ hown (host := "") (Or.inl (hw _ (List.mem_of_getElem? (i := 138) rfl))) Via.refl eq270 F4 (g := (mkF m 196 #[.val (.ref ev), .val (.int w1), .val (.ref x1), .val (.int (3 : Int32)), .val (.int (own_st w1)), .val (.int (own_ln w1)), .val (.ref s6)] [(.ref ev), (.ref s6)])) rfl rfl (hb hby d15_196)
    refine Goes.pre st272 ?_
    show Goes p e below (EndN s 2 5 (Q_24 Z ev w1 x1 h0 n0)) T272 (mkF m 199 #[.val (.ref ev), .val (.int w1), .val (.ref x1), .val (.int (3 : Int32)), .val (.int (own_st w1)), .val (.int (own_ln w1)), .val (.ref s6)] [(.ref y2), (.ref s6)])
    obtain ⟨cq274, kq274, q274a, q274b, q274c⟩ := isOf hZ e272 S6.1
    obtain ⟨_, _, ⟨T273, L273, k273, n273⟩, -, X273, ⟨Lc273, hQ273, l273, y273, z273⟩, st273⟩ := X272.virtualBack hx (y := (⟨"java/lang/String", "equals", "(Ljava/lang/Object;)Z"⟩ : MethodName)) (z := (⟨"java/lang/String", "equals", "(Ljava/lang/Object;)Z"⟩ : MethodName)) hown (mvT hZ (hw _ (List.mem_of_getElem? (i := 130) rfl))) (mvT hZ (hw _ (List.mem_of_getElem? (i := 131) rfl))) (notFace_of_selects (args := #[]) (mvT hZ (hw _ (List.mem_of_getElem? (i := 133) rfl)))) (mvT hZ (hw _ (List.mem_of_getElem? (i := 133) rfl))) (mvT hZ (hw _ (List.mem_of_getElem? (i := 132) rfl))) (by decide) (backOf (W := 0) (rm_7 l Z a0 hw [] s6 y2 (own_bt (own_cv w1)) T255.heap n0 Z5 S6 S2k CS5) hZ (hw _ (List.mem_of_getElem? (i := 134) rfl)) (hw _ (List.mem_of_getElem? (i := 37) rfl)) (by decide) (by decide)) q274a q274c (g := (mkF m 199 #[.val (.ref ev), .val (.int w1), .val (.ref x1), .val (.int (3 : Int32)), .val (.int (own_st w1)), .val (.int (own_ln w1)), .val (.ref s6)] [(.ref y2), (.ref s6)])) rfl (by rw [hml]; rfl) (Steps.refl _) (argsL := [(.ref y2)]) (rest := []) (lenOf pd_7 rfl) rfl (by show 2 * 0 + _ ≤ _; exact Nat.le_of_eq rfl) (hb hby d15_199) (fun _ _ => ⟨rfl, e272, (by decide : 2 + 0 ≤ _), (by decide : 5 + 0 ≤ _)⟩)
    dsimp only [Pt.U, Pt.locs, Pt.cells, Pt.slots] at X273 l273 y273 z273 st273 hQ273
    subst l273 y273 z273
    obtain ⟨rfl, M273, eq273⟩ := hQ273
    have N273 := Fr.app N270 M273
    refine Goes.aft st273 ?_
    show Goes p e below (EndN s 2 5 (Q_24 Z ev w1 x1 h0 n0)) T273 (mkF m 202 #[.val (.ref ev), .val (.int w1), .val (.ref x1), .val (.int (3 : Int32)), .val (.int (own_st w1)), .val (.int (own_ln w1)), .val (.ref s6)] [(.int (1 : Int32))])
    refine own_ifN (pc' := 205) X273 hx (hb hby d15_202) (by decide) rfl ?_
    refine own_iconst (pc' := 206) X273 hx (hb hby d15_205) (v := (1 : Int32)) rfl rfl ?_
    refine own_goto X273 hx (hb hby d15_206) (by decide) (pc' := 210) (by decide) ?_
    exact own_retN X273 hx hlk (t := .boolean) Bd.returns (by simp) (hb hby d15_210) (by decide) (by decide) ⟨rfl, N273, by rw [eq273]; exact K5⟩
  · rw [hk]
    show Goes p e below (EndN s 2 5 (Q_24 Z ev w1 x1 h0 n0)) T255 (mkF m 33 #[.val (.ref ev), .val (.int w1), .val (.ref x1), .val (.int (4 : Int32)), .val (.int (own_st w1)), .val (.int (own_ln w1)), .val (.ref s6)] [])
    have S1k := S1.keep hw K5 own_W.nil
    have S2k := S2.keep hw K5 own_W.nil
    have S3k := S3.keep hw K5 own_W.nil
    refine own_iloadN (pc' := 34) X255 hx (hb hby d15_33) rfl rfl ?_
    refine own_ifY X255 hx (hb hby d15_34) (by decide) (by decide) (pc' := 77) (by decide) ?_
    refine own_iloadN (pc' := 78) X255 hx (hb hby d15_77) rfl rfl ?_
    refine own_iconst (pc' := 79) X255 hx (hb hby d15_78) (v := (1 : Int32)) rfl rfl ?_
    refine own_icmpY X255 hx (hb hby d15_79) (by decide) (by decide) (pc' := 123) (by decide) ?_
    refine own_iloadN (pc' := 124) X255 hx (hb hby d15_123) rfl rfl ?_
    refine own_iconst (pc' := 125) X255 hx (hb hby d15_124) (v := (2 : Int32)) rfl rfl ?_
    refine own_icmpY X255 hx (hb hby d15_125) (by decide) (by decide) (pc' := 168) (by decide) ?_
    refine own_iloadN (pc' := 169) X255 hx (hb hby d15_168) rfl rfl ?_
    refine own_iconst (pc' := 170) X255 hx (hb hby d15_169) (v := (3 : Int32)) rfl rfl ?_
    refine own_icmpY X255 hx (hb hby d15_170) (by decide) (by decide) (pc' := 211) (by decide) ?_
    refine own_iloadN (pc' := 212) X255 hx (hb hby d15_211) rfl rfl ?_
    refine own_iconst (pc' := 213) X255 hx (hb hby d15_212) (v := (4 : Int32)) rfl rfl ?_
    refine own_icmpN (pc' := 216) X255 hx (hb hby d15_213) (by decide) rfl ?_
    refine own_aloadN (pc' := 217) X255 hx (hb hby d15_216) rfl rfl rfl ?_
    obtain ⟨T275, X275, e275, st275⟩ := getF X255 hx hZ hown (host := "") (Or.inl (hw _ (List.mem_of_getElem? (i := 115) rfl))) Via.refl rfl F0 (g := (mkF m 217 #[.val (.ref ev), .val (.int w1), .val (.ref x1), .val (.int (4 : Int32)), .val (.int (own_st w1)), .val (.int (own_ln w1)), .val (.ref s6)] [(.ref ev)])) rfl rfl (hb hby d15_217)
    refine Goes.pre st275 ?_
    show Goes p e below (EndN s 2 5 (Q_24 Z ev w1 x1 h0 n0)) T275 (mkF m 220 #[.val (.ref ev), .val (.int w1), .val (.ref x1), .val (.int (4 : Int32)), .val (.int (own_st w1)), .val (.int (own_ln w1)), .val (.ref s6)] [(.int (2 : Int32))])
    refine own_iconst (pc' := 221) X275 hx (hb hby d15_220) (v := (2 : Int32)) rfl rfl ?_
    refine own_icmpN (pc' := 224) X275 hx (hb hby d15_221) (by decide) rfl ?_
    refine own_aload (pc' := 226) X275 hx (hb hby d15_224) rfl rfl rfl ?_
    refine own_aloadN (pc' := 227) X275 hx (hb hby d15_226) rfl rfl rfl ?_
    obtain ⟨T276, X276, e276, st276⟩ := getF X275 hx hZ hown (host := "") (Or.inl (hw _ (List.mem_of_getElem? (i := 154) rfl))) Via.refl e275 F5 (g := (mkF m 227 #[.val (.ref ev), .val (.int w1), .val (.ref x1), .val (.int (4 : Int32)), .val (.int (own_st w1)), .val (.int (own_ln w1)), .val (.ref s6)] [(.ref ev), (.ref s6)])) rfl rfl (hb hby d15_227)
    refine Goes.pre st276 ?_
    show Goes p e below (EndN s 2 5 (Q_24 Z ev w1 x1 h0 n0)) T276 (mkF m 230 #[.val (.ref ev), .val (.int w1), .val (.ref x1), .val (.int (4 : Int32)), .val (.int (own_st w1)), .val (.int (own_ln w1)), .val (.ref s6)] [(.ref y1), (.ref s6)])
    obtain ⟨cq278, kq278, q278a, q278b, q278c⟩ := isOf hZ e276 S6.1
    obtain ⟨_, _, ⟨T277, L277, k277, n277⟩, -, X277, ⟨Lc277, hQ277, l277, y277, z277⟩, st277⟩ := X276.virtualBack hx (y := (⟨"java/lang/String", "equals", "(Ljava/lang/Object;)Z"⟩ : MethodName)) (z := (⟨"java/lang/String", "equals", "(Ljava/lang/Object;)Z"⟩ : MethodName)) hown (mvT hZ (hw _ (List.mem_of_getElem? (i := 130) rfl))) (mvT hZ (hw _ (List.mem_of_getElem? (i := 131) rfl))) (notFace_of_selects (args := #[]) (mvT hZ (hw _ (List.mem_of_getElem? (i := 133) rfl)))) (mvT hZ (hw _ (List.mem_of_getElem? (i := 133) rfl))) (mvT hZ (hw _ (List.mem_of_getElem? (i := 132) rfl))) (by decide) (backOf (W := 0) (rm_7 l Z a0 hw [] s6 y1 (own_bt (own_cv w1)) T255.heap n0 Z5 S6 S1k CS5) hZ (hw _ (List.mem_of_getElem? (i := 134) rfl)) (hw _ (List.mem_of_getElem? (i := 37) rfl)) (by decide) (by decide)) q278a q278c (g := (mkF m 230 #[.val (.ref ev), .val (.int w1), .val (.ref x1), .val (.int (4 : Int32)), .val (.int (own_st w1)), .val (.int (own_ln w1)), .val (.ref s6)] [(.ref y1), (.ref s6)])) rfl (by rw [hml]; rfl) (Steps.refl _) (argsL := [(.ref y1)]) (rest := []) (lenOf pd_7 rfl) rfl (by show 2 * 0 + _ ≤ _; exact Nat.le_of_eq rfl) (hb hby d15_230) (fun _ _ => ⟨rfl, e276, (by decide : 2 + 0 ≤ _), (by decide : 5 + 0 ≤ _)⟩)
    dsimp only [Pt.U, Pt.locs, Pt.cells, Pt.slots] at X277 l277 y277 z277 st277 hQ277
    subst l277 y277 z277
    obtain ⟨rfl, M277, eq277⟩ := hQ277
    have N277 := Fr.app N255 M277
    refine Goes.aft st277 ?_
    show Goes p e below (EndN s 2 5 (Q_24 Z ev w1 x1 h0 n0)) T277 (mkF m 233 #[.val (.ref ev), .val (.int w1), .val (.ref x1), .val (.int (4 : Int32)), .val (.int (own_st w1)), .val (.int (own_ln w1)), .val (.ref s6)] [(.int (1 : Int32))])
    refine own_ifN (pc' := 236) X277 hx (hb hby d15_233) (by decide) rfl ?_
    refine own_aload (pc' := 238) X277 hx (hb hby d15_236) rfl rfl rfl ?_
    refine own_aloadN (pc' := 239) X277 hx (hb hby d15_238) rfl rfl rfl ?_
    obtain ⟨T279, X279, e279, st279⟩ := getF X277 hx hZ hown (host := "") (Or.inl (hw _ (List.mem_of_getElem? (i := 129) rfl))) Via.refl eq277 F6 (g := (mkF m 239 #[.val (.ref ev), .val (.int w1), .val (.ref x1), .val (.int (4 : Int32)), .val (.int (own_st w1)), .val (.int (own_ln w1)), .val (.ref s6)] [(.ref ev), (.ref s6)])) rfl rfl (hb hby d15_239)
    refine Goes.pre st279 ?_
    show Goes p e below (EndN s 2 5 (Q_24 Z ev w1 x1 h0 n0)) T279 (mkF m 242 #[.val (.ref ev), .val (.int w1), .val (.ref x1), .val (.int (4 : Int32)), .val (.int (own_st w1)), .val (.int (own_ln w1)), .val (.ref s6)] [(.ref y2), (.ref s6)])
    obtain ⟨cq281, kq281, q281a, q281b, q281c⟩ := isOf hZ e279 S6.1
    obtain ⟨_, _, ⟨T280, L280, k280, n280⟩, -, X280, ⟨Lc280, hQ280, l280, y280, z280⟩, st280⟩ := X279.virtualBack hx (y := (⟨"java/lang/String", "equals", "(Ljava/lang/Object;)Z"⟩ : MethodName)) (z := (⟨"java/lang/String", "equals", "(Ljava/lang/Object;)Z"⟩ : MethodName)) hown (mvT hZ (hw _ (List.mem_of_getElem? (i := 130) rfl))) (mvT hZ (hw _ (List.mem_of_getElem? (i := 131) rfl))) (notFace_of_selects (args := #[]) (mvT hZ (hw _ (List.mem_of_getElem? (i := 133) rfl)))) (mvT hZ (hw _ (List.mem_of_getElem? (i := 133) rfl))) (mvT hZ (hw _ (List.mem_of_getElem? (i := 132) rfl))) (by decide) (backOf (W := 0) (rm_7 l Z a0 hw [] s6 y2 (own_bt (own_cv w1)) T255.heap n0 Z5 S6 S2k CS5) hZ (hw _ (List.mem_of_getElem? (i := 134) rfl)) (hw _ (List.mem_of_getElem? (i := 37) rfl)) (by decide) (by decide)) q281a q281c (g := (mkF m 242 #[.val (.ref ev), .val (.int w1), .val (.ref x1), .val (.int (4 : Int32)), .val (.int (own_st w1)), .val (.int (own_ln w1)), .val (.ref s6)] [(.ref y2), (.ref s6)])) rfl (by rw [hml]; rfl) (Steps.refl _) (argsL := [(.ref y2)]) (rest := []) (lenOf pd_7 rfl) rfl (by show 2 * 0 + _ ≤ _; exact Nat.le_of_eq rfl) (hb hby d15_242) (fun _ _ => ⟨rfl, e279, (by decide : 2 + 0 ≤ _), (by decide : 5 + 0 ≤ _)⟩)
    dsimp only [Pt.U, Pt.locs, Pt.cells, Pt.slots] at X280 l280 y280 z280 st280 hQ280
    subst l280 y280 z280
    obtain ⟨rfl, M280, eq280⟩ := hQ280
    have N280 := Fr.app N277 M280
    refine Goes.aft st280 ?_
    show Goes p e below (EndN s 2 5 (Q_24 Z ev w1 x1 h0 n0)) T280 (mkF m 245 #[.val (.ref ev), .val (.int w1), .val (.ref x1), .val (.int (4 : Int32)), .val (.int (own_st w1)), .val (.int (own_ln w1)), .val (.ref s6)] [(.int (1 : Int32))])
    refine own_ifN (pc' := 248) X280 hx (hb hby d15_245) (by decide) rfl ?_
    refine own_aload (pc' := 250) X280 hx (hb hby d15_248) rfl rfl rfl ?_
    refine own_aloadN (pc' := 251) X280 hx (hb hby d15_250) rfl rfl rfl ?_
    obtain ⟨T282, X282, e282, st282⟩ := getF X280 hx hZ hown (host := "") (Or.inl (hw _ (List.mem_of_getElem? (i := 155) rfl))) Via.refl eq280 F7 (g := (mkF m 251 #[.val (.ref ev), .val (.int w1), .val (.ref x1), .val (.int (4 : Int32)), .val (.int (own_st w1)), .val (.int (own_ln w1)), .val (.ref s6)] [(.ref ev), (.ref s6)])) rfl rfl (hb hby d15_251)
    refine Goes.pre st282 ?_
    show Goes p e below (EndN s 2 5 (Q_24 Z ev w1 x1 h0 n0)) T282 (mkF m 254 #[.val (.ref ev), .val (.int w1), .val (.ref x1), .val (.int (4 : Int32)), .val (.int (own_st w1)), .val (.int (own_ln w1)), .val (.ref s6)] [(.ref y3), (.ref s6)])
    obtain ⟨cq284, kq284, q284a, q284b, q284c⟩ := isOf hZ e282 S6.1
    obtain ⟨_, _, ⟨T283, L283, k283, n283⟩, -, X283, ⟨Lc283, hQ283, l283, y283, z283⟩, st283⟩ := X282.virtualBack hx (y := (⟨"java/lang/String", "equals", "(Ljava/lang/Object;)Z"⟩ : MethodName)) (z := (⟨"java/lang/String", "equals", "(Ljava/lang/Object;)Z"⟩ : MethodName)) hown (mvT hZ (hw _ (List.mem_of_getElem? (i := 130) rfl))) (mvT hZ (hw _ (List.mem_of_getElem? (i := 131) rfl))) (notFace_of_selects (args := #[]) (mvT hZ (hw _ (List.mem_of_getElem? (i := 133) rfl)))) (mvT hZ (hw _ (List.mem_of_getElem? (i := 133) rfl))) (mvT hZ (hw _ (List.mem_of_getElem? (i := 132) rfl))) (by decide) (backOf (W := 0) (rm_7 l Z a0 hw [] s6 y3 (own_bt (own_cv w1)) T255.heap n0 Z5 S6 S3k CS5) hZ (hw _ (List.mem_of_getElem? (i := 134) rfl)) (hw _ (List.mem_of_getElem? (i := 37) rfl)) (by decide) (by decide)) q284a q284c (g := (mkF m 254 #[.val (.ref ev), .val (.int w1), .val (.ref x1), .val (.int (4 : Int32)), .val (.int (own_st w1)), .val (.int (own_ln w1)), .val (.ref s6)] [(.ref y3), (.ref s6)])) rfl (by rw [hml]; rfl) (Steps.refl _) (argsL := [(.ref y3)]) (rest := []) (lenOf pd_7 rfl) rfl (by show 2 * 0 + _ ≤ _; exact Nat.le_of_eq rfl) (hb hby d15_254) (fun _ _ => ⟨rfl, e282, (by decide : 2 + 0 ≤ _), (by decide : 5 + 0 ≤ _)⟩)
    dsimp only [Pt.U, Pt.locs, Pt.cells, Pt.slots] at X283 l283 y283 z283 st283 hQ283
    subst l283 y283 z283
    obtain ⟨rfl, M283, eq283⟩ := hQ283
    have N283 := Fr.app N280 M283
    refine Goes.aft st283 ?_
    show Goes p e below (EndN s 2 5 (Q_24 Z ev w1 x1 h0 n0)) T283 (mkF m 257 #[.val (.ref ev), .val (.int w1), .val (.ref x1), .val (.int (4 : Int32)), .val (.int (own_st w1)), .val (.int (own_ln w1)), .val (.ref s6)] [(.int (1 : Int32))])
    refine own_ifN (pc' := 260) X283 hx (hb hby d15_257) (by decide) rfl ?_
    refine own_iconst (pc' := 261) X283 hx (hb hby d15_260) (v := (1 : Int32)) rfl rfl ?_
    refine own_goto X283 hx (hb hby d15_261) (by decide) (pc' := 265) (by decide) ?_
    exact own_retN X283 hx hlk (t := .boolean) Bd.returns (by simp) (hb hby d15_265) (by decide) (by decide) ⟨rfl, N283, by rw [eq283]; exact K5⟩
  · rw [hk]
    show Goes p e below (EndN s 2 5 (Q_24 Z ev w1 x1 h0 n0)) T255 (mkF m 33 #[.val (.ref ev), .val (.int w1), .val (.ref x1), .val (.int (5 : Int32)), .val (.int (own_st w1)), .val (.int (own_ln w1)), .val (.ref s6)] [])
    have S1k := S1.keep hw K5 own_W.nil
    refine own_iloadN (pc' := 34) X255 hx (hb hby d15_33) rfl rfl ?_
    refine own_ifY X255 hx (hb hby d15_34) (by decide) (by decide) (pc' := 77) (by decide) ?_
    refine own_iloadN (pc' := 78) X255 hx (hb hby d15_77) rfl rfl ?_
    refine own_iconst (pc' := 79) X255 hx (hb hby d15_78) (v := (1 : Int32)) rfl rfl ?_
    refine own_icmpY X255 hx (hb hby d15_79) (by decide) (by decide) (pc' := 123) (by decide) ?_
    refine own_iloadN (pc' := 124) X255 hx (hb hby d15_123) rfl rfl ?_
    refine own_iconst (pc' := 125) X255 hx (hb hby d15_124) (v := (2 : Int32)) rfl rfl ?_
    refine own_icmpY X255 hx (hb hby d15_125) (by decide) (by decide) (pc' := 168) (by decide) ?_
    refine own_iloadN (pc' := 169) X255 hx (hb hby d15_168) rfl rfl ?_
    refine own_iconst (pc' := 170) X255 hx (hb hby d15_169) (v := (3 : Int32)) rfl rfl ?_
    refine own_icmpY X255 hx (hb hby d15_170) (by decide) (by decide) (pc' := 211) (by decide) ?_
    refine own_iloadN (pc' := 212) X255 hx (hb hby d15_211) rfl rfl ?_
    refine own_iconst (pc' := 213) X255 hx (hb hby d15_212) (v := (4 : Int32)) rfl rfl ?_
    refine own_icmpY X255 hx (hb hby d15_213) (by decide) (by decide) (pc' := 266) (by decide) ?_
    refine own_iloadN (pc' := 267) X255 hx (hb hby d15_266) rfl rfl ?_
    refine own_iconst (pc' := 268) X255 hx (hb hby d15_267) (v := (5 : Int32)) rfl rfl ?_
    refine own_icmpN (pc' := 271) X255 hx (hb hby d15_268) (by decide) rfl ?_
    refine own_aloadN (pc' := 272) X255 hx (hb hby d15_271) rfl rfl rfl ?_
    obtain ⟨T285, X285, e285, st285⟩ := getF X255 hx hZ hown (host := "") (Or.inl (hw _ (List.mem_of_getElem? (i := 115) rfl))) Via.refl rfl F0 (g := (mkF m 272 #[.val (.ref ev), .val (.int w1), .val (.ref x1), .val (.int (5 : Int32)), .val (.int (own_st w1)), .val (.int (own_ln w1)), .val (.ref s6)] [(.ref ev)])) rfl rfl (hb hby d15_272)
    refine Goes.pre st285 ?_
    show Goes p e below (EndN s 2 5 (Q_24 Z ev w1 x1 h0 n0)) T285 (mkF m 275 #[.val (.ref ev), .val (.int w1), .val (.ref x1), .val (.int (5 : Int32)), .val (.int (own_st w1)), .val (.int (own_ln w1)), .val (.ref s6)] [(.int (11 : Int32))])
    refine own_bipush (pc' := 277) X285 hx (hb hby d15_275) (v := (11 : Int32)) rfl rfl ?_
    refine own_icmpN (pc' := 280) X285 hx (hb hby d15_277) (by decide) rfl ?_
    refine own_aload (pc' := 282) X285 hx (hb hby d15_280) rfl rfl rfl ?_
    refine own_aloadN (pc' := 283) X285 hx (hb hby d15_282) rfl rfl rfl ?_
    obtain ⟨T286, X286, e286, st286⟩ := getF X285 hx hZ hown (host := "") (Or.inl (hw _ (List.mem_of_getElem? (i := 138) rfl))) Via.refl e285 F4 (g := (mkF m 283 #[.val (.ref ev), .val (.int w1), .val (.ref x1), .val (.int (5 : Int32)), .val (.int (own_st w1)), .val (.int (own_ln w1)), .val (.ref s6)] [(.ref ev), (.ref s6)])) rfl rfl (hb hby d15_283)
    refine Goes.pre st286 ?_
    show Goes p e below (EndN s 2 5 (Q_24 Z ev w1 x1 h0 n0)) T286 (mkF m 286 #[.val (.ref ev), .val (.int w1), .val (.ref x1), .val (.int (5 : Int32)), .val (.int (own_st w1)), .val (.int (own_ln w1)), .val (.ref s6)] [(.ref y1), (.ref s6)])
    obtain ⟨cq288, kq288, q288a, q288b, q288c⟩ := isOf hZ e286 S6.1
    obtain ⟨_, _, ⟨T287, L287, k287, n287⟩, -, X287, ⟨Lc287, hQ287, l287, y287, z287⟩, st287⟩ := X286.virtualBack hx (y := (⟨"java/lang/String", "equals", "(Ljava/lang/Object;)Z"⟩ : MethodName)) (z := (⟨"java/lang/String", "equals", "(Ljava/lang/Object;)Z"⟩ : MethodName)) hown (mvT hZ (hw _ (List.mem_of_getElem? (i := 130) rfl))) (mvT hZ (hw _ (List.mem_of_getElem? (i := 131) rfl))) (notFace_of_selects (args := #[]) (mvT hZ (hw _ (List.mem_of_getElem? (i := 133) rfl)))) (mvT hZ (hw _ (List.mem_of_getElem? (i := 133) rfl))) (mvT hZ (hw _ (List.mem_of_getElem? (i := 132) rfl))) (by decide) (backOf (W := 0) (rm_7 l Z a0 hw [] s6 y1 (own_bt (own_cv w1)) T255.heap n0 Z5 S6 S1k CS5) hZ (hw _ (List.mem_of_getElem? (i := 134) rfl)) (hw _ (List.mem_of_getElem? (i := 37) rfl)) (by decide) (by decide)) q288a q288c (g := (mkF m 286 #[.val (.ref ev), .val (.int w1), .val (.ref x1), .val (.int (5 : Int32)), .val (.int (own_st w1)), .val (.int (own_ln w1)), .val (.ref s6)] [(.ref y1), (.ref s6)])) rfl (by rw [hml]; rfl) (Steps.refl _) (argsL := [(.ref y1)]) (rest := []) (lenOf pd_7 rfl) rfl (by show 2 * 0 + _ ≤ _; exact Nat.le_of_eq rfl) (hb hby d15_286) (fun _ _ => ⟨rfl, e286, (by decide : 2 + 0 ≤ _), (by decide : 5 + 0 ≤ _)⟩)
    dsimp only [Pt.U, Pt.locs, Pt.cells, Pt.slots] at X287 l287 y287 z287 st287 hQ287
    subst l287 y287 z287
    obtain ⟨rfl, M287, eq287⟩ := hQ287
    have N287 := Fr.app N255 M287
    refine Goes.aft st287 ?_
    show Goes p e below (EndN s 2 5 (Q_24 Z ev w1 x1 h0 n0)) T287 (mkF m 289 #[.val (.ref ev), .val (.int w1), .val (.ref x1), .val (.int (5 : Int32)), .val (.int (own_st w1)), .val (.int (own_ln w1)), .val (.ref s6)] [(.int (1 : Int32))])
    refine own_ifN (pc' := 292) X287 hx (hb hby d15_289) (by decide) rfl ?_
    refine own_iconst (pc' := 293) X287 hx (hb hby d15_292) (v := (1 : Int32)) rfl rfl ?_
    refine own_goto X287 hx (hb hby d15_293) (by decide) (pc' := 297) (by decide) ?_
    exact own_retN X287 hx hlk (t := .boolean) Bd.returns (by simp) (hb hby d15_297) (by decide) (by decide) ⟨rfl, N287, by rw [eq287]; exact K5⟩
  · rw [hk]
    show Goes p e below (EndN s 2 5 (Q_24 Z ev w1 x1 h0 n0)) T255 (mkF m 33 #[.val (.ref ev), .val (.int w1), .val (.ref x1), .val (.int (6 : Int32)), .val (.int (own_st w1)), .val (.int (own_ln w1)), .val (.ref s6)] [])
    have S1k := S1.keep hw K5 own_W.nil
    have S2k := S2.keep hw K5 own_W.nil
    refine own_iloadN (pc' := 34) X255 hx (hb hby d15_33) rfl rfl ?_
    refine own_ifY X255 hx (hb hby d15_34) (by decide) (by decide) (pc' := 77) (by decide) ?_
    refine own_iloadN (pc' := 78) X255 hx (hb hby d15_77) rfl rfl ?_
    refine own_iconst (pc' := 79) X255 hx (hb hby d15_78) (v := (1 : Int32)) rfl rfl ?_
    refine own_icmpY X255 hx (hb hby d15_79) (by decide) (by decide) (pc' := 123) (by decide) ?_
    refine own_iloadN (pc' := 124) X255 hx (hb hby d15_123) rfl rfl ?_
    refine own_iconst (pc' := 125) X255 hx (hb hby d15_124) (v := (2 : Int32)) rfl rfl ?_
    refine own_icmpY X255 hx (hb hby d15_125) (by decide) (by decide) (pc' := 168) (by decide) ?_
    refine own_iloadN (pc' := 169) X255 hx (hb hby d15_168) rfl rfl ?_
    refine own_iconst (pc' := 170) X255 hx (hb hby d15_169) (v := (3 : Int32)) rfl rfl ?_
    refine own_icmpY X255 hx (hb hby d15_170) (by decide) (by decide) (pc' := 211) (by decide) ?_
    refine own_iloadN (pc' := 212) X255 hx (hb hby d15_211) rfl rfl ?_
    refine own_iconst (pc' := 213) X255 hx (hb hby d15_212) (v := (4 : Int32)) rfl rfl ?_
    refine own_icmpY X255 hx (hb hby d15_213) (by decide) (by decide) (pc' := 266) (by decide) ?_
    refine own_iloadN (pc' := 267) X255 hx (hb hby d15_266) rfl rfl ?_
    refine own_iconst (pc' := 268) X255 hx (hb hby d15_267) (v := (5 : Int32)) rfl rfl ?_
    refine own_icmpY X255 hx (hb hby d15_268) (by decide) (by decide) (pc' := 298) (by decide) ?_
    refine own_iloadN (pc' := 299) X255 hx (hb hby d15_298) rfl rfl ?_
    refine own_bipush (pc' := 301) X255 hx (hb hby d15_299) (v := (6 : Int32)) rfl rfl ?_
    refine own_icmpN (pc' := 304) X255 hx (hb hby d15_301) (by decide) rfl ?_
    refine own_aloadN (pc' := 305) X255 hx (hb hby d15_304) rfl rfl rfl ?_
    obtain ⟨T289, X289, e289, st289⟩ := getF X255 hx hZ hown (host := "") (Or.inl (hw _ (List.mem_of_getElem? (i := 115) rfl))) Via.refl rfl F0 (g := (mkF m 305 #[.val (.ref ev), .val (.int w1), .val (.ref x1), .val (.int (6 : Int32)), .val (.int (own_st w1)), .val (.int (own_ln w1)), .val (.ref s6)] [(.ref ev)])) rfl rfl (hb hby d15_305)
    refine Goes.pre st289 ?_
    show Goes p e below (EndN s 2 5 (Q_24 Z ev w1 x1 h0 n0)) T289 (mkF m 308 #[.val (.ref ev), .val (.int w1), .val (.ref x1), .val (.int (6 : Int32)), .val (.int (own_st w1)), .val (.int (own_ln w1)), .val (.ref s6)] [(.int (9 : Int32))])
    refine own_bipush (pc' := 310) X289 hx (hb hby d15_308) (v := (9 : Int32)) rfl rfl ?_
    refine own_icmpN (pc' := 313) X289 hx (hb hby d15_310) (by decide) rfl ?_
    refine own_aload (pc' := 315) X289 hx (hb hby d15_313) rfl rfl rfl ?_
    refine own_aloadN (pc' := 316) X289 hx (hb hby d15_315) rfl rfl rfl ?_
    obtain ⟨T290, X290, e290, st290⟩ := getF X289 hx hZ hown (host := "") (Or.inl (hw _ (List.mem_of_getElem? (i := 129) rfl))) Via.refl e289 F6 (g := (mkF m 316 #[.val (.ref ev), .val (.int w1), .val (.ref x1), .val (.int (6 : Int32)), .val (.int (own_st w1)), .val (.int (own_ln w1)), .val (.ref s6)] [(.ref ev), (.ref s6)])) rfl rfl (hb hby d15_316)
    refine Goes.pre st290 ?_
    show Goes p e below (EndN s 2 5 (Q_24 Z ev w1 x1 h0 n0)) T290 (mkF m 319 #[.val (.ref ev), .val (.int w1), .val (.ref x1), .val (.int (6 : Int32)), .val (.int (own_st w1)), .val (.int (own_ln w1)), .val (.ref s6)] [(.ref y1), (.ref s6)])
    obtain ⟨cq292, kq292, q292a, q292b, q292c⟩ := isOf hZ e290 S6.1
    obtain ⟨_, _, ⟨T291, L291, k291, n291⟩, -, X291, ⟨Lc291, hQ291, l291, y291, z291⟩, st291⟩ := X290.virtualBack hx (y := (⟨"java/lang/String", "equals", "(Ljava/lang/Object;)Z"⟩ : MethodName)) (z := (⟨"java/lang/String", "equals", "(Ljava/lang/Object;)Z"⟩ : MethodName)) hown (mvT hZ (hw _ (List.mem_of_getElem? (i := 130) rfl))) (mvT hZ (hw _ (List.mem_of_getElem? (i := 131) rfl))) (notFace_of_selects (args := #[]) (mvT hZ (hw _ (List.mem_of_getElem? (i := 133) rfl)))) (mvT hZ (hw _ (List.mem_of_getElem? (i := 133) rfl))) (mvT hZ (hw _ (List.mem_of_getElem? (i := 132) rfl))) (by decide) (backOf (W := 0) (rm_7 l Z a0 hw [] s6 y1 (own_bt (own_cv w1)) T255.heap n0 Z5 S6 S1k CS5) hZ (hw _ (List.mem_of_getElem? (i := 134) rfl)) (hw _ (List.mem_of_getElem? (i := 37) rfl)) (by decide) (by decide)) q292a q292c (g := (mkF m 319 #[.val (.ref ev), .val (.int w1), .val (.ref x1), .val (.int (6 : Int32)), .val (.int (own_st w1)), .val (.int (own_ln w1)), .val (.ref s6)] [(.ref y1), (.ref s6)])) rfl (by rw [hml]; rfl) (Steps.refl _) (argsL := [(.ref y1)]) (rest := []) (lenOf pd_7 rfl) rfl (by show 2 * 0 + _ ≤ _; exact Nat.le_of_eq rfl) (hb hby d15_319) (fun _ _ => ⟨rfl, e290, (by decide : 2 + 0 ≤ _), (by decide : 5 + 0 ≤ _)⟩)
    dsimp only [Pt.U, Pt.locs, Pt.cells, Pt.slots] at X291 l291 y291 z291 st291 hQ291
    subst l291 y291 z291
    obtain ⟨rfl, M291, eq291⟩ := hQ291
    have N291 := Fr.app N255 M291
    refine Goes.aft st291 ?_
    show Goes p e below (EndN s 2 5 (Q_24 Z ev w1 x1 h0 n0)) T291 (mkF m 322 #[.val (.ref ev), .val (.int w1), .val (.ref x1), .val (.int (6 : Int32)), .val (.int (own_st w1)), .val (.int (own_ln w1)), .val (.ref s6)] [(.int (1 : Int32))])
    refine own_ifN (pc' := 325) X291 hx (hb hby d15_322) (by decide) rfl ?_
    refine own_aloadN (pc' := 326) X291 hx (hb hby d15_325) rfl rfl rfl ?_
    obtain ⟨T293, X293, e293, st293⟩ := getF X291 hx hZ hown (host := "") (Or.inl (hw _ (List.mem_of_getElem? (i := 138) rfl))) Via.refl eq291 F4 (g := (mkF m 326 #[.val (.ref ev), .val (.int w1), .val (.ref x1), .val (.int (6 : Int32)), .val (.int (own_st w1)), .val (.int (own_ln w1)), .val (.ref s6)] [(.ref ev)])) rfl rfl (hb hby d15_326)
    refine Goes.pre st293 ?_
    show Goes p e below (EndN s 2 5 (Q_24 Z ev w1 x1 h0 n0)) T293 (mkF m 329 #[.val (.ref ev), .val (.int w1), .val (.ref x1), .val (.int (6 : Int32)), .val (.int (own_st w1)), .val (.int (own_ln w1)), .val (.ref s6)] [(.ref y2)])
    refine own_ifnullN (pc' := 332) X293 hx (hb hby d15_329) rfl ?_
    refine own_aloadN (pc' := 333) X293 hx (hb hby d15_332) rfl rfl rfl ?_
    obtain ⟨T294, X294, e294, st294⟩ := getF X293 hx hZ hown (host := "") (Or.inl (hw _ (List.mem_of_getElem? (i := 138) rfl))) Via.refl e293 F4 (g := (mkF m 333 #[.val (.ref ev), .val (.int w1), .val (.ref x1), .val (.int (6 : Int32)), .val (.int (own_st w1)), .val (.int (own_ln w1)), .val (.ref s6)] [(.ref ev)])) rfl rfl (hb hby d15_333)
    refine Goes.pre st294 ?_
    show Goes p e below (EndN s 2 5 (Q_24 Z ev w1 x1 h0 n0)) T294 (mkF m 336 #[.val (.ref ev), .val (.int w1), .val (.ref x1), .val (.int (6 : Int32)), .val (.int (own_st w1)), .val (.int (own_ln w1)), .val (.ref s6)] [(.ref y2)])
    obtain ⟨cq296, kq296, q296a, q296b, q296c⟩ := isOf hZ e294 S2k.1
    obtain ⟨_, _, ⟨T295, L295, k295, n295⟩, -, X295, ⟨Lc295, hQ295, l295, y295, z295⟩, st295⟩ := X294.virtualBack hx (y := (⟨"java/lang/String", "isEmpty", "()Z"⟩ : MethodName)) (z := (⟨"java/lang/String", "isEmpty", "()Z"⟩ : MethodName)) hown (mvT hZ (hw _ (List.mem_of_getElem? (i := 164) rfl))) (mvT hZ (hw _ (List.mem_of_getElem? (i := 165) rfl))) (notFace_of_selects (args := #[]) (mvT hZ (hw _ (List.mem_of_getElem? (i := 167) rfl)))) (mvT hZ (hw _ (List.mem_of_getElem? (i := 167) rfl))) (mvT hZ (hw _ (List.mem_of_getElem? (i := 166) rfl))) (by decide) (backOf (W := 0) (rm_8 l Z a0 hw [] y2 T255.heap n0 Z5 S2k) hZ (hw _ (List.mem_of_getElem? (i := 168) rfl)) (hw _ (List.mem_of_getElem? (i := 37) rfl)) (by decide) (by decide)) q296a q296c (g := (mkF m 336 #[.val (.ref ev), .val (.int w1), .val (.ref x1), .val (.int (6 : Int32)), .val (.int (own_st w1)), .val (.int (own_ln w1)), .val (.ref s6)] [(.ref y2)])) rfl (by rw [hml]; rfl) (Steps.refl _) (argsL := []) (rest := []) (lenOf pd_8 rfl) rfl (by show 2 * 0 + _ ≤ _; exact Nat.le_of_eq rfl) (hb hby d15_336) (fun _ _ => ⟨rfl, e294, (by decide : 2 + 0 ≤ _), (by decide : 5 + 0 ≤ _)⟩)
    dsimp only [Pt.U, Pt.locs, Pt.cells, Pt.slots] at X295 l295 y295 z295 st295 hQ295
    subst l295 y295 z295
    obtain ⟨rfl, M295, em295⟩ := hQ295
    have N295 := Fr.app N291 M295
    refine Goes.aft st295 ?_
    show Goes p e below (EndN s 2 5 (Q_24 Z ev w1 x1 h0 n0)) T295 (mkF m 339 #[.val (.ref ev), .val (.int w1), .val (.ref x1), .val (.int (6 : Int32)), .val (.int (own_st w1)), .val (.int (own_ln w1)), .val (.ref s6)] [(.int (1 : Int32))])
    refine own_ifN (pc' := 342) X295 hx (hb hby d15_339) (by decide) rfl ?_
    refine own_iconst (pc' := 343) X295 hx (hb hby d15_342) (v := (1 : Int32)) rfl rfl ?_
    refine own_goto X295 hx (hb hby d15_343) (by decide) (pc' := 347) (by decide) ?_
    exact own_retN X295 hx hlk (t := .boolean) Bd.returns (by simp) (hb hby d15_347) (by decide) (by decide) ⟨rfl, N295, by rw [em295]; exact K5⟩
  · rw [hk]
    show Goes p e below (EndN s 2 5 (Q_24 Z ev w1 x1 h0 n0)) T255 (mkF m 33 #[.val (.ref ev), .val (.int w1), .val (.ref x1), .val (.int (7 : Int32)), .val (.int (own_st w1)), .val (.int (own_ln w1)), .val (.ref s6)] [])
    have S1k := S1.keep hw K5 own_W.nil
    refine own_iloadN (pc' := 34) X255 hx (hb hby d15_33) rfl rfl ?_
    refine own_ifY X255 hx (hb hby d15_34) (by decide) (by decide) (pc' := 77) (by decide) ?_
    refine own_iloadN (pc' := 78) X255 hx (hb hby d15_77) rfl rfl ?_
    refine own_iconst (pc' := 79) X255 hx (hb hby d15_78) (v := (1 : Int32)) rfl rfl ?_
    refine own_icmpY X255 hx (hb hby d15_79) (by decide) (by decide) (pc' := 123) (by decide) ?_
    refine own_iloadN (pc' := 124) X255 hx (hb hby d15_123) rfl rfl ?_
    refine own_iconst (pc' := 125) X255 hx (hb hby d15_124) (v := (2 : Int32)) rfl rfl ?_
    refine own_icmpY X255 hx (hb hby d15_125) (by decide) (by decide) (pc' := 168) (by decide) ?_
    refine own_iloadN (pc' := 169) X255 hx (hb hby d15_168) rfl rfl ?_
    refine own_iconst (pc' := 170) X255 hx (hb hby d15_169) (v := (3 : Int32)) rfl rfl ?_
    refine own_icmpY X255 hx (hb hby d15_170) (by decide) (by decide) (pc' := 211) (by decide) ?_
    refine own_iloadN (pc' := 212) X255 hx (hb hby d15_211) rfl rfl ?_
    refine own_iconst (pc' := 213) X255 hx (hb hby d15_212) (v := (4 : Int32)) rfl rfl ?_
    refine own_icmpY X255 hx (hb hby d15_213) (by decide) (by decide) (pc' := 266) (by decide) ?_
    refine own_iloadN (pc' := 267) X255 hx (hb hby d15_266) rfl rfl ?_
    refine own_iconst (pc' := 268) X255 hx (hb hby d15_267) (v := (5 : Int32)) rfl rfl ?_
    refine own_icmpY X255 hx (hb hby d15_268) (by decide) (by decide) (pc' := 298) (by decide) ?_
    refine own_iloadN (pc' := 299) X255 hx (hb hby d15_298) rfl rfl ?_
    refine own_bipush (pc' := 301) X255 hx (hb hby d15_299) (v := (6 : Int32)) rfl rfl ?_
    refine own_icmpY X255 hx (hb hby d15_301) (by decide) (by decide) (pc' := 348) (by decide) ?_
    refine own_aloadN (pc' := 349) X255 hx (hb hby d15_348) rfl rfl rfl ?_
    obtain ⟨T297, X297, e297, st297⟩ := getF X255 hx hZ hown (host := "") (Or.inl (hw _ (List.mem_of_getElem? (i := 115) rfl))) Via.refl rfl F0 (g := (mkF m 349 #[.val (.ref ev), .val (.int w1), .val (.ref x1), .val (.int (7 : Int32)), .val (.int (own_st w1)), .val (.int (own_ln w1)), .val (.ref s6)] [(.ref ev)])) rfl rfl (hb hby d15_349)
    refine Goes.pre st297 ?_
    show Goes p e below (EndN s 2 5 (Q_24 Z ev w1 x1 h0 n0)) T297 (mkF m 352 #[.val (.ref ev), .val (.int w1), .val (.ref x1), .val (.int (7 : Int32)), .val (.int (own_st w1)), .val (.int (own_ln w1)), .val (.ref s6)] [(.int (11 : Int32))])
    refine own_bipush (pc' := 354) X297 hx (hb hby d15_352) (v := (11 : Int32)) rfl rfl ?_
    refine own_icmpN (pc' := 357) X297 hx (hb hby d15_354) (by decide) rfl ?_
    refine own_aloadN (pc' := 358) X297 hx (hb hby d15_357) rfl rfl rfl ?_
    obtain ⟨T298, X298, e298, st298⟩ := getF X297 hx hZ hown (host := "") (Or.inl (hw _ (List.mem_of_getElem? (i := 138) rfl))) Via.refl e297 F4 (g := (mkF m 358 #[.val (.ref ev), .val (.int w1), .val (.ref x1), .val (.int (7 : Int32)), .val (.int (own_st w1)), .val (.int (own_ln w1)), .val (.ref s6)] [(.ref ev)])) rfl rfl (hb hby d15_358)
    refine Goes.pre st298 ?_
    show Goes p e below (EndN s 2 5 (Q_24 Z ev w1 x1 h0 n0)) T298 (mkF m 361 #[.val (.ref ev), .val (.int w1), .val (.ref x1), .val (.int (7 : Int32)), .val (.int (own_st w1)), .val (.int (own_ln w1)), .val (.ref s6)] [(.ref y1)])
    refine own_ifnullN (pc' := 364) X298 hx (hb hby d15_361) rfl ?_
    refine own_aloadN (pc' := 365) X298 hx (hb hby d15_364) rfl rfl rfl ?_
    obtain ⟨T299, X299, e299, st299⟩ := getF X298 hx hZ hown (host := "") (Or.inl (hw _ (List.mem_of_getElem? (i := 138) rfl))) Via.refl e298 F4 (g := (mkF m 365 #[.val (.ref ev), .val (.int w1), .val (.ref x1), .val (.int (7 : Int32)), .val (.int (own_st w1)), .val (.int (own_ln w1)), .val (.ref s6)] [(.ref ev)])) rfl rfl (hb hby d15_365)
    refine Goes.pre st299 ?_
    show Goes p e below (EndN s 2 5 (Q_24 Z ev w1 x1 h0 n0)) T299 (mkF m 368 #[.val (.ref ev), .val (.int w1), .val (.ref x1), .val (.int (7 : Int32)), .val (.int (own_st w1)), .val (.int (own_ln w1)), .val (.ref s6)] [(.ref y1)])
    obtain ⟨cq301, kq301, q301a, q301b, q301c⟩ := isOf hZ e299 S1k.1
    obtain ⟨_, _, ⟨T300, L300, k300, n300⟩, -, X300, ⟨Lc300, hQ300, l300, y300, z300⟩, st300⟩ := X299.virtualBack hx (y := (⟨"java/lang/String", "isEmpty", "()Z"⟩ : MethodName)) (z := (⟨"java/lang/String", "isEmpty", "()Z"⟩ : MethodName)) hown (mvT hZ (hw _ (List.mem_of_getElem? (i := 164) rfl))) (mvT hZ (hw _ (List.mem_of_getElem? (i := 165) rfl))) (notFace_of_selects (args := #[]) (mvT hZ (hw _ (List.mem_of_getElem? (i := 167) rfl)))) (mvT hZ (hw _ (List.mem_of_getElem? (i := 167) rfl))) (mvT hZ (hw _ (List.mem_of_getElem? (i := 166) rfl))) (by decide) (backOf (W := 0) (rm_8 l Z a0 hw [] y1 T255.heap n0 Z5 S1k) hZ (hw _ (List.mem_of_getElem? (i := 168) rfl)) (hw _ (List.mem_of_getElem? (i := 37) rfl)) (by decide) (by decide)) q301a q301c (g := (mkF m 368 #[.val (.ref ev), .val (.int w1), .val (.ref x1), .val (.int (7 : Int32)), .val (.int (own_st w1)), .val (.int (own_ln w1)), .val (.ref s6)] [(.ref y1)])) rfl (by rw [hml]; rfl) (Steps.refl _) (argsL := []) (rest := []) (lenOf pd_8 rfl) rfl (by show 2 * 0 + _ ≤ _; exact Nat.le_of_eq rfl) (hb hby d15_368) (fun _ _ => ⟨rfl, e299, (by decide : 2 + 0 ≤ _), (by decide : 5 + 0 ≤ _)⟩)
    dsimp only [Pt.U, Pt.locs, Pt.cells, Pt.slots] at X300 l300 y300 z300 st300 hQ300
    subst l300 y300 z300
    obtain ⟨rfl, M300, em300⟩ := hQ300
    have N300 := Fr.app N255 M300
    refine Goes.aft st300 ?_
    show Goes p e below (EndN s 2 5 (Q_24 Z ev w1 x1 h0 n0)) T300 (mkF m 371 #[.val (.ref ev), .val (.int w1), .val (.ref x1), .val (.int (7 : Int32)), .val (.int (own_st w1)), .val (.int (own_ln w1)), .val (.ref s6)] [(.int (1 : Int32))])
    refine own_ifN (pc' := 374) X300 hx (hb hby d15_371) (by decide) rfl ?_
    refine own_iconst (pc' := 375) X300 hx (hb hby d15_374) (v := (1 : Int32)) rfl rfl ?_
    refine own_goto X300 hx (hb hby d15_375) (by decide) (pc' := 379) (by decide) ?_
    exact own_retN X300 hx hlk (t := .boolean) Bd.returns (by simp) (hb hby d15_379) (by decide) (by decide) ⟨rfl, N300, by rw [em300]; exact K5⟩
section OwnPut
variable {Z : State} {a0 : Array Value} {h h' h2 : Heap} {q qa qb ev : Addr} {vs us : List Value} {hd ct hb : Int32} {wr ws : List Addr} {n0 : Nat}
theorem own_Keep0 (K : Keep h h' []) : Keep h h' ws := ⟨K.1, fun x c q _ => K.2.1 x c q nin0, K.2.2⟩
theorem own_AP.keep0 (A : own_AP Z n0 h vs hd ct) (K : Keep h h' []) : own_AP Z n0 h' vs hd ct := by
  rcases A with ⟨a1, a2, a3, ev, a4, a5, v1, v2, v3, v4, v5, v6, v7, v8, V⟩ | ⟨a1, a2, e0, e1, e2, e3, a3, x0, x1, x2, x3⟩
  · exact Or.inl ⟨a1, a2, a3, ev, a4, a5, v1, v2, v3, v4, v5, v6, v7, v8, V.keep K nin0⟩
  · exact Or.inr ⟨a1, a2, e0, e1, e2, e3, a3, x0.keep K, x1.keep K, x2.keep K, x3.keep K⟩
theorem own_AR.mono (A : own_AR h2 q qa vs hd ct qb us hb ev wr) (hs : Array.size h ≤ Array.size h2) : own_AR h q qa vs hd ct qb us hb ev wr := by
  rcases A with A | ⟨a1, a2, a3, a4, a5, r⟩
  · exact Or.inl A
  · exact Or.inr ⟨a1, a2, a3, Nat.le_trans hs a4, Nat.le_trans hs a5, r⟩
theorem own_hor (hs : Array.size h ≤ Array.size h2) (o : ev ∈ wr ∨ Array.size h2 ≤ ev) : ev ∈ wr ∨ Array.size h ≤ ev := o.imp id (Nat.le_trans hs)
end OwnPut
section OwnPut2
variable {Z : State} {a0 : Array Value} {h0 h : Heap} {q qa qb ev : Addr} {vs us : List Value} {hd ct hb : Int32} {wr ws : List Addr} {n0 : Nat}
theorem own_WR (A : own_AR h q qa vs hd ct qb us hb ev wr) (E : Exa Z h0 q "com/example/dipper/dipper/stream/ScannedEvents") (P : own_AP Z n0 h0 vs hd ct) : own_W Z h0 wr := by
  rcases A with ⟨a1, -, -, -, rfl, a2⟩ | ⟨a1, rfl, -⟩
  · rcases P with ⟨-, -, -, ev', b4, -, v1, v2, v3, v4, v5, v6, v7, v8, V⟩ | ⟨-, b2, -⟩
    · have e := a2.symm.trans b4
      simp only [Option.some.injEq, Value.ref.injEq] at e
      subst e
      exact own_W.qs E (own_W.ev V.1 own_W.nil)
    · exact absurd b2 a1
  · exact own_W.qs E own_W.nil
theorem own_wge (A : own_AR h q qa vs hd ct qb us hb ev wr) (gq : n0 ≤ q) (ge : n0 ≤ ev) : ∀ x ∈ wr, n0 ≤ x := by
  rcases A with ⟨-, -, -, -, rfl, -⟩ | ⟨-, rfl, -⟩
  · exact allS gq (allS ge all0)
  · exact allS gq all0
end OwnPut2
/-- what the walks that load the literal are told of the start -/
def own_HH (Z : State) (a0 : Array Value) : Prop := Jvm.Lit.constHeld Z "com/example/dipper/dipper/stream/ScannedEvents" 59 ∧ Jvm.Lit.compactW.before a0 Z = true
section OwnLit
variable {p : Program} {l : Launch} {e : Env} {R : Room} {s : State} {m : MethodId} {args : Array Value} {below : List Frame} {meth : Method} {c : Code} {T : State} {locs : List Loc} {cells slots : Nat} {Z : State} {a0 : Array Value} {h : Heap} {vm0 : Vm} {k0 n0 : Nat}
/-- the same walk, seen from a start whose heap is the one at hand -/
theorem own_rebase (X : Stand p l e R s m args below meth c T locs cells slots) (hc : cells ≤ R.cells) (hl : slots ≤ R.slots) :
    Stand p l e ({ frames := R.frames, cells := R.cells - cells, slots := R.slots - slots, locals := R.locals } : Room) ({ s with heap := T.heap, slotsUsed := T.slotsUsed } : State) m args below meth c T [] 0 0 := by
  have hr := X.room
  have h1 := X.heapSize
  have h2 := X.used
  have hb := X.book
  refine ⟨X.admits, X.cas, X.clock, X.frames, ?_, X.hears, X.method, X.code, X.here, X.tail, X.warmed, X.limits, X.bytes, ?_⟩
  · simp only [State.hasRoom, Bool.and_eq_true, decide_eq_true_eq] at hr ⊢
    obtain ⟨⟨⟨⟨r1, r2⟩, r3⟩, r4⟩, r5⟩ := hr
    exact ⟨⟨⟨⟨r1, r2⟩, by show Array.size T.heap + (R.cells - cells) ≤ _; omega⟩, by show T.slotsUsed + (R.slots - slots) ≤ _; omega⟩, hb⟩
  · have e1 := X.same.1
    refine ⟨e1, Nat.le_refl _, Nat.le_refl _, ?_, ?_, fun a cl hcl => ⟨cl, hcl, rfl, rfl, fun _ _ => rfl⟩⟩
    · show T.slotsUsed = T.slotsUsed + ((T.heap.toList.drop T.heap.size).map (·.slots.size)).sum
      rw [List.drop_eq_nil_of_le (by simp)]; rfl
    · show ((T.heap.toList.drop T.heap.size).map (·.slots.size)).sum ≤ 0
      rw [List.drop_eq_nil_of_le (by simp)]; exact Nat.le_refl _
end OwnLit
section OwnLit2
variable {p : Program} {l : Launch} {e : Env} {R : Room} {s : State} {m : MethodId} {args : Array Value} {below : List Frame} {meth : Method} {c : Code} {T : State} {locs : List Loc} {cells slots : Nat} {Z : State} {a0 : Array Value} {h : Heap} {vm0 : Vm} {k0 n0 : Nat}
theorem own_strA (hw : ∀ d ∈ tables_1, d.before a0 Z = true) : ∀ a ∈ Bundle.stringAtoms, a.before a0 Z = true := fun d hd => by
  simp only [Bundle.stringAtoms, List.mem_cons, List.not_mem_nil, or_false] at hd
  rcases hd with rfl | rfl | rfl | rfl | rfl | rfl | rfl
  · exact (hw _ (List.mem_of_getElem? (i := 37) rfl))
  · exact (hw _ (List.mem_of_getElem? (i := 45) rfl))
  · exact (hw _ (List.mem_of_getElem? (i := 49) rfl))
  · exact (hw _ (List.mem_of_getElem? (i := 56) rfl))
  · exact (hw _ (List.mem_of_getElem? (i := 58) rfl))
  · exact (hw _ (List.mem_of_getElem? (i := 162) rfl))
  · exact (hw _ (List.mem_of_getElem? (i := 163) rfl))
theorem own_ldcE (hw : ∀ d ∈ tables_1, d.before a0 Z = true) (X : Stand p l e R (s.setVm vm0) m args below meth c T locs cells slots) (hx : p.tables.exec = Jvm.exec) (hZ : Z.Warmed39 vm0) (hown : vm0.findClass "com/example/dipper/dipper/stream/ScannedEvents" = some m.cls) (eT : T.heap = h) (hS : s.Since vm0 k0) (hk : k0 ≤ Array.size h) (OZ : Old Z n0 h) (V : own_LV Z vm0 h) (HH : own_HH Z a0)
    {pc : Nat} (hd : decode c.code pc = .ok (.ldc 59, 2)) (hc : cells + 2 ≤ R.cells) (hl : slots + 4 ≤ R.slots) (Ls : Array Slot) (st : List Value) :
    ∃ (a : Addr) (T' : State) (h' : Heap), Stand p l e R (s.setVm T'.vm) m args below meth c T' locs (cells + 2) (slots + 4) ∧ T'.heap = h' ∧ Ext h h' ∧ s.Since T'.vm (Array.size h') ∧ Z.Warmed39 (s.setVm T'.vm).vm ∧ (s.setVm T'.vm).vm.findClass "com/example/dipper/dipper/stream/ScannedEvents" = some m.cls ∧ own_StrV Z h' a [] ∧ own_LV Z T'.vm h' ∧
      ∀ target, Steps p.tables e below (T'.setTop (mkF m (pc + 2) Ls (.ref a :: st))) target → Steps p.tables e below (T.setTop (mkF m pc Ls st)) target := by
  subst eT
  have wl : (Cond.stringLink "com/example/dipper/dipper/stream/ScannedEvents" 59 "").before a0 Z = true := (hw _ (List.mem_of_getElem? (i := 161) rfl))
  have hZT : Z.Warmed39 T.vm := State.Warmed39.trans (t := s.setVm vm0) hZ X.warmed.wide
  have hoT : T.vm.findClass "com/example/dipper/dipper/stream/ScannedEvents" = some m.cls := by rw [X.warmed.alike.findClass]; exact hown
  have V0 := V
  rcases V with I | ⟨a, L, SV⟩
  · have IT : IB Z T.vm [] := by
      obtain ⟨more, q, r⟩ := I
      exact ⟨more, X.warmed.interned_eq.trans q, r⟩
    have X1 : Stand p l e R (s.setVm T.vm) m args below meth c T locs cells slots := X.retabled X.warmed.wide
    have XR : Stand p l e ({ frames := R.frames, cells := R.cells - cells, slots := R.slots - slots, locals := R.locals } : Room) (({ s.setVm T.vm with heap := T.heap, slotsUsed := T.slotsUsed } : State).setVm T.vm) m args below meth c T [] 0 0 := own_rebase X1 (by omega) (by omega)
    obtain ⟨a, T', h', k1, b, k, Y, r2, r3, r4, r5, r6, r7, r8, r9, r10, r11, r12, r13, r14, r15, r16⟩ := ldcSVL (s := ({ s.setVm T.vm with heap := T.heap, slotsUsed := T.slotsUsed } : State)) XR hx hZT hoT wl (own_strA hw) rfl ((State.WarmedH.refl ({ s.setVm T.vm with heap := T.heap, slotsUsed := T.slotsUsed } : State)).since (Array.size T.heap)) (Nat.le_refl _) (Fr.nil _) OZ.2.2 IT (by simp) HH.1 HH.2 (vs := []) (z := (0 : Int32)) ⟨by simp, rfl⟩ (by decide) (by decide) (g := mkF m pc Ls st) rfl hd (n := 0) (by simp) (by decide) (by show 0 + 2 ≤ R.cells - cells; omega) (by show 0 + (0 + 4) ≤ R.slots - slots; omega)
    subst r2
    have hT : T = (({ s.setVm T.vm with heap := T.heap, slotsUsed := T.slotsUsed } : State)).setFrames T.frames := X1.same.1
    have e2 : T.setFrames T'.frames = (({ s.setVm T.vm with heap := T.heap, slotsUsed := T.slotsUsed } : State)).setFrames T'.frames := (congrArg (fun z : State => z.setFrames T'.frames) hT).trans (State.setFrames_setFrames _ _ _)
    have e1 := Y.same.1
    have hsame : T.sameButNew (T'.setVm T.vm) [] 2 4 := by
      refine ⟨?_, Y.same.2⟩
      show T'.setVm T.vm = { T.setFrames T'.frames with heap := T'.heap, slotsUsed := T'.slotsUsed }
      rw [e2]
      exact congrArg (fun z : State => z.setVm T.vm) e1
    obtain ⟨X2, S2⟩ := X.movedW (T₂ := T') Y.here Y.tail (Y.limits.trans X.limits.symm) (Y.bytes.trans X.bytes.symm) r4.1 (r4.2.mono r5) hsame
    rw [List.append_nil] at X2
    have PA : own_PA Z T'.heap b .byte [] := by
      obtain ⟨c1, A, -, q2, -⟩ := r11
      refine ⟨c1, A, ?_⟩
      have q3 : c1.slots.size = 0 := q2
      simpa using q3
    have SV : own_StrV Z T'.heap a [] := ⟨r8, r9, b, r10, PA⟩
    exact ⟨a, T', T'.heap, X2, rfl, r3, hS.trans S2 (Nat.le_trans hk r3.1), r6, r7, SV, Or.inr ⟨a, r15, SV⟩, r16⟩
  · refine ⟨a, T, T.heap, (X.mono (by omega) (by omega)).retabled X.warmed.wide, rfl, ⟨Nat.le_refl _, fun _ _ q => q⟩, hS.trans (X.warmed.since _) hk, hZT, hoT, SV, own_LV.warm (s := s.setVm vm0) V0 X.warmed, ?_⟩
    exact ldcAgain X hx hZ hown wl (a := a) L (g := mkF m pc Ls st) rfl hd
end OwnLit2
/-- a contract that may load the literal, as a caller takes it -/
theorem own_backW {l : Launch} {R : Room} {p : Program} {e : Env} {below : List Frame} {s Z : State} {args a0 : Array Value} {h : Heap} {y : MethodName} {bytes : ByteArray} {maxL : Nat} {ret : Option FieldType} {rm : Room} {len W : Nat} {as' : Array Value} {Q : Option Value → Heap → Vm → List Loc → Prop}
    (hM : MetFree l y (head1 [Cond.code y bytes maxL ret] rm) (fun a U => a = as' ∧ Z.Warmed39 U.vm ∧ U.heap = h ∧ own_LV Z U.vm h) (fun _ _ _ _ _ => True) (fun _ U o U' => ∃ v L, o = .returned v ∧ Q v U'.heap U'.vm L ∧ ReturnedEndW U o U' L rm.cells rm.slots))
    (hZ : Z.Warmed39 s.vm) (wc : (Cond.code y bytes maxL ret).before a0 Z = true) (wz : (Cond.initialized y.cls).before a0 Z = true) (hf : rm.frames + 1 ≤ R.frames) (hl : W + (maxL + 11) + rm.locals ≤ R.locals) :
    BackS l R p e below s args y len W (fun A a => a = as' ∧ A.U.heap = h ∧ own_LV Z A.U.vm h ∧ A.cells + rm.cells ≤ R.cells ∧ A.slots + rm.slots ≤ R.slots)
      (fun A _ v B => ∃ L, Q v B.U.heap B.U.vm L ∧ B.locs = A.locs ++ L ∧ B.cells = A.cells + rm.cells ∧ B.slots = A.slots + rm.slots) := by
  refine BackS.of_freeW (bytes := bytes) (maxL := maxL) (ret := ret) (E := fun _ _ o t L k n => k = rm.cells ∧ n = rm.slots ∧ ∃ v, o = .returned v ∧ Q v t.heap t.vm L) hM hf hl ?_ ?_ ?_ ?_ ?_
  · intro m meth c A a Y hp
    have hU : Z.Warmed39 A.U.vm := wtrans hZ Y.warmed
    refine ⟨?_, mv hU wc, mv hU wz, hp.2.2.2.1, hp.2.2.2.2⟩
    show (Cond.and _ .tt).before a A.U = true
    rw [Cond.before_and, mv hU wc]; rfl
  · intro m meth c A a g mk Y hp
    exact ⟨hp.1, wtrans hZ Y.warmed, hp.2.1, hp.2.2.1⟩
  · intros; trivial
  · rintro _ _ _ _ ⟨v, L, h1, h2, h3⟩
    exact ⟨L, _, _, h3, rfl, rfl, v, h1, h2⟩
  · rintro m meth c A a g mk v t L k n Y hp - - ⟨rfl, rfl, v', e3, e4⟩
    cases e3
    exact ⟨L, e4, rfl, rfl, rfl⟩
theorem pn_18n : plainFor (⟨"com/example/dipper/dipper/stream/ScannedEvents", "endDocumentType", "(Ljava/lang/String;)V"⟩ : MethodName) = true := by first | (refine plainFor_of_name ?_; simp [plainName, overriddenIn]; done) | decide +kernel
theorem pd_18n : parseMethodDescriptor "(Ljava/lang/String;)V" = some ⟨[(.object "java/lang/String")], none⟩ := by decide +kernel
theorem ef_18n (m : MethodId) (q : Addr) (qa : Addr) (vs : List Value) (hd : Int32) (ct : Int32) : entryFrame m #[(.ref q), (.null)] 2 = mkF m 0 #[.val (.ref q), .val (.null)] [] := by first | (simp [entryFrame, mkF, argsToLocals, Value.category]; done) | rfl
def Q_18n (Z : State) (q : Addr) (qa : Addr) (vs : List Value) (hd : Int32) (ct : Int32) (h0 : Heap) (n0 : Nat) (v : Option Value) (h : Heap) (vm : Vm) (L : List Loc) : Prop := ∃ (qb : Addr) (us : List Value) (hq : Int32) (ev : Addr) (wr : List Addr), v = none ∧ Fr n0 L ∧ own_AR h0 q qa vs hd ct qb us hq ev wr ∧ own_Q Z h q qb us hq (ct + (1 : Int32)) ∧ (∃ r : Addr, own_Ev Z h ev (11 : Int32) .null (0 : Int32) (0 : Int32) (.ref r) .null .null .null ∧ own_StrV Z h r []) ∧ Keep h0 h wr ∧ own_W Z h0 wr ∧ n0 ≤ ev ∧ n0 ≤ qb ∧ (ev ∈ wr ∨ Array.size h0 ≤ ev) ∧ own_LV Z vm h
set_option maxRecDepth 65536 in
set_option maxHeartbeats 40000000 in
theorem rm_18n (l : Launch) (Z : State) (a0 : Array Value) (hw : ∀ d ∈ tables_1, d.before a0 Z = true) (ws : List Jvm.Cond) (q : Addr) (qa : Addr) (vs : List Value) (hd : Int32) (ct : Int32) (h0 : Heap) (n0 : Nat) (Z0 : n0 ≤ h0.size) (Q1 : own_Q Z h0 q qa vs hd ct) (gq : n0 ≤ q) (ga : n0 ≤ qa) (AP : own_AP Z n0 h0 vs hd ct) (OZ : Old Z n0 h0) (HH : own_HH Z a0) :
    MetFree l (⟨"com/example/dipper/dipper/stream/ScannedEvents", "endDocumentType", "(Ljava/lang/String;)V"⟩ : MethodName) (head1 (Jvm.Cond.code (⟨"com/example/dipper/dipper/stream/ScannedEvents", "endDocumentType", "(Ljava/lang/String;)V"⟩ : MethodName) prog_163_method_11_code 2 none :: ws) ({ frames := 3, cells := 7, slots := 44, locals := 42 } : Room)) (fun a U => a = #[(.ref q), (.null)] ∧ Z.Warmed39 U.vm ∧ U.heap = h0 ∧ own_LV Z U.vm h0) (fun _ _ _ _ _ => True) (fun _ U o U' => ∃ v L, o = .returned v ∧ (Q_18n Z q qa vs hd ct h0 n0) v U'.heap U'.vm L ∧ ReturnedEndW U o U' L ({ frames := 3, cells := 7, slots := 44, locals := 42 } : Room).cells ({ frames := 3, cells := 7, slots := 44, locals := 42 } : Room).slots) := by
  refine MetFree.of_bodySF pn_18n hisR ?_
  intro p e s m args below meth c s₁ Bd hml0 hP hK
  obtain ⟨rfl, hZ, hh, hV⟩ := hP
  have hx := Bd.exec
  have hby := Bd.bytes
  have hlk : meth.locks = false := BodyLoose.notSynchronized Bd
  have hml : c.maxLocals = 2 := hml0
  have hown : s.vm.findClass "com/example/dipper/dipper/stream/ScannedEvents" = some m.cls := findClass_of_methodNamed Bd.named
  have hnm := (name_of_methodNamed Bd.named Bd.method).1
  have X0 : Stand p l e ({ frames := 3, cells := 7, slots := 44, locals := 42 } : Room) (s.setVm s.vm) m #[(.ref q), (.null)] below meth c s₁ [] 0 0 := Stand.of_body Bd
  have e0 : s₁.heap = h0 := by rw [← hh, Bd.state]; rfl
  have N0 := Fr.nil n0
  refine own_enterW (Q := (Q_18n Z q qa vs hd ct h0 n0)) (cs := 7) (ss := 44) (ef_18n m q qa vs hd ct) ?_
  have hS := (State.WarmedH.refl s).since (Array.size h0)
  have hk : Array.size h0 ≤ Array.size h0 := Nat.le_refl _
  have hZ : Z.Warmed39 (s.setVm s.vm).vm := hZ
  have hown : (s.setVm s.vm).vm.findClass "com/example/dipper/dipper/stream/ScannedEvents" = some m.cls := hown
  show Goes p e below (EndW s 7 44 (Q_18n Z q qa vs hd ct h0 n0)) s₁ (mkF m 0 #[.val (.ref q), .val (.null)] [])
  refine own_aloadN (pc' := 1) X0 hx (hb hby d23_0) rfl rfl rfl ?_
  refine own_bipush (pc' := 3) X0 hx (hb hby d23_1) (v := (11 : Int32)) rfl rfl ?_
  obtain ⟨_, _, ⟨T302, L302, k302, n302⟩, -, X302, ⟨Lc302, hQ302, l302, y302, z302⟩, st302⟩ := own_private X0 hx (y := (⟨"com/example/dipper/dipper/stream/ScannedEvents", "add", "(I)Lcom/example/dipper/dipper/stream/ScannedEvent;"⟩ : MethodName)) hown (mvT hZ (hw _ (List.mem_of_getElem? (i := 66) rfl))) (mvT hZ (hw _ (List.mem_of_getElem? (i := 67) rfl))) (mvT hZ (hw _ (List.mem_of_getElem? (i := 142) rfl))) rfl (Cond.privateMethod_at (mvP hZ (hw _ (List.mem_of_getElem? (i := 68) rfl)) (args := #[]))) (mvT hZ (hw _ (List.mem_of_getElem? (i := 69) rfl))) (by decide) (backOf (W := 0) (rm_12 l Z a0 hw [] q qa vs hd ct (11 : Int32) h0 n0 Z0 Q1 gq ga AP) hZ (hw _ (List.mem_of_getElem? (i := 69) rfl)) (hw _ (List.mem_of_getElem? (i := 3) rfl)) (by decide) (by decide)) (a := q) (by obtain ⟨c1, k1, h1, -, -, h4, -⟩ := Q1.1; exact ⟨c1, k1, by rw [e0]; exact h1, h4⟩) (g := (mkF m 3 #[.val (.ref q), .val (.null)] [(.int (11 : Int32)), (.ref q)])) rfl (by rw [hml]; rfl) (argsL := [(.int (11 : Int32))]) (rest := []) (lenOf pd_12 rfl) rfl (by show 2 * 0 + _ ≤ _; exact Nat.le_of_eq rfl) (hb hby d23_3) (fun _ _ => ⟨rfl, e0, (by decide : 0 + 5 ≤ _), (by decide : 0 + 40 ≤ _)⟩)
  dsimp only [Pt.U, Pt.locs, Pt.cells, Pt.slots] at X302 l302 y302 z302 st302 hQ302
  subst l302 y302 z302
  obtain ⟨qb, us, hq, ev, wr, rfl, M302, AR, QQ, VV, KK, WW, gev, gqb, hor⟩ := hQ302
  have N302 := Fr.app N0 M302
  refine Goes.aft st302 ?_
  show Goes p e below (EndW s 7 44 (Q_18n Z q qa vs hd ct h0 n0)) T302 (mkF m 6 #[.val (.ref q), .val (.null)] [(.ref ev)])
  have ZA : n0 ≤ Array.size T302.heap := Nat.le_trans Z0 KK.1
  have hkA : Array.size h0 ≤ Array.size T302.heap := Nat.le_trans hk KK.1
  have OA := OZ.keep KK (own_wge AR gq gev)
  have VA := own_LV.keep hw hV KK WW
  refine own_aloadN (pc' := 7) X302 hx (hb hby d23_6) rfl rfl rfl ?_
  refine own_ifnonnullN (pc' := 10) X302 hx (hb hby d23_7) rfl ?_
  obtain ⟨l303, T303, h303, X303, e303, Ex303, hS303, hZ303, hw303, SL303, LV303, st303⟩ := own_ldcE hw X302 hx hZ hown rfl hS hkA OA VA HH (hb hby d23_10) (by decide) (by decide) #[.val (.ref q), .val (.null)] [(.ref ev)]
  refine Goes.pre st303 ?_
  have hk303 : Array.size h303 ≤ Array.size h303 := Nat.le_refl _
  show Goes p e below (EndW s 7 44 (Q_18n Z q qa vs hd ct h0 n0)) T303 (mkF m 12 #[.val (.ref q), .val (.null)] [(.ref l303), (.ref ev)])
  have QL := QQ.ext Ex303
  have VL := VV.ext Ex303
  have KL := KK.ext Ex303
  obtain ⟨EE, F0, F1, F2, F3, F4, F5, F6, F7⟩ := id VL
  refine own_goto X303 hx (hb hby d23_12) (by decide) (pc' := 16) (by decide) ?_
  obtain ⟨T304, h304, X304, e304, W304, st304⟩ := putF X303 hx hZ303 hw303 (host := "") (Or.inl (hw _ (List.mem_of_getElem? (i := 106) rfl))) Via.refl e303 F4 EE (Or.inl (hw _ (List.mem_of_getElem? (i := 88) rfl))) (hw _ (List.mem_of_getElem? (i := 22) rfl)) (ty := (.object "java/lang/String")) (by decide) rfl rfl (g := (mkF m 16 #[.val (.ref q), .val (.null)] [(.ref l303), (.ref ev)])) rfl rfl (hb hby d23_16)
  have N304 := Fr.snoc X304 N302 gev
  refine Goes.pre st304 ?_
  show Goes p e below (EndW s 7 44 (Q_18n Z q qa vs hd ct h0 n0)) T304 (mkF m 19 #[.val (.ref q), .val (.null)] [])
  have F304_ev_type := F0.other W304 (Or.inr (slot_ne (Or.inl (hw _ (List.mem_of_getElem? (i := 80) rfl))) (Or.inl (hw _ (List.mem_of_getElem? (i := 88) rfl))) (by decide) (t := .int) (t' := (.object "java/lang/String")) (by decide) (by decide)))
  have F304_ev_characters := F1.other W304 (Or.inr (slot_ne (Or.inl (hw _ (List.mem_of_getElem? (i := 82) rfl))) (Or.inl (hw _ (List.mem_of_getElem? (i := 88) rfl))) (by decide) (t := (.array .char)) (t' := (.object "java/lang/String")) (by decide) (by decide)))
  have F304_ev_start := F2.other W304 (Or.inr (slot_ne (Or.inl (hw _ (List.mem_of_getElem? (i := 84) rfl))) (Or.inl (hw _ (List.mem_of_getElem? (i := 88) rfl))) (by decide) (t := .int) (t' := (.object "java/lang/String")) (by decide) (by decide)))
  have F304_ev_length := F3.other W304 (Or.inr (slot_ne (Or.inl (hw _ (List.mem_of_getElem? (i := 86) rfl))) (Or.inl (hw _ (List.mem_of_getElem? (i := 88) rfl))) (by decide) (t := .int) (t' := (.object "java/lang/String")) (by decide) (by decide)))
  have F304_ev_text := F4.same W304
  have F304_ev_namespace := F5.other W304 (Or.inr (slot_ne (Or.inl (hw _ (List.mem_of_getElem? (i := 90) rfl))) (Or.inl (hw _ (List.mem_of_getElem? (i := 88) rfl))) (by decide) (t := (.object "java/lang/String")) (t' := (.object "java/lang/String")) (by decide) (by decide)))
  have F304_ev_localName := F6.other W304 (Or.inr (slot_ne (Or.inl (hw _ (List.mem_of_getElem? (i := 92) rfl))) (Or.inl (hw _ (List.mem_of_getElem? (i := 88) rfl))) (by decide) (t := (.object "java/lang/String")) (t' := (.object "java/lang/String")) (by decide) (by decide)))
  have F304_ev_qualifiedName := F7.other W304 (Or.inr (slot_ne (Or.inl (hw _ (List.mem_of_getElem? (i := 94) rfl))) (Or.inl (hw _ (List.mem_of_getElem? (i := 88) rfl))) (by decide) (t := (.object "java/lang/String")) (t' := (.object "java/lang/String")) (by decide) (by decide)))
  have E304_ev := EE.wr W304
  have K304 := Keep.wr (Keep.refl h303 [ev]) W304 (Or.inl (List.mem_of_getElem? (i := 0) rfl))
  have WE : own_W Z h303 [ev] := own_W.ev VL.1 own_W.nil
  exact own_ret0W X304 hx hS303 (by rw [e304]; exact (K304).1) hlk Bd.returns (hb hby d23_19) (by decide) (by decide) (by rw [e304]; exact ⟨qb, us, hq, ev, wr, rfl, N304, AR, QL.keep K304 (ninS (QL.neQ VL.1) nin0) (ninS (QL.2.2.2.2.2.neE hw VL.1) nin0), ⟨l303, ⟨E304_ev, F304_ev_type, F304_ev_characters, F304_ev_start, F304_ev_length, F304_ev_text, F304_ev_namespace, F304_ev_localName, F304_ev_qualifiedName⟩, SL303.keep hw K304 WE⟩, KL.trans K304 (allS hor all0), WW, gev, gqb, hor, own_LV.warm (s := s.setVm T303.vm) (LV303.keep hw K304 WE) X304.warmed⟩)
theorem d25_0 : decode prog_163_method_20_code 0 = .ok (.aload_n 0, 1) := by decide +kernel
theorem d25_1 : decode prog_163_method_20_code 1 = .ok (.getfield 64, 3) := by decide +kernel
theorem d25_4 : decode prog_163_method_20_code 4 = .ok (.ifCond .ne 10, 3) := by decide +kernel
theorem d25_7 : decode prog_163_method_20_code 7 = .ok (.aload_n 0, 1) := by decide +kernel
theorem d25_8 : decode prog_163_method_20_code 8 = .ok (.aload_n 1, 1) := by decide +kernel
theorem d25_9 : decode prog_163_method_20_code 9 = .ok (.ldc 59, 2) := by decide +kernel
theorem d25_11 : decode prog_163_method_20_code 11 = .ok (.invokevirtual 97, 3) := by decide +kernel
theorem d25_14 : decode prog_163_method_20_code 14 = .ok (.return_, 1) := by decide +kernel
theorem pn_19 : plainFor (⟨"com/example/dipper/dipper/stream/ScannedEvents", "skippedEntity", "(Ljava/lang/String;)V"⟩ : MethodName) = true := by first | (refine plainFor_of_name ?_; simp [plainName, overriddenIn]; done) | decide +kernel
theorem pd_19 : parseMethodDescriptor "(Ljava/lang/String;)V" = some ⟨[(.object "java/lang/String")], none⟩ := by decide +kernel
theorem ef_19 (m : MethodId) (q : Addr) (qa : Addr) (vs : List Value) (hd : Int32) (ct : Int32) (x1 : Addr) : entryFrame m #[(.ref q), (.ref x1)] 2 = mkF m 0 #[.val (.ref q), .val (.ref x1)] [] := by first | (simp [entryFrame, mkF, argsToLocals, Value.category]; done) | rfl
def Q_19 (Z : State) (q : Addr) (qa : Addr) (vs : List Value) (hd : Int32) (ct : Int32) (x1 : Addr) (h0 : Heap) (n0 : Nat) (v : Option Value) (h : Heap) (vm : Vm) (L : List Loc) : Prop := ∃ (qb : Addr) (us : List Value) (hq : Int32) (ev : Addr) (wr : List Addr), v = none ∧ Fr n0 L ∧ own_AR h0 q qa vs hd ct qb us hq ev wr ∧ own_Q Z h q qb us hq (ct + (1 : Int32)) ∧ (∃ r : Addr, own_Ev Z h ev (9 : Int32) .null (0 : Int32) (0 : Int32) (.ref r) .null (.ref x1) .null ∧ own_StrV Z h r []) ∧ Keep h0 h wr ∧ own_W Z h0 wr ∧ n0 ≤ ev ∧ n0 ≤ qb ∧ (ev ∈ wr ∨ Array.size h0 ≤ ev) ∧ own_LV Z vm h
set_option maxRecDepth 65536 in
set_option maxHeartbeats 40000000 in
theorem rm_19 (l : Launch) (Z : State) (a0 : Array Value) (hw : ∀ d ∈ tables_1, d.before a0 Z = true) (ws : List Jvm.Cond) (q : Addr) (qa : Addr) (vs : List Value) (hd : Int32) (ct : Int32) (x1 : Addr) (h0 : Heap) (n0 : Nat) (Z0 : n0 ≤ h0.size) (Q1 : own_Q Z h0 q qa vs hd ct) (gq : n0 ≤ q) (ga : n0 ≤ qa) (AP : own_AP Z n0 h0 vs hd ct) (OZ : Old Z n0 h0) (HH : own_HH Z a0) :
    MetFree l (⟨"com/example/dipper/dipper/stream/ScannedEvents", "skippedEntity", "(Ljava/lang/String;)V"⟩ : MethodName) (head1 (Jvm.Cond.code (⟨"com/example/dipper/dipper/stream/ScannedEvents", "skippedEntity", "(Ljava/lang/String;)V"⟩ : MethodName) prog_163_method_20_code 2 none :: ws) ({ frames := 4, cells := 7, slots := 44, locals := 60 } : Room)) (fun a U => a = #[(.ref q), (.ref x1)] ∧ Z.Warmed39 U.vm ∧ U.heap = h0 ∧ own_LV Z U.vm h0) (fun _ _ _ _ _ => True) (fun _ U o U' => ∃ v L, o = .returned v ∧ (Q_19 Z q qa vs hd ct x1 h0 n0) v U'.heap U'.vm L ∧ ReturnedEndW U o U' L ({ frames := 4, cells := 7, slots := 44, locals := 60 } : Room).cells ({ frames := 4, cells := 7, slots := 44, locals := 60 } : Room).slots) := by
  refine MetFree.of_bodySF pn_19 hisR ?_
  intro p e s m args below meth c s₁ Bd hml0 hP hK
  obtain ⟨rfl, hZ, hh, hV⟩ := hP
  have hx := Bd.exec
  have hby := Bd.bytes
  have hlk : meth.locks = false := BodyLoose.notSynchronized Bd
  have hml : c.maxLocals = 2 := hml0
  have hown : s.vm.findClass "com/example/dipper/dipper/stream/ScannedEvents" = some m.cls := findClass_of_methodNamed Bd.named
  have hnm := (name_of_methodNamed Bd.named Bd.method).1
  have X0 : Stand p l e ({ frames := 4, cells := 7, slots := 44, locals := 60 } : Room) (s.setVm s.vm) m #[(.ref q), (.ref x1)] below meth c s₁ [] 0 0 := Stand.of_body Bd
  have e0 : s₁.heap = h0 := by rw [← hh, Bd.state]; rfl
  have N0 := Fr.nil n0
  refine own_enterW (Q := (Q_19 Z q qa vs hd ct x1 h0 n0)) (cs := 7) (ss := 44) (ef_19 m q qa vs hd ct x1) ?_
  have hS := (State.WarmedH.refl s).since (Array.size h0)
  have hk : Array.size h0 ≤ Array.size h0 := Nat.le_refl _
  have hZ : Z.Warmed39 (s.setVm s.vm).vm := hZ
  have hown : (s.setVm s.vm).vm.findClass "com/example/dipper/dipper/stream/ScannedEvents" = some m.cls := hown
  show Goes p e below (EndW s 7 44 (Q_19 Z q qa vs hd ct x1 h0 n0)) s₁ (mkF m 0 #[.val (.ref q), .val (.ref x1)] [])
  refine own_aloadN (pc' := 1) X0 hx (hb hby d25_0) rfl rfl rfl ?_
  obtain ⟨T305, X305, e305, st305⟩ := getF X0 hx hZ hown (host := "") (Or.inl (hw _ (List.mem_of_getElem? (i := 64) rfl))) Via.refl e0 Q1.2.2.2.2.1 (g := (mkF m 1 #[.val (.ref q), .val (.ref x1)] [(.ref q)])) rfl rfl (hb hby d25_1)
  refine Goes.pre st305 ?_
  show Goes p e below (EndW s 7 44 (Q_19 Z q qa vs hd ct x1 h0 n0)) T305 (mkF m 4 #[.val (.ref q), .val (.ref x1)] [(.int (0 : Int32))])
  refine own_ifN (pc' := 7) X305 hx (hb hby d25_4) (by decide) rfl ?_
  refine own_aloadN (pc' := 8) X305 hx (hb hby d25_7) rfl rfl rfl ?_
  refine own_aloadN (pc' := 9) X305 hx (hb hby d25_8) rfl rfl rfl ?_
  obtain ⟨l306, T306, h306, X306, e306, Ex306, hS306, hZ306, hw306, SL306, LV306, st306⟩ := own_ldcE hw X305 hx hZ hown e305 hS hk OZ hV HH (hb hby d25_9) (by decide) (by decide) #[.val (.ref q), .val (.ref x1)] [(.ref x1), (.ref q)]
  refine Goes.pre st306 ?_
  have hk306 : Array.size h306 ≤ Array.size h306 := Nat.le_refl _
  show Goes p e below (EndW s 7 44 (Q_19 Z q qa vs hd ct x1 h0 n0)) T306 (mkF m 11 #[.val (.ref q), .val (.ref x1)] [(.ref l306), (.ref x1), (.ref q)])
  have QL := Q1.ext Ex306
  have APL := own_AP.keep0 AP ((Keep.refl h0 []).ext Ex306)
  have ZL : n0 ≤ Array.size h306 := Nat.le_trans Z0 Ex306.1
  obtain ⟨_, _, ⟨T307, L307, k307, n307⟩, -, X307, ⟨Lc307, hQ307, l307, y307, z307⟩, st307⟩ := own_private X306 hx (y := (⟨"com/example/dipper/dipper/stream/ScannedEvents", "reference", "(Ljava/lang/String;Ljava/lang/String;)V"⟩ : MethodName)) hw306 (mvT hZ306 (hw _ (List.mem_of_getElem? (i := 174) rfl))) (mvT hZ306 (hw _ (List.mem_of_getElem? (i := 175) rfl))) (mvT hZ306 (hw _ (List.mem_of_getElem? (i := 142) rfl))) rfl (Cond.privateMethod_at (mvP hZ306 (hw _ (List.mem_of_getElem? (i := 176) rfl)) (args := #[]))) (mvT hZ306 (hw _ (List.mem_of_getElem? (i := 177) rfl))) (by decide) (backOf (W := 0) (rm_20 l Z a0 hw [] q qa vs hd ct x1 l306 h306 n0 ZL QL gq ga APL) hZ306 (hw _ (List.mem_of_getElem? (i := 177) rfl)) (hw _ (List.mem_of_getElem? (i := 3) rfl)) (by decide) (by decide)) (a := q) (by obtain ⟨c1, k1, h1, -, -, h4, -⟩ := QL.1; exact ⟨c1, k1, by rw [e306]; exact h1, h4⟩) (g := (mkF m 11 #[.val (.ref q), .val (.ref x1)] [(.ref l306), (.ref x1), (.ref q)])) rfl (by rw [hml]; rfl) (argsL := [(.ref x1), (.ref l306)]) (rest := []) (lenOf pd_20 rfl) rfl (by show 2 * 0 + _ ≤ _; exact Nat.le_of_eq rfl) (hb hby d25_11) (fun _ _ => ⟨rfl, e306, (by decide : 2 + 5 ≤ _), (by decide : 4 + 40 ≤ _)⟩)
  dsimp only [Pt.U, Pt.locs, Pt.cells, Pt.slots] at X307 l307 y307 z307 st307 hQ307
  subst l307 y307 z307
  obtain ⟨qb, us, hq, ev, wr, rfl, M307, AR, QQ, VV, KK, WW, gev, gqb, hor⟩ := hQ307
  have N307 := Fr.app N0 M307
  refine Goes.aft st307 ?_
  show Goes p e below (EndW s 7 44 (Q_19 Z q qa vs hd ct x1 h0 n0)) T307 (mkF m 14 #[.val (.ref q), .val (.ref x1)] [])
  have KZ : Keep h0 T307.heap wr := Keep.trans ((Keep.refl h0 wr).ext Ex306) KK (fun x hx => Or.inl hx)
  have WZ : own_W Z h0 wr := own_WR AR Q1.1 AP
  exact own_ret0W X307 hx hS306 (Nat.le_trans hk306 KK.1) hlk Bd.returns (hb hby d25_14) (by decide) (by decide) ⟨qb, us, hq, ev, wr, rfl, N307, own_AR.mono AR Ex306.1, QQ, ⟨l306, VV, SL306.keep hw KK WW⟩, KZ, WZ, gev, gqb, own_hor Ex306.1 hor, own_LV.warm (s := s.setVm T306.vm) (LV306.keep hw KK WW) X307.warmed⟩
theorem d4_0 : decode method_2_code 0 = .ok (.iload_n 1, 1) := by decide +kernel
theorem d4_1 : decode method_2_code 1 = .ok (.bipush 7, 2) := by decide +kernel
theorem d4_3 : decode method_2_code 3 = .ok (.iand, 1) := by decide +kernel
theorem d4_4 : decode method_2_code 4 = .ok (.istore_n 3, 1) := by decide +kernel
theorem d4_5 : decode method_2_code 5 = .ok (.iload_n 1, 1) := by decide +kernel
theorem d4_6 : decode method_2_code 6 = .ok (.iconst 3, 1) := by decide +kernel
theorem d4_7 : decode method_2_code 7 = .ok (.iushr, 1) := by decide +kernel
theorem d4_8 : decode method_2_code 8 = .ok (.iconst 3, 1) := by decide +kernel
theorem d4_9 : decode method_2_code 9 = .ok (.iand, 1) := by decide +kernel
theorem d4_10 : decode method_2_code 10 = .ok (.istore 4, 2) := by decide +kernel
theorem d4_12 : decode method_2_code 12 = .ok (.iload_n 1, 1) := by decide +kernel
theorem d4_13 : decode method_2_code 13 = .ok (.iconst 5, 1) := by decide +kernel
theorem d4_14 : decode method_2_code 14 = .ok (.iushr, 1) := by decide +kernel
theorem d4_15 : decode method_2_code 15 = .ok (.iconst 3, 1) := by decide +kernel
theorem d4_16 : decode method_2_code 16 = .ok (.iand, 1) := by decide +kernel
theorem d4_17 : decode method_2_code 17 = .ok (.istore 5, 2) := by decide +kernel
theorem d4_19 : decode method_2_code 19 = .ok (.iload_n 1, 1) := by decide +kernel
theorem d4_20 : decode method_2_code 20 = .ok (.bipush 7, 2) := by decide +kernel
theorem d4_22 : decode method_2_code 22 = .ok (.iushr, 1) := by decide +kernel
theorem d4_23 : decode method_2_code 23 = .ok (.sipush 255, 3) := by decide +kernel
theorem d4_26 : decode method_2_code 26 = .ok (.iand, 1) := by decide +kernel
theorem d4_27 : decode method_2_code 27 = .ok (.i2c, 1) := by decide +kernel
theorem d4_28 : decode method_2_code 28 = .ok (.invokestatic 7, 3) := by decide +kernel
theorem d4_31 : decode method_2_code 31 = .ok (.astore 6, 2) := by decide +kernel
theorem d4_33 : decode method_2_code 33 = .ok (.iload_n 3, 1) := by decide +kernel
theorem d4_34 : decode method_2_code 34 = .ok (.ifCond .ne 15, 3) := by decide +kernel
theorem d4_37 : decode method_2_code 37 = .ok (.aload_n 0, 1) := by decide +kernel
theorem d4_38 : decode method_2_code 38 = .ok (.aload_n 2, 1) := by decide +kernel
theorem d4_39 : decode method_2_code 39 = .ok (.iload 4, 2) := by decide +kernel
theorem d4_41 : decode method_2_code 41 = .ok (.iload 5, 2) := by decide +kernel
theorem d4_43 : decode method_2_code 43 = .ok (.invokevirtual 13, 3) := by decide +kernel
theorem d4_46 : decode method_2_code 46 = .ok (.goto 105, 3) := by decide +kernel
theorem d4_49 : decode method_2_code 49 = .ok (.iload_n 3, 1) := by decide +kernel
theorem d4_50 : decode method_2_code 50 = .ok (.iconst 1, 1) := by decide +kernel
theorem d4_51 : decode method_2_code 51 = .ok (.if_icmp .ne 15, 3) := by decide +kernel
theorem d4_54 : decode method_2_code 54 = .ok (.aload_n 0, 1) := by decide +kernel
theorem d4_55 : decode method_2_code 55 = .ok (.aload_n 2, 1) := by decide +kernel
theorem d4_56 : decode method_2_code 56 = .ok (.iload 4, 2) := by decide +kernel
theorem d4_58 : decode method_2_code 58 = .ok (.iload 5, 2) := by decide +kernel
theorem d4_60 : decode method_2_code 60 = .ok (.invokevirtual 19, 3) := by decide +kernel
theorem d4_63 : decode method_2_code 63 = .ok (.goto 88, 3) := by decide +kernel
theorem d4_66 : decode method_2_code 66 = .ok (.iload_n 3, 1) := by decide +kernel
theorem d4_67 : decode method_2_code 67 = .ok (.iconst 2, 1) := by decide +kernel
theorem d4_68 : decode method_2_code 68 = .ok (.if_icmp .ne 15, 3) := by decide +kernel
theorem d4_71 : decode method_2_code 71 = .ok (.aload_n 0, 1) := by decide +kernel
theorem d4_72 : decode method_2_code 72 = .ok (.aload_n 2, 1) := by decide +kernel
theorem d4_73 : decode method_2_code 73 = .ok (.iload 4, 2) := by decide +kernel
theorem d4_75 : decode method_2_code 75 = .ok (.iload 5, 2) := by decide +kernel
theorem d4_77 : decode method_2_code 77 = .ok (.invokevirtual 22, 3) := by decide +kernel
theorem d4_80 : decode method_2_code 80 = .ok (.goto 71, 3) := by decide +kernel
theorem d4_83 : decode method_2_code 83 = .ok (.iload_n 3, 1) := by decide +kernel
theorem d4_84 : decode method_2_code 84 = .ok (.iconst 3, 1) := by decide +kernel
theorem d4_85 : decode method_2_code 85 = .ok (.if_icmp .ne 14, 3) := by decide +kernel
theorem d4_88 : decode method_2_code 88 = .ok (.aload_n 0, 1) := by decide +kernel
theorem d4_89 : decode method_2_code 89 = .ok (.aload 6, 2) := by decide +kernel
theorem d4_91 : decode method_2_code 91 = .ok (.aload 6, 2) := by decide +kernel
theorem d4_93 : decode method_2_code 93 = .ok (.invokevirtual 25, 3) := by decide +kernel
theorem d4_96 : decode method_2_code 96 = .ok (.goto 55, 3) := by decide +kernel
theorem d4_99 : decode method_2_code 99 = .ok (.iload_n 3, 1) := by decide +kernel
theorem d4_100 : decode method_2_code 100 = .ok (.iconst 4, 1) := by decide +kernel
theorem d4_101 : decode method_2_code 101 = .ok (.if_icmp .ne 16, 3) := by decide +kernel
theorem d4_104 : decode method_2_code 104 = .ok (.aload_n 0, 1) := by decide +kernel
theorem d4_105 : decode method_2_code 105 = .ok (.aload 6, 2) := by decide +kernel
theorem d4_107 : decode method_2_code 107 = .ok (.aload 6, 2) := by decide +kernel
theorem d4_109 : decode method_2_code 109 = .ok (.aload 6, 2) := by decide +kernel
theorem d4_111 : decode method_2_code 111 = .ok (.invokevirtual 29, 3) := by decide +kernel
theorem d4_114 : decode method_2_code 114 = .ok (.goto 37, 3) := by decide +kernel
theorem d4_117 : decode method_2_code 117 = .ok (.iload_n 3, 1) := by decide +kernel
theorem d4_118 : decode method_2_code 118 = .ok (.iconst 5, 1) := by decide +kernel
theorem d4_119 : decode method_2_code 119 = .ok (.if_icmp .ne 12, 3) := by decide +kernel
theorem d4_122 : decode method_2_code 122 = .ok (.aload_n 0, 1) := by decide +kernel
theorem d4_123 : decode method_2_code 123 = .ok (.aload 6, 2) := by decide +kernel
theorem d4_125 : decode method_2_code 125 = .ok (.invokevirtual 33, 3) := by decide +kernel
theorem d4_128 : decode method_2_code 128 = .ok (.goto 23, 3) := by decide +kernel
theorem d4_131 : decode method_2_code 131 = .ok (.iload_n 3, 1) := by decide +kernel
theorem d4_132 : decode method_2_code 132 = .ok (.bipush 6, 2) := by decide +kernel
theorem d4_134 : decode method_2_code 134 = .ok (.if_icmp .ne 12, 3) := by decide +kernel
theorem d4_137 : decode method_2_code 137 = .ok (.aload_n 0, 1) := by decide +kernel
theorem d4_138 : decode method_2_code 138 = .ok (.aload 6, 2) := by decide +kernel
theorem d4_140 : decode method_2_code 140 = .ok (.invokevirtual 37, 3) := by decide +kernel
theorem d4_143 : decode method_2_code 143 = .ok (.goto 8, 3) := by decide +kernel
theorem d4_146 : decode method_2_code 146 = .ok (.aload_n 0, 1) := by decide +kernel
theorem d4_147 : decode method_2_code 147 = .ok (.aconst_null, 1) := by decide +kernel
theorem d4_148 : decode method_2_code 148 = .ok (.invokevirtual 33, 3) := by decide +kernel
theorem d4_151 : decode method_2_code 151 = .ok (.return_, 1) := by decide +kernel
theorem pn_25 : plainFor (⟨"com/example/dipper/dipper/stream/ScannedEventsTakePinLaw", "put", "(Lcom/example/dipper/dipper/stream/ScannedEvents;I[C)V"⟩ : MethodName) = true := by first | (refine plainFor_of_name ?_; simp [plainName, overriddenIn]; done) | decide +kernel
theorem pd_25 : parseMethodDescriptor "(Lcom/example/dipper/dipper/stream/ScannedEvents;I[C)V" = some ⟨[(.object "com/example/dipper/dipper/stream/ScannedEvents"), .int, (.array .char)], none⟩ := by decide +kernel
theorem ef_25 (m : MethodId) (q : Addr) (qa : Addr) (vs : List Value) (hd : Int32) (ct : Int32) (w1 : Int32) (x1 : Addr) : entryFrame m #[(.ref q), (.int w1), (.ref x1)] 7 = mkF m 0 #[.val (.ref q), .val (.int w1), .val (.ref x1), .unset, .unset, .unset, .unset] [] := by first | (simp [entryFrame, mkF, argsToLocals, Value.category]; done) | rfl
def Q_25 (Z : State) (q : Addr) (qa : Addr) (vs : List Value) (hd : Int32) (ct : Int32) (w1 : Int32) (x1 : Addr) (h0 : Heap) (n0 : Nat) (v : Option Value) (h : Heap) (vm : Vm) (L : List Loc) : Prop := ∃ (qb : Addr) (us : List Value) (hq : Int32) (ev : Addr) (wr : List Addr), v = none ∧ Fr n0 L ∧ own_AR h0 q qa vs hd ct qb us hq ev wr ∧ own_Q Z h q qb us hq (ct + (1 : Int32)) ∧ own_Is Z h ev w1 x1 ∧ Keep h0 h wr ∧ own_W Z h0 wr ∧ n0 ≤ ev ∧ n0 ≤ qb ∧ own_LV Z vm h
set_option maxRecDepth 65536 in
set_option maxHeartbeats 40000000 in
theorem rm_25 (l : Launch) (Z : State) (a0 : Array Value) (hw : ∀ d ∈ tables_1, d.before a0 Z = true) (ws : List Jvm.Cond) (q : Addr) (qa : Addr) (vs : List Value) (hd : Int32) (ct : Int32) (w1 : Int32) (x1 : Addr) (h0 : Heap) (n0 : Nat) (Z0 : n0 ≤ h0.size) (Q1 : own_Q Z h0 q qa vs hd ct) (gq : n0 ≤ q) (ga : n0 ≤ qa) (AP : own_AP Z n0 h0 vs hd ct) (OZ : Old Z n0 h0) (HH : own_HH Z a0) (CS : own_CS Z h0) :
    MetFree l (⟨"com/example/dipper/dipper/stream/ScannedEventsTakePinLaw", "put", "(Lcom/example/dipper/dipper/stream/ScannedEvents;I[C)V"⟩ : MethodName) (head1 (Jvm.Cond.code (⟨"com/example/dipper/dipper/stream/ScannedEventsTakePinLaw", "put", "(Lcom/example/dipper/dipper/stream/ScannedEvents;I[C)V"⟩ : MethodName) method_2_code 7 none :: ws) ({ frames := 5, cells := 9, slots := 49, locals := 80 } : Room)) (fun a U => a = #[(.ref q), (.int w1), (.ref x1)] ∧ Z.Warmed39 U.vm ∧ U.heap = h0 ∧ own_LV Z U.vm h0) (fun _ _ _ _ _ => True) (fun _ U o U' => ∃ v L, o = .returned v ∧ (Q_25 Z q qa vs hd ct w1 x1 h0 n0) v U'.heap U'.vm L ∧ ReturnedEndW U o U' L ({ frames := 5, cells := 9, slots := 49, locals := 80 } : Room).cells ({ frames := 5, cells := 9, slots := 49, locals := 80 } : Room).slots) := by
  refine MetFree.of_bodySF pn_25 hisR ?_
  intro p e s m args below meth c s₁ Bd hml0 hP hK
  obtain ⟨rfl, hZ, hh, hV⟩ := hP
  have hx := Bd.exec
  have hby := Bd.bytes
  have hlk : meth.locks = false := BodyLoose.notSynchronized Bd
  have hml : c.maxLocals = 7 := hml0
  have hown : s.vm.findClass "com/example/dipper/dipper/stream/ScannedEventsTakePinLaw" = some m.cls := findClass_of_methodNamed Bd.named
  have hnm := (name_of_methodNamed Bd.named Bd.method).1
  have X0 : Stand p l e ({ frames := 5, cells := 9, slots := 49, locals := 80 } : Room) (s.setVm s.vm) m #[(.ref q), (.int w1), (.ref x1)] below meth c s₁ [] 0 0 := Stand.of_body Bd
  have e0 : s₁.heap = h0 := by rw [← hh, Bd.state]; rfl
  have N0 := Fr.nil n0
  refine own_enterW (Q := (Q_25 Z q qa vs hd ct w1 x1 h0 n0)) (cs := 9) (ss := 49) (ef_25 m q qa vs hd ct w1 x1) ?_
  have hS := (State.WarmedH.refl s).since (Array.size h0)
  have hk : Array.size h0 ≤ Array.size h0 := Nat.le_refl _
  have hZ : Z.Warmed39 (s.setVm s.vm).vm := hZ
  have hown : (s.setVm s.vm).vm.findClass "com/example/dipper/dipper/stream/ScannedEventsTakePinLaw" = some m.cls := hown
  show Goes p e below (EndW s 9 49 (Q_25 Z q qa vs hd ct w1 x1 h0 n0)) s₁ (mkF m 0 #[.val (.ref q), .val (.int w1), .val (.ref x1), .unset, .unset, .unset, .unset] [])
  refine own_iloadN (pc' := 1) X0 hx (hb hby d4_0) rfl rfl ?_
  refine own_bipush (pc' := 3) X0 hx (hb hby d4_1) (v := (7 : Int32)) rfl rfl ?_
  refine own_iand (pc' := 4) X0 hx (hb hby d4_3) rfl ?_
  refine own_istoreN (pc' := 5) X0 hx (hb hby d4_4) (Ls' := #[.val (.ref q), .val (.int w1), .val (.ref x1), .val (.int (w1 &&& (7 : Int32))), .unset, .unset, .unset]) rfl rfl ?_
  refine own_iloadN (pc' := 6) X0 hx (hb hby d4_5) rfl rfl ?_
  refine own_iconst (pc' := 7) X0 hx (hb hby d4_6) (v := (3 : Int32)) rfl rfl ?_
  refine own_iushr (pc' := 8) X0 hx (hb hby d4_7) rfl ?_
  refine own_iconst (pc' := 9) X0 hx (hb hby d4_8) (v := (3 : Int32)) rfl rfl ?_
  refine own_iand (pc' := 10) X0 hx (hb hby d4_9) rfl ?_
  refine own_istore (pc' := 12) X0 hx (hb hby d4_10) (Ls' := #[.val (.ref q), .val (.int w1), .val (.ref x1), .val (.int (w1 &&& (7 : Int32))), .val (.int ((((w1).toUInt32 >>> ((3 : Int32) &&& 31).toUInt32).toInt32) &&& (3 : Int32))), .unset, .unset]) rfl rfl ?_
  show Goes p e below (EndW s 9 49 (Q_25 Z q qa vs hd ct w1 x1 h0 n0)) s₁ (mkF m 12 #[.val (.ref q), .val (.int w1), .val (.ref x1), .val (.int (w1 &&& (7 : Int32))), .val (.int (own_st w1)), .unset, .unset] [])
  refine own_iloadN (pc' := 13) X0 hx (hb hby d4_12) rfl rfl ?_
  refine own_iconst (pc' := 14) X0 hx (hb hby d4_13) (v := (5 : Int32)) rfl rfl ?_
  refine own_iushr (pc' := 15) X0 hx (hb hby d4_14) rfl ?_
  refine own_iconst (pc' := 16) X0 hx (hb hby d4_15) (v := (3 : Int32)) rfl rfl ?_
  refine own_iand (pc' := 17) X0 hx (hb hby d4_16) rfl ?_
  refine own_istore (pc' := 19) X0 hx (hb hby d4_17) (Ls' := #[.val (.ref q), .val (.int w1), .val (.ref x1), .val (.int (w1 &&& (7 : Int32))), .val (.int (own_st w1)), .val (.int ((((w1).toUInt32 >>> ((5 : Int32) &&& 31).toUInt32).toInt32) &&& (3 : Int32))), .unset]) rfl rfl ?_
  show Goes p e below (EndW s 9 49 (Q_25 Z q qa vs hd ct w1 x1 h0 n0)) s₁ (mkF m 19 #[.val (.ref q), .val (.int w1), .val (.ref x1), .val (.int (w1 &&& (7 : Int32))), .val (.int (own_st w1)), .val (.int (own_ln w1)), .unset] [])
  refine own_iloadN (pc' := 20) X0 hx (hb hby d4_19) rfl rfl ?_
  refine own_bipush (pc' := 22) X0 hx (hb hby d4_20) (v := (7 : Int32)) rfl rfl ?_
  refine own_iushr (pc' := 23) X0 hx (hb hby d4_22) rfl ?_
  refine own_sipush (pc' := 26) X0 hx (hb hby d4_23) (v := (255 : Int32)) rfl rfl ?_
  refine own_iand (pc' := 27) X0 hx (hb hby d4_26) rfl ?_
  refine own_i2c (pc' := 28) X0 hx (hb hby d4_27) rfl ?_
  show Goes p e below (EndW s 9 49 (Q_25 Z q qa vs hd ct w1 x1 h0 n0)) s₁ (mkF m 28 #[.val (.ref q), .val (.int w1), .val (.ref x1), .val (.int (w1 &&& (7 : Int32))), .val (.int (own_st w1)), .val (.int (own_ln w1)), .unset] [(.int (own_cv w1))])
  obtain ⟨_, _, ⟨T308, L308, k308, n308⟩, -, X308, ⟨Lc308, hQ308, l308, y308, z308⟩, st308⟩ := Jvm.LawKit.callS X0 hx (y := (⟨"java/lang/String", "valueOf", "(C)Ljava/lang/String;"⟩ : MethodName)) hown (mvT hZ (hw _ (List.mem_of_getElem? (i := 35) rfl))) (mvT hZ (hw _ (List.mem_of_getElem? (i := 36) rfl))) (mvT hZ (hw _ (List.mem_of_getElem? (i := 37) rfl))) (mvT hZ (hw _ (List.mem_of_getElem? (i := 38) rfl))) (by decide) (backOf (W := 0) (rm_5 l Z a0 hw [] (own_cv w1) h0 n0 Z0 (own_cv255 w1) CS) hZ (hw _ (List.mem_of_getElem? (i := 38) rfl)) (hw _ (List.mem_of_getElem? (i := 37) rfl)) (by decide) (by decide)) (g := (mkF m 28 #[.val (.ref q), .val (.int w1), .val (.ref x1), .val (.int (w1 &&& (7 : Int32))), .val (.int (own_st w1)), .val (.int (own_ln w1)), .unset] [(.int (own_cv w1))])) rfl (by rw [hml]; rfl) (argsL := [(.int (own_cv w1))]) (rest := []) (lenOf pd_5 rfl) rfl (by show 2 * 0 + _ ≤ _; exact Nat.le_of_eq rfl) (hb hby d4_28) (fun _ _ => ⟨rfl, e0, (by decide : 0 + 2 ≤ _), (by decide : 0 + 5 ≤ _)⟩)
  dsimp only [Pt.U, Pt.locs, Pt.cells, Pt.slots] at X308 l308 y308 z308 st308 hQ308
  subst l308 y308 z308
  obtain ⟨s6, rfl, M308, K5, S6, g6⟩ := hQ308
  have N308 := Fr.app N0 M308
  refine Goes.pre st308 ?_
  show Goes p e below (EndW s 9 49 (Q_25 Z q qa vs hd ct w1 x1 h0 n0)) T308 (mkF m 31 #[.val (.ref q), .val (.int w1), .val (.ref x1), .val (.int (w1 &&& (7 : Int32))), .val (.int (own_st w1)), .val (.int (own_ln w1)), .unset] [(.ref s6)])
  refine own_astore (pc' := 33) X308 hx (hb hby d4_31) rfl (Ls' := #[.val (.ref q), .val (.int w1), .val (.ref x1), .val (.int (w1 &&& (7 : Int32))), .val (.int (own_st w1)), .val (.int (own_ln w1)), .val (.ref s6)]) rfl rfl ?_
  have Q5 := Q1.keep K5 nin0 nin0
  have AP5 := own_AP.keep0 AP K5
  have V5 := own_LV.keep hw hV K5 own_W.nil
  have Z5 : n0 ≤ Array.size T308.heap := Nat.le_trans Z0 K5.1
  have O5 := OZ.keep K5 (fun x hx => nomatch hx)
  have hk5 : Array.size h0 ≤ Array.size T308.heap := K5.1
  rcases own_k7 w1 with hk7 | hk7 | hk7 | hk7 | hk7 | hk7 | hk7 | hk7
  · rw [hk7]
    show Goes p e below (EndW s 9 49 (Q_25 Z q qa vs hd ct w1 x1 h0 n0)) T308 (mkF m 33 #[.val (.ref q), .val (.int w1), .val (.ref x1), .val (.int (0 : Int32)), .val (.int (own_st w1)), .val (.int (own_ln w1)), .val (.ref s6)] [])
    refine own_iloadN (pc' := 34) X308 hx (hb hby d4_33) rfl rfl ?_
    refine own_ifN (pc' := 37) X308 hx (hb hby d4_34) (by decide) rfl ?_
    refine own_aloadN (pc' := 38) X308 hx (hb hby d4_37) rfl rfl rfl ?_
    refine own_aloadN (pc' := 39) X308 hx (hb hby d4_38) rfl rfl rfl ?_
    refine own_iload (pc' := 41) X308 hx (hb hby d4_39) rfl rfl ?_
    refine own_iload (pc' := 43) X308 hx (hb hby d4_41) rfl rfl ?_
    obtain ⟨cq310, kq310, q310a, q310b, q310c⟩ := isOf hZ rfl Q5.1
    obtain ⟨_, _, ⟨T309, L309, k309, n309⟩, -, X309, ⟨Lc309, hQ309, l309, y309, z309⟩, st309⟩ := X308.virtualBack hx (y := (⟨"com/example/dipper/dipper/stream/ScannedEvents", "characters", "([CII)V"⟩ : MethodName)) (z := (⟨"com/example/dipper/dipper/stream/ScannedEvents", "characters", "([CII)V"⟩ : MethodName)) hown (mvT hZ (hw _ (List.mem_of_getElem? (i := 59) rfl))) (mvT hZ (hw _ (List.mem_of_getElem? (i := 60) rfl))) (notFace_of_selects (args := #[]) (mvT hZ (hw _ (List.mem_of_getElem? (i := 62) rfl)))) (mvT hZ (hw _ (List.mem_of_getElem? (i := 62) rfl))) (mvT hZ (hw _ (List.mem_of_getElem? (i := 61) rfl))) (by decide) (backOf (W := 0) (rm_13 l Z a0 hw [] q qa vs hd ct x1 (own_st w1) (own_ln w1) T308.heap n0 Z5 Q5 gq ga AP5) hZ (hw _ (List.mem_of_getElem? (i := 63) rfl)) (hw _ (List.mem_of_getElem? (i := 3) rfl)) (by decide) (by decide)) q310a q310c (g := (mkF m 43 #[.val (.ref q), .val (.int w1), .val (.ref x1), .val (.int (0 : Int32)), .val (.int (own_st w1)), .val (.int (own_ln w1)), .val (.ref s6)] [(.int (own_ln w1)), (.int (own_st w1)), (.ref x1), (.ref q)])) rfl (by rw [hml]; rfl) (Steps.refl _) (argsL := [(.ref x1), (.int (own_st w1)), (.int (own_ln w1))]) (rest := []) (lenOf pd_13 rfl) rfl (by show 2 * 0 + _ ≤ _; exact Nat.le_of_eq rfl) (hb hby d4_43) (fun _ _ => ⟨rfl, rfl, (by decide : 2 + 5 ≤ _), (by decide : 5 + 40 ≤ _)⟩)
    dsimp only [Pt.U, Pt.locs, Pt.cells, Pt.slots] at X309 l309 y309 z309 st309 hQ309
    subst l309 y309 z309
    obtain ⟨qb, us, hq, ev, wr, rfl, M309, AR, QQ, VV, KK, WW, gev, gqb, hor⟩ := hQ309
    have N309 := Fr.app N308 M309
    refine Goes.aft st309 ?_
    show Goes p e below (EndW s 9 49 (Q_25 Z q qa vs hd ct w1 x1 h0 n0)) T309 (mkF m 46 #[.val (.ref q), .val (.int w1), .val (.ref x1), .val (.int (0 : Int32)), .val (.int (own_st w1)), .val (.int (own_ln w1)), .val (.ref s6)] [])
    refine own_goto X309 hx (hb hby d4_46) (by decide) (pc' := 151) (by decide) ?_
    have KZ : Keep h0 T309.heap wr := Keep.trans (own_Keep0 K5) KK (fun x hx => Or.inl hx)
    have WZ : own_W Z h0 wr := own_WR AR Q1.1 AP
    exact own_ret0W X309 hx hS (Nat.le_trans hk5 KK.1) hlk Bd.returns (hb hby d4_151) (by decide) (by decide) ⟨qb, us, hq, ev, wr, rfl, N309, own_AR.mono AR K5.1, QQ, ⟨_, _, _, _, _, _, _, _, VV, Or.inl ⟨hk7, rfl, rfl, rfl, rfl⟩⟩, KZ, WZ, gev, gqb, (own_LV.warm (s := s.setVm s.vm) (V5.keep hw KK WW) X309.warmed)⟩
  · rw [hk7]
    show Goes p e below (EndW s 9 49 (Q_25 Z q qa vs hd ct w1 x1 h0 n0)) T308 (mkF m 33 #[.val (.ref q), .val (.int w1), .val (.ref x1), .val (.int (1 : Int32)), .val (.int (own_st w1)), .val (.int (own_ln w1)), .val (.ref s6)] [])
    refine own_iloadN (pc' := 34) X308 hx (hb hby d4_33) rfl rfl ?_
    refine own_ifY X308 hx (hb hby d4_34) (by decide) (by decide) (pc' := 49) (by decide) ?_
    refine own_iloadN (pc' := 50) X308 hx (hb hby d4_49) rfl rfl ?_
    refine own_iconst (pc' := 51) X308 hx (hb hby d4_50) (v := (1 : Int32)) rfl rfl ?_
    refine own_icmpN (pc' := 54) X308 hx (hb hby d4_51) (by decide) rfl ?_
    refine own_aloadN (pc' := 55) X308 hx (hb hby d4_54) rfl rfl rfl ?_
    refine own_aloadN (pc' := 56) X308 hx (hb hby d4_55) rfl rfl rfl ?_
    refine own_iload (pc' := 58) X308 hx (hb hby d4_56) rfl rfl ?_
    refine own_iload (pc' := 60) X308 hx (hb hby d4_58) rfl rfl ?_
    obtain ⟨cq312, kq312, q312a, q312b, q312c⟩ := isOf hZ rfl Q5.1
    obtain ⟨_, _, ⟨T311, L311, k311, n311⟩, -, X311, ⟨Lc311, hQ311, l311, y311, z311⟩, st311⟩ := X308.virtualBack hx (y := (⟨"com/example/dipper/dipper/stream/ScannedEvents", "cdataSection", "([CII)V"⟩ : MethodName)) (z := (⟨"com/example/dipper/dipper/stream/ScannedEvents", "cdataSection", "([CII)V"⟩ : MethodName)) hown (mvT hZ (hw _ (List.mem_of_getElem? (i := 124) rfl))) (mvT hZ (hw _ (List.mem_of_getElem? (i := 125) rfl))) (notFace_of_selects (args := #[]) (mvT hZ (hw _ (List.mem_of_getElem? (i := 127) rfl)))) (mvT hZ (hw _ (List.mem_of_getElem? (i := 127) rfl))) (mvT hZ (hw _ (List.mem_of_getElem? (i := 126) rfl))) (by decide) (backOf (W := 0) (rm_14 l Z a0 hw [] q qa vs hd ct x1 (own_st w1) (own_ln w1) T308.heap n0 Z5 Q5 gq ga AP5) hZ (hw _ (List.mem_of_getElem? (i := 128) rfl)) (hw _ (List.mem_of_getElem? (i := 3) rfl)) (by decide) (by decide)) q312a q312c (g := (mkF m 60 #[.val (.ref q), .val (.int w1), .val (.ref x1), .val (.int (1 : Int32)), .val (.int (own_st w1)), .val (.int (own_ln w1)), .val (.ref s6)] [(.int (own_ln w1)), (.int (own_st w1)), (.ref x1), (.ref q)])) rfl (by rw [hml]; rfl) (Steps.refl _) (argsL := [(.ref x1), (.int (own_st w1)), (.int (own_ln w1))]) (rest := []) (lenOf pd_14 rfl) rfl (by show 2 * 0 + _ ≤ _; exact Nat.le_of_eq rfl) (hb hby d4_60) (fun _ _ => ⟨rfl, rfl, (by decide : 2 + 5 ≤ _), (by decide : 5 + 40 ≤ _)⟩)
    dsimp only [Pt.U, Pt.locs, Pt.cells, Pt.slots] at X311 l311 y311 z311 st311 hQ311
    subst l311 y311 z311
    obtain ⟨qb, us, hq, ev, wr, rfl, M311, AR, QQ, VV, KK, WW, gev, gqb, hor⟩ := hQ311
    have N311 := Fr.app N308 M311
    refine Goes.aft st311 ?_
    show Goes p e below (EndW s 9 49 (Q_25 Z q qa vs hd ct w1 x1 h0 n0)) T311 (mkF m 63 #[.val (.ref q), .val (.int w1), .val (.ref x1), .val (.int (1 : Int32)), .val (.int (own_st w1)), .val (.int (own_ln w1)), .val (.ref s6)] [])
    refine own_goto X311 hx (hb hby d4_63) (by decide) (pc' := 151) (by decide) ?_
    have KZ : Keep h0 T311.heap wr := Keep.trans (own_Keep0 K5) KK (fun x hx => Or.inl hx)
    have WZ : own_W Z h0 wr := own_WR AR Q1.1 AP
    exact own_ret0W X311 hx hS (Nat.le_trans hk5 KK.1) hlk Bd.returns (hb hby d4_151) (by decide) (by decide) ⟨qb, us, hq, ev, wr, rfl, N311, own_AR.mono AR K5.1, QQ, ⟨_, _, _, _, _, _, _, _, VV, Or.inr (Or.inl ⟨hk7, rfl, rfl, rfl, rfl⟩)⟩, KZ, WZ, gev, gqb, (own_LV.warm (s := s.setVm s.vm) (V5.keep hw KK WW) X311.warmed)⟩
  · rw [hk7]
    show Goes p e below (EndW s 9 49 (Q_25 Z q qa vs hd ct w1 x1 h0 n0)) T308 (mkF m 33 #[.val (.ref q), .val (.int w1), .val (.ref x1), .val (.int (2 : Int32)), .val (.int (own_st w1)), .val (.int (own_ln w1)), .val (.ref s6)] [])
    refine own_iloadN (pc' := 34) X308 hx (hb hby d4_33) rfl rfl ?_
    refine own_ifY X308 hx (hb hby d4_34) (by decide) (by decide) (pc' := 49) (by decide) ?_
    refine own_iloadN (pc' := 50) X308 hx (hb hby d4_49) rfl rfl ?_
    refine own_iconst (pc' := 51) X308 hx (hb hby d4_50) (v := (1 : Int32)) rfl rfl ?_
    refine own_icmpY X308 hx (hb hby d4_51) (by decide) (by decide) (pc' := 66) (by decide) ?_
    refine own_iloadN (pc' := 67) X308 hx (hb hby d4_66) rfl rfl ?_
    refine own_iconst (pc' := 68) X308 hx (hb hby d4_67) (v := (2 : Int32)) rfl rfl ?_
    refine own_icmpN (pc' := 71) X308 hx (hb hby d4_68) (by decide) rfl ?_
    refine own_aloadN (pc' := 72) X308 hx (hb hby d4_71) rfl rfl rfl ?_
    refine own_aloadN (pc' := 73) X308 hx (hb hby d4_72) rfl rfl rfl ?_
    refine own_iload (pc' := 75) X308 hx (hb hby d4_73) rfl rfl ?_
    refine own_iload (pc' := 77) X308 hx (hb hby d4_75) rfl rfl ?_
    obtain ⟨cq314, kq314, q314a, q314b, q314c⟩ := isOf hZ rfl Q5.1
    obtain ⟨_, _, ⟨T313, L313, k313, n313⟩, -, X313, ⟨Lc313, hQ313, l313, y313, z313⟩, st313⟩ := X308.virtualBack hx (y := (⟨"com/example/dipper/dipper/stream/ScannedEvents", "comment", "([CII)V"⟩ : MethodName)) (z := (⟨"com/example/dipper/dipper/stream/ScannedEvents", "comment", "([CII)V"⟩ : MethodName)) hown (mvT hZ (hw _ (List.mem_of_getElem? (i := 119) rfl))) (mvT hZ (hw _ (List.mem_of_getElem? (i := 120) rfl))) (notFace_of_selects (args := #[]) (mvT hZ (hw _ (List.mem_of_getElem? (i := 122) rfl)))) (mvT hZ (hw _ (List.mem_of_getElem? (i := 122) rfl))) (mvT hZ (hw _ (List.mem_of_getElem? (i := 121) rfl))) (by decide) (backOf (W := 0) (rm_15 l Z a0 hw [] q qa vs hd ct x1 (own_st w1) (own_ln w1) T308.heap n0 Z5 Q5 gq ga AP5) hZ (hw _ (List.mem_of_getElem? (i := 123) rfl)) (hw _ (List.mem_of_getElem? (i := 3) rfl)) (by decide) (by decide)) q314a q314c (g := (mkF m 77 #[.val (.ref q), .val (.int w1), .val (.ref x1), .val (.int (2 : Int32)), .val (.int (own_st w1)), .val (.int (own_ln w1)), .val (.ref s6)] [(.int (own_ln w1)), (.int (own_st w1)), (.ref x1), (.ref q)])) rfl (by rw [hml]; rfl) (Steps.refl _) (argsL := [(.ref x1), (.int (own_st w1)), (.int (own_ln w1))]) (rest := []) (lenOf pd_15 rfl) rfl (by show 2 * 0 + _ ≤ _; exact Nat.le_of_eq rfl) (hb hby d4_77) (fun _ _ => ⟨rfl, rfl, (by decide : 2 + 5 ≤ _), (by decide : 5 + 40 ≤ _)⟩)
    dsimp only [Pt.U, Pt.locs, Pt.cells, Pt.slots] at X313 l313 y313 z313 st313 hQ313
    subst l313 y313 z313
    obtain ⟨qb, us, hq, ev, wr, rfl, M313, AR, QQ, VV, KK, WW, gev, gqb, hor⟩ := hQ313
    have N313 := Fr.app N308 M313
    refine Goes.aft st313 ?_
    show Goes p e below (EndW s 9 49 (Q_25 Z q qa vs hd ct w1 x1 h0 n0)) T313 (mkF m 80 #[.val (.ref q), .val (.int w1), .val (.ref x1), .val (.int (2 : Int32)), .val (.int (own_st w1)), .val (.int (own_ln w1)), .val (.ref s6)] [])
    refine own_goto X313 hx (hb hby d4_80) (by decide) (pc' := 151) (by decide) ?_
    have KZ : Keep h0 T313.heap wr := Keep.trans (own_Keep0 K5) KK (fun x hx => Or.inl hx)
    have WZ : own_W Z h0 wr := own_WR AR Q1.1 AP
    exact own_ret0W X313 hx hS (Nat.le_trans hk5 KK.1) hlk Bd.returns (hb hby d4_151) (by decide) (by decide) ⟨qb, us, hq, ev, wr, rfl, N313, own_AR.mono AR K5.1, QQ, ⟨_, _, _, _, _, _, _, _, VV, Or.inr (Or.inr (Or.inl ⟨hk7, rfl, rfl, rfl, rfl⟩))⟩, KZ, WZ, gev, gqb, (own_LV.warm (s := s.setVm s.vm) (V5.keep hw KK WW) X313.warmed)⟩
  · rw [hk7]
    show Goes p e below (EndW s 9 49 (Q_25 Z q qa vs hd ct w1 x1 h0 n0)) T308 (mkF m 33 #[.val (.ref q), .val (.int w1), .val (.ref x1), .val (.int (3 : Int32)), .val (.int (own_st w1)), .val (.int (own_ln w1)), .val (.ref s6)] [])
    refine own_iloadN (pc' := 34) X308 hx (hb hby d4_33) rfl rfl ?_
    refine own_ifY X308 hx (hb hby d4_34) (by decide) (by decide) (pc' := 49) (by decide) ?_
    refine own_iloadN (pc' := 50) X308 hx (hb hby d4_49) rfl rfl ?_
    refine own_iconst (pc' := 51) X308 hx (hb hby d4_50) (v := (1 : Int32)) rfl rfl ?_
    refine own_icmpY X308 hx (hb hby d4_51) (by decide) (by decide) (pc' := 66) (by decide) ?_
    refine own_iloadN (pc' := 67) X308 hx (hb hby d4_66) rfl rfl ?_
    refine own_iconst (pc' := 68) X308 hx (hb hby d4_67) (v := (2 : Int32)) rfl rfl ?_
    refine own_icmpY X308 hx (hb hby d4_68) (by decide) (by decide) (pc' := 83) (by decide) ?_
    refine own_iloadN (pc' := 84) X308 hx (hb hby d4_83) rfl rfl ?_
    refine own_iconst (pc' := 85) X308 hx (hb hby d4_84) (v := (3 : Int32)) rfl rfl ?_
    refine own_icmpN (pc' := 88) X308 hx (hb hby d4_85) (by decide) rfl ?_
    refine own_aloadN (pc' := 89) X308 hx (hb hby d4_88) rfl rfl rfl ?_
    refine own_aload (pc' := 91) X308 hx (hb hby d4_89) rfl rfl rfl ?_
    refine own_aload (pc' := 93) X308 hx (hb hby d4_91) rfl rfl rfl ?_
    obtain ⟨cq316, kq316, q316a, q316b, q316c⟩ := isOf hZ rfl Q5.1
    obtain ⟨_, _, ⟨T315, L315, k315, n315⟩, -, X315, ⟨Lc315, hQ315, l315, y315, z315⟩, st315⟩ := X308.virtualBack hx (y := (⟨"com/example/dipper/dipper/stream/ScannedEvents", "processingInstruction", "(Ljava/lang/String;Ljava/lang/String;)V"⟩ : MethodName)) (z := (⟨"com/example/dipper/dipper/stream/ScannedEvents", "processingInstruction", "(Ljava/lang/String;Ljava/lang/String;)V"⟩ : MethodName)) hown (mvT hZ (hw _ (List.mem_of_getElem? (i := 100) rfl))) (mvT hZ (hw _ (List.mem_of_getElem? (i := 101) rfl))) (notFace_of_selects (args := #[]) (mvT hZ (hw _ (List.mem_of_getElem? (i := 103) rfl)))) (mvT hZ (hw _ (List.mem_of_getElem? (i := 103) rfl))) (mvT hZ (hw _ (List.mem_of_getElem? (i := 102) rfl))) (by decide) (backOf (W := 0) (rm_16 l Z a0 hw [] q qa vs hd ct s6 s6 T308.heap n0 Z5 Q5 gq ga AP5) hZ (hw _ (List.mem_of_getElem? (i := 104) rfl)) (hw _ (List.mem_of_getElem? (i := 3) rfl)) (by decide) (by decide)) q316a q316c (g := (mkF m 93 #[.val (.ref q), .val (.int w1), .val (.ref x1), .val (.int (3 : Int32)), .val (.int (own_st w1)), .val (.int (own_ln w1)), .val (.ref s6)] [(.ref s6), (.ref s6), (.ref q)])) rfl (by rw [hml]; rfl) (Steps.refl _) (argsL := [(.ref s6), (.ref s6)]) (rest := []) (lenOf pd_16 rfl) rfl (by show 2 * 0 + _ ≤ _; exact Nat.le_of_eq rfl) (hb hby d4_93) (fun _ _ => ⟨rfl, rfl, (by decide : 2 + 5 ≤ _), (by decide : 5 + 40 ≤ _)⟩)
    dsimp only [Pt.U, Pt.locs, Pt.cells, Pt.slots] at X315 l315 y315 z315 st315 hQ315
    subst l315 y315 z315
    obtain ⟨qb, us, hq, ev, wr, rfl, M315, AR, QQ, VV, KK, WW, gev, gqb, hor⟩ := hQ315
    have N315 := Fr.app N308 M315
    refine Goes.aft st315 ?_
    show Goes p e below (EndW s 9 49 (Q_25 Z q qa vs hd ct w1 x1 h0 n0)) T315 (mkF m 96 #[.val (.ref q), .val (.int w1), .val (.ref x1), .val (.int (3 : Int32)), .val (.int (own_st w1)), .val (.int (own_ln w1)), .val (.ref s6)] [])
    refine own_goto X315 hx (hb hby d4_96) (by decide) (pc' := 151) (by decide) ?_
    have KZ : Keep h0 T315.heap wr := Keep.trans (own_Keep0 K5) KK (fun x hx => Or.inl hx)
    have WZ : own_W Z h0 wr := own_WR AR Q1.1 AP
    exact own_ret0W X315 hx hS (Nat.le_trans hk5 KK.1) hlk Bd.returns (hb hby d4_151) (by decide) (by decide) ⟨qb, us, hq, ev, wr, rfl, N315, own_AR.mono AR K5.1, QQ, ⟨_, _, _, _, _, _, _, _, VV, Or.inr (Or.inr (Or.inr (Or.inl ⟨hk7, rfl, s6, s6, rfl, rfl, S6.keep hw KK WW, S6.keep hw KK WW⟩)))⟩, KZ, WZ, gev, gqb, (own_LV.warm (s := s.setVm s.vm) (V5.keep hw KK WW) X315.warmed)⟩
  · rw [hk7]
    show Goes p e below (EndW s 9 49 (Q_25 Z q qa vs hd ct w1 x1 h0 n0)) T308 (mkF m 33 #[.val (.ref q), .val (.int w1), .val (.ref x1), .val (.int (4 : Int32)), .val (.int (own_st w1)), .val (.int (own_ln w1)), .val (.ref s6)] [])
    refine own_iloadN (pc' := 34) X308 hx (hb hby d4_33) rfl rfl ?_
    refine own_ifY X308 hx (hb hby d4_34) (by decide) (by decide) (pc' := 49) (by decide) ?_
    refine own_iloadN (pc' := 50) X308 hx (hb hby d4_49) rfl rfl ?_
    refine own_iconst (pc' := 51) X308 hx (hb hby d4_50) (v := (1 : Int32)) rfl rfl ?_
    refine own_icmpY X308 hx (hb hby d4_51) (by decide) (by decide) (pc' := 66) (by decide) ?_
    refine own_iloadN (pc' := 67) X308 hx (hb hby d4_66) rfl rfl ?_
    refine own_iconst (pc' := 68) X308 hx (hb hby d4_67) (v := (2 : Int32)) rfl rfl ?_
    refine own_icmpY X308 hx (hb hby d4_68) (by decide) (by decide) (pc' := 83) (by decide) ?_
    refine own_iloadN (pc' := 84) X308 hx (hb hby d4_83) rfl rfl ?_
    refine own_iconst (pc' := 85) X308 hx (hb hby d4_84) (v := (3 : Int32)) rfl rfl ?_
    refine own_icmpY X308 hx (hb hby d4_85) (by decide) (by decide) (pc' := 99) (by decide) ?_
    refine own_iloadN (pc' := 100) X308 hx (hb hby d4_99) rfl rfl ?_
    refine own_iconst (pc' := 101) X308 hx (hb hby d4_100) (v := (4 : Int32)) rfl rfl ?_
    refine own_icmpN (pc' := 104) X308 hx (hb hby d4_101) (by decide) rfl ?_
    refine own_aloadN (pc' := 105) X308 hx (hb hby d4_104) rfl rfl rfl ?_
    refine own_aload (pc' := 107) X308 hx (hb hby d4_105) rfl rfl rfl ?_
    refine own_aload (pc' := 109) X308 hx (hb hby d4_107) rfl rfl rfl ?_
    refine own_aload (pc' := 111) X308 hx (hb hby d4_109) rfl rfl rfl ?_
    obtain ⟨cq318, kq318, q318a, q318b, q318c⟩ := isOf hZ rfl Q5.1
    obtain ⟨_, _, ⟨T317, L317, k317, n317⟩, -, X317, ⟨Lc317, hQ317, l317, y317, z317⟩, st317⟩ := X308.virtualBack hx (y := (⟨"com/example/dipper/dipper/stream/ScannedEvents", "endElement", "(Ljava/lang/String;Ljava/lang/String;Ljava/lang/String;)V"⟩ : MethodName)) (z := (⟨"com/example/dipper/dipper/stream/ScannedEvents", "endElement", "(Ljava/lang/String;Ljava/lang/String;Ljava/lang/String;)V"⟩ : MethodName)) hown (mvT hZ (hw _ (List.mem_of_getElem? (i := 144) rfl))) (mvT hZ (hw _ (List.mem_of_getElem? (i := 145) rfl))) (notFace_of_selects (args := #[]) (mvT hZ (hw _ (List.mem_of_getElem? (i := 147) rfl)))) (mvT hZ (hw _ (List.mem_of_getElem? (i := 147) rfl))) (mvT hZ (hw _ (List.mem_of_getElem? (i := 146) rfl))) (by decide) (backOf (W := 0) (rm_17 l Z a0 hw [] q qa vs hd ct s6 s6 s6 T308.heap n0 Z5 Q5 gq ga AP5) hZ (hw _ (List.mem_of_getElem? (i := 148) rfl)) (hw _ (List.mem_of_getElem? (i := 3) rfl)) (by decide) (by decide)) q318a q318c (g := (mkF m 111 #[.val (.ref q), .val (.int w1), .val (.ref x1), .val (.int (4 : Int32)), .val (.int (own_st w1)), .val (.int (own_ln w1)), .val (.ref s6)] [(.ref s6), (.ref s6), (.ref s6), (.ref q)])) rfl (by rw [hml]; rfl) (Steps.refl _) (argsL := [(.ref s6), (.ref s6), (.ref s6)]) (rest := []) (lenOf pd_17 rfl) rfl (by show 2 * 0 + _ ≤ _; exact Nat.le_of_eq rfl) (hb hby d4_111) (fun _ _ => ⟨rfl, rfl, (by decide : 2 + 5 ≤ _), (by decide : 5 + 40 ≤ _)⟩)
    dsimp only [Pt.U, Pt.locs, Pt.cells, Pt.slots] at X317 l317 y317 z317 st317 hQ317
    subst l317 y317 z317
    obtain ⟨qb, us, hq, ev, wr, rfl, M317, AR, QQ, VV, KK, WW, gev, gqb, hor⟩ := hQ317
    have N317 := Fr.app N308 M317
    refine Goes.aft st317 ?_
    show Goes p e below (EndW s 9 49 (Q_25 Z q qa vs hd ct w1 x1 h0 n0)) T317 (mkF m 114 #[.val (.ref q), .val (.int w1), .val (.ref x1), .val (.int (4 : Int32)), .val (.int (own_st w1)), .val (.int (own_ln w1)), .val (.ref s6)] [])
    refine own_goto X317 hx (hb hby d4_114) (by decide) (pc' := 151) (by decide) ?_
    have KZ : Keep h0 T317.heap wr := Keep.trans (own_Keep0 K5) KK (fun x hx => Or.inl hx)
    have WZ : own_W Z h0 wr := own_WR AR Q1.1 AP
    exact own_ret0W X317 hx hS (Nat.le_trans hk5 KK.1) hlk Bd.returns (hb hby d4_151) (by decide) (by decide) ⟨qb, us, hq, ev, wr, rfl, N317, own_AR.mono AR K5.1, QQ, ⟨_, _, _, _, _, _, _, _, VV, Or.inr (Or.inr (Or.inr (Or.inr (Or.inl ⟨hk7, rfl, s6, s6, s6, rfl, rfl, rfl, S6.keep hw KK WW, S6.keep hw KK WW, S6.keep hw KK WW⟩))))⟩, KZ, WZ, gev, gqb, (own_LV.warm (s := s.setVm s.vm) (V5.keep hw KK WW) X317.warmed)⟩
  · rw [hk7]
    show Goes p e below (EndW s 9 49 (Q_25 Z q qa vs hd ct w1 x1 h0 n0)) T308 (mkF m 33 #[.val (.ref q), .val (.int w1), .val (.ref x1), .val (.int (5 : Int32)), .val (.int (own_st w1)), .val (.int (own_ln w1)), .val (.ref s6)] [])
    refine own_iloadN (pc' := 34) X308 hx (hb hby d4_33) rfl rfl ?_
    refine own_ifY X308 hx (hb hby d4_34) (by decide) (by decide) (pc' := 49) (by decide) ?_
    refine own_iloadN (pc' := 50) X308 hx (hb hby d4_49) rfl rfl ?_
    refine own_iconst (pc' := 51) X308 hx (hb hby d4_50) (v := (1 : Int32)) rfl rfl ?_
    refine own_icmpY X308 hx (hb hby d4_51) (by decide) (by decide) (pc' := 66) (by decide) ?_
    refine own_iloadN (pc' := 67) X308 hx (hb hby d4_66) rfl rfl ?_
    refine own_iconst (pc' := 68) X308 hx (hb hby d4_67) (v := (2 : Int32)) rfl rfl ?_
    refine own_icmpY X308 hx (hb hby d4_68) (by decide) (by decide) (pc' := 83) (by decide) ?_
    refine own_iloadN (pc' := 84) X308 hx (hb hby d4_83) rfl rfl ?_
    refine own_iconst (pc' := 85) X308 hx (hb hby d4_84) (v := (3 : Int32)) rfl rfl ?_
    refine own_icmpY X308 hx (hb hby d4_85) (by decide) (by decide) (pc' := 99) (by decide) ?_
    refine own_iloadN (pc' := 100) X308 hx (hb hby d4_99) rfl rfl ?_
    refine own_iconst (pc' := 101) X308 hx (hb hby d4_100) (v := (4 : Int32)) rfl rfl ?_
    refine own_icmpY X308 hx (hb hby d4_101) (by decide) (by decide) (pc' := 117) (by decide) ?_
    refine own_iloadN (pc' := 118) X308 hx (hb hby d4_117) rfl rfl ?_
    refine own_iconst (pc' := 119) X308 hx (hb hby d4_118) (v := (5 : Int32)) rfl rfl ?_
    refine own_icmpN (pc' := 122) X308 hx (hb hby d4_119) (by decide) rfl ?_
    refine own_aloadN (pc' := 123) X308 hx (hb hby d4_122) rfl rfl rfl ?_
    refine own_aload (pc' := 125) X308 hx (hb hby d4_123) rfl rfl rfl ?_
    obtain ⟨cq320, kq320, q320a, q320b, q320c⟩ := isOf hZ rfl Q5.1
    obtain ⟨_, _, ⟨T319, L319, k319, n319⟩, -, X319, ⟨Lc319, hQ319, l319, y319, z319⟩, st319⟩ := X308.virtualBack hx (y := (⟨"com/example/dipper/dipper/stream/ScannedEvents", "endDocumentType", "(Ljava/lang/String;)V"⟩ : MethodName)) (z := (⟨"com/example/dipper/dipper/stream/ScannedEvents", "endDocumentType", "(Ljava/lang/String;)V"⟩ : MethodName)) hown (mvT hZ (hw _ (List.mem_of_getElem? (i := 156) rfl))) (mvT hZ (hw _ (List.mem_of_getElem? (i := 157) rfl))) (notFace_of_selects (args := #[]) (mvT hZ (hw _ (List.mem_of_getElem? (i := 159) rfl)))) (mvT hZ (hw _ (List.mem_of_getElem? (i := 159) rfl))) (mvT hZ (hw _ (List.mem_of_getElem? (i := 158) rfl))) (by decide) (backOf (W := 0) (rm_18 l Z a0 hw [] q qa vs hd ct s6 T308.heap n0 Z5 Q5 gq ga AP5) hZ (hw _ (List.mem_of_getElem? (i := 160) rfl)) (hw _ (List.mem_of_getElem? (i := 3) rfl)) (by decide) (by decide)) q320a q320c (g := (mkF m 125 #[.val (.ref q), .val (.int w1), .val (.ref x1), .val (.int (5 : Int32)), .val (.int (own_st w1)), .val (.int (own_ln w1)), .val (.ref s6)] [(.ref s6), (.ref q)])) rfl (by rw [hml]; rfl) (Steps.refl _) (argsL := [(.ref s6)]) (rest := []) (lenOf pd_18 rfl) rfl (by show 2 * 0 + _ ≤ _; exact Nat.le_of_eq rfl) (hb hby d4_125) (fun _ _ => ⟨rfl, rfl, (by decide : 2 + 5 ≤ _), (by decide : 5 + 40 ≤ _)⟩)
    dsimp only [Pt.U, Pt.locs, Pt.cells, Pt.slots] at X319 l319 y319 z319 st319 hQ319
    subst l319 y319 z319
    obtain ⟨qb, us, hq, ev, wr, rfl, M319, AR, QQ, VV, KK, WW, gev, gqb, hor⟩ := hQ319
    have N319 := Fr.app N308 M319
    refine Goes.aft st319 ?_
    show Goes p e below (EndW s 9 49 (Q_25 Z q qa vs hd ct w1 x1 h0 n0)) T319 (mkF m 128 #[.val (.ref q), .val (.int w1), .val (.ref x1), .val (.int (5 : Int32)), .val (.int (own_st w1)), .val (.int (own_ln w1)), .val (.ref s6)] [])
    refine own_goto X319 hx (hb hby d4_128) (by decide) (pc' := 151) (by decide) ?_
    have KZ : Keep h0 T319.heap wr := Keep.trans (own_Keep0 K5) KK (fun x hx => Or.inl hx)
    have WZ : own_W Z h0 wr := own_WR AR Q1.1 AP
    exact own_ret0W X319 hx hS (Nat.le_trans hk5 KK.1) hlk Bd.returns (hb hby d4_151) (by decide) (by decide) ⟨qb, us, hq, ev, wr, rfl, N319, own_AR.mono AR K5.1, QQ, ⟨_, _, _, _, _, _, _, _, VV, Or.inr (Or.inr (Or.inr (Or.inr (Or.inr (Or.inl ⟨hk7, rfl, s6, rfl, S6.keep hw KK WW⟩)))))⟩, KZ, WZ, gev, gqb, (own_LV.warm (s := s.setVm s.vm) (V5.keep hw KK WW) X319.warmed)⟩
  · rw [hk7]
    show Goes p e below (EndW s 9 49 (Q_25 Z q qa vs hd ct w1 x1 h0 n0)) T308 (mkF m 33 #[.val (.ref q), .val (.int w1), .val (.ref x1), .val (.int (6 : Int32)), .val (.int (own_st w1)), .val (.int (own_ln w1)), .val (.ref s6)] [])
    refine own_iloadN (pc' := 34) X308 hx (hb hby d4_33) rfl rfl ?_
    refine own_ifY X308 hx (hb hby d4_34) (by decide) (by decide) (pc' := 49) (by decide) ?_
    refine own_iloadN (pc' := 50) X308 hx (hb hby d4_49) rfl rfl ?_
    refine own_iconst (pc' := 51) X308 hx (hb hby d4_50) (v := (1 : Int32)) rfl rfl ?_
    refine own_icmpY X308 hx (hb hby d4_51) (by decide) (by decide) (pc' := 66) (by decide) ?_
    refine own_iloadN (pc' := 67) X308 hx (hb hby d4_66) rfl rfl ?_
    refine own_iconst (pc' := 68) X308 hx (hb hby d4_67) (v := (2 : Int32)) rfl rfl ?_
    refine own_icmpY X308 hx (hb hby d4_68) (by decide) (by decide) (pc' := 83) (by decide) ?_
    refine own_iloadN (pc' := 84) X308 hx (hb hby d4_83) rfl rfl ?_
    refine own_iconst (pc' := 85) X308 hx (hb hby d4_84) (v := (3 : Int32)) rfl rfl ?_
    refine own_icmpY X308 hx (hb hby d4_85) (by decide) (by decide) (pc' := 99) (by decide) ?_
    refine own_iloadN (pc' := 100) X308 hx (hb hby d4_99) rfl rfl ?_
    refine own_iconst (pc' := 101) X308 hx (hb hby d4_100) (v := (4 : Int32)) rfl rfl ?_
    refine own_icmpY X308 hx (hb hby d4_101) (by decide) (by decide) (pc' := 117) (by decide) ?_
    refine own_iloadN (pc' := 118) X308 hx (hb hby d4_117) rfl rfl ?_
    refine own_iconst (pc' := 119) X308 hx (hb hby d4_118) (v := (5 : Int32)) rfl rfl ?_
    refine own_icmpY X308 hx (hb hby d4_119) (by decide) (by decide) (pc' := 131) (by decide) ?_
    refine own_iloadN (pc' := 132) X308 hx (hb hby d4_131) rfl rfl ?_
    refine own_bipush (pc' := 134) X308 hx (hb hby d4_132) (v := (6 : Int32)) rfl rfl ?_
    refine own_icmpN (pc' := 137) X308 hx (hb hby d4_134) (by decide) rfl ?_
    refine own_aloadN (pc' := 138) X308 hx (hb hby d4_137) rfl rfl rfl ?_
    refine own_aload (pc' := 140) X308 hx (hb hby d4_138) rfl rfl rfl ?_
    obtain ⟨cq322, kq322, q322a, q322b, q322c⟩ := isOf hZ rfl Q5.1
    obtain ⟨_, _, ⟨T321, L321, k321, n321⟩, -, X321, hS321, hg321, ⟨Lc321, hQ321, l321, y321, z321⟩, st321⟩ := X308.virtualBackS hx (y := (⟨"com/example/dipper/dipper/stream/ScannedEvents", "skippedEntity", "(Ljava/lang/String;)V"⟩ : MethodName)) (z := (⟨"com/example/dipper/dipper/stream/ScannedEvents", "skippedEntity", "(Ljava/lang/String;)V"⟩ : MethodName)) hown (mvT hZ (hw _ (List.mem_of_getElem? (i := 169) rfl))) (mvT hZ (hw _ (List.mem_of_getElem? (i := 170) rfl))) (notFace_of_selects (args := #[]) (mvT hZ (hw _ (List.mem_of_getElem? (i := 172) rfl)))) (mvT hZ (hw _ (List.mem_of_getElem? (i := 172) rfl))) (mvT hZ (hw _ (List.mem_of_getElem? (i := 171) rfl))) (by decide) (own_backW (W := 0) (rm_19 l Z a0 hw [] q qa vs hd ct s6 T308.heap n0 Z5 Q5 gq ga AP5 O5 HH) hZ (hw _ (List.mem_of_getElem? (i := 173) rfl)) (hw _ (List.mem_of_getElem? (i := 3) rfl)) (by decide) (by decide)) q322a q322c (g := (mkF m 140 #[.val (.ref q), .val (.int w1), .val (.ref x1), .val (.int (6 : Int32)), .val (.int (own_st w1)), .val (.int (own_ln w1)), .val (.ref s6)] [(.ref s6), (.ref q)])) rfl (by rw [hml]; rfl) (Steps.refl _) (argsL := [(.ref s6)]) (rest := []) (lenOf pd_19 rfl) rfl (by show 2 * 0 + _ ≤ _; exact Nat.le_of_eq rfl) (hb hby d4_140) (fun vm hvm => ⟨rfl, rfl, own_LV.warm (s := s.setVm s.vm) V5 hvm, (by decide : 2 + 7 ≤ _), (by decide : 5 + 44 ≤ _)⟩)
    dsimp only [Pt.U, Pt.locs, Pt.cells, Pt.slots] at X321 l321 y321 z321 st321 hQ321 hS321 hg321
    subst l321 y321 z321
    have X321 : Stand p l e ({ frames := 5, cells := 9, slots := 49, locals := 80 } : Room) (s.setVm T321.vm) m #[(.ref q), (.int w1), (.ref x1)] below meth c T321 _ _ _ := X321
    obtain ⟨qb, us, hq, ev, wr, rfl, M321, AR, QQ, ⟨rr, VV, SR⟩, KK, WW, gev, gqb, hor, LVn⟩ := hQ321
    have N321 := Fr.app N308 M321
    refine Goes.aft st321 ?_
    show Goes p e below (EndW s 9 49 (Q_25 Z q qa vs hd ct w1 x1 h0 n0)) T321 (mkF m 143 #[.val (.ref q), .val (.int w1), .val (.ref x1), .val (.int (6 : Int32)), .val (.int (own_st w1)), .val (.int (own_ln w1)), .val (.ref s6)] [])
    have hF321 := hS321
    have hZ321 : Z.Warmed39 (s.setVm T321.vm).vm := State.Warmed39.trans (t := s.setVm s.vm) hZ hS321.1
    have hw321 : (s.setVm T321.vm).vm.findClass "com/example/dipper/dipper/stream/ScannedEventsTakePinLaw" = some m.cls := by rw [show (s.setVm T321.vm).vm = T321.vm from rfl, hS321.1.alike.findClass]; exact hown
    refine own_goto X321 hx (hb hby d4_143) (by decide) (pc' := 151) (by decide) ?_
    have KZ : Keep h0 T321.heap wr := Keep.trans (own_Keep0 K5) KK (fun x hx => Or.inl hx)
    have WZ : own_W Z h0 wr := own_WR AR Q1.1 AP
    exact own_ret0W X321 hx (foldS (T := T308) hS hk5 hS321 hg321) (Nat.le_refl _) hlk Bd.returns (hb hby d4_151) (by decide) (by decide) ⟨qb, us, hq, ev, wr, rfl, N321, own_AR.mono AR K5.1, QQ, ⟨_, _, _, _, _, _, _, _, VV, Or.inr (Or.inr (Or.inr (Or.inr (Or.inr (Or.inr (Or.inl ⟨hk7, rfl, s6, rr, rfl, rfl, S6.keep hw KK WW, SR⟩))))))⟩, KZ, WZ, gev, gqb, (own_LV.warm (s := s.setVm T321.vm) LVn X321.warmed)⟩
  · rw [hk7]
    show Goes p e below (EndW s 9 49 (Q_25 Z q qa vs hd ct w1 x1 h0 n0)) T308 (mkF m 33 #[.val (.ref q), .val (.int w1), .val (.ref x1), .val (.int (7 : Int32)), .val (.int (own_st w1)), .val (.int (own_ln w1)), .val (.ref s6)] [])
    refine own_iloadN (pc' := 34) X308 hx (hb hby d4_33) rfl rfl ?_
    refine own_ifY X308 hx (hb hby d4_34) (by decide) (by decide) (pc' := 49) (by decide) ?_
    refine own_iloadN (pc' := 50) X308 hx (hb hby d4_49) rfl rfl ?_
    refine own_iconst (pc' := 51) X308 hx (hb hby d4_50) (v := (1 : Int32)) rfl rfl ?_
    refine own_icmpY X308 hx (hb hby d4_51) (by decide) (by decide) (pc' := 66) (by decide) ?_
    refine own_iloadN (pc' := 67) X308 hx (hb hby d4_66) rfl rfl ?_
    refine own_iconst (pc' := 68) X308 hx (hb hby d4_67) (v := (2 : Int32)) rfl rfl ?_
    refine own_icmpY X308 hx (hb hby d4_68) (by decide) (by decide) (pc' := 83) (by decide) ?_
    refine own_iloadN (pc' := 84) X308 hx (hb hby d4_83) rfl rfl ?_
    refine own_iconst (pc' := 85) X308 hx (hb hby d4_84) (v := (3 : Int32)) rfl rfl ?_
    refine own_icmpY X308 hx (hb hby d4_85) (by decide) (by decide) (pc' := 99) (by decide) ?_
    refine own_iloadN (pc' := 100) X308 hx (hb hby d4_99) rfl rfl ?_
    refine own_iconst (pc' := 101) X308 hx (hb hby d4_100) (v := (4 : Int32)) rfl rfl ?_
    refine own_icmpY X308 hx (hb hby d4_101) (by decide) (by decide) (pc' := 117) (by decide) ?_
    refine own_iloadN (pc' := 118) X308 hx (hb hby d4_117) rfl rfl ?_
    refine own_iconst (pc' := 119) X308 hx (hb hby d4_118) (v := (5 : Int32)) rfl rfl ?_
    refine own_icmpY X308 hx (hb hby d4_119) (by decide) (by decide) (pc' := 131) (by decide) ?_
    refine own_iloadN (pc' := 132) X308 hx (hb hby d4_131) rfl rfl ?_
    refine own_bipush (pc' := 134) X308 hx (hb hby d4_132) (v := (6 : Int32)) rfl rfl ?_
    refine own_icmpY X308 hx (hb hby d4_134) (by decide) (by decide) (pc' := 146) (by decide) ?_
    refine own_aloadN (pc' := 147) X308 hx (hb hby d4_146) rfl rfl rfl ?_
    refine own_aconstNull (pc' := 148) X308 hx (hb hby d4_147) rfl ?_
    obtain ⟨cq324, kq324, q324a, q324b, q324c⟩ := isOf hZ rfl Q5.1
    obtain ⟨_, _, ⟨T323, L323, k323, n323⟩, -, X323, hS323, hg323, ⟨Lc323, hQ323, l323, y323, z323⟩, st323⟩ := X308.virtualBackS hx (y := (⟨"com/example/dipper/dipper/stream/ScannedEvents", "endDocumentType", "(Ljava/lang/String;)V"⟩ : MethodName)) (z := (⟨"com/example/dipper/dipper/stream/ScannedEvents", "endDocumentType", "(Ljava/lang/String;)V"⟩ : MethodName)) hown (mvT hZ (hw _ (List.mem_of_getElem? (i := 156) rfl))) (mvT hZ (hw _ (List.mem_of_getElem? (i := 157) rfl))) (notFace_of_selects (args := #[]) (mvT hZ (hw _ (List.mem_of_getElem? (i := 159) rfl)))) (mvT hZ (hw _ (List.mem_of_getElem? (i := 159) rfl))) (mvT hZ (hw _ (List.mem_of_getElem? (i := 158) rfl))) (by decide) (own_backW (W := 0) (rm_18n l Z a0 hw [] q qa vs hd ct T308.heap n0 Z5 Q5 gq ga AP5 O5 HH) hZ (hw _ (List.mem_of_getElem? (i := 160) rfl)) (hw _ (List.mem_of_getElem? (i := 3) rfl)) (by decide) (by decide)) q324a q324c (g := (mkF m 148 #[.val (.ref q), .val (.int w1), .val (.ref x1), .val (.int (7 : Int32)), .val (.int (own_st w1)), .val (.int (own_ln w1)), .val (.ref s6)] [(.null), (.ref q)])) rfl (by rw [hml]; rfl) (Steps.refl _) (argsL := [(.null)]) (rest := []) (lenOf pd_18n rfl) rfl (by show 2 * 0 + _ ≤ _; exact Nat.le_of_eq rfl) (hb hby d4_148) (fun vm hvm => ⟨rfl, rfl, own_LV.warm (s := s.setVm s.vm) V5 hvm, (by decide : 2 + 7 ≤ _), (by decide : 5 + 44 ≤ _)⟩)
    dsimp only [Pt.U, Pt.locs, Pt.cells, Pt.slots] at X323 l323 y323 z323 st323 hQ323 hS323 hg323
    subst l323 y323 z323
    have X323 : Stand p l e ({ frames := 5, cells := 9, slots := 49, locals := 80 } : Room) (s.setVm T323.vm) m #[(.ref q), (.int w1), (.ref x1)] below meth c T323 _ _ _ := X323
    obtain ⟨qb, us, hq, ev, wr, rfl, M323, AR, QQ, ⟨rr, VV, SR⟩, KK, WW, gev, gqb, hor, LVn⟩ := hQ323
    have N323 := Fr.app N308 M323
    refine Goes.aft st323 ?_
    show Goes p e below (EndW s 9 49 (Q_25 Z q qa vs hd ct w1 x1 h0 n0)) T323 (mkF m 151 #[.val (.ref q), .val (.int w1), .val (.ref x1), .val (.int (7 : Int32)), .val (.int (own_st w1)), .val (.int (own_ln w1)), .val (.ref s6)] [])
    have hF323 := hS323
    have hZ323 : Z.Warmed39 (s.setVm T323.vm).vm := State.Warmed39.trans (t := s.setVm s.vm) hZ hS323.1
    have hw323 : (s.setVm T323.vm).vm.findClass "com/example/dipper/dipper/stream/ScannedEventsTakePinLaw" = some m.cls := by rw [show (s.setVm T323.vm).vm = T323.vm from rfl, hS323.1.alike.findClass]; exact hown
    have KZ : Keep h0 T323.heap wr := Keep.trans (own_Keep0 K5) KK (fun x hx => Or.inl hx)
    have WZ : own_W Z h0 wr := own_WR AR Q1.1 AP
    exact own_ret0W X323 hx (foldS (T := T308) hS hk5 hS323 hg323) (Nat.le_refl _) hlk Bd.returns (hb hby d4_151) (by decide) (by decide) ⟨qb, us, hq, ev, wr, rfl, N323, own_AR.mono AR K5.1, QQ, ⟨_, _, _, _, _, _, _, _, VV, Or.inr (Or.inr (Or.inr (Or.inr (Or.inr (Or.inr (Or.inr ⟨hk7, rfl, rr, rfl, SR⟩))))))⟩, KZ, WZ, gev, gqb, (own_LV.warm (s := s.setVm T323.vm) LVn X323.warmed)⟩
theorem pn_0 : plainFor x = true := by first | (refine plainFor_of_name ?_; simp [plainName, overriddenIn, x]; done) | decide +kernel
theorem pd_0 : parseMethodDescriptor "(IIIIII)Z" = some ⟨[.int, .int, .int, .int, .int, .int], some .boolean⟩ := by decide +kernel
theorem ef_0 (m : MethodId) (q0 : Int32) (q1 : Int32) (q2 : Int32) (q3 : Int32) (q4 : Int32) (q5 : Int32) : entryFrame m #[(.int q0), (.int q1), (.int q2), (.int q3), (.int q4), (.int q5)] maxLocals = mkF m 0 #[.val (.int q0), .val (.int q1), .val (.int q2), .val (.int q3), .val (.int q4), .val (.int q5), .unset, .unset, .unset, .unset, .unset, .unset, .unset, .unset, .unset, .unset, .unset] [] := by first | (simp [entryFrame, mkF, argsToLocals, Value.category, maxLocals]; done) | rfl
def Q_0 (Z : State) (q0 : Int32) (q1 : Int32) (q2 : Int32) (q3 : Int32) (q4 : Int32) (q5 : Int32) (h0 : Heap) (n0 : Nat) (v : Option Value) (h : Heap) (vm : Vm) (L : List Loc) : Prop := v = some (.int 1) ∧ Fr n0 L
set_option maxRecDepth 65536 in
set_option maxHeartbeats 40000000 in
theorem rm_0 (l : Launch) (Z : State) (a0 : Array Value) (hw : ∀ d ∈ tables_1, d.before a0 Z = true) (ws : List Jvm.Cond) (q0 : Int32) (q1 : Int32) (q2 : Int32) (q3 : Int32) (q4 : Int32) (q5 : Int32) (h0 : Heap) (n0 : Nat) (Z0 : n0 ≤ h0.size) (OZ : Old Z n0 h0) (HH : own_HH Z a0) (CS : own_CS Z h0) :
    MetFree l x (head1 (Jvm.Cond.code x code maxLocals ret :: ws) room_1) (fun a U => a = #[(.int q0), (.int q1), (.int q2), (.int q3), (.int q4), (.int q5)] ∧ Z.Warmed39 U.vm ∧ U.heap = h0 ∧ own_LV Z U.vm h0) (fun _ _ _ _ _ => True) (fun _ U o U' => ∃ v L, o = .returned v ∧ (Q_0 Z q0 q1 q2 q3 q4 q5 h0 n0) v U'.heap U'.vm L ∧ ReturnedEndW U o U' L room_1.cells room_1.slots) := by
  refine MetFree.of_bodySF pn_0 hisR ?_
  intro p e s m args below meth c s₁ Bd hml0 hP hK
  obtain ⟨rfl, hZ, hh, hV⟩ := hP
  have hx := Bd.exec
  have hby := Bd.bytes
  have hlk : meth.locks = false := BodyLoose.notSynchronized Bd
  have hml : c.maxLocals = 17 := hml0
  have hown : s.vm.findClass "com/example/dipper/dipper/stream/ScannedEventsTakePinLaw" = some m.cls := findClass_of_methodNamed Bd.named
  have hnm := (name_of_methodNamed Bd.named Bd.method).1
  have X0 : Stand p l e room_1 (s.setVm s.vm) m #[(.int q0), (.int q1), (.int q2), (.int q3), (.int q4), (.int q5)] below meth c s₁ [] 0 0 := Stand.of_body Bd
  have e0 : s₁.heap = h0 := by rw [← hh, Bd.state]; rfl
  have N0 := Fr.nil n0
  refine own_enterW (Q := (Q_0 Z q0 q1 q2 q3 q4 q5 h0 n0)) (cs := 88) (ss := 1472) (ef_0 m q0 q1 q2 q3 q4 q5) ?_
  have hS := (State.WarmedH.refl s).since (Array.size h0)
  have hk : Array.size h0 ≤ Array.size h0 := Nat.le_refl _
  have hZ : Z.Warmed39 (s.setVm s.vm).vm := hZ
  have hown : (s.setVm s.vm).vm.findClass "com/example/dipper/dipper/stream/ScannedEventsTakePinLaw" = some m.cls := hown
  show Goes p e below (EndW s 88 1472 (Q_0 Z q0 q1 q2 q3 q4 q5 h0 n0)) s₁ (mkF m 0 #[.val (.int q0), .val (.int q1), .val (.int q2), .val (.int q3), .val (.int q4), .val (.int q5), .unset, .unset, .unset, .unset, .unset, .unset, .unset, .unset, .unset, .unset, .unset] [])
  refine own_bipush (pc' := 2) X0 hx (hb hby at_0) (v := (8 : Int32)) rfl rfl ?_
  refine own_newarray (pc' := 4) X0 hx hZ (hw _ (List.mem_of_getElem? (i := 0) rfl)) e0 (hb hby at_2) (k := 8) (cap := 8) rfl (by decide) rfl (by decide) (by decide) (by decide) (by decide) rfl ?_
  intro T325 h325 a325 g325 X325 e325 E325 P325
  show Goes p e below (EndW s 88 1472 (Q_0 Z q0 q1 q2 q3 q4 q5 h0 n0)) T325 (mkF m 4 #[.val (.int q0), .val (.int q1), .val (.int q2), .val (.int q3), .val (.int q4), .val (.int q5), .unset, .unset, .unset, .unset, .unset, .unset, .unset, .unset, .unset, .unset, .unset] [(.ref a325)])
  have CS325 := CS.ext E325
  have OZ325 := OZ.ext E325
  have Zs325 : n0 ≤ Array.size h325 := Nat.le_trans Z0 E325.1
  have LV325 := hV.ext E325
  have hk325 : _ ≤ Array.size h325 := Nat.le_trans hk E325.1
  refine own_astore (pc' := 6) X325 hx (hb hby at_4) rfl (Ls' := #[.val (.int q0), .val (.int q1), .val (.int q2), .val (.int q3), .val (.int q4), .val (.int q5), .val (.ref a325), .unset, .unset, .unset, .unset, .unset, .unset, .unset, .unset, .unset, .unset]) rfl rfl ?_
  refine own_iloadN (pc' := 7) X325 hx (hb hby at_6) rfl rfl ?_
  refine own_bipush (pc' := 9) X325 hx (hb hby at_7) (v := (15 : Int32)) rfl rfl ?_
  refine own_iushr (pc' := 10) X325 hx (hb hby at_9) rfl ?_
  refine own_iconst (pc' := 11) X325 hx (hb hby at_10) (v := (1 : Int32)) rfl rfl ?_
  refine own_iand (pc' := 12) X325 hx (hb hby at_11) rfl ?_
  by_cases hc12 : ((((q0).toUInt32 >>> ((15 : Int32) &&& 31).toUInt32).toInt32) &&& (1 : Int32)) = (0 : Int32)
  · refine own_ifY X325 hx (hb hby at_12) ((if0 _ _).trans (teq hc12).1) (by decide) (pc' := 19) (by decide) ?_
    refine own_iconst (pc' := 20) X325 hx (hb hby at_19) (v := (0 : Int32)) rfl rfl ?_
    refine own_istore (pc' := 22) X325 hx (hb hby at_20) (Ls' := #[.val (.int q0), .val (.int q1), .val (.int q2), .val (.int q3), .val (.int q4), .val (.int q5), .val (.ref a325), .val (.int (0 : Int32)), .unset, .unset, .unset, .unset, .unset, .unset, .unset, .unset, .unset]) rfl rfl ?_
    obtain ⟨T326, h326, X326, e326, E326, A326, D326, -, st326⟩ := newO X325 hx hZ hown (hw _ (List.mem_of_getElem? (i := 1) rfl)) (hw _ (List.mem_of_getElem? (i := 2) rfl)) (hw _ (List.mem_of_getElem? (i := 3) rfl)) e325 (g := (mkF m 22 #[.val (.int q0), .val (.int q1), .val (.int q2), .val (.int q3), .val (.int q4), .val (.int q5), .val (.ref a325), .val (.int (0 : Int32)), .unset, .unset, .unset, .unset, .unset, .unset, .unset, .unset, .unset] [])) rfl (hb hby at_22) (by decide) (by decide)
    obtain ⟨a326, g326⟩ : ∃ z, z = Array.size (h325) := ⟨_, rfl⟩
    rw [← g326] at A326 D326 st326
    refine Goes.pre st326 ?_
    show Goes p e below (EndW s 88 1472 (Q_0 Z q0 q1 q2 q3 q4 q5 h0 n0)) T326 (mkF m 25 #[.val (.int q0), .val (.int q1), .val (.int q2), .val (.int q3), .val (.int q4), .val (.int q5), .val (.ref a325), .val (.int (0 : Int32)), .unset, .unset, .unset, .unset, .unset, .unset, .unset, .unset, .unset] [(.ref a326)])
    have gq : n0 ≤ a326 := Nat.le_trans Zs325 (Nat.le_of_eq g326.symm)
    have CS326 := CS325.ext E326
    have OZ326 := OZ325.ext E326
    have Zs326 : n0 ≤ Array.size h326 := Nat.le_trans Zs325 E326.1
    have LV326 := LV325.ext E326
    have hk326 : _ ≤ Array.size h326 := Nat.le_trans hk325 E326.1
    refine own_dup (pc' := 26) X326 hx (hb hby at_25) rfl rfl ?_
    refine own_iconst (pc' := 27) X326 hx (hb hby at_26) (v := (1 : Int32)) rfl rfl ?_
    refine own_aconstNull (pc' := 28) X326 hx (hb hby at_27) rfl ?_
    refine own_aconstNull (pc' := 29) X326 hx (hb hby at_28) rfl ?_
    refine own_aconstNull (pc' := 30) X326 hx (hb hby at_29) rfl ?_
    obtain ⟨_, _, ⟨T327, L327, k327, n327⟩, -, X327, ⟨Lc327, hQ327, l327, y327, z327⟩, st327⟩ := X326.specialBack hx (y := (⟨"com/example/dipper/dipper/stream/ScannedEvents", "<init>", "(ZLcom/example/dipper/dipper/stream/SaxAttributes;Lcom/example/dipper/dipper/stream/OpenDeclarations;Ljava/util/Map;)V"⟩ : MethodName)) rfl hown (mvT hZ (hw _ (List.mem_of_getElem? (i := 4) rfl))) (mvT hZ (hw _ (List.mem_of_getElem? (i := 5) rfl))) (mvT hZ (hw _ (List.mem_of_getElem? (i := 6) rfl))) (by decide) (backOf (W := 1) (rm_23 l Z a0 hw [] a326 h326 n0 Zs326 A326 D326 gq) hZ (hw _ (List.mem_of_getElem? (i := 6) rfl)) (hw _ (List.mem_of_getElem? (i := 3) rfl)) (by decide) (by decide)) (g := (mkF m 30 #[.val (.int q0), .val (.int q1), .val (.int q2), .val (.int q3), .val (.int q4), .val (.int q5), .val (.ref a325), .val (.int (0 : Int32)), .unset, .unset, .unset, .unset, .unset, .unset, .unset, .unset, .unset] [(.null), (.null), (.null), (.int (1 : Int32)), (.ref a326), (.ref a326)])) rfl (by rw [hml]; rfl) (Steps.refl _) (a := a326) (argsL := [(.int (1 : Int32)), (.null), (.null), (.null)]) (rest := [(.ref a326)]) (lenOf pd_23 rfl) rfl (by show 2 * 0 + _ ≤ _; exact Nat.le_of_eq rfl) (hb hby at_30) (fun _ _ => ⟨rfl, e326, (by decide : 2 + 5 ≤ _), (by decide : 19 + 36 ≤ _)⟩)
    dsimp only [Pt.U, Pt.locs, Pt.cells, Pt.slots] at X327 l327 y327 z327 st327 hQ327
    subst l327 y327 z327
    obtain ⟨rfl, M327, K327, qa, v0, v1, v2, v3, QQ327, V0_327, V1_327, V2_327, V3_327, ne01, ne02, ne03, ne12, ne13, ne23, gqa, gv0, gv1, gv2, gv3⟩ := hQ327
    have N327 := Fr.app N0 M327
    refine Goes.aft st327 ?_
    show Goes p e below (EndW s 88 1472 (Q_0 Z q0 q1 q2 q3 q4 q5 h0 n0)) T327 (mkF m 33 #[.val (.int q0), .val (.int q1), .val (.int q2), .val (.int q3), .val (.int q4), .val (.int q5), .val (.ref a325), .val (.int (0 : Int32)), .unset, .unset, .unset, .unset, .unset, .unset, .unset, .unset, .unset] [(.ref a326)])
    have CS327 := CS326.keep K327 (own_W.qs A326 own_W.nil)
    have OZ327 := OZ326.keep K327 (allS gq all0)
    have Zs327 : n0 ≤ Array.size T327.heap := Nat.le_trans Zs326 K327.1
    have LV327 := own_LV.keep hw LV326 K327 (own_W.qs A326 own_W.nil)
    have hk327 : _ ≤ Array.size T327.heap := Nat.le_trans hk326 K327.1
    have hn_qa : n0 ≤ qa := Nat.le_trans Zs326 gqa
    have hn_v0 : n0 ≤ v0 := Nat.le_trans Zs326 gv0
    have hn_v1 : n0 ≤ v1 := Nat.le_trans Zs326 gv1
    have hn_v2 : n0 ≤ v2 := Nat.le_trans Zs326 gv2
    have hn_v3 : n0 ≤ v3 := Nat.le_trans Zs326 gv3
    refine own_astore (pc' := 35) X327 hx (hb hby at_33) rfl (Ls' := #[.val (.int q0), .val (.int q1), .val (.int q2), .val (.int q3), .val (.int q4), .val (.int q5), .val (.ref a325), .val (.int (0 : Int32)), .val (.ref a326), .unset, .unset, .unset, .unset, .unset, .unset, .unset, .unset]) rfl rfl ?_
    obtain ⟨T328, h328, X328, e328, E328, A328, D328, -, st328⟩ := newO X327 hx hZ hown (hw _ (List.mem_of_getElem? (i := 29) rfl)) (hw _ (List.mem_of_getElem? (i := 22) rfl)) (hw _ (List.mem_of_getElem? (i := 23) rfl)) rfl (g := (mkF m 35 #[.val (.int q0), .val (.int q1), .val (.int q2), .val (.int q3), .val (.int q4), .val (.int q5), .val (.ref a325), .val (.int (0 : Int32)), .val (.ref a326), .unset, .unset, .unset, .unset, .unset, .unset, .unset, .unset] [])) rfl (hb hby at_35) (by decide) (by decide)
    obtain ⟨a328, g328⟩ : ∃ z, z = Array.size (T327.heap) := ⟨_, rfl⟩
    rw [← g328] at A328 D328 st328
    refine Goes.pre st328 ?_
    show Goes p e below (EndW s 88 1472 (Q_0 Z q0 q1 q2 q3 q4 q5 h0 n0)) T328 (mkF m 38 #[.val (.int q0), .val (.int q1), .val (.int q2), .val (.int q3), .val (.int q4), .val (.int q5), .val (.ref a325), .val (.int (0 : Int32)), .val (.ref a326), .unset, .unset, .unset, .unset, .unset, .unset, .unset, .unset] [(.ref a328)])
    have F328_type : Fld Z h328 a328 "com/example/dipper/dipper/stream/ScannedEvent" "type" "I" (.int (0 : Int32)) := D328 (Or.inl (hw _ (List.mem_of_getElem? (i := 80) rfl))) (ty := .int) (by decide)
    have F328_characters : Fld Z h328 a328 "com/example/dipper/dipper/stream/ScannedEvent" "characters" "[C" .null := D328 (Or.inl (hw _ (List.mem_of_getElem? (i := 82) rfl))) (ty := (.array .char)) (by decide)
    have F328_start : Fld Z h328 a328 "com/example/dipper/dipper/stream/ScannedEvent" "start" "I" (.int (0 : Int32)) := D328 (Or.inl (hw _ (List.mem_of_getElem? (i := 84) rfl))) (ty := .int) (by decide)
    have F328_length : Fld Z h328 a328 "com/example/dipper/dipper/stream/ScannedEvent" "length" "I" (.int (0 : Int32)) := D328 (Or.inl (hw _ (List.mem_of_getElem? (i := 86) rfl))) (ty := .int) (by decide)
    have F328_text : Fld Z h328 a328 "com/example/dipper/dipper/stream/ScannedEvent" "text" "Ljava/lang/String;" .null := D328 (Or.inl (hw _ (List.mem_of_getElem? (i := 88) rfl))) (ty := (.object "java/lang/String")) (by decide)
    have F328_namespace : Fld Z h328 a328 "com/example/dipper/dipper/stream/ScannedEvent" "namespace" "Ljava/lang/String;" .null := D328 (Or.inl (hw _ (List.mem_of_getElem? (i := 90) rfl))) (ty := (.object "java/lang/String")) (by decide)
    have F328_localName : Fld Z h328 a328 "com/example/dipper/dipper/stream/ScannedEvent" "localName" "Ljava/lang/String;" .null := D328 (Or.inl (hw _ (List.mem_of_getElem? (i := 92) rfl))) (ty := (.object "java/lang/String")) (by decide)
    have F328_qualifiedName : Fld Z h328 a328 "com/example/dipper/dipper/stream/ScannedEvent" "qualifiedName" "Ljava/lang/String;" .null := D328 (Or.inl (hw _ (List.mem_of_getElem? (i := 94) rfl))) (ty := (.object "java/lang/String")) (by decide)
    have hn_a328 : n0 ≤ a328 := Nat.le_trans Zs327 (Nat.le_of_eq g328.symm)
    have neu0 : v0 ≠ a328 := fun q => absurd (q ▸ V0_327.1.lt) (by rw [g328]; exact Nat.lt_irrefl _)
    have neu1 : v1 ≠ a328 := fun q => absurd (q ▸ V1_327.1.lt) (by rw [g328]; exact Nat.lt_irrefl _)
    have neu2 : v2 ≠ a328 := fun q => absurd (q ▸ V2_327.1.lt) (by rw [g328]; exact Nat.lt_irrefl _)
    have neu3 : v3 ≠ a328 := fun q => absurd (q ▸ V3_327.1.lt) (by rw [g328]; exact Nat.lt_irrefl _)
    have CS328 := CS327.ext E328
    have OZ328 := OZ327.ext E328
    have Zs328 : n0 ≤ Array.size h328 := Nat.le_trans Zs327 E328.1
    have LV328 := LV327.ext E328
    have hk328 : _ ≤ Array.size h328 := Nat.le_trans hk327 E328.1
    have Ev328_v0 := V0_327.ext E328
    have Ev328_v1 := V1_327.ext E328
    have Ev328_v2 := V2_327.ext E328
    have Ev328_v3 := V3_327.ext E328
    have Qx328 := QQ327.ext E328
    have Vu : own_Ev Z h328 a328 (0 : Int32) .null (0 : Int32) (0 : Int32) .null .null .null .null := ⟨A328, F328_type, F328_characters, F328_start, F328_length, F328_text, F328_namespace, F328_localName, F328_qualifiedName⟩
    refine own_dup (pc' := 39) X328 hx (hb hby at_38) rfl rfl ?_
    obtain ⟨_, _, ⟨T329, L329, k329, n329⟩, -, X329, ⟨Lc329, hQ329, l329, y329, z329⟩, st329⟩ := X328.specialBack hx (y := (⟨"com/example/dipper/dipper/stream/ScannedEvent", "<init>", "()V"⟩ : MethodName)) rfl hown (mvT hZ (hw _ (List.mem_of_getElem? (i := 30) rfl))) (mvT hZ (hw _ (List.mem_of_getElem? (i := 25) rfl))) (mvT hZ (hw _ (List.mem_of_getElem? (i := 26) rfl))) (by decide) (backOf (W := 1) (rm_1 l Z a0 hw [] a328 h328 n0 Zs328) hZ (hw _ (List.mem_of_getElem? (i := 26) rfl)) (hw _ (List.mem_of_getElem? (i := 23) rfl)) (by decide) (by decide)) (g := (mkF m 39 #[.val (.int q0), .val (.int q1), .val (.int q2), .val (.int q3), .val (.int q4), .val (.int q5), .val (.ref a325), .val (.int (0 : Int32)), .val (.ref a326), .unset, .unset, .unset, .unset, .unset, .unset, .unset, .unset] [(.ref a328), (.ref a328)])) rfl (by rw [hml]; rfl) (Steps.refl _) (a := a328) (argsL := []) (rest := [(.ref a328)]) (lenOf pd_1 rfl) rfl (by show 2 * 0 + _ ≤ _; exact Nat.le_of_eq rfl) (hb hby at_39) (fun _ _ => ⟨rfl, e328, (by decide : 8 + 0 ≤ _), (by decide : 63 + 0 ≤ _)⟩)
    dsimp only [Pt.U, Pt.locs, Pt.cells, Pt.slots] at X329 l329 y329 z329 st329 hQ329
    subst l329 y329 z329
    obtain ⟨rfl, M329, ei329⟩ := hQ329
    have N329 := Fr.app N327 M329
    refine Goes.aft st329 ?_
    show Goes p e below (EndW s 88 1472 (Q_0 Z q0 q1 q2 q3 q4 q5 h0 n0)) T329 (mkF m 42 #[.val (.int q0), .val (.int q1), .val (.int q2), .val (.int q3), .val (.int q4), .val (.int q5), .val (.ref a325), .val (.int (0 : Int32)), .val (.ref a326), .unset, .unset, .unset, .unset, .unset, .unset, .unset, .unset] [(.ref a328)])
    refine own_astore (pc' := 44) X329 hx (hb hby at_42) rfl (Ls' := #[.val (.int q0), .val (.int q1), .val (.int q2), .val (.int q3), .val (.int q4), .val (.int q5), .val (.ref a325), .val (.int (0 : Int32)), .val (.ref a326), .val (.ref a328), .unset, .unset, .unset, .unset, .unset, .unset, .unset]) rfl rfl ?_
    refine own_aload (pc' := 46) X329 hx (hb hby at_44) rfl rfl rfl ?_
    refine own_iloadN (pc' := 47) X329 hx (hb hby at_46) rfl rfl ?_
    refine own_aload (pc' := 49) X329 hx (hb hby at_47) rfl rfl rfl ?_
    have APq0 : own_AP Z n0 (h328) [.ref v0, .ref v1, .ref v2, .ref v3] (0 : Int32) (0 : Int32) := Or.inl ⟨rfl, by decide, by decide, v0, rfl, hn_v0, _, _, _, _, _, _, _, _, Ev328_v0⟩
    obtain ⟨_, _, ⟨T330, L330, k330, n330⟩, -, X330, hS330, hg330, ⟨Lc330, hQ330, l330, y330, z330⟩, st330⟩ := callSS X329 hx (y := (⟨"com/example/dipper/dipper/stream/ScannedEventsTakePinLaw", "put", "(Lcom/example/dipper/dipper/stream/ScannedEvents;I[C)V"⟩ : MethodName)) hown (mvT hZ (hw _ (List.mem_of_getElem? (i := 31) rfl))) (mvT hZ (hw _ (List.mem_of_getElem? (i := 32) rfl))) (mvT hZ (hw _ (List.mem_of_getElem? (i := 33) rfl))) (mvT hZ (hw _ (List.mem_of_getElem? (i := 34) rfl))) (by decide) (own_backW (W := 0) (rm_25 l Z a0 hw [] a326 qa [.ref v0, .ref v1, .ref v2, .ref v3] (0 : Int32) (0 : Int32) q0 a325 h328 n0 Zs328 Qx328 gq hn_qa APq0 OZ328 HH CS328) hZ (hw _ (List.mem_of_getElem? (i := 34) rfl)) (hw _ (List.mem_of_getElem? (i := 33) rfl)) (by decide) (by decide)) (g := (mkF m 49 #[.val (.int q0), .val (.int q1), .val (.int q2), .val (.int q3), .val (.int q4), .val (.int q5), .val (.ref a325), .val (.int (0 : Int32)), .val (.ref a326), .val (.ref a328), .unset, .unset, .unset, .unset, .unset, .unset, .unset] [(.ref a325), (.int q0), (.ref a326)])) rfl (by rw [hml]; rfl) (argsL := [(.ref a326), (.int q0), (.ref a325)]) (rest := []) (lenOf pd_25 rfl) rfl (by show 2 * 0 + _ ≤ _; exact Nat.le_of_eq rfl) (hb hby at_49) (fun vm hvm => ⟨rfl, ei329, own_LV.warm (s := s.setVm s.vm) LV328 hvm, (by decide : 8 + 9 ≤ _), (by decide : 63 + 49 ≤ _)⟩)
    dsimp only [Pt.U, Pt.locs, Pt.cells, Pt.slots] at X330 l330 y330 z330 st330 hQ330 hS330 hg330
    subst l330 y330 z330
    have X330 : Stand p l e room_1 (s.setVm T330.vm) m #[(.int q0), (.int q1), (.int q2), (.int q3), (.int q4), (.int q5)] below meth c T330 _ _ _ := X330
    obtain ⟨qb330, us330, hq330, ev330, wr330, rfl, M330, AR330, QQ330, IS330, KK330, WW330, gev330, gqb330, LV330⟩ := hQ330
    have N330 := Fr.app N329 M330
    refine Goes.aft st330 ?_
    show Goes p e below (EndW s 88 1472 (Q_0 Z q0 q1 q2 q3 q4 q5 h0 n0)) T330 (mkF m 52 #[.val (.int q0), .val (.int q1), .val (.int q2), .val (.int q3), .val (.int q4), .val (.int q5), .val (.ref a325), .val (.int (0 : Int32)), .val (.ref a326), .val (.ref a328), .unset, .unset, .unset, .unset, .unset, .unset, .unset] [])
    have hF330 := hS330
    have hZ330 : Z.Warmed39 (s.setVm T330.vm).vm := State.Warmed39.trans (t := s.setVm s.vm) hZ hS330.1
    have hw330 : (s.setVm T330.vm).vm.findClass "com/example/dipper/dipper/stream/ScannedEventsTakePinLaw" = some m.cls := by rw [show (s.setVm T330.vm).vm = T330.vm from rfl, hS330.1.alike.findClass]; exact hown
    have hT330 := foldS (T := T329) hS (Nat.le_trans hk328 (Nat.le_of_eq (congrArg Array.size (Eq.symm ei329)))) hS330 hg330
    have hr330 : Array.size T330.heap ≤ Array.size T330.heap := Nat.le_refl _
    rw [show (0 : Int32) + (1 : Int32) = (1 : Int32) from by decide] at QQ330
    obtain ⟨-, eb330, rfl, rfl, rfl, hv330⟩ | ⟨hx4, -⟩ := AR330
    · have ec330 := eb330.symm
      clear eb330
      subst ec330
      have hE330 : v0 = ev330 := by have z : some (Value.ref v0) = some (Value.ref ev330) := hv330; simpa using z
      subst hE330
      have CS330k := CS328.keep KK330 WW330
      have OZ330k := OZ328.keep KK330 (allS gq (allS hn_v0 all0))
      have Zs330k : n0 ≤ Array.size T330.heap := Nat.le_trans Zs328 KK330.1
      have Ev330k_v1 := Ev328_v1.keep KK330 (ninS (Ne.symm (Qx328.neQ Ev328_v1.1)) (ninS (Ne.symm ne01) nin0))
      have Ev330k_v2 := Ev328_v2.keep KK330 (ninS (Ne.symm (Qx328.neQ Ev328_v2.1)) (ninS (Ne.symm ne02) nin0))
      have Ev330k_v3 := Ev328_v3.keep KK330 (ninS (Ne.symm (Qx328.neQ Ev328_v3.1)) (ninS (Ne.symm ne03) nin0))
      have Ev330k_a328 := Vu.keep KK330 (ninS (Ne.symm (Qx328.neQ Vu.1)) (ninS (Ne.symm neu0) nin0))
      show Goes p e below (EndW s 88 1472 (Q_0 Z q0 q1 q2 q3 q4 q5 h0 n0)) T330 (mkF m 52 #[.val (.int q0), .val (.int q1), .val (.int q2), .val (.int q3), .val (.int q4), .val (.int q5), .val (.ref a325), .val (.int (0 : Int32)), .val (.ref a326), .val (.ref a328), .unset, .unset, .unset, .unset, .unset, .unset, .unset] [])
      refine own_aload (pc' := 54) X330 hx (hb hby at_52) rfl rfl rfl ?_
      refine own_iloadN (pc' := 55) X330 hx (hb hby at_54) rfl rfl ?_
      refine own_aload (pc' := 57) X330 hx (hb hby at_55) rfl rfl rfl ?_
      have APq1 : own_AP Z n0 (T330.heap) [.ref v0, .ref v1, .ref v2, .ref v3] (0 : Int32) (1 : Int32) := Or.inl ⟨rfl, by decide, by decide, v1, rfl, hn_v1, _, _, _, _, _, _, _, _, Ev330k_v1⟩
      obtain ⟨_, _, ⟨T331, L331, k331, n331⟩, -, X331, hS331, hg331, ⟨Lc331, hQ331, l331, y331, z331⟩, st331⟩ := callSS X330 hx (y := (⟨"com/example/dipper/dipper/stream/ScannedEventsTakePinLaw", "put", "(Lcom/example/dipper/dipper/stream/ScannedEvents;I[C)V"⟩ : MethodName)) hw330 (mvT hZ330 (hw _ (List.mem_of_getElem? (i := 31) rfl))) (mvT hZ330 (hw _ (List.mem_of_getElem? (i := 32) rfl))) (mvT hZ330 (hw _ (List.mem_of_getElem? (i := 33) rfl))) (mvT hZ330 (hw _ (List.mem_of_getElem? (i := 34) rfl))) (by decide) (own_backW (W := 0) (rm_25 l Z a0 hw [] a326 qa [.ref v0, .ref v1, .ref v2, .ref v3] (0 : Int32) (1 : Int32) q1 a325 T330.heap n0 Zs330k QQ330 gq hn_qa APq1 OZ330k HH CS330k) hZ330 (hw _ (List.mem_of_getElem? (i := 34) rfl)) (hw _ (List.mem_of_getElem? (i := 33) rfl)) (by decide) (by decide)) (g := (mkF m 57 #[.val (.int q0), .val (.int q1), .val (.int q2), .val (.int q3), .val (.int q4), .val (.int q5), .val (.ref a325), .val (.int (0 : Int32)), .val (.ref a326), .val (.ref a328), .unset, .unset, .unset, .unset, .unset, .unset, .unset] [(.ref a325), (.int q1), (.ref a326)])) rfl (by rw [hml]; rfl) (argsL := [(.ref a326), (.int q1), (.ref a325)]) (rest := []) (lenOf pd_25 rfl) rfl (by show 2 * 0 + _ ≤ _; exact Nat.le_of_eq rfl) (hb hby at_57) (fun vm hvm => ⟨rfl, rfl, own_LV.warm (s := s.setVm T330.vm) LV330 hvm, (by decide : 17 + 9 ≤ _), (by decide : 112 + 49 ≤ _)⟩)
      dsimp only [Pt.U, Pt.locs, Pt.cells, Pt.slots] at X331 l331 y331 z331 st331 hQ331 hS331 hg331
      subst l331 y331 z331
      have X331 : Stand p l e room_1 (s.setVm T331.vm) m #[(.int q0), (.int q1), (.int q2), (.int q3), (.int q4), (.int q5)] below meth c T331 _ _ _ := X331
      obtain ⟨qb331, us331, hq331, ev331, wr331, rfl, M331, AR331, QQ331, IS331, KK331, WW331, gev331, gqb331, LV331⟩ := hQ331
      have N331 := Fr.app N330 M331
      refine Goes.aft st331 ?_
      show Goes p e below (EndW s 88 1472 (Q_0 Z q0 q1 q2 q3 q4 q5 h0 n0)) T331 (mkF m 60 #[.val (.int q0), .val (.int q1), .val (.int q2), .val (.int q3), .val (.int q4), .val (.int q5), .val (.ref a325), .val (.int (0 : Int32)), .val (.ref a326), .val (.ref a328), .unset, .unset, .unset, .unset, .unset, .unset, .unset] [])
      have hF331 := hS331
      have hZ331 : Z.Warmed39 (s.setVm T331.vm).vm := State.Warmed39.trans (t := s.setVm T330.vm) hZ330 hS331.1
      have hw331 : (s.setVm T331.vm).vm.findClass "com/example/dipper/dipper/stream/ScannedEventsTakePinLaw" = some m.cls := by rw [show (s.setVm T331.vm).vm = T331.vm from rfl, hS331.1.alike.findClass]; exact hw330
      have hT331 := foldS (T := T330) hT330 (Nat.le_trans hr330 (Nat.le_of_eq (congrArg Array.size (Eq.symm rfl)))) hS331 hg331
      have hr331 : Array.size T331.heap ≤ Array.size T331.heap := Nat.le_refl _
      rw [show (1 : Int32) + (1 : Int32) = (2 : Int32) from by decide] at QQ331
      obtain ⟨-, eb331, rfl, rfl, rfl, hv331⟩ | ⟨hx4, -⟩ := AR331
      · have ec331 := eb331.symm
        clear eb331
        subst ec331
        have hE331 : v1 = ev331 := by have z : some (Value.ref v1) = some (Value.ref ev331) := hv331; simpa using z
        subst hE331
        have CS331k := CS330k.keep KK331 WW331
        have OZ331k := OZ330k.keep KK331 (allS gq (allS hn_v1 all0))
        have Zs331k : n0 ≤ Array.size T331.heap := Nat.le_trans Zs330k KK331.1
        have Is331k_v0 := IS330.keep hw KK331 WW331 (ninS (Ne.symm (QQ330.neQ (own_Is.exa IS330))) (ninS ne01 nin0))
        have Ev331k_v2 := Ev330k_v2.keep KK331 (ninS (Ne.symm (QQ330.neQ Ev330k_v2.1)) (ninS (Ne.symm ne12) nin0))
        have Ev331k_v3 := Ev330k_v3.keep KK331 (ninS (Ne.symm (QQ330.neQ Ev330k_v3.1)) (ninS (Ne.symm ne13) nin0))
        have Ev331k_a328 := Ev330k_a328.keep KK331 (ninS (Ne.symm (QQ330.neQ Ev330k_a328.1)) (ninS (Ne.symm neu1) nin0))
        show Goes p e below (EndW s 88 1472 (Q_0 Z q0 q1 q2 q3 q4 q5 h0 n0)) T331 (mkF m 60 #[.val (.int q0), .val (.int q1), .val (.int q2), .val (.int q3), .val (.int q4), .val (.int q5), .val (.ref a325), .val (.int (0 : Int32)), .val (.ref a326), .val (.ref a328), .unset, .unset, .unset, .unset, .unset, .unset, .unset] [])
        refine own_aload (pc' := 62) X331 hx (hb hby at_60) rfl rfl rfl ?_
        refine own_aload (pc' := 64) X331 hx (hb hby at_62) rfl rfl rfl ?_
        obtain ⟨cq333, kq333, q333a, q333b, q333c⟩ := isOf hZ331 rfl QQ331.1
        obtain ⟨_, _, ⟨T332, L332, k332, n332⟩, -, X332, ⟨Lc332, hQ332, l332, y332, z332⟩, st332⟩ := X331.virtualBack hx (y := (⟨"com/example/dipper/dipper/stream/ScannedEvents", "take", "(Lcom/example/dipper/dipper/stream/ScannedEvent;)Lcom/example/dipper/dipper/stream/ScannedEvent;"⟩ : MethodName)) (z := (⟨"com/example/dipper/dipper/stream/ScannedEvents", "take", "(Lcom/example/dipper/dipper/stream/ScannedEvent;)Lcom/example/dipper/dipper/stream/ScannedEvent;"⟩ : MethodName)) hw331 (mvT hZ331 (hw _ (List.mem_of_getElem? (i := 107) rfl))) (mvT hZ331 (hw _ (List.mem_of_getElem? (i := 108) rfl))) (notFace_of_selects (args := #[]) (mvT hZ331 (hw _ (List.mem_of_getElem? (i := 110) rfl)))) (mvT hZ331 (hw _ (List.mem_of_getElem? (i := 110) rfl))) (mvT hZ331 (hw _ (List.mem_of_getElem? (i := 109) rfl))) (by decide) (backOf (W := 0) (rm_21 l Z a0 hw [] a326 qa [.ref v0, .ref v1, .ref v2, .ref v3] (0 : Int32) (2 : Int32) a328 v0 0 (4 : Int32) T331.heap n0 Zs331k QQ331 gq hn_qa Ev331k_a328.1 (by decide) (by decide) rfl rfl (by decide)) hZ331 (hw _ (List.mem_of_getElem? (i := 111) rfl)) (hw _ (List.mem_of_getElem? (i := 3) rfl)) (by decide) (by decide)) q333a q333c (g := (mkF m 64 #[.val (.int q0), .val (.int q1), .val (.int q2), .val (.int q3), .val (.int q4), .val (.int q5), .val (.ref a325), .val (.int (0 : Int32)), .val (.ref a326), .val (.ref a328), .unset, .unset, .unset, .unset, .unset, .unset, .unset] [(.ref a328), (.ref a326)])) rfl (by rw [hml]; rfl) (Steps.refl _) (argsL := [(.ref a328)]) (rest := []) (lenOf pd_21 rfl) rfl (by show 2 * 0 + _ ≤ _; exact Nat.le_of_eq rfl) (hb hby at_64) (fun _ _ => ⟨rfl, rfl, (by decide : 26 + 0 ≤ _), (by decide : 161 + 0 ≤ _)⟩)
        dsimp only [Pt.U, Pt.locs, Pt.cells, Pt.slots] at X332 l332 y332 z332 st332 hQ332
        subst l332 y332 z332
        obtain ⟨rfl, M332, K332, QQ332⟩ := hQ332
        have N332 := Fr.app N331 M332
        refine Goes.aft st332 ?_
        show Goes p e below (EndW s 88 1472 (Q_0 Z q0 q1 q2 q3 q4 q5 h0 n0)) T332 (mkF m 67 #[.val (.int q0), .val (.int q1), .val (.int q2), .val (.int q3), .val (.int q4), .val (.int q5), .val (.ref a325), .val (.int (0 : Int32)), .val (.ref a326), .val (.ref a328), .unset, .unset, .unset, .unset, .unset, .unset, .unset] [(.ref v0)])
        rw [show ((0 : Int32) + (1 : Int32)) % (4 : Int32) = (1 : Int32) from by decide, show (2 : Int32) - (1 : Int32) = (1 : Int32) from by decide] at QQ332
        have WT332 : own_W Z (_) [a326, qa] := own_W.qs QQ331.1 (own_W.ra QQ331.2.2.2.2.2 own_W.nil)
        have CS332k := CS331k.keep K332 WT332
        have OZ332k := OZ331k.keep K332 (allS gq (allS hn_qa all0))
        have Zs332k : n0 ≤ Array.size T332.heap := Nat.le_trans Zs331k K332.1
        have Is332k_v0 := Is331k_v0.keep hw K332 WT332 (ninS (Ne.symm (QQ331.neQ (own_Is.exa Is331k_v0))) (ninS (Ne.symm (QQ331.2.2.2.2.2.neE hw (own_Is.exa Is331k_v0))) nin0))
        have Is332k_v1 := IS331.keep hw K332 WT332 (ninS (Ne.symm (QQ331.neQ (own_Is.exa IS331))) (ninS (Ne.symm (QQ331.2.2.2.2.2.neE hw (own_Is.exa IS331))) nin0))
        have Ev332k_v2 := Ev331k_v2.keep K332 (ninS (Ne.symm (QQ331.neQ Ev331k_v2.1)) (ninS (Ne.symm (QQ331.2.2.2.2.2.neE hw Ev331k_v2.1)) nin0))
        have Ev332k_v3 := Ev331k_v3.keep K332 (ninS (Ne.symm (QQ331.neQ Ev331k_v3.1)) (ninS (Ne.symm (QQ331.2.2.2.2.2.neE hw Ev331k_v3.1)) nin0))
        have Ev332k_a328 := Ev331k_a328.keep K332 (ninS (Ne.symm (QQ331.neQ Ev331k_a328.1)) (ninS (Ne.symm (QQ331.2.2.2.2.2.neE hw Ev331k_a328.1)) nin0))
        have LVk332 := own_LV.keep hw LV331 K332 WT332
        have hkk332 : _ ≤ Array.size T332.heap := Nat.le_trans hr331 K332.1
        have QT332 : own_Q Z (T332.heap) a326 qa [.ref a328, .ref v1, .ref v2, .ref v3] (1 : Int32) (1 : Int32) := QQ332
        refine own_astore (pc' := 69) X332 hx (hb hby at_67) rfl (Ls' := #[.val (.int q0), .val (.int q1), .val (.int q2), .val (.int q3), .val (.int q4), .val (.int q5), .val (.ref a325), .val (.int (0 : Int32)), .val (.ref a326), .val (.ref a328), .val (.ref v0), .unset, .unset, .unset, .unset, .unset, .unset]) rfl rfl ?_
        refine own_aload (pc' := 71) X332 hx (hb hby at_69) rfl rfl rfl ?_
        refine own_iloadN (pc' := 72) X332 hx (hb hby at_71) rfl rfl ?_
        refine own_aload (pc' := 74) X332 hx (hb hby at_72) rfl rfl rfl ?_
        obtain ⟨_, _, ⟨T334, L334, k334, n334⟩, -, X334, ⟨Lc334, hQ334, l334, y334, z334⟩, st334⟩ := Jvm.LawKit.callS X332 hx (y := (⟨"com/example/dipper/dipper/stream/ScannedEventsTakePinLaw", "is", "(Lcom/example/dipper/dipper/stream/ScannedEvent;I[C)Z"⟩ : MethodName)) hw331 (mvT hZ331 (hw _ (List.mem_of_getElem? (i := 112) rfl))) (mvT hZ331 (hw _ (List.mem_of_getElem? (i := 113) rfl))) (mvT hZ331 (hw _ (List.mem_of_getElem? (i := 33) rfl))) (mvT hZ331 (hw _ (List.mem_of_getElem? (i := 114) rfl))) (by decide) (backOf (W := 0) (rm_24 l Z a0 hw [] v0 q0 a325 T332.heap n0 Zs332k Is332k_v0 CS332k) hZ331 (hw _ (List.mem_of_getElem? (i := 114) rfl)) (hw _ (List.mem_of_getElem? (i := 33) rfl)) (by decide) (by decide)) (g := (mkF m 74 #[.val (.int q0), .val (.int q1), .val (.int q2), .val (.int q3), .val (.int q4), .val (.int q5), .val (.ref a325), .val (.int (0 : Int32)), .val (.ref a326), .val (.ref a328), .val (.ref v0), .unset, .unset, .unset, .unset, .unset, .unset] [(.ref a325), (.int q0), (.ref v0)])) rfl (by rw [hml]; rfl) (argsL := [(.ref v0), (.int q0), (.ref a325)]) (rest := []) (lenOf pd_24 rfl) rfl (by show 2 * 0 + _ ≤ _; exact Nat.le_of_eq rfl) (hb hby at_74) (fun _ _ => ⟨rfl, rfl, (by decide : 26 + 2 ≤ _), (by decide : 161 + 5 ≤ _)⟩)
        dsimp only [Pt.U, Pt.locs, Pt.cells, Pt.slots] at X334 l334 y334 z334 st334 hQ334
        subst l334 y334 z334
        obtain ⟨rfl, M334, K334⟩ := hQ334
        have N334 := Fr.app N332 M334
        refine Goes.pre st334 ?_
        show Goes p e below (EndW s 88 1472 (Q_0 Z q0 q1 q2 q3 q4 q5 h0 n0)) T334 (mkF m 77 #[.val (.int q0), .val (.int q1), .val (.int q2), .val (.int q3), .val (.int q4), .val (.int q5), .val (.ref a325), .val (.int (0 : Int32)), .val (.ref a326), .val (.ref a328), .val (.ref v0), .unset, .unset, .unset, .unset, .unset, .unset] [(.int (1 : Int32))])
        have CS334k := CS332k.keep K334 own_W.nil
        have OZ334k := OZ332k.keep K334 all0
        have Zs334k : n0 ≤ Array.size T334.heap := Nat.le_trans Zs332k K334.1
        have Is334k_v0 := Is332k_v0.keep hw K334 own_W.nil nin0
        have Is334k_v1 := Is332k_v1.keep hw K334 own_W.nil nin0
        have Ev334k_v2 := Ev332k_v2.keep K334 nin0
        have Ev334k_v3 := Ev332k_v3.keep K334 nin0
        have Ev334k_a328 := Ev332k_a328.keep K334 nin0
        have LVk334 := own_LV.keep hw LVk332 K334 own_W.nil
        have hkk334 : _ ≤ Array.size T334.heap := Nat.le_trans hkk332 K334.1
        have QT334 := QT332.keep K334 nin0 nin0
        refine own_istore (pc' := 79) X334 hx (hb hby at_77) (Ls' := #[.val (.int q0), .val (.int q1), .val (.int q2), .val (.int q3), .val (.int q4), .val (.int q5), .val (.ref a325), .val (.int (0 : Int32)), .val (.ref a326), .val (.ref a328), .val (.ref v0), .val (.int (1 : Int32)), .unset, .unset, .unset, .unset, .unset]) rfl rfl ?_
        refine own_aload (pc' := 81) X334 hx (hb hby at_79) rfl rfl rfl ?_
        refine own_iloadN (pc' := 82) X334 hx (hb hby at_81) rfl rfl ?_
        refine own_aload (pc' := 84) X334 hx (hb hby at_82) rfl rfl rfl ?_
        have APq2 : own_AP Z n0 (T334.heap) [.ref a328, .ref v1, .ref v2, .ref v3] (1 : Int32) (1 : Int32) := Or.inl ⟨rfl, by decide, by decide, v2, rfl, hn_v2, _, _, _, _, _, _, _, _, Ev334k_v2⟩
        obtain ⟨_, _, ⟨T335, L335, k335, n335⟩, -, X335, hS335, hg335, ⟨Lc335, hQ335, l335, y335, z335⟩, st335⟩ := callSS X334 hx (y := (⟨"com/example/dipper/dipper/stream/ScannedEventsTakePinLaw", "put", "(Lcom/example/dipper/dipper/stream/ScannedEvents;I[C)V"⟩ : MethodName)) hw331 (mvT hZ331 (hw _ (List.mem_of_getElem? (i := 31) rfl))) (mvT hZ331 (hw _ (List.mem_of_getElem? (i := 32) rfl))) (mvT hZ331 (hw _ (List.mem_of_getElem? (i := 33) rfl))) (mvT hZ331 (hw _ (List.mem_of_getElem? (i := 34) rfl))) (by decide) (own_backW (W := 0) (rm_25 l Z a0 hw [] a326 qa [.ref a328, .ref v1, .ref v2, .ref v3] (1 : Int32) (1 : Int32) q2 a325 T334.heap n0 Zs334k QT334 gq hn_qa APq2 OZ334k HH CS334k) hZ331 (hw _ (List.mem_of_getElem? (i := 34) rfl)) (hw _ (List.mem_of_getElem? (i := 33) rfl)) (by decide) (by decide)) (g := (mkF m 84 #[.val (.int q0), .val (.int q1), .val (.int q2), .val (.int q3), .val (.int q4), .val (.int q5), .val (.ref a325), .val (.int (0 : Int32)), .val (.ref a326), .val (.ref a328), .val (.ref v0), .val (.int (1 : Int32)), .unset, .unset, .unset, .unset, .unset] [(.ref a325), (.int q2), (.ref a326)])) rfl (by rw [hml]; rfl) (argsL := [(.ref a326), (.int q2), (.ref a325)]) (rest := []) (lenOf pd_25 rfl) rfl (by show 2 * 0 + _ ≤ _; exact Nat.le_of_eq rfl) (hb hby at_84) (fun vm hvm => ⟨rfl, rfl, own_LV.warm (s := s.setVm T331.vm) LVk334 hvm, (by decide : 28 + 9 ≤ _), (by decide : 166 + 49 ≤ _)⟩)
        dsimp only [Pt.U, Pt.locs, Pt.cells, Pt.slots] at X335 l335 y335 z335 st335 hQ335 hS335 hg335
        subst l335 y335 z335
        have X335 : Stand p l e room_1 (s.setVm T335.vm) m #[(.int q0), (.int q1), (.int q2), (.int q3), (.int q4), (.int q5)] below meth c T335 _ _ _ := X335
        obtain ⟨qb335, us335, hq335, ev335, wr335, rfl, M335, AR335, QQ335, IS335, KK335, WW335, gev335, gqb335, LV335⟩ := hQ335
        have N335 := Fr.app N334 M335
        refine Goes.aft st335 ?_
        show Goes p e below (EndW s 88 1472 (Q_0 Z q0 q1 q2 q3 q4 q5 h0 n0)) T335 (mkF m 87 #[.val (.int q0), .val (.int q1), .val (.int q2), .val (.int q3), .val (.int q4), .val (.int q5), .val (.ref a325), .val (.int (0 : Int32)), .val (.ref a326), .val (.ref a328), .val (.ref v0), .val (.int (1 : Int32)), .unset, .unset, .unset, .unset, .unset] [])
        have hF335 := hS335
        have hZ335 : Z.Warmed39 (s.setVm T335.vm).vm := State.Warmed39.trans (t := s.setVm T331.vm) hZ331 hS335.1
        have hw335 : (s.setVm T335.vm).vm.findClass "com/example/dipper/dipper/stream/ScannedEventsTakePinLaw" = some m.cls := by rw [show (s.setVm T335.vm).vm = T335.vm from rfl, hS335.1.alike.findClass]; exact hw331
        have hT335 := foldS (T := T334) hT331 (Nat.le_trans hkk334 (Nat.le_of_eq (congrArg Array.size (Eq.symm rfl)))) hS335 hg335
        have hr335 : Array.size T335.heap ≤ Array.size T335.heap := Nat.le_refl _
        rw [show (1 : Int32) + (1 : Int32) = (2 : Int32) from by decide] at QQ335
        obtain ⟨-, eb335, rfl, rfl, rfl, hv335⟩ | ⟨hx4, -⟩ := AR335
        · have ec335 := eb335.symm
          clear eb335
          subst ec335
          have hE335 : v2 = ev335 := by have z : some (Value.ref v2) = some (Value.ref ev335) := hv335; simpa using z
          subst hE335
          have CS335k := CS334k.keep KK335 WW335
          have OZ335k := OZ334k.keep KK335 (allS gq (allS hn_v2 all0))
          have Zs335k : n0 ≤ Array.size T335.heap := Nat.le_trans Zs334k KK335.1
          have Is335k_v0 := Is334k_v0.keep hw KK335 WW335 (ninS (Ne.symm (QT334.neQ (own_Is.exa Is334k_v0))) (ninS ne02 nin0))
          have Is335k_v1 := Is334k_v1.keep hw KK335 WW335 (ninS (Ne.symm (QT334.neQ (own_Is.exa Is334k_v1))) (ninS ne12 nin0))
          have Ev335k_v3 := Ev334k_v3.keep KK335 (ninS (Ne.symm (QT334.neQ Ev334k_v3.1)) (ninS (Ne.symm ne23) nin0))
          have Ev335k_a328 := Ev334k_a328.keep KK335 (ninS (Ne.symm (QT334.neQ Ev334k_a328.1)) (ninS (Ne.symm neu2) nin0))
          show Goes p e below (EndW s 88 1472 (Q_0 Z q0 q1 q2 q3 q4 q5 h0 n0)) T335 (mkF m 87 #[.val (.int q0), .val (.int q1), .val (.int q2), .val (.int q3), .val (.int q4), .val (.int q5), .val (.ref a325), .val (.int (0 : Int32)), .val (.ref a326), .val (.ref a328), .val (.ref v0), .val (.int (1 : Int32)), .unset, .unset, .unset, .unset, .unset] [])
          refine own_aload (pc' := 89) X335 hx (hb hby at_87) rfl rfl rfl ?_
          refine own_iloadN (pc' := 90) X335 hx (hb hby at_89) rfl rfl ?_
          refine own_aload (pc' := 92) X335 hx (hb hby at_90) rfl rfl rfl ?_
          have APq3 : own_AP Z n0 (T335.heap) [.ref a328, .ref v1, .ref v2, .ref v3] (1 : Int32) (2 : Int32) := Or.inl ⟨rfl, by decide, by decide, v3, rfl, hn_v3, _, _, _, _, _, _, _, _, Ev335k_v3⟩
          obtain ⟨_, _, ⟨T336, L336, k336, n336⟩, -, X336, hS336, hg336, ⟨Lc336, hQ336, l336, y336, z336⟩, st336⟩ := callSS X335 hx (y := (⟨"com/example/dipper/dipper/stream/ScannedEventsTakePinLaw", "put", "(Lcom/example/dipper/dipper/stream/ScannedEvents;I[C)V"⟩ : MethodName)) hw335 (mvT hZ335 (hw _ (List.mem_of_getElem? (i := 31) rfl))) (mvT hZ335 (hw _ (List.mem_of_getElem? (i := 32) rfl))) (mvT hZ335 (hw _ (List.mem_of_getElem? (i := 33) rfl))) (mvT hZ335 (hw _ (List.mem_of_getElem? (i := 34) rfl))) (by decide) (own_backW (W := 0) (rm_25 l Z a0 hw [] a326 qa [.ref a328, .ref v1, .ref v2, .ref v3] (1 : Int32) (2 : Int32) q3 a325 T335.heap n0 Zs335k QQ335 gq hn_qa APq3 OZ335k HH CS335k) hZ335 (hw _ (List.mem_of_getElem? (i := 34) rfl)) (hw _ (List.mem_of_getElem? (i := 33) rfl)) (by decide) (by decide)) (g := (mkF m 92 #[.val (.int q0), .val (.int q1), .val (.int q2), .val (.int q3), .val (.int q4), .val (.int q5), .val (.ref a325), .val (.int (0 : Int32)), .val (.ref a326), .val (.ref a328), .val (.ref v0), .val (.int (1 : Int32)), .unset, .unset, .unset, .unset, .unset] [(.ref a325), (.int q3), (.ref a326)])) rfl (by rw [hml]; rfl) (argsL := [(.ref a326), (.int q3), (.ref a325)]) (rest := []) (lenOf pd_25 rfl) rfl (by show 2 * 0 + _ ≤ _; exact Nat.le_of_eq rfl) (hb hby at_92) (fun vm hvm => ⟨rfl, rfl, own_LV.warm (s := s.setVm T335.vm) LV335 hvm, (by decide : 37 + 9 ≤ _), (by decide : 215 + 49 ≤ _)⟩)
          dsimp only [Pt.U, Pt.locs, Pt.cells, Pt.slots] at X336 l336 y336 z336 st336 hQ336 hS336 hg336
          subst l336 y336 z336
          have X336 : Stand p l e room_1 (s.setVm T336.vm) m #[(.int q0), (.int q1), (.int q2), (.int q3), (.int q4), (.int q5)] below meth c T336 _ _ _ := X336
          obtain ⟨qb336, us336, hq336, ev336, wr336, rfl, M336, AR336, QQ336, IS336, KK336, WW336, gev336, gqb336, LV336⟩ := hQ336
          have N336 := Fr.app N335 M336
          refine Goes.aft st336 ?_
          show Goes p e below (EndW s 88 1472 (Q_0 Z q0 q1 q2 q3 q4 q5 h0 n0)) T336 (mkF m 95 #[.val (.int q0), .val (.int q1), .val (.int q2), .val (.int q3), .val (.int q4), .val (.int q5), .val (.ref a325), .val (.int (0 : Int32)), .val (.ref a326), .val (.ref a328), .val (.ref v0), .val (.int (1 : Int32)), .unset, .unset, .unset, .unset, .unset] [])
          have hF336 := hS336
          have hZ336 : Z.Warmed39 (s.setVm T336.vm).vm := State.Warmed39.trans (t := s.setVm T335.vm) hZ335 hS336.1
          have hw336 : (s.setVm T336.vm).vm.findClass "com/example/dipper/dipper/stream/ScannedEventsTakePinLaw" = some m.cls := by rw [show (s.setVm T336.vm).vm = T336.vm from rfl, hS336.1.alike.findClass]; exact hw335
          have hT336 := foldS (T := T335) hT335 (Nat.le_trans hr335 (Nat.le_of_eq (congrArg Array.size (Eq.symm rfl)))) hS336 hg336
          have hr336 : Array.size T336.heap ≤ Array.size T336.heap := Nat.le_refl _
          rw [show (2 : Int32) + (1 : Int32) = (3 : Int32) from by decide] at QQ336
          obtain ⟨-, eb336, rfl, rfl, rfl, hv336⟩ | ⟨hx4, -⟩ := AR336
          · have ec336 := eb336.symm
            clear eb336
            subst ec336
            have hE336 : v3 = ev336 := by have z : some (Value.ref v3) = some (Value.ref ev336) := hv336; simpa using z
            subst hE336
            have CS336k := CS335k.keep KK336 WW336
            have OZ336k := OZ335k.keep KK336 (allS gq (allS hn_v3 all0))
            have Zs336k : n0 ≤ Array.size T336.heap := Nat.le_trans Zs335k KK336.1
            have Is336k_v0 := Is335k_v0.keep hw KK336 WW336 (ninS (Ne.symm (QQ335.neQ (own_Is.exa Is335k_v0))) (ninS ne03 nin0))
            have Is336k_v1 := Is335k_v1.keep hw KK336 WW336 (ninS (Ne.symm (QQ335.neQ (own_Is.exa Is335k_v1))) (ninS ne13 nin0))
            have Is336k_v2 := IS335.keep hw KK336 WW336 (ninS (Ne.symm (QQ335.neQ (own_Is.exa IS335))) (ninS ne23 nin0))
            have Ev336k_a328 := Ev335k_a328.keep KK336 (ninS (Ne.symm (QQ335.neQ Ev335k_a328.1)) (ninS (Ne.symm neu3) nin0))
            show Goes p e below (EndW s 88 1472 (Q_0 Z q0 q1 q2 q3 q4 q5 h0 n0)) T336 (mkF m 95 #[.val (.int q0), .val (.int q1), .val (.int q2), .val (.int q3), .val (.int q4), .val (.int q5), .val (.ref a325), .val (.int (0 : Int32)), .val (.ref a326), .val (.ref a328), .val (.ref v0), .val (.int (1 : Int32)), .unset, .unset, .unset, .unset, .unset] [])
            refine own_aload (pc' := 97) X336 hx (hb hby at_95) rfl rfl rfl ?_
            refine own_iload (pc' := 99) X336 hx (hb hby at_97) rfl rfl ?_
            refine own_aload (pc' := 101) X336 hx (hb hby at_99) rfl rfl rfl ?_
            have APq4 : own_AP Z n0 (T336.heap) [.ref a328, .ref v1, .ref v2, .ref v3] (1 : Int32) (3 : Int32) := Or.inl ⟨rfl, by decide, by decide, a328, rfl, hn_a328, _, _, _, _, _, _, _, _, Ev336k_a328⟩
            obtain ⟨_, _, ⟨T337, L337, k337, n337⟩, -, X337, hS337, hg337, ⟨Lc337, hQ337, l337, y337, z337⟩, st337⟩ := callSS X336 hx (y := (⟨"com/example/dipper/dipper/stream/ScannedEventsTakePinLaw", "put", "(Lcom/example/dipper/dipper/stream/ScannedEvents;I[C)V"⟩ : MethodName)) hw336 (mvT hZ336 (hw _ (List.mem_of_getElem? (i := 31) rfl))) (mvT hZ336 (hw _ (List.mem_of_getElem? (i := 32) rfl))) (mvT hZ336 (hw _ (List.mem_of_getElem? (i := 33) rfl))) (mvT hZ336 (hw _ (List.mem_of_getElem? (i := 34) rfl))) (by decide) (own_backW (W := 0) (rm_25 l Z a0 hw [] a326 qa [.ref a328, .ref v1, .ref v2, .ref v3] (1 : Int32) (3 : Int32) q4 a325 T336.heap n0 Zs336k QQ336 gq hn_qa APq4 OZ336k HH CS336k) hZ336 (hw _ (List.mem_of_getElem? (i := 34) rfl)) (hw _ (List.mem_of_getElem? (i := 33) rfl)) (by decide) (by decide)) (g := (mkF m 101 #[.val (.int q0), .val (.int q1), .val (.int q2), .val (.int q3), .val (.int q4), .val (.int q5), .val (.ref a325), .val (.int (0 : Int32)), .val (.ref a326), .val (.ref a328), .val (.ref v0), .val (.int (1 : Int32)), .unset, .unset, .unset, .unset, .unset] [(.ref a325), (.int q4), (.ref a326)])) rfl (by rw [hml]; rfl) (argsL := [(.ref a326), (.int q4), (.ref a325)]) (rest := []) (lenOf pd_25 rfl) rfl (by show 2 * 0 + _ ≤ _; exact Nat.le_of_eq rfl) (hb hby at_101) (fun vm hvm => ⟨rfl, rfl, own_LV.warm (s := s.setVm T336.vm) LV336 hvm, (by decide : 46 + 9 ≤ _), (by decide : 264 + 49 ≤ _)⟩)
            dsimp only [Pt.U, Pt.locs, Pt.cells, Pt.slots] at X337 l337 y337 z337 st337 hQ337 hS337 hg337
            subst l337 y337 z337
            have X337 : Stand p l e room_1 (s.setVm T337.vm) m #[(.int q0), (.int q1), (.int q2), (.int q3), (.int q4), (.int q5)] below meth c T337 _ _ _ := X337
            obtain ⟨qb337, us337, hq337, ev337, wr337, rfl, M337, AR337, QQ337, IS337, KK337, WW337, gev337, gqb337, LV337⟩ := hQ337
            have N337 := Fr.app N336 M337
            refine Goes.aft st337 ?_
            show Goes p e below (EndW s 88 1472 (Q_0 Z q0 q1 q2 q3 q4 q5 h0 n0)) T337 (mkF m 104 #[.val (.int q0), .val (.int q1), .val (.int q2), .val (.int q3), .val (.int q4), .val (.int q5), .val (.ref a325), .val (.int (0 : Int32)), .val (.ref a326), .val (.ref a328), .val (.ref v0), .val (.int (1 : Int32)), .unset, .unset, .unset, .unset, .unset] [])
            have hF337 := hS337
            have hZ337 : Z.Warmed39 (s.setVm T337.vm).vm := State.Warmed39.trans (t := s.setVm T336.vm) hZ336 hS337.1
            have hw337 : (s.setVm T337.vm).vm.findClass "com/example/dipper/dipper/stream/ScannedEventsTakePinLaw" = some m.cls := by rw [show (s.setVm T337.vm).vm = T337.vm from rfl, hS337.1.alike.findClass]; exact hw336
            have hT337 := foldS (T := T336) hT336 (Nat.le_trans hr336 (Nat.le_of_eq (congrArg Array.size (Eq.symm rfl)))) hS337 hg337
            have hr337 : Array.size T337.heap ≤ Array.size T337.heap := Nat.le_refl _
            rw [show (3 : Int32) + (1 : Int32) = (4 : Int32) from by decide] at QQ337
            obtain ⟨-, eb337, rfl, rfl, rfl, hv337⟩ | ⟨hx4, -⟩ := AR337
            · have ec337 := eb337.symm
              clear eb337
              subst ec337
              have hE337 : a328 = ev337 := by have z : some (Value.ref a328) = some (Value.ref ev337) := hv337; simpa using z
              subst hE337
              have CS337k := CS336k.keep KK337 WW337
              have OZ337k := OZ336k.keep KK337 (allS gq (allS hn_a328 all0))
              have Zs337k : n0 ≤ Array.size T337.heap := Nat.le_trans Zs336k KK337.1
              have Is337k_v0 := Is336k_v0.keep hw KK337 WW337 (ninS (Ne.symm (QQ336.neQ (own_Is.exa Is336k_v0))) (ninS neu0 nin0))
              have Is337k_v1 := Is336k_v1.keep hw KK337 WW337 (ninS (Ne.symm (QQ336.neQ (own_Is.exa Is336k_v1))) (ninS neu1 nin0))
              have Is337k_v2 := Is336k_v2.keep hw KK337 WW337 (ninS (Ne.symm (QQ336.neQ (own_Is.exa Is336k_v2))) (ninS neu2 nin0))
              have Is337k_v3 := IS336.keep hw KK337 WW337 (ninS (Ne.symm (QQ336.neQ (own_Is.exa IS336))) (ninS neu3 nin0))
              show Goes p e below (EndW s 88 1472 (Q_0 Z q0 q1 q2 q3 q4 q5 h0 n0)) T337 (mkF m 104 #[.val (.int q0), .val (.int q1), .val (.int q2), .val (.int q3), .val (.int q4), .val (.int q5), .val (.ref a325), .val (.int (0 : Int32)), .val (.ref a326), .val (.ref a328), .val (.ref v0), .val (.int (1 : Int32)), .unset, .unset, .unset, .unset, .unset] [])
              refine own_iload (pc' := 106) X337 hx (hb hby at_104) rfl rfl ?_
              refine own_ifY X337 hx (hb hby at_106) (by decide) (by decide) (pc' := 118) (by decide) ?_
              refine own_aload (pc' := 120) X337 hx (hb hby at_118) rfl rfl rfl ?_
              refine own_aload (pc' := 122) X337 hx (hb hby at_120) rfl rfl rfl ?_
              obtain ⟨cq339, kq339, q339a, q339b, q339c⟩ := isOf hZ337 rfl QQ337.1
              obtain ⟨_, _, ⟨T338, L338, k338, n338⟩, -, X338, ⟨Lc338, hQ338, l338, y338, z338⟩, st338⟩ := X337.virtualBack hx (y := (⟨"com/example/dipper/dipper/stream/ScannedEvents", "take", "(Lcom/example/dipper/dipper/stream/ScannedEvent;)Lcom/example/dipper/dipper/stream/ScannedEvent;"⟩ : MethodName)) (z := (⟨"com/example/dipper/dipper/stream/ScannedEvents", "take", "(Lcom/example/dipper/dipper/stream/ScannedEvent;)Lcom/example/dipper/dipper/stream/ScannedEvent;"⟩ : MethodName)) hw337 (mvT hZ337 (hw _ (List.mem_of_getElem? (i := 107) rfl))) (mvT hZ337 (hw _ (List.mem_of_getElem? (i := 108) rfl))) (notFace_of_selects (args := #[]) (mvT hZ337 (hw _ (List.mem_of_getElem? (i := 110) rfl)))) (mvT hZ337 (hw _ (List.mem_of_getElem? (i := 110) rfl))) (mvT hZ337 (hw _ (List.mem_of_getElem? (i := 109) rfl))) (by decide) (backOf (W := 0) (rm_21 l Z a0 hw [] a326 qa [.ref a328, .ref v1, .ref v2, .ref v3] (1 : Int32) (4 : Int32) v0 v1 1 (4 : Int32) T337.heap n0 Zs337k QQ337 gq hn_qa (own_Is.exa Is337k_v0) (by decide) (by decide) rfl rfl (by decide)) hZ337 (hw _ (List.mem_of_getElem? (i := 111) rfl)) (hw _ (List.mem_of_getElem? (i := 3) rfl)) (by decide) (by decide)) q339a q339c (g := (mkF m 122 #[.val (.int q0), .val (.int q1), .val (.int q2), .val (.int q3), .val (.int q4), .val (.int q5), .val (.ref a325), .val (.int (0 : Int32)), .val (.ref a326), .val (.ref a328), .val (.ref v0), .val (.int (1 : Int32)), .unset, .unset, .unset, .unset, .unset] [(.ref v0), (.ref a326)])) rfl (by rw [hml]; rfl) (Steps.refl _) (argsL := [(.ref v0)]) (rest := []) (lenOf pd_21 rfl) rfl (by show 2 * 0 + _ ≤ _; exact Nat.le_of_eq rfl) (hb hby at_122) (fun _ _ => ⟨rfl, rfl, (by decide : 55 + 0 ≤ _), (by decide : 313 + 0 ≤ _)⟩)
              dsimp only [Pt.U, Pt.locs, Pt.cells, Pt.slots] at X338 l338 y338 z338 st338 hQ338
              subst l338 y338 z338
              obtain ⟨rfl, M338, K338, QQ338⟩ := hQ338
              have N338 := Fr.app N337 M338
              refine Goes.aft st338 ?_
              show Goes p e below (EndW s 88 1472 (Q_0 Z q0 q1 q2 q3 q4 q5 h0 n0)) T338 (mkF m 125 #[.val (.int q0), .val (.int q1), .val (.int q2), .val (.int q3), .val (.int q4), .val (.int q5), .val (.ref a325), .val (.int (0 : Int32)), .val (.ref a326), .val (.ref a328), .val (.ref v0), .val (.int (1 : Int32)), .unset, .unset, .unset, .unset, .unset] [(.ref v1)])
              rw [show ((1 : Int32) + (1 : Int32)) % (4 : Int32) = (2 : Int32) from by decide, show (4 : Int32) - (1 : Int32) = (3 : Int32) from by decide] at QQ338
              have WT338 : own_W Z (_) [a326, qa] := own_W.qs QQ337.1 (own_W.ra QQ337.2.2.2.2.2 own_W.nil)
              have CS338k := CS337k.keep K338 WT338
              have OZ338k := OZ337k.keep K338 (allS gq (allS hn_qa all0))
              have Zs338k : n0 ≤ Array.size T338.heap := Nat.le_trans Zs337k K338.1
              have Is338k_v0 := Is337k_v0.keep hw K338 WT338 (ninS (Ne.symm (QQ337.neQ (own_Is.exa Is337k_v0))) (ninS (Ne.symm (QQ337.2.2.2.2.2.neE hw (own_Is.exa Is337k_v0))) nin0))
              have Is338k_v1 := Is337k_v1.keep hw K338 WT338 (ninS (Ne.symm (QQ337.neQ (own_Is.exa Is337k_v1))) (ninS (Ne.symm (QQ337.2.2.2.2.2.neE hw (own_Is.exa Is337k_v1))) nin0))
              have Is338k_v2 := Is337k_v2.keep hw K338 WT338 (ninS (Ne.symm (QQ337.neQ (own_Is.exa Is337k_v2))) (ninS (Ne.symm (QQ337.2.2.2.2.2.neE hw (own_Is.exa Is337k_v2))) nin0))
              have Is338k_v3 := Is337k_v3.keep hw K338 WT338 (ninS (Ne.symm (QQ337.neQ (own_Is.exa Is337k_v3))) (ninS (Ne.symm (QQ337.2.2.2.2.2.neE hw (own_Is.exa Is337k_v3))) nin0))
              have Is338k_a328 := IS337.keep hw K338 WT338 (ninS (Ne.symm (QQ337.neQ (own_Is.exa IS337))) (ninS (Ne.symm (QQ337.2.2.2.2.2.neE hw (own_Is.exa IS337))) nin0))
              have LVk338 := own_LV.keep hw LV337 K338 WT338
              have hkk338 : _ ≤ Array.size T338.heap := Nat.le_trans hr337 K338.1
              have QT338 : own_Q Z (T338.heap) a326 qa [.ref a328, .ref v0, .ref v2, .ref v3] (2 : Int32) (3 : Int32) := QQ338
              refine own_astore (pc' := 127) X338 hx (hb hby at_125) rfl (Ls' := #[.val (.int q0), .val (.int q1), .val (.int q2), .val (.int q3), .val (.int q4), .val (.int q5), .val (.ref a325), .val (.int (0 : Int32)), .val (.ref a326), .val (.ref a328), .val (.ref v0), .val (.int (1 : Int32)), .val (.ref v1), .unset, .unset, .unset, .unset]) rfl rfl ?_
              refine own_iload (pc' := 129) X338 hx (hb hby at_127) rfl rfl ?_
              refine own_ifN (pc' := 132) X338 hx (hb hby at_129) (by decide) rfl ?_
              refine own_aload (pc' := 134) X338 hx (hb hby at_132) rfl rfl rfl ?_
              refine own_iloadN (pc' := 135) X338 hx (hb hby at_134) rfl rfl ?_
              refine own_aload (pc' := 137) X338 hx (hb hby at_135) rfl rfl rfl ?_
              obtain ⟨_, _, ⟨T340, L340, k340, n340⟩, -, X340, ⟨Lc340, hQ340, l340, y340, z340⟩, st340⟩ := Jvm.LawKit.callS X338 hx (y := (⟨"com/example/dipper/dipper/stream/ScannedEventsTakePinLaw", "is", "(Lcom/example/dipper/dipper/stream/ScannedEvent;I[C)Z"⟩ : MethodName)) hw337 (mvT hZ337 (hw _ (List.mem_of_getElem? (i := 112) rfl))) (mvT hZ337 (hw _ (List.mem_of_getElem? (i := 113) rfl))) (mvT hZ337 (hw _ (List.mem_of_getElem? (i := 33) rfl))) (mvT hZ337 (hw _ (List.mem_of_getElem? (i := 114) rfl))) (by decide) (backOf (W := 0) (rm_24 l Z a0 hw [] v1 q1 a325 T338.heap n0 Zs338k Is338k_v1 CS338k) hZ337 (hw _ (List.mem_of_getElem? (i := 114) rfl)) (hw _ (List.mem_of_getElem? (i := 33) rfl)) (by decide) (by decide)) (g := (mkF m 137 #[.val (.int q0), .val (.int q1), .val (.int q2), .val (.int q3), .val (.int q4), .val (.int q5), .val (.ref a325), .val (.int (0 : Int32)), .val (.ref a326), .val (.ref a328), .val (.ref v0), .val (.int (1 : Int32)), .val (.ref v1), .unset, .unset, .unset, .unset] [(.ref a325), (.int q1), (.ref v1)])) rfl (by rw [hml]; rfl) (argsL := [(.ref v1), (.int q1), (.ref a325)]) (rest := []) (lenOf pd_24 rfl) rfl (by show 2 * 0 + _ ≤ _; exact Nat.le_of_eq rfl) (hb hby at_137) (fun _ _ => ⟨rfl, rfl, (by decide : 55 + 2 ≤ _), (by decide : 313 + 5 ≤ _)⟩)
              dsimp only [Pt.U, Pt.locs, Pt.cells, Pt.slots] at X340 l340 y340 z340 st340 hQ340
              subst l340 y340 z340
              obtain ⟨rfl, M340, K340⟩ := hQ340
              have N340 := Fr.app N338 M340
              refine Goes.pre st340 ?_
              show Goes p e below (EndW s 88 1472 (Q_0 Z q0 q1 q2 q3 q4 q5 h0 n0)) T340 (mkF m 140 #[.val (.int q0), .val (.int q1), .val (.int q2), .val (.int q3), .val (.int q4), .val (.int q5), .val (.ref a325), .val (.int (0 : Int32)), .val (.ref a326), .val (.ref a328), .val (.ref v0), .val (.int (1 : Int32)), .val (.ref v1), .unset, .unset, .unset, .unset] [(.int (1 : Int32))])
              have CS340k := CS338k.keep K340 own_W.nil
              have OZ340k := OZ338k.keep K340 all0
              have Zs340k : n0 ≤ Array.size T340.heap := Nat.le_trans Zs338k K340.1
              have Is340k_v0 := Is338k_v0.keep hw K340 own_W.nil nin0
              have Is340k_v1 := Is338k_v1.keep hw K340 own_W.nil nin0
              have Is340k_v2 := Is338k_v2.keep hw K340 own_W.nil nin0
              have Is340k_v3 := Is338k_v3.keep hw K340 own_W.nil nin0
              have Is340k_a328 := Is338k_a328.keep hw K340 own_W.nil nin0
              have LVk340 := own_LV.keep hw LVk338 K340 own_W.nil
              have hkk340 : _ ≤ Array.size T340.heap := Nat.le_trans hkk338 K340.1
              have QT340 := QT338.keep K340 nin0 nin0
              refine own_ifN (pc' := 143) X340 hx (hb hby at_140) (by decide) rfl ?_
              refine own_iconst (pc' := 144) X340 hx (hb hby at_143) (v := (1 : Int32)) rfl rfl ?_
              refine own_goto X340 hx (hb hby at_144) (by decide) (pc' := 148) (by decide) ?_
              refine own_istore (pc' := 150) X340 hx (hb hby at_148) (Ls' := #[.val (.int q0), .val (.int q1), .val (.int q2), .val (.int q3), .val (.int q4), .val (.int q5), .val (.ref a325), .val (.int (0 : Int32)), .val (.ref a326), .val (.ref a328), .val (.ref v0), .val (.int (1 : Int32)), .val (.ref v1), .unset, .unset, .unset, .unset]) rfl rfl ?_
              refine own_aload (pc' := 152) X340 hx (hb hby at_150) rfl rfl rfl ?_
              refine own_aload (pc' := 154) X340 hx (hb hby at_152) rfl rfl rfl ?_
              obtain ⟨cq342, kq342, q342a, q342b, q342c⟩ := isOf hZ337 rfl QT340.1
              obtain ⟨_, _, ⟨T341, L341, k341, n341⟩, -, X341, ⟨Lc341, hQ341, l341, y341, z341⟩, st341⟩ := X340.virtualBack hx (y := (⟨"com/example/dipper/dipper/stream/ScannedEvents", "take", "(Lcom/example/dipper/dipper/stream/ScannedEvent;)Lcom/example/dipper/dipper/stream/ScannedEvent;"⟩ : MethodName)) (z := (⟨"com/example/dipper/dipper/stream/ScannedEvents", "take", "(Lcom/example/dipper/dipper/stream/ScannedEvent;)Lcom/example/dipper/dipper/stream/ScannedEvent;"⟩ : MethodName)) hw337 (mvT hZ337 (hw _ (List.mem_of_getElem? (i := 107) rfl))) (mvT hZ337 (hw _ (List.mem_of_getElem? (i := 108) rfl))) (notFace_of_selects (args := #[]) (mvT hZ337 (hw _ (List.mem_of_getElem? (i := 110) rfl)))) (mvT hZ337 (hw _ (List.mem_of_getElem? (i := 110) rfl))) (mvT hZ337 (hw _ (List.mem_of_getElem? (i := 109) rfl))) (by decide) (backOf (W := 0) (rm_21 l Z a0 hw [] a326 qa [.ref a328, .ref v0, .ref v2, .ref v3] (2 : Int32) (3 : Int32) v1 v2 2 (4 : Int32) T340.heap n0 Zs340k QT340 gq hn_qa (own_Is.exa Is340k_v1) (by decide) (by decide) rfl rfl (by decide)) hZ337 (hw _ (List.mem_of_getElem? (i := 111) rfl)) (hw _ (List.mem_of_getElem? (i := 3) rfl)) (by decide) (by decide)) q342a q342c (g := (mkF m 154 #[.val (.int q0), .val (.int q1), .val (.int q2), .val (.int q3), .val (.int q4), .val (.int q5), .val (.ref a325), .val (.int (0 : Int32)), .val (.ref a326), .val (.ref a328), .val (.ref v0), .val (.int (1 : Int32)), .val (.ref v1), .unset, .unset, .unset, .unset] [(.ref v1), (.ref a326)])) rfl (by rw [hml]; rfl) (Steps.refl _) (argsL := [(.ref v1)]) (rest := []) (lenOf pd_21 rfl) rfl (by show 2 * 0 + _ ≤ _; exact Nat.le_of_eq rfl) (hb hby at_154) (fun _ _ => ⟨rfl, rfl, (by decide : 57 + 0 ≤ _), (by decide : 318 + 0 ≤ _)⟩)
              dsimp only [Pt.U, Pt.locs, Pt.cells, Pt.slots] at X341 l341 y341 z341 st341 hQ341
              subst l341 y341 z341
              obtain ⟨rfl, M341, K341, QQ341⟩ := hQ341
              have N341 := Fr.app N340 M341
              refine Goes.aft st341 ?_
              show Goes p e below (EndW s 88 1472 (Q_0 Z q0 q1 q2 q3 q4 q5 h0 n0)) T341 (mkF m 157 #[.val (.int q0), .val (.int q1), .val (.int q2), .val (.int q3), .val (.int q4), .val (.int q5), .val (.ref a325), .val (.int (0 : Int32)), .val (.ref a326), .val (.ref a328), .val (.ref v0), .val (.int (1 : Int32)), .val (.ref v1), .unset, .unset, .unset, .unset] [(.ref v2)])
              rw [show ((2 : Int32) + (1 : Int32)) % (4 : Int32) = (3 : Int32) from by decide, show (3 : Int32) - (1 : Int32) = (2 : Int32) from by decide] at QQ341
              have WT341 : own_W Z (_) [a326, qa] := own_W.qs QT340.1 (own_W.ra QT340.2.2.2.2.2 own_W.nil)
              have CS341k := CS340k.keep K341 WT341
              have OZ341k := OZ340k.keep K341 (allS gq (allS hn_qa all0))
              have Zs341k : n0 ≤ Array.size T341.heap := Nat.le_trans Zs340k K341.1
              have Is341k_v0 := Is340k_v0.keep hw K341 WT341 (ninS (Ne.symm (QT340.neQ (own_Is.exa Is340k_v0))) (ninS (Ne.symm (QT340.2.2.2.2.2.neE hw (own_Is.exa Is340k_v0))) nin0))
              have Is341k_v1 := Is340k_v1.keep hw K341 WT341 (ninS (Ne.symm (QT340.neQ (own_Is.exa Is340k_v1))) (ninS (Ne.symm (QT340.2.2.2.2.2.neE hw (own_Is.exa Is340k_v1))) nin0))
              have Is341k_v2 := Is340k_v2.keep hw K341 WT341 (ninS (Ne.symm (QT340.neQ (own_Is.exa Is340k_v2))) (ninS (Ne.symm (QT340.2.2.2.2.2.neE hw (own_Is.exa Is340k_v2))) nin0))
              have Is341k_v3 := Is340k_v3.keep hw K341 WT341 (ninS (Ne.symm (QT340.neQ (own_Is.exa Is340k_v3))) (ninS (Ne.symm (QT340.2.2.2.2.2.neE hw (own_Is.exa Is340k_v3))) nin0))
              have Is341k_a328 := Is340k_a328.keep hw K341 WT341 (ninS (Ne.symm (QT340.neQ (own_Is.exa Is340k_a328))) (ninS (Ne.symm (QT340.2.2.2.2.2.neE hw (own_Is.exa Is340k_a328))) nin0))
              have LVk341 := own_LV.keep hw LVk340 K341 WT341
              have hkk341 : _ ≤ Array.size T341.heap := Nat.le_trans hkk340 K341.1
              have QT341 : own_Q Z (T341.heap) a326 qa [.ref a328, .ref v0, .ref v1, .ref v3] (3 : Int32) (2 : Int32) := QQ341
              refine own_astore (pc' := 159) X341 hx (hb hby at_157) rfl (Ls' := #[.val (.int q0), .val (.int q1), .val (.int q2), .val (.int q3), .val (.int q4), .val (.int q5), .val (.ref a325), .val (.int (0 : Int32)), .val (.ref a326), .val (.ref a328), .val (.ref v0), .val (.int (1 : Int32)), .val (.ref v1), .val (.ref v2), .unset, .unset, .unset]) rfl rfl ?_
              refine own_iload (pc' := 161) X341 hx (hb hby at_159) rfl rfl ?_
              refine own_ifN (pc' := 164) X341 hx (hb hby at_161) (by decide) rfl ?_
              refine own_aload (pc' := 166) X341 hx (hb hby at_164) rfl rfl rfl ?_
              refine own_iloadN (pc' := 167) X341 hx (hb hby at_166) rfl rfl ?_
              refine own_aload (pc' := 169) X341 hx (hb hby at_167) rfl rfl rfl ?_
              obtain ⟨_, _, ⟨T343, L343, k343, n343⟩, -, X343, ⟨Lc343, hQ343, l343, y343, z343⟩, st343⟩ := Jvm.LawKit.callS X341 hx (y := (⟨"com/example/dipper/dipper/stream/ScannedEventsTakePinLaw", "is", "(Lcom/example/dipper/dipper/stream/ScannedEvent;I[C)Z"⟩ : MethodName)) hw337 (mvT hZ337 (hw _ (List.mem_of_getElem? (i := 112) rfl))) (mvT hZ337 (hw _ (List.mem_of_getElem? (i := 113) rfl))) (mvT hZ337 (hw _ (List.mem_of_getElem? (i := 33) rfl))) (mvT hZ337 (hw _ (List.mem_of_getElem? (i := 114) rfl))) (by decide) (backOf (W := 0) (rm_24 l Z a0 hw [] v2 q2 a325 T341.heap n0 Zs341k Is341k_v2 CS341k) hZ337 (hw _ (List.mem_of_getElem? (i := 114) rfl)) (hw _ (List.mem_of_getElem? (i := 33) rfl)) (by decide) (by decide)) (g := (mkF m 169 #[.val (.int q0), .val (.int q1), .val (.int q2), .val (.int q3), .val (.int q4), .val (.int q5), .val (.ref a325), .val (.int (0 : Int32)), .val (.ref a326), .val (.ref a328), .val (.ref v0), .val (.int (1 : Int32)), .val (.ref v1), .val (.ref v2), .unset, .unset, .unset] [(.ref a325), (.int q2), (.ref v2)])) rfl (by rw [hml]; rfl) (argsL := [(.ref v2), (.int q2), (.ref a325)]) (rest := []) (lenOf pd_24 rfl) rfl (by show 2 * 0 + _ ≤ _; exact Nat.le_of_eq rfl) (hb hby at_169) (fun _ _ => ⟨rfl, rfl, (by decide : 57 + 2 ≤ _), (by decide : 318 + 5 ≤ _)⟩)
              dsimp only [Pt.U, Pt.locs, Pt.cells, Pt.slots] at X343 l343 y343 z343 st343 hQ343
              subst l343 y343 z343
              obtain ⟨rfl, M343, K343⟩ := hQ343
              have N343 := Fr.app N341 M343
              refine Goes.pre st343 ?_
              show Goes p e below (EndW s 88 1472 (Q_0 Z q0 q1 q2 q3 q4 q5 h0 n0)) T343 (mkF m 172 #[.val (.int q0), .val (.int q1), .val (.int q2), .val (.int q3), .val (.int q4), .val (.int q5), .val (.ref a325), .val (.int (0 : Int32)), .val (.ref a326), .val (.ref a328), .val (.ref v0), .val (.int (1 : Int32)), .val (.ref v1), .val (.ref v2), .unset, .unset, .unset] [(.int (1 : Int32))])
              have CS343k := CS341k.keep K343 own_W.nil
              have OZ343k := OZ341k.keep K343 all0
              have Zs343k : n0 ≤ Array.size T343.heap := Nat.le_trans Zs341k K343.1
              have Is343k_v0 := Is341k_v0.keep hw K343 own_W.nil nin0
              have Is343k_v1 := Is341k_v1.keep hw K343 own_W.nil nin0
              have Is343k_v2 := Is341k_v2.keep hw K343 own_W.nil nin0
              have Is343k_v3 := Is341k_v3.keep hw K343 own_W.nil nin0
              have Is343k_a328 := Is341k_a328.keep hw K343 own_W.nil nin0
              have LVk343 := own_LV.keep hw LVk341 K343 own_W.nil
              have hkk343 : _ ≤ Array.size T343.heap := Nat.le_trans hkk341 K343.1
              have QT343 := QT341.keep K343 nin0 nin0
              refine own_ifN (pc' := 175) X343 hx (hb hby at_172) (by decide) rfl ?_
              refine own_iconst (pc' := 176) X343 hx (hb hby at_175) (v := (1 : Int32)) rfl rfl ?_
              refine own_goto X343 hx (hb hby at_176) (by decide) (pc' := 180) (by decide) ?_
              refine own_istore (pc' := 182) X343 hx (hb hby at_180) (Ls' := #[.val (.int q0), .val (.int q1), .val (.int q2), .val (.int q3), .val (.int q4), .val (.int q5), .val (.ref a325), .val (.int (0 : Int32)), .val (.ref a326), .val (.ref a328), .val (.ref v0), .val (.int (1 : Int32)), .val (.ref v1), .val (.ref v2), .unset, .unset, .unset]) rfl rfl ?_
              refine own_aload (pc' := 184) X343 hx (hb hby at_182) rfl rfl rfl ?_
              refine own_aload (pc' := 186) X343 hx (hb hby at_184) rfl rfl rfl ?_
              obtain ⟨cq345, kq345, q345a, q345b, q345c⟩ := isOf hZ337 rfl QT343.1
              obtain ⟨_, _, ⟨T344, L344, k344, n344⟩, -, X344, ⟨Lc344, hQ344, l344, y344, z344⟩, st344⟩ := X343.virtualBack hx (y := (⟨"com/example/dipper/dipper/stream/ScannedEvents", "take", "(Lcom/example/dipper/dipper/stream/ScannedEvent;)Lcom/example/dipper/dipper/stream/ScannedEvent;"⟩ : MethodName)) (z := (⟨"com/example/dipper/dipper/stream/ScannedEvents", "take", "(Lcom/example/dipper/dipper/stream/ScannedEvent;)Lcom/example/dipper/dipper/stream/ScannedEvent;"⟩ : MethodName)) hw337 (mvT hZ337 (hw _ (List.mem_of_getElem? (i := 107) rfl))) (mvT hZ337 (hw _ (List.mem_of_getElem? (i := 108) rfl))) (notFace_of_selects (args := #[]) (mvT hZ337 (hw _ (List.mem_of_getElem? (i := 110) rfl)))) (mvT hZ337 (hw _ (List.mem_of_getElem? (i := 110) rfl))) (mvT hZ337 (hw _ (List.mem_of_getElem? (i := 109) rfl))) (by decide) (backOf (W := 0) (rm_21 l Z a0 hw [] a326 qa [.ref a328, .ref v0, .ref v1, .ref v3] (3 : Int32) (2 : Int32) v2 v3 3 (4 : Int32) T343.heap n0 Zs343k QT343 gq hn_qa (own_Is.exa Is343k_v2) (by decide) (by decide) rfl rfl (by decide)) hZ337 (hw _ (List.mem_of_getElem? (i := 111) rfl)) (hw _ (List.mem_of_getElem? (i := 3) rfl)) (by decide) (by decide)) q345a q345c (g := (mkF m 186 #[.val (.int q0), .val (.int q1), .val (.int q2), .val (.int q3), .val (.int q4), .val (.int q5), .val (.ref a325), .val (.int (0 : Int32)), .val (.ref a326), .val (.ref a328), .val (.ref v0), .val (.int (1 : Int32)), .val (.ref v1), .val (.ref v2), .unset, .unset, .unset] [(.ref v2), (.ref a326)])) rfl (by rw [hml]; rfl) (Steps.refl _) (argsL := [(.ref v2)]) (rest := []) (lenOf pd_21 rfl) rfl (by show 2 * 0 + _ ≤ _; exact Nat.le_of_eq rfl) (hb hby at_186) (fun _ _ => ⟨rfl, rfl, (by decide : 59 + 0 ≤ _), (by decide : 323 + 0 ≤ _)⟩)
              dsimp only [Pt.U, Pt.locs, Pt.cells, Pt.slots] at X344 l344 y344 z344 st344 hQ344
              subst l344 y344 z344
              obtain ⟨rfl, M344, K344, QQ344⟩ := hQ344
              have N344 := Fr.app N343 M344
              refine Goes.aft st344 ?_
              show Goes p e below (EndW s 88 1472 (Q_0 Z q0 q1 q2 q3 q4 q5 h0 n0)) T344 (mkF m 189 #[.val (.int q0), .val (.int q1), .val (.int q2), .val (.int q3), .val (.int q4), .val (.int q5), .val (.ref a325), .val (.int (0 : Int32)), .val (.ref a326), .val (.ref a328), .val (.ref v0), .val (.int (1 : Int32)), .val (.ref v1), .val (.ref v2), .unset, .unset, .unset] [(.ref v3)])
              rw [show ((3 : Int32) + (1 : Int32)) % (4 : Int32) = (0 : Int32) from by decide, show (2 : Int32) - (1 : Int32) = (1 : Int32) from by decide] at QQ344
              have WT344 : own_W Z (_) [a326, qa] := own_W.qs QT343.1 (own_W.ra QT343.2.2.2.2.2 own_W.nil)
              have CS344k := CS343k.keep K344 WT344
              have OZ344k := OZ343k.keep K344 (allS gq (allS hn_qa all0))
              have Zs344k : n0 ≤ Array.size T344.heap := Nat.le_trans Zs343k K344.1
              have Is344k_v0 := Is343k_v0.keep hw K344 WT344 (ninS (Ne.symm (QT343.neQ (own_Is.exa Is343k_v0))) (ninS (Ne.symm (QT343.2.2.2.2.2.neE hw (own_Is.exa Is343k_v0))) nin0))
              have Is344k_v1 := Is343k_v1.keep hw K344 WT344 (ninS (Ne.symm (QT343.neQ (own_Is.exa Is343k_v1))) (ninS (Ne.symm (QT343.2.2.2.2.2.neE hw (own_Is.exa Is343k_v1))) nin0))
              have Is344k_v2 := Is343k_v2.keep hw K344 WT344 (ninS (Ne.symm (QT343.neQ (own_Is.exa Is343k_v2))) (ninS (Ne.symm (QT343.2.2.2.2.2.neE hw (own_Is.exa Is343k_v2))) nin0))
              have Is344k_v3 := Is343k_v3.keep hw K344 WT344 (ninS (Ne.symm (QT343.neQ (own_Is.exa Is343k_v3))) (ninS (Ne.symm (QT343.2.2.2.2.2.neE hw (own_Is.exa Is343k_v3))) nin0))
              have Is344k_a328 := Is343k_a328.keep hw K344 WT344 (ninS (Ne.symm (QT343.neQ (own_Is.exa Is343k_a328))) (ninS (Ne.symm (QT343.2.2.2.2.2.neE hw (own_Is.exa Is343k_a328))) nin0))
              have LVk344 := own_LV.keep hw LVk343 K344 WT344
              have hkk344 : _ ≤ Array.size T344.heap := Nat.le_trans hkk343 K344.1
              have QT344 : own_Q Z (T344.heap) a326 qa [.ref a328, .ref v0, .ref v1, .ref v2] (0 : Int32) (1 : Int32) := QQ344
              refine own_astore (pc' := 191) X344 hx (hb hby at_189) rfl (Ls' := #[.val (.int q0), .val (.int q1), .val (.int q2), .val (.int q3), .val (.int q4), .val (.int q5), .val (.ref a325), .val (.int (0 : Int32)), .val (.ref a326), .val (.ref a328), .val (.ref v0), .val (.int (1 : Int32)), .val (.ref v1), .val (.ref v2), .val (.ref v3), .unset, .unset]) rfl rfl ?_
              refine own_iload (pc' := 193) X344 hx (hb hby at_191) rfl rfl ?_
              refine own_ifN (pc' := 196) X344 hx (hb hby at_193) (by decide) rfl ?_
              refine own_aload (pc' := 198) X344 hx (hb hby at_196) rfl rfl rfl ?_
              refine own_iloadN (pc' := 199) X344 hx (hb hby at_198) rfl rfl ?_
              refine own_aload (pc' := 201) X344 hx (hb hby at_199) rfl rfl rfl ?_
              obtain ⟨_, _, ⟨T346, L346, k346, n346⟩, -, X346, ⟨Lc346, hQ346, l346, y346, z346⟩, st346⟩ := Jvm.LawKit.callS X344 hx (y := (⟨"com/example/dipper/dipper/stream/ScannedEventsTakePinLaw", "is", "(Lcom/example/dipper/dipper/stream/ScannedEvent;I[C)Z"⟩ : MethodName)) hw337 (mvT hZ337 (hw _ (List.mem_of_getElem? (i := 112) rfl))) (mvT hZ337 (hw _ (List.mem_of_getElem? (i := 113) rfl))) (mvT hZ337 (hw _ (List.mem_of_getElem? (i := 33) rfl))) (mvT hZ337 (hw _ (List.mem_of_getElem? (i := 114) rfl))) (by decide) (backOf (W := 0) (rm_24 l Z a0 hw [] v3 q3 a325 T344.heap n0 Zs344k Is344k_v3 CS344k) hZ337 (hw _ (List.mem_of_getElem? (i := 114) rfl)) (hw _ (List.mem_of_getElem? (i := 33) rfl)) (by decide) (by decide)) (g := (mkF m 201 #[.val (.int q0), .val (.int q1), .val (.int q2), .val (.int q3), .val (.int q4), .val (.int q5), .val (.ref a325), .val (.int (0 : Int32)), .val (.ref a326), .val (.ref a328), .val (.ref v0), .val (.int (1 : Int32)), .val (.ref v1), .val (.ref v2), .val (.ref v3), .unset, .unset] [(.ref a325), (.int q3), (.ref v3)])) rfl (by rw [hml]; rfl) (argsL := [(.ref v3), (.int q3), (.ref a325)]) (rest := []) (lenOf pd_24 rfl) rfl (by show 2 * 0 + _ ≤ _; exact Nat.le_of_eq rfl) (hb hby at_201) (fun _ _ => ⟨rfl, rfl, (by decide : 59 + 2 ≤ _), (by decide : 323 + 5 ≤ _)⟩)
              dsimp only [Pt.U, Pt.locs, Pt.cells, Pt.slots] at X346 l346 y346 z346 st346 hQ346
              subst l346 y346 z346
              obtain ⟨rfl, M346, K346⟩ := hQ346
              have N346 := Fr.app N344 M346
              refine Goes.pre st346 ?_
              show Goes p e below (EndW s 88 1472 (Q_0 Z q0 q1 q2 q3 q4 q5 h0 n0)) T346 (mkF m 204 #[.val (.int q0), .val (.int q1), .val (.int q2), .val (.int q3), .val (.int q4), .val (.int q5), .val (.ref a325), .val (.int (0 : Int32)), .val (.ref a326), .val (.ref a328), .val (.ref v0), .val (.int (1 : Int32)), .val (.ref v1), .val (.ref v2), .val (.ref v3), .unset, .unset] [(.int (1 : Int32))])
              have CS346k := CS344k.keep K346 own_W.nil
              have OZ346k := OZ344k.keep K346 all0
              have Zs346k : n0 ≤ Array.size T346.heap := Nat.le_trans Zs344k K346.1
              have Is346k_v0 := Is344k_v0.keep hw K346 own_W.nil nin0
              have Is346k_v1 := Is344k_v1.keep hw K346 own_W.nil nin0
              have Is346k_v2 := Is344k_v2.keep hw K346 own_W.nil nin0
              have Is346k_v3 := Is344k_v3.keep hw K346 own_W.nil nin0
              have Is346k_a328 := Is344k_a328.keep hw K346 own_W.nil nin0
              have LVk346 := own_LV.keep hw LVk344 K346 own_W.nil
              have hkk346 : _ ≤ Array.size T346.heap := Nat.le_trans hkk344 K346.1
              have QT346 := QT344.keep K346 nin0 nin0
              refine own_ifN (pc' := 207) X346 hx (hb hby at_204) (by decide) rfl ?_
              refine own_iconst (pc' := 208) X346 hx (hb hby at_207) (v := (1 : Int32)) rfl rfl ?_
              refine own_goto X346 hx (hb hby at_208) (by decide) (pc' := 212) (by decide) ?_
              refine own_istore (pc' := 214) X346 hx (hb hby at_212) (Ls' := #[.val (.int q0), .val (.int q1), .val (.int q2), .val (.int q3), .val (.int q4), .val (.int q5), .val (.ref a325), .val (.int (0 : Int32)), .val (.ref a326), .val (.ref a328), .val (.ref v0), .val (.int (1 : Int32)), .val (.ref v1), .val (.ref v2), .val (.ref v3), .unset, .unset]) rfl rfl ?_
              refine own_aload (pc' := 216) X346 hx (hb hby at_214) rfl rfl rfl ?_
              refine own_aload (pc' := 218) X346 hx (hb hby at_216) rfl rfl rfl ?_
              obtain ⟨cq348, kq348, q348a, q348b, q348c⟩ := isOf hZ337 rfl QT346.1
              obtain ⟨_, _, ⟨T347, L347, k347, n347⟩, -, X347, ⟨Lc347, hQ347, l347, y347, z347⟩, st347⟩ := X346.virtualBack hx (y := (⟨"com/example/dipper/dipper/stream/ScannedEvents", "take", "(Lcom/example/dipper/dipper/stream/ScannedEvent;)Lcom/example/dipper/dipper/stream/ScannedEvent;"⟩ : MethodName)) (z := (⟨"com/example/dipper/dipper/stream/ScannedEvents", "take", "(Lcom/example/dipper/dipper/stream/ScannedEvent;)Lcom/example/dipper/dipper/stream/ScannedEvent;"⟩ : MethodName)) hw337 (mvT hZ337 (hw _ (List.mem_of_getElem? (i := 107) rfl))) (mvT hZ337 (hw _ (List.mem_of_getElem? (i := 108) rfl))) (notFace_of_selects (args := #[]) (mvT hZ337 (hw _ (List.mem_of_getElem? (i := 110) rfl)))) (mvT hZ337 (hw _ (List.mem_of_getElem? (i := 110) rfl))) (mvT hZ337 (hw _ (List.mem_of_getElem? (i := 109) rfl))) (by decide) (backOf (W := 0) (rm_21 l Z a0 hw [] a326 qa [.ref a328, .ref v0, .ref v1, .ref v2] (0 : Int32) (1 : Int32) v3 a328 0 (4 : Int32) T346.heap n0 Zs346k QT346 gq hn_qa (own_Is.exa Is346k_v3) (by decide) (by decide) rfl rfl (by decide)) hZ337 (hw _ (List.mem_of_getElem? (i := 111) rfl)) (hw _ (List.mem_of_getElem? (i := 3) rfl)) (by decide) (by decide)) q348a q348c (g := (mkF m 218 #[.val (.int q0), .val (.int q1), .val (.int q2), .val (.int q3), .val (.int q4), .val (.int q5), .val (.ref a325), .val (.int (0 : Int32)), .val (.ref a326), .val (.ref a328), .val (.ref v0), .val (.int (1 : Int32)), .val (.ref v1), .val (.ref v2), .val (.ref v3), .unset, .unset] [(.ref v3), (.ref a326)])) rfl (by rw [hml]; rfl) (Steps.refl _) (argsL := [(.ref v3)]) (rest := []) (lenOf pd_21 rfl) rfl (by show 2 * 0 + _ ≤ _; exact Nat.le_of_eq rfl) (hb hby at_218) (fun _ _ => ⟨rfl, rfl, (by decide : 61 + 0 ≤ _), (by decide : 328 + 0 ≤ _)⟩)
              dsimp only [Pt.U, Pt.locs, Pt.cells, Pt.slots] at X347 l347 y347 z347 st347 hQ347
              subst l347 y347 z347
              obtain ⟨rfl, M347, K347, QQ347⟩ := hQ347
              have N347 := Fr.app N346 M347
              refine Goes.aft st347 ?_
              show Goes p e below (EndW s 88 1472 (Q_0 Z q0 q1 q2 q3 q4 q5 h0 n0)) T347 (mkF m 221 #[.val (.int q0), .val (.int q1), .val (.int q2), .val (.int q3), .val (.int q4), .val (.int q5), .val (.ref a325), .val (.int (0 : Int32)), .val (.ref a326), .val (.ref a328), .val (.ref v0), .val (.int (1 : Int32)), .val (.ref v1), .val (.ref v2), .val (.ref v3), .unset, .unset] [(.ref a328)])
              rw [show ((0 : Int32) + (1 : Int32)) % (4 : Int32) = (1 : Int32) from by decide, show (1 : Int32) - (1 : Int32) = (0 : Int32) from by decide] at QQ347
              have WT347 : own_W Z (_) [a326, qa] := own_W.qs QT346.1 (own_W.ra QT346.2.2.2.2.2 own_W.nil)
              have CS347k := CS346k.keep K347 WT347
              have OZ347k := OZ346k.keep K347 (allS gq (allS hn_qa all0))
              have Zs347k : n0 ≤ Array.size T347.heap := Nat.le_trans Zs346k K347.1
              have Is347k_v0 := Is346k_v0.keep hw K347 WT347 (ninS (Ne.symm (QT346.neQ (own_Is.exa Is346k_v0))) (ninS (Ne.symm (QT346.2.2.2.2.2.neE hw (own_Is.exa Is346k_v0))) nin0))
              have Is347k_v1 := Is346k_v1.keep hw K347 WT347 (ninS (Ne.symm (QT346.neQ (own_Is.exa Is346k_v1))) (ninS (Ne.symm (QT346.2.2.2.2.2.neE hw (own_Is.exa Is346k_v1))) nin0))
              have Is347k_v2 := Is346k_v2.keep hw K347 WT347 (ninS (Ne.symm (QT346.neQ (own_Is.exa Is346k_v2))) (ninS (Ne.symm (QT346.2.2.2.2.2.neE hw (own_Is.exa Is346k_v2))) nin0))
              have Is347k_v3 := Is346k_v3.keep hw K347 WT347 (ninS (Ne.symm (QT346.neQ (own_Is.exa Is346k_v3))) (ninS (Ne.symm (QT346.2.2.2.2.2.neE hw (own_Is.exa Is346k_v3))) nin0))
              have Is347k_a328 := Is346k_a328.keep hw K347 WT347 (ninS (Ne.symm (QT346.neQ (own_Is.exa Is346k_a328))) (ninS (Ne.symm (QT346.2.2.2.2.2.neE hw (own_Is.exa Is346k_a328))) nin0))
              have LVk347 := own_LV.keep hw LVk346 K347 WT347
              have hkk347 : _ ≤ Array.size T347.heap := Nat.le_trans hkk346 K347.1
              have QT347 : own_Q Z (T347.heap) a326 qa [.ref v3, .ref v0, .ref v1, .ref v2] (1 : Int32) (0 : Int32) := QQ347
              refine own_astore (pc' := 223) X347 hx (hb hby at_221) rfl (Ls' := #[.val (.int q0), .val (.int q1), .val (.int q2), .val (.int q3), .val (.int q4), .val (.int q5), .val (.ref a325), .val (.int (0 : Int32)), .val (.ref a326), .val (.ref a328), .val (.ref v0), .val (.int (1 : Int32)), .val (.ref v1), .val (.ref v2), .val (.ref v3), .val (.ref a328), .unset]) rfl rfl ?_
              refine own_iload (pc' := 225) X347 hx (hb hby at_223) rfl rfl ?_
              refine own_ifN (pc' := 228) X347 hx (hb hby at_225) (by decide) rfl ?_
              refine own_aload (pc' := 230) X347 hx (hb hby at_228) rfl rfl rfl ?_
              refine own_iload (pc' := 232) X347 hx (hb hby at_230) rfl rfl ?_
              refine own_aload (pc' := 234) X347 hx (hb hby at_232) rfl rfl rfl ?_
              obtain ⟨_, _, ⟨T349, L349, k349, n349⟩, -, X349, ⟨Lc349, hQ349, l349, y349, z349⟩, st349⟩ := Jvm.LawKit.callS X347 hx (y := (⟨"com/example/dipper/dipper/stream/ScannedEventsTakePinLaw", "is", "(Lcom/example/dipper/dipper/stream/ScannedEvent;I[C)Z"⟩ : MethodName)) hw337 (mvT hZ337 (hw _ (List.mem_of_getElem? (i := 112) rfl))) (mvT hZ337 (hw _ (List.mem_of_getElem? (i := 113) rfl))) (mvT hZ337 (hw _ (List.mem_of_getElem? (i := 33) rfl))) (mvT hZ337 (hw _ (List.mem_of_getElem? (i := 114) rfl))) (by decide) (backOf (W := 0) (rm_24 l Z a0 hw [] a328 q4 a325 T347.heap n0 Zs347k Is347k_a328 CS347k) hZ337 (hw _ (List.mem_of_getElem? (i := 114) rfl)) (hw _ (List.mem_of_getElem? (i := 33) rfl)) (by decide) (by decide)) (g := (mkF m 234 #[.val (.int q0), .val (.int q1), .val (.int q2), .val (.int q3), .val (.int q4), .val (.int q5), .val (.ref a325), .val (.int (0 : Int32)), .val (.ref a326), .val (.ref a328), .val (.ref v0), .val (.int (1 : Int32)), .val (.ref v1), .val (.ref v2), .val (.ref v3), .val (.ref a328), .unset] [(.ref a325), (.int q4), (.ref a328)])) rfl (by rw [hml]; rfl) (argsL := [(.ref a328), (.int q4), (.ref a325)]) (rest := []) (lenOf pd_24 rfl) rfl (by show 2 * 0 + _ ≤ _; exact Nat.le_of_eq rfl) (hb hby at_234) (fun _ _ => ⟨rfl, rfl, (by decide : 61 + 2 ≤ _), (by decide : 328 + 5 ≤ _)⟩)
              dsimp only [Pt.U, Pt.locs, Pt.cells, Pt.slots] at X349 l349 y349 z349 st349 hQ349
              subst l349 y349 z349
              obtain ⟨rfl, M349, K349⟩ := hQ349
              have N349 := Fr.app N347 M349
              refine Goes.pre st349 ?_
              show Goes p e below (EndW s 88 1472 (Q_0 Z q0 q1 q2 q3 q4 q5 h0 n0)) T349 (mkF m 237 #[.val (.int q0), .val (.int q1), .val (.int q2), .val (.int q3), .val (.int q4), .val (.int q5), .val (.ref a325), .val (.int (0 : Int32)), .val (.ref a326), .val (.ref a328), .val (.ref v0), .val (.int (1 : Int32)), .val (.ref v1), .val (.ref v2), .val (.ref v3), .val (.ref a328), .unset] [(.int (1 : Int32))])
              have CS349k := CS347k.keep K349 own_W.nil
              have OZ349k := OZ347k.keep K349 all0
              have Zs349k : n0 ≤ Array.size T349.heap := Nat.le_trans Zs347k K349.1
              have Is349k_v0 := Is347k_v0.keep hw K349 own_W.nil nin0
              have Is349k_v1 := Is347k_v1.keep hw K349 own_W.nil nin0
              have Is349k_v2 := Is347k_v2.keep hw K349 own_W.nil nin0
              have Is349k_v3 := Is347k_v3.keep hw K349 own_W.nil nin0
              have Is349k_a328 := Is347k_a328.keep hw K349 own_W.nil nin0
              have LVk349 := own_LV.keep hw LVk347 K349 own_W.nil
              have hkk349 : _ ≤ Array.size T349.heap := Nat.le_trans hkk347 K349.1
              have QT349 := QT347.keep K349 nin0 nin0
              refine own_ifN (pc' := 240) X349 hx (hb hby at_237) (by decide) rfl ?_
              refine own_aload (pc' := 242) X349 hx (hb hby at_240) rfl rfl rfl ?_
              refine own_aload (pc' := 244) X349 hx (hb hby at_242) rfl rfl rfl ?_
              refine own_acmpN (pc' := 247) X349 hx (hb hby at_244) (by simp [if_acmp.holds]) rfl ?_
              refine own_iconst (pc' := 248) X349 hx (hb hby at_247) (v := (1 : Int32)) rfl rfl ?_
              refine own_goto X349 hx (hb hby at_248) (by decide) (pc' := 252) (by decide) ?_
              refine own_istore (pc' := 254) X349 hx (hb hby at_252) (Ls' := #[.val (.int q0), .val (.int q1), .val (.int q2), .val (.int q3), .val (.int q4), .val (.int q5), .val (.ref a325), .val (.int (0 : Int32)), .val (.ref a326), .val (.ref a328), .val (.ref v0), .val (.int (1 : Int32)), .val (.ref v1), .val (.ref v2), .val (.ref v3), .val (.ref a328), .unset]) rfl rfl ?_
              refine own_iload (pc' := 256) X349 hx (hb hby at_254) rfl rfl ?_
              refine own_ifY X349 hx (hb hby at_256) (by decide) (by decide) (pc' := 292) (by decide) ?_
              refine own_iload (pc' := 294) X349 hx (hb hby at_292) rfl rfl ?_
              refine own_ifN (pc' := 297) X349 hx (hb hby at_294) (by decide) rfl ?_
              refine own_aload (pc' := 299) X349 hx (hb hby at_297) rfl rfl rfl ?_
              obtain ⟨cq351, kq351, q351a, q351b, q351c⟩ := isOf hZ337 rfl QT349.1
              obtain ⟨_, _, ⟨T350, L350, k350, n350⟩, -, X350, ⟨Lc350, hQ350, l350, y350, z350⟩, st350⟩ := X349.virtualBack hx (y := (⟨"com/example/dipper/dipper/stream/ScannedEvents", "isEmpty", "()Z"⟩ : MethodName)) (z := (⟨"com/example/dipper/dipper/stream/ScannedEvents", "isEmpty", "()Z"⟩ : MethodName)) hw337 (mvT hZ337 (hw _ (List.mem_of_getElem? (i := 139) rfl))) (mvT hZ337 (hw _ (List.mem_of_getElem? (i := 140) rfl))) (notFace_of_selects (args := #[]) (mvT hZ337 (hw _ (List.mem_of_getElem? (i := 142) rfl)))) (mvT hZ337 (hw _ (List.mem_of_getElem? (i := 142) rfl))) (mvT hZ337 (hw _ (List.mem_of_getElem? (i := 141) rfl))) (by decide) (backOf (W := 0) (rm_22 l Z a0 hw [] a326 T349.heap n0 Zs349k QT349.2.2.2.1) hZ337 (hw _ (List.mem_of_getElem? (i := 143) rfl)) (hw _ (List.mem_of_getElem? (i := 3) rfl)) (by decide) (by decide)) q351a q351c (g := (mkF m 299 #[.val (.int q0), .val (.int q1), .val (.int q2), .val (.int q3), .val (.int q4), .val (.int q5), .val (.ref a325), .val (.int (0 : Int32)), .val (.ref a326), .val (.ref a328), .val (.ref v0), .val (.int (1 : Int32)), .val (.ref v1), .val (.ref v2), .val (.ref v3), .val (.ref a328), .unset] [(.ref a326)])) rfl (by rw [hml]; rfl) (Steps.refl _) (argsL := []) (rest := []) (lenOf pd_22 rfl) rfl (by show 2 * 0 + _ ≤ _; exact Nat.le_of_eq rfl) (hb hby at_299) (fun _ _ => ⟨rfl, rfl, (by decide : 63 + 0 ≤ _), (by decide : 333 + 0 ≤ _)⟩)
              dsimp only [Pt.U, Pt.locs, Pt.cells, Pt.slots] at X350 l350 y350 z350 st350 hQ350
              subst l350 y350 z350
              obtain ⟨rfl, M350, eq350⟩ := hQ350
              have N350 := Fr.app N349 M350
              refine Goes.aft st350 ?_
              show Goes p e below (EndW s 88 1472 (Q_0 Z q0 q1 q2 q3 q4 q5 h0 n0)) T350 (mkF m 302 #[.val (.int q0), .val (.int q1), .val (.int q2), .val (.int q3), .val (.int q4), .val (.int q5), .val (.ref a325), .val (.int (0 : Int32)), .val (.ref a326), .val (.ref a328), .val (.ref v0), .val (.int (1 : Int32)), .val (.ref v1), .val (.ref v2), .val (.ref v3), .val (.ref a328), .unset] [(.int (1 : Int32))])
              refine own_ifN (pc' := 305) X350 hx (hb hby at_302) (by decide) rfl ?_
              refine own_iconst (pc' := 306) X350 hx (hb hby at_305) (v := (1 : Int32)) rfl rfl ?_
              refine own_goto X350 hx (hb hby at_306) (by decide) (pc' := 310) (by decide) ?_
              exact own_retNW X350 hx hT337 (Nat.le_trans hkk349 (Nat.le_of_eq (congrArg Array.size (Eq.symm eq350)))) hlk (t := .boolean) Bd.returns (by simp) (hb hby at_310) (by decide) (by decide) ⟨rfl, N350⟩
            · exact absurd hx4 (by decide)
          · exact absurd hx4 (by decide)
        · exact absurd hx4 (by decide)
      · exact absurd hx4 (by decide)
    · exact absurd hx4 (by decide)
  · refine own_ifN (pc' := 15) X325 hx (hb hby at_12) ((if0 _ _).trans (feq hc12).1) rfl ?_
    refine own_iconst (pc' := 16) X325 hx (hb hby at_15) (v := (1 : Int32)) rfl rfl ?_
    refine own_goto X325 hx (hb hby at_16) (by decide) (pc' := 20) (by decide) ?_
    refine own_istore (pc' := 22) X325 hx (hb hby at_20) (Ls' := #[.val (.int q0), .val (.int q1), .val (.int q2), .val (.int q3), .val (.int q4), .val (.int q5), .val (.ref a325), .val (.int (1 : Int32)), .unset, .unset, .unset, .unset, .unset, .unset, .unset, .unset, .unset]) rfl rfl ?_
    obtain ⟨T352, h352, X352, e352, E352, A352, D352, -, st352⟩ := newO X325 hx hZ hown (hw _ (List.mem_of_getElem? (i := 1) rfl)) (hw _ (List.mem_of_getElem? (i := 2) rfl)) (hw _ (List.mem_of_getElem? (i := 3) rfl)) e325 (g := (mkF m 22 #[.val (.int q0), .val (.int q1), .val (.int q2), .val (.int q3), .val (.int q4), .val (.int q5), .val (.ref a325), .val (.int (1 : Int32)), .unset, .unset, .unset, .unset, .unset, .unset, .unset, .unset, .unset] [])) rfl (hb hby at_22) (by decide) (by decide)
    obtain ⟨a352, g352⟩ : ∃ z, z = Array.size (h325) := ⟨_, rfl⟩
    rw [← g352] at A352 D352 st352
    refine Goes.pre st352 ?_
    show Goes p e below (EndW s 88 1472 (Q_0 Z q0 q1 q2 q3 q4 q5 h0 n0)) T352 (mkF m 25 #[.val (.int q0), .val (.int q1), .val (.int q2), .val (.int q3), .val (.int q4), .val (.int q5), .val (.ref a325), .val (.int (1 : Int32)), .unset, .unset, .unset, .unset, .unset, .unset, .unset, .unset, .unset] [(.ref a352)])
    have gq : n0 ≤ a352 := Nat.le_trans Zs325 (Nat.le_of_eq g352.symm)
    have CS352 := CS325.ext E352
    have OZ352 := OZ325.ext E352
    have Zs352 : n0 ≤ Array.size h352 := Nat.le_trans Zs325 E352.1
    have LV352 := LV325.ext E352
    have hk352 : _ ≤ Array.size h352 := Nat.le_trans hk325 E352.1
    refine own_dup (pc' := 26) X352 hx (hb hby at_25) rfl rfl ?_
    refine own_iconst (pc' := 27) X352 hx (hb hby at_26) (v := (1 : Int32)) rfl rfl ?_
    refine own_aconstNull (pc' := 28) X352 hx (hb hby at_27) rfl ?_
    refine own_aconstNull (pc' := 29) X352 hx (hb hby at_28) rfl ?_
    refine own_aconstNull (pc' := 30) X352 hx (hb hby at_29) rfl ?_
    obtain ⟨_, _, ⟨T353, L353, k353, n353⟩, -, X353, ⟨Lc353, hQ353, l353, y353, z353⟩, st353⟩ := X352.specialBack hx (y := (⟨"com/example/dipper/dipper/stream/ScannedEvents", "<init>", "(ZLcom/example/dipper/dipper/stream/SaxAttributes;Lcom/example/dipper/dipper/stream/OpenDeclarations;Ljava/util/Map;)V"⟩ : MethodName)) rfl hown (mvT hZ (hw _ (List.mem_of_getElem? (i := 4) rfl))) (mvT hZ (hw _ (List.mem_of_getElem? (i := 5) rfl))) (mvT hZ (hw _ (List.mem_of_getElem? (i := 6) rfl))) (by decide) (backOf (W := 1) (rm_23 l Z a0 hw [] a352 h352 n0 Zs352 A352 D352 gq) hZ (hw _ (List.mem_of_getElem? (i := 6) rfl)) (hw _ (List.mem_of_getElem? (i := 3) rfl)) (by decide) (by decide)) (g := (mkF m 30 #[.val (.int q0), .val (.int q1), .val (.int q2), .val (.int q3), .val (.int q4), .val (.int q5), .val (.ref a325), .val (.int (1 : Int32)), .unset, .unset, .unset, .unset, .unset, .unset, .unset, .unset, .unset] [(.null), (.null), (.null), (.int (1 : Int32)), (.ref a352), (.ref a352)])) rfl (by rw [hml]; rfl) (Steps.refl _) (a := a352) (argsL := [(.int (1 : Int32)), (.null), (.null), (.null)]) (rest := [(.ref a352)]) (lenOf pd_23 rfl) rfl (by show 2 * 0 + _ ≤ _; exact Nat.le_of_eq rfl) (hb hby at_30) (fun _ _ => ⟨rfl, e352, (by decide : 2 + 5 ≤ _), (by decide : 19 + 36 ≤ _)⟩)
    dsimp only [Pt.U, Pt.locs, Pt.cells, Pt.slots] at X353 l353 y353 z353 st353 hQ353
    subst l353 y353 z353
    obtain ⟨rfl, M353, K353, qa, v0, v1, v2, v3, QQ353, V0_353, V1_353, V2_353, V3_353, ne01, ne02, ne03, ne12, ne13, ne23, gqa, gv0, gv1, gv2, gv3⟩ := hQ353
    have N353 := Fr.app N0 M353
    refine Goes.aft st353 ?_
    show Goes p e below (EndW s 88 1472 (Q_0 Z q0 q1 q2 q3 q4 q5 h0 n0)) T353 (mkF m 33 #[.val (.int q0), .val (.int q1), .val (.int q2), .val (.int q3), .val (.int q4), .val (.int q5), .val (.ref a325), .val (.int (1 : Int32)), .unset, .unset, .unset, .unset, .unset, .unset, .unset, .unset, .unset] [(.ref a352)])
    have CS353 := CS352.keep K353 (own_W.qs A352 own_W.nil)
    have OZ353 := OZ352.keep K353 (allS gq all0)
    have Zs353 : n0 ≤ Array.size T353.heap := Nat.le_trans Zs352 K353.1
    have LV353 := own_LV.keep hw LV352 K353 (own_W.qs A352 own_W.nil)
    have hk353 : _ ≤ Array.size T353.heap := Nat.le_trans hk352 K353.1
    have hn_qa : n0 ≤ qa := Nat.le_trans Zs352 gqa
    have hn_v0 : n0 ≤ v0 := Nat.le_trans Zs352 gv0
    have hn_v1 : n0 ≤ v1 := Nat.le_trans Zs352 gv1
    have hn_v2 : n0 ≤ v2 := Nat.le_trans Zs352 gv2
    have hn_v3 : n0 ≤ v3 := Nat.le_trans Zs352 gv3
    refine own_astore (pc' := 35) X353 hx (hb hby at_33) rfl (Ls' := #[.val (.int q0), .val (.int q1), .val (.int q2), .val (.int q3), .val (.int q4), .val (.int q5), .val (.ref a325), .val (.int (1 : Int32)), .val (.ref a352), .unset, .unset, .unset, .unset, .unset, .unset, .unset, .unset]) rfl rfl ?_
    obtain ⟨T354, h354, X354, e354, E354, A354, D354, -, st354⟩ := newO X353 hx hZ hown (hw _ (List.mem_of_getElem? (i := 29) rfl)) (hw _ (List.mem_of_getElem? (i := 22) rfl)) (hw _ (List.mem_of_getElem? (i := 23) rfl)) rfl (g := (mkF m 35 #[.val (.int q0), .val (.int q1), .val (.int q2), .val (.int q3), .val (.int q4), .val (.int q5), .val (.ref a325), .val (.int (1 : Int32)), .val (.ref a352), .unset, .unset, .unset, .unset, .unset, .unset, .unset, .unset] [])) rfl (hb hby at_35) (by decide) (by decide)
    obtain ⟨a354, g354⟩ : ∃ z, z = Array.size (T353.heap) := ⟨_, rfl⟩
    rw [← g354] at A354 D354 st354
    refine Goes.pre st354 ?_
    show Goes p e below (EndW s 88 1472 (Q_0 Z q0 q1 q2 q3 q4 q5 h0 n0)) T354 (mkF m 38 #[.val (.int q0), .val (.int q1), .val (.int q2), .val (.int q3), .val (.int q4), .val (.int q5), .val (.ref a325), .val (.int (1 : Int32)), .val (.ref a352), .unset, .unset, .unset, .unset, .unset, .unset, .unset, .unset] [(.ref a354)])
    have F354_type : Fld Z h354 a354 "com/example/dipper/dipper/stream/ScannedEvent" "type" "I" (.int (0 : Int32)) := D354 (Or.inl (hw _ (List.mem_of_getElem? (i := 80) rfl))) (ty := .int) (by decide)
    have F354_characters : Fld Z h354 a354 "com/example/dipper/dipper/stream/ScannedEvent" "characters" "[C" .null := D354 (Or.inl (hw _ (List.mem_of_getElem? (i := 82) rfl))) (ty := (.array .char)) (by decide)
    have F354_start : Fld Z h354 a354 "com/example/dipper/dipper/stream/ScannedEvent" "start" "I" (.int (0 : Int32)) := D354 (Or.inl (hw _ (List.mem_of_getElem? (i := 84) rfl))) (ty := .int) (by decide)
    have F354_length : Fld Z h354 a354 "com/example/dipper/dipper/stream/ScannedEvent" "length" "I" (.int (0 : Int32)) := D354 (Or.inl (hw _ (List.mem_of_getElem? (i := 86) rfl))) (ty := .int) (by decide)
    have F354_text : Fld Z h354 a354 "com/example/dipper/dipper/stream/ScannedEvent" "text" "Ljava/lang/String;" .null := D354 (Or.inl (hw _ (List.mem_of_getElem? (i := 88) rfl))) (ty := (.object "java/lang/String")) (by decide)
    have F354_namespace : Fld Z h354 a354 "com/example/dipper/dipper/stream/ScannedEvent" "namespace" "Ljava/lang/String;" .null := D354 (Or.inl (hw _ (List.mem_of_getElem? (i := 90) rfl))) (ty := (.object "java/lang/String")) (by decide)
    have F354_localName : Fld Z h354 a354 "com/example/dipper/dipper/stream/ScannedEvent" "localName" "Ljava/lang/String;" .null := D354 (Or.inl (hw _ (List.mem_of_getElem? (i := 92) rfl))) (ty := (.object "java/lang/String")) (by decide)
    have F354_qualifiedName : Fld Z h354 a354 "com/example/dipper/dipper/stream/ScannedEvent" "qualifiedName" "Ljava/lang/String;" .null := D354 (Or.inl (hw _ (List.mem_of_getElem? (i := 94) rfl))) (ty := (.object "java/lang/String")) (by decide)
    have hn_a354 : n0 ≤ a354 := Nat.le_trans Zs353 (Nat.le_of_eq g354.symm)
    have neu0 : v0 ≠ a354 := fun q => absurd (q ▸ V0_353.1.lt) (by rw [g354]; exact Nat.lt_irrefl _)
    have neu1 : v1 ≠ a354 := fun q => absurd (q ▸ V1_353.1.lt) (by rw [g354]; exact Nat.lt_irrefl _)
    have neu2 : v2 ≠ a354 := fun q => absurd (q ▸ V2_353.1.lt) (by rw [g354]; exact Nat.lt_irrefl _)
    have neu3 : v3 ≠ a354 := fun q => absurd (q ▸ V3_353.1.lt) (by rw [g354]; exact Nat.lt_irrefl _)
    have CS354 := CS353.ext E354
    have OZ354 := OZ353.ext E354
    have Zs354 : n0 ≤ Array.size h354 := Nat.le_trans Zs353 E354.1
    have LV354 := LV353.ext E354
    have hk354 : _ ≤ Array.size h354 := Nat.le_trans hk353 E354.1
    have Ev354_v0 := V0_353.ext E354
    have Ev354_v1 := V1_353.ext E354
    have Ev354_v2 := V2_353.ext E354
    have Ev354_v3 := V3_353.ext E354
    have Qx354 := QQ353.ext E354
    have Vu : own_Ev Z h354 a354 (0 : Int32) .null (0 : Int32) (0 : Int32) .null .null .null .null := ⟨A354, F354_type, F354_characters, F354_start, F354_length, F354_text, F354_namespace, F354_localName, F354_qualifiedName⟩
    refine own_dup (pc' := 39) X354 hx (hb hby at_38) rfl rfl ?_
    obtain ⟨_, _, ⟨T355, L355, k355, n355⟩, -, X355, ⟨Lc355, hQ355, l355, y355, z355⟩, st355⟩ := X354.specialBack hx (y := (⟨"com/example/dipper/dipper/stream/ScannedEvent", "<init>", "()V"⟩ : MethodName)) rfl hown (mvT hZ (hw _ (List.mem_of_getElem? (i := 30) rfl))) (mvT hZ (hw _ (List.mem_of_getElem? (i := 25) rfl))) (mvT hZ (hw _ (List.mem_of_getElem? (i := 26) rfl))) (by decide) (backOf (W := 1) (rm_1 l Z a0 hw [] a354 h354 n0 Zs354) hZ (hw _ (List.mem_of_getElem? (i := 26) rfl)) (hw _ (List.mem_of_getElem? (i := 23) rfl)) (by decide) (by decide)) (g := (mkF m 39 #[.val (.int q0), .val (.int q1), .val (.int q2), .val (.int q3), .val (.int q4), .val (.int q5), .val (.ref a325), .val (.int (1 : Int32)), .val (.ref a352), .unset, .unset, .unset, .unset, .unset, .unset, .unset, .unset] [(.ref a354), (.ref a354)])) rfl (by rw [hml]; rfl) (Steps.refl _) (a := a354) (argsL := []) (rest := [(.ref a354)]) (lenOf pd_1 rfl) rfl (by show 2 * 0 + _ ≤ _; exact Nat.le_of_eq rfl) (hb hby at_39) (fun _ _ => ⟨rfl, e354, (by decide : 8 + 0 ≤ _), (by decide : 63 + 0 ≤ _)⟩)
    dsimp only [Pt.U, Pt.locs, Pt.cells, Pt.slots] at X355 l355 y355 z355 st355 hQ355
    subst l355 y355 z355
    obtain ⟨rfl, M355, ei355⟩ := hQ355
    have N355 := Fr.app N353 M355
    refine Goes.aft st355 ?_
    show Goes p e below (EndW s 88 1472 (Q_0 Z q0 q1 q2 q3 q4 q5 h0 n0)) T355 (mkF m 42 #[.val (.int q0), .val (.int q1), .val (.int q2), .val (.int q3), .val (.int q4), .val (.int q5), .val (.ref a325), .val (.int (1 : Int32)), .val (.ref a352), .unset, .unset, .unset, .unset, .unset, .unset, .unset, .unset] [(.ref a354)])
    refine own_astore (pc' := 44) X355 hx (hb hby at_42) rfl (Ls' := #[.val (.int q0), .val (.int q1), .val (.int q2), .val (.int q3), .val (.int q4), .val (.int q5), .val (.ref a325), .val (.int (1 : Int32)), .val (.ref a352), .val (.ref a354), .unset, .unset, .unset, .unset, .unset, .unset, .unset]) rfl rfl ?_
    refine own_aload (pc' := 46) X355 hx (hb hby at_44) rfl rfl rfl ?_
    refine own_iloadN (pc' := 47) X355 hx (hb hby at_46) rfl rfl ?_
    refine own_aload (pc' := 49) X355 hx (hb hby at_47) rfl rfl rfl ?_
    have APq0 : own_AP Z n0 (h354) [.ref v0, .ref v1, .ref v2, .ref v3] (0 : Int32) (0 : Int32) := Or.inl ⟨rfl, by decide, by decide, v0, rfl, hn_v0, _, _, _, _, _, _, _, _, Ev354_v0⟩
    obtain ⟨_, _, ⟨T356, L356, k356, n356⟩, -, X356, hS356, hg356, ⟨Lc356, hQ356, l356, y356, z356⟩, st356⟩ := callSS X355 hx (y := (⟨"com/example/dipper/dipper/stream/ScannedEventsTakePinLaw", "put", "(Lcom/example/dipper/dipper/stream/ScannedEvents;I[C)V"⟩ : MethodName)) hown (mvT hZ (hw _ (List.mem_of_getElem? (i := 31) rfl))) (mvT hZ (hw _ (List.mem_of_getElem? (i := 32) rfl))) (mvT hZ (hw _ (List.mem_of_getElem? (i := 33) rfl))) (mvT hZ (hw _ (List.mem_of_getElem? (i := 34) rfl))) (by decide) (own_backW (W := 0) (rm_25 l Z a0 hw [] a352 qa [.ref v0, .ref v1, .ref v2, .ref v3] (0 : Int32) (0 : Int32) q0 a325 h354 n0 Zs354 Qx354 gq hn_qa APq0 OZ354 HH CS354) hZ (hw _ (List.mem_of_getElem? (i := 34) rfl)) (hw _ (List.mem_of_getElem? (i := 33) rfl)) (by decide) (by decide)) (g := (mkF m 49 #[.val (.int q0), .val (.int q1), .val (.int q2), .val (.int q3), .val (.int q4), .val (.int q5), .val (.ref a325), .val (.int (1 : Int32)), .val (.ref a352), .val (.ref a354), .unset, .unset, .unset, .unset, .unset, .unset, .unset] [(.ref a325), (.int q0), (.ref a352)])) rfl (by rw [hml]; rfl) (argsL := [(.ref a352), (.int q0), (.ref a325)]) (rest := []) (lenOf pd_25 rfl) rfl (by show 2 * 0 + _ ≤ _; exact Nat.le_of_eq rfl) (hb hby at_49) (fun vm hvm => ⟨rfl, ei355, own_LV.warm (s := s.setVm s.vm) LV354 hvm, (by decide : 8 + 9 ≤ _), (by decide : 63 + 49 ≤ _)⟩)
    dsimp only [Pt.U, Pt.locs, Pt.cells, Pt.slots] at X356 l356 y356 z356 st356 hQ356 hS356 hg356
    subst l356 y356 z356
    have X356 : Stand p l e room_1 (s.setVm T356.vm) m #[(.int q0), (.int q1), (.int q2), (.int q3), (.int q4), (.int q5)] below meth c T356 _ _ _ := X356
    obtain ⟨qb356, us356, hq356, ev356, wr356, rfl, M356, AR356, QQ356, IS356, KK356, WW356, gev356, gqb356, LV356⟩ := hQ356
    have N356 := Fr.app N355 M356
    refine Goes.aft st356 ?_
    show Goes p e below (EndW s 88 1472 (Q_0 Z q0 q1 q2 q3 q4 q5 h0 n0)) T356 (mkF m 52 #[.val (.int q0), .val (.int q1), .val (.int q2), .val (.int q3), .val (.int q4), .val (.int q5), .val (.ref a325), .val (.int (1 : Int32)), .val (.ref a352), .val (.ref a354), .unset, .unset, .unset, .unset, .unset, .unset, .unset] [])
    have hF356 := hS356
    have hZ356 : Z.Warmed39 (s.setVm T356.vm).vm := State.Warmed39.trans (t := s.setVm s.vm) hZ hS356.1
    have hw356 : (s.setVm T356.vm).vm.findClass "com/example/dipper/dipper/stream/ScannedEventsTakePinLaw" = some m.cls := by rw [show (s.setVm T356.vm).vm = T356.vm from rfl, hS356.1.alike.findClass]; exact hown
    have hT356 := foldS (T := T355) hS (Nat.le_trans hk354 (Nat.le_of_eq (congrArg Array.size (Eq.symm ei355)))) hS356 hg356
    have hr356 : Array.size T356.heap ≤ Array.size T356.heap := Nat.le_refl _
    rw [show (0 : Int32) + (1 : Int32) = (1 : Int32) from by decide] at QQ356
    obtain ⟨-, eb356, rfl, rfl, rfl, hv356⟩ | ⟨hx4, -⟩ := AR356
    · have ec356 := eb356.symm
      clear eb356
      subst ec356
      have hE356 : v0 = ev356 := by have z : some (Value.ref v0) = some (Value.ref ev356) := hv356; simpa using z
      subst hE356
      have CS356k := CS354.keep KK356 WW356
      have OZ356k := OZ354.keep KK356 (allS gq (allS hn_v0 all0))
      have Zs356k : n0 ≤ Array.size T356.heap := Nat.le_trans Zs354 KK356.1
      have Ev356k_v1 := Ev354_v1.keep KK356 (ninS (Ne.symm (Qx354.neQ Ev354_v1.1)) (ninS (Ne.symm ne01) nin0))
      have Ev356k_v2 := Ev354_v2.keep KK356 (ninS (Ne.symm (Qx354.neQ Ev354_v2.1)) (ninS (Ne.symm ne02) nin0))
      have Ev356k_v3 := Ev354_v3.keep KK356 (ninS (Ne.symm (Qx354.neQ Ev354_v3.1)) (ninS (Ne.symm ne03) nin0))
      have Ev356k_a354 := Vu.keep KK356 (ninS (Ne.symm (Qx354.neQ Vu.1)) (ninS (Ne.symm neu0) nin0))
      show Goes p e below (EndW s 88 1472 (Q_0 Z q0 q1 q2 q3 q4 q5 h0 n0)) T356 (mkF m 52 #[.val (.int q0), .val (.int q1), .val (.int q2), .val (.int q3), .val (.int q4), .val (.int q5), .val (.ref a325), .val (.int (1 : Int32)), .val (.ref a352), .val (.ref a354), .unset, .unset, .unset, .unset, .unset, .unset, .unset] [])
      refine own_aload (pc' := 54) X356 hx (hb hby at_52) rfl rfl rfl ?_
      refine own_iloadN (pc' := 55) X356 hx (hb hby at_54) rfl rfl ?_
      refine own_aload (pc' := 57) X356 hx (hb hby at_55) rfl rfl rfl ?_
      have APq1 : own_AP Z n0 (T356.heap) [.ref v0, .ref v1, .ref v2, .ref v3] (0 : Int32) (1 : Int32) := Or.inl ⟨rfl, by decide, by decide, v1, rfl, hn_v1, _, _, _, _, _, _, _, _, Ev356k_v1⟩
      obtain ⟨_, _, ⟨T357, L357, k357, n357⟩, -, X357, hS357, hg357, ⟨Lc357, hQ357, l357, y357, z357⟩, st357⟩ := callSS X356 hx (y := (⟨"com/example/dipper/dipper/stream/ScannedEventsTakePinLaw", "put", "(Lcom/example/dipper/dipper/stream/ScannedEvents;I[C)V"⟩ : MethodName)) hw356 (mvT hZ356 (hw _ (List.mem_of_getElem? (i := 31) rfl))) (mvT hZ356 (hw _ (List.mem_of_getElem? (i := 32) rfl))) (mvT hZ356 (hw _ (List.mem_of_getElem? (i := 33) rfl))) (mvT hZ356 (hw _ (List.mem_of_getElem? (i := 34) rfl))) (by decide) (own_backW (W := 0) (rm_25 l Z a0 hw [] a352 qa [.ref v0, .ref v1, .ref v2, .ref v3] (0 : Int32) (1 : Int32) q1 a325 T356.heap n0 Zs356k QQ356 gq hn_qa APq1 OZ356k HH CS356k) hZ356 (hw _ (List.mem_of_getElem? (i := 34) rfl)) (hw _ (List.mem_of_getElem? (i := 33) rfl)) (by decide) (by decide)) (g := (mkF m 57 #[.val (.int q0), .val (.int q1), .val (.int q2), .val (.int q3), .val (.int q4), .val (.int q5), .val (.ref a325), .val (.int (1 : Int32)), .val (.ref a352), .val (.ref a354), .unset, .unset, .unset, .unset, .unset, .unset, .unset] [(.ref a325), (.int q1), (.ref a352)])) rfl (by rw [hml]; rfl) (argsL := [(.ref a352), (.int q1), (.ref a325)]) (rest := []) (lenOf pd_25 rfl) rfl (by show 2 * 0 + _ ≤ _; exact Nat.le_of_eq rfl) (hb hby at_57) (fun vm hvm => ⟨rfl, rfl, own_LV.warm (s := s.setVm T356.vm) LV356 hvm, (by decide : 17 + 9 ≤ _), (by decide : 112 + 49 ≤ _)⟩)
      dsimp only [Pt.U, Pt.locs, Pt.cells, Pt.slots] at X357 l357 y357 z357 st357 hQ357 hS357 hg357
      subst l357 y357 z357
      have X357 : Stand p l e room_1 (s.setVm T357.vm) m #[(.int q0), (.int q1), (.int q2), (.int q3), (.int q4), (.int q5)] below meth c T357 _ _ _ := X357
      obtain ⟨qb357, us357, hq357, ev357, wr357, rfl, M357, AR357, QQ357, IS357, KK357, WW357, gev357, gqb357, LV357⟩ := hQ357
      have N357 := Fr.app N356 M357
      refine Goes.aft st357 ?_
      show Goes p e below (EndW s 88 1472 (Q_0 Z q0 q1 q2 q3 q4 q5 h0 n0)) T357 (mkF m 60 #[.val (.int q0), .val (.int q1), .val (.int q2), .val (.int q3), .val (.int q4), .val (.int q5), .val (.ref a325), .val (.int (1 : Int32)), .val (.ref a352), .val (.ref a354), .unset, .unset, .unset, .unset, .unset, .unset, .unset] [])
      have hF357 := hS357
      have hZ357 : Z.Warmed39 (s.setVm T357.vm).vm := State.Warmed39.trans (t := s.setVm T356.vm) hZ356 hS357.1
      have hw357 : (s.setVm T357.vm).vm.findClass "com/example/dipper/dipper/stream/ScannedEventsTakePinLaw" = some m.cls := by rw [show (s.setVm T357.vm).vm = T357.vm from rfl, hS357.1.alike.findClass]; exact hw356
      have hT357 := foldS (T := T356) hT356 (Nat.le_trans hr356 (Nat.le_of_eq (congrArg Array.size (Eq.symm rfl)))) hS357 hg357
      have hr357 : Array.size T357.heap ≤ Array.size T357.heap := Nat.le_refl _
      rw [show (1 : Int32) + (1 : Int32) = (2 : Int32) from by decide] at QQ357
      obtain ⟨-, eb357, rfl, rfl, rfl, hv357⟩ | ⟨hx4, -⟩ := AR357
      · have ec357 := eb357.symm
        clear eb357
        subst ec357
        have hE357 : v1 = ev357 := by have z : some (Value.ref v1) = some (Value.ref ev357) := hv357; simpa using z
        subst hE357
        have CS357k := CS356k.keep KK357 WW357
        have OZ357k := OZ356k.keep KK357 (allS gq (allS hn_v1 all0))
        have Zs357k : n0 ≤ Array.size T357.heap := Nat.le_trans Zs356k KK357.1
        have Is357k_v0 := IS356.keep hw KK357 WW357 (ninS (Ne.symm (QQ356.neQ (own_Is.exa IS356))) (ninS ne01 nin0))
        have Ev357k_v2 := Ev356k_v2.keep KK357 (ninS (Ne.symm (QQ356.neQ Ev356k_v2.1)) (ninS (Ne.symm ne12) nin0))
        have Ev357k_v3 := Ev356k_v3.keep KK357 (ninS (Ne.symm (QQ356.neQ Ev356k_v3.1)) (ninS (Ne.symm ne13) nin0))
        have Ev357k_a354 := Ev356k_a354.keep KK357 (ninS (Ne.symm (QQ356.neQ Ev356k_a354.1)) (ninS (Ne.symm neu1) nin0))
        show Goes p e below (EndW s 88 1472 (Q_0 Z q0 q1 q2 q3 q4 q5 h0 n0)) T357 (mkF m 60 #[.val (.int q0), .val (.int q1), .val (.int q2), .val (.int q3), .val (.int q4), .val (.int q5), .val (.ref a325), .val (.int (1 : Int32)), .val (.ref a352), .val (.ref a354), .unset, .unset, .unset, .unset, .unset, .unset, .unset] [])
        refine own_aload (pc' := 62) X357 hx (hb hby at_60) rfl rfl rfl ?_
        refine own_aload (pc' := 64) X357 hx (hb hby at_62) rfl rfl rfl ?_
        obtain ⟨cq359, kq359, q359a, q359b, q359c⟩ := isOf hZ357 rfl QQ357.1
        obtain ⟨_, _, ⟨T358, L358, k358, n358⟩, -, X358, ⟨Lc358, hQ358, l358, y358, z358⟩, st358⟩ := X357.virtualBack hx (y := (⟨"com/example/dipper/dipper/stream/ScannedEvents", "take", "(Lcom/example/dipper/dipper/stream/ScannedEvent;)Lcom/example/dipper/dipper/stream/ScannedEvent;"⟩ : MethodName)) (z := (⟨"com/example/dipper/dipper/stream/ScannedEvents", "take", "(Lcom/example/dipper/dipper/stream/ScannedEvent;)Lcom/example/dipper/dipper/stream/ScannedEvent;"⟩ : MethodName)) hw357 (mvT hZ357 (hw _ (List.mem_of_getElem? (i := 107) rfl))) (mvT hZ357 (hw _ (List.mem_of_getElem? (i := 108) rfl))) (notFace_of_selects (args := #[]) (mvT hZ357 (hw _ (List.mem_of_getElem? (i := 110) rfl)))) (mvT hZ357 (hw _ (List.mem_of_getElem? (i := 110) rfl))) (mvT hZ357 (hw _ (List.mem_of_getElem? (i := 109) rfl))) (by decide) (backOf (W := 0) (rm_21 l Z a0 hw [] a352 qa [.ref v0, .ref v1, .ref v2, .ref v3] (0 : Int32) (2 : Int32) a354 v0 0 (4 : Int32) T357.heap n0 Zs357k QQ357 gq hn_qa Ev357k_a354.1 (by decide) (by decide) rfl rfl (by decide)) hZ357 (hw _ (List.mem_of_getElem? (i := 111) rfl)) (hw _ (List.mem_of_getElem? (i := 3) rfl)) (by decide) (by decide)) q359a q359c (g := (mkF m 64 #[.val (.int q0), .val (.int q1), .val (.int q2), .val (.int q3), .val (.int q4), .val (.int q5), .val (.ref a325), .val (.int (1 : Int32)), .val (.ref a352), .val (.ref a354), .unset, .unset, .unset, .unset, .unset, .unset, .unset] [(.ref a354), (.ref a352)])) rfl (by rw [hml]; rfl) (Steps.refl _) (argsL := [(.ref a354)]) (rest := []) (lenOf pd_21 rfl) rfl (by show 2 * 0 + _ ≤ _; exact Nat.le_of_eq rfl) (hb hby at_64) (fun _ _ => ⟨rfl, rfl, (by decide : 26 + 0 ≤ _), (by decide : 161 + 0 ≤ _)⟩)
        dsimp only [Pt.U, Pt.locs, Pt.cells, Pt.slots] at X358 l358 y358 z358 st358 hQ358
        subst l358 y358 z358
        obtain ⟨rfl, M358, K358, QQ358⟩ := hQ358
        have N358 := Fr.app N357 M358
        refine Goes.aft st358 ?_
        show Goes p e below (EndW s 88 1472 (Q_0 Z q0 q1 q2 q3 q4 q5 h0 n0)) T358 (mkF m 67 #[.val (.int q0), .val (.int q1), .val (.int q2), .val (.int q3), .val (.int q4), .val (.int q5), .val (.ref a325), .val (.int (1 : Int32)), .val (.ref a352), .val (.ref a354), .unset, .unset, .unset, .unset, .unset, .unset, .unset] [(.ref v0)])
        rw [show ((0 : Int32) + (1 : Int32)) % (4 : Int32) = (1 : Int32) from by decide, show (2 : Int32) - (1 : Int32) = (1 : Int32) from by decide] at QQ358
        have WT358 : own_W Z (_) [a352, qa] := own_W.qs QQ357.1 (own_W.ra QQ357.2.2.2.2.2 own_W.nil)
        have CS358k := CS357k.keep K358 WT358
        have OZ358k := OZ357k.keep K358 (allS gq (allS hn_qa all0))
        have Zs358k : n0 ≤ Array.size T358.heap := Nat.le_trans Zs357k K358.1
        have Is358k_v0 := Is357k_v0.keep hw K358 WT358 (ninS (Ne.symm (QQ357.neQ (own_Is.exa Is357k_v0))) (ninS (Ne.symm (QQ357.2.2.2.2.2.neE hw (own_Is.exa Is357k_v0))) nin0))
        have Is358k_v1 := IS357.keep hw K358 WT358 (ninS (Ne.symm (QQ357.neQ (own_Is.exa IS357))) (ninS (Ne.symm (QQ357.2.2.2.2.2.neE hw (own_Is.exa IS357))) nin0))
        have Ev358k_v2 := Ev357k_v2.keep K358 (ninS (Ne.symm (QQ357.neQ Ev357k_v2.1)) (ninS (Ne.symm (QQ357.2.2.2.2.2.neE hw Ev357k_v2.1)) nin0))
        have Ev358k_v3 := Ev357k_v3.keep K358 (ninS (Ne.symm (QQ357.neQ Ev357k_v3.1)) (ninS (Ne.symm (QQ357.2.2.2.2.2.neE hw Ev357k_v3.1)) nin0))
        have Ev358k_a354 := Ev357k_a354.keep K358 (ninS (Ne.symm (QQ357.neQ Ev357k_a354.1)) (ninS (Ne.symm (QQ357.2.2.2.2.2.neE hw Ev357k_a354.1)) nin0))
        have LVk358 := own_LV.keep hw LV357 K358 WT358
        have hkk358 : _ ≤ Array.size T358.heap := Nat.le_trans hr357 K358.1
        have QT358 : own_Q Z (T358.heap) a352 qa [.ref a354, .ref v1, .ref v2, .ref v3] (1 : Int32) (1 : Int32) := QQ358
        refine own_astore (pc' := 69) X358 hx (hb hby at_67) rfl (Ls' := #[.val (.int q0), .val (.int q1), .val (.int q2), .val (.int q3), .val (.int q4), .val (.int q5), .val (.ref a325), .val (.int (1 : Int32)), .val (.ref a352), .val (.ref a354), .val (.ref v0), .unset, .unset, .unset, .unset, .unset, .unset]) rfl rfl ?_
        refine own_aload (pc' := 71) X358 hx (hb hby at_69) rfl rfl rfl ?_
        refine own_iloadN (pc' := 72) X358 hx (hb hby at_71) rfl rfl ?_
        refine own_aload (pc' := 74) X358 hx (hb hby at_72) rfl rfl rfl ?_
        obtain ⟨_, _, ⟨T360, L360, k360, n360⟩, -, X360, ⟨Lc360, hQ360, l360, y360, z360⟩, st360⟩ := Jvm.LawKit.callS X358 hx (y := (⟨"com/example/dipper/dipper/stream/ScannedEventsTakePinLaw", "is", "(Lcom/example/dipper/dipper/stream/ScannedEvent;I[C)Z"⟩ : MethodName)) hw357 (mvT hZ357 (hw _ (List.mem_of_getElem? (i := 112) rfl))) (mvT hZ357 (hw _ (List.mem_of_getElem? (i := 113) rfl))) (mvT hZ357 (hw _ (List.mem_of_getElem? (i := 33) rfl))) (mvT hZ357 (hw _ (List.mem_of_getElem? (i := 114) rfl))) (by decide) (backOf (W := 0) (rm_24 l Z a0 hw [] v0 q0 a325 T358.heap n0 Zs358k Is358k_v0 CS358k) hZ357 (hw _ (List.mem_of_getElem? (i := 114) rfl)) (hw _ (List.mem_of_getElem? (i := 33) rfl)) (by decide) (by decide)) (g := (mkF m 74 #[.val (.int q0), .val (.int q1), .val (.int q2), .val (.int q3), .val (.int q4), .val (.int q5), .val (.ref a325), .val (.int (1 : Int32)), .val (.ref a352), .val (.ref a354), .val (.ref v0), .unset, .unset, .unset, .unset, .unset, .unset] [(.ref a325), (.int q0), (.ref v0)])) rfl (by rw [hml]; rfl) (argsL := [(.ref v0), (.int q0), (.ref a325)]) (rest := []) (lenOf pd_24 rfl) rfl (by show 2 * 0 + _ ≤ _; exact Nat.le_of_eq rfl) (hb hby at_74) (fun _ _ => ⟨rfl, rfl, (by decide : 26 + 2 ≤ _), (by decide : 161 + 5 ≤ _)⟩)
        dsimp only [Pt.U, Pt.locs, Pt.cells, Pt.slots] at X360 l360 y360 z360 st360 hQ360
        subst l360 y360 z360
        obtain ⟨rfl, M360, K360⟩ := hQ360
        have N360 := Fr.app N358 M360
        refine Goes.pre st360 ?_
        show Goes p e below (EndW s 88 1472 (Q_0 Z q0 q1 q2 q3 q4 q5 h0 n0)) T360 (mkF m 77 #[.val (.int q0), .val (.int q1), .val (.int q2), .val (.int q3), .val (.int q4), .val (.int q5), .val (.ref a325), .val (.int (1 : Int32)), .val (.ref a352), .val (.ref a354), .val (.ref v0), .unset, .unset, .unset, .unset, .unset, .unset] [(.int (1 : Int32))])
        have CS360k := CS358k.keep K360 own_W.nil
        have OZ360k := OZ358k.keep K360 all0
        have Zs360k : n0 ≤ Array.size T360.heap := Nat.le_trans Zs358k K360.1
        have Is360k_v0 := Is358k_v0.keep hw K360 own_W.nil nin0
        have Is360k_v1 := Is358k_v1.keep hw K360 own_W.nil nin0
        have Ev360k_v2 := Ev358k_v2.keep K360 nin0
        have Ev360k_v3 := Ev358k_v3.keep K360 nin0
        have Ev360k_a354 := Ev358k_a354.keep K360 nin0
        have LVk360 := own_LV.keep hw LVk358 K360 own_W.nil
        have hkk360 : _ ≤ Array.size T360.heap := Nat.le_trans hkk358 K360.1
        have QT360 := QT358.keep K360 nin0 nin0
        refine own_istore (pc' := 79) X360 hx (hb hby at_77) (Ls' := #[.val (.int q0), .val (.int q1), .val (.int q2), .val (.int q3), .val (.int q4), .val (.int q5), .val (.ref a325), .val (.int (1 : Int32)), .val (.ref a352), .val (.ref a354), .val (.ref v0), .val (.int (1 : Int32)), .unset, .unset, .unset, .unset, .unset]) rfl rfl ?_
        refine own_aload (pc' := 81) X360 hx (hb hby at_79) rfl rfl rfl ?_
        refine own_iloadN (pc' := 82) X360 hx (hb hby at_81) rfl rfl ?_
        refine own_aload (pc' := 84) X360 hx (hb hby at_82) rfl rfl rfl ?_
        have APq2 : own_AP Z n0 (T360.heap) [.ref a354, .ref v1, .ref v2, .ref v3] (1 : Int32) (1 : Int32) := Or.inl ⟨rfl, by decide, by decide, v2, rfl, hn_v2, _, _, _, _, _, _, _, _, Ev360k_v2⟩
        obtain ⟨_, _, ⟨T361, L361, k361, n361⟩, -, X361, hS361, hg361, ⟨Lc361, hQ361, l361, y361, z361⟩, st361⟩ := callSS X360 hx (y := (⟨"com/example/dipper/dipper/stream/ScannedEventsTakePinLaw", "put", "(Lcom/example/dipper/dipper/stream/ScannedEvents;I[C)V"⟩ : MethodName)) hw357 (mvT hZ357 (hw _ (List.mem_of_getElem? (i := 31) rfl))) (mvT hZ357 (hw _ (List.mem_of_getElem? (i := 32) rfl))) (mvT hZ357 (hw _ (List.mem_of_getElem? (i := 33) rfl))) (mvT hZ357 (hw _ (List.mem_of_getElem? (i := 34) rfl))) (by decide) (own_backW (W := 0) (rm_25 l Z a0 hw [] a352 qa [.ref a354, .ref v1, .ref v2, .ref v3] (1 : Int32) (1 : Int32) q2 a325 T360.heap n0 Zs360k QT360 gq hn_qa APq2 OZ360k HH CS360k) hZ357 (hw _ (List.mem_of_getElem? (i := 34) rfl)) (hw _ (List.mem_of_getElem? (i := 33) rfl)) (by decide) (by decide)) (g := (mkF m 84 #[.val (.int q0), .val (.int q1), .val (.int q2), .val (.int q3), .val (.int q4), .val (.int q5), .val (.ref a325), .val (.int (1 : Int32)), .val (.ref a352), .val (.ref a354), .val (.ref v0), .val (.int (1 : Int32)), .unset, .unset, .unset, .unset, .unset] [(.ref a325), (.int q2), (.ref a352)])) rfl (by rw [hml]; rfl) (argsL := [(.ref a352), (.int q2), (.ref a325)]) (rest := []) (lenOf pd_25 rfl) rfl (by show 2 * 0 + _ ≤ _; exact Nat.le_of_eq rfl) (hb hby at_84) (fun vm hvm => ⟨rfl, rfl, own_LV.warm (s := s.setVm T357.vm) LVk360 hvm, (by decide : 28 + 9 ≤ _), (by decide : 166 + 49 ≤ _)⟩)
        dsimp only [Pt.U, Pt.locs, Pt.cells, Pt.slots] at X361 l361 y361 z361 st361 hQ361 hS361 hg361
        subst l361 y361 z361
        have X361 : Stand p l e room_1 (s.setVm T361.vm) m #[(.int q0), (.int q1), (.int q2), (.int q3), (.int q4), (.int q5)] below meth c T361 _ _ _ := X361
        obtain ⟨qb361, us361, hq361, ev361, wr361, rfl, M361, AR361, QQ361, IS361, KK361, WW361, gev361, gqb361, LV361⟩ := hQ361
        have N361 := Fr.app N360 M361
        refine Goes.aft st361 ?_
        show Goes p e below (EndW s 88 1472 (Q_0 Z q0 q1 q2 q3 q4 q5 h0 n0)) T361 (mkF m 87 #[.val (.int q0), .val (.int q1), .val (.int q2), .val (.int q3), .val (.int q4), .val (.int q5), .val (.ref a325), .val (.int (1 : Int32)), .val (.ref a352), .val (.ref a354), .val (.ref v0), .val (.int (1 : Int32)), .unset, .unset, .unset, .unset, .unset] [])
        have hF361 := hS361
        have hZ361 : Z.Warmed39 (s.setVm T361.vm).vm := State.Warmed39.trans (t := s.setVm T357.vm) hZ357 hS361.1
        have hw361 : (s.setVm T361.vm).vm.findClass "com/example/dipper/dipper/stream/ScannedEventsTakePinLaw" = some m.cls := by rw [show (s.setVm T361.vm).vm = T361.vm from rfl, hS361.1.alike.findClass]; exact hw357
        have hT361 := foldS (T := T360) hT357 (Nat.le_trans hkk360 (Nat.le_of_eq (congrArg Array.size (Eq.symm rfl)))) hS361 hg361
        have hr361 : Array.size T361.heap ≤ Array.size T361.heap := Nat.le_refl _
        rw [show (1 : Int32) + (1 : Int32) = (2 : Int32) from by decide] at QQ361
        obtain ⟨-, eb361, rfl, rfl, rfl, hv361⟩ | ⟨hx4, -⟩ := AR361
        · have ec361 := eb361.symm
          clear eb361
          subst ec361
          have hE361 : v2 = ev361 := by have z : some (Value.ref v2) = some (Value.ref ev361) := hv361; simpa using z
          subst hE361
          have CS361k := CS360k.keep KK361 WW361
          have OZ361k := OZ360k.keep KK361 (allS gq (allS hn_v2 all0))
          have Zs361k : n0 ≤ Array.size T361.heap := Nat.le_trans Zs360k KK361.1
          have Is361k_v0 := Is360k_v0.keep hw KK361 WW361 (ninS (Ne.symm (QT360.neQ (own_Is.exa Is360k_v0))) (ninS ne02 nin0))
          have Is361k_v1 := Is360k_v1.keep hw KK361 WW361 (ninS (Ne.symm (QT360.neQ (own_Is.exa Is360k_v1))) (ninS ne12 nin0))
          have Ev361k_v3 := Ev360k_v3.keep KK361 (ninS (Ne.symm (QT360.neQ Ev360k_v3.1)) (ninS (Ne.symm ne23) nin0))
          have Ev361k_a354 := Ev360k_a354.keep KK361 (ninS (Ne.symm (QT360.neQ Ev360k_a354.1)) (ninS (Ne.symm neu2) nin0))
          show Goes p e below (EndW s 88 1472 (Q_0 Z q0 q1 q2 q3 q4 q5 h0 n0)) T361 (mkF m 87 #[.val (.int q0), .val (.int q1), .val (.int q2), .val (.int q3), .val (.int q4), .val (.int q5), .val (.ref a325), .val (.int (1 : Int32)), .val (.ref a352), .val (.ref a354), .val (.ref v0), .val (.int (1 : Int32)), .unset, .unset, .unset, .unset, .unset] [])
          refine own_aload (pc' := 89) X361 hx (hb hby at_87) rfl rfl rfl ?_
          refine own_iloadN (pc' := 90) X361 hx (hb hby at_89) rfl rfl ?_
          refine own_aload (pc' := 92) X361 hx (hb hby at_90) rfl rfl rfl ?_
          have APq3 : own_AP Z n0 (T361.heap) [.ref a354, .ref v1, .ref v2, .ref v3] (1 : Int32) (2 : Int32) := Or.inl ⟨rfl, by decide, by decide, v3, rfl, hn_v3, _, _, _, _, _, _, _, _, Ev361k_v3⟩
          obtain ⟨_, _, ⟨T362, L362, k362, n362⟩, -, X362, hS362, hg362, ⟨Lc362, hQ362, l362, y362, z362⟩, st362⟩ := callSS X361 hx (y := (⟨"com/example/dipper/dipper/stream/ScannedEventsTakePinLaw", "put", "(Lcom/example/dipper/dipper/stream/ScannedEvents;I[C)V"⟩ : MethodName)) hw361 (mvT hZ361 (hw _ (List.mem_of_getElem? (i := 31) rfl))) (mvT hZ361 (hw _ (List.mem_of_getElem? (i := 32) rfl))) (mvT hZ361 (hw _ (List.mem_of_getElem? (i := 33) rfl))) (mvT hZ361 (hw _ (List.mem_of_getElem? (i := 34) rfl))) (by decide) (own_backW (W := 0) (rm_25 l Z a0 hw [] a352 qa [.ref a354, .ref v1, .ref v2, .ref v3] (1 : Int32) (2 : Int32) q3 a325 T361.heap n0 Zs361k QQ361 gq hn_qa APq3 OZ361k HH CS361k) hZ361 (hw _ (List.mem_of_getElem? (i := 34) rfl)) (hw _ (List.mem_of_getElem? (i := 33) rfl)) (by decide) (by decide)) (g := (mkF m 92 #[.val (.int q0), .val (.int q1), .val (.int q2), .val (.int q3), .val (.int q4), .val (.int q5), .val (.ref a325), .val (.int (1 : Int32)), .val (.ref a352), .val (.ref a354), .val (.ref v0), .val (.int (1 : Int32)), .unset, .unset, .unset, .unset, .unset] [(.ref a325), (.int q3), (.ref a352)])) rfl (by rw [hml]; rfl) (argsL := [(.ref a352), (.int q3), (.ref a325)]) (rest := []) (lenOf pd_25 rfl) rfl (by show 2 * 0 + _ ≤ _; exact Nat.le_of_eq rfl) (hb hby at_92) (fun vm hvm => ⟨rfl, rfl, own_LV.warm (s := s.setVm T361.vm) LV361 hvm, (by decide : 37 + 9 ≤ _), (by decide : 215 + 49 ≤ _)⟩)
          dsimp only [Pt.U, Pt.locs, Pt.cells, Pt.slots] at X362 l362 y362 z362 st362 hQ362 hS362 hg362
          subst l362 y362 z362
          have X362 : Stand p l e room_1 (s.setVm T362.vm) m #[(.int q0), (.int q1), (.int q2), (.int q3), (.int q4), (.int q5)] below meth c T362 _ _ _ := X362
          obtain ⟨qb362, us362, hq362, ev362, wr362, rfl, M362, AR362, QQ362, IS362, KK362, WW362, gev362, gqb362, LV362⟩ := hQ362
          have N362 := Fr.app N361 M362
          refine Goes.aft st362 ?_
          show Goes p e below (EndW s 88 1472 (Q_0 Z q0 q1 q2 q3 q4 q5 h0 n0)) T362 (mkF m 95 #[.val (.int q0), .val (.int q1), .val (.int q2), .val (.int q3), .val (.int q4), .val (.int q5), .val (.ref a325), .val (.int (1 : Int32)), .val (.ref a352), .val (.ref a354), .val (.ref v0), .val (.int (1 : Int32)), .unset, .unset, .unset, .unset, .unset] [])
          have hF362 := hS362
          have hZ362 : Z.Warmed39 (s.setVm T362.vm).vm := State.Warmed39.trans (t := s.setVm T361.vm) hZ361 hS362.1
          have hw362 : (s.setVm T362.vm).vm.findClass "com/example/dipper/dipper/stream/ScannedEventsTakePinLaw" = some m.cls := by rw [show (s.setVm T362.vm).vm = T362.vm from rfl, hS362.1.alike.findClass]; exact hw361
          have hT362 := foldS (T := T361) hT361 (Nat.le_trans hr361 (Nat.le_of_eq (congrArg Array.size (Eq.symm rfl)))) hS362 hg362
          have hr362 : Array.size T362.heap ≤ Array.size T362.heap := Nat.le_refl _
          rw [show (2 : Int32) + (1 : Int32) = (3 : Int32) from by decide] at QQ362
          obtain ⟨-, eb362, rfl, rfl, rfl, hv362⟩ | ⟨hx4, -⟩ := AR362
          · have ec362 := eb362.symm
            clear eb362
            subst ec362
            have hE362 : v3 = ev362 := by have z : some (Value.ref v3) = some (Value.ref ev362) := hv362; simpa using z
            subst hE362
            have CS362k := CS361k.keep KK362 WW362
            have OZ362k := OZ361k.keep KK362 (allS gq (allS hn_v3 all0))
            have Zs362k : n0 ≤ Array.size T362.heap := Nat.le_trans Zs361k KK362.1
            have Is362k_v0 := Is361k_v0.keep hw KK362 WW362 (ninS (Ne.symm (QQ361.neQ (own_Is.exa Is361k_v0))) (ninS ne03 nin0))
            have Is362k_v1 := Is361k_v1.keep hw KK362 WW362 (ninS (Ne.symm (QQ361.neQ (own_Is.exa Is361k_v1))) (ninS ne13 nin0))
            have Is362k_v2 := IS361.keep hw KK362 WW362 (ninS (Ne.symm (QQ361.neQ (own_Is.exa IS361))) (ninS ne23 nin0))
            have Ev362k_a354 := Ev361k_a354.keep KK362 (ninS (Ne.symm (QQ361.neQ Ev361k_a354.1)) (ninS (Ne.symm neu3) nin0))
            show Goes p e below (EndW s 88 1472 (Q_0 Z q0 q1 q2 q3 q4 q5 h0 n0)) T362 (mkF m 95 #[.val (.int q0), .val (.int q1), .val (.int q2), .val (.int q3), .val (.int q4), .val (.int q5), .val (.ref a325), .val (.int (1 : Int32)), .val (.ref a352), .val (.ref a354), .val (.ref v0), .val (.int (1 : Int32)), .unset, .unset, .unset, .unset, .unset] [])
            refine own_aload (pc' := 97) X362 hx (hb hby at_95) rfl rfl rfl ?_
            refine own_iload (pc' := 99) X362 hx (hb hby at_97) rfl rfl ?_
            refine own_aload (pc' := 101) X362 hx (hb hby at_99) rfl rfl rfl ?_
            have APq4 : own_AP Z n0 (T362.heap) [.ref a354, .ref v1, .ref v2, .ref v3] (1 : Int32) (3 : Int32) := Or.inl ⟨rfl, by decide, by decide, a354, rfl, hn_a354, _, _, _, _, _, _, _, _, Ev362k_a354⟩
            obtain ⟨_, _, ⟨T363, L363, k363, n363⟩, -, X363, hS363, hg363, ⟨Lc363, hQ363, l363, y363, z363⟩, st363⟩ := callSS X362 hx (y := (⟨"com/example/dipper/dipper/stream/ScannedEventsTakePinLaw", "put", "(Lcom/example/dipper/dipper/stream/ScannedEvents;I[C)V"⟩ : MethodName)) hw362 (mvT hZ362 (hw _ (List.mem_of_getElem? (i := 31) rfl))) (mvT hZ362 (hw _ (List.mem_of_getElem? (i := 32) rfl))) (mvT hZ362 (hw _ (List.mem_of_getElem? (i := 33) rfl))) (mvT hZ362 (hw _ (List.mem_of_getElem? (i := 34) rfl))) (by decide) (own_backW (W := 0) (rm_25 l Z a0 hw [] a352 qa [.ref a354, .ref v1, .ref v2, .ref v3] (1 : Int32) (3 : Int32) q4 a325 T362.heap n0 Zs362k QQ362 gq hn_qa APq4 OZ362k HH CS362k) hZ362 (hw _ (List.mem_of_getElem? (i := 34) rfl)) (hw _ (List.mem_of_getElem? (i := 33) rfl)) (by decide) (by decide)) (g := (mkF m 101 #[.val (.int q0), .val (.int q1), .val (.int q2), .val (.int q3), .val (.int q4), .val (.int q5), .val (.ref a325), .val (.int (1 : Int32)), .val (.ref a352), .val (.ref a354), .val (.ref v0), .val (.int (1 : Int32)), .unset, .unset, .unset, .unset, .unset] [(.ref a325), (.int q4), (.ref a352)])) rfl (by rw [hml]; rfl) (argsL := [(.ref a352), (.int q4), (.ref a325)]) (rest := []) (lenOf pd_25 rfl) rfl (by show 2 * 0 + _ ≤ _; exact Nat.le_of_eq rfl) (hb hby at_101) (fun vm hvm => ⟨rfl, rfl, own_LV.warm (s := s.setVm T362.vm) LV362 hvm, (by decide : 46 + 9 ≤ _), (by decide : 264 + 49 ≤ _)⟩)
            dsimp only [Pt.U, Pt.locs, Pt.cells, Pt.slots] at X363 l363 y363 z363 st363 hQ363 hS363 hg363
            subst l363 y363 z363
            have X363 : Stand p l e room_1 (s.setVm T363.vm) m #[(.int q0), (.int q1), (.int q2), (.int q3), (.int q4), (.int q5)] below meth c T363 _ _ _ := X363
            obtain ⟨qb363, us363, hq363, ev363, wr363, rfl, M363, AR363, QQ363, IS363, KK363, WW363, gev363, gqb363, LV363⟩ := hQ363
            have N363 := Fr.app N362 M363
            refine Goes.aft st363 ?_
            show Goes p e below (EndW s 88 1472 (Q_0 Z q0 q1 q2 q3 q4 q5 h0 n0)) T363 (mkF m 104 #[.val (.int q0), .val (.int q1), .val (.int q2), .val (.int q3), .val (.int q4), .val (.int q5), .val (.ref a325), .val (.int (1 : Int32)), .val (.ref a352), .val (.ref a354), .val (.ref v0), .val (.int (1 : Int32)), .unset, .unset, .unset, .unset, .unset] [])
            have hF363 := hS363
            have hZ363 : Z.Warmed39 (s.setVm T363.vm).vm := State.Warmed39.trans (t := s.setVm T362.vm) hZ362 hS363.1
            have hw363 : (s.setVm T363.vm).vm.findClass "com/example/dipper/dipper/stream/ScannedEventsTakePinLaw" = some m.cls := by rw [show (s.setVm T363.vm).vm = T363.vm from rfl, hS363.1.alike.findClass]; exact hw362
            have hT363 := foldS (T := T362) hT362 (Nat.le_trans hr362 (Nat.le_of_eq (congrArg Array.size (Eq.symm rfl)))) hS363 hg363
            have hr363 : Array.size T363.heap ≤ Array.size T363.heap := Nat.le_refl _
            rw [show (3 : Int32) + (1 : Int32) = (4 : Int32) from by decide] at QQ363
            obtain ⟨-, eb363, rfl, rfl, rfl, hv363⟩ | ⟨hx4, -⟩ := AR363
            · have ec363 := eb363.symm
              clear eb363
              subst ec363
              have hE363 : a354 = ev363 := by have z : some (Value.ref a354) = some (Value.ref ev363) := hv363; simpa using z
              subst hE363
              have CS363k := CS362k.keep KK363 WW363
              have OZ363k := OZ362k.keep KK363 (allS gq (allS hn_a354 all0))
              have Zs363k : n0 ≤ Array.size T363.heap := Nat.le_trans Zs362k KK363.1
              have Is363k_v0 := Is362k_v0.keep hw KK363 WW363 (ninS (Ne.symm (QQ362.neQ (own_Is.exa Is362k_v0))) (ninS neu0 nin0))
              have Is363k_v1 := Is362k_v1.keep hw KK363 WW363 (ninS (Ne.symm (QQ362.neQ (own_Is.exa Is362k_v1))) (ninS neu1 nin0))
              have Is363k_v2 := Is362k_v2.keep hw KK363 WW363 (ninS (Ne.symm (QQ362.neQ (own_Is.exa Is362k_v2))) (ninS neu2 nin0))
              have Is363k_v3 := IS362.keep hw KK363 WW363 (ninS (Ne.symm (QQ362.neQ (own_Is.exa IS362))) (ninS neu3 nin0))
              show Goes p e below (EndW s 88 1472 (Q_0 Z q0 q1 q2 q3 q4 q5 h0 n0)) T363 (mkF m 104 #[.val (.int q0), .val (.int q1), .val (.int q2), .val (.int q3), .val (.int q4), .val (.int q5), .val (.ref a325), .val (.int (1 : Int32)), .val (.ref a352), .val (.ref a354), .val (.ref v0), .val (.int (1 : Int32)), .unset, .unset, .unset, .unset, .unset] [])
              refine own_iload (pc' := 106) X363 hx (hb hby at_104) rfl rfl ?_
              refine own_ifN (pc' := 109) X363 hx (hb hby at_106) (by decide) rfl ?_
              refine own_aload (pc' := 111) X363 hx (hb hby at_109) rfl rfl rfl ?_
              refine own_iload (pc' := 113) X363 hx (hb hby at_111) rfl rfl ?_
              refine own_aload (pc' := 115) X363 hx (hb hby at_113) rfl rfl rfl ?_
              have APq5 : own_AP Z n0 (T363.heap) [.ref a354, .ref v1, .ref v2, .ref v3] (1 : Int32) (4 : Int32) := Or.inr ⟨rfl, rfl, a354, v1, v2, v3, rfl, (own_Is.exa IS363), (own_Is.exa Is363k_v1), (own_Is.exa Is363k_v2), (own_Is.exa Is363k_v3)⟩
              obtain ⟨_, _, ⟨T364, L364, k364, n364⟩, -, X364, hS364, hg364, ⟨Lc364, hQ364, l364, y364, z364⟩, st364⟩ := callSS X363 hx (y := (⟨"com/example/dipper/dipper/stream/ScannedEventsTakePinLaw", "put", "(Lcom/example/dipper/dipper/stream/ScannedEvents;I[C)V"⟩ : MethodName)) hw363 (mvT hZ363 (hw _ (List.mem_of_getElem? (i := 31) rfl))) (mvT hZ363 (hw _ (List.mem_of_getElem? (i := 32) rfl))) (mvT hZ363 (hw _ (List.mem_of_getElem? (i := 33) rfl))) (mvT hZ363 (hw _ (List.mem_of_getElem? (i := 34) rfl))) (by decide) (own_backW (W := 0) (rm_25 l Z a0 hw [] a352 qa [.ref a354, .ref v1, .ref v2, .ref v3] (1 : Int32) (4 : Int32) q5 a325 T363.heap n0 Zs363k QQ363 gq hn_qa APq5 OZ363k HH CS363k) hZ363 (hw _ (List.mem_of_getElem? (i := 34) rfl)) (hw _ (List.mem_of_getElem? (i := 33) rfl)) (by decide) (by decide)) (g := (mkF m 115 #[.val (.int q0), .val (.int q1), .val (.int q2), .val (.int q3), .val (.int q4), .val (.int q5), .val (.ref a325), .val (.int (1 : Int32)), .val (.ref a352), .val (.ref a354), .val (.ref v0), .val (.int (1 : Int32)), .unset, .unset, .unset, .unset, .unset] [(.ref a325), (.int q5), (.ref a352)])) rfl (by rw [hml]; rfl) (argsL := [(.ref a352), (.int q5), (.ref a325)]) (rest := []) (lenOf pd_25 rfl) rfl (by show 2 * 0 + _ ≤ _; exact Nat.le_of_eq rfl) (hb hby at_115) (fun vm hvm => ⟨rfl, rfl, own_LV.warm (s := s.setVm T363.vm) LV363 hvm, (by decide : 55 + 9 ≤ _), (by decide : 313 + 49 ≤ _)⟩)
              dsimp only [Pt.U, Pt.locs, Pt.cells, Pt.slots] at X364 l364 y364 z364 st364 hQ364 hS364 hg364
              subst l364 y364 z364
              have X364 : Stand p l e room_1 (s.setVm T364.vm) m #[(.int q0), (.int q1), (.int q2), (.int q3), (.int q4), (.int q5)] below meth c T364 _ _ _ := X364
              obtain ⟨qb364, us364, hq364, ev364, wr364, rfl, M364, AR364, QQ364, IS364, KK364, WW364, gev364, gqb364, LV364⟩ := hQ364
              have N364 := Fr.app N363 M364
              refine Goes.aft st364 ?_
              show Goes p e below (EndW s 88 1472 (Q_0 Z q0 q1 q2 q3 q4 q5 h0 n0)) T364 (mkF m 118 #[.val (.int q0), .val (.int q1), .val (.int q2), .val (.int q3), .val (.int q4), .val (.int q5), .val (.ref a325), .val (.int (1 : Int32)), .val (.ref a352), .val (.ref a354), .val (.ref v0), .val (.int (1 : Int32)), .unset, .unset, .unset, .unset, .unset] [])
              have hF364 := hS364
              have hZ364 : Z.Warmed39 (s.setVm T364.vm).vm := State.Warmed39.trans (t := s.setVm T363.vm) hZ363 hS364.1
              have hw364 : (s.setVm T364.vm).vm.findClass "com/example/dipper/dipper/stream/ScannedEventsTakePinLaw" = some m.cls := by rw [show (s.setVm T364.vm).vm = T364.vm from rfl, hS364.1.alike.findClass]; exact hw363
              have hT364 := foldS (T := T363) hT363 (Nat.le_trans hr363 (Nat.le_of_eq (congrArg Array.size (Eq.symm rfl)))) hS364 hg364
              have hr364 : Array.size T364.heap ≤ Array.size T364.heap := Nat.le_refl _
              rw [show (4 : Int32) + (1 : Int32) = (5 : Int32) from by decide] at QQ364
              obtain ⟨hx4, -⟩ | ⟨-, rfl, rfl, gf364, gb364, c0, c1, c2, c3, n5, n6, n7, hvs364, rfl⟩ := AR364
              · exact absurd rfl hx4
              · simp only [List.cons.injEq, Value.ref.injEq, and_true] at hvs364
                obtain ⟨rfl, rfl, rfl, rfl⟩ := hvs364
                have CS364k := CS363k.keep KK364 WW364
                have OZ364k := OZ363k.keep KK364 (allS gq all0)
                have Zs364k : n0 ≤ Array.size T364.heap := Nat.le_trans Zs363k KK364.1
                have Is364k_v0 := Is363k_v0.keep hw KK364 WW364 (ninS (Ne.symm (QQ363.neQ (own_Is.exa Is363k_v0))) nin0)
                have Is364k_v1 := Is363k_v1.keep hw KK364 WW364 (ninS (Ne.symm (QQ363.neQ (own_Is.exa Is363k_v1))) nin0)
                have Is364k_v2 := Is363k_v2.keep hw KK364 WW364 (ninS (Ne.symm (QQ363.neQ (own_Is.exa Is363k_v2))) nin0)
                have Is364k_v3 := Is363k_v3.keep hw KK364 WW364 (ninS (Ne.symm (QQ363.neQ (own_Is.exa Is363k_v3))) nin0)
                have Is364k_a354 := IS363.keep hw KK364 WW364 (ninS (Ne.symm (QQ363.neQ (own_Is.exa IS363))) nin0)
                have hn_qb364 : n0 ≤ qb364 := gqb364
                have hn_ev364 : n0 ≤ ev364 := gev364
                show Goes p e below (EndW s 88 1472 (Q_0 Z q0 q1 q2 q3 q4 q5 h0 n0)) T364 (mkF m 118 #[.val (.int q0), .val (.int q1), .val (.int q2), .val (.int q3), .val (.int q4), .val (.int q5), .val (.ref a325), .val (.int (1 : Int32)), .val (.ref a352), .val (.ref a354), .val (.ref v0), .val (.int (1 : Int32)), .unset, .unset, .unset, .unset, .unset] [])
                refine own_aload (pc' := 120) X364 hx (hb hby at_118) rfl rfl rfl ?_
                refine own_aload (pc' := 122) X364 hx (hb hby at_120) rfl rfl rfl ?_
                obtain ⟨cq366, kq366, q366a, q366b, q366c⟩ := isOf hZ364 rfl QQ364.1
                obtain ⟨_, _, ⟨T365, L365, k365, n365⟩, -, X365, ⟨Lc365, hQ365, l365, y365, z365⟩, st365⟩ := X364.virtualBack hx (y := (⟨"com/example/dipper/dipper/stream/ScannedEvents", "take", "(Lcom/example/dipper/dipper/stream/ScannedEvent;)Lcom/example/dipper/dipper/stream/ScannedEvent;"⟩ : MethodName)) (z := (⟨"com/example/dipper/dipper/stream/ScannedEvents", "take", "(Lcom/example/dipper/dipper/stream/ScannedEvent;)Lcom/example/dipper/dipper/stream/ScannedEvent;"⟩ : MethodName)) hw364 (mvT hZ364 (hw _ (List.mem_of_getElem? (i := 107) rfl))) (mvT hZ364 (hw _ (List.mem_of_getElem? (i := 108) rfl))) (notFace_of_selects (args := #[]) (mvT hZ364 (hw _ (List.mem_of_getElem? (i := 110) rfl)))) (mvT hZ364 (hw _ (List.mem_of_getElem? (i := 110) rfl))) (mvT hZ364 (hw _ (List.mem_of_getElem? (i := 109) rfl))) (by decide) (backOf (W := 0) (rm_21 l Z a0 hw [] a352 qb364 [.ref v1, .ref v2, .ref v3, .ref a354, .ref ev364, .ref n5, .ref n6, .ref n7] (0 : Int32) (5 : Int32) v0 v1 0 (8 : Int32) T364.heap n0 Zs364k QQ364 gq hn_qb364 (own_Is.exa Is364k_v0) (by decide) (by decide) rfl rfl (by decide)) hZ364 (hw _ (List.mem_of_getElem? (i := 111) rfl)) (hw _ (List.mem_of_getElem? (i := 3) rfl)) (by decide) (by decide)) q366a q366c (g := (mkF m 122 #[.val (.int q0), .val (.int q1), .val (.int q2), .val (.int q3), .val (.int q4), .val (.int q5), .val (.ref a325), .val (.int (1 : Int32)), .val (.ref a352), .val (.ref a354), .val (.ref v0), .val (.int (1 : Int32)), .unset, .unset, .unset, .unset, .unset] [(.ref v0), (.ref a352)])) rfl (by rw [hml]; rfl) (Steps.refl _) (argsL := [(.ref v0)]) (rest := []) (lenOf pd_21 rfl) rfl (by show 2 * 0 + _ ≤ _; exact Nat.le_of_eq rfl) (hb hby at_122) (fun _ _ => ⟨rfl, rfl, (by decide : 64 + 0 ≤ _), (by decide : 362 + 0 ≤ _)⟩)
                dsimp only [Pt.U, Pt.locs, Pt.cells, Pt.slots] at X365 l365 y365 z365 st365 hQ365
                subst l365 y365 z365
                obtain ⟨rfl, M365, K365, QQ365⟩ := hQ365
                have N365 := Fr.app N364 M365
                refine Goes.aft st365 ?_
                show Goes p e below (EndW s 88 1472 (Q_0 Z q0 q1 q2 q3 q4 q5 h0 n0)) T365 (mkF m 125 #[.val (.int q0), .val (.int q1), .val (.int q2), .val (.int q3), .val (.int q4), .val (.int q5), .val (.ref a325), .val (.int (1 : Int32)), .val (.ref a352), .val (.ref a354), .val (.ref v0), .val (.int (1 : Int32)), .unset, .unset, .unset, .unset, .unset] [(.ref v1)])
                rw [show ((0 : Int32) + (1 : Int32)) % (8 : Int32) = (1 : Int32) from by decide, show (5 : Int32) - (1 : Int32) = (4 : Int32) from by decide] at QQ365
                have WT365 : own_W Z (_) [a352, qb364] := own_W.qs QQ364.1 (own_W.ra QQ364.2.2.2.2.2 own_W.nil)
                have CS365k := CS364k.keep K365 WT365
                have OZ365k := OZ364k.keep K365 (allS gq (allS hn_qb364 all0))
                have Zs365k : n0 ≤ Array.size T365.heap := Nat.le_trans Zs364k K365.1
                have Is365k_v0 := Is364k_v0.keep hw K365 WT365 (ninS (Ne.symm (QQ364.neQ (own_Is.exa Is364k_v0))) (ninS (Ne.symm (QQ364.2.2.2.2.2.neE hw (own_Is.exa Is364k_v0))) nin0))
                have Is365k_v1 := Is364k_v1.keep hw K365 WT365 (ninS (Ne.symm (QQ364.neQ (own_Is.exa Is364k_v1))) (ninS (Ne.symm (QQ364.2.2.2.2.2.neE hw (own_Is.exa Is364k_v1))) nin0))
                have Is365k_v2 := Is364k_v2.keep hw K365 WT365 (ninS (Ne.symm (QQ364.neQ (own_Is.exa Is364k_v2))) (ninS (Ne.symm (QQ364.2.2.2.2.2.neE hw (own_Is.exa Is364k_v2))) nin0))
                have Is365k_v3 := Is364k_v3.keep hw K365 WT365 (ninS (Ne.symm (QQ364.neQ (own_Is.exa Is364k_v3))) (ninS (Ne.symm (QQ364.2.2.2.2.2.neE hw (own_Is.exa Is364k_v3))) nin0))
                have Is365k_a354 := Is364k_a354.keep hw K365 WT365 (ninS (Ne.symm (QQ364.neQ (own_Is.exa Is364k_a354))) (ninS (Ne.symm (QQ364.2.2.2.2.2.neE hw (own_Is.exa Is364k_a354))) nin0))
                have Is365k_ev364 := IS364.keep hw K365 WT365 (ninS (Ne.symm (QQ364.neQ (own_Is.exa IS364))) (ninS (Ne.symm (QQ364.2.2.2.2.2.neE hw (own_Is.exa IS364))) nin0))
                have LVk365 := own_LV.keep hw LV364 K365 WT365
                have hkk365 : _ ≤ Array.size T365.heap := Nat.le_trans hr364 K365.1
                have QT365 : own_Q Z (T365.heap) a352 qb364 [.ref v0, .ref v2, .ref v3, .ref a354, .ref ev364, .ref n5, .ref n6, .ref n7] (1 : Int32) (4 : Int32) := QQ365
                refine own_astore (pc' := 127) X365 hx (hb hby at_125) rfl (Ls' := #[.val (.int q0), .val (.int q1), .val (.int q2), .val (.int q3), .val (.int q4), .val (.int q5), .val (.ref a325), .val (.int (1 : Int32)), .val (.ref a352), .val (.ref a354), .val (.ref v0), .val (.int (1 : Int32)), .val (.ref v1), .unset, .unset, .unset, .unset]) rfl rfl ?_
                refine own_iload (pc' := 129) X365 hx (hb hby at_127) rfl rfl ?_
                refine own_ifN (pc' := 132) X365 hx (hb hby at_129) (by decide) rfl ?_
                refine own_aload (pc' := 134) X365 hx (hb hby at_132) rfl rfl rfl ?_
                refine own_iloadN (pc' := 135) X365 hx (hb hby at_134) rfl rfl ?_
                refine own_aload (pc' := 137) X365 hx (hb hby at_135) rfl rfl rfl ?_
                obtain ⟨_, _, ⟨T367, L367, k367, n367⟩, -, X367, ⟨Lc367, hQ367, l367, y367, z367⟩, st367⟩ := Jvm.LawKit.callS X365 hx (y := (⟨"com/example/dipper/dipper/stream/ScannedEventsTakePinLaw", "is", "(Lcom/example/dipper/dipper/stream/ScannedEvent;I[C)Z"⟩ : MethodName)) hw364 (mvT hZ364 (hw _ (List.mem_of_getElem? (i := 112) rfl))) (mvT hZ364 (hw _ (List.mem_of_getElem? (i := 113) rfl))) (mvT hZ364 (hw _ (List.mem_of_getElem? (i := 33) rfl))) (mvT hZ364 (hw _ (List.mem_of_getElem? (i := 114) rfl))) (by decide) (backOf (W := 0) (rm_24 l Z a0 hw [] v1 q1 a325 T365.heap n0 Zs365k Is365k_v1 CS365k) hZ364 (hw _ (List.mem_of_getElem? (i := 114) rfl)) (hw _ (List.mem_of_getElem? (i := 33) rfl)) (by decide) (by decide)) (g := (mkF m 137 #[.val (.int q0), .val (.int q1), .val (.int q2), .val (.int q3), .val (.int q4), .val (.int q5), .val (.ref a325), .val (.int (1 : Int32)), .val (.ref a352), .val (.ref a354), .val (.ref v0), .val (.int (1 : Int32)), .val (.ref v1), .unset, .unset, .unset, .unset] [(.ref a325), (.int q1), (.ref v1)])) rfl (by rw [hml]; rfl) (argsL := [(.ref v1), (.int q1), (.ref a325)]) (rest := []) (lenOf pd_24 rfl) rfl (by show 2 * 0 + _ ≤ _; exact Nat.le_of_eq rfl) (hb hby at_137) (fun _ _ => ⟨rfl, rfl, (by decide : 64 + 2 ≤ _), (by decide : 362 + 5 ≤ _)⟩)
                dsimp only [Pt.U, Pt.locs, Pt.cells, Pt.slots] at X367 l367 y367 z367 st367 hQ367
                subst l367 y367 z367
                obtain ⟨rfl, M367, K367⟩ := hQ367
                have N367 := Fr.app N365 M367
                refine Goes.pre st367 ?_
                show Goes p e below (EndW s 88 1472 (Q_0 Z q0 q1 q2 q3 q4 q5 h0 n0)) T367 (mkF m 140 #[.val (.int q0), .val (.int q1), .val (.int q2), .val (.int q3), .val (.int q4), .val (.int q5), .val (.ref a325), .val (.int (1 : Int32)), .val (.ref a352), .val (.ref a354), .val (.ref v0), .val (.int (1 : Int32)), .val (.ref v1), .unset, .unset, .unset, .unset] [(.int (1 : Int32))])
                have CS367k := CS365k.keep K367 own_W.nil
                have OZ367k := OZ365k.keep K367 all0
                have Zs367k : n0 ≤ Array.size T367.heap := Nat.le_trans Zs365k K367.1
                have Is367k_v0 := Is365k_v0.keep hw K367 own_W.nil nin0
                have Is367k_v1 := Is365k_v1.keep hw K367 own_W.nil nin0
                have Is367k_v2 := Is365k_v2.keep hw K367 own_W.nil nin0
                have Is367k_v3 := Is365k_v3.keep hw K367 own_W.nil nin0
                have Is367k_a354 := Is365k_a354.keep hw K367 own_W.nil nin0
                have Is367k_ev364 := Is365k_ev364.keep hw K367 own_W.nil nin0
                have LVk367 := own_LV.keep hw LVk365 K367 own_W.nil
                have hkk367 : _ ≤ Array.size T367.heap := Nat.le_trans hkk365 K367.1
                have QT367 := QT365.keep K367 nin0 nin0
                refine own_ifN (pc' := 143) X367 hx (hb hby at_140) (by decide) rfl ?_
                refine own_iconst (pc' := 144) X367 hx (hb hby at_143) (v := (1 : Int32)) rfl rfl ?_
                refine own_goto X367 hx (hb hby at_144) (by decide) (pc' := 148) (by decide) ?_
                refine own_istore (pc' := 150) X367 hx (hb hby at_148) (Ls' := #[.val (.int q0), .val (.int q1), .val (.int q2), .val (.int q3), .val (.int q4), .val (.int q5), .val (.ref a325), .val (.int (1 : Int32)), .val (.ref a352), .val (.ref a354), .val (.ref v0), .val (.int (1 : Int32)), .val (.ref v1), .unset, .unset, .unset, .unset]) rfl rfl ?_
                refine own_aload (pc' := 152) X367 hx (hb hby at_150) rfl rfl rfl ?_
                refine own_aload (pc' := 154) X367 hx (hb hby at_152) rfl rfl rfl ?_
                obtain ⟨cq369, kq369, q369a, q369b, q369c⟩ := isOf hZ364 rfl QT367.1
                obtain ⟨_, _, ⟨T368, L368, k368, n368⟩, -, X368, ⟨Lc368, hQ368, l368, y368, z368⟩, st368⟩ := X367.virtualBack hx (y := (⟨"com/example/dipper/dipper/stream/ScannedEvents", "take", "(Lcom/example/dipper/dipper/stream/ScannedEvent;)Lcom/example/dipper/dipper/stream/ScannedEvent;"⟩ : MethodName)) (z := (⟨"com/example/dipper/dipper/stream/ScannedEvents", "take", "(Lcom/example/dipper/dipper/stream/ScannedEvent;)Lcom/example/dipper/dipper/stream/ScannedEvent;"⟩ : MethodName)) hw364 (mvT hZ364 (hw _ (List.mem_of_getElem? (i := 107) rfl))) (mvT hZ364 (hw _ (List.mem_of_getElem? (i := 108) rfl))) (notFace_of_selects (args := #[]) (mvT hZ364 (hw _ (List.mem_of_getElem? (i := 110) rfl)))) (mvT hZ364 (hw _ (List.mem_of_getElem? (i := 110) rfl))) (mvT hZ364 (hw _ (List.mem_of_getElem? (i := 109) rfl))) (by decide) (backOf (W := 0) (rm_21 l Z a0 hw [] a352 qb364 [.ref v0, .ref v2, .ref v3, .ref a354, .ref ev364, .ref n5, .ref n6, .ref n7] (1 : Int32) (4 : Int32) v1 v2 1 (8 : Int32) T367.heap n0 Zs367k QT367 gq hn_qb364 (own_Is.exa Is367k_v1) (by decide) (by decide) rfl rfl (by decide)) hZ364 (hw _ (List.mem_of_getElem? (i := 111) rfl)) (hw _ (List.mem_of_getElem? (i := 3) rfl)) (by decide) (by decide)) q369a q369c (g := (mkF m 154 #[.val (.int q0), .val (.int q1), .val (.int q2), .val (.int q3), .val (.int q4), .val (.int q5), .val (.ref a325), .val (.int (1 : Int32)), .val (.ref a352), .val (.ref a354), .val (.ref v0), .val (.int (1 : Int32)), .val (.ref v1), .unset, .unset, .unset, .unset] [(.ref v1), (.ref a352)])) rfl (by rw [hml]; rfl) (Steps.refl _) (argsL := [(.ref v1)]) (rest := []) (lenOf pd_21 rfl) rfl (by show 2 * 0 + _ ≤ _; exact Nat.le_of_eq rfl) (hb hby at_154) (fun _ _ => ⟨rfl, rfl, (by decide : 66 + 0 ≤ _), (by decide : 367 + 0 ≤ _)⟩)
                dsimp only [Pt.U, Pt.locs, Pt.cells, Pt.slots] at X368 l368 y368 z368 st368 hQ368
                subst l368 y368 z368
                obtain ⟨rfl, M368, K368, QQ368⟩ := hQ368
                have N368 := Fr.app N367 M368
                refine Goes.aft st368 ?_
                show Goes p e below (EndW s 88 1472 (Q_0 Z q0 q1 q2 q3 q4 q5 h0 n0)) T368 (mkF m 157 #[.val (.int q0), .val (.int q1), .val (.int q2), .val (.int q3), .val (.int q4), .val (.int q5), .val (.ref a325), .val (.int (1 : Int32)), .val (.ref a352), .val (.ref a354), .val (.ref v0), .val (.int (1 : Int32)), .val (.ref v1), .unset, .unset, .unset, .unset] [(.ref v2)])
                rw [show ((1 : Int32) + (1 : Int32)) % (8 : Int32) = (2 : Int32) from by decide, show (4 : Int32) - (1 : Int32) = (3 : Int32) from by decide] at QQ368
                have WT368 : own_W Z (_) [a352, qb364] := own_W.qs QT367.1 (own_W.ra QT367.2.2.2.2.2 own_W.nil)
                have CS368k := CS367k.keep K368 WT368
                have OZ368k := OZ367k.keep K368 (allS gq (allS hn_qb364 all0))
                have Zs368k : n0 ≤ Array.size T368.heap := Nat.le_trans Zs367k K368.1
                have Is368k_v0 := Is367k_v0.keep hw K368 WT368 (ninS (Ne.symm (QT367.neQ (own_Is.exa Is367k_v0))) (ninS (Ne.symm (QT367.2.2.2.2.2.neE hw (own_Is.exa Is367k_v0))) nin0))
                have Is368k_v1 := Is367k_v1.keep hw K368 WT368 (ninS (Ne.symm (QT367.neQ (own_Is.exa Is367k_v1))) (ninS (Ne.symm (QT367.2.2.2.2.2.neE hw (own_Is.exa Is367k_v1))) nin0))
                have Is368k_v2 := Is367k_v2.keep hw K368 WT368 (ninS (Ne.symm (QT367.neQ (own_Is.exa Is367k_v2))) (ninS (Ne.symm (QT367.2.2.2.2.2.neE hw (own_Is.exa Is367k_v2))) nin0))
                have Is368k_v3 := Is367k_v3.keep hw K368 WT368 (ninS (Ne.symm (QT367.neQ (own_Is.exa Is367k_v3))) (ninS (Ne.symm (QT367.2.2.2.2.2.neE hw (own_Is.exa Is367k_v3))) nin0))
                have Is368k_a354 := Is367k_a354.keep hw K368 WT368 (ninS (Ne.symm (QT367.neQ (own_Is.exa Is367k_a354))) (ninS (Ne.symm (QT367.2.2.2.2.2.neE hw (own_Is.exa Is367k_a354))) nin0))
                have Is368k_ev364 := Is367k_ev364.keep hw K368 WT368 (ninS (Ne.symm (QT367.neQ (own_Is.exa Is367k_ev364))) (ninS (Ne.symm (QT367.2.2.2.2.2.neE hw (own_Is.exa Is367k_ev364))) nin0))
                have LVk368 := own_LV.keep hw LVk367 K368 WT368
                have hkk368 : _ ≤ Array.size T368.heap := Nat.le_trans hkk367 K368.1
                have QT368 : own_Q Z (T368.heap) a352 qb364 [.ref v0, .ref v1, .ref v3, .ref a354, .ref ev364, .ref n5, .ref n6, .ref n7] (2 : Int32) (3 : Int32) := QQ368
                refine own_astore (pc' := 159) X368 hx (hb hby at_157) rfl (Ls' := #[.val (.int q0), .val (.int q1), .val (.int q2), .val (.int q3), .val (.int q4), .val (.int q5), .val (.ref a325), .val (.int (1 : Int32)), .val (.ref a352), .val (.ref a354), .val (.ref v0), .val (.int (1 : Int32)), .val (.ref v1), .val (.ref v2), .unset, .unset, .unset]) rfl rfl ?_
                refine own_iload (pc' := 161) X368 hx (hb hby at_159) rfl rfl ?_
                refine own_ifN (pc' := 164) X368 hx (hb hby at_161) (by decide) rfl ?_
                refine own_aload (pc' := 166) X368 hx (hb hby at_164) rfl rfl rfl ?_
                refine own_iloadN (pc' := 167) X368 hx (hb hby at_166) rfl rfl ?_
                refine own_aload (pc' := 169) X368 hx (hb hby at_167) rfl rfl rfl ?_
                obtain ⟨_, _, ⟨T370, L370, k370, n370⟩, -, X370, ⟨Lc370, hQ370, l370, y370, z370⟩, st370⟩ := Jvm.LawKit.callS X368 hx (y := (⟨"com/example/dipper/dipper/stream/ScannedEventsTakePinLaw", "is", "(Lcom/example/dipper/dipper/stream/ScannedEvent;I[C)Z"⟩ : MethodName)) hw364 (mvT hZ364 (hw _ (List.mem_of_getElem? (i := 112) rfl))) (mvT hZ364 (hw _ (List.mem_of_getElem? (i := 113) rfl))) (mvT hZ364 (hw _ (List.mem_of_getElem? (i := 33) rfl))) (mvT hZ364 (hw _ (List.mem_of_getElem? (i := 114) rfl))) (by decide) (backOf (W := 0) (rm_24 l Z a0 hw [] v2 q2 a325 T368.heap n0 Zs368k Is368k_v2 CS368k) hZ364 (hw _ (List.mem_of_getElem? (i := 114) rfl)) (hw _ (List.mem_of_getElem? (i := 33) rfl)) (by decide) (by decide)) (g := (mkF m 169 #[.val (.int q0), .val (.int q1), .val (.int q2), .val (.int q3), .val (.int q4), .val (.int q5), .val (.ref a325), .val (.int (1 : Int32)), .val (.ref a352), .val (.ref a354), .val (.ref v0), .val (.int (1 : Int32)), .val (.ref v1), .val (.ref v2), .unset, .unset, .unset] [(.ref a325), (.int q2), (.ref v2)])) rfl (by rw [hml]; rfl) (argsL := [(.ref v2), (.int q2), (.ref a325)]) (rest := []) (lenOf pd_24 rfl) rfl (by show 2 * 0 + _ ≤ _; exact Nat.le_of_eq rfl) (hb hby at_169) (fun _ _ => ⟨rfl, rfl, (by decide : 66 + 2 ≤ _), (by decide : 367 + 5 ≤ _)⟩)
                dsimp only [Pt.U, Pt.locs, Pt.cells, Pt.slots] at X370 l370 y370 z370 st370 hQ370
                subst l370 y370 z370
                obtain ⟨rfl, M370, K370⟩ := hQ370
                have N370 := Fr.app N368 M370
                refine Goes.pre st370 ?_
                show Goes p e below (EndW s 88 1472 (Q_0 Z q0 q1 q2 q3 q4 q5 h0 n0)) T370 (mkF m 172 #[.val (.int q0), .val (.int q1), .val (.int q2), .val (.int q3), .val (.int q4), .val (.int q5), .val (.ref a325), .val (.int (1 : Int32)), .val (.ref a352), .val (.ref a354), .val (.ref v0), .val (.int (1 : Int32)), .val (.ref v1), .val (.ref v2), .unset, .unset, .unset] [(.int (1 : Int32))])
                have CS370k := CS368k.keep K370 own_W.nil
                have OZ370k := OZ368k.keep K370 all0
                have Zs370k : n0 ≤ Array.size T370.heap := Nat.le_trans Zs368k K370.1
                have Is370k_v0 := Is368k_v0.keep hw K370 own_W.nil nin0
                have Is370k_v1 := Is368k_v1.keep hw K370 own_W.nil nin0
                have Is370k_v2 := Is368k_v2.keep hw K370 own_W.nil nin0
                have Is370k_v3 := Is368k_v3.keep hw K370 own_W.nil nin0
                have Is370k_a354 := Is368k_a354.keep hw K370 own_W.nil nin0
                have Is370k_ev364 := Is368k_ev364.keep hw K370 own_W.nil nin0
                have LVk370 := own_LV.keep hw LVk368 K370 own_W.nil
                have hkk370 : _ ≤ Array.size T370.heap := Nat.le_trans hkk368 K370.1
                have QT370 := QT368.keep K370 nin0 nin0
                refine own_ifN (pc' := 175) X370 hx (hb hby at_172) (by decide) rfl ?_
                refine own_iconst (pc' := 176) X370 hx (hb hby at_175) (v := (1 : Int32)) rfl rfl ?_
                refine own_goto X370 hx (hb hby at_176) (by decide) (pc' := 180) (by decide) ?_
                refine own_istore (pc' := 182) X370 hx (hb hby at_180) (Ls' := #[.val (.int q0), .val (.int q1), .val (.int q2), .val (.int q3), .val (.int q4), .val (.int q5), .val (.ref a325), .val (.int (1 : Int32)), .val (.ref a352), .val (.ref a354), .val (.ref v0), .val (.int (1 : Int32)), .val (.ref v1), .val (.ref v2), .unset, .unset, .unset]) rfl rfl ?_
                refine own_aload (pc' := 184) X370 hx (hb hby at_182) rfl rfl rfl ?_
                refine own_aload (pc' := 186) X370 hx (hb hby at_184) rfl rfl rfl ?_
                obtain ⟨cq372, kq372, q372a, q372b, q372c⟩ := isOf hZ364 rfl QT370.1
                obtain ⟨_, _, ⟨T371, L371, k371, n371⟩, -, X371, ⟨Lc371, hQ371, l371, y371, z371⟩, st371⟩ := X370.virtualBack hx (y := (⟨"com/example/dipper/dipper/stream/ScannedEvents", "take", "(Lcom/example/dipper/dipper/stream/ScannedEvent;)Lcom/example/dipper/dipper/stream/ScannedEvent;"⟩ : MethodName)) (z := (⟨"com/example/dipper/dipper/stream/ScannedEvents", "take", "(Lcom/example/dipper/dipper/stream/ScannedEvent;)Lcom/example/dipper/dipper/stream/ScannedEvent;"⟩ : MethodName)) hw364 (mvT hZ364 (hw _ (List.mem_of_getElem? (i := 107) rfl))) (mvT hZ364 (hw _ (List.mem_of_getElem? (i := 108) rfl))) (notFace_of_selects (args := #[]) (mvT hZ364 (hw _ (List.mem_of_getElem? (i := 110) rfl)))) (mvT hZ364 (hw _ (List.mem_of_getElem? (i := 110) rfl))) (mvT hZ364 (hw _ (List.mem_of_getElem? (i := 109) rfl))) (by decide) (backOf (W := 0) (rm_21 l Z a0 hw [] a352 qb364 [.ref v0, .ref v1, .ref v3, .ref a354, .ref ev364, .ref n5, .ref n6, .ref n7] (2 : Int32) (3 : Int32) v2 v3 2 (8 : Int32) T370.heap n0 Zs370k QT370 gq hn_qb364 (own_Is.exa Is370k_v2) (by decide) (by decide) rfl rfl (by decide)) hZ364 (hw _ (List.mem_of_getElem? (i := 111) rfl)) (hw _ (List.mem_of_getElem? (i := 3) rfl)) (by decide) (by decide)) q372a q372c (g := (mkF m 186 #[.val (.int q0), .val (.int q1), .val (.int q2), .val (.int q3), .val (.int q4), .val (.int q5), .val (.ref a325), .val (.int (1 : Int32)), .val (.ref a352), .val (.ref a354), .val (.ref v0), .val (.int (1 : Int32)), .val (.ref v1), .val (.ref v2), .unset, .unset, .unset] [(.ref v2), (.ref a352)])) rfl (by rw [hml]; rfl) (Steps.refl _) (argsL := [(.ref v2)]) (rest := []) (lenOf pd_21 rfl) rfl (by show 2 * 0 + _ ≤ _; exact Nat.le_of_eq rfl) (hb hby at_186) (fun _ _ => ⟨rfl, rfl, (by decide : 68 + 0 ≤ _), (by decide : 372 + 0 ≤ _)⟩)
                dsimp only [Pt.U, Pt.locs, Pt.cells, Pt.slots] at X371 l371 y371 z371 st371 hQ371
                subst l371 y371 z371
                obtain ⟨rfl, M371, K371, QQ371⟩ := hQ371
                have N371 := Fr.app N370 M371
                refine Goes.aft st371 ?_
                show Goes p e below (EndW s 88 1472 (Q_0 Z q0 q1 q2 q3 q4 q5 h0 n0)) T371 (mkF m 189 #[.val (.int q0), .val (.int q1), .val (.int q2), .val (.int q3), .val (.int q4), .val (.int q5), .val (.ref a325), .val (.int (1 : Int32)), .val (.ref a352), .val (.ref a354), .val (.ref v0), .val (.int (1 : Int32)), .val (.ref v1), .val (.ref v2), .unset, .unset, .unset] [(.ref v3)])
                rw [show ((2 : Int32) + (1 : Int32)) % (8 : Int32) = (3 : Int32) from by decide, show (3 : Int32) - (1 : Int32) = (2 : Int32) from by decide] at QQ371
                have WT371 : own_W Z (_) [a352, qb364] := own_W.qs QT370.1 (own_W.ra QT370.2.2.2.2.2 own_W.nil)
                have CS371k := CS370k.keep K371 WT371
                have OZ371k := OZ370k.keep K371 (allS gq (allS hn_qb364 all0))
                have Zs371k : n0 ≤ Array.size T371.heap := Nat.le_trans Zs370k K371.1
                have Is371k_v0 := Is370k_v0.keep hw K371 WT371 (ninS (Ne.symm (QT370.neQ (own_Is.exa Is370k_v0))) (ninS (Ne.symm (QT370.2.2.2.2.2.neE hw (own_Is.exa Is370k_v0))) nin0))
                have Is371k_v1 := Is370k_v1.keep hw K371 WT371 (ninS (Ne.symm (QT370.neQ (own_Is.exa Is370k_v1))) (ninS (Ne.symm (QT370.2.2.2.2.2.neE hw (own_Is.exa Is370k_v1))) nin0))
                have Is371k_v2 := Is370k_v2.keep hw K371 WT371 (ninS (Ne.symm (QT370.neQ (own_Is.exa Is370k_v2))) (ninS (Ne.symm (QT370.2.2.2.2.2.neE hw (own_Is.exa Is370k_v2))) nin0))
                have Is371k_v3 := Is370k_v3.keep hw K371 WT371 (ninS (Ne.symm (QT370.neQ (own_Is.exa Is370k_v3))) (ninS (Ne.symm (QT370.2.2.2.2.2.neE hw (own_Is.exa Is370k_v3))) nin0))
                have Is371k_a354 := Is370k_a354.keep hw K371 WT371 (ninS (Ne.symm (QT370.neQ (own_Is.exa Is370k_a354))) (ninS (Ne.symm (QT370.2.2.2.2.2.neE hw (own_Is.exa Is370k_a354))) nin0))
                have Is371k_ev364 := Is370k_ev364.keep hw K371 WT371 (ninS (Ne.symm (QT370.neQ (own_Is.exa Is370k_ev364))) (ninS (Ne.symm (QT370.2.2.2.2.2.neE hw (own_Is.exa Is370k_ev364))) nin0))
                have LVk371 := own_LV.keep hw LVk370 K371 WT371
                have hkk371 : _ ≤ Array.size T371.heap := Nat.le_trans hkk370 K371.1
                have QT371 : own_Q Z (T371.heap) a352 qb364 [.ref v0, .ref v1, .ref v2, .ref a354, .ref ev364, .ref n5, .ref n6, .ref n7] (3 : Int32) (2 : Int32) := QQ371
                refine own_astore (pc' := 191) X371 hx (hb hby at_189) rfl (Ls' := #[.val (.int q0), .val (.int q1), .val (.int q2), .val (.int q3), .val (.int q4), .val (.int q5), .val (.ref a325), .val (.int (1 : Int32)), .val (.ref a352), .val (.ref a354), .val (.ref v0), .val (.int (1 : Int32)), .val (.ref v1), .val (.ref v2), .val (.ref v3), .unset, .unset]) rfl rfl ?_
                refine own_iload (pc' := 193) X371 hx (hb hby at_191) rfl rfl ?_
                refine own_ifN (pc' := 196) X371 hx (hb hby at_193) (by decide) rfl ?_
                refine own_aload (pc' := 198) X371 hx (hb hby at_196) rfl rfl rfl ?_
                refine own_iloadN (pc' := 199) X371 hx (hb hby at_198) rfl rfl ?_
                refine own_aload (pc' := 201) X371 hx (hb hby at_199) rfl rfl rfl ?_
                obtain ⟨_, _, ⟨T373, L373, k373, n373⟩, -, X373, ⟨Lc373, hQ373, l373, y373, z373⟩, st373⟩ := Jvm.LawKit.callS X371 hx (y := (⟨"com/example/dipper/dipper/stream/ScannedEventsTakePinLaw", "is", "(Lcom/example/dipper/dipper/stream/ScannedEvent;I[C)Z"⟩ : MethodName)) hw364 (mvT hZ364 (hw _ (List.mem_of_getElem? (i := 112) rfl))) (mvT hZ364 (hw _ (List.mem_of_getElem? (i := 113) rfl))) (mvT hZ364 (hw _ (List.mem_of_getElem? (i := 33) rfl))) (mvT hZ364 (hw _ (List.mem_of_getElem? (i := 114) rfl))) (by decide) (backOf (W := 0) (rm_24 l Z a0 hw [] v3 q3 a325 T371.heap n0 Zs371k Is371k_v3 CS371k) hZ364 (hw _ (List.mem_of_getElem? (i := 114) rfl)) (hw _ (List.mem_of_getElem? (i := 33) rfl)) (by decide) (by decide)) (g := (mkF m 201 #[.val (.int q0), .val (.int q1), .val (.int q2), .val (.int q3), .val (.int q4), .val (.int q5), .val (.ref a325), .val (.int (1 : Int32)), .val (.ref a352), .val (.ref a354), .val (.ref v0), .val (.int (1 : Int32)), .val (.ref v1), .val (.ref v2), .val (.ref v3), .unset, .unset] [(.ref a325), (.int q3), (.ref v3)])) rfl (by rw [hml]; rfl) (argsL := [(.ref v3), (.int q3), (.ref a325)]) (rest := []) (lenOf pd_24 rfl) rfl (by show 2 * 0 + _ ≤ _; exact Nat.le_of_eq rfl) (hb hby at_201) (fun _ _ => ⟨rfl, rfl, (by decide : 68 + 2 ≤ _), (by decide : 372 + 5 ≤ _)⟩)
                dsimp only [Pt.U, Pt.locs, Pt.cells, Pt.slots] at X373 l373 y373 z373 st373 hQ373
                subst l373 y373 z373
                obtain ⟨rfl, M373, K373⟩ := hQ373
                have N373 := Fr.app N371 M373
                refine Goes.pre st373 ?_
                show Goes p e below (EndW s 88 1472 (Q_0 Z q0 q1 q2 q3 q4 q5 h0 n0)) T373 (mkF m 204 #[.val (.int q0), .val (.int q1), .val (.int q2), .val (.int q3), .val (.int q4), .val (.int q5), .val (.ref a325), .val (.int (1 : Int32)), .val (.ref a352), .val (.ref a354), .val (.ref v0), .val (.int (1 : Int32)), .val (.ref v1), .val (.ref v2), .val (.ref v3), .unset, .unset] [(.int (1 : Int32))])
                have CS373k := CS371k.keep K373 own_W.nil
                have OZ373k := OZ371k.keep K373 all0
                have Zs373k : n0 ≤ Array.size T373.heap := Nat.le_trans Zs371k K373.1
                have Is373k_v0 := Is371k_v0.keep hw K373 own_W.nil nin0
                have Is373k_v1 := Is371k_v1.keep hw K373 own_W.nil nin0
                have Is373k_v2 := Is371k_v2.keep hw K373 own_W.nil nin0
                have Is373k_v3 := Is371k_v3.keep hw K373 own_W.nil nin0
                have Is373k_a354 := Is371k_a354.keep hw K373 own_W.nil nin0
                have Is373k_ev364 := Is371k_ev364.keep hw K373 own_W.nil nin0
                have LVk373 := own_LV.keep hw LVk371 K373 own_W.nil
                have hkk373 : _ ≤ Array.size T373.heap := Nat.le_trans hkk371 K373.1
                have QT373 := QT371.keep K373 nin0 nin0
                refine own_ifN (pc' := 207) X373 hx (hb hby at_204) (by decide) rfl ?_
                refine own_iconst (pc' := 208) X373 hx (hb hby at_207) (v := (1 : Int32)) rfl rfl ?_
                refine own_goto X373 hx (hb hby at_208) (by decide) (pc' := 212) (by decide) ?_
                refine own_istore (pc' := 214) X373 hx (hb hby at_212) (Ls' := #[.val (.int q0), .val (.int q1), .val (.int q2), .val (.int q3), .val (.int q4), .val (.int q5), .val (.ref a325), .val (.int (1 : Int32)), .val (.ref a352), .val (.ref a354), .val (.ref v0), .val (.int (1 : Int32)), .val (.ref v1), .val (.ref v2), .val (.ref v3), .unset, .unset]) rfl rfl ?_
                refine own_aload (pc' := 216) X373 hx (hb hby at_214) rfl rfl rfl ?_
                refine own_aload (pc' := 218) X373 hx (hb hby at_216) rfl rfl rfl ?_
                obtain ⟨cq375, kq375, q375a, q375b, q375c⟩ := isOf hZ364 rfl QT373.1
                obtain ⟨_, _, ⟨T374, L374, k374, n374⟩, -, X374, ⟨Lc374, hQ374, l374, y374, z374⟩, st374⟩ := X373.virtualBack hx (y := (⟨"com/example/dipper/dipper/stream/ScannedEvents", "take", "(Lcom/example/dipper/dipper/stream/ScannedEvent;)Lcom/example/dipper/dipper/stream/ScannedEvent;"⟩ : MethodName)) (z := (⟨"com/example/dipper/dipper/stream/ScannedEvents", "take", "(Lcom/example/dipper/dipper/stream/ScannedEvent;)Lcom/example/dipper/dipper/stream/ScannedEvent;"⟩ : MethodName)) hw364 (mvT hZ364 (hw _ (List.mem_of_getElem? (i := 107) rfl))) (mvT hZ364 (hw _ (List.mem_of_getElem? (i := 108) rfl))) (notFace_of_selects (args := #[]) (mvT hZ364 (hw _ (List.mem_of_getElem? (i := 110) rfl)))) (mvT hZ364 (hw _ (List.mem_of_getElem? (i := 110) rfl))) (mvT hZ364 (hw _ (List.mem_of_getElem? (i := 109) rfl))) (by decide) (backOf (W := 0) (rm_21 l Z a0 hw [] a352 qb364 [.ref v0, .ref v1, .ref v2, .ref a354, .ref ev364, .ref n5, .ref n6, .ref n7] (3 : Int32) (2 : Int32) v3 a354 3 (8 : Int32) T373.heap n0 Zs373k QT373 gq hn_qb364 (own_Is.exa Is373k_v3) (by decide) (by decide) rfl rfl (by decide)) hZ364 (hw _ (List.mem_of_getElem? (i := 111) rfl)) (hw _ (List.mem_of_getElem? (i := 3) rfl)) (by decide) (by decide)) q375a q375c (g := (mkF m 218 #[.val (.int q0), .val (.int q1), .val (.int q2), .val (.int q3), .val (.int q4), .val (.int q5), .val (.ref a325), .val (.int (1 : Int32)), .val (.ref a352), .val (.ref a354), .val (.ref v0), .val (.int (1 : Int32)), .val (.ref v1), .val (.ref v2), .val (.ref v3), .unset, .unset] [(.ref v3), (.ref a352)])) rfl (by rw [hml]; rfl) (Steps.refl _) (argsL := [(.ref v3)]) (rest := []) (lenOf pd_21 rfl) rfl (by show 2 * 0 + _ ≤ _; exact Nat.le_of_eq rfl) (hb hby at_218) (fun _ _ => ⟨rfl, rfl, (by decide : 70 + 0 ≤ _), (by decide : 377 + 0 ≤ _)⟩)
                dsimp only [Pt.U, Pt.locs, Pt.cells, Pt.slots] at X374 l374 y374 z374 st374 hQ374
                subst l374 y374 z374
                obtain ⟨rfl, M374, K374, QQ374⟩ := hQ374
                have N374 := Fr.app N373 M374
                refine Goes.aft st374 ?_
                show Goes p e below (EndW s 88 1472 (Q_0 Z q0 q1 q2 q3 q4 q5 h0 n0)) T374 (mkF m 221 #[.val (.int q0), .val (.int q1), .val (.int q2), .val (.int q3), .val (.int q4), .val (.int q5), .val (.ref a325), .val (.int (1 : Int32)), .val (.ref a352), .val (.ref a354), .val (.ref v0), .val (.int (1 : Int32)), .val (.ref v1), .val (.ref v2), .val (.ref v3), .unset, .unset] [(.ref a354)])
                rw [show ((3 : Int32) + (1 : Int32)) % (8 : Int32) = (4 : Int32) from by decide, show (2 : Int32) - (1 : Int32) = (1 : Int32) from by decide] at QQ374
                have WT374 : own_W Z (_) [a352, qb364] := own_W.qs QT373.1 (own_W.ra QT373.2.2.2.2.2 own_W.nil)
                have CS374k := CS373k.keep K374 WT374
                have OZ374k := OZ373k.keep K374 (allS gq (allS hn_qb364 all0))
                have Zs374k : n0 ≤ Array.size T374.heap := Nat.le_trans Zs373k K374.1
                have Is374k_v0 := Is373k_v0.keep hw K374 WT374 (ninS (Ne.symm (QT373.neQ (own_Is.exa Is373k_v0))) (ninS (Ne.symm (QT373.2.2.2.2.2.neE hw (own_Is.exa Is373k_v0))) nin0))
                have Is374k_v1 := Is373k_v1.keep hw K374 WT374 (ninS (Ne.symm (QT373.neQ (own_Is.exa Is373k_v1))) (ninS (Ne.symm (QT373.2.2.2.2.2.neE hw (own_Is.exa Is373k_v1))) nin0))
                have Is374k_v2 := Is373k_v2.keep hw K374 WT374 (ninS (Ne.symm (QT373.neQ (own_Is.exa Is373k_v2))) (ninS (Ne.symm (QT373.2.2.2.2.2.neE hw (own_Is.exa Is373k_v2))) nin0))
                have Is374k_v3 := Is373k_v3.keep hw K374 WT374 (ninS (Ne.symm (QT373.neQ (own_Is.exa Is373k_v3))) (ninS (Ne.symm (QT373.2.2.2.2.2.neE hw (own_Is.exa Is373k_v3))) nin0))
                have Is374k_a354 := Is373k_a354.keep hw K374 WT374 (ninS (Ne.symm (QT373.neQ (own_Is.exa Is373k_a354))) (ninS (Ne.symm (QT373.2.2.2.2.2.neE hw (own_Is.exa Is373k_a354))) nin0))
                have Is374k_ev364 := Is373k_ev364.keep hw K374 WT374 (ninS (Ne.symm (QT373.neQ (own_Is.exa Is373k_ev364))) (ninS (Ne.symm (QT373.2.2.2.2.2.neE hw (own_Is.exa Is373k_ev364))) nin0))
                have LVk374 := own_LV.keep hw LVk373 K374 WT374
                have hkk374 : _ ≤ Array.size T374.heap := Nat.le_trans hkk373 K374.1
                have QT374 : own_Q Z (T374.heap) a352 qb364 [.ref v0, .ref v1, .ref v2, .ref v3, .ref ev364, .ref n5, .ref n6, .ref n7] (4 : Int32) (1 : Int32) := QQ374
                refine own_astore (pc' := 223) X374 hx (hb hby at_221) rfl (Ls' := #[.val (.int q0), .val (.int q1), .val (.int q2), .val (.int q3), .val (.int q4), .val (.int q5), .val (.ref a325), .val (.int (1 : Int32)), .val (.ref a352), .val (.ref a354), .val (.ref v0), .val (.int (1 : Int32)), .val (.ref v1), .val (.ref v2), .val (.ref v3), .val (.ref a354), .unset]) rfl rfl ?_
                refine own_iload (pc' := 225) X374 hx (hb hby at_223) rfl rfl ?_
                refine own_ifN (pc' := 228) X374 hx (hb hby at_225) (by decide) rfl ?_
                refine own_aload (pc' := 230) X374 hx (hb hby at_228) rfl rfl rfl ?_
                refine own_iload (pc' := 232) X374 hx (hb hby at_230) rfl rfl ?_
                refine own_aload (pc' := 234) X374 hx (hb hby at_232) rfl rfl rfl ?_
                obtain ⟨_, _, ⟨T376, L376, k376, n376⟩, -, X376, ⟨Lc376, hQ376, l376, y376, z376⟩, st376⟩ := Jvm.LawKit.callS X374 hx (y := (⟨"com/example/dipper/dipper/stream/ScannedEventsTakePinLaw", "is", "(Lcom/example/dipper/dipper/stream/ScannedEvent;I[C)Z"⟩ : MethodName)) hw364 (mvT hZ364 (hw _ (List.mem_of_getElem? (i := 112) rfl))) (mvT hZ364 (hw _ (List.mem_of_getElem? (i := 113) rfl))) (mvT hZ364 (hw _ (List.mem_of_getElem? (i := 33) rfl))) (mvT hZ364 (hw _ (List.mem_of_getElem? (i := 114) rfl))) (by decide) (backOf (W := 0) (rm_24 l Z a0 hw [] a354 q4 a325 T374.heap n0 Zs374k Is374k_a354 CS374k) hZ364 (hw _ (List.mem_of_getElem? (i := 114) rfl)) (hw _ (List.mem_of_getElem? (i := 33) rfl)) (by decide) (by decide)) (g := (mkF m 234 #[.val (.int q0), .val (.int q1), .val (.int q2), .val (.int q3), .val (.int q4), .val (.int q5), .val (.ref a325), .val (.int (1 : Int32)), .val (.ref a352), .val (.ref a354), .val (.ref v0), .val (.int (1 : Int32)), .val (.ref v1), .val (.ref v2), .val (.ref v3), .val (.ref a354), .unset] [(.ref a325), (.int q4), (.ref a354)])) rfl (by rw [hml]; rfl) (argsL := [(.ref a354), (.int q4), (.ref a325)]) (rest := []) (lenOf pd_24 rfl) rfl (by show 2 * 0 + _ ≤ _; exact Nat.le_of_eq rfl) (hb hby at_234) (fun _ _ => ⟨rfl, rfl, (by decide : 70 + 2 ≤ _), (by decide : 377 + 5 ≤ _)⟩)
                dsimp only [Pt.U, Pt.locs, Pt.cells, Pt.slots] at X376 l376 y376 z376 st376 hQ376
                subst l376 y376 z376
                obtain ⟨rfl, M376, K376⟩ := hQ376
                have N376 := Fr.app N374 M376
                refine Goes.pre st376 ?_
                show Goes p e below (EndW s 88 1472 (Q_0 Z q0 q1 q2 q3 q4 q5 h0 n0)) T376 (mkF m 237 #[.val (.int q0), .val (.int q1), .val (.int q2), .val (.int q3), .val (.int q4), .val (.int q5), .val (.ref a325), .val (.int (1 : Int32)), .val (.ref a352), .val (.ref a354), .val (.ref v0), .val (.int (1 : Int32)), .val (.ref v1), .val (.ref v2), .val (.ref v3), .val (.ref a354), .unset] [(.int (1 : Int32))])
                have CS376k := CS374k.keep K376 own_W.nil
                have OZ376k := OZ374k.keep K376 all0
                have Zs376k : n0 ≤ Array.size T376.heap := Nat.le_trans Zs374k K376.1
                have Is376k_v0 := Is374k_v0.keep hw K376 own_W.nil nin0
                have Is376k_v1 := Is374k_v1.keep hw K376 own_W.nil nin0
                have Is376k_v2 := Is374k_v2.keep hw K376 own_W.nil nin0
                have Is376k_v3 := Is374k_v3.keep hw K376 own_W.nil nin0
                have Is376k_a354 := Is374k_a354.keep hw K376 own_W.nil nin0
                have Is376k_ev364 := Is374k_ev364.keep hw K376 own_W.nil nin0
                have LVk376 := own_LV.keep hw LVk374 K376 own_W.nil
                have hkk376 : _ ≤ Array.size T376.heap := Nat.le_trans hkk374 K376.1
                have QT376 := QT374.keep K376 nin0 nin0
                refine own_ifN (pc' := 240) X376 hx (hb hby at_237) (by decide) rfl ?_
                refine own_aload (pc' := 242) X376 hx (hb hby at_240) rfl rfl rfl ?_
                refine own_aload (pc' := 244) X376 hx (hb hby at_242) rfl rfl rfl ?_
                refine own_acmpN (pc' := 247) X376 hx (hb hby at_244) (by simp [if_acmp.holds]) rfl ?_
                refine own_iconst (pc' := 248) X376 hx (hb hby at_247) (v := (1 : Int32)) rfl rfl ?_
                refine own_goto X376 hx (hb hby at_248) (by decide) (pc' := 252) (by decide) ?_
                refine own_istore (pc' := 254) X376 hx (hb hby at_252) (Ls' := #[.val (.int q0), .val (.int q1), .val (.int q2), .val (.int q3), .val (.int q4), .val (.int q5), .val (.ref a325), .val (.int (1 : Int32)), .val (.ref a352), .val (.ref a354), .val (.ref v0), .val (.int (1 : Int32)), .val (.ref v1), .val (.ref v2), .val (.ref v3), .val (.ref a354), .unset]) rfl rfl ?_
                refine own_iload (pc' := 256) X376 hx (hb hby at_254) rfl rfl ?_
                refine own_ifN (pc' := 259) X376 hx (hb hby at_256) (by decide) rfl ?_
                refine own_aload (pc' := 261) X376 hx (hb hby at_259) rfl rfl rfl ?_
                refine own_aload (pc' := 263) X376 hx (hb hby at_261) rfl rfl rfl ?_
                obtain ⟨cq378, kq378, q378a, q378b, q378c⟩ := isOf hZ364 rfl QT376.1
                obtain ⟨_, _, ⟨T377, L377, k377, n377⟩, -, X377, ⟨Lc377, hQ377, l377, y377, z377⟩, st377⟩ := X376.virtualBack hx (y := (⟨"com/example/dipper/dipper/stream/ScannedEvents", "take", "(Lcom/example/dipper/dipper/stream/ScannedEvent;)Lcom/example/dipper/dipper/stream/ScannedEvent;"⟩ : MethodName)) (z := (⟨"com/example/dipper/dipper/stream/ScannedEvents", "take", "(Lcom/example/dipper/dipper/stream/ScannedEvent;)Lcom/example/dipper/dipper/stream/ScannedEvent;"⟩ : MethodName)) hw364 (mvT hZ364 (hw _ (List.mem_of_getElem? (i := 107) rfl))) (mvT hZ364 (hw _ (List.mem_of_getElem? (i := 108) rfl))) (notFace_of_selects (args := #[]) (mvT hZ364 (hw _ (List.mem_of_getElem? (i := 110) rfl)))) (mvT hZ364 (hw _ (List.mem_of_getElem? (i := 110) rfl))) (mvT hZ364 (hw _ (List.mem_of_getElem? (i := 109) rfl))) (by decide) (backOf (W := 0) (rm_21 l Z a0 hw [] a352 qb364 [.ref v0, .ref v1, .ref v2, .ref v3, .ref ev364, .ref n5, .ref n6, .ref n7] (4 : Int32) (1 : Int32) a354 ev364 4 (8 : Int32) T376.heap n0 Zs376k QT376 gq hn_qb364 (own_Is.exa Is376k_a354) (by decide) (by decide) rfl rfl (by decide)) hZ364 (hw _ (List.mem_of_getElem? (i := 111) rfl)) (hw _ (List.mem_of_getElem? (i := 3) rfl)) (by decide) (by decide)) q378a q378c (g := (mkF m 263 #[.val (.int q0), .val (.int q1), .val (.int q2), .val (.int q3), .val (.int q4), .val (.int q5), .val (.ref a325), .val (.int (1 : Int32)), .val (.ref a352), .val (.ref a354), .val (.ref v0), .val (.int (1 : Int32)), .val (.ref v1), .val (.ref v2), .val (.ref v3), .val (.ref a354), .unset] [(.ref a354), (.ref a352)])) rfl (by rw [hml]; rfl) (Steps.refl _) (argsL := [(.ref a354)]) (rest := []) (lenOf pd_21 rfl) rfl (by show 2 * 0 + _ ≤ _; exact Nat.le_of_eq rfl) (hb hby at_263) (fun _ _ => ⟨rfl, rfl, (by decide : 72 + 0 ≤ _), (by decide : 382 + 0 ≤ _)⟩)
                dsimp only [Pt.U, Pt.locs, Pt.cells, Pt.slots] at X377 l377 y377 z377 st377 hQ377
                subst l377 y377 z377
                obtain ⟨rfl, M377, K377, QQ377⟩ := hQ377
                have N377 := Fr.app N376 M377
                refine Goes.aft st377 ?_
                show Goes p e below (EndW s 88 1472 (Q_0 Z q0 q1 q2 q3 q4 q5 h0 n0)) T377 (mkF m 266 #[.val (.int q0), .val (.int q1), .val (.int q2), .val (.int q3), .val (.int q4), .val (.int q5), .val (.ref a325), .val (.int (1 : Int32)), .val (.ref a352), .val (.ref a354), .val (.ref v0), .val (.int (1 : Int32)), .val (.ref v1), .val (.ref v2), .val (.ref v3), .val (.ref a354), .unset] [(.ref ev364)])
                rw [show ((4 : Int32) + (1 : Int32)) % (8 : Int32) = (5 : Int32) from by decide, show (1 : Int32) - (1 : Int32) = (0 : Int32) from by decide] at QQ377
                have WT377 : own_W Z (_) [a352, qb364] := own_W.qs QT376.1 (own_W.ra QT376.2.2.2.2.2 own_W.nil)
                have CS377k := CS376k.keep K377 WT377
                have OZ377k := OZ376k.keep K377 (allS gq (allS hn_qb364 all0))
                have Zs377k : n0 ≤ Array.size T377.heap := Nat.le_trans Zs376k K377.1
                have Is377k_v0 := Is376k_v0.keep hw K377 WT377 (ninS (Ne.symm (QT376.neQ (own_Is.exa Is376k_v0))) (ninS (Ne.symm (QT376.2.2.2.2.2.neE hw (own_Is.exa Is376k_v0))) nin0))
                have Is377k_v1 := Is376k_v1.keep hw K377 WT377 (ninS (Ne.symm (QT376.neQ (own_Is.exa Is376k_v1))) (ninS (Ne.symm (QT376.2.2.2.2.2.neE hw (own_Is.exa Is376k_v1))) nin0))
                have Is377k_v2 := Is376k_v2.keep hw K377 WT377 (ninS (Ne.symm (QT376.neQ (own_Is.exa Is376k_v2))) (ninS (Ne.symm (QT376.2.2.2.2.2.neE hw (own_Is.exa Is376k_v2))) nin0))
                have Is377k_v3 := Is376k_v3.keep hw K377 WT377 (ninS (Ne.symm (QT376.neQ (own_Is.exa Is376k_v3))) (ninS (Ne.symm (QT376.2.2.2.2.2.neE hw (own_Is.exa Is376k_v3))) nin0))
                have Is377k_a354 := Is376k_a354.keep hw K377 WT377 (ninS (Ne.symm (QT376.neQ (own_Is.exa Is376k_a354))) (ninS (Ne.symm (QT376.2.2.2.2.2.neE hw (own_Is.exa Is376k_a354))) nin0))
                have Is377k_ev364 := Is376k_ev364.keep hw K377 WT377 (ninS (Ne.symm (QT376.neQ (own_Is.exa Is376k_ev364))) (ninS (Ne.symm (QT376.2.2.2.2.2.neE hw (own_Is.exa Is376k_ev364))) nin0))
                have LVk377 := own_LV.keep hw LVk376 K377 WT377
                have hkk377 : _ ≤ Array.size T377.heap := Nat.le_trans hkk376 K377.1
                have QT377 : own_Q Z (T377.heap) a352 qb364 [.ref v0, .ref v1, .ref v2, .ref v3, .ref a354, .ref n5, .ref n6, .ref n7] (5 : Int32) (0 : Int32) := QQ377
                refine own_astore (pc' := 268) X377 hx (hb hby at_266) rfl (Ls' := #[.val (.int q0), .val (.int q1), .val (.int q2), .val (.int q3), .val (.int q4), .val (.int q5), .val (.ref a325), .val (.int (1 : Int32)), .val (.ref a352), .val (.ref a354), .val (.ref v0), .val (.int (1 : Int32)), .val (.ref v1), .val (.ref v2), .val (.ref v3), .val (.ref a354), .val (.ref ev364)]) rfl rfl ?_
                refine own_iload (pc' := 270) X377 hx (hb hby at_268) rfl rfl ?_
                refine own_ifN (pc' := 273) X377 hx (hb hby at_270) (by decide) rfl ?_
                refine own_aload (pc' := 275) X377 hx (hb hby at_273) rfl rfl rfl ?_
                refine own_iload (pc' := 277) X377 hx (hb hby at_275) rfl rfl ?_
                refine own_aload (pc' := 279) X377 hx (hb hby at_277) rfl rfl rfl ?_
                obtain ⟨_, _, ⟨T379, L379, k379, n379⟩, -, X379, ⟨Lc379, hQ379, l379, y379, z379⟩, st379⟩ := Jvm.LawKit.callS X377 hx (y := (⟨"com/example/dipper/dipper/stream/ScannedEventsTakePinLaw", "is", "(Lcom/example/dipper/dipper/stream/ScannedEvent;I[C)Z"⟩ : MethodName)) hw364 (mvT hZ364 (hw _ (List.mem_of_getElem? (i := 112) rfl))) (mvT hZ364 (hw _ (List.mem_of_getElem? (i := 113) rfl))) (mvT hZ364 (hw _ (List.mem_of_getElem? (i := 33) rfl))) (mvT hZ364 (hw _ (List.mem_of_getElem? (i := 114) rfl))) (by decide) (backOf (W := 0) (rm_24 l Z a0 hw [] ev364 q5 a325 T377.heap n0 Zs377k Is377k_ev364 CS377k) hZ364 (hw _ (List.mem_of_getElem? (i := 114) rfl)) (hw _ (List.mem_of_getElem? (i := 33) rfl)) (by decide) (by decide)) (g := (mkF m 279 #[.val (.int q0), .val (.int q1), .val (.int q2), .val (.int q3), .val (.int q4), .val (.int q5), .val (.ref a325), .val (.int (1 : Int32)), .val (.ref a352), .val (.ref a354), .val (.ref v0), .val (.int (1 : Int32)), .val (.ref v1), .val (.ref v2), .val (.ref v3), .val (.ref a354), .val (.ref ev364)] [(.ref a325), (.int q5), (.ref ev364)])) rfl (by rw [hml]; rfl) (argsL := [(.ref ev364), (.int q5), (.ref a325)]) (rest := []) (lenOf pd_24 rfl) rfl (by show 2 * 0 + _ ≤ _; exact Nat.le_of_eq rfl) (hb hby at_279) (fun _ _ => ⟨rfl, rfl, (by decide : 72 + 2 ≤ _), (by decide : 382 + 5 ≤ _)⟩)
                dsimp only [Pt.U, Pt.locs, Pt.cells, Pt.slots] at X379 l379 y379 z379 st379 hQ379
                subst l379 y379 z379
                obtain ⟨rfl, M379, K379⟩ := hQ379
                have N379 := Fr.app N377 M379
                refine Goes.pre st379 ?_
                show Goes p e below (EndW s 88 1472 (Q_0 Z q0 q1 q2 q3 q4 q5 h0 n0)) T379 (mkF m 282 #[.val (.int q0), .val (.int q1), .val (.int q2), .val (.int q3), .val (.int q4), .val (.int q5), .val (.ref a325), .val (.int (1 : Int32)), .val (.ref a352), .val (.ref a354), .val (.ref v0), .val (.int (1 : Int32)), .val (.ref v1), .val (.ref v2), .val (.ref v3), .val (.ref a354), .val (.ref ev364)] [(.int (1 : Int32))])
                have CS379k := CS377k.keep K379 own_W.nil
                have OZ379k := OZ377k.keep K379 all0
                have Zs379k : n0 ≤ Array.size T379.heap := Nat.le_trans Zs377k K379.1
                have Is379k_v0 := Is377k_v0.keep hw K379 own_W.nil nin0
                have Is379k_v1 := Is377k_v1.keep hw K379 own_W.nil nin0
                have Is379k_v2 := Is377k_v2.keep hw K379 own_W.nil nin0
                have Is379k_v3 := Is377k_v3.keep hw K379 own_W.nil nin0
                have Is379k_a354 := Is377k_a354.keep hw K379 own_W.nil nin0
                have Is379k_ev364 := Is377k_ev364.keep hw K379 own_W.nil nin0
                have LVk379 := own_LV.keep hw LVk377 K379 own_W.nil
                have hkk379 : _ ≤ Array.size T379.heap := Nat.le_trans hkk377 K379.1
                have QT379 := QT377.keep K379 nin0 nin0
                refine own_ifN (pc' := 285) X379 hx (hb hby at_282) (by decide) rfl ?_
                refine own_iconst (pc' := 286) X379 hx (hb hby at_285) (v := (1 : Int32)) rfl rfl ?_
                refine own_goto X379 hx (hb hby at_286) (by decide) (pc' := 290) (by decide) ?_
                refine own_istore (pc' := 292) X379 hx (hb hby at_290) (Ls' := #[.val (.int q0), .val (.int q1), .val (.int q2), .val (.int q3), .val (.int q4), .val (.int q5), .val (.ref a325), .val (.int (1 : Int32)), .val (.ref a352), .val (.ref a354), .val (.ref v0), .val (.int (1 : Int32)), .val (.ref v1), .val (.ref v2), .val (.ref v3), .val (.ref a354), .val (.ref ev364)]) rfl rfl ?_
                refine own_iload (pc' := 294) X379 hx (hb hby at_292) rfl rfl ?_
                refine own_ifN (pc' := 297) X379 hx (hb hby at_294) (by decide) rfl ?_
                refine own_aload (pc' := 299) X379 hx (hb hby at_297) rfl rfl rfl ?_
                obtain ⟨cq381, kq381, q381a, q381b, q381c⟩ := isOf hZ364 rfl QT379.1
                obtain ⟨_, _, ⟨T380, L380, k380, n380⟩, -, X380, ⟨Lc380, hQ380, l380, y380, z380⟩, st380⟩ := X379.virtualBack hx (y := (⟨"com/example/dipper/dipper/stream/ScannedEvents", "isEmpty", "()Z"⟩ : MethodName)) (z := (⟨"com/example/dipper/dipper/stream/ScannedEvents", "isEmpty", "()Z"⟩ : MethodName)) hw364 (mvT hZ364 (hw _ (List.mem_of_getElem? (i := 139) rfl))) (mvT hZ364 (hw _ (List.mem_of_getElem? (i := 140) rfl))) (notFace_of_selects (args := #[]) (mvT hZ364 (hw _ (List.mem_of_getElem? (i := 142) rfl)))) (mvT hZ364 (hw _ (List.mem_of_getElem? (i := 142) rfl))) (mvT hZ364 (hw _ (List.mem_of_getElem? (i := 141) rfl))) (by decide) (backOf (W := 0) (rm_22 l Z a0 hw [] a352 T379.heap n0 Zs379k QT379.2.2.2.1) hZ364 (hw _ (List.mem_of_getElem? (i := 143) rfl)) (hw _ (List.mem_of_getElem? (i := 3) rfl)) (by decide) (by decide)) q381a q381c (g := (mkF m 299 #[.val (.int q0), .val (.int q1), .val (.int q2), .val (.int q3), .val (.int q4), .val (.int q5), .val (.ref a325), .val (.int (1 : Int32)), .val (.ref a352), .val (.ref a354), .val (.ref v0), .val (.int (1 : Int32)), .val (.ref v1), .val (.ref v2), .val (.ref v3), .val (.ref a354), .val (.ref ev364)] [(.ref a352)])) rfl (by rw [hml]; rfl) (Steps.refl _) (argsL := []) (rest := []) (lenOf pd_22 rfl) rfl (by show 2 * 0 + _ ≤ _; exact Nat.le_of_eq rfl) (hb hby at_299) (fun _ _ => ⟨rfl, rfl, (by decide : 74 + 0 ≤ _), (by decide : 387 + 0 ≤ _)⟩)
                dsimp only [Pt.U, Pt.locs, Pt.cells, Pt.slots] at X380 l380 y380 z380 st380 hQ380
                subst l380 y380 z380
                obtain ⟨rfl, M380, eq380⟩ := hQ380
                have N380 := Fr.app N379 M380
                refine Goes.aft st380 ?_
                show Goes p e below (EndW s 88 1472 (Q_0 Z q0 q1 q2 q3 q4 q5 h0 n0)) T380 (mkF m 302 #[.val (.int q0), .val (.int q1), .val (.int q2), .val (.int q3), .val (.int q4), .val (.int q5), .val (.ref a325), .val (.int (1 : Int32)), .val (.ref a352), .val (.ref a354), .val (.ref v0), .val (.int (1 : Int32)), .val (.ref v1), .val (.ref v2), .val (.ref v3), .val (.ref a354), .val (.ref ev364)] [(.int (1 : Int32))])
                refine own_ifN (pc' := 305) X380 hx (hb hby at_302) (by decide) rfl ?_
                refine own_iconst (pc' := 306) X380 hx (hb hby at_305) (v := (1 : Int32)) rfl rfl ?_
                refine own_goto X380 hx (hb hby at_306) (by decide) (pc' := 310) (by decide) ?_
                exact own_retNW X380 hx hT364 (Nat.le_trans hkk379 (Nat.le_of_eq (congrArg Array.size (Eq.symm eq380)))) hlk (t := .boolean) Bd.returns (by simp) (hb hby at_310) (by decide) (by decide) ⟨rfl, N380⟩
            · exact absurd hx4 (by decide)
          · exact absurd hx4 (by decide)
        · exact absurd hx4 (by decide)
      · exact absurd hx4 (by decide)
    · exact absurd hx4 (by decide)
set_option maxRecDepth 65536 in
set_option maxHeartbeats 40000000 in
theorem comes_1 {Post : Tables → Env → Array Value → State → Outcome → State → Prop} (hpost : ∀ tb e args s v u, (limb_1_1.after args s (.returned v) u = true ∧ limb_1_2.after args s (.returned v) u = true ∧ True) → ReturnedEndW s (.returned v) u (Jvm.fieldLocs frame_1_writes args s ++ Jvm.arrayLocs frame_1_arrays args s ++ Jvm.staticLocs frame_1_statics s) 88 1472 → Post tb e args s (.returned v) u) :
    ArmFor flags0 classFile x code maxLocals ret World_1 tables_1 room_1 Calls_1 rest_1 Pre_1 Post := by
  intro l hfl _ _ p e ha hc hk s m args below hf hA hF happ hP
  obtain ⟨hcalls, hrest, hpre⟩ := hP
  obtain ⟨-, -, -, hnamed, -, -, -, hat⟩ := (Spec.applies_iff hf).mp happ
  obtain ⟨hg, hn⟩ := and_e (Cond.before_iff.mp (show (Jvm.Cond.and given_1 narrow_1).before args s = true from hpre))
  obtain ⟨gc, r0⟩ := and_e hg
  obtain ⟨g0, r1⟩ := and_e r0
  obtain ⟨g1, r2⟩ := and_e r1
  obtain ⟨g2, r3⟩ := and_e r2
  obtain ⟨g3, r4⟩ := and_e r3
  obtain ⟨g4, r5⟩ := and_e r4
  obtain ⟨w0, w1, w2, w3, w4, w5, rfl⟩ : ∃ w0 w1 w2 w3 w4 w5 : Value, args = #[w0, w1, w2, w3, w4, w5] := by
    have hs : args.size = 6 := by simpa [Cond.value, given_1] using gc
    obtain ⟨L⟩ := args
    match L, hs with
    | [w0, w1, w2, w3, w4, w5], _ => exact ⟨w0, w1, w2, w3, w4, w5, rfl⟩
  have hw := fun d (hd : d ∈ tables_1) => atoms_spec (ws := Jvm.Cond.code x code maxLocals ret :: tables_1) hat d (List.mem_cons_of_mem _ hd)
  obtain ⟨i0, ei0⟩ := is_v g0
  obtain rfl : w0 = (.int i0) := Option.some.inj ei0
  obtain ⟨i1, ei1⟩ := is_v g1
  obtain rfl : w1 = (.int i1) := Option.some.inj ei1
  obtain ⟨i2, ei2⟩ := is_v g2
  obtain rfl : w2 = (.int i2) := Option.some.inj ei2
  obtain ⟨i3, ei3⟩ := is_v g3
  obtain rfl : w3 = (.int i3) := Option.some.inj ei3
  obtain ⟨i4, ei4⟩ := is_v g4
  obtain rfl : w4 = (.int i4) := Option.some.inj ei4
  obtain ⟨i5, ei5⟩ := is_v r5
  obtain rfl : w5 = (.int i5) := Option.some.inj ei5
  have hr : rest_1_c.before #[.int i0, .int i1, .int i2, .int i3, .int i4, .int i5] s = true := hrest
  rw [rest_1_c_eq] at hr
  have ws := fun (i : Nat) {w : Jvm.Cond} (h : jdkStatics_1[i]? = some w) => (atoms_of _ hr).1 w (List.mem_of_getElem? h)
  obtain ⟨z, hz⟩ := is_v (Cond.before_iff.mp (ws 1 rfl))
  have hz0 : ¬ z = (0 : Int32) := fun q => by
    have t := ws 2 rfl
    simp only [Cond.before, Cond.holds, Cond.value, hz, q] at t
    simp [Term.eval] at t
  have CS : own_CS s s.heap := ⟨z, hz0, Sta.start hz (Or.inl (ws 0 rfl))⟩
  have HH : own_HH s #[.int i0, .int i1, .int i2, .int i3, .int i4, .int i5] := ⟨hcalls.1 ("com/example/dipper/dipper/stream/ScannedEvents", 59) (List.mem_singleton.mpr rfl), ws 2 rfl⟩
  obtain ⟨n, o, h1, h2, h3, _, L, rfl, ⟨rfl, N⟩, hq⟩ := rm_0 l s _ hw tables_1 i0 i1 i2 i3 i4 i5 s.heap s.heap.size (Nat.le_refl _) (Old.start s) HH CS p e ha hc hk s m _ below hf ((Spec.applies_iff_loose hf).mp happ).1 ⟨rfl, State.Warmed39.refl s, rfl, Or.inl IB.start⟩ trivial
  refine ⟨n, _, h1, h2, h3, hpost _ _ _ _ _ _ ⟨Cond.after_iff.mpr rfl, Cond.after_iff.mpr (eq_i res_at (Term.int_eval (1)) rfl), trivial⟩ ⟨hq.1, hq.2.1, hq.2.2.1, (hq.2.2.2.sift fun y hy => Or.inr (N y hy)).mono (by decide) (by decide)⟩⟩
theorem main_1_1 : Claimed_1_1 := comes_1 fun _ _ _ _ _ _ h hF => ⟨h.1, hF⟩
theorem main_1_2 : Claimed_1_2 := comes_1 fun _ _ _ _ _ _ h hF => ⟨h.2.1, hF⟩
end Jvm.Pilot.@@N@@
namespace Jvm.Pilot.@@N@@
open Jvm Jvm.ClassFile Sem Op Lib Jvm.Free Jvm.Stand Jvm.Pilot.@@N@@.Jvm.D
/-! MADE BY PROGRAM (witnessworld.py) out of the Statement's table words and the real class files: 22 classes; the members and pool entries that the words name. The judged class is class 1, her method 3. -/
namespace start1
open Jvm.ClassFile
def u (s : String) : CpInfo := .utf8 (stringToUtf16 s)
/-- a pool by its gaps: so many unusable entries, then the entry; so many at the end -/
def gap : Nat → List CpInfo → List CpInfo
  | 0, r => r
  | n + 1, r => .unusable :: gap n r
def poolList (es : List (Nat × CpInfo)) (last : Nat) : List CpInfo := es.foldr (fun e r => gap e.1 (e.2 :: r)) (gap last [])
def pool (es : List (Nat × CpInfo)) (last : Nat) : Array CpInfo := ⟨poolList es last⟩
def fileOf (pool : Array CpInfo) (this : Nat) (attrs : Array Attribute := #[]) (ms : Array MethodInfo := #[]) (fl : Nat := 33) (sup : Nat := 0) (ifs : Array Nat := #[]) (fds : Array FieldInfo := #[]) : ClassFile where
  minorVersion := 0
  majorVersion := 65
  constantPool := pool
  accessFlags := fl
  thisClass := this
  superClass := sup
  interfaces := ifs
  fields := fds
  methods := ms
  attributes := attrs
def plain (name : String) (sup : Option ClassId) : Class where
  name := name
  kind := .ordinary
  loader := none
  accessFlags := 33
  super := sup
  interfaces := #[]
  cf := none
  fields := #[]
  methods := #[]
  instanceTypes := #[]
  staticTypes := #[]
  resolved := #[]
  callSites := []
  init := .initialized
  statics := none
  mirror := none

def pool0 : Array CpInfo := pool [(5, u "<init>"), (0, u "()V"), (1, .class_ 10), (1, u "java/lang/Object")] 113

def k0c0 : Code := { maxStack := 0, maxLocals := 1, code := object_method_1_code, exceptionTable := #[], attributes := #[] }
def k0m0 : Method := { name := "<init>", desc := "()V", sig := { parameters := [], returnType := none }, accessFlags := 1, code := some k0c0 }
/-- java/lang/Object -/
def k0 : Class := { plain "java/lang/Object" none with
  accessFlags := 33
  interfaces := #[]
  cf := some (fileOf pool0 8 #[] #[{ accessFlags := 1, nameIndex := 5, descriptorIndex := 6, attributes := #[] }] 33 0 #[] #[])
  fields := #[]
  methods := #[k0m0]
  instanceTypes := #[]
  staticTypes := #[]
  resolved := Array.replicate 124 none
  statics := none }

def pool1 : Array CpInfo := pool [(2, .class_ 4), (0, .nameAndType 5 6), (0, u "java/lang/Object"), (0, u "<init>"), (0, u "()V"), (0, .methodref 8 9), (0, .class_ 10), (0, .nameAndType 11 12), (0, u "java/lang/String"), (0, u "valueOf"), (0, u "(C)Ljava/lang/String;"), (0, .methodref 14 15), (0, .class_ 16), (0, .nameAndType 17 18), (0, u "com/example/dipper/dipper/stream/ScannedEvents"), (0, u "characters"), (0, u "([CII)V"), (0, .methodref 14 20), (0, .nameAndType 21 18), (0, u "cdataSection"), (0, .methodref 14 23), (0, .nameAndType 24 18), (0, u "comment"), (0, .methodref 14 26), (0, .nameAndType 27 28), (0, u "processingInstruction"), (0, u "(Ljava/lang/String;Ljava/lang/String;)V"), (0, .methodref 14 30), (0, .nameAndType 31 32), (0, u "endElement"), (0, u "(Ljava/lang/String;Ljava/lang/String;Ljava/lang/String;)V"), (0, .methodref 14 34), (0, .nameAndType 35 36), (0, u "endDocumentType"), (0, u "(Ljava/lang/String;)V"), (0, .methodref 14 38), (0, .nameAndType 39 36), (0, u "skippedEntity"), (0, .fieldref 41 42), (0, .class_ 43), (0, .nameAndType 44 45), (0, u "com/example/dipper/dipper/stream/ScannedEvent"), (0, u "type"), (0, u "I"), (0, .fieldref 41 47), (0, .nameAndType 17 48), (0, u "[C"), (0, .fieldref 41 50), (0, .nameAndType 51 45), (0, u "start"), (0, .fieldref 41 53), (0, .nameAndType 54 45), (0, u "length"), (0, .fieldref 41 56), (0, .nameAndType 57 58), (0, u "localName"), (0, u "Ljava/lang/String;"), (0, .methodref 8 60), (0, .nameAndType 61 62), (0, u "equals"), (0, u "(Ljava/lang/Object;)Z"), (0, .fieldref 41 64), (0, .nameAndType 65 58), (0, u "text"), (0, .fieldref 41 67), (0, .nameAndType 68 58), (0, u "namespace"), (0, .fieldref 41 70), (0, .nameAndType 71 58), (0, u "qualifiedName"), (0, .methodref 8 73), (0, .nameAndType 74 75), (0, u "isEmpty"), (0, u "()Z"), (0, .methodref 14 77), (0, .nameAndType 5 78), (0, u "(ZLcom/example/dipper/dipper/stream/SaxAttributes;Lcom/example/dipper/dipper/stream/OpenDeclarations;Ljava/util/Map;)V"), (0, .methodref 41 3), (0, .methodref 81 82), (0, .class_ 83), (0, .nameAndType 84 85), (0, u "com/example/dipper/dipper/stream/ScannedEventsTakePinLaw"), (0, u "put"), (0, u "(Lcom/example/dipper/dipper/stream/ScannedEvents;I[C)V"), (0, .methodref 14 87), (0, .nameAndType 88 89), (0, u "take"), (0, u "(Lcom/example/dipper/dipper/stream/ScannedEvent;)Lcom/example/dipper/dipper/stream/ScannedEvent;"), (0, .methodref 81 91), (0, .nameAndType 92 93), (0, u "is"), (0, u "(Lcom/example/dipper/dipper/stream/ScannedEvent;I[C)Z"), (0, .methodref 14 73), (4, u "law"), (0, u "(IIIIII)Z")] 2

def k1m0 : Method := { name := "<init>", desc := "()V", sig := { parameters := [], returnType := none }, accessFlags := 2, code := none }
def k1c1 : Code := { maxStack := 4, maxLocals := 7, code := method_2_code, exceptionTable := #[], attributes := #[] }
def k1m1 : Method := { name := "put", desc := "(Lcom/example/dipper/dipper/stream/ScannedEvents;I[C)V", sig := { parameters := [(.object "com/example/dipper/dipper/stream/ScannedEvents"), .int, (.array .char)], returnType := none }, accessFlags := 10, code := some k1c1 }
def k1c2 : Code := { maxStack := 2, maxLocals := 7, code := method_3_code, exceptionTable := #[], attributes := #[] }
def k1m2 : Method := { name := "is", desc := "(Lcom/example/dipper/dipper/stream/ScannedEvent;I[C)Z", sig := { parameters := [(.object "com/example/dipper/dipper/stream/ScannedEvent"), .int, (.array .char)], returnType := some .boolean }, accessFlags := 10, code := some k1c2 }
def k1c3 : Code := { maxStack := 6, maxLocals := 17, code := code, exceptionTable := #[], attributes := #[] }
def k1m3 : Method := { name := "law", desc := "(IIIIII)Z", sig := { parameters := [.int, .int, .int, .int, .int, .int], returnType := some .boolean }, accessFlags := 9, code := some k1c3 }
/-- com/example/dipper/dipper/stream/ScannedEventsTakePinLaw -/
def k1 : Class := { plain "com/example/dipper/dipper/stream/ScannedEventsTakePinLaw" (some 0) with
  accessFlags := 49
  interfaces := #[]
  cf := some (fileOf pool1 81 #[] #[{ accessFlags := 2, nameIndex := 5, descriptorIndex := 6, attributes := #[] }, { accessFlags := 10, nameIndex := 84, descriptorIndex := 85, attributes := #[] }, { accessFlags := 10, nameIndex := 92, descriptorIndex := 93, attributes := #[] }, { accessFlags := 9, nameIndex := 99, descriptorIndex := 100, attributes := #[] }] 49 2 #[] #[])
  fields := #[]
  methods := #[k1m0, k1m1, k1m2, k1m3]
  instanceTypes := #[]
  staticTypes := #[]
  resolved := Array.replicate 103 none
  statics := none }

def pool2 : Array CpInfo := pool [(1, .class_ 2), (0, u "com/example/dipper/dipper/core/ScanHandler"), (0, .class_ 4), (0, u "java/lang/Object")] 19

/-- com/example/dipper/dipper/core/ScanHandler -/
def k2 : Class := { plain "com/example/dipper/dipper/core/ScanHandler" (some 0) with
  accessFlags := 1537
  interfaces := #[]
  cf := some (fileOf pool2 1 #[] #[] 1537 3 #[] #[])
  fields := #[]
  methods := #[]
  instanceTypes := #[]
  staticTypes := #[]
  resolved := Array.replicate 24 none
  statics := none }

def pool3 : Array CpInfo := pool [(1, .methodref 2 3), (0, .class_ 4), (0, .nameAndType 5 6), (0, u "java/lang/Object"), (0, u "<init>"), (0, u "()V"), (0, .class_ 8), (0, u "com/example/dipper/dipper/stream/ScannedEvent"), (0, .fieldref 10 11), (0, .class_ 12), (0, .nameAndType 13 14), (0, u "com/example/dipper/dipper/stream/ScannedEvents"), (0, u "queue"), (0, u "[Lcom/example/dipper/dipper/stream/ScannedEvent;"), (0, .fieldref 10 16), (0, .nameAndType 17 18), (0, u "replacing"), (0, u "Z"), (0, .fieldref 10 20), (0, .nameAndType 21 22), (0, u "attributes"), (0, u "Lcom/example/dipper/dipper/stream/SaxAttributes;"), (0, .fieldref 10 24), (0, .nameAndType 25 26), (0, u "declared"), (0, u "Lcom/example/dipper/dipper/stream/OpenDeclarations;"), (0, .fieldref 10 28), (0, .nameAndType 29 30), (0, u "replacements"), (0, u "Ljava/util/Map;"), (0, .methodref 7 3), (0, .fieldref 10 33), (0, .nameAndType 34 35), (0, u "count"), (0, u "I"), (0, .fieldref 10 37), (0, .nameAndType 38 35), (0, u "head"), (2, u "version"), (0, u "Ljava/lang/String;"), (2, u "encoding"), (2, u "standalone"), (0, .methodref 7 50), (0, .nameAndType 51 52), (0, u "clear"), (0, u "(I)V"), (2, .methodref 10 56), (0, .nameAndType 57 58), (0, u "add"), (0, u "(I)Lcom/example/dipper/dipper/stream/ScannedEvent;"), (0, .string 60), (0, u ""), (0, .fieldref 7 62), (0, .nameAndType 63 42), (0, u "text"), (0, .fieldref 10 65), (0, .nameAndType 66 35), (0, u "unreported"), (11, .methodref 7 79), (0, .nameAndType 80 81), (0, u "name"), (0, u "(Ljava/lang/String;Ljava/lang/String;Ljava/lang/String;)V"), (0, .methodref 7 83), (0, .nameAndType 84 85), (0, u "characters"), (0, u "([CII)V"), (0, .fieldref 7 87), (0, .nameAndType 88 42), (0, u "localName"), (8, .methodref 10 98), (0, .nameAndType 99 100), (0, u "reference"), (0, u "(Ljava/lang/String;Ljava/lang/String;)V"), (0, .class_ 102), (0, u "com/example/dipper/dipper/core/ScanHandler"), (2, u "(ZLcom/example/dipper/dipper/stream/SaxAttributes;Lcom/example/dipper/dipper/stream/OpenDeclarations;Ljava/util/Map;)V"), (4, u "isEmpty"), (0, u "()Z"), (2, u "take"), (0, u "(Lcom/example/dipper/dipper/stream/ScannedEvent;)Lcom/example/dipper/dipper/stream/ScannedEvent;"), (7, u "endDocumentType"), (0, u "(Ljava/lang/String;)V"), (2, u "endElement"), (0, u "cdataSection"), (0, u "comment"), (0, u "processingInstruction"), (2, u "skippedEntity")] 2

def k3c0 : Code := { maxStack := 4, maxLocals := 6, code := prog_163_method_1_code, exceptionTable := #[], attributes := #[] }
def k3m0 : Method := { name := "<init>", desc := "(ZLcom/example/dipper/dipper/stream/SaxAttributes;Lcom/example/dipper/dipper/stream/OpenDeclarations;Ljava/util/Map;)V", sig := { parameters := [.boolean, (.object "com/example/dipper/dipper/stream/SaxAttributes"), (.object "com/example/dipper/dipper/stream/OpenDeclarations"), (.object "java/util/Map")], returnType := none }, accessFlags := 0, code := some k3c0 }
def k3c1 : Code := { maxStack := 1, maxLocals := 1, code := prog_163_method_2_code, exceptionTable := #[], attributes := #[] }
def k3m1 : Method := { name := "isEmpty", desc := "()Z", sig := { parameters := [], returnType := some .boolean }, accessFlags := 0, code := some k3c1 }
def k3c2 : Code := { maxStack := 3, maxLocals := 3, code := prog_163_method_4_code, exceptionTable := #[], attributes := #[] }
def k3m2 : Method := { name := "take", desc := "(Lcom/example/dipper/dipper/stream/ScannedEvent;)Lcom/example/dipper/dipper/stream/ScannedEvent;", sig := { parameters := [(.object "com/example/dipper/dipper/stream/ScannedEvent")], returnType := some (.object "com/example/dipper/dipper/stream/ScannedEvent") }, accessFlags := 0, code := some k3c2 }
def k3c3 : Code := { maxStack := 6, maxLocals := 4, code := prog_163_method_8_code, exceptionTable := #[], attributes := #[] }
def k3m3 : Method := { name := "add", desc := "(I)Lcom/example/dipper/dipper/stream/ScannedEvent;", sig := { parameters := [.int], returnType := some (.object "com/example/dipper/dipper/stream/ScannedEvent") }, accessFlags := 2, code := some k3c3 }
def k3c4 : Code := { maxStack := 2, maxLocals := 2, code := prog_163_method_11_code, exceptionTable := #[], attributes := #[] }
def k3m4 : Method := { name := "endDocumentType", desc := "(Ljava/lang/String;)V", sig := { parameters := [(.object "java/lang/String")], returnType := none }, accessFlags := 1, code := some k3c4 }
def k3c5 : Code := { maxStack := 4, maxLocals := 4, code := prog_163_method_13_code, exceptionTable := #[], attributes := #[] }
def k3m5 : Method := { name := "endElement", desc := "(Ljava/lang/String;Ljava/lang/String;Ljava/lang/String;)V", sig := { parameters := [(.object "java/lang/String"), (.object "java/lang/String"), (.object "java/lang/String")], returnType := none }, accessFlags := 1, code := some k3c5 }
def k3c6 : Code := { maxStack := 4, maxLocals := 4, code := prog_163_method_14_code, exceptionTable := #[], attributes := #[] }
def k3m6 : Method := { name := "characters", desc := "([CII)V", sig := { parameters := [(.array .char), .int, .int], returnType := none }, accessFlags := 1, code := some k3c6 }
def k3c7 : Code := { maxStack := 4, maxLocals := 4, code := prog_163_method_15_code, exceptionTable := #[], attributes := #[] }
def k3m7 : Method := { name := "cdataSection", desc := "([CII)V", sig := { parameters := [(.array .char), .int, .int], returnType := none }, accessFlags := 1, code := some k3c7 }
def k3c8 : Code := { maxStack := 4, maxLocals := 4, code := prog_163_method_16_code, exceptionTable := #[], attributes := #[] }
def k3m8 : Method := { name := "comment", desc := "([CII)V", sig := { parameters := [(.array .char), .int, .int], returnType := none }, accessFlags := 1, code := some k3c8 }
def k3c9 : Code := { maxStack := 2, maxLocals := 4, code := prog_163_method_17_code, exceptionTable := #[], attributes := #[] }
def k3m9 : Method := { name := "processingInstruction", desc := "(Ljava/lang/String;Ljava/lang/String;)V", sig := { parameters := [(.object "java/lang/String"), (.object "java/lang/String")], returnType := none }, accessFlags := 1, code := some k3c9 }
def k3c10 : Code := { maxStack := 3, maxLocals := 2, code := prog_163_method_20_code, exceptionTable := #[], attributes := #[] }
def k3m10 : Method := { name := "skippedEntity", desc := "(Ljava/lang/String;)V", sig := { parameters := [(.object "java/lang/String")], returnType := none }, accessFlags := 1, code := some k3c10 }
def k3c11 : Code := { maxStack := 2, maxLocals := 4, code := prog_163_method_21_code, exceptionTable := #[], attributes := #[] }
def k3m11 : Method := { name := "reference", desc := "(Ljava/lang/String;Ljava/lang/String;)V", sig := { parameters := [(.object "java/lang/String"), (.object "java/lang/String")], returnType := none }, accessFlags := 2, code := some k3c11 }
/-- com/example/dipper/dipper/stream/ScannedEvents -/
def k3 : Class := { plain "com/example/dipper/dipper/stream/ScannedEvents" (some 0) with
  accessFlags := 32
  interfaces := #[2]
  cf := some (fileOf pool3 10 #[] #[{ accessFlags := 0, nameIndex := 5, descriptorIndex := 105, attributes := #[] }, { accessFlags := 0, nameIndex := 110, descriptorIndex := 111, attributes := #[] }, { accessFlags := 0, nameIndex := 114, descriptorIndex := 115, attributes := #[] }, { accessFlags := 2, nameIndex := 57, descriptorIndex := 58, attributes := #[] }, { accessFlags := 1, nameIndex := 123, descriptorIndex := 124, attributes := #[] }, { accessFlags := 1, nameIndex := 127, descriptorIndex := 81, attributes := #[] }, { accessFlags := 1, nameIndex := 84, descriptorIndex := 85, attributes := #[] }, { accessFlags := 1, nameIndex := 128, descriptorIndex := 85, attributes := #[] }, { accessFlags := 1, nameIndex := 129, descriptorIndex := 85, attributes := #[] }, { accessFlags := 1, nameIndex := 130, descriptorIndex := 100, attributes := #[] }, { accessFlags := 1, nameIndex := 133, descriptorIndex := 124, attributes := #[] }, { accessFlags := 2, nameIndex := 99, descriptorIndex := 100, attributes := #[] }] 32 2 #[101] #[{ accessFlags := 18, nameIndex := 17, descriptorIndex := 18, attributes := #[] }, { accessFlags := 18, nameIndex := 21, descriptorIndex := 22, attributes := #[] }, { accessFlags := 18, nameIndex := 25, descriptorIndex := 26, attributes := #[] }, { accessFlags := 18, nameIndex := 29, descriptorIndex := 30, attributes := #[] }, { accessFlags := 2, nameIndex := 13, descriptorIndex := 14, attributes := #[] }, { accessFlags := 2, nameIndex := 38, descriptorIndex := 35, attributes := #[] }, { accessFlags := 2, nameIndex := 34, descriptorIndex := 35, attributes := #[] }, { accessFlags := 2, nameIndex := 66, descriptorIndex := 35, attributes := #[] }, { accessFlags := 2, nameIndex := 41, descriptorIndex := 42, attributes := #[] }, { accessFlags := 2, nameIndex := 45, descriptorIndex := 42, attributes := #[] }, { accessFlags := 2, nameIndex := 48, descriptorIndex := 42, attributes := #[] }])
  fields := #[{ name := "replacing", type := .boolean, accessFlags := 18, slot := 0, constantValue := 0 }, { name := "attributes", type := (.object "com/example/dipper/dipper/stream/SaxAttributes"), accessFlags := 18, slot := 1, constantValue := 0 }, { name := "declared", type := (.object "com/example/dipper/dipper/stream/OpenDeclarations"), accessFlags := 18, slot := 2, constantValue := 0 }, { name := "replacements", type := (.object "java/util/Map"), accessFlags := 18, slot := 3, constantValue := 0 }, { name := "queue", type := (.array (.object "com/example/dipper/dipper/stream/ScannedEvent")), accessFlags := 2, slot := 4, constantValue := 0 }, { name := "head", type := .int, accessFlags := 2, slot := 5, constantValue := 0 }, { name := "count", type := .int, accessFlags := 2, slot := 6, constantValue := 0 }, { name := "unreported", type := .int, accessFlags := 2, slot := 7, constantValue := 0 }, { name := "version", type := (.object "java/lang/String"), accessFlags := 2, slot := 8, constantValue := 0 }, { name := "encoding", type := (.object "java/lang/String"), accessFlags := 2, slot := 9, constantValue := 0 }, { name := "standalone", type := (.object "java/lang/String"), accessFlags := 2, slot := 10, constantValue := 0 }]
  methods := #[k3m0, k3m1, k3m2, k3m3, k3m4, k3m5, k3m6, k3m7, k3m8, k3m9, k3m10, k3m11]
  instanceTypes := #[.boolean, (.object "com/example/dipper/dipper/stream/SaxAttributes"), (.object "com/example/dipper/dipper/stream/OpenDeclarations"), (.object "java/util/Map"), (.array (.object "com/example/dipper/dipper/stream/ScannedEvent")), .int, .int, .int, (.object "java/lang/String"), (.object "java/lang/String"), (.object "java/lang/String")]
  staticTypes := #[]
  resolved := Array.replicate 136 none
  statics := none }

def pool4 : Array CpInfo := pool [(1, .methodref 2 3), (0, .class_ 4), (0, .nameAndType 5 6), (0, u "java/lang/Object"), (0, u "<init>"), (0, u "()V"), (0, .fieldref 8 9), (0, .class_ 10), (0, .nameAndType 11 12), (0, u "com/example/dipper/dipper/stream/ScannedEvent"), (0, u "type"), (0, u "I"), (0, .fieldref 8 14), (0, .nameAndType 15 16), (0, u "characters"), (0, u "[C"), (0, .fieldref 8 18), (0, .nameAndType 19 12), (0, u "start"), (0, .fieldref 8 21), (0, .nameAndType 22 12), (0, u "length"), (0, .fieldref 8 24), (0, .nameAndType 25 26), (0, u "text"), (0, u "Ljava/lang/String;"), (0, .fieldref 8 28), (0, .nameAndType 29 26), (0, u "namespace"), (0, .fieldref 8 31), (0, .nameAndType 32 26), (0, u "localName"), (0, .fieldref 8 34), (0, .nameAndType 35 26), (0, u "qualifiedName"), (4, u "([CII)V"), (6, u "clear"), (0, u "(I)V"), (0, u "name"), (0, u "(Ljava/lang/String;Ljava/lang/String;Ljava/lang/String;)V")] 5

def k4c0 : Code := { maxStack := 1, maxLocals := 1, code := prog_162_method_1_code, exceptionTable := #[], attributes := #[] }
def k4m0 : Method := { name := "<init>", desc := "()V", sig := { parameters := [], returnType := none }, accessFlags := 0, code := some k4c0 }
def k4c1 : Code := { maxStack := 2, maxLocals := 2, code := prog_162_method_2_code, exceptionTable := #[], attributes := #[] }
def k4m1 : Method := { name := "clear", desc := "(I)V", sig := { parameters := [.int], returnType := none }, accessFlags := 0, code := some k4c1 }
def k4c2 : Code := { maxStack := 2, maxLocals := 4, code := prog_162_method_3_code, exceptionTable := #[], attributes := #[] }
def k4m2 : Method := { name := "name", desc := "(Ljava/lang/String;Ljava/lang/String;Ljava/lang/String;)V", sig := { parameters := [(.object "java/lang/String"), (.object "java/lang/String"), (.object "java/lang/String")], returnType := none }, accessFlags := 0, code := some k4c2 }
def k4c3 : Code := { maxStack := 2, maxLocals := 4, code := prog_162_method_4_code, exceptionTable := #[], attributes := #[] }
def k4m3 : Method := { name := "characters", desc := "([CII)V", sig := { parameters := [(.array .char), .int, .int], returnType := none }, accessFlags := 0, code := some k4c3 }
/-- com/example/dipper/dipper/stream/ScannedEvent -/
def k4 : Class := { plain "com/example/dipper/dipper/stream/ScannedEvent" (some 0) with
  accessFlags := 32
  interfaces := #[]
  cf := some (fileOf pool4 8 #[] #[{ accessFlags := 0, nameIndex := 5, descriptorIndex := 6, attributes := #[] }, { accessFlags := 0, nameIndex := 47, descriptorIndex := 48, attributes := #[] }, { accessFlags := 0, nameIndex := 49, descriptorIndex := 50, attributes := #[] }, { accessFlags := 0, nameIndex := 15, descriptorIndex := 40, attributes := #[] }] 32 2 #[] #[{ accessFlags := 0, nameIndex := 11, descriptorIndex := 12, attributes := #[] }, { accessFlags := 0, nameIndex := 15, descriptorIndex := 16, attributes := #[] }, { accessFlags := 0, nameIndex := 19, descriptorIndex := 12, attributes := #[] }, { accessFlags := 0, nameIndex := 22, descriptorIndex := 12, attributes := #[] }, { accessFlags := 0, nameIndex := 25, descriptorIndex := 26, attributes := #[] }, { accessFlags := 0, nameIndex := 29, descriptorIndex := 26, attributes := #[] }, { accessFlags := 0, nameIndex := 32, descriptorIndex := 26, attributes := #[] }, { accessFlags := 0, nameIndex := 35, descriptorIndex := 26, attributes := #[] }])
  fields := #[{ name := "type", type := .int, accessFlags := 0, slot := 0, constantValue := 0 }, { name := "characters", type := (.array .char), accessFlags := 0, slot := 1, constantValue := 0 }, { name := "start", type := .int, accessFlags := 0, slot := 2, constantValue := 0 }, { name := "length", type := .int, accessFlags := 0, slot := 3, constantValue := 0 }, { name := "text", type := (.object "java/lang/String"), accessFlags := 0, slot := 4, constantValue := 0 }, { name := "namespace", type := (.object "java/lang/String"), accessFlags := 0, slot := 5, constantValue := 0 }, { name := "localName", type := (.object "java/lang/String"), accessFlags := 0, slot := 6, constantValue := 0 }, { name := "qualifiedName", type := (.object "java/lang/String"), accessFlags := 0, slot := 7, constantValue := 0 }]
  methods := #[k4m0, k4m1, k4m2, k4m3]
  instanceTypes := #[.int, (.array .char), .int, .int, (.object "java/lang/String"), (.object "java/lang/String"), (.object "java/lang/String"), (.object "java/lang/String")]
  staticTypes := #[]
  resolved := Array.replicate 56 none
  statics := none }

def pool5 : Array CpInfo := pool [(1, .class_ 2), (0, u "java/io/Serializable"), (0, .class_ 4), (0, u "java/lang/Object")] 2

/-- java/io/Serializable -/
def k5 : Class := { plain "java/io/Serializable" (some 0) with
  accessFlags := 1537
  interfaces := #[]
  cf := some (fileOf pool5 1 #[] #[] 1537 3 #[] #[])
  fields := #[]
  methods := #[]
  instanceTypes := #[]
  staticTypes := #[]
  resolved := Array.replicate 7 none
  statics := none }

def pool6 : Array CpInfo := pool [(1, .class_ 2), (0, u "java/lang/Comparable"), (0, .class_ 4), (0, u "java/lang/Object")] 7

/-- java/lang/Comparable -/
def k6 : Class := { plain "java/lang/Comparable" (some 0) with
  accessFlags := 1537
  interfaces := #[]
  cf := some (fileOf pool6 1 #[] #[] 1537 3 #[] #[])
  fields := #[]
  methods := #[]
  instanceTypes := #[]
  staticTypes := #[]
  resolved := Array.replicate 12 none
  statics := none }

def pool7 : Array CpInfo := pool [(2, .class_ 4), (1, u "java/lang/CharSequence"), (42, .class_ 48), (0, u "java/lang/CharSequence$1CodePointIterator"), (10, .class_ 60), (0, u "java/lang/CharSequence$1CharIterator"), (5, .class_ 67), (0, u "java/lang/Object")] 63

/-- java/lang/CharSequence -/
def k7 : Class := { plain "java/lang/CharSequence" (some 0) with
  accessFlags := 1537
  interfaces := #[]
  cf := some (fileOf pool7 2 #[.nestMembers #[47, 59]] #[] 1537 66 #[] #[])
  fields := #[]
  methods := #[]
  instanceTypes := #[]
  staticTypes := #[]
  resolved := Array.replicate 131 none
  statics := none }

def pool8 : Array CpInfo := pool [(1, .class_ 2), (0, u "java/lang/constant/Constable"), (0, .class_ 4), (0, u "java/lang/Object")] 6

/-- java/lang/constant/Constable -/
def k8 : Class := { plain "java/lang/constant/Constable" (some 0) with
  accessFlags := 1537
  interfaces := #[]
  cf := some (fileOf pool8 1 #[] #[] 1537 3 #[] #[])
  fields := #[]
  methods := #[]
  instanceTypes := #[]
  staticTypes := #[]
  resolved := Array.replicate 11 none
  statics := none }

def pool9 : Array CpInfo := pool [(1, .class_ 2), (0, u "java/lang/constant/ConstantDesc"), (0, .class_ 4), (0, u "java/lang/Object")] 32

/-- java/lang/constant/ConstantDesc -/
def k9 : Class := { plain "java/lang/constant/ConstantDesc" (some 0) with
  accessFlags := 1537
  interfaces := #[]
  cf := some (fileOf pool9 1 #[] #[] 1537 3 #[] #[])
  fields := #[]
  methods := #[]
  instanceTypes := #[]
  staticTypes := #[]
  resolved := Array.replicate 37 none
  statics := none }

def pool10 : Array CpInfo := pool [(1, .methodref 2 3), (0, .class_ 4), (0, .nameAndType 5 6), (0, u "java/lang/Object"), (0, u "<init>"), (0, u "()V"), (2, .fieldref 10 11), (0, .class_ 12), (0, .nameAndType 13 14), (0, u "java/lang/String"), (0, u "value"), (0, u "[B"), (0, .fieldref 10 16), (0, .nameAndType 17 18), (0, u "coder"), (0, u "B"), (2, u "hash"), (0, u "I"), (2, u "hashIsZero"), (0, u "Z"), (11, .fieldref 10 39), (0, .nameAndType 40 26), (0, u "COMPACT_STRINGS"), (12, u "toBytes"), (53, .class_ 109), (1, u "java/lang/StringLatin1"), (32, u "()Z"), (66, .methodref 10 210), (0, .nameAndType 5 211), (0, u "([BB)V"), (157, u "(C)Z"), (171, .methodref 107 542), (0, .nameAndType 543 544), (0, u "equals"), (0, u "([B[B)Z"), (28, u "(Ljava/lang/Object;)Z"), (1, .class_ 576), (0, u "java/lang/CharSequence"), (22, u "CASE_INSENSITIVE_ORDER"), (0, u "Ljava/util/Comparator;"), (91, u "isEmpty"), (89, u "valueOf"), (0, u "(C)Ljava/lang/String;"), (231, .methodref 107 1016), (0, .nameAndType 1017 369), (0, u "canEncode"), (0, .methodref 107 1019), (0, .nameAndType 53 1020), (0, u "(C)[B"), (80, u "serialPersistentFields"), (0, u "[Ljava/io/ObjectStreamField;"), (0, .class_ 1104), (0, u "java/lang/String$CaseInsensitiveComparator"), (1, .class_ 1107), (0, u "java/io/Serializable"), (0, .class_ 1109), (0, u "java/lang/Comparable"), (0, .class_ 1111), (0, u "java/lang/constant/Constable"), (0, .class_ 1113), (0, u "java/lang/constant/ConstantDesc"), (2, u "serialVersionUID"), (0, u "J"), (3, u "REPL"), (0, u "C"), (2, u "LATIN1"), (1, u "UTF16")] 323

def k10m0 : Method := { name := "<init>", desc := "()V", sig := { parameters := [], returnType := none }, accessFlags := 1, code := none }
def k10c1 : Code := { maxStack := 1, maxLocals := 1, code := jdk_42_method_55_code, exceptionTable := #[], attributes := #[] }
def k10m1 : Method := { name := "isEmpty", desc := "()Z", sig := { parameters := [], returnType := some .boolean }, accessFlags := 1, code := some k10c1 }
def k10c2 : Code := { maxStack := 2, maxLocals := 3, code := jdk_42_method_66_code, exceptionTable := #[], attributes := #[] }
def k10m2 : Method := { name := "equals", desc := "(Ljava/lang/Object;)Z", sig := { parameters := [(.object "java/lang/Object")], returnType := some .boolean }, accessFlags := 1, code := some k10c2 }
def k10c3 : Code := { maxStack := 4, maxLocals := 1, code := jdk_42_method_139_code, exceptionTable := #[], attributes := #[] }
def k10m3 : Method := { name := "valueOf", desc := "(C)Ljava/lang/String;", sig := { parameters := [.char], returnType := some (.object "java/lang/String") }, accessFlags := 9, code := some k10c3 }
def k10c4 : Code := { maxStack := 2, maxLocals := 3, code := jdk_42_method_151_code, exceptionTable := #[], attributes := #[] }
def k10m4 : Method := { name := "<init>", desc := "([BB)V", sig := { parameters := [(.array .byte), .byte], returnType := none }, accessFlags := 0, code := some k10c4 }
/-- java/lang/String -/
def k10 : Class := { plain "java/lang/String" (some 0) with
  accessFlags := 49
  interfaces := #[5, 6, 7, 8, 9]
  cf := some (fileOf pool10 10 #[.nestMembers #[1103]] #[{ accessFlags := 1, nameIndex := 5, descriptorIndex := 6, attributes := #[] }, { accessFlags := 1, nameIndex := 692, descriptorIndex := 142, attributes := #[] }, { accessFlags := 1, nameIndex := 543, descriptorIndex := 573, attributes := #[] }, { accessFlags := 9, nameIndex := 782, descriptorIndex := 783, attributes := #[] }, { accessFlags := 0, nameIndex := 5, descriptorIndex := 211, attributes := #[] }] 49 2 #[1106, 1108, 575, 1110, 1112] #[{ accessFlags := 18, nameIndex := 13, descriptorIndex := 14, attributes := #[] }, { accessFlags := 18, nameIndex := 17, descriptorIndex := 18, attributes := #[] }, { accessFlags := 2, nameIndex := 21, descriptorIndex := 22, attributes := #[] }, { accessFlags := 2, nameIndex := 25, descriptorIndex := 26, attributes := #[] }, { accessFlags := 26, nameIndex := 1116, descriptorIndex := 1117, attributes := #[] }, { accessFlags := 24, nameIndex := 40, descriptorIndex := 26, attributes := #[] }, { accessFlags := 26, nameIndex := 1101, descriptorIndex := 1102, attributes := #[] }, { accessFlags := 26, nameIndex := 1121, descriptorIndex := 1122, attributes := #[] }, { accessFlags := 25, nameIndex := 599, descriptorIndex := 600, attributes := #[] }, { accessFlags := 24, nameIndex := 1125, descriptorIndex := 18, attributes := #[] }, { accessFlags := 24, nameIndex := 1127, descriptorIndex := 18, attributes := #[] }])
  fields := #[{ name := "value", type := (.array .byte), accessFlags := 18, slot := 0, constantValue := 0 }, { name := "coder", type := .byte, accessFlags := 18, slot := 1, constantValue := 0 }, { name := "hash", type := .int, accessFlags := 2, slot := 2, constantValue := 0 }, { name := "hashIsZero", type := .boolean, accessFlags := 2, slot := 3, constantValue := 0 }, { name := "serialVersionUID", type := .long, accessFlags := 26, slot := 0, constantValue := 0 }, { name := "COMPACT_STRINGS", type := .boolean, accessFlags := 24, slot := 1, constantValue := 0 }, { name := "serialPersistentFields", type := (.array (.object "java/io/ObjectStreamField")), accessFlags := 26, slot := 2, constantValue := 0 }, { name := "REPL", type := .char, accessFlags := 26, slot := 3, constantValue := 0 }, { name := "CASE_INSENSITIVE_ORDER", type := (.object "java/util/Comparator"), accessFlags := 25, slot := 4, constantValue := 0 }, { name := "LATIN1", type := .byte, accessFlags := 24, slot := 5, constantValue := 0 }, { name := "UTF16", type := .byte, accessFlags := 24, slot := 6, constantValue := 0 }]
  methods := #[k10m0, k10m1, k10m2, k10m3, k10m4]
  instanceTypes := #[(.array .byte), .byte, .int, .boolean]
  staticTypes := #[.long, .boolean, (.array (.object "java/io/ObjectStreamField")), .char, (.object "java/util/Comparator"), .byte, .byte]
  resolved := Array.replicate 1451 none
  statics := some 0 }

def pool11 : Array CpInfo := pool [(4, .class_ 6), (1, u "java/lang/Object"), (0, u "<init>"), (0, u "()V"), (5, .class_ 16), (1, u "java/lang/StringLatin1"), (73, u "canEncode"), (14, u "(C)Z"), (15, u "$assertionsDisabled"), (0, u "Z"), (98, .class_ 223), (1, u "java/lang/StringLatin1$LinesSpliterator"), (57, u "equals"), (0, u "([B[B)Z"), (97, u "toBytes"), (1, u "(C)[B"), (7, .class_ 391), (0, u "java/lang/StringLatin1$CharsSpliterator")] 3

def k11m0 : Method := { name := "<init>", desc := "()V", sig := { parameters := [], returnType := none }, accessFlags := 0, code := none }
def k11c1 : Code := { maxStack := 2, maxLocals := 1, code := jdk_43_method_3_code, exceptionTable := #[], attributes := #[] }
def k11m1 : Method := { name := "canEncode", desc := "(C)Z", sig := { parameters := [.char], returnType := some .boolean }, accessFlags := 9, code := some k11c1 }
def k11c2 : Code := { maxStack := 3, maxLocals := 3, code := jdk_43_method_13_code, exceptionTable := #[], attributes := #[] }
def k11m2 : Method := { name := "equals", desc := "([B[B)Z", sig := { parameters := [(.array .byte), (.array .byte)], returnType := some .boolean }, accessFlags := 9, code := some k11c2 }
def k11c3 : Code := { maxStack := 4, maxLocals := 1, code := jdk_43_method_46_code, exceptionTable := #[], attributes := #[] }
def k11m3 : Method := { name := "toBytes", desc := "(C)[B", sig := { parameters := [.char], returnType := some (.array .byte) }, accessFlags := 9, code := some k11c3 }
/-- java/lang/StringLatin1 -/
def k11 : Class := { plain "java/lang/StringLatin1" (some 0) with
  accessFlags := 48
  interfaces := #[]
  cf := some (fileOf pool11 14 #[.nestMembers #[390, 221]] #[{ accessFlags := 0, nameIndex := 7, descriptorIndex := 8, attributes := #[] }, { accessFlags := 9, nameIndex := 90, descriptorIndex := 105, attributes := #[] }, { accessFlags := 9, nameIndex := 281, descriptorIndex := 282, attributes := #[] }, { accessFlags := 9, nameIndex := 380, descriptorIndex := 382, attributes := #[] }] 48 4 #[] #[{ accessFlags := 4120, nameIndex := 121, descriptorIndex := 122, attributes := #[] }])
  fields := #[{ name := "$assertionsDisabled", type := .boolean, accessFlags := 4120, slot := 0, constantValue := 0 }]
  methods := #[k11m0, k11m1, k11m2, k11m3]
  instanceTypes := #[]
  staticTypes := #[.boolean]
  resolved := Array.replicate 395 none
  statics := none }

def pool12 : Array CpInfo := pool [(2, .class_ 4), (1, u "java/lang/Object"), (0, u "<init>"), (0, u "()V"), (17, .class_ 26), (1, u "jdk/internal/util/Preconditions"), (28, .class_ 56), (0, u "jdk/internal/util/Preconditions$4"), (57, .class_ 115), (0, u "jdk/internal/util/Preconditions$1"), (7, u "SIOOBE_FORMATTER"), (0, u "Ljava/util/function/BiFunction;"), (0, .class_ 126), (0, u "jdk/internal/util/Preconditions$2"), (3, u "AIOOBE_FORMATTER"), (0, .class_ 132), (0, u "jdk/internal/util/Preconditions$3"), (3, u "IOOBE_FORMATTER")] 57

def k12m0 : Method := { name := "<init>", desc := "()V", sig := { parameters := [], returnType := none }, accessFlags := 1, code := none }
/-- jdk/internal/util/Preconditions -/
def k12 : Class := { plain "jdk/internal/util/Preconditions" (some 0) with
  accessFlags := 33
  interfaces := #[]
  cf := some (fileOf pool12 24 #[.nestMembers #[55, 131, 125, 114]] #[{ accessFlags := 1, nameIndex := 5, descriptorIndex := 6, attributes := #[] }] 33 2 #[] #[{ accessFlags := 25, nameIndex := 123, descriptorIndex := 124, attributes := #[] }, { accessFlags := 25, nameIndex := 130, descriptorIndex := 124, attributes := #[] }, { accessFlags := 25, nameIndex := 136, descriptorIndex := 124, attributes := #[] }])
  fields := #[{ name := "SIOOBE_FORMATTER", type := (.object "java/util/function/BiFunction"), accessFlags := 25, slot := 0, constantValue := 0 }, { name := "AIOOBE_FORMATTER", type := (.object "java/util/function/BiFunction"), accessFlags := 25, slot := 1, constantValue := 0 }, { name := "IOOBE_FORMATTER", type := (.object "java/util/function/BiFunction"), accessFlags := 25, slot := 2, constantValue := 0 }]
  methods := #[k12m0]
  instanceTypes := #[]
  staticTypes := #[(.object "java/util/function/BiFunction"), (.object "java/util/function/BiFunction"), (.object "java/util/function/BiFunction")]
  resolved := Array.replicate 194 none
  statics := some 1 }

def pool13 : Array CpInfo := pool [(9, u "<init>"), (6, .class_ 18), (1, u "java/lang/Object"), (0, u "()V"), (1, .class_ 23), (1, u "jdk/internal/util/ArraysSupport"), (0, u "LOG2_ARRAY_LONG_INDEX_SCALE"), (0, u "I"), (2, u "U"), (0, u "Ljdk/internal/misc/Unsafe;"), (8, u "BIG_ENDIAN"), (0, u "Z"), (8, u "LOG2_BYTE_BIT_SIZE"), (4, u "LOG2_ARRAY_INT_INDEX_SCALE"), (54, u "JLA"), (0, u "Ljdk/internal/access/JavaLangAccess;"), (11, u "LOG2_ARRAY_BOOLEAN_INDEX_SCALE"), (9, u "LOG2_ARRAY_BYTE_INDEX_SCALE"), (5, u "LOG2_ARRAY_CHAR_INDEX_SCALE"), (5, u "LOG2_ARRAY_SHORT_INDEX_SCALE"), (18, u "LOG2_ARRAY_FLOAT_INDEX_SCALE"), (24, u "LOG2_ARRAY_DOUBLE_INDEX_SCALE"), (89, u "T_BOOLEAN"), (2, u "T_CHAR"), (1, u "T_FLOAT"), (1, u "T_DOUBLE"), (1, u "T_BYTE"), (1, u "T_SHORT"), (1, u "T_INT"), (1, u "T_LONG"), (1, u "SOFT_MAX_ARRAY_LENGTH")] 83

def k13m0 : Method := { name := "<init>", desc := "()V", sig := { parameters := [], returnType := none }, accessFlags := 2, code := none }
/-- jdk/internal/util/ArraysSupport -/
def k13 : Class := { plain "jdk/internal/util/ArraysSupport" (some 0) with
  accessFlags := 33
  interfaces := #[]
  cf := some (fileOf pool13 21 #[] #[{ accessFlags := 2, nameIndex := 9, descriptorIndex := 19, attributes := #[] }] 33 16 #[] #[{ accessFlags := 24, nameIndex := 28, descriptorIndex := 29, attributes := #[] }, { accessFlags := 26, nameIndex := 38, descriptorIndex := 39, attributes := #[] }, { accessFlags := 25, nameIndex := 121, descriptorIndex := 25, attributes := #[] }, { accessFlags := 25, nameIndex := 131, descriptorIndex := 25, attributes := #[] }, { accessFlags := 25, nameIndex := 137, descriptorIndex := 25, attributes := #[] }, { accessFlags := 25, nameIndex := 143, descriptorIndex := 25, attributes := #[] }, { accessFlags := 25, nameIndex := 53, descriptorIndex := 25, attributes := #[] }, { accessFlags := 25, nameIndex := 24, descriptorIndex := 25, attributes := #[] }, { accessFlags := 25, nameIndex := 162, descriptorIndex := 25, attributes := #[] }, { accessFlags := 25, nameIndex := 187, descriptorIndex := 25, attributes := #[] }, { accessFlags := 26, nameIndex := 48, descriptorIndex := 25, attributes := #[] }, { accessFlags := 25, nameIndex := 277, descriptorIndex := 25, attributes := #[] }, { accessFlags := 25, nameIndex := 280, descriptorIndex := 25, attributes := #[] }, { accessFlags := 25, nameIndex := 282, descriptorIndex := 25, attributes := #[] }, { accessFlags := 25, nameIndex := 284, descriptorIndex := 25, attributes := #[] }, { accessFlags := 25, nameIndex := 286, descriptorIndex := 25, attributes := #[] }, { accessFlags := 25, nameIndex := 288, descriptorIndex := 25, attributes := #[] }, { accessFlags := 25, nameIndex := 290, descriptorIndex := 25, attributes := #[] }, { accessFlags := 25, nameIndex := 292, descriptorIndex := 25, attributes := #[] }, { accessFlags := 26, nameIndex := 108, descriptorIndex := 109, attributes := #[] }, { accessFlags := 25, nameIndex := 294, descriptorIndex := 25, attributes := #[] }])
  fields := #[{ name := "U", type := (.object "jdk/internal/misc/Unsafe"), accessFlags := 24, slot := 0, constantValue := 0 }, { name := "BIG_ENDIAN", type := .boolean, accessFlags := 26, slot := 1, constantValue := 0 }, { name := "LOG2_ARRAY_BOOLEAN_INDEX_SCALE", type := .int, accessFlags := 25, slot := 2, constantValue := 0 }, { name := "LOG2_ARRAY_BYTE_INDEX_SCALE", type := .int, accessFlags := 25, slot := 3, constantValue := 0 }, { name := "LOG2_ARRAY_CHAR_INDEX_SCALE", type := .int, accessFlags := 25, slot := 4, constantValue := 0 }, { name := "LOG2_ARRAY_SHORT_INDEX_SCALE", type := .int, accessFlags := 25, slot := 5, constantValue := 0 }, { name := "LOG2_ARRAY_INT_INDEX_SCALE", type := .int, accessFlags := 25, slot := 6, constantValue := 0 }, { name := "LOG2_ARRAY_LONG_INDEX_SCALE", type := .int, accessFlags := 25, slot := 7, constantValue := 0 }, { name := "LOG2_ARRAY_FLOAT_INDEX_SCALE", type := .int, accessFlags := 25, slot := 8, constantValue := 0 }, { name := "LOG2_ARRAY_DOUBLE_INDEX_SCALE", type := .int, accessFlags := 25, slot := 9, constantValue := 0 }, { name := "LOG2_BYTE_BIT_SIZE", type := .int, accessFlags := 26, slot := 10, constantValue := 0 }, { name := "T_BOOLEAN", type := .int, accessFlags := 25, slot := 11, constantValue := 0 }, { name := "T_CHAR", type := .int, accessFlags := 25, slot := 12, constantValue := 0 }, { name := "T_FLOAT", type := .int, accessFlags := 25, slot := 13, constantValue := 0 }, { name := "T_DOUBLE", type := .int, accessFlags := 25, slot := 14, constantValue := 0 }, { name := "T_BYTE", type := .int, accessFlags := 25, slot := 15, constantValue := 0 }, { name := "T_SHORT", type := .int, accessFlags := 25, slot := 16, constantValue := 0 }, { name := "T_INT", type := .int, accessFlags := 25, slot := 17, constantValue := 0 }, { name := "T_LONG", type := .int, accessFlags := 25, slot := 18, constantValue := 0 }, { name := "JLA", type := (.object "jdk/internal/access/JavaLangAccess"), accessFlags := 26, slot := 19, constantValue := 0 }, { name := "SOFT_MAX_ARRAY_LENGTH", type := .int, accessFlags := 25, slot := 20, constantValue := 0 }]
  methods := #[k13m0]
  instanceTypes := #[]
  staticTypes := #[(.object "jdk/internal/misc/Unsafe"), .boolean, .int, .int, .int, .int, .int, .int, .int, .int, .int, .int, .int, .int, .int, .int, .int, .int, .int, (.object "jdk/internal/access/JavaLangAccess"), .int]
  resolved := Array.replicate 378 none
  statics := none }

def pool14 : Array CpInfo := pool [(1, u "java/lang/Cloneable"), (0, .class_ 1), (0, u "java/lang/Object"), (0, .class_ 3)] 3

/-- java/lang/Cloneable -/
def k14 : Class := { plain "java/lang/Cloneable" (some 0) with
  accessFlags := 1537
  interfaces := #[]
  cf := some (fileOf pool14 2 #[] #[] 1537 4 #[] #[])
  fields := #[]
  methods := #[]
  instanceTypes := #[]
  staticTypes := #[]
  resolved := Array.replicate 8 none
  statics := none }

/-- the primitive byte -/
def k15 : Class := { plain "byte" none with kind := .primitive 'B', accessFlags := 0x411 }
/-- [B -/
def k16 : Class := { plain "[B" (some 0) with kind := .array 15 .byte, interfaces := #[14, 5], accessFlags := 1041 }

/-- the primitive char -/
def k17 : Class := { plain "char" none with kind := .primitive 'C', accessFlags := 0x411 }
/-- [C -/
def k18 : Class := { plain "[C" (some 0) with kind := .array 17 .char, interfaces := #[14, 5], accessFlags := 1041 }

/-- the primitive int -/
def k19 : Class := { plain "int" none with kind := .primitive 'I', accessFlags := 0x411 }
/-- [I -/
def k20 : Class := { plain "[I" (some 0) with kind := .array 19 .int, interfaces := #[14, 5], accessFlags := 1041 }

/-- [Lcom/example/dipper/dipper/stream/ScannedEvent; -/
def k21 : Class := { plain "[Lcom/example/dipper/dipper/stream/ScannedEvent;" (some 0) with kind := .array 4 (.object "com/example/dipper/dipper/stream/ScannedEvent"), interfaces := #[14, 5], accessFlags := 1041 }

def heap : Heap := #[{ cls := 10, slots := #[.long 0, .int 1, .null, .int 0, .null, .int 0, .int 0], vm := .statics 10 },
  { cls := 12, slots := #[.null, .null, .null], vm := .statics 12 }]
def classes : Array Class := #[k0, k1, k2, k3, k4, k5, k6, k7, k8, k9, k10, k11, k12, k13, k14, k15, k16, k17, k18, k19, k20, k21]
def interned : List (Array UInt16 × Addr) := []
def slotsUsed : Nat := 10
def theMethod : MethodId := ⟨1, 3⟩
def args0 : Array Value := #[.int 3, .int 4, .int 5, .int 6, .int 7, .int 8]
def aboutOver (below : List Frame) : State where
  vm := { classes := classes, interned := interned.toArray }
  heap := heap
  slotsUsed := slotsUsed
  threads := #[{ frames := .invoking theMethod args0 :: below }]
def below0 : List Frame := [.native { method := ⟨0, 0⟩, args := #[] }]
def about1 : State := aboutOver below0
def p0 : Program := .bare "" "" ""
def e0 : Env := launch0.env 0 0 0
theorem w_frames : about1.frames = Frame.invoking theMethod args0 :: below0 := rfl
set_option maxRecDepth 65536 in
theorem w_args : argsFit about1.vm theMethod args0 = true := by decide +kernel
set_option maxRecDepth 65536 in
theorem w_heap : heapFits about1 = true := by decide +kernel
set_option maxRecDepth 65536 in
theorem w_runnable : about1.curStatus? = some .runnable := by decide +kernel
set_option maxRecDepth 65536 in
theorem w_alone : about1.alone = true := by decide +kernel
set_option maxRecDepth 65536 in
theorem w_named : about1.methodNamed? x = some theMethod := by decide +kernel
set_option maxRecDepth 65536 in
theorem w_hears : about1.hears theMethod below0 = true := by decide +kernel
set_option maxRecDepth 65536 in
theorem w_ripe : about1.ripe theMethod args0 below0 = true := by decide +kernel
theorem w_running : about1.status = .running := rfl
set_option maxRecDepth 65536 in
theorem w_room : about1.hasRoom e0.platform room_1 = true :=
  launch0.hasRoom_least _ room_1 (by decide +kernel) (by decide +kernel) (by decide +kernel) (by decide +kernel) (by decide +kernel) (by decide +kernel)
theorem allAtoms_all (ts : List Jvm.Cond) (a : Array Jvm.Value) (st : Jvm.State) : (allAtoms ts).before a st = ts.all (fun c => c.before a st) := by
  induction ts with
  | nil => rfl
  | cons c t ih =>
    show (Jvm.Cond.and c (allAtoms t)).before a st = _
    rw [Jvm.Cond.before_and, ih, List.all_cons]
def words1 : List Jvm.Cond := Jvm.Cond.code x code maxLocals ret :: tables_1
/-- a 'code' word, met by the world's own term for the bytes: nothing is compared byte by byte -/
theorem code_word {y : MethodName} {bytes : ByteArray} {mx : Nat} {rt : Option FieldType} {a : Array Value} {s : State} {m : MethodId} {meth : Method} {c : Code} (h1 : s.methodNamed? y = some m) (h2 : s.vm.method? m = some meth) (h3 : meth.code = some c) (h4 : c.code = bytes)
    (h5 : (c.maxLocals == mx && c.exceptionTable.isEmpty && decide (c.maxStack ≤ mostOperands) && decide (meth.sig.returnType = rt) && !meth.locks && decide (parseMethodDescriptor y.desc = some meth.sig)) = true) : (Jvm.Cond.code y bytes mx rt).before a s = true := by
  simp only [Bool.and_eq_true, beq_iff_eq, Bool.not_eq_true', decide_eq_true_eq] at h5
  obtain ⟨⟨⟨⟨⟨g1, g2⟩, g3⟩, g4⟩, g5⟩, g6⟩ := h5
  simp [Cond.before, Cond.holds, Cond.value, h1, h2, h3, h4, g1, g2, g3, g4, g5, g6]
def isCode : Jvm.Cond → Bool
  | .code _ _ _ _ => true
  | _ => false
theorem all_split {L : List Jvm.Cond} {P : Jvm.Cond → Bool} (h1 : L.all (fun c => isCode c || P c) = true) (h2 : ∀ c ∈ L.filter isCode, P c = true) : L.all P = true := by
  refine List.all_eq_true.mpr fun c hc => ?_
  have h := List.all_eq_true.mp h1 c hc
  rcases Bool.eq_false_or_eq_true (isCode c) with hi | hi
  · exact h2 c (List.mem_filter.mpr ⟨hc, hi⟩)
  · simpa [hi] using h
set_option maxRecDepth 65536 in
theorem w_c0 : (Jvm.Cond.code x code maxLocals ret).before args0 about1 = true := code_word (m := ⟨1, 3⟩) (meth := k1m3) (c := k1c3) (by decide +kernel) rfl rfl rfl (by decide +kernel)
set_option maxRecDepth 65536 in
theorem w_c1 : (Jvm.Cond.code ({ cls := "com/example/dipper/dipper/stream/ScannedEvents", name := "<init>", desc := "(ZLcom/example/dipper/dipper/stream/SaxAttributes;Lcom/example/dipper/dipper/stream/OpenDeclarations;Ljava/util/Map;)V" } : Jvm.MethodName) prog_163_method_1_code (6 : Nat) (Option.none : Option Jvm.ClassFile.FieldType)).before args0 about1 = true := code_word (m := ⟨3, 0⟩) (meth := k3m0) (c := k3c0) (by decide +kernel) rfl rfl rfl (by decide +kernel)
set_option maxRecDepth 65536 in
theorem w_c2 : (Jvm.Cond.code ({ cls := "java/lang/Object", name := "<init>", desc := "()V" } : Jvm.MethodName) object_method_1_code (1 : Nat) (Option.none : Option Jvm.ClassFile.FieldType)).before args0 about1 = true := code_word (m := ⟨0, 0⟩) (meth := k0m0) (c := k0c0) (by decide +kernel) rfl rfl rfl (by decide +kernel)
set_option maxRecDepth 65536 in
theorem w_c3 : (Jvm.Cond.code ({ cls := "com/example/dipper/dipper/stream/ScannedEvent", name := "<init>", desc := "()V" } : Jvm.MethodName) prog_162_method_1_code (1 : Nat) (Option.none : Option Jvm.ClassFile.FieldType)).before args0 about1 = true := code_word (m := ⟨4, 0⟩) (meth := k4m0) (c := k4c0) (by decide +kernel) rfl rfl rfl (by decide +kernel)
set_option maxRecDepth 65536 in
theorem w_c4 : (Jvm.Cond.code ({ cls := "com/example/dipper/dipper/stream/ScannedEventsTakePinLaw", name := "put", desc := "(Lcom/example/dipper/dipper/stream/ScannedEvents;I[C)V" } : Jvm.MethodName) method_2_code (7 : Nat) (Option.none : Option Jvm.ClassFile.FieldType)).before args0 about1 = true := code_word (m := ⟨1, 1⟩) (meth := k1m1) (c := k1c1) (by decide +kernel) rfl rfl rfl (by decide +kernel)
set_option maxRecDepth 65536 in
theorem w_c5 : (Jvm.Cond.code ({ cls := "java/lang/String", name := "valueOf", desc := "(C)Ljava/lang/String;" } : Jvm.MethodName) jdk_42_method_139_code (1 : Nat) (Option.some (Jvm.ClassFile.FieldType.object "java/lang/String"))).before args0 about1 = true := code_word (m := ⟨10, 3⟩) (meth := k10m3) (c := k10c3) (by decide +kernel) rfl rfl rfl (by decide +kernel)
set_option maxRecDepth 65536 in
theorem w_c6 : (Jvm.Cond.code ({ cls := "java/lang/StringLatin1", name := "canEncode", desc := "(C)Z" } : Jvm.MethodName) jdk_43_method_3_code (1 : Nat) (Option.some Jvm.ClassFile.FieldType.boolean)).before args0 about1 = true := code_word (m := ⟨11, 1⟩) (meth := k11m1) (c := k11c1) (by decide +kernel) rfl rfl rfl (by decide +kernel)
set_option maxRecDepth 65536 in
theorem w_c7 : (Jvm.Cond.code ({ cls := "java/lang/StringLatin1", name := "toBytes", desc := "(C)[B" } : Jvm.MethodName) jdk_43_method_46_code (1 : Nat) (Option.some (Jvm.ClassFile.FieldType.array Jvm.ClassFile.FieldType.byte))).before args0 about1 = true := code_word (m := ⟨11, 3⟩) (meth := k11m3) (c := k11c3) (by decide +kernel) rfl rfl rfl (by decide +kernel)
set_option maxRecDepth 65536 in
theorem w_c8 : (Jvm.Cond.code ({ cls := "java/lang/String", name := "<init>", desc := "([BB)V" } : Jvm.MethodName) jdk_42_method_151_code (3 : Nat) (Option.none : Option Jvm.ClassFile.FieldType)).before args0 about1 = true := code_word (m := ⟨10, 4⟩) (meth := k10m4) (c := k10c4) (by decide +kernel) rfl rfl rfl (by decide +kernel)
set_option maxRecDepth 65536 in
theorem w_c9 : (Jvm.Cond.code ({ cls := "com/example/dipper/dipper/stream/ScannedEvents", name := "characters", desc := "([CII)V" } : Jvm.MethodName) prog_163_method_14_code (4 : Nat) (Option.none : Option Jvm.ClassFile.FieldType)).before args0 about1 = true := code_word (m := ⟨3, 6⟩) (meth := k3m6) (c := k3c6) (by decide +kernel) rfl rfl rfl (by decide +kernel)
set_option maxRecDepth 65536 in
theorem w_c10 : (Jvm.Cond.code ({ cls := "com/example/dipper/dipper/stream/ScannedEvents", name := "add", desc := "(I)Lcom/example/dipper/dipper/stream/ScannedEvent;" } : Jvm.MethodName) prog_163_method_8_code (4 : Nat) (Option.some (Jvm.ClassFile.FieldType.object "com/example/dipper/dipper/stream/ScannedEvent"))).before args0 about1 = true := code_word (m := ⟨3, 3⟩) (meth := k3m3) (c := k3c3) (by decide +kernel) rfl rfl rfl (by decide +kernel)
set_option maxRecDepth 65536 in
theorem w_c11 : (Jvm.Cond.code ({ cls := "com/example/dipper/dipper/stream/ScannedEvent", name := "clear", desc := "(I)V" } : Jvm.MethodName) prog_162_method_2_code (2 : Nat) (Option.none : Option Jvm.ClassFile.FieldType)).before args0 about1 = true := code_word (m := ⟨4, 1⟩) (meth := k4m1) (c := k4c1) (by decide +kernel) rfl rfl rfl (by decide +kernel)
set_option maxRecDepth 65536 in
theorem w_c12 : (Jvm.Cond.code ({ cls := "com/example/dipper/dipper/stream/ScannedEvent", name := "characters", desc := "([CII)V" } : Jvm.MethodName) prog_162_method_4_code (4 : Nat) (Option.none : Option Jvm.ClassFile.FieldType)).before args0 about1 = true := code_word (m := ⟨4, 3⟩) (meth := k4m3) (c := k4c3) (by decide +kernel) rfl rfl rfl (by decide +kernel)
set_option maxRecDepth 65536 in
theorem w_c13 : (Jvm.Cond.code ({ cls := "com/example/dipper/dipper/stream/ScannedEvents", name := "processingInstruction", desc := "(Ljava/lang/String;Ljava/lang/String;)V" } : Jvm.MethodName) prog_163_method_17_code (4 : Nat) (Option.none : Option Jvm.ClassFile.FieldType)).before args0 about1 = true := code_word (m := ⟨3, 9⟩) (meth := k3m9) (c := k3c9) (by decide +kernel) rfl rfl rfl (by decide +kernel)
set_option maxRecDepth 65536 in
theorem w_c14 : (Jvm.Cond.code ({ cls := "com/example/dipper/dipper/stream/ScannedEvents", name := "take", desc := "(Lcom/example/dipper/dipper/stream/ScannedEvent;)Lcom/example/dipper/dipper/stream/ScannedEvent;" } : Jvm.MethodName) prog_163_method_4_code (3 : Nat) (Option.some (Jvm.ClassFile.FieldType.object "com/example/dipper/dipper/stream/ScannedEvent"))).before args0 about1 = true := code_word (m := ⟨3, 2⟩) (meth := k3m2) (c := k3c2) (by decide +kernel) rfl rfl rfl (by decide +kernel)
set_option maxRecDepth 65536 in
theorem w_c15 : (Jvm.Cond.code ({ cls := "com/example/dipper/dipper/stream/ScannedEventsTakePinLaw", name := "is", desc := "(Lcom/example/dipper/dipper/stream/ScannedEvent;I[C)Z" } : Jvm.MethodName) method_3_code (7 : Nat) (Option.some Jvm.ClassFile.FieldType.boolean)).before args0 about1 = true := code_word (m := ⟨1, 2⟩) (meth := k1m2) (c := k1c2) (by decide +kernel) rfl rfl rfl (by decide +kernel)
set_option maxRecDepth 65536 in
theorem w_c16 : (Jvm.Cond.code ({ cls := "com/example/dipper/dipper/stream/ScannedEvents", name := "comment", desc := "([CII)V" } : Jvm.MethodName) prog_163_method_16_code (4 : Nat) (Option.none : Option Jvm.ClassFile.FieldType)).before args0 about1 = true := code_word (m := ⟨3, 8⟩) (meth := k3m8) (c := k3c8) (by decide +kernel) rfl rfl rfl (by decide +kernel)
set_option maxRecDepth 65536 in
theorem w_c17 : (Jvm.Cond.code ({ cls := "com/example/dipper/dipper/stream/ScannedEvents", name := "cdataSection", desc := "([CII)V" } : Jvm.MethodName) prog_163_method_15_code (4 : Nat) (Option.none : Option Jvm.ClassFile.FieldType)).before args0 about1 = true := code_word (m := ⟨3, 7⟩) (meth := k3m7) (c := k3c7) (by decide +kernel) rfl rfl rfl (by decide +kernel)
set_option maxRecDepth 65536 in
theorem w_c18 : (Jvm.Cond.code ({ cls := "java/lang/String", name := "equals", desc := "(Ljava/lang/Object;)Z" } : Jvm.MethodName) jdk_42_method_66_code (3 : Nat) (Option.some Jvm.ClassFile.FieldType.boolean)).before args0 about1 = true := code_word (m := ⟨10, 2⟩) (meth := k10m2) (c := k10c2) (by decide +kernel) rfl rfl rfl (by decide +kernel)
set_option maxRecDepth 65536 in
theorem w_c19 : (Jvm.Cond.code ({ cls := "java/lang/StringLatin1", name := "equals", desc := "([B[B)Z" } : Jvm.MethodName) jdk_43_method_13_code (3 : Nat) (Option.some Jvm.ClassFile.FieldType.boolean)).before args0 about1 = true := code_word (m := ⟨11, 2⟩) (meth := k11m2) (c := k11c2) (by decide +kernel) rfl rfl rfl (by decide +kernel)
set_option maxRecDepth 65536 in
theorem w_c20 : (Jvm.Cond.code ({ cls := "com/example/dipper/dipper/stream/ScannedEvents", name := "isEmpty", desc := "()Z" } : Jvm.MethodName) prog_163_method_2_code (1 : Nat) (Option.some Jvm.ClassFile.FieldType.boolean)).before args0 about1 = true := code_word (m := ⟨3, 1⟩) (meth := k3m1) (c := k3c1) (by decide +kernel) rfl rfl rfl (by decide +kernel)
set_option maxRecDepth 65536 in
theorem w_c21 : (Jvm.Cond.code ({ cls := "com/example/dipper/dipper/stream/ScannedEvents", name := "endElement", desc := "(Ljava/lang/String;Ljava/lang/String;Ljava/lang/String;)V" } : Jvm.MethodName) prog_163_method_13_code (4 : Nat) (Option.none : Option Jvm.ClassFile.FieldType)).before args0 about1 = true := code_word (m := ⟨3, 5⟩) (meth := k3m5) (c := k3c5) (by decide +kernel) rfl rfl rfl (by decide +kernel)
set_option maxRecDepth 65536 in
theorem w_c22 : (Jvm.Cond.code ({ cls := "com/example/dipper/dipper/stream/ScannedEvent", name := "name", desc := "(Ljava/lang/String;Ljava/lang/String;Ljava/lang/String;)V" } : Jvm.MethodName) prog_162_method_3_code (4 : Nat) (Option.none : Option Jvm.ClassFile.FieldType)).before args0 about1 = true := code_word (m := ⟨4, 2⟩) (meth := k4m2) (c := k4c2) (by decide +kernel) rfl rfl rfl (by decide +kernel)
set_option maxRecDepth 65536 in
theorem w_c23 : (Jvm.Cond.code ({ cls := "com/example/dipper/dipper/stream/ScannedEvents", name := "endDocumentType", desc := "(Ljava/lang/String;)V" } : Jvm.MethodName) prog_163_method_11_code (2 : Nat) (Option.none : Option Jvm.ClassFile.FieldType)).before args0 about1 = true := code_word (m := ⟨3, 4⟩) (meth := k3m4) (c := k3c4) (by decide +kernel) rfl rfl rfl (by decide +kernel)
set_option maxRecDepth 65536 in
theorem w_c24 : (Jvm.Cond.code ({ cls := "java/lang/String", name := "isEmpty", desc := "()Z" } : Jvm.MethodName) jdk_42_method_55_code (1 : Nat) (Option.some Jvm.ClassFile.FieldType.boolean)).before args0 about1 = true := code_word (m := ⟨10, 1⟩) (meth := k10m1) (c := k10c1) (by decide +kernel) rfl rfl rfl (by decide +kernel)
set_option maxRecDepth 65536 in
theorem w_c25 : (Jvm.Cond.code ({ cls := "com/example/dipper/dipper/stream/ScannedEvents", name := "skippedEntity", desc := "(Ljava/lang/String;)V" } : Jvm.MethodName) prog_163_method_20_code (2 : Nat) (Option.none : Option Jvm.ClassFile.FieldType)).before args0 about1 = true := code_word (m := ⟨3, 10⟩) (meth := k3m10) (c := k3c10) (by decide +kernel) rfl rfl rfl (by decide +kernel)
set_option maxRecDepth 65536 in
theorem w_c26 : (Jvm.Cond.code ({ cls := "com/example/dipper/dipper/stream/ScannedEvents", name := "reference", desc := "(Ljava/lang/String;Ljava/lang/String;)V" } : Jvm.MethodName) prog_163_method_21_code (4 : Nat) (Option.none : Option Jvm.ClassFile.FieldType)).before args0 about1 = true := code_word (m := ⟨3, 11⟩) (meth := k3m11) (c := k3c11) (by decide +kernel) rfl rfl rfl (by decide +kernel)
def codes1 : List Jvm.Cond := [Jvm.Cond.code x code maxLocals ret, Jvm.Cond.code ({ cls := "com/example/dipper/dipper/stream/ScannedEvents", name := "<init>", desc := "(ZLcom/example/dipper/dipper/stream/SaxAttributes;Lcom/example/dipper/dipper/stream/OpenDeclarations;Ljava/util/Map;)V" } : Jvm.MethodName) prog_163_method_1_code (6 : Nat) (Option.none : Option Jvm.ClassFile.FieldType), Jvm.Cond.code ({ cls := "java/lang/Object", name := "<init>", desc := "()V" } : Jvm.MethodName) object_method_1_code (1 : Nat) (Option.none : Option Jvm.ClassFile.FieldType), Jvm.Cond.code ({ cls := "com/example/dipper/dipper/stream/ScannedEvent", name := "<init>", desc := "()V" } : Jvm.MethodName) prog_162_method_1_code (1 : Nat) (Option.none : Option Jvm.ClassFile.FieldType), Jvm.Cond.code ({ cls := "com/example/dipper/dipper/stream/ScannedEventsTakePinLaw", name := "put", desc := "(Lcom/example/dipper/dipper/stream/ScannedEvents;I[C)V" } : Jvm.MethodName) method_2_code (7 : Nat) (Option.none : Option Jvm.ClassFile.FieldType), Jvm.Cond.code ({ cls := "java/lang/String", name := "valueOf", desc := "(C)Ljava/lang/String;" } : Jvm.MethodName) jdk_42_method_139_code (1 : Nat) (Option.some (Jvm.ClassFile.FieldType.object "java/lang/String")), Jvm.Cond.code ({ cls := "java/lang/StringLatin1", name := "canEncode", desc := "(C)Z" } : Jvm.MethodName) jdk_43_method_3_code (1 : Nat) (Option.some Jvm.ClassFile.FieldType.boolean), Jvm.Cond.code ({ cls := "java/lang/StringLatin1", name := "toBytes", desc := "(C)[B" } : Jvm.MethodName) jdk_43_method_46_code (1 : Nat) (Option.some (Jvm.ClassFile.FieldType.array Jvm.ClassFile.FieldType.byte)), Jvm.Cond.code ({ cls := "java/lang/String", name := "<init>", desc := "([BB)V" } : Jvm.MethodName) jdk_42_method_151_code (3 : Nat) (Option.none : Option Jvm.ClassFile.FieldType), Jvm.Cond.code ({ cls := "com/example/dipper/dipper/stream/ScannedEvents", name := "characters", desc := "([CII)V" } : Jvm.MethodName) prog_163_method_14_code (4 : Nat) (Option.none : Option Jvm.ClassFile.FieldType), Jvm.Cond.code ({ cls := "com/example/dipper/dipper/stream/ScannedEvents", name := "add", desc := "(I)Lcom/example/dipper/dipper/stream/ScannedEvent;" } : Jvm.MethodName) prog_163_method_8_code (4 : Nat) (Option.some (Jvm.ClassFile.FieldType.object "com/example/dipper/dipper/stream/ScannedEvent")), Jvm.Cond.code ({ cls := "com/example/dipper/dipper/stream/ScannedEvent", name := "clear", desc := "(I)V" } : Jvm.MethodName) prog_162_method_2_code (2 : Nat) (Option.none : Option Jvm.ClassFile.FieldType), Jvm.Cond.code ({ cls := "com/example/dipper/dipper/stream/ScannedEvent", name := "characters", desc := "([CII)V" } : Jvm.MethodName) prog_162_method_4_code (4 : Nat) (Option.none : Option Jvm.ClassFile.FieldType), Jvm.Cond.code ({ cls := "com/example/dipper/dipper/stream/ScannedEvents", name := "processingInstruction", desc := "(Ljava/lang/String;Ljava/lang/String;)V" } : Jvm.MethodName) prog_163_method_17_code (4 : Nat) (Option.none : Option Jvm.ClassFile.FieldType), Jvm.Cond.code ({ cls := "com/example/dipper/dipper/stream/ScannedEvents", name := "take", desc := "(Lcom/example/dipper/dipper/stream/ScannedEvent;)Lcom/example/dipper/dipper/stream/ScannedEvent;" } : Jvm.MethodName) prog_163_method_4_code (3 : Nat) (Option.some (Jvm.ClassFile.FieldType.object "com/example/dipper/dipper/stream/ScannedEvent")), Jvm.Cond.code ({ cls := "com/example/dipper/dipper/stream/ScannedEventsTakePinLaw", name := "is", desc := "(Lcom/example/dipper/dipper/stream/ScannedEvent;I[C)Z" } : Jvm.MethodName) method_3_code (7 : Nat) (Option.some Jvm.ClassFile.FieldType.boolean), Jvm.Cond.code ({ cls := "com/example/dipper/dipper/stream/ScannedEvents", name := "comment", desc := "([CII)V" } : Jvm.MethodName) prog_163_method_16_code (4 : Nat) (Option.none : Option Jvm.ClassFile.FieldType), Jvm.Cond.code ({ cls := "com/example/dipper/dipper/stream/ScannedEvents", name := "cdataSection", desc := "([CII)V" } : Jvm.MethodName) prog_163_method_15_code (4 : Nat) (Option.none : Option Jvm.ClassFile.FieldType), Jvm.Cond.code ({ cls := "java/lang/String", name := "equals", desc := "(Ljava/lang/Object;)Z" } : Jvm.MethodName) jdk_42_method_66_code (3 : Nat) (Option.some Jvm.ClassFile.FieldType.boolean), Jvm.Cond.code ({ cls := "java/lang/StringLatin1", name := "equals", desc := "([B[B)Z" } : Jvm.MethodName) jdk_43_method_13_code (3 : Nat) (Option.some Jvm.ClassFile.FieldType.boolean), Jvm.Cond.code ({ cls := "com/example/dipper/dipper/stream/ScannedEvents", name := "isEmpty", desc := "()Z" } : Jvm.MethodName) prog_163_method_2_code (1 : Nat) (Option.some Jvm.ClassFile.FieldType.boolean), Jvm.Cond.code ({ cls := "com/example/dipper/dipper/stream/ScannedEvents", name := "endElement", desc := "(Ljava/lang/String;Ljava/lang/String;Ljava/lang/String;)V" } : Jvm.MethodName) prog_163_method_13_code (4 : Nat) (Option.none : Option Jvm.ClassFile.FieldType), Jvm.Cond.code ({ cls := "com/example/dipper/dipper/stream/ScannedEvent", name := "name", desc := "(Ljava/lang/String;Ljava/lang/String;Ljava/lang/String;)V" } : Jvm.MethodName) prog_162_method_3_code (4 : Nat) (Option.none : Option Jvm.ClassFile.FieldType), Jvm.Cond.code ({ cls := "com/example/dipper/dipper/stream/ScannedEvents", name := "endDocumentType", desc := "(Ljava/lang/String;)V" } : Jvm.MethodName) prog_163_method_11_code (2 : Nat) (Option.none : Option Jvm.ClassFile.FieldType), Jvm.Cond.code ({ cls := "java/lang/String", name := "isEmpty", desc := "()Z" } : Jvm.MethodName) jdk_42_method_55_code (1 : Nat) (Option.some Jvm.ClassFile.FieldType.boolean), Jvm.Cond.code ({ cls := "com/example/dipper/dipper/stream/ScannedEvents", name := "skippedEntity", desc := "(Ljava/lang/String;)V" } : Jvm.MethodName) prog_163_method_20_code (2 : Nat) (Option.none : Option Jvm.ClassFile.FieldType), Jvm.Cond.code ({ cls := "com/example/dipper/dipper/stream/ScannedEvents", name := "reference", desc := "(Ljava/lang/String;Ljava/lang/String;)V" } : Jvm.MethodName) prog_163_method_21_code (4 : Nat) (Option.none : Option Jvm.ClassFile.FieldType)]
set_option maxRecDepth 65536 in
theorem codes_eq : words1.filter isCode = codes1 := rfl
theorem w_codes : ∀ c ∈ words1.filter isCode, c.before args0 about1 = true := by
  rw [codes_eq]
  intro c hc
  simp only [codes1, List.mem_cons, List.not_mem_nil, or_false] at hc
  rcases hc with rfl | rfl | rfl | rfl | rfl | rfl | rfl | rfl | rfl | rfl | rfl | rfl | rfl | rfl | rfl | rfl | rfl | rfl | rfl | rfl | rfl | rfl | rfl | rfl | rfl | rfl | rfl
  · exact w_c0
  · exact w_c1
  · exact w_c2
  · exact w_c3
  · exact w_c4
  · exact w_c5
  · exact w_c6
  · exact w_c7
  · exact w_c8
  · exact w_c9
  · exact w_c10
  · exact w_c11
  · exact w_c12
  · exact w_c13
  · exact w_c14
  · exact w_c15
  · exact w_c16
  · exact w_c17
  · exact w_c18
  · exact w_c19
  · exact w_c20
  · exact w_c21
  · exact w_c22
  · exact w_c23
  · exact w_c24
  · exact w_c25
  · exact w_c26
set_option maxRecDepth 65536 in
theorem w_t1 : (words1.take 24).all (fun c => isCode c || c.before args0 about1) = true := by decide +kernel
set_option maxRecDepth 65536 in
theorem w_t2 : ((words1.drop 24).take 24).all (fun c => isCode c || c.before args0 about1) = true := by decide +kernel
set_option maxRecDepth 65536 in
theorem w_t3 : (((words1.drop 24).drop 24).take 24).all (fun c => isCode c || c.before args0 about1) = true := by decide +kernel
set_option maxRecDepth 65536 in
theorem w_t4 : ((((words1.drop 24).drop 24).drop 24).take 24).all (fun c => isCode c || c.before args0 about1) = true := by decide +kernel
set_option maxRecDepth 65536 in
theorem w_t5 : (((((words1.drop 24).drop 24).drop 24).drop 24).take 24).all (fun c => isCode c || c.before args0 about1) = true := by decide +kernel
set_option maxRecDepth 65536 in
theorem w_t6 : ((((((words1.drop 24).drop 24).drop 24).drop 24).drop 24).take 24).all (fun c => isCode c || c.before args0 about1) = true := by decide +kernel
set_option maxRecDepth 65536 in
theorem w_t7 : (((((((words1.drop 24).drop 24).drop 24).drop 24).drop 24).drop 24).take 24).all (fun c => isCode c || c.before args0 about1) = true := by decide +kernel
set_option maxRecDepth 65536 in
theorem w_t8 : (((((((words1.drop 24).drop 24).drop 24).drop 24).drop 24).drop 24).drop 24).all (fun c => isCode c || c.before args0 about1) = true := by decide +kernel
theorem w_tables : (allAtoms (Jvm.Cond.code x code maxLocals ret :: tables_1)).before args0 about1 = true := by
  rw [allAtoms_all]
  show words1.all (fun c => c.before args0 about1) = true
  refine all_split ?_ w_codes
  rw [← List.take_append_drop 24 words1, List.all_append, w_t1, ← List.take_append_drop 24 (words1.drop 24), List.all_append, w_t2, ← List.take_append_drop 24 ((words1.drop 24).drop 24), List.all_append, w_t3, ← List.take_append_drop 24 (((words1.drop 24).drop 24).drop 24), List.all_append, w_t4, ← List.take_append_drop 24 ((((words1.drop 24).drop 24).drop 24).drop 24), List.all_append, w_t5, ← List.take_append_drop 24 (((((words1.drop 24).drop 24).drop 24).drop 24).drop 24), List.all_append, w_t6, ← List.take_append_drop 24 ((((((words1.drop 24).drop 24).drop 24).drop 24).drop 24).drop 24), List.all_append, w_t7, w_t8]
  rfl
set_option maxRecDepth 65536 in
theorem w_rest : rest_1_c.before args0 about1 = true := by decide +kernel
set_option maxRecDepth 65536 in
theorem w_case : (Jvm.Cond.and given_1 narrow_1).before args0 about1 = true := by decide +kernel
set_option maxRecDepth 65536 in
theorem w_consts : constsHeld consts_1 about1 := Jvm.Lit.constsHeldB_iff.mp (by decide +kernel)
theorem w_applies : (headSpec (Jvm.Cond.code x code maxLocals ret :: tables_1) room_1).applies x e0.platform about1 = true :=
  (Spec.applies_iff w_frames).mpr ⟨w_running, w_runnable, w_alone, w_named, w_hears, w_ripe, w_room, w_tables⟩
theorem atStart : AtStart classFile x code maxLocals ret World_1 tables_1 room_1 Calls_1 rest_1 Pre_1 launch0 p0 e0 about1 theMethod args0 below0 :=
  ⟨lists_1, trivial, launch0.admits_env _ _ _, launch0.least_env, fairChoices_fair.cas, fairChoices_fair.clock, w_frames, w_args, w_heap, w_applies, ⟨w_consts, trivial⟩, w_rest, w_case⟩
end start1
theorem witness_1 : WitnessClaimed_1 := ⟨start1.p0, start1.e0, start1.about1, start1.theMethod, start1.args0, start1.below0, start1.atStart⟩
end Jvm.Pilot.@@N@@
