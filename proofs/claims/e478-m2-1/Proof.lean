import JvmDerived
import JvmDerived.Pilot.@@N@@Statement
import JvmDerived.Pilot.@@N@@Code
set_option linter.unusedVariables false
set_option linter.unusedSimpArgs false
namespace Jvm.Pilot.@@N@@
open Jvm Jvm.ClassFile Sem Op Lib Jvm.Free Jvm.Stand Jvm.LawKit Jvm.RoadKit Bundle Jvm.Pilot.@@N@@.Jvm.D
/-- the rest of a walk: from the frame g over T the run comes to an end that Q describes -/
def Goes (p : Program) (e : Env) (below : List Frame) (s : State) (cs ss : Nat) (Q : Option Value → Heap → List Loc → Prop) (T : State) (g : JFrame) : Prop :=
  ∃ U o, Steps p.tables e below (T.setTop g) U ∧ U.status = .running ∧ Ended U below o ∧ ∃ v L, o = .returned v ∧ Q v U.heap L ∧ FrameEnd s o U L cs ss
section Own
variable {p : Program} {l : Launch} {e : Env} {R : Room} {s : State} {m : MethodId} {args : Array Value} {below : List Frame} {meth : Method} {c : Code} {T T' : State} {locs : List Loc} {cells slots : Nat} {cs ss : Nat} {Q : Option Value → Heap → List Loc → Prop} {pc pc' : Nat} {Ls Ls' : Array Slot} {st : List Value}
theorem Goes.pre {g g' : JFrame} (h : ∀ target, Steps p.tables e below (T'.setTop g') target → Steps p.tables e below (T.setTop g) target) (k : Goes p e below s cs ss Q T' g') : Goes p e below s cs ss Q T g := by
  obtain ⟨U, o, h1, r⟩ := k
  exact ⟨U, o, h _ h1, r⟩
theorem Goes.aft {g g' : JFrame} (h : Steps p.tables e below (T.setTop g) (T'.setTop g')) (k : Goes p e below s cs ss Q T' g') : Goes p e below s cs ss Q T g := by
  obtain ⟨U, o, h1, r⟩ := k
  exact ⟨U, o, h.trans h1, r⟩
theorem own_enter {maxL : Nat} {g : JFrame} (hg : entryFrame m args maxL = g) (k : Goes p e below s cs ss Q T g) : ∃ s₂ o, Steps p.tables e below (T.setTop (entryFrame m args maxL)) s₂ ∧ s₂.status = .running ∧ Ended s₂ below o ∧ ∃ v L, o = .returned v ∧ Q v s₂.heap L ∧ FrameEnd s o s₂ L cs ss := by
  subst hg
  exact k
theorem own_retN (X : Stand p l e R s m args below meth c T locs cells slots) (hx : p.tables.exec = Jvm.exec) (hlk : meth.locks = false) {t : FieldType} (hret : meth.sig.returnType = some t) (ht : t = .boolean ∨ t = .byte ∨ t = .char ∨ t = .short) {z : Int32} (hd : decode c.code pc = .ok (.ireturn, 1)) (h1 : cells ≤ cs) (h2 : slots ≤ ss) (hq : Q (some (.int (nar t z))) T.heap locs) : Goes p e below s cs ss Q T (mkF m pc Ls (.int z :: st)) := by
  obtain ⟨fs, hr, hrun, hended, hW, hsame⟩ := X.leave (v := some (.int (nar t z))) (fun h => by rw [hret] at h; cases h) hlk
  exact ⟨_, _, retN X hx hret ht hd hr, hrun, hended, _, _, rfl, hq, ⟨_, rfl⟩, hW, hsame.mono h1 h2⟩
theorem own_retI (X : Stand p l e R s m args below meth c T locs cells slots) (hx : p.tables.exec = Jvm.exec) (hlk : meth.locks = false) (hret : meth.sig.returnType = some .int) {z : Int32} (hd : decode c.code pc = .ok (.ireturn, 1)) (h1 : cells ≤ cs) (h2 : slots ≤ ss) (hq : Q (some (.int z)) T.heap locs) : Goes p e below s cs ss Q T (mkF m pc Ls (.int z :: st)) := by
  obtain ⟨fs, hr, hrun, hended, hW, hsame⟩ := X.leave (v := some (.int z)) (fun h => by rw [hret] at h; cases h) hlk
  exact ⟨_, _, retOut X hx hret rfl (Or.inl ⟨rfl, Or.inl rfl, z, rfl⟩) hd hr, hrun, hended, _, _, rfl, hq, ⟨_, rfl⟩, hW, hsame.mono h1 h2⟩
theorem own_retJ (X : Stand p l e R s m args below meth c T locs cells slots) (hx : p.tables.exec = Jvm.exec) (hlk : meth.locks = false) (hret : meth.sig.returnType = some .long) {z : Int64} (hd : decode c.code pc = .ok (.lreturn, 1)) (h1 : cells ≤ cs) (h2 : slots ≤ ss) (hq : Q (some (.long z)) T.heap locs) : Goes p e below s cs ss Q T (mkF m pc Ls (.long z :: st)) := by
  obtain ⟨fs, hr, hrun, hended, hW, hsame⟩ := X.leave (v := some (.long z)) (fun h => by rw [hret] at h; cases h) hlk
  exact ⟨_, _, retOut X hx hret rfl (Or.inr (Or.inl ⟨rfl, rfl, z, rfl⟩)) hd hr, hrun, hended, _, _, rfl, hq, ⟨_, rfl⟩, hW, hsame.mono h1 h2⟩
theorem own_retA (X : Stand p l e R s m args below meth c T locs cells slots) (hx : p.tables.exec = Jvm.exec) (hlk : meth.locks = false) {t : FieldType} (hret : meth.sig.returnType = some t) {w : Value} (ht : t.isReference = true) (hw : w.isRef = true) (hn : narrow t w = w) (hd : decode c.code pc = .ok (.areturn, 1)) (h1 : cells ≤ cs) (h2 : slots ≤ ss) (hq : Q (some w) T.heap locs) : Goes p e below s cs ss Q T (mkF m pc Ls (w :: st)) := by
  obtain ⟨fs, hr, hrun, hended, hW, hsame⟩ := X.leave (v := some w) (fun h => by rw [hret] at h; cases h) hlk
  exact ⟨_, _, retOut X hx hret hn (Or.inr (Or.inr (Or.inr (Or.inr ⟨rfl, ht, hw⟩)))) hd hr, hrun, hended, _, _, rfl, hq, ⟨_, rfl⟩, hW, hsame.mono h1 h2⟩
theorem own_ret0 (X : Stand p l e R s m args below meth c T locs cells slots) (hx : p.tables.exec = Jvm.exec) (hlk : meth.locks = false) (hret : meth.sig.returnType = none) (hd : decode c.code pc = .ok (.return_, 1)) (h1 : cells ≤ cs) (h2 : slots ≤ ss) (hq : Q none T.heap locs) : Goes p e below s cs ss Q T (mkF m pc Ls []) := by
  obtain ⟨fs, hr, hrun, hended, hW, hsame⟩ := X.leave (v := none) (fun _ => rfl) hlk
  exact ⟨_, _, X.returnOut hx hret hd hr, hrun, hended, _, _, rfl, hq, ⟨_, rfl⟩, hW, hsame.mono h1 h2⟩
theorem own_iload (X : Stand p l e R s m args below meth c T locs cells slots) (hx : p.tables.exec = Jvm.exec) {i : Nat} {v : Int32} (hd : decode c.code pc = .ok (.iload i, 2)) (hl : Ls[i]? = some (.val (.int v))) (hp : pc + 2 = pc') (k : Goes p e below s cs ss Q T (mkF m pc' Ls (.int v :: st))) : Goes p e below s cs ss Q T (mkF m pc Ls st) := by
  subst hp
  exact Goes.pre (fun _ k => XS.iload X.here hx rfl hd hl k) k
theorem own_iloadN (X : Stand p l e R s m args below meth c T locs cells slots) (hx : p.tables.exec = Jvm.exec) {i : Fin 4} {v : Int32} (hd : decode c.code pc = .ok (.iload_n i, 1)) (hl : Ls[i.val]? = some (.val (.int v))) (hp : pc + 1 = pc') (k : Goes p e below s cs ss Q T (mkF m pc' Ls (.int v :: st))) : Goes p e below s cs ss Q T (mkF m pc Ls st) := by
  subst hp
  exact Goes.pre (fun _ k => XS.iloadN X.here hx rfl hd hl k) k
theorem own_lload (X : Stand p l e R s m args below meth c T locs cells slots) (hx : p.tables.exec = Jvm.exec) {i : Nat} {v : Int64} (hd : decode c.code pc = .ok (.lload i, 2)) (hl : Ls[i]? = some (.val (.long v))) (hp : pc + 2 = pc') (k : Goes p e below s cs ss Q T (mkF m pc' Ls (.long v :: st))) : Goes p e below s cs ss Q T (mkF m pc Ls st) := by
  subst hp
  exact Goes.pre (fun _ k => XS.lload X.here hx rfl hd hl k) k
theorem own_lloadN (X : Stand p l e R s m args below meth c T locs cells slots) (hx : p.tables.exec = Jvm.exec) {i : Fin 4} {v : Int64} (hd : decode c.code pc = .ok (.lload_n i, 1)) (hl : Ls[i.val]? = some (.val (.long v))) (hp : pc + 1 = pc') (k : Goes p e below s cs ss Q T (mkF m pc' Ls (.long v :: st))) : Goes p e below s cs ss Q T (mkF m pc Ls st) := by
  subst hp
  exact Goes.pre (fun _ k => XS.lloadN X.here hx rfl hd hl k) k
theorem own_aload (X : Stand p l e R s m args below meth c T locs cells slots) (hx : p.tables.exec = Jvm.exec) {i : Nat} {v : Value} (hd : decode c.code pc = .ok (.aload i, 2)) (hl : Ls[i]? = some (.val v)) (hv : v.isRef = true) (hp : pc + 2 = pc') (k : Goes p e below s cs ss Q T (mkF m pc' Ls (v :: st))) : Goes p e below s cs ss Q T (mkF m pc Ls st) := by
  subst hp
  exact Goes.pre (fun _ k => XS.aload X.here hx rfl hd hl hv k) k
theorem own_aloadN (X : Stand p l e R s m args below meth c T locs cells slots) (hx : p.tables.exec = Jvm.exec) {i : Fin 4} {v : Value} (hd : decode c.code pc = .ok (.aload_n i, 1)) (hl : Ls[i.val]? = some (.val v)) (hv : v.isRef = true) (hp : pc + 1 = pc') (k : Goes p e below s cs ss Q T (mkF m pc' Ls (v :: st))) : Goes p e below s cs ss Q T (mkF m pc Ls st) := by
  subst hp
  exact Goes.pre (fun _ k => XS.aloadN X.here hx rfl hd hl hv k) k
theorem own_istore (X : Stand p l e R s m args below meth c T locs cells slots) (hx : p.tables.exec = Jvm.exec) {i : Nat} {x : Int32} (hd : decode c.code pc = .ok (.istore i, 2)) (hl : storeLocals Ls i (.int x) = some Ls') (hp : pc + 2 = pc') (k : Goes p e below s cs ss Q T (mkF m pc' Ls' st)) : Goes p e below s cs ss Q T (mkF m pc Ls (.int x :: st)) := by
  subst hp
  exact Goes.pre (fun _ k => XS.istore X.here hx rfl hd rfl hl k) k
theorem own_istoreN (X : Stand p l e R s m args below meth c T locs cells slots) (hx : p.tables.exec = Jvm.exec) {i : Fin 4} {x : Int32} (hd : decode c.code pc = .ok (.istore_n i, 1)) (hl : storeLocals Ls i.val (.int x) = some Ls') (hp : pc + 1 = pc') (k : Goes p e below s cs ss Q T (mkF m pc' Ls' st)) : Goes p e below s cs ss Q T (mkF m pc Ls (.int x :: st)) := by
  subst hp
  exact Goes.pre (fun _ k => XS.istoreN X.here hx rfl hd rfl hl k) k
theorem own_lstore (X : Stand p l e R s m args below meth c T locs cells slots) (hx : p.tables.exec = Jvm.exec) {i : Nat} {x : Int64} (hd : decode c.code pc = .ok (.lstore i, 2)) (hl : storeLocals Ls i (.long x) = some Ls') (hp : pc + 2 = pc') (k : Goes p e below s cs ss Q T (mkF m pc' Ls' st)) : Goes p e below s cs ss Q T (mkF m pc Ls (.long x :: st)) := by
  subst hp
  exact Goes.pre (fun _ k => XS.lstore X.here hx rfl hd rfl hl k) k
theorem own_lstoreN (X : Stand p l e R s m args below meth c T locs cells slots) (hx : p.tables.exec = Jvm.exec) {i : Fin 4} {x : Int64} (hd : decode c.code pc = .ok (.lstore_n i, 1)) (hl : storeLocals Ls i.val (.long x) = some Ls') (hp : pc + 1 = pc') (k : Goes p e below s cs ss Q T (mkF m pc' Ls' st)) : Goes p e below s cs ss Q T (mkF m pc Ls (.long x :: st)) := by
  subst hp
  exact Goes.pre (fun _ k => XS.lstoreN X.here hx rfl hd rfl hl k) k
theorem own_astore (X : Stand p l e R s m args below meth c T locs cells slots) (hx : p.tables.exec = Jvm.exec) {i : Nat} {x : Value} (hd : decode c.code pc = .ok (.astore i, 2)) (hv : x.isRef = true) (hl : storeLocals Ls i x = some Ls') (hp : pc + 2 = pc') (k : Goes p e below s cs ss Q T (mkF m pc' Ls' st)) : Goes p e below s cs ss Q T (mkF m pc Ls (x :: st)) := by
  subst hp
  exact Goes.pre (fun _ k => XS.astore X.here hx rfl hd rfl hv hl k) k
theorem own_astoreN (X : Stand p l e R s m args below meth c T locs cells slots) (hx : p.tables.exec = Jvm.exec) {i : Fin 4} {x : Value} (hd : decode c.code pc = .ok (.astore_n i, 1)) (hv : x.isRef = true) (hl : storeLocals Ls i.val x = some Ls') (hp : pc + 1 = pc') (k : Goes p e below s cs ss Q T (mkF m pc' Ls' st)) : Goes p e below s cs ss Q T (mkF m pc Ls (x :: st)) := by
  subst hp
  exact Goes.pre (fun _ k => XS.astoreN X.here hx rfl hd rfl hv hl k) k
theorem own_iinc (X : Stand p l e R s m args below meth c T locs cells slots) (hx : p.tables.exec = Jvm.exec) {i : Nat} {q : Int} {x y : Int32} (hd : decode c.code pc = .ok (.iinc i q, 3)) (hl : Ls[i]? = some (.val (.int x))) (hy : x + Int32.ofInt q = y) (hl' : storeLocals Ls i (.int y) = some Ls') (hp : pc + 3 = pc') (k : Goes p e below s cs ss Q T (mkF m pc' Ls' st)) : Goes p e below s cs ss Q T (mkF m pc Ls st) := by
  subst hp
  exact Goes.pre (fun _ k => XS.iinc X.here hx rfl hd hl (hy.symm ▸ hl') k) k
theorem own_iconst (X : Stand p l e R s m args below meth c T locs cells slots) (hx : p.tables.exec = Jvm.exec) {i : Int} {v : Int32} (hd : decode c.code pc = .ok (.iconst i, 1)) (hv : Int32.ofInt i = v) (hp : pc + 1 = pc') (k : Goes p e below s cs ss Q T (mkF m pc' Ls (.int v :: st))) : Goes p e below s cs ss Q T (mkF m pc Ls st) := by
  subst hp hv
  exact Goes.pre (fun _ k => XS.iconst X.here hx rfl hd k) k
theorem own_bipush (X : Stand p l e R s m args below meth c T locs cells slots) (hx : p.tables.exec = Jvm.exec) {i : Int} {v : Int32} (hd : decode c.code pc = .ok (.bipush i, 2)) (hv : (Int8.ofInt i).toInt32 = v) (hp : pc + 2 = pc') (k : Goes p e below s cs ss Q T (mkF m pc' Ls (.int v :: st))) : Goes p e below s cs ss Q T (mkF m pc Ls st) := by
  subst hp hv
  exact Goes.pre (fun _ k => XS.bipush X.here hx rfl hd k) k
theorem own_lconst (X : Stand p l e R s m args below meth c T locs cells slots) (hx : p.tables.exec = Jvm.exec) {i : Fin 2} {v : Int64} (hd : decode c.code pc = .ok (.lconst i, 1)) (hv : Int64.ofNat i = v) (hp : pc + 1 = pc') (k : Goes p e below s cs ss Q T (mkF m pc' Ls (.long v :: st))) : Goes p e below s cs ss Q T (mkF m pc Ls st) := by
  subst hp hv
  exact Goes.pre (fun _ k => XS.lconst X.here hx rfl hd k) k
theorem own_aconstNull (X : Stand p l e R s m args below meth c T locs cells slots) (hx : p.tables.exec = Jvm.exec)  (hd : decode c.code pc = .ok (.aconst_null, 1))  (hp : pc + 1 = pc') (k : Goes p e below s cs ss Q T (mkF m pc' Ls (.null :: st))) : Goes p e below s cs ss Q T (mkF m pc Ls st) := by
  subst hp
  exact Goes.pre (fun _ k => XS.aconstNull X.here hx rfl hd k) k
theorem own_iadd (X : Stand p l e R s m args below meth c T locs cells slots) (hx : p.tables.exec = Jvm.exec) {x y : Int32} (hd : decode c.code pc = .ok (.iadd, 1))  (hp : pc + 1 = pc') (k : Goes p e below s cs ss Q T (mkF m pc' Ls (.int (x + y) :: st))) : Goes p e below s cs ss Q T (mkF m pc Ls (.int y :: .int x :: st)) := by
  subst hp
  exact Goes.pre (fun _ k => XS.iadd X.here hx rfl hd rfl k) k
theorem own_isub (X : Stand p l e R s m args below meth c T locs cells slots) (hx : p.tables.exec = Jvm.exec) {x y : Int32} (hd : decode c.code pc = .ok (.isub, 1))  (hp : pc + 1 = pc') (k : Goes p e below s cs ss Q T (mkF m pc' Ls (.int (x - y) :: st))) : Goes p e below s cs ss Q T (mkF m pc Ls (.int y :: .int x :: st)) := by
  subst hp
  exact Goes.pre (fun _ k => XS.isub X.here hx rfl hd rfl k) k
theorem own_imul (X : Stand p l e R s m args below meth c T locs cells slots) (hx : p.tables.exec = Jvm.exec) {x y : Int32} (hd : decode c.code pc = .ok (.imul, 1))  (hp : pc + 1 = pc') (k : Goes p e below s cs ss Q T (mkF m pc' Ls (.int (x * y) :: st))) : Goes p e below s cs ss Q T (mkF m pc Ls (.int y :: .int x :: st)) := by
  subst hp
  exact Goes.pre (fun _ k => XS.imul X.here hx rfl hd rfl k) k
theorem own_iand (X : Stand p l e R s m args below meth c T locs cells slots) (hx : p.tables.exec = Jvm.exec) {x y : Int32} (hd : decode c.code pc = .ok (.iand, 1))  (hp : pc + 1 = pc') (k : Goes p e below s cs ss Q T (mkF m pc' Ls (.int (x &&& y) :: st))) : Goes p e below s cs ss Q T (mkF m pc Ls (.int y :: .int x :: st)) := by
  subst hp
  exact Goes.pre (fun _ k => XS.iand X.here hx rfl hd rfl k) k
theorem own_iushr (X : Stand p l e R s m args below meth c T locs cells slots) (hx : p.tables.exec = Jvm.exec) {x y : Int32} (hd : decode c.code pc = .ok (.iushr, 1))  (hp : pc + 1 = pc') (k : Goes p e below s cs ss Q T (mkF m pc' Ls (.int ((x.toUInt32 >>> (y &&& 31).toUInt32).toInt32) :: st))) : Goes p e below s cs ss Q T (mkF m pc Ls (.int y :: .int x :: st)) := by
  subst hp
  exact Goes.pre (fun _ k => XS.iushr X.here hx rfl hd rfl k) k
theorem own_irem (X : Stand p l e R s m args below meth c T locs cells slots) (hx : p.tables.exec = Jvm.exec) {x y : Int32} (hd : decode c.code pc = .ok (.irem, 1)) (hy : y ≠ 0) (hp : pc + 1 = pc') (k : Goes p e below s cs ss Q T (mkF m pc' Ls (.int (x % y) :: st))) : Goes p e below s cs ss Q T (mkF m pc Ls (.int y :: .int x :: st)) := by
  subst hp
  exact Goes.pre (fun _ k => iremM X hx rfl hd rfl hy k) k
theorem own_ladd (X : Stand p l e R s m args below meth c T locs cells slots) (hx : p.tables.exec = Jvm.exec) {x y : Int64} (hd : decode c.code pc = .ok (.ladd, 1))  (hp : pc + 1 = pc') (k : Goes p e below s cs ss Q T (mkF m pc' Ls (.long (x + y) :: st))) : Goes p e below s cs ss Q T (mkF m pc Ls (.long y :: .long x :: st)) := by
  subst hp
  exact Goes.pre (fun _ k => XS.ladd X.here hx rfl hd rfl k) k
theorem own_lsub (X : Stand p l e R s m args below meth c T locs cells slots) (hx : p.tables.exec = Jvm.exec) {x y : Int64} (hd : decode c.code pc = .ok (.lsub, 1))  (hp : pc + 1 = pc') (k : Goes p e below s cs ss Q T (mkF m pc' Ls (.long (x - y) :: st))) : Goes p e below s cs ss Q T (mkF m pc Ls (.long y :: .long x :: st)) := by
  subst hp
  exact Goes.pre (fun _ k => XS.lsub X.here hx rfl hd rfl k) k
theorem own_land (X : Stand p l e R s m args below meth c T locs cells slots) (hx : p.tables.exec = Jvm.exec) {x y : Int64} (hd : decode c.code pc = .ok (.land, 1))  (hp : pc + 1 = pc') (k : Goes p e below s cs ss Q T (mkF m pc' Ls (.long (x &&& y) :: st))) : Goes p e below s cs ss Q T (mkF m pc Ls (.long y :: .long x :: st)) := by
  subst hp
  exact Goes.pre (fun _ k => XS.land X.here hx rfl hd rfl k) k
theorem own_lxor (X : Stand p l e R s m args below meth c T locs cells slots) (hx : p.tables.exec = Jvm.exec) {x y : Int64} (hd : decode c.code pc = .ok (.lxor, 1))  (hp : pc + 1 = pc') (k : Goes p e below s cs ss Q T (mkF m pc' Ls (.long (x ^^^ y) :: st))) : Goes p e below s cs ss Q T (mkF m pc Ls (.long y :: .long x :: st)) := by
  subst hp
  exact Goes.pre (fun _ k => XS.lxor X.here hx rfl hd rfl k) k
theorem own_lcmp (X : Stand p l e R s m args below meth c T locs cells slots) (hx : p.tables.exec = Jvm.exec) {x y : Int64} (hd : decode c.code pc = .ok (.lcmp, 1))  (hp : pc + 1 = pc') (k : Goes p e below s cs ss Q T (mkF m pc' Ls (.int (lcmpW x y) :: st))) : Goes p e below s cs ss Q T (mkF m pc Ls (.long y :: .long x :: st)) := by
  subst hp
  exact Goes.pre (fun _ k => XS.lcmp X.here hx rfl hd rfl k) k
theorem own_i2c (X : Stand p l e R s m args below meth c T locs cells slots) (hx : p.tables.exec = Jvm.exec) {x : Int32} (hd : decode c.code pc = .ok (.i2c, 1))  (hp : pc + 1 = pc') (k : Goes p e below s cs ss Q T (mkF m pc' Ls (.int (x.toUInt32.toUInt16.toUInt32.toInt32) :: st))) : Goes p e below s cs ss Q T (mkF m pc Ls (.int x :: st)) := by
  subst hp
  exact Goes.pre (fun _ k => XS.i2c X.here hx rfl hd rfl k) k
theorem own_dup (X : Stand p l e R s m args below meth c T locs cells slots) (hx : p.tables.exec = Jvm.exec) {x : Value} (hd : decode c.code pc = .ok (.dup, 1)) (hc : x.category = 1) (hp : pc + 1 = pc') (k : Goes p e below s cs ss Q T (mkF m pc' Ls (x :: x :: st))) : Goes p e below s cs ss Q T (mkF m pc Ls (x :: st)) := by
  subst hp
  exact Goes.pre (fun _ k => XS.dup X.here hx rfl hd rfl hc k) k
theorem own_pop (X : Stand p l e R s m args below meth c T locs cells slots) (hx : p.tables.exec = Jvm.exec) {x : Value} (hd : decode c.code pc = .ok (.pop, 1)) (hc : x.category = 1) (hp : pc + 1 = pc') (k : Goes p e below s cs ss Q T (mkF m pc' Ls st)) : Goes p e below s cs ss Q T (mkF m pc Ls (x :: st)) := by
  subst hp
  exact Goes.pre (fun _ k => XS.pop X.here hx rfl hd rfl hc k) k
theorem own_goto (X : Stand p l e R s m args below meth c T locs cells slots) (hx : p.tables.exec = Jvm.exec) {o : Int}  (hd : decode c.code pc = .ok (.goto o, 3))  (ho : 0 ≤ (pc : Int) + o) (hp : ((pc : Int) + o).toNat = pc') (k : Goes p e below s cs ss Q T (mkF m pc' Ls st)) : Goes p e below s cs ss Q T (mkF m pc Ls st) := by
  exact Goes.pre (fun _ k => XS.goto X.here hx rfl rfl hd ho hp k) k
theorem own_ifY (X : Stand p l e R s m args below meth c T locs cells slots) (hx : p.tables.exec = Jvm.exec) {o : Int} {cd : ClassFile.Cond} {x : Int32} (hd : decode c.code pc = .ok (.ifCond cd o, 3)) (hc : ifCond.holds cd x = true) (ho : 0 ≤ (pc : Int) + o) (hp : ((pc : Int) + o).toNat = pc') (k : Goes p e below s cs ss Q T (mkF m pc' Ls st)) : Goes p e below s cs ss Q T (mkF m pc Ls (.int x :: st)) := by
  exact Goes.pre (fun _ k => XS.ifYes X.here hx rfl rfl hd rfl hc ho hp k) k
theorem own_icmpY (X : Stand p l e R s m args below meth c T locs cells slots) (hx : p.tables.exec = Jvm.exec) {o : Int} {cd : ClassFile.Cond} {x y : Int32} (hd : decode c.code pc = .ok (.if_icmp cd o, 3)) (hc : if_icmp.holds cd x y = true) (ho : 0 ≤ (pc : Int) + o) (hp : ((pc : Int) + o).toNat = pc') (k : Goes p e below s cs ss Q T (mkF m pc' Ls st)) : Goes p e below s cs ss Q T (mkF m pc Ls (.int y :: .int x :: st)) := by
  exact Goes.pre (fun _ k => XS.icmpYes X.here hx rfl rfl hd rfl hc ho hp k) k
theorem own_ifN (X : Stand p l e R s m args below meth c T locs cells slots) (hx : p.tables.exec = Jvm.exec) {o : Int} {cd : ClassFile.Cond} {x : Int32} (hd : decode c.code pc = .ok (.ifCond cd o, 3)) (hc : ifCond.holds cd x = false) (hp : pc + 3 = pc') (k : Goes p e below s cs ss Q T (mkF m pc' Ls st)) : Goes p e below s cs ss Q T (mkF m pc Ls (.int x :: st)) := by
  subst hp
  exact Goes.pre (fun _ k => XS.ifNo X.here hx rfl hd rfl hc k) k
theorem own_icmpN (X : Stand p l e R s m args below meth c T locs cells slots) (hx : p.tables.exec = Jvm.exec) {o : Int} {cd : ClassFile.Cond} {x y : Int32} (hd : decode c.code pc = .ok (.if_icmp cd o, 3)) (hc : if_icmp.holds cd x y = false) (hp : pc + 3 = pc') (k : Goes p e below s cs ss Q T (mkF m pc' Ls st)) : Goes p e below s cs ss Q T (mkF m pc Ls (.int y :: .int x :: st)) := by
  subst hp
  exact Goes.pre (fun _ k => XS.icmpNo X.here hx rfl hd rfl hc k) k
theorem own_ifnullY (X : Stand p l e R s m args below meth c T locs cells slots) (hx : p.tables.exec = Jvm.exec) {o : Int}  (hd : decode c.code pc = .ok (.ifnull o, 3))  (ho : 0 ≤ (pc : Int) + o) (hp : ((pc : Int) + o).toNat = pc') (k : Goes p e below s cs ss Q T (mkF m pc' Ls st)) : Goes p e below s cs ss Q T (mkF m pc Ls (.null :: st)) := by
  exact Goes.pre (fun _ k => XS.ifnullYes X.here hx rfl rfl hd rfl ho hp k) k
theorem own_ifnullN (X : Stand p l e R s m args below meth c T locs cells slots) (hx : p.tables.exec = Jvm.exec) {o : Int} {b : Addr} (hd : decode c.code pc = .ok (.ifnull o, 3))  (hp : pc + 3 = pc') (k : Goes p e below s cs ss Q T (mkF m pc' Ls st)) : Goes p e below s cs ss Q T (mkF m pc Ls (.ref b :: st)) := by
  subst hp
  exact Goes.pre (fun _ k => XS.ifnullNo X.here hx rfl hd rfl k) k
theorem own_ifnonnullY (X : Stand p l e R s m args below meth c T locs cells slots) (hx : p.tables.exec = Jvm.exec) {o : Int} {b : Addr} (hd : decode c.code pc = .ok (.ifnonnull o, 3))  (ho : 0 ≤ (pc : Int) + o) (hp : ((pc : Int) + o).toNat = pc') (k : Goes p e below s cs ss Q T (mkF m pc' Ls st)) : Goes p e below s cs ss Q T (mkF m pc Ls (.ref b :: st)) := by
  exact Goes.pre (fun _ k => XS.ifnonnullYes X.here hx rfl rfl hd rfl ho hp k) k
theorem own_ifnonnullN (X : Stand p l e R s m args below meth c T locs cells slots) (hx : p.tables.exec = Jvm.exec) {o : Int} (hd : decode c.code pc = .ok (.ifnonnull o, 3))  (hp : pc + 3 = pc') (k : Goes p e below s cs ss Q T (mkF m pc' Ls st)) : Goes p e below s cs ss Q T (mkF m pc Ls (.null :: st)) := by
  subst hp
  exact Goes.pre (fun _ k => XS.ifnonnullNo X.here hx rfl hd rfl k) k
theorem own_ldc2 (X : Stand p l e R s m args below meth c T locs cells slots) (hx : p.tables.exec = Jvm.exec) {own : String} {i : Nat} {v : Int64} (hown : s.vm.findClass own = some m.cls) (w : (Cond.constantLong own i v).before args s = true) (hd : decode c.code pc = .ok (.ldc2_w i, 3)) (hp : pc + 3 = pc') (k : Goes p e below s cs ss Q T (mkF m pc' Ls (.long v :: st))) : Goes p e below s cs ss Q T (mkF m pc Ls st) := by
  subst hp
  exact Goes.pre (fun t k => X.ldc2Long hx hown w (g := mkF m pc Ls st) rfl hd t k) k
theorem own_ldcI (X : Stand p l e R s m args below meth c T locs cells slots) (hx : p.tables.exec = Jvm.exec) {own : String} {i : Nat} {v : Int32} (hown : s.vm.findClass own = some m.cls) (w : (Cond.constant own i v).before args s = true) (hd : decode c.code pc = .ok (.ldc i, 2)) (hp : pc + 2 = pc') (k : Goes p e below s cs ss Q T (mkF m pc' Ls (.int v :: st))) : Goes p e below s cs ss Q T (mkF m pc Ls st) := by
  subst hp
  exact Goes.pre (fun t k => X.ldcInt hx hown w (g := mkF m pc Ls st) rfl hd t k) k
theorem own_sipush (X : Stand p l e R s m args below meth c T locs cells slots) (hx : p.tables.exec = Jvm.exec) {i : Int} {v : Int32} (hd : decode c.code pc = .ok (.sipush i, 3)) (hv : (Int16.ofInt i).toInt32 = v) (hp : pc + 3 = pc') (k : Goes p e below s cs ss Q T (mkF m pc' Ls (.int v :: st))) : Goes p e below s cs ss Q T (mkF m pc Ls st) := by
  subst hp hv
  exact Goes.pre (fun _ k => XS.sipush X.here hx rfl hd k) k
theorem own_istoreS (X : Stand p l e R s m args below meth c T locs cells slots) (hx : p.tables.exec = Jvm.exec) {i : Nat} {x : Int32} {o : Slot} (hd : decode c.code pc = .ok (.istore i, 2)) (hold : Ls[i]? = some o) (ho : One o) (hl : Ls.setIfInBounds i (.val (.int x)) = Ls') (hp : pc + 2 = pc') (k : Goes p e below s cs ss Q T (mkF m pc' Ls' st)) : Goes p e below s cs ss Q T (mkF m pc Ls (.int x :: st)) := by
  subst hp
  exact Goes.pre (fun _ k => XS.istoreS X.here hx rfl hd rfl hold ho (hl.symm ▸ k)) k
theorem own_i2b (X : Stand p l e R s m args below meth c T locs cells slots) (hx : p.tables.exec = Jvm.exec) {x : Int32} (hd : decode c.code pc = .ok (.i2b, 1))  (hp : pc + 1 = pc') (k : Goes p e below s cs ss Q T (mkF m pc' Ls (.int x.toInt8.toInt32 :: st))) : Goes p e below s cs ss Q T (mkF m pc Ls (.int x :: st)) := by
  subst hp
  exact Goes.pre (fun _ k => XS.i2b X.here hx rfl hd rfl k) k
theorem own_dupX1 (X : Stand p l e R s m args below meth c T locs cells slots) (hx : p.tables.exec = Jvm.exec) {x y : Value} (hd : decode c.code pc = .ok (.dup_x1, 1)) (hc : x.category = 1) (hc' : y.category = 1) (hp : pc + 1 = pc') (k : Goes p e below s cs ss Q T (mkF m pc' Ls (x :: y :: x :: st))) : Goes p e below s cs ss Q T (mkF m pc Ls (x :: y :: st)) := by
  subst hp
  exact Goes.pre (fun _ k => XS.dupX1 X.here hx rfl hd rfl hc hc' k) k
end Own
theorem own_Tlt {a b : Int64} (h : a < b) : ifCond.holds .lt (lcmpW a b) = true ∧ ifCond.holds .ge (lcmpW a b) = false := ⟨(if0 _ _).trans (tlt ((lw_lt a b).mpr h)).1, (if0 _ _).trans (tlt ((lw_lt a b).mpr h)).2.1⟩
theorem own_Flt {a b : Int64} (h : ¬ a < b) : ifCond.holds .lt (lcmpW a b) = false ∧ ifCond.holds .ge (lcmpW a b) = true := ⟨(if0 _ _).trans (flt fun q => h ((lw_lt a b).mp q)).1, (if0 _ _).trans (flt fun q => h ((lw_lt a b).mp q)).2.1⟩
theorem own_Tgt {a b : Int64} (h : b < a) : ifCond.holds .gt (lcmpW a b) = true ∧ ifCond.holds .le (lcmpW a b) = false := ⟨(if0 _ _).trans (tlt ((lw_gt a b).mpr h)).2.2.1, (if0 _ _).trans (tlt ((lw_gt a b).mpr h)).2.2.2⟩
theorem own_Fgt {a b : Int64} (h : ¬ b < a) : ifCond.holds .gt (lcmpW a b) = false ∧ ifCond.holds .le (lcmpW a b) = true := ⟨(if0 _ _).trans (flt fun q => h ((lw_gt a b).mp q)).2.2.1, (if0 _ _).trans (flt fun q => h ((lw_gt a b).mp q)).2.2.2⟩
theorem own_Teq {a b : Int64} (h : a = b) : ifCond.holds .eq (lcmpW a b) = true ∧ ifCond.holds .ne (lcmpW a b) = false := ⟨(if0 _ _).trans (teq ((lw_eq a b).mpr h)).1, (if0 _ _).trans (teq ((lw_eq a b).mpr h)).2⟩
theorem own_Feq {a b : Int64} (h : ¬ a = b) : ifCond.holds .eq (lcmpW a b) = false ∧ ifCond.holds .ne (lcmpW a b) = true := ⟨(if0 _ _).trans (feq fun q => h ((lw_eq a b).mp q)).1, (if0 _ _).trans (feq fun q => h ((lw_eq a b).mp q)).2⟩
/-- an array of ints (chars), its values as a list -/
def own_PA (Z : State) (h : Heap) (a : Addr) (ty : FieldType) (vs : List Int32) : Prop := ∃ c : Cell, Arr Z h a c ty ∧ c.slots = (vs.map Value.int).toArray
section OwnArr
variable {p : Program} {l : Launch} {e : Env} {R : Room} {s : State} {m : MethodId} {args : Array Value} {below : List Frame} {meth : Method} {c : Code} {T T' : State} {locs : List Loc} {cells slots : Nat} {cs ss : Nat} {Q : Option Value → Heap → List Loc → Prop} {pc pc' : Nat} {Ls Ls' : Array Slot} {st : List Value} {Z : State} {a0 : Array Value} {h h' : Heap} {a b : Addr} {ty : FieldType} {vs : List Int32}
theorem own_PA.lt (F : own_PA Z h a ty vs) : a < Array.size h := by obtain ⟨c, A, -⟩ := F; exact A.lt
theorem own_PA.ext (F : own_PA Z h a ty vs) (E : Ext h h') : own_PA Z h' a ty vs := by obtain ⟨c, A, q⟩ := F; exact ⟨c, A.ext E, q⟩
theorem own_PA.keep {us : List Addr} (F : own_PA Z h a ty vs) (K : Keep h h' us) (q : a ∉ us) : own_PA Z h' a ty vs := by obtain ⟨c, A, r⟩ := F; exact ⟨c, ⟨K.2.1 a c A.1 q, A.2⟩, r⟩
theorem own_PA.other {sl : Nat} {v : Value} (F : own_PA Z h b ty vs) (W : Wr h h' a sl v) (q : b ≠ a) : own_PA Z h' b ty vs := by obtain ⟨c, A, r⟩ := F; exact ⟨c, A.other W q, r⟩
theorem own_PA.set {k : Nat} {v : Int32} (F : own_PA Z h a ty vs) (W : Wr h h' a k (.int v)) : own_PA Z h' a ty (vs.set k v) := by
  obtain ⟨c, A, r⟩ := F
  refine ⟨_, A.same W, ?_⟩
  simp [Cell.setSlot, r, List.map_set]
theorem own_PA.new {k : ClassId} {n : Int32} {i : Nat} (A : Arr Z h a (newA k ty n) ty) (hd : defaultValue ty = .int 0) (hn : n.toNatClampNeg = i) : own_PA Z h a ty (List.replicate i 0) := by
  subst hn
  exact ⟨_, A, by simp [newA, hd]⟩
theorem own_in {c : Cell} {j : Int32} {k : Nat} {v : Int32} (r : c.slots = (vs.map Value.int).toArray) (hj : ¬ j < 0) (hk : j.toNatClampNeg = k) (hl : k < vs.length) : ¬ (j < 0 ∨ c.slots.size ≤ j.toNatClampNeg) := by
  rw [r, hk]
  simp only [List.size_toArray, List.length_map]
  exact fun q => q.elim hj (fun q => absurd hl (Nat.not_lt.mpr q))
theorem own_at {c : Cell} {j : Int32} {k : Nat} {v : Int32} (r : c.slots = (vs.map Value.int).toArray) (hk : j.toNatClampNeg = k) (hv : vs[k]? = some v) : c.slots[j.toNatClampNeg]? = some (.int v) := by
  rw [r, hk]
  simp [hv]
theorem own_iaload (X : Stand p l e R s m args below meth c T locs cells slots) (hx : p.tables.exec = Jvm.exec) (hZ : Z.Warmed39 s.vm) (eT : T.heap = h) (F : own_PA Z h a .int vs) (hd : decode c.code pc = .ok (.iaload, 1)) {j v : Int32} {k : Nat} (hj : ¬ j < 0) (hk : j.toNatClampNeg = k) (hv : vs[k]? = some v) (hp : pc + 1 = pc')
    (q : Goes p e below s cs ss Q T (mkF m pc' Ls (.int v :: st))) : Goes p e below s cs ss Q T (mkF m pc Ls (.int j :: .ref a :: st)) := by
  subst hp
  obtain ⟨c', A, r⟩ := F
  exact Goes.pre (fun t q => X.iaload hx (j := j) (v := .int v) (by rw [eT]; exact A.1) (State.isArrayOf_alike hZ.alike A.2.1) A.2.2 (own_in (v := v) r hj hk (List.getElem?_eq_some_iff.mp hv).1) (own_at r hk hv) (g := mkF m pc Ls (.int j :: .ref a :: st)) rfl rfl hd t q) q
theorem own_caload (X : Stand p l e R s m args below meth c T locs cells slots) (hx : p.tables.exec = Jvm.exec) (hZ : Z.Warmed39 s.vm) (eT : T.heap = h) (F : own_PA Z h a .char vs) (hd : decode c.code pc = .ok (.caload, 1)) {j v : Int32} {k : Nat} (hj : ¬ j < 0) (hk : j.toNatClampNeg = k) (hv : vs[k]? = some v) (hp : pc + 1 = pc')
    (q : Goes p e below s cs ss Q T (mkF m pc' Ls (.int v :: st))) : Goes p e below s cs ss Q T (mkF m pc Ls (.int j :: .ref a :: st)) := by
  subst hp
  obtain ⟨c', A, r⟩ := F
  exact Goes.pre (fun t q => X.caload hx (j := j) (v := .int v) (by rw [eT]; exact A.1) (State.isArrayOf_alike hZ.alike A.2.1) A.2.2 (own_in (v := v) r hj hk (List.getElem?_eq_some_iff.mp hv).1) (own_at r hk hv) (g := mkF m pc Ls (.int j :: .ref a :: st)) rfl rfl hd t q) q
theorem own_arraylength (X : Stand p l e R s m args below meth c T locs cells slots) (hx : p.tables.exec = Jvm.exec) (hZ : Z.Warmed39 s.vm) (eT : T.heap = h) (F : own_PA Z h a ty vs) (hd : decode c.code pc = .ok (.arraylength, 1)) {n : Int32} (hn : vs.length.toInt32 = n) (hp : pc + 1 = pc')
    (q : Goes p e below s cs ss Q T (mkF m pc' Ls (.int n :: st))) : Goes p e below s cs ss Q T (mkF m pc Ls (.ref a :: st)) := by
  subst hp hn
  obtain ⟨c', A, r⟩ := F
  have z : c'.slots.size = vs.length := by rw [r]; simp
  exact Goes.pre (fun t q => X.arraylength hx (by rw [eT]; exact A.1) (State.isArrayOf_alike hZ.alike A.2.1) (g := mkF m pc Ls (.ref a :: st)) rfl rfl hd t (by rw [z]; exact q)) q
theorem own_iastore (X : Stand p l e R s m args below meth c T locs cells slots) (hx : p.tables.exec = Jvm.exec) (hZ : Z.Warmed39 s.vm) (eT : T.heap = h) (F : own_PA Z h a .int vs) (hd : decode c.code pc = .ok (.iastore, 1)) {j v : Int32} {k : Nat} (hj : ¬ j < 0) (hk : j.toNatClampNeg = k) (hl : k < vs.length) (hp : pc + 1 = pc')
    (q : ∀ T' h', Stand p l e R s m args below meth c T' (locs ++ [⟨a, k⟩]) cells slots → T'.heap = h' → Wr h h' a k (.int v) → own_PA Z h' a .int (vs.set k v) → Goes p e below s cs ss Q T' (mkF m pc' Ls st)) : Goes p e below s cs ss Q T (mkF m pc Ls (.int v :: .int j :: .ref a :: st)) := by
  subst hp
  have F0 := F
  obtain ⟨c', A, r⟩ := F
  obtain ⟨T', h', X', e', W, t⟩ := stI X hx hZ eT A (j := j) (x := v) (own_in (v := v) r hj hk hl) (g := mkF m pc Ls (.int v :: .int j :: .ref a :: st)) rfl rfl hd
  rw [hk] at X' W
  exact Goes.pre t (q T' h' X' e' W (F0.set W))
theorem own_castore (X : Stand p l e R s m args below meth c T locs cells slots) (hx : p.tables.exec = Jvm.exec) (hZ : Z.Warmed39 s.vm) (eT : T.heap = h) (F : own_PA Z h a .char vs) (hd : decode c.code pc = .ok (.castore, 1)) {j v w : Int32} {k : Nat} (hw : nar .char v = w) (hj : ¬ j < 0) (hk : j.toNatClampNeg = k) (hl : k < vs.length) (hp : pc + 1 = pc')
    (q : ∀ T' h', Stand p l e R s m args below meth c T' (locs ++ [⟨a, k⟩]) cells slots → T'.heap = h' → Wr h h' a k (.int w) → own_PA Z h' a .char (vs.set k w) → Goes p e below s cs ss Q T' (mkF m pc' Ls st)) : Goes p e below s cs ss Q T (mkF m pc Ls (.int v :: .int j :: .ref a :: st)) := by
  subst hp hw
  have F0 := F
  obtain ⟨c', A, r⟩ := F
  obtain ⟨T', h', X', e', W, t⟩ := stC X hx hZ eT A (j := j) (x := v) (own_in (v := v) r hj hk hl) (g := mkF m pc Ls (.int v :: .int j :: .ref a :: st)) rfl rfl hd
  rw [hk] at X' W
  exact Goes.pre t (q T' h' X' e' W (F0.set W))
theorem own_newarray (X : Stand p l e R s m args below meth c T locs cells slots) (hx : p.tables.exec = Jvm.exec) (hZ : Z.Warmed39 s.vm) {aty : ArrayType} (w : (Cond.arrayClass (newarray.typeOf aty)).before a0 Z = true) (eT : T.heap = h) (hd : decode c.code pc = .ok (.newarray aty, 2)) {n : Int32} {k cap : Nat} (hty : defaultValue (newarray.typeOf aty) = .int 0) (hn : ¬ n < 0) (hk : n.toNatClampNeg = k) (hcap : k ≤ cap) (hb : cap * 8 ≤ 536870912) (hc : cells + 1 ≤ R.cells) (hl : slots + cap ≤ R.slots) (hp : pc + 2 = pc')
    (q : ∀ T' h' a, a = Array.size h → Stand p l e R s m args below meth c T' locs (cells + 1) (slots + cap) → T'.heap = h' → Ext h h' → own_PA Z h' a (newarray.typeOf aty) (List.replicate k 0) → Goes p e below s cs ss Q T' (mkF m pc' Ls (.ref a :: st))) : Goes p e below s cs ss Q T (mkF m pc Ls (.int n :: st)) := by
  subst hp
  obtain ⟨T', h', cA, X', e', E, A, t⟩ := newP X hx hZ w eT (g := mkF m pc Ls (.int n :: st)) rfl hd rfl hn (cap := cap) (hk ▸ hcap) hb hc hl
  exact Goes.pre t (q T' h' _ rfl X' e' E (own_PA.new A hty hk))
end OwnArr
def own_C (w : Int32) : Prop := 0 ≤ w.toInt ∧ w.toInt < 65536
def own_out (c : Int32) : Int32 := if c = (13 : Int32) then (10 : Int32) else c
def own_pairs (a b : Int32) : Int32 := if a = (13 : Int32) then (if b = (10 : Int32) then 1 else 0) else 0
def own_l1 (o : Int32) : Int64 := if o = (10 : Int32) then 1 else 0
def own_lf (k c : Int32) : Int64 := if k = (0 : Int32) then 0 else own_l1 (own_out c)
def own_af (c : Int32) : Int32 := if c = (13 : Int32) then 1 else 0
def own_nl : Nat → Nat → Nat → List Int32 → Int32 → Int64 → Nat × List Int32 × Int32 × Int64
  | 0, _, w, vs, af, lf => (w, vs, af, lf)
  | d + 1, i, w, vs, af, lf => if ¬ af = (0 : Int32) ∧ vs.getD i 0 = (10 : Int32) then own_nl d (i + 1) w vs (own_af (vs.getD i 0)) lf else own_nl d (i + 1) (w + 1) (vs.set w (own_out (vs.getD i 0))) (own_af (vs.getD i 0)) (lf + own_l1 (own_out (vs.getD i 0)))
theorem own_nlS {d i w : Nat} {vs : List Int32} {af af2 c : Int32} {lf : Int64} (hc : vs.getD i 0 = c) (h1 : ¬ af = (0 : Int32)) (h2 : c = (10 : Int32)) (ha : own_af c = af2) : own_nl (d + 1) i w vs af lf = own_nl d (i + 1) w vs af2 lf := by
  rw [own_nl, hc, if_pos ⟨h1, h2⟩, ha]
theorem own_nlK {d i w : Nat} {vs : List Int32} {af af2 c o : Int32} {lf l : Int64} (hc : vs.getD i 0 = c) (h1 : ¬ (¬ af = (0 : Int32) ∧ c = (10 : Int32))) (ha : own_af c = af2) (ho : own_out c = o) (hl : own_l1 o = l) : own_nl (d + 1) i w vs af lf = own_nl d (i + 1) (w + 1) (vs.set w o) af2 (lf + l) := by
  rw [own_nl, hc, if_neg h1, ha, ho, hl]
theorem own_nar {x : Int32} (h : own_C x) : nar .char x = x := by
  have q := c_i2c x
  refine Int32.toInt_inj.mp ?_
  show (x.toUInt32.toUInt16.toUInt32.toInt32).toInt = x.toInt
  obtain ⟨h1, h2⟩ := h
  omega
theorem own_C10 : own_C (10 : Int32) := ⟨by decide, by decide⟩
theorem own_outC {c : Int32} (h : own_C c) : own_C (own_out c) := by
  unfold own_out
  split
  · exact own_C10
  · exact h
theorem own_mem_set {vs : List Int32} {k : Nat} {o : Int32} (h : ∀ v ∈ vs, own_C v) (ho : own_C o) : ∀ v ∈ vs.set k o, own_C v := fun v hv => by
  rcases List.mem_or_eq_of_mem_set hv with q | q
  · exact h v q
  · exact q ▸ ho
theorem own_ti {n : Nat} (h : n ≤ 8) : n.toInt32.toInt = n := len_toInt (by omega)
theorem own_nn {n : Nat} (h : n ≤ 4) : ¬ n.toInt32 < 0 := by
  have q := own_ti (n := n) (by omega)
  rw [Int32.lt_iff_toInt_lt, q]
  simp only [Int32.reduceToInt]
  omega
theorem own_nc {n : Nat} (h : n ≤ 4) : n.toInt32.toNatClampNeg = n := by
  have q := own_ti (n := n) (by omega)
  simp only [Int32.toNatClampNeg, q]
  omega
theorem own_gd {vs : List Int32} {k : Nat} (h : k < vs.length) : vs[k]? = some (vs.getD k 0) := by simp [List.getD, h]
theorem own_mem {vs : List Int32} {k : Nat} (h : k < vs.length) : vs.getD k 0 ∈ vs := List.mem_of_getElem? (own_gd h)
theorem own_i1 (i : Nat) : i.toInt32 + Int32.ofInt 1 = (i + 1).toInt32 := by
  show Int32.ofNat i + 1 = Int32.ofNat (i + 1)
  rw [Int32.ofNat_add]; rfl
theorem own_lt {i n : Nat} (hi : i ≤ 8) (hn : n ≤ 8) : i.toInt32 < n.toInt32 ↔ i < n := by
  rw [Int32.lt_iff_toInt_lt, own_ti hi, own_ti hn]
  omega
theorem own_n4 (q : Int32) : (q &&& (3 : Int32)) = (0 : Int32) ∨ (q &&& (3 : Int32)) = (1 : Int32) ∨ (q &&& (3 : Int32)) = (2 : Int32) ∨ (q &&& (3 : Int32)) = (3 : Int32) := by
  have hm := c_mask q 3 2 (by decide) (by decide)
  generalize (q &&& (3 : Int32)) = k at *
  simp only [← Int32.toInt_inj, Int32.reduceToInt]
  omega
theorem own_s3 (y : Int32) : ∃ st : Nat, st ≤ 2 ∧ (y &&& (1073741823 : Int32)) % (3 : Int32) = st.toInt32 := by
  have hm := c_mask y 1073741823 30 (by decide) (by decide)
  generalize (y &&& (1073741823 : Int32)) = k at *
  have hr := (c_irem k 3 3 (by decide)).1 (by omega)
  refine ⟨(k.toInt % 3).toNat, by omega, Int32.toInt_inj.mp ?_⟩
  rw [own_ti (by omega), hr]
  omega
theorem own_pr0 {a b : Int32} (h : own_pairs a b = (0 : Int32)) : ¬ (a = (13 : Int32) ∧ b = (10 : Int32)) := by
  rintro ⟨rfl, rfl⟩
  exact absurd h (by decide)
theorem own_pr1 {a b : Int32} (h : ¬ own_pairs a b = (0 : Int32)) : a = (13 : Int32) ∧ b = (10 : Int32) := by
  unfold own_pairs at h
  by_cases h1 : a = (13 : Int32) <;> by_cases h2 : b = (10 : Int32) <;> simp [h1, h2] at h ⊢
theorem own_aft {a b : Int32} (h : ¬ (a = (13 : Int32) ∧ b = (10 : Int32))) : ¬ (¬ own_af a = (0 : Int32) ∧ b = (10 : Int32)) := by
  rintro ⟨h1, h2⟩
  refine h ⟨?_, h2⟩
  by_cases q : a = (13 : Int32)
  · exact q
  · simp [own_af, q] at h1
theorem own_aft1 : ¬ own_af (13 : Int32) = (0 : Int32) := by decide
theorem own_A0 (c0 c1 c2 : Int32) : own_nl (0 - 0) 0 0 [c0, c1, c2] (0 : Int32) (0 : Int64) = (0, [c0, c1, c2], (0 : Int32), (0 : Int64)) := rfl
theorem own_A1 (c0 c1 c2 : Int32) : own_nl (1 - 0) 0 0 [c0, c1, c2] (0 : Int32) (0 : Int64) = (1, [own_out c0, c1, c2], own_af c0, (0 : Int64) + own_l1 (own_out c0)) := by
  exact own_nlK (d := 0) (c := c0) rfl (by simp) rfl rfl rfl
theorem own_A2T (c0 c1 c2 : Int32) (h : own_pairs c0 c1 = (0 : Int32)) : own_nl (2 - 0) 0 0 [c0, c1, c2] (0 : Int32) (0 : Int64) = (2, [own_out c0, own_out c1, c2], own_af c1, (0 : Int64) + own_l1 (own_out c0) + own_l1 (own_out c1)) := by
  refine Eq.trans (own_nlK (d := 1) (c := c0) rfl (by simp) rfl rfl rfl) ?_
  exact own_nlK (d := 0) (c := c1) rfl (own_aft (own_pr0 h)) rfl rfl rfl
theorem own_A2F (c0 c1 c2 : Int32) (h : ¬ own_pairs c0 c1 = (0 : Int32)) : own_nl (2 - 0) 0 0 [c0, c1, c2] (0 : Int32) (0 : Int64) = (1, [own_out c0, c1, c2], own_af c1, (0 : Int64) + own_l1 (own_out c0)) := by
  obtain ⟨rfl, rfl⟩ := own_pr1 h
  refine Eq.trans (own_nlK (d := 1) (c := (13 : Int32)) rfl (by simp) rfl rfl rfl) ?_
  exact own_nlS (d := 0) (c := (10 : Int32)) rfl own_aft1 rfl rfl
theorem own_A3TT (c0 c1 c2 : Int32) (h : own_pairs c0 c1 = (0 : Int32)) (h' : own_pairs c1 c2 = (0 : Int32)) : own_nl (3 - 0) 0 0 [c0, c1, c2] (0 : Int32) (0 : Int64) = (3, [own_out c0, own_out c1, own_out c2], own_af c2, (0 : Int64) + own_l1 (own_out c0) + own_l1 (own_out c1) + own_l1 (own_out c2)) := by
  refine Eq.trans (own_nlK (d := 2) (c := c0) rfl (by simp) rfl rfl rfl) ?_
  refine Eq.trans (own_nlK (d := 1) (c := c1) rfl (own_aft (own_pr0 h)) rfl rfl rfl) ?_
  exact own_nlK (d := 0) (c := c2) rfl (own_aft (own_pr0 h')) rfl rfl rfl
theorem own_A3TF (c0 c1 c2 : Int32) (h : own_pairs c0 c1 = (0 : Int32)) (h' : ¬ own_pairs c1 c2 = (0 : Int32)) : own_nl (3 - 0) 0 0 [c0, c1, c2] (0 : Int32) (0 : Int64) = (2, [own_out c0, own_out c1, c2], own_af c2, (0 : Int64) + own_l1 (own_out c0) + own_l1 (own_out c1)) := by
  obtain ⟨rfl, rfl⟩ := own_pr1 h'
  refine Eq.trans (own_nlK (d := 2) (c := c0) rfl (by simp) rfl rfl rfl) ?_
  refine Eq.trans (own_nlK (d := 1) (c := (13 : Int32)) rfl (own_aft (own_pr0 h)) rfl rfl rfl) ?_
  exact own_nlS (d := 0) (c := (10 : Int32)) rfl own_aft1 rfl rfl
theorem own_A3FT (c0 c1 c2 : Int32) (h : ¬ own_pairs c0 c1 = (0 : Int32)) (h' : own_pairs c1 c2 = (0 : Int32)) : own_nl (3 - 0) 0 0 [c0, c1, c2] (0 : Int32) (0 : Int64) = (2, [own_out c0, own_out c2, c2], own_af c2, (0 : Int64) + own_l1 (own_out c0) + own_l1 (own_out c2)) := by
  obtain ⟨rfl, rfl⟩ := own_pr1 h
  refine Eq.trans (own_nlK (d := 2) (c := (13 : Int32)) rfl (by simp) rfl rfl rfl) ?_
  refine Eq.trans (own_nlS (d := 1) (c := (10 : Int32)) rfl own_aft1 rfl rfl) ?_
  exact own_nlK (d := 0) (c := c2) rfl (own_aft (own_pr0 h')) rfl rfl rfl
theorem own_A3FF (c0 c1 c2 : Int32) (h : ¬ own_pairs c0 c1 = (0 : Int32)) (h' : ¬ own_pairs c1 c2 = (0 : Int32)) : False := by
  have q := (own_pr1 h).2.symm.trans (own_pr1 h').1
  exact absurd q (by decide)
theorem own_B00T (c3 c4 : Int32) (lf : Int64) (h : own_pairs c3 c4 = (0 : Int32)) : own_nl (2 - 0) 0 0 [c3, c4] (0 : Int32) lf = (2, [own_out c3, own_out c4], own_af c4, lf + own_l1 (own_out c3) + own_l1 (own_out c4)) := by
  refine Eq.trans (own_nlK (d := 1) (c := c3) rfl (by simp) rfl rfl rfl) ?_
  exact own_nlK (d := 0) (c := c4) rfl (own_aft (own_pr0 h)) rfl rfl rfl
theorem own_B00F (c3 c4 : Int32) (lf : Int64) (h : ¬ own_pairs c3 c4 = (0 : Int32)) : own_nl (2 - 0) 0 0 [c3, c4] (0 : Int32) lf = (1, [own_out c3, c4], own_af c4, lf + own_l1 (own_out c3)) := by
  obtain ⟨rfl, rfl⟩ := own_pr1 h
  refine Eq.trans (own_nlK (d := 1) (c := (13 : Int32)) rfl (by simp) rfl rfl rfl) ?_
  exact own_nlS (d := 0) (c := (10 : Int32)) rfl own_aft1 rfl rfl
theorem own_B01FT (c3 c4 : Int32) (lf : Int64) (h3 : ¬ c3 = (10 : Int32)) (h : own_pairs c3 c4 = (0 : Int32)) : own_nl (2 - 0) 0 0 [c3, c4] (1 : Int32) lf = (2, [own_out c3, own_out c4], own_af c4, lf + own_l1 (own_out c3) + own_l1 (own_out c4)) := by
  refine Eq.trans (own_nlK (d := 1) (c := c3) rfl (fun q => h3 q.2) rfl rfl rfl) ?_
  exact own_nlK (d := 0) (c := c4) rfl (own_aft (own_pr0 h)) rfl rfl rfl
theorem own_B01FF (c3 c4 : Int32) (lf : Int64) (h3 : ¬ c3 = (10 : Int32)) (h : ¬ own_pairs c3 c4 = (0 : Int32)) : own_nl (2 - 0) 0 0 [c3, c4] (1 : Int32) lf = (1, [own_out c3, c4], own_af c4, lf + own_l1 (own_out c3)) := by
  obtain ⟨rfl, rfl⟩ := own_pr1 h
  refine Eq.trans (own_nlK (d := 1) (c := (13 : Int32)) rfl (fun q => h3 q.2) rfl rfl rfl) ?_
  exact own_nlS (d := 0) (c := (10 : Int32)) rfl own_aft1 rfl rfl
theorem own_B01T (c3 c4 : Int32) (lf : Int64) (h3 : c3 = (10 : Int32)) : own_nl (2 - 0) 0 0 [c3, c4] (1 : Int32) lf = (1, [own_out c4, c4], own_af c4, lf + own_l1 (own_out c4)) := by
  subst h3
  refine Eq.trans (own_nlS (d := 1) (c := (10 : Int32)) rfl (by decide) rfl rfl) ?_
  exact own_nlK (d := 0) (c := c4) rfl (fun q => q.1 (by decide)) rfl rfl rfl
theorem own_B10 (c3 c4 : Int32) (lf : Int64) : own_nl (2 - 1) 1 1 [c3, c4] (0 : Int32) lf = (2, [c3, own_out c4], own_af c4, lf + own_l1 (own_out c4)) := by
  exact own_nlK (d := 0) (c := c4) rfl (by simp) rfl rfl rfl
theorem own_B11F (c3 c4 : Int32) (lf : Int64) (h : ¬ c4 = (10 : Int32)) : own_nl (2 - 1) 1 1 [c3, c4] (1 : Int32) lf = (2, [c3, own_out c4], own_af c4, lf + own_l1 (own_out c4)) := by
  exact own_nlK (d := 0) (c := c4) rfl (fun q => h q.2) rfl rfl rfl
theorem own_B11T (c3 c4 : Int32) (lf : Int64) (h : c4 = (10 : Int32)) : own_nl (2 - 1) 1 1 [c3, c4] (1 : Int32) lf = (1, [c3, c4], own_af c4, lf) := by
  exact own_nlS (d := 0) (c := c4) rfl (by decide) h rfl
theorem own_B2 (c3 c4 af : Int32) (lf : Int64) : own_nl (2 - 2) 2 2 [c3, c4] af lf = (2, [c3, c4], af, lf) := rfl
theorem d1_0 : decode method_2_code 0 = .ok (.iload_n 0, 1) := by decide +kernel
theorem d1_1 : decode method_2_code 1 = .ok (.iconst 3, 1) := by decide +kernel
theorem d1_2 : decode method_2_code 2 = .ok (.iand, 1) := by decide +kernel
theorem d1_3 : decode method_2_code 3 = .ok (.istore_n 1, 1) := by decide +kernel
theorem d1_4 : decode method_2_code 4 = .ok (.iload_n 1, 1) := by decide +kernel
theorem d1_5 : decode method_2_code 5 = .ok (.ifCond .ne 6, 3) := by decide +kernel
theorem d1_8 : decode method_2_code 8 = .ok (.bipush 13, 2) := by decide +kernel
theorem d1_10 : decode method_2_code 10 = .ok (.ireturn, 1) := by decide +kernel
theorem d1_11 : decode method_2_code 11 = .ok (.iload_n 1, 1) := by decide +kernel
theorem d1_12 : decode method_2_code 12 = .ok (.iconst 1, 1) := by decide +kernel
theorem d1_13 : decode method_2_code 13 = .ok (.if_icmp .ne 6, 3) := by decide +kernel
theorem d1_16 : decode method_2_code 16 = .ok (.bipush 10, 2) := by decide +kernel
theorem d1_18 : decode method_2_code 18 = .ok (.ireturn, 1) := by decide +kernel
theorem d1_19 : decode method_2_code 19 = .ok (.iload_n 0, 1) := by decide +kernel
theorem d1_20 : decode method_2_code 20 = .ok (.bipush 16, 2) := by decide +kernel
theorem d1_22 : decode method_2_code 22 = .ok (.iushr, 1) := by decide +kernel
theorem d1_23 : decode method_2_code 23 = .ok (.i2c, 1) := by decide +kernel
theorem d1_24 : decode method_2_code 24 = .ok (.ireturn, 1) := by decide +kernel
theorem pn_1 : plainFor (⟨"com/example/dipper/dipper/core/LineEndsNormalizePinLaw", "ch", "(I)C"⟩ : MethodName) = true := by first | (refine plainFor_of_name ?_; simp [plainName, overriddenIn]; done) | decide +kernel
theorem pd_1 : parseMethodDescriptor "(I)C" = some ⟨[.int], some .char⟩ := by decide +kernel
theorem ef_1 (m : MethodId) (q1 : Int32) : entryFrame m #[(.int q1)] 2 = mkF m 0 #[.val (.int q1), .unset] [] := by first | (simp [entryFrame, mkF, argsToLocals, Value.category]; done) | rfl
def Q_1 (Z : State) (q1 : Int32) (h0 : Heap) (n0 : Nat) (v : Option Value) (h : Heap) (L : List Loc) : Prop := (∃ w : Int32, v = some (.int w) ∧ own_C w) ∧ Fr n0 L ∧ h = h0
set_option maxRecDepth 65536 in
set_option maxHeartbeats 40000000 in
theorem rm_1 (l : Launch) (Z : State) (a0 : Array Value) (hw : ∀ d ∈ tables_1, d.before a0 Z = true) (ws : List Jvm.Cond) (q1 : Int32) (h0 : Heap) (n0 : Nat) (Z0 : n0 ≤ h0.size) :
    MetFree l (⟨"com/example/dipper/dipper/core/LineEndsNormalizePinLaw", "ch", "(I)C"⟩ : MethodName) (head1 (Jvm.Cond.code (⟨"com/example/dipper/dipper/core/LineEndsNormalizePinLaw", "ch", "(I)C"⟩ : MethodName) method_2_code 2 (some .char) :: ws) ({ frames := 0, cells := 0, slots := 0, locals := 0 } : Room)) (fun a U => a = #[(.int q1)] ∧ Z.Warmed39 U.vm ∧ U.heap = h0) (fun _ _ _ _ _ => True) (fun _ U o U' => ∃ v L, o = .returned v ∧ (Q_1 Z q1 h0 n0) v U'.heap L ∧ FrameEnd U o U' L ({ frames := 0, cells := 0, slots := 0, locals := 0 } : Room).cells ({ frames := 0, cells := 0, slots := 0, locals := 0 } : Room).slots) := by
  refine MetFree.of_bodySF pn_1 hisR ?_
  intro p e s m args below meth c s₁ Bd hml0 hP hK
  obtain ⟨rfl, hZ, hh⟩ := hP
  have hx := Bd.exec
  have hby := Bd.bytes
  have hlk : meth.locks = false := BodyLoose.notSynchronized Bd
  have hml : c.maxLocals = 2 := hml0
  have hown : s.vm.findClass "com/example/dipper/dipper/core/LineEndsNormalizePinLaw" = some m.cls := findClass_of_methodNamed Bd.named
  have hnm := (name_of_methodNamed Bd.named Bd.method).1
  have X0 : Stand p l e ({ frames := 0, cells := 0, slots := 0, locals := 0 } : Room) s m #[(.int q1)] below meth c s₁ [] 0 0 := Stand.of_body Bd
  have e0 : s₁.heap = h0 := by rw [← hh, Bd.state]; rfl
  have N0 := Fr.nil n0
  refine own_enter (Q := (Q_1 Z q1 h0 n0)) (cs := 0) (ss := 0) (ef_1 m q1) ?_
  show Goes p e below s 0 0 (Q_1 Z q1 h0 n0) s₁ (mkF m 0 #[.val (.int q1), .unset] [])
  refine own_iloadN (pc' := 1) X0 hx (hb hby d1_0) rfl rfl ?_
  refine own_iconst (pc' := 2) X0 hx (hb hby d1_1) (v := (3 : Int32)) rfl rfl ?_
  refine own_iand (pc' := 3) X0 hx (hb hby d1_2) rfl ?_
  refine own_istoreN (pc' := 4) X0 hx (hb hby d1_3) (Ls' := #[.val (.int q1), .val (.int (q1 &&& (3 : Int32)))]) rfl rfl ?_
  refine own_iloadN (pc' := 5) X0 hx (hb hby d1_4) rfl rfl ?_
  by_cases hc5 : (q1 &&& (3 : Int32)) = (0 : Int32)
  · refine own_ifN (pc' := 8) X0 hx (hb hby d1_5) ((if0 _ _).trans (teq hc5).2) rfl ?_
    refine own_bipush (pc' := 10) X0 hx (hb hby d1_8) (v := (13 : Int32)) rfl rfl ?_
    exact own_retN X0 hx hlk (t := .char) Bd.returns (by simp) (hb hby d1_10) (by decide) (by decide) ⟨⟨_, rfl, (c_i2c _).2⟩, N0, e0⟩
  · refine own_ifY X0 hx (hb hby d1_5) ((if0 _ _).trans (feq hc5).2) (by decide) (pc' := 11) (by decide) ?_
    refine own_iloadN (pc' := 12) X0 hx (hb hby d1_11) rfl rfl ?_
    refine own_iconst (pc' := 13) X0 hx (hb hby d1_12) (v := (1 : Int32)) rfl rfl ?_
    by_cases hc13 : (q1 &&& (3 : Int32)) = (1 : Int32)
    · refine own_icmpN (pc' := 16) X0 hx (hb hby d1_13) (teq hc13).2 rfl ?_
      refine own_bipush (pc' := 18) X0 hx (hb hby d1_16) (v := (10 : Int32)) rfl rfl ?_
      exact own_retN X0 hx hlk (t := .char) Bd.returns (by simp) (hb hby d1_18) (by decide) (by decide) ⟨⟨_, rfl, (c_i2c _).2⟩, N0, e0⟩
    · refine own_icmpY X0 hx (hb hby d1_13) (feq hc13).2 (by decide) (pc' := 19) (by decide) ?_
      refine own_iloadN (pc' := 20) X0 hx (hb hby d1_19) rfl rfl ?_
      refine own_bipush (pc' := 22) X0 hx (hb hby d1_20) (v := (16 : Int32)) rfl rfl ?_
      refine own_iushr (pc' := 23) X0 hx (hb hby d1_22) rfl ?_
      refine own_i2c (pc' := 24) X0 hx (hb hby d1_23) rfl ?_
      exact own_retN X0 hx hlk (t := .char) Bd.returns (by simp) (hb hby d1_24) (by decide) (by decide) ⟨⟨_, rfl, (c_i2c _).2⟩, N0, e0⟩
theorem d7_0 : decode method_3_code 0 = .ok (.iload_n 0, 1) := by decide +kernel
theorem d7_1 : decode method_3_code 1 = .ok (.bipush 13, 2) := by decide +kernel
theorem d7_3 : decode method_3_code 3 = .ok (.if_icmp .ne 8, 3) := by decide +kernel
theorem d7_6 : decode method_3_code 6 = .ok (.bipush 10, 2) := by decide +kernel
theorem d7_8 : decode method_3_code 8 = .ok (.goto 4, 3) := by decide +kernel
theorem d7_11 : decode method_3_code 11 = .ok (.iload_n 0, 1) := by decide +kernel
theorem d7_12 : decode method_3_code 12 = .ok (.ireturn, 1) := by decide +kernel
theorem pn_2 : plainFor (⟨"com/example/dipper/dipper/core/LineEndsNormalizePinLaw", "out", "(C)C"⟩ : MethodName) = true := by first | (refine plainFor_of_name ?_; simp [plainName, overriddenIn]; done) | decide +kernel
theorem pd_2 : parseMethodDescriptor "(C)C" = some ⟨[.char], some .char⟩ := by decide +kernel
theorem ef_2 (m : MethodId) (q1 : Int32) : entryFrame m #[(.int q1)] 1 = mkF m 0 #[.val (.int q1)] [] := by first | (simp [entryFrame, mkF, argsToLocals, Value.category]; done) | rfl
def Q_2 (Z : State) (q1 : Int32) (h0 : Heap) (n0 : Nat) (v : Option Value) (h : Heap) (L : List Loc) : Prop := v = some (.int (own_out q1)) ∧ Fr n0 L ∧ h = h0
set_option maxRecDepth 65536 in
set_option maxHeartbeats 40000000 in
theorem rm_2 (l : Launch) (Z : State) (a0 : Array Value) (hw : ∀ d ∈ tables_1, d.before a0 Z = true) (ws : List Jvm.Cond) (q1 : Int32) (h0 : Heap) (n0 : Nat) (Z0 : n0 ≤ h0.size) (hC : own_C q1) :
    MetFree l (⟨"com/example/dipper/dipper/core/LineEndsNormalizePinLaw", "out", "(C)C"⟩ : MethodName) (head1 (Jvm.Cond.code (⟨"com/example/dipper/dipper/core/LineEndsNormalizePinLaw", "out", "(C)C"⟩ : MethodName) method_3_code 1 (some .char) :: ws) ({ frames := 0, cells := 0, slots := 0, locals := 0 } : Room)) (fun a U => a = #[(.int q1)] ∧ Z.Warmed39 U.vm ∧ U.heap = h0) (fun _ _ _ _ _ => True) (fun _ U o U' => ∃ v L, o = .returned v ∧ (Q_2 Z q1 h0 n0) v U'.heap L ∧ FrameEnd U o U' L ({ frames := 0, cells := 0, slots := 0, locals := 0 } : Room).cells ({ frames := 0, cells := 0, slots := 0, locals := 0 } : Room).slots) := by
  refine MetFree.of_bodySF pn_2 hisR ?_
  intro p e s m args below meth c s₁ Bd hml0 hP hK
  obtain ⟨rfl, hZ, hh⟩ := hP
  have hx := Bd.exec
  have hby := Bd.bytes
  have hlk : meth.locks = false := BodyLoose.notSynchronized Bd
  have hml : c.maxLocals = 1 := hml0
  have hown : s.vm.findClass "com/example/dipper/dipper/core/LineEndsNormalizePinLaw" = some m.cls := findClass_of_methodNamed Bd.named
  have hnm := (name_of_methodNamed Bd.named Bd.method).1
  have X0 : Stand p l e ({ frames := 0, cells := 0, slots := 0, locals := 0 } : Room) s m #[(.int q1)] below meth c s₁ [] 0 0 := Stand.of_body Bd
  have e0 : s₁.heap = h0 := by rw [← hh, Bd.state]; rfl
  have N0 := Fr.nil n0
  refine own_enter (Q := (Q_2 Z q1 h0 n0)) (cs := 0) (ss := 0) (ef_2 m q1) ?_
  show Goes p e below s 0 0 (Q_2 Z q1 h0 n0) s₁ (mkF m 0 #[.val (.int q1)] [])
  refine own_iloadN (pc' := 1) X0 hx (hb hby d7_0) rfl rfl ?_
  refine own_bipush (pc' := 3) X0 hx (hb hby d7_1) (v := (13 : Int32)) rfl rfl ?_
  by_cases hc3 : q1 = (13 : Int32)
  · refine own_icmpN (pc' := 6) X0 hx (hb hby d7_3) (teq hc3).2 rfl ?_
    refine own_bipush (pc' := 8) X0 hx (hb hby d7_6) (v := (10 : Int32)) rfl rfl ?_
    refine own_goto X0 hx (hb hby d7_8) (by decide) (pc' := 12) (by decide) ?_
    exact own_retN X0 hx hlk (t := .char) Bd.returns (by simp) (hb hby d7_12) (by decide) (by decide) ⟨by rw [own_nar own_C10, own_out, if_pos hc3], N0, e0⟩
  · refine own_icmpY X0 hx (hb hby d7_3) (feq hc3).2 (by decide) (pc' := 11) (by decide) ?_
    refine own_iloadN (pc' := 12) X0 hx (hb hby d7_11) rfl rfl ?_
    exact own_retN X0 hx hlk (t := .char) Bd.returns (by simp) (hb hby d7_12) (by decide) (by decide) ⟨by rw [own_nar hC, own_out, if_neg hc3], N0, e0⟩
theorem d6_0 : decode method_4_code 0 = .ok (.iload_n 0, 1) := by decide +kernel
theorem d6_1 : decode method_4_code 1 = .ok (.bipush 13, 2) := by decide +kernel
theorem d6_3 : decode method_4_code 3 = .ok (.if_icmp .ne 13, 3) := by decide +kernel
theorem d6_6 : decode method_4_code 6 = .ok (.iload_n 1, 1) := by decide +kernel
theorem d6_7 : decode method_4_code 7 = .ok (.bipush 10, 2) := by decide +kernel
theorem d6_9 : decode method_4_code 9 = .ok (.if_icmp .ne 7, 3) := by decide +kernel
theorem d6_12 : decode method_4_code 12 = .ok (.iconst 1, 1) := by decide +kernel
theorem d6_13 : decode method_4_code 13 = .ok (.goto 4, 3) := by decide +kernel
theorem d6_16 : decode method_4_code 16 = .ok (.iconst 0, 1) := by decide +kernel
theorem d6_17 : decode method_4_code 17 = .ok (.ireturn, 1) := by decide +kernel
theorem pn_3 : plainFor (⟨"com/example/dipper/dipper/core/LineEndsNormalizePinLaw", "pairs", "(CC)Z"⟩ : MethodName) = true := by first | (refine plainFor_of_name ?_; simp [plainName, overriddenIn]; done) | decide +kernel
theorem pd_3 : parseMethodDescriptor "(CC)Z" = some ⟨[.char, .char], some .boolean⟩ := by decide +kernel
theorem ef_3 (m : MethodId) (q1 : Int32) (q2 : Int32) : entryFrame m #[(.int q1), (.int q2)] 2 = mkF m 0 #[.val (.int q1), .val (.int q2)] [] := by first | (simp [entryFrame, mkF, argsToLocals, Value.category]; done) | rfl
def Q_3 (Z : State) (q1 : Int32) (q2 : Int32) (h0 : Heap) (n0 : Nat) (v : Option Value) (h : Heap) (L : List Loc) : Prop := v = some (.int (own_pairs q1 q2)) ∧ Fr n0 L ∧ h = h0
set_option maxRecDepth 65536 in
set_option maxHeartbeats 40000000 in
theorem rm_3 (l : Launch) (Z : State) (a0 : Array Value) (hw : ∀ d ∈ tables_1, d.before a0 Z = true) (ws : List Jvm.Cond) (q1 : Int32) (q2 : Int32) (h0 : Heap) (n0 : Nat) (Z0 : n0 ≤ h0.size) :
    MetFree l (⟨"com/example/dipper/dipper/core/LineEndsNormalizePinLaw", "pairs", "(CC)Z"⟩ : MethodName) (head1 (Jvm.Cond.code (⟨"com/example/dipper/dipper/core/LineEndsNormalizePinLaw", "pairs", "(CC)Z"⟩ : MethodName) method_4_code 2 (some .boolean) :: ws) ({ frames := 0, cells := 0, slots := 0, locals := 0 } : Room)) (fun a U => a = #[(.int q1), (.int q2)] ∧ Z.Warmed39 U.vm ∧ U.heap = h0) (fun _ _ _ _ _ => True) (fun _ U o U' => ∃ v L, o = .returned v ∧ (Q_3 Z q1 q2 h0 n0) v U'.heap L ∧ FrameEnd U o U' L ({ frames := 0, cells := 0, slots := 0, locals := 0 } : Room).cells ({ frames := 0, cells := 0, slots := 0, locals := 0 } : Room).slots) := by
  refine MetFree.of_bodySF pn_3 hisR ?_
  intro p e s m args below meth c s₁ Bd hml0 hP hK
  obtain ⟨rfl, hZ, hh⟩ := hP
  have hx := Bd.exec
  have hby := Bd.bytes
  have hlk : meth.locks = false := BodyLoose.notSynchronized Bd
  have hml : c.maxLocals = 2 := hml0
  have hown : s.vm.findClass "com/example/dipper/dipper/core/LineEndsNormalizePinLaw" = some m.cls := findClass_of_methodNamed Bd.named
  have hnm := (name_of_methodNamed Bd.named Bd.method).1
  have X0 : Stand p l e ({ frames := 0, cells := 0, slots := 0, locals := 0 } : Room) s m #[(.int q1), (.int q2)] below meth c s₁ [] 0 0 := Stand.of_body Bd
  have e0 : s₁.heap = h0 := by rw [← hh, Bd.state]; rfl
  have N0 := Fr.nil n0
  refine own_enter (Q := (Q_3 Z q1 q2 h0 n0)) (cs := 0) (ss := 0) (ef_3 m q1 q2) ?_
  show Goes p e below s 0 0 (Q_3 Z q1 q2 h0 n0) s₁ (mkF m 0 #[.val (.int q1), .val (.int q2)] [])
  refine own_iloadN (pc' := 1) X0 hx (hb hby d6_0) rfl rfl ?_
  refine own_bipush (pc' := 3) X0 hx (hb hby d6_1) (v := (13 : Int32)) rfl rfl ?_
  by_cases hc3 : q1 = (13 : Int32)
  · refine own_icmpN (pc' := 6) X0 hx (hb hby d6_3) (teq hc3).2 rfl ?_
    refine own_iloadN (pc' := 7) X0 hx (hb hby d6_6) rfl rfl ?_
    refine own_bipush (pc' := 9) X0 hx (hb hby d6_7) (v := (10 : Int32)) rfl rfl ?_
    by_cases hc9 : q2 = (10 : Int32)
    · refine own_icmpN (pc' := 12) X0 hx (hb hby d6_9) (teq hc9).2 rfl ?_
      refine own_iconst (pc' := 13) X0 hx (hb hby d6_12) (v := (1 : Int32)) rfl rfl ?_
      refine own_goto X0 hx (hb hby d6_13) (by decide) (pc' := 17) (by decide) ?_
      exact own_retN X0 hx hlk (t := .boolean) Bd.returns (by simp) (hb hby d6_17) (by decide) (by decide) ⟨by simp [own_pairs, hc3, hc9, nar], N0, e0⟩
    · refine own_icmpY X0 hx (hb hby d6_9) (feq hc9).2 (by decide) (pc' := 16) (by decide) ?_
      refine own_iconst (pc' := 17) X0 hx (hb hby d6_16) (v := (0 : Int32)) rfl rfl ?_
      exact own_retN X0 hx hlk (t := .boolean) Bd.returns (by simp) (hb hby d6_17) (by decide) (by decide) ⟨by simp [own_pairs, hc3, hc9, nar], N0, e0⟩
  · refine own_icmpY X0 hx (hb hby d6_3) (feq hc3).2 (by decide) (pc' := 16) (by decide) ?_
    refine own_iconst (pc' := 17) X0 hx (hb hby d6_16) (v := (0 : Int32)) rfl rfl ?_
    exact own_retN X0 hx hlk (t := .boolean) Bd.returns (by simp) (hb hby d6_17) (by decide) (by decide) ⟨by simp [own_pairs, hc3, nar], N0, e0⟩
theorem d8_0 : decode method_5_code 0 = .ok (.iload_n 0, 1) := by decide +kernel
theorem d8_1 : decode method_5_code 1 = .ok (.ifCond .eq 16, 3) := by decide +kernel
theorem d8_4 : decode method_5_code 4 = .ok (.iload_n 1, 1) := by decide +kernel
theorem d8_5 : decode method_5_code 5 = .ok (.invokestatic 7, 3) := by decide +kernel
theorem d8_8 : decode method_5_code 8 = .ok (.bipush 10, 2) := by decide +kernel
theorem d8_10 : decode method_5_code 10 = .ok (.if_icmp .ne 7, 3) := by decide +kernel
theorem d8_13 : decode method_5_code 13 = .ok (.lconst 1, 1) := by decide +kernel
theorem d8_14 : decode method_5_code 14 = .ok (.goto 4, 3) := by decide +kernel
theorem d8_17 : decode method_5_code 17 = .ok (.lconst 0, 1) := by decide +kernel
theorem d8_18 : decode method_5_code 18 = .ok (.lreturn, 1) := by decide +kernel
theorem pn_4 : plainFor (⟨"com/example/dipper/dipper/core/LineEndsNormalizePinLaw", "lf", "(ZC)J"⟩ : MethodName) = true := by first | (refine plainFor_of_name ?_; simp [plainName, overriddenIn]; done) | decide +kernel
theorem pd_4 : parseMethodDescriptor "(ZC)J" = some ⟨[.boolean, .char], some .long⟩ := by decide +kernel
theorem ef_4 (m : MethodId) (k : Int32) (q1 : Int32) : entryFrame m #[(.int k), (.int q1)] 2 = mkF m 0 #[.val (.int k), .val (.int q1)] [] := by first | (simp [entryFrame, mkF, argsToLocals, Value.category]; done) | rfl
def Q_4 (Z : State) (k : Int32) (q1 : Int32) (h0 : Heap) (n0 : Nat) (v : Option Value) (h : Heap) (L : List Loc) : Prop := v = some (.long (own_lf k q1)) ∧ Fr n0 L ∧ h = h0
set_option maxRecDepth 65536 in
set_option maxHeartbeats 40000000 in
theorem rm_4 (l : Launch) (Z : State) (a0 : Array Value) (hw : ∀ d ∈ tables_1, d.before a0 Z = true) (ws : List Jvm.Cond) (k : Int32) (q1 : Int32) (h0 : Heap) (n0 : Nat) (Z0 : n0 ≤ h0.size) (hC : own_C q1) :
    MetFree l (⟨"com/example/dipper/dipper/core/LineEndsNormalizePinLaw", "lf", "(ZC)J"⟩ : MethodName) (head1 (Jvm.Cond.code (⟨"com/example/dipper/dipper/core/LineEndsNormalizePinLaw", "lf", "(ZC)J"⟩ : MethodName) method_5_code 2 (some .long) :: ws) ({ frames := 1, cells := 0, slots := 0, locals := 16 } : Room)) (fun a U => a = #[(.int k), (.int q1)] ∧ Z.Warmed39 U.vm ∧ U.heap = h0) (fun _ _ _ _ _ => True) (fun _ U o U' => ∃ v L, o = .returned v ∧ (Q_4 Z k q1 h0 n0) v U'.heap L ∧ FrameEnd U o U' L ({ frames := 1, cells := 0, slots := 0, locals := 16 } : Room).cells ({ frames := 1, cells := 0, slots := 0, locals := 16 } : Room).slots) := by
  refine MetFree.of_bodySF pn_4 hisR ?_
  intro p e s m args below meth c s₁ Bd hml0 hP hK
  obtain ⟨rfl, hZ, hh⟩ := hP
  have hx := Bd.exec
  have hby := Bd.bytes
  have hlk : meth.locks = false := BodyLoose.notSynchronized Bd
  have hml : c.maxLocals = 2 := hml0
  have hown : s.vm.findClass "com/example/dipper/dipper/core/LineEndsNormalizePinLaw" = some m.cls := findClass_of_methodNamed Bd.named
  have hnm := (name_of_methodNamed Bd.named Bd.method).1
  have X0 : Stand p l e ({ frames := 1, cells := 0, slots := 0, locals := 16 } : Room) s m #[(.int k), (.int q1)] below meth c s₁ [] 0 0 := Stand.of_body Bd
  have e0 : s₁.heap = h0 := by rw [← hh, Bd.state]; rfl
  have N0 := Fr.nil n0
  refine own_enter (Q := (Q_4 Z k q1 h0 n0)) (cs := 0) (ss := 0) (ef_4 m k q1) ?_
  show Goes p e below s 0 0 (Q_4 Z k q1 h0 n0) s₁ (mkF m 0 #[.val (.int k), .val (.int q1)] [])
  refine own_iloadN (pc' := 1) X0 hx (hb hby d8_0) rfl rfl ?_
  by_cases hc1 : k = (0 : Int32)
  · refine own_ifY X0 hx (hb hby d8_1) ((if0 _ _).trans (teq hc1).1) (by decide) (pc' := 17) (by decide) ?_
    refine own_lconst (pc' := 18) X0 hx (hb hby d8_17) (v := (0 : Int64)) rfl rfl ?_
    exact own_retJ X0 hx hlk Bd.returns (hb hby d8_18) (by decide) (by decide) ⟨by simp [own_lf, own_l1, hc1], N0, e0⟩
  · refine own_ifN (pc' := 4) X0 hx (hb hby d8_1) ((if0 _ _).trans (feq hc1).1) rfl ?_
    refine own_iloadN (pc' := 5) X0 hx (hb hby d8_4) rfl rfl ?_
    obtain ⟨_, _, ⟨T101, L101, k101, n101⟩, -, X101, ⟨Lc101, hQ101, l101, y101, z101⟩, st101⟩ := Jvm.LawKit.callS X0 hx (y := (⟨"com/example/dipper/dipper/core/LineEndsNormalizePinLaw", "out", "(C)C"⟩ : MethodName)) hown (mvT hZ (hw _ (List.mem_of_getElem? (i := 32) rfl))) (mvT hZ (hw _ (List.mem_of_getElem? (i := 33) rfl))) (mvT hZ (hw _ (List.mem_of_getElem? (i := 2) rfl))) (mvT hZ (hw _ (List.mem_of_getElem? (i := 34) rfl))) (by decide) (backOf (W := 0) (rm_2 l Z a0 hw [] q1 h0 n0 Z0 hC) hZ (hw _ (List.mem_of_getElem? (i := 34) rfl)) (hw _ (List.mem_of_getElem? (i := 2) rfl)) (by decide) (by decide)) (g := (mkF m 5 #[.val (.int k), .val (.int q1)] [(.int q1)])) rfl (by rw [hml]; rfl) (argsL := [(.int q1)]) (rest := []) (lenOf pd_2 rfl) rfl (by show 2 * 0 + _ ≤ _; exact Nat.le_of_eq rfl) (hb hby d8_5) (fun _ _ => ⟨rfl, e0, (by decide : 0 + 0 ≤ _), (by decide : 0 + 0 ≤ _)⟩)
    dsimp only [Pt.U, Pt.locs, Pt.cells, Pt.slots] at X101 l101 y101 z101 st101 hQ101
    subst l101 y101 z101
    obtain ⟨rfl, M101, e5⟩ := hQ101
    have N101 := Fr.app N0 M101
    refine Goes.pre st101 ?_
    show Goes p e below s 0 0 (Q_4 Z k q1 h0 n0) T101 (mkF m 8 #[.val (.int k), .val (.int q1)] [(.int (own_out q1))])
    refine own_bipush (pc' := 10) X101 hx (hb hby d8_8) (v := (10 : Int32)) rfl rfl ?_
    by_cases hc10 : (own_out q1) = (10 : Int32)
    · refine own_icmpN (pc' := 13) X101 hx (hb hby d8_10) (teq hc10).2 rfl ?_
      refine own_lconst (pc' := 14) X101 hx (hb hby d8_13) (v := (1 : Int64)) rfl rfl ?_
      refine own_goto X101 hx (hb hby d8_14) (by decide) (pc' := 18) (by decide) ?_
      exact own_retJ X101 hx hlk Bd.returns (hb hby d8_18) (by decide) (by decide) ⟨by simp [own_lf, own_l1, hc1, hc10], N101, e5⟩
    · refine own_icmpY X101 hx (hb hby d8_10) (feq hc10).2 (by decide) (pc' := 17) (by decide) ?_
      refine own_lconst (pc' := 18) X101 hx (hb hby d8_17) (v := (0 : Int64)) rfl rfl ?_
      exact own_retJ X101 hx hlk Bd.returns (hb hby d8_18) (by decide) (by decide) ⟨by simp [own_lf, own_l1, hc1, hc10], N101, e5⟩
theorem d2_0 : decode prog_28_method_1_code 0 = .ok (.aload_n 0, 1) := by decide +kernel
theorem d2_1 : decode prog_28_method_1_code 1 = .ok (.invokespecial 1, 3) := by decide +kernel
theorem d2_4 : decode prog_28_method_1_code 4 = .ok (.return_, 1) := by decide +kernel
theorem pn_5 : plainFor (⟨"com/example/dipper/dipper/core/LineEnds", "<init>", "()V"⟩ : MethodName) = true := by first | (refine plainFor_of_name ?_; simp [plainName, overriddenIn]; done) | decide +kernel
theorem pd_5 : parseMethodDescriptor "()V" = some ⟨[], none⟩ := by decide +kernel
theorem ef_5 (m : MethodId) (a1 : Addr) : entryFrame m #[(.ref a1)] 1 = mkF m 0 #[.val (.ref a1)] [] := by first | (simp [entryFrame, mkF, argsToLocals, Value.category]; done) | rfl
def Q_5 (Z : State) (a1 : Addr) (h0 : Heap) (n0 : Nat) (v : Option Value) (h : Heap) (L : List Loc) : Prop := v = none ∧ Fr n0 L ∧ h = h0
set_option maxRecDepth 65536 in
set_option maxHeartbeats 40000000 in
theorem rm_5 (l : Launch) (Z : State) (a0 : Array Value) (hw : ∀ d ∈ tables_1, d.before a0 Z = true) (ws : List Jvm.Cond) (a1 : Addr) (h0 : Heap) (n0 : Nat) (Z0 : n0 ≤ h0.size) :
    MetFree l (⟨"com/example/dipper/dipper/core/LineEnds", "<init>", "()V"⟩ : MethodName) (head1 (Jvm.Cond.code (⟨"com/example/dipper/dipper/core/LineEnds", "<init>", "()V"⟩ : MethodName) prog_28_method_1_code 1 none :: ws) ({ frames := 1, cells := 0, slots := 0, locals := 12 } : Room)) (fun a U => a = #[(.ref a1)] ∧ Z.Warmed39 U.vm ∧ U.heap = h0) (fun _ _ _ _ _ => True) (fun _ U o U' => ∃ v L, o = .returned v ∧ (Q_5 Z a1 h0 n0) v U'.heap L ∧ FrameEnd U o U' L ({ frames := 1, cells := 0, slots := 0, locals := 12 } : Room).cells ({ frames := 1, cells := 0, slots := 0, locals := 12 } : Room).slots) := by
  refine MetFree.of_bodySF pn_5 hisR ?_
  intro p e s m args below meth c s₁ Bd hml0 hP hK
  obtain ⟨rfl, hZ, hh⟩ := hP
  have hx := Bd.exec
  have hby := Bd.bytes
  have hlk : meth.locks = false := BodyLoose.notSynchronized Bd
  have hml : c.maxLocals = 1 := hml0
  have hown : s.vm.findClass "com/example/dipper/dipper/core/LineEnds" = some m.cls := findClass_of_methodNamed Bd.named
  have hnm := (name_of_methodNamed Bd.named Bd.method).1
  have X0 : Stand p l e ({ frames := 1, cells := 0, slots := 0, locals := 12 } : Room) s m #[(.ref a1)] below meth c s₁ [] 0 0 := Stand.of_body Bd
  have e0 : s₁.heap = h0 := by rw [← hh, Bd.state]; rfl
  have N0 := Fr.nil n0
  refine own_enter (Q := (Q_5 Z a1 h0 n0)) (cs := 0) (ss := 0) (ef_5 m a1) ?_
  show Goes p e below s 0 0 (Q_5 Z a1 h0 n0) s₁ (mkF m 0 #[.val (.ref a1)] [])
  refine own_aloadN (pc' := 1) X0 hx (hb hby d2_0) rfl rfl rfl ?_
  obtain ⟨T102, X102, e102, st102⟩ := initO X0 hx hZ hown (hw _ (List.mem_of_getElem? (i := 12) rfl)) (hw _ (List.mem_of_getElem? (i := 13) rfl)) (hw _ (List.mem_of_getElem? (i := 14) rfl)) e0 (g := (mkF m 1 #[.val (.ref a1)] [(.ref a1)])) rfl (by rw [hml]; rfl) rfl (hb hby d2_1) (by decide) (W := 0) (by show 2 * 0 + _ ≤ _; exact Nat.le_of_eq rfl) (by decide)
  refine Goes.pre st102 ?_
  show Goes p e below s 0 0 (Q_5 Z a1 h0 n0) T102 (mkF m 4 #[.val (.ref a1)] [])
  exact own_ret0 X102 hx hlk Bd.returns (hb hby d2_4) (by decide) (by decide) ⟨rfl, N0, e102⟩
theorem d5_0 : decode prog_28_method_4_code 0 = .ok (.aload_n 0, 1) := by decide +kernel
theorem d5_1 : decode prog_28_method_4_code 1 = .ok (.getfield 36, 3) := by decide +kernel
theorem d5_4 : decode prog_28_method_4_code 4 = .ok (.lreturn, 1) := by decide +kernel
theorem pn_6 : plainFor (⟨"com/example/dipper/dipper/core/LineEnds", "lineFeeds", "()J"⟩ : MethodName) = true := by first | (refine plainFor_of_name ?_; simp [plainName, overriddenIn]; done) | decide +kernel
theorem pd_6 : parseMethodDescriptor "()J" = some ⟨[], some .long⟩ := by decide +kernel
theorem ef_6 (m : MethodId) (a1 : Addr) (lf : Int64) : entryFrame m #[(.ref a1)] 1 = mkF m 0 #[.val (.ref a1)] [] := by first | (simp [entryFrame, mkF, argsToLocals, Value.category]; done) | rfl
def Q_6 (Z : State) (a1 : Addr) (lf : Int64) (h0 : Heap) (n0 : Nat) (v : Option Value) (h : Heap) (L : List Loc) : Prop := v = some (.long lf) ∧ Fr n0 L ∧ h = h0
set_option maxRecDepth 65536 in
set_option maxHeartbeats 40000000 in
theorem rm_6 (l : Launch) (Z : State) (a0 : Array Value) (hw : ∀ d ∈ tables_1, d.before a0 Z = true) (ws : List Jvm.Cond) (a1 : Addr) (lf : Int64) (h0 : Heap) (n0 : Nat) (Z0 : n0 ≤ h0.size) (F2 : Fld Z h0 a1 "com/example/dipper/dipper/core/LineEnds" "lineFeeds" "J" (.long lf)) :
    MetFree l (⟨"com/example/dipper/dipper/core/LineEnds", "lineFeeds", "()J"⟩ : MethodName) (head1 (Jvm.Cond.code (⟨"com/example/dipper/dipper/core/LineEnds", "lineFeeds", "()J"⟩ : MethodName) prog_28_method_4_code 1 (some .long) :: ws) ({ frames := 0, cells := 0, slots := 0, locals := 0 } : Room)) (fun a U => a = #[(.ref a1)] ∧ Z.Warmed39 U.vm ∧ U.heap = h0) (fun _ _ _ _ _ => True) (fun _ U o U' => ∃ v L, o = .returned v ∧ (Q_6 Z a1 lf h0 n0) v U'.heap L ∧ FrameEnd U o U' L ({ frames := 0, cells := 0, slots := 0, locals := 0 } : Room).cells ({ frames := 0, cells := 0, slots := 0, locals := 0 } : Room).slots) := by
  refine MetFree.of_bodySF pn_6 hisR ?_
  intro p e s m args below meth c s₁ Bd hml0 hP hK
  obtain ⟨rfl, hZ, hh⟩ := hP
  have hx := Bd.exec
  have hby := Bd.bytes
  have hlk : meth.locks = false := BodyLoose.notSynchronized Bd
  have hml : c.maxLocals = 1 := hml0
  have hown : s.vm.findClass "com/example/dipper/dipper/core/LineEnds" = some m.cls := findClass_of_methodNamed Bd.named
  have hnm := (name_of_methodNamed Bd.named Bd.method).1
  have X0 : Stand p l e ({ frames := 0, cells := 0, slots := 0, locals := 0 } : Room) s m #[(.ref a1)] below meth c s₁ [] 0 0 := Stand.of_body Bd
  have e0 : s₁.heap = h0 := by rw [← hh, Bd.state]; rfl
  have N0 := Fr.nil n0
  refine own_enter (Q := (Q_6 Z a1 lf h0 n0)) (cs := 0) (ss := 0) (ef_6 m a1 lf) ?_
  show Goes p e below s 0 0 (Q_6 Z a1 lf h0 n0) s₁ (mkF m 0 #[.val (.ref a1)] [])
  refine own_aloadN (pc' := 1) X0 hx (hb hby d5_0) rfl rfl rfl ?_
  obtain ⟨T103, X103, e103, st103⟩ := getF X0 hx hZ hown (host := "") (Or.inl (hw _ (List.mem_of_getElem? (i := 22) rfl))) Via.refl e0 F2 (g := (mkF m 1 #[.val (.ref a1)] [(.ref a1)])) rfl rfl (hb hby d5_1)
  refine Goes.pre st103 ?_
  show Goes p e below s 0 0 (Q_6 Z a1 lf h0 n0) T103 (mkF m 4 #[.val (.ref a1)] [(.long lf)])
  exact own_retJ X103 hx hlk Bd.returns (hb hby d5_4) (by decide) (by decide) ⟨rfl, N0, e103⟩
theorem d4_0 : decode prog_28_method_3_code 0 = .ok (.iload_n 2, 1) := by decide +kernel
theorem d4_1 : decode prog_28_method_3_code 1 = .ok (.istore 4, 2) := by decide +kernel
theorem d4_3 : decode prog_28_method_3_code 3 = .ok (.iload_n 2, 1) := by decide +kernel
theorem d4_4 : decode prog_28_method_3_code 4 = .ok (.istore 5, 2) := by decide +kernel
theorem d4_6 : decode prog_28_method_3_code 6 = .ok (.iload 5, 2) := by decide +kernel
theorem d4_8 : decode prog_28_method_3_code 8 = .ok (.iload_n 3, 1) := by decide +kernel
theorem d4_9 : decode prog_28_method_3_code 9 = .ok (.if_icmp .ge 103, 3) := by decide +kernel
theorem d4_12 : decode prog_28_method_3_code 12 = .ok (.aload_n 1, 1) := by decide +kernel
theorem d4_13 : decode prog_28_method_3_code 13 = .ok (.iload 5, 2) := by decide +kernel
theorem d4_15 : decode prog_28_method_3_code 15 = .ok (.caload, 1) := by decide +kernel
theorem d4_16 : decode prog_28_method_3_code 16 = .ok (.istore 6, 2) := by decide +kernel
theorem d4_18 : decode prog_28_method_3_code 18 = .ok (.aload_n 0, 1) := by decide +kernel
theorem d4_19 : decode prog_28_method_3_code 19 = .ok (.getfield 32, 3) := by decide +kernel
theorem d4_22 : decode prog_28_method_3_code 22 = .ok (.ifCond .eq 14, 3) := by decide +kernel
theorem d4_25 : decode prog_28_method_3_code 25 = .ok (.iload 6, 2) := by decide +kernel
theorem d4_27 : decode prog_28_method_3_code 27 = .ok (.bipush 10, 2) := by decide +kernel
theorem d4_29 : decode prog_28_method_3_code 29 = .ok (.if_icmp .ne 7, 3) := by decide +kernel
theorem d4_32 : decode prog_28_method_3_code 32 = .ok (.iconst 1, 1) := by decide +kernel
theorem d4_33 : decode prog_28_method_3_code 33 = .ok (.goto 4, 3) := by decide +kernel
theorem d4_36 : decode prog_28_method_3_code 36 = .ok (.iconst 0, 1) := by decide +kernel
theorem d4_37 : decode prog_28_method_3_code 37 = .ok (.istore 7, 2) := by decide +kernel
theorem d4_39 : decode prog_28_method_3_code 39 = .ok (.aload_n 0, 1) := by decide +kernel
theorem d4_40 : decode prog_28_method_3_code 40 = .ok (.iload 6, 2) := by decide +kernel
theorem d4_42 : decode prog_28_method_3_code 42 = .ok (.bipush 13, 2) := by decide +kernel
theorem d4_44 : decode prog_28_method_3_code 44 = .ok (.if_icmp .ne 7, 3) := by decide +kernel
theorem d4_47 : decode prog_28_method_3_code 47 = .ok (.iconst 1, 1) := by decide +kernel
theorem d4_48 : decode prog_28_method_3_code 48 = .ok (.goto 4, 3) := by decide +kernel
theorem d4_51 : decode prog_28_method_3_code 51 = .ok (.iconst 0, 1) := by decide +kernel
theorem d4_52 : decode prog_28_method_3_code 52 = .ok (.putfield 32, 3) := by decide +kernel
theorem d4_55 : decode prog_28_method_3_code 55 = .ok (.iload 7, 2) := by decide +kernel
theorem d4_57 : decode prog_28_method_3_code 57 = .ok (.ifCond .ne 49, 3) := by decide +kernel
theorem d4_60 : decode prog_28_method_3_code 60 = .ok (.aload_n 0, 1) := by decide +kernel
theorem d4_61 : decode prog_28_method_3_code 61 = .ok (.getfield 32, 3) := by decide +kernel
theorem d4_64 : decode prog_28_method_3_code 64 = .ok (.ifCond .eq 8, 3) := by decide +kernel
theorem d4_67 : decode prog_28_method_3_code 67 = .ok (.bipush 10, 2) := by decide +kernel
theorem d4_69 : decode prog_28_method_3_code 69 = .ok (.goto 5, 3) := by decide +kernel
theorem d4_72 : decode prog_28_method_3_code 72 = .ok (.iload 6, 2) := by decide +kernel
theorem d4_74 : decode prog_28_method_3_code 74 = .ok (.istore 8, 2) := by decide +kernel
theorem d4_76 : decode prog_28_method_3_code 76 = .ok (.aload_n 0, 1) := by decide +kernel
theorem d4_77 : decode prog_28_method_3_code 77 = .ok (.dup, 1) := by decide +kernel
theorem d4_78 : decode prog_28_method_3_code 78 = .ok (.getfield 36, 3) := by decide +kernel
theorem d4_81 : decode prog_28_method_3_code 81 = .ok (.iload 8, 2) := by decide +kernel
theorem d4_83 : decode prog_28_method_3_code 83 = .ok (.bipush 10, 2) := by decide +kernel
theorem d4_85 : decode prog_28_method_3_code 85 = .ok (.if_icmp .ne 7, 3) := by decide +kernel
theorem d4_88 : decode prog_28_method_3_code 88 = .ok (.lconst 1, 1) := by decide +kernel
theorem d4_89 : decode prog_28_method_3_code 89 = .ok (.goto 4, 3) := by decide +kernel
theorem d4_92 : decode prog_28_method_3_code 92 = .ok (.lconst 0, 1) := by decide +kernel
theorem d4_93 : decode prog_28_method_3_code 93 = .ok (.ladd, 1) := by decide +kernel
theorem d4_94 : decode prog_28_method_3_code 94 = .ok (.putfield 36, 3) := by decide +kernel
theorem d4_97 : decode prog_28_method_3_code 97 = .ok (.aload_n 1, 1) := by decide +kernel
theorem d4_98 : decode prog_28_method_3_code 98 = .ok (.iload 4, 2) := by decide +kernel
theorem d4_100 : decode prog_28_method_3_code 100 = .ok (.iinc 4 1, 3) := by decide +kernel
theorem d4_103 : decode prog_28_method_3_code 103 = .ok (.iload 8, 2) := by decide +kernel
theorem d4_105 : decode prog_28_method_3_code 105 = .ok (.castore, 1) := by decide +kernel
theorem d4_106 : decode prog_28_method_3_code 106 = .ok (.iinc 5 1, 3) := by decide +kernel
theorem d4_109 : decode prog_28_method_3_code 109 = .ok (.goto (-103), 3) := by decide +kernel
theorem d4_112 : decode prog_28_method_3_code 112 = .ok (.iload 4, 2) := by decide +kernel
theorem d4_114 : decode prog_28_method_3_code 114 = .ok (.ireturn, 1) := by decide +kernel
theorem pn_7 : plainFor (⟨"com/example/dipper/dipper/core/LineEnds", "normalize", "([CII)I"⟩ : MethodName) = true := by first | (refine plainFor_of_name ?_; simp [plainName, overriddenIn]; done) | decide +kernel
theorem pd_7 : parseMethodDescriptor "([CII)I" = some ⟨[(.array .char), .int, .int], some .int⟩ := by decide +kernel
theorem ef_7 (m : MethodId) (a1 : Addr) (a2 : Addr) (vs : List Int32) (af : Int32) (lf : Int64) (st : Nat) (en : Nat) : entryFrame m #[(.ref a1), (.ref a2), (.int st.toInt32), (.int en.toInt32)] 9 = mkF m 0 #[.val (.ref a1), .val (.ref a2), .val (.int st.toInt32), .val (.int en.toInt32), .unset, .unset, .unset, .unset, .unset] [] := by first | (simp [entryFrame, mkF, argsToLocals, Value.category]; done) | rfl
def Q_7 (Z : State) (a1 : Addr) (a2 : Addr) (vs : List Int32) (af : Int32) (lf : Int64) (st : Nat) (en : Nat) (h0 : Heap) (n0 : Nat) (v : Option Value) (h : Heap) (L : List Loc) : Prop := v = some (.int (own_nl (en - st) st st vs af lf).1.toInt32) ∧ Fr n0 L ∧ Keep h0 h [a1, a2] ∧ Exa Z h a1 "com/example/dipper/dipper/core/LineEnds" ∧ Fld Z h a1 "com/example/dipper/dipper/core/LineEnds" "afterReturn" "Z" (.int (own_nl (en - st) st st vs af lf).2.2.1) ∧ Fld Z h a1 "com/example/dipper/dipper/core/LineEnds" "lineFeeds" "J" (.long (own_nl (en - st) st st vs af lf).2.2.2) ∧ own_PA Z h a2 .char (own_nl (en - st) st st vs af lf).2.1
set_option maxRecDepth 65536 in
set_option maxHeartbeats 40000000 in
theorem rm_7 (l : Launch) (Z : State) (a0 : Array Value) (hw : ∀ d ∈ tables_1, d.before a0 Z = true) (ws : List Jvm.Cond) (a1 : Addr) (a2 : Addr) (vs : List Int32) (af : Int32) (lf : Int64) (st : Nat) (en : Nat) (h0 : Heap) (n0 : Nat) (Z0 : n0 ≤ h0.size) (F1 : Fld Z h0 a1 "com/example/dipper/dipper/core/LineEnds" "afterReturn" "Z" (.int af)) (F2 : Fld Z h0 a1 "com/example/dipper/dipper/core/LineEnds" "lineFeeds" "J" (.long lf)) (E1 : Exa Z h0 a1 "com/example/dipper/dipper/core/LineEnds") (P1 : own_PA Z h0 a2 .char vs) (hse : st ≤ en) (hen : en ≤ vs.length) (hl : vs.length ≤ 4) (hC : ∀ v ∈ vs, own_C v) (ne : a1 ≠ a2) (g1 : n0 ≤ a1) (g2 : n0 ≤ a2) :
    MetFree l (⟨"com/example/dipper/dipper/core/LineEnds", "normalize", "([CII)I"⟩ : MethodName) (head1 (Jvm.Cond.code (⟨"com/example/dipper/dipper/core/LineEnds", "normalize", "([CII)I"⟩ : MethodName) prog_28_method_3_code 9 (some .int) :: ws) ({ frames := 0, cells := 0, slots := 0, locals := 0 } : Room)) (fun a U => a = #[(.ref a1), (.ref a2), (.int st.toInt32), (.int en.toInt32)] ∧ Z.Warmed39 U.vm ∧ U.heap = h0) (fun _ _ _ _ _ => True) (fun _ U o U' => ∃ v L, o = .returned v ∧ (Q_7 Z a1 a2 vs af lf st en h0 n0) v U'.heap L ∧ FrameEnd U o U' L ({ frames := 0, cells := 0, slots := 0, locals := 0 } : Room).cells ({ frames := 0, cells := 0, slots := 0, locals := 0 } : Room).slots) := by
  refine MetFree.of_bodySF pn_7 hisR ?_
  intro p e s m args below meth c s₁ Bd hml0 hP hK
  obtain ⟨rfl, hZ, hh⟩ := hP
  have hx := Bd.exec
  have hby := Bd.bytes
  have hlk : meth.locks = false := BodyLoose.notSynchronized Bd
  have hml : c.maxLocals = 9 := hml0
  have hown : s.vm.findClass "com/example/dipper/dipper/core/LineEnds" = some m.cls := findClass_of_methodNamed Bd.named
  have hnm := (name_of_methodNamed Bd.named Bd.method).1
  have X0 : Stand p l e ({ frames := 0, cells := 0, slots := 0, locals := 0 } : Room) s m #[(.ref a1), (.ref a2), (.int st.toInt32), (.int en.toInt32)] below meth c s₁ [] 0 0 := Stand.of_body Bd
  have e0 : s₁.heap = h0 := by rw [← hh, Bd.state]; rfl
  have N0 := Fr.nil n0
  refine own_enter (Q := (Q_7 Z a1 a2 vs af lf st en h0 n0)) (cs := 0) (ss := 0) (ef_7 m a1 a2 vs af lf st en) ?_
  show Goes p e below s 0 0 (Q_7 Z a1 a2 vs af lf st en h0 n0) s₁ (mkF m 0 #[.val (.ref a1), .val (.ref a2), .val (.int st.toInt32), .val (.int en.toInt32), .unset, .unset, .unset, .unset, .unset] [])
  have L1 : ∀ (d i w : Nat) (us : List Int32) (fa : Int32) (fl : Int64), i + d = en → w ≤ i → us.length = vs.length → (∀ v ∈ us, own_C v) → own_nl d i w us fa fl = (own_nl (en - st) st st vs af lf) → ∀ (TJ : State) (hJ : Heap) (LJ : List Loc) (s6 s7 s8 : Slot), One s6 → One s7 → One s8 → Stand p l e ({ frames := 0, cells := 0, slots := 0, locals := 0 } : Room) s m #[(.ref a1), (.ref a2), (.int st.toInt32), (.int en.toInt32)] below meth c TJ LJ 0 0 → TJ.heap = hJ → Fr n0 LJ → Keep h0 hJ [a1, a2] → Exa Z hJ a1 "com/example/dipper/dipper/core/LineEnds" → Fld Z hJ a1 "com/example/dipper/dipper/core/LineEnds" "afterReturn" "Z" (.int fa) → Fld Z hJ a1 "com/example/dipper/dipper/core/LineEnds" "lineFeeds" "J" (.long fl) → own_PA Z hJ a2 .char us → Goes p e below s 0 0 (Q_7 Z a1 a2 vs af lf st en h0 n0) TJ (mkF m 6 #[.val (.ref a1), .val (.ref a2), .val (.int st.toInt32), .val (.int en.toInt32), .val (.int w.toInt32), .val (.int i.toInt32), s6, s7, s8] []) := by
    intro d
    induction d with
    | zero =>
      intro i w us fa fl hd hwi hul hCu hres TJ hJ LJ s6 s7 s8 o6 o7 o8 XJ eJ NJ KJ EJ FJ GJ PJ
      have hi : ¬ i.toInt32 < en.toInt32 := fun q => absurd ((own_lt (by omega) (by omega)).mp q) (by omega)
      refine own_iload (pc' := 8) XJ hx (hb hby d4_6) rfl rfl ?_
      refine own_iloadN (pc' := 9) XJ hx (hb hby d4_8) rfl rfl ?_
      refine own_icmpY XJ hx (hb hby d4_9) (flt hi).2.1 (by decide) (pc' := 112) (by decide) ?_
      refine own_iload (pc' := 114) XJ hx (hb hby d4_112) rfl rfl ?_
      exact own_retI XJ hx hlk Bd.returns (hb hby d4_114) (by decide) (by decide) (by rw [eJ]; unfold Q_7; rw [← hres]; exact ⟨rfl, NJ, KJ, EJ, FJ, GJ, PJ⟩)
    | succ d ih =>
      intro i w us fa fl hd hwi hul hCu hres TJ hJ LJ s6 s7 s8 o6 o7 o8 XJ eJ NJ KJ EJ FJ GJ PJ
      have hi : i.toInt32 < en.toInt32 := (own_lt (by omega) (by omega)).mpr (by omega)
      have hil : i < us.length := by omega
      obtain ⟨cv, hcv⟩ : ∃ z, us.getD i 0 = z := ⟨_, rfl⟩
      have hCv : own_C cv := hcv ▸ hCu _ (own_mem hil)
      have hat : us[i]? = some cv := by rw [own_gd hil, hcv]
      refine own_iload (pc' := 8) XJ hx (hb hby d4_6) rfl rfl ?_
      refine own_iloadN (pc' := 9) XJ hx (hb hby d4_8) rfl rfl ?_
      refine own_icmpN (pc' := 12) XJ hx (hb hby d4_9) (tlt hi).2.1 rfl ?_
      refine own_aloadN (pc' := 13) XJ hx (hb hby d4_12) rfl rfl rfl ?_
      refine own_iload (pc' := 15) XJ hx (hb hby d4_13) rfl rfl ?_
      refine own_caload (pc' := 16) XJ hx hZ eJ PJ (hb hby d4_15) (v := cv) (own_nn (by omega)) (own_nc (by omega)) hat rfl ?_
      refine own_istoreS (pc' := 18) XJ hx (hb hby d4_16) rfl o6 (Ls' := #[.val (.ref a1), .val (.ref a2), .val (.int st.toInt32), .val (.int en.toInt32), .val (.int w.toInt32), .val (.int i.toInt32), .val (.int cv), s7, s8]) rfl rfl ?_
      refine own_aloadN (pc' := 19) XJ hx (hb hby d4_18) rfl rfl rfl ?_
      obtain ⟨T104, X104, e104, st104⟩ := getF XJ hx hZ hown (host := "") (Or.inl (hw _ (List.mem_of_getElem? (i := 20) rfl))) Via.refl eJ FJ (g := (mkF m 19 #[.val (.ref a1), .val (.ref a2), .val (.int st.toInt32), .val (.int en.toInt32), .val (.int w.toInt32), .val (.int i.toInt32), .val (.int cv), s7, s8] [(.ref a1)])) rfl rfl (hb hby d4_19)
      refine Goes.pre st104 ?_
      show Goes p e below s 0 0 (Q_7 Z a1 a2 vs af lf st en h0 n0) T104 (mkF m 22 #[.val (.ref a1), .val (.ref a2), .val (.int st.toInt32), .val (.int en.toInt32), .val (.int w.toInt32), .val (.int i.toInt32), .val (.int cv), s7, s8] [(.int fa)])
      by_cases hc22 : fa = (0 : Int32)
      · refine own_ifY X104 hx (hb hby d4_22) ((if0 _ _).trans (teq hc22).1) (by decide) (pc' := 36) (by decide) ?_
        refine own_iconst (pc' := 37) X104 hx (hb hby d4_36) (v := (0 : Int32)) rfl rfl ?_
        refine own_istoreS (pc' := 39) X104 hx (hb hby d4_37) rfl o7 (Ls' := #[.val (.ref a1), .val (.ref a2), .val (.int st.toInt32), .val (.int en.toInt32), .val (.int w.toInt32), .val (.int i.toInt32), .val (.int cv), .val (.int (0 : Int32)), s8]) rfl rfl ?_
        refine own_aloadN (pc' := 40) X104 hx (hb hby d4_39) rfl rfl rfl ?_
        refine own_iload (pc' := 42) X104 hx (hb hby d4_40) rfl rfl ?_
        refine own_bipush (pc' := 44) X104 hx (hb hby d4_42) (v := (13 : Int32)) rfl rfl ?_
        by_cases hc44 : cv = (13 : Int32)
        · refine own_icmpN (pc' := 47) X104 hx (hb hby d4_44) (teq hc44).2 rfl ?_
          refine own_iconst (pc' := 48) X104 hx (hb hby d4_47) (v := (1 : Int32)) rfl rfl ?_
          refine own_goto X104 hx (hb hby d4_48) (by decide) (pc' := 52) (by decide) ?_
          obtain ⟨T105, h105, X105, e105, W105, st105⟩ := putF X104 hx hZ hown (host := "") (Or.inl (hw _ (List.mem_of_getElem? (i := 20) rfl))) Via.refl e104 FJ EJ (Or.inl (hw _ (List.mem_of_getElem? (i := 21) rfl))) (hw _ (List.mem_of_getElem? (i := 7) rfl)) (ty := .boolean) (by decide) rfl rfl (g := (mkF m 52 #[.val (.ref a1), .val (.ref a2), .val (.int st.toInt32), .val (.int en.toInt32), .val (.int w.toInt32), .val (.int i.toInt32), .val (.int cv), .val (.int (0 : Int32)), s8] [(.int (1 : Int32)), (.ref a1)])) rfl rfl (hb hby d4_52)
          have N105 := Fr.snoc X105 NJ g1
          refine Goes.pre st105 ?_
          show Goes p e below s 0 0 (Q_7 Z a1 a2 vs af lf st en h0 n0) T105 (mkF m 55 #[.val (.ref a1), .val (.ref a2), .val (.int st.toInt32), .val (.int en.toInt32), .val (.int w.toInt32), .val (.int i.toInt32), .val (.int cv), .val (.int (0 : Int32)), s8] [])
          have F105_a1_afterReturn := FJ.same W105
          have F105_a1_lineFeeds := GJ.other W105 (Or.inr (slot_ne (Or.inl (hw _ (List.mem_of_getElem? (i := 23) rfl))) (Or.inl (hw _ (List.mem_of_getElem? (i := 21) rfl))) (by decide) (t := .long) (t' := .boolean) (by decide) (by decide)))
          have E105_a1 := EJ.wr W105
          have K105 := Keep.wr KJ W105 (Or.inl (List.mem_of_getElem? (i := 0) rfl))
          have P105 := PJ.other W105 (Ne.symm ne)
          refine own_iload (pc' := 57) X105 hx (hb hby d4_55) rfl rfl ?_
          refine own_ifN (pc' := 60) X105 hx (hb hby d4_57) (by decide) rfl ?_
          refine own_aloadN (pc' := 61) X105 hx (hb hby d4_60) rfl rfl rfl ?_
          obtain ⟨T106, X106, e106, st106⟩ := getF X105 hx hZ hown (host := "") (Or.inl (hw _ (List.mem_of_getElem? (i := 20) rfl))) Via.refl e105 F105_a1_afterReturn (g := (mkF m 61 #[.val (.ref a1), .val (.ref a2), .val (.int st.toInt32), .val (.int en.toInt32), .val (.int w.toInt32), .val (.int i.toInt32), .val (.int cv), .val (.int (0 : Int32)), s8] [(.ref a1)])) rfl rfl (hb hby d4_61)
          refine Goes.pre st106 ?_
          show Goes p e below s 0 0 (Q_7 Z a1 a2 vs af lf st en h0 n0) T106 (mkF m 64 #[.val (.ref a1), .val (.ref a2), .val (.int st.toInt32), .val (.int en.toInt32), .val (.int w.toInt32), .val (.int i.toInt32), .val (.int cv), .val (.int (0 : Int32)), s8] [(.int (1 : Int32))])
          refine own_ifN (pc' := 67) X106 hx (hb hby d4_64) (by decide) rfl ?_
          refine own_bipush (pc' := 69) X106 hx (hb hby d4_67) (v := (10 : Int32)) rfl rfl ?_
          refine own_goto X106 hx (hb hby d4_69) (by decide) (pc' := 74) (by decide) ?_
          refine own_istoreS (pc' := 76) X106 hx (hb hby d4_74) rfl o8 (Ls' := #[.val (.ref a1), .val (.ref a2), .val (.int st.toInt32), .val (.int en.toInt32), .val (.int w.toInt32), .val (.int i.toInt32), .val (.int cv), .val (.int (0 : Int32)), .val (.int (10 : Int32))]) rfl rfl ?_
          refine own_aloadN (pc' := 77) X106 hx (hb hby d4_76) rfl rfl rfl ?_
          refine own_dup (pc' := 78) X106 hx (hb hby d4_77) rfl rfl ?_
          obtain ⟨T107, X107, e107, st107⟩ := getF X106 hx hZ hown (host := "") (Or.inl (hw _ (List.mem_of_getElem? (i := 22) rfl))) Via.refl e106 F105_a1_lineFeeds (g := (mkF m 78 #[.val (.ref a1), .val (.ref a2), .val (.int st.toInt32), .val (.int en.toInt32), .val (.int w.toInt32), .val (.int i.toInt32), .val (.int cv), .val (.int (0 : Int32)), .val (.int (10 : Int32))] [(.ref a1), (.ref a1)])) rfl rfl (hb hby d4_78)
          refine Goes.pre st107 ?_
          show Goes p e below s 0 0 (Q_7 Z a1 a2 vs af lf st en h0 n0) T107 (mkF m 81 #[.val (.ref a1), .val (.ref a2), .val (.int st.toInt32), .val (.int en.toInt32), .val (.int w.toInt32), .val (.int i.toInt32), .val (.int cv), .val (.int (0 : Int32)), .val (.int (10 : Int32))] [(.long fl), (.ref a1)])
          refine own_iload (pc' := 83) X107 hx (hb hby d4_81) rfl rfl ?_
          refine own_bipush (pc' := 85) X107 hx (hb hby d4_83) (v := (10 : Int32)) rfl rfl ?_
          refine own_icmpN (pc' := 88) X107 hx (hb hby d4_85) (by decide) rfl ?_
          refine own_lconst (pc' := 89) X107 hx (hb hby d4_88) (v := (1 : Int64)) rfl rfl ?_
          refine own_goto X107 hx (hb hby d4_89) (by decide) (pc' := 93) (by decide) ?_
          refine own_ladd (pc' := 94) X107 hx (hb hby d4_93) rfl ?_
          obtain ⟨T108, h108, X108, e108, W108, st108⟩ := putF X107 hx hZ hown (host := "") (Or.inl (hw _ (List.mem_of_getElem? (i := 22) rfl))) Via.refl e107 F105_a1_lineFeeds E105_a1 (Or.inl (hw _ (List.mem_of_getElem? (i := 23) rfl))) (hw _ (List.mem_of_getElem? (i := 7) rfl)) (ty := .long) (by decide) rfl rfl (g := (mkF m 94 #[.val (.ref a1), .val (.ref a2), .val (.int st.toInt32), .val (.int en.toInt32), .val (.int w.toInt32), .val (.int i.toInt32), .val (.int cv), .val (.int (0 : Int32)), .val (.int (10 : Int32))] [(.long (fl + (1 : Int64))), (.ref a1)])) rfl rfl (hb hby d4_94)
          have N108 := Fr.snoc X108 N105 g1
          refine Goes.pre st108 ?_
          show Goes p e below s 0 0 (Q_7 Z a1 a2 vs af lf st en h0 n0) T108 (mkF m 97 #[.val (.ref a1), .val (.ref a2), .val (.int st.toInt32), .val (.int en.toInt32), .val (.int w.toInt32), .val (.int i.toInt32), .val (.int cv), .val (.int (0 : Int32)), .val (.int (10 : Int32))] [])
          have F108_a1_afterReturn := F105_a1_afterReturn.other W108 (Or.inr (slot_ne (Or.inl (hw _ (List.mem_of_getElem? (i := 21) rfl))) (Or.inl (hw _ (List.mem_of_getElem? (i := 23) rfl))) (by decide) (t := .boolean) (t' := .long) (by decide) (by decide)))
          have F108_a1_lineFeeds := F105_a1_lineFeeds.same W108
          have E108_a1 := E105_a1.wr W108
          have K108 := Keep.wr K105 W108 (Or.inl (List.mem_of_getElem? (i := 0) rfl))
          have P108 := P105.other W108 (Ne.symm ne)
          refine own_aloadN (pc' := 98) X108 hx (hb hby d4_97) rfl rfl rfl ?_
          refine own_iload (pc' := 100) X108 hx (hb hby d4_98) rfl rfl ?_
          refine own_iinc (pc' := 103) X108 hx (hb hby d4_100) rfl (y := (w + 1).toInt32) (own_i1 w) (Ls' := #[.val (.ref a1), .val (.ref a2), .val (.int st.toInt32), .val (.int en.toInt32), .val (.int (w + 1).toInt32), .val (.int i.toInt32), .val (.int cv), .val (.int (0 : Int32)), .val (.int (10 : Int32))]) rfl rfl ?_
          refine own_iload (pc' := 105) X108 hx (hb hby d4_103) rfl rfl ?_
          refine own_castore (pc' := 106) X108 hx hZ e108 P108 (hb hby d4_105) (own_nar own_C10) (own_nn (by omega)) (own_nc (by omega)) (by omega) rfl ?_
          intro T109 h109 X109 e109 W109 P109
          have N109 := Fr.snoc X109 N108 g2
          have F109_afterReturn := F108_a1_afterReturn.other W109 (Or.inl ne)
          have F109_lineFeeds := F108_a1_lineFeeds.other W109 (Or.inl ne)
          have E109 := E108_a1.wr W109
          have K109 := Keep.wr K108 W109 (Or.inl (List.mem_of_getElem? (i := 1) rfl))
          show Goes p e below s 0 0 (Q_7 Z a1 a2 vs af lf st en h0 n0) T109 (mkF m 106 #[.val (.ref a1), .val (.ref a2), .val (.int st.toInt32), .val (.int en.toInt32), .val (.int (w + 1).toInt32), .val (.int i.toInt32), .val (.int cv), .val (.int (0 : Int32)), .val (.int (10 : Int32))] [])
          refine own_iinc (pc' := 109) X109 hx (hb hby d4_106) rfl (y := (i + 1).toInt32) (own_i1 i) (Ls' := #[.val (.ref a1), .val (.ref a2), .val (.int st.toInt32), .val (.int en.toInt32), .val (.int (w + 1).toInt32), .val (.int (i + 1).toInt32), .val (.int cv), .val (.int (0 : Int32)), .val (.int (10 : Int32))]) rfl rfl ?_
          refine own_goto X109 hx (hb hby d4_109) (by decide) (pc' := 6) (by decide) ?_
          exact ih (i + 1) (w + 1) _ _ _ (by omega) (by omega) (by rw [List.length_set]; exact hul) (own_mem_set hCu own_C10) ((own_nlK hcv (fun q => q.1 hc22) (by simp [own_af, hc44]) (by simp [own_out, hc44]) (by simp [own_l1])).symm.trans hres) _ _ _ _ _ _ (One.val rfl) (One.val rfl) (One.val rfl) X109 e109 N109 K109 E109 F109_afterReturn F109_lineFeeds P109
        · refine own_icmpY X104 hx (hb hby d4_44) (feq hc44).2 (by decide) (pc' := 51) (by decide) ?_
          refine own_iconst (pc' := 52) X104 hx (hb hby d4_51) (v := (0 : Int32)) rfl rfl ?_
          obtain ⟨T110, h110, X110, e110, W110, st110⟩ := putF X104 hx hZ hown (host := "") (Or.inl (hw _ (List.mem_of_getElem? (i := 20) rfl))) Via.refl e104 FJ EJ (Or.inl (hw _ (List.mem_of_getElem? (i := 21) rfl))) (hw _ (List.mem_of_getElem? (i := 7) rfl)) (ty := .boolean) (by decide) rfl rfl (g := (mkF m 52 #[.val (.ref a1), .val (.ref a2), .val (.int st.toInt32), .val (.int en.toInt32), .val (.int w.toInt32), .val (.int i.toInt32), .val (.int cv), .val (.int (0 : Int32)), s8] [(.int (0 : Int32)), (.ref a1)])) rfl rfl (hb hby d4_52)
          have N110 := Fr.snoc X110 NJ g1
          refine Goes.pre st110 ?_
          show Goes p e below s 0 0 (Q_7 Z a1 a2 vs af lf st en h0 n0) T110 (mkF m 55 #[.val (.ref a1), .val (.ref a2), .val (.int st.toInt32), .val (.int en.toInt32), .val (.int w.toInt32), .val (.int i.toInt32), .val (.int cv), .val (.int (0 : Int32)), s8] [])
          have F110_a1_afterReturn := FJ.same W110
          have F110_a1_lineFeeds := GJ.other W110 (Or.inr (slot_ne (Or.inl (hw _ (List.mem_of_getElem? (i := 23) rfl))) (Or.inl (hw _ (List.mem_of_getElem? (i := 21) rfl))) (by decide) (t := .long) (t' := .boolean) (by decide) (by decide)))
          have E110_a1 := EJ.wr W110
          have K110 := Keep.wr KJ W110 (Or.inl (List.mem_of_getElem? (i := 0) rfl))
          have P110 := PJ.other W110 (Ne.symm ne)
          refine own_iload (pc' := 57) X110 hx (hb hby d4_55) rfl rfl ?_
          refine own_ifN (pc' := 60) X110 hx (hb hby d4_57) (by decide) rfl ?_
          refine own_aloadN (pc' := 61) X110 hx (hb hby d4_60) rfl rfl rfl ?_
          obtain ⟨T111, X111, e111, st111⟩ := getF X110 hx hZ hown (host := "") (Or.inl (hw _ (List.mem_of_getElem? (i := 20) rfl))) Via.refl e110 F110_a1_afterReturn (g := (mkF m 61 #[.val (.ref a1), .val (.ref a2), .val (.int st.toInt32), .val (.int en.toInt32), .val (.int w.toInt32), .val (.int i.toInt32), .val (.int cv), .val (.int (0 : Int32)), s8] [(.ref a1)])) rfl rfl (hb hby d4_61)
          refine Goes.pre st111 ?_
          show Goes p e below s 0 0 (Q_7 Z a1 a2 vs af lf st en h0 n0) T111 (mkF m 64 #[.val (.ref a1), .val (.ref a2), .val (.int st.toInt32), .val (.int en.toInt32), .val (.int w.toInt32), .val (.int i.toInt32), .val (.int cv), .val (.int (0 : Int32)), s8] [(.int (0 : Int32))])
          refine own_ifY X111 hx (hb hby d4_64) (by decide) (by decide) (pc' := 72) (by decide) ?_
          refine own_iload (pc' := 74) X111 hx (hb hby d4_72) rfl rfl ?_
          refine own_istoreS (pc' := 76) X111 hx (hb hby d4_74) rfl o8 (Ls' := #[.val (.ref a1), .val (.ref a2), .val (.int st.toInt32), .val (.int en.toInt32), .val (.int w.toInt32), .val (.int i.toInt32), .val (.int cv), .val (.int (0 : Int32)), .val (.int cv)]) rfl rfl ?_
          refine own_aloadN (pc' := 77) X111 hx (hb hby d4_76) rfl rfl rfl ?_
          refine own_dup (pc' := 78) X111 hx (hb hby d4_77) rfl rfl ?_
          obtain ⟨T112, X112, e112, st112⟩ := getF X111 hx hZ hown (host := "") (Or.inl (hw _ (List.mem_of_getElem? (i := 22) rfl))) Via.refl e111 F110_a1_lineFeeds (g := (mkF m 78 #[.val (.ref a1), .val (.ref a2), .val (.int st.toInt32), .val (.int en.toInt32), .val (.int w.toInt32), .val (.int i.toInt32), .val (.int cv), .val (.int (0 : Int32)), .val (.int cv)] [(.ref a1), (.ref a1)])) rfl rfl (hb hby d4_78)
          refine Goes.pre st112 ?_
          show Goes p e below s 0 0 (Q_7 Z a1 a2 vs af lf st en h0 n0) T112 (mkF m 81 #[.val (.ref a1), .val (.ref a2), .val (.int st.toInt32), .val (.int en.toInt32), .val (.int w.toInt32), .val (.int i.toInt32), .val (.int cv), .val (.int (0 : Int32)), .val (.int cv)] [(.long fl), (.ref a1)])
          refine own_iload (pc' := 83) X112 hx (hb hby d4_81) rfl rfl ?_
          refine own_bipush (pc' := 85) X112 hx (hb hby d4_83) (v := (10 : Int32)) rfl rfl ?_
          by_cases hc85 : cv = (10 : Int32)
          · refine own_icmpN (pc' := 88) X112 hx (hb hby d4_85) (teq hc85).2 rfl ?_
            refine own_lconst (pc' := 89) X112 hx (hb hby d4_88) (v := (1 : Int64)) rfl rfl ?_
            refine own_goto X112 hx (hb hby d4_89) (by decide) (pc' := 93) (by decide) ?_
            refine own_ladd (pc' := 94) X112 hx (hb hby d4_93) rfl ?_
            obtain ⟨T113, h113, X113, e113, W113, st113⟩ := putF X112 hx hZ hown (host := "") (Or.inl (hw _ (List.mem_of_getElem? (i := 22) rfl))) Via.refl e112 F110_a1_lineFeeds E110_a1 (Or.inl (hw _ (List.mem_of_getElem? (i := 23) rfl))) (hw _ (List.mem_of_getElem? (i := 7) rfl)) (ty := .long) (by decide) rfl rfl (g := (mkF m 94 #[.val (.ref a1), .val (.ref a2), .val (.int st.toInt32), .val (.int en.toInt32), .val (.int w.toInt32), .val (.int i.toInt32), .val (.int cv), .val (.int (0 : Int32)), .val (.int cv)] [(.long (fl + (1 : Int64))), (.ref a1)])) rfl rfl (hb hby d4_94)
            have N113 := Fr.snoc X113 N110 g1
            refine Goes.pre st113 ?_
            show Goes p e below s 0 0 (Q_7 Z a1 a2 vs af lf st en h0 n0) T113 (mkF m 97 #[.val (.ref a1), .val (.ref a2), .val (.int st.toInt32), .val (.int en.toInt32), .val (.int w.toInt32), .val (.int i.toInt32), .val (.int cv), .val (.int (0 : Int32)), .val (.int cv)] [])
            have F113_a1_afterReturn := F110_a1_afterReturn.other W113 (Or.inr (slot_ne (Or.inl (hw _ (List.mem_of_getElem? (i := 21) rfl))) (Or.inl (hw _ (List.mem_of_getElem? (i := 23) rfl))) (by decide) (t := .boolean) (t' := .long) (by decide) (by decide)))
            have F113_a1_lineFeeds := F110_a1_lineFeeds.same W113
            have E113_a1 := E110_a1.wr W113
            have K113 := Keep.wr K110 W113 (Or.inl (List.mem_of_getElem? (i := 0) rfl))
            have P113 := P110.other W113 (Ne.symm ne)
            refine own_aloadN (pc' := 98) X113 hx (hb hby d4_97) rfl rfl rfl ?_
            refine own_iload (pc' := 100) X113 hx (hb hby d4_98) rfl rfl ?_
            refine own_iinc (pc' := 103) X113 hx (hb hby d4_100) rfl (y := (w + 1).toInt32) (own_i1 w) (Ls' := #[.val (.ref a1), .val (.ref a2), .val (.int st.toInt32), .val (.int en.toInt32), .val (.int (w + 1).toInt32), .val (.int i.toInt32), .val (.int cv), .val (.int (0 : Int32)), .val (.int cv)]) rfl rfl ?_
            refine own_iload (pc' := 105) X113 hx (hb hby d4_103) rfl rfl ?_
            refine own_castore (pc' := 106) X113 hx hZ e113 P113 (hb hby d4_105) (own_nar hCv) (own_nn (by omega)) (own_nc (by omega)) (by omega) rfl ?_
            intro T114 h114 X114 e114 W114 P114
            have N114 := Fr.snoc X114 N113 g2
            have F114_afterReturn := F113_a1_afterReturn.other W114 (Or.inl ne)
            have F114_lineFeeds := F113_a1_lineFeeds.other W114 (Or.inl ne)
            have E114 := E113_a1.wr W114
            have K114 := Keep.wr K113 W114 (Or.inl (List.mem_of_getElem? (i := 1) rfl))
            show Goes p e below s 0 0 (Q_7 Z a1 a2 vs af lf st en h0 n0) T114 (mkF m 106 #[.val (.ref a1), .val (.ref a2), .val (.int st.toInt32), .val (.int en.toInt32), .val (.int (w + 1).toInt32), .val (.int i.toInt32), .val (.int cv), .val (.int (0 : Int32)), .val (.int cv)] [])
            refine own_iinc (pc' := 109) X114 hx (hb hby d4_106) rfl (y := (i + 1).toInt32) (own_i1 i) (Ls' := #[.val (.ref a1), .val (.ref a2), .val (.int st.toInt32), .val (.int en.toInt32), .val (.int (w + 1).toInt32), .val (.int (i + 1).toInt32), .val (.int cv), .val (.int (0 : Int32)), .val (.int cv)]) rfl rfl ?_
            refine own_goto X114 hx (hb hby d4_109) (by decide) (pc' := 6) (by decide) ?_
            exact ih (i + 1) (w + 1) _ _ _ (by omega) (by omega) (by rw [List.length_set]; exact hul) (own_mem_set hCu hCv) ((own_nlK hcv (fun q => q.1 hc22) (by simp [own_af, hc44]) (by simp [own_out, hc44]) (by simp [own_l1, hc85])).symm.trans hres) _ _ _ _ _ _ (One.val rfl) (One.val rfl) (One.val rfl) X114 e114 N114 K114 E114 F114_afterReturn F114_lineFeeds P114
          · refine own_icmpY X112 hx (hb hby d4_85) (feq hc85).2 (by decide) (pc' := 92) (by decide) ?_
            refine own_lconst (pc' := 93) X112 hx (hb hby d4_92) (v := (0 : Int64)) rfl rfl ?_
            refine own_ladd (pc' := 94) X112 hx (hb hby d4_93) rfl ?_
            obtain ⟨T115, h115, X115, e115, W115, st115⟩ := putF X112 hx hZ hown (host := "") (Or.inl (hw _ (List.mem_of_getElem? (i := 22) rfl))) Via.refl e112 F110_a1_lineFeeds E110_a1 (Or.inl (hw _ (List.mem_of_getElem? (i := 23) rfl))) (hw _ (List.mem_of_getElem? (i := 7) rfl)) (ty := .long) (by decide) rfl rfl (g := (mkF m 94 #[.val (.ref a1), .val (.ref a2), .val (.int st.toInt32), .val (.int en.toInt32), .val (.int w.toInt32), .val (.int i.toInt32), .val (.int cv), .val (.int (0 : Int32)), .val (.int cv)] [(.long (fl + (0 : Int64))), (.ref a1)])) rfl rfl (hb hby d4_94)
            have N115 := Fr.snoc X115 N110 g1
            refine Goes.pre st115 ?_
            show Goes p e below s 0 0 (Q_7 Z a1 a2 vs af lf st en h0 n0) T115 (mkF m 97 #[.val (.ref a1), .val (.ref a2), .val (.int st.toInt32), .val (.int en.toInt32), .val (.int w.toInt32), .val (.int i.toInt32), .val (.int cv), .val (.int (0 : Int32)), .val (.int cv)] [])
            have F115_a1_afterReturn := F110_a1_afterReturn.other W115 (Or.inr (slot_ne (Or.inl (hw _ (List.mem_of_getElem? (i := 21) rfl))) (Or.inl (hw _ (List.mem_of_getElem? (i := 23) rfl))) (by decide) (t := .boolean) (t' := .long) (by decide) (by decide)))
            have F115_a1_lineFeeds := F110_a1_lineFeeds.same W115
            have E115_a1 := E110_a1.wr W115
            have K115 := Keep.wr K110 W115 (Or.inl (List.mem_of_getElem? (i := 0) rfl))
            have P115 := P110.other W115 (Ne.symm ne)
            refine own_aloadN (pc' := 98) X115 hx (hb hby d4_97) rfl rfl rfl ?_
            refine own_iload (pc' := 100) X115 hx (hb hby d4_98) rfl rfl ?_
            refine own_iinc (pc' := 103) X115 hx (hb hby d4_100) rfl (y := (w + 1).toInt32) (own_i1 w) (Ls' := #[.val (.ref a1), .val (.ref a2), .val (.int st.toInt32), .val (.int en.toInt32), .val (.int (w + 1).toInt32), .val (.int i.toInt32), .val (.int cv), .val (.int (0 : Int32)), .val (.int cv)]) rfl rfl ?_
            refine own_iload (pc' := 105) X115 hx (hb hby d4_103) rfl rfl ?_
            refine own_castore (pc' := 106) X115 hx hZ e115 P115 (hb hby d4_105) (own_nar hCv) (own_nn (by omega)) (own_nc (by omega)) (by omega) rfl ?_
            intro T116 h116 X116 e116 W116 P116
            have N116 := Fr.snoc X116 N115 g2
            have F116_afterReturn := F115_a1_afterReturn.other W116 (Or.inl ne)
            have F116_lineFeeds := F115_a1_lineFeeds.other W116 (Or.inl ne)
            have E116 := E115_a1.wr W116
            have K116 := Keep.wr K115 W116 (Or.inl (List.mem_of_getElem? (i := 1) rfl))
            show Goes p e below s 0 0 (Q_7 Z a1 a2 vs af lf st en h0 n0) T116 (mkF m 106 #[.val (.ref a1), .val (.ref a2), .val (.int st.toInt32), .val (.int en.toInt32), .val (.int (w + 1).toInt32), .val (.int i.toInt32), .val (.int cv), .val (.int (0 : Int32)), .val (.int cv)] [])
            refine own_iinc (pc' := 109) X116 hx (hb hby d4_106) rfl (y := (i + 1).toInt32) (own_i1 i) (Ls' := #[.val (.ref a1), .val (.ref a2), .val (.int st.toInt32), .val (.int en.toInt32), .val (.int (w + 1).toInt32), .val (.int (i + 1).toInt32), .val (.int cv), .val (.int (0 : Int32)), .val (.int cv)]) rfl rfl ?_
            refine own_goto X116 hx (hb hby d4_109) (by decide) (pc' := 6) (by decide) ?_
            exact ih (i + 1) (w + 1) _ _ _ (by omega) (by omega) (by rw [List.length_set]; exact hul) (own_mem_set hCu hCv) ((own_nlK hcv (fun q => q.1 hc22) (by simp [own_af, hc44]) (by simp [own_out, hc44]) (by simp [own_l1, hc85])).symm.trans hres) _ _ _ _ _ _ (One.val rfl) (One.val rfl) (One.val rfl) X116 e116 N116 K116 E116 F116_afterReturn F116_lineFeeds P116
      · refine own_ifN (pc' := 25) X104 hx (hb hby d4_22) ((if0 _ _).trans (feq hc22).1) rfl ?_
        refine own_iload (pc' := 27) X104 hx (hb hby d4_25) rfl rfl ?_
        refine own_bipush (pc' := 29) X104 hx (hb hby d4_27) (v := (10 : Int32)) rfl rfl ?_
        by_cases hc29 : cv = (10 : Int32)
        · refine own_icmpN (pc' := 32) X104 hx (hb hby d4_29) (teq hc29).2 rfl ?_
          refine own_iconst (pc' := 33) X104 hx (hb hby d4_32) (v := (1 : Int32)) rfl rfl ?_
          refine own_goto X104 hx (hb hby d4_33) (by decide) (pc' := 37) (by decide) ?_
          refine own_istoreS (pc' := 39) X104 hx (hb hby d4_37) rfl o7 (Ls' := #[.val (.ref a1), .val (.ref a2), .val (.int st.toInt32), .val (.int en.toInt32), .val (.int w.toInt32), .val (.int i.toInt32), .val (.int cv), .val (.int (1 : Int32)), s8]) rfl rfl ?_
          refine own_aloadN (pc' := 40) X104 hx (hb hby d4_39) rfl rfl rfl ?_
          refine own_iload (pc' := 42) X104 hx (hb hby d4_40) rfl rfl ?_
          refine own_bipush (pc' := 44) X104 hx (hb hby d4_42) (v := (13 : Int32)) rfl rfl ?_
          by_cases hc44 : cv = (13 : Int32)
          · refine own_icmpN (pc' := 47) X104 hx (hb hby d4_44) (teq hc44).2 rfl ?_
            refine own_iconst (pc' := 48) X104 hx (hb hby d4_47) (v := (1 : Int32)) rfl rfl ?_
            refine own_goto X104 hx (hb hby d4_48) (by decide) (pc' := 52) (by decide) ?_
            obtain ⟨T117, h117, X117, e117, W117, st117⟩ := putF X104 hx hZ hown (host := "") (Or.inl (hw _ (List.mem_of_getElem? (i := 20) rfl))) Via.refl e104 FJ EJ (Or.inl (hw _ (List.mem_of_getElem? (i := 21) rfl))) (hw _ (List.mem_of_getElem? (i := 7) rfl)) (ty := .boolean) (by decide) rfl rfl (g := (mkF m 52 #[.val (.ref a1), .val (.ref a2), .val (.int st.toInt32), .val (.int en.toInt32), .val (.int w.toInt32), .val (.int i.toInt32), .val (.int cv), .val (.int (1 : Int32)), s8] [(.int (1 : Int32)), (.ref a1)])) rfl rfl (hb hby d4_52)
            have N117 := Fr.snoc X117 NJ g1
            refine Goes.pre st117 ?_
            show Goes p e below s 0 0 (Q_7 Z a1 a2 vs af lf st en h0 n0) T117 (mkF m 55 #[.val (.ref a1), .val (.ref a2), .val (.int st.toInt32), .val (.int en.toInt32), .val (.int w.toInt32), .val (.int i.toInt32), .val (.int cv), .val (.int (1 : Int32)), s8] [])
            have F117_a1_afterReturn := FJ.same W117
            have F117_a1_lineFeeds := GJ.other W117 (Or.inr (slot_ne (Or.inl (hw _ (List.mem_of_getElem? (i := 23) rfl))) (Or.inl (hw _ (List.mem_of_getElem? (i := 21) rfl))) (by decide) (t := .long) (t' := .boolean) (by decide) (by decide)))
            have E117_a1 := EJ.wr W117
            have K117 := Keep.wr KJ W117 (Or.inl (List.mem_of_getElem? (i := 0) rfl))
            have P117 := PJ.other W117 (Ne.symm ne)
            refine own_iload (pc' := 57) X117 hx (hb hby d4_55) rfl rfl ?_
            refine own_ifY X117 hx (hb hby d4_57) (by decide) (by decide) (pc' := 106) (by decide) ?_
            refine own_iinc (pc' := 109) X117 hx (hb hby d4_106) rfl (y := (i + 1).toInt32) (own_i1 i) (Ls' := #[.val (.ref a1), .val (.ref a2), .val (.int st.toInt32), .val (.int en.toInt32), .val (.int w.toInt32), .val (.int (i + 1).toInt32), .val (.int cv), .val (.int (1 : Int32)), s8]) rfl rfl ?_
            refine own_goto X117 hx (hb hby d4_109) (by decide) (pc' := 6) (by decide) ?_
            exact ih (i + 1) w _ _ _ (by omega) (by omega) hul hCu ((own_nlS hcv hc22 hc29 (by simp [own_af, hc44])).symm.trans hres) _ _ _ _ _ _ (One.val rfl) (One.val rfl) o8 X117 e117 N117 K117 E117_a1 F117_a1_afterReturn F117_a1_lineFeeds P117
          · refine own_icmpY X104 hx (hb hby d4_44) (feq hc44).2 (by decide) (pc' := 51) (by decide) ?_
            refine own_iconst (pc' := 52) X104 hx (hb hby d4_51) (v := (0 : Int32)) rfl rfl ?_
            obtain ⟨T118, h118, X118, e118, W118, st118⟩ := putF X104 hx hZ hown (host := "") (Or.inl (hw _ (List.mem_of_getElem? (i := 20) rfl))) Via.refl e104 FJ EJ (Or.inl (hw _ (List.mem_of_getElem? (i := 21) rfl))) (hw _ (List.mem_of_getElem? (i := 7) rfl)) (ty := .boolean) (by decide) rfl rfl (g := (mkF m 52 #[.val (.ref a1), .val (.ref a2), .val (.int st.toInt32), .val (.int en.toInt32), .val (.int w.toInt32), .val (.int i.toInt32), .val (.int cv), .val (.int (1 : Int32)), s8] [(.int (0 : Int32)), (.ref a1)])) rfl rfl (hb hby d4_52)
            have N118 := Fr.snoc X118 NJ g1
            refine Goes.pre st118 ?_
            show Goes p e below s 0 0 (Q_7 Z a1 a2 vs af lf st en h0 n0) T118 (mkF m 55 #[.val (.ref a1), .val (.ref a2), .val (.int st.toInt32), .val (.int en.toInt32), .val (.int w.toInt32), .val (.int i.toInt32), .val (.int cv), .val (.int (1 : Int32)), s8] [])
            have F118_a1_afterReturn := FJ.same W118
            have F118_a1_lineFeeds := GJ.other W118 (Or.inr (slot_ne (Or.inl (hw _ (List.mem_of_getElem? (i := 23) rfl))) (Or.inl (hw _ (List.mem_of_getElem? (i := 21) rfl))) (by decide) (t := .long) (t' := .boolean) (by decide) (by decide)))
            have E118_a1 := EJ.wr W118
            have K118 := Keep.wr KJ W118 (Or.inl (List.mem_of_getElem? (i := 0) rfl))
            have P118 := PJ.other W118 (Ne.symm ne)
            refine own_iload (pc' := 57) X118 hx (hb hby d4_55) rfl rfl ?_
            refine own_ifY X118 hx (hb hby d4_57) (by decide) (by decide) (pc' := 106) (by decide) ?_
            refine own_iinc (pc' := 109) X118 hx (hb hby d4_106) rfl (y := (i + 1).toInt32) (own_i1 i) (Ls' := #[.val (.ref a1), .val (.ref a2), .val (.int st.toInt32), .val (.int en.toInt32), .val (.int w.toInt32), .val (.int (i + 1).toInt32), .val (.int cv), .val (.int (1 : Int32)), s8]) rfl rfl ?_
            refine own_goto X118 hx (hb hby d4_109) (by decide) (pc' := 6) (by decide) ?_
            exact ih (i + 1) w _ _ _ (by omega) (by omega) hul hCu ((own_nlS hcv hc22 hc29 (by simp [own_af, hc44])).symm.trans hres) _ _ _ _ _ _ (One.val rfl) (One.val rfl) o8 X118 e118 N118 K118 E118_a1 F118_a1_afterReturn F118_a1_lineFeeds P118
        · refine own_icmpY X104 hx (hb hby d4_29) (feq hc29).2 (by decide) (pc' := 36) (by decide) ?_
          refine own_iconst (pc' := 37) X104 hx (hb hby d4_36) (v := (0 : Int32)) rfl rfl ?_
          refine own_istoreS (pc' := 39) X104 hx (hb hby d4_37) rfl o7 (Ls' := #[.val (.ref a1), .val (.ref a2), .val (.int st.toInt32), .val (.int en.toInt32), .val (.int w.toInt32), .val (.int i.toInt32), .val (.int cv), .val (.int (0 : Int32)), s8]) rfl rfl ?_
          refine own_aloadN (pc' := 40) X104 hx (hb hby d4_39) rfl rfl rfl ?_
          refine own_iload (pc' := 42) X104 hx (hb hby d4_40) rfl rfl ?_
          refine own_bipush (pc' := 44) X104 hx (hb hby d4_42) (v := (13 : Int32)) rfl rfl ?_
          by_cases hc44 : cv = (13 : Int32)
          · refine own_icmpN (pc' := 47) X104 hx (hb hby d4_44) (teq hc44).2 rfl ?_
            refine own_iconst (pc' := 48) X104 hx (hb hby d4_47) (v := (1 : Int32)) rfl rfl ?_
            refine own_goto X104 hx (hb hby d4_48) (by decide) (pc' := 52) (by decide) ?_
            obtain ⟨T119, h119, X119, e119, W119, st119⟩ := putF X104 hx hZ hown (host := "") (Or.inl (hw _ (List.mem_of_getElem? (i := 20) rfl))) Via.refl e104 FJ EJ (Or.inl (hw _ (List.mem_of_getElem? (i := 21) rfl))) (hw _ (List.mem_of_getElem? (i := 7) rfl)) (ty := .boolean) (by decide) rfl rfl (g := (mkF m 52 #[.val (.ref a1), .val (.ref a2), .val (.int st.toInt32), .val (.int en.toInt32), .val (.int w.toInt32), .val (.int i.toInt32), .val (.int cv), .val (.int (0 : Int32)), s8] [(.int (1 : Int32)), (.ref a1)])) rfl rfl (hb hby d4_52)
            have N119 := Fr.snoc X119 NJ g1
            refine Goes.pre st119 ?_
            show Goes p e below s 0 0 (Q_7 Z a1 a2 vs af lf st en h0 n0) T119 (mkF m 55 #[.val (.ref a1), .val (.ref a2), .val (.int st.toInt32), .val (.int en.toInt32), .val (.int w.toInt32), .val (.int i.toInt32), .val (.int cv), .val (.int (0 : Int32)), s8] [])
            have F119_a1_afterReturn := FJ.same W119
            have F119_a1_lineFeeds := GJ.other W119 (Or.inr (slot_ne (Or.inl (hw _ (List.mem_of_getElem? (i := 23) rfl))) (Or.inl (hw _ (List.mem_of_getElem? (i := 21) rfl))) (by decide) (t := .long) (t' := .boolean) (by decide) (by decide)))
            have E119_a1 := EJ.wr W119
            have K119 := Keep.wr KJ W119 (Or.inl (List.mem_of_getElem? (i := 0) rfl))
            have P119 := PJ.other W119 (Ne.symm ne)
            refine own_iload (pc' := 57) X119 hx (hb hby d4_55) rfl rfl ?_
            refine own_ifN (pc' := 60) X119 hx (hb hby d4_57) (by decide) rfl ?_
            refine own_aloadN (pc' := 61) X119 hx (hb hby d4_60) rfl rfl rfl ?_
            obtain ⟨T120, X120, e120, st120⟩ := getF X119 hx hZ hown (host := "") (Or.inl (hw _ (List.mem_of_getElem? (i := 20) rfl))) Via.refl e119 F119_a1_afterReturn (g := (mkF m 61 #[.val (.ref a1), .val (.ref a2), .val (.int st.toInt32), .val (.int en.toInt32), .val (.int w.toInt32), .val (.int i.toInt32), .val (.int cv), .val (.int (0 : Int32)), s8] [(.ref a1)])) rfl rfl (hb hby d4_61)
            refine Goes.pre st120 ?_
            show Goes p e below s 0 0 (Q_7 Z a1 a2 vs af lf st en h0 n0) T120 (mkF m 64 #[.val (.ref a1), .val (.ref a2), .val (.int st.toInt32), .val (.int en.toInt32), .val (.int w.toInt32), .val (.int i.toInt32), .val (.int cv), .val (.int (0 : Int32)), s8] [(.int (1 : Int32))])
            refine own_ifN (pc' := 67) X120 hx (hb hby d4_64) (by decide) rfl ?_
            refine own_bipush (pc' := 69) X120 hx (hb hby d4_67) (v := (10 : Int32)) rfl rfl ?_
            refine own_goto X120 hx (hb hby d4_69) (by decide) (pc' := 74) (by decide) ?_
            refine own_istoreS (pc' := 76) X120 hx (hb hby d4_74) rfl o8 (Ls' := #[.val (.ref a1), .val (.ref a2), .val (.int st.toInt32), .val (.int en.toInt32), .val (.int w.toInt32), .val (.int i.toInt32), .val (.int cv), .val (.int (0 : Int32)), .val (.int (10 : Int32))]) rfl rfl ?_
            refine own_aloadN (pc' := 77) X120 hx (hb hby d4_76) rfl rfl rfl ?_
            refine own_dup (pc' := 78) X120 hx (hb hby d4_77) rfl rfl ?_
            obtain ⟨T121, X121, e121, st121⟩ := getF X120 hx hZ hown (host := "") (Or.inl (hw _ (List.mem_of_getElem? (i := 22) rfl))) Via.refl e120 F119_a1_lineFeeds (g := (mkF m 78 #[.val (.ref a1), .val (.ref a2), .val (.int st.toInt32), .val (.int en.toInt32), .val (.int w.toInt32), .val (.int i.toInt32), .val (.int cv), .val (.int (0 : Int32)), .val (.int (10 : Int32))] [(.ref a1), (.ref a1)])) rfl rfl (hb hby d4_78)
            refine Goes.pre st121 ?_
            show Goes p e below s 0 0 (Q_7 Z a1 a2 vs af lf st en h0 n0) T121 (mkF m 81 #[.val (.ref a1), .val (.ref a2), .val (.int st.toInt32), .val (.int en.toInt32), .val (.int w.toInt32), .val (.int i.toInt32), .val (.int cv), .val (.int (0 : Int32)), .val (.int (10 : Int32))] [(.long fl), (.ref a1)])
            refine own_iload (pc' := 83) X121 hx (hb hby d4_81) rfl rfl ?_
            refine own_bipush (pc' := 85) X121 hx (hb hby d4_83) (v := (10 : Int32)) rfl rfl ?_
            refine own_icmpN (pc' := 88) X121 hx (hb hby d4_85) (by decide) rfl ?_
            refine own_lconst (pc' := 89) X121 hx (hb hby d4_88) (v := (1 : Int64)) rfl rfl ?_
            refine own_goto X121 hx (hb hby d4_89) (by decide) (pc' := 93) (by decide) ?_
            refine own_ladd (pc' := 94) X121 hx (hb hby d4_93) rfl ?_
            obtain ⟨T122, h122, X122, e122, W122, st122⟩ := putF X121 hx hZ hown (host := "") (Or.inl (hw _ (List.mem_of_getElem? (i := 22) rfl))) Via.refl e121 F119_a1_lineFeeds E119_a1 (Or.inl (hw _ (List.mem_of_getElem? (i := 23) rfl))) (hw _ (List.mem_of_getElem? (i := 7) rfl)) (ty := .long) (by decide) rfl rfl (g := (mkF m 94 #[.val (.ref a1), .val (.ref a2), .val (.int st.toInt32), .val (.int en.toInt32), .val (.int w.toInt32), .val (.int i.toInt32), .val (.int cv), .val (.int (0 : Int32)), .val (.int (10 : Int32))] [(.long (fl + (1 : Int64))), (.ref a1)])) rfl rfl (hb hby d4_94)
            have N122 := Fr.snoc X122 N119 g1
            refine Goes.pre st122 ?_
            show Goes p e below s 0 0 (Q_7 Z a1 a2 vs af lf st en h0 n0) T122 (mkF m 97 #[.val (.ref a1), .val (.ref a2), .val (.int st.toInt32), .val (.int en.toInt32), .val (.int w.toInt32), .val (.int i.toInt32), .val (.int cv), .val (.int (0 : Int32)), .val (.int (10 : Int32))] [])
            have F122_a1_afterReturn := F119_a1_afterReturn.other W122 (Or.inr (slot_ne (Or.inl (hw _ (List.mem_of_getElem? (i := 21) rfl))) (Or.inl (hw _ (List.mem_of_getElem? (i := 23) rfl))) (by decide) (t := .boolean) (t' := .long) (by decide) (by decide)))
            have F122_a1_lineFeeds := F119_a1_lineFeeds.same W122
            have E122_a1 := E119_a1.wr W122
            have K122 := Keep.wr K119 W122 (Or.inl (List.mem_of_getElem? (i := 0) rfl))
            have P122 := P119.other W122 (Ne.symm ne)
            refine own_aloadN (pc' := 98) X122 hx (hb hby d4_97) rfl rfl rfl ?_
            refine own_iload (pc' := 100) X122 hx (hb hby d4_98) rfl rfl ?_
            refine own_iinc (pc' := 103) X122 hx (hb hby d4_100) rfl (y := (w + 1).toInt32) (own_i1 w) (Ls' := #[.val (.ref a1), .val (.ref a2), .val (.int st.toInt32), .val (.int en.toInt32), .val (.int (w + 1).toInt32), .val (.int i.toInt32), .val (.int cv), .val (.int (0 : Int32)), .val (.int (10 : Int32))]) rfl rfl ?_
            refine own_iload (pc' := 105) X122 hx (hb hby d4_103) rfl rfl ?_
            refine own_castore (pc' := 106) X122 hx hZ e122 P122 (hb hby d4_105) (own_nar own_C10) (own_nn (by omega)) (own_nc (by omega)) (by omega) rfl ?_
            intro T123 h123 X123 e123 W123 P123
            have N123 := Fr.snoc X123 N122 g2
            have F123_afterReturn := F122_a1_afterReturn.other W123 (Or.inl ne)
            have F123_lineFeeds := F122_a1_lineFeeds.other W123 (Or.inl ne)
            have E123 := E122_a1.wr W123
            have K123 := Keep.wr K122 W123 (Or.inl (List.mem_of_getElem? (i := 1) rfl))
            show Goes p e below s 0 0 (Q_7 Z a1 a2 vs af lf st en h0 n0) T123 (mkF m 106 #[.val (.ref a1), .val (.ref a2), .val (.int st.toInt32), .val (.int en.toInt32), .val (.int (w + 1).toInt32), .val (.int i.toInt32), .val (.int cv), .val (.int (0 : Int32)), .val (.int (10 : Int32))] [])
            refine own_iinc (pc' := 109) X123 hx (hb hby d4_106) rfl (y := (i + 1).toInt32) (own_i1 i) (Ls' := #[.val (.ref a1), .val (.ref a2), .val (.int st.toInt32), .val (.int en.toInt32), .val (.int (w + 1).toInt32), .val (.int (i + 1).toInt32), .val (.int cv), .val (.int (0 : Int32)), .val (.int (10 : Int32))]) rfl rfl ?_
            refine own_goto X123 hx (hb hby d4_109) (by decide) (pc' := 6) (by decide) ?_
            exact ih (i + 1) (w + 1) _ _ _ (by omega) (by omega) (by rw [List.length_set]; exact hul) (own_mem_set hCu own_C10) ((own_nlK hcv (fun q => hc29 q.2) (by simp [own_af, hc44]) (by simp [own_out, hc44]) (by simp [own_l1])).symm.trans hres) _ _ _ _ _ _ (One.val rfl) (One.val rfl) (One.val rfl) X123 e123 N123 K123 E123 F123_afterReturn F123_lineFeeds P123
          · refine own_icmpY X104 hx (hb hby d4_44) (feq hc44).2 (by decide) (pc' := 51) (by decide) ?_
            refine own_iconst (pc' := 52) X104 hx (hb hby d4_51) (v := (0 : Int32)) rfl rfl ?_
            obtain ⟨T124, h124, X124, e124, W124, st124⟩ := putF X104 hx hZ hown (host := "") (Or.inl (hw _ (List.mem_of_getElem? (i := 20) rfl))) Via.refl e104 FJ EJ (Or.inl (hw _ (List.mem_of_getElem? (i := 21) rfl))) (hw _ (List.mem_of_getElem? (i := 7) rfl)) (ty := .boolean) (by decide) rfl rfl (g := (mkF m 52 #[.val (.ref a1), .val (.ref a2), .val (.int st.toInt32), .val (.int en.toInt32), .val (.int w.toInt32), .val (.int i.toInt32), .val (.int cv), .val (.int (0 : Int32)), s8] [(.int (0 : Int32)), (.ref a1)])) rfl rfl (hb hby d4_52)
            have N124 := Fr.snoc X124 NJ g1
            refine Goes.pre st124 ?_
            show Goes p e below s 0 0 (Q_7 Z a1 a2 vs af lf st en h0 n0) T124 (mkF m 55 #[.val (.ref a1), .val (.ref a2), .val (.int st.toInt32), .val (.int en.toInt32), .val (.int w.toInt32), .val (.int i.toInt32), .val (.int cv), .val (.int (0 : Int32)), s8] [])
            have F124_a1_afterReturn := FJ.same W124
            have F124_a1_lineFeeds := GJ.other W124 (Or.inr (slot_ne (Or.inl (hw _ (List.mem_of_getElem? (i := 23) rfl))) (Or.inl (hw _ (List.mem_of_getElem? (i := 21) rfl))) (by decide) (t := .long) (t' := .boolean) (by decide) (by decide)))
            have E124_a1 := EJ.wr W124
            have K124 := Keep.wr KJ W124 (Or.inl (List.mem_of_getElem? (i := 0) rfl))
            have P124 := PJ.other W124 (Ne.symm ne)
            refine own_iload (pc' := 57) X124 hx (hb hby d4_55) rfl rfl ?_
            refine own_ifN (pc' := 60) X124 hx (hb hby d4_57) (by decide) rfl ?_
            refine own_aloadN (pc' := 61) X124 hx (hb hby d4_60) rfl rfl rfl ?_
            obtain ⟨T125, X125, e125, st125⟩ := getF X124 hx hZ hown (host := "") (Or.inl (hw _ (List.mem_of_getElem? (i := 20) rfl))) Via.refl e124 F124_a1_afterReturn (g := (mkF m 61 #[.val (.ref a1), .val (.ref a2), .val (.int st.toInt32), .val (.int en.toInt32), .val (.int w.toInt32), .val (.int i.toInt32), .val (.int cv), .val (.int (0 : Int32)), s8] [(.ref a1)])) rfl rfl (hb hby d4_61)
            refine Goes.pre st125 ?_
            show Goes p e below s 0 0 (Q_7 Z a1 a2 vs af lf st en h0 n0) T125 (mkF m 64 #[.val (.ref a1), .val (.ref a2), .val (.int st.toInt32), .val (.int en.toInt32), .val (.int w.toInt32), .val (.int i.toInt32), .val (.int cv), .val (.int (0 : Int32)), s8] [(.int (0 : Int32))])
            refine own_ifY X125 hx (hb hby d4_64) (by decide) (by decide) (pc' := 72) (by decide) ?_
            refine own_iload (pc' := 74) X125 hx (hb hby d4_72) rfl rfl ?_
            refine own_istoreS (pc' := 76) X125 hx (hb hby d4_74) rfl o8 (Ls' := #[.val (.ref a1), .val (.ref a2), .val (.int st.toInt32), .val (.int en.toInt32), .val (.int w.toInt32), .val (.int i.toInt32), .val (.int cv), .val (.int (0 : Int32)), .val (.int cv)]) rfl rfl ?_
            refine own_aloadN (pc' := 77) X125 hx (hb hby d4_76) rfl rfl rfl ?_
            refine own_dup (pc' := 78) X125 hx (hb hby d4_77) rfl rfl ?_
            obtain ⟨T126, X126, e126, st126⟩ := getF X125 hx hZ hown (host := "") (Or.inl (hw _ (List.mem_of_getElem? (i := 22) rfl))) Via.refl e125 F124_a1_lineFeeds (g := (mkF m 78 #[.val (.ref a1), .val (.ref a2), .val (.int st.toInt32), .val (.int en.toInt32), .val (.int w.toInt32), .val (.int i.toInt32), .val (.int cv), .val (.int (0 : Int32)), .val (.int cv)] [(.ref a1), (.ref a1)])) rfl rfl (hb hby d4_78)
            refine Goes.pre st126 ?_
            show Goes p e below s 0 0 (Q_7 Z a1 a2 vs af lf st en h0 n0) T126 (mkF m 81 #[.val (.ref a1), .val (.ref a2), .val (.int st.toInt32), .val (.int en.toInt32), .val (.int w.toInt32), .val (.int i.toInt32), .val (.int cv), .val (.int (0 : Int32)), .val (.int cv)] [(.long fl), (.ref a1)])
            refine own_iload (pc' := 83) X126 hx (hb hby d4_81) rfl rfl ?_
            refine own_bipush (pc' := 85) X126 hx (hb hby d4_83) (v := (10 : Int32)) rfl rfl ?_
            refine own_icmpY X126 hx (hb hby d4_85) (feq hc29).2 (by decide) (pc' := 92) (by decide) ?_
            refine own_lconst (pc' := 93) X126 hx (hb hby d4_92) (v := (0 : Int64)) rfl rfl ?_
            refine own_ladd (pc' := 94) X126 hx (hb hby d4_93) rfl ?_
            obtain ⟨T127, h127, X127, e127, W127, st127⟩ := putF X126 hx hZ hown (host := "") (Or.inl (hw _ (List.mem_of_getElem? (i := 22) rfl))) Via.refl e126 F124_a1_lineFeeds E124_a1 (Or.inl (hw _ (List.mem_of_getElem? (i := 23) rfl))) (hw _ (List.mem_of_getElem? (i := 7) rfl)) (ty := .long) (by decide) rfl rfl (g := (mkF m 94 #[.val (.ref a1), .val (.ref a2), .val (.int st.toInt32), .val (.int en.toInt32), .val (.int w.toInt32), .val (.int i.toInt32), .val (.int cv), .val (.int (0 : Int32)), .val (.int cv)] [(.long (fl + (0 : Int64))), (.ref a1)])) rfl rfl (hb hby d4_94)
            have N127 := Fr.snoc X127 N124 g1
            refine Goes.pre st127 ?_
            show Goes p e below s 0 0 (Q_7 Z a1 a2 vs af lf st en h0 n0) T127 (mkF m 97 #[.val (.ref a1), .val (.ref a2), .val (.int st.toInt32), .val (.int en.toInt32), .val (.int w.toInt32), .val (.int i.toInt32), .val (.int cv), .val (.int (0 : Int32)), .val (.int cv)] [])
            have F127_a1_afterReturn := F124_a1_afterReturn.other W127 (Or.inr (slot_ne (Or.inl (hw _ (List.mem_of_getElem? (i := 21) rfl))) (Or.inl (hw _ (List.mem_of_getElem? (i := 23) rfl))) (by decide) (t := .boolean) (t' := .long) (by decide) (by decide)))
            have F127_a1_lineFeeds := F124_a1_lineFeeds.same W127
            have E127_a1 := E124_a1.wr W127
            have K127 := Keep.wr K124 W127 (Or.inl (List.mem_of_getElem? (i := 0) rfl))
            have P127 := P124.other W127 (Ne.symm ne)
            refine own_aloadN (pc' := 98) X127 hx (hb hby d4_97) rfl rfl rfl ?_
            refine own_iload (pc' := 100) X127 hx (hb hby d4_98) rfl rfl ?_
            refine own_iinc (pc' := 103) X127 hx (hb hby d4_100) rfl (y := (w + 1).toInt32) (own_i1 w) (Ls' := #[.val (.ref a1), .val (.ref a2), .val (.int st.toInt32), .val (.int en.toInt32), .val (.int (w + 1).toInt32), .val (.int i.toInt32), .val (.int cv), .val (.int (0 : Int32)), .val (.int cv)]) rfl rfl ?_
            refine own_iload (pc' := 105) X127 hx (hb hby d4_103) rfl rfl ?_
            refine own_castore (pc' := 106) X127 hx hZ e127 P127 (hb hby d4_105) (own_nar hCv) (own_nn (by omega)) (own_nc (by omega)) (by omega) rfl ?_
            intro T128 h128 X128 e128 W128 P128
            have N128 := Fr.snoc X128 N127 g2
            have F128_afterReturn := F127_a1_afterReturn.other W128 (Or.inl ne)
            have F128_lineFeeds := F127_a1_lineFeeds.other W128 (Or.inl ne)
            have E128 := E127_a1.wr W128
            have K128 := Keep.wr K127 W128 (Or.inl (List.mem_of_getElem? (i := 1) rfl))
            show Goes p e below s 0 0 (Q_7 Z a1 a2 vs af lf st en h0 n0) T128 (mkF m 106 #[.val (.ref a1), .val (.ref a2), .val (.int st.toInt32), .val (.int en.toInt32), .val (.int (w + 1).toInt32), .val (.int i.toInt32), .val (.int cv), .val (.int (0 : Int32)), .val (.int cv)] [])
            refine own_iinc (pc' := 109) X128 hx (hb hby d4_106) rfl (y := (i + 1).toInt32) (own_i1 i) (Ls' := #[.val (.ref a1), .val (.ref a2), .val (.int st.toInt32), .val (.int en.toInt32), .val (.int (w + 1).toInt32), .val (.int (i + 1).toInt32), .val (.int cv), .val (.int (0 : Int32)), .val (.int cv)]) rfl rfl ?_
            refine own_goto X128 hx (hb hby d4_109) (by decide) (pc' := 6) (by decide) ?_
            exact ih (i + 1) (w + 1) _ _ _ (by omega) (by omega) (by rw [List.length_set]; exact hul) (own_mem_set hCu hCv) ((own_nlK hcv (fun q => hc29 q.2) (by simp [own_af, hc44]) (by simp [own_out, hc44]) (by simp [own_l1, hc29])).symm.trans hres) _ _ _ _ _ _ (One.val rfl) (One.val rfl) (One.val rfl) X128 e128 N128 K128 E128 F128_afterReturn F128_lineFeeds P128
  refine own_iloadN (pc' := 1) X0 hx (hb hby d4_0) rfl rfl ?_
  refine own_istore (pc' := 3) X0 hx (hb hby d4_1) (Ls' := #[.val (.ref a1), .val (.ref a2), .val (.int st.toInt32), .val (.int en.toInt32), .val (.int st.toInt32), .unset, .unset, .unset, .unset]) rfl rfl ?_
  refine own_iloadN (pc' := 4) X0 hx (hb hby d4_3) rfl rfl ?_
  refine own_istore (pc' := 6) X0 hx (hb hby d4_4) (Ls' := #[.val (.ref a1), .val (.ref a2), .val (.int st.toInt32), .val (.int en.toInt32), .val (.int st.toInt32), .val (.int st.toInt32), .unset, .unset, .unset]) rfl rfl ?_
  exact L1 (en - st) st st vs af lf (by omega) (by omega) rfl hC rfl _ _ _ _ _ _ One.u One.u One.u X0 e0 N0 (Keep.refl _ _) E1 F1 F2 P1
theorem pn_0 : plainFor x = true := by first | (refine plainFor_of_name ?_; simp [plainName, overriddenIn, x]; done) | decide +kernel
theorem pd_0 : parseMethodDescriptor "(IIIIII)Z" = some ⟨[.int, .int, .int, .int, .int, .int], some .boolean⟩ := by decide +kernel
theorem ef_0 (m : MethodId) (q0 : Int32) (q1 : Int32) (q2 : Int32) (q3 : Int32) (q4 : Int32) (q5 : Int32) : entryFrame m #[(.int q0), (.int q1), (.int q2), (.int q3), (.int q4), (.int q5)] maxLocals = mkF m 0 #[.val (.int q0), .val (.int q1), .val (.int q2), .val (.int q3), .val (.int q4), .val (.int q5), .unset, .unset, .unset, .unset, .unset, .unset, .unset, .unset, .unset, .unset, .unset, .unset, .unset, .unset, .unset, .unset, .unset, .unset, .unset, .unset, .unset, .unset, .unset, .unset, .unset, .unset, .unset, .unset, .unset, .unset, .unset, .unset] [] := by first | (simp [entryFrame, mkF, argsToLocals, Value.category, maxLocals]; done) | rfl
def Q_0 (Z : State) (q0 : Int32) (q1 : Int32) (q2 : Int32) (q3 : Int32) (q4 : Int32) (q5 : Int32) (h0 : Heap) (n0 : Nat) (v : Option Value) (h : Heap) (L : List Loc) : Prop := v = some (.int 1) ∧ Fr n0 L
set_option maxRecDepth 65536 in
set_option maxHeartbeats 40000000 in
theorem own_tB00 {p : Program} {l : Launch} {e : Env} {s : State} {m : MethodId} {below : List Frame} {meth : Method} {c : Code} {Z : State} {a0 : Array Value} (hw : ∀ d ∈ tables_1, d.before a0 Z = true) (q0 q1 q2 q3 q4 q5 : Int32) (h0 : Heap) (n0 : Nat) (Z0 : n0 ≤ Array.size h0) (hx : p.tables.exec = Jvm.exec) (hby : c.code = code) (hlk : meth.locks = false) (hml : c.maxLocals = 38) (hown : s.vm.findClass "com/example/dipper/dipper/core/LineEndsNormalizePinLaw" = some m.cls) (hZ : Z.Warmed39 s.vm) (hret : meth.sig.returnType = some .boolean) : ∀ (TJ : State) (hJ : Heap) (LJ : List Loc) (aB : Addr) (c3 c4 : Int32) (lf1 lf2 : Int64) (w2 : Nat) (vs2 : List Int32) (af2 : Int32) (r0 r1 r2 r3 r4 r5 r6 r7 r8 r11 r13 r15 r16 r17 r18 r22 r23 r24 r25 r26 : Slot), own_C c3 → own_C c4 → Stand p l e room_1 s m #[(.int q0), (.int q1), (.int q2), (.int q3), (.int q4), (.int q5)] below meth c TJ LJ 4 10 → TJ.heap = hJ → Fr n0 LJ → n0 ≤ Array.size hJ → own_PA Z hJ aB .char vs2 → (w2, vs2, af2, lf2) = own_nl (2 - 0) 0 0 [c3, c4] (0 : Int32) lf1 → Goes p e below s 24 128 (Q_0 Z q0 q1 q2 q3 q4 q5 h0 n0) TJ (mkF m 458 #[r0, r1, r2, r3, r4, r5, r6, r7, r8, .val (.int c3), .val (.int c4), r11, .val (.int (0 : Int32)), r13, .val (.ref aB), r15, r16, r17, r18, .val (.int w2.toInt32), .val (.long lf2), .second, r22, r23, r24, r25, r26, .val (.long lf1), .second, .val (.int (1 : Int32)), .val (.int (0 : Int32)), .unset, .unset, .unset, .unset, .unset, .unset, .unset] []) := by
  intro TJ hJ LJ aB c3 c4 lf1 lf2 w2 vs2 af2 r0 r1 r2 r3 r4 r5 r6 r7 r8 r11 r13 r15 r16 r17 r18 r22 r23 r24 r25 r26 hC3 hC4 XJ eJ NJ ZJ PJ ht
  refine own_iload (pc' := 460) XJ hx (hb hby at_458) rfl rfl ?_
  refine own_ifN (pc' := 463) XJ hx (hb hby at_460) (by decide) rfl ?_
  refine own_iload (pc' := 465) XJ hx (hb hby at_463) rfl rfl ?_
  refine own_ifY XJ hx (hb hby at_465) (by decide) (by decide) (pc' := 475) (by decide) ?_
  refine own_iconst (pc' := 476) XJ hx (hb hby at_475) (v := (1 : Int32)) rfl rfl ?_
  refine own_goto XJ hx (hb hby at_476) (by decide) (pc' := 480) (by decide) ?_
  refine own_istore (pc' := 482) XJ hx (hb hby at_480) (Ls' := #[r0, r1, r2, r3, r4, r5, r6, r7, r8, .val (.int c3), .val (.int c4), r11, .val (.int (0 : Int32)), r13, .val (.ref aB), r15, r16, r17, r18, .val (.int w2.toInt32), .val (.long lf2), .second, r22, r23, r24, r25, r26, .val (.long lf1), .second, .val (.int (1 : Int32)), .val (.int (0 : Int32)), .val (.int (1 : Int32)), .unset, .unset, .unset, .unset, .unset, .unset]) rfl rfl ?_
  refine own_iload (pc' := 484) XJ hx (hb hby at_482) rfl rfl ?_
  refine own_iconst (pc' := 485) XJ hx (hb hby at_484) (v := (1 : Int32)) rfl rfl ?_
  refine own_icmpN (pc' := 488) XJ hx (hb hby at_485) (by decide) rfl ?_
  refine own_iload (pc' := 490) XJ hx (hb hby at_488) rfl rfl ?_
  refine own_ifN (pc' := 493) XJ hx (hb hby at_490) (by decide) rfl ?_
  refine own_iload (pc' := 495) XJ hx (hb hby at_493) rfl rfl ?_
  refine own_iload (pc' := 497) XJ hx (hb hby at_495) rfl rfl ?_
  obtain ⟨_, _, ⟨T130, L130, k130, n130⟩, -, X130, ⟨Lc130, hQ130, l130, y130, z130⟩, st130⟩ := Jvm.LawKit.callS XJ hx (y := (⟨"com/example/dipper/dipper/core/LineEndsNormalizePinLaw", "pairs", "(CC)Z"⟩ : MethodName)) hown (mvT hZ (hw _ (List.mem_of_getElem? (i := 29) rfl))) (mvT hZ (hw _ (List.mem_of_getElem? (i := 30) rfl))) (mvT hZ (hw _ (List.mem_of_getElem? (i := 2) rfl))) (mvT hZ (hw _ (List.mem_of_getElem? (i := 31) rfl))) (by decide) (backOf (W := 0) (rm_3 l Z a0 hw [] c3 c4 hJ n0 ZJ) hZ (hw _ (List.mem_of_getElem? (i := 31) rfl)) (hw _ (List.mem_of_getElem? (i := 2) rfl)) (by decide) (by decide)) (g := (mkF m 497 #[r0, r1, r2, r3, r4, r5, r6, r7, r8, .val (.int c3), .val (.int c4), r11, .val (.int (0 : Int32)), r13, .val (.ref aB), r15, r16, r17, r18, .val (.int w2.toInt32), .val (.long lf2), .second, r22, r23, r24, r25, r26, .val (.long lf1), .second, .val (.int (1 : Int32)), .val (.int (0 : Int32)), .val (.int (1 : Int32)), .unset, .unset, .unset, .unset, .unset, .unset] [(.int c4), (.int c3)])) rfl (by rw [hml]; rfl) (argsL := [(.int c3), (.int c4)]) (rest := []) (lenOf pd_3 rfl) rfl (by show 2 * 0 + _ ≤ _; exact Nat.le_of_eq rfl) (hb hby at_497) (fun _ _ => ⟨rfl, eJ, (by decide : 4 + 0 ≤ _), (by decide : 10 + 0 ≤ _)⟩)
  dsimp only [Pt.U, Pt.locs, Pt.cells, Pt.slots] at X130 l130 y130 z130 st130 hQ130
  subst l130 y130 z130
  obtain ⟨rfl, M130, ep129⟩ := hQ130
  have N130 := Fr.app NJ M130
  refine Goes.pre st130 ?_
  show Goes p e below s 24 128 (Q_0 Z q0 q1 q2 q3 q4 q5 h0 n0) T130 (mkF m 500 #[r0, r1, r2, r3, r4, r5, r6, r7, r8, .val (.int c3), .val (.int c4), r11, .val (.int (0 : Int32)), r13, .val (.ref aB), r15, r16, r17, r18, .val (.int w2.toInt32), .val (.long lf2), .second, r22, r23, r24, r25, r26, .val (.long lf1), .second, .val (.int (1 : Int32)), .val (.int (0 : Int32)), .val (.int (1 : Int32)), .unset, .unset, .unset, .unset, .unset, .unset] [(.int (own_pairs c3 c4))])
  by_cases hc500 : (own_pairs c3 c4) = (0 : Int32)
  · refine own_ifY X130 hx (hb hby at_500) ((if0 _ _).trans (teq hc500).1) (by decide) (pc' := 518) (by decide) ?_
    refine own_iconst (pc' := 519) X130 hx (hb hby at_518) (v := (1 : Int32)) rfl rfl ?_
    refine own_goto X130 hx (hb hby at_519) (by decide) (pc' := 523) (by decide) ?_
    refine own_istore (pc' := 525) X130 hx (hb hby at_523) (Ls' := #[r0, r1, r2, r3, r4, r5, r6, r7, r8, .val (.int c3), .val (.int c4), r11, .val (.int (0 : Int32)), r13, .val (.ref aB), r15, r16, r17, r18, .val (.int w2.toInt32), .val (.long lf2), .second, r22, r23, r24, r25, r26, .val (.long lf1), .second, .val (.int (1 : Int32)), .val (.int (0 : Int32)), .val (.int (1 : Int32)), .val (.int (1 : Int32)), .unset, .unset, .unset, .unset, .unset]) rfl rfl ?_
    refine own_iconst (pc' := 526) X130 hx (hb hby at_525) (v := (2 : Int32)) rfl rfl ?_
    have hB := ht.trans (own_B00T c3 c4 lf1 hc500)
    simp only [Prod.mk.injEq] at hB
    obtain ⟨rfl, rfl, rfl, rfl⟩ := hB
    show Goes p e below s 24 128 (Q_0 Z q0 q1 q2 q3 q4 q5 h0 n0) T130 (mkF m 526 #[r0, r1, r2, r3, r4, r5, r6, r7, r8, .val (.int c3), .val (.int c4), r11, .val (.int (0 : Int32)), r13, .val (.ref aB), r15, r16, r17, r18, .val (.int (2 : Int32)), .val (.long (lf1 + own_l1 (own_out c3) + own_l1 (own_out c4))), .second, r22, r23, r24, r25, r26, .val (.long lf1), .second, .val (.int (1 : Int32)), .val (.int (0 : Int32)), .val (.int (1 : Int32)), .val (.int (1 : Int32)), .unset, .unset, .unset, .unset, .unset] [(.int (2 : Int32))])
    refine own_newarray (pc' := 528) X130 hx hZ (hw _ (List.mem_of_getElem? (i := 5) rfl)) ep129 (hb hby at_526) (k := 2) (cap := 2) rfl (by decide) rfl (by decide) (by decide) (by decide) (by decide) rfl ?_
    intro T131 h131 a131 g131 X131 e131 E131 P131
    show Goes p e below s 24 128 (Q_0 Z q0 q1 q2 q3 q4 q5 h0 n0) T131 (mkF m 528 #[r0, r1, r2, r3, r4, r5, r6, r7, r8, .val (.int c3), .val (.int c4), r11, .val (.int (0 : Int32)), r13, .val (.ref aB), r15, r16, r17, r18, .val (.int (2 : Int32)), .val (.long (lf1 + own_l1 (own_out c3) + own_l1 (own_out c4))), .second, r22, r23, r24, r25, r26, .val (.long lf1), .second, .val (.int (1 : Int32)), .val (.int (0 : Int32)), .val (.int (1 : Int32)), .val (.int (1 : Int32)), .unset, .unset, .unset, .unset, .unset] [(.ref a131)])
    have PB := PJ.ext E131
    have ge : n0 ≤ a131 := by rw [g131]; exact ZJ
    have neB : aB ≠ a131 := fun q => absurd (q ▸ PJ.lt) (by rw [g131]; exact Nat.lt_irrefl _)
    have ZE : n0 ≤ Array.size h131 := Nat.le_trans ZJ E131.1
    refine own_astore (pc' := 530) X131 hx (hb hby at_528) rfl (Ls' := #[r0, r1, r2, r3, r4, r5, r6, r7, r8, .val (.int c3), .val (.int c4), r11, .val (.int (0 : Int32)), r13, .val (.ref aB), r15, r16, r17, r18, .val (.int (2 : Int32)), .val (.long (lf1 + own_l1 (own_out c3) + own_l1 (own_out c4))), .second, r22, r23, r24, r25, r26, .val (.long lf1), .second, .val (.int (1 : Int32)), .val (.int (0 : Int32)), .val (.int (1 : Int32)), .val (.int (1 : Int32)), .val (.ref a131), .unset, .unset, .unset, .unset]) rfl rfl ?_
    refine own_iload (pc' := 532) X131 hx (hb hby at_530) rfl rfl ?_
    refine own_istore (pc' := 534) X131 hx (hb hby at_532) (Ls' := #[r0, r1, r2, r3, r4, r5, r6, r7, r8, .val (.int c3), .val (.int c4), r11, .val (.int (0 : Int32)), r13, .val (.ref aB), r15, r16, r17, r18, .val (.int (2 : Int32)), .val (.long (lf1 + own_l1 (own_out c3) + own_l1 (own_out c4))), .second, r22, r23, r24, r25, r26, .val (.long lf1), .second, .val (.int (1 : Int32)), .val (.int (0 : Int32)), .val (.int (1 : Int32)), .val (.int (1 : Int32)), .val (.ref a131), .val (.int (0 : Int32)), .unset, .unset, .unset]) rfl rfl ?_
    refine own_iload (pc' := 536) X131 hx (hb hby at_534) rfl rfl ?_
    refine own_ifN (pc' := 539) X131 hx (hb hby at_536) (by decide) rfl ?_
    refine own_aload (pc' := 541) X131 hx (hb hby at_539) rfl rfl rfl ?_
    refine own_iload (pc' := 543) X131 hx (hb hby at_541) rfl rfl ?_
    refine own_iload (pc' := 545) X131 hx (hb hby at_543) rfl rfl ?_
    obtain ⟨_, _, ⟨T133, L133, k133, n133⟩, -, X133, ⟨Lc133, hQ133, l133, y133, z133⟩, st133⟩ := Jvm.LawKit.callS X131 hx (y := (⟨"com/example/dipper/dipper/core/LineEndsNormalizePinLaw", "out", "(C)C"⟩ : MethodName)) hown (mvT hZ (hw _ (List.mem_of_getElem? (i := 32) rfl))) (mvT hZ (hw _ (List.mem_of_getElem? (i := 33) rfl))) (mvT hZ (hw _ (List.mem_of_getElem? (i := 2) rfl))) (mvT hZ (hw _ (List.mem_of_getElem? (i := 34) rfl))) (by decide) (backOf (W := 2) (rm_2 l Z a0 hw [] c3 h131 n0 ZE hC3) hZ (hw _ (List.mem_of_getElem? (i := 34) rfl)) (hw _ (List.mem_of_getElem? (i := 2) rfl)) (by decide) (by decide)) (g := (mkF m 545 #[r0, r1, r2, r3, r4, r5, r6, r7, r8, .val (.int c3), .val (.int c4), r11, .val (.int (0 : Int32)), r13, .val (.ref aB), r15, r16, r17, r18, .val (.int (2 : Int32)), .val (.long (lf1 + own_l1 (own_out c3) + own_l1 (own_out c4))), .second, r22, r23, r24, r25, r26, .val (.long lf1), .second, .val (.int (1 : Int32)), .val (.int (0 : Int32)), .val (.int (1 : Int32)), .val (.int (1 : Int32)), .val (.ref a131), .val (.int (0 : Int32)), .unset, .unset, .unset] [(.int c3), (.int (0 : Int32)), (.ref a131)])) rfl (by rw [hml]; rfl) (argsL := [(.int c3)]) (rest := [(.int (0 : Int32)), (.ref a131)]) (lenOf pd_2 rfl) rfl (by show 2 * 0 + _ ≤ _; exact Nat.le_of_eq rfl) (hb hby at_545) (fun _ _ => ⟨rfl, e131, (by decide : 5 + 0 ≤ _), (by decide : 12 + 0 ≤ _)⟩)
    dsimp only [Pt.U, Pt.locs, Pt.cells, Pt.slots] at X133 l133 y133 z133 st133 hQ133
    subst l133 y133 z133
    obtain ⟨rfl, M133, eo132⟩ := hQ133
    have N133 := Fr.app N130 M133
    refine Goes.pre st133 ?_
    show Goes p e below s 24 128 (Q_0 Z q0 q1 q2 q3 q4 q5 h0 n0) T133 (mkF m 548 #[r0, r1, r2, r3, r4, r5, r6, r7, r8, .val (.int c3), .val (.int c4), r11, .val (.int (0 : Int32)), r13, .val (.ref aB), r15, r16, r17, r18, .val (.int (2 : Int32)), .val (.long (lf1 + own_l1 (own_out c3) + own_l1 (own_out c4))), .second, r22, r23, r24, r25, r26, .val (.long lf1), .second, .val (.int (1 : Int32)), .val (.int (0 : Int32)), .val (.int (1 : Int32)), .val (.int (1 : Int32)), .val (.ref a131), .val (.int (0 : Int32)), .unset, .unset, .unset] [(.int (own_out c3)), (.int (0 : Int32)), (.ref a131)])
    refine own_castore (pc' := 549) X133 hx hZ eo132 P131 (hb hby at_548) (own_nar (own_outC hC3)) (by decide) (k := 0) (by decide) (by simp) rfl ?_
    intro T134 h134 X134 e134 W134 P134
    have N134 := Fr.snoc X134 N133 ge
    have P134_aB := PB.other W134 neB
    have Z134 : n0 ≤ Array.size h134 := by rw [W134.size]; exact ZE
    show Goes p e below s 24 128 (Q_0 Z q0 q1 q2 q3 q4 q5 h0 n0) T134 (mkF m 549 #[r0, r1, r2, r3, r4, r5, r6, r7, r8, .val (.int c3), .val (.int c4), r11, .val (.int (0 : Int32)), r13, .val (.ref aB), r15, r16, r17, r18, .val (.int (2 : Int32)), .val (.long (lf1 + own_l1 (own_out c3) + own_l1 (own_out c4))), .second, r22, r23, r24, r25, r26, .val (.long lf1), .second, .val (.int (1 : Int32)), .val (.int (0 : Int32)), .val (.int (1 : Int32)), .val (.int (1 : Int32)), .val (.ref a131), .val (.int (0 : Int32)), .unset, .unset, .unset] [])
    have P134x : own_PA Z h134 a131 .char [(own_out c3), (0 : Int32)] := P134
    refine own_iinc (pc' := 552) X134 hx (hb hby at_549) rfl (y := (1 : Int32)) (by decide) (Ls' := #[r0, r1, r2, r3, r4, r5, r6, r7, r8, .val (.int c3), .val (.int c4), r11, .val (.int (0 : Int32)), r13, .val (.ref aB), r15, r16, r17, r18, .val (.int (2 : Int32)), .val (.long (lf1 + own_l1 (own_out c3) + own_l1 (own_out c4))), .second, r22, r23, r24, r25, r26, .val (.long lf1), .second, .val (.int (1 : Int32)), .val (.int (0 : Int32)), .val (.int (1 : Int32)), .val (.int (1 : Int32)), .val (.ref a131), .val (.int (1 : Int32)), .unset, .unset, .unset]) rfl rfl ?_
    refine own_iload (pc' := 554) X134 hx (hb hby at_552) rfl rfl ?_
    refine own_ifN (pc' := 557) X134 hx (hb hby at_554) (by decide) rfl ?_
    refine own_aload (pc' := 559) X134 hx (hb hby at_557) rfl rfl rfl ?_
    refine own_iload (pc' := 561) X134 hx (hb hby at_559) rfl rfl ?_
    refine own_iload (pc' := 563) X134 hx (hb hby at_561) rfl rfl ?_
    obtain ⟨_, _, ⟨T136, L136, k136, n136⟩, -, X136, ⟨Lc136, hQ136, l136, y136, z136⟩, st136⟩ := Jvm.LawKit.callS X134 hx (y := (⟨"com/example/dipper/dipper/core/LineEndsNormalizePinLaw", "out", "(C)C"⟩ : MethodName)) hown (mvT hZ (hw _ (List.mem_of_getElem? (i := 32) rfl))) (mvT hZ (hw _ (List.mem_of_getElem? (i := 33) rfl))) (mvT hZ (hw _ (List.mem_of_getElem? (i := 2) rfl))) (mvT hZ (hw _ (List.mem_of_getElem? (i := 34) rfl))) (by decide) (backOf (W := 2) (rm_2 l Z a0 hw [] c4 h134 n0 Z134 hC4) hZ (hw _ (List.mem_of_getElem? (i := 34) rfl)) (hw _ (List.mem_of_getElem? (i := 2) rfl)) (by decide) (by decide)) (g := (mkF m 563 #[r0, r1, r2, r3, r4, r5, r6, r7, r8, .val (.int c3), .val (.int c4), r11, .val (.int (0 : Int32)), r13, .val (.ref aB), r15, r16, r17, r18, .val (.int (2 : Int32)), .val (.long (lf1 + own_l1 (own_out c3) + own_l1 (own_out c4))), .second, r22, r23, r24, r25, r26, .val (.long lf1), .second, .val (.int (1 : Int32)), .val (.int (0 : Int32)), .val (.int (1 : Int32)), .val (.int (1 : Int32)), .val (.ref a131), .val (.int (1 : Int32)), .unset, .unset, .unset] [(.int c4), (.int (1 : Int32)), (.ref a131)])) rfl (by rw [hml]; rfl) (argsL := [(.int c4)]) (rest := [(.int (1 : Int32)), (.ref a131)]) (lenOf pd_2 rfl) rfl (by show 2 * 0 + _ ≤ _; exact Nat.le_of_eq rfl) (hb hby at_563) (fun _ _ => ⟨rfl, e134, (by decide : 5 + 0 ≤ _), (by decide : 12 + 0 ≤ _)⟩)
    dsimp only [Pt.U, Pt.locs, Pt.cells, Pt.slots] at X136 l136 y136 z136 st136 hQ136
    subst l136 y136 z136
    obtain ⟨rfl, M136, eo135⟩ := hQ136
    have N136 := Fr.app N134 M136
    refine Goes.pre st136 ?_
    show Goes p e below s 24 128 (Q_0 Z q0 q1 q2 q3 q4 q5 h0 n0) T136 (mkF m 566 #[r0, r1, r2, r3, r4, r5, r6, r7, r8, .val (.int c3), .val (.int c4), r11, .val (.int (0 : Int32)), r13, .val (.ref aB), r15, r16, r17, r18, .val (.int (2 : Int32)), .val (.long (lf1 + own_l1 (own_out c3) + own_l1 (own_out c4))), .second, r22, r23, r24, r25, r26, .val (.long lf1), .second, .val (.int (1 : Int32)), .val (.int (0 : Int32)), .val (.int (1 : Int32)), .val (.int (1 : Int32)), .val (.ref a131), .val (.int (1 : Int32)), .unset, .unset, .unset] [(.int (own_out c4)), (.int (1 : Int32)), (.ref a131)])
    refine own_castore (pc' := 567) X136 hx hZ eo135 P134x (hb hby at_566) (own_nar (own_outC hC4)) (by decide) (k := 1) (by decide) (by simp) rfl ?_
    intro T137 h137 X137 e137 W137 P137
    have N137 := Fr.snoc X137 N136 ge
    have P137_aB := P134_aB.other W137 neB
    have Z137 : n0 ≤ Array.size h137 := by rw [W137.size]; exact Z134
    show Goes p e below s 24 128 (Q_0 Z q0 q1 q2 q3 q4 q5 h0 n0) T137 (mkF m 567 #[r0, r1, r2, r3, r4, r5, r6, r7, r8, .val (.int c3), .val (.int c4), r11, .val (.int (0 : Int32)), r13, .val (.ref aB), r15, r16, r17, r18, .val (.int (2 : Int32)), .val (.long (lf1 + own_l1 (own_out c3) + own_l1 (own_out c4))), .second, r22, r23, r24, r25, r26, .val (.long lf1), .second, .val (.int (1 : Int32)), .val (.int (0 : Int32)), .val (.int (1 : Int32)), .val (.int (1 : Int32)), .val (.ref a131), .val (.int (1 : Int32)), .unset, .unset, .unset] [])
    have P137x : own_PA Z h137 a131 .char [(own_out c3), (own_out c4)] := P137
    refine own_iinc (pc' := 570) X137 hx (hb hby at_567) rfl (y := (2 : Int32)) (by decide) (Ls' := #[r0, r1, r2, r3, r4, r5, r6, r7, r8, .val (.int c3), .val (.int c4), r11, .val (.int (0 : Int32)), r13, .val (.ref aB), r15, r16, r17, r18, .val (.int (2 : Int32)), .val (.long (lf1 + own_l1 (own_out c3) + own_l1 (own_out c4))), .second, r22, r23, r24, r25, r26, .val (.long lf1), .second, .val (.int (1 : Int32)), .val (.int (0 : Int32)), .val (.int (1 : Int32)), .val (.int (1 : Int32)), .val (.ref a131), .val (.int (2 : Int32)), .unset, .unset, .unset]) rfl rfl ?_
    refine own_lload (pc' := 572) X137 hx (hb hby at_570) rfl rfl ?_
    refine own_iload (pc' := 574) X137 hx (hb hby at_572) rfl rfl ?_
    refine own_iload (pc' := 576) X137 hx (hb hby at_574) rfl rfl ?_
    obtain ⟨_, _, ⟨T139, L139, k139, n139⟩, -, X139, ⟨Lc139, hQ139, l139, y139, z139⟩, st139⟩ := Jvm.LawKit.callS X137 hx (y := (⟨"com/example/dipper/dipper/core/LineEndsNormalizePinLaw", "lf", "(ZC)J"⟩ : MethodName)) hown (mvT hZ (hw _ (List.mem_of_getElem? (i := 35) rfl))) (mvT hZ (hw _ (List.mem_of_getElem? (i := 36) rfl))) (mvT hZ (hw _ (List.mem_of_getElem? (i := 2) rfl))) (mvT hZ (hw _ (List.mem_of_getElem? (i := 37) rfl))) (by decide) (backOf (W := 2) (rm_4 l Z a0 hw [] (1 : Int32) c3 h137 n0 Z137 hC3) hZ (hw _ (List.mem_of_getElem? (i := 37) rfl)) (hw _ (List.mem_of_getElem? (i := 2) rfl)) (by decide) (by decide)) (g := (mkF m 576 #[r0, r1, r2, r3, r4, r5, r6, r7, r8, .val (.int c3), .val (.int c4), r11, .val (.int (0 : Int32)), r13, .val (.ref aB), r15, r16, r17, r18, .val (.int (2 : Int32)), .val (.long (lf1 + own_l1 (own_out c3) + own_l1 (own_out c4))), .second, r22, r23, r24, r25, r26, .val (.long lf1), .second, .val (.int (1 : Int32)), .val (.int (0 : Int32)), .val (.int (1 : Int32)), .val (.int (1 : Int32)), .val (.ref a131), .val (.int (2 : Int32)), .unset, .unset, .unset] [(.int c3), (.int (1 : Int32)), (.long lf1)])) rfl (by rw [hml]; rfl) (argsL := [(.int (1 : Int32)), (.int c3)]) (rest := [(.long lf1)]) (lenOf pd_4 rfl) rfl (by show 2 * 0 + _ ≤ _; exact Nat.le_of_eq rfl) (hb hby at_576) (fun _ _ => ⟨rfl, e137, (by decide : 5 + 0 ≤ _), (by decide : 12 + 0 ≤ _)⟩)
    dsimp only [Pt.U, Pt.locs, Pt.cells, Pt.slots] at X139 l139 y139 z139 st139 hQ139
    subst l139 y139 z139
    obtain ⟨rfl, M139, el138⟩ := hQ139
    have N139 := Fr.app N137 M139
    refine Goes.pre st139 ?_
    show Goes p e below s 24 128 (Q_0 Z q0 q1 q2 q3 q4 q5 h0 n0) T139 (mkF m 579 #[r0, r1, r2, r3, r4, r5, r6, r7, r8, .val (.int c3), .val (.int c4), r11, .val (.int (0 : Int32)), r13, .val (.ref aB), r15, r16, r17, r18, .val (.int (2 : Int32)), .val (.long (lf1 + own_l1 (own_out c3) + own_l1 (own_out c4))), .second, r22, r23, r24, r25, r26, .val (.long lf1), .second, .val (.int (1 : Int32)), .val (.int (0 : Int32)), .val (.int (1 : Int32)), .val (.int (1 : Int32)), .val (.ref a131), .val (.int (2 : Int32)), .unset, .unset, .unset] [(.long (own_lf (1 : Int32) c3)), (.long lf1)])
    refine own_ladd (pc' := 580) X139 hx (hb hby at_579) rfl ?_
    refine own_iload (pc' := 582) X139 hx (hb hby at_580) rfl rfl ?_
    refine own_iload (pc' := 584) X139 hx (hb hby at_582) rfl rfl ?_
    obtain ⟨_, _, ⟨T141, L141, k141, n141⟩, -, X141, ⟨Lc141, hQ141, l141, y141, z141⟩, st141⟩ := Jvm.LawKit.callS X139 hx (y := (⟨"com/example/dipper/dipper/core/LineEndsNormalizePinLaw", "lf", "(ZC)J"⟩ : MethodName)) hown (mvT hZ (hw _ (List.mem_of_getElem? (i := 35) rfl))) (mvT hZ (hw _ (List.mem_of_getElem? (i := 36) rfl))) (mvT hZ (hw _ (List.mem_of_getElem? (i := 2) rfl))) (mvT hZ (hw _ (List.mem_of_getElem? (i := 37) rfl))) (by decide) (backOf (W := 2) (rm_4 l Z a0 hw [] (1 : Int32) c4 h137 n0 Z137 hC4) hZ (hw _ (List.mem_of_getElem? (i := 37) rfl)) (hw _ (List.mem_of_getElem? (i := 2) rfl)) (by decide) (by decide)) (g := (mkF m 584 #[r0, r1, r2, r3, r4, r5, r6, r7, r8, .val (.int c3), .val (.int c4), r11, .val (.int (0 : Int32)), r13, .val (.ref aB), r15, r16, r17, r18, .val (.int (2 : Int32)), .val (.long (lf1 + own_l1 (own_out c3) + own_l1 (own_out c4))), .second, r22, r23, r24, r25, r26, .val (.long lf1), .second, .val (.int (1 : Int32)), .val (.int (0 : Int32)), .val (.int (1 : Int32)), .val (.int (1 : Int32)), .val (.ref a131), .val (.int (2 : Int32)), .unset, .unset, .unset] [(.int c4), (.int (1 : Int32)), (.long (lf1 + (own_lf (1 : Int32) c3)))])) rfl (by rw [hml]; rfl) (argsL := [(.int (1 : Int32)), (.int c4)]) (rest := [(.long (lf1 + (own_lf (1 : Int32) c3)))]) (lenOf pd_4 rfl) rfl (by show 2 * 0 + _ ≤ _; exact Nat.le_of_eq rfl) (hb hby at_584) (fun _ _ => ⟨rfl, el138, (by decide : 5 + 0 ≤ _), (by decide : 12 + 0 ≤ _)⟩)
    dsimp only [Pt.U, Pt.locs, Pt.cells, Pt.slots] at X141 l141 y141 z141 st141 hQ141
    subst l141 y141 z141
    obtain ⟨rfl, M141, el140⟩ := hQ141
    have N141 := Fr.app N139 M141
    refine Goes.pre st141 ?_
    show Goes p e below s 24 128 (Q_0 Z q0 q1 q2 q3 q4 q5 h0 n0) T141 (mkF m 587 #[r0, r1, r2, r3, r4, r5, r6, r7, r8, .val (.int c3), .val (.int c4), r11, .val (.int (0 : Int32)), r13, .val (.ref aB), r15, r16, r17, r18, .val (.int (2 : Int32)), .val (.long (lf1 + own_l1 (own_out c3) + own_l1 (own_out c4))), .second, r22, r23, r24, r25, r26, .val (.long lf1), .second, .val (.int (1 : Int32)), .val (.int (0 : Int32)), .val (.int (1 : Int32)), .val (.int (1 : Int32)), .val (.ref a131), .val (.int (2 : Int32)), .unset, .unset, .unset] [(.long (own_lf (1 : Int32) c4)), (.long (lf1 + (own_lf (1 : Int32) c3)))])
    refine own_ladd (pc' := 588) X141 hx (hb hby at_587) rfl ?_
    refine own_lstore (pc' := 590) X141 hx (hb hby at_588) (Ls' := #[r0, r1, r2, r3, r4, r5, r6, r7, r8, .val (.int c3), .val (.int c4), r11, .val (.int (0 : Int32)), r13, .val (.ref aB), r15, r16, r17, r18, .val (.int (2 : Int32)), .val (.long (lf1 + own_l1 (own_out c3) + own_l1 (own_out c4))), .second, r22, r23, r24, r25, r26, .val (.long lf1), .second, .val (.int (1 : Int32)), .val (.int (0 : Int32)), .val (.int (1 : Int32)), .val (.int (1 : Int32)), .val (.ref a131), .val (.int (2 : Int32)), .val (.long ((lf1 + (own_lf (1 : Int32) c3)) + (own_lf (1 : Int32) c4))), .second, .unset]) rfl rfl ?_
    refine own_iload (pc' := 592) X141 hx (hb hby at_590) rfl rfl ?_
    refine own_iload (pc' := 594) X141 hx (hb hby at_592) rfl rfl ?_
    refine own_icmpN (pc' := 597) X141 hx (hb hby at_594) (by decide) rfl ?_
    refine own_iload (pc' := 599) X141 hx (hb hby at_597) rfl rfl ?_
    refine own_ifN (pc' := 602) X141 hx (hb hby at_599) (by decide) rfl ?_
    refine own_iconst (pc' := 603) X141 hx (hb hby at_602) (v := (0 : Int32)) rfl rfl ?_
    refine own_iload (pc' := 605) X141 hx (hb hby at_603) rfl rfl ?_
    refine own_icmpN (pc' := 608) X141 hx (hb hby at_605) (by decide) rfl ?_
    refine own_aload (pc' := 610) X141 hx (hb hby at_608) rfl rfl rfl ?_
    refine own_iconst (pc' := 611) X141 hx (hb hby at_610) (v := (0 : Int32)) rfl rfl ?_
    refine own_caload (pc' := 612) X141 hx hZ el140 P137_aB (hb hby at_611) (v := (own_out c3)) (by decide) (k := 0) (by decide) rfl rfl ?_
    refine own_aload (pc' := 614) X141 hx (hb hby at_612) rfl rfl rfl ?_
    refine own_iconst (pc' := 615) X141 hx (hb hby at_614) (v := (0 : Int32)) rfl rfl ?_
    refine own_caload (pc' := 616) X141 hx hZ el140 P137x (hb hby at_615) (v := (own_out c3)) (by decide) (k := 0) (by decide) rfl rfl ?_
    refine own_icmpN (pc' := 619) X141 hx (hb hby at_616) (teq rfl).2 rfl ?_
    refine own_iload (pc' := 621) X141 hx (hb hby at_619) rfl rfl ?_
    refine own_iconst (pc' := 622) X141 hx (hb hby at_621) (v := (1 : Int32)) rfl rfl ?_
    refine own_icmpN (pc' := 625) X141 hx (hb hby at_622) (by decide) rfl ?_
    refine own_iconst (pc' := 626) X141 hx (hb hby at_625) (v := (1 : Int32)) rfl rfl ?_
    refine own_iload (pc' := 628) X141 hx (hb hby at_626) rfl rfl ?_
    refine own_icmpN (pc' := 631) X141 hx (hb hby at_628) (by decide) rfl ?_
    refine own_aload (pc' := 633) X141 hx (hb hby at_631) rfl rfl rfl ?_
    refine own_iconst (pc' := 634) X141 hx (hb hby at_633) (v := (1 : Int32)) rfl rfl ?_
    refine own_caload (pc' := 635) X141 hx hZ el140 P137_aB (hb hby at_634) (v := (own_out c4)) (by decide) (k := 1) (by decide) rfl rfl ?_
    refine own_aload (pc' := 637) X141 hx (hb hby at_635) rfl rfl rfl ?_
    refine own_iconst (pc' := 638) X141 hx (hb hby at_637) (v := (1 : Int32)) rfl rfl ?_
    refine own_caload (pc' := 639) X141 hx hZ el140 P137x (hb hby at_638) (v := (own_out c4)) (by decide) (k := 1) (by decide) rfl rfl ?_
    refine own_icmpN (pc' := 642) X141 hx (hb hby at_639) (teq rfl).2 rfl ?_
    refine own_iload (pc' := 644) X141 hx (hb hby at_642) rfl rfl ?_
    refine own_iconst (pc' := 645) X141 hx (hb hby at_644) (v := (1 : Int32)) rfl rfl ?_
    refine own_icmpY X141 hx (hb hby at_645) (by decide) (by decide) (pc' := 657) (by decide) ?_
    refine own_iload (pc' := 659) X141 hx (hb hby at_657) rfl rfl ?_
    refine own_iconst (pc' := 660) X141 hx (hb hby at_659) (v := (2 : Int32)) rfl rfl ?_
    refine own_icmpY X141 hx (hb hby at_660) (by decide) (by decide) (pc' := 672) (by decide) ?_
    refine own_lload (pc' := 674) X141 hx (hb hby at_672) rfl rfl ?_
    refine own_lload (pc' := 676) X141 hx (hb hby at_674) rfl rfl ?_
    refine own_lcmp (pc' := 677) X141 hx (hb hby at_676) rfl ?_
    refine own_ifN (pc' := 680) X141 hx (hb hby at_677) (own_Teq (by simp [own_lf] : (lf1 + own_l1 (own_out c3) + own_l1 (own_out c4)) = ((lf1 + (own_lf (1 : Int32) c3)) + (own_lf (1 : Int32) c4)))).2 rfl ?_
    refine own_iconst (pc' := 681) X141 hx (hb hby at_680) (v := (1 : Int32)) rfl rfl ?_
    refine own_goto X141 hx (hb hby at_681) (by decide) (pc' := 685) (by decide) ?_
    refine own_istore (pc' := 687) X141 hx (hb hby at_685) (Ls' := #[r0, r1, r2, r3, r4, r5, r6, r7, r8, .val (.int c3), .val (.int c4), r11, .val (.int (0 : Int32)), r13, .val (.ref aB), r15, r16, r17, r18, .val (.int (2 : Int32)), .val (.long (lf1 + own_l1 (own_out c3) + own_l1 (own_out c4))), .second, r22, r23, r24, r25, r26, .val (.long lf1), .second, .val (.int (1 : Int32)), .val (.int (0 : Int32)), .val (.int (1 : Int32)), .val (.int (1 : Int32)), .val (.ref a131), .val (.int (2 : Int32)), .val (.long ((lf1 + (own_lf (1 : Int32) c3)) + (own_lf (1 : Int32) c4))), .second, .val (.int (1 : Int32))]) rfl rfl ?_
    refine own_iload (pc' := 689) X141 hx (hb hby at_687) rfl rfl ?_
    refine own_ifN (pc' := 692) X141 hx (hb hby at_689) (by decide) rfl ?_
    refine own_iload (pc' := 694) X141 hx (hb hby at_692) rfl rfl ?_
    refine own_ifN (pc' := 697) X141 hx (hb hby at_694) (by decide) rfl ?_
    refine own_iconst (pc' := 698) X141 hx (hb hby at_697) (v := (1 : Int32)) rfl rfl ?_
    refine own_goto X141 hx (hb hby at_698) (by decide) (pc' := 702) (by decide) ?_
    exact own_retN X141 hx hlk (t := .boolean) hret (by simp) (hb hby at_702) (by decide) (by decide) ⟨rfl, N141⟩
  · refine own_ifN (pc' := 503) X130 hx (hb hby at_500) ((if0 _ _).trans (feq hc500).1) rfl ?_
    refine own_goto X130 hx (hb hby at_503) (by decide) (pc' := 522) (by decide) ?_
    refine own_iconst (pc' := 523) X130 hx (hb hby at_522) (v := (0 : Int32)) rfl rfl ?_
    refine own_istore (pc' := 525) X130 hx (hb hby at_523) (Ls' := #[r0, r1, r2, r3, r4, r5, r6, r7, r8, .val (.int c3), .val (.int c4), r11, .val (.int (0 : Int32)), r13, .val (.ref aB), r15, r16, r17, r18, .val (.int w2.toInt32), .val (.long lf2), .second, r22, r23, r24, r25, r26, .val (.long lf1), .second, .val (.int (1 : Int32)), .val (.int (0 : Int32)), .val (.int (1 : Int32)), .val (.int (0 : Int32)), .unset, .unset, .unset, .unset, .unset]) rfl rfl ?_
    refine own_iconst (pc' := 526) X130 hx (hb hby at_525) (v := (2 : Int32)) rfl rfl ?_
    have hB := ht.trans (own_B00F c3 c4 lf1 hc500)
    simp only [Prod.mk.injEq] at hB
    obtain ⟨rfl, rfl, rfl, rfl⟩ := hB
    show Goes p e below s 24 128 (Q_0 Z q0 q1 q2 q3 q4 q5 h0 n0) T130 (mkF m 526 #[r0, r1, r2, r3, r4, r5, r6, r7, r8, .val (.int c3), .val (.int c4), r11, .val (.int (0 : Int32)), r13, .val (.ref aB), r15, r16, r17, r18, .val (.int (1 : Int32)), .val (.long (lf1 + own_l1 (own_out c3))), .second, r22, r23, r24, r25, r26, .val (.long lf1), .second, .val (.int (1 : Int32)), .val (.int (0 : Int32)), .val (.int (1 : Int32)), .val (.int (0 : Int32)), .unset, .unset, .unset, .unset, .unset] [(.int (2 : Int32))])
    refine own_newarray (pc' := 528) X130 hx hZ (hw _ (List.mem_of_getElem? (i := 5) rfl)) ep129 (hb hby at_526) (k := 2) (cap := 2) rfl (by decide) rfl (by decide) (by decide) (by decide) (by decide) rfl ?_
    intro T142 h142 a142 g142 X142 e142 E142 P142
    show Goes p e below s 24 128 (Q_0 Z q0 q1 q2 q3 q4 q5 h0 n0) T142 (mkF m 528 #[r0, r1, r2, r3, r4, r5, r6, r7, r8, .val (.int c3), .val (.int c4), r11, .val (.int (0 : Int32)), r13, .val (.ref aB), r15, r16, r17, r18, .val (.int (1 : Int32)), .val (.long (lf1 + own_l1 (own_out c3))), .second, r22, r23, r24, r25, r26, .val (.long lf1), .second, .val (.int (1 : Int32)), .val (.int (0 : Int32)), .val (.int (1 : Int32)), .val (.int (0 : Int32)), .unset, .unset, .unset, .unset, .unset] [(.ref a142)])
    have PB := PJ.ext E142
    have ge : n0 ≤ a142 := by rw [g142]; exact ZJ
    have neB : aB ≠ a142 := fun q => absurd (q ▸ PJ.lt) (by rw [g142]; exact Nat.lt_irrefl _)
    have ZE : n0 ≤ Array.size h142 := Nat.le_trans ZJ E142.1
    refine own_astore (pc' := 530) X142 hx (hb hby at_528) rfl (Ls' := #[r0, r1, r2, r3, r4, r5, r6, r7, r8, .val (.int c3), .val (.int c4), r11, .val (.int (0 : Int32)), r13, .val (.ref aB), r15, r16, r17, r18, .val (.int (1 : Int32)), .val (.long (lf1 + own_l1 (own_out c3))), .second, r22, r23, r24, r25, r26, .val (.long lf1), .second, .val (.int (1 : Int32)), .val (.int (0 : Int32)), .val (.int (1 : Int32)), .val (.int (0 : Int32)), .val (.ref a142), .unset, .unset, .unset, .unset]) rfl rfl ?_
    refine own_iload (pc' := 532) X142 hx (hb hby at_530) rfl rfl ?_
    refine own_istore (pc' := 534) X142 hx (hb hby at_532) (Ls' := #[r0, r1, r2, r3, r4, r5, r6, r7, r8, .val (.int c3), .val (.int c4), r11, .val (.int (0 : Int32)), r13, .val (.ref aB), r15, r16, r17, r18, .val (.int (1 : Int32)), .val (.long (lf1 + own_l1 (own_out c3))), .second, r22, r23, r24, r25, r26, .val (.long lf1), .second, .val (.int (1 : Int32)), .val (.int (0 : Int32)), .val (.int (1 : Int32)), .val (.int (0 : Int32)), .val (.ref a142), .val (.int (0 : Int32)), .unset, .unset, .unset]) rfl rfl ?_
    refine own_iload (pc' := 536) X142 hx (hb hby at_534) rfl rfl ?_
    refine own_ifN (pc' := 539) X142 hx (hb hby at_536) (by decide) rfl ?_
    refine own_aload (pc' := 541) X142 hx (hb hby at_539) rfl rfl rfl ?_
    refine own_iload (pc' := 543) X142 hx (hb hby at_541) rfl rfl ?_
    refine own_iload (pc' := 545) X142 hx (hb hby at_543) rfl rfl ?_
    obtain ⟨_, _, ⟨T144, L144, k144, n144⟩, -, X144, ⟨Lc144, hQ144, l144, y144, z144⟩, st144⟩ := Jvm.LawKit.callS X142 hx (y := (⟨"com/example/dipper/dipper/core/LineEndsNormalizePinLaw", "out", "(C)C"⟩ : MethodName)) hown (mvT hZ (hw _ (List.mem_of_getElem? (i := 32) rfl))) (mvT hZ (hw _ (List.mem_of_getElem? (i := 33) rfl))) (mvT hZ (hw _ (List.mem_of_getElem? (i := 2) rfl))) (mvT hZ (hw _ (List.mem_of_getElem? (i := 34) rfl))) (by decide) (backOf (W := 2) (rm_2 l Z a0 hw [] c3 h142 n0 ZE hC3) hZ (hw _ (List.mem_of_getElem? (i := 34) rfl)) (hw _ (List.mem_of_getElem? (i := 2) rfl)) (by decide) (by decide)) (g := (mkF m 545 #[r0, r1, r2, r3, r4, r5, r6, r7, r8, .val (.int c3), .val (.int c4), r11, .val (.int (0 : Int32)), r13, .val (.ref aB), r15, r16, r17, r18, .val (.int (1 : Int32)), .val (.long (lf1 + own_l1 (own_out c3))), .second, r22, r23, r24, r25, r26, .val (.long lf1), .second, .val (.int (1 : Int32)), .val (.int (0 : Int32)), .val (.int (1 : Int32)), .val (.int (0 : Int32)), .val (.ref a142), .val (.int (0 : Int32)), .unset, .unset, .unset] [(.int c3), (.int (0 : Int32)), (.ref a142)])) rfl (by rw [hml]; rfl) (argsL := [(.int c3)]) (rest := [(.int (0 : Int32)), (.ref a142)]) (lenOf pd_2 rfl) rfl (by show 2 * 0 + _ ≤ _; exact Nat.le_of_eq rfl) (hb hby at_545) (fun _ _ => ⟨rfl, e142, (by decide : 5 + 0 ≤ _), (by decide : 12 + 0 ≤ _)⟩)
    dsimp only [Pt.U, Pt.locs, Pt.cells, Pt.slots] at X144 l144 y144 z144 st144 hQ144
    subst l144 y144 z144
    obtain ⟨rfl, M144, eo143⟩ := hQ144
    have N144 := Fr.app N130 M144
    refine Goes.pre st144 ?_
    show Goes p e below s 24 128 (Q_0 Z q0 q1 q2 q3 q4 q5 h0 n0) T144 (mkF m 548 #[r0, r1, r2, r3, r4, r5, r6, r7, r8, .val (.int c3), .val (.int c4), r11, .val (.int (0 : Int32)), r13, .val (.ref aB), r15, r16, r17, r18, .val (.int (1 : Int32)), .val (.long (lf1 + own_l1 (own_out c3))), .second, r22, r23, r24, r25, r26, .val (.long lf1), .second, .val (.int (1 : Int32)), .val (.int (0 : Int32)), .val (.int (1 : Int32)), .val (.int (0 : Int32)), .val (.ref a142), .val (.int (0 : Int32)), .unset, .unset, .unset] [(.int (own_out c3)), (.int (0 : Int32)), (.ref a142)])
    refine own_castore (pc' := 549) X144 hx hZ eo143 P142 (hb hby at_548) (own_nar (own_outC hC3)) (by decide) (k := 0) (by decide) (by simp) rfl ?_
    intro T145 h145 X145 e145 W145 P145
    have N145 := Fr.snoc X145 N144 ge
    have P145_aB := PB.other W145 neB
    have Z145 : n0 ≤ Array.size h145 := by rw [W145.size]; exact ZE
    show Goes p e below s 24 128 (Q_0 Z q0 q1 q2 q3 q4 q5 h0 n0) T145 (mkF m 549 #[r0, r1, r2, r3, r4, r5, r6, r7, r8, .val (.int c3), .val (.int c4), r11, .val (.int (0 : Int32)), r13, .val (.ref aB), r15, r16, r17, r18, .val (.int (1 : Int32)), .val (.long (lf1 + own_l1 (own_out c3))), .second, r22, r23, r24, r25, r26, .val (.long lf1), .second, .val (.int (1 : Int32)), .val (.int (0 : Int32)), .val (.int (1 : Int32)), .val (.int (0 : Int32)), .val (.ref a142), .val (.int (0 : Int32)), .unset, .unset, .unset] [])
    have P145x : own_PA Z h145 a142 .char [(own_out c3), (0 : Int32)] := P145
    refine own_iinc (pc' := 552) X145 hx (hb hby at_549) rfl (y := (1 : Int32)) (by decide) (Ls' := #[r0, r1, r2, r3, r4, r5, r6, r7, r8, .val (.int c3), .val (.int c4), r11, .val (.int (0 : Int32)), r13, .val (.ref aB), r15, r16, r17, r18, .val (.int (1 : Int32)), .val (.long (lf1 + own_l1 (own_out c3))), .second, r22, r23, r24, r25, r26, .val (.long lf1), .second, .val (.int (1 : Int32)), .val (.int (0 : Int32)), .val (.int (1 : Int32)), .val (.int (0 : Int32)), .val (.ref a142), .val (.int (1 : Int32)), .unset, .unset, .unset]) rfl rfl ?_
    refine own_iload (pc' := 554) X145 hx (hb hby at_552) rfl rfl ?_
    refine own_ifY X145 hx (hb hby at_554) (by decide) (by decide) (pc' := 570) (by decide) ?_
    refine own_lload (pc' := 572) X145 hx (hb hby at_570) rfl rfl ?_
    refine own_iload (pc' := 574) X145 hx (hb hby at_572) rfl rfl ?_
    refine own_iload (pc' := 576) X145 hx (hb hby at_574) rfl rfl ?_
    obtain ⟨_, _, ⟨T147, L147, k147, n147⟩, -, X147, ⟨Lc147, hQ147, l147, y147, z147⟩, st147⟩ := Jvm.LawKit.callS X145 hx (y := (⟨"com/example/dipper/dipper/core/LineEndsNormalizePinLaw", "lf", "(ZC)J"⟩ : MethodName)) hown (mvT hZ (hw _ (List.mem_of_getElem? (i := 35) rfl))) (mvT hZ (hw _ (List.mem_of_getElem? (i := 36) rfl))) (mvT hZ (hw _ (List.mem_of_getElem? (i := 2) rfl))) (mvT hZ (hw _ (List.mem_of_getElem? (i := 37) rfl))) (by decide) (backOf (W := 2) (rm_4 l Z a0 hw [] (1 : Int32) c3 h145 n0 Z145 hC3) hZ (hw _ (List.mem_of_getElem? (i := 37) rfl)) (hw _ (List.mem_of_getElem? (i := 2) rfl)) (by decide) (by decide)) (g := (mkF m 576 #[r0, r1, r2, r3, r4, r5, r6, r7, r8, .val (.int c3), .val (.int c4), r11, .val (.int (0 : Int32)), r13, .val (.ref aB), r15, r16, r17, r18, .val (.int (1 : Int32)), .val (.long (lf1 + own_l1 (own_out c3))), .second, r22, r23, r24, r25, r26, .val (.long lf1), .second, .val (.int (1 : Int32)), .val (.int (0 : Int32)), .val (.int (1 : Int32)), .val (.int (0 : Int32)), .val (.ref a142), .val (.int (1 : Int32)), .unset, .unset, .unset] [(.int c3), (.int (1 : Int32)), (.long lf1)])) rfl (by rw [hml]; rfl) (argsL := [(.int (1 : Int32)), (.int c3)]) (rest := [(.long lf1)]) (lenOf pd_4 rfl) rfl (by show 2 * 0 + _ ≤ _; exact Nat.le_of_eq rfl) (hb hby at_576) (fun _ _ => ⟨rfl, e145, (by decide : 5 + 0 ≤ _), (by decide : 12 + 0 ≤ _)⟩)
    dsimp only [Pt.U, Pt.locs, Pt.cells, Pt.slots] at X147 l147 y147 z147 st147 hQ147
    subst l147 y147 z147
    obtain ⟨rfl, M147, el146⟩ := hQ147
    have N147 := Fr.app N145 M147
    refine Goes.pre st147 ?_
    show Goes p e below s 24 128 (Q_0 Z q0 q1 q2 q3 q4 q5 h0 n0) T147 (mkF m 579 #[r0, r1, r2, r3, r4, r5, r6, r7, r8, .val (.int c3), .val (.int c4), r11, .val (.int (0 : Int32)), r13, .val (.ref aB), r15, r16, r17, r18, .val (.int (1 : Int32)), .val (.long (lf1 + own_l1 (own_out c3))), .second, r22, r23, r24, r25, r26, .val (.long lf1), .second, .val (.int (1 : Int32)), .val (.int (0 : Int32)), .val (.int (1 : Int32)), .val (.int (0 : Int32)), .val (.ref a142), .val (.int (1 : Int32)), .unset, .unset, .unset] [(.long (own_lf (1 : Int32) c3)), (.long lf1)])
    refine own_ladd (pc' := 580) X147 hx (hb hby at_579) rfl ?_
    refine own_iload (pc' := 582) X147 hx (hb hby at_580) rfl rfl ?_
    refine own_iload (pc' := 584) X147 hx (hb hby at_582) rfl rfl ?_
    obtain ⟨_, _, ⟨T149, L149, k149, n149⟩, -, X149, ⟨Lc149, hQ149, l149, y149, z149⟩, st149⟩ := Jvm.LawKit.callS X147 hx (y := (⟨"com/example/dipper/dipper/core/LineEndsNormalizePinLaw", "lf", "(ZC)J"⟩ : MethodName)) hown (mvT hZ (hw _ (List.mem_of_getElem? (i := 35) rfl))) (mvT hZ (hw _ (List.mem_of_getElem? (i := 36) rfl))) (mvT hZ (hw _ (List.mem_of_getElem? (i := 2) rfl))) (mvT hZ (hw _ (List.mem_of_getElem? (i := 37) rfl))) (by decide) (backOf (W := 2) (rm_4 l Z a0 hw [] (0 : Int32) c4 h145 n0 Z145 hC4) hZ (hw _ (List.mem_of_getElem? (i := 37) rfl)) (hw _ (List.mem_of_getElem? (i := 2) rfl)) (by decide) (by decide)) (g := (mkF m 584 #[r0, r1, r2, r3, r4, r5, r6, r7, r8, .val (.int c3), .val (.int c4), r11, .val (.int (0 : Int32)), r13, .val (.ref aB), r15, r16, r17, r18, .val (.int (1 : Int32)), .val (.long (lf1 + own_l1 (own_out c3))), .second, r22, r23, r24, r25, r26, .val (.long lf1), .second, .val (.int (1 : Int32)), .val (.int (0 : Int32)), .val (.int (1 : Int32)), .val (.int (0 : Int32)), .val (.ref a142), .val (.int (1 : Int32)), .unset, .unset, .unset] [(.int c4), (.int (0 : Int32)), (.long (lf1 + (own_lf (1 : Int32) c3)))])) rfl (by rw [hml]; rfl) (argsL := [(.int (0 : Int32)), (.int c4)]) (rest := [(.long (lf1 + (own_lf (1 : Int32) c3)))]) (lenOf pd_4 rfl) rfl (by show 2 * 0 + _ ≤ _; exact Nat.le_of_eq rfl) (hb hby at_584) (fun _ _ => ⟨rfl, el146, (by decide : 5 + 0 ≤ _), (by decide : 12 + 0 ≤ _)⟩)
    dsimp only [Pt.U, Pt.locs, Pt.cells, Pt.slots] at X149 l149 y149 z149 st149 hQ149
    subst l149 y149 z149
    obtain ⟨rfl, M149, el148⟩ := hQ149
    have N149 := Fr.app N147 M149
    refine Goes.pre st149 ?_
    show Goes p e below s 24 128 (Q_0 Z q0 q1 q2 q3 q4 q5 h0 n0) T149 (mkF m 587 #[r0, r1, r2, r3, r4, r5, r6, r7, r8, .val (.int c3), .val (.int c4), r11, .val (.int (0 : Int32)), r13, .val (.ref aB), r15, r16, r17, r18, .val (.int (1 : Int32)), .val (.long (lf1 + own_l1 (own_out c3))), .second, r22, r23, r24, r25, r26, .val (.long lf1), .second, .val (.int (1 : Int32)), .val (.int (0 : Int32)), .val (.int (1 : Int32)), .val (.int (0 : Int32)), .val (.ref a142), .val (.int (1 : Int32)), .unset, .unset, .unset] [(.long (own_lf (0 : Int32) c4)), (.long (lf1 + (own_lf (1 : Int32) c3)))])
    refine own_ladd (pc' := 588) X149 hx (hb hby at_587) rfl ?_
    refine own_lstore (pc' := 590) X149 hx (hb hby at_588) (Ls' := #[r0, r1, r2, r3, r4, r5, r6, r7, r8, .val (.int c3), .val (.int c4), r11, .val (.int (0 : Int32)), r13, .val (.ref aB), r15, r16, r17, r18, .val (.int (1 : Int32)), .val (.long (lf1 + own_l1 (own_out c3))), .second, r22, r23, r24, r25, r26, .val (.long lf1), .second, .val (.int (1 : Int32)), .val (.int (0 : Int32)), .val (.int (1 : Int32)), .val (.int (0 : Int32)), .val (.ref a142), .val (.int (1 : Int32)), .val (.long ((lf1 + (own_lf (1 : Int32) c3)) + (own_lf (0 : Int32) c4))), .second, .unset]) rfl rfl ?_
    refine own_iload (pc' := 592) X149 hx (hb hby at_590) rfl rfl ?_
    refine own_iload (pc' := 594) X149 hx (hb hby at_592) rfl rfl ?_
    refine own_icmpN (pc' := 597) X149 hx (hb hby at_594) (by decide) rfl ?_
    refine own_iload (pc' := 599) X149 hx (hb hby at_597) rfl rfl ?_
    refine own_ifN (pc' := 602) X149 hx (hb hby at_599) (by decide) rfl ?_
    refine own_iconst (pc' := 603) X149 hx (hb hby at_602) (v := (0 : Int32)) rfl rfl ?_
    refine own_iload (pc' := 605) X149 hx (hb hby at_603) rfl rfl ?_
    refine own_icmpN (pc' := 608) X149 hx (hb hby at_605) (by decide) rfl ?_
    refine own_aload (pc' := 610) X149 hx (hb hby at_608) rfl rfl rfl ?_
    refine own_iconst (pc' := 611) X149 hx (hb hby at_610) (v := (0 : Int32)) rfl rfl ?_
    refine own_caload (pc' := 612) X149 hx hZ el148 P145_aB (hb hby at_611) (v := (own_out c3)) (by decide) (k := 0) (by decide) rfl rfl ?_
    refine own_aload (pc' := 614) X149 hx (hb hby at_612) rfl rfl rfl ?_
    refine own_iconst (pc' := 615) X149 hx (hb hby at_614) (v := (0 : Int32)) rfl rfl ?_
    refine own_caload (pc' := 616) X149 hx hZ el148 P145x (hb hby at_615) (v := (own_out c3)) (by decide) (k := 0) (by decide) rfl rfl ?_
    refine own_icmpN (pc' := 619) X149 hx (hb hby at_616) (teq rfl).2 rfl ?_
    refine own_iload (pc' := 621) X149 hx (hb hby at_619) rfl rfl ?_
    refine own_iconst (pc' := 622) X149 hx (hb hby at_621) (v := (1 : Int32)) rfl rfl ?_
    refine own_icmpN (pc' := 625) X149 hx (hb hby at_622) (by decide) rfl ?_
    refine own_iconst (pc' := 626) X149 hx (hb hby at_625) (v := (1 : Int32)) rfl rfl ?_
    refine own_iload (pc' := 628) X149 hx (hb hby at_626) rfl rfl ?_
    refine own_icmpY X149 hx (hb hby at_628) (by decide) (by decide) (pc' := 642) (by decide) ?_
    refine own_iload (pc' := 644) X149 hx (hb hby at_642) rfl rfl ?_
    refine own_iconst (pc' := 645) X149 hx (hb hby at_644) (v := (1 : Int32)) rfl rfl ?_
    refine own_icmpY X149 hx (hb hby at_645) (by decide) (by decide) (pc' := 657) (by decide) ?_
    refine own_iload (pc' := 659) X149 hx (hb hby at_657) rfl rfl ?_
    refine own_iconst (pc' := 660) X149 hx (hb hby at_659) (v := (2 : Int32)) rfl rfl ?_
    refine own_icmpY X149 hx (hb hby at_660) (by decide) (by decide) (pc' := 672) (by decide) ?_
    refine own_lload (pc' := 674) X149 hx (hb hby at_672) rfl rfl ?_
    refine own_lload (pc' := 676) X149 hx (hb hby at_674) rfl rfl ?_
    refine own_lcmp (pc' := 677) X149 hx (hb hby at_676) rfl ?_
    refine own_ifN (pc' := 680) X149 hx (hb hby at_677) (own_Teq (by simp [own_lf] : (lf1 + own_l1 (own_out c3)) = ((lf1 + (own_lf (1 : Int32) c3)) + (own_lf (0 : Int32) c4)))).2 rfl ?_
    refine own_iconst (pc' := 681) X149 hx (hb hby at_680) (v := (1 : Int32)) rfl rfl ?_
    refine own_goto X149 hx (hb hby at_681) (by decide) (pc' := 685) (by decide) ?_
    refine own_istore (pc' := 687) X149 hx (hb hby at_685) (Ls' := #[r0, r1, r2, r3, r4, r5, r6, r7, r8, .val (.int c3), .val (.int c4), r11, .val (.int (0 : Int32)), r13, .val (.ref aB), r15, r16, r17, r18, .val (.int (1 : Int32)), .val (.long (lf1 + own_l1 (own_out c3))), .second, r22, r23, r24, r25, r26, .val (.long lf1), .second, .val (.int (1 : Int32)), .val (.int (0 : Int32)), .val (.int (1 : Int32)), .val (.int (0 : Int32)), .val (.ref a142), .val (.int (1 : Int32)), .val (.long ((lf1 + (own_lf (1 : Int32) c3)) + (own_lf (0 : Int32) c4))), .second, .val (.int (1 : Int32))]) rfl rfl ?_
    refine own_iload (pc' := 689) X149 hx (hb hby at_687) rfl rfl ?_
    refine own_ifN (pc' := 692) X149 hx (hb hby at_689) (by decide) rfl ?_
    refine own_iload (pc' := 694) X149 hx (hb hby at_692) rfl rfl ?_
    refine own_ifN (pc' := 697) X149 hx (hb hby at_694) (by decide) rfl ?_
    refine own_iconst (pc' := 698) X149 hx (hb hby at_697) (v := (1 : Int32)) rfl rfl ?_
    refine own_goto X149 hx (hb hby at_698) (by decide) (pc' := 702) (by decide) ?_
    exact own_retN X149 hx hlk (t := .boolean) hret (by simp) (hb hby at_702) (by decide) (by decide) ⟨rfl, N149⟩
set_option maxRecDepth 65536 in
set_option maxHeartbeats 40000000 in
theorem own_tB01 {p : Program} {l : Launch} {e : Env} {s : State} {m : MethodId} {below : List Frame} {meth : Method} {c : Code} {Z : State} {a0 : Array Value} (hw : ∀ d ∈ tables_1, d.before a0 Z = true) (q0 q1 q2 q3 q4 q5 : Int32) (h0 : Heap) (n0 : Nat) (Z0 : n0 ≤ Array.size h0) (hx : p.tables.exec = Jvm.exec) (hby : c.code = code) (hlk : meth.locks = false) (hml : c.maxLocals = 38) (hown : s.vm.findClass "com/example/dipper/dipper/core/LineEndsNormalizePinLaw" = some m.cls) (hZ : Z.Warmed39 s.vm) (hret : meth.sig.returnType = some .boolean) : ∀ (TJ : State) (hJ : Heap) (LJ : List Loc) (aB : Addr) (c3 c4 : Int32) (lf1 lf2 : Int64) (w2 : Nat) (vs2 : List Int32) (af2 : Int32) (r0 r1 r2 r3 r4 r5 r6 r7 r8 r11 r13 r15 r16 r17 r18 r22 r23 r24 r25 r26 : Slot), own_C c3 → own_C c4 → Stand p l e room_1 s m #[(.int q0), (.int q1), (.int q2), (.int q3), (.int q4), (.int q5)] below meth c TJ LJ 4 10 → TJ.heap = hJ → Fr n0 LJ → n0 ≤ Array.size hJ → own_PA Z hJ aB .char vs2 → (w2, vs2, af2, lf2) = own_nl (2 - 0) 0 0 [c3, c4] (1 : Int32) lf1 → Goes p e below s 24 128 (Q_0 Z q0 q1 q2 q3 q4 q5 h0 n0) TJ (mkF m 458 #[r0, r1, r2, r3, r4, r5, r6, r7, r8, .val (.int c3), .val (.int c4), r11, .val (.int (0 : Int32)), r13, .val (.ref aB), r15, r16, r17, r18, .val (.int w2.toInt32), .val (.long lf2), .second, r22, r23, r24, r25, r26, .val (.long lf1), .second, .val (.int (1 : Int32)), .val (.int (1 : Int32)), .unset, .unset, .unset, .unset, .unset, .unset, .unset] []) := by
  intro TJ hJ LJ aB c3 c4 lf1 lf2 w2 vs2 af2 r0 r1 r2 r3 r4 r5 r6 r7 r8 r11 r13 r15 r16 r17 r18 r22 r23 r24 r25 r26 hC3 hC4 XJ eJ NJ ZJ PJ ht
  refine own_iload (pc' := 460) XJ hx (hb hby at_458) rfl rfl ?_
  refine own_ifN (pc' := 463) XJ hx (hb hby at_460) (by decide) rfl ?_
  refine own_iload (pc' := 465) XJ hx (hb hby at_463) rfl rfl ?_
  refine own_ifN (pc' := 468) XJ hx (hb hby at_465) (by decide) rfl ?_
  refine own_iload (pc' := 470) XJ hx (hb hby at_468) rfl rfl ?_
  refine own_bipush (pc' := 472) XJ hx (hb hby at_470) (v := (10 : Int32)) rfl rfl ?_
  by_cases hc472 : c3 = (10 : Int32)
  · refine own_icmpY XJ hx (hb hby at_472) (teq hc472).1 (by decide) (pc' := 479) (by decide) ?_
    refine own_iconst (pc' := 480) XJ hx (hb hby at_479) (v := (0 : Int32)) rfl rfl ?_
    refine own_istore (pc' := 482) XJ hx (hb hby at_480) (Ls' := #[r0, r1, r2, r3, r4, r5, r6, r7, r8, .val (.int c3), .val (.int c4), r11, .val (.int (0 : Int32)), r13, .val (.ref aB), r15, r16, r17, r18, .val (.int w2.toInt32), .val (.long lf2), .second, r22, r23, r24, r25, r26, .val (.long lf1), .second, .val (.int (1 : Int32)), .val (.int (1 : Int32)), .val (.int (0 : Int32)), .unset, .unset, .unset, .unset, .unset, .unset]) rfl rfl ?_
    refine own_iload (pc' := 484) XJ hx (hb hby at_482) rfl rfl ?_
    refine own_iconst (pc' := 485) XJ hx (hb hby at_484) (v := (1 : Int32)) rfl rfl ?_
    refine own_icmpN (pc' := 488) XJ hx (hb hby at_485) (by decide) rfl ?_
    refine own_iload (pc' := 490) XJ hx (hb hby at_488) rfl rfl ?_
    refine own_ifN (pc' := 493) XJ hx (hb hby at_490) (by decide) rfl ?_
    refine own_iload (pc' := 495) XJ hx (hb hby at_493) rfl rfl ?_
    refine own_iload (pc' := 497) XJ hx (hb hby at_495) rfl rfl ?_
    obtain ⟨_, _, ⟨T151, L151, k151, n151⟩, -, X151, ⟨Lc151, hQ151, l151, y151, z151⟩, st151⟩ := Jvm.LawKit.callS XJ hx (y := (⟨"com/example/dipper/dipper/core/LineEndsNormalizePinLaw", "pairs", "(CC)Z"⟩ : MethodName)) hown (mvT hZ (hw _ (List.mem_of_getElem? (i := 29) rfl))) (mvT hZ (hw _ (List.mem_of_getElem? (i := 30) rfl))) (mvT hZ (hw _ (List.mem_of_getElem? (i := 2) rfl))) (mvT hZ (hw _ (List.mem_of_getElem? (i := 31) rfl))) (by decide) (backOf (W := 0) (rm_3 l Z a0 hw [] c3 c4 hJ n0 ZJ) hZ (hw _ (List.mem_of_getElem? (i := 31) rfl)) (hw _ (List.mem_of_getElem? (i := 2) rfl)) (by decide) (by decide)) (g := (mkF m 497 #[r0, r1, r2, r3, r4, r5, r6, r7, r8, .val (.int c3), .val (.int c4), r11, .val (.int (0 : Int32)), r13, .val (.ref aB), r15, r16, r17, r18, .val (.int w2.toInt32), .val (.long lf2), .second, r22, r23, r24, r25, r26, .val (.long lf1), .second, .val (.int (1 : Int32)), .val (.int (1 : Int32)), .val (.int (0 : Int32)), .unset, .unset, .unset, .unset, .unset, .unset] [(.int c4), (.int c3)])) rfl (by rw [hml]; rfl) (argsL := [(.int c3), (.int c4)]) (rest := []) (lenOf pd_3 rfl) rfl (by show 2 * 0 + _ ≤ _; exact Nat.le_of_eq rfl) (hb hby at_497) (fun _ _ => ⟨rfl, eJ, (by decide : 4 + 0 ≤ _), (by decide : 10 + 0 ≤ _)⟩)
    dsimp only [Pt.U, Pt.locs, Pt.cells, Pt.slots] at X151 l151 y151 z151 st151 hQ151
    subst l151 y151 z151
    obtain ⟨rfl, M151, ep150⟩ := hQ151
    have N151 := Fr.app NJ M151
    refine Goes.pre st151 ?_
    show Goes p e below s 24 128 (Q_0 Z q0 q1 q2 q3 q4 q5 h0 n0) T151 (mkF m 500 #[r0, r1, r2, r3, r4, r5, r6, r7, r8, .val (.int c3), .val (.int c4), r11, .val (.int (0 : Int32)), r13, .val (.ref aB), r15, r16, r17, r18, .val (.int w2.toInt32), .val (.long lf2), .second, r22, r23, r24, r25, r26, .val (.long lf1), .second, .val (.int (1 : Int32)), .val (.int (1 : Int32)), .val (.int (0 : Int32)), .unset, .unset, .unset, .unset, .unset, .unset] [(.int (own_pairs c3 c4))])
    by_cases hc500 : (own_pairs c3 c4) = (0 : Int32)
    · refine own_ifY X151 hx (hb hby at_500) ((if0 _ _).trans (teq hc500).1) (by decide) (pc' := 518) (by decide) ?_
      refine own_iconst (pc' := 519) X151 hx (hb hby at_518) (v := (1 : Int32)) rfl rfl ?_
      refine own_goto X151 hx (hb hby at_519) (by decide) (pc' := 523) (by decide) ?_
      refine own_istore (pc' := 525) X151 hx (hb hby at_523) (Ls' := #[r0, r1, r2, r3, r4, r5, r6, r7, r8, .val (.int c3), .val (.int c4), r11, .val (.int (0 : Int32)), r13, .val (.ref aB), r15, r16, r17, r18, .val (.int w2.toInt32), .val (.long lf2), .second, r22, r23, r24, r25, r26, .val (.long lf1), .second, .val (.int (1 : Int32)), .val (.int (1 : Int32)), .val (.int (0 : Int32)), .val (.int (1 : Int32)), .unset, .unset, .unset, .unset, .unset]) rfl rfl ?_
      refine own_iconst (pc' := 526) X151 hx (hb hby at_525) (v := (2 : Int32)) rfl rfl ?_
      have hB := ht.trans (own_B01T c3 c4 lf1 hc472)
      simp only [Prod.mk.injEq] at hB
      obtain ⟨rfl, rfl, rfl, rfl⟩ := hB
      show Goes p e below s 24 128 (Q_0 Z q0 q1 q2 q3 q4 q5 h0 n0) T151 (mkF m 526 #[r0, r1, r2, r3, r4, r5, r6, r7, r8, .val (.int c3), .val (.int c4), r11, .val (.int (0 : Int32)), r13, .val (.ref aB), r15, r16, r17, r18, .val (.int (1 : Int32)), .val (.long (lf1 + own_l1 (own_out c4))), .second, r22, r23, r24, r25, r26, .val (.long lf1), .second, .val (.int (1 : Int32)), .val (.int (1 : Int32)), .val (.int (0 : Int32)), .val (.int (1 : Int32)), .unset, .unset, .unset, .unset, .unset] [(.int (2 : Int32))])
      refine own_newarray (pc' := 528) X151 hx hZ (hw _ (List.mem_of_getElem? (i := 5) rfl)) ep150 (hb hby at_526) (k := 2) (cap := 2) rfl (by decide) rfl (by decide) (by decide) (by decide) (by decide) rfl ?_
      intro T152 h152 a152 g152 X152 e152 E152 P152
      show Goes p e below s 24 128 (Q_0 Z q0 q1 q2 q3 q4 q5 h0 n0) T152 (mkF m 528 #[r0, r1, r2, r3, r4, r5, r6, r7, r8, .val (.int c3), .val (.int c4), r11, .val (.int (0 : Int32)), r13, .val (.ref aB), r15, r16, r17, r18, .val (.int (1 : Int32)), .val (.long (lf1 + own_l1 (own_out c4))), .second, r22, r23, r24, r25, r26, .val (.long lf1), .second, .val (.int (1 : Int32)), .val (.int (1 : Int32)), .val (.int (0 : Int32)), .val (.int (1 : Int32)), .unset, .unset, .unset, .unset, .unset] [(.ref a152)])
      have PB := PJ.ext E152
      have ge : n0 ≤ a152 := by rw [g152]; exact ZJ
      have neB : aB ≠ a152 := fun q => absurd (q ▸ PJ.lt) (by rw [g152]; exact Nat.lt_irrefl _)
      have ZE : n0 ≤ Array.size h152 := Nat.le_trans ZJ E152.1
      refine own_astore (pc' := 530) X152 hx (hb hby at_528) rfl (Ls' := #[r0, r1, r2, r3, r4, r5, r6, r7, r8, .val (.int c3), .val (.int c4), r11, .val (.int (0 : Int32)), r13, .val (.ref aB), r15, r16, r17, r18, .val (.int (1 : Int32)), .val (.long (lf1 + own_l1 (own_out c4))), .second, r22, r23, r24, r25, r26, .val (.long lf1), .second, .val (.int (1 : Int32)), .val (.int (1 : Int32)), .val (.int (0 : Int32)), .val (.int (1 : Int32)), .val (.ref a152), .unset, .unset, .unset, .unset]) rfl rfl ?_
      refine own_iload (pc' := 532) X152 hx (hb hby at_530) rfl rfl ?_
      refine own_istore (pc' := 534) X152 hx (hb hby at_532) (Ls' := #[r0, r1, r2, r3, r4, r5, r6, r7, r8, .val (.int c3), .val (.int c4), r11, .val (.int (0 : Int32)), r13, .val (.ref aB), r15, r16, r17, r18, .val (.int (1 : Int32)), .val (.long (lf1 + own_l1 (own_out c4))), .second, r22, r23, r24, r25, r26, .val (.long lf1), .second, .val (.int (1 : Int32)), .val (.int (1 : Int32)), .val (.int (0 : Int32)), .val (.int (1 : Int32)), .val (.ref a152), .val (.int (0 : Int32)), .unset, .unset, .unset]) rfl rfl ?_
      refine own_iload (pc' := 536) X152 hx (hb hby at_534) rfl rfl ?_
      refine own_ifY X152 hx (hb hby at_536) (by decide) (by decide) (pc' := 552) (by decide) ?_
      refine own_iload (pc' := 554) X152 hx (hb hby at_552) rfl rfl ?_
      refine own_ifN (pc' := 557) X152 hx (hb hby at_554) (by decide) rfl ?_
      refine own_aload (pc' := 559) X152 hx (hb hby at_557) rfl rfl rfl ?_
      refine own_iload (pc' := 561) X152 hx (hb hby at_559) rfl rfl ?_
      refine own_iload (pc' := 563) X152 hx (hb hby at_561) rfl rfl ?_
      obtain ⟨_, _, ⟨T154, L154, k154, n154⟩, -, X154, ⟨Lc154, hQ154, l154, y154, z154⟩, st154⟩ := Jvm.LawKit.callS X152 hx (y := (⟨"com/example/dipper/dipper/core/LineEndsNormalizePinLaw", "out", "(C)C"⟩ : MethodName)) hown (mvT hZ (hw _ (List.mem_of_getElem? (i := 32) rfl))) (mvT hZ (hw _ (List.mem_of_getElem? (i := 33) rfl))) (mvT hZ (hw _ (List.mem_of_getElem? (i := 2) rfl))) (mvT hZ (hw _ (List.mem_of_getElem? (i := 34) rfl))) (by decide) (backOf (W := 2) (rm_2 l Z a0 hw [] c4 h152 n0 ZE hC4) hZ (hw _ (List.mem_of_getElem? (i := 34) rfl)) (hw _ (List.mem_of_getElem? (i := 2) rfl)) (by decide) (by decide)) (g := (mkF m 563 #[r0, r1, r2, r3, r4, r5, r6, r7, r8, .val (.int c3), .val (.int c4), r11, .val (.int (0 : Int32)), r13, .val (.ref aB), r15, r16, r17, r18, .val (.int (1 : Int32)), .val (.long (lf1 + own_l1 (own_out c4))), .second, r22, r23, r24, r25, r26, .val (.long lf1), .second, .val (.int (1 : Int32)), .val (.int (1 : Int32)), .val (.int (0 : Int32)), .val (.int (1 : Int32)), .val (.ref a152), .val (.int (0 : Int32)), .unset, .unset, .unset] [(.int c4), (.int (0 : Int32)), (.ref a152)])) rfl (by rw [hml]; rfl) (argsL := [(.int c4)]) (rest := [(.int (0 : Int32)), (.ref a152)]) (lenOf pd_2 rfl) rfl (by show 2 * 0 + _ ≤ _; exact Nat.le_of_eq rfl) (hb hby at_563) (fun _ _ => ⟨rfl, e152, (by decide : 5 + 0 ≤ _), (by decide : 12 + 0 ≤ _)⟩)
      dsimp only [Pt.U, Pt.locs, Pt.cells, Pt.slots] at X154 l154 y154 z154 st154 hQ154
      subst l154 y154 z154
      obtain ⟨rfl, M154, eo153⟩ := hQ154
      have N154 := Fr.app N151 M154
      refine Goes.pre st154 ?_
      show Goes p e below s 24 128 (Q_0 Z q0 q1 q2 q3 q4 q5 h0 n0) T154 (mkF m 566 #[r0, r1, r2, r3, r4, r5, r6, r7, r8, .val (.int c3), .val (.int c4), r11, .val (.int (0 : Int32)), r13, .val (.ref aB), r15, r16, r17, r18, .val (.int (1 : Int32)), .val (.long (lf1 + own_l1 (own_out c4))), .second, r22, r23, r24, r25, r26, .val (.long lf1), .second, .val (.int (1 : Int32)), .val (.int (1 : Int32)), .val (.int (0 : Int32)), .val (.int (1 : Int32)), .val (.ref a152), .val (.int (0 : Int32)), .unset, .unset, .unset] [(.int (own_out c4)), (.int (0 : Int32)), (.ref a152)])
      refine own_castore (pc' := 567) X154 hx hZ eo153 P152 (hb hby at_566) (own_nar (own_outC hC4)) (by decide) (k := 0) (by decide) (by simp) rfl ?_
      intro T155 h155 X155 e155 W155 P155
      have N155 := Fr.snoc X155 N154 ge
      have P155_aB := PB.other W155 neB
      have Z155 : n0 ≤ Array.size h155 := by rw [W155.size]; exact ZE
      show Goes p e below s 24 128 (Q_0 Z q0 q1 q2 q3 q4 q5 h0 n0) T155 (mkF m 567 #[r0, r1, r2, r3, r4, r5, r6, r7, r8, .val (.int c3), .val (.int c4), r11, .val (.int (0 : Int32)), r13, .val (.ref aB), r15, r16, r17, r18, .val (.int (1 : Int32)), .val (.long (lf1 + own_l1 (own_out c4))), .second, r22, r23, r24, r25, r26, .val (.long lf1), .second, .val (.int (1 : Int32)), .val (.int (1 : Int32)), .val (.int (0 : Int32)), .val (.int (1 : Int32)), .val (.ref a152), .val (.int (0 : Int32)), .unset, .unset, .unset] [])
      have P155x : own_PA Z h155 a152 .char [(own_out c4), (0 : Int32)] := P155
      refine own_iinc (pc' := 570) X155 hx (hb hby at_567) rfl (y := (1 : Int32)) (by decide) (Ls' := #[r0, r1, r2, r3, r4, r5, r6, r7, r8, .val (.int c3), .val (.int c4), r11, .val (.int (0 : Int32)), r13, .val (.ref aB), r15, r16, r17, r18, .val (.int (1 : Int32)), .val (.long (lf1 + own_l1 (own_out c4))), .second, r22, r23, r24, r25, r26, .val (.long lf1), .second, .val (.int (1 : Int32)), .val (.int (1 : Int32)), .val (.int (0 : Int32)), .val (.int (1 : Int32)), .val (.ref a152), .val (.int (1 : Int32)), .unset, .unset, .unset]) rfl rfl ?_
      refine own_lload (pc' := 572) X155 hx (hb hby at_570) rfl rfl ?_
      refine own_iload (pc' := 574) X155 hx (hb hby at_572) rfl rfl ?_
      refine own_iload (pc' := 576) X155 hx (hb hby at_574) rfl rfl ?_
      obtain ⟨_, _, ⟨T157, L157, k157, n157⟩, -, X157, ⟨Lc157, hQ157, l157, y157, z157⟩, st157⟩ := Jvm.LawKit.callS X155 hx (y := (⟨"com/example/dipper/dipper/core/LineEndsNormalizePinLaw", "lf", "(ZC)J"⟩ : MethodName)) hown (mvT hZ (hw _ (List.mem_of_getElem? (i := 35) rfl))) (mvT hZ (hw _ (List.mem_of_getElem? (i := 36) rfl))) (mvT hZ (hw _ (List.mem_of_getElem? (i := 2) rfl))) (mvT hZ (hw _ (List.mem_of_getElem? (i := 37) rfl))) (by decide) (backOf (W := 2) (rm_4 l Z a0 hw [] (0 : Int32) c3 h155 n0 Z155 hC3) hZ (hw _ (List.mem_of_getElem? (i := 37) rfl)) (hw _ (List.mem_of_getElem? (i := 2) rfl)) (by decide) (by decide)) (g := (mkF m 576 #[r0, r1, r2, r3, r4, r5, r6, r7, r8, .val (.int c3), .val (.int c4), r11, .val (.int (0 : Int32)), r13, .val (.ref aB), r15, r16, r17, r18, .val (.int (1 : Int32)), .val (.long (lf1 + own_l1 (own_out c4))), .second, r22, r23, r24, r25, r26, .val (.long lf1), .second, .val (.int (1 : Int32)), .val (.int (1 : Int32)), .val (.int (0 : Int32)), .val (.int (1 : Int32)), .val (.ref a152), .val (.int (1 : Int32)), .unset, .unset, .unset] [(.int c3), (.int (0 : Int32)), (.long lf1)])) rfl (by rw [hml]; rfl) (argsL := [(.int (0 : Int32)), (.int c3)]) (rest := [(.long lf1)]) (lenOf pd_4 rfl) rfl (by show 2 * 0 + _ ≤ _; exact Nat.le_of_eq rfl) (hb hby at_576) (fun _ _ => ⟨rfl, e155, (by decide : 5 + 0 ≤ _), (by decide : 12 + 0 ≤ _)⟩)
      dsimp only [Pt.U, Pt.locs, Pt.cells, Pt.slots] at X157 l157 y157 z157 st157 hQ157
      subst l157 y157 z157
      obtain ⟨rfl, M157, el156⟩ := hQ157
      have N157 := Fr.app N155 M157
      refine Goes.pre st157 ?_
      show Goes p e below s 24 128 (Q_0 Z q0 q1 q2 q3 q4 q5 h0 n0) T157 (mkF m 579 #[r0, r1, r2, r3, r4, r5, r6, r7, r8, .val (.int c3), .val (.int c4), r11, .val (.int (0 : Int32)), r13, .val (.ref aB), r15, r16, r17, r18, .val (.int (1 : Int32)), .val (.long (lf1 + own_l1 (own_out c4))), .second, r22, r23, r24, r25, r26, .val (.long lf1), .second, .val (.int (1 : Int32)), .val (.int (1 : Int32)), .val (.int (0 : Int32)), .val (.int (1 : Int32)), .val (.ref a152), .val (.int (1 : Int32)), .unset, .unset, .unset] [(.long (own_lf (0 : Int32) c3)), (.long lf1)])
      refine own_ladd (pc' := 580) X157 hx (hb hby at_579) rfl ?_
      refine own_iload (pc' := 582) X157 hx (hb hby at_580) rfl rfl ?_
      refine own_iload (pc' := 584) X157 hx (hb hby at_582) rfl rfl ?_
      obtain ⟨_, _, ⟨T159, L159, k159, n159⟩, -, X159, ⟨Lc159, hQ159, l159, y159, z159⟩, st159⟩ := Jvm.LawKit.callS X157 hx (y := (⟨"com/example/dipper/dipper/core/LineEndsNormalizePinLaw", "lf", "(ZC)J"⟩ : MethodName)) hown (mvT hZ (hw _ (List.mem_of_getElem? (i := 35) rfl))) (mvT hZ (hw _ (List.mem_of_getElem? (i := 36) rfl))) (mvT hZ (hw _ (List.mem_of_getElem? (i := 2) rfl))) (mvT hZ (hw _ (List.mem_of_getElem? (i := 37) rfl))) (by decide) (backOf (W := 2) (rm_4 l Z a0 hw [] (1 : Int32) c4 h155 n0 Z155 hC4) hZ (hw _ (List.mem_of_getElem? (i := 37) rfl)) (hw _ (List.mem_of_getElem? (i := 2) rfl)) (by decide) (by decide)) (g := (mkF m 584 #[r0, r1, r2, r3, r4, r5, r6, r7, r8, .val (.int c3), .val (.int c4), r11, .val (.int (0 : Int32)), r13, .val (.ref aB), r15, r16, r17, r18, .val (.int (1 : Int32)), .val (.long (lf1 + own_l1 (own_out c4))), .second, r22, r23, r24, r25, r26, .val (.long lf1), .second, .val (.int (1 : Int32)), .val (.int (1 : Int32)), .val (.int (0 : Int32)), .val (.int (1 : Int32)), .val (.ref a152), .val (.int (1 : Int32)), .unset, .unset, .unset] [(.int c4), (.int (1 : Int32)), (.long (lf1 + (own_lf (0 : Int32) c3)))])) rfl (by rw [hml]; rfl) (argsL := [(.int (1 : Int32)), (.int c4)]) (rest := [(.long (lf1 + (own_lf (0 : Int32) c3)))]) (lenOf pd_4 rfl) rfl (by show 2 * 0 + _ ≤ _; exact Nat.le_of_eq rfl) (hb hby at_584) (fun _ _ => ⟨rfl, el156, (by decide : 5 + 0 ≤ _), (by decide : 12 + 0 ≤ _)⟩)
      dsimp only [Pt.U, Pt.locs, Pt.cells, Pt.slots] at X159 l159 y159 z159 st159 hQ159
      subst l159 y159 z159
      obtain ⟨rfl, M159, el158⟩ := hQ159
      have N159 := Fr.app N157 M159
      refine Goes.pre st159 ?_
      show Goes p e below s 24 128 (Q_0 Z q0 q1 q2 q3 q4 q5 h0 n0) T159 (mkF m 587 #[r0, r1, r2, r3, r4, r5, r6, r7, r8, .val (.int c3), .val (.int c4), r11, .val (.int (0 : Int32)), r13, .val (.ref aB), r15, r16, r17, r18, .val (.int (1 : Int32)), .val (.long (lf1 + own_l1 (own_out c4))), .second, r22, r23, r24, r25, r26, .val (.long lf1), .second, .val (.int (1 : Int32)), .val (.int (1 : Int32)), .val (.int (0 : Int32)), .val (.int (1 : Int32)), .val (.ref a152), .val (.int (1 : Int32)), .unset, .unset, .unset] [(.long (own_lf (1 : Int32) c4)), (.long (lf1 + (own_lf (0 : Int32) c3)))])
      refine own_ladd (pc' := 588) X159 hx (hb hby at_587) rfl ?_
      refine own_lstore (pc' := 590) X159 hx (hb hby at_588) (Ls' := #[r0, r1, r2, r3, r4, r5, r6, r7, r8, .val (.int c3), .val (.int c4), r11, .val (.int (0 : Int32)), r13, .val (.ref aB), r15, r16, r17, r18, .val (.int (1 : Int32)), .val (.long (lf1 + own_l1 (own_out c4))), .second, r22, r23, r24, r25, r26, .val (.long lf1), .second, .val (.int (1 : Int32)), .val (.int (1 : Int32)), .val (.int (0 : Int32)), .val (.int (1 : Int32)), .val (.ref a152), .val (.int (1 : Int32)), .val (.long ((lf1 + (own_lf (0 : Int32) c3)) + (own_lf (1 : Int32) c4))), .second, .unset]) rfl rfl ?_
      refine own_iload (pc' := 592) X159 hx (hb hby at_590) rfl rfl ?_
      refine own_iload (pc' := 594) X159 hx (hb hby at_592) rfl rfl ?_
      refine own_icmpN (pc' := 597) X159 hx (hb hby at_594) (by decide) rfl ?_
      refine own_iload (pc' := 599) X159 hx (hb hby at_597) rfl rfl ?_
      refine own_ifN (pc' := 602) X159 hx (hb hby at_599) (by decide) rfl ?_
      refine own_iconst (pc' := 603) X159 hx (hb hby at_602) (v := (0 : Int32)) rfl rfl ?_
      refine own_iload (pc' := 605) X159 hx (hb hby at_603) rfl rfl ?_
      refine own_icmpN (pc' := 608) X159 hx (hb hby at_605) (by decide) rfl ?_
      refine own_aload (pc' := 610) X159 hx (hb hby at_608) rfl rfl rfl ?_
      refine own_iconst (pc' := 611) X159 hx (hb hby at_610) (v := (0 : Int32)) rfl rfl ?_
      refine own_caload (pc' := 612) X159 hx hZ el158 P155_aB (hb hby at_611) (v := (own_out c4)) (by decide) (k := 0) (by decide) rfl rfl ?_
      refine own_aload (pc' := 614) X159 hx (hb hby at_612) rfl rfl rfl ?_
      refine own_iconst (pc' := 615) X159 hx (hb hby at_614) (v := (0 : Int32)) rfl rfl ?_
      refine own_caload (pc' := 616) X159 hx hZ el158 P155x (hb hby at_615) (v := (own_out c4)) (by decide) (k := 0) (by decide) rfl rfl ?_
      refine own_icmpN (pc' := 619) X159 hx (hb hby at_616) (teq rfl).2 rfl ?_
      refine own_iload (pc' := 621) X159 hx (hb hby at_619) rfl rfl ?_
      refine own_iconst (pc' := 622) X159 hx (hb hby at_621) (v := (1 : Int32)) rfl rfl ?_
      refine own_icmpN (pc' := 625) X159 hx (hb hby at_622) (by decide) rfl ?_
      refine own_iconst (pc' := 626) X159 hx (hb hby at_625) (v := (1 : Int32)) rfl rfl ?_
      refine own_iload (pc' := 628) X159 hx (hb hby at_626) rfl rfl ?_
      refine own_icmpY X159 hx (hb hby at_628) (by decide) (by decide) (pc' := 642) (by decide) ?_
      refine own_iload (pc' := 644) X159 hx (hb hby at_642) rfl rfl ?_
      refine own_iconst (pc' := 645) X159 hx (hb hby at_644) (v := (1 : Int32)) rfl rfl ?_
      refine own_icmpY X159 hx (hb hby at_645) (by decide) (by decide) (pc' := 657) (by decide) ?_
      refine own_iload (pc' := 659) X159 hx (hb hby at_657) rfl rfl ?_
      refine own_iconst (pc' := 660) X159 hx (hb hby at_659) (v := (2 : Int32)) rfl rfl ?_
      refine own_icmpY X159 hx (hb hby at_660) (by decide) (by decide) (pc' := 672) (by decide) ?_
      refine own_lload (pc' := 674) X159 hx (hb hby at_672) rfl rfl ?_
      refine own_lload (pc' := 676) X159 hx (hb hby at_674) rfl rfl ?_
      refine own_lcmp (pc' := 677) X159 hx (hb hby at_676) rfl ?_
      refine own_ifN (pc' := 680) X159 hx (hb hby at_677) (own_Teq (by simp [own_lf] : (lf1 + own_l1 (own_out c4)) = ((lf1 + (own_lf (0 : Int32) c3)) + (own_lf (1 : Int32) c4)))).2 rfl ?_
      refine own_iconst (pc' := 681) X159 hx (hb hby at_680) (v := (1 : Int32)) rfl rfl ?_
      refine own_goto X159 hx (hb hby at_681) (by decide) (pc' := 685) (by decide) ?_
      refine own_istore (pc' := 687) X159 hx (hb hby at_685) (Ls' := #[r0, r1, r2, r3, r4, r5, r6, r7, r8, .val (.int c3), .val (.int c4), r11, .val (.int (0 : Int32)), r13, .val (.ref aB), r15, r16, r17, r18, .val (.int (1 : Int32)), .val (.long (lf1 + own_l1 (own_out c4))), .second, r22, r23, r24, r25, r26, .val (.long lf1), .second, .val (.int (1 : Int32)), .val (.int (1 : Int32)), .val (.int (0 : Int32)), .val (.int (1 : Int32)), .val (.ref a152), .val (.int (1 : Int32)), .val (.long ((lf1 + (own_lf (0 : Int32) c3)) + (own_lf (1 : Int32) c4))), .second, .val (.int (1 : Int32))]) rfl rfl ?_
      refine own_iload (pc' := 689) X159 hx (hb hby at_687) rfl rfl ?_
      refine own_ifN (pc' := 692) X159 hx (hb hby at_689) (by decide) rfl ?_
      refine own_iload (pc' := 694) X159 hx (hb hby at_692) rfl rfl ?_
      refine own_ifN (pc' := 697) X159 hx (hb hby at_694) (by decide) rfl ?_
      refine own_iconst (pc' := 698) X159 hx (hb hby at_697) (v := (1 : Int32)) rfl rfl ?_
      refine own_goto X159 hx (hb hby at_698) (by decide) (pc' := 702) (by decide) ?_
      exact own_retN X159 hx hlk (t := .boolean) hret (by simp) (hb hby at_702) (by decide) (by decide) ⟨rfl, N159⟩
    · refine own_ifN (pc' := 503) X151 hx (hb hby at_500) ((if0 _ _).trans (feq hc500).1) rfl ?_
      refine own_goto X151 hx (hb hby at_503) (by decide) (pc' := 522) (by decide) ?_
      refine own_iconst (pc' := 523) X151 hx (hb hby at_522) (v := (0 : Int32)) rfl rfl ?_
      refine own_istore (pc' := 525) X151 hx (hb hby at_523) (Ls' := #[r0, r1, r2, r3, r4, r5, r6, r7, r8, .val (.int c3), .val (.int c4), r11, .val (.int (0 : Int32)), r13, .val (.ref aB), r15, r16, r17, r18, .val (.int w2.toInt32), .val (.long lf2), .second, r22, r23, r24, r25, r26, .val (.long lf1), .second, .val (.int (1 : Int32)), .val (.int (1 : Int32)), .val (.int (0 : Int32)), .val (.int (0 : Int32)), .unset, .unset, .unset, .unset, .unset]) rfl rfl ?_
      refine own_iconst (pc' := 526) X151 hx (hb hby at_525) (v := (2 : Int32)) rfl rfl ?_
      exact absurd (hc472.symm.trans (own_pr1 hc500).1) (by decide)
  · refine own_icmpN (pc' := 475) XJ hx (hb hby at_472) (feq hc472).1 rfl ?_
    refine own_iconst (pc' := 476) XJ hx (hb hby at_475) (v := (1 : Int32)) rfl rfl ?_
    refine own_goto XJ hx (hb hby at_476) (by decide) (pc' := 480) (by decide) ?_
    refine own_istore (pc' := 482) XJ hx (hb hby at_480) (Ls' := #[r0, r1, r2, r3, r4, r5, r6, r7, r8, .val (.int c3), .val (.int c4), r11, .val (.int (0 : Int32)), r13, .val (.ref aB), r15, r16, r17, r18, .val (.int w2.toInt32), .val (.long lf2), .second, r22, r23, r24, r25, r26, .val (.long lf1), .second, .val (.int (1 : Int32)), .val (.int (1 : Int32)), .val (.int (1 : Int32)), .unset, .unset, .unset, .unset, .unset, .unset]) rfl rfl ?_
    refine own_iload (pc' := 484) XJ hx (hb hby at_482) rfl rfl ?_
    refine own_iconst (pc' := 485) XJ hx (hb hby at_484) (v := (1 : Int32)) rfl rfl ?_
    refine own_icmpN (pc' := 488) XJ hx (hb hby at_485) (by decide) rfl ?_
    refine own_iload (pc' := 490) XJ hx (hb hby at_488) rfl rfl ?_
    refine own_ifN (pc' := 493) XJ hx (hb hby at_490) (by decide) rfl ?_
    refine own_iload (pc' := 495) XJ hx (hb hby at_493) rfl rfl ?_
    refine own_iload (pc' := 497) XJ hx (hb hby at_495) rfl rfl ?_
    obtain ⟨_, _, ⟨T161, L161, k161, n161⟩, -, X161, ⟨Lc161, hQ161, l161, y161, z161⟩, st161⟩ := Jvm.LawKit.callS XJ hx (y := (⟨"com/example/dipper/dipper/core/LineEndsNormalizePinLaw", "pairs", "(CC)Z"⟩ : MethodName)) hown (mvT hZ (hw _ (List.mem_of_getElem? (i := 29) rfl))) (mvT hZ (hw _ (List.mem_of_getElem? (i := 30) rfl))) (mvT hZ (hw _ (List.mem_of_getElem? (i := 2) rfl))) (mvT hZ (hw _ (List.mem_of_getElem? (i := 31) rfl))) (by decide) (backOf (W := 0) (rm_3 l Z a0 hw [] c3 c4 hJ n0 ZJ) hZ (hw _ (List.mem_of_getElem? (i := 31) rfl)) (hw _ (List.mem_of_getElem? (i := 2) rfl)) (by decide) (by decide)) (g := (mkF m 497 #[r0, r1, r2, r3, r4, r5, r6, r7, r8, .val (.int c3), .val (.int c4), r11, .val (.int (0 : Int32)), r13, .val (.ref aB), r15, r16, r17, r18, .val (.int w2.toInt32), .val (.long lf2), .second, r22, r23, r24, r25, r26, .val (.long lf1), .second, .val (.int (1 : Int32)), .val (.int (1 : Int32)), .val (.int (1 : Int32)), .unset, .unset, .unset, .unset, .unset, .unset] [(.int c4), (.int c3)])) rfl (by rw [hml]; rfl) (argsL := [(.int c3), (.int c4)]) (rest := []) (lenOf pd_3 rfl) rfl (by show 2 * 0 + _ ≤ _; exact Nat.le_of_eq rfl) (hb hby at_497) (fun _ _ => ⟨rfl, eJ, (by decide : 4 + 0 ≤ _), (by decide : 10 + 0 ≤ _)⟩)
    dsimp only [Pt.U, Pt.locs, Pt.cells, Pt.slots] at X161 l161 y161 z161 st161 hQ161
    subst l161 y161 z161
    obtain ⟨rfl, M161, ep160⟩ := hQ161
    have N161 := Fr.app NJ M161
    refine Goes.pre st161 ?_
    show Goes p e below s 24 128 (Q_0 Z q0 q1 q2 q3 q4 q5 h0 n0) T161 (mkF m 500 #[r0, r1, r2, r3, r4, r5, r6, r7, r8, .val (.int c3), .val (.int c4), r11, .val (.int (0 : Int32)), r13, .val (.ref aB), r15, r16, r17, r18, .val (.int w2.toInt32), .val (.long lf2), .second, r22, r23, r24, r25, r26, .val (.long lf1), .second, .val (.int (1 : Int32)), .val (.int (1 : Int32)), .val (.int (1 : Int32)), .unset, .unset, .unset, .unset, .unset, .unset] [(.int (own_pairs c3 c4))])
    by_cases hc500 : (own_pairs c3 c4) = (0 : Int32)
    · refine own_ifY X161 hx (hb hby at_500) ((if0 _ _).trans (teq hc500).1) (by decide) (pc' := 518) (by decide) ?_
      refine own_iconst (pc' := 519) X161 hx (hb hby at_518) (v := (1 : Int32)) rfl rfl ?_
      refine own_goto X161 hx (hb hby at_519) (by decide) (pc' := 523) (by decide) ?_
      refine own_istore (pc' := 525) X161 hx (hb hby at_523) (Ls' := #[r0, r1, r2, r3, r4, r5, r6, r7, r8, .val (.int c3), .val (.int c4), r11, .val (.int (0 : Int32)), r13, .val (.ref aB), r15, r16, r17, r18, .val (.int w2.toInt32), .val (.long lf2), .second, r22, r23, r24, r25, r26, .val (.long lf1), .second, .val (.int (1 : Int32)), .val (.int (1 : Int32)), .val (.int (1 : Int32)), .val (.int (1 : Int32)), .unset, .unset, .unset, .unset, .unset]) rfl rfl ?_
      refine own_iconst (pc' := 526) X161 hx (hb hby at_525) (v := (2 : Int32)) rfl rfl ?_
      have hB := ht.trans (own_B01FT c3 c4 lf1 hc472 hc500)
      simp only [Prod.mk.injEq] at hB
      obtain ⟨rfl, rfl, rfl, rfl⟩ := hB
      show Goes p e below s 24 128 (Q_0 Z q0 q1 q2 q3 q4 q5 h0 n0) T161 (mkF m 526 #[r0, r1, r2, r3, r4, r5, r6, r7, r8, .val (.int c3), .val (.int c4), r11, .val (.int (0 : Int32)), r13, .val (.ref aB), r15, r16, r17, r18, .val (.int (2 : Int32)), .val (.long (lf1 + own_l1 (own_out c3) + own_l1 (own_out c4))), .second, r22, r23, r24, r25, r26, .val (.long lf1), .second, .val (.int (1 : Int32)), .val (.int (1 : Int32)), .val (.int (1 : Int32)), .val (.int (1 : Int32)), .unset, .unset, .unset, .unset, .unset] [(.int (2 : Int32))])
      refine own_newarray (pc' := 528) X161 hx hZ (hw _ (List.mem_of_getElem? (i := 5) rfl)) ep160 (hb hby at_526) (k := 2) (cap := 2) rfl (by decide) rfl (by decide) (by decide) (by decide) (by decide) rfl ?_
      intro T162 h162 a162 g162 X162 e162 E162 P162
      show Goes p e below s 24 128 (Q_0 Z q0 q1 q2 q3 q4 q5 h0 n0) T162 (mkF m 528 #[r0, r1, r2, r3, r4, r5, r6, r7, r8, .val (.int c3), .val (.int c4), r11, .val (.int (0 : Int32)), r13, .val (.ref aB), r15, r16, r17, r18, .val (.int (2 : Int32)), .val (.long (lf1 + own_l1 (own_out c3) + own_l1 (own_out c4))), .second, r22, r23, r24, r25, r26, .val (.long lf1), .second, .val (.int (1 : Int32)), .val (.int (1 : Int32)), .val (.int (1 : Int32)), .val (.int (1 : Int32)), .unset, .unset, .unset, .unset, .unset] [(.ref a162)])
      have PB := PJ.ext E162
      have ge : n0 ≤ a162 := by rw [g162]; exact ZJ
      have neB : aB ≠ a162 := fun q => absurd (q ▸ PJ.lt) (by rw [g162]; exact Nat.lt_irrefl _)
      have ZE : n0 ≤ Array.size h162 := Nat.le_trans ZJ E162.1
      refine own_astore (pc' := 530) X162 hx (hb hby at_528) rfl (Ls' := #[r0, r1, r2, r3, r4, r5, r6, r7, r8, .val (.int c3), .val (.int c4), r11, .val (.int (0 : Int32)), r13, .val (.ref aB), r15, r16, r17, r18, .val (.int (2 : Int32)), .val (.long (lf1 + own_l1 (own_out c3) + own_l1 (own_out c4))), .second, r22, r23, r24, r25, r26, .val (.long lf1), .second, .val (.int (1 : Int32)), .val (.int (1 : Int32)), .val (.int (1 : Int32)), .val (.int (1 : Int32)), .val (.ref a162), .unset, .unset, .unset, .unset]) rfl rfl ?_
      refine own_iload (pc' := 532) X162 hx (hb hby at_530) rfl rfl ?_
      refine own_istore (pc' := 534) X162 hx (hb hby at_532) (Ls' := #[r0, r1, r2, r3, r4, r5, r6, r7, r8, .val (.int c3), .val (.int c4), r11, .val (.int (0 : Int32)), r13, .val (.ref aB), r15, r16, r17, r18, .val (.int (2 : Int32)), .val (.long (lf1 + own_l1 (own_out c3) + own_l1 (own_out c4))), .second, r22, r23, r24, r25, r26, .val (.long lf1), .second, .val (.int (1 : Int32)), .val (.int (1 : Int32)), .val (.int (1 : Int32)), .val (.int (1 : Int32)), .val (.ref a162), .val (.int (0 : Int32)), .unset, .unset, .unset]) rfl rfl ?_
      refine own_iload (pc' := 536) X162 hx (hb hby at_534) rfl rfl ?_
      refine own_ifN (pc' := 539) X162 hx (hb hby at_536) (by decide) rfl ?_
      refine own_aload (pc' := 541) X162 hx (hb hby at_539) rfl rfl rfl ?_
      refine own_iload (pc' := 543) X162 hx (hb hby at_541) rfl rfl ?_
      refine own_iload (pc' := 545) X162 hx (hb hby at_543) rfl rfl ?_
      obtain ⟨_, _, ⟨T164, L164, k164, n164⟩, -, X164, ⟨Lc164, hQ164, l164, y164, z164⟩, st164⟩ := Jvm.LawKit.callS X162 hx (y := (⟨"com/example/dipper/dipper/core/LineEndsNormalizePinLaw", "out", "(C)C"⟩ : MethodName)) hown (mvT hZ (hw _ (List.mem_of_getElem? (i := 32) rfl))) (mvT hZ (hw _ (List.mem_of_getElem? (i := 33) rfl))) (mvT hZ (hw _ (List.mem_of_getElem? (i := 2) rfl))) (mvT hZ (hw _ (List.mem_of_getElem? (i := 34) rfl))) (by decide) (backOf (W := 2) (rm_2 l Z a0 hw [] c3 h162 n0 ZE hC3) hZ (hw _ (List.mem_of_getElem? (i := 34) rfl)) (hw _ (List.mem_of_getElem? (i := 2) rfl)) (by decide) (by decide)) (g := (mkF m 545 #[r0, r1, r2, r3, r4, r5, r6, r7, r8, .val (.int c3), .val (.int c4), r11, .val (.int (0 : Int32)), r13, .val (.ref aB), r15, r16, r17, r18, .val (.int (2 : Int32)), .val (.long (lf1 + own_l1 (own_out c3) + own_l1 (own_out c4))), .second, r22, r23, r24, r25, r26, .val (.long lf1), .second, .val (.int (1 : Int32)), .val (.int (1 : Int32)), .val (.int (1 : Int32)), .val (.int (1 : Int32)), .val (.ref a162), .val (.int (0 : Int32)), .unset, .unset, .unset] [(.int c3), (.int (0 : Int32)), (.ref a162)])) rfl (by rw [hml]; rfl) (argsL := [(.int c3)]) (rest := [(.int (0 : Int32)), (.ref a162)]) (lenOf pd_2 rfl) rfl (by show 2 * 0 + _ ≤ _; exact Nat.le_of_eq rfl) (hb hby at_545) (fun _ _ => ⟨rfl, e162, (by decide : 5 + 0 ≤ _), (by decide : 12 + 0 ≤ _)⟩)
      dsimp only [Pt.U, Pt.locs, Pt.cells, Pt.slots] at X164 l164 y164 z164 st164 hQ164
      subst l164 y164 z164
      obtain ⟨rfl, M164, eo163⟩ := hQ164
      have N164 := Fr.app N161 M164
      refine Goes.pre st164 ?_
      show Goes p e below s 24 128 (Q_0 Z q0 q1 q2 q3 q4 q5 h0 n0) T164 (mkF m 548 #[r0, r1, r2, r3, r4, r5, r6, r7, r8, .val (.int c3), .val (.int c4), r11, .val (.int (0 : Int32)), r13, .val (.ref aB), r15, r16, r17, r18, .val (.int (2 : Int32)), .val (.long (lf1 + own_l1 (own_out c3) + own_l1 (own_out c4))), .second, r22, r23, r24, r25, r26, .val (.long lf1), .second, .val (.int (1 : Int32)), .val (.int (1 : Int32)), .val (.int (1 : Int32)), .val (.int (1 : Int32)), .val (.ref a162), .val (.int (0 : Int32)), .unset, .unset, .unset] [(.int (own_out c3)), (.int (0 : Int32)), (.ref a162)])
      refine own_castore (pc' := 549) X164 hx hZ eo163 P162 (hb hby at_548) (own_nar (own_outC hC3)) (by decide) (k := 0) (by decide) (by simp) rfl ?_
      intro T165 h165 X165 e165 W165 P165
      have N165 := Fr.snoc X165 N164 ge
      have P165_aB := PB.other W165 neB
      have Z165 : n0 ≤ Array.size h165 := by rw [W165.size]; exact ZE
      show Goes p e below s 24 128 (Q_0 Z q0 q1 q2 q3 q4 q5 h0 n0) T165 (mkF m 549 #[r0, r1, r2, r3, r4, r5, r6, r7, r8, .val (.int c3), .val (.int c4), r11, .val (.int (0 : Int32)), r13, .val (.ref aB), r15, r16, r17, r18, .val (.int (2 : Int32)), .val (.long (lf1 + own_l1 (own_out c3) + own_l1 (own_out c4))), .second, r22, r23, r24, r25, r26, .val (.long lf1), .second, .val (.int (1 : Int32)), .val (.int (1 : Int32)), .val (.int (1 : Int32)), .val (.int (1 : Int32)), .val (.ref a162), .val (.int (0 : Int32)), .unset, .unset, .unset] [])
      have P165x : own_PA Z h165 a162 .char [(own_out c3), (0 : Int32)] := P165
      refine own_iinc (pc' := 552) X165 hx (hb hby at_549) rfl (y := (1 : Int32)) (by decide) (Ls' := #[r0, r1, r2, r3, r4, r5, r6, r7, r8, .val (.int c3), .val (.int c4), r11, .val (.int (0 : Int32)), r13, .val (.ref aB), r15, r16, r17, r18, .val (.int (2 : Int32)), .val (.long (lf1 + own_l1 (own_out c3) + own_l1 (own_out c4))), .second, r22, r23, r24, r25, r26, .val (.long lf1), .second, .val (.int (1 : Int32)), .val (.int (1 : Int32)), .val (.int (1 : Int32)), .val (.int (1 : Int32)), .val (.ref a162), .val (.int (1 : Int32)), .unset, .unset, .unset]) rfl rfl ?_
      refine own_iload (pc' := 554) X165 hx (hb hby at_552) rfl rfl ?_
      refine own_ifN (pc' := 557) X165 hx (hb hby at_554) (by decide) rfl ?_
      refine own_aload (pc' := 559) X165 hx (hb hby at_557) rfl rfl rfl ?_
      refine own_iload (pc' := 561) X165 hx (hb hby at_559) rfl rfl ?_
      refine own_iload (pc' := 563) X165 hx (hb hby at_561) rfl rfl ?_
      obtain ⟨_, _, ⟨T167, L167, k167, n167⟩, -, X167, ⟨Lc167, hQ167, l167, y167, z167⟩, st167⟩ := Jvm.LawKit.callS X165 hx (y := (⟨"com/example/dipper/dipper/core/LineEndsNormalizePinLaw", "out", "(C)C"⟩ : MethodName)) hown (mvT hZ (hw _ (List.mem_of_getElem? (i := 32) rfl))) (mvT hZ (hw _ (List.mem_of_getElem? (i := 33) rfl))) (mvT hZ (hw _ (List.mem_of_getElem? (i := 2) rfl))) (mvT hZ (hw _ (List.mem_of_getElem? (i := 34) rfl))) (by decide) (backOf (W := 2) (rm_2 l Z a0 hw [] c4 h165 n0 Z165 hC4) hZ (hw _ (List.mem_of_getElem? (i := 34) rfl)) (hw _ (List.mem_of_getElem? (i := 2) rfl)) (by decide) (by decide)) (g := (mkF m 563 #[r0, r1, r2, r3, r4, r5, r6, r7, r8, .val (.int c3), .val (.int c4), r11, .val (.int (0 : Int32)), r13, .val (.ref aB), r15, r16, r17, r18, .val (.int (2 : Int32)), .val (.long (lf1 + own_l1 (own_out c3) + own_l1 (own_out c4))), .second, r22, r23, r24, r25, r26, .val (.long lf1), .second, .val (.int (1 : Int32)), .val (.int (1 : Int32)), .val (.int (1 : Int32)), .val (.int (1 : Int32)), .val (.ref a162), .val (.int (1 : Int32)), .unset, .unset, .unset] [(.int c4), (.int (1 : Int32)), (.ref a162)])) rfl (by rw [hml]; rfl) (argsL := [(.int c4)]) (rest := [(.int (1 : Int32)), (.ref a162)]) (lenOf pd_2 rfl) rfl (by show 2 * 0 + _ ≤ _; exact Nat.le_of_eq rfl) (hb hby at_563) (fun _ _ => ⟨rfl, e165, (by decide : 5 + 0 ≤ _), (by decide : 12 + 0 ≤ _)⟩)
      dsimp only [Pt.U, Pt.locs, Pt.cells, Pt.slots] at X167 l167 y167 z167 st167 hQ167
      subst l167 y167 z167
      obtain ⟨rfl, M167, eo166⟩ := hQ167
      have N167 := Fr.app N165 M167
      refine Goes.pre st167 ?_
      show Goes p e below s 24 128 (Q_0 Z q0 q1 q2 q3 q4 q5 h0 n0) T167 (mkF m 566 #[r0, r1, r2, r3, r4, r5, r6, r7, r8, .val (.int c3), .val (.int c4), r11, .val (.int (0 : Int32)), r13, .val (.ref aB), r15, r16, r17, r18, .val (.int (2 : Int32)), .val (.long (lf1 + own_l1 (own_out c3) + own_l1 (own_out c4))), .second, r22, r23, r24, r25, r26, .val (.long lf1), .second, .val (.int (1 : Int32)), .val (.int (1 : Int32)), .val (.int (1 : Int32)), .val (.int (1 : Int32)), .val (.ref a162), .val (.int (1 : Int32)), .unset, .unset, .unset] [(.int (own_out c4)), (.int (1 : Int32)), (.ref a162)])
      refine own_castore (pc' := 567) X167 hx hZ eo166 P165x (hb hby at_566) (own_nar (own_outC hC4)) (by decide) (k := 1) (by decide) (by simp) rfl ?_
      intro T168 h168 X168 e168 W168 P168
      have N168 := Fr.snoc X168 N167 ge
      have P168_aB := P165_aB.other W168 neB
      have Z168 : n0 ≤ Array.size h168 := by rw [W168.size]; exact Z165
      show Goes p e below s 24 128 (Q_0 Z q0 q1 q2 q3 q4 q5 h0 n0) T168 (mkF m 567 #[r0, r1, r2, r3, r4, r5, r6, r7, r8, .val (.int c3), .val (.int c4), r11, .val (.int (0 : Int32)), r13, .val (.ref aB), r15, r16, r17, r18, .val (.int (2 : Int32)), .val (.long (lf1 + own_l1 (own_out c3) + own_l1 (own_out c4))), .second, r22, r23, r24, r25, r26, .val (.long lf1), .second, .val (.int (1 : Int32)), .val (.int (1 : Int32)), .val (.int (1 : Int32)), .val (.int (1 : Int32)), .val (.ref a162), .val (.int (1 : Int32)), .unset, .unset, .unset] [])
      have P168x : own_PA Z h168 a162 .char [(own_out c3), (own_out c4)] := P168
      refine own_iinc (pc' := 570) X168 hx (hb hby at_567) rfl (y := (2 : Int32)) (by decide) (Ls' := #[r0, r1, r2, r3, r4, r5, r6, r7, r8, .val (.int c3), .val (.int c4), r11, .val (.int (0 : Int32)), r13, .val (.ref aB), r15, r16, r17, r18, .val (.int (2 : Int32)), .val (.long (lf1 + own_l1 (own_out c3) + own_l1 (own_out c4))), .second, r22, r23, r24, r25, r26, .val (.long lf1), .second, .val (.int (1 : Int32)), .val (.int (1 : Int32)), .val (.int (1 : Int32)), .val (.int (1 : Int32)), .val (.ref a162), .val (.int (2 : Int32)), .unset, .unset, .unset]) rfl rfl ?_
      refine own_lload (pc' := 572) X168 hx (hb hby at_570) rfl rfl ?_
      refine own_iload (pc' := 574) X168 hx (hb hby at_572) rfl rfl ?_
      refine own_iload (pc' := 576) X168 hx (hb hby at_574) rfl rfl ?_
      obtain ⟨_, _, ⟨T170, L170, k170, n170⟩, -, X170, ⟨Lc170, hQ170, l170, y170, z170⟩, st170⟩ := Jvm.LawKit.callS X168 hx (y := (⟨"com/example/dipper/dipper/core/LineEndsNormalizePinLaw", "lf", "(ZC)J"⟩ : MethodName)) hown (mvT hZ (hw _ (List.mem_of_getElem? (i := 35) rfl))) (mvT hZ (hw _ (List.mem_of_getElem? (i := 36) rfl))) (mvT hZ (hw _ (List.mem_of_getElem? (i := 2) rfl))) (mvT hZ (hw _ (List.mem_of_getElem? (i := 37) rfl))) (by decide) (backOf (W := 2) (rm_4 l Z a0 hw [] (1 : Int32) c3 h168 n0 Z168 hC3) hZ (hw _ (List.mem_of_getElem? (i := 37) rfl)) (hw _ (List.mem_of_getElem? (i := 2) rfl)) (by decide) (by decide)) (g := (mkF m 576 #[r0, r1, r2, r3, r4, r5, r6, r7, r8, .val (.int c3), .val (.int c4), r11, .val (.int (0 : Int32)), r13, .val (.ref aB), r15, r16, r17, r18, .val (.int (2 : Int32)), .val (.long (lf1 + own_l1 (own_out c3) + own_l1 (own_out c4))), .second, r22, r23, r24, r25, r26, .val (.long lf1), .second, .val (.int (1 : Int32)), .val (.int (1 : Int32)), .val (.int (1 : Int32)), .val (.int (1 : Int32)), .val (.ref a162), .val (.int (2 : Int32)), .unset, .unset, .unset] [(.int c3), (.int (1 : Int32)), (.long lf1)])) rfl (by rw [hml]; rfl) (argsL := [(.int (1 : Int32)), (.int c3)]) (rest := [(.long lf1)]) (lenOf pd_4 rfl) rfl (by show 2 * 0 + _ ≤ _; exact Nat.le_of_eq rfl) (hb hby at_576) (fun _ _ => ⟨rfl, e168, (by decide : 5 + 0 ≤ _), (by decide : 12 + 0 ≤ _)⟩)
      dsimp only [Pt.U, Pt.locs, Pt.cells, Pt.slots] at X170 l170 y170 z170 st170 hQ170
      subst l170 y170 z170
      obtain ⟨rfl, M170, el169⟩ := hQ170
      have N170 := Fr.app N168 M170
      refine Goes.pre st170 ?_
      show Goes p e below s 24 128 (Q_0 Z q0 q1 q2 q3 q4 q5 h0 n0) T170 (mkF m 579 #[r0, r1, r2, r3, r4, r5, r6, r7, r8, .val (.int c3), .val (.int c4), r11, .val (.int (0 : Int32)), r13, .val (.ref aB), r15, r16, r17, r18, .val (.int (2 : Int32)), .val (.long (lf1 + own_l1 (own_out c3) + own_l1 (own_out c4))), .second, r22, r23, r24, r25, r26, .val (.long lf1), .second, .val (.int (1 : Int32)), .val (.int (1 : Int32)), .val (.int (1 : Int32)), .val (.int (1 : Int32)), .val (.ref a162), .val (.int (2 : Int32)), .unset, .unset, .unset] [(.long (own_lf (1 : Int32) c3)), (.long lf1)])
      refine own_ladd (pc' := 580) X170 hx (hb hby at_579) rfl ?_
      refine own_iload (pc' := 582) X170 hx (hb hby at_580) rfl rfl ?_
      refine own_iload (pc' := 584) X170 hx (hb hby at_582) rfl rfl ?_
      obtain ⟨_, _, ⟨T172, L172, k172, n172⟩, -, X172, ⟨Lc172, hQ172, l172, y172, z172⟩, st172⟩ := Jvm.LawKit.callS X170 hx (y := (⟨"com/example/dipper/dipper/core/LineEndsNormalizePinLaw", "lf", "(ZC)J"⟩ : MethodName)) hown (mvT hZ (hw _ (List.mem_of_getElem? (i := 35) rfl))) (mvT hZ (hw _ (List.mem_of_getElem? (i := 36) rfl))) (mvT hZ (hw _ (List.mem_of_getElem? (i := 2) rfl))) (mvT hZ (hw _ (List.mem_of_getElem? (i := 37) rfl))) (by decide) (backOf (W := 2) (rm_4 l Z a0 hw [] (1 : Int32) c4 h168 n0 Z168 hC4) hZ (hw _ (List.mem_of_getElem? (i := 37) rfl)) (hw _ (List.mem_of_getElem? (i := 2) rfl)) (by decide) (by decide)) (g := (mkF m 584 #[r0, r1, r2, r3, r4, r5, r6, r7, r8, .val (.int c3), .val (.int c4), r11, .val (.int (0 : Int32)), r13, .val (.ref aB), r15, r16, r17, r18, .val (.int (2 : Int32)), .val (.long (lf1 + own_l1 (own_out c3) + own_l1 (own_out c4))), .second, r22, r23, r24, r25, r26, .val (.long lf1), .second, .val (.int (1 : Int32)), .val (.int (1 : Int32)), .val (.int (1 : Int32)), .val (.int (1 : Int32)), .val (.ref a162), .val (.int (2 : Int32)), .unset, .unset, .unset] [(.int c4), (.int (1 : Int32)), (.long (lf1 + (own_lf (1 : Int32) c3)))])) rfl (by rw [hml]; rfl) (argsL := [(.int (1 : Int32)), (.int c4)]) (rest := [(.long (lf1 + (own_lf (1 : Int32) c3)))]) (lenOf pd_4 rfl) rfl (by show 2 * 0 + _ ≤ _; exact Nat.le_of_eq rfl) (hb hby at_584) (fun _ _ => ⟨rfl, el169, (by decide : 5 + 0 ≤ _), (by decide : 12 + 0 ≤ _)⟩)
      dsimp only [Pt.U, Pt.locs, Pt.cells, Pt.slots] at X172 l172 y172 z172 st172 hQ172
      subst l172 y172 z172
      obtain ⟨rfl, M172, el171⟩ := hQ172
      have N172 := Fr.app N170 M172
      refine Goes.pre st172 ?_
      show Goes p e below s 24 128 (Q_0 Z q0 q1 q2 q3 q4 q5 h0 n0) T172 (mkF m 587 #[r0, r1, r2, r3, r4, r5, r6, r7, r8, .val (.int c3), .val (.int c4), r11, .val (.int (0 : Int32)), r13, .val (.ref aB), r15, r16, r17, r18, .val (.int (2 : Int32)), .val (.long (lf1 + own_l1 (own_out c3) + own_l1 (own_out c4))), .second, r22, r23, r24, r25, r26, .val (.long lf1), .second, .val (.int (1 : Int32)), .val (.int (1 : Int32)), .val (.int (1 : Int32)), .val (.int (1 : Int32)), .val (.ref a162), .val (.int (2 : Int32)), .unset, .unset, .unset] [(.long (own_lf (1 : Int32) c4)), (.long (lf1 + (own_lf (1 : Int32) c3)))])
      refine own_ladd (pc' := 588) X172 hx (hb hby at_587) rfl ?_
      refine own_lstore (pc' := 590) X172 hx (hb hby at_588) (Ls' := #[r0, r1, r2, r3, r4, r5, r6, r7, r8, .val (.int c3), .val (.int c4), r11, .val (.int (0 : Int32)), r13, .val (.ref aB), r15, r16, r17, r18, .val (.int (2 : Int32)), .val (.long (lf1 + own_l1 (own_out c3) + own_l1 (own_out c4))), .second, r22, r23, r24, r25, r26, .val (.long lf1), .second, .val (.int (1 : Int32)), .val (.int (1 : Int32)), .val (.int (1 : Int32)), .val (.int (1 : Int32)), .val (.ref a162), .val (.int (2 : Int32)), .val (.long ((lf1 + (own_lf (1 : Int32) c3)) + (own_lf (1 : Int32) c4))), .second, .unset]) rfl rfl ?_
      refine own_iload (pc' := 592) X172 hx (hb hby at_590) rfl rfl ?_
      refine own_iload (pc' := 594) X172 hx (hb hby at_592) rfl rfl ?_
      refine own_icmpN (pc' := 597) X172 hx (hb hby at_594) (by decide) rfl ?_
      refine own_iload (pc' := 599) X172 hx (hb hby at_597) rfl rfl ?_
      refine own_ifN (pc' := 602) X172 hx (hb hby at_599) (by decide) rfl ?_
      refine own_iconst (pc' := 603) X172 hx (hb hby at_602) (v := (0 : Int32)) rfl rfl ?_
      refine own_iload (pc' := 605) X172 hx (hb hby at_603) rfl rfl ?_
      refine own_icmpN (pc' := 608) X172 hx (hb hby at_605) (by decide) rfl ?_
      refine own_aload (pc' := 610) X172 hx (hb hby at_608) rfl rfl rfl ?_
      refine own_iconst (pc' := 611) X172 hx (hb hby at_610) (v := (0 : Int32)) rfl rfl ?_
      refine own_caload (pc' := 612) X172 hx hZ el171 P168_aB (hb hby at_611) (v := (own_out c3)) (by decide) (k := 0) (by decide) rfl rfl ?_
      refine own_aload (pc' := 614) X172 hx (hb hby at_612) rfl rfl rfl ?_
      refine own_iconst (pc' := 615) X172 hx (hb hby at_614) (v := (0 : Int32)) rfl rfl ?_
      refine own_caload (pc' := 616) X172 hx hZ el171 P168x (hb hby at_615) (v := (own_out c3)) (by decide) (k := 0) (by decide) rfl rfl ?_
      refine own_icmpN (pc' := 619) X172 hx (hb hby at_616) (teq rfl).2 rfl ?_
      refine own_iload (pc' := 621) X172 hx (hb hby at_619) rfl rfl ?_
      refine own_iconst (pc' := 622) X172 hx (hb hby at_621) (v := (1 : Int32)) rfl rfl ?_
      refine own_icmpN (pc' := 625) X172 hx (hb hby at_622) (by decide) rfl ?_
      refine own_iconst (pc' := 626) X172 hx (hb hby at_625) (v := (1 : Int32)) rfl rfl ?_
      refine own_iload (pc' := 628) X172 hx (hb hby at_626) rfl rfl ?_
      refine own_icmpN (pc' := 631) X172 hx (hb hby at_628) (by decide) rfl ?_
      refine own_aload (pc' := 633) X172 hx (hb hby at_631) rfl rfl rfl ?_
      refine own_iconst (pc' := 634) X172 hx (hb hby at_633) (v := (1 : Int32)) rfl rfl ?_
      refine own_caload (pc' := 635) X172 hx hZ el171 P168_aB (hb hby at_634) (v := (own_out c4)) (by decide) (k := 1) (by decide) rfl rfl ?_
      refine own_aload (pc' := 637) X172 hx (hb hby at_635) rfl rfl rfl ?_
      refine own_iconst (pc' := 638) X172 hx (hb hby at_637) (v := (1 : Int32)) rfl rfl ?_
      refine own_caload (pc' := 639) X172 hx hZ el171 P168x (hb hby at_638) (v := (own_out c4)) (by decide) (k := 1) (by decide) rfl rfl ?_
      refine own_icmpN (pc' := 642) X172 hx (hb hby at_639) (teq rfl).2 rfl ?_
      refine own_iload (pc' := 644) X172 hx (hb hby at_642) rfl rfl ?_
      refine own_iconst (pc' := 645) X172 hx (hb hby at_644) (v := (1 : Int32)) rfl rfl ?_
      refine own_icmpY X172 hx (hb hby at_645) (by decide) (by decide) (pc' := 657) (by decide) ?_
      refine own_iload (pc' := 659) X172 hx (hb hby at_657) rfl rfl ?_
      refine own_iconst (pc' := 660) X172 hx (hb hby at_659) (v := (2 : Int32)) rfl rfl ?_
      refine own_icmpY X172 hx (hb hby at_660) (by decide) (by decide) (pc' := 672) (by decide) ?_
      refine own_lload (pc' := 674) X172 hx (hb hby at_672) rfl rfl ?_
      refine own_lload (pc' := 676) X172 hx (hb hby at_674) rfl rfl ?_
      refine own_lcmp (pc' := 677) X172 hx (hb hby at_676) rfl ?_
      refine own_ifN (pc' := 680) X172 hx (hb hby at_677) (own_Teq (by simp [own_lf] : (lf1 + own_l1 (own_out c3) + own_l1 (own_out c4)) = ((lf1 + (own_lf (1 : Int32) c3)) + (own_lf (1 : Int32) c4)))).2 rfl ?_
      refine own_iconst (pc' := 681) X172 hx (hb hby at_680) (v := (1 : Int32)) rfl rfl ?_
      refine own_goto X172 hx (hb hby at_681) (by decide) (pc' := 685) (by decide) ?_
      refine own_istore (pc' := 687) X172 hx (hb hby at_685) (Ls' := #[r0, r1, r2, r3, r4, r5, r6, r7, r8, .val (.int c3), .val (.int c4), r11, .val (.int (0 : Int32)), r13, .val (.ref aB), r15, r16, r17, r18, .val (.int (2 : Int32)), .val (.long (lf1 + own_l1 (own_out c3) + own_l1 (own_out c4))), .second, r22, r23, r24, r25, r26, .val (.long lf1), .second, .val (.int (1 : Int32)), .val (.int (1 : Int32)), .val (.int (1 : Int32)), .val (.int (1 : Int32)), .val (.ref a162), .val (.int (2 : Int32)), .val (.long ((lf1 + (own_lf (1 : Int32) c3)) + (own_lf (1 : Int32) c4))), .second, .val (.int (1 : Int32))]) rfl rfl ?_
      refine own_iload (pc' := 689) X172 hx (hb hby at_687) rfl rfl ?_
      refine own_ifN (pc' := 692) X172 hx (hb hby at_689) (by decide) rfl ?_
      refine own_iload (pc' := 694) X172 hx (hb hby at_692) rfl rfl ?_
      refine own_ifN (pc' := 697) X172 hx (hb hby at_694) (by decide) rfl ?_
      refine own_iconst (pc' := 698) X172 hx (hb hby at_697) (v := (1 : Int32)) rfl rfl ?_
      refine own_goto X172 hx (hb hby at_698) (by decide) (pc' := 702) (by decide) ?_
      exact own_retN X172 hx hlk (t := .boolean) hret (by simp) (hb hby at_702) (by decide) (by decide) ⟨rfl, N172⟩
    · refine own_ifN (pc' := 503) X161 hx (hb hby at_500) ((if0 _ _).trans (feq hc500).1) rfl ?_
      refine own_goto X161 hx (hb hby at_503) (by decide) (pc' := 522) (by decide) ?_
      refine own_iconst (pc' := 523) X161 hx (hb hby at_522) (v := (0 : Int32)) rfl rfl ?_
      refine own_istore (pc' := 525) X161 hx (hb hby at_523) (Ls' := #[r0, r1, r2, r3, r4, r5, r6, r7, r8, .val (.int c3), .val (.int c4), r11, .val (.int (0 : Int32)), r13, .val (.ref aB), r15, r16, r17, r18, .val (.int w2.toInt32), .val (.long lf2), .second, r22, r23, r24, r25, r26, .val (.long lf1), .second, .val (.int (1 : Int32)), .val (.int (1 : Int32)), .val (.int (1 : Int32)), .val (.int (0 : Int32)), .unset, .unset, .unset, .unset, .unset]) rfl rfl ?_
      refine own_iconst (pc' := 526) X161 hx (hb hby at_525) (v := (2 : Int32)) rfl rfl ?_
      have hB := ht.trans (own_B01FF c3 c4 lf1 hc472 hc500)
      simp only [Prod.mk.injEq] at hB
      obtain ⟨rfl, rfl, rfl, rfl⟩ := hB
      show Goes p e below s 24 128 (Q_0 Z q0 q1 q2 q3 q4 q5 h0 n0) T161 (mkF m 526 #[r0, r1, r2, r3, r4, r5, r6, r7, r8, .val (.int c3), .val (.int c4), r11, .val (.int (0 : Int32)), r13, .val (.ref aB), r15, r16, r17, r18, .val (.int (1 : Int32)), .val (.long (lf1 + own_l1 (own_out c3))), .second, r22, r23, r24, r25, r26, .val (.long lf1), .second, .val (.int (1 : Int32)), .val (.int (1 : Int32)), .val (.int (1 : Int32)), .val (.int (0 : Int32)), .unset, .unset, .unset, .unset, .unset] [(.int (2 : Int32))])
      refine own_newarray (pc' := 528) X161 hx hZ (hw _ (List.mem_of_getElem? (i := 5) rfl)) ep160 (hb hby at_526) (k := 2) (cap := 2) rfl (by decide) rfl (by decide) (by decide) (by decide) (by decide) rfl ?_
      intro T173 h173 a173 g173 X173 e173 E173 P173
      show Goes p e below s 24 128 (Q_0 Z q0 q1 q2 q3 q4 q5 h0 n0) T173 (mkF m 528 #[r0, r1, r2, r3, r4, r5, r6, r7, r8, .val (.int c3), .val (.int c4), r11, .val (.int (0 : Int32)), r13, .val (.ref aB), r15, r16, r17, r18, .val (.int (1 : Int32)), .val (.long (lf1 + own_l1 (own_out c3))), .second, r22, r23, r24, r25, r26, .val (.long lf1), .second, .val (.int (1 : Int32)), .val (.int (1 : Int32)), .val (.int (1 : Int32)), .val (.int (0 : Int32)), .unset, .unset, .unset, .unset, .unset] [(.ref a173)])
      have PB := PJ.ext E173
      have ge : n0 ≤ a173 := by rw [g173]; exact ZJ
      have neB : aB ≠ a173 := fun q => absurd (q ▸ PJ.lt) (by rw [g173]; exact Nat.lt_irrefl _)
      have ZE : n0 ≤ Array.size h173 := Nat.le_trans ZJ E173.1
      refine own_astore (pc' := 530) X173 hx (hb hby at_528) rfl (Ls' := #[r0, r1, r2, r3, r4, r5, r6, r7, r8, .val (.int c3), .val (.int c4), r11, .val (.int (0 : Int32)), r13, .val (.ref aB), r15, r16, r17, r18, .val (.int (1 : Int32)), .val (.long (lf1 + own_l1 (own_out c3))), .second, r22, r23, r24, r25, r26, .val (.long lf1), .second, .val (.int (1 : Int32)), .val (.int (1 : Int32)), .val (.int (1 : Int32)), .val (.int (0 : Int32)), .val (.ref a173), .unset, .unset, .unset, .unset]) rfl rfl ?_
      refine own_iload (pc' := 532) X173 hx (hb hby at_530) rfl rfl ?_
      refine own_istore (pc' := 534) X173 hx (hb hby at_532) (Ls' := #[r0, r1, r2, r3, r4, r5, r6, r7, r8, .val (.int c3), .val (.int c4), r11, .val (.int (0 : Int32)), r13, .val (.ref aB), r15, r16, r17, r18, .val (.int (1 : Int32)), .val (.long (lf1 + own_l1 (own_out c3))), .second, r22, r23, r24, r25, r26, .val (.long lf1), .second, .val (.int (1 : Int32)), .val (.int (1 : Int32)), .val (.int (1 : Int32)), .val (.int (0 : Int32)), .val (.ref a173), .val (.int (0 : Int32)), .unset, .unset, .unset]) rfl rfl ?_
      refine own_iload (pc' := 536) X173 hx (hb hby at_534) rfl rfl ?_
      refine own_ifN (pc' := 539) X173 hx (hb hby at_536) (by decide) rfl ?_
      refine own_aload (pc' := 541) X173 hx (hb hby at_539) rfl rfl rfl ?_
      refine own_iload (pc' := 543) X173 hx (hb hby at_541) rfl rfl ?_
      refine own_iload (pc' := 545) X173 hx (hb hby at_543) rfl rfl ?_
      obtain ⟨_, _, ⟨T175, L175, k175, n175⟩, -, X175, ⟨Lc175, hQ175, l175, y175, z175⟩, st175⟩ := Jvm.LawKit.callS X173 hx (y := (⟨"com/example/dipper/dipper/core/LineEndsNormalizePinLaw", "out", "(C)C"⟩ : MethodName)) hown (mvT hZ (hw _ (List.mem_of_getElem? (i := 32) rfl))) (mvT hZ (hw _ (List.mem_of_getElem? (i := 33) rfl))) (mvT hZ (hw _ (List.mem_of_getElem? (i := 2) rfl))) (mvT hZ (hw _ (List.mem_of_getElem? (i := 34) rfl))) (by decide) (backOf (W := 2) (rm_2 l Z a0 hw [] c3 h173 n0 ZE hC3) hZ (hw _ (List.mem_of_getElem? (i := 34) rfl)) (hw _ (List.mem_of_getElem? (i := 2) rfl)) (by decide) (by decide)) (g := (mkF m 545 #[r0, r1, r2, r3, r4, r5, r6, r7, r8, .val (.int c3), .val (.int c4), r11, .val (.int (0 : Int32)), r13, .val (.ref aB), r15, r16, r17, r18, .val (.int (1 : Int32)), .val (.long (lf1 + own_l1 (own_out c3))), .second, r22, r23, r24, r25, r26, .val (.long lf1), .second, .val (.int (1 : Int32)), .val (.int (1 : Int32)), .val (.int (1 : Int32)), .val (.int (0 : Int32)), .val (.ref a173), .val (.int (0 : Int32)), .unset, .unset, .unset] [(.int c3), (.int (0 : Int32)), (.ref a173)])) rfl (by rw [hml]; rfl) (argsL := [(.int c3)]) (rest := [(.int (0 : Int32)), (.ref a173)]) (lenOf pd_2 rfl) rfl (by show 2 * 0 + _ ≤ _; exact Nat.le_of_eq rfl) (hb hby at_545) (fun _ _ => ⟨rfl, e173, (by decide : 5 + 0 ≤ _), (by decide : 12 + 0 ≤ _)⟩)
      dsimp only [Pt.U, Pt.locs, Pt.cells, Pt.slots] at X175 l175 y175 z175 st175 hQ175
      subst l175 y175 z175
      obtain ⟨rfl, M175, eo174⟩ := hQ175
      have N175 := Fr.app N161 M175
      refine Goes.pre st175 ?_
      show Goes p e below s 24 128 (Q_0 Z q0 q1 q2 q3 q4 q5 h0 n0) T175 (mkF m 548 #[r0, r1, r2, r3, r4, r5, r6, r7, r8, .val (.int c3), .val (.int c4), r11, .val (.int (0 : Int32)), r13, .val (.ref aB), r15, r16, r17, r18, .val (.int (1 : Int32)), .val (.long (lf1 + own_l1 (own_out c3))), .second, r22, r23, r24, r25, r26, .val (.long lf1), .second, .val (.int (1 : Int32)), .val (.int (1 : Int32)), .val (.int (1 : Int32)), .val (.int (0 : Int32)), .val (.ref a173), .val (.int (0 : Int32)), .unset, .unset, .unset] [(.int (own_out c3)), (.int (0 : Int32)), (.ref a173)])
      refine own_castore (pc' := 549) X175 hx hZ eo174 P173 (hb hby at_548) (own_nar (own_outC hC3)) (by decide) (k := 0) (by decide) (by simp) rfl ?_
      intro T176 h176 X176 e176 W176 P176
      have N176 := Fr.snoc X176 N175 ge
      have P176_aB := PB.other W176 neB
      have Z176 : n0 ≤ Array.size h176 := by rw [W176.size]; exact ZE
      show Goes p e below s 24 128 (Q_0 Z q0 q1 q2 q3 q4 q5 h0 n0) T176 (mkF m 549 #[r0, r1, r2, r3, r4, r5, r6, r7, r8, .val (.int c3), .val (.int c4), r11, .val (.int (0 : Int32)), r13, .val (.ref aB), r15, r16, r17, r18, .val (.int (1 : Int32)), .val (.long (lf1 + own_l1 (own_out c3))), .second, r22, r23, r24, r25, r26, .val (.long lf1), .second, .val (.int (1 : Int32)), .val (.int (1 : Int32)), .val (.int (1 : Int32)), .val (.int (0 : Int32)), .val (.ref a173), .val (.int (0 : Int32)), .unset, .unset, .unset] [])
      have P176x : own_PA Z h176 a173 .char [(own_out c3), (0 : Int32)] := P176
      refine own_iinc (pc' := 552) X176 hx (hb hby at_549) rfl (y := (1 : Int32)) (by decide) (Ls' := #[r0, r1, r2, r3, r4, r5, r6, r7, r8, .val (.int c3), .val (.int c4), r11, .val (.int (0 : Int32)), r13, .val (.ref aB), r15, r16, r17, r18, .val (.int (1 : Int32)), .val (.long (lf1 + own_l1 (own_out c3))), .second, r22, r23, r24, r25, r26, .val (.long lf1), .second, .val (.int (1 : Int32)), .val (.int (1 : Int32)), .val (.int (1 : Int32)), .val (.int (0 : Int32)), .val (.ref a173), .val (.int (1 : Int32)), .unset, .unset, .unset]) rfl rfl ?_
      refine own_iload (pc' := 554) X176 hx (hb hby at_552) rfl rfl ?_
      refine own_ifY X176 hx (hb hby at_554) (by decide) (by decide) (pc' := 570) (by decide) ?_
      refine own_lload (pc' := 572) X176 hx (hb hby at_570) rfl rfl ?_
      refine own_iload (pc' := 574) X176 hx (hb hby at_572) rfl rfl ?_
      refine own_iload (pc' := 576) X176 hx (hb hby at_574) rfl rfl ?_
      obtain ⟨_, _, ⟨T178, L178, k178, n178⟩, -, X178, ⟨Lc178, hQ178, l178, y178, z178⟩, st178⟩ := Jvm.LawKit.callS X176 hx (y := (⟨"com/example/dipper/dipper/core/LineEndsNormalizePinLaw", "lf", "(ZC)J"⟩ : MethodName)) hown (mvT hZ (hw _ (List.mem_of_getElem? (i := 35) rfl))) (mvT hZ (hw _ (List.mem_of_getElem? (i := 36) rfl))) (mvT hZ (hw _ (List.mem_of_getElem? (i := 2) rfl))) (mvT hZ (hw _ (List.mem_of_getElem? (i := 37) rfl))) (by decide) (backOf (W := 2) (rm_4 l Z a0 hw [] (1 : Int32) c3 h176 n0 Z176 hC3) hZ (hw _ (List.mem_of_getElem? (i := 37) rfl)) (hw _ (List.mem_of_getElem? (i := 2) rfl)) (by decide) (by decide)) (g := (mkF m 576 #[r0, r1, r2, r3, r4, r5, r6, r7, r8, .val (.int c3), .val (.int c4), r11, .val (.int (0 : Int32)), r13, .val (.ref aB), r15, r16, r17, r18, .val (.int (1 : Int32)), .val (.long (lf1 + own_l1 (own_out c3))), .second, r22, r23, r24, r25, r26, .val (.long lf1), .second, .val (.int (1 : Int32)), .val (.int (1 : Int32)), .val (.int (1 : Int32)), .val (.int (0 : Int32)), .val (.ref a173), .val (.int (1 : Int32)), .unset, .unset, .unset] [(.int c3), (.int (1 : Int32)), (.long lf1)])) rfl (by rw [hml]; rfl) (argsL := [(.int (1 : Int32)), (.int c3)]) (rest := [(.long lf1)]) (lenOf pd_4 rfl) rfl (by show 2 * 0 + _ ≤ _; exact Nat.le_of_eq rfl) (hb hby at_576) (fun _ _ => ⟨rfl, e176, (by decide : 5 + 0 ≤ _), (by decide : 12 + 0 ≤ _)⟩)
      dsimp only [Pt.U, Pt.locs, Pt.cells, Pt.slots] at X178 l178 y178 z178 st178 hQ178
      subst l178 y178 z178
      obtain ⟨rfl, M178, el177⟩ := hQ178
      have N178 := Fr.app N176 M178
      refine Goes.pre st178 ?_
      show Goes p e below s 24 128 (Q_0 Z q0 q1 q2 q3 q4 q5 h0 n0) T178 (mkF m 579 #[r0, r1, r2, r3, r4, r5, r6, r7, r8, .val (.int c3), .val (.int c4), r11, .val (.int (0 : Int32)), r13, .val (.ref aB), r15, r16, r17, r18, .val (.int (1 : Int32)), .val (.long (lf1 + own_l1 (own_out c3))), .second, r22, r23, r24, r25, r26, .val (.long lf1), .second, .val (.int (1 : Int32)), .val (.int (1 : Int32)), .val (.int (1 : Int32)), .val (.int (0 : Int32)), .val (.ref a173), .val (.int (1 : Int32)), .unset, .unset, .unset] [(.long (own_lf (1 : Int32) c3)), (.long lf1)])
      refine own_ladd (pc' := 580) X178 hx (hb hby at_579) rfl ?_
      refine own_iload (pc' := 582) X178 hx (hb hby at_580) rfl rfl ?_
      refine own_iload (pc' := 584) X178 hx (hb hby at_582) rfl rfl ?_
      obtain ⟨_, _, ⟨T180, L180, k180, n180⟩, -, X180, ⟨Lc180, hQ180, l180, y180, z180⟩, st180⟩ := Jvm.LawKit.callS X178 hx (y := (⟨"com/example/dipper/dipper/core/LineEndsNormalizePinLaw", "lf", "(ZC)J"⟩ : MethodName)) hown (mvT hZ (hw _ (List.mem_of_getElem? (i := 35) rfl))) (mvT hZ (hw _ (List.mem_of_getElem? (i := 36) rfl))) (mvT hZ (hw _ (List.mem_of_getElem? (i := 2) rfl))) (mvT hZ (hw _ (List.mem_of_getElem? (i := 37) rfl))) (by decide) (backOf (W := 2) (rm_4 l Z a0 hw [] (0 : Int32) c4 h176 n0 Z176 hC4) hZ (hw _ (List.mem_of_getElem? (i := 37) rfl)) (hw _ (List.mem_of_getElem? (i := 2) rfl)) (by decide) (by decide)) (g := (mkF m 584 #[r0, r1, r2, r3, r4, r5, r6, r7, r8, .val (.int c3), .val (.int c4), r11, .val (.int (0 : Int32)), r13, .val (.ref aB), r15, r16, r17, r18, .val (.int (1 : Int32)), .val (.long (lf1 + own_l1 (own_out c3))), .second, r22, r23, r24, r25, r26, .val (.long lf1), .second, .val (.int (1 : Int32)), .val (.int (1 : Int32)), .val (.int (1 : Int32)), .val (.int (0 : Int32)), .val (.ref a173), .val (.int (1 : Int32)), .unset, .unset, .unset] [(.int c4), (.int (0 : Int32)), (.long (lf1 + (own_lf (1 : Int32) c3)))])) rfl (by rw [hml]; rfl) (argsL := [(.int (0 : Int32)), (.int c4)]) (rest := [(.long (lf1 + (own_lf (1 : Int32) c3)))]) (lenOf pd_4 rfl) rfl (by show 2 * 0 + _ ≤ _; exact Nat.le_of_eq rfl) (hb hby at_584) (fun _ _ => ⟨rfl, el177, (by decide : 5 + 0 ≤ _), (by decide : 12 + 0 ≤ _)⟩)
      dsimp only [Pt.U, Pt.locs, Pt.cells, Pt.slots] at X180 l180 y180 z180 st180 hQ180
      subst l180 y180 z180
      obtain ⟨rfl, M180, el179⟩ := hQ180
      have N180 := Fr.app N178 M180
      refine Goes.pre st180 ?_
      show Goes p e below s 24 128 (Q_0 Z q0 q1 q2 q3 q4 q5 h0 n0) T180 (mkF m 587 #[r0, r1, r2, r3, r4, r5, r6, r7, r8, .val (.int c3), .val (.int c4), r11, .val (.int (0 : Int32)), r13, .val (.ref aB), r15, r16, r17, r18, .val (.int (1 : Int32)), .val (.long (lf1 + own_l1 (own_out c3))), .second, r22, r23, r24, r25, r26, .val (.long lf1), .second, .val (.int (1 : Int32)), .val (.int (1 : Int32)), .val (.int (1 : Int32)), .val (.int (0 : Int32)), .val (.ref a173), .val (.int (1 : Int32)), .unset, .unset, .unset] [(.long (own_lf (0 : Int32) c4)), (.long (lf1 + (own_lf (1 : Int32) c3)))])
      refine own_ladd (pc' := 588) X180 hx (hb hby at_587) rfl ?_
      refine own_lstore (pc' := 590) X180 hx (hb hby at_588) (Ls' := #[r0, r1, r2, r3, r4, r5, r6, r7, r8, .val (.int c3), .val (.int c4), r11, .val (.int (0 : Int32)), r13, .val (.ref aB), r15, r16, r17, r18, .val (.int (1 : Int32)), .val (.long (lf1 + own_l1 (own_out c3))), .second, r22, r23, r24, r25, r26, .val (.long lf1), .second, .val (.int (1 : Int32)), .val (.int (1 : Int32)), .val (.int (1 : Int32)), .val (.int (0 : Int32)), .val (.ref a173), .val (.int (1 : Int32)), .val (.long ((lf1 + (own_lf (1 : Int32) c3)) + (own_lf (0 : Int32) c4))), .second, .unset]) rfl rfl ?_
      refine own_iload (pc' := 592) X180 hx (hb hby at_590) rfl rfl ?_
      refine own_iload (pc' := 594) X180 hx (hb hby at_592) rfl rfl ?_
      refine own_icmpN (pc' := 597) X180 hx (hb hby at_594) (by decide) rfl ?_
      refine own_iload (pc' := 599) X180 hx (hb hby at_597) rfl rfl ?_
      refine own_ifN (pc' := 602) X180 hx (hb hby at_599) (by decide) rfl ?_
      refine own_iconst (pc' := 603) X180 hx (hb hby at_602) (v := (0 : Int32)) rfl rfl ?_
      refine own_iload (pc' := 605) X180 hx (hb hby at_603) rfl rfl ?_
      refine own_icmpN (pc' := 608) X180 hx (hb hby at_605) (by decide) rfl ?_
      refine own_aload (pc' := 610) X180 hx (hb hby at_608) rfl rfl rfl ?_
      refine own_iconst (pc' := 611) X180 hx (hb hby at_610) (v := (0 : Int32)) rfl rfl ?_
      refine own_caload (pc' := 612) X180 hx hZ el179 P176_aB (hb hby at_611) (v := (own_out c3)) (by decide) (k := 0) (by decide) rfl rfl ?_
      refine own_aload (pc' := 614) X180 hx (hb hby at_612) rfl rfl rfl ?_
      refine own_iconst (pc' := 615) X180 hx (hb hby at_614) (v := (0 : Int32)) rfl rfl ?_
      refine own_caload (pc' := 616) X180 hx hZ el179 P176x (hb hby at_615) (v := (own_out c3)) (by decide) (k := 0) (by decide) rfl rfl ?_
      refine own_icmpN (pc' := 619) X180 hx (hb hby at_616) (teq rfl).2 rfl ?_
      refine own_iload (pc' := 621) X180 hx (hb hby at_619) rfl rfl ?_
      refine own_iconst (pc' := 622) X180 hx (hb hby at_621) (v := (1 : Int32)) rfl rfl ?_
      refine own_icmpN (pc' := 625) X180 hx (hb hby at_622) (by decide) rfl ?_
      refine own_iconst (pc' := 626) X180 hx (hb hby at_625) (v := (1 : Int32)) rfl rfl ?_
      refine own_iload (pc' := 628) X180 hx (hb hby at_626) rfl rfl ?_
      refine own_icmpY X180 hx (hb hby at_628) (by decide) (by decide) (pc' := 642) (by decide) ?_
      refine own_iload (pc' := 644) X180 hx (hb hby at_642) rfl rfl ?_
      refine own_iconst (pc' := 645) X180 hx (hb hby at_644) (v := (1 : Int32)) rfl rfl ?_
      refine own_icmpY X180 hx (hb hby at_645) (by decide) (by decide) (pc' := 657) (by decide) ?_
      refine own_iload (pc' := 659) X180 hx (hb hby at_657) rfl rfl ?_
      refine own_iconst (pc' := 660) X180 hx (hb hby at_659) (v := (2 : Int32)) rfl rfl ?_
      refine own_icmpY X180 hx (hb hby at_660) (by decide) (by decide) (pc' := 672) (by decide) ?_
      refine own_lload (pc' := 674) X180 hx (hb hby at_672) rfl rfl ?_
      refine own_lload (pc' := 676) X180 hx (hb hby at_674) rfl rfl ?_
      refine own_lcmp (pc' := 677) X180 hx (hb hby at_676) rfl ?_
      refine own_ifN (pc' := 680) X180 hx (hb hby at_677) (own_Teq (by simp [own_lf] : (lf1 + own_l1 (own_out c3)) = ((lf1 + (own_lf (1 : Int32) c3)) + (own_lf (0 : Int32) c4)))).2 rfl ?_
      refine own_iconst (pc' := 681) X180 hx (hb hby at_680) (v := (1 : Int32)) rfl rfl ?_
      refine own_goto X180 hx (hb hby at_681) (by decide) (pc' := 685) (by decide) ?_
      refine own_istore (pc' := 687) X180 hx (hb hby at_685) (Ls' := #[r0, r1, r2, r3, r4, r5, r6, r7, r8, .val (.int c3), .val (.int c4), r11, .val (.int (0 : Int32)), r13, .val (.ref aB), r15, r16, r17, r18, .val (.int (1 : Int32)), .val (.long (lf1 + own_l1 (own_out c3))), .second, r22, r23, r24, r25, r26, .val (.long lf1), .second, .val (.int (1 : Int32)), .val (.int (1 : Int32)), .val (.int (1 : Int32)), .val (.int (0 : Int32)), .val (.ref a173), .val (.int (1 : Int32)), .val (.long ((lf1 + (own_lf (1 : Int32) c3)) + (own_lf (0 : Int32) c4))), .second, .val (.int (1 : Int32))]) rfl rfl ?_
      refine own_iload (pc' := 689) X180 hx (hb hby at_687) rfl rfl ?_
      refine own_ifN (pc' := 692) X180 hx (hb hby at_689) (by decide) rfl ?_
      refine own_iload (pc' := 694) X180 hx (hb hby at_692) rfl rfl ?_
      refine own_ifN (pc' := 697) X180 hx (hb hby at_694) (by decide) rfl ?_
      refine own_iconst (pc' := 698) X180 hx (hb hby at_697) (v := (1 : Int32)) rfl rfl ?_
      refine own_goto X180 hx (hb hby at_698) (by decide) (pc' := 702) (by decide) ?_
      exact own_retN X180 hx hlk (t := .boolean) hret (by simp) (hb hby at_702) (by decide) (by decide) ⟨rfl, N180⟩
set_option maxRecDepth 65536 in
set_option maxHeartbeats 40000000 in
theorem own_tB10 {p : Program} {l : Launch} {e : Env} {s : State} {m : MethodId} {below : List Frame} {meth : Method} {c : Code} {Z : State} {a0 : Array Value} (hw : ∀ d ∈ tables_1, d.before a0 Z = true) (q0 q1 q2 q3 q4 q5 : Int32) (h0 : Heap) (n0 : Nat) (Z0 : n0 ≤ Array.size h0) (hx : p.tables.exec = Jvm.exec) (hby : c.code = code) (hlk : meth.locks = false) (hml : c.maxLocals = 38) (hown : s.vm.findClass "com/example/dipper/dipper/core/LineEndsNormalizePinLaw" = some m.cls) (hZ : Z.Warmed39 s.vm) (hret : meth.sig.returnType = some .boolean) : ∀ (TJ : State) (hJ : Heap) (LJ : List Loc) (aB : Addr) (c3 c4 : Int32) (lf1 lf2 : Int64) (w2 : Nat) (vs2 : List Int32) (af2 : Int32) (r0 r1 r2 r3 r4 r5 r6 r7 r8 r11 r13 r15 r16 r17 r18 r22 r23 r24 r25 r26 : Slot), own_C c3 → own_C c4 → Stand p l e room_1 s m #[(.int q0), (.int q1), (.int q2), (.int q3), (.int q4), (.int q5)] below meth c TJ LJ 4 10 → TJ.heap = hJ → Fr n0 LJ → n0 ≤ Array.size hJ → own_PA Z hJ aB .char vs2 → (w2, vs2, af2, lf2) = own_nl (2 - 1) 1 1 [c3, c4] (0 : Int32) lf1 → Goes p e below s 24 128 (Q_0 Z q0 q1 q2 q3 q4 q5 h0 n0) TJ (mkF m 458 #[r0, r1, r2, r3, r4, r5, r6, r7, r8, .val (.int c3), .val (.int c4), r11, .val (.int (1 : Int32)), r13, .val (.ref aB), r15, r16, r17, r18, .val (.int w2.toInt32), .val (.long lf2), .second, r22, r23, r24, r25, r26, .val (.long lf1), .second, .val (.int (1 : Int32)), .val (.int (0 : Int32)), .unset, .unset, .unset, .unset, .unset, .unset, .unset] []) := by
  intro TJ hJ LJ aB c3 c4 lf1 lf2 w2 vs2 af2 r0 r1 r2 r3 r4 r5 r6 r7 r8 r11 r13 r15 r16 r17 r18 r22 r23 r24 r25 r26 hC3 hC4 XJ eJ NJ ZJ PJ ht
  refine own_iload (pc' := 460) XJ hx (hb hby at_458) rfl rfl ?_
  refine own_ifY XJ hx (hb hby at_460) (by decide) (by decide) (pc' := 479) (by decide) ?_
  refine own_iconst (pc' := 480) XJ hx (hb hby at_479) (v := (0 : Int32)) rfl rfl ?_
  refine own_istore (pc' := 482) XJ hx (hb hby at_480) (Ls' := #[r0, r1, r2, r3, r4, r5, r6, r7, r8, .val (.int c3), .val (.int c4), r11, .val (.int (1 : Int32)), r13, .val (.ref aB), r15, r16, r17, r18, .val (.int w2.toInt32), .val (.long lf2), .second, r22, r23, r24, r25, r26, .val (.long lf1), .second, .val (.int (1 : Int32)), .val (.int (0 : Int32)), .val (.int (0 : Int32)), .unset, .unset, .unset, .unset, .unset, .unset]) rfl rfl ?_
  refine own_iload (pc' := 484) XJ hx (hb hby at_482) rfl rfl ?_
  refine own_iconst (pc' := 485) XJ hx (hb hby at_484) (v := (1 : Int32)) rfl rfl ?_
  refine own_icmpN (pc' := 488) XJ hx (hb hby at_485) (by decide) rfl ?_
  refine own_iload (pc' := 490) XJ hx (hb hby at_488) rfl rfl ?_
  refine own_ifY XJ hx (hb hby at_490) (by decide) (by decide) (pc' := 506) (by decide) ?_
  refine own_iload (pc' := 508) XJ hx (hb hby at_506) rfl rfl ?_
  refine own_ifY XJ hx (hb hby at_508) (by decide) (by decide) (pc' := 518) (by decide) ?_
  refine own_iconst (pc' := 519) XJ hx (hb hby at_518) (v := (1 : Int32)) rfl rfl ?_
  refine own_goto XJ hx (hb hby at_519) (by decide) (pc' := 523) (by decide) ?_
  refine own_istore (pc' := 525) XJ hx (hb hby at_523) (Ls' := #[r0, r1, r2, r3, r4, r5, r6, r7, r8, .val (.int c3), .val (.int c4), r11, .val (.int (1 : Int32)), r13, .val (.ref aB), r15, r16, r17, r18, .val (.int w2.toInt32), .val (.long lf2), .second, r22, r23, r24, r25, r26, .val (.long lf1), .second, .val (.int (1 : Int32)), .val (.int (0 : Int32)), .val (.int (0 : Int32)), .val (.int (1 : Int32)), .unset, .unset, .unset, .unset, .unset]) rfl rfl ?_
  refine own_iconst (pc' := 526) XJ hx (hb hby at_525) (v := (2 : Int32)) rfl rfl ?_
  have hB := ht.trans (own_B10 c3 c4 lf1)
  simp only [Prod.mk.injEq] at hB
  obtain ⟨rfl, rfl, rfl, rfl⟩ := hB
  show Goes p e below s 24 128 (Q_0 Z q0 q1 q2 q3 q4 q5 h0 n0) TJ (mkF m 526 #[r0, r1, r2, r3, r4, r5, r6, r7, r8, .val (.int c3), .val (.int c4), r11, .val (.int (1 : Int32)), r13, .val (.ref aB), r15, r16, r17, r18, .val (.int (2 : Int32)), .val (.long (lf1 + own_l1 (own_out c4))), .second, r22, r23, r24, r25, r26, .val (.long lf1), .second, .val (.int (1 : Int32)), .val (.int (0 : Int32)), .val (.int (0 : Int32)), .val (.int (1 : Int32)), .unset, .unset, .unset, .unset, .unset] [(.int (2 : Int32))])
  refine own_newarray (pc' := 528) XJ hx hZ (hw _ (List.mem_of_getElem? (i := 5) rfl)) eJ (hb hby at_526) (k := 2) (cap := 2) rfl (by decide) rfl (by decide) (by decide) (by decide) (by decide) rfl ?_
  intro T181 h181 a181 g181 X181 e181 E181 P181
  show Goes p e below s 24 128 (Q_0 Z q0 q1 q2 q3 q4 q5 h0 n0) T181 (mkF m 528 #[r0, r1, r2, r3, r4, r5, r6, r7, r8, .val (.int c3), .val (.int c4), r11, .val (.int (1 : Int32)), r13, .val (.ref aB), r15, r16, r17, r18, .val (.int (2 : Int32)), .val (.long (lf1 + own_l1 (own_out c4))), .second, r22, r23, r24, r25, r26, .val (.long lf1), .second, .val (.int (1 : Int32)), .val (.int (0 : Int32)), .val (.int (0 : Int32)), .val (.int (1 : Int32)), .unset, .unset, .unset, .unset, .unset] [(.ref a181)])
  have PB := PJ.ext E181
  have ge : n0 ≤ a181 := by rw [g181]; exact ZJ
  have neB : aB ≠ a181 := fun q => absurd (q ▸ PJ.lt) (by rw [g181]; exact Nat.lt_irrefl _)
  have ZE : n0 ≤ Array.size h181 := Nat.le_trans ZJ E181.1
  refine own_astore (pc' := 530) X181 hx (hb hby at_528) rfl (Ls' := #[r0, r1, r2, r3, r4, r5, r6, r7, r8, .val (.int c3), .val (.int c4), r11, .val (.int (1 : Int32)), r13, .val (.ref aB), r15, r16, r17, r18, .val (.int (2 : Int32)), .val (.long (lf1 + own_l1 (own_out c4))), .second, r22, r23, r24, r25, r26, .val (.long lf1), .second, .val (.int (1 : Int32)), .val (.int (0 : Int32)), .val (.int (0 : Int32)), .val (.int (1 : Int32)), .val (.ref a181), .unset, .unset, .unset, .unset]) rfl rfl ?_
  refine own_iload (pc' := 532) X181 hx (hb hby at_530) rfl rfl ?_
  refine own_istore (pc' := 534) X181 hx (hb hby at_532) (Ls' := #[r0, r1, r2, r3, r4, r5, r6, r7, r8, .val (.int c3), .val (.int c4), r11, .val (.int (1 : Int32)), r13, .val (.ref aB), r15, r16, r17, r18, .val (.int (2 : Int32)), .val (.long (lf1 + own_l1 (own_out c4))), .second, r22, r23, r24, r25, r26, .val (.long lf1), .second, .val (.int (1 : Int32)), .val (.int (0 : Int32)), .val (.int (0 : Int32)), .val (.int (1 : Int32)), .val (.ref a181), .val (.int (1 : Int32)), .unset, .unset, .unset]) rfl rfl ?_
  refine own_iload (pc' := 536) X181 hx (hb hby at_534) rfl rfl ?_
  refine own_ifY X181 hx (hb hby at_536) (by decide) (by decide) (pc' := 552) (by decide) ?_
  refine own_iload (pc' := 554) X181 hx (hb hby at_552) rfl rfl ?_
  refine own_ifN (pc' := 557) X181 hx (hb hby at_554) (by decide) rfl ?_
  refine own_aload (pc' := 559) X181 hx (hb hby at_557) rfl rfl rfl ?_
  refine own_iload (pc' := 561) X181 hx (hb hby at_559) rfl rfl ?_
  refine own_iload (pc' := 563) X181 hx (hb hby at_561) rfl rfl ?_
  obtain ⟨_, _, ⟨T183, L183, k183, n183⟩, -, X183, ⟨Lc183, hQ183, l183, y183, z183⟩, st183⟩ := Jvm.LawKit.callS X181 hx (y := (⟨"com/example/dipper/dipper/core/LineEndsNormalizePinLaw", "out", "(C)C"⟩ : MethodName)) hown (mvT hZ (hw _ (List.mem_of_getElem? (i := 32) rfl))) (mvT hZ (hw _ (List.mem_of_getElem? (i := 33) rfl))) (mvT hZ (hw _ (List.mem_of_getElem? (i := 2) rfl))) (mvT hZ (hw _ (List.mem_of_getElem? (i := 34) rfl))) (by decide) (backOf (W := 2) (rm_2 l Z a0 hw [] c4 h181 n0 ZE hC4) hZ (hw _ (List.mem_of_getElem? (i := 34) rfl)) (hw _ (List.mem_of_getElem? (i := 2) rfl)) (by decide) (by decide)) (g := (mkF m 563 #[r0, r1, r2, r3, r4, r5, r6, r7, r8, .val (.int c3), .val (.int c4), r11, .val (.int (1 : Int32)), r13, .val (.ref aB), r15, r16, r17, r18, .val (.int (2 : Int32)), .val (.long (lf1 + own_l1 (own_out c4))), .second, r22, r23, r24, r25, r26, .val (.long lf1), .second, .val (.int (1 : Int32)), .val (.int (0 : Int32)), .val (.int (0 : Int32)), .val (.int (1 : Int32)), .val (.ref a181), .val (.int (1 : Int32)), .unset, .unset, .unset] [(.int c4), (.int (1 : Int32)), (.ref a181)])) rfl (by rw [hml]; rfl) (argsL := [(.int c4)]) (rest := [(.int (1 : Int32)), (.ref a181)]) (lenOf pd_2 rfl) rfl (by show 2 * 0 + _ ≤ _; exact Nat.le_of_eq rfl) (hb hby at_563) (fun _ _ => ⟨rfl, e181, (by decide : 5 + 0 ≤ _), (by decide : 12 + 0 ≤ _)⟩)
  dsimp only [Pt.U, Pt.locs, Pt.cells, Pt.slots] at X183 l183 y183 z183 st183 hQ183
  subst l183 y183 z183
  obtain ⟨rfl, M183, eo182⟩ := hQ183
  have N183 := Fr.app NJ M183
  refine Goes.pre st183 ?_
  show Goes p e below s 24 128 (Q_0 Z q0 q1 q2 q3 q4 q5 h0 n0) T183 (mkF m 566 #[r0, r1, r2, r3, r4, r5, r6, r7, r8, .val (.int c3), .val (.int c4), r11, .val (.int (1 : Int32)), r13, .val (.ref aB), r15, r16, r17, r18, .val (.int (2 : Int32)), .val (.long (lf1 + own_l1 (own_out c4))), .second, r22, r23, r24, r25, r26, .val (.long lf1), .second, .val (.int (1 : Int32)), .val (.int (0 : Int32)), .val (.int (0 : Int32)), .val (.int (1 : Int32)), .val (.ref a181), .val (.int (1 : Int32)), .unset, .unset, .unset] [(.int (own_out c4)), (.int (1 : Int32)), (.ref a181)])
  refine own_castore (pc' := 567) X183 hx hZ eo182 P181 (hb hby at_566) (own_nar (own_outC hC4)) (by decide) (k := 1) (by decide) (by simp) rfl ?_
  intro T184 h184 X184 e184 W184 P184
  have N184 := Fr.snoc X184 N183 ge
  have P184_aB := PB.other W184 neB
  have Z184 : n0 ≤ Array.size h184 := by rw [W184.size]; exact ZE
  show Goes p e below s 24 128 (Q_0 Z q0 q1 q2 q3 q4 q5 h0 n0) T184 (mkF m 567 #[r0, r1, r2, r3, r4, r5, r6, r7, r8, .val (.int c3), .val (.int c4), r11, .val (.int (1 : Int32)), r13, .val (.ref aB), r15, r16, r17, r18, .val (.int (2 : Int32)), .val (.long (lf1 + own_l1 (own_out c4))), .second, r22, r23, r24, r25, r26, .val (.long lf1), .second, .val (.int (1 : Int32)), .val (.int (0 : Int32)), .val (.int (0 : Int32)), .val (.int (1 : Int32)), .val (.ref a181), .val (.int (1 : Int32)), .unset, .unset, .unset] [])
  have P184x : own_PA Z h184 a181 .char [(0 : Int32), (own_out c4)] := P184
  refine own_iinc (pc' := 570) X184 hx (hb hby at_567) rfl (y := (2 : Int32)) (by decide) (Ls' := #[r0, r1, r2, r3, r4, r5, r6, r7, r8, .val (.int c3), .val (.int c4), r11, .val (.int (1 : Int32)), r13, .val (.ref aB), r15, r16, r17, r18, .val (.int (2 : Int32)), .val (.long (lf1 + own_l1 (own_out c4))), .second, r22, r23, r24, r25, r26, .val (.long lf1), .second, .val (.int (1 : Int32)), .val (.int (0 : Int32)), .val (.int (0 : Int32)), .val (.int (1 : Int32)), .val (.ref a181), .val (.int (2 : Int32)), .unset, .unset, .unset]) rfl rfl ?_
  refine own_lload (pc' := 572) X184 hx (hb hby at_570) rfl rfl ?_
  refine own_iload (pc' := 574) X184 hx (hb hby at_572) rfl rfl ?_
  refine own_iload (pc' := 576) X184 hx (hb hby at_574) rfl rfl ?_
  obtain ⟨_, _, ⟨T186, L186, k186, n186⟩, -, X186, ⟨Lc186, hQ186, l186, y186, z186⟩, st186⟩ := Jvm.LawKit.callS X184 hx (y := (⟨"com/example/dipper/dipper/core/LineEndsNormalizePinLaw", "lf", "(ZC)J"⟩ : MethodName)) hown (mvT hZ (hw _ (List.mem_of_getElem? (i := 35) rfl))) (mvT hZ (hw _ (List.mem_of_getElem? (i := 36) rfl))) (mvT hZ (hw _ (List.mem_of_getElem? (i := 2) rfl))) (mvT hZ (hw _ (List.mem_of_getElem? (i := 37) rfl))) (by decide) (backOf (W := 2) (rm_4 l Z a0 hw [] (0 : Int32) c3 h184 n0 Z184 hC3) hZ (hw _ (List.mem_of_getElem? (i := 37) rfl)) (hw _ (List.mem_of_getElem? (i := 2) rfl)) (by decide) (by decide)) (g := (mkF m 576 #[r0, r1, r2, r3, r4, r5, r6, r7, r8, .val (.int c3), .val (.int c4), r11, .val (.int (1 : Int32)), r13, .val (.ref aB), r15, r16, r17, r18, .val (.int (2 : Int32)), .val (.long (lf1 + own_l1 (own_out c4))), .second, r22, r23, r24, r25, r26, .val (.long lf1), .second, .val (.int (1 : Int32)), .val (.int (0 : Int32)), .val (.int (0 : Int32)), .val (.int (1 : Int32)), .val (.ref a181), .val (.int (2 : Int32)), .unset, .unset, .unset] [(.int c3), (.int (0 : Int32)), (.long lf1)])) rfl (by rw [hml]; rfl) (argsL := [(.int (0 : Int32)), (.int c3)]) (rest := [(.long lf1)]) (lenOf pd_4 rfl) rfl (by show 2 * 0 + _ ≤ _; exact Nat.le_of_eq rfl) (hb hby at_576) (fun _ _ => ⟨rfl, e184, (by decide : 5 + 0 ≤ _), (by decide : 12 + 0 ≤ _)⟩)
  dsimp only [Pt.U, Pt.locs, Pt.cells, Pt.slots] at X186 l186 y186 z186 st186 hQ186
  subst l186 y186 z186
  obtain ⟨rfl, M186, el185⟩ := hQ186
  have N186 := Fr.app N184 M186
  refine Goes.pre st186 ?_
  show Goes p e below s 24 128 (Q_0 Z q0 q1 q2 q3 q4 q5 h0 n0) T186 (mkF m 579 #[r0, r1, r2, r3, r4, r5, r6, r7, r8, .val (.int c3), .val (.int c4), r11, .val (.int (1 : Int32)), r13, .val (.ref aB), r15, r16, r17, r18, .val (.int (2 : Int32)), .val (.long (lf1 + own_l1 (own_out c4))), .second, r22, r23, r24, r25, r26, .val (.long lf1), .second, .val (.int (1 : Int32)), .val (.int (0 : Int32)), .val (.int (0 : Int32)), .val (.int (1 : Int32)), .val (.ref a181), .val (.int (2 : Int32)), .unset, .unset, .unset] [(.long (own_lf (0 : Int32) c3)), (.long lf1)])
  refine own_ladd (pc' := 580) X186 hx (hb hby at_579) rfl ?_
  refine own_iload (pc' := 582) X186 hx (hb hby at_580) rfl rfl ?_
  refine own_iload (pc' := 584) X186 hx (hb hby at_582) rfl rfl ?_
  obtain ⟨_, _, ⟨T188, L188, k188, n188⟩, -, X188, ⟨Lc188, hQ188, l188, y188, z188⟩, st188⟩ := Jvm.LawKit.callS X186 hx (y := (⟨"com/example/dipper/dipper/core/LineEndsNormalizePinLaw", "lf", "(ZC)J"⟩ : MethodName)) hown (mvT hZ (hw _ (List.mem_of_getElem? (i := 35) rfl))) (mvT hZ (hw _ (List.mem_of_getElem? (i := 36) rfl))) (mvT hZ (hw _ (List.mem_of_getElem? (i := 2) rfl))) (mvT hZ (hw _ (List.mem_of_getElem? (i := 37) rfl))) (by decide) (backOf (W := 2) (rm_4 l Z a0 hw [] (1 : Int32) c4 h184 n0 Z184 hC4) hZ (hw _ (List.mem_of_getElem? (i := 37) rfl)) (hw _ (List.mem_of_getElem? (i := 2) rfl)) (by decide) (by decide)) (g := (mkF m 584 #[r0, r1, r2, r3, r4, r5, r6, r7, r8, .val (.int c3), .val (.int c4), r11, .val (.int (1 : Int32)), r13, .val (.ref aB), r15, r16, r17, r18, .val (.int (2 : Int32)), .val (.long (lf1 + own_l1 (own_out c4))), .second, r22, r23, r24, r25, r26, .val (.long lf1), .second, .val (.int (1 : Int32)), .val (.int (0 : Int32)), .val (.int (0 : Int32)), .val (.int (1 : Int32)), .val (.ref a181), .val (.int (2 : Int32)), .unset, .unset, .unset] [(.int c4), (.int (1 : Int32)), (.long (lf1 + (own_lf (0 : Int32) c3)))])) rfl (by rw [hml]; rfl) (argsL := [(.int (1 : Int32)), (.int c4)]) (rest := [(.long (lf1 + (own_lf (0 : Int32) c3)))]) (lenOf pd_4 rfl) rfl (by show 2 * 0 + _ ≤ _; exact Nat.le_of_eq rfl) (hb hby at_584) (fun _ _ => ⟨rfl, el185, (by decide : 5 + 0 ≤ _), (by decide : 12 + 0 ≤ _)⟩)
  dsimp only [Pt.U, Pt.locs, Pt.cells, Pt.slots] at X188 l188 y188 z188 st188 hQ188
  subst l188 y188 z188
  obtain ⟨rfl, M188, el187⟩ := hQ188
  have N188 := Fr.app N186 M188
  refine Goes.pre st188 ?_
  show Goes p e below s 24 128 (Q_0 Z q0 q1 q2 q3 q4 q5 h0 n0) T188 (mkF m 587 #[r0, r1, r2, r3, r4, r5, r6, r7, r8, .val (.int c3), .val (.int c4), r11, .val (.int (1 : Int32)), r13, .val (.ref aB), r15, r16, r17, r18, .val (.int (2 : Int32)), .val (.long (lf1 + own_l1 (own_out c4))), .second, r22, r23, r24, r25, r26, .val (.long lf1), .second, .val (.int (1 : Int32)), .val (.int (0 : Int32)), .val (.int (0 : Int32)), .val (.int (1 : Int32)), .val (.ref a181), .val (.int (2 : Int32)), .unset, .unset, .unset] [(.long (own_lf (1 : Int32) c4)), (.long (lf1 + (own_lf (0 : Int32) c3)))])
  refine own_ladd (pc' := 588) X188 hx (hb hby at_587) rfl ?_
  refine own_lstore (pc' := 590) X188 hx (hb hby at_588) (Ls' := #[r0, r1, r2, r3, r4, r5, r6, r7, r8, .val (.int c3), .val (.int c4), r11, .val (.int (1 : Int32)), r13, .val (.ref aB), r15, r16, r17, r18, .val (.int (2 : Int32)), .val (.long (lf1 + own_l1 (own_out c4))), .second, r22, r23, r24, r25, r26, .val (.long lf1), .second, .val (.int (1 : Int32)), .val (.int (0 : Int32)), .val (.int (0 : Int32)), .val (.int (1 : Int32)), .val (.ref a181), .val (.int (2 : Int32)), .val (.long ((lf1 + (own_lf (0 : Int32) c3)) + (own_lf (1 : Int32) c4))), .second, .unset]) rfl rfl ?_
  refine own_iload (pc' := 592) X188 hx (hb hby at_590) rfl rfl ?_
  refine own_iload (pc' := 594) X188 hx (hb hby at_592) rfl rfl ?_
  refine own_icmpN (pc' := 597) X188 hx (hb hby at_594) (by decide) rfl ?_
  refine own_iload (pc' := 599) X188 hx (hb hby at_597) rfl rfl ?_
  refine own_ifY X188 hx (hb hby at_599) (by decide) (by decide) (pc' := 619) (by decide) ?_
  refine own_iload (pc' := 621) X188 hx (hb hby at_619) rfl rfl ?_
  refine own_iconst (pc' := 622) X188 hx (hb hby at_621) (v := (1 : Int32)) rfl rfl ?_
  refine own_icmpN (pc' := 625) X188 hx (hb hby at_622) (by decide) rfl ?_
  refine own_iconst (pc' := 626) X188 hx (hb hby at_625) (v := (1 : Int32)) rfl rfl ?_
  refine own_iload (pc' := 628) X188 hx (hb hby at_626) rfl rfl ?_
  refine own_icmpN (pc' := 631) X188 hx (hb hby at_628) (by decide) rfl ?_
  refine own_aload (pc' := 633) X188 hx (hb hby at_631) rfl rfl rfl ?_
  refine own_iconst (pc' := 634) X188 hx (hb hby at_633) (v := (1 : Int32)) rfl rfl ?_
  refine own_caload (pc' := 635) X188 hx hZ el187 P184_aB (hb hby at_634) (v := (own_out c4)) (by decide) (k := 1) (by decide) rfl rfl ?_
  refine own_aload (pc' := 637) X188 hx (hb hby at_635) rfl rfl rfl ?_
  refine own_iconst (pc' := 638) X188 hx (hb hby at_637) (v := (1 : Int32)) rfl rfl ?_
  refine own_caload (pc' := 639) X188 hx hZ el187 P184x (hb hby at_638) (v := (own_out c4)) (by decide) (k := 1) (by decide) rfl rfl ?_
  refine own_icmpN (pc' := 642) X188 hx (hb hby at_639) (teq rfl).2 rfl ?_
  refine own_iload (pc' := 644) X188 hx (hb hby at_642) rfl rfl ?_
  refine own_iconst (pc' := 645) X188 hx (hb hby at_644) (v := (1 : Int32)) rfl rfl ?_
  refine own_icmpN (pc' := 648) X188 hx (hb hby at_645) (by decide) rfl ?_
  refine own_aload (pc' := 650) X188 hx (hb hby at_648) rfl rfl rfl ?_
  refine own_iconst (pc' := 651) X188 hx (hb hby at_650) (v := (0 : Int32)) rfl rfl ?_
  refine own_caload (pc' := 652) X188 hx hZ el187 P184_aB (hb hby at_651) (v := c3) (by decide) (k := 0) (by decide) rfl rfl ?_
  refine own_iload (pc' := 654) X188 hx (hb hby at_652) rfl rfl ?_
  refine own_icmpN (pc' := 657) X188 hx (hb hby at_654) (teq rfl).2 rfl ?_
  refine own_iload (pc' := 659) X188 hx (hb hby at_657) rfl rfl ?_
  refine own_iconst (pc' := 660) X188 hx (hb hby at_659) (v := (2 : Int32)) rfl rfl ?_
  refine own_icmpY X188 hx (hb hby at_660) (by decide) (by decide) (pc' := 672) (by decide) ?_
  refine own_lload (pc' := 674) X188 hx (hb hby at_672) rfl rfl ?_
  refine own_lload (pc' := 676) X188 hx (hb hby at_674) rfl rfl ?_
  refine own_lcmp (pc' := 677) X188 hx (hb hby at_676) rfl ?_
  refine own_ifN (pc' := 680) X188 hx (hb hby at_677) (own_Teq (by simp [own_lf] : (lf1 + own_l1 (own_out c4)) = ((lf1 + (own_lf (0 : Int32) c3)) + (own_lf (1 : Int32) c4)))).2 rfl ?_
  refine own_iconst (pc' := 681) X188 hx (hb hby at_680) (v := (1 : Int32)) rfl rfl ?_
  refine own_goto X188 hx (hb hby at_681) (by decide) (pc' := 685) (by decide) ?_
  refine own_istore (pc' := 687) X188 hx (hb hby at_685) (Ls' := #[r0, r1, r2, r3, r4, r5, r6, r7, r8, .val (.int c3), .val (.int c4), r11, .val (.int (1 : Int32)), r13, .val (.ref aB), r15, r16, r17, r18, .val (.int (2 : Int32)), .val (.long (lf1 + own_l1 (own_out c4))), .second, r22, r23, r24, r25, r26, .val (.long lf1), .second, .val (.int (1 : Int32)), .val (.int (0 : Int32)), .val (.int (0 : Int32)), .val (.int (1 : Int32)), .val (.ref a181), .val (.int (2 : Int32)), .val (.long ((lf1 + (own_lf (0 : Int32) c3)) + (own_lf (1 : Int32) c4))), .second, .val (.int (1 : Int32))]) rfl rfl ?_
  refine own_iload (pc' := 689) X188 hx (hb hby at_687) rfl rfl ?_
  refine own_ifN (pc' := 692) X188 hx (hb hby at_689) (by decide) rfl ?_
  refine own_iload (pc' := 694) X188 hx (hb hby at_692) rfl rfl ?_
  refine own_ifN (pc' := 697) X188 hx (hb hby at_694) (by decide) rfl ?_
  refine own_iconst (pc' := 698) X188 hx (hb hby at_697) (v := (1 : Int32)) rfl rfl ?_
  refine own_goto X188 hx (hb hby at_698) (by decide) (pc' := 702) (by decide) ?_
  exact own_retN X188 hx hlk (t := .boolean) hret (by simp) (hb hby at_702) (by decide) (by decide) ⟨rfl, N188⟩
set_option maxRecDepth 65536 in
set_option maxHeartbeats 40000000 in
theorem own_tB11 {p : Program} {l : Launch} {e : Env} {s : State} {m : MethodId} {below : List Frame} {meth : Method} {c : Code} {Z : State} {a0 : Array Value} (hw : ∀ d ∈ tables_1, d.before a0 Z = true) (q0 q1 q2 q3 q4 q5 : Int32) (h0 : Heap) (n0 : Nat) (Z0 : n0 ≤ Array.size h0) (hx : p.tables.exec = Jvm.exec) (hby : c.code = code) (hlk : meth.locks = false) (hml : c.maxLocals = 38) (hown : s.vm.findClass "com/example/dipper/dipper/core/LineEndsNormalizePinLaw" = some m.cls) (hZ : Z.Warmed39 s.vm) (hret : meth.sig.returnType = some .boolean) : ∀ (TJ : State) (hJ : Heap) (LJ : List Loc) (aB : Addr) (c3 c4 : Int32) (lf1 lf2 : Int64) (w2 : Nat) (vs2 : List Int32) (af2 : Int32) (r0 r1 r2 r3 r4 r5 r6 r7 r8 r11 r13 r15 r16 r17 r18 r22 r23 r24 r25 r26 : Slot), own_C c3 → own_C c4 → Stand p l e room_1 s m #[(.int q0), (.int q1), (.int q2), (.int q3), (.int q4), (.int q5)] below meth c TJ LJ 4 10 → TJ.heap = hJ → Fr n0 LJ → n0 ≤ Array.size hJ → own_PA Z hJ aB .char vs2 → (w2, vs2, af2, lf2) = own_nl (2 - 1) 1 1 [c3, c4] (1 : Int32) lf1 → Goes p e below s 24 128 (Q_0 Z q0 q1 q2 q3 q4 q5 h0 n0) TJ (mkF m 458 #[r0, r1, r2, r3, r4, r5, r6, r7, r8, .val (.int c3), .val (.int c4), r11, .val (.int (1 : Int32)), r13, .val (.ref aB), r15, r16, r17, r18, .val (.int w2.toInt32), .val (.long lf2), .second, r22, r23, r24, r25, r26, .val (.long lf1), .second, .val (.int (1 : Int32)), .val (.int (1 : Int32)), .unset, .unset, .unset, .unset, .unset, .unset, .unset] []) := by
  intro TJ hJ LJ aB c3 c4 lf1 lf2 w2 vs2 af2 r0 r1 r2 r3 r4 r5 r6 r7 r8 r11 r13 r15 r16 r17 r18 r22 r23 r24 r25 r26 hC3 hC4 XJ eJ NJ ZJ PJ ht
  refine own_iload (pc' := 460) XJ hx (hb hby at_458) rfl rfl ?_
  refine own_ifY XJ hx (hb hby at_460) (by decide) (by decide) (pc' := 479) (by decide) ?_
  refine own_iconst (pc' := 480) XJ hx (hb hby at_479) (v := (0 : Int32)) rfl rfl ?_
  refine own_istore (pc' := 482) XJ hx (hb hby at_480) (Ls' := #[r0, r1, r2, r3, r4, r5, r6, r7, r8, .val (.int c3), .val (.int c4), r11, .val (.int (1 : Int32)), r13, .val (.ref aB), r15, r16, r17, r18, .val (.int w2.toInt32), .val (.long lf2), .second, r22, r23, r24, r25, r26, .val (.long lf1), .second, .val (.int (1 : Int32)), .val (.int (1 : Int32)), .val (.int (0 : Int32)), .unset, .unset, .unset, .unset, .unset, .unset]) rfl rfl ?_
  refine own_iload (pc' := 484) XJ hx (hb hby at_482) rfl rfl ?_
  refine own_iconst (pc' := 485) XJ hx (hb hby at_484) (v := (1 : Int32)) rfl rfl ?_
  refine own_icmpN (pc' := 488) XJ hx (hb hby at_485) (by decide) rfl ?_
  refine own_iload (pc' := 490) XJ hx (hb hby at_488) rfl rfl ?_
  refine own_ifY XJ hx (hb hby at_490) (by decide) (by decide) (pc' := 506) (by decide) ?_
  refine own_iload (pc' := 508) XJ hx (hb hby at_506) rfl rfl ?_
  refine own_ifN (pc' := 511) XJ hx (hb hby at_508) (by decide) rfl ?_
  refine own_iload (pc' := 513) XJ hx (hb hby at_511) rfl rfl ?_
  refine own_bipush (pc' := 515) XJ hx (hb hby at_513) (v := (10 : Int32)) rfl rfl ?_
  by_cases hc515 : c4 = (10 : Int32)
  · refine own_icmpY XJ hx (hb hby at_515) (teq hc515).1 (by decide) (pc' := 522) (by decide) ?_
    refine own_iconst (pc' := 523) XJ hx (hb hby at_522) (v := (0 : Int32)) rfl rfl ?_
    refine own_istore (pc' := 525) XJ hx (hb hby at_523) (Ls' := #[r0, r1, r2, r3, r4, r5, r6, r7, r8, .val (.int c3), .val (.int c4), r11, .val (.int (1 : Int32)), r13, .val (.ref aB), r15, r16, r17, r18, .val (.int w2.toInt32), .val (.long lf2), .second, r22, r23, r24, r25, r26, .val (.long lf1), .second, .val (.int (1 : Int32)), .val (.int (1 : Int32)), .val (.int (0 : Int32)), .val (.int (0 : Int32)), .unset, .unset, .unset, .unset, .unset]) rfl rfl ?_
    refine own_iconst (pc' := 526) XJ hx (hb hby at_525) (v := (2 : Int32)) rfl rfl ?_
    have hB := ht.trans (own_B11T c3 c4 lf1 hc515)
    simp only [Prod.mk.injEq] at hB
    obtain ⟨rfl, rfl, rfl, hl2⟩ := hB
    have hl3 := hl2.symm
    clear hl2
    subst hl3
    show Goes p e below s 24 128 (Q_0 Z q0 q1 q2 q3 q4 q5 h0 n0) TJ (mkF m 526 #[r0, r1, r2, r3, r4, r5, r6, r7, r8, .val (.int c3), .val (.int c4), r11, .val (.int (1 : Int32)), r13, .val (.ref aB), r15, r16, r17, r18, .val (.int (1 : Int32)), .val (.long lf1), .second, r22, r23, r24, r25, r26, .val (.long lf1), .second, .val (.int (1 : Int32)), .val (.int (1 : Int32)), .val (.int (0 : Int32)), .val (.int (0 : Int32)), .unset, .unset, .unset, .unset, .unset] [(.int (2 : Int32))])
    refine own_newarray (pc' := 528) XJ hx hZ (hw _ (List.mem_of_getElem? (i := 5) rfl)) eJ (hb hby at_526) (k := 2) (cap := 2) rfl (by decide) rfl (by decide) (by decide) (by decide) (by decide) rfl ?_
    intro T189 h189 a189 g189 X189 e189 E189 P189
    show Goes p e below s 24 128 (Q_0 Z q0 q1 q2 q3 q4 q5 h0 n0) T189 (mkF m 528 #[r0, r1, r2, r3, r4, r5, r6, r7, r8, .val (.int c3), .val (.int c4), r11, .val (.int (1 : Int32)), r13, .val (.ref aB), r15, r16, r17, r18, .val (.int (1 : Int32)), .val (.long lf1), .second, r22, r23, r24, r25, r26, .val (.long lf1), .second, .val (.int (1 : Int32)), .val (.int (1 : Int32)), .val (.int (0 : Int32)), .val (.int (0 : Int32)), .unset, .unset, .unset, .unset, .unset] [(.ref a189)])
    have PB := PJ.ext E189
    have ge : n0 ≤ a189 := by rw [g189]; exact ZJ
    have neB : aB ≠ a189 := fun q => absurd (q ▸ PJ.lt) (by rw [g189]; exact Nat.lt_irrefl _)
    have ZE : n0 ≤ Array.size h189 := Nat.le_trans ZJ E189.1
    refine own_astore (pc' := 530) X189 hx (hb hby at_528) rfl (Ls' := #[r0, r1, r2, r3, r4, r5, r6, r7, r8, .val (.int c3), .val (.int c4), r11, .val (.int (1 : Int32)), r13, .val (.ref aB), r15, r16, r17, r18, .val (.int (1 : Int32)), .val (.long lf1), .second, r22, r23, r24, r25, r26, .val (.long lf1), .second, .val (.int (1 : Int32)), .val (.int (1 : Int32)), .val (.int (0 : Int32)), .val (.int (0 : Int32)), .val (.ref a189), .unset, .unset, .unset, .unset]) rfl rfl ?_
    refine own_iload (pc' := 532) X189 hx (hb hby at_530) rfl rfl ?_
    refine own_istore (pc' := 534) X189 hx (hb hby at_532) (Ls' := #[r0, r1, r2, r3, r4, r5, r6, r7, r8, .val (.int c3), .val (.int c4), r11, .val (.int (1 : Int32)), r13, .val (.ref aB), r15, r16, r17, r18, .val (.int (1 : Int32)), .val (.long lf1), .second, r22, r23, r24, r25, r26, .val (.long lf1), .second, .val (.int (1 : Int32)), .val (.int (1 : Int32)), .val (.int (0 : Int32)), .val (.int (0 : Int32)), .val (.ref a189), .val (.int (1 : Int32)), .unset, .unset, .unset]) rfl rfl ?_
    refine own_iload (pc' := 536) X189 hx (hb hby at_534) rfl rfl ?_
    refine own_ifY X189 hx (hb hby at_536) (by decide) (by decide) (pc' := 552) (by decide) ?_
    refine own_iload (pc' := 554) X189 hx (hb hby at_552) rfl rfl ?_
    refine own_ifY X189 hx (hb hby at_554) (by decide) (by decide) (pc' := 570) (by decide) ?_
    refine own_lload (pc' := 572) X189 hx (hb hby at_570) rfl rfl ?_
    refine own_iload (pc' := 574) X189 hx (hb hby at_572) rfl rfl ?_
    refine own_iload (pc' := 576) X189 hx (hb hby at_574) rfl rfl ?_
    obtain ⟨_, _, ⟨T191, L191, k191, n191⟩, -, X191, ⟨Lc191, hQ191, l191, y191, z191⟩, st191⟩ := Jvm.LawKit.callS X189 hx (y := (⟨"com/example/dipper/dipper/core/LineEndsNormalizePinLaw", "lf", "(ZC)J"⟩ : MethodName)) hown (mvT hZ (hw _ (List.mem_of_getElem? (i := 35) rfl))) (mvT hZ (hw _ (List.mem_of_getElem? (i := 36) rfl))) (mvT hZ (hw _ (List.mem_of_getElem? (i := 2) rfl))) (mvT hZ (hw _ (List.mem_of_getElem? (i := 37) rfl))) (by decide) (backOf (W := 2) (rm_4 l Z a0 hw [] (0 : Int32) c3 h189 n0 ZE hC3) hZ (hw _ (List.mem_of_getElem? (i := 37) rfl)) (hw _ (List.mem_of_getElem? (i := 2) rfl)) (by decide) (by decide)) (g := (mkF m 576 #[r0, r1, r2, r3, r4, r5, r6, r7, r8, .val (.int c3), .val (.int c4), r11, .val (.int (1 : Int32)), r13, .val (.ref aB), r15, r16, r17, r18, .val (.int (1 : Int32)), .val (.long lf1), .second, r22, r23, r24, r25, r26, .val (.long lf1), .second, .val (.int (1 : Int32)), .val (.int (1 : Int32)), .val (.int (0 : Int32)), .val (.int (0 : Int32)), .val (.ref a189), .val (.int (1 : Int32)), .unset, .unset, .unset] [(.int c3), (.int (0 : Int32)), (.long lf1)])) rfl (by rw [hml]; rfl) (argsL := [(.int (0 : Int32)), (.int c3)]) (rest := [(.long lf1)]) (lenOf pd_4 rfl) rfl (by show 2 * 0 + _ ≤ _; exact Nat.le_of_eq rfl) (hb hby at_576) (fun _ _ => ⟨rfl, e189, (by decide : 5 + 0 ≤ _), (by decide : 12 + 0 ≤ _)⟩)
    dsimp only [Pt.U, Pt.locs, Pt.cells, Pt.slots] at X191 l191 y191 z191 st191 hQ191
    subst l191 y191 z191
    obtain ⟨rfl, M191, el190⟩ := hQ191
    have N191 := Fr.app NJ M191
    refine Goes.pre st191 ?_
    show Goes p e below s 24 128 (Q_0 Z q0 q1 q2 q3 q4 q5 h0 n0) T191 (mkF m 579 #[r0, r1, r2, r3, r4, r5, r6, r7, r8, .val (.int c3), .val (.int c4), r11, .val (.int (1 : Int32)), r13, .val (.ref aB), r15, r16, r17, r18, .val (.int (1 : Int32)), .val (.long lf1), .second, r22, r23, r24, r25, r26, .val (.long lf1), .second, .val (.int (1 : Int32)), .val (.int (1 : Int32)), .val (.int (0 : Int32)), .val (.int (0 : Int32)), .val (.ref a189), .val (.int (1 : Int32)), .unset, .unset, .unset] [(.long (own_lf (0 : Int32) c3)), (.long lf1)])
    refine own_ladd (pc' := 580) X191 hx (hb hby at_579) rfl ?_
    refine own_iload (pc' := 582) X191 hx (hb hby at_580) rfl rfl ?_
    refine own_iload (pc' := 584) X191 hx (hb hby at_582) rfl rfl ?_
    obtain ⟨_, _, ⟨T193, L193, k193, n193⟩, -, X193, ⟨Lc193, hQ193, l193, y193, z193⟩, st193⟩ := Jvm.LawKit.callS X191 hx (y := (⟨"com/example/dipper/dipper/core/LineEndsNormalizePinLaw", "lf", "(ZC)J"⟩ : MethodName)) hown (mvT hZ (hw _ (List.mem_of_getElem? (i := 35) rfl))) (mvT hZ (hw _ (List.mem_of_getElem? (i := 36) rfl))) (mvT hZ (hw _ (List.mem_of_getElem? (i := 2) rfl))) (mvT hZ (hw _ (List.mem_of_getElem? (i := 37) rfl))) (by decide) (backOf (W := 2) (rm_4 l Z a0 hw [] (0 : Int32) c4 h189 n0 ZE hC4) hZ (hw _ (List.mem_of_getElem? (i := 37) rfl)) (hw _ (List.mem_of_getElem? (i := 2) rfl)) (by decide) (by decide)) (g := (mkF m 584 #[r0, r1, r2, r3, r4, r5, r6, r7, r8, .val (.int c3), .val (.int c4), r11, .val (.int (1 : Int32)), r13, .val (.ref aB), r15, r16, r17, r18, .val (.int (1 : Int32)), .val (.long lf1), .second, r22, r23, r24, r25, r26, .val (.long lf1), .second, .val (.int (1 : Int32)), .val (.int (1 : Int32)), .val (.int (0 : Int32)), .val (.int (0 : Int32)), .val (.ref a189), .val (.int (1 : Int32)), .unset, .unset, .unset] [(.int c4), (.int (0 : Int32)), (.long (lf1 + (own_lf (0 : Int32) c3)))])) rfl (by rw [hml]; rfl) (argsL := [(.int (0 : Int32)), (.int c4)]) (rest := [(.long (lf1 + (own_lf (0 : Int32) c3)))]) (lenOf pd_4 rfl) rfl (by show 2 * 0 + _ ≤ _; exact Nat.le_of_eq rfl) (hb hby at_584) (fun _ _ => ⟨rfl, el190, (by decide : 5 + 0 ≤ _), (by decide : 12 + 0 ≤ _)⟩)
    dsimp only [Pt.U, Pt.locs, Pt.cells, Pt.slots] at X193 l193 y193 z193 st193 hQ193
    subst l193 y193 z193
    obtain ⟨rfl, M193, el192⟩ := hQ193
    have N193 := Fr.app N191 M193
    refine Goes.pre st193 ?_
    show Goes p e below s 24 128 (Q_0 Z q0 q1 q2 q3 q4 q5 h0 n0) T193 (mkF m 587 #[r0, r1, r2, r3, r4, r5, r6, r7, r8, .val (.int c3), .val (.int c4), r11, .val (.int (1 : Int32)), r13, .val (.ref aB), r15, r16, r17, r18, .val (.int (1 : Int32)), .val (.long lf1), .second, r22, r23, r24, r25, r26, .val (.long lf1), .second, .val (.int (1 : Int32)), .val (.int (1 : Int32)), .val (.int (0 : Int32)), .val (.int (0 : Int32)), .val (.ref a189), .val (.int (1 : Int32)), .unset, .unset, .unset] [(.long (own_lf (0 : Int32) c4)), (.long (lf1 + (own_lf (0 : Int32) c3)))])
    refine own_ladd (pc' := 588) X193 hx (hb hby at_587) rfl ?_
    refine own_lstore (pc' := 590) X193 hx (hb hby at_588) (Ls' := #[r0, r1, r2, r3, r4, r5, r6, r7, r8, .val (.int c3), .val (.int c4), r11, .val (.int (1 : Int32)), r13, .val (.ref aB), r15, r16, r17, r18, .val (.int (1 : Int32)), .val (.long lf1), .second, r22, r23, r24, r25, r26, .val (.long lf1), .second, .val (.int (1 : Int32)), .val (.int (1 : Int32)), .val (.int (0 : Int32)), .val (.int (0 : Int32)), .val (.ref a189), .val (.int (1 : Int32)), .val (.long ((lf1 + (own_lf (0 : Int32) c3)) + (own_lf (0 : Int32) c4))), .second, .unset]) rfl rfl ?_
    refine own_iload (pc' := 592) X193 hx (hb hby at_590) rfl rfl ?_
    refine own_iload (pc' := 594) X193 hx (hb hby at_592) rfl rfl ?_
    refine own_icmpN (pc' := 597) X193 hx (hb hby at_594) (by decide) rfl ?_
    refine own_iload (pc' := 599) X193 hx (hb hby at_597) rfl rfl ?_
    refine own_ifY X193 hx (hb hby at_599) (by decide) (by decide) (pc' := 619) (by decide) ?_
    refine own_iload (pc' := 621) X193 hx (hb hby at_619) rfl rfl ?_
    refine own_iconst (pc' := 622) X193 hx (hb hby at_621) (v := (1 : Int32)) rfl rfl ?_
    refine own_icmpN (pc' := 625) X193 hx (hb hby at_622) (by decide) rfl ?_
    refine own_iconst (pc' := 626) X193 hx (hb hby at_625) (v := (1 : Int32)) rfl rfl ?_
    refine own_iload (pc' := 628) X193 hx (hb hby at_626) rfl rfl ?_
    refine own_icmpY X193 hx (hb hby at_628) (by decide) (by decide) (pc' := 642) (by decide) ?_
    refine own_iload (pc' := 644) X193 hx (hb hby at_642) rfl rfl ?_
    refine own_iconst (pc' := 645) X193 hx (hb hby at_644) (v := (1 : Int32)) rfl rfl ?_
    refine own_icmpN (pc' := 648) X193 hx (hb hby at_645) (by decide) rfl ?_
    refine own_aload (pc' := 650) X193 hx (hb hby at_648) rfl rfl rfl ?_
    refine own_iconst (pc' := 651) X193 hx (hb hby at_650) (v := (0 : Int32)) rfl rfl ?_
    refine own_caload (pc' := 652) X193 hx hZ el192 PB (hb hby at_651) (v := c3) (by decide) (k := 0) (by decide) rfl rfl ?_
    refine own_iload (pc' := 654) X193 hx (hb hby at_652) rfl rfl ?_
    refine own_icmpN (pc' := 657) X193 hx (hb hby at_654) (teq rfl).2 rfl ?_
    refine own_iload (pc' := 659) X193 hx (hb hby at_657) rfl rfl ?_
    refine own_iconst (pc' := 660) X193 hx (hb hby at_659) (v := (2 : Int32)) rfl rfl ?_
    refine own_icmpY X193 hx (hb hby at_660) (by decide) (by decide) (pc' := 672) (by decide) ?_
    refine own_lload (pc' := 674) X193 hx (hb hby at_672) rfl rfl ?_
    refine own_lload (pc' := 676) X193 hx (hb hby at_674) rfl rfl ?_
    refine own_lcmp (pc' := 677) X193 hx (hb hby at_676) rfl ?_
    refine own_ifN (pc' := 680) X193 hx (hb hby at_677) (own_Teq (by simp [own_lf] : lf1 = ((lf1 + (own_lf (0 : Int32) c3)) + (own_lf (0 : Int32) c4)))).2 rfl ?_
    refine own_iconst (pc' := 681) X193 hx (hb hby at_680) (v := (1 : Int32)) rfl rfl ?_
    refine own_goto X193 hx (hb hby at_681) (by decide) (pc' := 685) (by decide) ?_
    refine own_istore (pc' := 687) X193 hx (hb hby at_685) (Ls' := #[r0, r1, r2, r3, r4, r5, r6, r7, r8, .val (.int c3), .val (.int c4), r11, .val (.int (1 : Int32)), r13, .val (.ref aB), r15, r16, r17, r18, .val (.int (1 : Int32)), .val (.long lf1), .second, r22, r23, r24, r25, r26, .val (.long lf1), .second, .val (.int (1 : Int32)), .val (.int (1 : Int32)), .val (.int (0 : Int32)), .val (.int (0 : Int32)), .val (.ref a189), .val (.int (1 : Int32)), .val (.long ((lf1 + (own_lf (0 : Int32) c3)) + (own_lf (0 : Int32) c4))), .second, .val (.int (1 : Int32))]) rfl rfl ?_
    refine own_iload (pc' := 689) X193 hx (hb hby at_687) rfl rfl ?_
    refine own_ifN (pc' := 692) X193 hx (hb hby at_689) (by decide) rfl ?_
    refine own_iload (pc' := 694) X193 hx (hb hby at_692) rfl rfl ?_
    refine own_ifN (pc' := 697) X193 hx (hb hby at_694) (by decide) rfl ?_
    refine own_iconst (pc' := 698) X193 hx (hb hby at_697) (v := (1 : Int32)) rfl rfl ?_
    refine own_goto X193 hx (hb hby at_698) (by decide) (pc' := 702) (by decide) ?_
    exact own_retN X193 hx hlk (t := .boolean) hret (by simp) (hb hby at_702) (by decide) (by decide) ⟨rfl, N193⟩
  · refine own_icmpN (pc' := 518) XJ hx (hb hby at_515) (feq hc515).1 rfl ?_
    refine own_iconst (pc' := 519) XJ hx (hb hby at_518) (v := (1 : Int32)) rfl rfl ?_
    refine own_goto XJ hx (hb hby at_519) (by decide) (pc' := 523) (by decide) ?_
    refine own_istore (pc' := 525) XJ hx (hb hby at_523) (Ls' := #[r0, r1, r2, r3, r4, r5, r6, r7, r8, .val (.int c3), .val (.int c4), r11, .val (.int (1 : Int32)), r13, .val (.ref aB), r15, r16, r17, r18, .val (.int w2.toInt32), .val (.long lf2), .second, r22, r23, r24, r25, r26, .val (.long lf1), .second, .val (.int (1 : Int32)), .val (.int (1 : Int32)), .val (.int (0 : Int32)), .val (.int (1 : Int32)), .unset, .unset, .unset, .unset, .unset]) rfl rfl ?_
    refine own_iconst (pc' := 526) XJ hx (hb hby at_525) (v := (2 : Int32)) rfl rfl ?_
    have hB := ht.trans (own_B11F c3 c4 lf1 hc515)
    simp only [Prod.mk.injEq] at hB
    obtain ⟨rfl, rfl, rfl, rfl⟩ := hB
    show Goes p e below s 24 128 (Q_0 Z q0 q1 q2 q3 q4 q5 h0 n0) TJ (mkF m 526 #[r0, r1, r2, r3, r4, r5, r6, r7, r8, .val (.int c3), .val (.int c4), r11, .val (.int (1 : Int32)), r13, .val (.ref aB), r15, r16, r17, r18, .val (.int (2 : Int32)), .val (.long (lf1 + own_l1 (own_out c4))), .second, r22, r23, r24, r25, r26, .val (.long lf1), .second, .val (.int (1 : Int32)), .val (.int (1 : Int32)), .val (.int (0 : Int32)), .val (.int (1 : Int32)), .unset, .unset, .unset, .unset, .unset] [(.int (2 : Int32))])
    refine own_newarray (pc' := 528) XJ hx hZ (hw _ (List.mem_of_getElem? (i := 5) rfl)) eJ (hb hby at_526) (k := 2) (cap := 2) rfl (by decide) rfl (by decide) (by decide) (by decide) (by decide) rfl ?_
    intro T194 h194 a194 g194 X194 e194 E194 P194
    show Goes p e below s 24 128 (Q_0 Z q0 q1 q2 q3 q4 q5 h0 n0) T194 (mkF m 528 #[r0, r1, r2, r3, r4, r5, r6, r7, r8, .val (.int c3), .val (.int c4), r11, .val (.int (1 : Int32)), r13, .val (.ref aB), r15, r16, r17, r18, .val (.int (2 : Int32)), .val (.long (lf1 + own_l1 (own_out c4))), .second, r22, r23, r24, r25, r26, .val (.long lf1), .second, .val (.int (1 : Int32)), .val (.int (1 : Int32)), .val (.int (0 : Int32)), .val (.int (1 : Int32)), .unset, .unset, .unset, .unset, .unset] [(.ref a194)])
    have PB := PJ.ext E194
    have ge : n0 ≤ a194 := by rw [g194]; exact ZJ
    have neB : aB ≠ a194 := fun q => absurd (q ▸ PJ.lt) (by rw [g194]; exact Nat.lt_irrefl _)
    have ZE : n0 ≤ Array.size h194 := Nat.le_trans ZJ E194.1
    refine own_astore (pc' := 530) X194 hx (hb hby at_528) rfl (Ls' := #[r0, r1, r2, r3, r4, r5, r6, r7, r8, .val (.int c3), .val (.int c4), r11, .val (.int (1 : Int32)), r13, .val (.ref aB), r15, r16, r17, r18, .val (.int (2 : Int32)), .val (.long (lf1 + own_l1 (own_out c4))), .second, r22, r23, r24, r25, r26, .val (.long lf1), .second, .val (.int (1 : Int32)), .val (.int (1 : Int32)), .val (.int (0 : Int32)), .val (.int (1 : Int32)), .val (.ref a194), .unset, .unset, .unset, .unset]) rfl rfl ?_
    refine own_iload (pc' := 532) X194 hx (hb hby at_530) rfl rfl ?_
    refine own_istore (pc' := 534) X194 hx (hb hby at_532) (Ls' := #[r0, r1, r2, r3, r4, r5, r6, r7, r8, .val (.int c3), .val (.int c4), r11, .val (.int (1 : Int32)), r13, .val (.ref aB), r15, r16, r17, r18, .val (.int (2 : Int32)), .val (.long (lf1 + own_l1 (own_out c4))), .second, r22, r23, r24, r25, r26, .val (.long lf1), .second, .val (.int (1 : Int32)), .val (.int (1 : Int32)), .val (.int (0 : Int32)), .val (.int (1 : Int32)), .val (.ref a194), .val (.int (1 : Int32)), .unset, .unset, .unset]) rfl rfl ?_
    refine own_iload (pc' := 536) X194 hx (hb hby at_534) rfl rfl ?_
    refine own_ifY X194 hx (hb hby at_536) (by decide) (by decide) (pc' := 552) (by decide) ?_
    refine own_iload (pc' := 554) X194 hx (hb hby at_552) rfl rfl ?_
    refine own_ifN (pc' := 557) X194 hx (hb hby at_554) (by decide) rfl ?_
    refine own_aload (pc' := 559) X194 hx (hb hby at_557) rfl rfl rfl ?_
    refine own_iload (pc' := 561) X194 hx (hb hby at_559) rfl rfl ?_
    refine own_iload (pc' := 563) X194 hx (hb hby at_561) rfl rfl ?_
    obtain ⟨_, _, ⟨T196, L196, k196, n196⟩, -, X196, ⟨Lc196, hQ196, l196, y196, z196⟩, st196⟩ := Jvm.LawKit.callS X194 hx (y := (⟨"com/example/dipper/dipper/core/LineEndsNormalizePinLaw", "out", "(C)C"⟩ : MethodName)) hown (mvT hZ (hw _ (List.mem_of_getElem? (i := 32) rfl))) (mvT hZ (hw _ (List.mem_of_getElem? (i := 33) rfl))) (mvT hZ (hw _ (List.mem_of_getElem? (i := 2) rfl))) (mvT hZ (hw _ (List.mem_of_getElem? (i := 34) rfl))) (by decide) (backOf (W := 2) (rm_2 l Z a0 hw [] c4 h194 n0 ZE hC4) hZ (hw _ (List.mem_of_getElem? (i := 34) rfl)) (hw _ (List.mem_of_getElem? (i := 2) rfl)) (by decide) (by decide)) (g := (mkF m 563 #[r0, r1, r2, r3, r4, r5, r6, r7, r8, .val (.int c3), .val (.int c4), r11, .val (.int (1 : Int32)), r13, .val (.ref aB), r15, r16, r17, r18, .val (.int (2 : Int32)), .val (.long (lf1 + own_l1 (own_out c4))), .second, r22, r23, r24, r25, r26, .val (.long lf1), .second, .val (.int (1 : Int32)), .val (.int (1 : Int32)), .val (.int (0 : Int32)), .val (.int (1 : Int32)), .val (.ref a194), .val (.int (1 : Int32)), .unset, .unset, .unset] [(.int c4), (.int (1 : Int32)), (.ref a194)])) rfl (by rw [hml]; rfl) (argsL := [(.int c4)]) (rest := [(.int (1 : Int32)), (.ref a194)]) (lenOf pd_2 rfl) rfl (by show 2 * 0 + _ ≤ _; exact Nat.le_of_eq rfl) (hb hby at_563) (fun _ _ => ⟨rfl, e194, (by decide : 5 + 0 ≤ _), (by decide : 12 + 0 ≤ _)⟩)
    dsimp only [Pt.U, Pt.locs, Pt.cells, Pt.slots] at X196 l196 y196 z196 st196 hQ196
    subst l196 y196 z196
    obtain ⟨rfl, M196, eo195⟩ := hQ196
    have N196 := Fr.app NJ M196
    refine Goes.pre st196 ?_
    show Goes p e below s 24 128 (Q_0 Z q0 q1 q2 q3 q4 q5 h0 n0) T196 (mkF m 566 #[r0, r1, r2, r3, r4, r5, r6, r7, r8, .val (.int c3), .val (.int c4), r11, .val (.int (1 : Int32)), r13, .val (.ref aB), r15, r16, r17, r18, .val (.int (2 : Int32)), .val (.long (lf1 + own_l1 (own_out c4))), .second, r22, r23, r24, r25, r26, .val (.long lf1), .second, .val (.int (1 : Int32)), .val (.int (1 : Int32)), .val (.int (0 : Int32)), .val (.int (1 : Int32)), .val (.ref a194), .val (.int (1 : Int32)), .unset, .unset, .unset] [(.int (own_out c4)), (.int (1 : Int32)), (.ref a194)])
    refine own_castore (pc' := 567) X196 hx hZ eo195 P194 (hb hby at_566) (own_nar (own_outC hC4)) (by decide) (k := 1) (by decide) (by simp) rfl ?_
    intro T197 h197 X197 e197 W197 P197
    have N197 := Fr.snoc X197 N196 ge
    have P197_aB := PB.other W197 neB
    have Z197 : n0 ≤ Array.size h197 := by rw [W197.size]; exact ZE
    show Goes p e below s 24 128 (Q_0 Z q0 q1 q2 q3 q4 q5 h0 n0) T197 (mkF m 567 #[r0, r1, r2, r3, r4, r5, r6, r7, r8, .val (.int c3), .val (.int c4), r11, .val (.int (1 : Int32)), r13, .val (.ref aB), r15, r16, r17, r18, .val (.int (2 : Int32)), .val (.long (lf1 + own_l1 (own_out c4))), .second, r22, r23, r24, r25, r26, .val (.long lf1), .second, .val (.int (1 : Int32)), .val (.int (1 : Int32)), .val (.int (0 : Int32)), .val (.int (1 : Int32)), .val (.ref a194), .val (.int (1 : Int32)), .unset, .unset, .unset] [])
    have P197x : own_PA Z h197 a194 .char [(0 : Int32), (own_out c4)] := P197
    refine own_iinc (pc' := 570) X197 hx (hb hby at_567) rfl (y := (2 : Int32)) (by decide) (Ls' := #[r0, r1, r2, r3, r4, r5, r6, r7, r8, .val (.int c3), .val (.int c4), r11, .val (.int (1 : Int32)), r13, .val (.ref aB), r15, r16, r17, r18, .val (.int (2 : Int32)), .val (.long (lf1 + own_l1 (own_out c4))), .second, r22, r23, r24, r25, r26, .val (.long lf1), .second, .val (.int (1 : Int32)), .val (.int (1 : Int32)), .val (.int (0 : Int32)), .val (.int (1 : Int32)), .val (.ref a194), .val (.int (2 : Int32)), .unset, .unset, .unset]) rfl rfl ?_
    refine own_lload (pc' := 572) X197 hx (hb hby at_570) rfl rfl ?_
    refine own_iload (pc' := 574) X197 hx (hb hby at_572) rfl rfl ?_
    refine own_iload (pc' := 576) X197 hx (hb hby at_574) rfl rfl ?_
    obtain ⟨_, _, ⟨T199, L199, k199, n199⟩, -, X199, ⟨Lc199, hQ199, l199, y199, z199⟩, st199⟩ := Jvm.LawKit.callS X197 hx (y := (⟨"com/example/dipper/dipper/core/LineEndsNormalizePinLaw", "lf", "(ZC)J"⟩ : MethodName)) hown (mvT hZ (hw _ (List.mem_of_getElem? (i := 35) rfl))) (mvT hZ (hw _ (List.mem_of_getElem? (i := 36) rfl))) (mvT hZ (hw _ (List.mem_of_getElem? (i := 2) rfl))) (mvT hZ (hw _ (List.mem_of_getElem? (i := 37) rfl))) (by decide) (backOf (W := 2) (rm_4 l Z a0 hw [] (0 : Int32) c3 h197 n0 Z197 hC3) hZ (hw _ (List.mem_of_getElem? (i := 37) rfl)) (hw _ (List.mem_of_getElem? (i := 2) rfl)) (by decide) (by decide)) (g := (mkF m 576 #[r0, r1, r2, r3, r4, r5, r6, r7, r8, .val (.int c3), .val (.int c4), r11, .val (.int (1 : Int32)), r13, .val (.ref aB), r15, r16, r17, r18, .val (.int (2 : Int32)), .val (.long (lf1 + own_l1 (own_out c4))), .second, r22, r23, r24, r25, r26, .val (.long lf1), .second, .val (.int (1 : Int32)), .val (.int (1 : Int32)), .val (.int (0 : Int32)), .val (.int (1 : Int32)), .val (.ref a194), .val (.int (2 : Int32)), .unset, .unset, .unset] [(.int c3), (.int (0 : Int32)), (.long lf1)])) rfl (by rw [hml]; rfl) (argsL := [(.int (0 : Int32)), (.int c3)]) (rest := [(.long lf1)]) (lenOf pd_4 rfl) rfl (by show 2 * 0 + _ ≤ _; exact Nat.le_of_eq rfl) (hb hby at_576) (fun _ _ => ⟨rfl, e197, (by decide : 5 + 0 ≤ _), (by decide : 12 + 0 ≤ _)⟩)
    dsimp only [Pt.U, Pt.locs, Pt.cells, Pt.slots] at X199 l199 y199 z199 st199 hQ199
    subst l199 y199 z199
    obtain ⟨rfl, M199, el198⟩ := hQ199
    have N199 := Fr.app N197 M199
    refine Goes.pre st199 ?_
    show Goes p e below s 24 128 (Q_0 Z q0 q1 q2 q3 q4 q5 h0 n0) T199 (mkF m 579 #[r0, r1, r2, r3, r4, r5, r6, r7, r8, .val (.int c3), .val (.int c4), r11, .val (.int (1 : Int32)), r13, .val (.ref aB), r15, r16, r17, r18, .val (.int (2 : Int32)), .val (.long (lf1 + own_l1 (own_out c4))), .second, r22, r23, r24, r25, r26, .val (.long lf1), .second, .val (.int (1 : Int32)), .val (.int (1 : Int32)), .val (.int (0 : Int32)), .val (.int (1 : Int32)), .val (.ref a194), .val (.int (2 : Int32)), .unset, .unset, .unset] [(.long (own_lf (0 : Int32) c3)), (.long lf1)])
    refine own_ladd (pc' := 580) X199 hx (hb hby at_579) rfl ?_
    refine own_iload (pc' := 582) X199 hx (hb hby at_580) rfl rfl ?_
    refine own_iload (pc' := 584) X199 hx (hb hby at_582) rfl rfl ?_
    obtain ⟨_, _, ⟨T201, L201, k201, n201⟩, -, X201, ⟨Lc201, hQ201, l201, y201, z201⟩, st201⟩ := Jvm.LawKit.callS X199 hx (y := (⟨"com/example/dipper/dipper/core/LineEndsNormalizePinLaw", "lf", "(ZC)J"⟩ : MethodName)) hown (mvT hZ (hw _ (List.mem_of_getElem? (i := 35) rfl))) (mvT hZ (hw _ (List.mem_of_getElem? (i := 36) rfl))) (mvT hZ (hw _ (List.mem_of_getElem? (i := 2) rfl))) (mvT hZ (hw _ (List.mem_of_getElem? (i := 37) rfl))) (by decide) (backOf (W := 2) (rm_4 l Z a0 hw [] (1 : Int32) c4 h197 n0 Z197 hC4) hZ (hw _ (List.mem_of_getElem? (i := 37) rfl)) (hw _ (List.mem_of_getElem? (i := 2) rfl)) (by decide) (by decide)) (g := (mkF m 584 #[r0, r1, r2, r3, r4, r5, r6, r7, r8, .val (.int c3), .val (.int c4), r11, .val (.int (1 : Int32)), r13, .val (.ref aB), r15, r16, r17, r18, .val (.int (2 : Int32)), .val (.long (lf1 + own_l1 (own_out c4))), .second, r22, r23, r24, r25, r26, .val (.long lf1), .second, .val (.int (1 : Int32)), .val (.int (1 : Int32)), .val (.int (0 : Int32)), .val (.int (1 : Int32)), .val (.ref a194), .val (.int (2 : Int32)), .unset, .unset, .unset] [(.int c4), (.int (1 : Int32)), (.long (lf1 + (own_lf (0 : Int32) c3)))])) rfl (by rw [hml]; rfl) (argsL := [(.int (1 : Int32)), (.int c4)]) (rest := [(.long (lf1 + (own_lf (0 : Int32) c3)))]) (lenOf pd_4 rfl) rfl (by show 2 * 0 + _ ≤ _; exact Nat.le_of_eq rfl) (hb hby at_584) (fun _ _ => ⟨rfl, el198, (by decide : 5 + 0 ≤ _), (by decide : 12 + 0 ≤ _)⟩)
    dsimp only [Pt.U, Pt.locs, Pt.cells, Pt.slots] at X201 l201 y201 z201 st201 hQ201
    subst l201 y201 z201
    obtain ⟨rfl, M201, el200⟩ := hQ201
    have N201 := Fr.app N199 M201
    refine Goes.pre st201 ?_
    show Goes p e below s 24 128 (Q_0 Z q0 q1 q2 q3 q4 q5 h0 n0) T201 (mkF m 587 #[r0, r1, r2, r3, r4, r5, r6, r7, r8, .val (.int c3), .val (.int c4), r11, .val (.int (1 : Int32)), r13, .val (.ref aB), r15, r16, r17, r18, .val (.int (2 : Int32)), .val (.long (lf1 + own_l1 (own_out c4))), .second, r22, r23, r24, r25, r26, .val (.long lf1), .second, .val (.int (1 : Int32)), .val (.int (1 : Int32)), .val (.int (0 : Int32)), .val (.int (1 : Int32)), .val (.ref a194), .val (.int (2 : Int32)), .unset, .unset, .unset] [(.long (own_lf (1 : Int32) c4)), (.long (lf1 + (own_lf (0 : Int32) c3)))])
    refine own_ladd (pc' := 588) X201 hx (hb hby at_587) rfl ?_
    refine own_lstore (pc' := 590) X201 hx (hb hby at_588) (Ls' := #[r0, r1, r2, r3, r4, r5, r6, r7, r8, .val (.int c3), .val (.int c4), r11, .val (.int (1 : Int32)), r13, .val (.ref aB), r15, r16, r17, r18, .val (.int (2 : Int32)), .val (.long (lf1 + own_l1 (own_out c4))), .second, r22, r23, r24, r25, r26, .val (.long lf1), .second, .val (.int (1 : Int32)), .val (.int (1 : Int32)), .val (.int (0 : Int32)), .val (.int (1 : Int32)), .val (.ref a194), .val (.int (2 : Int32)), .val (.long ((lf1 + (own_lf (0 : Int32) c3)) + (own_lf (1 : Int32) c4))), .second, .unset]) rfl rfl ?_
    refine own_iload (pc' := 592) X201 hx (hb hby at_590) rfl rfl ?_
    refine own_iload (pc' := 594) X201 hx (hb hby at_592) rfl rfl ?_
    refine own_icmpN (pc' := 597) X201 hx (hb hby at_594) (by decide) rfl ?_
    refine own_iload (pc' := 599) X201 hx (hb hby at_597) rfl rfl ?_
    refine own_ifY X201 hx (hb hby at_599) (by decide) (by decide) (pc' := 619) (by decide) ?_
    refine own_iload (pc' := 621) X201 hx (hb hby at_619) rfl rfl ?_
    refine own_iconst (pc' := 622) X201 hx (hb hby at_621) (v := (1 : Int32)) rfl rfl ?_
    refine own_icmpN (pc' := 625) X201 hx (hb hby at_622) (by decide) rfl ?_
    refine own_iconst (pc' := 626) X201 hx (hb hby at_625) (v := (1 : Int32)) rfl rfl ?_
    refine own_iload (pc' := 628) X201 hx (hb hby at_626) rfl rfl ?_
    refine own_icmpN (pc' := 631) X201 hx (hb hby at_628) (by decide) rfl ?_
    refine own_aload (pc' := 633) X201 hx (hb hby at_631) rfl rfl rfl ?_
    refine own_iconst (pc' := 634) X201 hx (hb hby at_633) (v := (1 : Int32)) rfl rfl ?_
    refine own_caload (pc' := 635) X201 hx hZ el200 P197_aB (hb hby at_634) (v := (own_out c4)) (by decide) (k := 1) (by decide) rfl rfl ?_
    refine own_aload (pc' := 637) X201 hx (hb hby at_635) rfl rfl rfl ?_
    refine own_iconst (pc' := 638) X201 hx (hb hby at_637) (v := (1 : Int32)) rfl rfl ?_
    refine own_caload (pc' := 639) X201 hx hZ el200 P197x (hb hby at_638) (v := (own_out c4)) (by decide) (k := 1) (by decide) rfl rfl ?_
    refine own_icmpN (pc' := 642) X201 hx (hb hby at_639) (teq rfl).2 rfl ?_
    refine own_iload (pc' := 644) X201 hx (hb hby at_642) rfl rfl ?_
    refine own_iconst (pc' := 645) X201 hx (hb hby at_644) (v := (1 : Int32)) rfl rfl ?_
    refine own_icmpN (pc' := 648) X201 hx (hb hby at_645) (by decide) rfl ?_
    refine own_aload (pc' := 650) X201 hx (hb hby at_648) rfl rfl rfl ?_
    refine own_iconst (pc' := 651) X201 hx (hb hby at_650) (v := (0 : Int32)) rfl rfl ?_
    refine own_caload (pc' := 652) X201 hx hZ el200 P197_aB (hb hby at_651) (v := c3) (by decide) (k := 0) (by decide) rfl rfl ?_
    refine own_iload (pc' := 654) X201 hx (hb hby at_652) rfl rfl ?_
    refine own_icmpN (pc' := 657) X201 hx (hb hby at_654) (teq rfl).2 rfl ?_
    refine own_iload (pc' := 659) X201 hx (hb hby at_657) rfl rfl ?_
    refine own_iconst (pc' := 660) X201 hx (hb hby at_659) (v := (2 : Int32)) rfl rfl ?_
    refine own_icmpY X201 hx (hb hby at_660) (by decide) (by decide) (pc' := 672) (by decide) ?_
    refine own_lload (pc' := 674) X201 hx (hb hby at_672) rfl rfl ?_
    refine own_lload (pc' := 676) X201 hx (hb hby at_674) rfl rfl ?_
    refine own_lcmp (pc' := 677) X201 hx (hb hby at_676) rfl ?_
    refine own_ifN (pc' := 680) X201 hx (hb hby at_677) (own_Teq (by simp [own_lf] : (lf1 + own_l1 (own_out c4)) = ((lf1 + (own_lf (0 : Int32) c3)) + (own_lf (1 : Int32) c4)))).2 rfl ?_
    refine own_iconst (pc' := 681) X201 hx (hb hby at_680) (v := (1 : Int32)) rfl rfl ?_
    refine own_goto X201 hx (hb hby at_681) (by decide) (pc' := 685) (by decide) ?_
    refine own_istore (pc' := 687) X201 hx (hb hby at_685) (Ls' := #[r0, r1, r2, r3, r4, r5, r6, r7, r8, .val (.int c3), .val (.int c4), r11, .val (.int (1 : Int32)), r13, .val (.ref aB), r15, r16, r17, r18, .val (.int (2 : Int32)), .val (.long (lf1 + own_l1 (own_out c4))), .second, r22, r23, r24, r25, r26, .val (.long lf1), .second, .val (.int (1 : Int32)), .val (.int (1 : Int32)), .val (.int (0 : Int32)), .val (.int (1 : Int32)), .val (.ref a194), .val (.int (2 : Int32)), .val (.long ((lf1 + (own_lf (0 : Int32) c3)) + (own_lf (1 : Int32) c4))), .second, .val (.int (1 : Int32))]) rfl rfl ?_
    refine own_iload (pc' := 689) X201 hx (hb hby at_687) rfl rfl ?_
    refine own_ifN (pc' := 692) X201 hx (hb hby at_689) (by decide) rfl ?_
    refine own_iload (pc' := 694) X201 hx (hb hby at_692) rfl rfl ?_
    refine own_ifN (pc' := 697) X201 hx (hb hby at_694) (by decide) rfl ?_
    refine own_iconst (pc' := 698) X201 hx (hb hby at_697) (v := (1 : Int32)) rfl rfl ?_
    refine own_goto X201 hx (hb hby at_698) (by decide) (pc' := 702) (by decide) ?_
    exact own_retN X201 hx hlk (t := .boolean) hret (by simp) (hb hby at_702) (by decide) (by decide) ⟨rfl, N201⟩
set_option maxRecDepth 65536 in
set_option maxHeartbeats 40000000 in
theorem own_tB20 {p : Program} {l : Launch} {e : Env} {s : State} {m : MethodId} {below : List Frame} {meth : Method} {c : Code} {Z : State} {a0 : Array Value} (hw : ∀ d ∈ tables_1, d.before a0 Z = true) (q0 q1 q2 q3 q4 q5 : Int32) (h0 : Heap) (n0 : Nat) (Z0 : n0 ≤ Array.size h0) (hx : p.tables.exec = Jvm.exec) (hby : c.code = code) (hlk : meth.locks = false) (hml : c.maxLocals = 38) (hown : s.vm.findClass "com/example/dipper/dipper/core/LineEndsNormalizePinLaw" = some m.cls) (hZ : Z.Warmed39 s.vm) (hret : meth.sig.returnType = some .boolean) : ∀ (TJ : State) (hJ : Heap) (LJ : List Loc) (aB : Addr) (c3 c4 : Int32) (lf1 lf2 : Int64) (w2 : Nat) (vs2 : List Int32) (af2 : Int32) (r0 r1 r2 r3 r4 r5 r6 r7 r8 r11 r13 r15 r16 r17 r18 r22 r23 r24 r25 r26 : Slot), own_C c3 → own_C c4 → Stand p l e room_1 s m #[(.int q0), (.int q1), (.int q2), (.int q3), (.int q4), (.int q5)] below meth c TJ LJ 4 10 → TJ.heap = hJ → Fr n0 LJ → n0 ≤ Array.size hJ → own_PA Z hJ aB .char vs2 → (w2, vs2, af2, lf2) = own_nl (2 - 2) 2 2 [c3, c4] (0 : Int32) lf1 → Goes p e below s 24 128 (Q_0 Z q0 q1 q2 q3 q4 q5 h0 n0) TJ (mkF m 458 #[r0, r1, r2, r3, r4, r5, r6, r7, r8, .val (.int c3), .val (.int c4), r11, .val (.int (2 : Int32)), r13, .val (.ref aB), r15, r16, r17, r18, .val (.int w2.toInt32), .val (.long lf2), .second, r22, r23, r24, r25, r26, .val (.long lf1), .second, .val (.int (1 : Int32)), .val (.int (0 : Int32)), .unset, .unset, .unset, .unset, .unset, .unset, .unset] []) := by
  intro TJ hJ LJ aB c3 c4 lf1 lf2 w2 vs2 af2 r0 r1 r2 r3 r4 r5 r6 r7 r8 r11 r13 r15 r16 r17 r18 r22 r23 r24 r25 r26 hC3 hC4 XJ eJ NJ ZJ PJ ht
  refine own_iload (pc' := 460) XJ hx (hb hby at_458) rfl rfl ?_
  refine own_ifY XJ hx (hb hby at_460) (by decide) (by decide) (pc' := 479) (by decide) ?_
  refine own_iconst (pc' := 480) XJ hx (hb hby at_479) (v := (0 : Int32)) rfl rfl ?_
  refine own_istore (pc' := 482) XJ hx (hb hby at_480) (Ls' := #[r0, r1, r2, r3, r4, r5, r6, r7, r8, .val (.int c3), .val (.int c4), r11, .val (.int (2 : Int32)), r13, .val (.ref aB), r15, r16, r17, r18, .val (.int w2.toInt32), .val (.long lf2), .second, r22, r23, r24, r25, r26, .val (.long lf1), .second, .val (.int (1 : Int32)), .val (.int (0 : Int32)), .val (.int (0 : Int32)), .unset, .unset, .unset, .unset, .unset, .unset]) rfl rfl ?_
  refine own_iload (pc' := 484) XJ hx (hb hby at_482) rfl rfl ?_
  refine own_iconst (pc' := 485) XJ hx (hb hby at_484) (v := (1 : Int32)) rfl rfl ?_
  refine own_icmpY XJ hx (hb hby at_485) (by decide) (by decide) (pc' := 522) (by decide) ?_
  refine own_iconst (pc' := 523) XJ hx (hb hby at_522) (v := (0 : Int32)) rfl rfl ?_
  refine own_istore (pc' := 525) XJ hx (hb hby at_523) (Ls' := #[r0, r1, r2, r3, r4, r5, r6, r7, r8, .val (.int c3), .val (.int c4), r11, .val (.int (2 : Int32)), r13, .val (.ref aB), r15, r16, r17, r18, .val (.int w2.toInt32), .val (.long lf2), .second, r22, r23, r24, r25, r26, .val (.long lf1), .second, .val (.int (1 : Int32)), .val (.int (0 : Int32)), .val (.int (0 : Int32)), .val (.int (0 : Int32)), .unset, .unset, .unset, .unset, .unset]) rfl rfl ?_
  refine own_iconst (pc' := 526) XJ hx (hb hby at_525) (v := (2 : Int32)) rfl rfl ?_
  have hB := ht.trans (own_B2 c3 c4 _ lf1)
  simp only [Prod.mk.injEq] at hB
  obtain ⟨rfl, rfl, rfl, hl2⟩ := hB
  have hl3 := hl2.symm
  clear hl2
  subst hl3
  show Goes p e below s 24 128 (Q_0 Z q0 q1 q2 q3 q4 q5 h0 n0) TJ (mkF m 526 #[r0, r1, r2, r3, r4, r5, r6, r7, r8, .val (.int c3), .val (.int c4), r11, .val (.int (2 : Int32)), r13, .val (.ref aB), r15, r16, r17, r18, .val (.int (2 : Int32)), .val (.long lf1), .second, r22, r23, r24, r25, r26, .val (.long lf1), .second, .val (.int (1 : Int32)), .val (.int (0 : Int32)), .val (.int (0 : Int32)), .val (.int (0 : Int32)), .unset, .unset, .unset, .unset, .unset] [(.int (2 : Int32))])
  refine own_newarray (pc' := 528) XJ hx hZ (hw _ (List.mem_of_getElem? (i := 5) rfl)) eJ (hb hby at_526) (k := 2) (cap := 2) rfl (by decide) rfl (by decide) (by decide) (by decide) (by decide) rfl ?_
  intro T202 h202 a202 g202 X202 e202 E202 P202
  show Goes p e below s 24 128 (Q_0 Z q0 q1 q2 q3 q4 q5 h0 n0) T202 (mkF m 528 #[r0, r1, r2, r3, r4, r5, r6, r7, r8, .val (.int c3), .val (.int c4), r11, .val (.int (2 : Int32)), r13, .val (.ref aB), r15, r16, r17, r18, .val (.int (2 : Int32)), .val (.long lf1), .second, r22, r23, r24, r25, r26, .val (.long lf1), .second, .val (.int (1 : Int32)), .val (.int (0 : Int32)), .val (.int (0 : Int32)), .val (.int (0 : Int32)), .unset, .unset, .unset, .unset, .unset] [(.ref a202)])
  have PB := PJ.ext E202
  have ge : n0 ≤ a202 := by rw [g202]; exact ZJ
  have neB : aB ≠ a202 := fun q => absurd (q ▸ PJ.lt) (by rw [g202]; exact Nat.lt_irrefl _)
  have ZE : n0 ≤ Array.size h202 := Nat.le_trans ZJ E202.1
  refine own_astore (pc' := 530) X202 hx (hb hby at_528) rfl (Ls' := #[r0, r1, r2, r3, r4, r5, r6, r7, r8, .val (.int c3), .val (.int c4), r11, .val (.int (2 : Int32)), r13, .val (.ref aB), r15, r16, r17, r18, .val (.int (2 : Int32)), .val (.long lf1), .second, r22, r23, r24, r25, r26, .val (.long lf1), .second, .val (.int (1 : Int32)), .val (.int (0 : Int32)), .val (.int (0 : Int32)), .val (.int (0 : Int32)), .val (.ref a202), .unset, .unset, .unset, .unset]) rfl rfl ?_
  refine own_iload (pc' := 532) X202 hx (hb hby at_530) rfl rfl ?_
  refine own_istore (pc' := 534) X202 hx (hb hby at_532) (Ls' := #[r0, r1, r2, r3, r4, r5, r6, r7, r8, .val (.int c3), .val (.int c4), r11, .val (.int (2 : Int32)), r13, .val (.ref aB), r15, r16, r17, r18, .val (.int (2 : Int32)), .val (.long lf1), .second, r22, r23, r24, r25, r26, .val (.long lf1), .second, .val (.int (1 : Int32)), .val (.int (0 : Int32)), .val (.int (0 : Int32)), .val (.int (0 : Int32)), .val (.ref a202), .val (.int (2 : Int32)), .unset, .unset, .unset]) rfl rfl ?_
  refine own_iload (pc' := 536) X202 hx (hb hby at_534) rfl rfl ?_
  refine own_ifY X202 hx (hb hby at_536) (by decide) (by decide) (pc' := 552) (by decide) ?_
  refine own_iload (pc' := 554) X202 hx (hb hby at_552) rfl rfl ?_
  refine own_ifY X202 hx (hb hby at_554) (by decide) (by decide) (pc' := 570) (by decide) ?_
  refine own_lload (pc' := 572) X202 hx (hb hby at_570) rfl rfl ?_
  refine own_iload (pc' := 574) X202 hx (hb hby at_572) rfl rfl ?_
  refine own_iload (pc' := 576) X202 hx (hb hby at_574) rfl rfl ?_
  obtain ⟨_, _, ⟨T204, L204, k204, n204⟩, -, X204, ⟨Lc204, hQ204, l204, y204, z204⟩, st204⟩ := Jvm.LawKit.callS X202 hx (y := (⟨"com/example/dipper/dipper/core/LineEndsNormalizePinLaw", "lf", "(ZC)J"⟩ : MethodName)) hown (mvT hZ (hw _ (List.mem_of_getElem? (i := 35) rfl))) (mvT hZ (hw _ (List.mem_of_getElem? (i := 36) rfl))) (mvT hZ (hw _ (List.mem_of_getElem? (i := 2) rfl))) (mvT hZ (hw _ (List.mem_of_getElem? (i := 37) rfl))) (by decide) (backOf (W := 2) (rm_4 l Z a0 hw [] (0 : Int32) c3 h202 n0 ZE hC3) hZ (hw _ (List.mem_of_getElem? (i := 37) rfl)) (hw _ (List.mem_of_getElem? (i := 2) rfl)) (by decide) (by decide)) (g := (mkF m 576 #[r0, r1, r2, r3, r4, r5, r6, r7, r8, .val (.int c3), .val (.int c4), r11, .val (.int (2 : Int32)), r13, .val (.ref aB), r15, r16, r17, r18, .val (.int (2 : Int32)), .val (.long lf1), .second, r22, r23, r24, r25, r26, .val (.long lf1), .second, .val (.int (1 : Int32)), .val (.int (0 : Int32)), .val (.int (0 : Int32)), .val (.int (0 : Int32)), .val (.ref a202), .val (.int (2 : Int32)), .unset, .unset, .unset] [(.int c3), (.int (0 : Int32)), (.long lf1)])) rfl (by rw [hml]; rfl) (argsL := [(.int (0 : Int32)), (.int c3)]) (rest := [(.long lf1)]) (lenOf pd_4 rfl) rfl (by show 2 * 0 + _ ≤ _; exact Nat.le_of_eq rfl) (hb hby at_576) (fun _ _ => ⟨rfl, e202, (by decide : 5 + 0 ≤ _), (by decide : 12 + 0 ≤ _)⟩)
  dsimp only [Pt.U, Pt.locs, Pt.cells, Pt.slots] at X204 l204 y204 z204 st204 hQ204
  subst l204 y204 z204
  obtain ⟨rfl, M204, el203⟩ := hQ204
  have N204 := Fr.app NJ M204
  refine Goes.pre st204 ?_
  show Goes p e below s 24 128 (Q_0 Z q0 q1 q2 q3 q4 q5 h0 n0) T204 (mkF m 579 #[r0, r1, r2, r3, r4, r5, r6, r7, r8, .val (.int c3), .val (.int c4), r11, .val (.int (2 : Int32)), r13, .val (.ref aB), r15, r16, r17, r18, .val (.int (2 : Int32)), .val (.long lf1), .second, r22, r23, r24, r25, r26, .val (.long lf1), .second, .val (.int (1 : Int32)), .val (.int (0 : Int32)), .val (.int (0 : Int32)), .val (.int (0 : Int32)), .val (.ref a202), .val (.int (2 : Int32)), .unset, .unset, .unset] [(.long (own_lf (0 : Int32) c3)), (.long lf1)])
  refine own_ladd (pc' := 580) X204 hx (hb hby at_579) rfl ?_
  refine own_iload (pc' := 582) X204 hx (hb hby at_580) rfl rfl ?_
  refine own_iload (pc' := 584) X204 hx (hb hby at_582) rfl rfl ?_
  obtain ⟨_, _, ⟨T206, L206, k206, n206⟩, -, X206, ⟨Lc206, hQ206, l206, y206, z206⟩, st206⟩ := Jvm.LawKit.callS X204 hx (y := (⟨"com/example/dipper/dipper/core/LineEndsNormalizePinLaw", "lf", "(ZC)J"⟩ : MethodName)) hown (mvT hZ (hw _ (List.mem_of_getElem? (i := 35) rfl))) (mvT hZ (hw _ (List.mem_of_getElem? (i := 36) rfl))) (mvT hZ (hw _ (List.mem_of_getElem? (i := 2) rfl))) (mvT hZ (hw _ (List.mem_of_getElem? (i := 37) rfl))) (by decide) (backOf (W := 2) (rm_4 l Z a0 hw [] (0 : Int32) c4 h202 n0 ZE hC4) hZ (hw _ (List.mem_of_getElem? (i := 37) rfl)) (hw _ (List.mem_of_getElem? (i := 2) rfl)) (by decide) (by decide)) (g := (mkF m 584 #[r0, r1, r2, r3, r4, r5, r6, r7, r8, .val (.int c3), .val (.int c4), r11, .val (.int (2 : Int32)), r13, .val (.ref aB), r15, r16, r17, r18, .val (.int (2 : Int32)), .val (.long lf1), .second, r22, r23, r24, r25, r26, .val (.long lf1), .second, .val (.int (1 : Int32)), .val (.int (0 : Int32)), .val (.int (0 : Int32)), .val (.int (0 : Int32)), .val (.ref a202), .val (.int (2 : Int32)), .unset, .unset, .unset] [(.int c4), (.int (0 : Int32)), (.long (lf1 + (own_lf (0 : Int32) c3)))])) rfl (by rw [hml]; rfl) (argsL := [(.int (0 : Int32)), (.int c4)]) (rest := [(.long (lf1 + (own_lf (0 : Int32) c3)))]) (lenOf pd_4 rfl) rfl (by show 2 * 0 + _ ≤ _; exact Nat.le_of_eq rfl) (hb hby at_584) (fun _ _ => ⟨rfl, el203, (by decide : 5 + 0 ≤ _), (by decide : 12 + 0 ≤ _)⟩)
  dsimp only [Pt.U, Pt.locs, Pt.cells, Pt.slots] at X206 l206 y206 z206 st206 hQ206
  subst l206 y206 z206
  obtain ⟨rfl, M206, el205⟩ := hQ206
  have N206 := Fr.app N204 M206
  refine Goes.pre st206 ?_
  show Goes p e below s 24 128 (Q_0 Z q0 q1 q2 q3 q4 q5 h0 n0) T206 (mkF m 587 #[r0, r1, r2, r3, r4, r5, r6, r7, r8, .val (.int c3), .val (.int c4), r11, .val (.int (2 : Int32)), r13, .val (.ref aB), r15, r16, r17, r18, .val (.int (2 : Int32)), .val (.long lf1), .second, r22, r23, r24, r25, r26, .val (.long lf1), .second, .val (.int (1 : Int32)), .val (.int (0 : Int32)), .val (.int (0 : Int32)), .val (.int (0 : Int32)), .val (.ref a202), .val (.int (2 : Int32)), .unset, .unset, .unset] [(.long (own_lf (0 : Int32) c4)), (.long (lf1 + (own_lf (0 : Int32) c3)))])
  refine own_ladd (pc' := 588) X206 hx (hb hby at_587) rfl ?_
  refine own_lstore (pc' := 590) X206 hx (hb hby at_588) (Ls' := #[r0, r1, r2, r3, r4, r5, r6, r7, r8, .val (.int c3), .val (.int c4), r11, .val (.int (2 : Int32)), r13, .val (.ref aB), r15, r16, r17, r18, .val (.int (2 : Int32)), .val (.long lf1), .second, r22, r23, r24, r25, r26, .val (.long lf1), .second, .val (.int (1 : Int32)), .val (.int (0 : Int32)), .val (.int (0 : Int32)), .val (.int (0 : Int32)), .val (.ref a202), .val (.int (2 : Int32)), .val (.long ((lf1 + (own_lf (0 : Int32) c3)) + (own_lf (0 : Int32) c4))), .second, .unset]) rfl rfl ?_
  refine own_iload (pc' := 592) X206 hx (hb hby at_590) rfl rfl ?_
  refine own_iload (pc' := 594) X206 hx (hb hby at_592) rfl rfl ?_
  refine own_icmpN (pc' := 597) X206 hx (hb hby at_594) (by decide) rfl ?_
  refine own_iload (pc' := 599) X206 hx (hb hby at_597) rfl rfl ?_
  refine own_ifY X206 hx (hb hby at_599) (by decide) (by decide) (pc' := 619) (by decide) ?_
  refine own_iload (pc' := 621) X206 hx (hb hby at_619) rfl rfl ?_
  refine own_iconst (pc' := 622) X206 hx (hb hby at_621) (v := (1 : Int32)) rfl rfl ?_
  refine own_icmpY X206 hx (hb hby at_622) (by decide) (by decide) (pc' := 642) (by decide) ?_
  refine own_iload (pc' := 644) X206 hx (hb hby at_642) rfl rfl ?_
  refine own_iconst (pc' := 645) X206 hx (hb hby at_644) (v := (1 : Int32)) rfl rfl ?_
  refine own_icmpN (pc' := 648) X206 hx (hb hby at_645) (by decide) rfl ?_
  refine own_aload (pc' := 650) X206 hx (hb hby at_648) rfl rfl rfl ?_
  refine own_iconst (pc' := 651) X206 hx (hb hby at_650) (v := (0 : Int32)) rfl rfl ?_
  refine own_caload (pc' := 652) X206 hx hZ el205 PB (hb hby at_651) (v := c3) (by decide) (k := 0) (by decide) rfl rfl ?_
  refine own_iload (pc' := 654) X206 hx (hb hby at_652) rfl rfl ?_
  refine own_icmpN (pc' := 657) X206 hx (hb hby at_654) (teq rfl).2 rfl ?_
  refine own_iload (pc' := 659) X206 hx (hb hby at_657) rfl rfl ?_
  refine own_iconst (pc' := 660) X206 hx (hb hby at_659) (v := (2 : Int32)) rfl rfl ?_
  refine own_icmpN (pc' := 663) X206 hx (hb hby at_660) (by decide) rfl ?_
  refine own_aload (pc' := 665) X206 hx (hb hby at_663) rfl rfl rfl ?_
  refine own_iconst (pc' := 666) X206 hx (hb hby at_665) (v := (1 : Int32)) rfl rfl ?_
  refine own_caload (pc' := 667) X206 hx hZ el205 PB (hb hby at_666) (v := c4) (by decide) (k := 1) (by decide) rfl rfl ?_
  refine own_iload (pc' := 669) X206 hx (hb hby at_667) rfl rfl ?_
  refine own_icmpN (pc' := 672) X206 hx (hb hby at_669) (teq rfl).2 rfl ?_
  refine own_lload (pc' := 674) X206 hx (hb hby at_672) rfl rfl ?_
  refine own_lload (pc' := 676) X206 hx (hb hby at_674) rfl rfl ?_
  refine own_lcmp (pc' := 677) X206 hx (hb hby at_676) rfl ?_
  refine own_ifN (pc' := 680) X206 hx (hb hby at_677) (own_Teq (by simp [own_lf] : lf1 = ((lf1 + (own_lf (0 : Int32) c3)) + (own_lf (0 : Int32) c4)))).2 rfl ?_
  refine own_iconst (pc' := 681) X206 hx (hb hby at_680) (v := (1 : Int32)) rfl rfl ?_
  refine own_goto X206 hx (hb hby at_681) (by decide) (pc' := 685) (by decide) ?_
  refine own_istore (pc' := 687) X206 hx (hb hby at_685) (Ls' := #[r0, r1, r2, r3, r4, r5, r6, r7, r8, .val (.int c3), .val (.int c4), r11, .val (.int (2 : Int32)), r13, .val (.ref aB), r15, r16, r17, r18, .val (.int (2 : Int32)), .val (.long lf1), .second, r22, r23, r24, r25, r26, .val (.long lf1), .second, .val (.int (1 : Int32)), .val (.int (0 : Int32)), .val (.int (0 : Int32)), .val (.int (0 : Int32)), .val (.ref a202), .val (.int (2 : Int32)), .val (.long ((lf1 + (own_lf (0 : Int32) c3)) + (own_lf (0 : Int32) c4))), .second, .val (.int (1 : Int32))]) rfl rfl ?_
  refine own_iload (pc' := 689) X206 hx (hb hby at_687) rfl rfl ?_
  refine own_ifN (pc' := 692) X206 hx (hb hby at_689) (by decide) rfl ?_
  refine own_iload (pc' := 694) X206 hx (hb hby at_692) rfl rfl ?_
  refine own_ifN (pc' := 697) X206 hx (hb hby at_694) (by decide) rfl ?_
  refine own_iconst (pc' := 698) X206 hx (hb hby at_697) (v := (1 : Int32)) rfl rfl ?_
  refine own_goto X206 hx (hb hby at_698) (by decide) (pc' := 702) (by decide) ?_
  exact own_retN X206 hx hlk (t := .boolean) hret (by simp) (hb hby at_702) (by decide) (by decide) ⟨rfl, N206⟩
set_option maxRecDepth 65536 in
set_option maxHeartbeats 40000000 in
theorem own_tB21 {p : Program} {l : Launch} {e : Env} {s : State} {m : MethodId} {below : List Frame} {meth : Method} {c : Code} {Z : State} {a0 : Array Value} (hw : ∀ d ∈ tables_1, d.before a0 Z = true) (q0 q1 q2 q3 q4 q5 : Int32) (h0 : Heap) (n0 : Nat) (Z0 : n0 ≤ Array.size h0) (hx : p.tables.exec = Jvm.exec) (hby : c.code = code) (hlk : meth.locks = false) (hml : c.maxLocals = 38) (hown : s.vm.findClass "com/example/dipper/dipper/core/LineEndsNormalizePinLaw" = some m.cls) (hZ : Z.Warmed39 s.vm) (hret : meth.sig.returnType = some .boolean) : ∀ (TJ : State) (hJ : Heap) (LJ : List Loc) (aB : Addr) (c3 c4 : Int32) (lf1 lf2 : Int64) (w2 : Nat) (vs2 : List Int32) (af2 : Int32) (r0 r1 r2 r3 r4 r5 r6 r7 r8 r11 r13 r15 r16 r17 r18 r22 r23 r24 r25 r26 : Slot), own_C c3 → own_C c4 → Stand p l e room_1 s m #[(.int q0), (.int q1), (.int q2), (.int q3), (.int q4), (.int q5)] below meth c TJ LJ 4 10 → TJ.heap = hJ → Fr n0 LJ → n0 ≤ Array.size hJ → own_PA Z hJ aB .char vs2 → (w2, vs2, af2, lf2) = own_nl (2 - 2) 2 2 [c3, c4] (1 : Int32) lf1 → Goes p e below s 24 128 (Q_0 Z q0 q1 q2 q3 q4 q5 h0 n0) TJ (mkF m 458 #[r0, r1, r2, r3, r4, r5, r6, r7, r8, .val (.int c3), .val (.int c4), r11, .val (.int (2 : Int32)), r13, .val (.ref aB), r15, r16, r17, r18, .val (.int w2.toInt32), .val (.long lf2), .second, r22, r23, r24, r25, r26, .val (.long lf1), .second, .val (.int (1 : Int32)), .val (.int (1 : Int32)), .unset, .unset, .unset, .unset, .unset, .unset, .unset] []) := by
  intro TJ hJ LJ aB c3 c4 lf1 lf2 w2 vs2 af2 r0 r1 r2 r3 r4 r5 r6 r7 r8 r11 r13 r15 r16 r17 r18 r22 r23 r24 r25 r26 hC3 hC4 XJ eJ NJ ZJ PJ ht
  refine own_iload (pc' := 460) XJ hx (hb hby at_458) rfl rfl ?_
  refine own_ifY XJ hx (hb hby at_460) (by decide) (by decide) (pc' := 479) (by decide) ?_
  refine own_iconst (pc' := 480) XJ hx (hb hby at_479) (v := (0 : Int32)) rfl rfl ?_
  refine own_istore (pc' := 482) XJ hx (hb hby at_480) (Ls' := #[r0, r1, r2, r3, r4, r5, r6, r7, r8, .val (.int c3), .val (.int c4), r11, .val (.int (2 : Int32)), r13, .val (.ref aB), r15, r16, r17, r18, .val (.int w2.toInt32), .val (.long lf2), .second, r22, r23, r24, r25, r26, .val (.long lf1), .second, .val (.int (1 : Int32)), .val (.int (1 : Int32)), .val (.int (0 : Int32)), .unset, .unset, .unset, .unset, .unset, .unset]) rfl rfl ?_
  refine own_iload (pc' := 484) XJ hx (hb hby at_482) rfl rfl ?_
  refine own_iconst (pc' := 485) XJ hx (hb hby at_484) (v := (1 : Int32)) rfl rfl ?_
  refine own_icmpY XJ hx (hb hby at_485) (by decide) (by decide) (pc' := 522) (by decide) ?_
  refine own_iconst (pc' := 523) XJ hx (hb hby at_522) (v := (0 : Int32)) rfl rfl ?_
  refine own_istore (pc' := 525) XJ hx (hb hby at_523) (Ls' := #[r0, r1, r2, r3, r4, r5, r6, r7, r8, .val (.int c3), .val (.int c4), r11, .val (.int (2 : Int32)), r13, .val (.ref aB), r15, r16, r17, r18, .val (.int w2.toInt32), .val (.long lf2), .second, r22, r23, r24, r25, r26, .val (.long lf1), .second, .val (.int (1 : Int32)), .val (.int (1 : Int32)), .val (.int (0 : Int32)), .val (.int (0 : Int32)), .unset, .unset, .unset, .unset, .unset]) rfl rfl ?_
  refine own_iconst (pc' := 526) XJ hx (hb hby at_525) (v := (2 : Int32)) rfl rfl ?_
  have hB := ht.trans (own_B2 c3 c4 _ lf1)
  simp only [Prod.mk.injEq] at hB
  obtain ⟨rfl, rfl, rfl, hl2⟩ := hB
  have hl3 := hl2.symm
  clear hl2
  subst hl3
  show Goes p e below s 24 128 (Q_0 Z q0 q1 q2 q3 q4 q5 h0 n0) TJ (mkF m 526 #[r0, r1, r2, r3, r4, r5, r6, r7, r8, .val (.int c3), .val (.int c4), r11, .val (.int (2 : Int32)), r13, .val (.ref aB), r15, r16, r17, r18, .val (.int (2 : Int32)), .val (.long lf1), .second, r22, r23, r24, r25, r26, .val (.long lf1), .second, .val (.int (1 : Int32)), .val (.int (1 : Int32)), .val (.int (0 : Int32)), .val (.int (0 : Int32)), .unset, .unset, .unset, .unset, .unset] [(.int (2 : Int32))])
  refine own_newarray (pc' := 528) XJ hx hZ (hw _ (List.mem_of_getElem? (i := 5) rfl)) eJ (hb hby at_526) (k := 2) (cap := 2) rfl (by decide) rfl (by decide) (by decide) (by decide) (by decide) rfl ?_
  intro T207 h207 a207 g207 X207 e207 E207 P207
  show Goes p e below s 24 128 (Q_0 Z q0 q1 q2 q3 q4 q5 h0 n0) T207 (mkF m 528 #[r0, r1, r2, r3, r4, r5, r6, r7, r8, .val (.int c3), .val (.int c4), r11, .val (.int (2 : Int32)), r13, .val (.ref aB), r15, r16, r17, r18, .val (.int (2 : Int32)), .val (.long lf1), .second, r22, r23, r24, r25, r26, .val (.long lf1), .second, .val (.int (1 : Int32)), .val (.int (1 : Int32)), .val (.int (0 : Int32)), .val (.int (0 : Int32)), .unset, .unset, .unset, .unset, .unset] [(.ref a207)])
  have PB := PJ.ext E207
  have ge : n0 ≤ a207 := by rw [g207]; exact ZJ
  have neB : aB ≠ a207 := fun q => absurd (q ▸ PJ.lt) (by rw [g207]; exact Nat.lt_irrefl _)
  have ZE : n0 ≤ Array.size h207 := Nat.le_trans ZJ E207.1
  refine own_astore (pc' := 530) X207 hx (hb hby at_528) rfl (Ls' := #[r0, r1, r2, r3, r4, r5, r6, r7, r8, .val (.int c3), .val (.int c4), r11, .val (.int (2 : Int32)), r13, .val (.ref aB), r15, r16, r17, r18, .val (.int (2 : Int32)), .val (.long lf1), .second, r22, r23, r24, r25, r26, .val (.long lf1), .second, .val (.int (1 : Int32)), .val (.int (1 : Int32)), .val (.int (0 : Int32)), .val (.int (0 : Int32)), .val (.ref a207), .unset, .unset, .unset, .unset]) rfl rfl ?_
  refine own_iload (pc' := 532) X207 hx (hb hby at_530) rfl rfl ?_
  refine own_istore (pc' := 534) X207 hx (hb hby at_532) (Ls' := #[r0, r1, r2, r3, r4, r5, r6, r7, r8, .val (.int c3), .val (.int c4), r11, .val (.int (2 : Int32)), r13, .val (.ref aB), r15, r16, r17, r18, .val (.int (2 : Int32)), .val (.long lf1), .second, r22, r23, r24, r25, r26, .val (.long lf1), .second, .val (.int (1 : Int32)), .val (.int (1 : Int32)), .val (.int (0 : Int32)), .val (.int (0 : Int32)), .val (.ref a207), .val (.int (2 : Int32)), .unset, .unset, .unset]) rfl rfl ?_
  refine own_iload (pc' := 536) X207 hx (hb hby at_534) rfl rfl ?_
  refine own_ifY X207 hx (hb hby at_536) (by decide) (by decide) (pc' := 552) (by decide) ?_
  refine own_iload (pc' := 554) X207 hx (hb hby at_552) rfl rfl ?_
  refine own_ifY X207 hx (hb hby at_554) (by decide) (by decide) (pc' := 570) (by decide) ?_
  refine own_lload (pc' := 572) X207 hx (hb hby at_570) rfl rfl ?_
  refine own_iload (pc' := 574) X207 hx (hb hby at_572) rfl rfl ?_
  refine own_iload (pc' := 576) X207 hx (hb hby at_574) rfl rfl ?_
  obtain ⟨_, _, ⟨T209, L209, k209, n209⟩, -, X209, ⟨Lc209, hQ209, l209, y209, z209⟩, st209⟩ := Jvm.LawKit.callS X207 hx (y := (⟨"com/example/dipper/dipper/core/LineEndsNormalizePinLaw", "lf", "(ZC)J"⟩ : MethodName)) hown (mvT hZ (hw _ (List.mem_of_getElem? (i := 35) rfl))) (mvT hZ (hw _ (List.mem_of_getElem? (i := 36) rfl))) (mvT hZ (hw _ (List.mem_of_getElem? (i := 2) rfl))) (mvT hZ (hw _ (List.mem_of_getElem? (i := 37) rfl))) (by decide) (backOf (W := 2) (rm_4 l Z a0 hw [] (0 : Int32) c3 h207 n0 ZE hC3) hZ (hw _ (List.mem_of_getElem? (i := 37) rfl)) (hw _ (List.mem_of_getElem? (i := 2) rfl)) (by decide) (by decide)) (g := (mkF m 576 #[r0, r1, r2, r3, r4, r5, r6, r7, r8, .val (.int c3), .val (.int c4), r11, .val (.int (2 : Int32)), r13, .val (.ref aB), r15, r16, r17, r18, .val (.int (2 : Int32)), .val (.long lf1), .second, r22, r23, r24, r25, r26, .val (.long lf1), .second, .val (.int (1 : Int32)), .val (.int (1 : Int32)), .val (.int (0 : Int32)), .val (.int (0 : Int32)), .val (.ref a207), .val (.int (2 : Int32)), .unset, .unset, .unset] [(.int c3), (.int (0 : Int32)), (.long lf1)])) rfl (by rw [hml]; rfl) (argsL := [(.int (0 : Int32)), (.int c3)]) (rest := [(.long lf1)]) (lenOf pd_4 rfl) rfl (by show 2 * 0 + _ ≤ _; exact Nat.le_of_eq rfl) (hb hby at_576) (fun _ _ => ⟨rfl, e207, (by decide : 5 + 0 ≤ _), (by decide : 12 + 0 ≤ _)⟩)
  dsimp only [Pt.U, Pt.locs, Pt.cells, Pt.slots] at X209 l209 y209 z209 st209 hQ209
  subst l209 y209 z209
  obtain ⟨rfl, M209, el208⟩ := hQ209
  have N209 := Fr.app NJ M209
  refine Goes.pre st209 ?_
  show Goes p e below s 24 128 (Q_0 Z q0 q1 q2 q3 q4 q5 h0 n0) T209 (mkF m 579 #[r0, r1, r2, r3, r4, r5, r6, r7, r8, .val (.int c3), .val (.int c4), r11, .val (.int (2 : Int32)), r13, .val (.ref aB), r15, r16, r17, r18, .val (.int (2 : Int32)), .val (.long lf1), .second, r22, r23, r24, r25, r26, .val (.long lf1), .second, .val (.int (1 : Int32)), .val (.int (1 : Int32)), .val (.int (0 : Int32)), .val (.int (0 : Int32)), .val (.ref a207), .val (.int (2 : Int32)), .unset, .unset, .unset] [(.long (own_lf (0 : Int32) c3)), (.long lf1)])
  refine own_ladd (pc' := 580) X209 hx (hb hby at_579) rfl ?_
  refine own_iload (pc' := 582) X209 hx (hb hby at_580) rfl rfl ?_
  refine own_iload (pc' := 584) X209 hx (hb hby at_582) rfl rfl ?_
  obtain ⟨_, _, ⟨T211, L211, k211, n211⟩, -, X211, ⟨Lc211, hQ211, l211, y211, z211⟩, st211⟩ := Jvm.LawKit.callS X209 hx (y := (⟨"com/example/dipper/dipper/core/LineEndsNormalizePinLaw", "lf", "(ZC)J"⟩ : MethodName)) hown (mvT hZ (hw _ (List.mem_of_getElem? (i := 35) rfl))) (mvT hZ (hw _ (List.mem_of_getElem? (i := 36) rfl))) (mvT hZ (hw _ (List.mem_of_getElem? (i := 2) rfl))) (mvT hZ (hw _ (List.mem_of_getElem? (i := 37) rfl))) (by decide) (backOf (W := 2) (rm_4 l Z a0 hw [] (0 : Int32) c4 h207 n0 ZE hC4) hZ (hw _ (List.mem_of_getElem? (i := 37) rfl)) (hw _ (List.mem_of_getElem? (i := 2) rfl)) (by decide) (by decide)) (g := (mkF m 584 #[r0, r1, r2, r3, r4, r5, r6, r7, r8, .val (.int c3), .val (.int c4), r11, .val (.int (2 : Int32)), r13, .val (.ref aB), r15, r16, r17, r18, .val (.int (2 : Int32)), .val (.long lf1), .second, r22, r23, r24, r25, r26, .val (.long lf1), .second, .val (.int (1 : Int32)), .val (.int (1 : Int32)), .val (.int (0 : Int32)), .val (.int (0 : Int32)), .val (.ref a207), .val (.int (2 : Int32)), .unset, .unset, .unset] [(.int c4), (.int (0 : Int32)), (.long (lf1 + (own_lf (0 : Int32) c3)))])) rfl (by rw [hml]; rfl) (argsL := [(.int (0 : Int32)), (.int c4)]) (rest := [(.long (lf1 + (own_lf (0 : Int32) c3)))]) (lenOf pd_4 rfl) rfl (by show 2 * 0 + _ ≤ _; exact Nat.le_of_eq rfl) (hb hby at_584) (fun _ _ => ⟨rfl, el208, (by decide : 5 + 0 ≤ _), (by decide : 12 + 0 ≤ _)⟩)
  dsimp only [Pt.U, Pt.locs, Pt.cells, Pt.slots] at X211 l211 y211 z211 st211 hQ211
  subst l211 y211 z211
  obtain ⟨rfl, M211, el210⟩ := hQ211
  have N211 := Fr.app N209 M211
  refine Goes.pre st211 ?_
  show Goes p e below s 24 128 (Q_0 Z q0 q1 q2 q3 q4 q5 h0 n0) T211 (mkF m 587 #[r0, r1, r2, r3, r4, r5, r6, r7, r8, .val (.int c3), .val (.int c4), r11, .val (.int (2 : Int32)), r13, .val (.ref aB), r15, r16, r17, r18, .val (.int (2 : Int32)), .val (.long lf1), .second, r22, r23, r24, r25, r26, .val (.long lf1), .second, .val (.int (1 : Int32)), .val (.int (1 : Int32)), .val (.int (0 : Int32)), .val (.int (0 : Int32)), .val (.ref a207), .val (.int (2 : Int32)), .unset, .unset, .unset] [(.long (own_lf (0 : Int32) c4)), (.long (lf1 + (own_lf (0 : Int32) c3)))])
  refine own_ladd (pc' := 588) X211 hx (hb hby at_587) rfl ?_
  refine own_lstore (pc' := 590) X211 hx (hb hby at_588) (Ls' := #[r0, r1, r2, r3, r4, r5, r6, r7, r8, .val (.int c3), .val (.int c4), r11, .val (.int (2 : Int32)), r13, .val (.ref aB), r15, r16, r17, r18, .val (.int (2 : Int32)), .val (.long lf1), .second, r22, r23, r24, r25, r26, .val (.long lf1), .second, .val (.int (1 : Int32)), .val (.int (1 : Int32)), .val (.int (0 : Int32)), .val (.int (0 : Int32)), .val (.ref a207), .val (.int (2 : Int32)), .val (.long ((lf1 + (own_lf (0 : Int32) c3)) + (own_lf (0 : Int32) c4))), .second, .unset]) rfl rfl ?_
  refine own_iload (pc' := 592) X211 hx (hb hby at_590) rfl rfl ?_
  refine own_iload (pc' := 594) X211 hx (hb hby at_592) rfl rfl ?_
  refine own_icmpN (pc' := 597) X211 hx (hb hby at_594) (by decide) rfl ?_
  refine own_iload (pc' := 599) X211 hx (hb hby at_597) rfl rfl ?_
  refine own_ifY X211 hx (hb hby at_599) (by decide) (by decide) (pc' := 619) (by decide) ?_
  refine own_iload (pc' := 621) X211 hx (hb hby at_619) rfl rfl ?_
  refine own_iconst (pc' := 622) X211 hx (hb hby at_621) (v := (1 : Int32)) rfl rfl ?_
  refine own_icmpY X211 hx (hb hby at_622) (by decide) (by decide) (pc' := 642) (by decide) ?_
  refine own_iload (pc' := 644) X211 hx (hb hby at_642) rfl rfl ?_
  refine own_iconst (pc' := 645) X211 hx (hb hby at_644) (v := (1 : Int32)) rfl rfl ?_
  refine own_icmpN (pc' := 648) X211 hx (hb hby at_645) (by decide) rfl ?_
  refine own_aload (pc' := 650) X211 hx (hb hby at_648) rfl rfl rfl ?_
  refine own_iconst (pc' := 651) X211 hx (hb hby at_650) (v := (0 : Int32)) rfl rfl ?_
  refine own_caload (pc' := 652) X211 hx hZ el210 PB (hb hby at_651) (v := c3) (by decide) (k := 0) (by decide) rfl rfl ?_
  refine own_iload (pc' := 654) X211 hx (hb hby at_652) rfl rfl ?_
  refine own_icmpN (pc' := 657) X211 hx (hb hby at_654) (teq rfl).2 rfl ?_
  refine own_iload (pc' := 659) X211 hx (hb hby at_657) rfl rfl ?_
  refine own_iconst (pc' := 660) X211 hx (hb hby at_659) (v := (2 : Int32)) rfl rfl ?_
  refine own_icmpN (pc' := 663) X211 hx (hb hby at_660) (by decide) rfl ?_
  refine own_aload (pc' := 665) X211 hx (hb hby at_663) rfl rfl rfl ?_
  refine own_iconst (pc' := 666) X211 hx (hb hby at_665) (v := (1 : Int32)) rfl rfl ?_
  refine own_caload (pc' := 667) X211 hx hZ el210 PB (hb hby at_666) (v := c4) (by decide) (k := 1) (by decide) rfl rfl ?_
  refine own_iload (pc' := 669) X211 hx (hb hby at_667) rfl rfl ?_
  refine own_icmpN (pc' := 672) X211 hx (hb hby at_669) (teq rfl).2 rfl ?_
  refine own_lload (pc' := 674) X211 hx (hb hby at_672) rfl rfl ?_
  refine own_lload (pc' := 676) X211 hx (hb hby at_674) rfl rfl ?_
  refine own_lcmp (pc' := 677) X211 hx (hb hby at_676) rfl ?_
  refine own_ifN (pc' := 680) X211 hx (hb hby at_677) (own_Teq (by simp [own_lf] : lf1 = ((lf1 + (own_lf (0 : Int32) c3)) + (own_lf (0 : Int32) c4)))).2 rfl ?_
  refine own_iconst (pc' := 681) X211 hx (hb hby at_680) (v := (1 : Int32)) rfl rfl ?_
  refine own_goto X211 hx (hb hby at_681) (by decide) (pc' := 685) (by decide) ?_
  refine own_istore (pc' := 687) X211 hx (hb hby at_685) (Ls' := #[r0, r1, r2, r3, r4, r5, r6, r7, r8, .val (.int c3), .val (.int c4), r11, .val (.int (2 : Int32)), r13, .val (.ref aB), r15, r16, r17, r18, .val (.int (2 : Int32)), .val (.long lf1), .second, r22, r23, r24, r25, r26, .val (.long lf1), .second, .val (.int (1 : Int32)), .val (.int (1 : Int32)), .val (.int (0 : Int32)), .val (.int (0 : Int32)), .val (.ref a207), .val (.int (2 : Int32)), .val (.long ((lf1 + (own_lf (0 : Int32) c3)) + (own_lf (0 : Int32) c4))), .second, .val (.int (1 : Int32))]) rfl rfl ?_
  refine own_iload (pc' := 689) X211 hx (hb hby at_687) rfl rfl ?_
  refine own_ifN (pc' := 692) X211 hx (hb hby at_689) (by decide) rfl ?_
  refine own_iload (pc' := 694) X211 hx (hb hby at_692) rfl rfl ?_
  refine own_ifN (pc' := 697) X211 hx (hb hby at_694) (by decide) rfl ?_
  refine own_iconst (pc' := 698) X211 hx (hb hby at_697) (v := (1 : Int32)) rfl rfl ?_
  refine own_goto X211 hx (hb hby at_698) (by decide) (pc' := 702) (by decide) ?_
  exact own_retN X211 hx hlk (t := .boolean) hret (by simp) (hb hby at_702) (by decide) (by decide) ⟨rfl, N211⟩
set_option maxRecDepth 65536 in
set_option maxHeartbeats 40000000 in
theorem own_tA0 {p : Program} {l : Launch} {e : Env} {s : State} {m : MethodId} {below : List Frame} {meth : Method} {c : Code} {Z : State} {a0 : Array Value} (hw : ∀ d ∈ tables_1, d.before a0 Z = true) (q0 q1 q2 q3 q4 q5 : Int32) (h0 : Heap) (n0 : Nat) (Z0 : n0 ≤ Array.size h0) (hx : p.tables.exec = Jvm.exec) (hby : c.code = code) (hlk : meth.locks = false) (hml : c.maxLocals = 38) (hown : s.vm.findClass "com/example/dipper/dipper/core/LineEndsNormalizePinLaw" = some m.cls) (hZ : Z.Warmed39 s.vm) (hret : meth.sig.returnType = some .boolean) : ∀ (TJ : State) (LJ : List Loc) (c0 c1 c2 c3 c4 : Int32) (st : Nat), st ≤ 2 → own_C c0 → own_C c1 → own_C c2 → own_C c3 → own_C c4 → Stand p l e room_1 s m #[(.int q0), (.int q1), (.int q2), (.int q3), (.int q4), (.int q5)] below meth c TJ LJ 0 0 → TJ.heap = h0 → Fr n0 LJ → Goes p e below s 24 128 (Q_0 Z q0 q1 q2 q3 q4 q5 h0 n0) TJ (mkF m 48 #[.val (.int q0), .val (.int q1), .val (.int q2), .val (.int q3), .val (.int q4), .val (.int q5), .val (.int c0), .val (.int c1), .val (.int c2), .val (.int c3), .val (.int c4), .val (.int (0 : Int32)), .val (.int st.toInt32), .unset, .unset, .unset, .unset, .unset, .unset, .unset, .unset, .unset, .unset, .unset, .unset, .unset, .unset, .unset, .unset, .unset, .unset, .unset, .unset, .unset, .unset, .unset, .unset, .unset] []) := by
  intro TJ LJ c0 c1 c2 c3 c4 st hst hC0 hC1 hC2 hC3 hC4 XJ eJ NJ
  refine own_iconst (pc' := 49) XJ hx (hb hby at_48) (v := (3 : Int32)) rfl rfl ?_
  refine own_newarray (pc' := 51) XJ hx hZ (hw _ (List.mem_of_getElem? (i := 5) rfl)) eJ (hb hby at_49) (k := 3) (cap := 3) rfl (by decide) rfl (by decide) (by decide) (by decide) (by decide) rfl ?_
  intro T212 h212 a212 g212 X212 e212 E212 P212
  show Goes p e below s 24 128 (Q_0 Z q0 q1 q2 q3 q4 q5 h0 n0) T212 (mkF m 51 #[.val (.int q0), .val (.int q1), .val (.int q2), .val (.int q3), .val (.int q4), .val (.int q5), .val (.int c0), .val (.int c1), .val (.int c2), .val (.int c3), .val (.int c4), .val (.int (0 : Int32)), .val (.int st.toInt32), .unset, .unset, .unset, .unset, .unset, .unset, .unset, .unset, .unset, .unset, .unset, .unset, .unset, .unset, .unset, .unset, .unset, .unset, .unset, .unset, .unset, .unset, .unset, .unset, .unset] [(.ref a212)])
  have ge_a212 : n0 ≤ a212 := by rw [g212]; exact Z0
  have Z212 : n0 ≤ Array.size h212 := Nat.le_trans Z0 E212.1
  refine own_dup (pc' := 52) X212 hx (hb hby at_51) rfl rfl ?_
  refine own_iconst (pc' := 53) X212 hx (hb hby at_52) (v := (0 : Int32)) rfl rfl ?_
  refine own_iload (pc' := 55) X212 hx (hb hby at_53) rfl rfl ?_
  refine own_castore (pc' := 56) X212 hx hZ e212 P212 (hb hby at_55) (own_nar hC0) (by decide) (k := 0) (by decide) (by simp) rfl ?_
  intro T213 h213 X213 e213 W213 P213
  have N213 := Fr.snoc X213 NJ ge_a212
  have Z213 : n0 ≤ Array.size h213 := by rw [W213.size]; exact Z212
  show Goes p e below s 24 128 (Q_0 Z q0 q1 q2 q3 q4 q5 h0 n0) T213 (mkF m 56 #[.val (.int q0), .val (.int q1), .val (.int q2), .val (.int q3), .val (.int q4), .val (.int q5), .val (.int c0), .val (.int c1), .val (.int c2), .val (.int c3), .val (.int c4), .val (.int (0 : Int32)), .val (.int st.toInt32), .unset, .unset, .unset, .unset, .unset, .unset, .unset, .unset, .unset, .unset, .unset, .unset, .unset, .unset, .unset, .unset, .unset, .unset, .unset, .unset, .unset, .unset, .unset, .unset, .unset] [(.ref a212)])
  have P213x : own_PA Z h213 a212 .char [c0, (0 : Int32), (0 : Int32)] := P213
  refine own_dup (pc' := 57) X213 hx (hb hby at_56) rfl rfl ?_
  refine own_iconst (pc' := 58) X213 hx (hb hby at_57) (v := (1 : Int32)) rfl rfl ?_
  refine own_iload (pc' := 60) X213 hx (hb hby at_58) rfl rfl ?_
  refine own_castore (pc' := 61) X213 hx hZ e213 P213x (hb hby at_60) (own_nar hC1) (by decide) (k := 1) (by decide) (by simp) rfl ?_
  intro T214 h214 X214 e214 W214 P214
  have N214 := Fr.snoc X214 N213 ge_a212
  have Z214 : n0 ≤ Array.size h214 := by rw [W214.size]; exact Z213
  show Goes p e below s 24 128 (Q_0 Z q0 q1 q2 q3 q4 q5 h0 n0) T214 (mkF m 61 #[.val (.int q0), .val (.int q1), .val (.int q2), .val (.int q3), .val (.int q4), .val (.int q5), .val (.int c0), .val (.int c1), .val (.int c2), .val (.int c3), .val (.int c4), .val (.int (0 : Int32)), .val (.int st.toInt32), .unset, .unset, .unset, .unset, .unset, .unset, .unset, .unset, .unset, .unset, .unset, .unset, .unset, .unset, .unset, .unset, .unset, .unset, .unset, .unset, .unset, .unset, .unset, .unset, .unset] [(.ref a212)])
  have P214x : own_PA Z h214 a212 .char [c0, c1, (0 : Int32)] := P214
  refine own_dup (pc' := 62) X214 hx (hb hby at_61) rfl rfl ?_
  refine own_iconst (pc' := 63) X214 hx (hb hby at_62) (v := (2 : Int32)) rfl rfl ?_
  refine own_iload (pc' := 65) X214 hx (hb hby at_63) rfl rfl ?_
  refine own_castore (pc' := 66) X214 hx hZ e214 P214x (hb hby at_65) (own_nar hC2) (by decide) (k := 2) (by decide) (by simp) rfl ?_
  intro T215 h215 X215 e215 W215 P215
  have N215 := Fr.snoc X215 N214 ge_a212
  have Z215 : n0 ≤ Array.size h215 := by rw [W215.size]; exact Z214
  show Goes p e below s 24 128 (Q_0 Z q0 q1 q2 q3 q4 q5 h0 n0) T215 (mkF m 66 #[.val (.int q0), .val (.int q1), .val (.int q2), .val (.int q3), .val (.int q4), .val (.int q5), .val (.int c0), .val (.int c1), .val (.int c2), .val (.int c3), .val (.int c4), .val (.int (0 : Int32)), .val (.int st.toInt32), .unset, .unset, .unset, .unset, .unset, .unset, .unset, .unset, .unset, .unset, .unset, .unset, .unset, .unset, .unset, .unset, .unset, .unset, .unset, .unset, .unset, .unset, .unset, .unset, .unset] [(.ref a212)])
  have P215x : own_PA Z h215 a212 .char [c0, c1, c2] := P215
  refine own_astore (pc' := 68) X215 hx (hb hby at_66) rfl (Ls' := #[.val (.int q0), .val (.int q1), .val (.int q2), .val (.int q3), .val (.int q4), .val (.int q5), .val (.int c0), .val (.int c1), .val (.int c2), .val (.int c3), .val (.int c4), .val (.int (0 : Int32)), .val (.int st.toInt32), .val (.ref a212), .unset, .unset, .unset, .unset, .unset, .unset, .unset, .unset, .unset, .unset, .unset, .unset, .unset, .unset, .unset, .unset, .unset, .unset, .unset, .unset, .unset, .unset, .unset, .unset]) rfl rfl ?_
  refine own_iconst (pc' := 69) X215 hx (hb hby at_68) (v := (2 : Int32)) rfl rfl ?_
  refine own_newarray (pc' := 71) X215 hx hZ (hw _ (List.mem_of_getElem? (i := 5) rfl)) e215 (hb hby at_69) (k := 2) (cap := 2) rfl (by decide) rfl (by decide) (by decide) (by decide) (by decide) rfl ?_
  intro T216 h216 a216 g216 X216 e216 E216 P216
  show Goes p e below s 24 128 (Q_0 Z q0 q1 q2 q3 q4 q5 h0 n0) T216 (mkF m 71 #[.val (.int q0), .val (.int q1), .val (.int q2), .val (.int q3), .val (.int q4), .val (.int q5), .val (.int c0), .val (.int c1), .val (.int c2), .val (.int c3), .val (.int c4), .val (.int (0 : Int32)), .val (.int st.toInt32), .val (.ref a212), .unset, .unset, .unset, .unset, .unset, .unset, .unset, .unset, .unset, .unset, .unset, .unset, .unset, .unset, .unset, .unset, .unset, .unset, .unset, .unset, .unset, .unset, .unset, .unset] [(.ref a216)])
  have P216_a212 := P215x.ext E216
  have ne_a212_a216 : a212 ≠ a216 := fun q => absurd (q ▸ P215x.lt) (by rw [g216]; exact Nat.lt_irrefl _)
  have ge_a216 : n0 ≤ a216 := by rw [g216]; exact Z215
  have Z216 : n0 ≤ Array.size h216 := Nat.le_trans Z215 E216.1
  refine own_dup (pc' := 72) X216 hx (hb hby at_71) rfl rfl ?_
  refine own_iconst (pc' := 73) X216 hx (hb hby at_72) (v := (0 : Int32)) rfl rfl ?_
  refine own_iload (pc' := 75) X216 hx (hb hby at_73) rfl rfl ?_
  refine own_castore (pc' := 76) X216 hx hZ e216 P216 (hb hby at_75) (own_nar hC3) (by decide) (k := 0) (by decide) (by simp) rfl ?_
  intro T217 h217 X217 e217 W217 P217
  have N217 := Fr.snoc X217 N215 ge_a216
  have P217_a212 := P216_a212.other W217 ne_a212_a216
  have Z217 : n0 ≤ Array.size h217 := by rw [W217.size]; exact Z216
  show Goes p e below s 24 128 (Q_0 Z q0 q1 q2 q3 q4 q5 h0 n0) T217 (mkF m 76 #[.val (.int q0), .val (.int q1), .val (.int q2), .val (.int q3), .val (.int q4), .val (.int q5), .val (.int c0), .val (.int c1), .val (.int c2), .val (.int c3), .val (.int c4), .val (.int (0 : Int32)), .val (.int st.toInt32), .val (.ref a212), .unset, .unset, .unset, .unset, .unset, .unset, .unset, .unset, .unset, .unset, .unset, .unset, .unset, .unset, .unset, .unset, .unset, .unset, .unset, .unset, .unset, .unset, .unset, .unset] [(.ref a216)])
  have P217x : own_PA Z h217 a216 .char [c3, (0 : Int32)] := P217
  refine own_dup (pc' := 77) X217 hx (hb hby at_76) rfl rfl ?_
  refine own_iconst (pc' := 78) X217 hx (hb hby at_77) (v := (1 : Int32)) rfl rfl ?_
  refine own_iload (pc' := 80) X217 hx (hb hby at_78) rfl rfl ?_
  refine own_castore (pc' := 81) X217 hx hZ e217 P217x (hb hby at_80) (own_nar hC4) (by decide) (k := 1) (by decide) (by simp) rfl ?_
  intro T218 h218 X218 e218 W218 P218
  have N218 := Fr.snoc X218 N217 ge_a216
  have P218_a212 := P217_a212.other W218 ne_a212_a216
  have Z218 : n0 ≤ Array.size h218 := by rw [W218.size]; exact Z217
  show Goes p e below s 24 128 (Q_0 Z q0 q1 q2 q3 q4 q5 h0 n0) T218 (mkF m 81 #[.val (.int q0), .val (.int q1), .val (.int q2), .val (.int q3), .val (.int q4), .val (.int q5), .val (.int c0), .val (.int c1), .val (.int c2), .val (.int c3), .val (.int c4), .val (.int (0 : Int32)), .val (.int st.toInt32), .val (.ref a212), .unset, .unset, .unset, .unset, .unset, .unset, .unset, .unset, .unset, .unset, .unset, .unset, .unset, .unset, .unset, .unset, .unset, .unset, .unset, .unset, .unset, .unset, .unset, .unset] [(.ref a216)])
  have P218x : own_PA Z h218 a216 .char [c3, c4] := P218
  refine own_astore (pc' := 83) X218 hx (hb hby at_81) rfl (Ls' := #[.val (.int q0), .val (.int q1), .val (.int q2), .val (.int q3), .val (.int q4), .val (.int q5), .val (.int c0), .val (.int c1), .val (.int c2), .val (.int c3), .val (.int c4), .val (.int (0 : Int32)), .val (.int st.toInt32), .val (.ref a212), .val (.ref a216), .unset, .unset, .unset, .unset, .unset, .unset, .unset, .unset, .unset, .unset, .unset, .unset, .unset, .unset, .unset, .unset, .unset, .unset, .unset, .unset, .unset, .unset, .unset]) rfl rfl ?_
  obtain ⟨T219, h219, X219, e219, E219, A219, D219, -, st219⟩ := newO X218 hx hZ hown (hw _ (List.mem_of_getElem? (i := 6) rfl)) (hw _ (List.mem_of_getElem? (i := 7) rfl)) (hw _ (List.mem_of_getElem? (i := 8) rfl)) e218 (g := (mkF m 83 #[.val (.int q0), .val (.int q1), .val (.int q2), .val (.int q3), .val (.int q4), .val (.int q5), .val (.int c0), .val (.int c1), .val (.int c2), .val (.int c3), .val (.int c4), .val (.int (0 : Int32)), .val (.int st.toInt32), .val (.ref a212), .val (.ref a216), .unset, .unset, .unset, .unset, .unset, .unset, .unset, .unset, .unset, .unset, .unset, .unset, .unset, .unset, .unset, .unset, .unset, .unset, .unset, .unset, .unset, .unset, .unset] [])) rfl (hb hby at_83) (by decide) (by decide)
  obtain ⟨a219, g219⟩ : ∃ z, z = Array.size (h218) := ⟨_, rfl⟩
  rw [← g219] at A219 D219 st219
  refine Goes.pre st219 ?_
  show Goes p e below s 24 128 (Q_0 Z q0 q1 q2 q3 q4 q5 h0 n0) T219 (mkF m 86 #[.val (.int q0), .val (.int q1), .val (.int q2), .val (.int q3), .val (.int q4), .val (.int q5), .val (.int c0), .val (.int c1), .val (.int c2), .val (.int c3), .val (.int c4), .val (.int (0 : Int32)), .val (.int st.toInt32), .val (.ref a212), .val (.ref a216), .unset, .unset, .unset, .unset, .unset, .unset, .unset, .unset, .unset, .unset, .unset, .unset, .unset, .unset, .unset, .unset, .unset, .unset, .unset, .unset, .unset, .unset, .unset] [(.ref a219)])
  have F219_afterReturn : Fld Z h219 a219 "com/example/dipper/dipper/core/LineEnds" "afterReturn" "Z" (.int (0 : Int32)) := D219 (Or.inl (hw _ (List.mem_of_getElem? (i := 21) rfl))) (ty := .boolean) (by decide)
  have F219_lineFeeds : Fld Z h219 a219 "com/example/dipper/dipper/core/LineEnds" "lineFeeds" "J" (.long (0 : Int64)) := D219 (Or.inl (hw _ (List.mem_of_getElem? (i := 23) rfl))) (ty := .long) (by decide)
  have P219_a216 := P218x.ext E219
  have le_a216 : a216 ≠ a219 := fun q => absurd (q ▸ P218x.lt) (by rw [g219]; exact Nat.lt_irrefl _)
  have P219_a212 := P218_a212.ext E219
  have le_a212 : a212 ≠ a219 := fun q => absurd (q ▸ P218_a212.lt) (by rw [g219]; exact Nat.lt_irrefl _)
  have ge_a219 : n0 ≤ a219 := by rw [g219]; exact Z218
  have Z219 : n0 ≤ Array.size h219 := Nat.le_trans Z218 E219.1
  refine own_dup (pc' := 87) X219 hx (hb hby at_86) rfl rfl ?_
  obtain ⟨_, _, ⟨T221, L221, k221, n221⟩, -, X221, ⟨Lc221, hQ221, l221, y221, z221⟩, st221⟩ := X219.specialBack hx (y := (⟨"com/example/dipper/dipper/core/LineEnds", "<init>", "()V"⟩ : MethodName)) rfl hown (mvT hZ (hw _ (List.mem_of_getElem? (i := 9) rfl))) (mvT hZ (hw _ (List.mem_of_getElem? (i := 10) rfl))) (mvT hZ (hw _ (List.mem_of_getElem? (i := 11) rfl))) (by decide) (backOf (W := 1) (rm_5 l Z a0 hw [] a219 h219 n0 Z219) hZ (hw _ (List.mem_of_getElem? (i := 11) rfl)) (hw _ (List.mem_of_getElem? (i := 8) rfl)) (by decide) (by decide)) (g := (mkF m 87 #[.val (.int q0), .val (.int q1), .val (.int q2), .val (.int q3), .val (.int q4), .val (.int q5), .val (.int c0), .val (.int c1), .val (.int c2), .val (.int c3), .val (.int c4), .val (.int (0 : Int32)), .val (.int st.toInt32), .val (.ref a212), .val (.ref a216), .unset, .unset, .unset, .unset, .unset, .unset, .unset, .unset, .unset, .unset, .unset, .unset, .unset, .unset, .unset, .unset, .unset, .unset, .unset, .unset, .unset, .unset, .unset] [(.ref a219), (.ref a219)])) rfl (by rw [hml]; rfl) (Steps.refl _) (a := a219) (argsL := []) (rest := [(.ref a219)]) (lenOf pd_5 rfl) rfl (by show 2 * 0 + _ ≤ _; exact Nat.le_of_eq rfl) (hb hby at_87) (fun _ _ => ⟨rfl, e219, (by decide : 3 + 0 ≤ _), (by decide : 7 + 0 ≤ _)⟩)
  dsimp only [Pt.U, Pt.locs, Pt.cells, Pt.slots] at X221 l221 y221 z221 st221 hQ221
  subst l221 y221 z221
  obtain ⟨rfl, M221, ei220⟩ := hQ221
  have N221 := Fr.app N218 M221
  refine Goes.aft st221 ?_
  show Goes p e below s 24 128 (Q_0 Z q0 q1 q2 q3 q4 q5 h0 n0) T221 (mkF m 90 #[.val (.int q0), .val (.int q1), .val (.int q2), .val (.int q3), .val (.int q4), .val (.int q5), .val (.int c0), .val (.int c1), .val (.int c2), .val (.int c3), .val (.int c4), .val (.int (0 : Int32)), .val (.int st.toInt32), .val (.ref a212), .val (.ref a216), .unset, .unset, .unset, .unset, .unset, .unset, .unset, .unset, .unset, .unset, .unset, .unset, .unset, .unset, .unset, .unset, .unset, .unset, .unset, .unset, .unset, .unset, .unset] [(.ref a219)])
  refine own_astore (pc' := 92) X221 hx (hb hby at_90) rfl (Ls' := #[.val (.int q0), .val (.int q1), .val (.int q2), .val (.int q3), .val (.int q4), .val (.int q5), .val (.int c0), .val (.int c1), .val (.int c2), .val (.int c3), .val (.int c4), .val (.int (0 : Int32)), .val (.int st.toInt32), .val (.ref a212), .val (.ref a216), .val (.ref a219), .unset, .unset, .unset, .unset, .unset, .unset, .unset, .unset, .unset, .unset, .unset, .unset, .unset, .unset, .unset, .unset, .unset, .unset, .unset, .unset, .unset, .unset]) rfl rfl ?_
  refine own_aload (pc' := 94) X221 hx (hb hby at_92) rfl rfl rfl ?_
  refine own_aload (pc' := 96) X221 hx (hb hby at_94) rfl rfl rfl ?_
  refine own_iconst (pc' := 97) X221 hx (hb hby at_96) (v := (0 : Int32)) rfl rfl ?_
  refine own_iload (pc' := 99) X221 hx (hb hby at_97) rfl rfl ?_
  obtain ⟨cq224, kq224, q224a, q224b, q224c⟩ := isOf hZ ei220 A219
  obtain ⟨_, _, ⟨T223, L223, k223, n223⟩, -, X223, ⟨Lc223, hQ223, l223, y223, z223⟩, st223⟩ := X221.virtualBack hx (y := (⟨"com/example/dipper/dipper/core/LineEnds", "normalize", "([CII)I"⟩ : MethodName)) (z := (⟨"com/example/dipper/dipper/core/LineEnds", "normalize", "([CII)I"⟩ : MethodName)) hown (mvT hZ (hw _ (List.mem_of_getElem? (i := 15) rfl))) (mvT hZ (hw _ (List.mem_of_getElem? (i := 16) rfl))) (notFace_of_selects (args := #[]) (mvT hZ (hw _ (List.mem_of_getElem? (i := 18) rfl)))) (mvT hZ (hw _ (List.mem_of_getElem? (i := 18) rfl))) (mvT hZ (hw _ (List.mem_of_getElem? (i := 17) rfl))) (by decide) (backOf (W := 0) (rm_7 l Z a0 hw [] a219 a212 [c0, c1, c2] (0 : Int32) (0 : Int64) 0 0 h219 n0 Z219 F219_afterReturn F219_lineFeeds A219 P219_a212 (by omega) (by simp) (by simp) (by simp only [List.mem_cons, List.not_mem_nil, or_false]; rintro v (rfl | rfl | rfl) <;> assumption) (Ne.symm le_a212) ge_a219 ge_a212) hZ (hw _ (List.mem_of_getElem? (i := 19) rfl)) (hw _ (List.mem_of_getElem? (i := 8) rfl)) (by decide) (by decide)) q224a q224c (g := (mkF m 99 #[.val (.int q0), .val (.int q1), .val (.int q2), .val (.int q3), .val (.int q4), .val (.int q5), .val (.int c0), .val (.int c1), .val (.int c2), .val (.int c3), .val (.int c4), .val (.int (0 : Int32)), .val (.int st.toInt32), .val (.ref a212), .val (.ref a216), .val (.ref a219), .unset, .unset, .unset, .unset, .unset, .unset, .unset, .unset, .unset, .unset, .unset, .unset, .unset, .unset, .unset, .unset, .unset, .unset, .unset, .unset, .unset, .unset] [(.int (0 : Int32)), (.int (0 : Int32)), (.ref a212), (.ref a219)])) rfl (by rw [hml]; rfl) (Steps.refl _) (argsL := [(.ref a212), (.int (0 : Int32)), (.int (0 : Int32))]) (rest := []) (lenOf pd_7 rfl) rfl (by show 2 * 0 + _ ≤ _; exact Nat.le_of_eq rfl) (hb hby at_99) (fun _ _ => ⟨rfl, ei220, (by decide : 3 + 0 ≤ _), (by decide : 7 + 0 ≤ _)⟩)
  dsimp only [Pt.U, Pt.locs, Pt.cells, Pt.slots] at X223 l223 y223 z223 st223 hQ223
  subst l223 y223 z223
  obtain ⟨rfl, M223, K222, EX222, FA222, FL222, P222⟩ := hQ223
  have N223 := Fr.app N221 M223
  refine Goes.aft st223 ?_
  show Goes p e below s 24 128 (Q_0 Z q0 q1 q2 q3 q4 q5 h0 n0) T223 (mkF m 102 #[.val (.int q0), .val (.int q1), .val (.int q2), .val (.int q3), .val (.int q4), .val (.int q5), .val (.int c0), .val (.int c1), .val (.int c2), .val (.int c3), .val (.int c4), .val (.int (0 : Int32)), .val (.int st.toInt32), .val (.ref a212), .val (.ref a216), .val (.ref a219), .unset, .unset, .unset, .unset, .unset, .unset, .unset, .unset, .unset, .unset, .unset, .unset, .unset, .unset, .unset, .unset, .unset, .unset, .unset, .unset, .unset, .unset] [(.int (own_nl (0 - 0) 0 0 [c0, c1, c2] (0 : Int32) (0 : Int64)).1.toInt32)])
  have Z222 : n0 ≤ Array.size T223.heap := Nat.le_trans Z219 K222.1
  have P222_a216 := P219_a216.keep K222 (ninS le_a216 (ninS (Ne.symm ne_a212_a216) nin0))
  obtain ⟨⟨w1, vs1, af1, lf1⟩, ht1⟩ : ∃ t, t = (own_nl (0 - 0) 0 0 [c0, c1, c2] (0 : Int32) (0 : Int64)) := ⟨_, rfl⟩
  rw [← ht1] at FA222 FL222 P222
  rw [← ht1]
  dsimp only at FA222 FL222 P222
  show Goes p e below s 24 128 (Q_0 Z q0 q1 q2 q3 q4 q5 h0 n0) T223 (mkF m 102 #[.val (.int q0), .val (.int q1), .val (.int q2), .val (.int q3), .val (.int q4), .val (.int q5), .val (.int c0), .val (.int c1), .val (.int c2), .val (.int c3), .val (.int c4), .val (.int (0 : Int32)), .val (.int st.toInt32), .val (.ref a212), .val (.ref a216), .val (.ref a219), .unset, .unset, .unset, .unset, .unset, .unset, .unset, .unset, .unset, .unset, .unset, .unset, .unset, .unset, .unset, .unset, .unset, .unset, .unset, .unset, .unset, .unset] [(.int w1.toInt32)])
  refine own_istore (pc' := 104) X223 hx (hb hby at_102) (Ls' := #[.val (.int q0), .val (.int q1), .val (.int q2), .val (.int q3), .val (.int q4), .val (.int q5), .val (.int c0), .val (.int c1), .val (.int c2), .val (.int c3), .val (.int c4), .val (.int (0 : Int32)), .val (.int st.toInt32), .val (.ref a212), .val (.ref a216), .val (.ref a219), .val (.int w1.toInt32), .unset, .unset, .unset, .unset, .unset, .unset, .unset, .unset, .unset, .unset, .unset, .unset, .unset, .unset, .unset, .unset, .unset, .unset, .unset, .unset, .unset]) rfl rfl ?_
  refine own_aload (pc' := 106) X223 hx (hb hby at_104) rfl rfl rfl ?_
  obtain ⟨cq227, kq227, q227a, q227b, q227c⟩ := isOf hZ rfl EX222
  obtain ⟨_, _, ⟨T226, L226, k226, n226⟩, -, X226, ⟨Lc226, hQ226, l226, y226, z226⟩, st226⟩ := X223.virtualBack hx (y := (⟨"com/example/dipper/dipper/core/LineEnds", "lineFeeds", "()J"⟩ : MethodName)) (z := (⟨"com/example/dipper/dipper/core/LineEnds", "lineFeeds", "()J"⟩ : MethodName)) hown (mvT hZ (hw _ (List.mem_of_getElem? (i := 24) rfl))) (mvT hZ (hw _ (List.mem_of_getElem? (i := 25) rfl))) (notFace_of_selects (args := #[]) (mvT hZ (hw _ (List.mem_of_getElem? (i := 27) rfl)))) (mvT hZ (hw _ (List.mem_of_getElem? (i := 27) rfl))) (mvT hZ (hw _ (List.mem_of_getElem? (i := 26) rfl))) (by decide) (backOf (W := 0) (rm_6 l Z a0 hw [] a219 lf1 T223.heap n0 Z222 FL222) hZ (hw _ (List.mem_of_getElem? (i := 28) rfl)) (hw _ (List.mem_of_getElem? (i := 8) rfl)) (by decide) (by decide)) q227a q227c (g := (mkF m 106 #[.val (.int q0), .val (.int q1), .val (.int q2), .val (.int q3), .val (.int q4), .val (.int q5), .val (.int c0), .val (.int c1), .val (.int c2), .val (.int c3), .val (.int c4), .val (.int (0 : Int32)), .val (.int st.toInt32), .val (.ref a212), .val (.ref a216), .val (.ref a219), .val (.int w1.toInt32), .unset, .unset, .unset, .unset, .unset, .unset, .unset, .unset, .unset, .unset, .unset, .unset, .unset, .unset, .unset, .unset, .unset, .unset, .unset, .unset, .unset] [(.ref a219)])) rfl (by rw [hml]; rfl) (Steps.refl _) (argsL := []) (rest := []) (lenOf pd_6 rfl) rfl (by show 2 * 0 + _ ≤ _; exact Nat.le_of_eq rfl) (hb hby at_106) (fun _ _ => ⟨rfl, rfl, (by decide : 3 + 0 ≤ _), (by decide : 7 + 0 ≤ _)⟩)
  dsimp only [Pt.U, Pt.locs, Pt.cells, Pt.slots] at X226 l226 y226 z226 st226 hQ226
  subst l226 y226 z226
  obtain ⟨rfl, M226, eg225⟩ := hQ226
  have N226 := Fr.app N223 M226
  refine Goes.aft st226 ?_
  show Goes p e below s 24 128 (Q_0 Z q0 q1 q2 q3 q4 q5 h0 n0) T226 (mkF m 109 #[.val (.int q0), .val (.int q1), .val (.int q2), .val (.int q3), .val (.int q4), .val (.int q5), .val (.int c0), .val (.int c1), .val (.int c2), .val (.int c3), .val (.int c4), .val (.int (0 : Int32)), .val (.int st.toInt32), .val (.ref a212), .val (.ref a216), .val (.ref a219), .val (.int w1.toInt32), .unset, .unset, .unset, .unset, .unset, .unset, .unset, .unset, .unset, .unset, .unset, .unset, .unset, .unset, .unset, .unset, .unset, .unset, .unset, .unset, .unset] [(.long lf1)])
  refine own_lstore (pc' := 111) X226 hx (hb hby at_109) (Ls' := #[.val (.int q0), .val (.int q1), .val (.int q2), .val (.int q3), .val (.int q4), .val (.int q5), .val (.int c0), .val (.int c1), .val (.int c2), .val (.int c3), .val (.int c4), .val (.int (0 : Int32)), .val (.int st.toInt32), .val (.ref a212), .val (.ref a216), .val (.ref a219), .val (.int w1.toInt32), .val (.long lf1), .second, .unset, .unset, .unset, .unset, .unset, .unset, .unset, .unset, .unset, .unset, .unset, .unset, .unset, .unset, .unset, .unset, .unset, .unset, .unset]) rfl rfl ?_
  refine own_aload (pc' := 113) X226 hx (hb hby at_111) rfl rfl rfl ?_
  refine own_aload (pc' := 115) X226 hx (hb hby at_113) rfl rfl rfl ?_
  refine own_iload (pc' := 117) X226 hx (hb hby at_115) rfl rfl ?_
  refine own_iconst (pc' := 118) X226 hx (hb hby at_117) (v := (2 : Int32)) rfl rfl ?_
  obtain ⟨cq230, kq230, q230a, q230b, q230c⟩ := isOf hZ eg225 EX222
  obtain ⟨_, _, ⟨T229, L229, k229, n229⟩, -, X229, ⟨Lc229, hQ229, l229, y229, z229⟩, st229⟩ := X226.virtualBack hx (y := (⟨"com/example/dipper/dipper/core/LineEnds", "normalize", "([CII)I"⟩ : MethodName)) (z := (⟨"com/example/dipper/dipper/core/LineEnds", "normalize", "([CII)I"⟩ : MethodName)) hown (mvT hZ (hw _ (List.mem_of_getElem? (i := 15) rfl))) (mvT hZ (hw _ (List.mem_of_getElem? (i := 16) rfl))) (notFace_of_selects (args := #[]) (mvT hZ (hw _ (List.mem_of_getElem? (i := 18) rfl)))) (mvT hZ (hw _ (List.mem_of_getElem? (i := 18) rfl))) (mvT hZ (hw _ (List.mem_of_getElem? (i := 17) rfl))) (by decide) (backOf (W := 0) (rm_7 l Z a0 hw [] a219 a216 [c3, c4] af1 lf1 st 2 T223.heap n0 Z222 FA222 FL222 EX222 P222_a216 hst (by simp) (by simp) (by simp only [List.mem_cons, List.not_mem_nil, or_false]; rintro v (rfl | rfl) <;> assumption) (Ne.symm le_a216) ge_a219 ge_a216) hZ (hw _ (List.mem_of_getElem? (i := 19) rfl)) (hw _ (List.mem_of_getElem? (i := 8) rfl)) (by decide) (by decide)) q230a q230c (g := (mkF m 118 #[.val (.int q0), .val (.int q1), .val (.int q2), .val (.int q3), .val (.int q4), .val (.int q5), .val (.int c0), .val (.int c1), .val (.int c2), .val (.int c3), .val (.int c4), .val (.int (0 : Int32)), .val (.int st.toInt32), .val (.ref a212), .val (.ref a216), .val (.ref a219), .val (.int w1.toInt32), .val (.long lf1), .second, .unset, .unset, .unset, .unset, .unset, .unset, .unset, .unset, .unset, .unset, .unset, .unset, .unset, .unset, .unset, .unset, .unset, .unset, .unset] [(.int (2 : Int32)), (.int st.toInt32), (.ref a216), (.ref a219)])) rfl (by rw [hml]; rfl) (Steps.refl _) (argsL := [(.ref a216), (.int st.toInt32), (.int (2 : Int32))]) (rest := []) (lenOf pd_7 rfl) rfl (by show 2 * 0 + _ ≤ _; exact Nat.le_of_eq rfl) (hb hby at_118) (fun _ _ => ⟨rfl, eg225, (by decide : 3 + 0 ≤ _), (by decide : 7 + 0 ≤ _)⟩)
  dsimp only [Pt.U, Pt.locs, Pt.cells, Pt.slots] at X229 l229 y229 z229 st229 hQ229
  subst l229 y229 z229
  obtain ⟨rfl, M229, K228, EX228, FA228, FL228, P228⟩ := hQ229
  have N229 := Fr.app N226 M229
  refine Goes.aft st229 ?_
  show Goes p e below s 24 128 (Q_0 Z q0 q1 q2 q3 q4 q5 h0 n0) T229 (mkF m 121 #[.val (.int q0), .val (.int q1), .val (.int q2), .val (.int q3), .val (.int q4), .val (.int q5), .val (.int c0), .val (.int c1), .val (.int c2), .val (.int c3), .val (.int c4), .val (.int (0 : Int32)), .val (.int st.toInt32), .val (.ref a212), .val (.ref a216), .val (.ref a219), .val (.int w1.toInt32), .val (.long lf1), .second, .unset, .unset, .unset, .unset, .unset, .unset, .unset, .unset, .unset, .unset, .unset, .unset, .unset, .unset, .unset, .unset, .unset, .unset, .unset] [(.int (own_nl (2 - st) st st [c3, c4] af1 lf1).1.toInt32)])
  have Z228 : n0 ≤ Array.size T229.heap := Nat.le_trans Z222 K228.1
  have P228_a212 := P222.keep K228 (ninS le_a212 (ninS ne_a212_a216 nin0))
  obtain ⟨⟨w2, vs2, af2, lf2⟩, ht2⟩ : ∃ t, t = (own_nl (2 - st) st st [c3, c4] af1 lf1) := ⟨_, rfl⟩
  rw [← ht2] at FA228 FL228 P228
  rw [← ht2]
  dsimp only at FA228 FL228 P228
  show Goes p e below s 24 128 (Q_0 Z q0 q1 q2 q3 q4 q5 h0 n0) T229 (mkF m 121 #[.val (.int q0), .val (.int q1), .val (.int q2), .val (.int q3), .val (.int q4), .val (.int q5), .val (.int c0), .val (.int c1), .val (.int c2), .val (.int c3), .val (.int c4), .val (.int (0 : Int32)), .val (.int st.toInt32), .val (.ref a212), .val (.ref a216), .val (.ref a219), .val (.int w1.toInt32), .val (.long lf1), .second, .unset, .unset, .unset, .unset, .unset, .unset, .unset, .unset, .unset, .unset, .unset, .unset, .unset, .unset, .unset, .unset, .unset, .unset, .unset] [(.int w2.toInt32)])
  refine own_istore (pc' := 123) X229 hx (hb hby at_121) (Ls' := #[.val (.int q0), .val (.int q1), .val (.int q2), .val (.int q3), .val (.int q4), .val (.int q5), .val (.int c0), .val (.int c1), .val (.int c2), .val (.int c3), .val (.int c4), .val (.int (0 : Int32)), .val (.int st.toInt32), .val (.ref a212), .val (.ref a216), .val (.ref a219), .val (.int w1.toInt32), .val (.long lf1), .second, .val (.int w2.toInt32), .unset, .unset, .unset, .unset, .unset, .unset, .unset, .unset, .unset, .unset, .unset, .unset, .unset, .unset, .unset, .unset, .unset, .unset]) rfl rfl ?_
  refine own_aload (pc' := 125) X229 hx (hb hby at_123) rfl rfl rfl ?_
  obtain ⟨cq233, kq233, q233a, q233b, q233c⟩ := isOf hZ rfl EX228
  obtain ⟨_, _, ⟨T232, L232, k232, n232⟩, -, X232, ⟨Lc232, hQ232, l232, y232, z232⟩, st232⟩ := X229.virtualBack hx (y := (⟨"com/example/dipper/dipper/core/LineEnds", "lineFeeds", "()J"⟩ : MethodName)) (z := (⟨"com/example/dipper/dipper/core/LineEnds", "lineFeeds", "()J"⟩ : MethodName)) hown (mvT hZ (hw _ (List.mem_of_getElem? (i := 24) rfl))) (mvT hZ (hw _ (List.mem_of_getElem? (i := 25) rfl))) (notFace_of_selects (args := #[]) (mvT hZ (hw _ (List.mem_of_getElem? (i := 27) rfl)))) (mvT hZ (hw _ (List.mem_of_getElem? (i := 27) rfl))) (mvT hZ (hw _ (List.mem_of_getElem? (i := 26) rfl))) (by decide) (backOf (W := 0) (rm_6 l Z a0 hw [] a219 lf2 T229.heap n0 Z228 FL228) hZ (hw _ (List.mem_of_getElem? (i := 28) rfl)) (hw _ (List.mem_of_getElem? (i := 8) rfl)) (by decide) (by decide)) q233a q233c (g := (mkF m 125 #[.val (.int q0), .val (.int q1), .val (.int q2), .val (.int q3), .val (.int q4), .val (.int q5), .val (.int c0), .val (.int c1), .val (.int c2), .val (.int c3), .val (.int c4), .val (.int (0 : Int32)), .val (.int st.toInt32), .val (.ref a212), .val (.ref a216), .val (.ref a219), .val (.int w1.toInt32), .val (.long lf1), .second, .val (.int w2.toInt32), .unset, .unset, .unset, .unset, .unset, .unset, .unset, .unset, .unset, .unset, .unset, .unset, .unset, .unset, .unset, .unset, .unset, .unset] [(.ref a219)])) rfl (by rw [hml]; rfl) (Steps.refl _) (argsL := []) (rest := []) (lenOf pd_6 rfl) rfl (by show 2 * 0 + _ ≤ _; exact Nat.le_of_eq rfl) (hb hby at_125) (fun _ _ => ⟨rfl, rfl, (by decide : 3 + 0 ≤ _), (by decide : 7 + 0 ≤ _)⟩)
  dsimp only [Pt.U, Pt.locs, Pt.cells, Pt.slots] at X232 l232 y232 z232 st232 hQ232
  subst l232 y232 z232
  obtain ⟨rfl, M232, eg231⟩ := hQ232
  have N232 := Fr.app N229 M232
  refine Goes.aft st232 ?_
  show Goes p e below s 24 128 (Q_0 Z q0 q1 q2 q3 q4 q5 h0 n0) T232 (mkF m 128 #[.val (.int q0), .val (.int q1), .val (.int q2), .val (.int q3), .val (.int q4), .val (.int q5), .val (.int c0), .val (.int c1), .val (.int c2), .val (.int c3), .val (.int c4), .val (.int (0 : Int32)), .val (.int st.toInt32), .val (.ref a212), .val (.ref a216), .val (.ref a219), .val (.int w1.toInt32), .val (.long lf1), .second, .val (.int w2.toInt32), .unset, .unset, .unset, .unset, .unset, .unset, .unset, .unset, .unset, .unset, .unset, .unset, .unset, .unset, .unset, .unset, .unset, .unset] [(.long lf2)])
  refine own_lstore (pc' := 130) X232 hx (hb hby at_128) (Ls' := #[.val (.int q0), .val (.int q1), .val (.int q2), .val (.int q3), .val (.int q4), .val (.int q5), .val (.int c0), .val (.int c1), .val (.int c2), .val (.int c3), .val (.int c4), .val (.int (0 : Int32)), .val (.int st.toInt32), .val (.ref a212), .val (.ref a216), .val (.ref a219), .val (.int w1.toInt32), .val (.long lf1), .second, .val (.int w2.toInt32), .val (.long lf2), .second, .unset, .unset, .unset, .unset, .unset, .unset, .unset, .unset, .unset, .unset, .unset, .unset, .unset, .unset, .unset, .unset]) rfl rfl ?_
  refine own_iload (pc' := 132) X232 hx (hb hby at_130) rfl rfl ?_
  refine own_ifY X232 hx (hb hby at_132) (by decide) (by decide) (pc' := 139) (by decide) ?_
  refine own_iconst (pc' := 140) X232 hx (hb hby at_139) (v := (0 : Int32)) rfl rfl ?_
  refine own_istore (pc' := 142) X232 hx (hb hby at_140) (Ls' := #[.val (.int q0), .val (.int q1), .val (.int q2), .val (.int q3), .val (.int q4), .val (.int q5), .val (.int c0), .val (.int c1), .val (.int c2), .val (.int c3), .val (.int c4), .val (.int (0 : Int32)), .val (.int st.toInt32), .val (.ref a212), .val (.ref a216), .val (.ref a219), .val (.int w1.toInt32), .val (.long lf1), .second, .val (.int w2.toInt32), .val (.long lf2), .second, .val (.int (0 : Int32)), .unset, .unset, .unset, .unset, .unset, .unset, .unset, .unset, .unset, .unset, .unset, .unset, .unset, .unset, .unset]) rfl rfl ?_
  refine own_iload (pc' := 144) X232 hx (hb hby at_142) rfl rfl ?_
  refine own_iconst (pc' := 145) X232 hx (hb hby at_144) (v := (1 : Int32)) rfl rfl ?_
  refine own_icmpY X232 hx (hb hby at_145) (by decide) (by decide) (pc' := 162) (by decide) ?_
  refine own_iconst (pc' := 163) X232 hx (hb hby at_162) (v := (0 : Int32)) rfl rfl ?_
  refine own_istore (pc' := 165) X232 hx (hb hby at_163) (Ls' := #[.val (.int q0), .val (.int q1), .val (.int q2), .val (.int q3), .val (.int q4), .val (.int q5), .val (.int c0), .val (.int c1), .val (.int c2), .val (.int c3), .val (.int c4), .val (.int (0 : Int32)), .val (.int st.toInt32), .val (.ref a212), .val (.ref a216), .val (.ref a219), .val (.int w1.toInt32), .val (.long lf1), .second, .val (.int w2.toInt32), .val (.long lf2), .second, .val (.int (0 : Int32)), .val (.int (0 : Int32)), .unset, .unset, .unset, .unset, .unset, .unset, .unset, .unset, .unset, .unset, .unset, .unset, .unset, .unset]) rfl rfl ?_
  refine own_iload (pc' := 167) X232 hx (hb hby at_165) rfl rfl ?_
  refine own_iconst (pc' := 168) X232 hx (hb hby at_167) (v := (2 : Int32)) rfl rfl ?_
  refine own_icmpY X232 hx (hb hby at_168) (by decide) (by decide) (pc' := 185) (by decide) ?_
  refine own_iconst (pc' := 186) X232 hx (hb hby at_185) (v := (0 : Int32)) rfl rfl ?_
  refine own_istore (pc' := 188) X232 hx (hb hby at_186) (Ls' := #[.val (.int q0), .val (.int q1), .val (.int q2), .val (.int q3), .val (.int q4), .val (.int q5), .val (.int c0), .val (.int c1), .val (.int c2), .val (.int c3), .val (.int c4), .val (.int (0 : Int32)), .val (.int st.toInt32), .val (.ref a212), .val (.ref a216), .val (.ref a219), .val (.int w1.toInt32), .val (.long lf1), .second, .val (.int w2.toInt32), .val (.long lf2), .second, .val (.int (0 : Int32)), .val (.int (0 : Int32)), .val (.int (0 : Int32)), .unset, .unset, .unset, .unset, .unset, .unset, .unset, .unset, .unset, .unset, .unset, .unset, .unset]) rfl rfl ?_
  refine own_iconst (pc' := 189) X232 hx (hb hby at_188) (v := (3 : Int32)) rfl rfl ?_
  have hA := ht1.trans (own_A0 c0 c1 c2)
  simp only [Prod.mk.injEq] at hA
  obtain ⟨rfl, rfl, rfl, rfl⟩ := hA
  show Goes p e below s 24 128 (Q_0 Z q0 q1 q2 q3 q4 q5 h0 n0) T232 (mkF m 189 #[.val (.int q0), .val (.int q1), .val (.int q2), .val (.int q3), .val (.int q4), .val (.int q5), .val (.int c0), .val (.int c1), .val (.int c2), .val (.int c3), .val (.int c4), .val (.int (0 : Int32)), .val (.int st.toInt32), .val (.ref a212), .val (.ref a216), .val (.ref a219), .val (.int (0 : Int32)), .val (.long (0 : Int64)), .second, .val (.int w2.toInt32), .val (.long lf2), .second, .val (.int (0 : Int32)), .val (.int (0 : Int32)), .val (.int (0 : Int32)), .unset, .unset, .unset, .unset, .unset, .unset, .unset, .unset, .unset, .unset, .unset, .unset, .unset] [(.int (3 : Int32))])
  refine own_newarray (pc' := 191) X232 hx hZ (hw _ (List.mem_of_getElem? (i := 5) rfl)) eg231 (hb hby at_189) (k := 3) (cap := 3) rfl (by decide) rfl (by decide) (by decide) (by decide) (by decide) rfl ?_
  intro T234 h234 a234 g234 X234 e234 E234 P234
  show Goes p e below s 24 128 (Q_0 Z q0 q1 q2 q3 q4 q5 h0 n0) T234 (mkF m 191 #[.val (.int q0), .val (.int q1), .val (.int q2), .val (.int q3), .val (.int q4), .val (.int q5), .val (.int c0), .val (.int c1), .val (.int c2), .val (.int c3), .val (.int c4), .val (.int (0 : Int32)), .val (.int st.toInt32), .val (.ref a212), .val (.ref a216), .val (.ref a219), .val (.int (0 : Int32)), .val (.long (0 : Int64)), .second, .val (.int w2.toInt32), .val (.long lf2), .second, .val (.int (0 : Int32)), .val (.int (0 : Int32)), .val (.int (0 : Int32)), .unset, .unset, .unset, .unset, .unset, .unset, .unset, .unset, .unset, .unset, .unset, .unset, .unset] [(.ref a234)])
  have P234_a216 := P228.ext E234
  have P234_a212 := P228_a212.ext E234
  have ne_a216_a234 : a216 ≠ a234 := fun q => absurd (q ▸ P228.lt) (by rw [g234]; exact Nat.lt_irrefl _)
  have ne_a212_a234 : a212 ≠ a234 := fun q => absurd (q ▸ P228_a212.lt) (by rw [g234]; exact Nat.lt_irrefl _)
  have ge_a234 : n0 ≤ a234 := by rw [g234]; exact Z228
  have Z234 : n0 ≤ Array.size h234 := Nat.le_trans Z228 E234.1
  refine own_astore (pc' := 193) X234 hx (hb hby at_191) rfl (Ls' := #[.val (.int q0), .val (.int q1), .val (.int q2), .val (.int q3), .val (.int q4), .val (.int q5), .val (.int c0), .val (.int c1), .val (.int c2), .val (.int c3), .val (.int c4), .val (.int (0 : Int32)), .val (.int st.toInt32), .val (.ref a212), .val (.ref a216), .val (.ref a219), .val (.int (0 : Int32)), .val (.long (0 : Int64)), .second, .val (.int w2.toInt32), .val (.long lf2), .second, .val (.int (0 : Int32)), .val (.int (0 : Int32)), .val (.int (0 : Int32)), .val (.ref a234), .unset, .unset, .unset, .unset, .unset, .unset, .unset, .unset, .unset, .unset, .unset, .unset]) rfl rfl ?_
  refine own_iconst (pc' := 194) X234 hx (hb hby at_193) (v := (0 : Int32)) rfl rfl ?_
  refine own_istore (pc' := 196) X234 hx (hb hby at_194) (Ls' := #[.val (.int q0), .val (.int q1), .val (.int q2), .val (.int q3), .val (.int q4), .val (.int q5), .val (.int c0), .val (.int c1), .val (.int c2), .val (.int c3), .val (.int c4), .val (.int (0 : Int32)), .val (.int st.toInt32), .val (.ref a212), .val (.ref a216), .val (.ref a219), .val (.int (0 : Int32)), .val (.long (0 : Int64)), .second, .val (.int w2.toInt32), .val (.long lf2), .second, .val (.int (0 : Int32)), .val (.int (0 : Int32)), .val (.int (0 : Int32)), .val (.ref a234), .val (.int (0 : Int32)), .unset, .unset, .unset, .unset, .unset, .unset, .unset, .unset, .unset, .unset, .unset]) rfl rfl ?_
  refine own_iload (pc' := 198) X234 hx (hb hby at_196) rfl rfl ?_
  refine own_ifY X234 hx (hb hby at_198) (by decide) (by decide) (pc' := 214) (by decide) ?_
  refine own_iload (pc' := 216) X234 hx (hb hby at_214) rfl rfl ?_
  refine own_ifY X234 hx (hb hby at_216) (by decide) (by decide) (pc' := 232) (by decide) ?_
  refine own_iload (pc' := 234) X234 hx (hb hby at_232) rfl rfl ?_
  refine own_ifY X234 hx (hb hby at_234) (by decide) (by decide) (pc' := 250) (by decide) ?_
  refine own_iload (pc' := 252) X234 hx (hb hby at_250) rfl rfl ?_
  refine own_iload (pc' := 254) X234 hx (hb hby at_252) rfl rfl ?_
  obtain ⟨_, _, ⟨T236, L236, k236, n236⟩, -, X236, ⟨Lc236, hQ236, l236, y236, z236⟩, st236⟩ := Jvm.LawKit.callS X234 hx (y := (⟨"com/example/dipper/dipper/core/LineEndsNormalizePinLaw", "lf", "(ZC)J"⟩ : MethodName)) hown (mvT hZ (hw _ (List.mem_of_getElem? (i := 35) rfl))) (mvT hZ (hw _ (List.mem_of_getElem? (i := 36) rfl))) (mvT hZ (hw _ (List.mem_of_getElem? (i := 2) rfl))) (mvT hZ (hw _ (List.mem_of_getElem? (i := 37) rfl))) (by decide) (backOf (W := 0) (rm_4 l Z a0 hw [] (0 : Int32) c0 h234 n0 Z234 hC0) hZ (hw _ (List.mem_of_getElem? (i := 37) rfl)) (hw _ (List.mem_of_getElem? (i := 2) rfl)) (by decide) (by decide)) (g := (mkF m 254 #[.val (.int q0), .val (.int q1), .val (.int q2), .val (.int q3), .val (.int q4), .val (.int q5), .val (.int c0), .val (.int c1), .val (.int c2), .val (.int c3), .val (.int c4), .val (.int (0 : Int32)), .val (.int st.toInt32), .val (.ref a212), .val (.ref a216), .val (.ref a219), .val (.int (0 : Int32)), .val (.long (0 : Int64)), .second, .val (.int w2.toInt32), .val (.long lf2), .second, .val (.int (0 : Int32)), .val (.int (0 : Int32)), .val (.int (0 : Int32)), .val (.ref a234), .val (.int (0 : Int32)), .unset, .unset, .unset, .unset, .unset, .unset, .unset, .unset, .unset, .unset, .unset] [(.int c0), (.int (0 : Int32))])) rfl (by rw [hml]; rfl) (argsL := [(.int (0 : Int32)), (.int c0)]) (rest := []) (lenOf pd_4 rfl) rfl (by show 2 * 0 + _ ≤ _; exact Nat.le_of_eq rfl) (hb hby at_254) (fun _ _ => ⟨rfl, e234, (by decide : 4 + 0 ≤ _), (by decide : 10 + 0 ≤ _)⟩)
  dsimp only [Pt.U, Pt.locs, Pt.cells, Pt.slots] at X236 l236 y236 z236 st236 hQ236
  subst l236 y236 z236
  obtain ⟨rfl, M236, el235⟩ := hQ236
  have N236 := Fr.app N232 M236
  refine Goes.pre st236 ?_
  show Goes p e below s 24 128 (Q_0 Z q0 q1 q2 q3 q4 q5 h0 n0) T236 (mkF m 257 #[.val (.int q0), .val (.int q1), .val (.int q2), .val (.int q3), .val (.int q4), .val (.int q5), .val (.int c0), .val (.int c1), .val (.int c2), .val (.int c3), .val (.int c4), .val (.int (0 : Int32)), .val (.int st.toInt32), .val (.ref a212), .val (.ref a216), .val (.ref a219), .val (.int (0 : Int32)), .val (.long (0 : Int64)), .second, .val (.int w2.toInt32), .val (.long lf2), .second, .val (.int (0 : Int32)), .val (.int (0 : Int32)), .val (.int (0 : Int32)), .val (.ref a234), .val (.int (0 : Int32)), .unset, .unset, .unset, .unset, .unset, .unset, .unset, .unset, .unset, .unset, .unset] [(.long (own_lf (0 : Int32) c0))])
  refine own_iload (pc' := 259) X236 hx (hb hby at_257) rfl rfl ?_
  refine own_iload (pc' := 261) X236 hx (hb hby at_259) rfl rfl ?_
  obtain ⟨_, _, ⟨T238, L238, k238, n238⟩, -, X238, ⟨Lc238, hQ238, l238, y238, z238⟩, st238⟩ := Jvm.LawKit.callS X236 hx (y := (⟨"com/example/dipper/dipper/core/LineEndsNormalizePinLaw", "lf", "(ZC)J"⟩ : MethodName)) hown (mvT hZ (hw _ (List.mem_of_getElem? (i := 35) rfl))) (mvT hZ (hw _ (List.mem_of_getElem? (i := 36) rfl))) (mvT hZ (hw _ (List.mem_of_getElem? (i := 2) rfl))) (mvT hZ (hw _ (List.mem_of_getElem? (i := 37) rfl))) (by decide) (backOf (W := 2) (rm_4 l Z a0 hw [] (0 : Int32) c1 h234 n0 Z234 hC1) hZ (hw _ (List.mem_of_getElem? (i := 37) rfl)) (hw _ (List.mem_of_getElem? (i := 2) rfl)) (by decide) (by decide)) (g := (mkF m 261 #[.val (.int q0), .val (.int q1), .val (.int q2), .val (.int q3), .val (.int q4), .val (.int q5), .val (.int c0), .val (.int c1), .val (.int c2), .val (.int c3), .val (.int c4), .val (.int (0 : Int32)), .val (.int st.toInt32), .val (.ref a212), .val (.ref a216), .val (.ref a219), .val (.int (0 : Int32)), .val (.long (0 : Int64)), .second, .val (.int w2.toInt32), .val (.long lf2), .second, .val (.int (0 : Int32)), .val (.int (0 : Int32)), .val (.int (0 : Int32)), .val (.ref a234), .val (.int (0 : Int32)), .unset, .unset, .unset, .unset, .unset, .unset, .unset, .unset, .unset, .unset, .unset] [(.int c1), (.int (0 : Int32)), (.long (own_lf (0 : Int32) c0))])) rfl (by rw [hml]; rfl) (argsL := [(.int (0 : Int32)), (.int c1)]) (rest := [(.long (own_lf (0 : Int32) c0))]) (lenOf pd_4 rfl) rfl (by show 2 * 0 + _ ≤ _; exact Nat.le_of_eq rfl) (hb hby at_261) (fun _ _ => ⟨rfl, el235, (by decide : 4 + 0 ≤ _), (by decide : 10 + 0 ≤ _)⟩)
  dsimp only [Pt.U, Pt.locs, Pt.cells, Pt.slots] at X238 l238 y238 z238 st238 hQ238
  subst l238 y238 z238
  obtain ⟨rfl, M238, el237⟩ := hQ238
  have N238 := Fr.app N236 M238
  refine Goes.pre st238 ?_
  show Goes p e below s 24 128 (Q_0 Z q0 q1 q2 q3 q4 q5 h0 n0) T238 (mkF m 264 #[.val (.int q0), .val (.int q1), .val (.int q2), .val (.int q3), .val (.int q4), .val (.int q5), .val (.int c0), .val (.int c1), .val (.int c2), .val (.int c3), .val (.int c4), .val (.int (0 : Int32)), .val (.int st.toInt32), .val (.ref a212), .val (.ref a216), .val (.ref a219), .val (.int (0 : Int32)), .val (.long (0 : Int64)), .second, .val (.int w2.toInt32), .val (.long lf2), .second, .val (.int (0 : Int32)), .val (.int (0 : Int32)), .val (.int (0 : Int32)), .val (.ref a234), .val (.int (0 : Int32)), .unset, .unset, .unset, .unset, .unset, .unset, .unset, .unset, .unset, .unset, .unset] [(.long (own_lf (0 : Int32) c1)), (.long (own_lf (0 : Int32) c0))])
  refine own_ladd (pc' := 265) X238 hx (hb hby at_264) rfl ?_
  refine own_iload (pc' := 267) X238 hx (hb hby at_265) rfl rfl ?_
  refine own_iload (pc' := 269) X238 hx (hb hby at_267) rfl rfl ?_
  obtain ⟨_, _, ⟨T240, L240, k240, n240⟩, -, X240, ⟨Lc240, hQ240, l240, y240, z240⟩, st240⟩ := Jvm.LawKit.callS X238 hx (y := (⟨"com/example/dipper/dipper/core/LineEndsNormalizePinLaw", "lf", "(ZC)J"⟩ : MethodName)) hown (mvT hZ (hw _ (List.mem_of_getElem? (i := 35) rfl))) (mvT hZ (hw _ (List.mem_of_getElem? (i := 36) rfl))) (mvT hZ (hw _ (List.mem_of_getElem? (i := 2) rfl))) (mvT hZ (hw _ (List.mem_of_getElem? (i := 37) rfl))) (by decide) (backOf (W := 2) (rm_4 l Z a0 hw [] (0 : Int32) c2 h234 n0 Z234 hC2) hZ (hw _ (List.mem_of_getElem? (i := 37) rfl)) (hw _ (List.mem_of_getElem? (i := 2) rfl)) (by decide) (by decide)) (g := (mkF m 269 #[.val (.int q0), .val (.int q1), .val (.int q2), .val (.int q3), .val (.int q4), .val (.int q5), .val (.int c0), .val (.int c1), .val (.int c2), .val (.int c3), .val (.int c4), .val (.int (0 : Int32)), .val (.int st.toInt32), .val (.ref a212), .val (.ref a216), .val (.ref a219), .val (.int (0 : Int32)), .val (.long (0 : Int64)), .second, .val (.int w2.toInt32), .val (.long lf2), .second, .val (.int (0 : Int32)), .val (.int (0 : Int32)), .val (.int (0 : Int32)), .val (.ref a234), .val (.int (0 : Int32)), .unset, .unset, .unset, .unset, .unset, .unset, .unset, .unset, .unset, .unset, .unset] [(.int c2), (.int (0 : Int32)), (.long ((own_lf (0 : Int32) c0) + (own_lf (0 : Int32) c1)))])) rfl (by rw [hml]; rfl) (argsL := [(.int (0 : Int32)), (.int c2)]) (rest := [(.long ((own_lf (0 : Int32) c0) + (own_lf (0 : Int32) c1)))]) (lenOf pd_4 rfl) rfl (by show 2 * 0 + _ ≤ _; exact Nat.le_of_eq rfl) (hb hby at_269) (fun _ _ => ⟨rfl, el237, (by decide : 4 + 0 ≤ _), (by decide : 10 + 0 ≤ _)⟩)
  dsimp only [Pt.U, Pt.locs, Pt.cells, Pt.slots] at X240 l240 y240 z240 st240 hQ240
  subst l240 y240 z240
  obtain ⟨rfl, M240, el239⟩ := hQ240
  have N240 := Fr.app N238 M240
  refine Goes.pre st240 ?_
  show Goes p e below s 24 128 (Q_0 Z q0 q1 q2 q3 q4 q5 h0 n0) T240 (mkF m 272 #[.val (.int q0), .val (.int q1), .val (.int q2), .val (.int q3), .val (.int q4), .val (.int q5), .val (.int c0), .val (.int c1), .val (.int c2), .val (.int c3), .val (.int c4), .val (.int (0 : Int32)), .val (.int st.toInt32), .val (.ref a212), .val (.ref a216), .val (.ref a219), .val (.int (0 : Int32)), .val (.long (0 : Int64)), .second, .val (.int w2.toInt32), .val (.long lf2), .second, .val (.int (0 : Int32)), .val (.int (0 : Int32)), .val (.int (0 : Int32)), .val (.ref a234), .val (.int (0 : Int32)), .unset, .unset, .unset, .unset, .unset, .unset, .unset, .unset, .unset, .unset, .unset] [(.long (own_lf (0 : Int32) c2)), (.long ((own_lf (0 : Int32) c0) + (own_lf (0 : Int32) c1)))])
  refine own_ladd (pc' := 273) X240 hx (hb hby at_272) rfl ?_
  refine own_lstore (pc' := 275) X240 hx (hb hby at_273) (Ls' := #[.val (.int q0), .val (.int q1), .val (.int q2), .val (.int q3), .val (.int q4), .val (.int q5), .val (.int c0), .val (.int c1), .val (.int c2), .val (.int c3), .val (.int c4), .val (.int (0 : Int32)), .val (.int st.toInt32), .val (.ref a212), .val (.ref a216), .val (.ref a219), .val (.int (0 : Int32)), .val (.long (0 : Int64)), .second, .val (.int w2.toInt32), .val (.long lf2), .second, .val (.int (0 : Int32)), .val (.int (0 : Int32)), .val (.int (0 : Int32)), .val (.ref a234), .val (.int (0 : Int32)), .val (.long (((own_lf (0 : Int32) c0) + (own_lf (0 : Int32) c1)) + (own_lf (0 : Int32) c2))), .second, .unset, .unset, .unset, .unset, .unset, .unset, .unset, .unset, .unset]) rfl rfl ?_
  refine own_iload (pc' := 277) X240 hx (hb hby at_275) rfl rfl ?_
  refine own_iload (pc' := 279) X240 hx (hb hby at_277) rfl rfl ?_
  refine own_icmpN (pc' := 282) X240 hx (hb hby at_279) (by decide) rfl ?_
  refine own_iload (pc' := 284) X240 hx (hb hby at_282) rfl rfl ?_
  refine own_iconst (pc' := 285) X240 hx (hb hby at_284) (v := (1 : Int32)) rfl rfl ?_
  refine own_icmpY X240 hx (hb hby at_285) (by decide) (by decide) (pc' := 299) (by decide) ?_
  refine own_iload (pc' := 301) X240 hx (hb hby at_299) rfl rfl ?_
  refine own_iconst (pc' := 302) X240 hx (hb hby at_301) (v := (2 : Int32)) rfl rfl ?_
  refine own_icmpY X240 hx (hb hby at_302) (by decide) (by decide) (pc' := 316) (by decide) ?_
  refine own_iload (pc' := 318) X240 hx (hb hby at_316) rfl rfl ?_
  refine own_iconst (pc' := 319) X240 hx (hb hby at_318) (v := (3 : Int32)) rfl rfl ?_
  refine own_icmpY X240 hx (hb hby at_319) (by decide) (by decide) (pc' := 333) (by decide) ?_
  refine own_iload (pc' := 335) X240 hx (hb hby at_333) rfl rfl ?_
  refine own_ifN (pc' := 338) X240 hx (hb hby at_335) (by decide) rfl ?_
  refine own_aload (pc' := 340) X240 hx (hb hby at_338) rfl rfl rfl ?_
  refine own_iconst (pc' := 341) X240 hx (hb hby at_340) (v := (0 : Int32)) rfl rfl ?_
  refine own_caload (pc' := 342) X240 hx hZ el239 P234_a212 (hb hby at_341) (v := c0) (by decide) (k := 0) (by decide) rfl rfl ?_
  refine own_iload (pc' := 344) X240 hx (hb hby at_342) rfl rfl ?_
  refine own_icmpN (pc' := 347) X240 hx (hb hby at_344) (teq rfl).2 rfl ?_
  refine own_iload (pc' := 349) X240 hx (hb hby at_347) rfl rfl ?_
  refine own_iconst (pc' := 350) X240 hx (hb hby at_349) (v := (1 : Int32)) rfl rfl ?_
  refine own_icmpN (pc' := 353) X240 hx (hb hby at_350) (by decide) rfl ?_
  refine own_aload (pc' := 355) X240 hx (hb hby at_353) rfl rfl rfl ?_
  refine own_iconst (pc' := 356) X240 hx (hb hby at_355) (v := (1 : Int32)) rfl rfl ?_
  refine own_caload (pc' := 357) X240 hx hZ el239 P234_a212 (hb hby at_356) (v := c1) (by decide) (k := 1) (by decide) rfl rfl ?_
  refine own_iload (pc' := 359) X240 hx (hb hby at_357) rfl rfl ?_
  refine own_icmpN (pc' := 362) X240 hx (hb hby at_359) (teq rfl).2 rfl ?_
  refine own_iload (pc' := 364) X240 hx (hb hby at_362) rfl rfl ?_
  refine own_iconst (pc' := 365) X240 hx (hb hby at_364) (v := (2 : Int32)) rfl rfl ?_
  refine own_icmpN (pc' := 368) X240 hx (hb hby at_365) (by decide) rfl ?_
  refine own_aload (pc' := 370) X240 hx (hb hby at_368) rfl rfl rfl ?_
  refine own_iconst (pc' := 371) X240 hx (hb hby at_370) (v := (2 : Int32)) rfl rfl ?_
  refine own_caload (pc' := 372) X240 hx hZ el239 P234_a212 (hb hby at_371) (v := c2) (by decide) (k := 2) (by decide) rfl rfl ?_
  refine own_iload (pc' := 374) X240 hx (hb hby at_372) rfl rfl ?_
  refine own_icmpN (pc' := 377) X240 hx (hb hby at_374) (teq rfl).2 rfl ?_
  refine own_lload (pc' := 379) X240 hx (hb hby at_377) rfl rfl ?_
  refine own_lload (pc' := 381) X240 hx (hb hby at_379) rfl rfl ?_
  refine own_lcmp (pc' := 382) X240 hx (hb hby at_381) rfl ?_
  refine own_ifN (pc' := 385) X240 hx (hb hby at_382) (own_Teq (by simp [own_lf] : (0 : Int64) = (((own_lf (0 : Int32) c0) + (own_lf (0 : Int32) c1)) + (own_lf (0 : Int32) c2)))).2 rfl ?_
  refine own_iconst (pc' := 386) X240 hx (hb hby at_385) (v := (1 : Int32)) rfl rfl ?_
  refine own_goto X240 hx (hb hby at_386) (by decide) (pc' := 390) (by decide) ?_
  refine own_istore (pc' := 392) X240 hx (hb hby at_390) (Ls' := #[.val (.int q0), .val (.int q1), .val (.int q2), .val (.int q3), .val (.int q4), .val (.int q5), .val (.int c0), .val (.int c1), .val (.int c2), .val (.int c3), .val (.int c4), .val (.int (0 : Int32)), .val (.int st.toInt32), .val (.ref a212), .val (.ref a216), .val (.ref a219), .val (.int (0 : Int32)), .val (.long (0 : Int64)), .second, .val (.int w2.toInt32), .val (.long lf2), .second, .val (.int (0 : Int32)), .val (.int (0 : Int32)), .val (.int (0 : Int32)), .val (.ref a234), .val (.int (0 : Int32)), .val (.long (((own_lf (0 : Int32) c0) + (own_lf (0 : Int32) c1)) + (own_lf (0 : Int32) c2))), .second, .val (.int (1 : Int32)), .unset, .unset, .unset, .unset, .unset, .unset, .unset, .unset]) rfl rfl ?_
  refine own_iload (pc' := 394) X240 hx (hb hby at_392) rfl rfl ?_
  refine own_iconst (pc' := 395) X240 hx (hb hby at_394) (v := (1 : Int32)) rfl rfl ?_
  refine own_icmpY X240 hx (hb hby at_395) (by decide) (by decide) (pc' := 413) (by decide) ?_
  refine own_iload (pc' := 415) X240 hx (hb hby at_413) rfl rfl ?_
  refine own_iconst (pc' := 416) X240 hx (hb hby at_415) (v := (2 : Int32)) rfl rfl ?_
  refine own_icmpY X240 hx (hb hby at_416) (by decide) (by decide) (pc' := 434) (by decide) ?_
  refine own_iload (pc' := 436) X240 hx (hb hby at_434) rfl rfl ?_
  refine own_iconst (pc' := 437) X240 hx (hb hby at_436) (v := (3 : Int32)) rfl rfl ?_
  refine own_icmpY X240 hx (hb hby at_437) (by decide) (by decide) (pc' := 455) (by decide) ?_
  refine own_iconst (pc' := 456) X240 hx (hb hby at_455) (v := (0 : Int32)) rfl rfl ?_
  refine own_istore (pc' := 458) X240 hx (hb hby at_456) (Ls' := #[.val (.int q0), .val (.int q1), .val (.int q2), .val (.int q3), .val (.int q4), .val (.int q5), .val (.int c0), .val (.int c1), .val (.int c2), .val (.int c3), .val (.int c4), .val (.int (0 : Int32)), .val (.int st.toInt32), .val (.ref a212), .val (.ref a216), .val (.ref a219), .val (.int (0 : Int32)), .val (.long (0 : Int64)), .second, .val (.int w2.toInt32), .val (.long lf2), .second, .val (.int (0 : Int32)), .val (.int (0 : Int32)), .val (.int (0 : Int32)), .val (.ref a234), .val (.int (0 : Int32)), .val (.long (((own_lf (0 : Int32) c0) + (own_lf (0 : Int32) c1)) + (own_lf (0 : Int32) c2))), .second, .val (.int (1 : Int32)), .val (.int (0 : Int32)), .unset, .unset, .unset, .unset, .unset, .unset, .unset]) rfl rfl ?_
  have hpr : (0 : Int32) = (0 : Int32) := by simp [own_af]
  have hlf : (((own_lf (0 : Int32) c0) + (own_lf (0 : Int32) c1)) + (own_lf (0 : Int32) c2)) = (0 : Int64) := by simp [own_lf]
  rw [hlf]
  rw [hpr] at ht2
  obtain rfl | rfl | rfl : st = 0 ∨ st = 1 ∨ st = 2 := by omega
  · exact own_tB00 hw q0 q1 q2 q3 q4 q5 h0 n0 Z0 hx hby hlk hml hown hZ hret T240 _ _ a216 c3 c4 _ _ _ _ _ _ _ _ _ _ _ _ _ _ _ _ _ _ _ _ _ _ _ _ _ hC3 hC4 X240 el239 N240 Z234 P234_a216 ht2
  · exact own_tB10 hw q0 q1 q2 q3 q4 q5 h0 n0 Z0 hx hby hlk hml hown hZ hret T240 _ _ a216 c3 c4 _ _ _ _ _ _ _ _ _ _ _ _ _ _ _ _ _ _ _ _ _ _ _ _ _ hC3 hC4 X240 el239 N240 Z234 P234_a216 ht2
  · exact own_tB20 hw q0 q1 q2 q3 q4 q5 h0 n0 Z0 hx hby hlk hml hown hZ hret T240 _ _ a216 c3 c4 _ _ _ _ _ _ _ _ _ _ _ _ _ _ _ _ _ _ _ _ _ _ _ _ _ hC3 hC4 X240 el239 N240 Z234 P234_a216 ht2
set_option maxRecDepth 65536 in
set_option maxHeartbeats 40000000 in
theorem own_tA1 {p : Program} {l : Launch} {e : Env} {s : State} {m : MethodId} {below : List Frame} {meth : Method} {c : Code} {Z : State} {a0 : Array Value} (hw : ∀ d ∈ tables_1, d.before a0 Z = true) (q0 q1 q2 q3 q4 q5 : Int32) (h0 : Heap) (n0 : Nat) (Z0 : n0 ≤ Array.size h0) (hx : p.tables.exec = Jvm.exec) (hby : c.code = code) (hlk : meth.locks = false) (hml : c.maxLocals = 38) (hown : s.vm.findClass "com/example/dipper/dipper/core/LineEndsNormalizePinLaw" = some m.cls) (hZ : Z.Warmed39 s.vm) (hret : meth.sig.returnType = some .boolean) : ∀ (TJ : State) (LJ : List Loc) (c0 c1 c2 c3 c4 : Int32) (st : Nat), st ≤ 2 → own_C c0 → own_C c1 → own_C c2 → own_C c3 → own_C c4 → Stand p l e room_1 s m #[(.int q0), (.int q1), (.int q2), (.int q3), (.int q4), (.int q5)] below meth c TJ LJ 0 0 → TJ.heap = h0 → Fr n0 LJ → Goes p e below s 24 128 (Q_0 Z q0 q1 q2 q3 q4 q5 h0 n0) TJ (mkF m 48 #[.val (.int q0), .val (.int q1), .val (.int q2), .val (.int q3), .val (.int q4), .val (.int q5), .val (.int c0), .val (.int c1), .val (.int c2), .val (.int c3), .val (.int c4), .val (.int (1 : Int32)), .val (.int st.toInt32), .unset, .unset, .unset, .unset, .unset, .unset, .unset, .unset, .unset, .unset, .unset, .unset, .unset, .unset, .unset, .unset, .unset, .unset, .unset, .unset, .unset, .unset, .unset, .unset, .unset] []) := by
  intro TJ LJ c0 c1 c2 c3 c4 st hst hC0 hC1 hC2 hC3 hC4 XJ eJ NJ
  refine own_iconst (pc' := 49) XJ hx (hb hby at_48) (v := (3 : Int32)) rfl rfl ?_
  refine own_newarray (pc' := 51) XJ hx hZ (hw _ (List.mem_of_getElem? (i := 5) rfl)) eJ (hb hby at_49) (k := 3) (cap := 3) rfl (by decide) rfl (by decide) (by decide) (by decide) (by decide) rfl ?_
  intro T241 h241 a241 g241 X241 e241 E241 P241
  show Goes p e below s 24 128 (Q_0 Z q0 q1 q2 q3 q4 q5 h0 n0) T241 (mkF m 51 #[.val (.int q0), .val (.int q1), .val (.int q2), .val (.int q3), .val (.int q4), .val (.int q5), .val (.int c0), .val (.int c1), .val (.int c2), .val (.int c3), .val (.int c4), .val (.int (1 : Int32)), .val (.int st.toInt32), .unset, .unset, .unset, .unset, .unset, .unset, .unset, .unset, .unset, .unset, .unset, .unset, .unset, .unset, .unset, .unset, .unset, .unset, .unset, .unset, .unset, .unset, .unset, .unset, .unset] [(.ref a241)])
  have ge_a241 : n0 ≤ a241 := by rw [g241]; exact Z0
  have Z241 : n0 ≤ Array.size h241 := Nat.le_trans Z0 E241.1
  refine own_dup (pc' := 52) X241 hx (hb hby at_51) rfl rfl ?_
  refine own_iconst (pc' := 53) X241 hx (hb hby at_52) (v := (0 : Int32)) rfl rfl ?_
  refine own_iload (pc' := 55) X241 hx (hb hby at_53) rfl rfl ?_
  refine own_castore (pc' := 56) X241 hx hZ e241 P241 (hb hby at_55) (own_nar hC0) (by decide) (k := 0) (by decide) (by simp) rfl ?_
  intro T242 h242 X242 e242 W242 P242
  have N242 := Fr.snoc X242 NJ ge_a241
  have Z242 : n0 ≤ Array.size h242 := by rw [W242.size]; exact Z241
  show Goes p e below s 24 128 (Q_0 Z q0 q1 q2 q3 q4 q5 h0 n0) T242 (mkF m 56 #[.val (.int q0), .val (.int q1), .val (.int q2), .val (.int q3), .val (.int q4), .val (.int q5), .val (.int c0), .val (.int c1), .val (.int c2), .val (.int c3), .val (.int c4), .val (.int (1 : Int32)), .val (.int st.toInt32), .unset, .unset, .unset, .unset, .unset, .unset, .unset, .unset, .unset, .unset, .unset, .unset, .unset, .unset, .unset, .unset, .unset, .unset, .unset, .unset, .unset, .unset, .unset, .unset, .unset] [(.ref a241)])
  have P242x : own_PA Z h242 a241 .char [c0, (0 : Int32), (0 : Int32)] := P242
  refine own_dup (pc' := 57) X242 hx (hb hby at_56) rfl rfl ?_
  refine own_iconst (pc' := 58) X242 hx (hb hby at_57) (v := (1 : Int32)) rfl rfl ?_
  refine own_iload (pc' := 60) X242 hx (hb hby at_58) rfl rfl ?_
  refine own_castore (pc' := 61) X242 hx hZ e242 P242x (hb hby at_60) (own_nar hC1) (by decide) (k := 1) (by decide) (by simp) rfl ?_
  intro T243 h243 X243 e243 W243 P243
  have N243 := Fr.snoc X243 N242 ge_a241
  have Z243 : n0 ≤ Array.size h243 := by rw [W243.size]; exact Z242
  show Goes p e below s 24 128 (Q_0 Z q0 q1 q2 q3 q4 q5 h0 n0) T243 (mkF m 61 #[.val (.int q0), .val (.int q1), .val (.int q2), .val (.int q3), .val (.int q4), .val (.int q5), .val (.int c0), .val (.int c1), .val (.int c2), .val (.int c3), .val (.int c4), .val (.int (1 : Int32)), .val (.int st.toInt32), .unset, .unset, .unset, .unset, .unset, .unset, .unset, .unset, .unset, .unset, .unset, .unset, .unset, .unset, .unset, .unset, .unset, .unset, .unset, .unset, .unset, .unset, .unset, .unset, .unset] [(.ref a241)])
  have P243x : own_PA Z h243 a241 .char [c0, c1, (0 : Int32)] := P243
  refine own_dup (pc' := 62) X243 hx (hb hby at_61) rfl rfl ?_
  refine own_iconst (pc' := 63) X243 hx (hb hby at_62) (v := (2 : Int32)) rfl rfl ?_
  refine own_iload (pc' := 65) X243 hx (hb hby at_63) rfl rfl ?_
  refine own_castore (pc' := 66) X243 hx hZ e243 P243x (hb hby at_65) (own_nar hC2) (by decide) (k := 2) (by decide) (by simp) rfl ?_
  intro T244 h244 X244 e244 W244 P244
  have N244 := Fr.snoc X244 N243 ge_a241
  have Z244 : n0 ≤ Array.size h244 := by rw [W244.size]; exact Z243
  show Goes p e below s 24 128 (Q_0 Z q0 q1 q2 q3 q4 q5 h0 n0) T244 (mkF m 66 #[.val (.int q0), .val (.int q1), .val (.int q2), .val (.int q3), .val (.int q4), .val (.int q5), .val (.int c0), .val (.int c1), .val (.int c2), .val (.int c3), .val (.int c4), .val (.int (1 : Int32)), .val (.int st.toInt32), .unset, .unset, .unset, .unset, .unset, .unset, .unset, .unset, .unset, .unset, .unset, .unset, .unset, .unset, .unset, .unset, .unset, .unset, .unset, .unset, .unset, .unset, .unset, .unset, .unset] [(.ref a241)])
  have P244x : own_PA Z h244 a241 .char [c0, c1, c2] := P244
  refine own_astore (pc' := 68) X244 hx (hb hby at_66) rfl (Ls' := #[.val (.int q0), .val (.int q1), .val (.int q2), .val (.int q3), .val (.int q4), .val (.int q5), .val (.int c0), .val (.int c1), .val (.int c2), .val (.int c3), .val (.int c4), .val (.int (1 : Int32)), .val (.int st.toInt32), .val (.ref a241), .unset, .unset, .unset, .unset, .unset, .unset, .unset, .unset, .unset, .unset, .unset, .unset, .unset, .unset, .unset, .unset, .unset, .unset, .unset, .unset, .unset, .unset, .unset, .unset]) rfl rfl ?_
  refine own_iconst (pc' := 69) X244 hx (hb hby at_68) (v := (2 : Int32)) rfl rfl ?_
  refine own_newarray (pc' := 71) X244 hx hZ (hw _ (List.mem_of_getElem? (i := 5) rfl)) e244 (hb hby at_69) (k := 2) (cap := 2) rfl (by decide) rfl (by decide) (by decide) (by decide) (by decide) rfl ?_
  intro T245 h245 a245 g245 X245 e245 E245 P245
  show Goes p e below s 24 128 (Q_0 Z q0 q1 q2 q3 q4 q5 h0 n0) T245 (mkF m 71 #[.val (.int q0), .val (.int q1), .val (.int q2), .val (.int q3), .val (.int q4), .val (.int q5), .val (.int c0), .val (.int c1), .val (.int c2), .val (.int c3), .val (.int c4), .val (.int (1 : Int32)), .val (.int st.toInt32), .val (.ref a241), .unset, .unset, .unset, .unset, .unset, .unset, .unset, .unset, .unset, .unset, .unset, .unset, .unset, .unset, .unset, .unset, .unset, .unset, .unset, .unset, .unset, .unset, .unset, .unset] [(.ref a245)])
  have P245_a241 := P244x.ext E245
  have ne_a241_a245 : a241 ≠ a245 := fun q => absurd (q ▸ P244x.lt) (by rw [g245]; exact Nat.lt_irrefl _)
  have ge_a245 : n0 ≤ a245 := by rw [g245]; exact Z244
  have Z245 : n0 ≤ Array.size h245 := Nat.le_trans Z244 E245.1
  refine own_dup (pc' := 72) X245 hx (hb hby at_71) rfl rfl ?_
  refine own_iconst (pc' := 73) X245 hx (hb hby at_72) (v := (0 : Int32)) rfl rfl ?_
  refine own_iload (pc' := 75) X245 hx (hb hby at_73) rfl rfl ?_
  refine own_castore (pc' := 76) X245 hx hZ e245 P245 (hb hby at_75) (own_nar hC3) (by decide) (k := 0) (by decide) (by simp) rfl ?_
  intro T246 h246 X246 e246 W246 P246
  have N246 := Fr.snoc X246 N244 ge_a245
  have P246_a241 := P245_a241.other W246 ne_a241_a245
  have Z246 : n0 ≤ Array.size h246 := by rw [W246.size]; exact Z245
  show Goes p e below s 24 128 (Q_0 Z q0 q1 q2 q3 q4 q5 h0 n0) T246 (mkF m 76 #[.val (.int q0), .val (.int q1), .val (.int q2), .val (.int q3), .val (.int q4), .val (.int q5), .val (.int c0), .val (.int c1), .val (.int c2), .val (.int c3), .val (.int c4), .val (.int (1 : Int32)), .val (.int st.toInt32), .val (.ref a241), .unset, .unset, .unset, .unset, .unset, .unset, .unset, .unset, .unset, .unset, .unset, .unset, .unset, .unset, .unset, .unset, .unset, .unset, .unset, .unset, .unset, .unset, .unset, .unset] [(.ref a245)])
  have P246x : own_PA Z h246 a245 .char [c3, (0 : Int32)] := P246
  refine own_dup (pc' := 77) X246 hx (hb hby at_76) rfl rfl ?_
  refine own_iconst (pc' := 78) X246 hx (hb hby at_77) (v := (1 : Int32)) rfl rfl ?_
  refine own_iload (pc' := 80) X246 hx (hb hby at_78) rfl rfl ?_
  refine own_castore (pc' := 81) X246 hx hZ e246 P246x (hb hby at_80) (own_nar hC4) (by decide) (k := 1) (by decide) (by simp) rfl ?_
  intro T247 h247 X247 e247 W247 P247
  have N247 := Fr.snoc X247 N246 ge_a245
  have P247_a241 := P246_a241.other W247 ne_a241_a245
  have Z247 : n0 ≤ Array.size h247 := by rw [W247.size]; exact Z246
  show Goes p e below s 24 128 (Q_0 Z q0 q1 q2 q3 q4 q5 h0 n0) T247 (mkF m 81 #[.val (.int q0), .val (.int q1), .val (.int q2), .val (.int q3), .val (.int q4), .val (.int q5), .val (.int c0), .val (.int c1), .val (.int c2), .val (.int c3), .val (.int c4), .val (.int (1 : Int32)), .val (.int st.toInt32), .val (.ref a241), .unset, .unset, .unset, .unset, .unset, .unset, .unset, .unset, .unset, .unset, .unset, .unset, .unset, .unset, .unset, .unset, .unset, .unset, .unset, .unset, .unset, .unset, .unset, .unset] [(.ref a245)])
  have P247x : own_PA Z h247 a245 .char [c3, c4] := P247
  refine own_astore (pc' := 83) X247 hx (hb hby at_81) rfl (Ls' := #[.val (.int q0), .val (.int q1), .val (.int q2), .val (.int q3), .val (.int q4), .val (.int q5), .val (.int c0), .val (.int c1), .val (.int c2), .val (.int c3), .val (.int c4), .val (.int (1 : Int32)), .val (.int st.toInt32), .val (.ref a241), .val (.ref a245), .unset, .unset, .unset, .unset, .unset, .unset, .unset, .unset, .unset, .unset, .unset, .unset, .unset, .unset, .unset, .unset, .unset, .unset, .unset, .unset, .unset, .unset, .unset]) rfl rfl ?_
  obtain ⟨T248, h248, X248, e248, E248, A248, D248, -, st248⟩ := newO X247 hx hZ hown (hw _ (List.mem_of_getElem? (i := 6) rfl)) (hw _ (List.mem_of_getElem? (i := 7) rfl)) (hw _ (List.mem_of_getElem? (i := 8) rfl)) e247 (g := (mkF m 83 #[.val (.int q0), .val (.int q1), .val (.int q2), .val (.int q3), .val (.int q4), .val (.int q5), .val (.int c0), .val (.int c1), .val (.int c2), .val (.int c3), .val (.int c4), .val (.int (1 : Int32)), .val (.int st.toInt32), .val (.ref a241), .val (.ref a245), .unset, .unset, .unset, .unset, .unset, .unset, .unset, .unset, .unset, .unset, .unset, .unset, .unset, .unset, .unset, .unset, .unset, .unset, .unset, .unset, .unset, .unset, .unset] [])) rfl (hb hby at_83) (by decide) (by decide)
  obtain ⟨a248, g248⟩ : ∃ z, z = Array.size (h247) := ⟨_, rfl⟩
  rw [← g248] at A248 D248 st248
  refine Goes.pre st248 ?_
  show Goes p e below s 24 128 (Q_0 Z q0 q1 q2 q3 q4 q5 h0 n0) T248 (mkF m 86 #[.val (.int q0), .val (.int q1), .val (.int q2), .val (.int q3), .val (.int q4), .val (.int q5), .val (.int c0), .val (.int c1), .val (.int c2), .val (.int c3), .val (.int c4), .val (.int (1 : Int32)), .val (.int st.toInt32), .val (.ref a241), .val (.ref a245), .unset, .unset, .unset, .unset, .unset, .unset, .unset, .unset, .unset, .unset, .unset, .unset, .unset, .unset, .unset, .unset, .unset, .unset, .unset, .unset, .unset, .unset, .unset] [(.ref a248)])
  have F248_afterReturn : Fld Z h248 a248 "com/example/dipper/dipper/core/LineEnds" "afterReturn" "Z" (.int (0 : Int32)) := D248 (Or.inl (hw _ (List.mem_of_getElem? (i := 21) rfl))) (ty := .boolean) (by decide)
  have F248_lineFeeds : Fld Z h248 a248 "com/example/dipper/dipper/core/LineEnds" "lineFeeds" "J" (.long (0 : Int64)) := D248 (Or.inl (hw _ (List.mem_of_getElem? (i := 23) rfl))) (ty := .long) (by decide)
  have P248_a245 := P247x.ext E248
  have le_a245 : a245 ≠ a248 := fun q => absurd (q ▸ P247x.lt) (by rw [g248]; exact Nat.lt_irrefl _)
  have P248_a241 := P247_a241.ext E248
  have le_a241 : a241 ≠ a248 := fun q => absurd (q ▸ P247_a241.lt) (by rw [g248]; exact Nat.lt_irrefl _)
  have ge_a248 : n0 ≤ a248 := by rw [g248]; exact Z247
  have Z248 : n0 ≤ Array.size h248 := Nat.le_trans Z247 E248.1
  refine own_dup (pc' := 87) X248 hx (hb hby at_86) rfl rfl ?_
  obtain ⟨_, _, ⟨T250, L250, k250, n250⟩, -, X250, ⟨Lc250, hQ250, l250, y250, z250⟩, st250⟩ := X248.specialBack hx (y := (⟨"com/example/dipper/dipper/core/LineEnds", "<init>", "()V"⟩ : MethodName)) rfl hown (mvT hZ (hw _ (List.mem_of_getElem? (i := 9) rfl))) (mvT hZ (hw _ (List.mem_of_getElem? (i := 10) rfl))) (mvT hZ (hw _ (List.mem_of_getElem? (i := 11) rfl))) (by decide) (backOf (W := 1) (rm_5 l Z a0 hw [] a248 h248 n0 Z248) hZ (hw _ (List.mem_of_getElem? (i := 11) rfl)) (hw _ (List.mem_of_getElem? (i := 8) rfl)) (by decide) (by decide)) (g := (mkF m 87 #[.val (.int q0), .val (.int q1), .val (.int q2), .val (.int q3), .val (.int q4), .val (.int q5), .val (.int c0), .val (.int c1), .val (.int c2), .val (.int c3), .val (.int c4), .val (.int (1 : Int32)), .val (.int st.toInt32), .val (.ref a241), .val (.ref a245), .unset, .unset, .unset, .unset, .unset, .unset, .unset, .unset, .unset, .unset, .unset, .unset, .unset, .unset, .unset, .unset, .unset, .unset, .unset, .unset, .unset, .unset, .unset] [(.ref a248), (.ref a248)])) rfl (by rw [hml]; rfl) (Steps.refl _) (a := a248) (argsL := []) (rest := [(.ref a248)]) (lenOf pd_5 rfl) rfl (by show 2 * 0 + _ ≤ _; exact Nat.le_of_eq rfl) (hb hby at_87) (fun _ _ => ⟨rfl, e248, (by decide : 3 + 0 ≤ _), (by decide : 7 + 0 ≤ _)⟩)
  dsimp only [Pt.U, Pt.locs, Pt.cells, Pt.slots] at X250 l250 y250 z250 st250 hQ250
  subst l250 y250 z250
  obtain ⟨rfl, M250, ei249⟩ := hQ250
  have N250 := Fr.app N247 M250
  refine Goes.aft st250 ?_
  show Goes p e below s 24 128 (Q_0 Z q0 q1 q2 q3 q4 q5 h0 n0) T250 (mkF m 90 #[.val (.int q0), .val (.int q1), .val (.int q2), .val (.int q3), .val (.int q4), .val (.int q5), .val (.int c0), .val (.int c1), .val (.int c2), .val (.int c3), .val (.int c4), .val (.int (1 : Int32)), .val (.int st.toInt32), .val (.ref a241), .val (.ref a245), .unset, .unset, .unset, .unset, .unset, .unset, .unset, .unset, .unset, .unset, .unset, .unset, .unset, .unset, .unset, .unset, .unset, .unset, .unset, .unset, .unset, .unset, .unset] [(.ref a248)])
  refine own_astore (pc' := 92) X250 hx (hb hby at_90) rfl (Ls' := #[.val (.int q0), .val (.int q1), .val (.int q2), .val (.int q3), .val (.int q4), .val (.int q5), .val (.int c0), .val (.int c1), .val (.int c2), .val (.int c3), .val (.int c4), .val (.int (1 : Int32)), .val (.int st.toInt32), .val (.ref a241), .val (.ref a245), .val (.ref a248), .unset, .unset, .unset, .unset, .unset, .unset, .unset, .unset, .unset, .unset, .unset, .unset, .unset, .unset, .unset, .unset, .unset, .unset, .unset, .unset, .unset, .unset]) rfl rfl ?_
  refine own_aload (pc' := 94) X250 hx (hb hby at_92) rfl rfl rfl ?_
  refine own_aload (pc' := 96) X250 hx (hb hby at_94) rfl rfl rfl ?_
  refine own_iconst (pc' := 97) X250 hx (hb hby at_96) (v := (0 : Int32)) rfl rfl ?_
  refine own_iload (pc' := 99) X250 hx (hb hby at_97) rfl rfl ?_
  obtain ⟨cq253, kq253, q253a, q253b, q253c⟩ := isOf hZ ei249 A248
  obtain ⟨_, _, ⟨T252, L252, k252, n252⟩, -, X252, ⟨Lc252, hQ252, l252, y252, z252⟩, st252⟩ := X250.virtualBack hx (y := (⟨"com/example/dipper/dipper/core/LineEnds", "normalize", "([CII)I"⟩ : MethodName)) (z := (⟨"com/example/dipper/dipper/core/LineEnds", "normalize", "([CII)I"⟩ : MethodName)) hown (mvT hZ (hw _ (List.mem_of_getElem? (i := 15) rfl))) (mvT hZ (hw _ (List.mem_of_getElem? (i := 16) rfl))) (notFace_of_selects (args := #[]) (mvT hZ (hw _ (List.mem_of_getElem? (i := 18) rfl)))) (mvT hZ (hw _ (List.mem_of_getElem? (i := 18) rfl))) (mvT hZ (hw _ (List.mem_of_getElem? (i := 17) rfl))) (by decide) (backOf (W := 0) (rm_7 l Z a0 hw [] a248 a241 [c0, c1, c2] (0 : Int32) (0 : Int64) 0 1 h248 n0 Z248 F248_afterReturn F248_lineFeeds A248 P248_a241 (by omega) (by simp) (by simp) (by simp only [List.mem_cons, List.not_mem_nil, or_false]; rintro v (rfl | rfl | rfl) <;> assumption) (Ne.symm le_a241) ge_a248 ge_a241) hZ (hw _ (List.mem_of_getElem? (i := 19) rfl)) (hw _ (List.mem_of_getElem? (i := 8) rfl)) (by decide) (by decide)) q253a q253c (g := (mkF m 99 #[.val (.int q0), .val (.int q1), .val (.int q2), .val (.int q3), .val (.int q4), .val (.int q5), .val (.int c0), .val (.int c1), .val (.int c2), .val (.int c3), .val (.int c4), .val (.int (1 : Int32)), .val (.int st.toInt32), .val (.ref a241), .val (.ref a245), .val (.ref a248), .unset, .unset, .unset, .unset, .unset, .unset, .unset, .unset, .unset, .unset, .unset, .unset, .unset, .unset, .unset, .unset, .unset, .unset, .unset, .unset, .unset, .unset] [(.int (1 : Int32)), (.int (0 : Int32)), (.ref a241), (.ref a248)])) rfl (by rw [hml]; rfl) (Steps.refl _) (argsL := [(.ref a241), (.int (0 : Int32)), (.int (1 : Int32))]) (rest := []) (lenOf pd_7 rfl) rfl (by show 2 * 0 + _ ≤ _; exact Nat.le_of_eq rfl) (hb hby at_99) (fun _ _ => ⟨rfl, ei249, (by decide : 3 + 0 ≤ _), (by decide : 7 + 0 ≤ _)⟩)
  dsimp only [Pt.U, Pt.locs, Pt.cells, Pt.slots] at X252 l252 y252 z252 st252 hQ252
  subst l252 y252 z252
  obtain ⟨rfl, M252, K251, EX251, FA251, FL251, P251⟩ := hQ252
  have N252 := Fr.app N250 M252
  refine Goes.aft st252 ?_
  show Goes p e below s 24 128 (Q_0 Z q0 q1 q2 q3 q4 q5 h0 n0) T252 (mkF m 102 #[.val (.int q0), .val (.int q1), .val (.int q2), .val (.int q3), .val (.int q4), .val (.int q5), .val (.int c0), .val (.int c1), .val (.int c2), .val (.int c3), .val (.int c4), .val (.int (1 : Int32)), .val (.int st.toInt32), .val (.ref a241), .val (.ref a245), .val (.ref a248), .unset, .unset, .unset, .unset, .unset, .unset, .unset, .unset, .unset, .unset, .unset, .unset, .unset, .unset, .unset, .unset, .unset, .unset, .unset, .unset, .unset, .unset] [(.int (own_nl (1 - 0) 0 0 [c0, c1, c2] (0 : Int32) (0 : Int64)).1.toInt32)])
  have Z251 : n0 ≤ Array.size T252.heap := Nat.le_trans Z248 K251.1
  have P251_a245 := P248_a245.keep K251 (ninS le_a245 (ninS (Ne.symm ne_a241_a245) nin0))
  obtain ⟨⟨w1, vs1, af1, lf1⟩, ht1⟩ : ∃ t, t = (own_nl (1 - 0) 0 0 [c0, c1, c2] (0 : Int32) (0 : Int64)) := ⟨_, rfl⟩
  rw [← ht1] at FA251 FL251 P251
  rw [← ht1]
  dsimp only at FA251 FL251 P251
  show Goes p e below s 24 128 (Q_0 Z q0 q1 q2 q3 q4 q5 h0 n0) T252 (mkF m 102 #[.val (.int q0), .val (.int q1), .val (.int q2), .val (.int q3), .val (.int q4), .val (.int q5), .val (.int c0), .val (.int c1), .val (.int c2), .val (.int c3), .val (.int c4), .val (.int (1 : Int32)), .val (.int st.toInt32), .val (.ref a241), .val (.ref a245), .val (.ref a248), .unset, .unset, .unset, .unset, .unset, .unset, .unset, .unset, .unset, .unset, .unset, .unset, .unset, .unset, .unset, .unset, .unset, .unset, .unset, .unset, .unset, .unset] [(.int w1.toInt32)])
  refine own_istore (pc' := 104) X252 hx (hb hby at_102) (Ls' := #[.val (.int q0), .val (.int q1), .val (.int q2), .val (.int q3), .val (.int q4), .val (.int q5), .val (.int c0), .val (.int c1), .val (.int c2), .val (.int c3), .val (.int c4), .val (.int (1 : Int32)), .val (.int st.toInt32), .val (.ref a241), .val (.ref a245), .val (.ref a248), .val (.int w1.toInt32), .unset, .unset, .unset, .unset, .unset, .unset, .unset, .unset, .unset, .unset, .unset, .unset, .unset, .unset, .unset, .unset, .unset, .unset, .unset, .unset, .unset]) rfl rfl ?_
  refine own_aload (pc' := 106) X252 hx (hb hby at_104) rfl rfl rfl ?_
  obtain ⟨cq256, kq256, q256a, q256b, q256c⟩ := isOf hZ rfl EX251
  obtain ⟨_, _, ⟨T255, L255, k255, n255⟩, -, X255, ⟨Lc255, hQ255, l255, y255, z255⟩, st255⟩ := X252.virtualBack hx (y := (⟨"com/example/dipper/dipper/core/LineEnds", "lineFeeds", "()J"⟩ : MethodName)) (z := (⟨"com/example/dipper/dipper/core/LineEnds", "lineFeeds", "()J"⟩ : MethodName)) hown (mvT hZ (hw _ (List.mem_of_getElem? (i := 24) rfl))) (mvT hZ (hw _ (List.mem_of_getElem? (i := 25) rfl))) (notFace_of_selects (args := #[]) (mvT hZ (hw _ (List.mem_of_getElem? (i := 27) rfl)))) (mvT hZ (hw _ (List.mem_of_getElem? (i := 27) rfl))) (mvT hZ (hw _ (List.mem_of_getElem? (i := 26) rfl))) (by decide) (backOf (W := 0) (rm_6 l Z a0 hw [] a248 lf1 T252.heap n0 Z251 FL251) hZ (hw _ (List.mem_of_getElem? (i := 28) rfl)) (hw _ (List.mem_of_getElem? (i := 8) rfl)) (by decide) (by decide)) q256a q256c (g := (mkF m 106 #[.val (.int q0), .val (.int q1), .val (.int q2), .val (.int q3), .val (.int q4), .val (.int q5), .val (.int c0), .val (.int c1), .val (.int c2), .val (.int c3), .val (.int c4), .val (.int (1 : Int32)), .val (.int st.toInt32), .val (.ref a241), .val (.ref a245), .val (.ref a248), .val (.int w1.toInt32), .unset, .unset, .unset, .unset, .unset, .unset, .unset, .unset, .unset, .unset, .unset, .unset, .unset, .unset, .unset, .unset, .unset, .unset, .unset, .unset, .unset] [(.ref a248)])) rfl (by rw [hml]; rfl) (Steps.refl _) (argsL := []) (rest := []) (lenOf pd_6 rfl) rfl (by show 2 * 0 + _ ≤ _; exact Nat.le_of_eq rfl) (hb hby at_106) (fun _ _ => ⟨rfl, rfl, (by decide : 3 + 0 ≤ _), (by decide : 7 + 0 ≤ _)⟩)
  dsimp only [Pt.U, Pt.locs, Pt.cells, Pt.slots] at X255 l255 y255 z255 st255 hQ255
  subst l255 y255 z255
  obtain ⟨rfl, M255, eg254⟩ := hQ255
  have N255 := Fr.app N252 M255
  refine Goes.aft st255 ?_
  show Goes p e below s 24 128 (Q_0 Z q0 q1 q2 q3 q4 q5 h0 n0) T255 (mkF m 109 #[.val (.int q0), .val (.int q1), .val (.int q2), .val (.int q3), .val (.int q4), .val (.int q5), .val (.int c0), .val (.int c1), .val (.int c2), .val (.int c3), .val (.int c4), .val (.int (1 : Int32)), .val (.int st.toInt32), .val (.ref a241), .val (.ref a245), .val (.ref a248), .val (.int w1.toInt32), .unset, .unset, .unset, .unset, .unset, .unset, .unset, .unset, .unset, .unset, .unset, .unset, .unset, .unset, .unset, .unset, .unset, .unset, .unset, .unset, .unset] [(.long lf1)])
  refine own_lstore (pc' := 111) X255 hx (hb hby at_109) (Ls' := #[.val (.int q0), .val (.int q1), .val (.int q2), .val (.int q3), .val (.int q4), .val (.int q5), .val (.int c0), .val (.int c1), .val (.int c2), .val (.int c3), .val (.int c4), .val (.int (1 : Int32)), .val (.int st.toInt32), .val (.ref a241), .val (.ref a245), .val (.ref a248), .val (.int w1.toInt32), .val (.long lf1), .second, .unset, .unset, .unset, .unset, .unset, .unset, .unset, .unset, .unset, .unset, .unset, .unset, .unset, .unset, .unset, .unset, .unset, .unset, .unset]) rfl rfl ?_
  refine own_aload (pc' := 113) X255 hx (hb hby at_111) rfl rfl rfl ?_
  refine own_aload (pc' := 115) X255 hx (hb hby at_113) rfl rfl rfl ?_
  refine own_iload (pc' := 117) X255 hx (hb hby at_115) rfl rfl ?_
  refine own_iconst (pc' := 118) X255 hx (hb hby at_117) (v := (2 : Int32)) rfl rfl ?_
  obtain ⟨cq259, kq259, q259a, q259b, q259c⟩ := isOf hZ eg254 EX251
  obtain ⟨_, _, ⟨T258, L258, k258, n258⟩, -, X258, ⟨Lc258, hQ258, l258, y258, z258⟩, st258⟩ := X255.virtualBack hx (y := (⟨"com/example/dipper/dipper/core/LineEnds", "normalize", "([CII)I"⟩ : MethodName)) (z := (⟨"com/example/dipper/dipper/core/LineEnds", "normalize", "([CII)I"⟩ : MethodName)) hown (mvT hZ (hw _ (List.mem_of_getElem? (i := 15) rfl))) (mvT hZ (hw _ (List.mem_of_getElem? (i := 16) rfl))) (notFace_of_selects (args := #[]) (mvT hZ (hw _ (List.mem_of_getElem? (i := 18) rfl)))) (mvT hZ (hw _ (List.mem_of_getElem? (i := 18) rfl))) (mvT hZ (hw _ (List.mem_of_getElem? (i := 17) rfl))) (by decide) (backOf (W := 0) (rm_7 l Z a0 hw [] a248 a245 [c3, c4] af1 lf1 st 2 T252.heap n0 Z251 FA251 FL251 EX251 P251_a245 hst (by simp) (by simp) (by simp only [List.mem_cons, List.not_mem_nil, or_false]; rintro v (rfl | rfl) <;> assumption) (Ne.symm le_a245) ge_a248 ge_a245) hZ (hw _ (List.mem_of_getElem? (i := 19) rfl)) (hw _ (List.mem_of_getElem? (i := 8) rfl)) (by decide) (by decide)) q259a q259c (g := (mkF m 118 #[.val (.int q0), .val (.int q1), .val (.int q2), .val (.int q3), .val (.int q4), .val (.int q5), .val (.int c0), .val (.int c1), .val (.int c2), .val (.int c3), .val (.int c4), .val (.int (1 : Int32)), .val (.int st.toInt32), .val (.ref a241), .val (.ref a245), .val (.ref a248), .val (.int w1.toInt32), .val (.long lf1), .second, .unset, .unset, .unset, .unset, .unset, .unset, .unset, .unset, .unset, .unset, .unset, .unset, .unset, .unset, .unset, .unset, .unset, .unset, .unset] [(.int (2 : Int32)), (.int st.toInt32), (.ref a245), (.ref a248)])) rfl (by rw [hml]; rfl) (Steps.refl _) (argsL := [(.ref a245), (.int st.toInt32), (.int (2 : Int32))]) (rest := []) (lenOf pd_7 rfl) rfl (by show 2 * 0 + _ ≤ _; exact Nat.le_of_eq rfl) (hb hby at_118) (fun _ _ => ⟨rfl, eg254, (by decide : 3 + 0 ≤ _), (by decide : 7 + 0 ≤ _)⟩)
  dsimp only [Pt.U, Pt.locs, Pt.cells, Pt.slots] at X258 l258 y258 z258 st258 hQ258
  subst l258 y258 z258
  obtain ⟨rfl, M258, K257, EX257, FA257, FL257, P257⟩ := hQ258
  have N258 := Fr.app N255 M258
  refine Goes.aft st258 ?_
  show Goes p e below s 24 128 (Q_0 Z q0 q1 q2 q3 q4 q5 h0 n0) T258 (mkF m 121 #[.val (.int q0), .val (.int q1), .val (.int q2), .val (.int q3), .val (.int q4), .val (.int q5), .val (.int c0), .val (.int c1), .val (.int c2), .val (.int c3), .val (.int c4), .val (.int (1 : Int32)), .val (.int st.toInt32), .val (.ref a241), .val (.ref a245), .val (.ref a248), .val (.int w1.toInt32), .val (.long lf1), .second, .unset, .unset, .unset, .unset, .unset, .unset, .unset, .unset, .unset, .unset, .unset, .unset, .unset, .unset, .unset, .unset, .unset, .unset, .unset] [(.int (own_nl (2 - st) st st [c3, c4] af1 lf1).1.toInt32)])
  have Z257 : n0 ≤ Array.size T258.heap := Nat.le_trans Z251 K257.1
  have P257_a241 := P251.keep K257 (ninS le_a241 (ninS ne_a241_a245 nin0))
  obtain ⟨⟨w2, vs2, af2, lf2⟩, ht2⟩ : ∃ t, t = (own_nl (2 - st) st st [c3, c4] af1 lf1) := ⟨_, rfl⟩
  rw [← ht2] at FA257 FL257 P257
  rw [← ht2]
  dsimp only at FA257 FL257 P257
  show Goes p e below s 24 128 (Q_0 Z q0 q1 q2 q3 q4 q5 h0 n0) T258 (mkF m 121 #[.val (.int q0), .val (.int q1), .val (.int q2), .val (.int q3), .val (.int q4), .val (.int q5), .val (.int c0), .val (.int c1), .val (.int c2), .val (.int c3), .val (.int c4), .val (.int (1 : Int32)), .val (.int st.toInt32), .val (.ref a241), .val (.ref a245), .val (.ref a248), .val (.int w1.toInt32), .val (.long lf1), .second, .unset, .unset, .unset, .unset, .unset, .unset, .unset, .unset, .unset, .unset, .unset, .unset, .unset, .unset, .unset, .unset, .unset, .unset, .unset] [(.int w2.toInt32)])
  refine own_istore (pc' := 123) X258 hx (hb hby at_121) (Ls' := #[.val (.int q0), .val (.int q1), .val (.int q2), .val (.int q3), .val (.int q4), .val (.int q5), .val (.int c0), .val (.int c1), .val (.int c2), .val (.int c3), .val (.int c4), .val (.int (1 : Int32)), .val (.int st.toInt32), .val (.ref a241), .val (.ref a245), .val (.ref a248), .val (.int w1.toInt32), .val (.long lf1), .second, .val (.int w2.toInt32), .unset, .unset, .unset, .unset, .unset, .unset, .unset, .unset, .unset, .unset, .unset, .unset, .unset, .unset, .unset, .unset, .unset, .unset]) rfl rfl ?_
  refine own_aload (pc' := 125) X258 hx (hb hby at_123) rfl rfl rfl ?_
  obtain ⟨cq262, kq262, q262a, q262b, q262c⟩ := isOf hZ rfl EX257
  obtain ⟨_, _, ⟨T261, L261, k261, n261⟩, -, X261, ⟨Lc261, hQ261, l261, y261, z261⟩, st261⟩ := X258.virtualBack hx (y := (⟨"com/example/dipper/dipper/core/LineEnds", "lineFeeds", "()J"⟩ : MethodName)) (z := (⟨"com/example/dipper/dipper/core/LineEnds", "lineFeeds", "()J"⟩ : MethodName)) hown (mvT hZ (hw _ (List.mem_of_getElem? (i := 24) rfl))) (mvT hZ (hw _ (List.mem_of_getElem? (i := 25) rfl))) (notFace_of_selects (args := #[]) (mvT hZ (hw _ (List.mem_of_getElem? (i := 27) rfl)))) (mvT hZ (hw _ (List.mem_of_getElem? (i := 27) rfl))) (mvT hZ (hw _ (List.mem_of_getElem? (i := 26) rfl))) (by decide) (backOf (W := 0) (rm_6 l Z a0 hw [] a248 lf2 T258.heap n0 Z257 FL257) hZ (hw _ (List.mem_of_getElem? (i := 28) rfl)) (hw _ (List.mem_of_getElem? (i := 8) rfl)) (by decide) (by decide)) q262a q262c (g := (mkF m 125 #[.val (.int q0), .val (.int q1), .val (.int q2), .val (.int q3), .val (.int q4), .val (.int q5), .val (.int c0), .val (.int c1), .val (.int c2), .val (.int c3), .val (.int c4), .val (.int (1 : Int32)), .val (.int st.toInt32), .val (.ref a241), .val (.ref a245), .val (.ref a248), .val (.int w1.toInt32), .val (.long lf1), .second, .val (.int w2.toInt32), .unset, .unset, .unset, .unset, .unset, .unset, .unset, .unset, .unset, .unset, .unset, .unset, .unset, .unset, .unset, .unset, .unset, .unset] [(.ref a248)])) rfl (by rw [hml]; rfl) (Steps.refl _) (argsL := []) (rest := []) (lenOf pd_6 rfl) rfl (by show 2 * 0 + _ ≤ _; exact Nat.le_of_eq rfl) (hb hby at_125) (fun _ _ => ⟨rfl, rfl, (by decide : 3 + 0 ≤ _), (by decide : 7 + 0 ≤ _)⟩)
  dsimp only [Pt.U, Pt.locs, Pt.cells, Pt.slots] at X261 l261 y261 z261 st261 hQ261
  subst l261 y261 z261
  obtain ⟨rfl, M261, eg260⟩ := hQ261
  have N261 := Fr.app N258 M261
  refine Goes.aft st261 ?_
  show Goes p e below s 24 128 (Q_0 Z q0 q1 q2 q3 q4 q5 h0 n0) T261 (mkF m 128 #[.val (.int q0), .val (.int q1), .val (.int q2), .val (.int q3), .val (.int q4), .val (.int q5), .val (.int c0), .val (.int c1), .val (.int c2), .val (.int c3), .val (.int c4), .val (.int (1 : Int32)), .val (.int st.toInt32), .val (.ref a241), .val (.ref a245), .val (.ref a248), .val (.int w1.toInt32), .val (.long lf1), .second, .val (.int w2.toInt32), .unset, .unset, .unset, .unset, .unset, .unset, .unset, .unset, .unset, .unset, .unset, .unset, .unset, .unset, .unset, .unset, .unset, .unset] [(.long lf2)])
  refine own_lstore (pc' := 130) X261 hx (hb hby at_128) (Ls' := #[.val (.int q0), .val (.int q1), .val (.int q2), .val (.int q3), .val (.int q4), .val (.int q5), .val (.int c0), .val (.int c1), .val (.int c2), .val (.int c3), .val (.int c4), .val (.int (1 : Int32)), .val (.int st.toInt32), .val (.ref a241), .val (.ref a245), .val (.ref a248), .val (.int w1.toInt32), .val (.long lf1), .second, .val (.int w2.toInt32), .val (.long lf2), .second, .unset, .unset, .unset, .unset, .unset, .unset, .unset, .unset, .unset, .unset, .unset, .unset, .unset, .unset, .unset, .unset]) rfl rfl ?_
  refine own_iload (pc' := 132) X261 hx (hb hby at_130) rfl rfl ?_
  refine own_ifN (pc' := 135) X261 hx (hb hby at_132) (by decide) rfl ?_
  refine own_iconst (pc' := 136) X261 hx (hb hby at_135) (v := (1 : Int32)) rfl rfl ?_
  refine own_goto X261 hx (hb hby at_136) (by decide) (pc' := 140) (by decide) ?_
  refine own_istore (pc' := 142) X261 hx (hb hby at_140) (Ls' := #[.val (.int q0), .val (.int q1), .val (.int q2), .val (.int q3), .val (.int q4), .val (.int q5), .val (.int c0), .val (.int c1), .val (.int c2), .val (.int c3), .val (.int c4), .val (.int (1 : Int32)), .val (.int st.toInt32), .val (.ref a241), .val (.ref a245), .val (.ref a248), .val (.int w1.toInt32), .val (.long lf1), .second, .val (.int w2.toInt32), .val (.long lf2), .second, .val (.int (1 : Int32)), .unset, .unset, .unset, .unset, .unset, .unset, .unset, .unset, .unset, .unset, .unset, .unset, .unset, .unset, .unset]) rfl rfl ?_
  refine own_iload (pc' := 144) X261 hx (hb hby at_142) rfl rfl ?_
  refine own_iconst (pc' := 145) X261 hx (hb hby at_144) (v := (1 : Int32)) rfl rfl ?_
  refine own_icmpY X261 hx (hb hby at_145) (by decide) (by decide) (pc' := 162) (by decide) ?_
  refine own_iconst (pc' := 163) X261 hx (hb hby at_162) (v := (0 : Int32)) rfl rfl ?_
  refine own_istore (pc' := 165) X261 hx (hb hby at_163) (Ls' := #[.val (.int q0), .val (.int q1), .val (.int q2), .val (.int q3), .val (.int q4), .val (.int q5), .val (.int c0), .val (.int c1), .val (.int c2), .val (.int c3), .val (.int c4), .val (.int (1 : Int32)), .val (.int st.toInt32), .val (.ref a241), .val (.ref a245), .val (.ref a248), .val (.int w1.toInt32), .val (.long lf1), .second, .val (.int w2.toInt32), .val (.long lf2), .second, .val (.int (1 : Int32)), .val (.int (0 : Int32)), .unset, .unset, .unset, .unset, .unset, .unset, .unset, .unset, .unset, .unset, .unset, .unset, .unset, .unset]) rfl rfl ?_
  refine own_iload (pc' := 167) X261 hx (hb hby at_165) rfl rfl ?_
  refine own_iconst (pc' := 168) X261 hx (hb hby at_167) (v := (2 : Int32)) rfl rfl ?_
  refine own_icmpY X261 hx (hb hby at_168) (by decide) (by decide) (pc' := 185) (by decide) ?_
  refine own_iconst (pc' := 186) X261 hx (hb hby at_185) (v := (0 : Int32)) rfl rfl ?_
  refine own_istore (pc' := 188) X261 hx (hb hby at_186) (Ls' := #[.val (.int q0), .val (.int q1), .val (.int q2), .val (.int q3), .val (.int q4), .val (.int q5), .val (.int c0), .val (.int c1), .val (.int c2), .val (.int c3), .val (.int c4), .val (.int (1 : Int32)), .val (.int st.toInt32), .val (.ref a241), .val (.ref a245), .val (.ref a248), .val (.int w1.toInt32), .val (.long lf1), .second, .val (.int w2.toInt32), .val (.long lf2), .second, .val (.int (1 : Int32)), .val (.int (0 : Int32)), .val (.int (0 : Int32)), .unset, .unset, .unset, .unset, .unset, .unset, .unset, .unset, .unset, .unset, .unset, .unset, .unset]) rfl rfl ?_
  refine own_iconst (pc' := 189) X261 hx (hb hby at_188) (v := (3 : Int32)) rfl rfl ?_
  have hA := ht1.trans (own_A1 c0 c1 c2)
  simp only [Prod.mk.injEq] at hA
  obtain ⟨rfl, rfl, rfl, rfl⟩ := hA
  show Goes p e below s 24 128 (Q_0 Z q0 q1 q2 q3 q4 q5 h0 n0) T261 (mkF m 189 #[.val (.int q0), .val (.int q1), .val (.int q2), .val (.int q3), .val (.int q4), .val (.int q5), .val (.int c0), .val (.int c1), .val (.int c2), .val (.int c3), .val (.int c4), .val (.int (1 : Int32)), .val (.int st.toInt32), .val (.ref a241), .val (.ref a245), .val (.ref a248), .val (.int (1 : Int32)), .val (.long ((0 : Int64) + own_l1 (own_out c0))), .second, .val (.int w2.toInt32), .val (.long lf2), .second, .val (.int (1 : Int32)), .val (.int (0 : Int32)), .val (.int (0 : Int32)), .unset, .unset, .unset, .unset, .unset, .unset, .unset, .unset, .unset, .unset, .unset, .unset, .unset] [(.int (3 : Int32))])
  refine own_newarray (pc' := 191) X261 hx hZ (hw _ (List.mem_of_getElem? (i := 5) rfl)) eg260 (hb hby at_189) (k := 3) (cap := 3) rfl (by decide) rfl (by decide) (by decide) (by decide) (by decide) rfl ?_
  intro T263 h263 a263 g263 X263 e263 E263 P263
  show Goes p e below s 24 128 (Q_0 Z q0 q1 q2 q3 q4 q5 h0 n0) T263 (mkF m 191 #[.val (.int q0), .val (.int q1), .val (.int q2), .val (.int q3), .val (.int q4), .val (.int q5), .val (.int c0), .val (.int c1), .val (.int c2), .val (.int c3), .val (.int c4), .val (.int (1 : Int32)), .val (.int st.toInt32), .val (.ref a241), .val (.ref a245), .val (.ref a248), .val (.int (1 : Int32)), .val (.long ((0 : Int64) + own_l1 (own_out c0))), .second, .val (.int w2.toInt32), .val (.long lf2), .second, .val (.int (1 : Int32)), .val (.int (0 : Int32)), .val (.int (0 : Int32)), .unset, .unset, .unset, .unset, .unset, .unset, .unset, .unset, .unset, .unset, .unset, .unset, .unset] [(.ref a263)])
  have P263_a245 := P257.ext E263
  have P263_a241 := P257_a241.ext E263
  have ne_a245_a263 : a245 ≠ a263 := fun q => absurd (q ▸ P257.lt) (by rw [g263]; exact Nat.lt_irrefl _)
  have ne_a241_a263 : a241 ≠ a263 := fun q => absurd (q ▸ P257_a241.lt) (by rw [g263]; exact Nat.lt_irrefl _)
  have ge_a263 : n0 ≤ a263 := by rw [g263]; exact Z257
  have Z263 : n0 ≤ Array.size h263 := Nat.le_trans Z257 E263.1
  refine own_astore (pc' := 193) X263 hx (hb hby at_191) rfl (Ls' := #[.val (.int q0), .val (.int q1), .val (.int q2), .val (.int q3), .val (.int q4), .val (.int q5), .val (.int c0), .val (.int c1), .val (.int c2), .val (.int c3), .val (.int c4), .val (.int (1 : Int32)), .val (.int st.toInt32), .val (.ref a241), .val (.ref a245), .val (.ref a248), .val (.int (1 : Int32)), .val (.long ((0 : Int64) + own_l1 (own_out c0))), .second, .val (.int w2.toInt32), .val (.long lf2), .second, .val (.int (1 : Int32)), .val (.int (0 : Int32)), .val (.int (0 : Int32)), .val (.ref a263), .unset, .unset, .unset, .unset, .unset, .unset, .unset, .unset, .unset, .unset, .unset, .unset]) rfl rfl ?_
  refine own_iconst (pc' := 194) X263 hx (hb hby at_193) (v := (0 : Int32)) rfl rfl ?_
  refine own_istore (pc' := 196) X263 hx (hb hby at_194) (Ls' := #[.val (.int q0), .val (.int q1), .val (.int q2), .val (.int q3), .val (.int q4), .val (.int q5), .val (.int c0), .val (.int c1), .val (.int c2), .val (.int c3), .val (.int c4), .val (.int (1 : Int32)), .val (.int st.toInt32), .val (.ref a241), .val (.ref a245), .val (.ref a248), .val (.int (1 : Int32)), .val (.long ((0 : Int64) + own_l1 (own_out c0))), .second, .val (.int w2.toInt32), .val (.long lf2), .second, .val (.int (1 : Int32)), .val (.int (0 : Int32)), .val (.int (0 : Int32)), .val (.ref a263), .val (.int (0 : Int32)), .unset, .unset, .unset, .unset, .unset, .unset, .unset, .unset, .unset, .unset, .unset]) rfl rfl ?_
  refine own_iload (pc' := 198) X263 hx (hb hby at_196) rfl rfl ?_
  refine own_ifN (pc' := 201) X263 hx (hb hby at_198) (by decide) rfl ?_
  refine own_aload (pc' := 203) X263 hx (hb hby at_201) rfl rfl rfl ?_
  refine own_iload (pc' := 205) X263 hx (hb hby at_203) rfl rfl ?_
  refine own_iload (pc' := 207) X263 hx (hb hby at_205) rfl rfl ?_
  obtain ⟨_, _, ⟨T265, L265, k265, n265⟩, -, X265, ⟨Lc265, hQ265, l265, y265, z265⟩, st265⟩ := Jvm.LawKit.callS X263 hx (y := (⟨"com/example/dipper/dipper/core/LineEndsNormalizePinLaw", "out", "(C)C"⟩ : MethodName)) hown (mvT hZ (hw _ (List.mem_of_getElem? (i := 32) rfl))) (mvT hZ (hw _ (List.mem_of_getElem? (i := 33) rfl))) (mvT hZ (hw _ (List.mem_of_getElem? (i := 2) rfl))) (mvT hZ (hw _ (List.mem_of_getElem? (i := 34) rfl))) (by decide) (backOf (W := 2) (rm_2 l Z a0 hw [] c0 h263 n0 Z263 hC0) hZ (hw _ (List.mem_of_getElem? (i := 34) rfl)) (hw _ (List.mem_of_getElem? (i := 2) rfl)) (by decide) (by decide)) (g := (mkF m 207 #[.val (.int q0), .val (.int q1), .val (.int q2), .val (.int q3), .val (.int q4), .val (.int q5), .val (.int c0), .val (.int c1), .val (.int c2), .val (.int c3), .val (.int c4), .val (.int (1 : Int32)), .val (.int st.toInt32), .val (.ref a241), .val (.ref a245), .val (.ref a248), .val (.int (1 : Int32)), .val (.long ((0 : Int64) + own_l1 (own_out c0))), .second, .val (.int w2.toInt32), .val (.long lf2), .second, .val (.int (1 : Int32)), .val (.int (0 : Int32)), .val (.int (0 : Int32)), .val (.ref a263), .val (.int (0 : Int32)), .unset, .unset, .unset, .unset, .unset, .unset, .unset, .unset, .unset, .unset, .unset] [(.int c0), (.int (0 : Int32)), (.ref a263)])) rfl (by rw [hml]; rfl) (argsL := [(.int c0)]) (rest := [(.int (0 : Int32)), (.ref a263)]) (lenOf pd_2 rfl) rfl (by show 2 * 0 + _ ≤ _; exact Nat.le_of_eq rfl) (hb hby at_207) (fun _ _ => ⟨rfl, e263, (by decide : 4 + 0 ≤ _), (by decide : 10 + 0 ≤ _)⟩)
  dsimp only [Pt.U, Pt.locs, Pt.cells, Pt.slots] at X265 l265 y265 z265 st265 hQ265
  subst l265 y265 z265
  obtain ⟨rfl, M265, eo264⟩ := hQ265
  have N265 := Fr.app N261 M265
  refine Goes.pre st265 ?_
  show Goes p e below s 24 128 (Q_0 Z q0 q1 q2 q3 q4 q5 h0 n0) T265 (mkF m 210 #[.val (.int q0), .val (.int q1), .val (.int q2), .val (.int q3), .val (.int q4), .val (.int q5), .val (.int c0), .val (.int c1), .val (.int c2), .val (.int c3), .val (.int c4), .val (.int (1 : Int32)), .val (.int st.toInt32), .val (.ref a241), .val (.ref a245), .val (.ref a248), .val (.int (1 : Int32)), .val (.long ((0 : Int64) + own_l1 (own_out c0))), .second, .val (.int w2.toInt32), .val (.long lf2), .second, .val (.int (1 : Int32)), .val (.int (0 : Int32)), .val (.int (0 : Int32)), .val (.ref a263), .val (.int (0 : Int32)), .unset, .unset, .unset, .unset, .unset, .unset, .unset, .unset, .unset, .unset, .unset] [(.int (own_out c0)), (.int (0 : Int32)), (.ref a263)])
  refine own_castore (pc' := 211) X265 hx hZ eo264 P263 (hb hby at_210) (own_nar (own_outC hC0)) (by decide) (k := 0) (by decide) (by simp) rfl ?_
  intro T266 h266 X266 e266 W266 P266
  have N266 := Fr.snoc X266 N265 ge_a263
  have P266_a245 := P263_a245.other W266 ne_a245_a263
  have P266_a241 := P263_a241.other W266 ne_a241_a263
  have Z266 : n0 ≤ Array.size h266 := by rw [W266.size]; exact Z263
  show Goes p e below s 24 128 (Q_0 Z q0 q1 q2 q3 q4 q5 h0 n0) T266 (mkF m 211 #[.val (.int q0), .val (.int q1), .val (.int q2), .val (.int q3), .val (.int q4), .val (.int q5), .val (.int c0), .val (.int c1), .val (.int c2), .val (.int c3), .val (.int c4), .val (.int (1 : Int32)), .val (.int st.toInt32), .val (.ref a241), .val (.ref a245), .val (.ref a248), .val (.int (1 : Int32)), .val (.long ((0 : Int64) + own_l1 (own_out c0))), .second, .val (.int w2.toInt32), .val (.long lf2), .second, .val (.int (1 : Int32)), .val (.int (0 : Int32)), .val (.int (0 : Int32)), .val (.ref a263), .val (.int (0 : Int32)), .unset, .unset, .unset, .unset, .unset, .unset, .unset, .unset, .unset, .unset, .unset] [])
  have P266x : own_PA Z h266 a263 .char [(own_out c0), (0 : Int32), (0 : Int32)] := P266
  refine own_iinc (pc' := 214) X266 hx (hb hby at_211) rfl (y := (1 : Int32)) (by decide) (Ls' := #[.val (.int q0), .val (.int q1), .val (.int q2), .val (.int q3), .val (.int q4), .val (.int q5), .val (.int c0), .val (.int c1), .val (.int c2), .val (.int c3), .val (.int c4), .val (.int (1 : Int32)), .val (.int st.toInt32), .val (.ref a241), .val (.ref a245), .val (.ref a248), .val (.int (1 : Int32)), .val (.long ((0 : Int64) + own_l1 (own_out c0))), .second, .val (.int w2.toInt32), .val (.long lf2), .second, .val (.int (1 : Int32)), .val (.int (0 : Int32)), .val (.int (0 : Int32)), .val (.ref a263), .val (.int (1 : Int32)), .unset, .unset, .unset, .unset, .unset, .unset, .unset, .unset, .unset, .unset, .unset]) rfl rfl ?_
  refine own_iload (pc' := 216) X266 hx (hb hby at_214) rfl rfl ?_
  refine own_ifY X266 hx (hb hby at_216) (by decide) (by decide) (pc' := 232) (by decide) ?_
  refine own_iload (pc' := 234) X266 hx (hb hby at_232) rfl rfl ?_
  refine own_ifY X266 hx (hb hby at_234) (by decide) (by decide) (pc' := 250) (by decide) ?_
  refine own_iload (pc' := 252) X266 hx (hb hby at_250) rfl rfl ?_
  refine own_iload (pc' := 254) X266 hx (hb hby at_252) rfl rfl ?_
  obtain ⟨_, _, ⟨T268, L268, k268, n268⟩, -, X268, ⟨Lc268, hQ268, l268, y268, z268⟩, st268⟩ := Jvm.LawKit.callS X266 hx (y := (⟨"com/example/dipper/dipper/core/LineEndsNormalizePinLaw", "lf", "(ZC)J"⟩ : MethodName)) hown (mvT hZ (hw _ (List.mem_of_getElem? (i := 35) rfl))) (mvT hZ (hw _ (List.mem_of_getElem? (i := 36) rfl))) (mvT hZ (hw _ (List.mem_of_getElem? (i := 2) rfl))) (mvT hZ (hw _ (List.mem_of_getElem? (i := 37) rfl))) (by decide) (backOf (W := 0) (rm_4 l Z a0 hw [] (1 : Int32) c0 h266 n0 Z266 hC0) hZ (hw _ (List.mem_of_getElem? (i := 37) rfl)) (hw _ (List.mem_of_getElem? (i := 2) rfl)) (by decide) (by decide)) (g := (mkF m 254 #[.val (.int q0), .val (.int q1), .val (.int q2), .val (.int q3), .val (.int q4), .val (.int q5), .val (.int c0), .val (.int c1), .val (.int c2), .val (.int c3), .val (.int c4), .val (.int (1 : Int32)), .val (.int st.toInt32), .val (.ref a241), .val (.ref a245), .val (.ref a248), .val (.int (1 : Int32)), .val (.long ((0 : Int64) + own_l1 (own_out c0))), .second, .val (.int w2.toInt32), .val (.long lf2), .second, .val (.int (1 : Int32)), .val (.int (0 : Int32)), .val (.int (0 : Int32)), .val (.ref a263), .val (.int (1 : Int32)), .unset, .unset, .unset, .unset, .unset, .unset, .unset, .unset, .unset, .unset, .unset] [(.int c0), (.int (1 : Int32))])) rfl (by rw [hml]; rfl) (argsL := [(.int (1 : Int32)), (.int c0)]) (rest := []) (lenOf pd_4 rfl) rfl (by show 2 * 0 + _ ≤ _; exact Nat.le_of_eq rfl) (hb hby at_254) (fun _ _ => ⟨rfl, e266, (by decide : 4 + 0 ≤ _), (by decide : 10 + 0 ≤ _)⟩)
  dsimp only [Pt.U, Pt.locs, Pt.cells, Pt.slots] at X268 l268 y268 z268 st268 hQ268
  subst l268 y268 z268
  obtain ⟨rfl, M268, el267⟩ := hQ268
  have N268 := Fr.app N266 M268
  refine Goes.pre st268 ?_
  show Goes p e below s 24 128 (Q_0 Z q0 q1 q2 q3 q4 q5 h0 n0) T268 (mkF m 257 #[.val (.int q0), .val (.int q1), .val (.int q2), .val (.int q3), .val (.int q4), .val (.int q5), .val (.int c0), .val (.int c1), .val (.int c2), .val (.int c3), .val (.int c4), .val (.int (1 : Int32)), .val (.int st.toInt32), .val (.ref a241), .val (.ref a245), .val (.ref a248), .val (.int (1 : Int32)), .val (.long ((0 : Int64) + own_l1 (own_out c0))), .second, .val (.int w2.toInt32), .val (.long lf2), .second, .val (.int (1 : Int32)), .val (.int (0 : Int32)), .val (.int (0 : Int32)), .val (.ref a263), .val (.int (1 : Int32)), .unset, .unset, .unset, .unset, .unset, .unset, .unset, .unset, .unset, .unset, .unset] [(.long (own_lf (1 : Int32) c0))])
  refine own_iload (pc' := 259) X268 hx (hb hby at_257) rfl rfl ?_
  refine own_iload (pc' := 261) X268 hx (hb hby at_259) rfl rfl ?_
  obtain ⟨_, _, ⟨T270, L270, k270, n270⟩, -, X270, ⟨Lc270, hQ270, l270, y270, z270⟩, st270⟩ := Jvm.LawKit.callS X268 hx (y := (⟨"com/example/dipper/dipper/core/LineEndsNormalizePinLaw", "lf", "(ZC)J"⟩ : MethodName)) hown (mvT hZ (hw _ (List.mem_of_getElem? (i := 35) rfl))) (mvT hZ (hw _ (List.mem_of_getElem? (i := 36) rfl))) (mvT hZ (hw _ (List.mem_of_getElem? (i := 2) rfl))) (mvT hZ (hw _ (List.mem_of_getElem? (i := 37) rfl))) (by decide) (backOf (W := 2) (rm_4 l Z a0 hw [] (0 : Int32) c1 h266 n0 Z266 hC1) hZ (hw _ (List.mem_of_getElem? (i := 37) rfl)) (hw _ (List.mem_of_getElem? (i := 2) rfl)) (by decide) (by decide)) (g := (mkF m 261 #[.val (.int q0), .val (.int q1), .val (.int q2), .val (.int q3), .val (.int q4), .val (.int q5), .val (.int c0), .val (.int c1), .val (.int c2), .val (.int c3), .val (.int c4), .val (.int (1 : Int32)), .val (.int st.toInt32), .val (.ref a241), .val (.ref a245), .val (.ref a248), .val (.int (1 : Int32)), .val (.long ((0 : Int64) + own_l1 (own_out c0))), .second, .val (.int w2.toInt32), .val (.long lf2), .second, .val (.int (1 : Int32)), .val (.int (0 : Int32)), .val (.int (0 : Int32)), .val (.ref a263), .val (.int (1 : Int32)), .unset, .unset, .unset, .unset, .unset, .unset, .unset, .unset, .unset, .unset, .unset] [(.int c1), (.int (0 : Int32)), (.long (own_lf (1 : Int32) c0))])) rfl (by rw [hml]; rfl) (argsL := [(.int (0 : Int32)), (.int c1)]) (rest := [(.long (own_lf (1 : Int32) c0))]) (lenOf pd_4 rfl) rfl (by show 2 * 0 + _ ≤ _; exact Nat.le_of_eq rfl) (hb hby at_261) (fun _ _ => ⟨rfl, el267, (by decide : 4 + 0 ≤ _), (by decide : 10 + 0 ≤ _)⟩)
  dsimp only [Pt.U, Pt.locs, Pt.cells, Pt.slots] at X270 l270 y270 z270 st270 hQ270
  subst l270 y270 z270
  obtain ⟨rfl, M270, el269⟩ := hQ270
  have N270 := Fr.app N268 M270
  refine Goes.pre st270 ?_
  show Goes p e below s 24 128 (Q_0 Z q0 q1 q2 q3 q4 q5 h0 n0) T270 (mkF m 264 #[.val (.int q0), .val (.int q1), .val (.int q2), .val (.int q3), .val (.int q4), .val (.int q5), .val (.int c0), .val (.int c1), .val (.int c2), .val (.int c3), .val (.int c4), .val (.int (1 : Int32)), .val (.int st.toInt32), .val (.ref a241), .val (.ref a245), .val (.ref a248), .val (.int (1 : Int32)), .val (.long ((0 : Int64) + own_l1 (own_out c0))), .second, .val (.int w2.toInt32), .val (.long lf2), .second, .val (.int (1 : Int32)), .val (.int (0 : Int32)), .val (.int (0 : Int32)), .val (.ref a263), .val (.int (1 : Int32)), .unset, .unset, .unset, .unset, .unset, .unset, .unset, .unset, .unset, .unset, .unset] [(.long (own_lf (0 : Int32) c1)), (.long (own_lf (1 : Int32) c0))])
  refine own_ladd (pc' := 265) X270 hx (hb hby at_264) rfl ?_
  refine own_iload (pc' := 267) X270 hx (hb hby at_265) rfl rfl ?_
  refine own_iload (pc' := 269) X270 hx (hb hby at_267) rfl rfl ?_
  obtain ⟨_, _, ⟨T272, L272, k272, n272⟩, -, X272, ⟨Lc272, hQ272, l272, y272, z272⟩, st272⟩ := Jvm.LawKit.callS X270 hx (y := (⟨"com/example/dipper/dipper/core/LineEndsNormalizePinLaw", "lf", "(ZC)J"⟩ : MethodName)) hown (mvT hZ (hw _ (List.mem_of_getElem? (i := 35) rfl))) (mvT hZ (hw _ (List.mem_of_getElem? (i := 36) rfl))) (mvT hZ (hw _ (List.mem_of_getElem? (i := 2) rfl))) (mvT hZ (hw _ (List.mem_of_getElem? (i := 37) rfl))) (by decide) (backOf (W := 2) (rm_4 l Z a0 hw [] (0 : Int32) c2 h266 n0 Z266 hC2) hZ (hw _ (List.mem_of_getElem? (i := 37) rfl)) (hw _ (List.mem_of_getElem? (i := 2) rfl)) (by decide) (by decide)) (g := (mkF m 269 #[.val (.int q0), .val (.int q1), .val (.int q2), .val (.int q3), .val (.int q4), .val (.int q5), .val (.int c0), .val (.int c1), .val (.int c2), .val (.int c3), .val (.int c4), .val (.int (1 : Int32)), .val (.int st.toInt32), .val (.ref a241), .val (.ref a245), .val (.ref a248), .val (.int (1 : Int32)), .val (.long ((0 : Int64) + own_l1 (own_out c0))), .second, .val (.int w2.toInt32), .val (.long lf2), .second, .val (.int (1 : Int32)), .val (.int (0 : Int32)), .val (.int (0 : Int32)), .val (.ref a263), .val (.int (1 : Int32)), .unset, .unset, .unset, .unset, .unset, .unset, .unset, .unset, .unset, .unset, .unset] [(.int c2), (.int (0 : Int32)), (.long ((own_lf (1 : Int32) c0) + (own_lf (0 : Int32) c1)))])) rfl (by rw [hml]; rfl) (argsL := [(.int (0 : Int32)), (.int c2)]) (rest := [(.long ((own_lf (1 : Int32) c0) + (own_lf (0 : Int32) c1)))]) (lenOf pd_4 rfl) rfl (by show 2 * 0 + _ ≤ _; exact Nat.le_of_eq rfl) (hb hby at_269) (fun _ _ => ⟨rfl, el269, (by decide : 4 + 0 ≤ _), (by decide : 10 + 0 ≤ _)⟩)
  dsimp only [Pt.U, Pt.locs, Pt.cells, Pt.slots] at X272 l272 y272 z272 st272 hQ272
  subst l272 y272 z272
  obtain ⟨rfl, M272, el271⟩ := hQ272
  have N272 := Fr.app N270 M272
  refine Goes.pre st272 ?_
  show Goes p e below s 24 128 (Q_0 Z q0 q1 q2 q3 q4 q5 h0 n0) T272 (mkF m 272 #[.val (.int q0), .val (.int q1), .val (.int q2), .val (.int q3), .val (.int q4), .val (.int q5), .val (.int c0), .val (.int c1), .val (.int c2), .val (.int c3), .val (.int c4), .val (.int (1 : Int32)), .val (.int st.toInt32), .val (.ref a241), .val (.ref a245), .val (.ref a248), .val (.int (1 : Int32)), .val (.long ((0 : Int64) + own_l1 (own_out c0))), .second, .val (.int w2.toInt32), .val (.long lf2), .second, .val (.int (1 : Int32)), .val (.int (0 : Int32)), .val (.int (0 : Int32)), .val (.ref a263), .val (.int (1 : Int32)), .unset, .unset, .unset, .unset, .unset, .unset, .unset, .unset, .unset, .unset, .unset] [(.long (own_lf (0 : Int32) c2)), (.long ((own_lf (1 : Int32) c0) + (own_lf (0 : Int32) c1)))])
  refine own_ladd (pc' := 273) X272 hx (hb hby at_272) rfl ?_
  refine own_lstore (pc' := 275) X272 hx (hb hby at_273) (Ls' := #[.val (.int q0), .val (.int q1), .val (.int q2), .val (.int q3), .val (.int q4), .val (.int q5), .val (.int c0), .val (.int c1), .val (.int c2), .val (.int c3), .val (.int c4), .val (.int (1 : Int32)), .val (.int st.toInt32), .val (.ref a241), .val (.ref a245), .val (.ref a248), .val (.int (1 : Int32)), .val (.long ((0 : Int64) + own_l1 (own_out c0))), .second, .val (.int w2.toInt32), .val (.long lf2), .second, .val (.int (1 : Int32)), .val (.int (0 : Int32)), .val (.int (0 : Int32)), .val (.ref a263), .val (.int (1 : Int32)), .val (.long (((own_lf (1 : Int32) c0) + (own_lf (0 : Int32) c1)) + (own_lf (0 : Int32) c2))), .second, .unset, .unset, .unset, .unset, .unset, .unset, .unset, .unset, .unset]) rfl rfl ?_
  refine own_iload (pc' := 277) X272 hx (hb hby at_275) rfl rfl ?_
  refine own_iload (pc' := 279) X272 hx (hb hby at_277) rfl rfl ?_
  refine own_icmpN (pc' := 282) X272 hx (hb hby at_279) (by decide) rfl ?_
  refine own_iload (pc' := 284) X272 hx (hb hby at_282) rfl rfl ?_
  refine own_iconst (pc' := 285) X272 hx (hb hby at_284) (v := (1 : Int32)) rfl rfl ?_
  refine own_icmpN (pc' := 288) X272 hx (hb hby at_285) (by decide) rfl ?_
  refine own_aload (pc' := 290) X272 hx (hb hby at_288) rfl rfl rfl ?_
  refine own_iconst (pc' := 291) X272 hx (hb hby at_290) (v := (0 : Int32)) rfl rfl ?_
  refine own_caload (pc' := 292) X272 hx hZ el271 P266_a241 (hb hby at_291) (v := (own_out c0)) (by decide) (k := 0) (by decide) rfl rfl ?_
  refine own_aload (pc' := 294) X272 hx (hb hby at_292) rfl rfl rfl ?_
  refine own_iconst (pc' := 295) X272 hx (hb hby at_294) (v := (0 : Int32)) rfl rfl ?_
  refine own_caload (pc' := 296) X272 hx hZ el271 P266x (hb hby at_295) (v := (own_out c0)) (by decide) (k := 0) (by decide) rfl rfl ?_
  refine own_icmpN (pc' := 299) X272 hx (hb hby at_296) (teq rfl).2 rfl ?_
  refine own_iload (pc' := 301) X272 hx (hb hby at_299) rfl rfl ?_
  refine own_iconst (pc' := 302) X272 hx (hb hby at_301) (v := (2 : Int32)) rfl rfl ?_
  refine own_icmpY X272 hx (hb hby at_302) (by decide) (by decide) (pc' := 316) (by decide) ?_
  refine own_iload (pc' := 318) X272 hx (hb hby at_316) rfl rfl ?_
  refine own_iconst (pc' := 319) X272 hx (hb hby at_318) (v := (3 : Int32)) rfl rfl ?_
  refine own_icmpY X272 hx (hb hby at_319) (by decide) (by decide) (pc' := 333) (by decide) ?_
  refine own_iload (pc' := 335) X272 hx (hb hby at_333) rfl rfl ?_
  refine own_ifY X272 hx (hb hby at_335) (by decide) (by decide) (pc' := 347) (by decide) ?_
  refine own_iload (pc' := 349) X272 hx (hb hby at_347) rfl rfl ?_
  refine own_iconst (pc' := 350) X272 hx (hb hby at_349) (v := (1 : Int32)) rfl rfl ?_
  refine own_icmpN (pc' := 353) X272 hx (hb hby at_350) (by decide) rfl ?_
  refine own_aload (pc' := 355) X272 hx (hb hby at_353) rfl rfl rfl ?_
  refine own_iconst (pc' := 356) X272 hx (hb hby at_355) (v := (1 : Int32)) rfl rfl ?_
  refine own_caload (pc' := 357) X272 hx hZ el271 P266_a241 (hb hby at_356) (v := c1) (by decide) (k := 1) (by decide) rfl rfl ?_
  refine own_iload (pc' := 359) X272 hx (hb hby at_357) rfl rfl ?_
  refine own_icmpN (pc' := 362) X272 hx (hb hby at_359) (teq rfl).2 rfl ?_
  refine own_iload (pc' := 364) X272 hx (hb hby at_362) rfl rfl ?_
  refine own_iconst (pc' := 365) X272 hx (hb hby at_364) (v := (2 : Int32)) rfl rfl ?_
  refine own_icmpN (pc' := 368) X272 hx (hb hby at_365) (by decide) rfl ?_
  refine own_aload (pc' := 370) X272 hx (hb hby at_368) rfl rfl rfl ?_
  refine own_iconst (pc' := 371) X272 hx (hb hby at_370) (v := (2 : Int32)) rfl rfl ?_
  refine own_caload (pc' := 372) X272 hx hZ el271 P266_a241 (hb hby at_371) (v := c2) (by decide) (k := 2) (by decide) rfl rfl ?_
  refine own_iload (pc' := 374) X272 hx (hb hby at_372) rfl rfl ?_
  refine own_icmpN (pc' := 377) X272 hx (hb hby at_374) (teq rfl).2 rfl ?_
  refine own_lload (pc' := 379) X272 hx (hb hby at_377) rfl rfl ?_
  refine own_lload (pc' := 381) X272 hx (hb hby at_379) rfl rfl ?_
  refine own_lcmp (pc' := 382) X272 hx (hb hby at_381) rfl ?_
  refine own_ifN (pc' := 385) X272 hx (hb hby at_382) (own_Teq (by simp [own_lf] : ((0 : Int64) + own_l1 (own_out c0)) = (((own_lf (1 : Int32) c0) + (own_lf (0 : Int32) c1)) + (own_lf (0 : Int32) c2)))).2 rfl ?_
  refine own_iconst (pc' := 386) X272 hx (hb hby at_385) (v := (1 : Int32)) rfl rfl ?_
  refine own_goto X272 hx (hb hby at_386) (by decide) (pc' := 390) (by decide) ?_
  refine own_istore (pc' := 392) X272 hx (hb hby at_390) (Ls' := #[.val (.int q0), .val (.int q1), .val (.int q2), .val (.int q3), .val (.int q4), .val (.int q5), .val (.int c0), .val (.int c1), .val (.int c2), .val (.int c3), .val (.int c4), .val (.int (1 : Int32)), .val (.int st.toInt32), .val (.ref a241), .val (.ref a245), .val (.ref a248), .val (.int (1 : Int32)), .val (.long ((0 : Int64) + own_l1 (own_out c0))), .second, .val (.int w2.toInt32), .val (.long lf2), .second, .val (.int (1 : Int32)), .val (.int (0 : Int32)), .val (.int (0 : Int32)), .val (.ref a263), .val (.int (1 : Int32)), .val (.long (((own_lf (1 : Int32) c0) + (own_lf (0 : Int32) c1)) + (own_lf (0 : Int32) c2))), .second, .val (.int (1 : Int32)), .unset, .unset, .unset, .unset, .unset, .unset, .unset, .unset]) rfl rfl ?_
  refine own_iload (pc' := 394) X272 hx (hb hby at_392) rfl rfl ?_
  refine own_iconst (pc' := 395) X272 hx (hb hby at_394) (v := (1 : Int32)) rfl rfl ?_
  refine own_icmpN (pc' := 398) X272 hx (hb hby at_395) (by decide) rfl ?_
  refine own_iload (pc' := 400) X272 hx (hb hby at_398) rfl rfl ?_
  refine own_bipush (pc' := 402) X272 hx (hb hby at_400) (v := (13 : Int32)) rfl rfl ?_
  by_cases hc402 : c0 = (13 : Int32)
  · refine own_icmpN (pc' := 405) X272 hx (hb hby at_402) (teq hc402).2 rfl ?_
    refine own_iconst (pc' := 406) X272 hx (hb hby at_405) (v := (1 : Int32)) rfl rfl ?_
    refine own_goto X272 hx (hb hby at_406) (by decide) (pc' := 456) (by decide) ?_
    refine own_istore (pc' := 458) X272 hx (hb hby at_456) (Ls' := #[.val (.int q0), .val (.int q1), .val (.int q2), .val (.int q3), .val (.int q4), .val (.int q5), .val (.int c0), .val (.int c1), .val (.int c2), .val (.int c3), .val (.int c4), .val (.int (1 : Int32)), .val (.int st.toInt32), .val (.ref a241), .val (.ref a245), .val (.ref a248), .val (.int (1 : Int32)), .val (.long ((0 : Int64) + own_l1 (own_out c0))), .second, .val (.int w2.toInt32), .val (.long lf2), .second, .val (.int (1 : Int32)), .val (.int (0 : Int32)), .val (.int (0 : Int32)), .val (.ref a263), .val (.int (1 : Int32)), .val (.long (((own_lf (1 : Int32) c0) + (own_lf (0 : Int32) c1)) + (own_lf (0 : Int32) c2))), .second, .val (.int (1 : Int32)), .val (.int (1 : Int32)), .unset, .unset, .unset, .unset, .unset, .unset, .unset]) rfl rfl ?_
    have hpr : (own_af c0) = (1 : Int32) := by simp [own_af, hc402]
    have hlf : (((own_lf (1 : Int32) c0) + (own_lf (0 : Int32) c1)) + (own_lf (0 : Int32) c2)) = ((0 : Int64) + own_l1 (own_out c0)) := by simp [own_lf]
    rw [hlf]
    rw [hpr] at ht2
    obtain rfl | rfl | rfl : st = 0 ∨ st = 1 ∨ st = 2 := by omega
    · exact own_tB01 hw q0 q1 q2 q3 q4 q5 h0 n0 Z0 hx hby hlk hml hown hZ hret T272 _ _ a245 c3 c4 _ _ _ _ _ _ _ _ _ _ _ _ _ _ _ _ _ _ _ _ _ _ _ _ _ hC3 hC4 X272 el271 N272 Z266 P266_a245 ht2
    · exact own_tB11 hw q0 q1 q2 q3 q4 q5 h0 n0 Z0 hx hby hlk hml hown hZ hret T272 _ _ a245 c3 c4 _ _ _ _ _ _ _ _ _ _ _ _ _ _ _ _ _ _ _ _ _ _ _ _ _ hC3 hC4 X272 el271 N272 Z266 P266_a245 ht2
    · exact own_tB21 hw q0 q1 q2 q3 q4 q5 h0 n0 Z0 hx hby hlk hml hown hZ hret T272 _ _ a245 c3 c4 _ _ _ _ _ _ _ _ _ _ _ _ _ _ _ _ _ _ _ _ _ _ _ _ _ hC3 hC4 X272 el271 N272 Z266 P266_a245 ht2
  · refine own_icmpY X272 hx (hb hby at_402) (feq hc402).2 (by decide) (pc' := 409) (by decide) ?_
    refine own_iconst (pc' := 410) X272 hx (hb hby at_409) (v := (0 : Int32)) rfl rfl ?_
    refine own_goto X272 hx (hb hby at_410) (by decide) (pc' := 456) (by decide) ?_
    refine own_istore (pc' := 458) X272 hx (hb hby at_456) (Ls' := #[.val (.int q0), .val (.int q1), .val (.int q2), .val (.int q3), .val (.int q4), .val (.int q5), .val (.int c0), .val (.int c1), .val (.int c2), .val (.int c3), .val (.int c4), .val (.int (1 : Int32)), .val (.int st.toInt32), .val (.ref a241), .val (.ref a245), .val (.ref a248), .val (.int (1 : Int32)), .val (.long ((0 : Int64) + own_l1 (own_out c0))), .second, .val (.int w2.toInt32), .val (.long lf2), .second, .val (.int (1 : Int32)), .val (.int (0 : Int32)), .val (.int (0 : Int32)), .val (.ref a263), .val (.int (1 : Int32)), .val (.long (((own_lf (1 : Int32) c0) + (own_lf (0 : Int32) c1)) + (own_lf (0 : Int32) c2))), .second, .val (.int (1 : Int32)), .val (.int (0 : Int32)), .unset, .unset, .unset, .unset, .unset, .unset, .unset]) rfl rfl ?_
    have hpr : (own_af c0) = (0 : Int32) := by simp [own_af, hc402]
    have hlf : (((own_lf (1 : Int32) c0) + (own_lf (0 : Int32) c1)) + (own_lf (0 : Int32) c2)) = ((0 : Int64) + own_l1 (own_out c0)) := by simp [own_lf]
    rw [hlf]
    rw [hpr] at ht2
    obtain rfl | rfl | rfl : st = 0 ∨ st = 1 ∨ st = 2 := by omega
    · exact own_tB00 hw q0 q1 q2 q3 q4 q5 h0 n0 Z0 hx hby hlk hml hown hZ hret T272 _ _ a245 c3 c4 _ _ _ _ _ _ _ _ _ _ _ _ _ _ _ _ _ _ _ _ _ _ _ _ _ hC3 hC4 X272 el271 N272 Z266 P266_a245 ht2
    · exact own_tB10 hw q0 q1 q2 q3 q4 q5 h0 n0 Z0 hx hby hlk hml hown hZ hret T272 _ _ a245 c3 c4 _ _ _ _ _ _ _ _ _ _ _ _ _ _ _ _ _ _ _ _ _ _ _ _ _ hC3 hC4 X272 el271 N272 Z266 P266_a245 ht2
    · exact own_tB20 hw q0 q1 q2 q3 q4 q5 h0 n0 Z0 hx hby hlk hml hown hZ hret T272 _ _ a245 c3 c4 _ _ _ _ _ _ _ _ _ _ _ _ _ _ _ _ _ _ _ _ _ _ _ _ _ hC3 hC4 X272 el271 N272 Z266 P266_a245 ht2
set_option maxRecDepth 65536 in
set_option maxHeartbeats 40000000 in
theorem own_tA2 {p : Program} {l : Launch} {e : Env} {s : State} {m : MethodId} {below : List Frame} {meth : Method} {c : Code} {Z : State} {a0 : Array Value} (hw : ∀ d ∈ tables_1, d.before a0 Z = true) (q0 q1 q2 q3 q4 q5 : Int32) (h0 : Heap) (n0 : Nat) (Z0 : n0 ≤ Array.size h0) (hx : p.tables.exec = Jvm.exec) (hby : c.code = code) (hlk : meth.locks = false) (hml : c.maxLocals = 38) (hown : s.vm.findClass "com/example/dipper/dipper/core/LineEndsNormalizePinLaw" = some m.cls) (hZ : Z.Warmed39 s.vm) (hret : meth.sig.returnType = some .boolean) : ∀ (TJ : State) (LJ : List Loc) (c0 c1 c2 c3 c4 : Int32) (st : Nat), st ≤ 2 → own_C c0 → own_C c1 → own_C c2 → own_C c3 → own_C c4 → Stand p l e room_1 s m #[(.int q0), (.int q1), (.int q2), (.int q3), (.int q4), (.int q5)] below meth c TJ LJ 0 0 → TJ.heap = h0 → Fr n0 LJ → Goes p e below s 24 128 (Q_0 Z q0 q1 q2 q3 q4 q5 h0 n0) TJ (mkF m 48 #[.val (.int q0), .val (.int q1), .val (.int q2), .val (.int q3), .val (.int q4), .val (.int q5), .val (.int c0), .val (.int c1), .val (.int c2), .val (.int c3), .val (.int c4), .val (.int (2 : Int32)), .val (.int st.toInt32), .unset, .unset, .unset, .unset, .unset, .unset, .unset, .unset, .unset, .unset, .unset, .unset, .unset, .unset, .unset, .unset, .unset, .unset, .unset, .unset, .unset, .unset, .unset, .unset, .unset] []) := by
  intro TJ LJ c0 c1 c2 c3 c4 st hst hC0 hC1 hC2 hC3 hC4 XJ eJ NJ
  refine own_iconst (pc' := 49) XJ hx (hb hby at_48) (v := (3 : Int32)) rfl rfl ?_
  refine own_newarray (pc' := 51) XJ hx hZ (hw _ (List.mem_of_getElem? (i := 5) rfl)) eJ (hb hby at_49) (k := 3) (cap := 3) rfl (by decide) rfl (by decide) (by decide) (by decide) (by decide) rfl ?_
  intro T273 h273 a273 g273 X273 e273 E273 P273
  show Goes p e below s 24 128 (Q_0 Z q0 q1 q2 q3 q4 q5 h0 n0) T273 (mkF m 51 #[.val (.int q0), .val (.int q1), .val (.int q2), .val (.int q3), .val (.int q4), .val (.int q5), .val (.int c0), .val (.int c1), .val (.int c2), .val (.int c3), .val (.int c4), .val (.int (2 : Int32)), .val (.int st.toInt32), .unset, .unset, .unset, .unset, .unset, .unset, .unset, .unset, .unset, .unset, .unset, .unset, .unset, .unset, .unset, .unset, .unset, .unset, .unset, .unset, .unset, .unset, .unset, .unset, .unset] [(.ref a273)])
  have ge_a273 : n0 ≤ a273 := by rw [g273]; exact Z0
  have Z273 : n0 ≤ Array.size h273 := Nat.le_trans Z0 E273.1
  refine own_dup (pc' := 52) X273 hx (hb hby at_51) rfl rfl ?_
  refine own_iconst (pc' := 53) X273 hx (hb hby at_52) (v := (0 : Int32)) rfl rfl ?_
  refine own_iload (pc' := 55) X273 hx (hb hby at_53) rfl rfl ?_
  refine own_castore (pc' := 56) X273 hx hZ e273 P273 (hb hby at_55) (own_nar hC0) (by decide) (k := 0) (by decide) (by simp) rfl ?_
  intro T274 h274 X274 e274 W274 P274
  have N274 := Fr.snoc X274 NJ ge_a273
  have Z274 : n0 ≤ Array.size h274 := by rw [W274.size]; exact Z273
  show Goes p e below s 24 128 (Q_0 Z q0 q1 q2 q3 q4 q5 h0 n0) T274 (mkF m 56 #[.val (.int q0), .val (.int q1), .val (.int q2), .val (.int q3), .val (.int q4), .val (.int q5), .val (.int c0), .val (.int c1), .val (.int c2), .val (.int c3), .val (.int c4), .val (.int (2 : Int32)), .val (.int st.toInt32), .unset, .unset, .unset, .unset, .unset, .unset, .unset, .unset, .unset, .unset, .unset, .unset, .unset, .unset, .unset, .unset, .unset, .unset, .unset, .unset, .unset, .unset, .unset, .unset, .unset] [(.ref a273)])
  have P274x : own_PA Z h274 a273 .char [c0, (0 : Int32), (0 : Int32)] := P274
  refine own_dup (pc' := 57) X274 hx (hb hby at_56) rfl rfl ?_
  refine own_iconst (pc' := 58) X274 hx (hb hby at_57) (v := (1 : Int32)) rfl rfl ?_
  refine own_iload (pc' := 60) X274 hx (hb hby at_58) rfl rfl ?_
  refine own_castore (pc' := 61) X274 hx hZ e274 P274x (hb hby at_60) (own_nar hC1) (by decide) (k := 1) (by decide) (by simp) rfl ?_
  intro T275 h275 X275 e275 W275 P275
  have N275 := Fr.snoc X275 N274 ge_a273
  have Z275 : n0 ≤ Array.size h275 := by rw [W275.size]; exact Z274
  show Goes p e below s 24 128 (Q_0 Z q0 q1 q2 q3 q4 q5 h0 n0) T275 (mkF m 61 #[.val (.int q0), .val (.int q1), .val (.int q2), .val (.int q3), .val (.int q4), .val (.int q5), .val (.int c0), .val (.int c1), .val (.int c2), .val (.int c3), .val (.int c4), .val (.int (2 : Int32)), .val (.int st.toInt32), .unset, .unset, .unset, .unset, .unset, .unset, .unset, .unset, .unset, .unset, .unset, .unset, .unset, .unset, .unset, .unset, .unset, .unset, .unset, .unset, .unset, .unset, .unset, .unset, .unset] [(.ref a273)])
  have P275x : own_PA Z h275 a273 .char [c0, c1, (0 : Int32)] := P275
  refine own_dup (pc' := 62) X275 hx (hb hby at_61) rfl rfl ?_
  refine own_iconst (pc' := 63) X275 hx (hb hby at_62) (v := (2 : Int32)) rfl rfl ?_
  refine own_iload (pc' := 65) X275 hx (hb hby at_63) rfl rfl ?_
  refine own_castore (pc' := 66) X275 hx hZ e275 P275x (hb hby at_65) (own_nar hC2) (by decide) (k := 2) (by decide) (by simp) rfl ?_
  intro T276 h276 X276 e276 W276 P276
  have N276 := Fr.snoc X276 N275 ge_a273
  have Z276 : n0 ≤ Array.size h276 := by rw [W276.size]; exact Z275
  show Goes p e below s 24 128 (Q_0 Z q0 q1 q2 q3 q4 q5 h0 n0) T276 (mkF m 66 #[.val (.int q0), .val (.int q1), .val (.int q2), .val (.int q3), .val (.int q4), .val (.int q5), .val (.int c0), .val (.int c1), .val (.int c2), .val (.int c3), .val (.int c4), .val (.int (2 : Int32)), .val (.int st.toInt32), .unset, .unset, .unset, .unset, .unset, .unset, .unset, .unset, .unset, .unset, .unset, .unset, .unset, .unset, .unset, .unset, .unset, .unset, .unset, .unset, .unset, .unset, .unset, .unset, .unset] [(.ref a273)])
  have P276x : own_PA Z h276 a273 .char [c0, c1, c2] := P276
  refine own_astore (pc' := 68) X276 hx (hb hby at_66) rfl (Ls' := #[.val (.int q0), .val (.int q1), .val (.int q2), .val (.int q3), .val (.int q4), .val (.int q5), .val (.int c0), .val (.int c1), .val (.int c2), .val (.int c3), .val (.int c4), .val (.int (2 : Int32)), .val (.int st.toInt32), .val (.ref a273), .unset, .unset, .unset, .unset, .unset, .unset, .unset, .unset, .unset, .unset, .unset, .unset, .unset, .unset, .unset, .unset, .unset, .unset, .unset, .unset, .unset, .unset, .unset, .unset]) rfl rfl ?_
  refine own_iconst (pc' := 69) X276 hx (hb hby at_68) (v := (2 : Int32)) rfl rfl ?_
  refine own_newarray (pc' := 71) X276 hx hZ (hw _ (List.mem_of_getElem? (i := 5) rfl)) e276 (hb hby at_69) (k := 2) (cap := 2) rfl (by decide) rfl (by decide) (by decide) (by decide) (by decide) rfl ?_
  intro T277 h277 a277 g277 X277 e277 E277 P277
  show Goes p e below s 24 128 (Q_0 Z q0 q1 q2 q3 q4 q5 h0 n0) T277 (mkF m 71 #[.val (.int q0), .val (.int q1), .val (.int q2), .val (.int q3), .val (.int q4), .val (.int q5), .val (.int c0), .val (.int c1), .val (.int c2), .val (.int c3), .val (.int c4), .val (.int (2 : Int32)), .val (.int st.toInt32), .val (.ref a273), .unset, .unset, .unset, .unset, .unset, .unset, .unset, .unset, .unset, .unset, .unset, .unset, .unset, .unset, .unset, .unset, .unset, .unset, .unset, .unset, .unset, .unset, .unset, .unset] [(.ref a277)])
  have P277_a273 := P276x.ext E277
  have ne_a273_a277 : a273 ≠ a277 := fun q => absurd (q ▸ P276x.lt) (by rw [g277]; exact Nat.lt_irrefl _)
  have ge_a277 : n0 ≤ a277 := by rw [g277]; exact Z276
  have Z277 : n0 ≤ Array.size h277 := Nat.le_trans Z276 E277.1
  refine own_dup (pc' := 72) X277 hx (hb hby at_71) rfl rfl ?_
  refine own_iconst (pc' := 73) X277 hx (hb hby at_72) (v := (0 : Int32)) rfl rfl ?_
  refine own_iload (pc' := 75) X277 hx (hb hby at_73) rfl rfl ?_
  refine own_castore (pc' := 76) X277 hx hZ e277 P277 (hb hby at_75) (own_nar hC3) (by decide) (k := 0) (by decide) (by simp) rfl ?_
  intro T278 h278 X278 e278 W278 P278
  have N278 := Fr.snoc X278 N276 ge_a277
  have P278_a273 := P277_a273.other W278 ne_a273_a277
  have Z278 : n0 ≤ Array.size h278 := by rw [W278.size]; exact Z277
  show Goes p e below s 24 128 (Q_0 Z q0 q1 q2 q3 q4 q5 h0 n0) T278 (mkF m 76 #[.val (.int q0), .val (.int q1), .val (.int q2), .val (.int q3), .val (.int q4), .val (.int q5), .val (.int c0), .val (.int c1), .val (.int c2), .val (.int c3), .val (.int c4), .val (.int (2 : Int32)), .val (.int st.toInt32), .val (.ref a273), .unset, .unset, .unset, .unset, .unset, .unset, .unset, .unset, .unset, .unset, .unset, .unset, .unset, .unset, .unset, .unset, .unset, .unset, .unset, .unset, .unset, .unset, .unset, .unset] [(.ref a277)])
  have P278x : own_PA Z h278 a277 .char [c3, (0 : Int32)] := P278
  refine own_dup (pc' := 77) X278 hx (hb hby at_76) rfl rfl ?_
  refine own_iconst (pc' := 78) X278 hx (hb hby at_77) (v := (1 : Int32)) rfl rfl ?_
  refine own_iload (pc' := 80) X278 hx (hb hby at_78) rfl rfl ?_
  refine own_castore (pc' := 81) X278 hx hZ e278 P278x (hb hby at_80) (own_nar hC4) (by decide) (k := 1) (by decide) (by simp) rfl ?_
  intro T279 h279 X279 e279 W279 P279
  have N279 := Fr.snoc X279 N278 ge_a277
  have P279_a273 := P278_a273.other W279 ne_a273_a277
  have Z279 : n0 ≤ Array.size h279 := by rw [W279.size]; exact Z278
  show Goes p e below s 24 128 (Q_0 Z q0 q1 q2 q3 q4 q5 h0 n0) T279 (mkF m 81 #[.val (.int q0), .val (.int q1), .val (.int q2), .val (.int q3), .val (.int q4), .val (.int q5), .val (.int c0), .val (.int c1), .val (.int c2), .val (.int c3), .val (.int c4), .val (.int (2 : Int32)), .val (.int st.toInt32), .val (.ref a273), .unset, .unset, .unset, .unset, .unset, .unset, .unset, .unset, .unset, .unset, .unset, .unset, .unset, .unset, .unset, .unset, .unset, .unset, .unset, .unset, .unset, .unset, .unset, .unset] [(.ref a277)])
  have P279x : own_PA Z h279 a277 .char [c3, c4] := P279
  refine own_astore (pc' := 83) X279 hx (hb hby at_81) rfl (Ls' := #[.val (.int q0), .val (.int q1), .val (.int q2), .val (.int q3), .val (.int q4), .val (.int q5), .val (.int c0), .val (.int c1), .val (.int c2), .val (.int c3), .val (.int c4), .val (.int (2 : Int32)), .val (.int st.toInt32), .val (.ref a273), .val (.ref a277), .unset, .unset, .unset, .unset, .unset, .unset, .unset, .unset, .unset, .unset, .unset, .unset, .unset, .unset, .unset, .unset, .unset, .unset, .unset, .unset, .unset, .unset, .unset]) rfl rfl ?_
  obtain ⟨T280, h280, X280, e280, E280, A280, D280, -, st280⟩ := newO X279 hx hZ hown (hw _ (List.mem_of_getElem? (i := 6) rfl)) (hw _ (List.mem_of_getElem? (i := 7) rfl)) (hw _ (List.mem_of_getElem? (i := 8) rfl)) e279 (g := (mkF m 83 #[.val (.int q0), .val (.int q1), .val (.int q2), .val (.int q3), .val (.int q4), .val (.int q5), .val (.int c0), .val (.int c1), .val (.int c2), .val (.int c3), .val (.int c4), .val (.int (2 : Int32)), .val (.int st.toInt32), .val (.ref a273), .val (.ref a277), .unset, .unset, .unset, .unset, .unset, .unset, .unset, .unset, .unset, .unset, .unset, .unset, .unset, .unset, .unset, .unset, .unset, .unset, .unset, .unset, .unset, .unset, .unset] [])) rfl (hb hby at_83) (by decide) (by decide)
  obtain ⟨a280, g280⟩ : ∃ z, z = Array.size (h279) := ⟨_, rfl⟩
  rw [← g280] at A280 D280 st280
  refine Goes.pre st280 ?_
  show Goes p e below s 24 128 (Q_0 Z q0 q1 q2 q3 q4 q5 h0 n0) T280 (mkF m 86 #[.val (.int q0), .val (.int q1), .val (.int q2), .val (.int q3), .val (.int q4), .val (.int q5), .val (.int c0), .val (.int c1), .val (.int c2), .val (.int c3), .val (.int c4), .val (.int (2 : Int32)), .val (.int st.toInt32), .val (.ref a273), .val (.ref a277), .unset, .unset, .unset, .unset, .unset, .unset, .unset, .unset, .unset, .unset, .unset, .unset, .unset, .unset, .unset, .unset, .unset, .unset, .unset, .unset, .unset, .unset, .unset] [(.ref a280)])
  have F280_afterReturn : Fld Z h280 a280 "com/example/dipper/dipper/core/LineEnds" "afterReturn" "Z" (.int (0 : Int32)) := D280 (Or.inl (hw _ (List.mem_of_getElem? (i := 21) rfl))) (ty := .boolean) (by decide)
  have F280_lineFeeds : Fld Z h280 a280 "com/example/dipper/dipper/core/LineEnds" "lineFeeds" "J" (.long (0 : Int64)) := D280 (Or.inl (hw _ (List.mem_of_getElem? (i := 23) rfl))) (ty := .long) (by decide)
  have P280_a277 := P279x.ext E280
  have le_a277 : a277 ≠ a280 := fun q => absurd (q ▸ P279x.lt) (by rw [g280]; exact Nat.lt_irrefl _)
  have P280_a273 := P279_a273.ext E280
  have le_a273 : a273 ≠ a280 := fun q => absurd (q ▸ P279_a273.lt) (by rw [g280]; exact Nat.lt_irrefl _)
  have ge_a280 : n0 ≤ a280 := by rw [g280]; exact Z279
  have Z280 : n0 ≤ Array.size h280 := Nat.le_trans Z279 E280.1
  refine own_dup (pc' := 87) X280 hx (hb hby at_86) rfl rfl ?_
  obtain ⟨_, _, ⟨T282, L282, k282, n282⟩, -, X282, ⟨Lc282, hQ282, l282, y282, z282⟩, st282⟩ := X280.specialBack hx (y := (⟨"com/example/dipper/dipper/core/LineEnds", "<init>", "()V"⟩ : MethodName)) rfl hown (mvT hZ (hw _ (List.mem_of_getElem? (i := 9) rfl))) (mvT hZ (hw _ (List.mem_of_getElem? (i := 10) rfl))) (mvT hZ (hw _ (List.mem_of_getElem? (i := 11) rfl))) (by decide) (backOf (W := 1) (rm_5 l Z a0 hw [] a280 h280 n0 Z280) hZ (hw _ (List.mem_of_getElem? (i := 11) rfl)) (hw _ (List.mem_of_getElem? (i := 8) rfl)) (by decide) (by decide)) (g := (mkF m 87 #[.val (.int q0), .val (.int q1), .val (.int q2), .val (.int q3), .val (.int q4), .val (.int q5), .val (.int c0), .val (.int c1), .val (.int c2), .val (.int c3), .val (.int c4), .val (.int (2 : Int32)), .val (.int st.toInt32), .val (.ref a273), .val (.ref a277), .unset, .unset, .unset, .unset, .unset, .unset, .unset, .unset, .unset, .unset, .unset, .unset, .unset, .unset, .unset, .unset, .unset, .unset, .unset, .unset, .unset, .unset, .unset] [(.ref a280), (.ref a280)])) rfl (by rw [hml]; rfl) (Steps.refl _) (a := a280) (argsL := []) (rest := [(.ref a280)]) (lenOf pd_5 rfl) rfl (by show 2 * 0 + _ ≤ _; exact Nat.le_of_eq rfl) (hb hby at_87) (fun _ _ => ⟨rfl, e280, (by decide : 3 + 0 ≤ _), (by decide : 7 + 0 ≤ _)⟩)
  dsimp only [Pt.U, Pt.locs, Pt.cells, Pt.slots] at X282 l282 y282 z282 st282 hQ282
  subst l282 y282 z282
  obtain ⟨rfl, M282, ei281⟩ := hQ282
  have N282 := Fr.app N279 M282
  refine Goes.aft st282 ?_
  show Goes p e below s 24 128 (Q_0 Z q0 q1 q2 q3 q4 q5 h0 n0) T282 (mkF m 90 #[.val (.int q0), .val (.int q1), .val (.int q2), .val (.int q3), .val (.int q4), .val (.int q5), .val (.int c0), .val (.int c1), .val (.int c2), .val (.int c3), .val (.int c4), .val (.int (2 : Int32)), .val (.int st.toInt32), .val (.ref a273), .val (.ref a277), .unset, .unset, .unset, .unset, .unset, .unset, .unset, .unset, .unset, .unset, .unset, .unset, .unset, .unset, .unset, .unset, .unset, .unset, .unset, .unset, .unset, .unset, .unset] [(.ref a280)])
  refine own_astore (pc' := 92) X282 hx (hb hby at_90) rfl (Ls' := #[.val (.int q0), .val (.int q1), .val (.int q2), .val (.int q3), .val (.int q4), .val (.int q5), .val (.int c0), .val (.int c1), .val (.int c2), .val (.int c3), .val (.int c4), .val (.int (2 : Int32)), .val (.int st.toInt32), .val (.ref a273), .val (.ref a277), .val (.ref a280), .unset, .unset, .unset, .unset, .unset, .unset, .unset, .unset, .unset, .unset, .unset, .unset, .unset, .unset, .unset, .unset, .unset, .unset, .unset, .unset, .unset, .unset]) rfl rfl ?_
  refine own_aload (pc' := 94) X282 hx (hb hby at_92) rfl rfl rfl ?_
  refine own_aload (pc' := 96) X282 hx (hb hby at_94) rfl rfl rfl ?_
  refine own_iconst (pc' := 97) X282 hx (hb hby at_96) (v := (0 : Int32)) rfl rfl ?_
  refine own_iload (pc' := 99) X282 hx (hb hby at_97) rfl rfl ?_
  obtain ⟨cq285, kq285, q285a, q285b, q285c⟩ := isOf hZ ei281 A280
  obtain ⟨_, _, ⟨T284, L284, k284, n284⟩, -, X284, ⟨Lc284, hQ284, l284, y284, z284⟩, st284⟩ := X282.virtualBack hx (y := (⟨"com/example/dipper/dipper/core/LineEnds", "normalize", "([CII)I"⟩ : MethodName)) (z := (⟨"com/example/dipper/dipper/core/LineEnds", "normalize", "([CII)I"⟩ : MethodName)) hown (mvT hZ (hw _ (List.mem_of_getElem? (i := 15) rfl))) (mvT hZ (hw _ (List.mem_of_getElem? (i := 16) rfl))) (notFace_of_selects (args := #[]) (mvT hZ (hw _ (List.mem_of_getElem? (i := 18) rfl)))) (mvT hZ (hw _ (List.mem_of_getElem? (i := 18) rfl))) (mvT hZ (hw _ (List.mem_of_getElem? (i := 17) rfl))) (by decide) (backOf (W := 0) (rm_7 l Z a0 hw [] a280 a273 [c0, c1, c2] (0 : Int32) (0 : Int64) 0 2 h280 n0 Z280 F280_afterReturn F280_lineFeeds A280 P280_a273 (by omega) (by simp) (by simp) (by simp only [List.mem_cons, List.not_mem_nil, or_false]; rintro v (rfl | rfl | rfl) <;> assumption) (Ne.symm le_a273) ge_a280 ge_a273) hZ (hw _ (List.mem_of_getElem? (i := 19) rfl)) (hw _ (List.mem_of_getElem? (i := 8) rfl)) (by decide) (by decide)) q285a q285c (g := (mkF m 99 #[.val (.int q0), .val (.int q1), .val (.int q2), .val (.int q3), .val (.int q4), .val (.int q5), .val (.int c0), .val (.int c1), .val (.int c2), .val (.int c3), .val (.int c4), .val (.int (2 : Int32)), .val (.int st.toInt32), .val (.ref a273), .val (.ref a277), .val (.ref a280), .unset, .unset, .unset, .unset, .unset, .unset, .unset, .unset, .unset, .unset, .unset, .unset, .unset, .unset, .unset, .unset, .unset, .unset, .unset, .unset, .unset, .unset] [(.int (2 : Int32)), (.int (0 : Int32)), (.ref a273), (.ref a280)])) rfl (by rw [hml]; rfl) (Steps.refl _) (argsL := [(.ref a273), (.int (0 : Int32)), (.int (2 : Int32))]) (rest := []) (lenOf pd_7 rfl) rfl (by show 2 * 0 + _ ≤ _; exact Nat.le_of_eq rfl) (hb hby at_99) (fun _ _ => ⟨rfl, ei281, (by decide : 3 + 0 ≤ _), (by decide : 7 + 0 ≤ _)⟩)
  dsimp only [Pt.U, Pt.locs, Pt.cells, Pt.slots] at X284 l284 y284 z284 st284 hQ284
  subst l284 y284 z284
  obtain ⟨rfl, M284, K283, EX283, FA283, FL283, P283⟩ := hQ284
  have N284 := Fr.app N282 M284
  refine Goes.aft st284 ?_
  show Goes p e below s 24 128 (Q_0 Z q0 q1 q2 q3 q4 q5 h0 n0) T284 (mkF m 102 #[.val (.int q0), .val (.int q1), .val (.int q2), .val (.int q3), .val (.int q4), .val (.int q5), .val (.int c0), .val (.int c1), .val (.int c2), .val (.int c3), .val (.int c4), .val (.int (2 : Int32)), .val (.int st.toInt32), .val (.ref a273), .val (.ref a277), .val (.ref a280), .unset, .unset, .unset, .unset, .unset, .unset, .unset, .unset, .unset, .unset, .unset, .unset, .unset, .unset, .unset, .unset, .unset, .unset, .unset, .unset, .unset, .unset] [(.int (own_nl (2 - 0) 0 0 [c0, c1, c2] (0 : Int32) (0 : Int64)).1.toInt32)])
  have Z283 : n0 ≤ Array.size T284.heap := Nat.le_trans Z280 K283.1
  have P283_a277 := P280_a277.keep K283 (ninS le_a277 (ninS (Ne.symm ne_a273_a277) nin0))
  obtain ⟨⟨w1, vs1, af1, lf1⟩, ht1⟩ : ∃ t, t = (own_nl (2 - 0) 0 0 [c0, c1, c2] (0 : Int32) (0 : Int64)) := ⟨_, rfl⟩
  rw [← ht1] at FA283 FL283 P283
  rw [← ht1]
  dsimp only at FA283 FL283 P283
  show Goes p e below s 24 128 (Q_0 Z q0 q1 q2 q3 q4 q5 h0 n0) T284 (mkF m 102 #[.val (.int q0), .val (.int q1), .val (.int q2), .val (.int q3), .val (.int q4), .val (.int q5), .val (.int c0), .val (.int c1), .val (.int c2), .val (.int c3), .val (.int c4), .val (.int (2 : Int32)), .val (.int st.toInt32), .val (.ref a273), .val (.ref a277), .val (.ref a280), .unset, .unset, .unset, .unset, .unset, .unset, .unset, .unset, .unset, .unset, .unset, .unset, .unset, .unset, .unset, .unset, .unset, .unset, .unset, .unset, .unset, .unset] [(.int w1.toInt32)])
  refine own_istore (pc' := 104) X284 hx (hb hby at_102) (Ls' := #[.val (.int q0), .val (.int q1), .val (.int q2), .val (.int q3), .val (.int q4), .val (.int q5), .val (.int c0), .val (.int c1), .val (.int c2), .val (.int c3), .val (.int c4), .val (.int (2 : Int32)), .val (.int st.toInt32), .val (.ref a273), .val (.ref a277), .val (.ref a280), .val (.int w1.toInt32), .unset, .unset, .unset, .unset, .unset, .unset, .unset, .unset, .unset, .unset, .unset, .unset, .unset, .unset, .unset, .unset, .unset, .unset, .unset, .unset, .unset]) rfl rfl ?_
  refine own_aload (pc' := 106) X284 hx (hb hby at_104) rfl rfl rfl ?_
  obtain ⟨cq288, kq288, q288a, q288b, q288c⟩ := isOf hZ rfl EX283
  obtain ⟨_, _, ⟨T287, L287, k287, n287⟩, -, X287, ⟨Lc287, hQ287, l287, y287, z287⟩, st287⟩ := X284.virtualBack hx (y := (⟨"com/example/dipper/dipper/core/LineEnds", "lineFeeds", "()J"⟩ : MethodName)) (z := (⟨"com/example/dipper/dipper/core/LineEnds", "lineFeeds", "()J"⟩ : MethodName)) hown (mvT hZ (hw _ (List.mem_of_getElem? (i := 24) rfl))) (mvT hZ (hw _ (List.mem_of_getElem? (i := 25) rfl))) (notFace_of_selects (args := #[]) (mvT hZ (hw _ (List.mem_of_getElem? (i := 27) rfl)))) (mvT hZ (hw _ (List.mem_of_getElem? (i := 27) rfl))) (mvT hZ (hw _ (List.mem_of_getElem? (i := 26) rfl))) (by decide) (backOf (W := 0) (rm_6 l Z a0 hw [] a280 lf1 T284.heap n0 Z283 FL283) hZ (hw _ (List.mem_of_getElem? (i := 28) rfl)) (hw _ (List.mem_of_getElem? (i := 8) rfl)) (by decide) (by decide)) q288a q288c (g := (mkF m 106 #[.val (.int q0), .val (.int q1), .val (.int q2), .val (.int q3), .val (.int q4), .val (.int q5), .val (.int c0), .val (.int c1), .val (.int c2), .val (.int c3), .val (.int c4), .val (.int (2 : Int32)), .val (.int st.toInt32), .val (.ref a273), .val (.ref a277), .val (.ref a280), .val (.int w1.toInt32), .unset, .unset, .unset, .unset, .unset, .unset, .unset, .unset, .unset, .unset, .unset, .unset, .unset, .unset, .unset, .unset, .unset, .unset, .unset, .unset, .unset] [(.ref a280)])) rfl (by rw [hml]; rfl) (Steps.refl _) (argsL := []) (rest := []) (lenOf pd_6 rfl) rfl (by show 2 * 0 + _ ≤ _; exact Nat.le_of_eq rfl) (hb hby at_106) (fun _ _ => ⟨rfl, rfl, (by decide : 3 + 0 ≤ _), (by decide : 7 + 0 ≤ _)⟩)
  dsimp only [Pt.U, Pt.locs, Pt.cells, Pt.slots] at X287 l287 y287 z287 st287 hQ287
  subst l287 y287 z287
  obtain ⟨rfl, M287, eg286⟩ := hQ287
  have N287 := Fr.app N284 M287
  refine Goes.aft st287 ?_
  show Goes p e below s 24 128 (Q_0 Z q0 q1 q2 q3 q4 q5 h0 n0) T287 (mkF m 109 #[.val (.int q0), .val (.int q1), .val (.int q2), .val (.int q3), .val (.int q4), .val (.int q5), .val (.int c0), .val (.int c1), .val (.int c2), .val (.int c3), .val (.int c4), .val (.int (2 : Int32)), .val (.int st.toInt32), .val (.ref a273), .val (.ref a277), .val (.ref a280), .val (.int w1.toInt32), .unset, .unset, .unset, .unset, .unset, .unset, .unset, .unset, .unset, .unset, .unset, .unset, .unset, .unset, .unset, .unset, .unset, .unset, .unset, .unset, .unset] [(.long lf1)])
  refine own_lstore (pc' := 111) X287 hx (hb hby at_109) (Ls' := #[.val (.int q0), .val (.int q1), .val (.int q2), .val (.int q3), .val (.int q4), .val (.int q5), .val (.int c0), .val (.int c1), .val (.int c2), .val (.int c3), .val (.int c4), .val (.int (2 : Int32)), .val (.int st.toInt32), .val (.ref a273), .val (.ref a277), .val (.ref a280), .val (.int w1.toInt32), .val (.long lf1), .second, .unset, .unset, .unset, .unset, .unset, .unset, .unset, .unset, .unset, .unset, .unset, .unset, .unset, .unset, .unset, .unset, .unset, .unset, .unset]) rfl rfl ?_
  refine own_aload (pc' := 113) X287 hx (hb hby at_111) rfl rfl rfl ?_
  refine own_aload (pc' := 115) X287 hx (hb hby at_113) rfl rfl rfl ?_
  refine own_iload (pc' := 117) X287 hx (hb hby at_115) rfl rfl ?_
  refine own_iconst (pc' := 118) X287 hx (hb hby at_117) (v := (2 : Int32)) rfl rfl ?_
  obtain ⟨cq291, kq291, q291a, q291b, q291c⟩ := isOf hZ eg286 EX283
  obtain ⟨_, _, ⟨T290, L290, k290, n290⟩, -, X290, ⟨Lc290, hQ290, l290, y290, z290⟩, st290⟩ := X287.virtualBack hx (y := (⟨"com/example/dipper/dipper/core/LineEnds", "normalize", "([CII)I"⟩ : MethodName)) (z := (⟨"com/example/dipper/dipper/core/LineEnds", "normalize", "([CII)I"⟩ : MethodName)) hown (mvT hZ (hw _ (List.mem_of_getElem? (i := 15) rfl))) (mvT hZ (hw _ (List.mem_of_getElem? (i := 16) rfl))) (notFace_of_selects (args := #[]) (mvT hZ (hw _ (List.mem_of_getElem? (i := 18) rfl)))) (mvT hZ (hw _ (List.mem_of_getElem? (i := 18) rfl))) (mvT hZ (hw _ (List.mem_of_getElem? (i := 17) rfl))) (by decide) (backOf (W := 0) (rm_7 l Z a0 hw [] a280 a277 [c3, c4] af1 lf1 st 2 T284.heap n0 Z283 FA283 FL283 EX283 P283_a277 hst (by simp) (by simp) (by simp only [List.mem_cons, List.not_mem_nil, or_false]; rintro v (rfl | rfl) <;> assumption) (Ne.symm le_a277) ge_a280 ge_a277) hZ (hw _ (List.mem_of_getElem? (i := 19) rfl)) (hw _ (List.mem_of_getElem? (i := 8) rfl)) (by decide) (by decide)) q291a q291c (g := (mkF m 118 #[.val (.int q0), .val (.int q1), .val (.int q2), .val (.int q3), .val (.int q4), .val (.int q5), .val (.int c0), .val (.int c1), .val (.int c2), .val (.int c3), .val (.int c4), .val (.int (2 : Int32)), .val (.int st.toInt32), .val (.ref a273), .val (.ref a277), .val (.ref a280), .val (.int w1.toInt32), .val (.long lf1), .second, .unset, .unset, .unset, .unset, .unset, .unset, .unset, .unset, .unset, .unset, .unset, .unset, .unset, .unset, .unset, .unset, .unset, .unset, .unset] [(.int (2 : Int32)), (.int st.toInt32), (.ref a277), (.ref a280)])) rfl (by rw [hml]; rfl) (Steps.refl _) (argsL := [(.ref a277), (.int st.toInt32), (.int (2 : Int32))]) (rest := []) (lenOf pd_7 rfl) rfl (by show 2 * 0 + _ ≤ _; exact Nat.le_of_eq rfl) (hb hby at_118) (fun _ _ => ⟨rfl, eg286, (by decide : 3 + 0 ≤ _), (by decide : 7 + 0 ≤ _)⟩)
  dsimp only [Pt.U, Pt.locs, Pt.cells, Pt.slots] at X290 l290 y290 z290 st290 hQ290
  subst l290 y290 z290
  obtain ⟨rfl, M290, K289, EX289, FA289, FL289, P289⟩ := hQ290
  have N290 := Fr.app N287 M290
  refine Goes.aft st290 ?_
  show Goes p e below s 24 128 (Q_0 Z q0 q1 q2 q3 q4 q5 h0 n0) T290 (mkF m 121 #[.val (.int q0), .val (.int q1), .val (.int q2), .val (.int q3), .val (.int q4), .val (.int q5), .val (.int c0), .val (.int c1), .val (.int c2), .val (.int c3), .val (.int c4), .val (.int (2 : Int32)), .val (.int st.toInt32), .val (.ref a273), .val (.ref a277), .val (.ref a280), .val (.int w1.toInt32), .val (.long lf1), .second, .unset, .unset, .unset, .unset, .unset, .unset, .unset, .unset, .unset, .unset, .unset, .unset, .unset, .unset, .unset, .unset, .unset, .unset, .unset] [(.int (own_nl (2 - st) st st [c3, c4] af1 lf1).1.toInt32)])
  have Z289 : n0 ≤ Array.size T290.heap := Nat.le_trans Z283 K289.1
  have P289_a273 := P283.keep K289 (ninS le_a273 (ninS ne_a273_a277 nin0))
  obtain ⟨⟨w2, vs2, af2, lf2⟩, ht2⟩ : ∃ t, t = (own_nl (2 - st) st st [c3, c4] af1 lf1) := ⟨_, rfl⟩
  rw [← ht2] at FA289 FL289 P289
  rw [← ht2]
  dsimp only at FA289 FL289 P289
  show Goes p e below s 24 128 (Q_0 Z q0 q1 q2 q3 q4 q5 h0 n0) T290 (mkF m 121 #[.val (.int q0), .val (.int q1), .val (.int q2), .val (.int q3), .val (.int q4), .val (.int q5), .val (.int c0), .val (.int c1), .val (.int c2), .val (.int c3), .val (.int c4), .val (.int (2 : Int32)), .val (.int st.toInt32), .val (.ref a273), .val (.ref a277), .val (.ref a280), .val (.int w1.toInt32), .val (.long lf1), .second, .unset, .unset, .unset, .unset, .unset, .unset, .unset, .unset, .unset, .unset, .unset, .unset, .unset, .unset, .unset, .unset, .unset, .unset, .unset] [(.int w2.toInt32)])
  refine own_istore (pc' := 123) X290 hx (hb hby at_121) (Ls' := #[.val (.int q0), .val (.int q1), .val (.int q2), .val (.int q3), .val (.int q4), .val (.int q5), .val (.int c0), .val (.int c1), .val (.int c2), .val (.int c3), .val (.int c4), .val (.int (2 : Int32)), .val (.int st.toInt32), .val (.ref a273), .val (.ref a277), .val (.ref a280), .val (.int w1.toInt32), .val (.long lf1), .second, .val (.int w2.toInt32), .unset, .unset, .unset, .unset, .unset, .unset, .unset, .unset, .unset, .unset, .unset, .unset, .unset, .unset, .unset, .unset, .unset, .unset]) rfl rfl ?_
  refine own_aload (pc' := 125) X290 hx (hb hby at_123) rfl rfl rfl ?_
  obtain ⟨cq294, kq294, q294a, q294b, q294c⟩ := isOf hZ rfl EX289
  obtain ⟨_, _, ⟨T293, L293, k293, n293⟩, -, X293, ⟨Lc293, hQ293, l293, y293, z293⟩, st293⟩ := X290.virtualBack hx (y := (⟨"com/example/dipper/dipper/core/LineEnds", "lineFeeds", "()J"⟩ : MethodName)) (z := (⟨"com/example/dipper/dipper/core/LineEnds", "lineFeeds", "()J"⟩ : MethodName)) hown (mvT hZ (hw _ (List.mem_of_getElem? (i := 24) rfl))) (mvT hZ (hw _ (List.mem_of_getElem? (i := 25) rfl))) (notFace_of_selects (args := #[]) (mvT hZ (hw _ (List.mem_of_getElem? (i := 27) rfl)))) (mvT hZ (hw _ (List.mem_of_getElem? (i := 27) rfl))) (mvT hZ (hw _ (List.mem_of_getElem? (i := 26) rfl))) (by decide) (backOf (W := 0) (rm_6 l Z a0 hw [] a280 lf2 T290.heap n0 Z289 FL289) hZ (hw _ (List.mem_of_getElem? (i := 28) rfl)) (hw _ (List.mem_of_getElem? (i := 8) rfl)) (by decide) (by decide)) q294a q294c (g := (mkF m 125 #[.val (.int q0), .val (.int q1), .val (.int q2), .val (.int q3), .val (.int q4), .val (.int q5), .val (.int c0), .val (.int c1), .val (.int c2), .val (.int c3), .val (.int c4), .val (.int (2 : Int32)), .val (.int st.toInt32), .val (.ref a273), .val (.ref a277), .val (.ref a280), .val (.int w1.toInt32), .val (.long lf1), .second, .val (.int w2.toInt32), .unset, .unset, .unset, .unset, .unset, .unset, .unset, .unset, .unset, .unset, .unset, .unset, .unset, .unset, .unset, .unset, .unset, .unset] [(.ref a280)])) rfl (by rw [hml]; rfl) (Steps.refl _) (argsL := []) (rest := []) (lenOf pd_6 rfl) rfl (by show 2 * 0 + _ ≤ _; exact Nat.le_of_eq rfl) (hb hby at_125) (fun _ _ => ⟨rfl, rfl, (by decide : 3 + 0 ≤ _), (by decide : 7 + 0 ≤ _)⟩)
  dsimp only [Pt.U, Pt.locs, Pt.cells, Pt.slots] at X293 l293 y293 z293 st293 hQ293
  subst l293 y293 z293
  obtain ⟨rfl, M293, eg292⟩ := hQ293
  have N293 := Fr.app N290 M293
  refine Goes.aft st293 ?_
  show Goes p e below s 24 128 (Q_0 Z q0 q1 q2 q3 q4 q5 h0 n0) T293 (mkF m 128 #[.val (.int q0), .val (.int q1), .val (.int q2), .val (.int q3), .val (.int q4), .val (.int q5), .val (.int c0), .val (.int c1), .val (.int c2), .val (.int c3), .val (.int c4), .val (.int (2 : Int32)), .val (.int st.toInt32), .val (.ref a273), .val (.ref a277), .val (.ref a280), .val (.int w1.toInt32), .val (.long lf1), .second, .val (.int w2.toInt32), .unset, .unset, .unset, .unset, .unset, .unset, .unset, .unset, .unset, .unset, .unset, .unset, .unset, .unset, .unset, .unset, .unset, .unset] [(.long lf2)])
  refine own_lstore (pc' := 130) X293 hx (hb hby at_128) (Ls' := #[.val (.int q0), .val (.int q1), .val (.int q2), .val (.int q3), .val (.int q4), .val (.int q5), .val (.int c0), .val (.int c1), .val (.int c2), .val (.int c3), .val (.int c4), .val (.int (2 : Int32)), .val (.int st.toInt32), .val (.ref a273), .val (.ref a277), .val (.ref a280), .val (.int w1.toInt32), .val (.long lf1), .second, .val (.int w2.toInt32), .val (.long lf2), .second, .unset, .unset, .unset, .unset, .unset, .unset, .unset, .unset, .unset, .unset, .unset, .unset, .unset, .unset, .unset, .unset]) rfl rfl ?_
  refine own_iload (pc' := 132) X293 hx (hb hby at_130) rfl rfl ?_
  refine own_ifN (pc' := 135) X293 hx (hb hby at_132) (by decide) rfl ?_
  refine own_iconst (pc' := 136) X293 hx (hb hby at_135) (v := (1 : Int32)) rfl rfl ?_
  refine own_goto X293 hx (hb hby at_136) (by decide) (pc' := 140) (by decide) ?_
  refine own_istore (pc' := 142) X293 hx (hb hby at_140) (Ls' := #[.val (.int q0), .val (.int q1), .val (.int q2), .val (.int q3), .val (.int q4), .val (.int q5), .val (.int c0), .val (.int c1), .val (.int c2), .val (.int c3), .val (.int c4), .val (.int (2 : Int32)), .val (.int st.toInt32), .val (.ref a273), .val (.ref a277), .val (.ref a280), .val (.int w1.toInt32), .val (.long lf1), .second, .val (.int w2.toInt32), .val (.long lf2), .second, .val (.int (1 : Int32)), .unset, .unset, .unset, .unset, .unset, .unset, .unset, .unset, .unset, .unset, .unset, .unset, .unset, .unset, .unset]) rfl rfl ?_
  refine own_iload (pc' := 144) X293 hx (hb hby at_142) rfl rfl ?_
  refine own_iconst (pc' := 145) X293 hx (hb hby at_144) (v := (1 : Int32)) rfl rfl ?_
  refine own_icmpN (pc' := 148) X293 hx (hb hby at_145) (by decide) rfl ?_
  refine own_iload (pc' := 150) X293 hx (hb hby at_148) rfl rfl ?_
  refine own_iload (pc' := 152) X293 hx (hb hby at_150) rfl rfl ?_
  obtain ⟨_, _, ⟨T296, L296, k296, n296⟩, -, X296, ⟨Lc296, hQ296, l296, y296, z296⟩, st296⟩ := Jvm.LawKit.callS X293 hx (y := (⟨"com/example/dipper/dipper/core/LineEndsNormalizePinLaw", "pairs", "(CC)Z"⟩ : MethodName)) hown (mvT hZ (hw _ (List.mem_of_getElem? (i := 29) rfl))) (mvT hZ (hw _ (List.mem_of_getElem? (i := 30) rfl))) (mvT hZ (hw _ (List.mem_of_getElem? (i := 2) rfl))) (mvT hZ (hw _ (List.mem_of_getElem? (i := 31) rfl))) (by decide) (backOf (W := 0) (rm_3 l Z a0 hw [] c0 c1 T290.heap n0 Z289) hZ (hw _ (List.mem_of_getElem? (i := 31) rfl)) (hw _ (List.mem_of_getElem? (i := 2) rfl)) (by decide) (by decide)) (g := (mkF m 152 #[.val (.int q0), .val (.int q1), .val (.int q2), .val (.int q3), .val (.int q4), .val (.int q5), .val (.int c0), .val (.int c1), .val (.int c2), .val (.int c3), .val (.int c4), .val (.int (2 : Int32)), .val (.int st.toInt32), .val (.ref a273), .val (.ref a277), .val (.ref a280), .val (.int w1.toInt32), .val (.long lf1), .second, .val (.int w2.toInt32), .val (.long lf2), .second, .val (.int (1 : Int32)), .unset, .unset, .unset, .unset, .unset, .unset, .unset, .unset, .unset, .unset, .unset, .unset, .unset, .unset, .unset] [(.int c1), (.int c0)])) rfl (by rw [hml]; rfl) (argsL := [(.int c0), (.int c1)]) (rest := []) (lenOf pd_3 rfl) rfl (by show 2 * 0 + _ ≤ _; exact Nat.le_of_eq rfl) (hb hby at_152) (fun _ _ => ⟨rfl, eg292, (by decide : 3 + 0 ≤ _), (by decide : 7 + 0 ≤ _)⟩)
  dsimp only [Pt.U, Pt.locs, Pt.cells, Pt.slots] at X296 l296 y296 z296 st296 hQ296
  subst l296 y296 z296
  obtain ⟨rfl, M296, ep295⟩ := hQ296
  have N296 := Fr.app N293 M296
  refine Goes.pre st296 ?_
  show Goes p e below s 24 128 (Q_0 Z q0 q1 q2 q3 q4 q5 h0 n0) T296 (mkF m 155 #[.val (.int q0), .val (.int q1), .val (.int q2), .val (.int q3), .val (.int q4), .val (.int q5), .val (.int c0), .val (.int c1), .val (.int c2), .val (.int c3), .val (.int c4), .val (.int (2 : Int32)), .val (.int st.toInt32), .val (.ref a273), .val (.ref a277), .val (.ref a280), .val (.int w1.toInt32), .val (.long lf1), .second, .val (.int w2.toInt32), .val (.long lf2), .second, .val (.int (1 : Int32)), .unset, .unset, .unset, .unset, .unset, .unset, .unset, .unset, .unset, .unset, .unset, .unset, .unset, .unset, .unset] [(.int (own_pairs c0 c1))])
  by_cases hc155 : (own_pairs c0 c1) = (0 : Int32)
  · refine own_ifN (pc' := 158) X296 hx (hb hby at_155) ((if0 _ _).trans (teq hc155).2) rfl ?_
    refine own_iconst (pc' := 159) X296 hx (hb hby at_158) (v := (1 : Int32)) rfl rfl ?_
    refine own_goto X296 hx (hb hby at_159) (by decide) (pc' := 163) (by decide) ?_
    refine own_istore (pc' := 165) X296 hx (hb hby at_163) (Ls' := #[.val (.int q0), .val (.int q1), .val (.int q2), .val (.int q3), .val (.int q4), .val (.int q5), .val (.int c0), .val (.int c1), .val (.int c2), .val (.int c3), .val (.int c4), .val (.int (2 : Int32)), .val (.int st.toInt32), .val (.ref a273), .val (.ref a277), .val (.ref a280), .val (.int w1.toInt32), .val (.long lf1), .second, .val (.int w2.toInt32), .val (.long lf2), .second, .val (.int (1 : Int32)), .val (.int (1 : Int32)), .unset, .unset, .unset, .unset, .unset, .unset, .unset, .unset, .unset, .unset, .unset, .unset, .unset, .unset]) rfl rfl ?_
    refine own_iload (pc' := 167) X296 hx (hb hby at_165) rfl rfl ?_
    refine own_iconst (pc' := 168) X296 hx (hb hby at_167) (v := (2 : Int32)) rfl rfl ?_
    refine own_icmpY X296 hx (hb hby at_168) (by decide) (by decide) (pc' := 185) (by decide) ?_
    refine own_iconst (pc' := 186) X296 hx (hb hby at_185) (v := (0 : Int32)) rfl rfl ?_
    refine own_istore (pc' := 188) X296 hx (hb hby at_186) (Ls' := #[.val (.int q0), .val (.int q1), .val (.int q2), .val (.int q3), .val (.int q4), .val (.int q5), .val (.int c0), .val (.int c1), .val (.int c2), .val (.int c3), .val (.int c4), .val (.int (2 : Int32)), .val (.int st.toInt32), .val (.ref a273), .val (.ref a277), .val (.ref a280), .val (.int w1.toInt32), .val (.long lf1), .second, .val (.int w2.toInt32), .val (.long lf2), .second, .val (.int (1 : Int32)), .val (.int (1 : Int32)), .val (.int (0 : Int32)), .unset, .unset, .unset, .unset, .unset, .unset, .unset, .unset, .unset, .unset, .unset, .unset, .unset]) rfl rfl ?_
    refine own_iconst (pc' := 189) X296 hx (hb hby at_188) (v := (3 : Int32)) rfl rfl ?_
    have hA := ht1.trans (own_A2T c0 c1 c2 hc155)
    simp only [Prod.mk.injEq] at hA
    obtain ⟨rfl, rfl, rfl, rfl⟩ := hA
    show Goes p e below s 24 128 (Q_0 Z q0 q1 q2 q3 q4 q5 h0 n0) T296 (mkF m 189 #[.val (.int q0), .val (.int q1), .val (.int q2), .val (.int q3), .val (.int q4), .val (.int q5), .val (.int c0), .val (.int c1), .val (.int c2), .val (.int c3), .val (.int c4), .val (.int (2 : Int32)), .val (.int st.toInt32), .val (.ref a273), .val (.ref a277), .val (.ref a280), .val (.int (2 : Int32)), .val (.long ((0 : Int64) + own_l1 (own_out c0) + own_l1 (own_out c1))), .second, .val (.int w2.toInt32), .val (.long lf2), .second, .val (.int (1 : Int32)), .val (.int (1 : Int32)), .val (.int (0 : Int32)), .unset, .unset, .unset, .unset, .unset, .unset, .unset, .unset, .unset, .unset, .unset, .unset, .unset] [(.int (3 : Int32))])
    refine own_newarray (pc' := 191) X296 hx hZ (hw _ (List.mem_of_getElem? (i := 5) rfl)) ep295 (hb hby at_189) (k := 3) (cap := 3) rfl (by decide) rfl (by decide) (by decide) (by decide) (by decide) rfl ?_
    intro T297 h297 a297 g297 X297 e297 E297 P297
    show Goes p e below s 24 128 (Q_0 Z q0 q1 q2 q3 q4 q5 h0 n0) T297 (mkF m 191 #[.val (.int q0), .val (.int q1), .val (.int q2), .val (.int q3), .val (.int q4), .val (.int q5), .val (.int c0), .val (.int c1), .val (.int c2), .val (.int c3), .val (.int c4), .val (.int (2 : Int32)), .val (.int st.toInt32), .val (.ref a273), .val (.ref a277), .val (.ref a280), .val (.int (2 : Int32)), .val (.long ((0 : Int64) + own_l1 (own_out c0) + own_l1 (own_out c1))), .second, .val (.int w2.toInt32), .val (.long lf2), .second, .val (.int (1 : Int32)), .val (.int (1 : Int32)), .val (.int (0 : Int32)), .unset, .unset, .unset, .unset, .unset, .unset, .unset, .unset, .unset, .unset, .unset, .unset, .unset] [(.ref a297)])
    have P297_a277 := P289.ext E297
    have P297_a273 := P289_a273.ext E297
    have ne_a277_a297 : a277 ≠ a297 := fun q => absurd (q ▸ P289.lt) (by rw [g297]; exact Nat.lt_irrefl _)
    have ne_a273_a297 : a273 ≠ a297 := fun q => absurd (q ▸ P289_a273.lt) (by rw [g297]; exact Nat.lt_irrefl _)
    have ge_a297 : n0 ≤ a297 := by rw [g297]; exact Z289
    have Z297 : n0 ≤ Array.size h297 := Nat.le_trans Z289 E297.1
    refine own_astore (pc' := 193) X297 hx (hb hby at_191) rfl (Ls' := #[.val (.int q0), .val (.int q1), .val (.int q2), .val (.int q3), .val (.int q4), .val (.int q5), .val (.int c0), .val (.int c1), .val (.int c2), .val (.int c3), .val (.int c4), .val (.int (2 : Int32)), .val (.int st.toInt32), .val (.ref a273), .val (.ref a277), .val (.ref a280), .val (.int (2 : Int32)), .val (.long ((0 : Int64) + own_l1 (own_out c0) + own_l1 (own_out c1))), .second, .val (.int w2.toInt32), .val (.long lf2), .second, .val (.int (1 : Int32)), .val (.int (1 : Int32)), .val (.int (0 : Int32)), .val (.ref a297), .unset, .unset, .unset, .unset, .unset, .unset, .unset, .unset, .unset, .unset, .unset, .unset]) rfl rfl ?_
    refine own_iconst (pc' := 194) X297 hx (hb hby at_193) (v := (0 : Int32)) rfl rfl ?_
    refine own_istore (pc' := 196) X297 hx (hb hby at_194) (Ls' := #[.val (.int q0), .val (.int q1), .val (.int q2), .val (.int q3), .val (.int q4), .val (.int q5), .val (.int c0), .val (.int c1), .val (.int c2), .val (.int c3), .val (.int c4), .val (.int (2 : Int32)), .val (.int st.toInt32), .val (.ref a273), .val (.ref a277), .val (.ref a280), .val (.int (2 : Int32)), .val (.long ((0 : Int64) + own_l1 (own_out c0) + own_l1 (own_out c1))), .second, .val (.int w2.toInt32), .val (.long lf2), .second, .val (.int (1 : Int32)), .val (.int (1 : Int32)), .val (.int (0 : Int32)), .val (.ref a297), .val (.int (0 : Int32)), .unset, .unset, .unset, .unset, .unset, .unset, .unset, .unset, .unset, .unset, .unset]) rfl rfl ?_
    refine own_iload (pc' := 198) X297 hx (hb hby at_196) rfl rfl ?_
    refine own_ifN (pc' := 201) X297 hx (hb hby at_198) (by decide) rfl ?_
    refine own_aload (pc' := 203) X297 hx (hb hby at_201) rfl rfl rfl ?_
    refine own_iload (pc' := 205) X297 hx (hb hby at_203) rfl rfl ?_
    refine own_iload (pc' := 207) X297 hx (hb hby at_205) rfl rfl ?_
    obtain ⟨_, _, ⟨T299, L299, k299, n299⟩, -, X299, ⟨Lc299, hQ299, l299, y299, z299⟩, st299⟩ := Jvm.LawKit.callS X297 hx (y := (⟨"com/example/dipper/dipper/core/LineEndsNormalizePinLaw", "out", "(C)C"⟩ : MethodName)) hown (mvT hZ (hw _ (List.mem_of_getElem? (i := 32) rfl))) (mvT hZ (hw _ (List.mem_of_getElem? (i := 33) rfl))) (mvT hZ (hw _ (List.mem_of_getElem? (i := 2) rfl))) (mvT hZ (hw _ (List.mem_of_getElem? (i := 34) rfl))) (by decide) (backOf (W := 2) (rm_2 l Z a0 hw [] c0 h297 n0 Z297 hC0) hZ (hw _ (List.mem_of_getElem? (i := 34) rfl)) (hw _ (List.mem_of_getElem? (i := 2) rfl)) (by decide) (by decide)) (g := (mkF m 207 #[.val (.int q0), .val (.int q1), .val (.int q2), .val (.int q3), .val (.int q4), .val (.int q5), .val (.int c0), .val (.int c1), .val (.int c2), .val (.int c3), .val (.int c4), .val (.int (2 : Int32)), .val (.int st.toInt32), .val (.ref a273), .val (.ref a277), .val (.ref a280), .val (.int (2 : Int32)), .val (.long ((0 : Int64) + own_l1 (own_out c0) + own_l1 (own_out c1))), .second, .val (.int w2.toInt32), .val (.long lf2), .second, .val (.int (1 : Int32)), .val (.int (1 : Int32)), .val (.int (0 : Int32)), .val (.ref a297), .val (.int (0 : Int32)), .unset, .unset, .unset, .unset, .unset, .unset, .unset, .unset, .unset, .unset, .unset] [(.int c0), (.int (0 : Int32)), (.ref a297)])) rfl (by rw [hml]; rfl) (argsL := [(.int c0)]) (rest := [(.int (0 : Int32)), (.ref a297)]) (lenOf pd_2 rfl) rfl (by show 2 * 0 + _ ≤ _; exact Nat.le_of_eq rfl) (hb hby at_207) (fun _ _ => ⟨rfl, e297, (by decide : 4 + 0 ≤ _), (by decide : 10 + 0 ≤ _)⟩)
    dsimp only [Pt.U, Pt.locs, Pt.cells, Pt.slots] at X299 l299 y299 z299 st299 hQ299
    subst l299 y299 z299
    obtain ⟨rfl, M299, eo298⟩ := hQ299
    have N299 := Fr.app N296 M299
    refine Goes.pre st299 ?_
    show Goes p e below s 24 128 (Q_0 Z q0 q1 q2 q3 q4 q5 h0 n0) T299 (mkF m 210 #[.val (.int q0), .val (.int q1), .val (.int q2), .val (.int q3), .val (.int q4), .val (.int q5), .val (.int c0), .val (.int c1), .val (.int c2), .val (.int c3), .val (.int c4), .val (.int (2 : Int32)), .val (.int st.toInt32), .val (.ref a273), .val (.ref a277), .val (.ref a280), .val (.int (2 : Int32)), .val (.long ((0 : Int64) + own_l1 (own_out c0) + own_l1 (own_out c1))), .second, .val (.int w2.toInt32), .val (.long lf2), .second, .val (.int (1 : Int32)), .val (.int (1 : Int32)), .val (.int (0 : Int32)), .val (.ref a297), .val (.int (0 : Int32)), .unset, .unset, .unset, .unset, .unset, .unset, .unset, .unset, .unset, .unset, .unset] [(.int (own_out c0)), (.int (0 : Int32)), (.ref a297)])
    refine own_castore (pc' := 211) X299 hx hZ eo298 P297 (hb hby at_210) (own_nar (own_outC hC0)) (by decide) (k := 0) (by decide) (by simp) rfl ?_
    intro T300 h300 X300 e300 W300 P300
    have N300 := Fr.snoc X300 N299 ge_a297
    have P300_a277 := P297_a277.other W300 ne_a277_a297
    have P300_a273 := P297_a273.other W300 ne_a273_a297
    have Z300 : n0 ≤ Array.size h300 := by rw [W300.size]; exact Z297
    show Goes p e below s 24 128 (Q_0 Z q0 q1 q2 q3 q4 q5 h0 n0) T300 (mkF m 211 #[.val (.int q0), .val (.int q1), .val (.int q2), .val (.int q3), .val (.int q4), .val (.int q5), .val (.int c0), .val (.int c1), .val (.int c2), .val (.int c3), .val (.int c4), .val (.int (2 : Int32)), .val (.int st.toInt32), .val (.ref a273), .val (.ref a277), .val (.ref a280), .val (.int (2 : Int32)), .val (.long ((0 : Int64) + own_l1 (own_out c0) + own_l1 (own_out c1))), .second, .val (.int w2.toInt32), .val (.long lf2), .second, .val (.int (1 : Int32)), .val (.int (1 : Int32)), .val (.int (0 : Int32)), .val (.ref a297), .val (.int (0 : Int32)), .unset, .unset, .unset, .unset, .unset, .unset, .unset, .unset, .unset, .unset, .unset] [])
    have P300x : own_PA Z h300 a297 .char [(own_out c0), (0 : Int32), (0 : Int32)] := P300
    refine own_iinc (pc' := 214) X300 hx (hb hby at_211) rfl (y := (1 : Int32)) (by decide) (Ls' := #[.val (.int q0), .val (.int q1), .val (.int q2), .val (.int q3), .val (.int q4), .val (.int q5), .val (.int c0), .val (.int c1), .val (.int c2), .val (.int c3), .val (.int c4), .val (.int (2 : Int32)), .val (.int st.toInt32), .val (.ref a273), .val (.ref a277), .val (.ref a280), .val (.int (2 : Int32)), .val (.long ((0 : Int64) + own_l1 (own_out c0) + own_l1 (own_out c1))), .second, .val (.int w2.toInt32), .val (.long lf2), .second, .val (.int (1 : Int32)), .val (.int (1 : Int32)), .val (.int (0 : Int32)), .val (.ref a297), .val (.int (1 : Int32)), .unset, .unset, .unset, .unset, .unset, .unset, .unset, .unset, .unset, .unset, .unset]) rfl rfl ?_
    refine own_iload (pc' := 216) X300 hx (hb hby at_214) rfl rfl ?_
    refine own_ifN (pc' := 219) X300 hx (hb hby at_216) (by decide) rfl ?_
    refine own_aload (pc' := 221) X300 hx (hb hby at_219) rfl rfl rfl ?_
    refine own_iload (pc' := 223) X300 hx (hb hby at_221) rfl rfl ?_
    refine own_iload (pc' := 225) X300 hx (hb hby at_223) rfl rfl ?_
    obtain ⟨_, _, ⟨T302, L302, k302, n302⟩, -, X302, ⟨Lc302, hQ302, l302, y302, z302⟩, st302⟩ := Jvm.LawKit.callS X300 hx (y := (⟨"com/example/dipper/dipper/core/LineEndsNormalizePinLaw", "out", "(C)C"⟩ : MethodName)) hown (mvT hZ (hw _ (List.mem_of_getElem? (i := 32) rfl))) (mvT hZ (hw _ (List.mem_of_getElem? (i := 33) rfl))) (mvT hZ (hw _ (List.mem_of_getElem? (i := 2) rfl))) (mvT hZ (hw _ (List.mem_of_getElem? (i := 34) rfl))) (by decide) (backOf (W := 2) (rm_2 l Z a0 hw [] c1 h300 n0 Z300 hC1) hZ (hw _ (List.mem_of_getElem? (i := 34) rfl)) (hw _ (List.mem_of_getElem? (i := 2) rfl)) (by decide) (by decide)) (g := (mkF m 225 #[.val (.int q0), .val (.int q1), .val (.int q2), .val (.int q3), .val (.int q4), .val (.int q5), .val (.int c0), .val (.int c1), .val (.int c2), .val (.int c3), .val (.int c4), .val (.int (2 : Int32)), .val (.int st.toInt32), .val (.ref a273), .val (.ref a277), .val (.ref a280), .val (.int (2 : Int32)), .val (.long ((0 : Int64) + own_l1 (own_out c0) + own_l1 (own_out c1))), .second, .val (.int w2.toInt32), .val (.long lf2), .second, .val (.int (1 : Int32)), .val (.int (1 : Int32)), .val (.int (0 : Int32)), .val (.ref a297), .val (.int (1 : Int32)), .unset, .unset, .unset, .unset, .unset, .unset, .unset, .unset, .unset, .unset, .unset] [(.int c1), (.int (1 : Int32)), (.ref a297)])) rfl (by rw [hml]; rfl) (argsL := [(.int c1)]) (rest := [(.int (1 : Int32)), (.ref a297)]) (lenOf pd_2 rfl) rfl (by show 2 * 0 + _ ≤ _; exact Nat.le_of_eq rfl) (hb hby at_225) (fun _ _ => ⟨rfl, e300, (by decide : 4 + 0 ≤ _), (by decide : 10 + 0 ≤ _)⟩)
    dsimp only [Pt.U, Pt.locs, Pt.cells, Pt.slots] at X302 l302 y302 z302 st302 hQ302
    subst l302 y302 z302
    obtain ⟨rfl, M302, eo301⟩ := hQ302
    have N302 := Fr.app N300 M302
    refine Goes.pre st302 ?_
    show Goes p e below s 24 128 (Q_0 Z q0 q1 q2 q3 q4 q5 h0 n0) T302 (mkF m 228 #[.val (.int q0), .val (.int q1), .val (.int q2), .val (.int q3), .val (.int q4), .val (.int q5), .val (.int c0), .val (.int c1), .val (.int c2), .val (.int c3), .val (.int c4), .val (.int (2 : Int32)), .val (.int st.toInt32), .val (.ref a273), .val (.ref a277), .val (.ref a280), .val (.int (2 : Int32)), .val (.long ((0 : Int64) + own_l1 (own_out c0) + own_l1 (own_out c1))), .second, .val (.int w2.toInt32), .val (.long lf2), .second, .val (.int (1 : Int32)), .val (.int (1 : Int32)), .val (.int (0 : Int32)), .val (.ref a297), .val (.int (1 : Int32)), .unset, .unset, .unset, .unset, .unset, .unset, .unset, .unset, .unset, .unset, .unset] [(.int (own_out c1)), (.int (1 : Int32)), (.ref a297)])
    refine own_castore (pc' := 229) X302 hx hZ eo301 P300x (hb hby at_228) (own_nar (own_outC hC1)) (by decide) (k := 1) (by decide) (by simp) rfl ?_
    intro T303 h303 X303 e303 W303 P303
    have N303 := Fr.snoc X303 N302 ge_a297
    have P303_a277 := P300_a277.other W303 ne_a277_a297
    have P303_a273 := P300_a273.other W303 ne_a273_a297
    have Z303 : n0 ≤ Array.size h303 := by rw [W303.size]; exact Z300
    show Goes p e below s 24 128 (Q_0 Z q0 q1 q2 q3 q4 q5 h0 n0) T303 (mkF m 229 #[.val (.int q0), .val (.int q1), .val (.int q2), .val (.int q3), .val (.int q4), .val (.int q5), .val (.int c0), .val (.int c1), .val (.int c2), .val (.int c3), .val (.int c4), .val (.int (2 : Int32)), .val (.int st.toInt32), .val (.ref a273), .val (.ref a277), .val (.ref a280), .val (.int (2 : Int32)), .val (.long ((0 : Int64) + own_l1 (own_out c0) + own_l1 (own_out c1))), .second, .val (.int w2.toInt32), .val (.long lf2), .second, .val (.int (1 : Int32)), .val (.int (1 : Int32)), .val (.int (0 : Int32)), .val (.ref a297), .val (.int (1 : Int32)), .unset, .unset, .unset, .unset, .unset, .unset, .unset, .unset, .unset, .unset, .unset] [])
    have P303x : own_PA Z h303 a297 .char [(own_out c0), (own_out c1), (0 : Int32)] := P303
    refine own_iinc (pc' := 232) X303 hx (hb hby at_229) rfl (y := (2 : Int32)) (by decide) (Ls' := #[.val (.int q0), .val (.int q1), .val (.int q2), .val (.int q3), .val (.int q4), .val (.int q5), .val (.int c0), .val (.int c1), .val (.int c2), .val (.int c3), .val (.int c4), .val (.int (2 : Int32)), .val (.int st.toInt32), .val (.ref a273), .val (.ref a277), .val (.ref a280), .val (.int (2 : Int32)), .val (.long ((0 : Int64) + own_l1 (own_out c0) + own_l1 (own_out c1))), .second, .val (.int w2.toInt32), .val (.long lf2), .second, .val (.int (1 : Int32)), .val (.int (1 : Int32)), .val (.int (0 : Int32)), .val (.ref a297), .val (.int (2 : Int32)), .unset, .unset, .unset, .unset, .unset, .unset, .unset, .unset, .unset, .unset, .unset]) rfl rfl ?_
    refine own_iload (pc' := 234) X303 hx (hb hby at_232) rfl rfl ?_
    refine own_ifY X303 hx (hb hby at_234) (by decide) (by decide) (pc' := 250) (by decide) ?_
    refine own_iload (pc' := 252) X303 hx (hb hby at_250) rfl rfl ?_
    refine own_iload (pc' := 254) X303 hx (hb hby at_252) rfl rfl ?_
    obtain ⟨_, _, ⟨T305, L305, k305, n305⟩, -, X305, ⟨Lc305, hQ305, l305, y305, z305⟩, st305⟩ := Jvm.LawKit.callS X303 hx (y := (⟨"com/example/dipper/dipper/core/LineEndsNormalizePinLaw", "lf", "(ZC)J"⟩ : MethodName)) hown (mvT hZ (hw _ (List.mem_of_getElem? (i := 35) rfl))) (mvT hZ (hw _ (List.mem_of_getElem? (i := 36) rfl))) (mvT hZ (hw _ (List.mem_of_getElem? (i := 2) rfl))) (mvT hZ (hw _ (List.mem_of_getElem? (i := 37) rfl))) (by decide) (backOf (W := 0) (rm_4 l Z a0 hw [] (1 : Int32) c0 h303 n0 Z303 hC0) hZ (hw _ (List.mem_of_getElem? (i := 37) rfl)) (hw _ (List.mem_of_getElem? (i := 2) rfl)) (by decide) (by decide)) (g := (mkF m 254 #[.val (.int q0), .val (.int q1), .val (.int q2), .val (.int q3), .val (.int q4), .val (.int q5), .val (.int c0), .val (.int c1), .val (.int c2), .val (.int c3), .val (.int c4), .val (.int (2 : Int32)), .val (.int st.toInt32), .val (.ref a273), .val (.ref a277), .val (.ref a280), .val (.int (2 : Int32)), .val (.long ((0 : Int64) + own_l1 (own_out c0) + own_l1 (own_out c1))), .second, .val (.int w2.toInt32), .val (.long lf2), .second, .val (.int (1 : Int32)), .val (.int (1 : Int32)), .val (.int (0 : Int32)), .val (.ref a297), .val (.int (2 : Int32)), .unset, .unset, .unset, .unset, .unset, .unset, .unset, .unset, .unset, .unset, .unset] [(.int c0), (.int (1 : Int32))])) rfl (by rw [hml]; rfl) (argsL := [(.int (1 : Int32)), (.int c0)]) (rest := []) (lenOf pd_4 rfl) rfl (by show 2 * 0 + _ ≤ _; exact Nat.le_of_eq rfl) (hb hby at_254) (fun _ _ => ⟨rfl, e303, (by decide : 4 + 0 ≤ _), (by decide : 10 + 0 ≤ _)⟩)
    dsimp only [Pt.U, Pt.locs, Pt.cells, Pt.slots] at X305 l305 y305 z305 st305 hQ305
    subst l305 y305 z305
    obtain ⟨rfl, M305, el304⟩ := hQ305
    have N305 := Fr.app N303 M305
    refine Goes.pre st305 ?_
    show Goes p e below s 24 128 (Q_0 Z q0 q1 q2 q3 q4 q5 h0 n0) T305 (mkF m 257 #[.val (.int q0), .val (.int q1), .val (.int q2), .val (.int q3), .val (.int q4), .val (.int q5), .val (.int c0), .val (.int c1), .val (.int c2), .val (.int c3), .val (.int c4), .val (.int (2 : Int32)), .val (.int st.toInt32), .val (.ref a273), .val (.ref a277), .val (.ref a280), .val (.int (2 : Int32)), .val (.long ((0 : Int64) + own_l1 (own_out c0) + own_l1 (own_out c1))), .second, .val (.int w2.toInt32), .val (.long lf2), .second, .val (.int (1 : Int32)), .val (.int (1 : Int32)), .val (.int (0 : Int32)), .val (.ref a297), .val (.int (2 : Int32)), .unset, .unset, .unset, .unset, .unset, .unset, .unset, .unset, .unset, .unset, .unset] [(.long (own_lf (1 : Int32) c0))])
    refine own_iload (pc' := 259) X305 hx (hb hby at_257) rfl rfl ?_
    refine own_iload (pc' := 261) X305 hx (hb hby at_259) rfl rfl ?_
    obtain ⟨_, _, ⟨T307, L307, k307, n307⟩, -, X307, ⟨Lc307, hQ307, l307, y307, z307⟩, st307⟩ := Jvm.LawKit.callS X305 hx (y := (⟨"com/example/dipper/dipper/core/LineEndsNormalizePinLaw", "lf", "(ZC)J"⟩ : MethodName)) hown (mvT hZ (hw _ (List.mem_of_getElem? (i := 35) rfl))) (mvT hZ (hw _ (List.mem_of_getElem? (i := 36) rfl))) (mvT hZ (hw _ (List.mem_of_getElem? (i := 2) rfl))) (mvT hZ (hw _ (List.mem_of_getElem? (i := 37) rfl))) (by decide) (backOf (W := 2) (rm_4 l Z a0 hw [] (1 : Int32) c1 h303 n0 Z303 hC1) hZ (hw _ (List.mem_of_getElem? (i := 37) rfl)) (hw _ (List.mem_of_getElem? (i := 2) rfl)) (by decide) (by decide)) (g := (mkF m 261 #[.val (.int q0), .val (.int q1), .val (.int q2), .val (.int q3), .val (.int q4), .val (.int q5), .val (.int c0), .val (.int c1), .val (.int c2), .val (.int c3), .val (.int c4), .val (.int (2 : Int32)), .val (.int st.toInt32), .val (.ref a273), .val (.ref a277), .val (.ref a280), .val (.int (2 : Int32)), .val (.long ((0 : Int64) + own_l1 (own_out c0) + own_l1 (own_out c1))), .second, .val (.int w2.toInt32), .val (.long lf2), .second, .val (.int (1 : Int32)), .val (.int (1 : Int32)), .val (.int (0 : Int32)), .val (.ref a297), .val (.int (2 : Int32)), .unset, .unset, .unset, .unset, .unset, .unset, .unset, .unset, .unset, .unset, .unset] [(.int c1), (.int (1 : Int32)), (.long (own_lf (1 : Int32) c0))])) rfl (by rw [hml]; rfl) (argsL := [(.int (1 : Int32)), (.int c1)]) (rest := [(.long (own_lf (1 : Int32) c0))]) (lenOf pd_4 rfl) rfl (by show 2 * 0 + _ ≤ _; exact Nat.le_of_eq rfl) (hb hby at_261) (fun _ _ => ⟨rfl, el304, (by decide : 4 + 0 ≤ _), (by decide : 10 + 0 ≤ _)⟩)
    dsimp only [Pt.U, Pt.locs, Pt.cells, Pt.slots] at X307 l307 y307 z307 st307 hQ307
    subst l307 y307 z307
    obtain ⟨rfl, M307, el306⟩ := hQ307
    have N307 := Fr.app N305 M307
    refine Goes.pre st307 ?_
    show Goes p e below s 24 128 (Q_0 Z q0 q1 q2 q3 q4 q5 h0 n0) T307 (mkF m 264 #[.val (.int q0), .val (.int q1), .val (.int q2), .val (.int q3), .val (.int q4), .val (.int q5), .val (.int c0), .val (.int c1), .val (.int c2), .val (.int c3), .val (.int c4), .val (.int (2 : Int32)), .val (.int st.toInt32), .val (.ref a273), .val (.ref a277), .val (.ref a280), .val (.int (2 : Int32)), .val (.long ((0 : Int64) + own_l1 (own_out c0) + own_l1 (own_out c1))), .second, .val (.int w2.toInt32), .val (.long lf2), .second, .val (.int (1 : Int32)), .val (.int (1 : Int32)), .val (.int (0 : Int32)), .val (.ref a297), .val (.int (2 : Int32)), .unset, .unset, .unset, .unset, .unset, .unset, .unset, .unset, .unset, .unset, .unset] [(.long (own_lf (1 : Int32) c1)), (.long (own_lf (1 : Int32) c0))])
    refine own_ladd (pc' := 265) X307 hx (hb hby at_264) rfl ?_
    refine own_iload (pc' := 267) X307 hx (hb hby at_265) rfl rfl ?_
    refine own_iload (pc' := 269) X307 hx (hb hby at_267) rfl rfl ?_
    obtain ⟨_, _, ⟨T309, L309, k309, n309⟩, -, X309, ⟨Lc309, hQ309, l309, y309, z309⟩, st309⟩ := Jvm.LawKit.callS X307 hx (y := (⟨"com/example/dipper/dipper/core/LineEndsNormalizePinLaw", "lf", "(ZC)J"⟩ : MethodName)) hown (mvT hZ (hw _ (List.mem_of_getElem? (i := 35) rfl))) (mvT hZ (hw _ (List.mem_of_getElem? (i := 36) rfl))) (mvT hZ (hw _ (List.mem_of_getElem? (i := 2) rfl))) (mvT hZ (hw _ (List.mem_of_getElem? (i := 37) rfl))) (by decide) (backOf (W := 2) (rm_4 l Z a0 hw [] (0 : Int32) c2 h303 n0 Z303 hC2) hZ (hw _ (List.mem_of_getElem? (i := 37) rfl)) (hw _ (List.mem_of_getElem? (i := 2) rfl)) (by decide) (by decide)) (g := (mkF m 269 #[.val (.int q0), .val (.int q1), .val (.int q2), .val (.int q3), .val (.int q4), .val (.int q5), .val (.int c0), .val (.int c1), .val (.int c2), .val (.int c3), .val (.int c4), .val (.int (2 : Int32)), .val (.int st.toInt32), .val (.ref a273), .val (.ref a277), .val (.ref a280), .val (.int (2 : Int32)), .val (.long ((0 : Int64) + own_l1 (own_out c0) + own_l1 (own_out c1))), .second, .val (.int w2.toInt32), .val (.long lf2), .second, .val (.int (1 : Int32)), .val (.int (1 : Int32)), .val (.int (0 : Int32)), .val (.ref a297), .val (.int (2 : Int32)), .unset, .unset, .unset, .unset, .unset, .unset, .unset, .unset, .unset, .unset, .unset] [(.int c2), (.int (0 : Int32)), (.long ((own_lf (1 : Int32) c0) + (own_lf (1 : Int32) c1)))])) rfl (by rw [hml]; rfl) (argsL := [(.int (0 : Int32)), (.int c2)]) (rest := [(.long ((own_lf (1 : Int32) c0) + (own_lf (1 : Int32) c1)))]) (lenOf pd_4 rfl) rfl (by show 2 * 0 + _ ≤ _; exact Nat.le_of_eq rfl) (hb hby at_269) (fun _ _ => ⟨rfl, el306, (by decide : 4 + 0 ≤ _), (by decide : 10 + 0 ≤ _)⟩)
    dsimp only [Pt.U, Pt.locs, Pt.cells, Pt.slots] at X309 l309 y309 z309 st309 hQ309
    subst l309 y309 z309
    obtain ⟨rfl, M309, el308⟩ := hQ309
    have N309 := Fr.app N307 M309
    refine Goes.pre st309 ?_
    show Goes p e below s 24 128 (Q_0 Z q0 q1 q2 q3 q4 q5 h0 n0) T309 (mkF m 272 #[.val (.int q0), .val (.int q1), .val (.int q2), .val (.int q3), .val (.int q4), .val (.int q5), .val (.int c0), .val (.int c1), .val (.int c2), .val (.int c3), .val (.int c4), .val (.int (2 : Int32)), .val (.int st.toInt32), .val (.ref a273), .val (.ref a277), .val (.ref a280), .val (.int (2 : Int32)), .val (.long ((0 : Int64) + own_l1 (own_out c0) + own_l1 (own_out c1))), .second, .val (.int w2.toInt32), .val (.long lf2), .second, .val (.int (1 : Int32)), .val (.int (1 : Int32)), .val (.int (0 : Int32)), .val (.ref a297), .val (.int (2 : Int32)), .unset, .unset, .unset, .unset, .unset, .unset, .unset, .unset, .unset, .unset, .unset] [(.long (own_lf (0 : Int32) c2)), (.long ((own_lf (1 : Int32) c0) + (own_lf (1 : Int32) c1)))])
    refine own_ladd (pc' := 273) X309 hx (hb hby at_272) rfl ?_
    refine own_lstore (pc' := 275) X309 hx (hb hby at_273) (Ls' := #[.val (.int q0), .val (.int q1), .val (.int q2), .val (.int q3), .val (.int q4), .val (.int q5), .val (.int c0), .val (.int c1), .val (.int c2), .val (.int c3), .val (.int c4), .val (.int (2 : Int32)), .val (.int st.toInt32), .val (.ref a273), .val (.ref a277), .val (.ref a280), .val (.int (2 : Int32)), .val (.long ((0 : Int64) + own_l1 (own_out c0) + own_l1 (own_out c1))), .second, .val (.int w2.toInt32), .val (.long lf2), .second, .val (.int (1 : Int32)), .val (.int (1 : Int32)), .val (.int (0 : Int32)), .val (.ref a297), .val (.int (2 : Int32)), .val (.long (((own_lf (1 : Int32) c0) + (own_lf (1 : Int32) c1)) + (own_lf (0 : Int32) c2))), .second, .unset, .unset, .unset, .unset, .unset, .unset, .unset, .unset, .unset]) rfl rfl ?_
    refine own_iload (pc' := 277) X309 hx (hb hby at_275) rfl rfl ?_
    refine own_iload (pc' := 279) X309 hx (hb hby at_277) rfl rfl ?_
    refine own_icmpN (pc' := 282) X309 hx (hb hby at_279) (by decide) rfl ?_
    refine own_iload (pc' := 284) X309 hx (hb hby at_282) rfl rfl ?_
    refine own_iconst (pc' := 285) X309 hx (hb hby at_284) (v := (1 : Int32)) rfl rfl ?_
    refine own_icmpN (pc' := 288) X309 hx (hb hby at_285) (by decide) rfl ?_
    refine own_aload (pc' := 290) X309 hx (hb hby at_288) rfl rfl rfl ?_
    refine own_iconst (pc' := 291) X309 hx (hb hby at_290) (v := (0 : Int32)) rfl rfl ?_
    refine own_caload (pc' := 292) X309 hx hZ el308 P303_a273 (hb hby at_291) (v := (own_out c0)) (by decide) (k := 0) (by decide) rfl rfl ?_
    refine own_aload (pc' := 294) X309 hx (hb hby at_292) rfl rfl rfl ?_
    refine own_iconst (pc' := 295) X309 hx (hb hby at_294) (v := (0 : Int32)) rfl rfl ?_
    refine own_caload (pc' := 296) X309 hx hZ el308 P303x (hb hby at_295) (v := (own_out c0)) (by decide) (k := 0) (by decide) rfl rfl ?_
    refine own_icmpN (pc' := 299) X309 hx (hb hby at_296) (teq rfl).2 rfl ?_
    refine own_iload (pc' := 301) X309 hx (hb hby at_299) rfl rfl ?_
    refine own_iconst (pc' := 302) X309 hx (hb hby at_301) (v := (2 : Int32)) rfl rfl ?_
    refine own_icmpN (pc' := 305) X309 hx (hb hby at_302) (by decide) rfl ?_
    refine own_aload (pc' := 307) X309 hx (hb hby at_305) rfl rfl rfl ?_
    refine own_iconst (pc' := 308) X309 hx (hb hby at_307) (v := (1 : Int32)) rfl rfl ?_
    refine own_caload (pc' := 309) X309 hx hZ el308 P303_a273 (hb hby at_308) (v := (own_out c1)) (by decide) (k := 1) (by decide) rfl rfl ?_
    refine own_aload (pc' := 311) X309 hx (hb hby at_309) rfl rfl rfl ?_
    refine own_iconst (pc' := 312) X309 hx (hb hby at_311) (v := (1 : Int32)) rfl rfl ?_
    refine own_caload (pc' := 313) X309 hx hZ el308 P303x (hb hby at_312) (v := (own_out c1)) (by decide) (k := 1) (by decide) rfl rfl ?_
    refine own_icmpN (pc' := 316) X309 hx (hb hby at_313) (teq rfl).2 rfl ?_
    refine own_iload (pc' := 318) X309 hx (hb hby at_316) rfl rfl ?_
    refine own_iconst (pc' := 319) X309 hx (hb hby at_318) (v := (3 : Int32)) rfl rfl ?_
    refine own_icmpY X309 hx (hb hby at_319) (by decide) (by decide) (pc' := 333) (by decide) ?_
    refine own_iload (pc' := 335) X309 hx (hb hby at_333) rfl rfl ?_
    refine own_ifY X309 hx (hb hby at_335) (by decide) (by decide) (pc' := 347) (by decide) ?_
    refine own_iload (pc' := 349) X309 hx (hb hby at_347) rfl rfl ?_
    refine own_iconst (pc' := 350) X309 hx (hb hby at_349) (v := (1 : Int32)) rfl rfl ?_
    refine own_icmpY X309 hx (hb hby at_350) (by decide) (by decide) (pc' := 362) (by decide) ?_
    refine own_iload (pc' := 364) X309 hx (hb hby at_362) rfl rfl ?_
    refine own_iconst (pc' := 365) X309 hx (hb hby at_364) (v := (2 : Int32)) rfl rfl ?_
    refine own_icmpN (pc' := 368) X309 hx (hb hby at_365) (by decide) rfl ?_
    refine own_aload (pc' := 370) X309 hx (hb hby at_368) rfl rfl rfl ?_
    refine own_iconst (pc' := 371) X309 hx (hb hby at_370) (v := (2 : Int32)) rfl rfl ?_
    refine own_caload (pc' := 372) X309 hx hZ el308 P303_a273 (hb hby at_371) (v := c2) (by decide) (k := 2) (by decide) rfl rfl ?_
    refine own_iload (pc' := 374) X309 hx (hb hby at_372) rfl rfl ?_
    refine own_icmpN (pc' := 377) X309 hx (hb hby at_374) (teq rfl).2 rfl ?_
    refine own_lload (pc' := 379) X309 hx (hb hby at_377) rfl rfl ?_
    refine own_lload (pc' := 381) X309 hx (hb hby at_379) rfl rfl ?_
    refine own_lcmp (pc' := 382) X309 hx (hb hby at_381) rfl ?_
    refine own_ifN (pc' := 385) X309 hx (hb hby at_382) (own_Teq (by simp [own_lf] : ((0 : Int64) + own_l1 (own_out c0) + own_l1 (own_out c1)) = (((own_lf (1 : Int32) c0) + (own_lf (1 : Int32) c1)) + (own_lf (0 : Int32) c2)))).2 rfl ?_
    refine own_iconst (pc' := 386) X309 hx (hb hby at_385) (v := (1 : Int32)) rfl rfl ?_
    refine own_goto X309 hx (hb hby at_386) (by decide) (pc' := 390) (by decide) ?_
    refine own_istore (pc' := 392) X309 hx (hb hby at_390) (Ls' := #[.val (.int q0), .val (.int q1), .val (.int q2), .val (.int q3), .val (.int q4), .val (.int q5), .val (.int c0), .val (.int c1), .val (.int c2), .val (.int c3), .val (.int c4), .val (.int (2 : Int32)), .val (.int st.toInt32), .val (.ref a273), .val (.ref a277), .val (.ref a280), .val (.int (2 : Int32)), .val (.long ((0 : Int64) + own_l1 (own_out c0) + own_l1 (own_out c1))), .second, .val (.int w2.toInt32), .val (.long lf2), .second, .val (.int (1 : Int32)), .val (.int (1 : Int32)), .val (.int (0 : Int32)), .val (.ref a297), .val (.int (2 : Int32)), .val (.long (((own_lf (1 : Int32) c0) + (own_lf (1 : Int32) c1)) + (own_lf (0 : Int32) c2))), .second, .val (.int (1 : Int32)), .unset, .unset, .unset, .unset, .unset, .unset, .unset, .unset]) rfl rfl ?_
    refine own_iload (pc' := 394) X309 hx (hb hby at_392) rfl rfl ?_
    refine own_iconst (pc' := 395) X309 hx (hb hby at_394) (v := (1 : Int32)) rfl rfl ?_
    refine own_icmpY X309 hx (hb hby at_395) (by decide) (by decide) (pc' := 413) (by decide) ?_
    refine own_iload (pc' := 415) X309 hx (hb hby at_413) rfl rfl ?_
    refine own_iconst (pc' := 416) X309 hx (hb hby at_415) (v := (2 : Int32)) rfl rfl ?_
    refine own_icmpN (pc' := 419) X309 hx (hb hby at_416) (by decide) rfl ?_
    refine own_iload (pc' := 421) X309 hx (hb hby at_419) rfl rfl ?_
    refine own_bipush (pc' := 423) X309 hx (hb hby at_421) (v := (13 : Int32)) rfl rfl ?_
    by_cases hc423 : c1 = (13 : Int32)
    · refine own_icmpN (pc' := 426) X309 hx (hb hby at_423) (teq hc423).2 rfl ?_
      refine own_iconst (pc' := 427) X309 hx (hb hby at_426) (v := (1 : Int32)) rfl rfl ?_
      refine own_goto X309 hx (hb hby at_427) (by decide) (pc' := 456) (by decide) ?_
      refine own_istore (pc' := 458) X309 hx (hb hby at_456) (Ls' := #[.val (.int q0), .val (.int q1), .val (.int q2), .val (.int q3), .val (.int q4), .val (.int q5), .val (.int c0), .val (.int c1), .val (.int c2), .val (.int c3), .val (.int c4), .val (.int (2 : Int32)), .val (.int st.toInt32), .val (.ref a273), .val (.ref a277), .val (.ref a280), .val (.int (2 : Int32)), .val (.long ((0 : Int64) + own_l1 (own_out c0) + own_l1 (own_out c1))), .second, .val (.int w2.toInt32), .val (.long lf2), .second, .val (.int (1 : Int32)), .val (.int (1 : Int32)), .val (.int (0 : Int32)), .val (.ref a297), .val (.int (2 : Int32)), .val (.long (((own_lf (1 : Int32) c0) + (own_lf (1 : Int32) c1)) + (own_lf (0 : Int32) c2))), .second, .val (.int (1 : Int32)), .val (.int (1 : Int32)), .unset, .unset, .unset, .unset, .unset, .unset, .unset]) rfl rfl ?_
      have hpr : (own_af c1) = (1 : Int32) := by simp [own_af, hc423]
      have hlf : (((own_lf (1 : Int32) c0) + (own_lf (1 : Int32) c1)) + (own_lf (0 : Int32) c2)) = ((0 : Int64) + own_l1 (own_out c0) + own_l1 (own_out c1)) := by simp [own_lf]
      rw [hlf]
      rw [hpr] at ht2
      obtain rfl | rfl | rfl : st = 0 ∨ st = 1 ∨ st = 2 := by omega
      · exact own_tB01 hw q0 q1 q2 q3 q4 q5 h0 n0 Z0 hx hby hlk hml hown hZ hret T309 _ _ a277 c3 c4 _ _ _ _ _ _ _ _ _ _ _ _ _ _ _ _ _ _ _ _ _ _ _ _ _ hC3 hC4 X309 el308 N309 Z303 P303_a277 ht2
      · exact own_tB11 hw q0 q1 q2 q3 q4 q5 h0 n0 Z0 hx hby hlk hml hown hZ hret T309 _ _ a277 c3 c4 _ _ _ _ _ _ _ _ _ _ _ _ _ _ _ _ _ _ _ _ _ _ _ _ _ hC3 hC4 X309 el308 N309 Z303 P303_a277 ht2
      · exact own_tB21 hw q0 q1 q2 q3 q4 q5 h0 n0 Z0 hx hby hlk hml hown hZ hret T309 _ _ a277 c3 c4 _ _ _ _ _ _ _ _ _ _ _ _ _ _ _ _ _ _ _ _ _ _ _ _ _ hC3 hC4 X309 el308 N309 Z303 P303_a277 ht2
    · refine own_icmpY X309 hx (hb hby at_423) (feq hc423).2 (by decide) (pc' := 430) (by decide) ?_
      refine own_iconst (pc' := 431) X309 hx (hb hby at_430) (v := (0 : Int32)) rfl rfl ?_
      refine own_goto X309 hx (hb hby at_431) (by decide) (pc' := 456) (by decide) ?_
      refine own_istore (pc' := 458) X309 hx (hb hby at_456) (Ls' := #[.val (.int q0), .val (.int q1), .val (.int q2), .val (.int q3), .val (.int q4), .val (.int q5), .val (.int c0), .val (.int c1), .val (.int c2), .val (.int c3), .val (.int c4), .val (.int (2 : Int32)), .val (.int st.toInt32), .val (.ref a273), .val (.ref a277), .val (.ref a280), .val (.int (2 : Int32)), .val (.long ((0 : Int64) + own_l1 (own_out c0) + own_l1 (own_out c1))), .second, .val (.int w2.toInt32), .val (.long lf2), .second, .val (.int (1 : Int32)), .val (.int (1 : Int32)), .val (.int (0 : Int32)), .val (.ref a297), .val (.int (2 : Int32)), .val (.long (((own_lf (1 : Int32) c0) + (own_lf (1 : Int32) c1)) + (own_lf (0 : Int32) c2))), .second, .val (.int (1 : Int32)), .val (.int (0 : Int32)), .unset, .unset, .unset, .unset, .unset, .unset, .unset]) rfl rfl ?_
      have hpr : (own_af c1) = (0 : Int32) := by simp [own_af, hc423]
      have hlf : (((own_lf (1 : Int32) c0) + (own_lf (1 : Int32) c1)) + (own_lf (0 : Int32) c2)) = ((0 : Int64) + own_l1 (own_out c0) + own_l1 (own_out c1)) := by simp [own_lf]
      rw [hlf]
      rw [hpr] at ht2
      obtain rfl | rfl | rfl : st = 0 ∨ st = 1 ∨ st = 2 := by omega
      · exact own_tB00 hw q0 q1 q2 q3 q4 q5 h0 n0 Z0 hx hby hlk hml hown hZ hret T309 _ _ a277 c3 c4 _ _ _ _ _ _ _ _ _ _ _ _ _ _ _ _ _ _ _ _ _ _ _ _ _ hC3 hC4 X309 el308 N309 Z303 P303_a277 ht2
      · exact own_tB10 hw q0 q1 q2 q3 q4 q5 h0 n0 Z0 hx hby hlk hml hown hZ hret T309 _ _ a277 c3 c4 _ _ _ _ _ _ _ _ _ _ _ _ _ _ _ _ _ _ _ _ _ _ _ _ _ hC3 hC4 X309 el308 N309 Z303 P303_a277 ht2
      · exact own_tB20 hw q0 q1 q2 q3 q4 q5 h0 n0 Z0 hx hby hlk hml hown hZ hret T309 _ _ a277 c3 c4 _ _ _ _ _ _ _ _ _ _ _ _ _ _ _ _ _ _ _ _ _ _ _ _ _ hC3 hC4 X309 el308 N309 Z303 P303_a277 ht2
  · refine own_ifY X296 hx (hb hby at_155) ((if0 _ _).trans (feq hc155).2) (by decide) (pc' := 162) (by decide) ?_
    refine own_iconst (pc' := 163) X296 hx (hb hby at_162) (v := (0 : Int32)) rfl rfl ?_
    refine own_istore (pc' := 165) X296 hx (hb hby at_163) (Ls' := #[.val (.int q0), .val (.int q1), .val (.int q2), .val (.int q3), .val (.int q4), .val (.int q5), .val (.int c0), .val (.int c1), .val (.int c2), .val (.int c3), .val (.int c4), .val (.int (2 : Int32)), .val (.int st.toInt32), .val (.ref a273), .val (.ref a277), .val (.ref a280), .val (.int w1.toInt32), .val (.long lf1), .second, .val (.int w2.toInt32), .val (.long lf2), .second, .val (.int (1 : Int32)), .val (.int (0 : Int32)), .unset, .unset, .unset, .unset, .unset, .unset, .unset, .unset, .unset, .unset, .unset, .unset, .unset, .unset]) rfl rfl ?_
    refine own_iload (pc' := 167) X296 hx (hb hby at_165) rfl rfl ?_
    refine own_iconst (pc' := 168) X296 hx (hb hby at_167) (v := (2 : Int32)) rfl rfl ?_
    refine own_icmpY X296 hx (hb hby at_168) (by decide) (by decide) (pc' := 185) (by decide) ?_
    refine own_iconst (pc' := 186) X296 hx (hb hby at_185) (v := (0 : Int32)) rfl rfl ?_
    refine own_istore (pc' := 188) X296 hx (hb hby at_186) (Ls' := #[.val (.int q0), .val (.int q1), .val (.int q2), .val (.int q3), .val (.int q4), .val (.int q5), .val (.int c0), .val (.int c1), .val (.int c2), .val (.int c3), .val (.int c4), .val (.int (2 : Int32)), .val (.int st.toInt32), .val (.ref a273), .val (.ref a277), .val (.ref a280), .val (.int w1.toInt32), .val (.long lf1), .second, .val (.int w2.toInt32), .val (.long lf2), .second, .val (.int (1 : Int32)), .val (.int (0 : Int32)), .val (.int (0 : Int32)), .unset, .unset, .unset, .unset, .unset, .unset, .unset, .unset, .unset, .unset, .unset, .unset, .unset]) rfl rfl ?_
    refine own_iconst (pc' := 189) X296 hx (hb hby at_188) (v := (3 : Int32)) rfl rfl ?_
    have hA := ht1.trans (own_A2F c0 c1 c2 hc155)
    simp only [Prod.mk.injEq] at hA
    obtain ⟨rfl, rfl, rfl, rfl⟩ := hA
    show Goes p e below s 24 128 (Q_0 Z q0 q1 q2 q3 q4 q5 h0 n0) T296 (mkF m 189 #[.val (.int q0), .val (.int q1), .val (.int q2), .val (.int q3), .val (.int q4), .val (.int q5), .val (.int c0), .val (.int c1), .val (.int c2), .val (.int c3), .val (.int c4), .val (.int (2 : Int32)), .val (.int st.toInt32), .val (.ref a273), .val (.ref a277), .val (.ref a280), .val (.int (1 : Int32)), .val (.long ((0 : Int64) + own_l1 (own_out c0))), .second, .val (.int w2.toInt32), .val (.long lf2), .second, .val (.int (1 : Int32)), .val (.int (0 : Int32)), .val (.int (0 : Int32)), .unset, .unset, .unset, .unset, .unset, .unset, .unset, .unset, .unset, .unset, .unset, .unset, .unset] [(.int (3 : Int32))])
    refine own_newarray (pc' := 191) X296 hx hZ (hw _ (List.mem_of_getElem? (i := 5) rfl)) ep295 (hb hby at_189) (k := 3) (cap := 3) rfl (by decide) rfl (by decide) (by decide) (by decide) (by decide) rfl ?_
    intro T310 h310 a310 g310 X310 e310 E310 P310
    show Goes p e below s 24 128 (Q_0 Z q0 q1 q2 q3 q4 q5 h0 n0) T310 (mkF m 191 #[.val (.int q0), .val (.int q1), .val (.int q2), .val (.int q3), .val (.int q4), .val (.int q5), .val (.int c0), .val (.int c1), .val (.int c2), .val (.int c3), .val (.int c4), .val (.int (2 : Int32)), .val (.int st.toInt32), .val (.ref a273), .val (.ref a277), .val (.ref a280), .val (.int (1 : Int32)), .val (.long ((0 : Int64) + own_l1 (own_out c0))), .second, .val (.int w2.toInt32), .val (.long lf2), .second, .val (.int (1 : Int32)), .val (.int (0 : Int32)), .val (.int (0 : Int32)), .unset, .unset, .unset, .unset, .unset, .unset, .unset, .unset, .unset, .unset, .unset, .unset, .unset] [(.ref a310)])
    have P310_a277 := P289.ext E310
    have P310_a273 := P289_a273.ext E310
    have ne_a277_a310 : a277 ≠ a310 := fun q => absurd (q ▸ P289.lt) (by rw [g310]; exact Nat.lt_irrefl _)
    have ne_a273_a310 : a273 ≠ a310 := fun q => absurd (q ▸ P289_a273.lt) (by rw [g310]; exact Nat.lt_irrefl _)
    have ge_a310 : n0 ≤ a310 := by rw [g310]; exact Z289
    have Z310 : n0 ≤ Array.size h310 := Nat.le_trans Z289 E310.1
    refine own_astore (pc' := 193) X310 hx (hb hby at_191) rfl (Ls' := #[.val (.int q0), .val (.int q1), .val (.int q2), .val (.int q3), .val (.int q4), .val (.int q5), .val (.int c0), .val (.int c1), .val (.int c2), .val (.int c3), .val (.int c4), .val (.int (2 : Int32)), .val (.int st.toInt32), .val (.ref a273), .val (.ref a277), .val (.ref a280), .val (.int (1 : Int32)), .val (.long ((0 : Int64) + own_l1 (own_out c0))), .second, .val (.int w2.toInt32), .val (.long lf2), .second, .val (.int (1 : Int32)), .val (.int (0 : Int32)), .val (.int (0 : Int32)), .val (.ref a310), .unset, .unset, .unset, .unset, .unset, .unset, .unset, .unset, .unset, .unset, .unset, .unset]) rfl rfl ?_
    refine own_iconst (pc' := 194) X310 hx (hb hby at_193) (v := (0 : Int32)) rfl rfl ?_
    refine own_istore (pc' := 196) X310 hx (hb hby at_194) (Ls' := #[.val (.int q0), .val (.int q1), .val (.int q2), .val (.int q3), .val (.int q4), .val (.int q5), .val (.int c0), .val (.int c1), .val (.int c2), .val (.int c3), .val (.int c4), .val (.int (2 : Int32)), .val (.int st.toInt32), .val (.ref a273), .val (.ref a277), .val (.ref a280), .val (.int (1 : Int32)), .val (.long ((0 : Int64) + own_l1 (own_out c0))), .second, .val (.int w2.toInt32), .val (.long lf2), .second, .val (.int (1 : Int32)), .val (.int (0 : Int32)), .val (.int (0 : Int32)), .val (.ref a310), .val (.int (0 : Int32)), .unset, .unset, .unset, .unset, .unset, .unset, .unset, .unset, .unset, .unset, .unset]) rfl rfl ?_
    refine own_iload (pc' := 198) X310 hx (hb hby at_196) rfl rfl ?_
    refine own_ifN (pc' := 201) X310 hx (hb hby at_198) (by decide) rfl ?_
    refine own_aload (pc' := 203) X310 hx (hb hby at_201) rfl rfl rfl ?_
    refine own_iload (pc' := 205) X310 hx (hb hby at_203) rfl rfl ?_
    refine own_iload (pc' := 207) X310 hx (hb hby at_205) rfl rfl ?_
    obtain ⟨_, _, ⟨T312, L312, k312, n312⟩, -, X312, ⟨Lc312, hQ312, l312, y312, z312⟩, st312⟩ := Jvm.LawKit.callS X310 hx (y := (⟨"com/example/dipper/dipper/core/LineEndsNormalizePinLaw", "out", "(C)C"⟩ : MethodName)) hown (mvT hZ (hw _ (List.mem_of_getElem? (i := 32) rfl))) (mvT hZ (hw _ (List.mem_of_getElem? (i := 33) rfl))) (mvT hZ (hw _ (List.mem_of_getElem? (i := 2) rfl))) (mvT hZ (hw _ (List.mem_of_getElem? (i := 34) rfl))) (by decide) (backOf (W := 2) (rm_2 l Z a0 hw [] c0 h310 n0 Z310 hC0) hZ (hw _ (List.mem_of_getElem? (i := 34) rfl)) (hw _ (List.mem_of_getElem? (i := 2) rfl)) (by decide) (by decide)) (g := (mkF m 207 #[.val (.int q0), .val (.int q1), .val (.int q2), .val (.int q3), .val (.int q4), .val (.int q5), .val (.int c0), .val (.int c1), .val (.int c2), .val (.int c3), .val (.int c4), .val (.int (2 : Int32)), .val (.int st.toInt32), .val (.ref a273), .val (.ref a277), .val (.ref a280), .val (.int (1 : Int32)), .val (.long ((0 : Int64) + own_l1 (own_out c0))), .second, .val (.int w2.toInt32), .val (.long lf2), .second, .val (.int (1 : Int32)), .val (.int (0 : Int32)), .val (.int (0 : Int32)), .val (.ref a310), .val (.int (0 : Int32)), .unset, .unset, .unset, .unset, .unset, .unset, .unset, .unset, .unset, .unset, .unset] [(.int c0), (.int (0 : Int32)), (.ref a310)])) rfl (by rw [hml]; rfl) (argsL := [(.int c0)]) (rest := [(.int (0 : Int32)), (.ref a310)]) (lenOf pd_2 rfl) rfl (by show 2 * 0 + _ ≤ _; exact Nat.le_of_eq rfl) (hb hby at_207) (fun _ _ => ⟨rfl, e310, (by decide : 4 + 0 ≤ _), (by decide : 10 + 0 ≤ _)⟩)
    dsimp only [Pt.U, Pt.locs, Pt.cells, Pt.slots] at X312 l312 y312 z312 st312 hQ312
    subst l312 y312 z312
    obtain ⟨rfl, M312, eo311⟩ := hQ312
    have N312 := Fr.app N296 M312
    refine Goes.pre st312 ?_
    show Goes p e below s 24 128 (Q_0 Z q0 q1 q2 q3 q4 q5 h0 n0) T312 (mkF m 210 #[.val (.int q0), .val (.int q1), .val (.int q2), .val (.int q3), .val (.int q4), .val (.int q5), .val (.int c0), .val (.int c1), .val (.int c2), .val (.int c3), .val (.int c4), .val (.int (2 : Int32)), .val (.int st.toInt32), .val (.ref a273), .val (.ref a277), .val (.ref a280), .val (.int (1 : Int32)), .val (.long ((0 : Int64) + own_l1 (own_out c0))), .second, .val (.int w2.toInt32), .val (.long lf2), .second, .val (.int (1 : Int32)), .val (.int (0 : Int32)), .val (.int (0 : Int32)), .val (.ref a310), .val (.int (0 : Int32)), .unset, .unset, .unset, .unset, .unset, .unset, .unset, .unset, .unset, .unset, .unset] [(.int (own_out c0)), (.int (0 : Int32)), (.ref a310)])
    refine own_castore (pc' := 211) X312 hx hZ eo311 P310 (hb hby at_210) (own_nar (own_outC hC0)) (by decide) (k := 0) (by decide) (by simp) rfl ?_
    intro T313 h313 X313 e313 W313 P313
    have N313 := Fr.snoc X313 N312 ge_a310
    have P313_a277 := P310_a277.other W313 ne_a277_a310
    have P313_a273 := P310_a273.other W313 ne_a273_a310
    have Z313 : n0 ≤ Array.size h313 := by rw [W313.size]; exact Z310
    show Goes p e below s 24 128 (Q_0 Z q0 q1 q2 q3 q4 q5 h0 n0) T313 (mkF m 211 #[.val (.int q0), .val (.int q1), .val (.int q2), .val (.int q3), .val (.int q4), .val (.int q5), .val (.int c0), .val (.int c1), .val (.int c2), .val (.int c3), .val (.int c4), .val (.int (2 : Int32)), .val (.int st.toInt32), .val (.ref a273), .val (.ref a277), .val (.ref a280), .val (.int (1 : Int32)), .val (.long ((0 : Int64) + own_l1 (own_out c0))), .second, .val (.int w2.toInt32), .val (.long lf2), .second, .val (.int (1 : Int32)), .val (.int (0 : Int32)), .val (.int (0 : Int32)), .val (.ref a310), .val (.int (0 : Int32)), .unset, .unset, .unset, .unset, .unset, .unset, .unset, .unset, .unset, .unset, .unset] [])
    have P313x : own_PA Z h313 a310 .char [(own_out c0), (0 : Int32), (0 : Int32)] := P313
    refine own_iinc (pc' := 214) X313 hx (hb hby at_211) rfl (y := (1 : Int32)) (by decide) (Ls' := #[.val (.int q0), .val (.int q1), .val (.int q2), .val (.int q3), .val (.int q4), .val (.int q5), .val (.int c0), .val (.int c1), .val (.int c2), .val (.int c3), .val (.int c4), .val (.int (2 : Int32)), .val (.int st.toInt32), .val (.ref a273), .val (.ref a277), .val (.ref a280), .val (.int (1 : Int32)), .val (.long ((0 : Int64) + own_l1 (own_out c0))), .second, .val (.int w2.toInt32), .val (.long lf2), .second, .val (.int (1 : Int32)), .val (.int (0 : Int32)), .val (.int (0 : Int32)), .val (.ref a310), .val (.int (1 : Int32)), .unset, .unset, .unset, .unset, .unset, .unset, .unset, .unset, .unset, .unset, .unset]) rfl rfl ?_
    refine own_iload (pc' := 216) X313 hx (hb hby at_214) rfl rfl ?_
    refine own_ifY X313 hx (hb hby at_216) (by decide) (by decide) (pc' := 232) (by decide) ?_
    refine own_iload (pc' := 234) X313 hx (hb hby at_232) rfl rfl ?_
    refine own_ifY X313 hx (hb hby at_234) (by decide) (by decide) (pc' := 250) (by decide) ?_
    refine own_iload (pc' := 252) X313 hx (hb hby at_250) rfl rfl ?_
    refine own_iload (pc' := 254) X313 hx (hb hby at_252) rfl rfl ?_
    obtain ⟨_, _, ⟨T315, L315, k315, n315⟩, -, X315, ⟨Lc315, hQ315, l315, y315, z315⟩, st315⟩ := Jvm.LawKit.callS X313 hx (y := (⟨"com/example/dipper/dipper/core/LineEndsNormalizePinLaw", "lf", "(ZC)J"⟩ : MethodName)) hown (mvT hZ (hw _ (List.mem_of_getElem? (i := 35) rfl))) (mvT hZ (hw _ (List.mem_of_getElem? (i := 36) rfl))) (mvT hZ (hw _ (List.mem_of_getElem? (i := 2) rfl))) (mvT hZ (hw _ (List.mem_of_getElem? (i := 37) rfl))) (by decide) (backOf (W := 0) (rm_4 l Z a0 hw [] (1 : Int32) c0 h313 n0 Z313 hC0) hZ (hw _ (List.mem_of_getElem? (i := 37) rfl)) (hw _ (List.mem_of_getElem? (i := 2) rfl)) (by decide) (by decide)) (g := (mkF m 254 #[.val (.int q0), .val (.int q1), .val (.int q2), .val (.int q3), .val (.int q4), .val (.int q5), .val (.int c0), .val (.int c1), .val (.int c2), .val (.int c3), .val (.int c4), .val (.int (2 : Int32)), .val (.int st.toInt32), .val (.ref a273), .val (.ref a277), .val (.ref a280), .val (.int (1 : Int32)), .val (.long ((0 : Int64) + own_l1 (own_out c0))), .second, .val (.int w2.toInt32), .val (.long lf2), .second, .val (.int (1 : Int32)), .val (.int (0 : Int32)), .val (.int (0 : Int32)), .val (.ref a310), .val (.int (1 : Int32)), .unset, .unset, .unset, .unset, .unset, .unset, .unset, .unset, .unset, .unset, .unset] [(.int c0), (.int (1 : Int32))])) rfl (by rw [hml]; rfl) (argsL := [(.int (1 : Int32)), (.int c0)]) (rest := []) (lenOf pd_4 rfl) rfl (by show 2 * 0 + _ ≤ _; exact Nat.le_of_eq rfl) (hb hby at_254) (fun _ _ => ⟨rfl, e313, (by decide : 4 + 0 ≤ _), (by decide : 10 + 0 ≤ _)⟩)
    dsimp only [Pt.U, Pt.locs, Pt.cells, Pt.slots] at X315 l315 y315 z315 st315 hQ315
    subst l315 y315 z315
    obtain ⟨rfl, M315, el314⟩ := hQ315
    have N315 := Fr.app N313 M315
    refine Goes.pre st315 ?_
    show Goes p e below s 24 128 (Q_0 Z q0 q1 q2 q3 q4 q5 h0 n0) T315 (mkF m 257 #[.val (.int q0), .val (.int q1), .val (.int q2), .val (.int q3), .val (.int q4), .val (.int q5), .val (.int c0), .val (.int c1), .val (.int c2), .val (.int c3), .val (.int c4), .val (.int (2 : Int32)), .val (.int st.toInt32), .val (.ref a273), .val (.ref a277), .val (.ref a280), .val (.int (1 : Int32)), .val (.long ((0 : Int64) + own_l1 (own_out c0))), .second, .val (.int w2.toInt32), .val (.long lf2), .second, .val (.int (1 : Int32)), .val (.int (0 : Int32)), .val (.int (0 : Int32)), .val (.ref a310), .val (.int (1 : Int32)), .unset, .unset, .unset, .unset, .unset, .unset, .unset, .unset, .unset, .unset, .unset] [(.long (own_lf (1 : Int32) c0))])
    refine own_iload (pc' := 259) X315 hx (hb hby at_257) rfl rfl ?_
    refine own_iload (pc' := 261) X315 hx (hb hby at_259) rfl rfl ?_
    obtain ⟨_, _, ⟨T317, L317, k317, n317⟩, -, X317, ⟨Lc317, hQ317, l317, y317, z317⟩, st317⟩ := Jvm.LawKit.callS X315 hx (y := (⟨"com/example/dipper/dipper/core/LineEndsNormalizePinLaw", "lf", "(ZC)J"⟩ : MethodName)) hown (mvT hZ (hw _ (List.mem_of_getElem? (i := 35) rfl))) (mvT hZ (hw _ (List.mem_of_getElem? (i := 36) rfl))) (mvT hZ (hw _ (List.mem_of_getElem? (i := 2) rfl))) (mvT hZ (hw _ (List.mem_of_getElem? (i := 37) rfl))) (by decide) (backOf (W := 2) (rm_4 l Z a0 hw [] (0 : Int32) c1 h313 n0 Z313 hC1) hZ (hw _ (List.mem_of_getElem? (i := 37) rfl)) (hw _ (List.mem_of_getElem? (i := 2) rfl)) (by decide) (by decide)) (g := (mkF m 261 #[.val (.int q0), .val (.int q1), .val (.int q2), .val (.int q3), .val (.int q4), .val (.int q5), .val (.int c0), .val (.int c1), .val (.int c2), .val (.int c3), .val (.int c4), .val (.int (2 : Int32)), .val (.int st.toInt32), .val (.ref a273), .val (.ref a277), .val (.ref a280), .val (.int (1 : Int32)), .val (.long ((0 : Int64) + own_l1 (own_out c0))), .second, .val (.int w2.toInt32), .val (.long lf2), .second, .val (.int (1 : Int32)), .val (.int (0 : Int32)), .val (.int (0 : Int32)), .val (.ref a310), .val (.int (1 : Int32)), .unset, .unset, .unset, .unset, .unset, .unset, .unset, .unset, .unset, .unset, .unset] [(.int c1), (.int (0 : Int32)), (.long (own_lf (1 : Int32) c0))])) rfl (by rw [hml]; rfl) (argsL := [(.int (0 : Int32)), (.int c1)]) (rest := [(.long (own_lf (1 : Int32) c0))]) (lenOf pd_4 rfl) rfl (by show 2 * 0 + _ ≤ _; exact Nat.le_of_eq rfl) (hb hby at_261) (fun _ _ => ⟨rfl, el314, (by decide : 4 + 0 ≤ _), (by decide : 10 + 0 ≤ _)⟩)
    dsimp only [Pt.U, Pt.locs, Pt.cells, Pt.slots] at X317 l317 y317 z317 st317 hQ317
    subst l317 y317 z317
    obtain ⟨rfl, M317, el316⟩ := hQ317
    have N317 := Fr.app N315 M317
    refine Goes.pre st317 ?_
    show Goes p e below s 24 128 (Q_0 Z q0 q1 q2 q3 q4 q5 h0 n0) T317 (mkF m 264 #[.val (.int q0), .val (.int q1), .val (.int q2), .val (.int q3), .val (.int q4), .val (.int q5), .val (.int c0), .val (.int c1), .val (.int c2), .val (.int c3), .val (.int c4), .val (.int (2 : Int32)), .val (.int st.toInt32), .val (.ref a273), .val (.ref a277), .val (.ref a280), .val (.int (1 : Int32)), .val (.long ((0 : Int64) + own_l1 (own_out c0))), .second, .val (.int w2.toInt32), .val (.long lf2), .second, .val (.int (1 : Int32)), .val (.int (0 : Int32)), .val (.int (0 : Int32)), .val (.ref a310), .val (.int (1 : Int32)), .unset, .unset, .unset, .unset, .unset, .unset, .unset, .unset, .unset, .unset, .unset] [(.long (own_lf (0 : Int32) c1)), (.long (own_lf (1 : Int32) c0))])
    refine own_ladd (pc' := 265) X317 hx (hb hby at_264) rfl ?_
    refine own_iload (pc' := 267) X317 hx (hb hby at_265) rfl rfl ?_
    refine own_iload (pc' := 269) X317 hx (hb hby at_267) rfl rfl ?_
    obtain ⟨_, _, ⟨T319, L319, k319, n319⟩, -, X319, ⟨Lc319, hQ319, l319, y319, z319⟩, st319⟩ := Jvm.LawKit.callS X317 hx (y := (⟨"com/example/dipper/dipper/core/LineEndsNormalizePinLaw", "lf", "(ZC)J"⟩ : MethodName)) hown (mvT hZ (hw _ (List.mem_of_getElem? (i := 35) rfl))) (mvT hZ (hw _ (List.mem_of_getElem? (i := 36) rfl))) (mvT hZ (hw _ (List.mem_of_getElem? (i := 2) rfl))) (mvT hZ (hw _ (List.mem_of_getElem? (i := 37) rfl))) (by decide) (backOf (W := 2) (rm_4 l Z a0 hw [] (0 : Int32) c2 h313 n0 Z313 hC2) hZ (hw _ (List.mem_of_getElem? (i := 37) rfl)) (hw _ (List.mem_of_getElem? (i := 2) rfl)) (by decide) (by decide)) (g := (mkF m 269 #[.val (.int q0), .val (.int q1), .val (.int q2), .val (.int q3), .val (.int q4), .val (.int q5), .val (.int c0), .val (.int c1), .val (.int c2), .val (.int c3), .val (.int c4), .val (.int (2 : Int32)), .val (.int st.toInt32), .val (.ref a273), .val (.ref a277), .val (.ref a280), .val (.int (1 : Int32)), .val (.long ((0 : Int64) + own_l1 (own_out c0))), .second, .val (.int w2.toInt32), .val (.long lf2), .second, .val (.int (1 : Int32)), .val (.int (0 : Int32)), .val (.int (0 : Int32)), .val (.ref a310), .val (.int (1 : Int32)), .unset, .unset, .unset, .unset, .unset, .unset, .unset, .unset, .unset, .unset, .unset] [(.int c2), (.int (0 : Int32)), (.long ((own_lf (1 : Int32) c0) + (own_lf (0 : Int32) c1)))])) rfl (by rw [hml]; rfl) (argsL := [(.int (0 : Int32)), (.int c2)]) (rest := [(.long ((own_lf (1 : Int32) c0) + (own_lf (0 : Int32) c1)))]) (lenOf pd_4 rfl) rfl (by show 2 * 0 + _ ≤ _; exact Nat.le_of_eq rfl) (hb hby at_269) (fun _ _ => ⟨rfl, el316, (by decide : 4 + 0 ≤ _), (by decide : 10 + 0 ≤ _)⟩)
    dsimp only [Pt.U, Pt.locs, Pt.cells, Pt.slots] at X319 l319 y319 z319 st319 hQ319
    subst l319 y319 z319
    obtain ⟨rfl, M319, el318⟩ := hQ319
    have N319 := Fr.app N317 M319
    refine Goes.pre st319 ?_
    show Goes p e below s 24 128 (Q_0 Z q0 q1 q2 q3 q4 q5 h0 n0) T319 (mkF m 272 #[.val (.int q0), .val (.int q1), .val (.int q2), .val (.int q3), .val (.int q4), .val (.int q5), .val (.int c0), .val (.int c1), .val (.int c2), .val (.int c3), .val (.int c4), .val (.int (2 : Int32)), .val (.int st.toInt32), .val (.ref a273), .val (.ref a277), .val (.ref a280), .val (.int (1 : Int32)), .val (.long ((0 : Int64) + own_l1 (own_out c0))), .second, .val (.int w2.toInt32), .val (.long lf2), .second, .val (.int (1 : Int32)), .val (.int (0 : Int32)), .val (.int (0 : Int32)), .val (.ref a310), .val (.int (1 : Int32)), .unset, .unset, .unset, .unset, .unset, .unset, .unset, .unset, .unset, .unset, .unset] [(.long (own_lf (0 : Int32) c2)), (.long ((own_lf (1 : Int32) c0) + (own_lf (0 : Int32) c1)))])
    refine own_ladd (pc' := 273) X319 hx (hb hby at_272) rfl ?_
    refine own_lstore (pc' := 275) X319 hx (hb hby at_273) (Ls' := #[.val (.int q0), .val (.int q1), .val (.int q2), .val (.int q3), .val (.int q4), .val (.int q5), .val (.int c0), .val (.int c1), .val (.int c2), .val (.int c3), .val (.int c4), .val (.int (2 : Int32)), .val (.int st.toInt32), .val (.ref a273), .val (.ref a277), .val (.ref a280), .val (.int (1 : Int32)), .val (.long ((0 : Int64) + own_l1 (own_out c0))), .second, .val (.int w2.toInt32), .val (.long lf2), .second, .val (.int (1 : Int32)), .val (.int (0 : Int32)), .val (.int (0 : Int32)), .val (.ref a310), .val (.int (1 : Int32)), .val (.long (((own_lf (1 : Int32) c0) + (own_lf (0 : Int32) c1)) + (own_lf (0 : Int32) c2))), .second, .unset, .unset, .unset, .unset, .unset, .unset, .unset, .unset, .unset]) rfl rfl ?_
    refine own_iload (pc' := 277) X319 hx (hb hby at_275) rfl rfl ?_
    refine own_iload (pc' := 279) X319 hx (hb hby at_277) rfl rfl ?_
    refine own_icmpN (pc' := 282) X319 hx (hb hby at_279) (by decide) rfl ?_
    refine own_iload (pc' := 284) X319 hx (hb hby at_282) rfl rfl ?_
    refine own_iconst (pc' := 285) X319 hx (hb hby at_284) (v := (1 : Int32)) rfl rfl ?_
    refine own_icmpN (pc' := 288) X319 hx (hb hby at_285) (by decide) rfl ?_
    refine own_aload (pc' := 290) X319 hx (hb hby at_288) rfl rfl rfl ?_
    refine own_iconst (pc' := 291) X319 hx (hb hby at_290) (v := (0 : Int32)) rfl rfl ?_
    refine own_caload (pc' := 292) X319 hx hZ el318 P313_a273 (hb hby at_291) (v := (own_out c0)) (by decide) (k := 0) (by decide) rfl rfl ?_
    refine own_aload (pc' := 294) X319 hx (hb hby at_292) rfl rfl rfl ?_
    refine own_iconst (pc' := 295) X319 hx (hb hby at_294) (v := (0 : Int32)) rfl rfl ?_
    refine own_caload (pc' := 296) X319 hx hZ el318 P313x (hb hby at_295) (v := (own_out c0)) (by decide) (k := 0) (by decide) rfl rfl ?_
    refine own_icmpN (pc' := 299) X319 hx (hb hby at_296) (teq rfl).2 rfl ?_
    refine own_iload (pc' := 301) X319 hx (hb hby at_299) rfl rfl ?_
    refine own_iconst (pc' := 302) X319 hx (hb hby at_301) (v := (2 : Int32)) rfl rfl ?_
    refine own_icmpY X319 hx (hb hby at_302) (by decide) (by decide) (pc' := 316) (by decide) ?_
    refine own_iload (pc' := 318) X319 hx (hb hby at_316) rfl rfl ?_
    refine own_iconst (pc' := 319) X319 hx (hb hby at_318) (v := (3 : Int32)) rfl rfl ?_
    refine own_icmpY X319 hx (hb hby at_319) (by decide) (by decide) (pc' := 333) (by decide) ?_
    refine own_iload (pc' := 335) X319 hx (hb hby at_333) rfl rfl ?_
    refine own_ifY X319 hx (hb hby at_335) (by decide) (by decide) (pc' := 347) (by decide) ?_
    refine own_iload (pc' := 349) X319 hx (hb hby at_347) rfl rfl ?_
    refine own_iconst (pc' := 350) X319 hx (hb hby at_349) (v := (1 : Int32)) rfl rfl ?_
    refine own_icmpY X319 hx (hb hby at_350) (by decide) (by decide) (pc' := 362) (by decide) ?_
    refine own_iload (pc' := 364) X319 hx (hb hby at_362) rfl rfl ?_
    refine own_iconst (pc' := 365) X319 hx (hb hby at_364) (v := (2 : Int32)) rfl rfl ?_
    refine own_icmpN (pc' := 368) X319 hx (hb hby at_365) (by decide) rfl ?_
    refine own_aload (pc' := 370) X319 hx (hb hby at_368) rfl rfl rfl ?_
    refine own_iconst (pc' := 371) X319 hx (hb hby at_370) (v := (2 : Int32)) rfl rfl ?_
    refine own_caload (pc' := 372) X319 hx hZ el318 P313_a273 (hb hby at_371) (v := c2) (by decide) (k := 2) (by decide) rfl rfl ?_
    refine own_iload (pc' := 374) X319 hx (hb hby at_372) rfl rfl ?_
    refine own_icmpN (pc' := 377) X319 hx (hb hby at_374) (teq rfl).2 rfl ?_
    refine own_lload (pc' := 379) X319 hx (hb hby at_377) rfl rfl ?_
    refine own_lload (pc' := 381) X319 hx (hb hby at_379) rfl rfl ?_
    refine own_lcmp (pc' := 382) X319 hx (hb hby at_381) rfl ?_
    refine own_ifN (pc' := 385) X319 hx (hb hby at_382) (own_Teq (by simp [own_lf] : ((0 : Int64) + own_l1 (own_out c0)) = (((own_lf (1 : Int32) c0) + (own_lf (0 : Int32) c1)) + (own_lf (0 : Int32) c2)))).2 rfl ?_
    refine own_iconst (pc' := 386) X319 hx (hb hby at_385) (v := (1 : Int32)) rfl rfl ?_
    refine own_goto X319 hx (hb hby at_386) (by decide) (pc' := 390) (by decide) ?_
    refine own_istore (pc' := 392) X319 hx (hb hby at_390) (Ls' := #[.val (.int q0), .val (.int q1), .val (.int q2), .val (.int q3), .val (.int q4), .val (.int q5), .val (.int c0), .val (.int c1), .val (.int c2), .val (.int c3), .val (.int c4), .val (.int (2 : Int32)), .val (.int st.toInt32), .val (.ref a273), .val (.ref a277), .val (.ref a280), .val (.int (1 : Int32)), .val (.long ((0 : Int64) + own_l1 (own_out c0))), .second, .val (.int w2.toInt32), .val (.long lf2), .second, .val (.int (1 : Int32)), .val (.int (0 : Int32)), .val (.int (0 : Int32)), .val (.ref a310), .val (.int (1 : Int32)), .val (.long (((own_lf (1 : Int32) c0) + (own_lf (0 : Int32) c1)) + (own_lf (0 : Int32) c2))), .second, .val (.int (1 : Int32)), .unset, .unset, .unset, .unset, .unset, .unset, .unset, .unset]) rfl rfl ?_
    refine own_iload (pc' := 394) X319 hx (hb hby at_392) rfl rfl ?_
    refine own_iconst (pc' := 395) X319 hx (hb hby at_394) (v := (1 : Int32)) rfl rfl ?_
    refine own_icmpY X319 hx (hb hby at_395) (by decide) (by decide) (pc' := 413) (by decide) ?_
    refine own_iload (pc' := 415) X319 hx (hb hby at_413) rfl rfl ?_
    refine own_iconst (pc' := 416) X319 hx (hb hby at_415) (v := (2 : Int32)) rfl rfl ?_
    refine own_icmpN (pc' := 419) X319 hx (hb hby at_416) (by decide) rfl ?_
    refine own_iload (pc' := 421) X319 hx (hb hby at_419) rfl rfl ?_
    refine own_bipush (pc' := 423) X319 hx (hb hby at_421) (v := (13 : Int32)) rfl rfl ?_
    by_cases hc423 : c1 = (13 : Int32)
    · refine own_icmpN (pc' := 426) X319 hx (hb hby at_423) (teq hc423).2 rfl ?_
      refine own_iconst (pc' := 427) X319 hx (hb hby at_426) (v := (1 : Int32)) rfl rfl ?_
      refine own_goto X319 hx (hb hby at_427) (by decide) (pc' := 456) (by decide) ?_
      refine own_istore (pc' := 458) X319 hx (hb hby at_456) (Ls' := #[.val (.int q0), .val (.int q1), .val (.int q2), .val (.int q3), .val (.int q4), .val (.int q5), .val (.int c0), .val (.int c1), .val (.int c2), .val (.int c3), .val (.int c4), .val (.int (2 : Int32)), .val (.int st.toInt32), .val (.ref a273), .val (.ref a277), .val (.ref a280), .val (.int (1 : Int32)), .val (.long ((0 : Int64) + own_l1 (own_out c0))), .second, .val (.int w2.toInt32), .val (.long lf2), .second, .val (.int (1 : Int32)), .val (.int (0 : Int32)), .val (.int (0 : Int32)), .val (.ref a310), .val (.int (1 : Int32)), .val (.long (((own_lf (1 : Int32) c0) + (own_lf (0 : Int32) c1)) + (own_lf (0 : Int32) c2))), .second, .val (.int (1 : Int32)), .val (.int (1 : Int32)), .unset, .unset, .unset, .unset, .unset, .unset, .unset]) rfl rfl ?_
      have hpr : (own_af c1) = (1 : Int32) := by simp [own_af, hc423]
      have hlf : (((own_lf (1 : Int32) c0) + (own_lf (0 : Int32) c1)) + (own_lf (0 : Int32) c2)) = ((0 : Int64) + own_l1 (own_out c0)) := by simp [own_lf]
      rw [hlf]
      rw [hpr] at ht2
      obtain rfl | rfl | rfl : st = 0 ∨ st = 1 ∨ st = 2 := by omega
      · exact own_tB01 hw q0 q1 q2 q3 q4 q5 h0 n0 Z0 hx hby hlk hml hown hZ hret T319 _ _ a277 c3 c4 _ _ _ _ _ _ _ _ _ _ _ _ _ _ _ _ _ _ _ _ _ _ _ _ _ hC3 hC4 X319 el318 N319 Z313 P313_a277 ht2
      · exact own_tB11 hw q0 q1 q2 q3 q4 q5 h0 n0 Z0 hx hby hlk hml hown hZ hret T319 _ _ a277 c3 c4 _ _ _ _ _ _ _ _ _ _ _ _ _ _ _ _ _ _ _ _ _ _ _ _ _ hC3 hC4 X319 el318 N319 Z313 P313_a277 ht2
      · exact own_tB21 hw q0 q1 q2 q3 q4 q5 h0 n0 Z0 hx hby hlk hml hown hZ hret T319 _ _ a277 c3 c4 _ _ _ _ _ _ _ _ _ _ _ _ _ _ _ _ _ _ _ _ _ _ _ _ _ hC3 hC4 X319 el318 N319 Z313 P313_a277 ht2
    · refine own_icmpY X319 hx (hb hby at_423) (feq hc423).2 (by decide) (pc' := 430) (by decide) ?_
      refine own_iconst (pc' := 431) X319 hx (hb hby at_430) (v := (0 : Int32)) rfl rfl ?_
      refine own_goto X319 hx (hb hby at_431) (by decide) (pc' := 456) (by decide) ?_
      refine own_istore (pc' := 458) X319 hx (hb hby at_456) (Ls' := #[.val (.int q0), .val (.int q1), .val (.int q2), .val (.int q3), .val (.int q4), .val (.int q5), .val (.int c0), .val (.int c1), .val (.int c2), .val (.int c3), .val (.int c4), .val (.int (2 : Int32)), .val (.int st.toInt32), .val (.ref a273), .val (.ref a277), .val (.ref a280), .val (.int (1 : Int32)), .val (.long ((0 : Int64) + own_l1 (own_out c0))), .second, .val (.int w2.toInt32), .val (.long lf2), .second, .val (.int (1 : Int32)), .val (.int (0 : Int32)), .val (.int (0 : Int32)), .val (.ref a310), .val (.int (1 : Int32)), .val (.long (((own_lf (1 : Int32) c0) + (own_lf (0 : Int32) c1)) + (own_lf (0 : Int32) c2))), .second, .val (.int (1 : Int32)), .val (.int (0 : Int32)), .unset, .unset, .unset, .unset, .unset, .unset, .unset]) rfl rfl ?_
      have hpr : (own_af c1) = (0 : Int32) := by simp [own_af, hc423]
      have hlf : (((own_lf (1 : Int32) c0) + (own_lf (0 : Int32) c1)) + (own_lf (0 : Int32) c2)) = ((0 : Int64) + own_l1 (own_out c0)) := by simp [own_lf]
      rw [hlf]
      rw [hpr] at ht2
      obtain rfl | rfl | rfl : st = 0 ∨ st = 1 ∨ st = 2 := by omega
      · exact own_tB00 hw q0 q1 q2 q3 q4 q5 h0 n0 Z0 hx hby hlk hml hown hZ hret T319 _ _ a277 c3 c4 _ _ _ _ _ _ _ _ _ _ _ _ _ _ _ _ _ _ _ _ _ _ _ _ _ hC3 hC4 X319 el318 N319 Z313 P313_a277 ht2
      · exact own_tB10 hw q0 q1 q2 q3 q4 q5 h0 n0 Z0 hx hby hlk hml hown hZ hret T319 _ _ a277 c3 c4 _ _ _ _ _ _ _ _ _ _ _ _ _ _ _ _ _ _ _ _ _ _ _ _ _ hC3 hC4 X319 el318 N319 Z313 P313_a277 ht2
      · exact own_tB20 hw q0 q1 q2 q3 q4 q5 h0 n0 Z0 hx hby hlk hml hown hZ hret T319 _ _ a277 c3 c4 _ _ _ _ _ _ _ _ _ _ _ _ _ _ _ _ _ _ _ _ _ _ _ _ _ hC3 hC4 X319 el318 N319 Z313 P313_a277 ht2
set_option maxRecDepth 65536 in
set_option maxHeartbeats 40000000 in
theorem own_tA3 {p : Program} {l : Launch} {e : Env} {s : State} {m : MethodId} {below : List Frame} {meth : Method} {c : Code} {Z : State} {a0 : Array Value} (hw : ∀ d ∈ tables_1, d.before a0 Z = true) (q0 q1 q2 q3 q4 q5 : Int32) (h0 : Heap) (n0 : Nat) (Z0 : n0 ≤ Array.size h0) (hx : p.tables.exec = Jvm.exec) (hby : c.code = code) (hlk : meth.locks = false) (hml : c.maxLocals = 38) (hown : s.vm.findClass "com/example/dipper/dipper/core/LineEndsNormalizePinLaw" = some m.cls) (hZ : Z.Warmed39 s.vm) (hret : meth.sig.returnType = some .boolean) : ∀ (TJ : State) (LJ : List Loc) (c0 c1 c2 c3 c4 : Int32) (st : Nat), st ≤ 2 → own_C c0 → own_C c1 → own_C c2 → own_C c3 → own_C c4 → Stand p l e room_1 s m #[(.int q0), (.int q1), (.int q2), (.int q3), (.int q4), (.int q5)] below meth c TJ LJ 0 0 → TJ.heap = h0 → Fr n0 LJ → Goes p e below s 24 128 (Q_0 Z q0 q1 q2 q3 q4 q5 h0 n0) TJ (mkF m 48 #[.val (.int q0), .val (.int q1), .val (.int q2), .val (.int q3), .val (.int q4), .val (.int q5), .val (.int c0), .val (.int c1), .val (.int c2), .val (.int c3), .val (.int c4), .val (.int (3 : Int32)), .val (.int st.toInt32), .unset, .unset, .unset, .unset, .unset, .unset, .unset, .unset, .unset, .unset, .unset, .unset, .unset, .unset, .unset, .unset, .unset, .unset, .unset, .unset, .unset, .unset, .unset, .unset, .unset] []) := by
  intro TJ LJ c0 c1 c2 c3 c4 st hst hC0 hC1 hC2 hC3 hC4 XJ eJ NJ
  refine own_iconst (pc' := 49) XJ hx (hb hby at_48) (v := (3 : Int32)) rfl rfl ?_
  refine own_newarray (pc' := 51) XJ hx hZ (hw _ (List.mem_of_getElem? (i := 5) rfl)) eJ (hb hby at_49) (k := 3) (cap := 3) rfl (by decide) rfl (by decide) (by decide) (by decide) (by decide) rfl ?_
  intro T320 h320 a320 g320 X320 e320 E320 P320
  show Goes p e below s 24 128 (Q_0 Z q0 q1 q2 q3 q4 q5 h0 n0) T320 (mkF m 51 #[.val (.int q0), .val (.int q1), .val (.int q2), .val (.int q3), .val (.int q4), .val (.int q5), .val (.int c0), .val (.int c1), .val (.int c2), .val (.int c3), .val (.int c4), .val (.int (3 : Int32)), .val (.int st.toInt32), .unset, .unset, .unset, .unset, .unset, .unset, .unset, .unset, .unset, .unset, .unset, .unset, .unset, .unset, .unset, .unset, .unset, .unset, .unset, .unset, .unset, .unset, .unset, .unset, .unset] [(.ref a320)])
  have ge_a320 : n0 ≤ a320 := by rw [g320]; exact Z0
  have Z320 : n0 ≤ Array.size h320 := Nat.le_trans Z0 E320.1
  refine own_dup (pc' := 52) X320 hx (hb hby at_51) rfl rfl ?_
  refine own_iconst (pc' := 53) X320 hx (hb hby at_52) (v := (0 : Int32)) rfl rfl ?_
  refine own_iload (pc' := 55) X320 hx (hb hby at_53) rfl rfl ?_
  refine own_castore (pc' := 56) X320 hx hZ e320 P320 (hb hby at_55) (own_nar hC0) (by decide) (k := 0) (by decide) (by simp) rfl ?_
  intro T321 h321 X321 e321 W321 P321
  have N321 := Fr.snoc X321 NJ ge_a320
  have Z321 : n0 ≤ Array.size h321 := by rw [W321.size]; exact Z320
  show Goes p e below s 24 128 (Q_0 Z q0 q1 q2 q3 q4 q5 h0 n0) T321 (mkF m 56 #[.val (.int q0), .val (.int q1), .val (.int q2), .val (.int q3), .val (.int q4), .val (.int q5), .val (.int c0), .val (.int c1), .val (.int c2), .val (.int c3), .val (.int c4), .val (.int (3 : Int32)), .val (.int st.toInt32), .unset, .unset, .unset, .unset, .unset, .unset, .unset, .unset, .unset, .unset, .unset, .unset, .unset, .unset, .unset, .unset, .unset, .unset, .unset, .unset, .unset, .unset, .unset, .unset, .unset] [(.ref a320)])
  have P321x : own_PA Z h321 a320 .char [c0, (0 : Int32), (0 : Int32)] := P321
  refine own_dup (pc' := 57) X321 hx (hb hby at_56) rfl rfl ?_
  refine own_iconst (pc' := 58) X321 hx (hb hby at_57) (v := (1 : Int32)) rfl rfl ?_
  refine own_iload (pc' := 60) X321 hx (hb hby at_58) rfl rfl ?_
  refine own_castore (pc' := 61) X321 hx hZ e321 P321x (hb hby at_60) (own_nar hC1) (by decide) (k := 1) (by decide) (by simp) rfl ?_
  intro T322 h322 X322 e322 W322 P322
  have N322 := Fr.snoc X322 N321 ge_a320
  have Z322 : n0 ≤ Array.size h322 := by rw [W322.size]; exact Z321
  show Goes p e below s 24 128 (Q_0 Z q0 q1 q2 q3 q4 q5 h0 n0) T322 (mkF m 61 #[.val (.int q0), .val (.int q1), .val (.int q2), .val (.int q3), .val (.int q4), .val (.int q5), .val (.int c0), .val (.int c1), .val (.int c2), .val (.int c3), .val (.int c4), .val (.int (3 : Int32)), .val (.int st.toInt32), .unset, .unset, .unset, .unset, .unset, .unset, .unset, .unset, .unset, .unset, .unset, .unset, .unset, .unset, .unset, .unset, .unset, .unset, .unset, .unset, .unset, .unset, .unset, .unset, .unset] [(.ref a320)])
  have P322x : own_PA Z h322 a320 .char [c0, c1, (0 : Int32)] := P322
  refine own_dup (pc' := 62) X322 hx (hb hby at_61) rfl rfl ?_
  refine own_iconst (pc' := 63) X322 hx (hb hby at_62) (v := (2 : Int32)) rfl rfl ?_
  refine own_iload (pc' := 65) X322 hx (hb hby at_63) rfl rfl ?_
  refine own_castore (pc' := 66) X322 hx hZ e322 P322x (hb hby at_65) (own_nar hC2) (by decide) (k := 2) (by decide) (by simp) rfl ?_
  intro T323 h323 X323 e323 W323 P323
  have N323 := Fr.snoc X323 N322 ge_a320
  have Z323 : n0 ≤ Array.size h323 := by rw [W323.size]; exact Z322
  show Goes p e below s 24 128 (Q_0 Z q0 q1 q2 q3 q4 q5 h0 n0) T323 (mkF m 66 #[.val (.int q0), .val (.int q1), .val (.int q2), .val (.int q3), .val (.int q4), .val (.int q5), .val (.int c0), .val (.int c1), .val (.int c2), .val (.int c3), .val (.int c4), .val (.int (3 : Int32)), .val (.int st.toInt32), .unset, .unset, .unset, .unset, .unset, .unset, .unset, .unset, .unset, .unset, .unset, .unset, .unset, .unset, .unset, .unset, .unset, .unset, .unset, .unset, .unset, .unset, .unset, .unset, .unset] [(.ref a320)])
  have P323x : own_PA Z h323 a320 .char [c0, c1, c2] := P323
  refine own_astore (pc' := 68) X323 hx (hb hby at_66) rfl (Ls' := #[.val (.int q0), .val (.int q1), .val (.int q2), .val (.int q3), .val (.int q4), .val (.int q5), .val (.int c0), .val (.int c1), .val (.int c2), .val (.int c3), .val (.int c4), .val (.int (3 : Int32)), .val (.int st.toInt32), .val (.ref a320), .unset, .unset, .unset, .unset, .unset, .unset, .unset, .unset, .unset, .unset, .unset, .unset, .unset, .unset, .unset, .unset, .unset, .unset, .unset, .unset, .unset, .unset, .unset, .unset]) rfl rfl ?_
  refine own_iconst (pc' := 69) X323 hx (hb hby at_68) (v := (2 : Int32)) rfl rfl ?_
  refine own_newarray (pc' := 71) X323 hx hZ (hw _ (List.mem_of_getElem? (i := 5) rfl)) e323 (hb hby at_69) (k := 2) (cap := 2) rfl (by decide) rfl (by decide) (by decide) (by decide) (by decide) rfl ?_
  intro T324 h324 a324 g324 X324 e324 E324 P324
  show Goes p e below s 24 128 (Q_0 Z q0 q1 q2 q3 q4 q5 h0 n0) T324 (mkF m 71 #[.val (.int q0), .val (.int q1), .val (.int q2), .val (.int q3), .val (.int q4), .val (.int q5), .val (.int c0), .val (.int c1), .val (.int c2), .val (.int c3), .val (.int c4), .val (.int (3 : Int32)), .val (.int st.toInt32), .val (.ref a320), .unset, .unset, .unset, .unset, .unset, .unset, .unset, .unset, .unset, .unset, .unset, .unset, .unset, .unset, .unset, .unset, .unset, .unset, .unset, .unset, .unset, .unset, .unset, .unset] [(.ref a324)])
  have P324_a320 := P323x.ext E324
  have ne_a320_a324 : a320 ≠ a324 := fun q => absurd (q ▸ P323x.lt) (by rw [g324]; exact Nat.lt_irrefl _)
  have ge_a324 : n0 ≤ a324 := by rw [g324]; exact Z323
  have Z324 : n0 ≤ Array.size h324 := Nat.le_trans Z323 E324.1
  refine own_dup (pc' := 72) X324 hx (hb hby at_71) rfl rfl ?_
  refine own_iconst (pc' := 73) X324 hx (hb hby at_72) (v := (0 : Int32)) rfl rfl ?_
  refine own_iload (pc' := 75) X324 hx (hb hby at_73) rfl rfl ?_
  refine own_castore (pc' := 76) X324 hx hZ e324 P324 (hb hby at_75) (own_nar hC3) (by decide) (k := 0) (by decide) (by simp) rfl ?_
  intro T325 h325 X325 e325 W325 P325
  have N325 := Fr.snoc X325 N323 ge_a324
  have P325_a320 := P324_a320.other W325 ne_a320_a324
  have Z325 : n0 ≤ Array.size h325 := by rw [W325.size]; exact Z324
  show Goes p e below s 24 128 (Q_0 Z q0 q1 q2 q3 q4 q5 h0 n0) T325 (mkF m 76 #[.val (.int q0), .val (.int q1), .val (.int q2), .val (.int q3), .val (.int q4), .val (.int q5), .val (.int c0), .val (.int c1), .val (.int c2), .val (.int c3), .val (.int c4), .val (.int (3 : Int32)), .val (.int st.toInt32), .val (.ref a320), .unset, .unset, .unset, .unset, .unset, .unset, .unset, .unset, .unset, .unset, .unset, .unset, .unset, .unset, .unset, .unset, .unset, .unset, .unset, .unset, .unset, .unset, .unset, .unset] [(.ref a324)])
  have P325x : own_PA Z h325 a324 .char [c3, (0 : Int32)] := P325
  refine own_dup (pc' := 77) X325 hx (hb hby at_76) rfl rfl ?_
  refine own_iconst (pc' := 78) X325 hx (hb hby at_77) (v := (1 : Int32)) rfl rfl ?_
  refine own_iload (pc' := 80) X325 hx (hb hby at_78) rfl rfl ?_
  refine own_castore (pc' := 81) X325 hx hZ e325 P325x (hb hby at_80) (own_nar hC4) (by decide) (k := 1) (by decide) (by simp) rfl ?_
  intro T326 h326 X326 e326 W326 P326
  have N326 := Fr.snoc X326 N325 ge_a324
  have P326_a320 := P325_a320.other W326 ne_a320_a324
  have Z326 : n0 ≤ Array.size h326 := by rw [W326.size]; exact Z325
  show Goes p e below s 24 128 (Q_0 Z q0 q1 q2 q3 q4 q5 h0 n0) T326 (mkF m 81 #[.val (.int q0), .val (.int q1), .val (.int q2), .val (.int q3), .val (.int q4), .val (.int q5), .val (.int c0), .val (.int c1), .val (.int c2), .val (.int c3), .val (.int c4), .val (.int (3 : Int32)), .val (.int st.toInt32), .val (.ref a320), .unset, .unset, .unset, .unset, .unset, .unset, .unset, .unset, .unset, .unset, .unset, .unset, .unset, .unset, .unset, .unset, .unset, .unset, .unset, .unset, .unset, .unset, .unset, .unset] [(.ref a324)])
  have P326x : own_PA Z h326 a324 .char [c3, c4] := P326
  refine own_astore (pc' := 83) X326 hx (hb hby at_81) rfl (Ls' := #[.val (.int q0), .val (.int q1), .val (.int q2), .val (.int q3), .val (.int q4), .val (.int q5), .val (.int c0), .val (.int c1), .val (.int c2), .val (.int c3), .val (.int c4), .val (.int (3 : Int32)), .val (.int st.toInt32), .val (.ref a320), .val (.ref a324), .unset, .unset, .unset, .unset, .unset, .unset, .unset, .unset, .unset, .unset, .unset, .unset, .unset, .unset, .unset, .unset, .unset, .unset, .unset, .unset, .unset, .unset, .unset]) rfl rfl ?_
  obtain ⟨T327, h327, X327, e327, E327, A327, D327, -, st327⟩ := newO X326 hx hZ hown (hw _ (List.mem_of_getElem? (i := 6) rfl)) (hw _ (List.mem_of_getElem? (i := 7) rfl)) (hw _ (List.mem_of_getElem? (i := 8) rfl)) e326 (g := (mkF m 83 #[.val (.int q0), .val (.int q1), .val (.int q2), .val (.int q3), .val (.int q4), .val (.int q5), .val (.int c0), .val (.int c1), .val (.int c2), .val (.int c3), .val (.int c4), .val (.int (3 : Int32)), .val (.int st.toInt32), .val (.ref a320), .val (.ref a324), .unset, .unset, .unset, .unset, .unset, .unset, .unset, .unset, .unset, .unset, .unset, .unset, .unset, .unset, .unset, .unset, .unset, .unset, .unset, .unset, .unset, .unset, .unset] [])) rfl (hb hby at_83) (by decide) (by decide)
  obtain ⟨a327, g327⟩ : ∃ z, z = Array.size (h326) := ⟨_, rfl⟩
  rw [← g327] at A327 D327 st327
  refine Goes.pre st327 ?_
  show Goes p e below s 24 128 (Q_0 Z q0 q1 q2 q3 q4 q5 h0 n0) T327 (mkF m 86 #[.val (.int q0), .val (.int q1), .val (.int q2), .val (.int q3), .val (.int q4), .val (.int q5), .val (.int c0), .val (.int c1), .val (.int c2), .val (.int c3), .val (.int c4), .val (.int (3 : Int32)), .val (.int st.toInt32), .val (.ref a320), .val (.ref a324), .unset, .unset, .unset, .unset, .unset, .unset, .unset, .unset, .unset, .unset, .unset, .unset, .unset, .unset, .unset, .unset, .unset, .unset, .unset, .unset, .unset, .unset, .unset] [(.ref a327)])
  have F327_afterReturn : Fld Z h327 a327 "com/example/dipper/dipper/core/LineEnds" "afterReturn" "Z" (.int (0 : Int32)) := D327 (Or.inl (hw _ (List.mem_of_getElem? (i := 21) rfl))) (ty := .boolean) (by decide)
  have F327_lineFeeds : Fld Z h327 a327 "com/example/dipper/dipper/core/LineEnds" "lineFeeds" "J" (.long (0 : Int64)) := D327 (Or.inl (hw _ (List.mem_of_getElem? (i := 23) rfl))) (ty := .long) (by decide)
  have P327_a324 := P326x.ext E327
  have le_a324 : a324 ≠ a327 := fun q => absurd (q ▸ P326x.lt) (by rw [g327]; exact Nat.lt_irrefl _)
  have P327_a320 := P326_a320.ext E327
  have le_a320 : a320 ≠ a327 := fun q => absurd (q ▸ P326_a320.lt) (by rw [g327]; exact Nat.lt_irrefl _)
  have ge_a327 : n0 ≤ a327 := by rw [g327]; exact Z326
  have Z327 : n0 ≤ Array.size h327 := Nat.le_trans Z326 E327.1
  refine own_dup (pc' := 87) X327 hx (hb hby at_86) rfl rfl ?_
  obtain ⟨_, _, ⟨T329, L329, k329, n329⟩, -, X329, ⟨Lc329, hQ329, l329, y329, z329⟩, st329⟩ := X327.specialBack hx (y := (⟨"com/example/dipper/dipper/core/LineEnds", "<init>", "()V"⟩ : MethodName)) rfl hown (mvT hZ (hw _ (List.mem_of_getElem? (i := 9) rfl))) (mvT hZ (hw _ (List.mem_of_getElem? (i := 10) rfl))) (mvT hZ (hw _ (List.mem_of_getElem? (i := 11) rfl))) (by decide) (backOf (W := 1) (rm_5 l Z a0 hw [] a327 h327 n0 Z327) hZ (hw _ (List.mem_of_getElem? (i := 11) rfl)) (hw _ (List.mem_of_getElem? (i := 8) rfl)) (by decide) (by decide)) (g := (mkF m 87 #[.val (.int q0), .val (.int q1), .val (.int q2), .val (.int q3), .val (.int q4), .val (.int q5), .val (.int c0), .val (.int c1), .val (.int c2), .val (.int c3), .val (.int c4), .val (.int (3 : Int32)), .val (.int st.toInt32), .val (.ref a320), .val (.ref a324), .unset, .unset, .unset, .unset, .unset, .unset, .unset, .unset, .unset, .unset, .unset, .unset, .unset, .unset, .unset, .unset, .unset, .unset, .unset, .unset, .unset, .unset, .unset] [(.ref a327), (.ref a327)])) rfl (by rw [hml]; rfl) (Steps.refl _) (a := a327) (argsL := []) (rest := [(.ref a327)]) (lenOf pd_5 rfl) rfl (by show 2 * 0 + _ ≤ _; exact Nat.le_of_eq rfl) (hb hby at_87) (fun _ _ => ⟨rfl, e327, (by decide : 3 + 0 ≤ _), (by decide : 7 + 0 ≤ _)⟩)
  dsimp only [Pt.U, Pt.locs, Pt.cells, Pt.slots] at X329 l329 y329 z329 st329 hQ329
  subst l329 y329 z329
  obtain ⟨rfl, M329, ei328⟩ := hQ329
  have N329 := Fr.app N326 M329
  refine Goes.aft st329 ?_
  show Goes p e below s 24 128 (Q_0 Z q0 q1 q2 q3 q4 q5 h0 n0) T329 (mkF m 90 #[.val (.int q0), .val (.int q1), .val (.int q2), .val (.int q3), .val (.int q4), .val (.int q5), .val (.int c0), .val (.int c1), .val (.int c2), .val (.int c3), .val (.int c4), .val (.int (3 : Int32)), .val (.int st.toInt32), .val (.ref a320), .val (.ref a324), .unset, .unset, .unset, .unset, .unset, .unset, .unset, .unset, .unset, .unset, .unset, .unset, .unset, .unset, .unset, .unset, .unset, .unset, .unset, .unset, .unset, .unset, .unset] [(.ref a327)])
  refine own_astore (pc' := 92) X329 hx (hb hby at_90) rfl (Ls' := #[.val (.int q0), .val (.int q1), .val (.int q2), .val (.int q3), .val (.int q4), .val (.int q5), .val (.int c0), .val (.int c1), .val (.int c2), .val (.int c3), .val (.int c4), .val (.int (3 : Int32)), .val (.int st.toInt32), .val (.ref a320), .val (.ref a324), .val (.ref a327), .unset, .unset, .unset, .unset, .unset, .unset, .unset, .unset, .unset, .unset, .unset, .unset, .unset, .unset, .unset, .unset, .unset, .unset, .unset, .unset, .unset, .unset]) rfl rfl ?_
  refine own_aload (pc' := 94) X329 hx (hb hby at_92) rfl rfl rfl ?_
  refine own_aload (pc' := 96) X329 hx (hb hby at_94) rfl rfl rfl ?_
  refine own_iconst (pc' := 97) X329 hx (hb hby at_96) (v := (0 : Int32)) rfl rfl ?_
  refine own_iload (pc' := 99) X329 hx (hb hby at_97) rfl rfl ?_
  obtain ⟨cq332, kq332, q332a, q332b, q332c⟩ := isOf hZ ei328 A327
  obtain ⟨_, _, ⟨T331, L331, k331, n331⟩, -, X331, ⟨Lc331, hQ331, l331, y331, z331⟩, st331⟩ := X329.virtualBack hx (y := (⟨"com/example/dipper/dipper/core/LineEnds", "normalize", "([CII)I"⟩ : MethodName)) (z := (⟨"com/example/dipper/dipper/core/LineEnds", "normalize", "([CII)I"⟩ : MethodName)) hown (mvT hZ (hw _ (List.mem_of_getElem? (i := 15) rfl))) (mvT hZ (hw _ (List.mem_of_getElem? (i := 16) rfl))) (notFace_of_selects (args := #[]) (mvT hZ (hw _ (List.mem_of_getElem? (i := 18) rfl)))) (mvT hZ (hw _ (List.mem_of_getElem? (i := 18) rfl))) (mvT hZ (hw _ (List.mem_of_getElem? (i := 17) rfl))) (by decide) (backOf (W := 0) (rm_7 l Z a0 hw [] a327 a320 [c0, c1, c2] (0 : Int32) (0 : Int64) 0 3 h327 n0 Z327 F327_afterReturn F327_lineFeeds A327 P327_a320 (by omega) (by simp) (by simp) (by simp only [List.mem_cons, List.not_mem_nil, or_false]; rintro v (rfl | rfl | rfl) <;> assumption) (Ne.symm le_a320) ge_a327 ge_a320) hZ (hw _ (List.mem_of_getElem? (i := 19) rfl)) (hw _ (List.mem_of_getElem? (i := 8) rfl)) (by decide) (by decide)) q332a q332c (g := (mkF m 99 #[.val (.int q0), .val (.int q1), .val (.int q2), .val (.int q3), .val (.int q4), .val (.int q5), .val (.int c0), .val (.int c1), .val (.int c2), .val (.int c3), .val (.int c4), .val (.int (3 : Int32)), .val (.int st.toInt32), .val (.ref a320), .val (.ref a324), .val (.ref a327), .unset, .unset, .unset, .unset, .unset, .unset, .unset, .unset, .unset, .unset, .unset, .unset, .unset, .unset, .unset, .unset, .unset, .unset, .unset, .unset, .unset, .unset] [(.int (3 : Int32)), (.int (0 : Int32)), (.ref a320), (.ref a327)])) rfl (by rw [hml]; rfl) (Steps.refl _) (argsL := [(.ref a320), (.int (0 : Int32)), (.int (3 : Int32))]) (rest := []) (lenOf pd_7 rfl) rfl (by show 2 * 0 + _ ≤ _; exact Nat.le_of_eq rfl) (hb hby at_99) (fun _ _ => ⟨rfl, ei328, (by decide : 3 + 0 ≤ _), (by decide : 7 + 0 ≤ _)⟩)
  dsimp only [Pt.U, Pt.locs, Pt.cells, Pt.slots] at X331 l331 y331 z331 st331 hQ331
  subst l331 y331 z331
  obtain ⟨rfl, M331, K330, EX330, FA330, FL330, P330⟩ := hQ331
  have N331 := Fr.app N329 M331
  refine Goes.aft st331 ?_
  show Goes p e below s 24 128 (Q_0 Z q0 q1 q2 q3 q4 q5 h0 n0) T331 (mkF m 102 #[.val (.int q0), .val (.int q1), .val (.int q2), .val (.int q3), .val (.int q4), .val (.int q5), .val (.int c0), .val (.int c1), .val (.int c2), .val (.int c3), .val (.int c4), .val (.int (3 : Int32)), .val (.int st.toInt32), .val (.ref a320), .val (.ref a324), .val (.ref a327), .unset, .unset, .unset, .unset, .unset, .unset, .unset, .unset, .unset, .unset, .unset, .unset, .unset, .unset, .unset, .unset, .unset, .unset, .unset, .unset, .unset, .unset] [(.int (own_nl (3 - 0) 0 0 [c0, c1, c2] (0 : Int32) (0 : Int64)).1.toInt32)])
  have Z330 : n0 ≤ Array.size T331.heap := Nat.le_trans Z327 K330.1
  have P330_a324 := P327_a324.keep K330 (ninS le_a324 (ninS (Ne.symm ne_a320_a324) nin0))
  obtain ⟨⟨w1, vs1, af1, lf1⟩, ht1⟩ : ∃ t, t = (own_nl (3 - 0) 0 0 [c0, c1, c2] (0 : Int32) (0 : Int64)) := ⟨_, rfl⟩
  rw [← ht1] at FA330 FL330 P330
  rw [← ht1]
  dsimp only at FA330 FL330 P330
  show Goes p e below s 24 128 (Q_0 Z q0 q1 q2 q3 q4 q5 h0 n0) T331 (mkF m 102 #[.val (.int q0), .val (.int q1), .val (.int q2), .val (.int q3), .val (.int q4), .val (.int q5), .val (.int c0), .val (.int c1), .val (.int c2), .val (.int c3), .val (.int c4), .val (.int (3 : Int32)), .val (.int st.toInt32), .val (.ref a320), .val (.ref a324), .val (.ref a327), .unset, .unset, .unset, .unset, .unset, .unset, .unset, .unset, .unset, .unset, .unset, .unset, .unset, .unset, .unset, .unset, .unset, .unset, .unset, .unset, .unset, .unset] [(.int w1.toInt32)])
  refine own_istore (pc' := 104) X331 hx (hb hby at_102) (Ls' := #[.val (.int q0), .val (.int q1), .val (.int q2), .val (.int q3), .val (.int q4), .val (.int q5), .val (.int c0), .val (.int c1), .val (.int c2), .val (.int c3), .val (.int c4), .val (.int (3 : Int32)), .val (.int st.toInt32), .val (.ref a320), .val (.ref a324), .val (.ref a327), .val (.int w1.toInt32), .unset, .unset, .unset, .unset, .unset, .unset, .unset, .unset, .unset, .unset, .unset, .unset, .unset, .unset, .unset, .unset, .unset, .unset, .unset, .unset, .unset]) rfl rfl ?_
  refine own_aload (pc' := 106) X331 hx (hb hby at_104) rfl rfl rfl ?_
  obtain ⟨cq335, kq335, q335a, q335b, q335c⟩ := isOf hZ rfl EX330
  obtain ⟨_, _, ⟨T334, L334, k334, n334⟩, -, X334, ⟨Lc334, hQ334, l334, y334, z334⟩, st334⟩ := X331.virtualBack hx (y := (⟨"com/example/dipper/dipper/core/LineEnds", "lineFeeds", "()J"⟩ : MethodName)) (z := (⟨"com/example/dipper/dipper/core/LineEnds", "lineFeeds", "()J"⟩ : MethodName)) hown (mvT hZ (hw _ (List.mem_of_getElem? (i := 24) rfl))) (mvT hZ (hw _ (List.mem_of_getElem? (i := 25) rfl))) (notFace_of_selects (args := #[]) (mvT hZ (hw _ (List.mem_of_getElem? (i := 27) rfl)))) (mvT hZ (hw _ (List.mem_of_getElem? (i := 27) rfl))) (mvT hZ (hw _ (List.mem_of_getElem? (i := 26) rfl))) (by decide) (backOf (W := 0) (rm_6 l Z a0 hw [] a327 lf1 T331.heap n0 Z330 FL330) hZ (hw _ (List.mem_of_getElem? (i := 28) rfl)) (hw _ (List.mem_of_getElem? (i := 8) rfl)) (by decide) (by decide)) q335a q335c (g := (mkF m 106 #[.val (.int q0), .val (.int q1), .val (.int q2), .val (.int q3), .val (.int q4), .val (.int q5), .val (.int c0), .val (.int c1), .val (.int c2), .val (.int c3), .val (.int c4), .val (.int (3 : Int32)), .val (.int st.toInt32), .val (.ref a320), .val (.ref a324), .val (.ref a327), .val (.int w1.toInt32), .unset, .unset, .unset, .unset, .unset, .unset, .unset, .unset, .unset, .unset, .unset, .unset, .unset, .unset, .unset, .unset, .unset, .unset, .unset, .unset, .unset] [(.ref a327)])) rfl (by rw [hml]; rfl) (Steps.refl _) (argsL := []) (rest := []) (lenOf pd_6 rfl) rfl (by show 2 * 0 + _ ≤ _; exact Nat.le_of_eq rfl) (hb hby at_106) (fun _ _ => ⟨rfl, rfl, (by decide : 3 + 0 ≤ _), (by decide : 7 + 0 ≤ _)⟩)
  dsimp only [Pt.U, Pt.locs, Pt.cells, Pt.slots] at X334 l334 y334 z334 st334 hQ334
  subst l334 y334 z334
  obtain ⟨rfl, M334, eg333⟩ := hQ334
  have N334 := Fr.app N331 M334
  refine Goes.aft st334 ?_
  show Goes p e below s 24 128 (Q_0 Z q0 q1 q2 q3 q4 q5 h0 n0) T334 (mkF m 109 #[.val (.int q0), .val (.int q1), .val (.int q2), .val (.int q3), .val (.int q4), .val (.int q5), .val (.int c0), .val (.int c1), .val (.int c2), .val (.int c3), .val (.int c4), .val (.int (3 : Int32)), .val (.int st.toInt32), .val (.ref a320), .val (.ref a324), .val (.ref a327), .val (.int w1.toInt32), .unset, .unset, .unset, .unset, .unset, .unset, .unset, .unset, .unset, .unset, .unset, .unset, .unset, .unset, .unset, .unset, .unset, .unset, .unset, .unset, .unset] [(.long lf1)])
  refine own_lstore (pc' := 111) X334 hx (hb hby at_109) (Ls' := #[.val (.int q0), .val (.int q1), .val (.int q2), .val (.int q3), .val (.int q4), .val (.int q5), .val (.int c0), .val (.int c1), .val (.int c2), .val (.int c3), .val (.int c4), .val (.int (3 : Int32)), .val (.int st.toInt32), .val (.ref a320), .val (.ref a324), .val (.ref a327), .val (.int w1.toInt32), .val (.long lf1), .second, .unset, .unset, .unset, .unset, .unset, .unset, .unset, .unset, .unset, .unset, .unset, .unset, .unset, .unset, .unset, .unset, .unset, .unset, .unset]) rfl rfl ?_
  refine own_aload (pc' := 113) X334 hx (hb hby at_111) rfl rfl rfl ?_
  refine own_aload (pc' := 115) X334 hx (hb hby at_113) rfl rfl rfl ?_
  refine own_iload (pc' := 117) X334 hx (hb hby at_115) rfl rfl ?_
  refine own_iconst (pc' := 118) X334 hx (hb hby at_117) (v := (2 : Int32)) rfl rfl ?_
  obtain ⟨cq338, kq338, q338a, q338b, q338c⟩ := isOf hZ eg333 EX330
  obtain ⟨_, _, ⟨T337, L337, k337, n337⟩, -, X337, ⟨Lc337, hQ337, l337, y337, z337⟩, st337⟩ := X334.virtualBack hx (y := (⟨"com/example/dipper/dipper/core/LineEnds", "normalize", "([CII)I"⟩ : MethodName)) (z := (⟨"com/example/dipper/dipper/core/LineEnds", "normalize", "([CII)I"⟩ : MethodName)) hown (mvT hZ (hw _ (List.mem_of_getElem? (i := 15) rfl))) (mvT hZ (hw _ (List.mem_of_getElem? (i := 16) rfl))) (notFace_of_selects (args := #[]) (mvT hZ (hw _ (List.mem_of_getElem? (i := 18) rfl)))) (mvT hZ (hw _ (List.mem_of_getElem? (i := 18) rfl))) (mvT hZ (hw _ (List.mem_of_getElem? (i := 17) rfl))) (by decide) (backOf (W := 0) (rm_7 l Z a0 hw [] a327 a324 [c3, c4] af1 lf1 st 2 T331.heap n0 Z330 FA330 FL330 EX330 P330_a324 hst (by simp) (by simp) (by simp only [List.mem_cons, List.not_mem_nil, or_false]; rintro v (rfl | rfl) <;> assumption) (Ne.symm le_a324) ge_a327 ge_a324) hZ (hw _ (List.mem_of_getElem? (i := 19) rfl)) (hw _ (List.mem_of_getElem? (i := 8) rfl)) (by decide) (by decide)) q338a q338c (g := (mkF m 118 #[.val (.int q0), .val (.int q1), .val (.int q2), .val (.int q3), .val (.int q4), .val (.int q5), .val (.int c0), .val (.int c1), .val (.int c2), .val (.int c3), .val (.int c4), .val (.int (3 : Int32)), .val (.int st.toInt32), .val (.ref a320), .val (.ref a324), .val (.ref a327), .val (.int w1.toInt32), .val (.long lf1), .second, .unset, .unset, .unset, .unset, .unset, .unset, .unset, .unset, .unset, .unset, .unset, .unset, .unset, .unset, .unset, .unset, .unset, .unset, .unset] [(.int (2 : Int32)), (.int st.toInt32), (.ref a324), (.ref a327)])) rfl (by rw [hml]; rfl) (Steps.refl _) (argsL := [(.ref a324), (.int st.toInt32), (.int (2 : Int32))]) (rest := []) (lenOf pd_7 rfl) rfl (by show 2 * 0 + _ ≤ _; exact Nat.le_of_eq rfl) (hb hby at_118) (fun _ _ => ⟨rfl, eg333, (by decide : 3 + 0 ≤ _), (by decide : 7 + 0 ≤ _)⟩)
  dsimp only [Pt.U, Pt.locs, Pt.cells, Pt.slots] at X337 l337 y337 z337 st337 hQ337
  subst l337 y337 z337
  obtain ⟨rfl, M337, K336, EX336, FA336, FL336, P336⟩ := hQ337
  have N337 := Fr.app N334 M337
  refine Goes.aft st337 ?_
  show Goes p e below s 24 128 (Q_0 Z q0 q1 q2 q3 q4 q5 h0 n0) T337 (mkF m 121 #[.val (.int q0), .val (.int q1), .val (.int q2), .val (.int q3), .val (.int q4), .val (.int q5), .val (.int c0), .val (.int c1), .val (.int c2), .val (.int c3), .val (.int c4), .val (.int (3 : Int32)), .val (.int st.toInt32), .val (.ref a320), .val (.ref a324), .val (.ref a327), .val (.int w1.toInt32), .val (.long lf1), .second, .unset, .unset, .unset, .unset, .unset, .unset, .unset, .unset, .unset, .unset, .unset, .unset, .unset, .unset, .unset, .unset, .unset, .unset, .unset] [(.int (own_nl (2 - st) st st [c3, c4] af1 lf1).1.toInt32)])
  have Z336 : n0 ≤ Array.size T337.heap := Nat.le_trans Z330 K336.1
  have P336_a320 := P330.keep K336 (ninS le_a320 (ninS ne_a320_a324 nin0))
  obtain ⟨⟨w2, vs2, af2, lf2⟩, ht2⟩ : ∃ t, t = (own_nl (2 - st) st st [c3, c4] af1 lf1) := ⟨_, rfl⟩
  rw [← ht2] at FA336 FL336 P336
  rw [← ht2]
  dsimp only at FA336 FL336 P336
  show Goes p e below s 24 128 (Q_0 Z q0 q1 q2 q3 q4 q5 h0 n0) T337 (mkF m 121 #[.val (.int q0), .val (.int q1), .val (.int q2), .val (.int q3), .val (.int q4), .val (.int q5), .val (.int c0), .val (.int c1), .val (.int c2), .val (.int c3), .val (.int c4), .val (.int (3 : Int32)), .val (.int st.toInt32), .val (.ref a320), .val (.ref a324), .val (.ref a327), .val (.int w1.toInt32), .val (.long lf1), .second, .unset, .unset, .unset, .unset, .unset, .unset, .unset, .unset, .unset, .unset, .unset, .unset, .unset, .unset, .unset, .unset, .unset, .unset, .unset] [(.int w2.toInt32)])
  refine own_istore (pc' := 123) X337 hx (hb hby at_121) (Ls' := #[.val (.int q0), .val (.int q1), .val (.int q2), .val (.int q3), .val (.int q4), .val (.int q5), .val (.int c0), .val (.int c1), .val (.int c2), .val (.int c3), .val (.int c4), .val (.int (3 : Int32)), .val (.int st.toInt32), .val (.ref a320), .val (.ref a324), .val (.ref a327), .val (.int w1.toInt32), .val (.long lf1), .second, .val (.int w2.toInt32), .unset, .unset, .unset, .unset, .unset, .unset, .unset, .unset, .unset, .unset, .unset, .unset, .unset, .unset, .unset, .unset, .unset, .unset]) rfl rfl ?_
  refine own_aload (pc' := 125) X337 hx (hb hby at_123) rfl rfl rfl ?_
  obtain ⟨cq341, kq341, q341a, q341b, q341c⟩ := isOf hZ rfl EX336
  obtain ⟨_, _, ⟨T340, L340, k340, n340⟩, -, X340, ⟨Lc340, hQ340, l340, y340, z340⟩, st340⟩ := X337.virtualBack hx (y := (⟨"com/example/dipper/dipper/core/LineEnds", "lineFeeds", "()J"⟩ : MethodName)) (z := (⟨"com/example/dipper/dipper/core/LineEnds", "lineFeeds", "()J"⟩ : MethodName)) hown (mvT hZ (hw _ (List.mem_of_getElem? (i := 24) rfl))) (mvT hZ (hw _ (List.mem_of_getElem? (i := 25) rfl))) (notFace_of_selects (args := #[]) (mvT hZ (hw _ (List.mem_of_getElem? (i := 27) rfl)))) (mvT hZ (hw _ (List.mem_of_getElem? (i := 27) rfl))) (mvT hZ (hw _ (List.mem_of_getElem? (i := 26) rfl))) (by decide) (backOf (W := 0) (rm_6 l Z a0 hw [] a327 lf2 T337.heap n0 Z336 FL336) hZ (hw _ (List.mem_of_getElem? (i := 28) rfl)) (hw _ (List.mem_of_getElem? (i := 8) rfl)) (by decide) (by decide)) q341a q341c (g := (mkF m 125 #[.val (.int q0), .val (.int q1), .val (.int q2), .val (.int q3), .val (.int q4), .val (.int q5), .val (.int c0), .val (.int c1), .val (.int c2), .val (.int c3), .val (.int c4), .val (.int (3 : Int32)), .val (.int st.toInt32), .val (.ref a320), .val (.ref a324), .val (.ref a327), .val (.int w1.toInt32), .val (.long lf1), .second, .val (.int w2.toInt32), .unset, .unset, .unset, .unset, .unset, .unset, .unset, .unset, .unset, .unset, .unset, .unset, .unset, .unset, .unset, .unset, .unset, .unset] [(.ref a327)])) rfl (by rw [hml]; rfl) (Steps.refl _) (argsL := []) (rest := []) (lenOf pd_6 rfl) rfl (by show 2 * 0 + _ ≤ _; exact Nat.le_of_eq rfl) (hb hby at_125) (fun _ _ => ⟨rfl, rfl, (by decide : 3 + 0 ≤ _), (by decide : 7 + 0 ≤ _)⟩)
  dsimp only [Pt.U, Pt.locs, Pt.cells, Pt.slots] at X340 l340 y340 z340 st340 hQ340
  subst l340 y340 z340
  obtain ⟨rfl, M340, eg339⟩ := hQ340
  have N340 := Fr.app N337 M340
  refine Goes.aft st340 ?_
  show Goes p e below s 24 128 (Q_0 Z q0 q1 q2 q3 q4 q5 h0 n0) T340 (mkF m 128 #[.val (.int q0), .val (.int q1), .val (.int q2), .val (.int q3), .val (.int q4), .val (.int q5), .val (.int c0), .val (.int c1), .val (.int c2), .val (.int c3), .val (.int c4), .val (.int (3 : Int32)), .val (.int st.toInt32), .val (.ref a320), .val (.ref a324), .val (.ref a327), .val (.int w1.toInt32), .val (.long lf1), .second, .val (.int w2.toInt32), .unset, .unset, .unset, .unset, .unset, .unset, .unset, .unset, .unset, .unset, .unset, .unset, .unset, .unset, .unset, .unset, .unset, .unset] [(.long lf2)])
  refine own_lstore (pc' := 130) X340 hx (hb hby at_128) (Ls' := #[.val (.int q0), .val (.int q1), .val (.int q2), .val (.int q3), .val (.int q4), .val (.int q5), .val (.int c0), .val (.int c1), .val (.int c2), .val (.int c3), .val (.int c4), .val (.int (3 : Int32)), .val (.int st.toInt32), .val (.ref a320), .val (.ref a324), .val (.ref a327), .val (.int w1.toInt32), .val (.long lf1), .second, .val (.int w2.toInt32), .val (.long lf2), .second, .unset, .unset, .unset, .unset, .unset, .unset, .unset, .unset, .unset, .unset, .unset, .unset, .unset, .unset, .unset, .unset]) rfl rfl ?_
  refine own_iload (pc' := 132) X340 hx (hb hby at_130) rfl rfl ?_
  refine own_ifN (pc' := 135) X340 hx (hb hby at_132) (by decide) rfl ?_
  refine own_iconst (pc' := 136) X340 hx (hb hby at_135) (v := (1 : Int32)) rfl rfl ?_
  refine own_goto X340 hx (hb hby at_136) (by decide) (pc' := 140) (by decide) ?_
  refine own_istore (pc' := 142) X340 hx (hb hby at_140) (Ls' := #[.val (.int q0), .val (.int q1), .val (.int q2), .val (.int q3), .val (.int q4), .val (.int q5), .val (.int c0), .val (.int c1), .val (.int c2), .val (.int c3), .val (.int c4), .val (.int (3 : Int32)), .val (.int st.toInt32), .val (.ref a320), .val (.ref a324), .val (.ref a327), .val (.int w1.toInt32), .val (.long lf1), .second, .val (.int w2.toInt32), .val (.long lf2), .second, .val (.int (1 : Int32)), .unset, .unset, .unset, .unset, .unset, .unset, .unset, .unset, .unset, .unset, .unset, .unset, .unset, .unset, .unset]) rfl rfl ?_
  refine own_iload (pc' := 144) X340 hx (hb hby at_142) rfl rfl ?_
  refine own_iconst (pc' := 145) X340 hx (hb hby at_144) (v := (1 : Int32)) rfl rfl ?_
  refine own_icmpN (pc' := 148) X340 hx (hb hby at_145) (by decide) rfl ?_
  refine own_iload (pc' := 150) X340 hx (hb hby at_148) rfl rfl ?_
  refine own_iload (pc' := 152) X340 hx (hb hby at_150) rfl rfl ?_
  obtain ⟨_, _, ⟨T343, L343, k343, n343⟩, -, X343, ⟨Lc343, hQ343, l343, y343, z343⟩, st343⟩ := Jvm.LawKit.callS X340 hx (y := (⟨"com/example/dipper/dipper/core/LineEndsNormalizePinLaw", "pairs", "(CC)Z"⟩ : MethodName)) hown (mvT hZ (hw _ (List.mem_of_getElem? (i := 29) rfl))) (mvT hZ (hw _ (List.mem_of_getElem? (i := 30) rfl))) (mvT hZ (hw _ (List.mem_of_getElem? (i := 2) rfl))) (mvT hZ (hw _ (List.mem_of_getElem? (i := 31) rfl))) (by decide) (backOf (W := 0) (rm_3 l Z a0 hw [] c0 c1 T337.heap n0 Z336) hZ (hw _ (List.mem_of_getElem? (i := 31) rfl)) (hw _ (List.mem_of_getElem? (i := 2) rfl)) (by decide) (by decide)) (g := (mkF m 152 #[.val (.int q0), .val (.int q1), .val (.int q2), .val (.int q3), .val (.int q4), .val (.int q5), .val (.int c0), .val (.int c1), .val (.int c2), .val (.int c3), .val (.int c4), .val (.int (3 : Int32)), .val (.int st.toInt32), .val (.ref a320), .val (.ref a324), .val (.ref a327), .val (.int w1.toInt32), .val (.long lf1), .second, .val (.int w2.toInt32), .val (.long lf2), .second, .val (.int (1 : Int32)), .unset, .unset, .unset, .unset, .unset, .unset, .unset, .unset, .unset, .unset, .unset, .unset, .unset, .unset, .unset] [(.int c1), (.int c0)])) rfl (by rw [hml]; rfl) (argsL := [(.int c0), (.int c1)]) (rest := []) (lenOf pd_3 rfl) rfl (by show 2 * 0 + _ ≤ _; exact Nat.le_of_eq rfl) (hb hby at_152) (fun _ _ => ⟨rfl, eg339, (by decide : 3 + 0 ≤ _), (by decide : 7 + 0 ≤ _)⟩)
  dsimp only [Pt.U, Pt.locs, Pt.cells, Pt.slots] at X343 l343 y343 z343 st343 hQ343
  subst l343 y343 z343
  obtain ⟨rfl, M343, ep342⟩ := hQ343
  have N343 := Fr.app N340 M343
  refine Goes.pre st343 ?_
  show Goes p e below s 24 128 (Q_0 Z q0 q1 q2 q3 q4 q5 h0 n0) T343 (mkF m 155 #[.val (.int q0), .val (.int q1), .val (.int q2), .val (.int q3), .val (.int q4), .val (.int q5), .val (.int c0), .val (.int c1), .val (.int c2), .val (.int c3), .val (.int c4), .val (.int (3 : Int32)), .val (.int st.toInt32), .val (.ref a320), .val (.ref a324), .val (.ref a327), .val (.int w1.toInt32), .val (.long lf1), .second, .val (.int w2.toInt32), .val (.long lf2), .second, .val (.int (1 : Int32)), .unset, .unset, .unset, .unset, .unset, .unset, .unset, .unset, .unset, .unset, .unset, .unset, .unset, .unset, .unset] [(.int (own_pairs c0 c1))])
  by_cases hc155 : (own_pairs c0 c1) = (0 : Int32)
  · refine own_ifN (pc' := 158) X343 hx (hb hby at_155) ((if0 _ _).trans (teq hc155).2) rfl ?_
    refine own_iconst (pc' := 159) X343 hx (hb hby at_158) (v := (1 : Int32)) rfl rfl ?_
    refine own_goto X343 hx (hb hby at_159) (by decide) (pc' := 163) (by decide) ?_
    refine own_istore (pc' := 165) X343 hx (hb hby at_163) (Ls' := #[.val (.int q0), .val (.int q1), .val (.int q2), .val (.int q3), .val (.int q4), .val (.int q5), .val (.int c0), .val (.int c1), .val (.int c2), .val (.int c3), .val (.int c4), .val (.int (3 : Int32)), .val (.int st.toInt32), .val (.ref a320), .val (.ref a324), .val (.ref a327), .val (.int w1.toInt32), .val (.long lf1), .second, .val (.int w2.toInt32), .val (.long lf2), .second, .val (.int (1 : Int32)), .val (.int (1 : Int32)), .unset, .unset, .unset, .unset, .unset, .unset, .unset, .unset, .unset, .unset, .unset, .unset, .unset, .unset]) rfl rfl ?_
    refine own_iload (pc' := 167) X343 hx (hb hby at_165) rfl rfl ?_
    refine own_iconst (pc' := 168) X343 hx (hb hby at_167) (v := (2 : Int32)) rfl rfl ?_
    refine own_icmpN (pc' := 171) X343 hx (hb hby at_168) (by decide) rfl ?_
    refine own_iload (pc' := 173) X343 hx (hb hby at_171) rfl rfl ?_
    refine own_iload (pc' := 175) X343 hx (hb hby at_173) rfl rfl ?_
    obtain ⟨_, _, ⟨T345, L345, k345, n345⟩, -, X345, ⟨Lc345, hQ345, l345, y345, z345⟩, st345⟩ := Jvm.LawKit.callS X343 hx (y := (⟨"com/example/dipper/dipper/core/LineEndsNormalizePinLaw", "pairs", "(CC)Z"⟩ : MethodName)) hown (mvT hZ (hw _ (List.mem_of_getElem? (i := 29) rfl))) (mvT hZ (hw _ (List.mem_of_getElem? (i := 30) rfl))) (mvT hZ (hw _ (List.mem_of_getElem? (i := 2) rfl))) (mvT hZ (hw _ (List.mem_of_getElem? (i := 31) rfl))) (by decide) (backOf (W := 0) (rm_3 l Z a0 hw [] c1 c2 T337.heap n0 Z336) hZ (hw _ (List.mem_of_getElem? (i := 31) rfl)) (hw _ (List.mem_of_getElem? (i := 2) rfl)) (by decide) (by decide)) (g := (mkF m 175 #[.val (.int q0), .val (.int q1), .val (.int q2), .val (.int q3), .val (.int q4), .val (.int q5), .val (.int c0), .val (.int c1), .val (.int c2), .val (.int c3), .val (.int c4), .val (.int (3 : Int32)), .val (.int st.toInt32), .val (.ref a320), .val (.ref a324), .val (.ref a327), .val (.int w1.toInt32), .val (.long lf1), .second, .val (.int w2.toInt32), .val (.long lf2), .second, .val (.int (1 : Int32)), .val (.int (1 : Int32)), .unset, .unset, .unset, .unset, .unset, .unset, .unset, .unset, .unset, .unset, .unset, .unset, .unset, .unset] [(.int c2), (.int c1)])) rfl (by rw [hml]; rfl) (argsL := [(.int c1), (.int c2)]) (rest := []) (lenOf pd_3 rfl) rfl (by show 2 * 0 + _ ≤ _; exact Nat.le_of_eq rfl) (hb hby at_175) (fun _ _ => ⟨rfl, ep342, (by decide : 3 + 0 ≤ _), (by decide : 7 + 0 ≤ _)⟩)
    dsimp only [Pt.U, Pt.locs, Pt.cells, Pt.slots] at X345 l345 y345 z345 st345 hQ345
    subst l345 y345 z345
    obtain ⟨rfl, M345, ep344⟩ := hQ345
    have N345 := Fr.app N343 M345
    refine Goes.pre st345 ?_
    show Goes p e below s 24 128 (Q_0 Z q0 q1 q2 q3 q4 q5 h0 n0) T345 (mkF m 178 #[.val (.int q0), .val (.int q1), .val (.int q2), .val (.int q3), .val (.int q4), .val (.int q5), .val (.int c0), .val (.int c1), .val (.int c2), .val (.int c3), .val (.int c4), .val (.int (3 : Int32)), .val (.int st.toInt32), .val (.ref a320), .val (.ref a324), .val (.ref a327), .val (.int w1.toInt32), .val (.long lf1), .second, .val (.int w2.toInt32), .val (.long lf2), .second, .val (.int (1 : Int32)), .val (.int (1 : Int32)), .unset, .unset, .unset, .unset, .unset, .unset, .unset, .unset, .unset, .unset, .unset, .unset, .unset, .unset] [(.int (own_pairs c1 c2))])
    by_cases hc178 : (own_pairs c1 c2) = (0 : Int32)
    · refine own_ifN (pc' := 181) X345 hx (hb hby at_178) ((if0 _ _).trans (teq hc178).2) rfl ?_
      refine own_iconst (pc' := 182) X345 hx (hb hby at_181) (v := (1 : Int32)) rfl rfl ?_
      refine own_goto X345 hx (hb hby at_182) (by decide) (pc' := 186) (by decide) ?_
      refine own_istore (pc' := 188) X345 hx (hb hby at_186) (Ls' := #[.val (.int q0), .val (.int q1), .val (.int q2), .val (.int q3), .val (.int q4), .val (.int q5), .val (.int c0), .val (.int c1), .val (.int c2), .val (.int c3), .val (.int c4), .val (.int (3 : Int32)), .val (.int st.toInt32), .val (.ref a320), .val (.ref a324), .val (.ref a327), .val (.int w1.toInt32), .val (.long lf1), .second, .val (.int w2.toInt32), .val (.long lf2), .second, .val (.int (1 : Int32)), .val (.int (1 : Int32)), .val (.int (1 : Int32)), .unset, .unset, .unset, .unset, .unset, .unset, .unset, .unset, .unset, .unset, .unset, .unset, .unset]) rfl rfl ?_
      refine own_iconst (pc' := 189) X345 hx (hb hby at_188) (v := (3 : Int32)) rfl rfl ?_
      have hA := ht1.trans (own_A3TT c0 c1 c2 hc155 hc178)
      simp only [Prod.mk.injEq] at hA
      obtain ⟨rfl, rfl, rfl, rfl⟩ := hA
      show Goes p e below s 24 128 (Q_0 Z q0 q1 q2 q3 q4 q5 h0 n0) T345 (mkF m 189 #[.val (.int q0), .val (.int q1), .val (.int q2), .val (.int q3), .val (.int q4), .val (.int q5), .val (.int c0), .val (.int c1), .val (.int c2), .val (.int c3), .val (.int c4), .val (.int (3 : Int32)), .val (.int st.toInt32), .val (.ref a320), .val (.ref a324), .val (.ref a327), .val (.int (3 : Int32)), .val (.long ((0 : Int64) + own_l1 (own_out c0) + own_l1 (own_out c1) + own_l1 (own_out c2))), .second, .val (.int w2.toInt32), .val (.long lf2), .second, .val (.int (1 : Int32)), .val (.int (1 : Int32)), .val (.int (1 : Int32)), .unset, .unset, .unset, .unset, .unset, .unset, .unset, .unset, .unset, .unset, .unset, .unset, .unset] [(.int (3 : Int32))])
      refine own_newarray (pc' := 191) X345 hx hZ (hw _ (List.mem_of_getElem? (i := 5) rfl)) ep344 (hb hby at_189) (k := 3) (cap := 3) rfl (by decide) rfl (by decide) (by decide) (by decide) (by decide) rfl ?_
      intro T346 h346 a346 g346 X346 e346 E346 P346
      show Goes p e below s 24 128 (Q_0 Z q0 q1 q2 q3 q4 q5 h0 n0) T346 (mkF m 191 #[.val (.int q0), .val (.int q1), .val (.int q2), .val (.int q3), .val (.int q4), .val (.int q5), .val (.int c0), .val (.int c1), .val (.int c2), .val (.int c3), .val (.int c4), .val (.int (3 : Int32)), .val (.int st.toInt32), .val (.ref a320), .val (.ref a324), .val (.ref a327), .val (.int (3 : Int32)), .val (.long ((0 : Int64) + own_l1 (own_out c0) + own_l1 (own_out c1) + own_l1 (own_out c2))), .second, .val (.int w2.toInt32), .val (.long lf2), .second, .val (.int (1 : Int32)), .val (.int (1 : Int32)), .val (.int (1 : Int32)), .unset, .unset, .unset, .unset, .unset, .unset, .unset, .unset, .unset, .unset, .unset, .unset, .unset] [(.ref a346)])
      have P346_a324 := P336.ext E346
      have P346_a320 := P336_a320.ext E346
      have ne_a324_a346 : a324 ≠ a346 := fun q => absurd (q ▸ P336.lt) (by rw [g346]; exact Nat.lt_irrefl _)
      have ne_a320_a346 : a320 ≠ a346 := fun q => absurd (q ▸ P336_a320.lt) (by rw [g346]; exact Nat.lt_irrefl _)
      have ge_a346 : n0 ≤ a346 := by rw [g346]; exact Z336
      have Z346 : n0 ≤ Array.size h346 := Nat.le_trans Z336 E346.1
      refine own_astore (pc' := 193) X346 hx (hb hby at_191) rfl (Ls' := #[.val (.int q0), .val (.int q1), .val (.int q2), .val (.int q3), .val (.int q4), .val (.int q5), .val (.int c0), .val (.int c1), .val (.int c2), .val (.int c3), .val (.int c4), .val (.int (3 : Int32)), .val (.int st.toInt32), .val (.ref a320), .val (.ref a324), .val (.ref a327), .val (.int (3 : Int32)), .val (.long ((0 : Int64) + own_l1 (own_out c0) + own_l1 (own_out c1) + own_l1 (own_out c2))), .second, .val (.int w2.toInt32), .val (.long lf2), .second, .val (.int (1 : Int32)), .val (.int (1 : Int32)), .val (.int (1 : Int32)), .val (.ref a346), .unset, .unset, .unset, .unset, .unset, .unset, .unset, .unset, .unset, .unset, .unset, .unset]) rfl rfl ?_
      refine own_iconst (pc' := 194) X346 hx (hb hby at_193) (v := (0 : Int32)) rfl rfl ?_
      refine own_istore (pc' := 196) X346 hx (hb hby at_194) (Ls' := #[.val (.int q0), .val (.int q1), .val (.int q2), .val (.int q3), .val (.int q4), .val (.int q5), .val (.int c0), .val (.int c1), .val (.int c2), .val (.int c3), .val (.int c4), .val (.int (3 : Int32)), .val (.int st.toInt32), .val (.ref a320), .val (.ref a324), .val (.ref a327), .val (.int (3 : Int32)), .val (.long ((0 : Int64) + own_l1 (own_out c0) + own_l1 (own_out c1) + own_l1 (own_out c2))), .second, .val (.int w2.toInt32), .val (.long lf2), .second, .val (.int (1 : Int32)), .val (.int (1 : Int32)), .val (.int (1 : Int32)), .val (.ref a346), .val (.int (0 : Int32)), .unset, .unset, .unset, .unset, .unset, .unset, .unset, .unset, .unset, .unset, .unset]) rfl rfl ?_
      refine own_iload (pc' := 198) X346 hx (hb hby at_196) rfl rfl ?_
      refine own_ifN (pc' := 201) X346 hx (hb hby at_198) (by decide) rfl ?_
      refine own_aload (pc' := 203) X346 hx (hb hby at_201) rfl rfl rfl ?_
      refine own_iload (pc' := 205) X346 hx (hb hby at_203) rfl rfl ?_
      refine own_iload (pc' := 207) X346 hx (hb hby at_205) rfl rfl ?_
      obtain ⟨_, _, ⟨T348, L348, k348, n348⟩, -, X348, ⟨Lc348, hQ348, l348, y348, z348⟩, st348⟩ := Jvm.LawKit.callS X346 hx (y := (⟨"com/example/dipper/dipper/core/LineEndsNormalizePinLaw", "out", "(C)C"⟩ : MethodName)) hown (mvT hZ (hw _ (List.mem_of_getElem? (i := 32) rfl))) (mvT hZ (hw _ (List.mem_of_getElem? (i := 33) rfl))) (mvT hZ (hw _ (List.mem_of_getElem? (i := 2) rfl))) (mvT hZ (hw _ (List.mem_of_getElem? (i := 34) rfl))) (by decide) (backOf (W := 2) (rm_2 l Z a0 hw [] c0 h346 n0 Z346 hC0) hZ (hw _ (List.mem_of_getElem? (i := 34) rfl)) (hw _ (List.mem_of_getElem? (i := 2) rfl)) (by decide) (by decide)) (g := (mkF m 207 #[.val (.int q0), .val (.int q1), .val (.int q2), .val (.int q3), .val (.int q4), .val (.int q5), .val (.int c0), .val (.int c1), .val (.int c2), .val (.int c3), .val (.int c4), .val (.int (3 : Int32)), .val (.int st.toInt32), .val (.ref a320), .val (.ref a324), .val (.ref a327), .val (.int (3 : Int32)), .val (.long ((0 : Int64) + own_l1 (own_out c0) + own_l1 (own_out c1) + own_l1 (own_out c2))), .second, .val (.int w2.toInt32), .val (.long lf2), .second, .val (.int (1 : Int32)), .val (.int (1 : Int32)), .val (.int (1 : Int32)), .val (.ref a346), .val (.int (0 : Int32)), .unset, .unset, .unset, .unset, .unset, .unset, .unset, .unset, .unset, .unset, .unset] [(.int c0), (.int (0 : Int32)), (.ref a346)])) rfl (by rw [hml]; rfl) (argsL := [(.int c0)]) (rest := [(.int (0 : Int32)), (.ref a346)]) (lenOf pd_2 rfl) rfl (by show 2 * 0 + _ ≤ _; exact Nat.le_of_eq rfl) (hb hby at_207) (fun _ _ => ⟨rfl, e346, (by decide : 4 + 0 ≤ _), (by decide : 10 + 0 ≤ _)⟩)
      dsimp only [Pt.U, Pt.locs, Pt.cells, Pt.slots] at X348 l348 y348 z348 st348 hQ348
      subst l348 y348 z348
      obtain ⟨rfl, M348, eo347⟩ := hQ348
      have N348 := Fr.app N345 M348
      refine Goes.pre st348 ?_
      show Goes p e below s 24 128 (Q_0 Z q0 q1 q2 q3 q4 q5 h0 n0) T348 (mkF m 210 #[.val (.int q0), .val (.int q1), .val (.int q2), .val (.int q3), .val (.int q4), .val (.int q5), .val (.int c0), .val (.int c1), .val (.int c2), .val (.int c3), .val (.int c4), .val (.int (3 : Int32)), .val (.int st.toInt32), .val (.ref a320), .val (.ref a324), .val (.ref a327), .val (.int (3 : Int32)), .val (.long ((0 : Int64) + own_l1 (own_out c0) + own_l1 (own_out c1) + own_l1 (own_out c2))), .second, .val (.int w2.toInt32), .val (.long lf2), .second, .val (.int (1 : Int32)), .val (.int (1 : Int32)), .val (.int (1 : Int32)), .val (.ref a346), .val (.int (0 : Int32)), .unset, .unset, .unset, .unset, .unset, .unset, .unset, .unset, .unset, .unset, .unset] [(.int (own_out c0)), (.int (0 : Int32)), (.ref a346)])
      refine own_castore (pc' := 211) X348 hx hZ eo347 P346 (hb hby at_210) (own_nar (own_outC hC0)) (by decide) (k := 0) (by decide) (by simp) rfl ?_
      intro T349 h349 X349 e349 W349 P349
      have N349 := Fr.snoc X349 N348 ge_a346
      have P349_a324 := P346_a324.other W349 ne_a324_a346
      have P349_a320 := P346_a320.other W349 ne_a320_a346
      have Z349 : n0 ≤ Array.size h349 := by rw [W349.size]; exact Z346
      show Goes p e below s 24 128 (Q_0 Z q0 q1 q2 q3 q4 q5 h0 n0) T349 (mkF m 211 #[.val (.int q0), .val (.int q1), .val (.int q2), .val (.int q3), .val (.int q4), .val (.int q5), .val (.int c0), .val (.int c1), .val (.int c2), .val (.int c3), .val (.int c4), .val (.int (3 : Int32)), .val (.int st.toInt32), .val (.ref a320), .val (.ref a324), .val (.ref a327), .val (.int (3 : Int32)), .val (.long ((0 : Int64) + own_l1 (own_out c0) + own_l1 (own_out c1) + own_l1 (own_out c2))), .second, .val (.int w2.toInt32), .val (.long lf2), .second, .val (.int (1 : Int32)), .val (.int (1 : Int32)), .val (.int (1 : Int32)), .val (.ref a346), .val (.int (0 : Int32)), .unset, .unset, .unset, .unset, .unset, .unset, .unset, .unset, .unset, .unset, .unset] [])
      have P349x : own_PA Z h349 a346 .char [(own_out c0), (0 : Int32), (0 : Int32)] := P349
      refine own_iinc (pc' := 214) X349 hx (hb hby at_211) rfl (y := (1 : Int32)) (by decide) (Ls' := #[.val (.int q0), .val (.int q1), .val (.int q2), .val (.int q3), .val (.int q4), .val (.int q5), .val (.int c0), .val (.int c1), .val (.int c2), .val (.int c3), .val (.int c4), .val (.int (3 : Int32)), .val (.int st.toInt32), .val (.ref a320), .val (.ref a324), .val (.ref a327), .val (.int (3 : Int32)), .val (.long ((0 : Int64) + own_l1 (own_out c0) + own_l1 (own_out c1) + own_l1 (own_out c2))), .second, .val (.int w2.toInt32), .val (.long lf2), .second, .val (.int (1 : Int32)), .val (.int (1 : Int32)), .val (.int (1 : Int32)), .val (.ref a346), .val (.int (1 : Int32)), .unset, .unset, .unset, .unset, .unset, .unset, .unset, .unset, .unset, .unset, .unset]) rfl rfl ?_
      refine own_iload (pc' := 216) X349 hx (hb hby at_214) rfl rfl ?_
      refine own_ifN (pc' := 219) X349 hx (hb hby at_216) (by decide) rfl ?_
      refine own_aload (pc' := 221) X349 hx (hb hby at_219) rfl rfl rfl ?_
      refine own_iload (pc' := 223) X349 hx (hb hby at_221) rfl rfl ?_
      refine own_iload (pc' := 225) X349 hx (hb hby at_223) rfl rfl ?_
      obtain ⟨_, _, ⟨T351, L351, k351, n351⟩, -, X351, ⟨Lc351, hQ351, l351, y351, z351⟩, st351⟩ := Jvm.LawKit.callS X349 hx (y := (⟨"com/example/dipper/dipper/core/LineEndsNormalizePinLaw", "out", "(C)C"⟩ : MethodName)) hown (mvT hZ (hw _ (List.mem_of_getElem? (i := 32) rfl))) (mvT hZ (hw _ (List.mem_of_getElem? (i := 33) rfl))) (mvT hZ (hw _ (List.mem_of_getElem? (i := 2) rfl))) (mvT hZ (hw _ (List.mem_of_getElem? (i := 34) rfl))) (by decide) (backOf (W := 2) (rm_2 l Z a0 hw [] c1 h349 n0 Z349 hC1) hZ (hw _ (List.mem_of_getElem? (i := 34) rfl)) (hw _ (List.mem_of_getElem? (i := 2) rfl)) (by decide) (by decide)) (g := (mkF m 225 #[.val (.int q0), .val (.int q1), .val (.int q2), .val (.int q3), .val (.int q4), .val (.int q5), .val (.int c0), .val (.int c1), .val (.int c2), .val (.int c3), .val (.int c4), .val (.int (3 : Int32)), .val (.int st.toInt32), .val (.ref a320), .val (.ref a324), .val (.ref a327), .val (.int (3 : Int32)), .val (.long ((0 : Int64) + own_l1 (own_out c0) + own_l1 (own_out c1) + own_l1 (own_out c2))), .second, .val (.int w2.toInt32), .val (.long lf2), .second, .val (.int (1 : Int32)), .val (.int (1 : Int32)), .val (.int (1 : Int32)), .val (.ref a346), .val (.int (1 : Int32)), .unset, .unset, .unset, .unset, .unset, .unset, .unset, .unset, .unset, .unset, .unset] [(.int c1), (.int (1 : Int32)), (.ref a346)])) rfl (by rw [hml]; rfl) (argsL := [(.int c1)]) (rest := [(.int (1 : Int32)), (.ref a346)]) (lenOf pd_2 rfl) rfl (by show 2 * 0 + _ ≤ _; exact Nat.le_of_eq rfl) (hb hby at_225) (fun _ _ => ⟨rfl, e349, (by decide : 4 + 0 ≤ _), (by decide : 10 + 0 ≤ _)⟩)
      dsimp only [Pt.U, Pt.locs, Pt.cells, Pt.slots] at X351 l351 y351 z351 st351 hQ351
      subst l351 y351 z351
      obtain ⟨rfl, M351, eo350⟩ := hQ351
      have N351 := Fr.app N349 M351
      refine Goes.pre st351 ?_
      show Goes p e below s 24 128 (Q_0 Z q0 q1 q2 q3 q4 q5 h0 n0) T351 (mkF m 228 #[.val (.int q0), .val (.int q1), .val (.int q2), .val (.int q3), .val (.int q4), .val (.int q5), .val (.int c0), .val (.int c1), .val (.int c2), .val (.int c3), .val (.int c4), .val (.int (3 : Int32)), .val (.int st.toInt32), .val (.ref a320), .val (.ref a324), .val (.ref a327), .val (.int (3 : Int32)), .val (.long ((0 : Int64) + own_l1 (own_out c0) + own_l1 (own_out c1) + own_l1 (own_out c2))), .second, .val (.int w2.toInt32), .val (.long lf2), .second, .val (.int (1 : Int32)), .val (.int (1 : Int32)), .val (.int (1 : Int32)), .val (.ref a346), .val (.int (1 : Int32)), .unset, .unset, .unset, .unset, .unset, .unset, .unset, .unset, .unset, .unset, .unset] [(.int (own_out c1)), (.int (1 : Int32)), (.ref a346)])
      refine own_castore (pc' := 229) X351 hx hZ eo350 P349x (hb hby at_228) (own_nar (own_outC hC1)) (by decide) (k := 1) (by decide) (by simp) rfl ?_
      intro T352 h352 X352 e352 W352 P352
      have N352 := Fr.snoc X352 N351 ge_a346
      have P352_a324 := P349_a324.other W352 ne_a324_a346
      have P352_a320 := P349_a320.other W352 ne_a320_a346
      have Z352 : n0 ≤ Array.size h352 := by rw [W352.size]; exact Z349
      show Goes p e below s 24 128 (Q_0 Z q0 q1 q2 q3 q4 q5 h0 n0) T352 (mkF m 229 #[.val (.int q0), .val (.int q1), .val (.int q2), .val (.int q3), .val (.int q4), .val (.int q5), .val (.int c0), .val (.int c1), .val (.int c2), .val (.int c3), .val (.int c4), .val (.int (3 : Int32)), .val (.int st.toInt32), .val (.ref a320), .val (.ref a324), .val (.ref a327), .val (.int (3 : Int32)), .val (.long ((0 : Int64) + own_l1 (own_out c0) + own_l1 (own_out c1) + own_l1 (own_out c2))), .second, .val (.int w2.toInt32), .val (.long lf2), .second, .val (.int (1 : Int32)), .val (.int (1 : Int32)), .val (.int (1 : Int32)), .val (.ref a346), .val (.int (1 : Int32)), .unset, .unset, .unset, .unset, .unset, .unset, .unset, .unset, .unset, .unset, .unset] [])
      have P352x : own_PA Z h352 a346 .char [(own_out c0), (own_out c1), (0 : Int32)] := P352
      refine own_iinc (pc' := 232) X352 hx (hb hby at_229) rfl (y := (2 : Int32)) (by decide) (Ls' := #[.val (.int q0), .val (.int q1), .val (.int q2), .val (.int q3), .val (.int q4), .val (.int q5), .val (.int c0), .val (.int c1), .val (.int c2), .val (.int c3), .val (.int c4), .val (.int (3 : Int32)), .val (.int st.toInt32), .val (.ref a320), .val (.ref a324), .val (.ref a327), .val (.int (3 : Int32)), .val (.long ((0 : Int64) + own_l1 (own_out c0) + own_l1 (own_out c1) + own_l1 (own_out c2))), .second, .val (.int w2.toInt32), .val (.long lf2), .second, .val (.int (1 : Int32)), .val (.int (1 : Int32)), .val (.int (1 : Int32)), .val (.ref a346), .val (.int (2 : Int32)), .unset, .unset, .unset, .unset, .unset, .unset, .unset, .unset, .unset, .unset, .unset]) rfl rfl ?_
      refine own_iload (pc' := 234) X352 hx (hb hby at_232) rfl rfl ?_
      refine own_ifN (pc' := 237) X352 hx (hb hby at_234) (by decide) rfl ?_
      refine own_aload (pc' := 239) X352 hx (hb hby at_237) rfl rfl rfl ?_
      refine own_iload (pc' := 241) X352 hx (hb hby at_239) rfl rfl ?_
      refine own_iload (pc' := 243) X352 hx (hb hby at_241) rfl rfl ?_
      obtain ⟨_, _, ⟨T354, L354, k354, n354⟩, -, X354, ⟨Lc354, hQ354, l354, y354, z354⟩, st354⟩ := Jvm.LawKit.callS X352 hx (y := (⟨"com/example/dipper/dipper/core/LineEndsNormalizePinLaw", "out", "(C)C"⟩ : MethodName)) hown (mvT hZ (hw _ (List.mem_of_getElem? (i := 32) rfl))) (mvT hZ (hw _ (List.mem_of_getElem? (i := 33) rfl))) (mvT hZ (hw _ (List.mem_of_getElem? (i := 2) rfl))) (mvT hZ (hw _ (List.mem_of_getElem? (i := 34) rfl))) (by decide) (backOf (W := 2) (rm_2 l Z a0 hw [] c2 h352 n0 Z352 hC2) hZ (hw _ (List.mem_of_getElem? (i := 34) rfl)) (hw _ (List.mem_of_getElem? (i := 2) rfl)) (by decide) (by decide)) (g := (mkF m 243 #[.val (.int q0), .val (.int q1), .val (.int q2), .val (.int q3), .val (.int q4), .val (.int q5), .val (.int c0), .val (.int c1), .val (.int c2), .val (.int c3), .val (.int c4), .val (.int (3 : Int32)), .val (.int st.toInt32), .val (.ref a320), .val (.ref a324), .val (.ref a327), .val (.int (3 : Int32)), .val (.long ((0 : Int64) + own_l1 (own_out c0) + own_l1 (own_out c1) + own_l1 (own_out c2))), .second, .val (.int w2.toInt32), .val (.long lf2), .second, .val (.int (1 : Int32)), .val (.int (1 : Int32)), .val (.int (1 : Int32)), .val (.ref a346), .val (.int (2 : Int32)), .unset, .unset, .unset, .unset, .unset, .unset, .unset, .unset, .unset, .unset, .unset] [(.int c2), (.int (2 : Int32)), (.ref a346)])) rfl (by rw [hml]; rfl) (argsL := [(.int c2)]) (rest := [(.int (2 : Int32)), (.ref a346)]) (lenOf pd_2 rfl) rfl (by show 2 * 0 + _ ≤ _; exact Nat.le_of_eq rfl) (hb hby at_243) (fun _ _ => ⟨rfl, e352, (by decide : 4 + 0 ≤ _), (by decide : 10 + 0 ≤ _)⟩)
      dsimp only [Pt.U, Pt.locs, Pt.cells, Pt.slots] at X354 l354 y354 z354 st354 hQ354
      subst l354 y354 z354
      obtain ⟨rfl, M354, eo353⟩ := hQ354
      have N354 := Fr.app N352 M354
      refine Goes.pre st354 ?_
      show Goes p e below s 24 128 (Q_0 Z q0 q1 q2 q3 q4 q5 h0 n0) T354 (mkF m 246 #[.val (.int q0), .val (.int q1), .val (.int q2), .val (.int q3), .val (.int q4), .val (.int q5), .val (.int c0), .val (.int c1), .val (.int c2), .val (.int c3), .val (.int c4), .val (.int (3 : Int32)), .val (.int st.toInt32), .val (.ref a320), .val (.ref a324), .val (.ref a327), .val (.int (3 : Int32)), .val (.long ((0 : Int64) + own_l1 (own_out c0) + own_l1 (own_out c1) + own_l1 (own_out c2))), .second, .val (.int w2.toInt32), .val (.long lf2), .second, .val (.int (1 : Int32)), .val (.int (1 : Int32)), .val (.int (1 : Int32)), .val (.ref a346), .val (.int (2 : Int32)), .unset, .unset, .unset, .unset, .unset, .unset, .unset, .unset, .unset, .unset, .unset] [(.int (own_out c2)), (.int (2 : Int32)), (.ref a346)])
      refine own_castore (pc' := 247) X354 hx hZ eo353 P352x (hb hby at_246) (own_nar (own_outC hC2)) (by decide) (k := 2) (by decide) (by simp) rfl ?_
      intro T355 h355 X355 e355 W355 P355
      have N355 := Fr.snoc X355 N354 ge_a346
      have P355_a324 := P352_a324.other W355 ne_a324_a346
      have P355_a320 := P352_a320.other W355 ne_a320_a346
      have Z355 : n0 ≤ Array.size h355 := by rw [W355.size]; exact Z352
      show Goes p e below s 24 128 (Q_0 Z q0 q1 q2 q3 q4 q5 h0 n0) T355 (mkF m 247 #[.val (.int q0), .val (.int q1), .val (.int q2), .val (.int q3), .val (.int q4), .val (.int q5), .val (.int c0), .val (.int c1), .val (.int c2), .val (.int c3), .val (.int c4), .val (.int (3 : Int32)), .val (.int st.toInt32), .val (.ref a320), .val (.ref a324), .val (.ref a327), .val (.int (3 : Int32)), .val (.long ((0 : Int64) + own_l1 (own_out c0) + own_l1 (own_out c1) + own_l1 (own_out c2))), .second, .val (.int w2.toInt32), .val (.long lf2), .second, .val (.int (1 : Int32)), .val (.int (1 : Int32)), .val (.int (1 : Int32)), .val (.ref a346), .val (.int (2 : Int32)), .unset, .unset, .unset, .unset, .unset, .unset, .unset, .unset, .unset, .unset, .unset] [])
      have P355x : own_PA Z h355 a346 .char [(own_out c0), (own_out c1), (own_out c2)] := P355
      refine own_iinc (pc' := 250) X355 hx (hb hby at_247) rfl (y := (3 : Int32)) (by decide) (Ls' := #[.val (.int q0), .val (.int q1), .val (.int q2), .val (.int q3), .val (.int q4), .val (.int q5), .val (.int c0), .val (.int c1), .val (.int c2), .val (.int c3), .val (.int c4), .val (.int (3 : Int32)), .val (.int st.toInt32), .val (.ref a320), .val (.ref a324), .val (.ref a327), .val (.int (3 : Int32)), .val (.long ((0 : Int64) + own_l1 (own_out c0) + own_l1 (own_out c1) + own_l1 (own_out c2))), .second, .val (.int w2.toInt32), .val (.long lf2), .second, .val (.int (1 : Int32)), .val (.int (1 : Int32)), .val (.int (1 : Int32)), .val (.ref a346), .val (.int (3 : Int32)), .unset, .unset, .unset, .unset, .unset, .unset, .unset, .unset, .unset, .unset, .unset]) rfl rfl ?_
      refine own_iload (pc' := 252) X355 hx (hb hby at_250) rfl rfl ?_
      refine own_iload (pc' := 254) X355 hx (hb hby at_252) rfl rfl ?_
      obtain ⟨_, _, ⟨T357, L357, k357, n357⟩, -, X357, ⟨Lc357, hQ357, l357, y357, z357⟩, st357⟩ := Jvm.LawKit.callS X355 hx (y := (⟨"com/example/dipper/dipper/core/LineEndsNormalizePinLaw", "lf", "(ZC)J"⟩ : MethodName)) hown (mvT hZ (hw _ (List.mem_of_getElem? (i := 35) rfl))) (mvT hZ (hw _ (List.mem_of_getElem? (i := 36) rfl))) (mvT hZ (hw _ (List.mem_of_getElem? (i := 2) rfl))) (mvT hZ (hw _ (List.mem_of_getElem? (i := 37) rfl))) (by decide) (backOf (W := 0) (rm_4 l Z a0 hw [] (1 : Int32) c0 h355 n0 Z355 hC0) hZ (hw _ (List.mem_of_getElem? (i := 37) rfl)) (hw _ (List.mem_of_getElem? (i := 2) rfl)) (by decide) (by decide)) (g := (mkF m 254 #[.val (.int q0), .val (.int q1), .val (.int q2), .val (.int q3), .val (.int q4), .val (.int q5), .val (.int c0), .val (.int c1), .val (.int c2), .val (.int c3), .val (.int c4), .val (.int (3 : Int32)), .val (.int st.toInt32), .val (.ref a320), .val (.ref a324), .val (.ref a327), .val (.int (3 : Int32)), .val (.long ((0 : Int64) + own_l1 (own_out c0) + own_l1 (own_out c1) + own_l1 (own_out c2))), .second, .val (.int w2.toInt32), .val (.long lf2), .second, .val (.int (1 : Int32)), .val (.int (1 : Int32)), .val (.int (1 : Int32)), .val (.ref a346), .val (.int (3 : Int32)), .unset, .unset, .unset, .unset, .unset, .unset, .unset, .unset, .unset, .unset, .unset] [(.int c0), (.int (1 : Int32))])) rfl (by rw [hml]; rfl) (argsL := [(.int (1 : Int32)), (.int c0)]) (rest := []) (lenOf pd_4 rfl) rfl (by show 2 * 0 + _ ≤ _; exact Nat.le_of_eq rfl) (hb hby at_254) (fun _ _ => ⟨rfl, e355, (by decide : 4 + 0 ≤ _), (by decide : 10 + 0 ≤ _)⟩)
      dsimp only [Pt.U, Pt.locs, Pt.cells, Pt.slots] at X357 l357 y357 z357 st357 hQ357
      subst l357 y357 z357
      obtain ⟨rfl, M357, el356⟩ := hQ357
      have N357 := Fr.app N355 M357
      refine Goes.pre st357 ?_
      show Goes p e below s 24 128 (Q_0 Z q0 q1 q2 q3 q4 q5 h0 n0) T357 (mkF m 257 #[.val (.int q0), .val (.int q1), .val (.int q2), .val (.int q3), .val (.int q4), .val (.int q5), .val (.int c0), .val (.int c1), .val (.int c2), .val (.int c3), .val (.int c4), .val (.int (3 : Int32)), .val (.int st.toInt32), .val (.ref a320), .val (.ref a324), .val (.ref a327), .val (.int (3 : Int32)), .val (.long ((0 : Int64) + own_l1 (own_out c0) + own_l1 (own_out c1) + own_l1 (own_out c2))), .second, .val (.int w2.toInt32), .val (.long lf2), .second, .val (.int (1 : Int32)), .val (.int (1 : Int32)), .val (.int (1 : Int32)), .val (.ref a346), .val (.int (3 : Int32)), .unset, .unset, .unset, .unset, .unset, .unset, .unset, .unset, .unset, .unset, .unset] [(.long (own_lf (1 : Int32) c0))])
      refine own_iload (pc' := 259) X357 hx (hb hby at_257) rfl rfl ?_
      refine own_iload (pc' := 261) X357 hx (hb hby at_259) rfl rfl ?_
      obtain ⟨_, _, ⟨T359, L359, k359, n359⟩, -, X359, ⟨Lc359, hQ359, l359, y359, z359⟩, st359⟩ := Jvm.LawKit.callS X357 hx (y := (⟨"com/example/dipper/dipper/core/LineEndsNormalizePinLaw", "lf", "(ZC)J"⟩ : MethodName)) hown (mvT hZ (hw _ (List.mem_of_getElem? (i := 35) rfl))) (mvT hZ (hw _ (List.mem_of_getElem? (i := 36) rfl))) (mvT hZ (hw _ (List.mem_of_getElem? (i := 2) rfl))) (mvT hZ (hw _ (List.mem_of_getElem? (i := 37) rfl))) (by decide) (backOf (W := 2) (rm_4 l Z a0 hw [] (1 : Int32) c1 h355 n0 Z355 hC1) hZ (hw _ (List.mem_of_getElem? (i := 37) rfl)) (hw _ (List.mem_of_getElem? (i := 2) rfl)) (by decide) (by decide)) (g := (mkF m 261 #[.val (.int q0), .val (.int q1), .val (.int q2), .val (.int q3), .val (.int q4), .val (.int q5), .val (.int c0), .val (.int c1), .val (.int c2), .val (.int c3), .val (.int c4), .val (.int (3 : Int32)), .val (.int st.toInt32), .val (.ref a320), .val (.ref a324), .val (.ref a327), .val (.int (3 : Int32)), .val (.long ((0 : Int64) + own_l1 (own_out c0) + own_l1 (own_out c1) + own_l1 (own_out c2))), .second, .val (.int w2.toInt32), .val (.long lf2), .second, .val (.int (1 : Int32)), .val (.int (1 : Int32)), .val (.int (1 : Int32)), .val (.ref a346), .val (.int (3 : Int32)), .unset, .unset, .unset, .unset, .unset, .unset, .unset, .unset, .unset, .unset, .unset] [(.int c1), (.int (1 : Int32)), (.long (own_lf (1 : Int32) c0))])) rfl (by rw [hml]; rfl) (argsL := [(.int (1 : Int32)), (.int c1)]) (rest := [(.long (own_lf (1 : Int32) c0))]) (lenOf pd_4 rfl) rfl (by show 2 * 0 + _ ≤ _; exact Nat.le_of_eq rfl) (hb hby at_261) (fun _ _ => ⟨rfl, el356, (by decide : 4 + 0 ≤ _), (by decide : 10 + 0 ≤ _)⟩)
      dsimp only [Pt.U, Pt.locs, Pt.cells, Pt.slots] at X359 l359 y359 z359 st359 hQ359
      subst l359 y359 z359
      obtain ⟨rfl, M359, el358⟩ := hQ359
      have N359 := Fr.app N357 M359
      refine Goes.pre st359 ?_
      show Goes p e below s 24 128 (Q_0 Z q0 q1 q2 q3 q4 q5 h0 n0) T359 (mkF m 264 #[.val (.int q0), .val (.int q1), .val (.int q2), .val (.int q3), .val (.int q4), .val (.int q5), .val (.int c0), .val (.int c1), .val (.int c2), .val (.int c3), .val (.int c4), .val (.int (3 : Int32)), .val (.int st.toInt32), .val (.ref a320), .val (.ref a324), .val (.ref a327), .val (.int (3 : Int32)), .val (.long ((0 : Int64) + own_l1 (own_out c0) + own_l1 (own_out c1) + own_l1 (own_out c2))), .second, .val (.int w2.toInt32), .val (.long lf2), .second, .val (.int (1 : Int32)), .val (.int (1 : Int32)), .val (.int (1 : Int32)), .val (.ref a346), .val (.int (3 : Int32)), .unset, .unset, .unset, .unset, .unset, .unset, .unset, .unset, .unset, .unset, .unset] [(.long (own_lf (1 : Int32) c1)), (.long (own_lf (1 : Int32) c0))])
      refine own_ladd (pc' := 265) X359 hx (hb hby at_264) rfl ?_
      refine own_iload (pc' := 267) X359 hx (hb hby at_265) rfl rfl ?_
      refine own_iload (pc' := 269) X359 hx (hb hby at_267) rfl rfl ?_
      obtain ⟨_, _, ⟨T361, L361, k361, n361⟩, -, X361, ⟨Lc361, hQ361, l361, y361, z361⟩, st361⟩ := Jvm.LawKit.callS X359 hx (y := (⟨"com/example/dipper/dipper/core/LineEndsNormalizePinLaw", "lf", "(ZC)J"⟩ : MethodName)) hown (mvT hZ (hw _ (List.mem_of_getElem? (i := 35) rfl))) (mvT hZ (hw _ (List.mem_of_getElem? (i := 36) rfl))) (mvT hZ (hw _ (List.mem_of_getElem? (i := 2) rfl))) (mvT hZ (hw _ (List.mem_of_getElem? (i := 37) rfl))) (by decide) (backOf (W := 2) (rm_4 l Z a0 hw [] (1 : Int32) c2 h355 n0 Z355 hC2) hZ (hw _ (List.mem_of_getElem? (i := 37) rfl)) (hw _ (List.mem_of_getElem? (i := 2) rfl)) (by decide) (by decide)) (g := (mkF m 269 #[.val (.int q0), .val (.int q1), .val (.int q2), .val (.int q3), .val (.int q4), .val (.int q5), .val (.int c0), .val (.int c1), .val (.int c2), .val (.int c3), .val (.int c4), .val (.int (3 : Int32)), .val (.int st.toInt32), .val (.ref a320), .val (.ref a324), .val (.ref a327), .val (.int (3 : Int32)), .val (.long ((0 : Int64) + own_l1 (own_out c0) + own_l1 (own_out c1) + own_l1 (own_out c2))), .second, .val (.int w2.toInt32), .val (.long lf2), .second, .val (.int (1 : Int32)), .val (.int (1 : Int32)), .val (.int (1 : Int32)), .val (.ref a346), .val (.int (3 : Int32)), .unset, .unset, .unset, .unset, .unset, .unset, .unset, .unset, .unset, .unset, .unset] [(.int c2), (.int (1 : Int32)), (.long ((own_lf (1 : Int32) c0) + (own_lf (1 : Int32) c1)))])) rfl (by rw [hml]; rfl) (argsL := [(.int (1 : Int32)), (.int c2)]) (rest := [(.long ((own_lf (1 : Int32) c0) + (own_lf (1 : Int32) c1)))]) (lenOf pd_4 rfl) rfl (by show 2 * 0 + _ ≤ _; exact Nat.le_of_eq rfl) (hb hby at_269) (fun _ _ => ⟨rfl, el358, (by decide : 4 + 0 ≤ _), (by decide : 10 + 0 ≤ _)⟩)
      dsimp only [Pt.U, Pt.locs, Pt.cells, Pt.slots] at X361 l361 y361 z361 st361 hQ361
      subst l361 y361 z361
      obtain ⟨rfl, M361, el360⟩ := hQ361
      have N361 := Fr.app N359 M361
      refine Goes.pre st361 ?_
      show Goes p e below s 24 128 (Q_0 Z q0 q1 q2 q3 q4 q5 h0 n0) T361 (mkF m 272 #[.val (.int q0), .val (.int q1), .val (.int q2), .val (.int q3), .val (.int q4), .val (.int q5), .val (.int c0), .val (.int c1), .val (.int c2), .val (.int c3), .val (.int c4), .val (.int (3 : Int32)), .val (.int st.toInt32), .val (.ref a320), .val (.ref a324), .val (.ref a327), .val (.int (3 : Int32)), .val (.long ((0 : Int64) + own_l1 (own_out c0) + own_l1 (own_out c1) + own_l1 (own_out c2))), .second, .val (.int w2.toInt32), .val (.long lf2), .second, .val (.int (1 : Int32)), .val (.int (1 : Int32)), .val (.int (1 : Int32)), .val (.ref a346), .val (.int (3 : Int32)), .unset, .unset, .unset, .unset, .unset, .unset, .unset, .unset, .unset, .unset, .unset] [(.long (own_lf (1 : Int32) c2)), (.long ((own_lf (1 : Int32) c0) + (own_lf (1 : Int32) c1)))])
      refine own_ladd (pc' := 273) X361 hx (hb hby at_272) rfl ?_
      refine own_lstore (pc' := 275) X361 hx (hb hby at_273) (Ls' := #[.val (.int q0), .val (.int q1), .val (.int q2), .val (.int q3), .val (.int q4), .val (.int q5), .val (.int c0), .val (.int c1), .val (.int c2), .val (.int c3), .val (.int c4), .val (.int (3 : Int32)), .val (.int st.toInt32), .val (.ref a320), .val (.ref a324), .val (.ref a327), .val (.int (3 : Int32)), .val (.long ((0 : Int64) + own_l1 (own_out c0) + own_l1 (own_out c1) + own_l1 (own_out c2))), .second, .val (.int w2.toInt32), .val (.long lf2), .second, .val (.int (1 : Int32)), .val (.int (1 : Int32)), .val (.int (1 : Int32)), .val (.ref a346), .val (.int (3 : Int32)), .val (.long (((own_lf (1 : Int32) c0) + (own_lf (1 : Int32) c1)) + (own_lf (1 : Int32) c2))), .second, .unset, .unset, .unset, .unset, .unset, .unset, .unset, .unset, .unset]) rfl rfl ?_
      refine own_iload (pc' := 277) X361 hx (hb hby at_275) rfl rfl ?_
      refine own_iload (pc' := 279) X361 hx (hb hby at_277) rfl rfl ?_
      refine own_icmpN (pc' := 282) X361 hx (hb hby at_279) (by decide) rfl ?_
      refine own_iload (pc' := 284) X361 hx (hb hby at_282) rfl rfl ?_
      refine own_iconst (pc' := 285) X361 hx (hb hby at_284) (v := (1 : Int32)) rfl rfl ?_
      refine own_icmpN (pc' := 288) X361 hx (hb hby at_285) (by decide) rfl ?_
      refine own_aload (pc' := 290) X361 hx (hb hby at_288) rfl rfl rfl ?_
      refine own_iconst (pc' := 291) X361 hx (hb hby at_290) (v := (0 : Int32)) rfl rfl ?_
      refine own_caload (pc' := 292) X361 hx hZ el360 P355_a320 (hb hby at_291) (v := (own_out c0)) (by decide) (k := 0) (by decide) rfl rfl ?_
      refine own_aload (pc' := 294) X361 hx (hb hby at_292) rfl rfl rfl ?_
      refine own_iconst (pc' := 295) X361 hx (hb hby at_294) (v := (0 : Int32)) rfl rfl ?_
      refine own_caload (pc' := 296) X361 hx hZ el360 P355x (hb hby at_295) (v := (own_out c0)) (by decide) (k := 0) (by decide) rfl rfl ?_
      refine own_icmpN (pc' := 299) X361 hx (hb hby at_296) (teq rfl).2 rfl ?_
      refine own_iload (pc' := 301) X361 hx (hb hby at_299) rfl rfl ?_
      refine own_iconst (pc' := 302) X361 hx (hb hby at_301) (v := (2 : Int32)) rfl rfl ?_
      refine own_icmpN (pc' := 305) X361 hx (hb hby at_302) (by decide) rfl ?_
      refine own_aload (pc' := 307) X361 hx (hb hby at_305) rfl rfl rfl ?_
      refine own_iconst (pc' := 308) X361 hx (hb hby at_307) (v := (1 : Int32)) rfl rfl ?_
      refine own_caload (pc' := 309) X361 hx hZ el360 P355_a320 (hb hby at_308) (v := (own_out c1)) (by decide) (k := 1) (by decide) rfl rfl ?_
      refine own_aload (pc' := 311) X361 hx (hb hby at_309) rfl rfl rfl ?_
      refine own_iconst (pc' := 312) X361 hx (hb hby at_311) (v := (1 : Int32)) rfl rfl ?_
      refine own_caload (pc' := 313) X361 hx hZ el360 P355x (hb hby at_312) (v := (own_out c1)) (by decide) (k := 1) (by decide) rfl rfl ?_
      refine own_icmpN (pc' := 316) X361 hx (hb hby at_313) (teq rfl).2 rfl ?_
      refine own_iload (pc' := 318) X361 hx (hb hby at_316) rfl rfl ?_
      refine own_iconst (pc' := 319) X361 hx (hb hby at_318) (v := (3 : Int32)) rfl rfl ?_
      refine own_icmpN (pc' := 322) X361 hx (hb hby at_319) (by decide) rfl ?_
      refine own_aload (pc' := 324) X361 hx (hb hby at_322) rfl rfl rfl ?_
      refine own_iconst (pc' := 325) X361 hx (hb hby at_324) (v := (2 : Int32)) rfl rfl ?_
      refine own_caload (pc' := 326) X361 hx hZ el360 P355_a320 (hb hby at_325) (v := (own_out c2)) (by decide) (k := 2) (by decide) rfl rfl ?_
      refine own_aload (pc' := 328) X361 hx (hb hby at_326) rfl rfl rfl ?_
      refine own_iconst (pc' := 329) X361 hx (hb hby at_328) (v := (2 : Int32)) rfl rfl ?_
      refine own_caload (pc' := 330) X361 hx hZ el360 P355x (hb hby at_329) (v := (own_out c2)) (by decide) (k := 2) (by decide) rfl rfl ?_
      refine own_icmpN (pc' := 333) X361 hx (hb hby at_330) (teq rfl).2 rfl ?_
      refine own_iload (pc' := 335) X361 hx (hb hby at_333) rfl rfl ?_
      refine own_ifY X361 hx (hb hby at_335) (by decide) (by decide) (pc' := 347) (by decide) ?_
      refine own_iload (pc' := 349) X361 hx (hb hby at_347) rfl rfl ?_
      refine own_iconst (pc' := 350) X361 hx (hb hby at_349) (v := (1 : Int32)) rfl rfl ?_
      refine own_icmpY X361 hx (hb hby at_350) (by decide) (by decide) (pc' := 362) (by decide) ?_
      refine own_iload (pc' := 364) X361 hx (hb hby at_362) rfl rfl ?_
      refine own_iconst (pc' := 365) X361 hx (hb hby at_364) (v := (2 : Int32)) rfl rfl ?_
      refine own_icmpY X361 hx (hb hby at_365) (by decide) (by decide) (pc' := 377) (by decide) ?_
      refine own_lload (pc' := 379) X361 hx (hb hby at_377) rfl rfl ?_
      refine own_lload (pc' := 381) X361 hx (hb hby at_379) rfl rfl ?_
      refine own_lcmp (pc' := 382) X361 hx (hb hby at_381) rfl ?_
      refine own_ifN (pc' := 385) X361 hx (hb hby at_382) (own_Teq (by simp [own_lf] : ((0 : Int64) + own_l1 (own_out c0) + own_l1 (own_out c1) + own_l1 (own_out c2)) = (((own_lf (1 : Int32) c0) + (own_lf (1 : Int32) c1)) + (own_lf (1 : Int32) c2)))).2 rfl ?_
      refine own_iconst (pc' := 386) X361 hx (hb hby at_385) (v := (1 : Int32)) rfl rfl ?_
      refine own_goto X361 hx (hb hby at_386) (by decide) (pc' := 390) (by decide) ?_
      refine own_istore (pc' := 392) X361 hx (hb hby at_390) (Ls' := #[.val (.int q0), .val (.int q1), .val (.int q2), .val (.int q3), .val (.int q4), .val (.int q5), .val (.int c0), .val (.int c1), .val (.int c2), .val (.int c3), .val (.int c4), .val (.int (3 : Int32)), .val (.int st.toInt32), .val (.ref a320), .val (.ref a324), .val (.ref a327), .val (.int (3 : Int32)), .val (.long ((0 : Int64) + own_l1 (own_out c0) + own_l1 (own_out c1) + own_l1 (own_out c2))), .second, .val (.int w2.toInt32), .val (.long lf2), .second, .val (.int (1 : Int32)), .val (.int (1 : Int32)), .val (.int (1 : Int32)), .val (.ref a346), .val (.int (3 : Int32)), .val (.long (((own_lf (1 : Int32) c0) + (own_lf (1 : Int32) c1)) + (own_lf (1 : Int32) c2))), .second, .val (.int (1 : Int32)), .unset, .unset, .unset, .unset, .unset, .unset, .unset, .unset]) rfl rfl ?_
      refine own_iload (pc' := 394) X361 hx (hb hby at_392) rfl rfl ?_
      refine own_iconst (pc' := 395) X361 hx (hb hby at_394) (v := (1 : Int32)) rfl rfl ?_
      refine own_icmpY X361 hx (hb hby at_395) (by decide) (by decide) (pc' := 413) (by decide) ?_
      refine own_iload (pc' := 415) X361 hx (hb hby at_413) rfl rfl ?_
      refine own_iconst (pc' := 416) X361 hx (hb hby at_415) (v := (2 : Int32)) rfl rfl ?_
      refine own_icmpY X361 hx (hb hby at_416) (by decide) (by decide) (pc' := 434) (by decide) ?_
      refine own_iload (pc' := 436) X361 hx (hb hby at_434) rfl rfl ?_
      refine own_iconst (pc' := 437) X361 hx (hb hby at_436) (v := (3 : Int32)) rfl rfl ?_
      refine own_icmpN (pc' := 440) X361 hx (hb hby at_437) (by decide) rfl ?_
      refine own_iload (pc' := 442) X361 hx (hb hby at_440) rfl rfl ?_
      refine own_bipush (pc' := 444) X361 hx (hb hby at_442) (v := (13 : Int32)) rfl rfl ?_
      by_cases hc444 : c2 = (13 : Int32)
      · refine own_icmpN (pc' := 447) X361 hx (hb hby at_444) (teq hc444).2 rfl ?_
        refine own_iconst (pc' := 448) X361 hx (hb hby at_447) (v := (1 : Int32)) rfl rfl ?_
        refine own_goto X361 hx (hb hby at_448) (by decide) (pc' := 456) (by decide) ?_
        refine own_istore (pc' := 458) X361 hx (hb hby at_456) (Ls' := #[.val (.int q0), .val (.int q1), .val (.int q2), .val (.int q3), .val (.int q4), .val (.int q5), .val (.int c0), .val (.int c1), .val (.int c2), .val (.int c3), .val (.int c4), .val (.int (3 : Int32)), .val (.int st.toInt32), .val (.ref a320), .val (.ref a324), .val (.ref a327), .val (.int (3 : Int32)), .val (.long ((0 : Int64) + own_l1 (own_out c0) + own_l1 (own_out c1) + own_l1 (own_out c2))), .second, .val (.int w2.toInt32), .val (.long lf2), .second, .val (.int (1 : Int32)), .val (.int (1 : Int32)), .val (.int (1 : Int32)), .val (.ref a346), .val (.int (3 : Int32)), .val (.long (((own_lf (1 : Int32) c0) + (own_lf (1 : Int32) c1)) + (own_lf (1 : Int32) c2))), .second, .val (.int (1 : Int32)), .val (.int (1 : Int32)), .unset, .unset, .unset, .unset, .unset, .unset, .unset]) rfl rfl ?_
        have hpr : (own_af c2) = (1 : Int32) := by simp [own_af, hc444]
        have hlf : (((own_lf (1 : Int32) c0) + (own_lf (1 : Int32) c1)) + (own_lf (1 : Int32) c2)) = ((0 : Int64) + own_l1 (own_out c0) + own_l1 (own_out c1) + own_l1 (own_out c2)) := by simp [own_lf]
        rw [hlf]
        rw [hpr] at ht2
        obtain rfl | rfl | rfl : st = 0 ∨ st = 1 ∨ st = 2 := by omega
        · exact own_tB01 hw q0 q1 q2 q3 q4 q5 h0 n0 Z0 hx hby hlk hml hown hZ hret T361 _ _ a324 c3 c4 _ _ _ _ _ _ _ _ _ _ _ _ _ _ _ _ _ _ _ _ _ _ _ _ _ hC3 hC4 X361 el360 N361 Z355 P355_a324 ht2
        · exact own_tB11 hw q0 q1 q2 q3 q4 q5 h0 n0 Z0 hx hby hlk hml hown hZ hret T361 _ _ a324 c3 c4 _ _ _ _ _ _ _ _ _ _ _ _ _ _ _ _ _ _ _ _ _ _ _ _ _ hC3 hC4 X361 el360 N361 Z355 P355_a324 ht2
        · exact own_tB21 hw q0 q1 q2 q3 q4 q5 h0 n0 Z0 hx hby hlk hml hown hZ hret T361 _ _ a324 c3 c4 _ _ _ _ _ _ _ _ _ _ _ _ _ _ _ _ _ _ _ _ _ _ _ _ _ hC3 hC4 X361 el360 N361 Z355 P355_a324 ht2
      · refine own_icmpY X361 hx (hb hby at_444) (feq hc444).2 (by decide) (pc' := 451) (by decide) ?_
        refine own_iconst (pc' := 452) X361 hx (hb hby at_451) (v := (0 : Int32)) rfl rfl ?_
        refine own_goto X361 hx (hb hby at_452) (by decide) (pc' := 456) (by decide) ?_
        refine own_istore (pc' := 458) X361 hx (hb hby at_456) (Ls' := #[.val (.int q0), .val (.int q1), .val (.int q2), .val (.int q3), .val (.int q4), .val (.int q5), .val (.int c0), .val (.int c1), .val (.int c2), .val (.int c3), .val (.int c4), .val (.int (3 : Int32)), .val (.int st.toInt32), .val (.ref a320), .val (.ref a324), .val (.ref a327), .val (.int (3 : Int32)), .val (.long ((0 : Int64) + own_l1 (own_out c0) + own_l1 (own_out c1) + own_l1 (own_out c2))), .second, .val (.int w2.toInt32), .val (.long lf2), .second, .val (.int (1 : Int32)), .val (.int (1 : Int32)), .val (.int (1 : Int32)), .val (.ref a346), .val (.int (3 : Int32)), .val (.long (((own_lf (1 : Int32) c0) + (own_lf (1 : Int32) c1)) + (own_lf (1 : Int32) c2))), .second, .val (.int (1 : Int32)), .val (.int (0 : Int32)), .unset, .unset, .unset, .unset, .unset, .unset, .unset]) rfl rfl ?_
        have hpr : (own_af c2) = (0 : Int32) := by simp [own_af, hc444]
        have hlf : (((own_lf (1 : Int32) c0) + (own_lf (1 : Int32) c1)) + (own_lf (1 : Int32) c2)) = ((0 : Int64) + own_l1 (own_out c0) + own_l1 (own_out c1) + own_l1 (own_out c2)) := by simp [own_lf]
        rw [hlf]
        rw [hpr] at ht2
        obtain rfl | rfl | rfl : st = 0 ∨ st = 1 ∨ st = 2 := by omega
        · exact own_tB00 hw q0 q1 q2 q3 q4 q5 h0 n0 Z0 hx hby hlk hml hown hZ hret T361 _ _ a324 c3 c4 _ _ _ _ _ _ _ _ _ _ _ _ _ _ _ _ _ _ _ _ _ _ _ _ _ hC3 hC4 X361 el360 N361 Z355 P355_a324 ht2
        · exact own_tB10 hw q0 q1 q2 q3 q4 q5 h0 n0 Z0 hx hby hlk hml hown hZ hret T361 _ _ a324 c3 c4 _ _ _ _ _ _ _ _ _ _ _ _ _ _ _ _ _ _ _ _ _ _ _ _ _ hC3 hC4 X361 el360 N361 Z355 P355_a324 ht2
        · exact own_tB20 hw q0 q1 q2 q3 q4 q5 h0 n0 Z0 hx hby hlk hml hown hZ hret T361 _ _ a324 c3 c4 _ _ _ _ _ _ _ _ _ _ _ _ _ _ _ _ _ _ _ _ _ _ _ _ _ hC3 hC4 X361 el360 N361 Z355 P355_a324 ht2
    · refine own_ifY X345 hx (hb hby at_178) ((if0 _ _).trans (feq hc178).2) (by decide) (pc' := 185) (by decide) ?_
      refine own_iconst (pc' := 186) X345 hx (hb hby at_185) (v := (0 : Int32)) rfl rfl ?_
      refine own_istore (pc' := 188) X345 hx (hb hby at_186) (Ls' := #[.val (.int q0), .val (.int q1), .val (.int q2), .val (.int q3), .val (.int q4), .val (.int q5), .val (.int c0), .val (.int c1), .val (.int c2), .val (.int c3), .val (.int c4), .val (.int (3 : Int32)), .val (.int st.toInt32), .val (.ref a320), .val (.ref a324), .val (.ref a327), .val (.int w1.toInt32), .val (.long lf1), .second, .val (.int w2.toInt32), .val (.long lf2), .second, .val (.int (1 : Int32)), .val (.int (1 : Int32)), .val (.int (0 : Int32)), .unset, .unset, .unset, .unset, .unset, .unset, .unset, .unset, .unset, .unset, .unset, .unset, .unset]) rfl rfl ?_
      refine own_iconst (pc' := 189) X345 hx (hb hby at_188) (v := (3 : Int32)) rfl rfl ?_
      have hA := ht1.trans (own_A3TF c0 c1 c2 hc155 hc178)
      simp only [Prod.mk.injEq] at hA
      obtain ⟨rfl, rfl, rfl, rfl⟩ := hA
      show Goes p e below s 24 128 (Q_0 Z q0 q1 q2 q3 q4 q5 h0 n0) T345 (mkF m 189 #[.val (.int q0), .val (.int q1), .val (.int q2), .val (.int q3), .val (.int q4), .val (.int q5), .val (.int c0), .val (.int c1), .val (.int c2), .val (.int c3), .val (.int c4), .val (.int (3 : Int32)), .val (.int st.toInt32), .val (.ref a320), .val (.ref a324), .val (.ref a327), .val (.int (2 : Int32)), .val (.long ((0 : Int64) + own_l1 (own_out c0) + own_l1 (own_out c1))), .second, .val (.int w2.toInt32), .val (.long lf2), .second, .val (.int (1 : Int32)), .val (.int (1 : Int32)), .val (.int (0 : Int32)), .unset, .unset, .unset, .unset, .unset, .unset, .unset, .unset, .unset, .unset, .unset, .unset, .unset] [(.int (3 : Int32))])
      refine own_newarray (pc' := 191) X345 hx hZ (hw _ (List.mem_of_getElem? (i := 5) rfl)) ep344 (hb hby at_189) (k := 3) (cap := 3) rfl (by decide) rfl (by decide) (by decide) (by decide) (by decide) rfl ?_
      intro T362 h362 a362 g362 X362 e362 E362 P362
      show Goes p e below s 24 128 (Q_0 Z q0 q1 q2 q3 q4 q5 h0 n0) T362 (mkF m 191 #[.val (.int q0), .val (.int q1), .val (.int q2), .val (.int q3), .val (.int q4), .val (.int q5), .val (.int c0), .val (.int c1), .val (.int c2), .val (.int c3), .val (.int c4), .val (.int (3 : Int32)), .val (.int st.toInt32), .val (.ref a320), .val (.ref a324), .val (.ref a327), .val (.int (2 : Int32)), .val (.long ((0 : Int64) + own_l1 (own_out c0) + own_l1 (own_out c1))), .second, .val (.int w2.toInt32), .val (.long lf2), .second, .val (.int (1 : Int32)), .val (.int (1 : Int32)), .val (.int (0 : Int32)), .unset, .unset, .unset, .unset, .unset, .unset, .unset, .unset, .unset, .unset, .unset, .unset, .unset] [(.ref a362)])
      have P362_a324 := P336.ext E362
      have P362_a320 := P336_a320.ext E362
      have ne_a324_a362 : a324 ≠ a362 := fun q => absurd (q ▸ P336.lt) (by rw [g362]; exact Nat.lt_irrefl _)
      have ne_a320_a362 : a320 ≠ a362 := fun q => absurd (q ▸ P336_a320.lt) (by rw [g362]; exact Nat.lt_irrefl _)
      have ge_a362 : n0 ≤ a362 := by rw [g362]; exact Z336
      have Z362 : n0 ≤ Array.size h362 := Nat.le_trans Z336 E362.1
      refine own_astore (pc' := 193) X362 hx (hb hby at_191) rfl (Ls' := #[.val (.int q0), .val (.int q1), .val (.int q2), .val (.int q3), .val (.int q4), .val (.int q5), .val (.int c0), .val (.int c1), .val (.int c2), .val (.int c3), .val (.int c4), .val (.int (3 : Int32)), .val (.int st.toInt32), .val (.ref a320), .val (.ref a324), .val (.ref a327), .val (.int (2 : Int32)), .val (.long ((0 : Int64) + own_l1 (own_out c0) + own_l1 (own_out c1))), .second, .val (.int w2.toInt32), .val (.long lf2), .second, .val (.int (1 : Int32)), .val (.int (1 : Int32)), .val (.int (0 : Int32)), .val (.ref a362), .unset, .unset, .unset, .unset, .unset, .unset, .unset, .unset, .unset, .unset, .unset, .unset]) rfl rfl ?_
      refine own_iconst (pc' := 194) X362 hx (hb hby at_193) (v := (0 : Int32)) rfl rfl ?_
      refine own_istore (pc' := 196) X362 hx (hb hby at_194) (Ls' := #[.val (.int q0), .val (.int q1), .val (.int q2), .val (.int q3), .val (.int q4), .val (.int q5), .val (.int c0), .val (.int c1), .val (.int c2), .val (.int c3), .val (.int c4), .val (.int (3 : Int32)), .val (.int st.toInt32), .val (.ref a320), .val (.ref a324), .val (.ref a327), .val (.int (2 : Int32)), .val (.long ((0 : Int64) + own_l1 (own_out c0) + own_l1 (own_out c1))), .second, .val (.int w2.toInt32), .val (.long lf2), .second, .val (.int (1 : Int32)), .val (.int (1 : Int32)), .val (.int (0 : Int32)), .val (.ref a362), .val (.int (0 : Int32)), .unset, .unset, .unset, .unset, .unset, .unset, .unset, .unset, .unset, .unset, .unset]) rfl rfl ?_
      refine own_iload (pc' := 198) X362 hx (hb hby at_196) rfl rfl ?_
      refine own_ifN (pc' := 201) X362 hx (hb hby at_198) (by decide) rfl ?_
      refine own_aload (pc' := 203) X362 hx (hb hby at_201) rfl rfl rfl ?_
      refine own_iload (pc' := 205) X362 hx (hb hby at_203) rfl rfl ?_
      refine own_iload (pc' := 207) X362 hx (hb hby at_205) rfl rfl ?_
      obtain ⟨_, _, ⟨T364, L364, k364, n364⟩, -, X364, ⟨Lc364, hQ364, l364, y364, z364⟩, st364⟩ := Jvm.LawKit.callS X362 hx (y := (⟨"com/example/dipper/dipper/core/LineEndsNormalizePinLaw", "out", "(C)C"⟩ : MethodName)) hown (mvT hZ (hw _ (List.mem_of_getElem? (i := 32) rfl))) (mvT hZ (hw _ (List.mem_of_getElem? (i := 33) rfl))) (mvT hZ (hw _ (List.mem_of_getElem? (i := 2) rfl))) (mvT hZ (hw _ (List.mem_of_getElem? (i := 34) rfl))) (by decide) (backOf (W := 2) (rm_2 l Z a0 hw [] c0 h362 n0 Z362 hC0) hZ (hw _ (List.mem_of_getElem? (i := 34) rfl)) (hw _ (List.mem_of_getElem? (i := 2) rfl)) (by decide) (by decide)) (g := (mkF m 207 #[.val (.int q0), .val (.int q1), .val (.int q2), .val (.int q3), .val (.int q4), .val (.int q5), .val (.int c0), .val (.int c1), .val (.int c2), .val (.int c3), .val (.int c4), .val (.int (3 : Int32)), .val (.int st.toInt32), .val (.ref a320), .val (.ref a324), .val (.ref a327), .val (.int (2 : Int32)), .val (.long ((0 : Int64) + own_l1 (own_out c0) + own_l1 (own_out c1))), .second, .val (.int w2.toInt32), .val (.long lf2), .second, .val (.int (1 : Int32)), .val (.int (1 : Int32)), .val (.int (0 : Int32)), .val (.ref a362), .val (.int (0 : Int32)), .unset, .unset, .unset, .unset, .unset, .unset, .unset, .unset, .unset, .unset, .unset] [(.int c0), (.int (0 : Int32)), (.ref a362)])) rfl (by rw [hml]; rfl) (argsL := [(.int c0)]) (rest := [(.int (0 : Int32)), (.ref a362)]) (lenOf pd_2 rfl) rfl (by show 2 * 0 + _ ≤ _; exact Nat.le_of_eq rfl) (hb hby at_207) (fun _ _ => ⟨rfl, e362, (by decide : 4 + 0 ≤ _), (by decide : 10 + 0 ≤ _)⟩)
      dsimp only [Pt.U, Pt.locs, Pt.cells, Pt.slots] at X364 l364 y364 z364 st364 hQ364
      subst l364 y364 z364
      obtain ⟨rfl, M364, eo363⟩ := hQ364
      have N364 := Fr.app N345 M364
      refine Goes.pre st364 ?_
      show Goes p e below s 24 128 (Q_0 Z q0 q1 q2 q3 q4 q5 h0 n0) T364 (mkF m 210 #[.val (.int q0), .val (.int q1), .val (.int q2), .val (.int q3), .val (.int q4), .val (.int q5), .val (.int c0), .val (.int c1), .val (.int c2), .val (.int c3), .val (.int c4), .val (.int (3 : Int32)), .val (.int st.toInt32), .val (.ref a320), .val (.ref a324), .val (.ref a327), .val (.int (2 : Int32)), .val (.long ((0 : Int64) + own_l1 (own_out c0) + own_l1 (own_out c1))), .second, .val (.int w2.toInt32), .val (.long lf2), .second, .val (.int (1 : Int32)), .val (.int (1 : Int32)), .val (.int (0 : Int32)), .val (.ref a362), .val (.int (0 : Int32)), .unset, .unset, .unset, .unset, .unset, .unset, .unset, .unset, .unset, .unset, .unset] [(.int (own_out c0)), (.int (0 : Int32)), (.ref a362)])
      refine own_castore (pc' := 211) X364 hx hZ eo363 P362 (hb hby at_210) (own_nar (own_outC hC0)) (by decide) (k := 0) (by decide) (by simp) rfl ?_
      intro T365 h365 X365 e365 W365 P365
      have N365 := Fr.snoc X365 N364 ge_a362
      have P365_a324 := P362_a324.other W365 ne_a324_a362
      have P365_a320 := P362_a320.other W365 ne_a320_a362
      have Z365 : n0 ≤ Array.size h365 := by rw [W365.size]; exact Z362
      show Goes p e below s 24 128 (Q_0 Z q0 q1 q2 q3 q4 q5 h0 n0) T365 (mkF m 211 #[.val (.int q0), .val (.int q1), .val (.int q2), .val (.int q3), .val (.int q4), .val (.int q5), .val (.int c0), .val (.int c1), .val (.int c2), .val (.int c3), .val (.int c4), .val (.int (3 : Int32)), .val (.int st.toInt32), .val (.ref a320), .val (.ref a324), .val (.ref a327), .val (.int (2 : Int32)), .val (.long ((0 : Int64) + own_l1 (own_out c0) + own_l1 (own_out c1))), .second, .val (.int w2.toInt32), .val (.long lf2), .second, .val (.int (1 : Int32)), .val (.int (1 : Int32)), .val (.int (0 : Int32)), .val (.ref a362), .val (.int (0 : Int32)), .unset, .unset, .unset, .unset, .unset, .unset, .unset, .unset, .unset, .unset, .unset] [])
      have P365x : own_PA Z h365 a362 .char [(own_out c0), (0 : Int32), (0 : Int32)] := P365
      refine own_iinc (pc' := 214) X365 hx (hb hby at_211) rfl (y := (1 : Int32)) (by decide) (Ls' := #[.val (.int q0), .val (.int q1), .val (.int q2), .val (.int q3), .val (.int q4), .val (.int q5), .val (.int c0), .val (.int c1), .val (.int c2), .val (.int c3), .val (.int c4), .val (.int (3 : Int32)), .val (.int st.toInt32), .val (.ref a320), .val (.ref a324), .val (.ref a327), .val (.int (2 : Int32)), .val (.long ((0 : Int64) + own_l1 (own_out c0) + own_l1 (own_out c1))), .second, .val (.int w2.toInt32), .val (.long lf2), .second, .val (.int (1 : Int32)), .val (.int (1 : Int32)), .val (.int (0 : Int32)), .val (.ref a362), .val (.int (1 : Int32)), .unset, .unset, .unset, .unset, .unset, .unset, .unset, .unset, .unset, .unset, .unset]) rfl rfl ?_
      refine own_iload (pc' := 216) X365 hx (hb hby at_214) rfl rfl ?_
      refine own_ifN (pc' := 219) X365 hx (hb hby at_216) (by decide) rfl ?_
      refine own_aload (pc' := 221) X365 hx (hb hby at_219) rfl rfl rfl ?_
      refine own_iload (pc' := 223) X365 hx (hb hby at_221) rfl rfl ?_
      refine own_iload (pc' := 225) X365 hx (hb hby at_223) rfl rfl ?_
      obtain ⟨_, _, ⟨T367, L367, k367, n367⟩, -, X367, ⟨Lc367, hQ367, l367, y367, z367⟩, st367⟩ := Jvm.LawKit.callS X365 hx (y := (⟨"com/example/dipper/dipper/core/LineEndsNormalizePinLaw", "out", "(C)C"⟩ : MethodName)) hown (mvT hZ (hw _ (List.mem_of_getElem? (i := 32) rfl))) (mvT hZ (hw _ (List.mem_of_getElem? (i := 33) rfl))) (mvT hZ (hw _ (List.mem_of_getElem? (i := 2) rfl))) (mvT hZ (hw _ (List.mem_of_getElem? (i := 34) rfl))) (by decide) (backOf (W := 2) (rm_2 l Z a0 hw [] c1 h365 n0 Z365 hC1) hZ (hw _ (List.mem_of_getElem? (i := 34) rfl)) (hw _ (List.mem_of_getElem? (i := 2) rfl)) (by decide) (by decide)) (g := (mkF m 225 #[.val (.int q0), .val (.int q1), .val (.int q2), .val (.int q3), .val (.int q4), .val (.int q5), .val (.int c0), .val (.int c1), .val (.int c2), .val (.int c3), .val (.int c4), .val (.int (3 : Int32)), .val (.int st.toInt32), .val (.ref a320), .val (.ref a324), .val (.ref a327), .val (.int (2 : Int32)), .val (.long ((0 : Int64) + own_l1 (own_out c0) + own_l1 (own_out c1))), .second, .val (.int w2.toInt32), .val (.long lf2), .second, .val (.int (1 : Int32)), .val (.int (1 : Int32)), .val (.int (0 : Int32)), .val (.ref a362), .val (.int (1 : Int32)), .unset, .unset, .unset, .unset, .unset, .unset, .unset, .unset, .unset, .unset, .unset] [(.int c1), (.int (1 : Int32)), (.ref a362)])) rfl (by rw [hml]; rfl) (argsL := [(.int c1)]) (rest := [(.int (1 : Int32)), (.ref a362)]) (lenOf pd_2 rfl) rfl (by show 2 * 0 + _ ≤ _; exact Nat.le_of_eq rfl) (hb hby at_225) (fun _ _ => ⟨rfl, e365, (by decide : 4 + 0 ≤ _), (by decide : 10 + 0 ≤ _)⟩)
      dsimp only [Pt.U, Pt.locs, Pt.cells, Pt.slots] at X367 l367 y367 z367 st367 hQ367
      subst l367 y367 z367
      obtain ⟨rfl, M367, eo366⟩ := hQ367
      have N367 := Fr.app N365 M367
      refine Goes.pre st367 ?_
      show Goes p e below s 24 128 (Q_0 Z q0 q1 q2 q3 q4 q5 h0 n0) T367 (mkF m 228 #[.val (.int q0), .val (.int q1), .val (.int q2), .val (.int q3), .val (.int q4), .val (.int q5), .val (.int c0), .val (.int c1), .val (.int c2), .val (.int c3), .val (.int c4), .val (.int (3 : Int32)), .val (.int st.toInt32), .val (.ref a320), .val (.ref a324), .val (.ref a327), .val (.int (2 : Int32)), .val (.long ((0 : Int64) + own_l1 (own_out c0) + own_l1 (own_out c1))), .second, .val (.int w2.toInt32), .val (.long lf2), .second, .val (.int (1 : Int32)), .val (.int (1 : Int32)), .val (.int (0 : Int32)), .val (.ref a362), .val (.int (1 : Int32)), .unset, .unset, .unset, .unset, .unset, .unset, .unset, .unset, .unset, .unset, .unset] [(.int (own_out c1)), (.int (1 : Int32)), (.ref a362)])
      refine own_castore (pc' := 229) X367 hx hZ eo366 P365x (hb hby at_228) (own_nar (own_outC hC1)) (by decide) (k := 1) (by decide) (by simp) rfl ?_
      intro T368 h368 X368 e368 W368 P368
      have N368 := Fr.snoc X368 N367 ge_a362
      have P368_a324 := P365_a324.other W368 ne_a324_a362
      have P368_a320 := P365_a320.other W368 ne_a320_a362
      have Z368 : n0 ≤ Array.size h368 := by rw [W368.size]; exact Z365
      show Goes p e below s 24 128 (Q_0 Z q0 q1 q2 q3 q4 q5 h0 n0) T368 (mkF m 229 #[.val (.int q0), .val (.int q1), .val (.int q2), .val (.int q3), .val (.int q4), .val (.int q5), .val (.int c0), .val (.int c1), .val (.int c2), .val (.int c3), .val (.int c4), .val (.int (3 : Int32)), .val (.int st.toInt32), .val (.ref a320), .val (.ref a324), .val (.ref a327), .val (.int (2 : Int32)), .val (.long ((0 : Int64) + own_l1 (own_out c0) + own_l1 (own_out c1))), .second, .val (.int w2.toInt32), .val (.long lf2), .second, .val (.int (1 : Int32)), .val (.int (1 : Int32)), .val (.int (0 : Int32)), .val (.ref a362), .val (.int (1 : Int32)), .unset, .unset, .unset, .unset, .unset, .unset, .unset, .unset, .unset, .unset, .unset] [])
      have P368x : own_PA Z h368 a362 .char [(own_out c0), (own_out c1), (0 : Int32)] := P368
      refine own_iinc (pc' := 232) X368 hx (hb hby at_229) rfl (y := (2 : Int32)) (by decide) (Ls' := #[.val (.int q0), .val (.int q1), .val (.int q2), .val (.int q3), .val (.int q4), .val (.int q5), .val (.int c0), .val (.int c1), .val (.int c2), .val (.int c3), .val (.int c4), .val (.int (3 : Int32)), .val (.int st.toInt32), .val (.ref a320), .val (.ref a324), .val (.ref a327), .val (.int (2 : Int32)), .val (.long ((0 : Int64) + own_l1 (own_out c0) + own_l1 (own_out c1))), .second, .val (.int w2.toInt32), .val (.long lf2), .second, .val (.int (1 : Int32)), .val (.int (1 : Int32)), .val (.int (0 : Int32)), .val (.ref a362), .val (.int (2 : Int32)), .unset, .unset, .unset, .unset, .unset, .unset, .unset, .unset, .unset, .unset, .unset]) rfl rfl ?_
      refine own_iload (pc' := 234) X368 hx (hb hby at_232) rfl rfl ?_
      refine own_ifY X368 hx (hb hby at_234) (by decide) (by decide) (pc' := 250) (by decide) ?_
      refine own_iload (pc' := 252) X368 hx (hb hby at_250) rfl rfl ?_
      refine own_iload (pc' := 254) X368 hx (hb hby at_252) rfl rfl ?_
      obtain ⟨_, _, ⟨T370, L370, k370, n370⟩, -, X370, ⟨Lc370, hQ370, l370, y370, z370⟩, st370⟩ := Jvm.LawKit.callS X368 hx (y := (⟨"com/example/dipper/dipper/core/LineEndsNormalizePinLaw", "lf", "(ZC)J"⟩ : MethodName)) hown (mvT hZ (hw _ (List.mem_of_getElem? (i := 35) rfl))) (mvT hZ (hw _ (List.mem_of_getElem? (i := 36) rfl))) (mvT hZ (hw _ (List.mem_of_getElem? (i := 2) rfl))) (mvT hZ (hw _ (List.mem_of_getElem? (i := 37) rfl))) (by decide) (backOf (W := 0) (rm_4 l Z a0 hw [] (1 : Int32) c0 h368 n0 Z368 hC0) hZ (hw _ (List.mem_of_getElem? (i := 37) rfl)) (hw _ (List.mem_of_getElem? (i := 2) rfl)) (by decide) (by decide)) (g := (mkF m 254 #[.val (.int q0), .val (.int q1), .val (.int q2), .val (.int q3), .val (.int q4), .val (.int q5), .val (.int c0), .val (.int c1), .val (.int c2), .val (.int c3), .val (.int c4), .val (.int (3 : Int32)), .val (.int st.toInt32), .val (.ref a320), .val (.ref a324), .val (.ref a327), .val (.int (2 : Int32)), .val (.long ((0 : Int64) + own_l1 (own_out c0) + own_l1 (own_out c1))), .second, .val (.int w2.toInt32), .val (.long lf2), .second, .val (.int (1 : Int32)), .val (.int (1 : Int32)), .val (.int (0 : Int32)), .val (.ref a362), .val (.int (2 : Int32)), .unset, .unset, .unset, .unset, .unset, .unset, .unset, .unset, .unset, .unset, .unset] [(.int c0), (.int (1 : Int32))])) rfl (by rw [hml]; rfl) (argsL := [(.int (1 : Int32)), (.int c0)]) (rest := []) (lenOf pd_4 rfl) rfl (by show 2 * 0 + _ ≤ _; exact Nat.le_of_eq rfl) (hb hby at_254) (fun _ _ => ⟨rfl, e368, (by decide : 4 + 0 ≤ _), (by decide : 10 + 0 ≤ _)⟩)
      dsimp only [Pt.U, Pt.locs, Pt.cells, Pt.slots] at X370 l370 y370 z370 st370 hQ370
      subst l370 y370 z370
      obtain ⟨rfl, M370, el369⟩ := hQ370
      have N370 := Fr.app N368 M370
      refine Goes.pre st370 ?_
      show Goes p e below s 24 128 (Q_0 Z q0 q1 q2 q3 q4 q5 h0 n0) T370 (mkF m 257 #[.val (.int q0), .val (.int q1), .val (.int q2), .val (.int q3), .val (.int q4), .val (.int q5), .val (.int c0), .val (.int c1), .val (.int c2), .val (.int c3), .val (.int c4), .val (.int (3 : Int32)), .val (.int st.toInt32), .val (.ref a320), .val (.ref a324), .val (.ref a327), .val (.int (2 : Int32)), .val (.long ((0 : Int64) + own_l1 (own_out c0) + own_l1 (own_out c1))), .second, .val (.int w2.toInt32), .val (.long lf2), .second, .val (.int (1 : Int32)), .val (.int (1 : Int32)), .val (.int (0 : Int32)), .val (.ref a362), .val (.int (2 : Int32)), .unset, .unset, .unset, .unset, .unset, .unset, .unset, .unset, .unset, .unset, .unset] [(.long (own_lf (1 : Int32) c0))])
      refine own_iload (pc' := 259) X370 hx (hb hby at_257) rfl rfl ?_
      refine own_iload (pc' := 261) X370 hx (hb hby at_259) rfl rfl ?_
      obtain ⟨_, _, ⟨T372, L372, k372, n372⟩, -, X372, ⟨Lc372, hQ372, l372, y372, z372⟩, st372⟩ := Jvm.LawKit.callS X370 hx (y := (⟨"com/example/dipper/dipper/core/LineEndsNormalizePinLaw", "lf", "(ZC)J"⟩ : MethodName)) hown (mvT hZ (hw _ (List.mem_of_getElem? (i := 35) rfl))) (mvT hZ (hw _ (List.mem_of_getElem? (i := 36) rfl))) (mvT hZ (hw _ (List.mem_of_getElem? (i := 2) rfl))) (mvT hZ (hw _ (List.mem_of_getElem? (i := 37) rfl))) (by decide) (backOf (W := 2) (rm_4 l Z a0 hw [] (1 : Int32) c1 h368 n0 Z368 hC1) hZ (hw _ (List.mem_of_getElem? (i := 37) rfl)) (hw _ (List.mem_of_getElem? (i := 2) rfl)) (by decide) (by decide)) (g := (mkF m 261 #[.val (.int q0), .val (.int q1), .val (.int q2), .val (.int q3), .val (.int q4), .val (.int q5), .val (.int c0), .val (.int c1), .val (.int c2), .val (.int c3), .val (.int c4), .val (.int (3 : Int32)), .val (.int st.toInt32), .val (.ref a320), .val (.ref a324), .val (.ref a327), .val (.int (2 : Int32)), .val (.long ((0 : Int64) + own_l1 (own_out c0) + own_l1 (own_out c1))), .second, .val (.int w2.toInt32), .val (.long lf2), .second, .val (.int (1 : Int32)), .val (.int (1 : Int32)), .val (.int (0 : Int32)), .val (.ref a362), .val (.int (2 : Int32)), .unset, .unset, .unset, .unset, .unset, .unset, .unset, .unset, .unset, .unset, .unset] [(.int c1), (.int (1 : Int32)), (.long (own_lf (1 : Int32) c0))])) rfl (by rw [hml]; rfl) (argsL := [(.int (1 : Int32)), (.int c1)]) (rest := [(.long (own_lf (1 : Int32) c0))]) (lenOf pd_4 rfl) rfl (by show 2 * 0 + _ ≤ _; exact Nat.le_of_eq rfl) (hb hby at_261) (fun _ _ => ⟨rfl, el369, (by decide : 4 + 0 ≤ _), (by decide : 10 + 0 ≤ _)⟩)
      dsimp only [Pt.U, Pt.locs, Pt.cells, Pt.slots] at X372 l372 y372 z372 st372 hQ372
      subst l372 y372 z372
      obtain ⟨rfl, M372, el371⟩ := hQ372
      have N372 := Fr.app N370 M372
      refine Goes.pre st372 ?_
      show Goes p e below s 24 128 (Q_0 Z q0 q1 q2 q3 q4 q5 h0 n0) T372 (mkF m 264 #[.val (.int q0), .val (.int q1), .val (.int q2), .val (.int q3), .val (.int q4), .val (.int q5), .val (.int c0), .val (.int c1), .val (.int c2), .val (.int c3), .val (.int c4), .val (.int (3 : Int32)), .val (.int st.toInt32), .val (.ref a320), .val (.ref a324), .val (.ref a327), .val (.int (2 : Int32)), .val (.long ((0 : Int64) + own_l1 (own_out c0) + own_l1 (own_out c1))), .second, .val (.int w2.toInt32), .val (.long lf2), .second, .val (.int (1 : Int32)), .val (.int (1 : Int32)), .val (.int (0 : Int32)), .val (.ref a362), .val (.int (2 : Int32)), .unset, .unset, .unset, .unset, .unset, .unset, .unset, .unset, .unset, .unset, .unset] [(.long (own_lf (1 : Int32) c1)), (.long (own_lf (1 : Int32) c0))])
      refine own_ladd (pc' := 265) X372 hx (hb hby at_264) rfl ?_
      refine own_iload (pc' := 267) X372 hx (hb hby at_265) rfl rfl ?_
      refine own_iload (pc' := 269) X372 hx (hb hby at_267) rfl rfl ?_
      obtain ⟨_, _, ⟨T374, L374, k374, n374⟩, -, X374, ⟨Lc374, hQ374, l374, y374, z374⟩, st374⟩ := Jvm.LawKit.callS X372 hx (y := (⟨"com/example/dipper/dipper/core/LineEndsNormalizePinLaw", "lf", "(ZC)J"⟩ : MethodName)) hown (mvT hZ (hw _ (List.mem_of_getElem? (i := 35) rfl))) (mvT hZ (hw _ (List.mem_of_getElem? (i := 36) rfl))) (mvT hZ (hw _ (List.mem_of_getElem? (i := 2) rfl))) (mvT hZ (hw _ (List.mem_of_getElem? (i := 37) rfl))) (by decide) (backOf (W := 2) (rm_4 l Z a0 hw [] (0 : Int32) c2 h368 n0 Z368 hC2) hZ (hw _ (List.mem_of_getElem? (i := 37) rfl)) (hw _ (List.mem_of_getElem? (i := 2) rfl)) (by decide) (by decide)) (g := (mkF m 269 #[.val (.int q0), .val (.int q1), .val (.int q2), .val (.int q3), .val (.int q4), .val (.int q5), .val (.int c0), .val (.int c1), .val (.int c2), .val (.int c3), .val (.int c4), .val (.int (3 : Int32)), .val (.int st.toInt32), .val (.ref a320), .val (.ref a324), .val (.ref a327), .val (.int (2 : Int32)), .val (.long ((0 : Int64) + own_l1 (own_out c0) + own_l1 (own_out c1))), .second, .val (.int w2.toInt32), .val (.long lf2), .second, .val (.int (1 : Int32)), .val (.int (1 : Int32)), .val (.int (0 : Int32)), .val (.ref a362), .val (.int (2 : Int32)), .unset, .unset, .unset, .unset, .unset, .unset, .unset, .unset, .unset, .unset, .unset] [(.int c2), (.int (0 : Int32)), (.long ((own_lf (1 : Int32) c0) + (own_lf (1 : Int32) c1)))])) rfl (by rw [hml]; rfl) (argsL := [(.int (0 : Int32)), (.int c2)]) (rest := [(.long ((own_lf (1 : Int32) c0) + (own_lf (1 : Int32) c1)))]) (lenOf pd_4 rfl) rfl (by show 2 * 0 + _ ≤ _; exact Nat.le_of_eq rfl) (hb hby at_269) (fun _ _ => ⟨rfl, el371, (by decide : 4 + 0 ≤ _), (by decide : 10 + 0 ≤ _)⟩)
      dsimp only [Pt.U, Pt.locs, Pt.cells, Pt.slots] at X374 l374 y374 z374 st374 hQ374
      subst l374 y374 z374
      obtain ⟨rfl, M374, el373⟩ := hQ374
      have N374 := Fr.app N372 M374
      refine Goes.pre st374 ?_
      show Goes p e below s 24 128 (Q_0 Z q0 q1 q2 q3 q4 q5 h0 n0) T374 (mkF m 272 #[.val (.int q0), .val (.int q1), .val (.int q2), .val (.int q3), .val (.int q4), .val (.int q5), .val (.int c0), .val (.int c1), .val (.int c2), .val (.int c3), .val (.int c4), .val (.int (3 : Int32)), .val (.int st.toInt32), .val (.ref a320), .val (.ref a324), .val (.ref a327), .val (.int (2 : Int32)), .val (.long ((0 : Int64) + own_l1 (own_out c0) + own_l1 (own_out c1))), .second, .val (.int w2.toInt32), .val (.long lf2), .second, .val (.int (1 : Int32)), .val (.int (1 : Int32)), .val (.int (0 : Int32)), .val (.ref a362), .val (.int (2 : Int32)), .unset, .unset, .unset, .unset, .unset, .unset, .unset, .unset, .unset, .unset, .unset] [(.long (own_lf (0 : Int32) c2)), (.long ((own_lf (1 : Int32) c0) + (own_lf (1 : Int32) c1)))])
      refine own_ladd (pc' := 273) X374 hx (hb hby at_272) rfl ?_
      refine own_lstore (pc' := 275) X374 hx (hb hby at_273) (Ls' := #[.val (.int q0), .val (.int q1), .val (.int q2), .val (.int q3), .val (.int q4), .val (.int q5), .val (.int c0), .val (.int c1), .val (.int c2), .val (.int c3), .val (.int c4), .val (.int (3 : Int32)), .val (.int st.toInt32), .val (.ref a320), .val (.ref a324), .val (.ref a327), .val (.int (2 : Int32)), .val (.long ((0 : Int64) + own_l1 (own_out c0) + own_l1 (own_out c1))), .second, .val (.int w2.toInt32), .val (.long lf2), .second, .val (.int (1 : Int32)), .val (.int (1 : Int32)), .val (.int (0 : Int32)), .val (.ref a362), .val (.int (2 : Int32)), .val (.long (((own_lf (1 : Int32) c0) + (own_lf (1 : Int32) c1)) + (own_lf (0 : Int32) c2))), .second, .unset, .unset, .unset, .unset, .unset, .unset, .unset, .unset, .unset]) rfl rfl ?_
      refine own_iload (pc' := 277) X374 hx (hb hby at_275) rfl rfl ?_
      refine own_iload (pc' := 279) X374 hx (hb hby at_277) rfl rfl ?_
      refine own_icmpN (pc' := 282) X374 hx (hb hby at_279) (by decide) rfl ?_
      refine own_iload (pc' := 284) X374 hx (hb hby at_282) rfl rfl ?_
      refine own_iconst (pc' := 285) X374 hx (hb hby at_284) (v := (1 : Int32)) rfl rfl ?_
      refine own_icmpN (pc' := 288) X374 hx (hb hby at_285) (by decide) rfl ?_
      refine own_aload (pc' := 290) X374 hx (hb hby at_288) rfl rfl rfl ?_
      refine own_iconst (pc' := 291) X374 hx (hb hby at_290) (v := (0 : Int32)) rfl rfl ?_
      refine own_caload (pc' := 292) X374 hx hZ el373 P368_a320 (hb hby at_291) (v := (own_out c0)) (by decide) (k := 0) (by decide) rfl rfl ?_
      refine own_aload (pc' := 294) X374 hx (hb hby at_292) rfl rfl rfl ?_
      refine own_iconst (pc' := 295) X374 hx (hb hby at_294) (v := (0 : Int32)) rfl rfl ?_
      refine own_caload (pc' := 296) X374 hx hZ el373 P368x (hb hby at_295) (v := (own_out c0)) (by decide) (k := 0) (by decide) rfl rfl ?_
      refine own_icmpN (pc' := 299) X374 hx (hb hby at_296) (teq rfl).2 rfl ?_
      refine own_iload (pc' := 301) X374 hx (hb hby at_299) rfl rfl ?_
      refine own_iconst (pc' := 302) X374 hx (hb hby at_301) (v := (2 : Int32)) rfl rfl ?_
      refine own_icmpN (pc' := 305) X374 hx (hb hby at_302) (by decide) rfl ?_
      refine own_aload (pc' := 307) X374 hx (hb hby at_305) rfl rfl rfl ?_
      refine own_iconst (pc' := 308) X374 hx (hb hby at_307) (v := (1 : Int32)) rfl rfl ?_
      refine own_caload (pc' := 309) X374 hx hZ el373 P368_a320 (hb hby at_308) (v := (own_out c1)) (by decide) (k := 1) (by decide) rfl rfl ?_
      refine own_aload (pc' := 311) X374 hx (hb hby at_309) rfl rfl rfl ?_
      refine own_iconst (pc' := 312) X374 hx (hb hby at_311) (v := (1 : Int32)) rfl rfl ?_
      refine own_caload (pc' := 313) X374 hx hZ el373 P368x (hb hby at_312) (v := (own_out c1)) (by decide) (k := 1) (by decide) rfl rfl ?_
      refine own_icmpN (pc' := 316) X374 hx (hb hby at_313) (teq rfl).2 rfl ?_
      refine own_iload (pc' := 318) X374 hx (hb hby at_316) rfl rfl ?_
      refine own_iconst (pc' := 319) X374 hx (hb hby at_318) (v := (3 : Int32)) rfl rfl ?_
      refine own_icmpY X374 hx (hb hby at_319) (by decide) (by decide) (pc' := 333) (by decide) ?_
      refine own_iload (pc' := 335) X374 hx (hb hby at_333) rfl rfl ?_
      refine own_ifY X374 hx (hb hby at_335) (by decide) (by decide) (pc' := 347) (by decide) ?_
      refine own_iload (pc' := 349) X374 hx (hb hby at_347) rfl rfl ?_
      refine own_iconst (pc' := 350) X374 hx (hb hby at_349) (v := (1 : Int32)) rfl rfl ?_
      refine own_icmpY X374 hx (hb hby at_350) (by decide) (by decide) (pc' := 362) (by decide) ?_
      refine own_iload (pc' := 364) X374 hx (hb hby at_362) rfl rfl ?_
      refine own_iconst (pc' := 365) X374 hx (hb hby at_364) (v := (2 : Int32)) rfl rfl ?_
      refine own_icmpY X374 hx (hb hby at_365) (by decide) (by decide) (pc' := 377) (by decide) ?_
      refine own_lload (pc' := 379) X374 hx (hb hby at_377) rfl rfl ?_
      refine own_lload (pc' := 381) X374 hx (hb hby at_379) rfl rfl ?_
      refine own_lcmp (pc' := 382) X374 hx (hb hby at_381) rfl ?_
      refine own_ifN (pc' := 385) X374 hx (hb hby at_382) (own_Teq (by simp [own_lf] : ((0 : Int64) + own_l1 (own_out c0) + own_l1 (own_out c1)) = (((own_lf (1 : Int32) c0) + (own_lf (1 : Int32) c1)) + (own_lf (0 : Int32) c2)))).2 rfl ?_
      refine own_iconst (pc' := 386) X374 hx (hb hby at_385) (v := (1 : Int32)) rfl rfl ?_
      refine own_goto X374 hx (hb hby at_386) (by decide) (pc' := 390) (by decide) ?_
      refine own_istore (pc' := 392) X374 hx (hb hby at_390) (Ls' := #[.val (.int q0), .val (.int q1), .val (.int q2), .val (.int q3), .val (.int q4), .val (.int q5), .val (.int c0), .val (.int c1), .val (.int c2), .val (.int c3), .val (.int c4), .val (.int (3 : Int32)), .val (.int st.toInt32), .val (.ref a320), .val (.ref a324), .val (.ref a327), .val (.int (2 : Int32)), .val (.long ((0 : Int64) + own_l1 (own_out c0) + own_l1 (own_out c1))), .second, .val (.int w2.toInt32), .val (.long lf2), .second, .val (.int (1 : Int32)), .val (.int (1 : Int32)), .val (.int (0 : Int32)), .val (.ref a362), .val (.int (2 : Int32)), .val (.long (((own_lf (1 : Int32) c0) + (own_lf (1 : Int32) c1)) + (own_lf (0 : Int32) c2))), .second, .val (.int (1 : Int32)), .unset, .unset, .unset, .unset, .unset, .unset, .unset, .unset]) rfl rfl ?_
      refine own_iload (pc' := 394) X374 hx (hb hby at_392) rfl rfl ?_
      refine own_iconst (pc' := 395) X374 hx (hb hby at_394) (v := (1 : Int32)) rfl rfl ?_
      refine own_icmpY X374 hx (hb hby at_395) (by decide) (by decide) (pc' := 413) (by decide) ?_
      refine own_iload (pc' := 415) X374 hx (hb hby at_413) rfl rfl ?_
      refine own_iconst (pc' := 416) X374 hx (hb hby at_415) (v := (2 : Int32)) rfl rfl ?_
      refine own_icmpY X374 hx (hb hby at_416) (by decide) (by decide) (pc' := 434) (by decide) ?_
      refine own_iload (pc' := 436) X374 hx (hb hby at_434) rfl rfl ?_
      refine own_iconst (pc' := 437) X374 hx (hb hby at_436) (v := (3 : Int32)) rfl rfl ?_
      refine own_icmpN (pc' := 440) X374 hx (hb hby at_437) (by decide) rfl ?_
      refine own_iload (pc' := 442) X374 hx (hb hby at_440) rfl rfl ?_
      refine own_bipush (pc' := 444) X374 hx (hb hby at_442) (v := (13 : Int32)) rfl rfl ?_
      by_cases hc444 : c2 = (13 : Int32)
      · refine own_icmpN (pc' := 447) X374 hx (hb hby at_444) (teq hc444).2 rfl ?_
        refine own_iconst (pc' := 448) X374 hx (hb hby at_447) (v := (1 : Int32)) rfl rfl ?_
        refine own_goto X374 hx (hb hby at_448) (by decide) (pc' := 456) (by decide) ?_
        refine own_istore (pc' := 458) X374 hx (hb hby at_456) (Ls' := #[.val (.int q0), .val (.int q1), .val (.int q2), .val (.int q3), .val (.int q4), .val (.int q5), .val (.int c0), .val (.int c1), .val (.int c2), .val (.int c3), .val (.int c4), .val (.int (3 : Int32)), .val (.int st.toInt32), .val (.ref a320), .val (.ref a324), .val (.ref a327), .val (.int (2 : Int32)), .val (.long ((0 : Int64) + own_l1 (own_out c0) + own_l1 (own_out c1))), .second, .val (.int w2.toInt32), .val (.long lf2), .second, .val (.int (1 : Int32)), .val (.int (1 : Int32)), .val (.int (0 : Int32)), .val (.ref a362), .val (.int (2 : Int32)), .val (.long (((own_lf (1 : Int32) c0) + (own_lf (1 : Int32) c1)) + (own_lf (0 : Int32) c2))), .second, .val (.int (1 : Int32)), .val (.int (1 : Int32)), .unset, .unset, .unset, .unset, .unset, .unset, .unset]) rfl rfl ?_
        have hpr : (own_af c2) = (1 : Int32) := by simp [own_af, hc444]
        have hlf : (((own_lf (1 : Int32) c0) + (own_lf (1 : Int32) c1)) + (own_lf (0 : Int32) c2)) = ((0 : Int64) + own_l1 (own_out c0) + own_l1 (own_out c1)) := by simp [own_lf]
        rw [hlf]
        rw [hpr] at ht2
        obtain rfl | rfl | rfl : st = 0 ∨ st = 1 ∨ st = 2 := by omega
        · exact own_tB01 hw q0 q1 q2 q3 q4 q5 h0 n0 Z0 hx hby hlk hml hown hZ hret T374 _ _ a324 c3 c4 _ _ _ _ _ _ _ _ _ _ _ _ _ _ _ _ _ _ _ _ _ _ _ _ _ hC3 hC4 X374 el373 N374 Z368 P368_a324 ht2
        · exact own_tB11 hw q0 q1 q2 q3 q4 q5 h0 n0 Z0 hx hby hlk hml hown hZ hret T374 _ _ a324 c3 c4 _ _ _ _ _ _ _ _ _ _ _ _ _ _ _ _ _ _ _ _ _ _ _ _ _ hC3 hC4 X374 el373 N374 Z368 P368_a324 ht2
        · exact own_tB21 hw q0 q1 q2 q3 q4 q5 h0 n0 Z0 hx hby hlk hml hown hZ hret T374 _ _ a324 c3 c4 _ _ _ _ _ _ _ _ _ _ _ _ _ _ _ _ _ _ _ _ _ _ _ _ _ hC3 hC4 X374 el373 N374 Z368 P368_a324 ht2
      · refine own_icmpY X374 hx (hb hby at_444) (feq hc444).2 (by decide) (pc' := 451) (by decide) ?_
        refine own_iconst (pc' := 452) X374 hx (hb hby at_451) (v := (0 : Int32)) rfl rfl ?_
        refine own_goto X374 hx (hb hby at_452) (by decide) (pc' := 456) (by decide) ?_
        refine own_istore (pc' := 458) X374 hx (hb hby at_456) (Ls' := #[.val (.int q0), .val (.int q1), .val (.int q2), .val (.int q3), .val (.int q4), .val (.int q5), .val (.int c0), .val (.int c1), .val (.int c2), .val (.int c3), .val (.int c4), .val (.int (3 : Int32)), .val (.int st.toInt32), .val (.ref a320), .val (.ref a324), .val (.ref a327), .val (.int (2 : Int32)), .val (.long ((0 : Int64) + own_l1 (own_out c0) + own_l1 (own_out c1))), .second, .val (.int w2.toInt32), .val (.long lf2), .second, .val (.int (1 : Int32)), .val (.int (1 : Int32)), .val (.int (0 : Int32)), .val (.ref a362), .val (.int (2 : Int32)), .val (.long (((own_lf (1 : Int32) c0) + (own_lf (1 : Int32) c1)) + (own_lf (0 : Int32) c2))), .second, .val (.int (1 : Int32)), .val (.int (0 : Int32)), .unset, .unset, .unset, .unset, .unset, .unset, .unset]) rfl rfl ?_
        have hpr : (own_af c2) = (0 : Int32) := by simp [own_af, hc444]
        have hlf : (((own_lf (1 : Int32) c0) + (own_lf (1 : Int32) c1)) + (own_lf (0 : Int32) c2)) = ((0 : Int64) + own_l1 (own_out c0) + own_l1 (own_out c1)) := by simp [own_lf]
        rw [hlf]
        rw [hpr] at ht2
        obtain rfl | rfl | rfl : st = 0 ∨ st = 1 ∨ st = 2 := by omega
        · exact own_tB00 hw q0 q1 q2 q3 q4 q5 h0 n0 Z0 hx hby hlk hml hown hZ hret T374 _ _ a324 c3 c4 _ _ _ _ _ _ _ _ _ _ _ _ _ _ _ _ _ _ _ _ _ _ _ _ _ hC3 hC4 X374 el373 N374 Z368 P368_a324 ht2
        · exact own_tB10 hw q0 q1 q2 q3 q4 q5 h0 n0 Z0 hx hby hlk hml hown hZ hret T374 _ _ a324 c3 c4 _ _ _ _ _ _ _ _ _ _ _ _ _ _ _ _ _ _ _ _ _ _ _ _ _ hC3 hC4 X374 el373 N374 Z368 P368_a324 ht2
        · exact own_tB20 hw q0 q1 q2 q3 q4 q5 h0 n0 Z0 hx hby hlk hml hown hZ hret T374 _ _ a324 c3 c4 _ _ _ _ _ _ _ _ _ _ _ _ _ _ _ _ _ _ _ _ _ _ _ _ _ hC3 hC4 X374 el373 N374 Z368 P368_a324 ht2
  · refine own_ifY X343 hx (hb hby at_155) ((if0 _ _).trans (feq hc155).2) (by decide) (pc' := 162) (by decide) ?_
    refine own_iconst (pc' := 163) X343 hx (hb hby at_162) (v := (0 : Int32)) rfl rfl ?_
    refine own_istore (pc' := 165) X343 hx (hb hby at_163) (Ls' := #[.val (.int q0), .val (.int q1), .val (.int q2), .val (.int q3), .val (.int q4), .val (.int q5), .val (.int c0), .val (.int c1), .val (.int c2), .val (.int c3), .val (.int c4), .val (.int (3 : Int32)), .val (.int st.toInt32), .val (.ref a320), .val (.ref a324), .val (.ref a327), .val (.int w1.toInt32), .val (.long lf1), .second, .val (.int w2.toInt32), .val (.long lf2), .second, .val (.int (1 : Int32)), .val (.int (0 : Int32)), .unset, .unset, .unset, .unset, .unset, .unset, .unset, .unset, .unset, .unset, .unset, .unset, .unset, .unset]) rfl rfl ?_
    refine own_iload (pc' := 167) X343 hx (hb hby at_165) rfl rfl ?_
    refine own_iconst (pc' := 168) X343 hx (hb hby at_167) (v := (2 : Int32)) rfl rfl ?_
    refine own_icmpN (pc' := 171) X343 hx (hb hby at_168) (by decide) rfl ?_
    refine own_iload (pc' := 173) X343 hx (hb hby at_171) rfl rfl ?_
    refine own_iload (pc' := 175) X343 hx (hb hby at_173) rfl rfl ?_
    obtain ⟨_, _, ⟨T376, L376, k376, n376⟩, -, X376, ⟨Lc376, hQ376, l376, y376, z376⟩, st376⟩ := Jvm.LawKit.callS X343 hx (y := (⟨"com/example/dipper/dipper/core/LineEndsNormalizePinLaw", "pairs", "(CC)Z"⟩ : MethodName)) hown (mvT hZ (hw _ (List.mem_of_getElem? (i := 29) rfl))) (mvT hZ (hw _ (List.mem_of_getElem? (i := 30) rfl))) (mvT hZ (hw _ (List.mem_of_getElem? (i := 2) rfl))) (mvT hZ (hw _ (List.mem_of_getElem? (i := 31) rfl))) (by decide) (backOf (W := 0) (rm_3 l Z a0 hw [] c1 c2 T337.heap n0 Z336) hZ (hw _ (List.mem_of_getElem? (i := 31) rfl)) (hw _ (List.mem_of_getElem? (i := 2) rfl)) (by decide) (by decide)) (g := (mkF m 175 #[.val (.int q0), .val (.int q1), .val (.int q2), .val (.int q3), .val (.int q4), .val (.int q5), .val (.int c0), .val (.int c1), .val (.int c2), .val (.int c3), .val (.int c4), .val (.int (3 : Int32)), .val (.int st.toInt32), .val (.ref a320), .val (.ref a324), .val (.ref a327), .val (.int w1.toInt32), .val (.long lf1), .second, .val (.int w2.toInt32), .val (.long lf2), .second, .val (.int (1 : Int32)), .val (.int (0 : Int32)), .unset, .unset, .unset, .unset, .unset, .unset, .unset, .unset, .unset, .unset, .unset, .unset, .unset, .unset] [(.int c2), (.int c1)])) rfl (by rw [hml]; rfl) (argsL := [(.int c1), (.int c2)]) (rest := []) (lenOf pd_3 rfl) rfl (by show 2 * 0 + _ ≤ _; exact Nat.le_of_eq rfl) (hb hby at_175) (fun _ _ => ⟨rfl, ep342, (by decide : 3 + 0 ≤ _), (by decide : 7 + 0 ≤ _)⟩)
    dsimp only [Pt.U, Pt.locs, Pt.cells, Pt.slots] at X376 l376 y376 z376 st376 hQ376
    subst l376 y376 z376
    obtain ⟨rfl, M376, ep375⟩ := hQ376
    have N376 := Fr.app N343 M376
    refine Goes.pre st376 ?_
    show Goes p e below s 24 128 (Q_0 Z q0 q1 q2 q3 q4 q5 h0 n0) T376 (mkF m 178 #[.val (.int q0), .val (.int q1), .val (.int q2), .val (.int q3), .val (.int q4), .val (.int q5), .val (.int c0), .val (.int c1), .val (.int c2), .val (.int c3), .val (.int c4), .val (.int (3 : Int32)), .val (.int st.toInt32), .val (.ref a320), .val (.ref a324), .val (.ref a327), .val (.int w1.toInt32), .val (.long lf1), .second, .val (.int w2.toInt32), .val (.long lf2), .second, .val (.int (1 : Int32)), .val (.int (0 : Int32)), .unset, .unset, .unset, .unset, .unset, .unset, .unset, .unset, .unset, .unset, .unset, .unset, .unset, .unset] [(.int (own_pairs c1 c2))])
    by_cases hc178 : (own_pairs c1 c2) = (0 : Int32)
    · refine own_ifN (pc' := 181) X376 hx (hb hby at_178) ((if0 _ _).trans (teq hc178).2) rfl ?_
      refine own_iconst (pc' := 182) X376 hx (hb hby at_181) (v := (1 : Int32)) rfl rfl ?_
      refine own_goto X376 hx (hb hby at_182) (by decide) (pc' := 186) (by decide) ?_
      refine own_istore (pc' := 188) X376 hx (hb hby at_186) (Ls' := #[.val (.int q0), .val (.int q1), .val (.int q2), .val (.int q3), .val (.int q4), .val (.int q5), .val (.int c0), .val (.int c1), .val (.int c2), .val (.int c3), .val (.int c4), .val (.int (3 : Int32)), .val (.int st.toInt32), .val (.ref a320), .val (.ref a324), .val (.ref a327), .val (.int w1.toInt32), .val (.long lf1), .second, .val (.int w2.toInt32), .val (.long lf2), .second, .val (.int (1 : Int32)), .val (.int (0 : Int32)), .val (.int (1 : Int32)), .unset, .unset, .unset, .unset, .unset, .unset, .unset, .unset, .unset, .unset, .unset, .unset, .unset]) rfl rfl ?_
      refine own_iconst (pc' := 189) X376 hx (hb hby at_188) (v := (3 : Int32)) rfl rfl ?_
      have hA := ht1.trans (own_A3FT c0 c1 c2 hc155 hc178)
      simp only [Prod.mk.injEq] at hA
      obtain ⟨rfl, rfl, rfl, rfl⟩ := hA
      show Goes p e below s 24 128 (Q_0 Z q0 q1 q2 q3 q4 q5 h0 n0) T376 (mkF m 189 #[.val (.int q0), .val (.int q1), .val (.int q2), .val (.int q3), .val (.int q4), .val (.int q5), .val (.int c0), .val (.int c1), .val (.int c2), .val (.int c3), .val (.int c4), .val (.int (3 : Int32)), .val (.int st.toInt32), .val (.ref a320), .val (.ref a324), .val (.ref a327), .val (.int (2 : Int32)), .val (.long ((0 : Int64) + own_l1 (own_out c0) + own_l1 (own_out c2))), .second, .val (.int w2.toInt32), .val (.long lf2), .second, .val (.int (1 : Int32)), .val (.int (0 : Int32)), .val (.int (1 : Int32)), .unset, .unset, .unset, .unset, .unset, .unset, .unset, .unset, .unset, .unset, .unset, .unset, .unset] [(.int (3 : Int32))])
      refine own_newarray (pc' := 191) X376 hx hZ (hw _ (List.mem_of_getElem? (i := 5) rfl)) ep375 (hb hby at_189) (k := 3) (cap := 3) rfl (by decide) rfl (by decide) (by decide) (by decide) (by decide) rfl ?_
      intro T377 h377 a377 g377 X377 e377 E377 P377
      show Goes p e below s 24 128 (Q_0 Z q0 q1 q2 q3 q4 q5 h0 n0) T377 (mkF m 191 #[.val (.int q0), .val (.int q1), .val (.int q2), .val (.int q3), .val (.int q4), .val (.int q5), .val (.int c0), .val (.int c1), .val (.int c2), .val (.int c3), .val (.int c4), .val (.int (3 : Int32)), .val (.int st.toInt32), .val (.ref a320), .val (.ref a324), .val (.ref a327), .val (.int (2 : Int32)), .val (.long ((0 : Int64) + own_l1 (own_out c0) + own_l1 (own_out c2))), .second, .val (.int w2.toInt32), .val (.long lf2), .second, .val (.int (1 : Int32)), .val (.int (0 : Int32)), .val (.int (1 : Int32)), .unset, .unset, .unset, .unset, .unset, .unset, .unset, .unset, .unset, .unset, .unset, .unset, .unset] [(.ref a377)])
      have P377_a324 := P336.ext E377
      have P377_a320 := P336_a320.ext E377
      have ne_a324_a377 : a324 ≠ a377 := fun q => absurd (q ▸ P336.lt) (by rw [g377]; exact Nat.lt_irrefl _)
      have ne_a320_a377 : a320 ≠ a377 := fun q => absurd (q ▸ P336_a320.lt) (by rw [g377]; exact Nat.lt_irrefl _)
      have ge_a377 : n0 ≤ a377 := by rw [g377]; exact Z336
      have Z377 : n0 ≤ Array.size h377 := Nat.le_trans Z336 E377.1
      refine own_astore (pc' := 193) X377 hx (hb hby at_191) rfl (Ls' := #[.val (.int q0), .val (.int q1), .val (.int q2), .val (.int q3), .val (.int q4), .val (.int q5), .val (.int c0), .val (.int c1), .val (.int c2), .val (.int c3), .val (.int c4), .val (.int (3 : Int32)), .val (.int st.toInt32), .val (.ref a320), .val (.ref a324), .val (.ref a327), .val (.int (2 : Int32)), .val (.long ((0 : Int64) + own_l1 (own_out c0) + own_l1 (own_out c2))), .second, .val (.int w2.toInt32), .val (.long lf2), .second, .val (.int (1 : Int32)), .val (.int (0 : Int32)), .val (.int (1 : Int32)), .val (.ref a377), .unset, .unset, .unset, .unset, .unset, .unset, .unset, .unset, .unset, .unset, .unset, .unset]) rfl rfl ?_
      refine own_iconst (pc' := 194) X377 hx (hb hby at_193) (v := (0 : Int32)) rfl rfl ?_
      refine own_istore (pc' := 196) X377 hx (hb hby at_194) (Ls' := #[.val (.int q0), .val (.int q1), .val (.int q2), .val (.int q3), .val (.int q4), .val (.int q5), .val (.int c0), .val (.int c1), .val (.int c2), .val (.int c3), .val (.int c4), .val (.int (3 : Int32)), .val (.int st.toInt32), .val (.ref a320), .val (.ref a324), .val (.ref a327), .val (.int (2 : Int32)), .val (.long ((0 : Int64) + own_l1 (own_out c0) + own_l1 (own_out c2))), .second, .val (.int w2.toInt32), .val (.long lf2), .second, .val (.int (1 : Int32)), .val (.int (0 : Int32)), .val (.int (1 : Int32)), .val (.ref a377), .val (.int (0 : Int32)), .unset, .unset, .unset, .unset, .unset, .unset, .unset, .unset, .unset, .unset, .unset]) rfl rfl ?_
      refine own_iload (pc' := 198) X377 hx (hb hby at_196) rfl rfl ?_
      refine own_ifN (pc' := 201) X377 hx (hb hby at_198) (by decide) rfl ?_
      refine own_aload (pc' := 203) X377 hx (hb hby at_201) rfl rfl rfl ?_
      refine own_iload (pc' := 205) X377 hx (hb hby at_203) rfl rfl ?_
      refine own_iload (pc' := 207) X377 hx (hb hby at_205) rfl rfl ?_
      obtain ⟨_, _, ⟨T379, L379, k379, n379⟩, -, X379, ⟨Lc379, hQ379, l379, y379, z379⟩, st379⟩ := Jvm.LawKit.callS X377 hx (y := (⟨"com/example/dipper/dipper/core/LineEndsNormalizePinLaw", "out", "(C)C"⟩ : MethodName)) hown (mvT hZ (hw _ (List.mem_of_getElem? (i := 32) rfl))) (mvT hZ (hw _ (List.mem_of_getElem? (i := 33) rfl))) (mvT hZ (hw _ (List.mem_of_getElem? (i := 2) rfl))) (mvT hZ (hw _ (List.mem_of_getElem? (i := 34) rfl))) (by decide) (backOf (W := 2) (rm_2 l Z a0 hw [] c0 h377 n0 Z377 hC0) hZ (hw _ (List.mem_of_getElem? (i := 34) rfl)) (hw _ (List.mem_of_getElem? (i := 2) rfl)) (by decide) (by decide)) (g := (mkF m 207 #[.val (.int q0), .val (.int q1), .val (.int q2), .val (.int q3), .val (.int q4), .val (.int q5), .val (.int c0), .val (.int c1), .val (.int c2), .val (.int c3), .val (.int c4), .val (.int (3 : Int32)), .val (.int st.toInt32), .val (.ref a320), .val (.ref a324), .val (.ref a327), .val (.int (2 : Int32)), .val (.long ((0 : Int64) + own_l1 (own_out c0) + own_l1 (own_out c2))), .second, .val (.int w2.toInt32), .val (.long lf2), .second, .val (.int (1 : Int32)), .val (.int (0 : Int32)), .val (.int (1 : Int32)), .val (.ref a377), .val (.int (0 : Int32)), .unset, .unset, .unset, .unset, .unset, .unset, .unset, .unset, .unset, .unset, .unset] [(.int c0), (.int (0 : Int32)), (.ref a377)])) rfl (by rw [hml]; rfl) (argsL := [(.int c0)]) (rest := [(.int (0 : Int32)), (.ref a377)]) (lenOf pd_2 rfl) rfl (by show 2 * 0 + _ ≤ _; exact Nat.le_of_eq rfl) (hb hby at_207) (fun _ _ => ⟨rfl, e377, (by decide : 4 + 0 ≤ _), (by decide : 10 + 0 ≤ _)⟩)
      dsimp only [Pt.U, Pt.locs, Pt.cells, Pt.slots] at X379 l379 y379 z379 st379 hQ379
      subst l379 y379 z379
      obtain ⟨rfl, M379, eo378⟩ := hQ379
      have N379 := Fr.app N376 M379
      refine Goes.pre st379 ?_
      show Goes p e below s 24 128 (Q_0 Z q0 q1 q2 q3 q4 q5 h0 n0) T379 (mkF m 210 #[.val (.int q0), .val (.int q1), .val (.int q2), .val (.int q3), .val (.int q4), .val (.int q5), .val (.int c0), .val (.int c1), .val (.int c2), .val (.int c3), .val (.int c4), .val (.int (3 : Int32)), .val (.int st.toInt32), .val (.ref a320), .val (.ref a324), .val (.ref a327), .val (.int (2 : Int32)), .val (.long ((0 : Int64) + own_l1 (own_out c0) + own_l1 (own_out c2))), .second, .val (.int w2.toInt32), .val (.long lf2), .second, .val (.int (1 : Int32)), .val (.int (0 : Int32)), .val (.int (1 : Int32)), .val (.ref a377), .val (.int (0 : Int32)), .unset, .unset, .unset, .unset, .unset, .unset, .unset, .unset, .unset, .unset, .unset] [(.int (own_out c0)), (.int (0 : Int32)), (.ref a377)])
      refine own_castore (pc' := 211) X379 hx hZ eo378 P377 (hb hby at_210) (own_nar (own_outC hC0)) (by decide) (k := 0) (by decide) (by simp) rfl ?_
      intro T380 h380 X380 e380 W380 P380
      have N380 := Fr.snoc X380 N379 ge_a377
      have P380_a324 := P377_a324.other W380 ne_a324_a377
      have P380_a320 := P377_a320.other W380 ne_a320_a377
      have Z380 : n0 ≤ Array.size h380 := by rw [W380.size]; exact Z377
      show Goes p e below s 24 128 (Q_0 Z q0 q1 q2 q3 q4 q5 h0 n0) T380 (mkF m 211 #[.val (.int q0), .val (.int q1), .val (.int q2), .val (.int q3), .val (.int q4), .val (.int q5), .val (.int c0), .val (.int c1), .val (.int c2), .val (.int c3), .val (.int c4), .val (.int (3 : Int32)), .val (.int st.toInt32), .val (.ref a320), .val (.ref a324), .val (.ref a327), .val (.int (2 : Int32)), .val (.long ((0 : Int64) + own_l1 (own_out c0) + own_l1 (own_out c2))), .second, .val (.int w2.toInt32), .val (.long lf2), .second, .val (.int (1 : Int32)), .val (.int (0 : Int32)), .val (.int (1 : Int32)), .val (.ref a377), .val (.int (0 : Int32)), .unset, .unset, .unset, .unset, .unset, .unset, .unset, .unset, .unset, .unset, .unset] [])
      have P380x : own_PA Z h380 a377 .char [(own_out c0), (0 : Int32), (0 : Int32)] := P380
      refine own_iinc (pc' := 214) X380 hx (hb hby at_211) rfl (y := (1 : Int32)) (by decide) (Ls' := #[.val (.int q0), .val (.int q1), .val (.int q2), .val (.int q3), .val (.int q4), .val (.int q5), .val (.int c0), .val (.int c1), .val (.int c2), .val (.int c3), .val (.int c4), .val (.int (3 : Int32)), .val (.int st.toInt32), .val (.ref a320), .val (.ref a324), .val (.ref a327), .val (.int (2 : Int32)), .val (.long ((0 : Int64) + own_l1 (own_out c0) + own_l1 (own_out c2))), .second, .val (.int w2.toInt32), .val (.long lf2), .second, .val (.int (1 : Int32)), .val (.int (0 : Int32)), .val (.int (1 : Int32)), .val (.ref a377), .val (.int (1 : Int32)), .unset, .unset, .unset, .unset, .unset, .unset, .unset, .unset, .unset, .unset, .unset]) rfl rfl ?_
      refine own_iload (pc' := 216) X380 hx (hb hby at_214) rfl rfl ?_
      refine own_ifY X380 hx (hb hby at_216) (by decide) (by decide) (pc' := 232) (by decide) ?_
      refine own_iload (pc' := 234) X380 hx (hb hby at_232) rfl rfl ?_
      refine own_ifN (pc' := 237) X380 hx (hb hby at_234) (by decide) rfl ?_
      refine own_aload (pc' := 239) X380 hx (hb hby at_237) rfl rfl rfl ?_
      refine own_iload (pc' := 241) X380 hx (hb hby at_239) rfl rfl ?_
      refine own_iload (pc' := 243) X380 hx (hb hby at_241) rfl rfl ?_
      obtain ⟨_, _, ⟨T382, L382, k382, n382⟩, -, X382, ⟨Lc382, hQ382, l382, y382, z382⟩, st382⟩ := Jvm.LawKit.callS X380 hx (y := (⟨"com/example/dipper/dipper/core/LineEndsNormalizePinLaw", "out", "(C)C"⟩ : MethodName)) hown (mvT hZ (hw _ (List.mem_of_getElem? (i := 32) rfl))) (mvT hZ (hw _ (List.mem_of_getElem? (i := 33) rfl))) (mvT hZ (hw _ (List.mem_of_getElem? (i := 2) rfl))) (mvT hZ (hw _ (List.mem_of_getElem? (i := 34) rfl))) (by decide) (backOf (W := 2) (rm_2 l Z a0 hw [] c2 h380 n0 Z380 hC2) hZ (hw _ (List.mem_of_getElem? (i := 34) rfl)) (hw _ (List.mem_of_getElem? (i := 2) rfl)) (by decide) (by decide)) (g := (mkF m 243 #[.val (.int q0), .val (.int q1), .val (.int q2), .val (.int q3), .val (.int q4), .val (.int q5), .val (.int c0), .val (.int c1), .val (.int c2), .val (.int c3), .val (.int c4), .val (.int (3 : Int32)), .val (.int st.toInt32), .val (.ref a320), .val (.ref a324), .val (.ref a327), .val (.int (2 : Int32)), .val (.long ((0 : Int64) + own_l1 (own_out c0) + own_l1 (own_out c2))), .second, .val (.int w2.toInt32), .val (.long lf2), .second, .val (.int (1 : Int32)), .val (.int (0 : Int32)), .val (.int (1 : Int32)), .val (.ref a377), .val (.int (1 : Int32)), .unset, .unset, .unset, .unset, .unset, .unset, .unset, .unset, .unset, .unset, .unset] [(.int c2), (.int (1 : Int32)), (.ref a377)])) rfl (by rw [hml]; rfl) (argsL := [(.int c2)]) (rest := [(.int (1 : Int32)), (.ref a377)]) (lenOf pd_2 rfl) rfl (by show 2 * 0 + _ ≤ _; exact Nat.le_of_eq rfl) (hb hby at_243) (fun _ _ => ⟨rfl, e380, (by decide : 4 + 0 ≤ _), (by decide : 10 + 0 ≤ _)⟩)
      dsimp only [Pt.U, Pt.locs, Pt.cells, Pt.slots] at X382 l382 y382 z382 st382 hQ382
      subst l382 y382 z382
      obtain ⟨rfl, M382, eo381⟩ := hQ382
      have N382 := Fr.app N380 M382
      refine Goes.pre st382 ?_
      show Goes p e below s 24 128 (Q_0 Z q0 q1 q2 q3 q4 q5 h0 n0) T382 (mkF m 246 #[.val (.int q0), .val (.int q1), .val (.int q2), .val (.int q3), .val (.int q4), .val (.int q5), .val (.int c0), .val (.int c1), .val (.int c2), .val (.int c3), .val (.int c4), .val (.int (3 : Int32)), .val (.int st.toInt32), .val (.ref a320), .val (.ref a324), .val (.ref a327), .val (.int (2 : Int32)), .val (.long ((0 : Int64) + own_l1 (own_out c0) + own_l1 (own_out c2))), .second, .val (.int w2.toInt32), .val (.long lf2), .second, .val (.int (1 : Int32)), .val (.int (0 : Int32)), .val (.int (1 : Int32)), .val (.ref a377), .val (.int (1 : Int32)), .unset, .unset, .unset, .unset, .unset, .unset, .unset, .unset, .unset, .unset, .unset] [(.int (own_out c2)), (.int (1 : Int32)), (.ref a377)])
      refine own_castore (pc' := 247) X382 hx hZ eo381 P380x (hb hby at_246) (own_nar (own_outC hC2)) (by decide) (k := 1) (by decide) (by simp) rfl ?_
      intro T383 h383 X383 e383 W383 P383
      have N383 := Fr.snoc X383 N382 ge_a377
      have P383_a324 := P380_a324.other W383 ne_a324_a377
      have P383_a320 := P380_a320.other W383 ne_a320_a377
      have Z383 : n0 ≤ Array.size h383 := by rw [W383.size]; exact Z380
      show Goes p e below s 24 128 (Q_0 Z q0 q1 q2 q3 q4 q5 h0 n0) T383 (mkF m 247 #[.val (.int q0), .val (.int q1), .val (.int q2), .val (.int q3), .val (.int q4), .val (.int q5), .val (.int c0), .val (.int c1), .val (.int c2), .val (.int c3), .val (.int c4), .val (.int (3 : Int32)), .val (.int st.toInt32), .val (.ref a320), .val (.ref a324), .val (.ref a327), .val (.int (2 : Int32)), .val (.long ((0 : Int64) + own_l1 (own_out c0) + own_l1 (own_out c2))), .second, .val (.int w2.toInt32), .val (.long lf2), .second, .val (.int (1 : Int32)), .val (.int (0 : Int32)), .val (.int (1 : Int32)), .val (.ref a377), .val (.int (1 : Int32)), .unset, .unset, .unset, .unset, .unset, .unset, .unset, .unset, .unset, .unset, .unset] [])
      have P383x : own_PA Z h383 a377 .char [(own_out c0), (own_out c2), (0 : Int32)] := P383
      refine own_iinc (pc' := 250) X383 hx (hb hby at_247) rfl (y := (2 : Int32)) (by decide) (Ls' := #[.val (.int q0), .val (.int q1), .val (.int q2), .val (.int q3), .val (.int q4), .val (.int q5), .val (.int c0), .val (.int c1), .val (.int c2), .val (.int c3), .val (.int c4), .val (.int (3 : Int32)), .val (.int st.toInt32), .val (.ref a320), .val (.ref a324), .val (.ref a327), .val (.int (2 : Int32)), .val (.long ((0 : Int64) + own_l1 (own_out c0) + own_l1 (own_out c2))), .second, .val (.int w2.toInt32), .val (.long lf2), .second, .val (.int (1 : Int32)), .val (.int (0 : Int32)), .val (.int (1 : Int32)), .val (.ref a377), .val (.int (2 : Int32)), .unset, .unset, .unset, .unset, .unset, .unset, .unset, .unset, .unset, .unset, .unset]) rfl rfl ?_
      refine own_iload (pc' := 252) X383 hx (hb hby at_250) rfl rfl ?_
      refine own_iload (pc' := 254) X383 hx (hb hby at_252) rfl rfl ?_
      obtain ⟨_, _, ⟨T385, L385, k385, n385⟩, -, X385, ⟨Lc385, hQ385, l385, y385, z385⟩, st385⟩ := Jvm.LawKit.callS X383 hx (y := (⟨"com/example/dipper/dipper/core/LineEndsNormalizePinLaw", "lf", "(ZC)J"⟩ : MethodName)) hown (mvT hZ (hw _ (List.mem_of_getElem? (i := 35) rfl))) (mvT hZ (hw _ (List.mem_of_getElem? (i := 36) rfl))) (mvT hZ (hw _ (List.mem_of_getElem? (i := 2) rfl))) (mvT hZ (hw _ (List.mem_of_getElem? (i := 37) rfl))) (by decide) (backOf (W := 0) (rm_4 l Z a0 hw [] (1 : Int32) c0 h383 n0 Z383 hC0) hZ (hw _ (List.mem_of_getElem? (i := 37) rfl)) (hw _ (List.mem_of_getElem? (i := 2) rfl)) (by decide) (by decide)) (g := (mkF m 254 #[.val (.int q0), .val (.int q1), .val (.int q2), .val (.int q3), .val (.int q4), .val (.int q5), .val (.int c0), .val (.int c1), .val (.int c2), .val (.int c3), .val (.int c4), .val (.int (3 : Int32)), .val (.int st.toInt32), .val (.ref a320), .val (.ref a324), .val (.ref a327), .val (.int (2 : Int32)), .val (.long ((0 : Int64) + own_l1 (own_out c0) + own_l1 (own_out c2))), .second, .val (.int w2.toInt32), .val (.long lf2), .second, .val (.int (1 : Int32)), .val (.int (0 : Int32)), .val (.int (1 : Int32)), .val (.ref a377), .val (.int (2 : Int32)), .unset, .unset, .unset, .unset, .unset, .unset, .unset, .unset, .unset, .unset, .unset] [(.int c0), (.int (1 : Int32))])) rfl (by rw [hml]; rfl) (argsL := [(.int (1 : Int32)), (.int c0)]) (rest := []) (lenOf pd_4 rfl) rfl (by show 2 * 0 + _ ≤ _; exact Nat.le_of_eq rfl) (hb hby at_254) (fun _ _ => ⟨rfl, e383, (by decide : 4 + 0 ≤ _), (by decide : 10 + 0 ≤ _)⟩)
      dsimp only [Pt.U, Pt.locs, Pt.cells, Pt.slots] at X385 l385 y385 z385 st385 hQ385
      subst l385 y385 z385
      obtain ⟨rfl, M385, el384⟩ := hQ385
      have N385 := Fr.app N383 M385
      refine Goes.pre st385 ?_
      show Goes p e below s 24 128 (Q_0 Z q0 q1 q2 q3 q4 q5 h0 n0) T385 (mkF m 257 #[.val (.int q0), .val (.int q1), .val (.int q2), .val (.int q3), .val (.int q4), .val (.int q5), .val (.int c0), .val (.int c1), .val (.int c2), .val (.int c3), .val (.int c4), .val (.int (3 : Int32)), .val (.int st.toInt32), .val (.ref a320), .val (.ref a324), .val (.ref a327), .val (.int (2 : Int32)), .val (.long ((0 : Int64) + own_l1 (own_out c0) + own_l1 (own_out c2))), .second, .val (.int w2.toInt32), .val (.long lf2), .second, .val (.int (1 : Int32)), .val (.int (0 : Int32)), .val (.int (1 : Int32)), .val (.ref a377), .val (.int (2 : Int32)), .unset, .unset, .unset, .unset, .unset, .unset, .unset, .unset, .unset, .unset, .unset] [(.long (own_lf (1 : Int32) c0))])
      refine own_iload (pc' := 259) X385 hx (hb hby at_257) rfl rfl ?_
      refine own_iload (pc' := 261) X385 hx (hb hby at_259) rfl rfl ?_
      obtain ⟨_, _, ⟨T387, L387, k387, n387⟩, -, X387, ⟨Lc387, hQ387, l387, y387, z387⟩, st387⟩ := Jvm.LawKit.callS X385 hx (y := (⟨"com/example/dipper/dipper/core/LineEndsNormalizePinLaw", "lf", "(ZC)J"⟩ : MethodName)) hown (mvT hZ (hw _ (List.mem_of_getElem? (i := 35) rfl))) (mvT hZ (hw _ (List.mem_of_getElem? (i := 36) rfl))) (mvT hZ (hw _ (List.mem_of_getElem? (i := 2) rfl))) (mvT hZ (hw _ (List.mem_of_getElem? (i := 37) rfl))) (by decide) (backOf (W := 2) (rm_4 l Z a0 hw [] (0 : Int32) c1 h383 n0 Z383 hC1) hZ (hw _ (List.mem_of_getElem? (i := 37) rfl)) (hw _ (List.mem_of_getElem? (i := 2) rfl)) (by decide) (by decide)) (g := (mkF m 261 #[.val (.int q0), .val (.int q1), .val (.int q2), .val (.int q3), .val (.int q4), .val (.int q5), .val (.int c0), .val (.int c1), .val (.int c2), .val (.int c3), .val (.int c4), .val (.int (3 : Int32)), .val (.int st.toInt32), .val (.ref a320), .val (.ref a324), .val (.ref a327), .val (.int (2 : Int32)), .val (.long ((0 : Int64) + own_l1 (own_out c0) + own_l1 (own_out c2))), .second, .val (.int w2.toInt32), .val (.long lf2), .second, .val (.int (1 : Int32)), .val (.int (0 : Int32)), .val (.int (1 : Int32)), .val (.ref a377), .val (.int (2 : Int32)), .unset, .unset, .unset, .unset, .unset, .unset, .unset, .unset, .unset, .unset, .unset] [(.int c1), (.int (0 : Int32)), (.long (own_lf (1 : Int32) c0))])) rfl (by rw [hml]; rfl) (argsL := [(.int (0 : Int32)), (.int c1)]) (rest := [(.long (own_lf (1 : Int32) c0))]) (lenOf pd_4 rfl) rfl (by show 2 * 0 + _ ≤ _; exact Nat.le_of_eq rfl) (hb hby at_261) (fun _ _ => ⟨rfl, el384, (by decide : 4 + 0 ≤ _), (by decide : 10 + 0 ≤ _)⟩)
      dsimp only [Pt.U, Pt.locs, Pt.cells, Pt.slots] at X387 l387 y387 z387 st387 hQ387
      subst l387 y387 z387
      obtain ⟨rfl, M387, el386⟩ := hQ387
      have N387 := Fr.app N385 M387
      refine Goes.pre st387 ?_
      show Goes p e below s 24 128 (Q_0 Z q0 q1 q2 q3 q4 q5 h0 n0) T387 (mkF m 264 #[.val (.int q0), .val (.int q1), .val (.int q2), .val (.int q3), .val (.int q4), .val (.int q5), .val (.int c0), .val (.int c1), .val (.int c2), .val (.int c3), .val (.int c4), .val (.int (3 : Int32)), .val (.int st.toInt32), .val (.ref a320), .val (.ref a324), .val (.ref a327), .val (.int (2 : Int32)), .val (.long ((0 : Int64) + own_l1 (own_out c0) + own_l1 (own_out c2))), .second, .val (.int w2.toInt32), .val (.long lf2), .second, .val (.int (1 : Int32)), .val (.int (0 : Int32)), .val (.int (1 : Int32)), .val (.ref a377), .val (.int (2 : Int32)), .unset, .unset, .unset, .unset, .unset, .unset, .unset, .unset, .unset, .unset, .unset] [(.long (own_lf (0 : Int32) c1)), (.long (own_lf (1 : Int32) c0))])
      refine own_ladd (pc' := 265) X387 hx (hb hby at_264) rfl ?_
      refine own_iload (pc' := 267) X387 hx (hb hby at_265) rfl rfl ?_
      refine own_iload (pc' := 269) X387 hx (hb hby at_267) rfl rfl ?_
      obtain ⟨_, _, ⟨T389, L389, k389, n389⟩, -, X389, ⟨Lc389, hQ389, l389, y389, z389⟩, st389⟩ := Jvm.LawKit.callS X387 hx (y := (⟨"com/example/dipper/dipper/core/LineEndsNormalizePinLaw", "lf", "(ZC)J"⟩ : MethodName)) hown (mvT hZ (hw _ (List.mem_of_getElem? (i := 35) rfl))) (mvT hZ (hw _ (List.mem_of_getElem? (i := 36) rfl))) (mvT hZ (hw _ (List.mem_of_getElem? (i := 2) rfl))) (mvT hZ (hw _ (List.mem_of_getElem? (i := 37) rfl))) (by decide) (backOf (W := 2) (rm_4 l Z a0 hw [] (1 : Int32) c2 h383 n0 Z383 hC2) hZ (hw _ (List.mem_of_getElem? (i := 37) rfl)) (hw _ (List.mem_of_getElem? (i := 2) rfl)) (by decide) (by decide)) (g := (mkF m 269 #[.val (.int q0), .val (.int q1), .val (.int q2), .val (.int q3), .val (.int q4), .val (.int q5), .val (.int c0), .val (.int c1), .val (.int c2), .val (.int c3), .val (.int c4), .val (.int (3 : Int32)), .val (.int st.toInt32), .val (.ref a320), .val (.ref a324), .val (.ref a327), .val (.int (2 : Int32)), .val (.long ((0 : Int64) + own_l1 (own_out c0) + own_l1 (own_out c2))), .second, .val (.int w2.toInt32), .val (.long lf2), .second, .val (.int (1 : Int32)), .val (.int (0 : Int32)), .val (.int (1 : Int32)), .val (.ref a377), .val (.int (2 : Int32)), .unset, .unset, .unset, .unset, .unset, .unset, .unset, .unset, .unset, .unset, .unset] [(.int c2), (.int (1 : Int32)), (.long ((own_lf (1 : Int32) c0) + (own_lf (0 : Int32) c1)))])) rfl (by rw [hml]; rfl) (argsL := [(.int (1 : Int32)), (.int c2)]) (rest := [(.long ((own_lf (1 : Int32) c0) + (own_lf (0 : Int32) c1)))]) (lenOf pd_4 rfl) rfl (by show 2 * 0 + _ ≤ _; exact Nat.le_of_eq rfl) (hb hby at_269) (fun _ _ => ⟨rfl, el386, (by decide : 4 + 0 ≤ _), (by decide : 10 + 0 ≤ _)⟩)
      dsimp only [Pt.U, Pt.locs, Pt.cells, Pt.slots] at X389 l389 y389 z389 st389 hQ389
      subst l389 y389 z389
      obtain ⟨rfl, M389, el388⟩ := hQ389
      have N389 := Fr.app N387 M389
      refine Goes.pre st389 ?_
      show Goes p e below s 24 128 (Q_0 Z q0 q1 q2 q3 q4 q5 h0 n0) T389 (mkF m 272 #[.val (.int q0), .val (.int q1), .val (.int q2), .val (.int q3), .val (.int q4), .val (.int q5), .val (.int c0), .val (.int c1), .val (.int c2), .val (.int c3), .val (.int c4), .val (.int (3 : Int32)), .val (.int st.toInt32), .val (.ref a320), .val (.ref a324), .val (.ref a327), .val (.int (2 : Int32)), .val (.long ((0 : Int64) + own_l1 (own_out c0) + own_l1 (own_out c2))), .second, .val (.int w2.toInt32), .val (.long lf2), .second, .val (.int (1 : Int32)), .val (.int (0 : Int32)), .val (.int (1 : Int32)), .val (.ref a377), .val (.int (2 : Int32)), .unset, .unset, .unset, .unset, .unset, .unset, .unset, .unset, .unset, .unset, .unset] [(.long (own_lf (1 : Int32) c2)), (.long ((own_lf (1 : Int32) c0) + (own_lf (0 : Int32) c1)))])
      refine own_ladd (pc' := 273) X389 hx (hb hby at_272) rfl ?_
      refine own_lstore (pc' := 275) X389 hx (hb hby at_273) (Ls' := #[.val (.int q0), .val (.int q1), .val (.int q2), .val (.int q3), .val (.int q4), .val (.int q5), .val (.int c0), .val (.int c1), .val (.int c2), .val (.int c3), .val (.int c4), .val (.int (3 : Int32)), .val (.int st.toInt32), .val (.ref a320), .val (.ref a324), .val (.ref a327), .val (.int (2 : Int32)), .val (.long ((0 : Int64) + own_l1 (own_out c0) + own_l1 (own_out c2))), .second, .val (.int w2.toInt32), .val (.long lf2), .second, .val (.int (1 : Int32)), .val (.int (0 : Int32)), .val (.int (1 : Int32)), .val (.ref a377), .val (.int (2 : Int32)), .val (.long (((own_lf (1 : Int32) c0) + (own_lf (0 : Int32) c1)) + (own_lf (1 : Int32) c2))), .second, .unset, .unset, .unset, .unset, .unset, .unset, .unset, .unset, .unset]) rfl rfl ?_
      refine own_iload (pc' := 277) X389 hx (hb hby at_275) rfl rfl ?_
      refine own_iload (pc' := 279) X389 hx (hb hby at_277) rfl rfl ?_
      refine own_icmpN (pc' := 282) X389 hx (hb hby at_279) (by decide) rfl ?_
      refine own_iload (pc' := 284) X389 hx (hb hby at_282) rfl rfl ?_
      refine own_iconst (pc' := 285) X389 hx (hb hby at_284) (v := (1 : Int32)) rfl rfl ?_
      refine own_icmpN (pc' := 288) X389 hx (hb hby at_285) (by decide) rfl ?_
      refine own_aload (pc' := 290) X389 hx (hb hby at_288) rfl rfl rfl ?_
      refine own_iconst (pc' := 291) X389 hx (hb hby at_290) (v := (0 : Int32)) rfl rfl ?_
      refine own_caload (pc' := 292) X389 hx hZ el388 P383_a320 (hb hby at_291) (v := (own_out c0)) (by decide) (k := 0) (by decide) rfl rfl ?_
      refine own_aload (pc' := 294) X389 hx (hb hby at_292) rfl rfl rfl ?_
      refine own_iconst (pc' := 295) X389 hx (hb hby at_294) (v := (0 : Int32)) rfl rfl ?_
      refine own_caload (pc' := 296) X389 hx hZ el388 P383x (hb hby at_295) (v := (own_out c0)) (by decide) (k := 0) (by decide) rfl rfl ?_
      refine own_icmpN (pc' := 299) X389 hx (hb hby at_296) (teq rfl).2 rfl ?_
      refine own_iload (pc' := 301) X389 hx (hb hby at_299) rfl rfl ?_
      refine own_iconst (pc' := 302) X389 hx (hb hby at_301) (v := (2 : Int32)) rfl rfl ?_
      refine own_icmpN (pc' := 305) X389 hx (hb hby at_302) (by decide) rfl ?_
      refine own_aload (pc' := 307) X389 hx (hb hby at_305) rfl rfl rfl ?_
      refine own_iconst (pc' := 308) X389 hx (hb hby at_307) (v := (1 : Int32)) rfl rfl ?_
      refine own_caload (pc' := 309) X389 hx hZ el388 P383_a320 (hb hby at_308) (v := (own_out c2)) (by decide) (k := 1) (by decide) rfl rfl ?_
      refine own_aload (pc' := 311) X389 hx (hb hby at_309) rfl rfl rfl ?_
      refine own_iconst (pc' := 312) X389 hx (hb hby at_311) (v := (1 : Int32)) rfl rfl ?_
      refine own_caload (pc' := 313) X389 hx hZ el388 P383x (hb hby at_312) (v := (own_out c2)) (by decide) (k := 1) (by decide) rfl rfl ?_
      refine own_icmpN (pc' := 316) X389 hx (hb hby at_313) (teq rfl).2 rfl ?_
      refine own_iload (pc' := 318) X389 hx (hb hby at_316) rfl rfl ?_
      refine own_iconst (pc' := 319) X389 hx (hb hby at_318) (v := (3 : Int32)) rfl rfl ?_
      refine own_icmpY X389 hx (hb hby at_319) (by decide) (by decide) (pc' := 333) (by decide) ?_
      refine own_iload (pc' := 335) X389 hx (hb hby at_333) rfl rfl ?_
      refine own_ifY X389 hx (hb hby at_335) (by decide) (by decide) (pc' := 347) (by decide) ?_
      refine own_iload (pc' := 349) X389 hx (hb hby at_347) rfl rfl ?_
      refine own_iconst (pc' := 350) X389 hx (hb hby at_349) (v := (1 : Int32)) rfl rfl ?_
      refine own_icmpY X389 hx (hb hby at_350) (by decide) (by decide) (pc' := 362) (by decide) ?_
      refine own_iload (pc' := 364) X389 hx (hb hby at_362) rfl rfl ?_
      refine own_iconst (pc' := 365) X389 hx (hb hby at_364) (v := (2 : Int32)) rfl rfl ?_
      refine own_icmpY X389 hx (hb hby at_365) (by decide) (by decide) (pc' := 377) (by decide) ?_
      refine own_lload (pc' := 379) X389 hx (hb hby at_377) rfl rfl ?_
      refine own_lload (pc' := 381) X389 hx (hb hby at_379) rfl rfl ?_
      refine own_lcmp (pc' := 382) X389 hx (hb hby at_381) rfl ?_
      refine own_ifN (pc' := 385) X389 hx (hb hby at_382) (own_Teq (by simp [own_lf] : ((0 : Int64) + own_l1 (own_out c0) + own_l1 (own_out c2)) = (((own_lf (1 : Int32) c0) + (own_lf (0 : Int32) c1)) + (own_lf (1 : Int32) c2)))).2 rfl ?_
      refine own_iconst (pc' := 386) X389 hx (hb hby at_385) (v := (1 : Int32)) rfl rfl ?_
      refine own_goto X389 hx (hb hby at_386) (by decide) (pc' := 390) (by decide) ?_
      refine own_istore (pc' := 392) X389 hx (hb hby at_390) (Ls' := #[.val (.int q0), .val (.int q1), .val (.int q2), .val (.int q3), .val (.int q4), .val (.int q5), .val (.int c0), .val (.int c1), .val (.int c2), .val (.int c3), .val (.int c4), .val (.int (3 : Int32)), .val (.int st.toInt32), .val (.ref a320), .val (.ref a324), .val (.ref a327), .val (.int (2 : Int32)), .val (.long ((0 : Int64) + own_l1 (own_out c0) + own_l1 (own_out c2))), .second, .val (.int w2.toInt32), .val (.long lf2), .second, .val (.int (1 : Int32)), .val (.int (0 : Int32)), .val (.int (1 : Int32)), .val (.ref a377), .val (.int (2 : Int32)), .val (.long (((own_lf (1 : Int32) c0) + (own_lf (0 : Int32) c1)) + (own_lf (1 : Int32) c2))), .second, .val (.int (1 : Int32)), .unset, .unset, .unset, .unset, .unset, .unset, .unset, .unset]) rfl rfl ?_
      refine own_iload (pc' := 394) X389 hx (hb hby at_392) rfl rfl ?_
      refine own_iconst (pc' := 395) X389 hx (hb hby at_394) (v := (1 : Int32)) rfl rfl ?_
      refine own_icmpY X389 hx (hb hby at_395) (by decide) (by decide) (pc' := 413) (by decide) ?_
      refine own_iload (pc' := 415) X389 hx (hb hby at_413) rfl rfl ?_
      refine own_iconst (pc' := 416) X389 hx (hb hby at_415) (v := (2 : Int32)) rfl rfl ?_
      refine own_icmpY X389 hx (hb hby at_416) (by decide) (by decide) (pc' := 434) (by decide) ?_
      refine own_iload (pc' := 436) X389 hx (hb hby at_434) rfl rfl ?_
      refine own_iconst (pc' := 437) X389 hx (hb hby at_436) (v := (3 : Int32)) rfl rfl ?_
      refine own_icmpN (pc' := 440) X389 hx (hb hby at_437) (by decide) rfl ?_
      refine own_iload (pc' := 442) X389 hx (hb hby at_440) rfl rfl ?_
      refine own_bipush (pc' := 444) X389 hx (hb hby at_442) (v := (13 : Int32)) rfl rfl ?_
      by_cases hc444 : c2 = (13 : Int32)
      · refine own_icmpN (pc' := 447) X389 hx (hb hby at_444) (teq hc444).2 rfl ?_
        refine own_iconst (pc' := 448) X389 hx (hb hby at_447) (v := (1 : Int32)) rfl rfl ?_
        refine own_goto X389 hx (hb hby at_448) (by decide) (pc' := 456) (by decide) ?_
        refine own_istore (pc' := 458) X389 hx (hb hby at_456) (Ls' := #[.val (.int q0), .val (.int q1), .val (.int q2), .val (.int q3), .val (.int q4), .val (.int q5), .val (.int c0), .val (.int c1), .val (.int c2), .val (.int c3), .val (.int c4), .val (.int (3 : Int32)), .val (.int st.toInt32), .val (.ref a320), .val (.ref a324), .val (.ref a327), .val (.int (2 : Int32)), .val (.long ((0 : Int64) + own_l1 (own_out c0) + own_l1 (own_out c2))), .second, .val (.int w2.toInt32), .val (.long lf2), .second, .val (.int (1 : Int32)), .val (.int (0 : Int32)), .val (.int (1 : Int32)), .val (.ref a377), .val (.int (2 : Int32)), .val (.long (((own_lf (1 : Int32) c0) + (own_lf (0 : Int32) c1)) + (own_lf (1 : Int32) c2))), .second, .val (.int (1 : Int32)), .val (.int (1 : Int32)), .unset, .unset, .unset, .unset, .unset, .unset, .unset]) rfl rfl ?_
        have hpr : (own_af c2) = (1 : Int32) := by simp [own_af, hc444]
        have hlf : (((own_lf (1 : Int32) c0) + (own_lf (0 : Int32) c1)) + (own_lf (1 : Int32) c2)) = ((0 : Int64) + own_l1 (own_out c0) + own_l1 (own_out c2)) := by simp [own_lf]
        rw [hlf]
        rw [hpr] at ht2
        obtain rfl | rfl | rfl : st = 0 ∨ st = 1 ∨ st = 2 := by omega
        · exact own_tB01 hw q0 q1 q2 q3 q4 q5 h0 n0 Z0 hx hby hlk hml hown hZ hret T389 _ _ a324 c3 c4 _ _ _ _ _ _ _ _ _ _ _ _ _ _ _ _ _ _ _ _ _ _ _ _ _ hC3 hC4 X389 el388 N389 Z383 P383_a324 ht2
        · exact own_tB11 hw q0 q1 q2 q3 q4 q5 h0 n0 Z0 hx hby hlk hml hown hZ hret T389 _ _ a324 c3 c4 _ _ _ _ _ _ _ _ _ _ _ _ _ _ _ _ _ _ _ _ _ _ _ _ _ hC3 hC4 X389 el388 N389 Z383 P383_a324 ht2
        · exact own_tB21 hw q0 q1 q2 q3 q4 q5 h0 n0 Z0 hx hby hlk hml hown hZ hret T389 _ _ a324 c3 c4 _ _ _ _ _ _ _ _ _ _ _ _ _ _ _ _ _ _ _ _ _ _ _ _ _ hC3 hC4 X389 el388 N389 Z383 P383_a324 ht2
      · refine own_icmpY X389 hx (hb hby at_444) (feq hc444).2 (by decide) (pc' := 451) (by decide) ?_
        refine own_iconst (pc' := 452) X389 hx (hb hby at_451) (v := (0 : Int32)) rfl rfl ?_
        refine own_goto X389 hx (hb hby at_452) (by decide) (pc' := 456) (by decide) ?_
        refine own_istore (pc' := 458) X389 hx (hb hby at_456) (Ls' := #[.val (.int q0), .val (.int q1), .val (.int q2), .val (.int q3), .val (.int q4), .val (.int q5), .val (.int c0), .val (.int c1), .val (.int c2), .val (.int c3), .val (.int c4), .val (.int (3 : Int32)), .val (.int st.toInt32), .val (.ref a320), .val (.ref a324), .val (.ref a327), .val (.int (2 : Int32)), .val (.long ((0 : Int64) + own_l1 (own_out c0) + own_l1 (own_out c2))), .second, .val (.int w2.toInt32), .val (.long lf2), .second, .val (.int (1 : Int32)), .val (.int (0 : Int32)), .val (.int (1 : Int32)), .val (.ref a377), .val (.int (2 : Int32)), .val (.long (((own_lf (1 : Int32) c0) + (own_lf (0 : Int32) c1)) + (own_lf (1 : Int32) c2))), .second, .val (.int (1 : Int32)), .val (.int (0 : Int32)), .unset, .unset, .unset, .unset, .unset, .unset, .unset]) rfl rfl ?_
        have hpr : (own_af c2) = (0 : Int32) := by simp [own_af, hc444]
        have hlf : (((own_lf (1 : Int32) c0) + (own_lf (0 : Int32) c1)) + (own_lf (1 : Int32) c2)) = ((0 : Int64) + own_l1 (own_out c0) + own_l1 (own_out c2)) := by simp [own_lf]
        rw [hlf]
        rw [hpr] at ht2
        obtain rfl | rfl | rfl : st = 0 ∨ st = 1 ∨ st = 2 := by omega
        · exact own_tB00 hw q0 q1 q2 q3 q4 q5 h0 n0 Z0 hx hby hlk hml hown hZ hret T389 _ _ a324 c3 c4 _ _ _ _ _ _ _ _ _ _ _ _ _ _ _ _ _ _ _ _ _ _ _ _ _ hC3 hC4 X389 el388 N389 Z383 P383_a324 ht2
        · exact own_tB10 hw q0 q1 q2 q3 q4 q5 h0 n0 Z0 hx hby hlk hml hown hZ hret T389 _ _ a324 c3 c4 _ _ _ _ _ _ _ _ _ _ _ _ _ _ _ _ _ _ _ _ _ _ _ _ _ hC3 hC4 X389 el388 N389 Z383 P383_a324 ht2
        · exact own_tB20 hw q0 q1 q2 q3 q4 q5 h0 n0 Z0 hx hby hlk hml hown hZ hret T389 _ _ a324 c3 c4 _ _ _ _ _ _ _ _ _ _ _ _ _ _ _ _ _ _ _ _ _ _ _ _ _ hC3 hC4 X389 el388 N389 Z383 P383_a324 ht2
    · refine own_ifY X376 hx (hb hby at_178) ((if0 _ _).trans (feq hc178).2) (by decide) (pc' := 185) (by decide) ?_
      refine own_iconst (pc' := 186) X376 hx (hb hby at_185) (v := (0 : Int32)) rfl rfl ?_
      refine own_istore (pc' := 188) X376 hx (hb hby at_186) (Ls' := #[.val (.int q0), .val (.int q1), .val (.int q2), .val (.int q3), .val (.int q4), .val (.int q5), .val (.int c0), .val (.int c1), .val (.int c2), .val (.int c3), .val (.int c4), .val (.int (3 : Int32)), .val (.int st.toInt32), .val (.ref a320), .val (.ref a324), .val (.ref a327), .val (.int w1.toInt32), .val (.long lf1), .second, .val (.int w2.toInt32), .val (.long lf2), .second, .val (.int (1 : Int32)), .val (.int (0 : Int32)), .val (.int (0 : Int32)), .unset, .unset, .unset, .unset, .unset, .unset, .unset, .unset, .unset, .unset, .unset, .unset, .unset]) rfl rfl ?_
      refine own_iconst (pc' := 189) X376 hx (hb hby at_188) (v := (3 : Int32)) rfl rfl ?_
      exact (own_A3FF c0 c1 c2 hc155 hc178).elim
set_option maxRecDepth 65536 in
set_option maxHeartbeats 40000000 in
theorem rm_0 (l : Launch) (Z : State) (a0 : Array Value) (hw : ∀ d ∈ tables_1, d.before a0 Z = true) (ws : List Jvm.Cond) (q0 : Int32) (q1 : Int32) (q2 : Int32) (q3 : Int32) (q4 : Int32) (q5 : Int32) (h0 : Heap) (n0 : Nat) (Z0 : n0 ≤ h0.size) :
    MetFree l x (head1 (Jvm.Cond.code x code maxLocals ret :: ws) room_1) (fun a U => a = #[(.int q0), (.int q1), (.int q2), (.int q3), (.int q4), (.int q5)] ∧ Z.Warmed39 U.vm ∧ U.heap = h0) (fun _ _ _ _ _ => True) (fun _ U o U' => ∃ v L, o = .returned v ∧ (Q_0 Z q0 q1 q2 q3 q4 q5 h0 n0) v U'.heap L ∧ FrameEnd U o U' L room_1.cells room_1.slots) := by
  refine MetFree.of_bodySF pn_0 hisR ?_
  intro p e s m args below meth c s₁ Bd hml0 hP hK
  obtain ⟨rfl, hZ, hh⟩ := hP
  have hx := Bd.exec
  have hby := Bd.bytes
  have hlk : meth.locks = false := BodyLoose.notSynchronized Bd
  have hml : c.maxLocals = 38 := hml0
  have hown : s.vm.findClass "com/example/dipper/dipper/core/LineEndsNormalizePinLaw" = some m.cls := findClass_of_methodNamed Bd.named
  have hnm := (name_of_methodNamed Bd.named Bd.method).1
  have X0 : Stand p l e room_1 s m #[(.int q0), (.int q1), (.int q2), (.int q3), (.int q4), (.int q5)] below meth c s₁ [] 0 0 := Stand.of_body Bd
  have e0 : s₁.heap = h0 := by rw [← hh, Bd.state]; rfl
  have N0 := Fr.nil n0
  refine own_enter (Q := (Q_0 Z q0 q1 q2 q3 q4 q5 h0 n0)) (cs := 24) (ss := 128) (ef_0 m q0 q1 q2 q3 q4 q5) ?_
  have hret : meth.sig.returnType = some .boolean := Bd.returns
  show Goes p e below s 24 128 (Q_0 Z q0 q1 q2 q3 q4 q5 h0 n0) s₁ (mkF m 0 #[.val (.int q0), .val (.int q1), .val (.int q2), .val (.int q3), .val (.int q4), .val (.int q5), .unset, .unset, .unset, .unset, .unset, .unset, .unset, .unset, .unset, .unset, .unset, .unset, .unset, .unset, .unset, .unset, .unset, .unset, .unset, .unset, .unset, .unset, .unset, .unset, .unset, .unset, .unset, .unset, .unset, .unset, .unset, .unset] [])
  refine own_iloadN (pc' := 1) X0 hx (hb hby at_0) rfl rfl ?_
  obtain ⟨_, _, ⟨T391, L391, k391, n391⟩, -, X391, ⟨Lc391, hQ391, l391, y391, z391⟩, st391⟩ := Jvm.LawKit.callS X0 hx (y := (⟨"com/example/dipper/dipper/core/LineEndsNormalizePinLaw", "ch", "(I)C"⟩ : MethodName)) hown (mvT hZ (hw _ (List.mem_of_getElem? (i := 0) rfl))) (mvT hZ (hw _ (List.mem_of_getElem? (i := 1) rfl))) (mvT hZ (hw _ (List.mem_of_getElem? (i := 2) rfl))) (mvT hZ (hw _ (List.mem_of_getElem? (i := 3) rfl))) (by decide) (backOf (W := 0) (rm_1 l Z a0 hw [] q0 h0 n0 Z0) hZ (hw _ (List.mem_of_getElem? (i := 3) rfl)) (hw _ (List.mem_of_getElem? (i := 2) rfl)) (by decide) (by decide)) (g := (mkF m 1 #[.val (.int q0), .val (.int q1), .val (.int q2), .val (.int q3), .val (.int q4), .val (.int q5), .unset, .unset, .unset, .unset, .unset, .unset, .unset, .unset, .unset, .unset, .unset, .unset, .unset, .unset, .unset, .unset, .unset, .unset, .unset, .unset, .unset, .unset, .unset, .unset, .unset, .unset, .unset, .unset, .unset, .unset, .unset, .unset] [(.int q0)])) rfl (by rw [hml]; rfl) (argsL := [(.int q0)]) (rest := []) (lenOf pd_1 rfl) rfl (by show 2 * 0 + _ ≤ _; exact Nat.le_of_eq rfl) (hb hby at_1) (fun _ _ => ⟨rfl, e0, (by decide : 0 + 0 ≤ _), (by decide : 0 + 0 ≤ _)⟩)
  dsimp only [Pt.U, Pt.locs, Pt.cells, Pt.slots] at X391 l391 y391 z391 st391 hQ391
  subst l391 y391 z391
  obtain ⟨⟨c0, rfl, hC0⟩, M391, ec0⟩ := hQ391
  have N391 := Fr.app N0 M391
  refine Goes.pre st391 ?_
  show Goes p e below s 24 128 (Q_0 Z q0 q1 q2 q3 q4 q5 h0 n0) T391 (mkF m 4 #[.val (.int q0), .val (.int q1), .val (.int q2), .val (.int q3), .val (.int q4), .val (.int q5), .unset, .unset, .unset, .unset, .unset, .unset, .unset, .unset, .unset, .unset, .unset, .unset, .unset, .unset, .unset, .unset, .unset, .unset, .unset, .unset, .unset, .unset, .unset, .unset, .unset, .unset, .unset, .unset, .unset, .unset, .unset, .unset] [(.int c0)])
  refine own_istore (pc' := 6) X391 hx (hb hby at_4) (Ls' := #[.val (.int q0), .val (.int q1), .val (.int q2), .val (.int q3), .val (.int q4), .val (.int q5), .val (.int c0), .unset, .unset, .unset, .unset, .unset, .unset, .unset, .unset, .unset, .unset, .unset, .unset, .unset, .unset, .unset, .unset, .unset, .unset, .unset, .unset, .unset, .unset, .unset, .unset, .unset, .unset, .unset, .unset, .unset, .unset, .unset]) rfl rfl ?_
  refine own_iloadN (pc' := 7) X391 hx (hb hby at_6) rfl rfl ?_
  obtain ⟨_, _, ⟨T393, L393, k393, n393⟩, -, X393, ⟨Lc393, hQ393, l393, y393, z393⟩, st393⟩ := Jvm.LawKit.callS X391 hx (y := (⟨"com/example/dipper/dipper/core/LineEndsNormalizePinLaw", "ch", "(I)C"⟩ : MethodName)) hown (mvT hZ (hw _ (List.mem_of_getElem? (i := 0) rfl))) (mvT hZ (hw _ (List.mem_of_getElem? (i := 1) rfl))) (mvT hZ (hw _ (List.mem_of_getElem? (i := 2) rfl))) (mvT hZ (hw _ (List.mem_of_getElem? (i := 3) rfl))) (by decide) (backOf (W := 0) (rm_1 l Z a0 hw [] q1 h0 n0 Z0) hZ (hw _ (List.mem_of_getElem? (i := 3) rfl)) (hw _ (List.mem_of_getElem? (i := 2) rfl)) (by decide) (by decide)) (g := (mkF m 7 #[.val (.int q0), .val (.int q1), .val (.int q2), .val (.int q3), .val (.int q4), .val (.int q5), .val (.int c0), .unset, .unset, .unset, .unset, .unset, .unset, .unset, .unset, .unset, .unset, .unset, .unset, .unset, .unset, .unset, .unset, .unset, .unset, .unset, .unset, .unset, .unset, .unset, .unset, .unset, .unset, .unset, .unset, .unset, .unset, .unset] [(.int q1)])) rfl (by rw [hml]; rfl) (argsL := [(.int q1)]) (rest := []) (lenOf pd_1 rfl) rfl (by show 2 * 0 + _ ≤ _; exact Nat.le_of_eq rfl) (hb hby at_7) (fun _ _ => ⟨rfl, ec0, (by decide : 0 + 0 ≤ _), (by decide : 0 + 0 ≤ _)⟩)
  dsimp only [Pt.U, Pt.locs, Pt.cells, Pt.slots] at X393 l393 y393 z393 st393 hQ393
  subst l393 y393 z393
  obtain ⟨⟨c1, rfl, hC1⟩, M393, ec1⟩ := hQ393
  have N393 := Fr.app N391 M393
  refine Goes.pre st393 ?_
  show Goes p e below s 24 128 (Q_0 Z q0 q1 q2 q3 q4 q5 h0 n0) T393 (mkF m 10 #[.val (.int q0), .val (.int q1), .val (.int q2), .val (.int q3), .val (.int q4), .val (.int q5), .val (.int c0), .unset, .unset, .unset, .unset, .unset, .unset, .unset, .unset, .unset, .unset, .unset, .unset, .unset, .unset, .unset, .unset, .unset, .unset, .unset, .unset, .unset, .unset, .unset, .unset, .unset, .unset, .unset, .unset, .unset, .unset, .unset] [(.int c1)])
  refine own_istore (pc' := 12) X393 hx (hb hby at_10) (Ls' := #[.val (.int q0), .val (.int q1), .val (.int q2), .val (.int q3), .val (.int q4), .val (.int q5), .val (.int c0), .val (.int c1), .unset, .unset, .unset, .unset, .unset, .unset, .unset, .unset, .unset, .unset, .unset, .unset, .unset, .unset, .unset, .unset, .unset, .unset, .unset, .unset, .unset, .unset, .unset, .unset, .unset, .unset, .unset, .unset, .unset, .unset]) rfl rfl ?_
  refine own_iloadN (pc' := 13) X393 hx (hb hby at_12) rfl rfl ?_
  obtain ⟨_, _, ⟨T395, L395, k395, n395⟩, -, X395, ⟨Lc395, hQ395, l395, y395, z395⟩, st395⟩ := Jvm.LawKit.callS X393 hx (y := (⟨"com/example/dipper/dipper/core/LineEndsNormalizePinLaw", "ch", "(I)C"⟩ : MethodName)) hown (mvT hZ (hw _ (List.mem_of_getElem? (i := 0) rfl))) (mvT hZ (hw _ (List.mem_of_getElem? (i := 1) rfl))) (mvT hZ (hw _ (List.mem_of_getElem? (i := 2) rfl))) (mvT hZ (hw _ (List.mem_of_getElem? (i := 3) rfl))) (by decide) (backOf (W := 0) (rm_1 l Z a0 hw [] q2 h0 n0 Z0) hZ (hw _ (List.mem_of_getElem? (i := 3) rfl)) (hw _ (List.mem_of_getElem? (i := 2) rfl)) (by decide) (by decide)) (g := (mkF m 13 #[.val (.int q0), .val (.int q1), .val (.int q2), .val (.int q3), .val (.int q4), .val (.int q5), .val (.int c0), .val (.int c1), .unset, .unset, .unset, .unset, .unset, .unset, .unset, .unset, .unset, .unset, .unset, .unset, .unset, .unset, .unset, .unset, .unset, .unset, .unset, .unset, .unset, .unset, .unset, .unset, .unset, .unset, .unset, .unset, .unset, .unset] [(.int q2)])) rfl (by rw [hml]; rfl) (argsL := [(.int q2)]) (rest := []) (lenOf pd_1 rfl) rfl (by show 2 * 0 + _ ≤ _; exact Nat.le_of_eq rfl) (hb hby at_13) (fun _ _ => ⟨rfl, ec1, (by decide : 0 + 0 ≤ _), (by decide : 0 + 0 ≤ _)⟩)
  dsimp only [Pt.U, Pt.locs, Pt.cells, Pt.slots] at X395 l395 y395 z395 st395 hQ395
  subst l395 y395 z395
  obtain ⟨⟨c2, rfl, hC2⟩, M395, ec2⟩ := hQ395
  have N395 := Fr.app N393 M395
  refine Goes.pre st395 ?_
  show Goes p e below s 24 128 (Q_0 Z q0 q1 q2 q3 q4 q5 h0 n0) T395 (mkF m 16 #[.val (.int q0), .val (.int q1), .val (.int q2), .val (.int q3), .val (.int q4), .val (.int q5), .val (.int c0), .val (.int c1), .unset, .unset, .unset, .unset, .unset, .unset, .unset, .unset, .unset, .unset, .unset, .unset, .unset, .unset, .unset, .unset, .unset, .unset, .unset, .unset, .unset, .unset, .unset, .unset, .unset, .unset, .unset, .unset, .unset, .unset] [(.int c2)])
  refine own_istore (pc' := 18) X395 hx (hb hby at_16) (Ls' := #[.val (.int q0), .val (.int q1), .val (.int q2), .val (.int q3), .val (.int q4), .val (.int q5), .val (.int c0), .val (.int c1), .val (.int c2), .unset, .unset, .unset, .unset, .unset, .unset, .unset, .unset, .unset, .unset, .unset, .unset, .unset, .unset, .unset, .unset, .unset, .unset, .unset, .unset, .unset, .unset, .unset, .unset, .unset, .unset, .unset, .unset, .unset]) rfl rfl ?_
  refine own_iloadN (pc' := 19) X395 hx (hb hby at_18) rfl rfl ?_
  obtain ⟨_, _, ⟨T397, L397, k397, n397⟩, -, X397, ⟨Lc397, hQ397, l397, y397, z397⟩, st397⟩ := Jvm.LawKit.callS X395 hx (y := (⟨"com/example/dipper/dipper/core/LineEndsNormalizePinLaw", "ch", "(I)C"⟩ : MethodName)) hown (mvT hZ (hw _ (List.mem_of_getElem? (i := 0) rfl))) (mvT hZ (hw _ (List.mem_of_getElem? (i := 1) rfl))) (mvT hZ (hw _ (List.mem_of_getElem? (i := 2) rfl))) (mvT hZ (hw _ (List.mem_of_getElem? (i := 3) rfl))) (by decide) (backOf (W := 0) (rm_1 l Z a0 hw [] q3 h0 n0 Z0) hZ (hw _ (List.mem_of_getElem? (i := 3) rfl)) (hw _ (List.mem_of_getElem? (i := 2) rfl)) (by decide) (by decide)) (g := (mkF m 19 #[.val (.int q0), .val (.int q1), .val (.int q2), .val (.int q3), .val (.int q4), .val (.int q5), .val (.int c0), .val (.int c1), .val (.int c2), .unset, .unset, .unset, .unset, .unset, .unset, .unset, .unset, .unset, .unset, .unset, .unset, .unset, .unset, .unset, .unset, .unset, .unset, .unset, .unset, .unset, .unset, .unset, .unset, .unset, .unset, .unset, .unset, .unset] [(.int q3)])) rfl (by rw [hml]; rfl) (argsL := [(.int q3)]) (rest := []) (lenOf pd_1 rfl) rfl (by show 2 * 0 + _ ≤ _; exact Nat.le_of_eq rfl) (hb hby at_19) (fun _ _ => ⟨rfl, ec2, (by decide : 0 + 0 ≤ _), (by decide : 0 + 0 ≤ _)⟩)
  dsimp only [Pt.U, Pt.locs, Pt.cells, Pt.slots] at X397 l397 y397 z397 st397 hQ397
  subst l397 y397 z397
  obtain ⟨⟨c3, rfl, hC3⟩, M397, ec3⟩ := hQ397
  have N397 := Fr.app N395 M397
  refine Goes.pre st397 ?_
  show Goes p e below s 24 128 (Q_0 Z q0 q1 q2 q3 q4 q5 h0 n0) T397 (mkF m 22 #[.val (.int q0), .val (.int q1), .val (.int q2), .val (.int q3), .val (.int q4), .val (.int q5), .val (.int c0), .val (.int c1), .val (.int c2), .unset, .unset, .unset, .unset, .unset, .unset, .unset, .unset, .unset, .unset, .unset, .unset, .unset, .unset, .unset, .unset, .unset, .unset, .unset, .unset, .unset, .unset, .unset, .unset, .unset, .unset, .unset, .unset, .unset] [(.int c3)])
  refine own_istore (pc' := 24) X397 hx (hb hby at_22) (Ls' := #[.val (.int q0), .val (.int q1), .val (.int q2), .val (.int q3), .val (.int q4), .val (.int q5), .val (.int c0), .val (.int c1), .val (.int c2), .val (.int c3), .unset, .unset, .unset, .unset, .unset, .unset, .unset, .unset, .unset, .unset, .unset, .unset, .unset, .unset, .unset, .unset, .unset, .unset, .unset, .unset, .unset, .unset, .unset, .unset, .unset, .unset, .unset, .unset]) rfl rfl ?_
  refine own_iload (pc' := 26) X397 hx (hb hby at_24) rfl rfl ?_
  obtain ⟨_, _, ⟨T399, L399, k399, n399⟩, -, X399, ⟨Lc399, hQ399, l399, y399, z399⟩, st399⟩ := Jvm.LawKit.callS X397 hx (y := (⟨"com/example/dipper/dipper/core/LineEndsNormalizePinLaw", "ch", "(I)C"⟩ : MethodName)) hown (mvT hZ (hw _ (List.mem_of_getElem? (i := 0) rfl))) (mvT hZ (hw _ (List.mem_of_getElem? (i := 1) rfl))) (mvT hZ (hw _ (List.mem_of_getElem? (i := 2) rfl))) (mvT hZ (hw _ (List.mem_of_getElem? (i := 3) rfl))) (by decide) (backOf (W := 0) (rm_1 l Z a0 hw [] q4 h0 n0 Z0) hZ (hw _ (List.mem_of_getElem? (i := 3) rfl)) (hw _ (List.mem_of_getElem? (i := 2) rfl)) (by decide) (by decide)) (g := (mkF m 26 #[.val (.int q0), .val (.int q1), .val (.int q2), .val (.int q3), .val (.int q4), .val (.int q5), .val (.int c0), .val (.int c1), .val (.int c2), .val (.int c3), .unset, .unset, .unset, .unset, .unset, .unset, .unset, .unset, .unset, .unset, .unset, .unset, .unset, .unset, .unset, .unset, .unset, .unset, .unset, .unset, .unset, .unset, .unset, .unset, .unset, .unset, .unset, .unset] [(.int q4)])) rfl (by rw [hml]; rfl) (argsL := [(.int q4)]) (rest := []) (lenOf pd_1 rfl) rfl (by show 2 * 0 + _ ≤ _; exact Nat.le_of_eq rfl) (hb hby at_26) (fun _ _ => ⟨rfl, ec3, (by decide : 0 + 0 ≤ _), (by decide : 0 + 0 ≤ _)⟩)
  dsimp only [Pt.U, Pt.locs, Pt.cells, Pt.slots] at X399 l399 y399 z399 st399 hQ399
  subst l399 y399 z399
  obtain ⟨⟨c4, rfl, hC4⟩, M399, ec4⟩ := hQ399
  have N399 := Fr.app N397 M399
  refine Goes.pre st399 ?_
  show Goes p e below s 24 128 (Q_0 Z q0 q1 q2 q3 q4 q5 h0 n0) T399 (mkF m 29 #[.val (.int q0), .val (.int q1), .val (.int q2), .val (.int q3), .val (.int q4), .val (.int q5), .val (.int c0), .val (.int c1), .val (.int c2), .val (.int c3), .unset, .unset, .unset, .unset, .unset, .unset, .unset, .unset, .unset, .unset, .unset, .unset, .unset, .unset, .unset, .unset, .unset, .unset, .unset, .unset, .unset, .unset, .unset, .unset, .unset, .unset, .unset, .unset] [(.int c4)])
  refine own_istore (pc' := 31) X399 hx (hb hby at_29) (Ls' := #[.val (.int q0), .val (.int q1), .val (.int q2), .val (.int q3), .val (.int q4), .val (.int q5), .val (.int c0), .val (.int c1), .val (.int c2), .val (.int c3), .val (.int c4), .unset, .unset, .unset, .unset, .unset, .unset, .unset, .unset, .unset, .unset, .unset, .unset, .unset, .unset, .unset, .unset, .unset, .unset, .unset, .unset, .unset, .unset, .unset, .unset, .unset, .unset, .unset]) rfl rfl ?_
  refine own_iload (pc' := 33) X399 hx (hb hby at_31) rfl rfl ?_
  refine own_iconst (pc' := 34) X399 hx (hb hby at_33) (v := (3 : Int32)) rfl rfl ?_
  refine own_iand (pc' := 35) X399 hx (hb hby at_34) rfl ?_
  refine own_istore (pc' := 37) X399 hx (hb hby at_35) (Ls' := #[.val (.int q0), .val (.int q1), .val (.int q2), .val (.int q3), .val (.int q4), .val (.int q5), .val (.int c0), .val (.int c1), .val (.int c2), .val (.int c3), .val (.int c4), .val (.int (q5 &&& (3 : Int32))), .unset, .unset, .unset, .unset, .unset, .unset, .unset, .unset, .unset, .unset, .unset, .unset, .unset, .unset, .unset, .unset, .unset, .unset, .unset, .unset, .unset, .unset, .unset, .unset, .unset, .unset]) rfl rfl ?_
  refine own_iload (pc' := 39) X399 hx (hb hby at_37) rfl rfl ?_
  refine own_iconst (pc' := 40) X399 hx (hb hby at_39) (v := (2 : Int32)) rfl rfl ?_
  refine own_iushr (pc' := 41) X399 hx (hb hby at_40) rfl ?_
  refine own_ldcI (pc' := 43) X399 hx hown (mvT hZ (hw _ (List.mem_of_getElem? (i := 4) rfl))) (hb hby at_41) rfl ?_
  refine own_iand (pc' := 44) X399 hx (hb hby at_43) rfl ?_
  refine own_iconst (pc' := 45) X399 hx (hb hby at_44) (v := (3 : Int32)) rfl rfl ?_
  refine own_irem (pc' := 46) X399 hx (hb hby at_45) (by decide) rfl ?_
  refine own_istore (pc' := 48) X399 hx (hb hby at_46) (Ls' := #[.val (.int q0), .val (.int q1), .val (.int q2), .val (.int q3), .val (.int q4), .val (.int q5), .val (.int c0), .val (.int c1), .val (.int c2), .val (.int c3), .val (.int c4), .val (.int (q5 &&& (3 : Int32))), .val (.int (((((q5).toUInt32 >>> ((2 : Int32) &&& 31).toUInt32).toInt32) &&& (1073741823 : Int32)) % (3 : Int32))), .unset, .unset, .unset, .unset, .unset, .unset, .unset, .unset, .unset, .unset, .unset, .unset, .unset, .unset, .unset, .unset, .unset, .unset, .unset, .unset, .unset, .unset, .unset, .unset, .unset]) rfl rfl ?_
  obtain ⟨st, hst, es⟩ := own_s3 ((((q5).toUInt32 >>> ((2 : Int32) &&& 31).toUInt32).toInt32))
  rw [es]
  rcases own_n4 q5 with hn | hn | hn | hn <;> rw [hn]
  · exact own_tA0 hw q0 q1 q2 q3 q4 q5 h0 n0 Z0 hx hby hlk hml hown hZ hret T399 _ c0 c1 c2 c3 c4 st hst hC0 hC1 hC2 hC3 hC4 X399 ec4 N399
  · exact own_tA1 hw q0 q1 q2 q3 q4 q5 h0 n0 Z0 hx hby hlk hml hown hZ hret T399 _ c0 c1 c2 c3 c4 st hst hC0 hC1 hC2 hC3 hC4 X399 ec4 N399
  · exact own_tA2 hw q0 q1 q2 q3 q4 q5 h0 n0 Z0 hx hby hlk hml hown hZ hret T399 _ c0 c1 c2 c3 c4 st hst hC0 hC1 hC2 hC3 hC4 X399 ec4 N399
  · exact own_tA3 hw q0 q1 q2 q3 q4 q5 h0 n0 Z0 hx hby hlk hml hown hZ hret T399 _ c0 c1 c2 c3 c4 st hst hC0 hC1 hC2 hC3 hC4 X399 ec4 N399
set_option maxRecDepth 65536 in
set_option maxHeartbeats 40000000 in
theorem comes_1 {Post : Tables → Env → Array Value → State → Outcome → State → Prop} (hpost : ∀ tb e args s v u, (limb_1_1.after args s (.returned v) u = true ∧ limb_1_2.after args s (.returned v) u = true ∧ True) → FrameEnd s (.returned v) u (Jvm.fieldLocs frame_1_writes args s ++ Jvm.arrayLocs frame_1_arrays args s ++ Jvm.staticLocs frame_1_statics s) 24 128 → Post tb e args s (.returned v) u) :
    ArmFor flags0 classFile x code maxLocals ret World_1 tables_1 room_1 Calls_1 rest_1 Pre_1 Post := by
  intro l hfl _ _ p e ha hc hk s m args below hf hA hF happ hP
  obtain ⟨hcalls, hrest, hpre⟩ := hP
  obtain ⟨-, -, -, hnamed, -, -, -, hat⟩ := (Spec.applies_iff hf).mp happ
  obtain ⟨hg, hn⟩ := and_e (Cond.before_iff.mp (show (Jvm.Cond.and given_1 narrow_1).before args s = true from hpre))
  obtain ⟨gc, r0⟩ := and_e hg
  obtain ⟨g0, r1⟩ := and_e r0
  obtain ⟨g1, r2⟩ := and_e r1
  obtain ⟨g2, r3⟩ := and_e r2
  obtain ⟨g3, r4⟩ := and_e r3
  obtain ⟨g4, r5⟩ := and_e r4
  obtain ⟨w0, w1, w2, w3, w4, w5, rfl⟩ : ∃ w0 w1 w2 w3 w4 w5 : Value, args = #[w0, w1, w2, w3, w4, w5] := by
    have hs : args.size = 6 := by simpa [Cond.value, given_1] using gc
    obtain ⟨L⟩ := args
    match L, hs with
    | [w0, w1, w2, w3, w4, w5], _ => exact ⟨w0, w1, w2, w3, w4, w5, rfl⟩
  have hw := fun d (hd : d ∈ tables_1) => atoms_spec (ws := Jvm.Cond.code x code maxLocals ret :: tables_1) hat d (List.mem_cons_of_mem _ hd)
  obtain ⟨i0, ei0⟩ := is_v g0
  obtain rfl : w0 = (.int i0) := Option.some.inj ei0
  obtain ⟨i1, ei1⟩ := is_v g1
  obtain rfl : w1 = (.int i1) := Option.some.inj ei1
  obtain ⟨i2, ei2⟩ := is_v g2
  obtain rfl : w2 = (.int i2) := Option.some.inj ei2
  obtain ⟨i3, ei3⟩ := is_v g3
  obtain rfl : w3 = (.int i3) := Option.some.inj ei3
  obtain ⟨i4, ei4⟩ := is_v g4
  obtain rfl : w4 = (.int i4) := Option.some.inj ei4
  obtain ⟨i5, ei5⟩ := is_v r5
  obtain rfl : w5 = (.int i5) := Option.some.inj ei5
  obtain ⟨n, o, h1, h2, h3, _, L, rfl, ⟨rfl, N⟩, hq⟩ := rm_0 l s _ hw tables_1 i0 i1 i2 i3 i4 i5 s.heap s.heap.size (Nat.le_refl _)  p e ha hc hk s m _ below hf ((Spec.applies_iff_loose hf).mp happ).1 ⟨rfl, State.Warmed39.refl s, rfl⟩ trivial
  refine ⟨n, _, h1, h2, h3, hpost _ _ _ _ _ _ ⟨Cond.after_iff.mpr rfl, Cond.after_iff.mpr (eq_i res_at (Term.int_eval (1)) rfl), trivial⟩ ⟨hq.1, hq.2.1, (hq.2.2.sift fun y hy => Or.inr (N y hy)).mono (by decide) (by decide)⟩⟩
theorem main_1_1 : Claimed_1_1 := comes_1 fun _ _ _ _ _ _ h hF => ⟨h.1, hF⟩
theorem main_1_2 : Claimed_1_2 := comes_1 fun _ _ _ _ _ _ h hF => ⟨h.2.1, hF⟩
end Jvm.Pilot.@@N@@
namespace Jvm.Pilot.@@N@@
open Jvm Jvm.ClassFile Sem Op Lib Jvm.Free Jvm.Stand Jvm.Pilot.@@N@@.Jvm.D
/-! MADE BY PROGRAM (witnessworld.py) out of the Statement's table words and the real class files: 11 classes; the members and pool entries that the words name. The judged class is class 1, her method 5. -/
namespace start1
open Jvm.ClassFile
def u (s : String) : CpInfo := .utf8 (stringToUtf16 s)
/-- a pool by its gaps: so many unusable entries, then the entry; so many at the end -/
def gap : Nat → List CpInfo → List CpInfo
  | 0, r => r
  | n + 1, r => .unusable :: gap n r
def poolList (es : List (Nat × CpInfo)) (last : Nat) : List CpInfo := es.foldr (fun e r => gap e.1 (e.2 :: r)) (gap last [])
def pool (es : List (Nat × CpInfo)) (last : Nat) : Array CpInfo := ⟨poolList es last⟩
def fileOf (pool : Array CpInfo) (this : Nat) (attrs : Array Attribute := #[]) (ms : Array MethodInfo := #[]) (fl : Nat := 33) (sup : Nat := 0) (ifs : Array Nat := #[]) (fds : Array FieldInfo := #[]) : ClassFile where
  minorVersion := 0
  majorVersion := 65
  constantPool := pool
  accessFlags := fl
  thisClass := this
  superClass := sup
  interfaces := ifs
  fields := fds
  methods := ms
  attributes := attrs
def plain (name : String) (sup : Option ClassId) : Class where
  name := name
  kind := .ordinary
  loader := none
  accessFlags := 33
  super := sup
  interfaces := #[]
  cf := none
  fields := #[]
  methods := #[]
  instanceTypes := #[]
  staticTypes := #[]
  resolved := #[]
  callSites := []
  init := .initialized
  statics := none
  mirror := none

def pool0 : Array CpInfo := pool [(5, u "<init>"), (0, u "()V"), (1, .class_ 10), (1, u "java/lang/Object")] 113

def k0c0 : Code := { maxStack := 0, maxLocals := 1, code := object_method_1_code, exceptionTable := #[], attributes := #[] }
def k0m0 : Method := { name := "<init>", desc := "()V", sig := { parameters := [], returnType := none }, accessFlags := 1, code := some k0c0 }
/-- java/lang/Object -/
def k0 : Class := { plain "java/lang/Object" none with
  accessFlags := 33
  interfaces := #[]
  cf := some (fileOf pool0 8 #[] #[{ accessFlags := 1, nameIndex := 5, descriptorIndex := 6, attributes := #[] }] 33 0 #[] #[])
  fields := #[]
  methods := #[k0m0]
  instanceTypes := #[]
  staticTypes := #[]
  resolved := Array.replicate 124 none
  statics := none }

def pool1 : Array CpInfo := pool [(2, .class_ 4), (0, .nameAndType 5 6), (0, u "java/lang/Object"), (0, u "<init>"), (0, u "()V"), (0, .methodref 8 9), (0, .class_ 10), (0, .nameAndType 11 12), (0, u "com/example/dipper/dipper/core/LineEndsNormalizePinLaw"), (0, u "out"), (0, u "(C)C"), (0, .methodref 8 14), (0, .nameAndType 15 16), (0, u "ch"), (0, u "(I)C"), (0, .integer 1073741823), (0, .class_ 19), (0, u "com/example/dipper/dipper/core/LineEnds"), (0, .methodref 18 3), (0, .methodref 18 22), (0, .nameAndType 23 24), (0, u "normalize"), (0, u "([CII)I"), (0, .methodref 18 26), (0, .nameAndType 27 28), (0, u "lineFeeds"), (0, u "()J"), (0, .methodref 8 30), (0, .nameAndType 31 32), (0, u "pairs"), (0, u "(CC)Z"), (0, .methodref 8 34), (0, .nameAndType 35 36), (0, u "lf"), (0, u "(ZC)J"), (3, u "law"), (0, u "(IIIIII)Z")] 4

def k1m0 : Method := { name := "<init>", desc := "()V", sig := { parameters := [], returnType := none }, accessFlags := 1, code := none }
def k1c1 : Code := { maxStack := 2, maxLocals := 2, code := method_2_code, exceptionTable := #[], attributes := #[] }
def k1m1 : Method := { name := "ch", desc := "(I)C", sig := { parameters := [.int], returnType := some .char }, accessFlags := 10, code := some k1c1 }
def k1c2 : Code := { maxStack := 2, maxLocals := 1, code := method_3_code, exceptionTable := #[], attributes := #[] }
def k1m2 : Method := { name := "out", desc := "(C)C", sig := { parameters := [.char], returnType := some .char }, accessFlags := 10, code := some k1c2 }
def k1c3 : Code := { maxStack := 2, maxLocals := 2, code := method_4_code, exceptionTable := #[], attributes := #[] }
def k1m3 : Method := { name := "pairs", desc := "(CC)Z", sig := { parameters := [.char, .char], returnType := some .boolean }, accessFlags := 10, code := some k1c3 }
def k1c4 : Code := { maxStack := 2, maxLocals := 2, code := method_5_code, exceptionTable := #[], attributes := #[] }
def k1m4 : Method := { name := "lf", desc := "(ZC)J", sig := { parameters := [.boolean, .char], returnType := some .long }, accessFlags := 10, code := some k1c4 }
def k1c5 : Code := { maxStack := 4, maxLocals := 38, code := code, exceptionTable := #[], attributes := #[] }
def k1m5 : Method := { name := "law", desc := "(IIIIII)Z", sig := { parameters := [.int, .int, .int, .int, .int, .int], returnType := some .boolean }, accessFlags := 9, code := some k1c5 }
/-- com/example/dipper/dipper/core/LineEndsNormalizePinLaw -/
def k1 : Class := { plain "com/example/dipper/dipper/core/LineEndsNormalizePinLaw" (some 0) with
  accessFlags := 49
  interfaces := #[]
  cf := some (fileOf pool1 8 #[] #[{ accessFlags := 1, nameIndex := 5, descriptorIndex := 6, attributes := #[] }, { accessFlags := 10, nameIndex := 15, descriptorIndex := 16, attributes := #[] }, { accessFlags := 10, nameIndex := 11, descriptorIndex := 12, attributes := #[] }, { accessFlags := 10, nameIndex := 31, descriptorIndex := 32, attributes := #[] }, { accessFlags := 10, nameIndex := 35, descriptorIndex := 36, attributes := #[] }, { accessFlags := 9, nameIndex := 40, descriptorIndex := 41, attributes := #[] }] 49 2 #[] #[])
  fields := #[]
  methods := #[k1m0, k1m1, k1m2, k1m3, k1m4, k1m5]
  instanceTypes := #[]
  staticTypes := #[]
  resolved := Array.replicate 46 none
  statics := none }

def pool2 : Array CpInfo := pool [(1, .methodref 2 3), (0, .class_ 4), (0, .nameAndType 5 6), (0, u "java/lang/Object"), (0, u "<init>"), (0, u "()V"), (12, .class_ 20), (0, u "com/example/dipper/dipper/core/LineEnds"), (3, u "normalize"), (0, u "([CII)I"), (6, .fieldref 19 33), (0, .nameAndType 34 35), (0, u "afterReturn"), (0, u "Z"), (0, .fieldref 19 37), (0, .nameAndType 38 39), (0, u "lineFeeds"), (0, u "J"), (7, u "()J")] 2

def k2c0 : Code := { maxStack := 1, maxLocals := 1, code := prog_28_method_1_code, exceptionTable := #[], attributes := #[] }
def k2m0 : Method := { name := "<init>", desc := "()V", sig := { parameters := [], returnType := none }, accessFlags := 0, code := some k2c0 }
def k2c1 : Code := { maxStack := 5, maxLocals := 9, code := prog_28_method_3_code, exceptionTable := #[], attributes := #[] }
def k2m1 : Method := { name := "normalize", desc := "([CII)I", sig := { parameters := [(.array .char), .int, .int], returnType := some .int }, accessFlags := 0, code := some k2c1 }
def k2c2 : Code := { maxStack := 2, maxLocals := 1, code := prog_28_method_4_code, exceptionTable := #[], attributes := #[] }
def k2m2 : Method := { name := "lineFeeds", desc := "()J", sig := { parameters := [], returnType := some .long }, accessFlags := 0, code := some k2c2 }
/-- com/example/dipper/dipper/core/LineEnds -/
def k2 : Class := { plain "com/example/dipper/dipper/core/LineEnds" (some 0) with
  accessFlags := 32
  interfaces := #[]
  cf := some (fileOf pool2 19 #[] #[{ accessFlags := 0, nameIndex := 5, descriptorIndex := 6, attributes := #[] }, { accessFlags := 0, nameIndex := 24, descriptorIndex := 25, attributes := #[] }, { accessFlags := 0, nameIndex := 38, descriptorIndex := 47, attributes := #[] }] 32 2 #[] #[{ accessFlags := 2, nameIndex := 34, descriptorIndex := 35, attributes := #[] }, { accessFlags := 2, nameIndex := 38, descriptorIndex := 39, attributes := #[] }])
  fields := #[{ name := "afterReturn", type := .boolean, accessFlags := 2, slot := 0, constantValue := 0 }, { name := "lineFeeds", type := .long, accessFlags := 2, slot := 1, constantValue := 0 }]
  methods := #[k2m0, k2m1, k2m2]
  instanceTypes := #[.boolean, .long]
  staticTypes := #[]
  resolved := Array.replicate 50 none
  statics := none }

def pool3 : Array CpInfo := pool [(1, u "java/lang/Cloneable"), (0, .class_ 1), (0, u "java/lang/Object"), (0, .class_ 3)] 3

/-- java/lang/Cloneable -/
def k3 : Class := { plain "java/lang/Cloneable" (some 0) with
  accessFlags := 1537
  interfaces := #[]
  cf := some (fileOf pool3 2 #[] #[] 1537 4 #[] #[])
  fields := #[]
  methods := #[]
  instanceTypes := #[]
  staticTypes := #[]
  resolved := Array.replicate 8 none
  statics := none }

def pool4 : Array CpInfo := pool [(1, u "java/io/Serializable"), (0, .class_ 1), (0, u "java/lang/Object"), (0, .class_ 3)] 3

/-- java/io/Serializable -/
def k4 : Class := { plain "java/io/Serializable" (some 0) with
  accessFlags := 1537
  interfaces := #[]
  cf := some (fileOf pool4 2 #[] #[] 1537 4 #[] #[])
  fields := #[]
  methods := #[]
  instanceTypes := #[]
  staticTypes := #[]
  resolved := Array.replicate 8 none
  statics := none }

/-- the primitive byte -/
def k5 : Class := { plain "byte" none with kind := .primitive 'B', accessFlags := 0x411 }
/-- [B -/
def k6 : Class := { plain "[B" (some 0) with kind := .array 5 .byte, interfaces := #[3, 4], accessFlags := 1041 }

/-- the primitive char -/
def k7 : Class := { plain "char" none with kind := .primitive 'C', accessFlags := 0x411 }
/-- [C -/
def k8 : Class := { plain "[C" (some 0) with kind := .array 7 .char, interfaces := #[3, 4], accessFlags := 1041 }

/-- the primitive int -/
def k9 : Class := { plain "int" none with kind := .primitive 'I', accessFlags := 0x411 }
/-- [I -/
def k10 : Class := { plain "[I" (some 0) with kind := .array 9 .int, interfaces := #[3, 4], accessFlags := 1041 }

def heap : Heap := #[]
def classes : Array Class := #[k0, k1, k2, k3, k4, k5, k6, k7, k8, k9, k10]
def interned : List (Array UInt16 × Addr) := []
def slotsUsed : Nat := 0
def theMethod : MethodId := ⟨1, 5⟩
def args0 : Array Value := #[.int 3, .int 4, .int 5, .int 6, .int 7, .int 8]
def aboutOver (below : List Frame) : State where
  vm := { classes := classes, interned := interned.toArray }
  heap := heap
  slotsUsed := slotsUsed
  threads := #[{ frames := .invoking theMethod args0 :: below }]
def below0 : List Frame := [.native { method := ⟨0, 0⟩, args := #[] }]
def about1 : State := aboutOver below0
def p0 : Program := .bare "" "" ""
def e0 : Env := launch0.env 0 0 0
theorem w_frames : about1.frames = Frame.invoking theMethod args0 :: below0 := rfl
set_option maxRecDepth 65536 in
theorem w_args : argsFit about1.vm theMethod args0 = true := by decide +kernel
set_option maxRecDepth 65536 in
theorem w_heap : heapFits about1 = true := by decide +kernel
set_option maxRecDepth 65536 in
theorem w_runnable : about1.curStatus? = some .runnable := by decide +kernel
set_option maxRecDepth 65536 in
theorem w_alone : about1.alone = true := by decide +kernel
set_option maxRecDepth 65536 in
theorem w_named : about1.methodNamed? x = some theMethod := by decide +kernel
set_option maxRecDepth 65536 in
theorem w_hears : about1.hears theMethod below0 = true := by decide +kernel
set_option maxRecDepth 65536 in
theorem w_ripe : about1.ripe theMethod args0 below0 = true := by decide +kernel
theorem w_running : about1.status = .running := rfl
set_option maxRecDepth 65536 in
theorem w_room : about1.hasRoom e0.platform room_1 = true :=
  launch0.hasRoom_least _ room_1 (by decide +kernel) (by decide +kernel) (by decide +kernel) (by decide +kernel) (by decide +kernel) (by decide +kernel)
theorem allAtoms_all (ts : List Jvm.Cond) (a : Array Jvm.Value) (st : Jvm.State) : (allAtoms ts).before a st = ts.all (fun c => c.before a st) := by
  induction ts with
  | nil => rfl
  | cons c t ih =>
    show (Jvm.Cond.and c (allAtoms t)).before a st = _
    rw [Jvm.Cond.before_and, ih, List.all_cons]
def words1 : List Jvm.Cond := Jvm.Cond.code x code maxLocals ret :: tables_1
/-- a 'code' word, met by the world's own term for the bytes: nothing is compared byte by byte -/
theorem code_word {y : MethodName} {bytes : ByteArray} {mx : Nat} {rt : Option FieldType} {a : Array Value} {s : State} {m : MethodId} {meth : Method} {c : Code} (h1 : s.methodNamed? y = some m) (h2 : s.vm.method? m = some meth) (h3 : meth.code = some c) (h4 : c.code = bytes)
    (h5 : (c.maxLocals == mx && c.exceptionTable.isEmpty && decide (c.maxStack ≤ mostOperands) && decide (meth.sig.returnType = rt) && !meth.locks && decide (parseMethodDescriptor y.desc = some meth.sig)) = true) : (Jvm.Cond.code y bytes mx rt).before a s = true := by
  simp only [Bool.and_eq_true, beq_iff_eq, Bool.not_eq_true', decide_eq_true_eq] at h5
  obtain ⟨⟨⟨⟨⟨g1, g2⟩, g3⟩, g4⟩, g5⟩, g6⟩ := h5
  simp [Cond.before, Cond.holds, Cond.value, h1, h2, h3, h4, g1, g2, g3, g4, g5, g6]
def isCode : Jvm.Cond → Bool
  | .code _ _ _ _ => true
  | _ => false
theorem all_split {L : List Jvm.Cond} {P : Jvm.Cond → Bool} (h1 : L.all (fun c => isCode c || P c) = true) (h2 : ∀ c ∈ L.filter isCode, P c = true) : L.all P = true := by
  refine List.all_eq_true.mpr fun c hc => ?_
  have h := List.all_eq_true.mp h1 c hc
  rcases Bool.eq_false_or_eq_true (isCode c) with hi | hi
  · exact h2 c (List.mem_filter.mpr ⟨hc, hi⟩)
  · simpa [hi] using h
set_option maxRecDepth 65536 in
theorem w_c0 : (Jvm.Cond.code x code maxLocals ret).before args0 about1 = true := code_word (m := ⟨1, 5⟩) (meth := k1m5) (c := k1c5) (by decide +kernel) rfl rfl rfl (by decide +kernel)
set_option maxRecDepth 65536 in
theorem w_c1 : (Jvm.Cond.code ({ cls := "com/example/dipper/dipper/core/LineEndsNormalizePinLaw", name := "ch", desc := "(I)C" } : Jvm.MethodName) method_2_code (2 : Nat) (Option.some Jvm.ClassFile.FieldType.char)).before args0 about1 = true := code_word (m := ⟨1, 1⟩) (meth := k1m1) (c := k1c1) (by decide +kernel) rfl rfl rfl (by decide +kernel)
set_option maxRecDepth 65536 in
theorem w_c2 : (Jvm.Cond.code ({ cls := "com/example/dipper/dipper/core/LineEnds", name := "<init>", desc := "()V" } : Jvm.MethodName) prog_28_method_1_code (1 : Nat) (Option.none : Option Jvm.ClassFile.FieldType)).before args0 about1 = true := code_word (m := ⟨2, 0⟩) (meth := k2m0) (c := k2c0) (by decide +kernel) rfl rfl rfl (by decide +kernel)
set_option maxRecDepth 65536 in
theorem w_c3 : (Jvm.Cond.code ({ cls := "java/lang/Object", name := "<init>", desc := "()V" } : Jvm.MethodName) object_method_1_code (1 : Nat) (Option.none : Option Jvm.ClassFile.FieldType)).before args0 about1 = true := code_word (m := ⟨0, 0⟩) (meth := k0m0) (c := k0c0) (by decide +kernel) rfl rfl rfl (by decide +kernel)
set_option maxRecDepth 65536 in
theorem w_c4 : (Jvm.Cond.code ({ cls := "com/example/dipper/dipper/core/LineEnds", name := "normalize", desc := "([CII)I" } : Jvm.MethodName) prog_28_method_3_code (9 : Nat) (Option.some Jvm.ClassFile.FieldType.int)).before args0 about1 = true := code_word (m := ⟨2, 1⟩) (meth := k2m1) (c := k2c1) (by decide +kernel) rfl rfl rfl (by decide +kernel)
set_option maxRecDepth 65536 in
theorem w_c5 : (Jvm.Cond.code ({ cls := "com/example/dipper/dipper/core/LineEnds", name := "lineFeeds", desc := "()J" } : Jvm.MethodName) prog_28_method_4_code (1 : Nat) (Option.some Jvm.ClassFile.FieldType.long)).before args0 about1 = true := code_word (m := ⟨2, 2⟩) (meth := k2m2) (c := k2c2) (by decide +kernel) rfl rfl rfl (by decide +kernel)
set_option maxRecDepth 65536 in
theorem w_c6 : (Jvm.Cond.code ({ cls := "com/example/dipper/dipper/core/LineEndsNormalizePinLaw", name := "pairs", desc := "(CC)Z" } : Jvm.MethodName) method_4_code (2 : Nat) (Option.some Jvm.ClassFile.FieldType.boolean)).before args0 about1 = true := code_word (m := ⟨1, 3⟩) (meth := k1m3) (c := k1c3) (by decide +kernel) rfl rfl rfl (by decide +kernel)
set_option maxRecDepth 65536 in
theorem w_c7 : (Jvm.Cond.code ({ cls := "com/example/dipper/dipper/core/LineEndsNormalizePinLaw", name := "out", desc := "(C)C" } : Jvm.MethodName) method_3_code (1 : Nat) (Option.some Jvm.ClassFile.FieldType.char)).before args0 about1 = true := code_word (m := ⟨1, 2⟩) (meth := k1m2) (c := k1c2) (by decide +kernel) rfl rfl rfl (by decide +kernel)
set_option maxRecDepth 65536 in
theorem w_c8 : (Jvm.Cond.code ({ cls := "com/example/dipper/dipper/core/LineEndsNormalizePinLaw", name := "lf", desc := "(ZC)J" } : Jvm.MethodName) method_5_code (2 : Nat) (Option.some Jvm.ClassFile.FieldType.long)).before args0 about1 = true := code_word (m := ⟨1, 4⟩) (meth := k1m4) (c := k1c4) (by decide +kernel) rfl rfl rfl (by decide +kernel)
def codes1 : List Jvm.Cond := [Jvm.Cond.code x code maxLocals ret, Jvm.Cond.code ({ cls := "com/example/dipper/dipper/core/LineEndsNormalizePinLaw", name := "ch", desc := "(I)C" } : Jvm.MethodName) method_2_code (2 : Nat) (Option.some Jvm.ClassFile.FieldType.char), Jvm.Cond.code ({ cls := "com/example/dipper/dipper/core/LineEnds", name := "<init>", desc := "()V" } : Jvm.MethodName) prog_28_method_1_code (1 : Nat) (Option.none : Option Jvm.ClassFile.FieldType), Jvm.Cond.code ({ cls := "java/lang/Object", name := "<init>", desc := "()V" } : Jvm.MethodName) object_method_1_code (1 : Nat) (Option.none : Option Jvm.ClassFile.FieldType), Jvm.Cond.code ({ cls := "com/example/dipper/dipper/core/LineEnds", name := "normalize", desc := "([CII)I" } : Jvm.MethodName) prog_28_method_3_code (9 : Nat) (Option.some Jvm.ClassFile.FieldType.int), Jvm.Cond.code ({ cls := "com/example/dipper/dipper/core/LineEnds", name := "lineFeeds", desc := "()J" } : Jvm.MethodName) prog_28_method_4_code (1 : Nat) (Option.some Jvm.ClassFile.FieldType.long), Jvm.Cond.code ({ cls := "com/example/dipper/dipper/core/LineEndsNormalizePinLaw", name := "pairs", desc := "(CC)Z" } : Jvm.MethodName) method_4_code (2 : Nat) (Option.some Jvm.ClassFile.FieldType.boolean), Jvm.Cond.code ({ cls := "com/example/dipper/dipper/core/LineEndsNormalizePinLaw", name := "out", desc := "(C)C" } : Jvm.MethodName) method_3_code (1 : Nat) (Option.some Jvm.ClassFile.FieldType.char), Jvm.Cond.code ({ cls := "com/example/dipper/dipper/core/LineEndsNormalizePinLaw", name := "lf", desc := "(ZC)J" } : Jvm.MethodName) method_5_code (2 : Nat) (Option.some Jvm.ClassFile.FieldType.long)]
set_option maxRecDepth 65536 in
theorem codes_eq : words1.filter isCode = codes1 := rfl
theorem w_codes : ∀ c ∈ words1.filter isCode, c.before args0 about1 = true := by
  rw [codes_eq]
  intro c hc
  simp only [codes1, List.mem_cons, List.not_mem_nil, or_false] at hc
  rcases hc with rfl | rfl | rfl | rfl | rfl | rfl | rfl | rfl | rfl
  · exact w_c0
  · exact w_c1
  · exact w_c2
  · exact w_c3
  · exact w_c4
  · exact w_c5
  · exact w_c6
  · exact w_c7
  · exact w_c8
set_option maxRecDepth 65536 in
theorem w_t1 : (words1.take 24).all (fun c => isCode c || c.before args0 about1) = true := by decide +kernel
set_option maxRecDepth 65536 in
theorem w_t2 : (words1.drop 24).all (fun c => isCode c || c.before args0 about1) = true := by decide +kernel
theorem w_tables : (allAtoms (Jvm.Cond.code x code maxLocals ret :: tables_1)).before args0 about1 = true := by
  rw [allAtoms_all]
  show words1.all (fun c => c.before args0 about1) = true
  refine all_split ?_ w_codes
  rw [← List.take_append_drop 24 words1, List.all_append, w_t1, w_t2]
  rfl
set_option maxRecDepth 65536 in
theorem w_case : (Jvm.Cond.and given_1 narrow_1).before args0 about1 = true := by decide +kernel
theorem w_applies : (headSpec (Jvm.Cond.code x code maxLocals ret :: tables_1) room_1).applies x e0.platform about1 = true :=
  (Spec.applies_iff w_frames).mpr ⟨w_running, w_runnable, w_alone, w_named, w_hears, w_ripe, w_room, w_tables⟩
theorem atStart : AtStart classFile x code maxLocals ret World_1 tables_1 room_1 Calls_1 rest_1 Pre_1 launch0 p0 e0 about1 theMethod args0 below0 :=
  ⟨lists_1, trivial, launch0.admits_env _ _ _, launch0.least_env, fairChoices_fair.cas, fairChoices_fair.clock, w_frames, w_args, w_heap, w_applies, trivial, trivial, w_case⟩
end start1
theorem witness_1 : WitnessClaimed_1 := ⟨start1.p0, start1.e0, start1.about1, start1.theMethod, start1.args0, start1.below0, start1.atStart⟩
end Jvm.Pilot.@@N@@
