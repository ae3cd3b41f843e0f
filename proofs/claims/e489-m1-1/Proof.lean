import JvmDerived
import JvmDerived.Pilot.@@N@@Statement
import JvmDerived.Pilot.@@N@@Code
set_option linter.unusedVariables false
set_option linter.unusedSimpArgs false
namespace Jvm.Pilot.@@N@@
open Jvm Jvm.ClassFile Sem Op Lib Jvm.Free Jvm.Stand Jvm.LawKit Jvm.RoadKit Bundle Jvm.Pilot.@@N@@.Jvm.D
/-- the rest of a walk: from the frame g over T the run comes to an end that Q describes -/
def Goes (p : Program) (e : Env) (below : List Frame) (s : State) (cs ss : Nat) (Q : Option Value → Heap → List Loc → Prop) (T : State) (g : JFrame) : Prop :=
  ∃ U o, Steps p.tables e below (T.setTop g) U ∧ U.status = .running ∧ Ended U below o ∧ ∃ v L, o = .returned v ∧ Q v U.heap L ∧ FrameEnd s o U L cs ss
section Own
variable {p : Program} {l : Launch} {e : Env} {R : Room} {s : State} {m : MethodId} {args : Array Value} {below : List Frame} {meth : Method} {c : Code} {T T' : State} {locs : List Loc} {cells slots : Nat} {cs ss : Nat} {Q : Option Value → Heap → List Loc → Prop} {pc pc' : Nat} {Ls Ls' : Array Slot} {st : List Value}
theorem Goes.pre {g g' : JFrame} (h : ∀ target, Steps p.tables e below (T'.setTop g') target → Steps p.tables e below (T.setTop g) target) (k : Goes p e below s cs ss Q T' g') : Goes p e below s cs ss Q T g := by
  obtain ⟨U, o, h1, r⟩ := k
  exact ⟨U, o, h _ h1, r⟩
theorem Goes.aft {g g' : JFrame} (h : Steps p.tables e below (T.setTop g) (T'.setTop g')) (k : Goes p e below s cs ss Q T' g') : Goes p e below s cs ss Q T g := by
  obtain ⟨U, o, h1, r⟩ := k
  exact ⟨U, o, h.trans h1, r⟩
theorem own_enter {maxL : Nat} {g : JFrame} (hg : entryFrame m args maxL = g) (k : Goes p e below s cs ss Q T g) : ∃ s₂ o, Steps p.tables e below (T.setTop (entryFrame m args maxL)) s₂ ∧ s₂.status = .running ∧ Ended s₂ below o ∧ ∃ v L, o = .returned v ∧ Q v s₂.heap L ∧ FrameEnd s o s₂ L cs ss := by
  subst hg
  exact k
theorem own_retN (X : Stand p l e R s m args below meth c T locs cells slots) (hx : p.tables.exec = Jvm.exec) (hlk : meth.locks = false) {t : FieldType} (hret : meth.sig.returnType = some t) (ht : t = .boolean ∨ t = .byte ∨ t = .char ∨ t = .short) {z : Int32} (hd : decode c.code pc = .ok (.ireturn, 1)) (h1 : cells ≤ cs) (h2 : slots ≤ ss) (hq : Q (some (.int (nar t z))) T.heap locs) : Goes p e below s cs ss Q T (mkF m pc Ls (.int z :: st)) := by
  obtain ⟨fs, hr, hrun, hended, hW, hsame⟩ := X.leave (v := some (.int (nar t z))) (fun h => by rw [hret] at h; cases h) hlk
  exact ⟨_, _, retN X hx hret ht hd hr, hrun, hended, _, _, rfl, hq, ⟨_, rfl⟩, hW, hsame.mono h1 h2⟩
theorem own_retI (X : Stand p l e R s m args below meth c T locs cells slots) (hx : p.tables.exec = Jvm.exec) (hlk : meth.locks = false) (hret : meth.sig.returnType = some .int) {z : Int32} (hd : decode c.code pc = .ok (.ireturn, 1)) (h1 : cells ≤ cs) (h2 : slots ≤ ss) (hq : Q (some (.int z)) T.heap locs) : Goes p e below s cs ss Q T (mkF m pc Ls (.int z :: st)) := by
  obtain ⟨fs, hr, hrun, hended, hW, hsame⟩ := X.leave (v := some (.int z)) (fun h => by rw [hret] at h; cases h) hlk
  exact ⟨_, _, retOut X hx hret rfl (Or.inl ⟨rfl, Or.inl rfl, z, rfl⟩) hd hr, hrun, hended, _, _, rfl, hq, ⟨_, rfl⟩, hW, hsame.mono h1 h2⟩
theorem own_retJ (X : Stand p l e R s m args below meth c T locs cells slots) (hx : p.tables.exec = Jvm.exec) (hlk : meth.locks = false) (hret : meth.sig.returnType = some .long) {z : Int64} (hd : decode c.code pc = .ok (.lreturn, 1)) (h1 : cells ≤ cs) (h2 : slots ≤ ss) (hq : Q (some (.long z)) T.heap locs) : Goes p e below s cs ss Q T (mkF m pc Ls (.long z :: st)) := by
  obtain ⟨fs, hr, hrun, hended, hW, hsame⟩ := X.leave (v := some (.long z)) (fun h => by rw [hret] at h; cases h) hlk
  exact ⟨_, _, retOut X hx hret rfl (Or.inr (Or.inl ⟨rfl, rfl, z, rfl⟩)) hd hr, hrun, hended, _, _, rfl, hq, ⟨_, rfl⟩, hW, hsame.mono h1 h2⟩
theorem own_retA (X : Stand p l e R s m args below meth c T locs cells slots) (hx : p.tables.exec = Jvm.exec) (hlk : meth.locks = false) {t : FieldType} (hret : meth.sig.returnType = some t) {w : Value} (ht : t.isReference = true) (hw : w.isRef = true) (hn : narrow t w = w) (hd : decode c.code pc = .ok (.areturn, 1)) (h1 : cells ≤ cs) (h2 : slots ≤ ss) (hq : Q (some w) T.heap locs) : Goes p e below s cs ss Q T (mkF m pc Ls (w :: st)) := by
  obtain ⟨fs, hr, hrun, hended, hW, hsame⟩ := X.leave (v := some w) (fun h => by rw [hret] at h; cases h) hlk
  exact ⟨_, _, retOut X hx hret hn (Or.inr (Or.inr (Or.inr (Or.inr ⟨rfl, ht, hw⟩)))) hd hr, hrun, hended, _, _, rfl, hq, ⟨_, rfl⟩, hW, hsame.mono h1 h2⟩
theorem own_ret0 (X : Stand p l e R s m args below meth c T locs cells slots) (hx : p.tables.exec = Jvm.exec) (hlk : meth.locks = false) (hret : meth.sig.returnType = none) (hd : decode c.code pc = .ok (.return_, 1)) (h1 : cells ≤ cs) (h2 : slots ≤ ss) (hq : Q none T.heap locs) : Goes p e below s cs ss Q T (mkF m pc Ls []) := by
  obtain ⟨fs, hr, hrun, hended, hW, hsame⟩ := X.leave (v := none) (fun _ => rfl) hlk
  exact ⟨_, _, X.returnOut hx hret hd hr, hrun, hended, _, _, rfl, hq, ⟨_, rfl⟩, hW, hsame.mono h1 h2⟩
theorem own_iload (X : Stand p l e R s m args below meth c T locs cells slots) (hx : p.tables.exec = Jvm.exec) {i : Nat} {v : Int32} (hd : decode c.code pc = .ok (.iload i, 2)) (hl : Ls[i]? = some (.val (.int v))) (hp : pc + 2 = pc') (k : Goes p e below s cs ss Q T (mkF m pc' Ls (.int v :: st))) : Goes p e below s cs ss Q T (mkF m pc Ls st) := by
  subst hp
  exact Goes.pre (fun _ k => XS.iload X.here hx rfl hd hl k) k
theorem own_iloadN (X : Stand p l e R s m args below meth c T locs cells slots) (hx : p.tables.exec = Jvm.exec) {i : Fin 4} {v : Int32} (hd : decode c.code pc = .ok (.iload_n i, 1)) (hl : Ls[i.val]? = some (.val (.int v))) (hp : pc + 1 = pc') (k : Goes p e below s cs ss Q T (mkF m pc' Ls (.int v :: st))) : Goes p e below s cs ss Q T (mkF m pc Ls st) := by
  subst hp
  exact Goes.pre (fun _ k => XS.iloadN X.here hx rfl hd hl k) k
theorem own_lload (X : Stand p l e R s m args below meth c T locs cells slots) (hx : p.tables.exec = Jvm.exec) {i : Nat} {v : Int64} (hd : decode c.code pc = .ok (.lload i, 2)) (hl : Ls[i]? = some (.val (.long v))) (hp : pc + 2 = pc') (k : Goes p e below s cs ss Q T (mkF m pc' Ls (.long v :: st))) : Goes p e below s cs ss Q T (mkF m pc Ls st) := by
  subst hp
  exact Goes.pre (fun _ k => XS.lload X.here hx rfl hd hl k) k
theorem own_lloadN (X : Stand p l e R s m args below meth c T locs cells slots) (hx : p.tables.exec = Jvm.exec) {i : Fin 4} {v : Int64} (hd : decode c.code pc = .ok (.lload_n i, 1)) (hl : Ls[i.val]? = some (.val (.long v))) (hp : pc + 1 = pc') (k : Goes p e below s cs ss Q T (mkF m pc' Ls (.long v :: st))) : Goes p e below s cs ss Q T (mkF m pc Ls st) := by
  subst hp
  exact Goes.pre (fun _ k => XS.lloadN X.here hx rfl hd hl k) k
theorem own_aload (X : Stand p l e R s m args below meth c T locs cells slots) (hx : p.tables.exec = Jvm.exec) {i : Nat} {v : Value} (hd : decode c.code pc = .ok (.aload i, 2)) (hl : Ls[i]? = some (.val v)) (hv : v.isRef = true) (hp : pc + 2 = pc') (k : Goes p e below s cs ss Q T (mkF m pc' Ls (v :: st))) : Goes p e below s cs ss Q T (mkF m pc Ls st) := by
  subst hp
  exact Goes.pre (fun _ k => XS.aload X.here hx rfl hd hl hv k) k
theorem own_aloadN (X : Stand p l e R s m args below meth c T locs cells slots) (hx : p.tables.exec = Jvm.exec) {i : Fin 4} {v : Value} (hd : decode c.code pc = .ok (.aload_n i, 1)) (hl : Ls[i.val]? = some (.val v)) (hv : v.isRef = true) (hp : pc + 1 = pc') (k : Goes p e below s cs ss Q T (mkF m pc' Ls (v :: st))) : Goes p e below s cs ss Q T (mkF m pc Ls st) := by
  subst hp
  exact Goes.pre (fun _ k => XS.aloadN X.here hx rfl hd hl hv k) k
theorem own_istore (X : Stand p l e R s m args below meth c T locs cells slots) (hx : p.tables.exec = Jvm.exec) {i : Nat} {x : Int32} (hd : decode c.code pc = .ok (.istore i, 2)) (hl : storeLocals Ls i (.int x) = some Ls') (hp : pc + 2 = pc') (k : Goes p e below s cs ss Q T (mkF m pc' Ls' st)) : Goes p e below s cs ss Q T (mkF m pc Ls (.int x :: st)) := by
  subst hp
  exact Goes.pre (fun _ k => XS.istore X.here hx rfl hd rfl hl k) k
theorem own_istoreN (X : Stand p l e R s m args below meth c T locs cells slots) (hx : p.tables.exec = Jvm.exec) {i : Fin 4} {x : Int32} (hd : decode c.code pc = .ok (.istore_n i, 1)) (hl : storeLocals Ls i.val (.int x) = some Ls') (hp : pc + 1 = pc') (k : Goes p e below s cs ss Q T (mkF m pc' Ls' st)) : Goes p e below s cs ss Q T (mkF m pc Ls (.int x :: st)) := by
  subst hp
  exact Goes.pre (fun _ k => XS.istoreN X.here hx rfl hd rfl hl k) k
theorem own_lstore (X : Stand p l e R s m args below meth c T locs cells slots) (hx : p.tables.exec = Jvm.exec) {i : Nat} {x : Int64} (hd : decode c.code pc = .ok (.lstore i, 2)) (hl : storeLocals Ls i (.long x) = some Ls') (hp : pc + 2 = pc') (k : Goes p e below s cs ss Q T (mkF m pc' Ls' st)) : Goes p e below s cs ss Q T (mkF m pc Ls (.long x :: st)) := by
  subst hp
  exact Goes.pre (fun _ k => XS.lstore X.here hx rfl hd rfl hl k) k
theorem own_lstoreN (X : Stand p l e R s m args below meth c T locs cells slots) (hx : p.tables.exec = Jvm.exec) {i : Fin 4} {x : Int64} (hd : decode c.code pc = .ok (.lstore_n i, 1)) (hl : storeLocals Ls i.val (.long x) = some Ls') (hp : pc + 1 = pc') (k : Goes p e below s cs ss Q T (mkF m pc' Ls' st)) : Goes p e below s cs ss Q T (mkF m pc Ls (.long x :: st)) := by
  subst hp
  exact Goes.pre (fun _ k => XS.lstoreN X.here hx rfl hd rfl hl k) k
theorem own_astore (X : Stand p l e R s m args below meth c T locs cells slots) (hx : p.tables.exec = Jvm.exec) {i : Nat} {x : Value} (hd : decode c.code pc = .ok (.astore i, 2)) (hv : x.isRef = true) (hl : storeLocals Ls i x = some Ls') (hp : pc + 2 = pc') (k : Goes p e below s cs ss Q T (mkF m pc' Ls' st)) : Goes p e below s cs ss Q T (mkF m pc Ls (x :: st)) := by
  subst hp
  exact Goes.pre (fun _ k => XS.astore X.here hx rfl hd rfl hv hl k) k
theorem own_astoreN (X : Stand p l e R s m args below meth c T locs cells slots) (hx : p.tables.exec = Jvm.exec) {i : Fin 4} {x : Value} (hd : decode c.code pc = .ok (.astore_n i, 1)) (hv : x.isRef = true) (hl : storeLocals Ls i.val x = some Ls') (hp : pc + 1 = pc') (k : Goes p e below s cs ss Q T (mkF m pc' Ls' st)) : Goes p e below s cs ss Q T (mkF m pc Ls (x :: st)) := by
  subst hp
  exact Goes.pre (fun _ k => XS.astoreN X.here hx rfl hd rfl hv hl k) k
theorem own_iinc (X : Stand p l e R s m args below meth c T locs cells slots) (hx : p.tables.exec = Jvm.exec) {i : Nat} {q : Int} {x y : Int32} (hd : decode c.code pc = .ok (.iinc i q, 3)) (hl : Ls[i]? = some (.val (.int x))) (hy : x + Int32.ofInt q = y) (hl' : storeLocals Ls i (.int y) = some Ls') (hp : pc + 3 = pc') (k : Goes p e below s cs ss Q T (mkF m pc' Ls' st)) : Goes p e below s cs ss Q T (mkF m pc Ls st) := by
  subst hp
  exact Goes.pre (fun _ k => XS.iinc X.here hx rfl hd hl (hy.symm ▸ hl') k) k
theorem own_iconst (X : Stand p l e R s m args below meth c T locs cells slots) (hx : p.tables.exec = Jvm.exec) {i : Int} {v : Int32} (hd : decode c.code pc = .ok (.iconst i, 1)) (hv : Int32.ofInt i = v) (hp : pc + 1 = pc') (k : Goes p e below s cs ss Q T (mkF m pc' Ls (.int v :: st))) : Goes p e below s cs ss Q T (mkF m pc Ls st) := by
  subst hp hv
  exact Goes.pre (fun _ k => XS.iconst X.here hx rfl hd k) k
theorem own_bipush (X : Stand p l e R s m args below meth c T locs cells slots) (hx : p.tables.exec = Jvm.exec) {i : Int} {v : Int32} (hd : decode c.code pc = .ok (.bipush i, 2)) (hv : (Int8.ofInt i).toInt32 = v) (hp : pc + 2 = pc') (k : Goes p e below s cs ss Q T (mkF m pc' Ls (.int v :: st))) : Goes p e below s cs ss Q T (mkF m pc Ls st) := by
  subst hp hv
  exact Goes.pre (fun _ k => XS.bipush X.here hx rfl hd k) k
theorem own_lconst (X : Stand p l e R s m args below meth c T locs cells slots) (hx : p.tables.exec = Jvm.exec) {i : Fin 2} {v : Int64} (hd : decode c.code pc = .ok (.lconst i, 1)) (hv : Int64.ofNat i = v) (hp : pc + 1 = pc') (k : Goes p e below s cs ss Q T (mkF m pc' Ls (.long v :: st))) : Goes p e below s cs ss Q T (mkF m pc Ls st) := by
  subst hp hv
  exact Goes.pre (fun _ k => XS.lconst X.here hx rfl hd k) k
theorem own_aconstNull (X : Stand p l e R s m args below meth c T locs cells slots) (hx : p.tables.exec = Jvm.exec)  (hd : decode c.code pc = .ok (.aconst_null, 1))  (hp : pc + 1 = pc') (k : Goes p e below s cs ss Q T (mkF m pc' Ls (.null :: st))) : Goes p e below s cs ss Q T (mkF m pc Ls st) := by
  subst hp
  exact Goes.pre (fun _ k => XS.aconstNull X.here hx rfl hd k) k
theorem own_iadd (X : Stand p l e R s m args below meth c T locs cells slots) (hx : p.tables.exec = Jvm.exec) {x y : Int32} (hd : decode c.code pc = .ok (.iadd, 1))  (hp : pc + 1 = pc') (k : Goes p e below s cs ss Q T (mkF m pc' Ls (.int (x + y) :: st))) : Goes p e below s cs ss Q T (mkF m pc Ls (.int y :: .int x :: st)) := by
  subst hp
  exact Goes.pre (fun _ k => XS.iadd X.here hx rfl hd rfl k) k
theorem own_isub (X : Stand p l e R s m args below meth c T locs cells slots) (hx : p.tables.exec = Jvm.exec) {x y : Int32} (hd : decode c.code pc = .ok (.isub, 1))  (hp : pc + 1 = pc') (k : Goes p e below s cs ss Q T (mkF m pc' Ls (.int (x - y) :: st))) : Goes p e below s cs ss Q T (mkF m pc Ls (.int y :: .int x :: st)) := by
  subst hp
  exact Goes.pre (fun _ k => XS.isub X.here hx rfl hd rfl k) k
theorem own_imul (X : Stand p l e R s m args below meth c T locs cells slots) (hx : p.tables.exec = Jvm.exec) {x y : Int32} (hd : decode c.code pc = .ok (.imul, 1))  (hp : pc + 1 = pc') (k : Goes p e below s cs ss Q T (mkF m pc' Ls (.int (x * y) :: st))) : Goes p e below s cs ss Q T (mkF m pc Ls (.int y :: .int x :: st)) := by
  subst hp
  exact Goes.pre (fun _ k => XS.imul X.here hx rfl hd rfl k) k
theorem own_iand (X : Stand p l e R s m args below meth c T locs cells slots) (hx : p.tables.exec = Jvm.exec) {x y : Int32} (hd : decode c.code pc = .ok (.iand, 1))  (hp : pc + 1 = pc') (k : Goes p e below s cs ss Q T (mkF m pc' Ls (.int (x &&& y) :: st))) : Goes p e below s cs ss Q T (mkF m pc Ls (.int y :: .int x :: st)) := by
  subst hp
  exact Goes.pre (fun _ k => XS.iand X.here hx rfl hd rfl k) k
theorem own_iushr (X : Stand p l e R s m args below meth c T locs cells slots) (hx : p.tables.exec = Jvm.exec) {x y : Int32} (hd : decode c.code pc = .ok (.iushr, 1))  (hp : pc + 1 = pc') (k : Goes p e below s cs ss Q T (mkF m pc' Ls (.int ((x.toUInt32 >>> (y &&& 31).toUInt32).toInt32) :: st))) : Goes p e below s cs ss Q T (mkF m pc Ls (.int y :: .int x :: st)) := by
  subst hp
  exact Goes.pre (fun _ k => XS.iushr X.here hx rfl hd rfl k) k
theorem own_irem (X : Stand p l e R s m args below meth c T locs cells slots) (hx : p.tables.exec = Jvm.exec) {x y : Int32} (hd : decode c.code pc = .ok (.irem, 1)) (hy : y ≠ 0) (hp : pc + 1 = pc') (k : Goes p e below s cs ss Q T (mkF m pc' Ls (.int (x % y) :: st))) : Goes p e below s cs ss Q T (mkF m pc Ls (.int y :: .int x :: st)) := by
  subst hp
  exact Goes.pre (fun _ k => iremM X hx rfl hd rfl hy k) k
theorem own_ladd (X : Stand p l e R s m args below meth c T locs cells slots) (hx : p.tables.exec = Jvm.exec) {x y : Int64} (hd : decode c.code pc = .ok (.ladd, 1))  (hp : pc + 1 = pc') (k : Goes p e below s cs ss Q T (mkF m pc' Ls (.long (x + y) :: st))) : Goes p e below s cs ss Q T (mkF m pc Ls (.long y :: .long x :: st)) := by
  subst hp
  exact Goes.pre (fun _ k => XS.ladd X.here hx rfl hd rfl k) k
theorem own_lsub (X : Stand p l e R s m args below meth c T locs cells slots) (hx : p.tables.exec = Jvm.exec) {x y : Int64} (hd : decode c.code pc = .ok (.lsub, 1))  (hp : pc + 1 = pc') (k : Goes p e below s cs ss Q T (mkF m pc' Ls (.long (x - y) :: st))) : Goes p e below s cs ss Q T (mkF m pc Ls (.long y :: .long x :: st)) := by
  subst hp
  exact Goes.pre (fun _ k => XS.lsub X.here hx rfl hd rfl k) k
theorem own_land (X : Stand p l e R s m args below meth c T locs cells slots) (hx : p.tables.exec = Jvm.exec) {x y : Int64} (hd : decode c.code pc = .ok (.land, 1))  (hp : pc + 1 = pc') (k : Goes p e below s cs ss Q T (mkF m pc' Ls (.long (x &&& y) :: st))) : Goes p e below s cs ss Q T (mkF m pc Ls (.long y :: .long x :: st)) := by
  subst hp
  exact Goes.pre (fun _ k => XS.land X.here hx rfl hd rfl k) k
theorem own_lxor (X : Stand p l e R s m args below meth c T locs cells slots) (hx : p.tables.exec = Jvm.exec) {x y : Int64} (hd : decode c.code pc = .ok (.lxor, 1))  (hp : pc + 1 = pc') (k : Goes p e below s cs ss Q T (mkF m pc' Ls (.long (x ^^^ y) :: st))) : Goes p e below s cs ss Q T (mkF m pc Ls (.long y :: .long x :: st)) := by
  subst hp
  exact Goes.pre (fun _ k => XS.lxor X.here hx rfl hd rfl k) k
theorem own_lcmp (X : Stand p l e R s m args below meth c T locs cells slots) (hx : p.tables.exec = Jvm.exec) {x y : Int64} (hd : decode c.code pc = .ok (.lcmp, 1))  (hp : pc + 1 = pc') (k : Goes p e below s cs ss Q T (mkF m pc' Ls (.int (lcmpW x y) :: st))) : Goes p e below s cs ss Q T (mkF m pc Ls (.long y :: .long x :: st)) := by
  subst hp
  exact Goes.pre (fun _ k => XS.lcmp X.here hx rfl hd rfl k) k
theorem own_i2c (X : Stand p l e R s m args below meth c T locs cells slots) (hx : p.tables.exec = Jvm.exec) {x : Int32} (hd : decode c.code pc = .ok (.i2c, 1))  (hp : pc + 1 = pc') (k : Goes p e below s cs ss Q T (mkF m pc' Ls (.int (x.toUInt32.toUInt16.toUInt32.toInt32) :: st))) : Goes p e below s cs ss Q T (mkF m pc Ls (.int x :: st)) := by
  subst hp
  exact Goes.pre (fun _ k => XS.i2c X.here hx rfl hd rfl k) k
theorem own_dup (X : Stand p l e R s m args below meth c T locs cells slots) (hx : p.tables.exec = Jvm.exec) {x : Value} (hd : decode c.code pc = .ok (.dup, 1)) (hc : x.category = 1) (hp : pc + 1 = pc') (k : Goes p e below s cs ss Q T (mkF m pc' Ls (x :: x :: st))) : Goes p e below s cs ss Q T (mkF m pc Ls (x :: st)) := by
  subst hp
  exact Goes.pre (fun _ k => XS.dup X.here hx rfl hd rfl hc k) k
theorem own_pop (X : Stand p l e R s m args below meth c T locs cells slots) (hx : p.tables.exec = Jvm.exec) {x : Value} (hd : decode c.code pc = .ok (.pop, 1)) (hc : x.category = 1) (hp : pc + 1 = pc') (k : Goes p e below s cs ss Q T (mkF m pc' Ls st)) : Goes p e below s cs ss Q T (mkF m pc Ls (x :: st)) := by
  subst hp
  exact Goes.pre (fun _ k => XS.pop X.here hx rfl hd rfl hc k) k
theorem own_goto (X : Stand p l e R s m args below meth c T locs cells slots) (hx : p.tables.exec = Jvm.exec) {o : Int}  (hd : decode c.code pc = .ok (.goto o, 3))  (ho : 0 ≤ (pc : Int) + o) (hp : ((pc : Int) + o).toNat = pc') (k : Goes p e below s cs ss Q T (mkF m pc' Ls st)) : Goes p e below s cs ss Q T (mkF m pc Ls st) := by
  exact Goes.pre (fun _ k => XS.goto X.here hx rfl rfl hd ho hp k) k
theorem own_ifY (X : Stand p l e R s m args below meth c T locs cells slots) (hx : p.tables.exec = Jvm.exec) {o : Int} {cd : ClassFile.Cond} {x : Int32} (hd : decode c.code pc = .ok (.ifCond cd o, 3)) (hc : ifCond.holds cd x = true) (ho : 0 ≤ (pc : Int) + o) (hp : ((pc : Int) + o).toNat = pc') (k : Goes p e below s cs ss Q T (mkF m pc' Ls st)) : Goes p e below s cs ss Q T (mkF m pc Ls (.int x :: st)) := by
  exact Goes.pre (fun _ k => XS.ifYes X.here hx rfl rfl hd rfl hc ho hp k) k
theorem own_icmpY (X : Stand p l e R s m args below meth c T locs cells slots) (hx : p.tables.exec = Jvm.exec) {o : Int} {cd : ClassFile.Cond} {x y : Int32} (hd : decode c.code pc = .ok (.if_icmp cd o, 3)) (hc : if_icmp.holds cd x y = true) (ho : 0 ≤ (pc : Int) + o) (hp : ((pc : Int) + o).toNat = pc') (k : Goes p e below s cs ss Q T (mkF m pc' Ls st)) : Goes p e below s cs ss Q T (mkF m pc Ls (.int y :: .int x :: st)) := by
  exact Goes.pre (fun _ k => XS.icmpYes X.here hx rfl rfl hd rfl hc ho hp k) k
theorem own_ifN (X : Stand p l e R s m args below meth c T locs cells slots) (hx : p.tables.exec = Jvm.exec) {o : Int} {cd : ClassFile.Cond} {x : Int32} (hd : decode c.code pc = .ok (.ifCond cd o, 3)) (hc : ifCond.holds cd x = false) (hp : pc + 3 = pc') (k : Goes p e below s cs ss Q T (mkF m pc' Ls st)) : Goes p e below s cs ss Q T (mkF m pc Ls (.int x :: st)) := by
  subst hp
  exact Goes.pre (fun _ k => XS.ifNo X.here hx rfl hd rfl hc k) k
theorem own_icmpN (X : Stand p l e R s m args below meth c T locs cells slots) (hx : p.tables.exec = Jvm.exec) {o : Int} {cd : ClassFile.Cond} {x y : Int32} (hd : decode c.code pc = .ok (.if_icmp cd o, 3)) (hc : if_icmp.holds cd x y = false) (hp : pc + 3 = pc') (k : Goes p e below s cs ss Q T (mkF m pc' Ls st)) : Goes p e below s cs ss Q T (mkF m pc Ls (.int y :: .int x :: st)) := by
  subst hp
  exact Goes.pre (fun _ k => XS.icmpNo X.here hx rfl hd rfl hc k) k
theorem own_ifnullY (X : Stand p l e R s m args below meth c T locs cells slots) (hx : p.tables.exec = Jvm.exec) {o : Int}  (hd : decode c.code pc = .ok (.ifnull o, 3))  (ho : 0 ≤ (pc : Int) + o) (hp : ((pc : Int) + o).toNat = pc') (k : Goes p e below s cs ss Q T (mkF m pc' Ls st)) : Goes p e below s cs ss Q T (mkF m pc Ls (.null :: st)) := by
  exact Goes.pre (fun _ k => XS.ifnullYes X.here hx rfl rfl hd rfl ho hp k) k
theorem own_ifnullN (X : Stand p l e R s m args below meth c T locs cells slots) (hx : p.tables.exec = Jvm.exec) {o : Int} {b : Addr} (hd : decode c.code pc = .ok (.ifnull o, 3))  (hp : pc + 3 = pc') (k : Goes p e below s cs ss Q T (mkF m pc' Ls st)) : Goes p e below s cs ss Q T (mkF m pc Ls (.ref b :: st)) := by
  subst hp
  exact Goes.pre (fun _ k => XS.ifnullNo X.here hx rfl hd rfl k) k
theorem own_ifnonnullY (X : Stand p l e R s m args below meth c T locs cells slots) (hx : p.tables.exec = Jvm.exec) {o : Int} {b : Addr} (hd : decode c.code pc = .ok (.ifnonnull o, 3))  (ho : 0 ≤ (pc : Int) + o) (hp : ((pc : Int) + o).toNat = pc') (k : Goes p e below s cs ss Q T (mkF m pc' Ls st)) : Goes p e below s cs ss Q T (mkF m pc Ls (.ref b :: st)) := by
  exact Goes.pre (fun _ k => XS.ifnonnullYes X.here hx rfl rfl hd rfl ho hp k) k
theorem own_ifnonnullN (X : Stand p l e R s m args below meth c T locs cells slots) (hx : p.tables.exec = Jvm.exec) {o : Int} (hd : decode c.code pc = .ok (.ifnonnull o, 3))  (hp : pc + 3 = pc') (k : Goes p e below s cs ss Q T (mkF m pc' Ls st)) : Goes p e below s cs ss Q T (mkF m pc Ls (.null :: st)) := by
  subst hp
  exact Goes.pre (fun _ k => XS.ifnonnullNo X.here hx rfl hd rfl k) k
theorem own_ldc2 (X : Stand p l e R s m args below meth c T locs cells slots) (hx : p.tables.exec = Jvm.exec) {own : String} {i : Nat} {v : Int64} (hown : s.vm.findClass own = some m.cls) (w : (Cond.constantLong own i v).before args s = true) (hd : decode c.code pc = .ok (.ldc2_w i, 3)) (hp : pc + 3 = pc') (k : Goes p e below s cs ss Q T (mkF m pc' Ls (.long v :: st))) : Goes p e below s cs ss Q T (mkF m pc Ls st) := by
  subst hp
  exact Goes.pre (fun t k => X.ldc2Long hx hown w (g := mkF m pc Ls st) rfl hd t k) k
theorem own_ldcI (X : Stand p l e R s m args below meth c T locs cells slots) (hx : p.tables.exec = Jvm.exec) {own : String} {i : Nat} {v : Int32} (hown : s.vm.findClass own = some m.cls) (w : (Cond.constant own i v).before args s = true) (hd : decode c.code pc = .ok (.ldc i, 2)) (hp : pc + 2 = pc') (k : Goes p e below s cs ss Q T (mkF m pc' Ls (.int v :: st))) : Goes p e below s cs ss Q T (mkF m pc Ls st) := by
  subst hp
  exact Goes.pre (fun t k => X.ldcInt hx hown w (g := mkF m pc Ls st) rfl hd t k) k
theorem own_sipush (X : Stand p l e R s m args below meth c T locs cells slots) (hx : p.tables.exec = Jvm.exec) {i : Int} {v : Int32} (hd : decode c.code pc = .ok (.sipush i, 3)) (hv : (Int16.ofInt i).toInt32 = v) (hp : pc + 3 = pc') (k : Goes p e below s cs ss Q T (mkF m pc' Ls (.int v :: st))) : Goes p e below s cs ss Q T (mkF m pc Ls st) := by
  subst hp hv
  exact Goes.pre (fun _ k => XS.sipush X.here hx rfl hd k) k
theorem own_istoreS (X : Stand p l e R s m args below meth c T locs cells slots) (hx : p.tables.exec = Jvm.exec) {i : Nat} {x : Int32} {o : Slot} (hd : decode c.code pc = .ok (.istore i, 2)) (hold : Ls[i]? = some o) (ho : One o) (hl : Ls.setIfInBounds i (.val (.int x)) = Ls') (hp : pc + 2 = pc') (k : Goes p e below s cs ss Q T (mkF m pc' Ls' st)) : Goes p e below s cs ss Q T (mkF m pc Ls (.int x :: st)) := by
  subst hp
  exact Goes.pre (fun _ k => XS.istoreS X.here hx rfl hd rfl hold ho (hl.symm ▸ k)) k
theorem own_i2b (X : Stand p l e R s m args below meth c T locs cells slots) (hx : p.tables.exec = Jvm.exec) {x : Int32} (hd : decode c.code pc = .ok (.i2b, 1))  (hp : pc + 1 = pc') (k : Goes p e below s cs ss Q T (mkF m pc' Ls (.int x.toInt8.toInt32 :: st))) : Goes p e below s cs ss Q T (mkF m pc Ls (.int x :: st)) := by
  subst hp
  exact Goes.pre (fun _ k => XS.i2b X.here hx rfl hd rfl k) k
theorem own_dupX1 (X : Stand p l e R s m args below meth c T locs cells slots) (hx : p.tables.exec = Jvm.exec) {x y : Value} (hd : decode c.code pc = .ok (.dup_x1, 1)) (hc : x.category = 1) (hc' : y.category = 1) (hp : pc + 1 = pc') (k : Goes p e below s cs ss Q T (mkF m pc' Ls (x :: y :: x :: st))) : Goes p e below s cs ss Q T (mkF m pc Ls (x :: y :: st)) := by
  subst hp
  exact Goes.pre (fun _ k => XS.dupX1 X.here hx rfl hd rfl hc hc' k) k
end Own
theorem own_Tlt {a b : Int64} (h : a < b) : ifCond.holds .lt (lcmpW a b) = true ∧ ifCond.holds .ge (lcmpW a b) = false := ⟨(if0 _ _).trans (tlt ((lw_lt a b).mpr h)).1, (if0 _ _).trans (tlt ((lw_lt a b).mpr h)).2.1⟩
theorem own_Flt {a b : Int64} (h : ¬ a < b) : ifCond.holds .lt (lcmpW a b) = false ∧ ifCond.holds .ge (lcmpW a b) = true := ⟨(if0 _ _).trans (flt fun q => h ((lw_lt a b).mp q)).1, (if0 _ _).trans (flt fun q => h ((lw_lt a b).mp q)).2.1⟩
theorem own_Tgt {a b : Int64} (h : b < a) : ifCond.holds .gt (lcmpW a b) = true ∧ ifCond.holds .le (lcmpW a b) = false := ⟨(if0 _ _).trans (tlt ((lw_gt a b).mpr h)).2.2.1, (if0 _ _).trans (tlt ((lw_gt a b).mpr h)).2.2.2⟩
theorem own_Fgt {a b : Int64} (h : ¬ b < a) : ifCond.holds .gt (lcmpW a b) = false ∧ ifCond.holds .le (lcmpW a b) = true := ⟨(if0 _ _).trans (flt fun q => h ((lw_gt a b).mp q)).2.2.1, (if0 _ _).trans (flt fun q => h ((lw_gt a b).mp q)).2.2.2⟩
theorem own_Teq {a b : Int64} (h : a = b) : ifCond.holds .eq (lcmpW a b) = true ∧ ifCond.holds .ne (lcmpW a b) = false := ⟨(if0 _ _).trans (teq ((lw_eq a b).mpr h)).1, (if0 _ _).trans (teq ((lw_eq a b).mpr h)).2⟩
theorem own_Feq {a b : Int64} (h : ¬ a = b) : ifCond.holds .eq (lcmpW a b) = false ∧ ifCond.holds .ne (lcmpW a b) = true := ⟨(if0 _ _).trans (feq fun q => h ((lw_eq a b).mp q)).1, (if0 _ _).trans (feq fun q => h ((lw_eq a b).mp q)).2⟩
/-- an array of ints (chars), its values as a list -/
def own_PA (Z : State) (h : Heap) (a : Addr) (ty : FieldType) (vs : List Int32) : Prop := ∃ c : Cell, Arr Z h a c ty ∧ c.slots = (vs.map Value.int).toArray
section OwnArr
variable {p : Program} {l : Launch} {e : Env} {R : Room} {s : State} {m : MethodId} {args : Array Value} {below : List Frame} {meth : Method} {c : Code} {T T' : State} {locs : List Loc} {cells slots : Nat} {cs ss : Nat} {Q : Option Value → Heap → List Loc → Prop} {pc pc' : Nat} {Ls Ls' : Array Slot} {st : List Value} {Z : State} {a0 : Array Value} {h h' : Heap} {a b : Addr} {ty : FieldType} {vs : List Int32}
theorem own_PA.lt (F : own_PA Z h a ty vs) : a < Array.size h := by obtain ⟨c, A, -⟩ := F; exact A.lt
theorem own_PA.ext (F : own_PA Z h a ty vs) (E : Ext h h') : own_PA Z h' a ty vs := by obtain ⟨c, A, q⟩ := F; exact ⟨c, A.ext E, q⟩
theorem own_PA.keep {us : List Addr} (F : own_PA Z h a ty vs) (K : Keep h h' us) (q : a ∉ us) : own_PA Z h' a ty vs := by obtain ⟨c, A, r⟩ := F; exact ⟨c, ⟨K.2.1 a c A.1 q, A.2⟩, r⟩
theorem own_PA.other {sl : Nat} {v : Value} (F : own_PA Z h b ty vs) (W : Wr h h' a sl v) (q : b ≠ a) : own_PA Z h' b ty vs := by obtain ⟨c, A, r⟩ := F; exact ⟨c, A.other W q, r⟩
theorem own_PA.set {k : Nat} {v : Int32} (F : own_PA Z h a ty vs) (W : Wr h h' a k (.int v)) : own_PA Z h' a ty (vs.set k v) := by
  obtain ⟨c, A, r⟩ := F
  refine ⟨_, A.same W, ?_⟩
  simp [Cell.setSlot, r, List.map_set]
theorem own_PA.new {k : ClassId} {n : Int32} {i : Nat} (A : Arr Z h a (newA k ty n) ty) (hd : defaultValue ty = .int 0) (hn : n.toNatClampNeg = i) : own_PA Z h a ty (List.replicate i 0) := by
  subst hn
  exact ⟨_, A, by simp [newA, hd]⟩
theorem own_in {c : Cell} {j : Int32} {k : Nat} {v : Int32} (r : c.slots = (vs.map Value.int).toArray) (hj : ¬ j < 0) (hk : j.toNatClampNeg = k) (hl : k < vs.length) : ¬ (j < 0 ∨ c.slots.size ≤ j.toNatClampNeg) := by
  rw [r, hk]
  simp only [List.size_toArray, List.length_map]
  exact fun q => q.elim hj (fun q => absurd hl (Nat.not_lt.mpr q))
theorem own_at {c : Cell} {j : Int32} {k : Nat} {v : Int32} (r : c.slots = (vs.map Value.int).toArray) (hk : j.toNatClampNeg = k) (hv : vs[k]? = some v) : c.slots[j.toNatClampNeg]? = some (.int v) := by
  rw [r, hk]
  simp [hv]
theorem own_iaload (X : Stand p l e R s m args below meth c T locs cells slots) (hx : p.tables.exec = Jvm.exec) (hZ : Z.Warmed39 s.vm) (eT : T.heap = h) (F : own_PA Z h a .int vs) (hd : decode c.code pc = .ok (.iaload, 1)) {j v : Int32} {k : Nat} (hj : ¬ j < 0) (hk : j.toNatClampNeg = k) (hv : vs[k]? = some v) (hp : pc + 1 = pc')
    (q : Goes p e below s cs ss Q T (mkF m pc' Ls (.int v :: st))) : Goes p e below s cs ss Q T (mkF m pc Ls (.int j :: .ref a :: st)) := by
  subst hp
  obtain ⟨c', A, r⟩ := F
  exact Goes.pre (fun t q => X.iaload hx (j := j) (v := .int v) (by rw [eT]; exact A.1) (State.isArrayOf_alike hZ.alike A.2.1) A.2.2 (own_in (v := v) r hj hk (List.getElem?_eq_some_iff.mp hv).1) (own_at r hk hv) (g := mkF m pc Ls (.int j :: .ref a :: st)) rfl rfl hd t q) q
theorem own_caload (X : Stand p l e R s m args below meth c T locs cells slots) (hx : p.tables.exec = Jvm.exec) (hZ : Z.Warmed39 s.vm) (eT : T.heap = h) (F : own_PA Z h a .char vs) (hd : decode c.code pc = .ok (.caload, 1)) {j v : Int32} {k : Nat} (hj : ¬ j < 0) (hk : j.toNatClampNeg = k) (hv : vs[k]? = some v) (hp : pc + 1 = pc')
    (q : Goes p e below s cs ss Q T (mkF m pc' Ls (.int v :: st))) : Goes p e below s cs ss Q T (mkF m pc Ls (.int j :: .ref a :: st)) := by
  subst hp
  obtain ⟨c', A, r⟩ := F
  exact Goes.pre (fun t q => X.caload hx (j := j) (v := .int v) (by rw [eT]; exact A.1) (State.isArrayOf_alike hZ.alike A.2.1) A.2.2 (own_in (v := v) r hj hk (List.getElem?_eq_some_iff.mp hv).1) (own_at r hk hv) (g := mkF m pc Ls (.int j :: .ref a :: st)) rfl rfl hd t q) q
theorem own_arraylength (X : Stand p l e R s m args below meth c T locs cells slots) (hx : p.tables.exec = Jvm.exec) (hZ : Z.Warmed39 s.vm) (eT : T.heap = h) (F : own_PA Z h a ty vs) (hd : decode c.code pc = .ok (.arraylength, 1)) {n : Int32} (hn : vs.length.toInt32 = n) (hp : pc + 1 = pc')
    (q : Goes p e below s cs ss Q T (mkF m pc' Ls (.int n :: st))) : Goes p e below s cs ss Q T (mkF m pc Ls (.ref a :: st)) := by
  subst hp hn
  obtain ⟨c', A, r⟩ := F
  have z : c'.slots.size = vs.length := by rw [r]; simp
  exact Goes.pre (fun t q => X.arraylength hx (by rw [eT]; exact A.1) (State.isArrayOf_alike hZ.alike A.2.1) (g := mkF m pc Ls (.ref a :: st)) rfl rfl hd t (by rw [z]; exact q)) q
theorem own_iastore (X : Stand p l e R s m args below meth c T locs cells slots) (hx : p.tables.exec = Jvm.exec) (hZ : Z.Warmed39 s.vm) (eT : T.heap = h) (F : own_PA Z h a .int vs) (hd : decode c.code pc = .ok (.iastore, 1)) {j v : Int32} {k : Nat} (hj : ¬ j < 0) (hk : j.toNatClampNeg = k) (hl : k < vs.length) (hp : pc + 1 = pc')
    (q : ∀ T' h', Stand p l e R s m args below meth c T' (locs ++ [⟨a, k⟩]) cells slots → T'.heap = h' → Wr h h' a k (.int v) → own_PA Z h' a .int (vs.set k v) → Goes p e below s cs ss Q T' (mkF m pc' Ls st)) : Goes p e below s cs ss Q T (mkF m pc Ls (.int v :: .int j :: .ref a :: st)) := by
  subst hp
  have F0 := F
  obtain ⟨c', A, r⟩ := F
  obtain ⟨T', h', X', e', W, t⟩ := stI X hx hZ eT A (j := j) (x := v) (own_in (v := v) r hj hk hl) (g := mkF m pc Ls (.int v :: .int j :: .ref a :: st)) rfl rfl hd
  rw [hk] at X' W
  exact Goes.pre t (q T' h' X' e' W (F0.set W))
theorem own_castore (X : Stand p l e R s m args below meth c T locs cells slots) (hx : p.tables.exec = Jvm.exec) (hZ : Z.Warmed39 s.vm) (eT : T.heap = h) (F : own_PA Z h a .char vs) (hd : decode c.code pc = .ok (.castore, 1)) {j v w : Int32} {k : Nat} (hw : nar .char v = w) (hj : ¬ j < 0) (hk : j.toNatClampNeg = k) (hl : k < vs.length) (hp : pc + 1 = pc')
    (q : ∀ T' h', Stand p l e R s m args below meth c T' (locs ++ [⟨a, k⟩]) cells slots → T'.heap = h' → Wr h h' a k (.int w) → own_PA Z h' a .char (vs.set k w) → Goes p e below s cs ss Q T' (mkF m pc' Ls st)) : Goes p e below s cs ss Q T (mkF m pc Ls (.int v :: .int j :: .ref a :: st)) := by
  subst hp hw
  have F0 := F
  obtain ⟨c', A, r⟩ := F
  obtain ⟨T', h', X', e', W, t⟩ := stC X hx hZ eT A (j := j) (x := v) (own_in (v := v) r hj hk hl) (g := mkF m pc Ls (.int v :: .int j :: .ref a :: st)) rfl rfl hd
  rw [hk] at X' W
  exact Goes.pre t (q T' h' X' e' W (F0.set W))
theorem own_newarray (X : Stand p l e R s m args below meth c T locs cells slots) (hx : p.tables.exec = Jvm.exec) (hZ : Z.Warmed39 s.vm) {aty : ArrayType} (w : (Cond.arrayClass (newarray.typeOf aty)).before a0 Z = true) (eT : T.heap = h) (hd : decode c.code pc = .ok (.newarray aty, 2)) {n : Int32} {k cap : Nat} (hty : defaultValue (newarray.typeOf aty) = .int 0) (hn : ¬ n < 0) (hk : n.toNatClampNeg = k) (hcap : k ≤ cap) (hb : cap * 8 ≤ 536870912) (hc : cells + 1 ≤ R.cells) (hl : slots + cap ≤ R.slots) (hp : pc + 2 = pc')
    (q : ∀ T' h' a, a = Array.size h → Stand p l e R s m args below meth c T' locs (cells + 1) (slots + cap) → T'.heap = h' → Ext h h' → own_PA Z h' a (newarray.typeOf aty) (List.replicate k 0) → Goes p e below s cs ss Q T' (mkF m pc' Ls (.ref a :: st))) : Goes p e below s cs ss Q T (mkF m pc Ls (.int n :: st)) := by
  subst hp
  obtain ⟨T', h', cA, X', e', E, A, t⟩ := newP X hx hZ w eT (g := mkF m pc Ls (.int n :: st)) rfl hd rfl hn (cap := cap) (hk ▸ hcap) hb hc hl
  exact Goes.pre t (q T' h' _ rfl X' e' E (own_PA.new A hty hk))
end OwnArr
def own_min (a b : Int32) : Int32 := if b < a then b else a
def own_bef (x i y j : Int32) : Int32 := if x < y then 1 else if x = y then (if i < j then 1 else 0) else 0
def own_rk (r v i ve e n : Int32) : Int32 := if i < n then (if e = i then r else r + own_bef v i ve e) else r
def own_rank (va vb vc vd ve e n : Int32) : Int32 := own_rk (own_rk (own_rk (own_rk 0 va 0 ve e n) vb 1 ve e n) vc 2 ve e n) vd 3 ve e n
def own_fill (ks : List Int32) : Nat → List Int32
  | 0 => List.replicate ks.length 0
  | i + 1 => (own_fill ks i).set (ks.getD i 0).toNatClampNeg i.toInt32
def own_scan (es : List Int32) : Nat → Nat → Int32 → Int32
  | 0, _, r => r
  | f + 1, i, r => if i < es.length then (if r < 0 then own_scan es f (i + 1) (if es.getD i 0 < es.getD (i - 1) 0 then i.toInt32 else r) else r) else r
def own_first (ks : List Int32) : Int32 := own_scan (own_fill ks ks.length) 5 1 (-1)
theorem own_fill_len (ks : List Int32) : ∀ i, (own_fill ks i).length = ks.length
  | 0 => by simp [own_fill]
  | i + 1 => by simp [own_fill, own_fill_len ks i]
theorem own_ti {n : Nat} (h : n ≤ 8) : n.toInt32.toInt = n := len_toInt (by omega)
theorem own_nn {n : Nat} (h : n ≤ 4) : ¬ n.toInt32 < 0 := by
  have q := own_ti (n := n) (by omega)
  rw [Int32.lt_iff_toInt_lt, q]
  simp only [Int32.reduceToInt]
  omega
theorem own_nc {n : Nat} (h : n ≤ 4) : n.toInt32.toNatClampNeg = n := by
  have q := own_ti (n := n) (by omega)
  simp only [Int32.toNatClampNeg, q]
  omega
theorem own_m1 {i : Nat} (h1 : 1 ≤ i) (h5 : i ≤ 5) : (i.toInt32 - (1 : Int32)).toInt = i - 1 := by
  have q := own_ti (n := i) (by omega)
  have k := c_isub i.toInt32 1
  have r := rng32 (i.toInt32 - 1)
  have t : (1 : Int32).toInt = 1 := by decide
  rw [q, t] at k
  omega
theorem own_nn1 {i : Nat} (h1 : 1 ≤ i) (h5 : i ≤ 5) : ¬ (i.toInt32 - (1 : Int32)) < 0 := by
  have q := own_m1 h1 h5
  rw [Int32.lt_iff_toInt_lt, q]
  simp only [Int32.reduceToInt]
  omega
theorem own_nc1 {i : Nat} (h1 : 1 ≤ i) (h5 : i ≤ 5) : (i.toInt32 - (1 : Int32)).toNatClampNeg = i - 1 := by
  have q := own_m1 h1 h5
  simp only [Int32.toNatClampNeg, q]
  omega
theorem own_gd {vs : List Int32} {k : Nat} (h : k < vs.length) : vs[k]? = some (vs.getD k 0) := by simp [List.getD, h]
theorem own_mem {vs : List Int32} {k : Nat} (h : k < vs.length) : vs.getD k 0 ∈ vs := by
  have q := own_gd h
  exact List.mem_of_getElem? q
theorem own_i1 (i : Nat) : i.toInt32 + Int32.ofInt 1 = (i + 1).toInt32 := by
  show Int32.ofNat i + 1 = Int32.ofNat (i + 1)
  rw [Int32.ofNat_add]; rfl
theorem own_lt {i n : Nat} (hi : i ≤ 8) (hn : n ≤ 8) : i.toInt32 < n.toInt32 ↔ i < n := by
  rw [Int32.lt_iff_toInt_lt, own_ti hi, own_ti hn]
  omega
theorem own_n (q : Int32) (h : ¬ (q &&& (7 : Int32)) = (7 : Int32)) : own_min (q &&& (7 : Int32)) (4 : Int32) = (0 : Int32) ∨ own_min (q &&& (7 : Int32)) (4 : Int32) = (1 : Int32) ∨ own_min (q &&& (7 : Int32)) (4 : Int32) = (2 : Int32) ∨ own_min (q &&& (7 : Int32)) (4 : Int32) = (3 : Int32) ∨ own_min (q &&& (7 : Int32)) (4 : Int32) = (4 : Int32) := by
  have hm := c_mask q 7 3 (by decide) (by decide)
  generalize (q &&& (7 : Int32)) = k at *
  have e : k = (0 : Int32) ∨ k = (1 : Int32) ∨ k = (2 : Int32) ∨ k = (3 : Int32) ∨ k = (4 : Int32) ∨ k = (5 : Int32) ∨ k = (6 : Int32) ∨ k = (7 : Int32) := by
    simp only [← Int32.toInt_inj, Int32.reduceToInt]
    omega
  rcases e with rfl | rfl | rfl | rfl | rfl | rfl | rfl | rfl <;> first | exact absurd rfl h | decide
def own_I (b : Bool) : Int32 := if b = true then 1 else 0
theorem own_B1 (x i y j : Int32) (h : i < j) : own_bef x i y j = own_I (!decide (y < x)) := by
  unfold own_bef own_I
  rw [if_pos h]
  simp only [Bool.not_eq_true', decide_eq_false_iff_not, Int32.lt_iff_toInt_lt, ← Int32.toInt_inj]
  by_cases g1 : x.toInt < y.toInt
  · rw [if_pos g1, if_pos (by omega)]
  · rw [if_neg g1]
    by_cases g2 : x.toInt = y.toInt
    · rw [if_pos g2, if_pos (by omega)]
    · rw [if_neg g2, if_neg (by omega)]
theorem own_B2 (x i y j : Int32) (h : ¬ i < j) : own_bef x i y j = own_I (decide (x < y)) := by
  unfold own_bef own_I
  rw [if_neg h]
  by_cases g1 : x < y
  · simp [g1]
  · by_cases g2 : x = y <;> simp [g1, g2]
def own_t (p10 p20 p21 : Bool) : Bool := !(p10 && p21 && !p20) && !(!p10 && !p21 && p20)
theorem own_tri (a b c : Int32) : own_t (decide (b < a)) (decide (c < a)) (decide (c < b)) = true := by
  have e1 : decide (b < a) = decide (b.toInt < a.toInt) := by simp only [Int32.lt_iff_toInt_lt]
  have e2 : decide (c < a) = decide (c.toInt < a.toInt) := by simp only [Int32.lt_iff_toInt_lt]
  have e3 : decide (c < b) = decide (c.toInt < b.toInt) := by simp only [Int32.lt_iff_toInt_lt]
  rw [e1, e2, e3]
  by_cases h1 : b.toInt < a.toInt <;> by_cases h2 : c.toInt < a.toInt <;> by_cases h3 : c.toInt < b.toInt <;> simp [own_t, h1, h2, h3] <;> omega
def own_ks0 (a b c d : Int32) : List Int32 := (List.replicate 0 (0 : Int32))
def own_K0  : List Int32 := (List.replicate 0 (0 : Int32))
set_option maxRecDepth 65536 in
theorem own_D0 : (true) = true → ((own_K0 ).all (fun k => !decide (k < 0) && decide (k.toNatClampNeg < 0)) && (own_first (own_K0 ) == (-1 : Int32)) && (true)) = true := by decide +kernel
theorem own_T0 (a b c d : Int32) : (true) = true := by simp [own_tri]
theorem own_law0 (a b c d : Int32) : (own_ks0 a b c d).length ≤ 4 ∧ (∀ k ∈ own_ks0 a b c d, ¬ k < 0 ∧ k.toNatClampNeg < (own_ks0 a b c d).length) ∧ own_first (own_ks0 a b c d) = (-1 : Int32) := by
  have D := own_D0  (own_T0 a b c d)
  have l : (own_ks0 a b c d).length = 0 := by simp [own_ks0]
  have e : own_ks0 a b c d = own_K0  := by simp only [own_ks0, own_K0]
  rw [l]
  rw [e]
  simp only [Bool.and_eq_true, List.all_eq_true, Bool.not_eq_true', decide_eq_true_eq, decide_eq_false_iff_not, beq_iff_eq] at D
  exact ⟨by decide, D.1.1, D.1.2⟩
def own_ks1 (a b c d : Int32) : List Int32 := ((List.replicate 1 (0 : Int32)).set (own_rank a b c d a 0 1).toNatClampNeg (0 : Int32))
def own_K1  : List Int32 := ((List.replicate 1 (0 : Int32)).set (0 : Int32).toNatClampNeg (0 : Int32))
set_option maxRecDepth 65536 in
theorem own_D1 : (true) = true → ((own_K1 ).all (fun k => !decide (k < 0) && decide (k.toNatClampNeg < 1)) && (own_first (own_K1 ) == (-1 : Int32)) && ((!decide ((0 : Int32) < 0) && decide ((0 : Int32).toNatClampNeg < 1)))) = true := by decide +kernel
theorem own_T1 (a b c d : Int32) : (true) = true := by simp [own_tri]
theorem own_R1_0 (a b c d : Int32) : own_rank a b c d a 0 1 = (0 : Int32) := by
  have g1 : ∀ r v ve : Int32, own_rk r v 0 ve 0 1 = r := fun r v ve => rfl
  have k1 : ∀ r v ve : Int32, own_rk r v 1 ve 0 1 = r := fun r v ve => rfl
  have k2 : ∀ r v ve : Int32, own_rk r v 2 ve 0 1 = r := fun r v ve => rfl
  have k3 : ∀ r v ve : Int32, own_rk r v 3 ve 0 1 = r := fun r v ve => rfl
  simp only [own_rank, g1, k1, k2, k3]
theorem own_rb1 (a b c d : Int32) : (¬ own_rank a b c d a 0 1 < 0 ∧ (own_rank a b c d a 0 1).toNatClampNeg < 1) := by
  have D := own_D1  (own_T1 a b c d)
  simp only [Bool.and_eq_true, Bool.not_eq_true', decide_eq_true_eq, decide_eq_false_iff_not, beq_iff_eq] at D
  simp only [own_R1_0]
  exact D.2
theorem own_law1 (a b c d : Int32) : (own_ks1 a b c d).length ≤ 4 ∧ (∀ k ∈ own_ks1 a b c d, ¬ k < 0 ∧ k.toNatClampNeg < (own_ks1 a b c d).length) ∧ own_first (own_ks1 a b c d) = (-1 : Int32) := by
  have D := own_D1  (own_T1 a b c d)
  have l : (own_ks1 a b c d).length = 1 := by simp [own_ks1]
  have e : own_ks1 a b c d = own_K1  := by simp only [own_ks1, own_K1, own_R1_0]
  rw [l]
  rw [e]
  simp only [Bool.and_eq_true, List.all_eq_true, Bool.not_eq_true', decide_eq_true_eq, decide_eq_false_iff_not, beq_iff_eq] at D
  exact ⟨by decide, D.1.1, D.1.2⟩
def own_ks2 (a b c d : Int32) : List Int32 := (((List.replicate 2 (0 : Int32)).set (own_rank a b c d a 0 2).toNatClampNeg (0 : Int32)).set (own_rank a b c d b 1 2).toNatClampNeg (1 : Int32))
def own_K2 (p10 : Bool) : List Int32 := (((List.replicate 2 (0 : Int32)).set (0 + own_I p10 : Int32).toNatClampNeg (0 : Int32)).set (0 + own_I (!p10) : Int32).toNatClampNeg (1 : Int32))
set_option maxRecDepth 65536 in
theorem own_D2 : ∀ p10 : Bool, (true) = true → ((own_K2 p10).all (fun k => !decide (k < 0) && decide (k.toNatClampNeg < 2)) && (own_first (own_K2 p10) == (if p10 = true then 1 else -1 : Int32)) && ((!decide ((0 + own_I p10 : Int32) < 0) && decide ((0 + own_I p10 : Int32).toNatClampNeg < 2)) && (!decide ((0 + own_I (!p10) : Int32) < 0) && decide ((0 + own_I (!p10) : Int32).toNatClampNeg < 2)))) = true := by decide +kernel
theorem own_T2 (a b c d : Int32) : (true) = true := by simp [own_tri]
theorem own_R2_0 (a b c d : Int32) : own_rank a b c d a 0 2 = (0 + own_I (decide (b < a)) : Int32) := by
  have g1 : ∀ r v ve : Int32, own_rk r v 0 ve 0 2 = r := fun r v ve => rfl
  have k1 : ∀ r v ve : Int32, own_rk r v 1 ve 0 2 = r + own_I (decide (v < ve)) := fun r v ve => by
    rw [show own_rk r v 1 ve 0 2 = r + own_bef v 1 ve 0 from rfl, own_B2 _ _ _ _ (by decide : ¬ (1 : Int32) < 0)]
  have k2 : ∀ r v ve : Int32, own_rk r v 2 ve 0 2 = r := fun r v ve => rfl
  have k3 : ∀ r v ve : Int32, own_rk r v 3 ve 0 2 = r := fun r v ve => rfl
  simp only [own_rank, g1, k1, k2, k3]
theorem own_R2_1 (a b c d : Int32) : own_rank a b c d b 1 2 = (0 + own_I (!decide (b < a)) : Int32) := by
  have g1 : ∀ r v ve : Int32, own_rk r v 1 ve 1 2 = r := fun r v ve => rfl
  have k0 : ∀ r v ve : Int32, own_rk r v 0 ve 1 2 = r + own_I (!decide (ve < v)) := fun r v ve => by
    rw [show own_rk r v 0 ve 1 2 = r + own_bef v 0 ve 1 from rfl, own_B1 _ _ _ _ (by decide : (0 : Int32) < 1)]
  have k2 : ∀ r v ve : Int32, own_rk r v 2 ve 1 2 = r := fun r v ve => rfl
  have k3 : ∀ r v ve : Int32, own_rk r v 3 ve 1 2 = r := fun r v ve => rfl
  simp only [own_rank, g1, k0, k2, k3]
theorem own_rb2 (a b c d : Int32) : (¬ own_rank a b c d a 0 2 < 0 ∧ (own_rank a b c d a 0 2).toNatClampNeg < 2) ∧ (¬ own_rank a b c d b 1 2 < 0 ∧ (own_rank a b c d b 1 2).toNatClampNeg < 2) := by
  have D := own_D2 (decide (b < a)) (own_T2 a b c d)
  simp only [Bool.and_eq_true, Bool.not_eq_true', decide_eq_true_eq, decide_eq_false_iff_not, beq_iff_eq] at D
  simp only [own_R2_0, own_R2_1]
  exact ⟨D.2.1, D.2.2⟩
theorem own_law2 (a b c d : Int32) : (own_ks2 a b c d).length ≤ 4 ∧ (∀ k ∈ own_ks2 a b c d, ¬ k < 0 ∧ k.toNatClampNeg < (own_ks2 a b c d).length) ∧ own_first (own_ks2 a b c d) = (if b < a then 1 else -1 : Int32) := by
  have D := own_D2 (decide (b < a)) (own_T2 a b c d)
  have l : (own_ks2 a b c d).length = 2 := by simp [own_ks2]
  have e : own_ks2 a b c d = own_K2 (decide (b < a)) := by simp only [own_ks2, own_K2, own_R2_0, own_R2_1]
  rw [l]
  rw [e]
  simp only [Bool.and_eq_true, List.all_eq_true, Bool.not_eq_true', decide_eq_true_eq, decide_eq_false_iff_not, beq_iff_eq] at D
  exact ⟨by decide, D.1.1, D.1.2⟩
def own_ks3 (a b c d : Int32) : List Int32 := ((((List.replicate 3 (0 : Int32)).set (own_rank a b c d a 0 3).toNatClampNeg (0 : Int32)).set (own_rank a b c d b 1 3).toNatClampNeg (1 : Int32)).set (own_rank a b c d c 2 3).toNatClampNeg (2 : Int32))
def own_K3 (p10 p20 p21 : Bool) : List Int32 := ((((List.replicate 3 (0 : Int32)).set (0 + own_I p10 + own_I p20 : Int32).toNatClampNeg (0 : Int32)).set (0 + own_I (!p10) + own_I p21 : Int32).toNatClampNeg (1 : Int32)).set (0 + own_I (!p20) + own_I (!p21) : Int32).toNatClampNeg (2 : Int32))
set_option maxRecDepth 65536 in
theorem own_D3 : ∀ p10 p20 p21 : Bool, (own_t p10 p20 p21) = true → ((own_K3 p10 p20 p21).all (fun k => !decide (k < 0) && decide (k.toNatClampNeg < 3)) && (own_first (own_K3 p10 p20 p21) == (if p10 = true then 1 else if p21 = true then 2 else -1 : Int32)) && ((!decide ((0 + own_I p10 + own_I p20 : Int32) < 0) && decide ((0 + own_I p10 + own_I p20 : Int32).toNatClampNeg < 3)) && (!decide ((0 + own_I (!p10) + own_I p21 : Int32) < 0) && decide ((0 + own_I (!p10) + own_I p21 : Int32).toNatClampNeg < 3)) && (!decide ((0 + own_I (!p20) + own_I (!p21) : Int32) < 0) && decide ((0 + own_I (!p20) + own_I (!p21) : Int32).toNatClampNeg < 3)))) = true := by decide +kernel
theorem own_T3 (a b c d : Int32) : (own_t (decide (b < a)) (decide (c < a)) (decide (c < b))) = true := by simp [own_tri]
theorem own_R3_0 (a b c d : Int32) : own_rank a b c d a 0 3 = (0 + own_I (decide (b < a)) + own_I (decide (c < a)) : Int32) := by
  have g1 : ∀ r v ve : Int32, own_rk r v 0 ve 0 3 = r := fun r v ve => rfl
  have k1 : ∀ r v ve : Int32, own_rk r v 1 ve 0 3 = r + own_I (decide (v < ve)) := fun r v ve => by
    rw [show own_rk r v 1 ve 0 3 = r + own_bef v 1 ve 0 from rfl, own_B2 _ _ _ _ (by decide : ¬ (1 : Int32) < 0)]
  have k2 : ∀ r v ve : Int32, own_rk r v 2 ve 0 3 = r + own_I (decide (v < ve)) := fun r v ve => by
    rw [show own_rk r v 2 ve 0 3 = r + own_bef v 2 ve 0 from rfl, own_B2 _ _ _ _ (by decide : ¬ (2 : Int32) < 0)]
  have k3 : ∀ r v ve : Int32, own_rk r v 3 ve 0 3 = r := fun r v ve => rfl
  simp only [own_rank, g1, k1, k2, k3]
theorem own_R3_1 (a b c d : Int32) : own_rank a b c d b 1 3 = (0 + own_I (!decide (b < a)) + own_I (decide (c < b)) : Int32) := by
  have g1 : ∀ r v ve : Int32, own_rk r v 1 ve 1 3 = r := fun r v ve => rfl
  have k0 : ∀ r v ve : Int32, own_rk r v 0 ve 1 3 = r + own_I (!decide (ve < v)) := fun r v ve => by
    rw [show own_rk r v 0 ve 1 3 = r + own_bef v 0 ve 1 from rfl, own_B1 _ _ _ _ (by decide : (0 : Int32) < 1)]
  have k2 : ∀ r v ve : Int32, own_rk r v 2 ve 1 3 = r + own_I (decide (v < ve)) := fun r v ve => by
    rw [show own_rk r v 2 ve 1 3 = r + own_bef v 2 ve 1 from rfl, own_B2 _ _ _ _ (by decide : ¬ (2 : Int32) < 1)]
  have k3 : ∀ r v ve : Int32, own_rk r v 3 ve 1 3 = r := fun r v ve => rfl
  simp only [own_rank, g1, k0, k2, k3]
theorem own_R3_2 (a b c d : Int32) : own_rank a b c d c 2 3 = (0 + own_I (!decide (c < a)) + own_I (!decide (c < b)) : Int32) := by
  have g1 : ∀ r v ve : Int32, own_rk r v 2 ve 2 3 = r := fun r v ve => rfl
  have k0 : ∀ r v ve : Int32, own_rk r v 0 ve 2 3 = r + own_I (!decide (ve < v)) := fun r v ve => by
    rw [show own_rk r v 0 ve 2 3 = r + own_bef v 0 ve 2 from rfl, own_B1 _ _ _ _ (by decide : (0 : Int32) < 2)]
  have k1 : ∀ r v ve : Int32, own_rk r v 1 ve 2 3 = r + own_I (!decide (ve < v)) := fun r v ve => by
    rw [show own_rk r v 1 ve 2 3 = r + own_bef v 1 ve 2 from rfl, own_B1 _ _ _ _ (by decide : (1 : Int32) < 2)]
  have k3 : ∀ r v ve : Int32, own_rk r v 3 ve 2 3 = r := fun r v ve => rfl
  simp only [own_rank, g1, k0, k1, k3]
theorem own_rb3 (a b c d : Int32) : (¬ own_rank a b c d a 0 3 < 0 ∧ (own_rank a b c d a 0 3).toNatClampNeg < 3) ∧ (¬ own_rank a b c d b 1 3 < 0 ∧ (own_rank a b c d b 1 3).toNatClampNeg < 3) ∧ (¬ own_rank a b c d c 2 3 < 0 ∧ (own_rank a b c d c 2 3).toNatClampNeg < 3) := by
  have D := own_D3 (decide (b < a)) (decide (c < a)) (decide (c < b)) (own_T3 a b c d)
  simp only [Bool.and_eq_true, Bool.not_eq_true', decide_eq_true_eq, decide_eq_false_iff_not, beq_iff_eq] at D
  simp only [own_R3_0, own_R3_1, own_R3_2]
  exact ⟨D.2.1.1, D.2.1.2, D.2.2⟩
theorem own_law3 (a b c d : Int32) : (own_ks3 a b c d).length ≤ 4 ∧ (∀ k ∈ own_ks3 a b c d, ¬ k < 0 ∧ k.toNatClampNeg < (own_ks3 a b c d).length) ∧ own_first (own_ks3 a b c d) = (if b < a then 1 else if c < b then 2 else -1 : Int32) := by
  have D := own_D3 (decide (b < a)) (decide (c < a)) (decide (c < b)) (own_T3 a b c d)
  have l : (own_ks3 a b c d).length = 3 := by simp [own_ks3]
  have e : own_ks3 a b c d = own_K3 (decide (b < a)) (decide (c < a)) (decide (c < b)) := by simp only [own_ks3, own_K3, own_R3_0, own_R3_1, own_R3_2]
  rw [l]
  rw [e]
  simp only [Bool.and_eq_true, List.all_eq_true, Bool.not_eq_true', decide_eq_true_eq, decide_eq_false_iff_not, beq_iff_eq] at D
  exact ⟨by decide, D.1.1, D.1.2⟩
def own_ks4 (a b c d : Int32) : List Int32 := (((((List.replicate 4 (0 : Int32)).set (own_rank a b c d a 0 4).toNatClampNeg (0 : Int32)).set (own_rank a b c d b 1 4).toNatClampNeg (1 : Int32)).set (own_rank a b c d c 2 4).toNatClampNeg (2 : Int32)).set (own_rank a b c d d 3 4).toNatClampNeg (3 : Int32))
def own_K4 (p10 p20 p30 p21 p31 p32 : Bool) : List Int32 := (((((List.replicate 4 (0 : Int32)).set (0 + own_I p10 + own_I p20 + own_I p30 : Int32).toNatClampNeg (0 : Int32)).set (0 + own_I (!p10) + own_I p21 + own_I p31 : Int32).toNatClampNeg (1 : Int32)).set (0 + own_I (!p20) + own_I (!p21) + own_I p32 : Int32).toNatClampNeg (2 : Int32)).set (0 + own_I (!p30) + own_I (!p31) + own_I (!p32) : Int32).toNatClampNeg (3 : Int32))
set_option maxRecDepth 65536 in
theorem own_D4 : ∀ p10 p20 p30 p21 p31 p32 : Bool, (own_t p10 p20 p21 && own_t p10 p30 p31 && own_t p20 p30 p32 && own_t p21 p31 p32) = true → ((own_K4 p10 p20 p30 p21 p31 p32).all (fun k => !decide (k < 0) && decide (k.toNatClampNeg < 4)) && (own_first (own_K4 p10 p20 p30 p21 p31 p32) == (if p10 = true then 1 else if p21 = true then 2 else if p32 = true then 3 else -1 : Int32)) && ((!decide ((0 + own_I p10 + own_I p20 + own_I p30 : Int32) < 0) && decide ((0 + own_I p10 + own_I p20 + own_I p30 : Int32).toNatClampNeg < 4)) && (!decide ((0 + own_I (!p10) + own_I p21 + own_I p31 : Int32) < 0) && decide ((0 + own_I (!p10) + own_I p21 + own_I p31 : Int32).toNatClampNeg < 4)) && (!decide ((0 + own_I (!p20) + own_I (!p21) + own_I p32 : Int32) < 0) && decide ((0 + own_I (!p20) + own_I (!p21) + own_I p32 : Int32).toNatClampNeg < 4)) && (!decide ((0 + own_I (!p30) + own_I (!p31) + own_I (!p32) : Int32) < 0) && decide ((0 + own_I (!p30) + own_I (!p31) + own_I (!p32) : Int32).toNatClampNeg < 4)))) = true := by decide +kernel
theorem own_T4 (a b c d : Int32) : (own_t (decide (b < a)) (decide (c < a)) (decide (c < b)) && own_t (decide (b < a)) (decide (d < a)) (decide (d < b)) && own_t (decide (c < a)) (decide (d < a)) (decide (d < c)) && own_t (decide (c < b)) (decide (d < b)) (decide (d < c))) = true := by simp [own_tri]
theorem own_R4_0 (a b c d : Int32) : own_rank a b c d a 0 4 = (0 + own_I (decide (b < a)) + own_I (decide (c < a)) + own_I (decide (d < a)) : Int32) := by
  have g1 : ∀ r v ve : Int32, own_rk r v 0 ve 0 4 = r := fun r v ve => rfl
  have k1 : ∀ r v ve : Int32, own_rk r v 1 ve 0 4 = r + own_I (decide (v < ve)) := fun r v ve => by
    rw [show own_rk r v 1 ve 0 4 = r + own_bef v 1 ve 0 from rfl, own_B2 _ _ _ _ (by decide : ¬ (1 : Int32) < 0)]
  have k2 : ∀ r v ve : Int32, own_rk r v 2 ve 0 4 = r + own_I (decide (v < ve)) := fun r v ve => by
    rw [show own_rk r v 2 ve 0 4 = r + own_bef v 2 ve 0 from rfl, own_B2 _ _ _ _ (by decide : ¬ (2 : Int32) < 0)]
  have k3 : ∀ r v ve : Int32, own_rk r v 3 ve 0 4 = r + own_I (decide (v < ve)) := fun r v ve => by
    rw [show own_rk r v 3 ve 0 4 = r + own_bef v 3 ve 0 from rfl, own_B2 _ _ _ _ (by decide : ¬ (3 : Int32) < 0)]
  simp only [own_rank, g1, k1, k2, k3]
theorem own_R4_1 (a b c d : Int32) : own_rank a b c d b 1 4 = (0 + own_I (!decide (b < a)) + own_I (decide (c < b)) + own_I (decide (d < b)) : Int32) := by
  have g1 : ∀ r v ve : Int32, own_rk r v 1 ve 1 4 = r := fun r v ve => rfl
  have k0 : ∀ r v ve : Int32, own_rk r v 0 ve 1 4 = r + own_I (!decide (ve < v)) := fun r v ve => by
    rw [show own_rk r v 0 ve 1 4 = r + own_bef v 0 ve 1 from rfl, own_B1 _ _ _ _ (by decide : (0 : Int32) < 1)]
  have k2 : ∀ r v ve : Int32, own_rk r v 2 ve 1 4 = r + own_I (decide (v < ve)) := fun r v ve => by
    rw [show own_rk r v 2 ve 1 4 = r + own_bef v 2 ve 1 from rfl, own_B2 _ _ _ _ (by decide : ¬ (2 : Int32) < 1)]
  have k3 : ∀ r v ve : Int32, own_rk r v 3 ve 1 4 = r + own_I (decide (v < ve)) := fun r v ve => by
    rw [show own_rk r v 3 ve 1 4 = r + own_bef v 3 ve 1 from rfl, own_B2 _ _ _ _ (by decide : ¬ (3 : Int32) < 1)]
  simp only [own_rank, g1, k0, k2, k3]
theorem own_R4_2 (a b c d : Int32) : own_rank a b c d c 2 4 = (0 + own_I (!decide (c < a)) + own_I (!decide (c < b)) + own_I (decide (d < c)) : Int32) := by
  have g1 : ∀ r v ve : Int32, own_rk r v 2 ve 2 4 = r := fun r v ve => rfl
  have k0 : ∀ r v ve : Int32, own_rk r v 0 ve 2 4 = r + own_I (!decide (ve < v)) := fun r v ve => by
    rw [show own_rk r v 0 ve 2 4 = r + own_bef v 0 ve 2 from rfl, own_B1 _ _ _ _ (by decide : (0 : Int32) < 2)]
  have k1 : ∀ r v ve : Int32, own_rk r v 1 ve 2 4 = r + own_I (!decide (ve < v)) := fun r v ve => by
    rw [show own_rk r v 1 ve 2 4 = r + own_bef v 1 ve 2 from rfl, own_B1 _ _ _ _ (by decide : (1 : Int32) < 2)]
  have k3 : ∀ r v ve : Int32, own_rk r v 3 ve 2 4 = r + own_I (decide (v < ve)) := fun r v ve => by
    rw [show own_rk r v 3 ve 2 4 = r + own_bef v 3 ve 2 from rfl, own_B2 _ _ _ _ (by decide : ¬ (3 : Int32) < 2)]
  simp only [own_rank, g1, k0, k1, k3]
theorem own_R4_3 (a b c d : Int32) : own_rank a b c d d 3 4 = (0 + own_I (!decide (d < a)) + own_I (!decide (d < b)) + own_I (!decide (d < c)) : Int32) := by
  have g1 : ∀ r v ve : Int32, own_rk r v 3 ve 3 4 = r := fun r v ve => rfl
  have k0 : ∀ r v ve : Int32, own_rk r v 0 ve 3 4 = r + own_I (!decide (ve < v)) := fun r v ve => by
    rw [show own_rk r v 0 ve 3 4 = r + own_bef v 0 ve 3 from rfl, own_B1 _ _ _ _ (by decide : (0 : Int32) < 3)]
  have k1 : ∀ r v ve : Int32, own_rk r v 1 ve 3 4 = r + own_I (!decide (ve < v)) := fun r v ve => by
    rw [show own_rk r v 1 ve 3 4 = r + own_bef v 1 ve 3 from rfl, own_B1 _ _ _ _ (by decide : (1 : Int32) < 3)]
  have k2 : ∀ r v ve : Int32, own_rk r v 2 ve 3 4 = r + own_I (!decide (ve < v)) := fun r v ve => by
    rw [show own_rk r v 2 ve 3 4 = r + own_bef v 2 ve 3 from rfl, own_B1 _ _ _ _ (by decide : (2 : Int32) < 3)]
  simp only [own_rank, g1, k0, k1, k2]
theorem own_rb4 (a b c d : Int32) : (¬ own_rank a b c d a 0 4 < 0 ∧ (own_rank a b c d a 0 4).toNatClampNeg < 4) ∧ (¬ own_rank a b c d b 1 4 < 0 ∧ (own_rank a b c d b 1 4).toNatClampNeg < 4) ∧ (¬ own_rank a b c d c 2 4 < 0 ∧ (own_rank a b c d c 2 4).toNatClampNeg < 4) ∧ (¬ own_rank a b c d d 3 4 < 0 ∧ (own_rank a b c d d 3 4).toNatClampNeg < 4) := by
  have D := own_D4 (decide (b < a)) (decide (c < a)) (decide (d < a)) (decide (c < b)) (decide (d < b)) (decide (d < c)) (own_T4 a b c d)
  simp only [Bool.and_eq_true, Bool.not_eq_true', decide_eq_true_eq, decide_eq_false_iff_not, beq_iff_eq] at D
  simp only [own_R4_0, own_R4_1, own_R4_2, own_R4_3]
  exact ⟨D.2.1.1.1, D.2.1.1.2, D.2.1.2, D.2.2⟩
theorem own_law4 (a b c d : Int32) : (own_ks4 a b c d).length ≤ 4 ∧ (∀ k ∈ own_ks4 a b c d, ¬ k < 0 ∧ k.toNatClampNeg < (own_ks4 a b c d).length) ∧ own_first (own_ks4 a b c d) = (if b < a then 1 else if c < b then 2 else if d < c then 3 else -1 : Int32) := by
  have D := own_D4 (decide (b < a)) (decide (c < a)) (decide (d < a)) (decide (c < b)) (decide (d < b)) (decide (d < c)) (own_T4 a b c d)
  have l : (own_ks4 a b c d).length = 4 := by simp [own_ks4]
  have e : own_ks4 a b c d = own_K4 (decide (b < a)) (decide (c < a)) (decide (d < a)) (decide (c < b)) (decide (d < b)) (decide (d < c)) := by simp only [own_ks4, own_K4, own_R4_0, own_R4_1, own_R4_2, own_R4_3]
  rw [l]
  rw [e]
  simp only [Bool.and_eq_true, List.all_eq_true, Bool.not_eq_true', decide_eq_true_eq, decide_eq_false_iff_not, beq_iff_eq] at D
  exact ⟨by decide, D.1.1, D.1.2⟩
theorem d1_0 : decode jdk_29_method_69_code 0 = .ok (.iload_n 0, 1) := by decide +kernel
theorem d1_1 : decode jdk_29_method_69_code 1 = .ok (.iload_n 1, 1) := by decide +kernel
theorem d1_2 : decode jdk_29_method_69_code 2 = .ok (.if_icmp .gt 7, 3) := by decide +kernel
theorem d1_5 : decode jdk_29_method_69_code 5 = .ok (.iload_n 0, 1) := by decide +kernel
theorem d1_6 : decode jdk_29_method_69_code 6 = .ok (.goto 4, 3) := by decide +kernel
theorem d1_9 : decode jdk_29_method_69_code 9 = .ok (.iload_n 1, 1) := by decide +kernel
theorem d1_10 : decode jdk_29_method_69_code 10 = .ok (.ireturn, 1) := by decide +kernel
theorem pn_1 : plainFor (⟨"java/lang/Math", "min", "(II)I"⟩ : MethodName) = true := by first | (refine plainFor_of_name ?_; simp [plainName, overriddenIn]; done) | decide +kernel
theorem pd_1 : parseMethodDescriptor "(II)I" = some ⟨[.int, .int], some .int⟩ := by decide +kernel
theorem ef_1 (m : MethodId) (q1 : Int32) (q2 : Int32) : entryFrame m #[(.int q1), (.int q2)] 2 = mkF m 0 #[.val (.int q1), .val (.int q2)] [] := by first | (simp [entryFrame, mkF, argsToLocals, Value.category]; done) | rfl
def Q_1 (Z : State) (q1 : Int32) (q2 : Int32) (h0 : Heap) (n0 : Nat) (v : Option Value) (h : Heap) (L : List Loc) : Prop := v = some (.int (own_min q1 q2)) ∧ Fr n0 L ∧ h = h0
set_option maxRecDepth 65536 in
set_option maxHeartbeats 40000000 in
theorem rm_1 (l : Launch) (Z : State) (a0 : Array Value) (hw : ∀ d ∈ tables_1, d.before a0 Z = true) (ws : List Jvm.Cond) (q1 : Int32) (q2 : Int32) (h0 : Heap) (n0 : Nat) (Z0 : n0 ≤ h0.size) :
    MetFree l (⟨"java/lang/Math", "min", "(II)I"⟩ : MethodName) (head1 (Jvm.Cond.code (⟨"java/lang/Math", "min", "(II)I"⟩ : MethodName) jdk_29_method_69_code 2 (some .int) :: ws) ({ frames := 0, cells := 0, slots := 0, locals := 0 } : Room)) (fun a U => a = #[(.int q1), (.int q2)] ∧ Z.Warmed39 U.vm ∧ U.heap = h0) (fun _ _ _ _ _ => True) (fun _ U o U' => ∃ v L, o = .returned v ∧ (Q_1 Z q1 q2 h0 n0) v U'.heap L ∧ FrameEnd U o U' L ({ frames := 0, cells := 0, slots := 0, locals := 0 } : Room).cells ({ frames := 0, cells := 0, slots := 0, locals := 0 } : Room).slots) := by
  refine MetFree.of_bodySF pn_1 hisR ?_
  intro p e s m args below meth c s₁ Bd hml0 hP hK
  obtain ⟨rfl, hZ, hh⟩ := hP
  have hx := Bd.exec
  have hby := Bd.bytes
  have hlk : meth.locks = false := BodyLoose.notSynchronized Bd
  have hml : c.maxLocals = 2 := hml0
  have hown : s.vm.findClass "java/lang/Math" = some m.cls := findClass_of_methodNamed Bd.named
  have hnm := (name_of_methodNamed Bd.named Bd.method).1
  have X0 : Stand p l e ({ frames := 0, cells := 0, slots := 0, locals := 0 } : Room) s m #[(.int q1), (.int q2)] below meth c s₁ [] 0 0 := Stand.of_body Bd
  have e0 : s₁.heap = h0 := by rw [← hh, Bd.state]; rfl
  have N0 := Fr.nil n0
  refine own_enter (Q := (Q_1 Z q1 q2 h0 n0)) (cs := 0) (ss := 0) (ef_1 m q1 q2) ?_
  show Goes p e below s 0 0 (Q_1 Z q1 q2 h0 n0) s₁ (mkF m 0 #[.val (.int q1), .val (.int q2)] [])
  refine own_iloadN (pc' := 1) X0 hx (hb hby d1_0) rfl rfl ?_
  refine own_iloadN (pc' := 2) X0 hx (hb hby d1_1) rfl rfl ?_
  by_cases hc2 : q2 < q1
  · refine own_icmpY X0 hx (hb hby d1_2) (tlt hc2).2.2.1 (by decide) (pc' := 9) (by decide) ?_
    refine own_iloadN (pc' := 10) X0 hx (hb hby d1_9) rfl rfl ?_
    exact own_retI X0 hx hlk Bd.returns (hb hby d1_10) (by decide) (by decide) ⟨by simp [own_min, hc2], N0, e0⟩
  · refine own_icmpN (pc' := 5) X0 hx (hb hby d1_2) (flt hc2).2.2.1 rfl ?_
    refine own_iloadN (pc' := 6) X0 hx (hb hby d1_5) rfl rfl ?_
    refine own_goto X0 hx (hb hby d1_6) (by decide) (pc' := 10) (by decide) ?_
    exact own_retI X0 hx hlk Bd.returns (hb hby d1_10) (by decide) (by decide) ⟨by simp [own_min, hc2], N0, e0⟩
theorem d4_0 : decode method_2_code 0 = .ok (.iload_n 0, 1) := by decide +kernel
theorem d4_1 : decode method_2_code 1 = .ok (.iload_n 2, 1) := by decide +kernel
theorem d4_2 : decode method_2_code 2 = .ok (.if_icmp .lt 13, 3) := by decide +kernel
theorem d4_5 : decode method_2_code 5 = .ok (.iload_n 0, 1) := by decide +kernel
theorem d4_6 : decode method_2_code 6 = .ok (.iload_n 2, 1) := by decide +kernel
theorem d4_7 : decode method_2_code 7 = .ok (.if_icmp .ne 12, 3) := by decide +kernel
theorem d4_10 : decode method_2_code 10 = .ok (.iload_n 1, 1) := by decide +kernel
theorem d4_11 : decode method_2_code 11 = .ok (.iload_n 3, 1) := by decide +kernel
theorem d4_12 : decode method_2_code 12 = .ok (.if_icmp .ge 7, 3) := by decide +kernel
theorem d4_15 : decode method_2_code 15 = .ok (.iconst 1, 1) := by decide +kernel
theorem d4_16 : decode method_2_code 16 = .ok (.goto 4, 3) := by decide +kernel
theorem d4_19 : decode method_2_code 19 = .ok (.iconst 0, 1) := by decide +kernel
theorem d4_20 : decode method_2_code 20 = .ok (.ireturn, 1) := by decide +kernel
theorem pn_2 : plainFor (⟨"com/example/reciprocal/reciprocal/cbor/ItemOrderFirstEntryOutOfOrderPinLaw", "before", "(IIII)I"⟩ : MethodName) = true := by first | (refine plainFor_of_name ?_; simp [plainName, overriddenIn]; done) | decide +kernel
theorem pd_2 : parseMethodDescriptor "(IIII)I" = some ⟨[.int, .int, .int, .int], some .int⟩ := by decide +kernel
theorem ef_2 (m : MethodId) (q1 : Int32) (q2 : Int32) (q3 : Int32) (q4 : Int32) : entryFrame m #[(.int q1), (.int q2), (.int q3), (.int q4)] 4 = mkF m 0 #[.val (.int q1), .val (.int q2), .val (.int q3), .val (.int q4)] [] := by first | (simp [entryFrame, mkF, argsToLocals, Value.category]; done) | rfl
def Q_2 (Z : State) (q1 : Int32) (q2 : Int32) (q3 : Int32) (q4 : Int32) (h0 : Heap) (n0 : Nat) (v : Option Value) (h : Heap) (L : List Loc) : Prop := v = some (.int (own_bef q1 q2 q3 q4)) ∧ Fr n0 L ∧ h = h0
set_option maxRecDepth 65536 in
set_option maxHeartbeats 40000000 in
theorem rm_2 (l : Launch) (Z : State) (a0 : Array Value) (hw : ∀ d ∈ tables_1, d.before a0 Z = true) (ws : List Jvm.Cond) (q1 : Int32) (q2 : Int32) (q3 : Int32) (q4 : Int32) (h0 : Heap) (n0 : Nat) (Z0 : n0 ≤ h0.size) :
    MetFree l (⟨"com/example/reciprocal/reciprocal/cbor/ItemOrderFirstEntryOutOfOrderPinLaw", "before", "(IIII)I"⟩ : MethodName) (head1 (Jvm.Cond.code (⟨"com/example/reciprocal/reciprocal/cbor/ItemOrderFirstEntryOutOfOrderPinLaw", "before", "(IIII)I"⟩ : MethodName) method_2_code 4 (some .int) :: ws) ({ frames := 0, cells := 0, slots := 0, locals := 0 } : Room)) (fun a U => a = #[(.int q1), (.int q2), (.int q3), (.int q4)] ∧ Z.Warmed39 U.vm ∧ U.heap = h0) (fun _ _ _ _ _ => True) (fun _ U o U' => ∃ v L, o = .returned v ∧ (Q_2 Z q1 q2 q3 q4 h0 n0) v U'.heap L ∧ FrameEnd U o U' L ({ frames := 0, cells := 0, slots := 0, locals := 0 } : Room).cells ({ frames := 0, cells := 0, slots := 0, locals := 0 } : Room).slots) := by
  refine MetFree.of_bodySF pn_2 hisR ?_
  intro p e s m args below meth c s₁ Bd hml0 hP hK
  obtain ⟨rfl, hZ, hh⟩ := hP
  have hx := Bd.exec
  have hby := Bd.bytes
  have hlk : meth.locks = false := BodyLoose.notSynchronized Bd
  have hml : c.maxLocals = 4 := hml0
  have hown : s.vm.findClass "com/example/reciprocal/reciprocal/cbor/ItemOrderFirstEntryOutOfOrderPinLaw" = some m.cls := findClass_of_methodNamed Bd.named
  have hnm := (name_of_methodNamed Bd.named Bd.method).1
  have X0 : Stand p l e ({ frames := 0, cells := 0, slots := 0, locals := 0 } : Room) s m #[(.int q1), (.int q2), (.int q3), (.int q4)] below meth c s₁ [] 0 0 := Stand.of_body Bd
  have e0 : s₁.heap = h0 := by rw [← hh, Bd.state]; rfl
  have N0 := Fr.nil n0
  refine own_enter (Q := (Q_2 Z q1 q2 q3 q4 h0 n0)) (cs := 0) (ss := 0) (ef_2 m q1 q2 q3 q4) ?_
  show Goes p e below s 0 0 (Q_2 Z q1 q2 q3 q4 h0 n0) s₁ (mkF m 0 #[.val (.int q1), .val (.int q2), .val (.int q3), .val (.int q4)] [])
  refine own_iloadN (pc' := 1) X0 hx (hb hby d4_0) rfl rfl ?_
  refine own_iloadN (pc' := 2) X0 hx (hb hby d4_1) rfl rfl ?_
  by_cases hc2 : q1 < q3
  · refine own_icmpY X0 hx (hb hby d4_2) (tlt hc2).1 (by decide) (pc' := 15) (by decide) ?_
    refine own_iconst (pc' := 16) X0 hx (hb hby d4_15) (v := (1 : Int32)) rfl rfl ?_
    refine own_goto X0 hx (hb hby d4_16) (by decide) (pc' := 20) (by decide) ?_
    exact own_retI X0 hx hlk Bd.returns (hb hby d4_20) (by decide) (by decide) ⟨by simp [own_bef, hc2], N0, e0⟩
  · refine own_icmpN (pc' := 5) X0 hx (hb hby d4_2) (flt hc2).1 rfl ?_
    refine own_iloadN (pc' := 6) X0 hx (hb hby d4_5) rfl rfl ?_
    refine own_iloadN (pc' := 7) X0 hx (hb hby d4_6) rfl rfl ?_
    by_cases hc7 : q1 = q3
    · refine own_icmpN (pc' := 10) X0 hx (hb hby d4_7) (teq hc7).2 rfl ?_
      refine own_iloadN (pc' := 11) X0 hx (hb hby d4_10) rfl rfl ?_
      refine own_iloadN (pc' := 12) X0 hx (hb hby d4_11) rfl rfl ?_
      by_cases hc12 : q2 < q4
      · refine own_icmpN (pc' := 15) X0 hx (hb hby d4_12) (tlt hc12).2.1 rfl ?_
        refine own_iconst (pc' := 16) X0 hx (hb hby d4_15) (v := (1 : Int32)) rfl rfl ?_
        refine own_goto X0 hx (hb hby d4_16) (by decide) (pc' := 20) (by decide) ?_
        exact own_retI X0 hx hlk Bd.returns (hb hby d4_20) (by decide) (by decide) ⟨by simp [own_bef, hc2, hc7, hc12], N0, e0⟩
      · refine own_icmpY X0 hx (hb hby d4_12) (flt hc12).2.1 (by decide) (pc' := 19) (by decide) ?_
        refine own_iconst (pc' := 20) X0 hx (hb hby d4_19) (v := (0 : Int32)) rfl rfl ?_
        exact own_retI X0 hx hlk Bd.returns (hb hby d4_20) (by decide) (by decide) ⟨by simp [own_bef, hc2, hc7, hc12], N0, e0⟩
    · refine own_icmpY X0 hx (hb hby d4_7) (feq hc7).2 (by decide) (pc' := 19) (by decide) ?_
      refine own_iconst (pc' := 20) X0 hx (hb hby d4_19) (v := (0 : Int32)) rfl rfl ?_
      exact own_retI X0 hx hlk Bd.returns (hb hby d4_20) (by decide) (by decide) ⟨by simp [own_bef, hc2, hc7], N0, e0⟩
theorem d3_0 : decode method_3_code 0 = .ok (.iconst 0, 1) := by decide +kernel
theorem d3_1 : decode method_3_code 1 = .ok (.istore_n 3, 1) := by decide +kernel
theorem d3_2 : decode method_3_code 2 = .ok (.iload_n 2, 1) := by decide +kernel
theorem d3_3 : decode method_3_code 3 = .ok (.ifCond .le 21, 3) := by decide +kernel
theorem d3_6 : decode method_3_code 6 = .ok (.iload_n 1, 1) := by decide +kernel
theorem d3_7 : decode method_3_code 7 = .ok (.ifCond .eq 17, 3) := by decide +kernel
theorem d3_10 : decode method_3_code 10 = .ok (.iload_n 3, 1) := by decide +kernel
theorem d3_11 : decode method_3_code 11 = .ok (.aload_n 0, 1) := by decide +kernel
theorem d3_12 : decode method_3_code 12 = .ok (.iconst 0, 1) := by decide +kernel
theorem d3_13 : decode method_3_code 13 = .ok (.iaload, 1) := by decide +kernel
theorem d3_14 : decode method_3_code 14 = .ok (.iconst 0, 1) := by decide +kernel
theorem d3_15 : decode method_3_code 15 = .ok (.aload_n 0, 1) := by decide +kernel
theorem d3_16 : decode method_3_code 16 = .ok (.iload_n 1, 1) := by decide +kernel
theorem d3_17 : decode method_3_code 17 = .ok (.iaload, 1) := by decide +kernel
theorem d3_18 : decode method_3_code 18 = .ok (.iload_n 1, 1) := by decide +kernel
theorem d3_19 : decode method_3_code 19 = .ok (.invokestatic 7, 3) := by decide +kernel
theorem d3_22 : decode method_3_code 22 = .ok (.iadd, 1) := by decide +kernel
theorem d3_23 : decode method_3_code 23 = .ok (.istore_n 3, 1) := by decide +kernel
theorem d3_24 : decode method_3_code 24 = .ok (.iload_n 2, 1) := by decide +kernel
theorem d3_25 : decode method_3_code 25 = .ok (.iconst 1, 1) := by decide +kernel
theorem d3_26 : decode method_3_code 26 = .ok (.if_icmp .le 22, 3) := by decide +kernel
theorem d3_29 : decode method_3_code 29 = .ok (.iload_n 1, 1) := by decide +kernel
theorem d3_30 : decode method_3_code 30 = .ok (.iconst 1, 1) := by decide +kernel
theorem d3_31 : decode method_3_code 31 = .ok (.if_icmp .eq 17, 3) := by decide +kernel
theorem d3_34 : decode method_3_code 34 = .ok (.iload_n 3, 1) := by decide +kernel
theorem d3_35 : decode method_3_code 35 = .ok (.aload_n 0, 1) := by decide +kernel
theorem d3_36 : decode method_3_code 36 = .ok (.iconst 1, 1) := by decide +kernel
theorem d3_37 : decode method_3_code 37 = .ok (.iaload, 1) := by decide +kernel
theorem d3_38 : decode method_3_code 38 = .ok (.iconst 1, 1) := by decide +kernel
theorem d3_39 : decode method_3_code 39 = .ok (.aload_n 0, 1) := by decide +kernel
theorem d3_40 : decode method_3_code 40 = .ok (.iload_n 1, 1) := by decide +kernel
theorem d3_41 : decode method_3_code 41 = .ok (.iaload, 1) := by decide +kernel
theorem d3_42 : decode method_3_code 42 = .ok (.iload_n 1, 1) := by decide +kernel
theorem d3_43 : decode method_3_code 43 = .ok (.invokestatic 7, 3) := by decide +kernel
theorem d3_46 : decode method_3_code 46 = .ok (.iadd, 1) := by decide +kernel
theorem d3_47 : decode method_3_code 47 = .ok (.istore_n 3, 1) := by decide +kernel
theorem d3_48 : decode method_3_code 48 = .ok (.iload_n 2, 1) := by decide +kernel
theorem d3_49 : decode method_3_code 49 = .ok (.iconst 2, 1) := by decide +kernel
theorem d3_50 : decode method_3_code 50 = .ok (.if_icmp .le 22, 3) := by decide +kernel
theorem d3_53 : decode method_3_code 53 = .ok (.iload_n 1, 1) := by decide +kernel
theorem d3_54 : decode method_3_code 54 = .ok (.iconst 2, 1) := by decide +kernel
theorem d3_55 : decode method_3_code 55 = .ok (.if_icmp .eq 17, 3) := by decide +kernel
theorem d3_58 : decode method_3_code 58 = .ok (.iload_n 3, 1) := by decide +kernel
theorem d3_59 : decode method_3_code 59 = .ok (.aload_n 0, 1) := by decide +kernel
theorem d3_60 : decode method_3_code 60 = .ok (.iconst 2, 1) := by decide +kernel
theorem d3_61 : decode method_3_code 61 = .ok (.iaload, 1) := by decide +kernel
theorem d3_62 : decode method_3_code 62 = .ok (.iconst 2, 1) := by decide +kernel
theorem d3_63 : decode method_3_code 63 = .ok (.aload_n 0, 1) := by decide +kernel
theorem d3_64 : decode method_3_code 64 = .ok (.iload_n 1, 1) := by decide +kernel
theorem d3_65 : decode method_3_code 65 = .ok (.iaload, 1) := by decide +kernel
theorem d3_66 : decode method_3_code 66 = .ok (.iload_n 1, 1) := by decide +kernel
theorem d3_67 : decode method_3_code 67 = .ok (.invokestatic 7, 3) := by decide +kernel
theorem d3_70 : decode method_3_code 70 = .ok (.iadd, 1) := by decide +kernel
theorem d3_71 : decode method_3_code 71 = .ok (.istore_n 3, 1) := by decide +kernel
theorem d3_72 : decode method_3_code 72 = .ok (.iload_n 2, 1) := by decide +kernel
theorem d3_73 : decode method_3_code 73 = .ok (.iconst 3, 1) := by decide +kernel
theorem d3_74 : decode method_3_code 74 = .ok (.if_icmp .le 22, 3) := by decide +kernel
theorem d3_77 : decode method_3_code 77 = .ok (.iload_n 1, 1) := by decide +kernel
theorem d3_78 : decode method_3_code 78 = .ok (.iconst 3, 1) := by decide +kernel
theorem d3_79 : decode method_3_code 79 = .ok (.if_icmp .eq 17, 3) := by decide +kernel
theorem d3_82 : decode method_3_code 82 = .ok (.iload_n 3, 1) := by decide +kernel
theorem d3_83 : decode method_3_code 83 = .ok (.aload_n 0, 1) := by decide +kernel
theorem d3_84 : decode method_3_code 84 = .ok (.iconst 3, 1) := by decide +kernel
theorem d3_85 : decode method_3_code 85 = .ok (.iaload, 1) := by decide +kernel
theorem d3_86 : decode method_3_code 86 = .ok (.iconst 3, 1) := by decide +kernel
theorem d3_87 : decode method_3_code 87 = .ok (.aload_n 0, 1) := by decide +kernel
theorem d3_88 : decode method_3_code 88 = .ok (.iload_n 1, 1) := by decide +kernel
theorem d3_89 : decode method_3_code 89 = .ok (.iaload, 1) := by decide +kernel
theorem d3_90 : decode method_3_code 90 = .ok (.iload_n 1, 1) := by decide +kernel
theorem d3_91 : decode method_3_code 91 = .ok (.invokestatic 7, 3) := by decide +kernel
theorem d3_94 : decode method_3_code 94 = .ok (.iadd, 1) := by decide +kernel
theorem d3_95 : decode method_3_code 95 = .ok (.istore_n 3, 1) := by decide +kernel
theorem d3_96 : decode method_3_code 96 = .ok (.iload_n 3, 1) := by decide +kernel
theorem d3_97 : decode method_3_code 97 = .ok (.ireturn, 1) := by decide +kernel
theorem pn_3 : plainFor (⟨"com/example/reciprocal/reciprocal/cbor/ItemOrderFirstEntryOutOfOrderPinLaw", "rank", "([III)I"⟩ : MethodName) = true := by first | (refine plainFor_of_name ?_; simp [plainName, overriddenIn]; done) | decide +kernel
theorem pd_3 : parseMethodDescriptor "([III)I" = some ⟨[(.array .int), .int, .int], some .int⟩ := by decide +kernel
theorem ef_3 (m : MethodId) (a1 : Addr) (va : Int32) (vb : Int32) (vc : Int32) (vd : Int32) (ve : Int32) (ei : Int32) (n : Int32) (ke : Nat) : entryFrame m #[(.ref a1), (.int ei), (.int n)] 4 = mkF m 0 #[.val (.ref a1), .val (.int ei), .val (.int n), .unset] [] := by first | (simp [entryFrame, mkF, argsToLocals, Value.category]; done) | rfl
def Q_3 (Z : State) (a1 : Addr) (va : Int32) (vb : Int32) (vc : Int32) (vd : Int32) (ve : Int32) (ei : Int32) (n : Int32) (ke : Nat) (h0 : Heap) (n0 : Nat) (v : Option Value) (h : Heap) (L : List Loc) : Prop := v = some (.int (own_rank va vb vc vd ve ei n)) ∧ Fr n0 L ∧ h = h0
set_option maxRecDepth 65536 in
set_option maxHeartbeats 40000000 in
theorem rm_3 (l : Launch) (Z : State) (a0 : Array Value) (hw : ∀ d ∈ tables_1, d.before a0 Z = true) (ws : List Jvm.Cond) (a1 : Addr) (va : Int32) (vb : Int32) (vc : Int32) (vd : Int32) (ve : Int32) (ei : Int32) (n : Int32) (ke : Nat) (h0 : Heap) (n0 : Nat) (Z0 : n0 ≤ h0.size) (F1 : own_PA Z h0 a1 .int [va, vb, vc, vd]) (he : ¬ ei < 0) (hke : ei.toNatClampNeg = ke) (hve : [va, vb, vc, vd][ke]? = some ve) :
    MetFree l (⟨"com/example/reciprocal/reciprocal/cbor/ItemOrderFirstEntryOutOfOrderPinLaw", "rank", "([III)I"⟩ : MethodName) (head1 (Jvm.Cond.code (⟨"com/example/reciprocal/reciprocal/cbor/ItemOrderFirstEntryOutOfOrderPinLaw", "rank", "([III)I"⟩ : MethodName) method_3_code 4 (some .int) :: ws) ({ frames := 1, cells := 0, slots := 0, locals := 16 } : Room)) (fun a U => a = #[(.ref a1), (.int ei), (.int n)] ∧ Z.Warmed39 U.vm ∧ U.heap = h0) (fun _ _ _ _ _ => True) (fun _ U o U' => ∃ v L, o = .returned v ∧ (Q_3 Z a1 va vb vc vd ve ei n ke h0 n0) v U'.heap L ∧ FrameEnd U o U' L ({ frames := 1, cells := 0, slots := 0, locals := 16 } : Room).cells ({ frames := 1, cells := 0, slots := 0, locals := 16 } : Room).slots) := by
  refine MetFree.of_bodySF pn_3 hisR ?_
  intro p e s m args below meth c s₁ Bd hml0 hP hK
  obtain ⟨rfl, hZ, hh⟩ := hP
  have hx := Bd.exec
  have hby := Bd.bytes
  have hlk : meth.locks = false := BodyLoose.notSynchronized Bd
  have hml : c.maxLocals = 4 := hml0
  have hown : s.vm.findClass "com/example/reciprocal/reciprocal/cbor/ItemOrderFirstEntryOutOfOrderPinLaw" = some m.cls := findClass_of_methodNamed Bd.named
  have hnm := (name_of_methodNamed Bd.named Bd.method).1
  have X0 : Stand p l e ({ frames := 1, cells := 0, slots := 0, locals := 16 } : Room) s m #[(.ref a1), (.int ei), (.int n)] below meth c s₁ [] 0 0 := Stand.of_body Bd
  have e0 : s₁.heap = h0 := by rw [← hh, Bd.state]; rfl
  have N0 := Fr.nil n0
  refine own_enter (Q := (Q_3 Z a1 va vb vc vd ve ei n ke h0 n0)) (cs := 0) (ss := 0) (ef_3 m a1 va vb vc vd ve ei n ke) ?_
  have J96 : ∀ (TJ : State) (LJ : List Loc) (r : Int32), Stand p l e ({ frames := 1, cells := 0, slots := 0, locals := 16 } : Room) s m #[(.ref a1), (.int ei), (.int n)] below meth c TJ LJ 0 0 → TJ.heap = h0 → Fr n0 LJ → r = (own_rk (own_rk (own_rk (own_rk (0 : Int32) va (0 : Int32) ve ei n) vb (1 : Int32) ve ei n) vc (2 : Int32) ve ei n) vd (3 : Int32) ve ei n) → Goes p e below s 0 0 (Q_3 Z a1 va vb vc vd ve ei n ke h0 n0) TJ (mkF m 96 #[.val (.ref a1), .val (.int ei), .val (.int n), .val (.int r)] []) := by
    intro TJ LJ r XJ eJ NJ hr
    refine own_iloadN (pc' := 97) XJ hx (hb hby d3_96) rfl rfl ?_
    exact own_retI XJ hx hlk Bd.returns (hb hby d3_97) (by decide) (by decide) ⟨by rw [hr]; rfl, NJ, eJ⟩
  have J72 : ∀ (TJ : State) (LJ : List Loc) (r : Int32), Stand p l e ({ frames := 1, cells := 0, slots := 0, locals := 16 } : Room) s m #[(.ref a1), (.int ei), (.int n)] below meth c TJ LJ 0 0 → TJ.heap = h0 → Fr n0 LJ → r = (own_rk (own_rk (own_rk (0 : Int32) va (0 : Int32) ve ei n) vb (1 : Int32) ve ei n) vc (2 : Int32) ve ei n) → Goes p e below s 0 0 (Q_3 Z a1 va vb vc vd ve ei n ke h0 n0) TJ (mkF m 72 #[.val (.ref a1), .val (.int ei), .val (.int n), .val (.int r)] []) := by
    intro TJ LJ r XJ eJ NJ hr
    refine own_iloadN (pc' := 73) XJ hx (hb hby d3_72) rfl rfl ?_
    refine own_iconst (pc' := 74) XJ hx (hb hby d3_73) (v := (3 : Int32)) rfl rfl ?_
    by_cases hc74 : (3 : Int32) < n
    · refine own_icmpN (pc' := 77) XJ hx (hb hby d3_74) (tlt hc74).2.2.2 rfl ?_
      refine own_iloadN (pc' := 78) XJ hx (hb hby d3_77) rfl rfl ?_
      refine own_iconst (pc' := 79) XJ hx (hb hby d3_78) (v := (3 : Int32)) rfl rfl ?_
      by_cases hc79 : ei = (3 : Int32)
      · refine own_icmpY XJ hx (hb hby d3_79) (teq hc79).1 (by decide) (pc' := 96) (by decide) ?_
        exact J96 TJ _ _ XJ eJ NJ (by rw [hr]; simp [own_rk, hc74, hc79])
      · refine own_icmpN (pc' := 82) XJ hx (hb hby d3_79) (feq hc79).1 rfl ?_
        refine own_iloadN (pc' := 83) XJ hx (hb hby d3_82) rfl rfl ?_
        refine own_aloadN (pc' := 84) XJ hx (hb hby d3_83) rfl rfl rfl ?_
        refine own_iconst (pc' := 85) XJ hx (hb hby d3_84) (v := (3 : Int32)) rfl rfl ?_
        refine own_iaload (pc' := 86) XJ hx hZ eJ F1 (hb hby d3_85) (v := vd) (by decide) (k := 3) (by decide) rfl rfl ?_
        refine own_iconst (pc' := 87) XJ hx (hb hby d3_86) (v := (3 : Int32)) rfl rfl ?_
        refine own_aloadN (pc' := 88) XJ hx (hb hby d3_87) rfl rfl rfl ?_
        refine own_iloadN (pc' := 89) XJ hx (hb hby d3_88) rfl rfl ?_
        refine own_iaload (pc' := 90) XJ hx hZ eJ F1 (hb hby d3_89) (v := ve) he hke hve rfl ?_
        refine own_iloadN (pc' := 91) XJ hx (hb hby d3_90) rfl rfl ?_
        obtain ⟨_, _, ⟨T101, L101, k101, n101⟩, -, X101, ⟨Lc101, hQ101, l101, y101, z101⟩, st101⟩ := Jvm.LawKit.callS XJ hx (y := (⟨"com/example/reciprocal/reciprocal/cbor/ItemOrderFirstEntryOutOfOrderPinLaw", "before", "(IIII)I"⟩ : MethodName)) hown (mvT hZ (hw _ (List.mem_of_getElem? (i := 13) rfl))) (mvT hZ (hw _ (List.mem_of_getElem? (i := 14) rfl))) (mvT hZ (hw _ (List.mem_of_getElem? (i := 11) rfl))) (mvT hZ (hw _ (List.mem_of_getElem? (i := 15) rfl))) (by decide) (backOf (W := 1) (rm_2 l Z a0 hw [] vd (3 : Int32) ve ei h0 n0 Z0) hZ (hw _ (List.mem_of_getElem? (i := 15) rfl)) (hw _ (List.mem_of_getElem? (i := 11) rfl)) (by decide) (by decide)) (g := (mkF m 91 #[.val (.ref a1), .val (.int ei), .val (.int n), .val (.int r)] [(.int ei), (.int ve), (.int (3 : Int32)), (.int vd), (.int r)])) rfl (by rw [hml]; rfl) (argsL := [(.int vd), (.int (3 : Int32)), (.int ve), (.int ei)]) (rest := [(.int r)]) (lenOf pd_2 rfl) rfl (by show 2 * 0 + _ ≤ _; exact Nat.le_of_eq rfl) (hb hby d3_91) (fun _ _ => ⟨rfl, eJ, (by decide : 0 + 0 ≤ _), (by decide : 0 + 0 ≤ _)⟩)
        dsimp only [Pt.U, Pt.locs, Pt.cells, Pt.slots] at X101 l101 y101 z101 st101 hQ101
        subst l101 y101 z101
        obtain ⟨rfl, M101, eb⟩ := hQ101
        have N101 := Fr.app NJ M101
        refine Goes.pre st101 ?_
        show Goes p e below s 0 0 (Q_3 Z a1 va vb vc vd ve ei n ke h0 n0) T101 (mkF m 94 #[.val (.ref a1), .val (.int ei), .val (.int n), .val (.int r)] [(.int (own_bef vd (3 : Int32) ve ei)), (.int r)])
        refine own_iadd (pc' := 95) X101 hx (hb hby d3_94) rfl ?_
        refine own_istoreN (pc' := 96) X101 hx (hb hby d3_95) (Ls' := #[.val (.ref a1), .val (.int ei), .val (.int n), .val (.int (r + (own_bef vd (3 : Int32) ve ei)))]) rfl rfl ?_
        exact J96 T101 _ _ X101 eb N101 (by rw [hr]; simp [own_rk, hc74, hc79])
    · refine own_icmpY XJ hx (hb hby d3_74) (flt hc74).2.2.2 (by decide) (pc' := 96) (by decide) ?_
      exact J96 TJ _ _ XJ eJ NJ (by rw [hr]; simp [own_rk, hc74])
  have J48 : ∀ (TJ : State) (LJ : List Loc) (r : Int32), Stand p l e ({ frames := 1, cells := 0, slots := 0, locals := 16 } : Room) s m #[(.ref a1), (.int ei), (.int n)] below meth c TJ LJ 0 0 → TJ.heap = h0 → Fr n0 LJ → r = (own_rk (own_rk (0 : Int32) va (0 : Int32) ve ei n) vb (1 : Int32) ve ei n) → Goes p e below s 0 0 (Q_3 Z a1 va vb vc vd ve ei n ke h0 n0) TJ (mkF m 48 #[.val (.ref a1), .val (.int ei), .val (.int n), .val (.int r)] []) := by
    intro TJ LJ r XJ eJ NJ hr
    refine own_iloadN (pc' := 49) XJ hx (hb hby d3_48) rfl rfl ?_
    refine own_iconst (pc' := 50) XJ hx (hb hby d3_49) (v := (2 : Int32)) rfl rfl ?_
    by_cases hc50 : (2 : Int32) < n
    · refine own_icmpN (pc' := 53) XJ hx (hb hby d3_50) (tlt hc50).2.2.2 rfl ?_
      refine own_iloadN (pc' := 54) XJ hx (hb hby d3_53) rfl rfl ?_
      refine own_iconst (pc' := 55) XJ hx (hb hby d3_54) (v := (2 : Int32)) rfl rfl ?_
      by_cases hc55 : ei = (2 : Int32)
      · refine own_icmpY XJ hx (hb hby d3_55) (teq hc55).1 (by decide) (pc' := 72) (by decide) ?_
        exact J72 TJ _ _ XJ eJ NJ (by rw [hr]; simp [own_rk, hc50, hc55])
      · refine own_icmpN (pc' := 58) XJ hx (hb hby d3_55) (feq hc55).1 rfl ?_
        refine own_iloadN (pc' := 59) XJ hx (hb hby d3_58) rfl rfl ?_
        refine own_aloadN (pc' := 60) XJ hx (hb hby d3_59) rfl rfl rfl ?_
        refine own_iconst (pc' := 61) XJ hx (hb hby d3_60) (v := (2 : Int32)) rfl rfl ?_
        refine own_iaload (pc' := 62) XJ hx hZ eJ F1 (hb hby d3_61) (v := vc) (by decide) (k := 2) (by decide) rfl rfl ?_
        refine own_iconst (pc' := 63) XJ hx (hb hby d3_62) (v := (2 : Int32)) rfl rfl ?_
        refine own_aloadN (pc' := 64) XJ hx (hb hby d3_63) rfl rfl rfl ?_
        refine own_iloadN (pc' := 65) XJ hx (hb hby d3_64) rfl rfl ?_
        refine own_iaload (pc' := 66) XJ hx hZ eJ F1 (hb hby d3_65) (v := ve) he hke hve rfl ?_
        refine own_iloadN (pc' := 67) XJ hx (hb hby d3_66) rfl rfl ?_
        obtain ⟨_, _, ⟨T102, L102, k102, n102⟩, -, X102, ⟨Lc102, hQ102, l102, y102, z102⟩, st102⟩ := Jvm.LawKit.callS XJ hx (y := (⟨"com/example/reciprocal/reciprocal/cbor/ItemOrderFirstEntryOutOfOrderPinLaw", "before", "(IIII)I"⟩ : MethodName)) hown (mvT hZ (hw _ (List.mem_of_getElem? (i := 13) rfl))) (mvT hZ (hw _ (List.mem_of_getElem? (i := 14) rfl))) (mvT hZ (hw _ (List.mem_of_getElem? (i := 11) rfl))) (mvT hZ (hw _ (List.mem_of_getElem? (i := 15) rfl))) (by decide) (backOf (W := 1) (rm_2 l Z a0 hw [] vc (2 : Int32) ve ei h0 n0 Z0) hZ (hw _ (List.mem_of_getElem? (i := 15) rfl)) (hw _ (List.mem_of_getElem? (i := 11) rfl)) (by decide) (by decide)) (g := (mkF m 67 #[.val (.ref a1), .val (.int ei), .val (.int n), .val (.int r)] [(.int ei), (.int ve), (.int (2 : Int32)), (.int vc), (.int r)])) rfl (by rw [hml]; rfl) (argsL := [(.int vc), (.int (2 : Int32)), (.int ve), (.int ei)]) (rest := [(.int r)]) (lenOf pd_2 rfl) rfl (by show 2 * 0 + _ ≤ _; exact Nat.le_of_eq rfl) (hb hby d3_67) (fun _ _ => ⟨rfl, eJ, (by decide : 0 + 0 ≤ _), (by decide : 0 + 0 ≤ _)⟩)
        dsimp only [Pt.U, Pt.locs, Pt.cells, Pt.slots] at X102 l102 y102 z102 st102 hQ102
        subst l102 y102 z102
        obtain ⟨rfl, M102, eb⟩ := hQ102
        have N102 := Fr.app NJ M102
        refine Goes.pre st102 ?_
        show Goes p e below s 0 0 (Q_3 Z a1 va vb vc vd ve ei n ke h0 n0) T102 (mkF m 70 #[.val (.ref a1), .val (.int ei), .val (.int n), .val (.int r)] [(.int (own_bef vc (2 : Int32) ve ei)), (.int r)])
        refine own_iadd (pc' := 71) X102 hx (hb hby d3_70) rfl ?_
        refine own_istoreN (pc' := 72) X102 hx (hb hby d3_71) (Ls' := #[.val (.ref a1), .val (.int ei), .val (.int n), .val (.int (r + (own_bef vc (2 : Int32) ve ei)))]) rfl rfl ?_
        exact J72 T102 _ _ X102 eb N102 (by rw [hr]; simp [own_rk, hc50, hc55])
    · refine own_icmpY XJ hx (hb hby d3_50) (flt hc50).2.2.2 (by decide) (pc' := 72) (by decide) ?_
      exact J72 TJ _ _ XJ eJ NJ (by rw [hr]; simp [own_rk, hc50])
  have J24 : ∀ (TJ : State) (LJ : List Loc) (r : Int32), Stand p l e ({ frames := 1, cells := 0, slots := 0, locals := 16 } : Room) s m #[(.ref a1), (.int ei), (.int n)] below meth c TJ LJ 0 0 → TJ.heap = h0 → Fr n0 LJ → r = (own_rk (0 : Int32) va (0 : Int32) ve ei n) → Goes p e below s 0 0 (Q_3 Z a1 va vb vc vd ve ei n ke h0 n0) TJ (mkF m 24 #[.val (.ref a1), .val (.int ei), .val (.int n), .val (.int r)] []) := by
    intro TJ LJ r XJ eJ NJ hr
    refine own_iloadN (pc' := 25) XJ hx (hb hby d3_24) rfl rfl ?_
    refine own_iconst (pc' := 26) XJ hx (hb hby d3_25) (v := (1 : Int32)) rfl rfl ?_
    by_cases hc26 : (1 : Int32) < n
    · refine own_icmpN (pc' := 29) XJ hx (hb hby d3_26) (tlt hc26).2.2.2 rfl ?_
      refine own_iloadN (pc' := 30) XJ hx (hb hby d3_29) rfl rfl ?_
      refine own_iconst (pc' := 31) XJ hx (hb hby d3_30) (v := (1 : Int32)) rfl rfl ?_
      by_cases hc31 : ei = (1 : Int32)
      · refine own_icmpY XJ hx (hb hby d3_31) (teq hc31).1 (by decide) (pc' := 48) (by decide) ?_
        exact J48 TJ _ _ XJ eJ NJ (by rw [hr]; simp [own_rk, hc26, hc31])
      · refine own_icmpN (pc' := 34) XJ hx (hb hby d3_31) (feq hc31).1 rfl ?_
        refine own_iloadN (pc' := 35) XJ hx (hb hby d3_34) rfl rfl ?_
        refine own_aloadN (pc' := 36) XJ hx (hb hby d3_35) rfl rfl rfl ?_
        refine own_iconst (pc' := 37) XJ hx (hb hby d3_36) (v := (1 : Int32)) rfl rfl ?_
        refine own_iaload (pc' := 38) XJ hx hZ eJ F1 (hb hby d3_37) (v := vb) (by decide) (k := 1) (by decide) rfl rfl ?_
        refine own_iconst (pc' := 39) XJ hx (hb hby d3_38) (v := (1 : Int32)) rfl rfl ?_
        refine own_aloadN (pc' := 40) XJ hx (hb hby d3_39) rfl rfl rfl ?_
        refine own_iloadN (pc' := 41) XJ hx (hb hby d3_40) rfl rfl ?_
        refine own_iaload (pc' := 42) XJ hx hZ eJ F1 (hb hby d3_41) (v := ve) he hke hve rfl ?_
        refine own_iloadN (pc' := 43) XJ hx (hb hby d3_42) rfl rfl ?_
        obtain ⟨_, _, ⟨T103, L103, k103, n103⟩, -, X103, ⟨Lc103, hQ103, l103, y103, z103⟩, st103⟩ := Jvm.LawKit.callS XJ hx (y := (⟨"com/example/reciprocal/reciprocal/cbor/ItemOrderFirstEntryOutOfOrderPinLaw", "before", "(IIII)I"⟩ : MethodName)) hown (mvT hZ (hw _ (List.mem_of_getElem? (i := 13) rfl))) (mvT hZ (hw _ (List.mem_of_getElem? (i := 14) rfl))) (mvT hZ (hw _ (List.mem_of_getElem? (i := 11) rfl))) (mvT hZ (hw _ (List.mem_of_getElem? (i := 15) rfl))) (by decide) (backOf (W := 1) (rm_2 l Z a0 hw [] vb (1 : Int32) ve ei h0 n0 Z0) hZ (hw _ (List.mem_of_getElem? (i := 15) rfl)) (hw _ (List.mem_of_getElem? (i := 11) rfl)) (by decide) (by decide)) (g := (mkF m 43 #[.val (.ref a1), .val (.int ei), .val (.int n), .val (.int r)] [(.int ei), (.int ve), (.int (1 : Int32)), (.int vb), (.int r)])) rfl (by rw [hml]; rfl) (argsL := [(.int vb), (.int (1 : Int32)), (.int ve), (.int ei)]) (rest := [(.int r)]) (lenOf pd_2 rfl) rfl (by show 2 * 0 + _ ≤ _; exact Nat.le_of_eq rfl) (hb hby d3_43) (fun _ _ => ⟨rfl, eJ, (by decide : 0 + 0 ≤ _), (by decide : 0 + 0 ≤ _)⟩)
        dsimp only [Pt.U, Pt.locs, Pt.cells, Pt.slots] at X103 l103 y103 z103 st103 hQ103
        subst l103 y103 z103
        obtain ⟨rfl, M103, eb⟩ := hQ103
        have N103 := Fr.app NJ M103
        refine Goes.pre st103 ?_
        show Goes p e below s 0 0 (Q_3 Z a1 va vb vc vd ve ei n ke h0 n0) T103 (mkF m 46 #[.val (.ref a1), .val (.int ei), .val (.int n), .val (.int r)] [(.int (own_bef vb (1 : Int32) ve ei)), (.int r)])
        refine own_iadd (pc' := 47) X103 hx (hb hby d3_46) rfl ?_
        refine own_istoreN (pc' := 48) X103 hx (hb hby d3_47) (Ls' := #[.val (.ref a1), .val (.int ei), .val (.int n), .val (.int (r + (own_bef vb (1 : Int32) ve ei)))]) rfl rfl ?_
        exact J48 T103 _ _ X103 eb N103 (by rw [hr]; simp [own_rk, hc26, hc31])
    · refine own_icmpY XJ hx (hb hby d3_26) (flt hc26).2.2.2 (by decide) (pc' := 48) (by decide) ?_
      exact J48 TJ _ _ XJ eJ NJ (by rw [hr]; simp [own_rk, hc26])
  show Goes p e below s 0 0 (Q_3 Z a1 va vb vc vd ve ei n ke h0 n0) s₁ (mkF m 0 #[.val (.ref a1), .val (.int ei), .val (.int n), .unset] [])
  refine own_iconst (pc' := 1) X0 hx (hb hby d3_0) (v := (0 : Int32)) rfl rfl ?_
  refine own_istoreN (pc' := 2) X0 hx (hb hby d3_1) (Ls' := #[.val (.ref a1), .val (.int ei), .val (.int n), .val (.int (0 : Int32))]) rfl rfl ?_
  refine own_iloadN (pc' := 3) X0 hx (hb hby d3_2) rfl rfl ?_
  by_cases hc3 : (0 : Int32) < n
  · refine own_ifN (pc' := 6) X0 hx (hb hby d3_3) ((if0 _ _).trans (tlt hc3).2.2.2) rfl ?_
    refine own_iloadN (pc' := 7) X0 hx (hb hby d3_6) rfl rfl ?_
    by_cases hc7 : ei = (0 : Int32)
    · refine own_ifY X0 hx (hb hby d3_7) ((if0 _ _).trans (teq hc7).1) (by decide) (pc' := 24) (by decide) ?_
      exact J24 s₁ _ _ X0 e0 N0 (by simp [own_rk, hc3, hc7])
    · refine own_ifN (pc' := 10) X0 hx (hb hby d3_7) ((if0 _ _).trans (feq hc7).1) rfl ?_
      refine own_iloadN (pc' := 11) X0 hx (hb hby d3_10) rfl rfl ?_
      refine own_aloadN (pc' := 12) X0 hx (hb hby d3_11) rfl rfl rfl ?_
      refine own_iconst (pc' := 13) X0 hx (hb hby d3_12) (v := (0 : Int32)) rfl rfl ?_
      refine own_iaload (pc' := 14) X0 hx hZ e0 F1 (hb hby d3_13) (v := va) (by decide) (k := 0) (by decide) rfl rfl ?_
      refine own_iconst (pc' := 15) X0 hx (hb hby d3_14) (v := (0 : Int32)) rfl rfl ?_
      refine own_aloadN (pc' := 16) X0 hx (hb hby d3_15) rfl rfl rfl ?_
      refine own_iloadN (pc' := 17) X0 hx (hb hby d3_16) rfl rfl ?_
      refine own_iaload (pc' := 18) X0 hx hZ e0 F1 (hb hby d3_17) (v := ve) he hke hve rfl ?_
      refine own_iloadN (pc' := 19) X0 hx (hb hby d3_18) rfl rfl ?_
      obtain ⟨_, _, ⟨T104, L104, k104, n104⟩, -, X104, ⟨Lc104, hQ104, l104, y104, z104⟩, st104⟩ := Jvm.LawKit.callS X0 hx (y := (⟨"com/example/reciprocal/reciprocal/cbor/ItemOrderFirstEntryOutOfOrderPinLaw", "before", "(IIII)I"⟩ : MethodName)) hown (mvT hZ (hw _ (List.mem_of_getElem? (i := 13) rfl))) (mvT hZ (hw _ (List.mem_of_getElem? (i := 14) rfl))) (mvT hZ (hw _ (List.mem_of_getElem? (i := 11) rfl))) (mvT hZ (hw _ (List.mem_of_getElem? (i := 15) rfl))) (by decide) (backOf (W := 1) (rm_2 l Z a0 hw [] va (0 : Int32) ve ei h0 n0 Z0) hZ (hw _ (List.mem_of_getElem? (i := 15) rfl)) (hw _ (List.mem_of_getElem? (i := 11) rfl)) (by decide) (by decide)) (g := (mkF m 19 #[.val (.ref a1), .val (.int ei), .val (.int n), .val (.int (0 : Int32))] [(.int ei), (.int ve), (.int (0 : Int32)), (.int va), (.int (0 : Int32))])) rfl (by rw [hml]; rfl) (argsL := [(.int va), (.int (0 : Int32)), (.int ve), (.int ei)]) (rest := [(.int (0 : Int32))]) (lenOf pd_2 rfl) rfl (by show 2 * 0 + _ ≤ _; exact Nat.le_of_eq rfl) (hb hby d3_19) (fun _ _ => ⟨rfl, e0, (by decide : 0 + 0 ≤ _), (by decide : 0 + 0 ≤ _)⟩)
      dsimp only [Pt.U, Pt.locs, Pt.cells, Pt.slots] at X104 l104 y104 z104 st104 hQ104
      subst l104 y104 z104
      obtain ⟨rfl, M104, eb⟩ := hQ104
      have N104 := Fr.app N0 M104
      refine Goes.pre st104 ?_
      show Goes p e below s 0 0 (Q_3 Z a1 va vb vc vd ve ei n ke h0 n0) T104 (mkF m 22 #[.val (.ref a1), .val (.int ei), .val (.int n), .val (.int (0 : Int32))] [(.int (own_bef va (0 : Int32) ve ei)), (.int (0 : Int32))])
      refine own_iadd (pc' := 23) X104 hx (hb hby d3_22) rfl ?_
      refine own_istoreN (pc' := 24) X104 hx (hb hby d3_23) (Ls' := #[.val (.ref a1), .val (.int ei), .val (.int n), .val (.int ((0 : Int32) + (own_bef va (0 : Int32) ve ei)))]) rfl rfl ?_
      exact J24 T104 _ _ X104 eb N104 (by simp [own_rk, hc3, hc7])
  · refine own_ifY X0 hx (hb hby d3_3) ((if0 _ _).trans (flt hc3).2.2.2) (by decide) (pc' := 24) (by decide) ?_
    exact J24 s₁ _ _ X0 e0 N0 (by simp [own_rk, hc3])
theorem d2_0 : decode prog_32_method_11_code 0 = .ok (.aload_n 0, 1) := by decide +kernel
theorem d2_1 : decode prog_32_method_11_code 1 = .ok (.ifnonnull 5, 3) := by decide +kernel
theorem d2_4 : decode prog_32_method_11_code 4 = .ok (.iconst (-1), 1) := by decide +kernel
theorem d2_5 : decode prog_32_method_11_code 5 = .ok (.ireturn, 1) := by decide +kernel
theorem d2_6 : decode prog_32_method_11_code 6 = .ok (.aload_n 0, 1) := by decide +kernel
theorem d2_7 : decode prog_32_method_11_code 7 = .ok (.arraylength, 1) := by decide +kernel
theorem d2_8 : decode prog_32_method_11_code 8 = .ok (.newarray .int, 2) := by decide +kernel
theorem d2_10 : decode prog_32_method_11_code 10 = .ok (.astore_n 1, 1) := by decide +kernel
theorem d2_11 : decode prog_32_method_11_code 11 = .ok (.iconst 0, 1) := by decide +kernel
theorem d2_12 : decode prog_32_method_11_code 12 = .ok (.istore_n 2, 1) := by decide +kernel
theorem d2_13 : decode prog_32_method_11_code 13 = .ok (.iload_n 2, 1) := by decide +kernel
theorem d2_14 : decode prog_32_method_11_code 14 = .ok (.aload_n 0, 1) := by decide +kernel
theorem d2_15 : decode prog_32_method_11_code 15 = .ok (.arraylength, 1) := by decide +kernel
theorem d2_16 : decode prog_32_method_11_code 16 = .ok (.if_icmp .ge 15, 3) := by decide +kernel
theorem d2_19 : decode prog_32_method_11_code 19 = .ok (.aload_n 1, 1) := by decide +kernel
theorem d2_20 : decode prog_32_method_11_code 20 = .ok (.aload_n 0, 1) := by decide +kernel
theorem d2_21 : decode prog_32_method_11_code 21 = .ok (.iload_n 2, 1) := by decide +kernel
theorem d2_22 : decode prog_32_method_11_code 22 = .ok (.iaload, 1) := by decide +kernel
theorem d2_23 : decode prog_32_method_11_code 23 = .ok (.iload_n 2, 1) := by decide +kernel
theorem d2_24 : decode prog_32_method_11_code 24 = .ok (.iastore, 1) := by decide +kernel
theorem d2_25 : decode prog_32_method_11_code 25 = .ok (.iinc 2 1, 3) := by decide +kernel
theorem d2_28 : decode prog_32_method_11_code 28 = .ok (.goto (-15), 3) := by decide +kernel
theorem d2_31 : decode prog_32_method_11_code 31 = .ok (.iconst (-1), 1) := by decide +kernel
theorem d2_32 : decode prog_32_method_11_code 32 = .ok (.istore_n 2, 1) := by decide +kernel
theorem d2_33 : decode prog_32_method_11_code 33 = .ok (.iconst 1, 1) := by decide +kernel
theorem d2_34 : decode prog_32_method_11_code 34 = .ok (.istore_n 3, 1) := by decide +kernel
theorem d2_35 : decode prog_32_method_11_code 35 = .ok (.iload_n 3, 1) := by decide +kernel
theorem d2_36 : decode prog_32_method_11_code 36 = .ok (.aload_n 1, 1) := by decide +kernel
theorem d2_37 : decode prog_32_method_11_code 37 = .ok (.arraylength, 1) := by decide +kernel
theorem d2_38 : decode prog_32_method_11_code 38 = .ok (.if_icmp .ge 26, 3) := by decide +kernel
theorem d2_41 : decode prog_32_method_11_code 41 = .ok (.iload_n 2, 1) := by decide +kernel
theorem d2_42 : decode prog_32_method_11_code 42 = .ok (.ifCond .ge 22, 3) := by decide +kernel
theorem d2_45 : decode prog_32_method_11_code 45 = .ok (.aload_n 1, 1) := by decide +kernel
theorem d2_46 : decode prog_32_method_11_code 46 = .ok (.iload_n 3, 1) := by decide +kernel
theorem d2_47 : decode prog_32_method_11_code 47 = .ok (.iaload, 1) := by decide +kernel
theorem d2_48 : decode prog_32_method_11_code 48 = .ok (.aload_n 1, 1) := by decide +kernel
theorem d2_49 : decode prog_32_method_11_code 49 = .ok (.iload_n 3, 1) := by decide +kernel
theorem d2_50 : decode prog_32_method_11_code 50 = .ok (.iconst 1, 1) := by decide +kernel
theorem d2_51 : decode prog_32_method_11_code 51 = .ok (.isub, 1) := by decide +kernel
theorem d2_52 : decode prog_32_method_11_code 52 = .ok (.iaload, 1) := by decide +kernel
theorem d2_53 : decode prog_32_method_11_code 53 = .ok (.if_icmp .ge 5, 3) := by decide +kernel
theorem d2_56 : decode prog_32_method_11_code 56 = .ok (.iload_n 3, 1) := by decide +kernel
theorem d2_57 : decode prog_32_method_11_code 57 = .ok (.istore_n 2, 1) := by decide +kernel
theorem d2_58 : decode prog_32_method_11_code 58 = .ok (.iinc 3 1, 3) := by decide +kernel
theorem d2_61 : decode prog_32_method_11_code 61 = .ok (.goto (-26), 3) := by decide +kernel
theorem d2_64 : decode prog_32_method_11_code 64 = .ok (.iload_n 2, 1) := by decide +kernel
theorem d2_65 : decode prog_32_method_11_code 65 = .ok (.ireturn, 1) := by decide +kernel
theorem pn_5 : plainFor (⟨"com/example/reciprocal/reciprocal/cbor/ItemOrder", "firstEntryOutOfOrder", "([I)I"⟩ : MethodName) = true := by first | (refine plainFor_of_name ?_; simp [plainName, overriddenIn]; done) | decide +kernel
theorem pd_5 : parseMethodDescriptor "([I)I" = some ⟨[(.array .int)], some .int⟩ := by decide +kernel
theorem ef_5 (m : MethodId) (z1 : Int32) : entryFrame m #[(.null)] 4 = mkF m 0 #[.val (.null), .unset, .unset, .unset] [] := by first | (simp [entryFrame, mkF, argsToLocals, Value.category]; done) | rfl
def Q_5 (Z : State) (z1 : Int32) (h0 : Heap) (n0 : Nat) (v : Option Value) (h : Heap) (L : List Loc) : Prop := v = some (.int (-1 : Int32)) ∧ Fr n0 L
set_option maxRecDepth 65536 in
set_option maxHeartbeats 40000000 in
theorem rm_5 (l : Launch) (Z : State) (a0 : Array Value) (hw : ∀ d ∈ tables_1, d.before a0 Z = true) (ws : List Jvm.Cond) (z1 : Int32) (h0 : Heap) (n0 : Nat) (Z0 : n0 ≤ h0.size) :
    MetFree l (⟨"com/example/reciprocal/reciprocal/cbor/ItemOrder", "firstEntryOutOfOrder", "([I)I"⟩ : MethodName) (head1 (Jvm.Cond.code (⟨"com/example/reciprocal/reciprocal/cbor/ItemOrder", "firstEntryOutOfOrder", "([I)I"⟩ : MethodName) prog_32_method_11_code 4 (some .int) :: ws) ({ frames := 0, cells := 1, slots := 4, locals := 0 } : Room)) (fun a U => a = #[(.null)] ∧ Z.Warmed39 U.vm ∧ U.heap = h0) (fun _ _ _ _ _ => True) (fun _ U o U' => ∃ v L, o = .returned v ∧ (Q_5 Z z1 h0 n0) v U'.heap L ∧ FrameEnd U o U' L ({ frames := 0, cells := 1, slots := 4, locals := 0 } : Room).cells ({ frames := 0, cells := 1, slots := 4, locals := 0 } : Room).slots) := by
  refine MetFree.of_bodySF pn_5 hisR ?_
  intro p e s m args below meth c s₁ Bd hml0 hP hK
  obtain ⟨rfl, hZ, hh⟩ := hP
  have hx := Bd.exec
  have hby := Bd.bytes
  have hlk : meth.locks = false := BodyLoose.notSynchronized Bd
  have hml : c.maxLocals = 4 := hml0
  have hown : s.vm.findClass "com/example/reciprocal/reciprocal/cbor/ItemOrder" = some m.cls := findClass_of_methodNamed Bd.named
  have hnm := (name_of_methodNamed Bd.named Bd.method).1
  have X0 : Stand p l e ({ frames := 0, cells := 1, slots := 4, locals := 0 } : Room) s m #[(.null)] below meth c s₁ [] 0 0 := Stand.of_body Bd
  have e0 : s₁.heap = h0 := by rw [← hh, Bd.state]; rfl
  have N0 := Fr.nil n0
  refine own_enter (Q := (Q_5 Z z1 h0 n0)) (cs := 1) (ss := 4) (ef_5 m z1) ?_
  show Goes p e below s 1 4 (Q_5 Z z1 h0 n0) s₁ (mkF m 0 #[.val (.null), .unset, .unset, .unset] [])
  refine own_aloadN (pc' := 1) X0 hx (hb hby d2_0) rfl rfl rfl ?_
  refine own_ifnonnullN (pc' := 4) X0 hx (hb hby d2_1) rfl ?_
  refine own_iconst (pc' := 5) X0 hx (hb hby d2_4) (v := (-1 : Int32)) rfl rfl ?_
  exact own_retI X0 hx hlk Bd.returns (hb hby d2_5) (by decide) (by decide) ⟨rfl, N0⟩
theorem pn_4 : plainFor (⟨"com/example/reciprocal/reciprocal/cbor/ItemOrder", "firstEntryOutOfOrder", "([I)I"⟩ : MethodName) = true := by first | (refine plainFor_of_name ?_; simp [plainName, overriddenIn]; done) | decide +kernel
theorem pd_4 : parseMethodDescriptor "([I)I" = some ⟨[(.array .int)], some .int⟩ := by decide +kernel
theorem ef_4 (m : MethodId) (a1 : Addr) (ks : List Int32) : entryFrame m #[(.ref a1)] 4 = mkF m 0 #[.val (.ref a1), .unset, .unset, .unset] [] := by first | (simp [entryFrame, mkF, argsToLocals, Value.category]; done) | rfl
def Q_4 (Z : State) (a1 : Addr) (ks : List Int32) (h0 : Heap) (n0 : Nat) (v : Option Value) (h : Heap) (L : List Loc) : Prop := v = some (.int (own_first ks)) ∧ Fr n0 L
set_option maxRecDepth 65536 in
set_option maxHeartbeats 40000000 in
theorem rm_4 (l : Launch) (Z : State) (a0 : Array Value) (hw : ∀ d ∈ tables_1, d.before a0 Z = true) (ws : List Jvm.Cond) (a1 : Addr) (ks : List Int32) (h0 : Heap) (n0 : Nat) (Z0 : n0 ≤ h0.size) (F1 : own_PA Z h0 a1 .int ks) (hl4 : ks.length ≤ 4) (hks : ∀ k ∈ ks, ¬ k < 0 ∧ k.toNatClampNeg < ks.length) :
    MetFree l (⟨"com/example/reciprocal/reciprocal/cbor/ItemOrder", "firstEntryOutOfOrder", "([I)I"⟩ : MethodName) (head1 (Jvm.Cond.code (⟨"com/example/reciprocal/reciprocal/cbor/ItemOrder", "firstEntryOutOfOrder", "([I)I"⟩ : MethodName) prog_32_method_11_code 4 (some .int) :: ws) ({ frames := 0, cells := 1, slots := 4, locals := 0 } : Room)) (fun a U => a = #[(.ref a1)] ∧ Z.Warmed39 U.vm ∧ U.heap = h0) (fun _ _ _ _ _ => True) (fun _ U o U' => ∃ v L, o = .returned v ∧ (Q_4 Z a1 ks h0 n0) v U'.heap L ∧ FrameEnd U o U' L ({ frames := 0, cells := 1, slots := 4, locals := 0 } : Room).cells ({ frames := 0, cells := 1, slots := 4, locals := 0 } : Room).slots) := by
  refine MetFree.of_bodySF pn_4 hisR ?_
  intro p e s m args below meth c s₁ Bd hml0 hP hK
  obtain ⟨rfl, hZ, hh⟩ := hP
  have hx := Bd.exec
  have hby := Bd.bytes
  have hlk : meth.locks = false := BodyLoose.notSynchronized Bd
  have hml : c.maxLocals = 4 := hml0
  have hown : s.vm.findClass "com/example/reciprocal/reciprocal/cbor/ItemOrder" = some m.cls := findClass_of_methodNamed Bd.named
  have hnm := (name_of_methodNamed Bd.named Bd.method).1
  have X0 : Stand p l e ({ frames := 0, cells := 1, slots := 4, locals := 0 } : Room) s m #[(.ref a1)] below meth c s₁ [] 0 0 := Stand.of_body Bd
  have e0 : s₁.heap = h0 := by rw [← hh, Bd.state]; rfl
  have N0 := Fr.nil n0
  refine own_enter (Q := (Q_4 Z a1 ks h0 n0)) (cs := 1) (ss := 4) (ef_4 m a1 ks) ?_
  show Goes p e below s 1 4 (Q_4 Z a1 ks h0 n0) s₁ (mkF m 0 #[.val (.ref a1), .unset, .unset, .unset] [])
  refine own_aloadN (pc' := 1) X0 hx (hb hby d2_0) rfl rfl rfl ?_
  refine own_ifnonnullY X0 hx (hb hby d2_1) (by decide) (pc' := 6) (by decide) ?_
  refine own_aloadN (pc' := 7) X0 hx (hb hby d2_6) rfl rfl rfl ?_
  refine own_arraylength (pc' := 8) X0 hx hZ e0 F1 (hb hby d2_7) (n := ks.length.toInt32) rfl rfl ?_
  refine own_newarray (pc' := 10) X0 hx hZ (hw _ (List.mem_of_getElem? (i := 4) rfl)) e0 (hb hby d2_8) (k := ks.length) (cap := 4) rfl (own_nn hl4) (own_nc hl4) hl4 (by decide) (by decide) (by decide) rfl ?_
  intro T105 h105 a105 g105 X105 e105 E105 P105
  show Goes p e below s 1 4 (Q_4 Z a1 ks h0 n0) T105 (mkF m 10 #[.val (.ref a1), .unset, .unset, .unset] [(.ref a105)])
  have ne : a1 ≠ a105 := fun q => absurd (q ▸ F1.lt) (by rw [g105]; exact Nat.lt_irrefl _)
  have ga : n0 ≤ a105 := by rw [g105]; exact Z0
  have F2 := F1.ext E105
  have hfl : ∀ i, (own_fill ks i).length = ks.length := own_fill_len ks
  have L2 : ∀ (f i : Nat) (r : Int32), 1 ≤ i → i ≤ 5 → ks.length + 1 ≤ i + f → own_scan (own_fill ks ks.length) f i r = own_first ks → ∀ (TJ : State) (hJ : Heap) (LJ : List Loc), Stand p l e ({ frames := 0, cells := 1, slots := 4, locals := 0 } : Room) s m #[(.ref a1)] below meth c TJ LJ 1 4 → TJ.heap = hJ → Fr n0 LJ → own_PA Z hJ a105 .int (own_fill ks ks.length) → Goes p e below s 1 4 (Q_4 Z a1 ks h0 n0) TJ (mkF m 35 #[.val (.ref a1), .val (.ref a105), .val (.int r), .val (.int i.toInt32)] []) := by
    intro f
    induction f with
    | zero =>
      intro i r h1 h5 hf hsc TJ hJ LJ XJ eJ NJ PJ
      have hi : ¬ i.toInt32 < ks.length.toInt32 := fun q => absurd ((own_lt (by omega) (by omega)).mp q) (by omega)
      refine own_iloadN (pc' := 36) XJ hx (hb hby d2_35) rfl rfl ?_
      refine own_aloadN (pc' := 37) XJ hx (hb hby d2_36) rfl rfl rfl ?_
      refine own_arraylength (pc' := 38) XJ hx hZ eJ PJ (hb hby d2_37) (n := ks.length.toInt32) (by rw [hfl]) rfl ?_
      refine own_icmpY XJ hx (hb hby d2_38) (flt hi).2.1 (by decide) (pc' := 64) (by decide) ?_
      refine own_iloadN (pc' := 65) XJ hx (hb hby d2_64) rfl rfl ?_
      exact own_retI XJ hx hlk Bd.returns (hb hby d2_65) (by decide) (by decide) ⟨by rw [← hsc]; rfl, NJ⟩
    | succ f ih =>
      intro i r h1 h5 hf hsc TJ hJ LJ XJ eJ NJ PJ
      by_cases hlt : i < ks.length
      · have hi : i.toInt32 < ks.length.toInt32 := (own_lt (by omega) (by omega)).mpr hlt
        have hii : i < (own_fill ks ks.length).length := by rw [hfl]; exact hlt
        have hi1 : i - 1 < (own_fill ks ks.length).length := by rw [hfl]; omega
        refine own_iloadN (pc' := 36) XJ hx (hb hby d2_35) rfl rfl ?_
        refine own_aloadN (pc' := 37) XJ hx (hb hby d2_36) rfl rfl rfl ?_
        refine own_arraylength (pc' := 38) XJ hx hZ eJ PJ (hb hby d2_37) (n := ks.length.toInt32) (by rw [hfl]) rfl ?_
        refine own_icmpN (pc' := 41) XJ hx (hb hby d2_38) (tlt hi).2.1 rfl ?_
        refine own_iloadN (pc' := 42) XJ hx (hb hby d2_41) rfl rfl ?_
        by_cases hc42 : r < (0 : Int32)
        · refine own_ifN (pc' := 45) XJ hx (hb hby d2_42) ((if0 _ _).trans (tlt hc42).2.1) rfl ?_
          refine own_aloadN (pc' := 46) XJ hx (hb hby d2_45) rfl rfl rfl ?_
          refine own_iloadN (pc' := 47) XJ hx (hb hby d2_46) rfl rfl ?_
          refine own_iaload (pc' := 48) XJ hx hZ eJ PJ (hb hby d2_47) (v := ((own_fill ks ks.length).getD i 0)) (own_nn (by omega)) (own_nc (by omega)) (own_gd hii) rfl ?_
          refine own_aloadN (pc' := 49) XJ hx (hb hby d2_48) rfl rfl rfl ?_
          refine own_iloadN (pc' := 50) XJ hx (hb hby d2_49) rfl rfl ?_
          refine own_iconst (pc' := 51) XJ hx (hb hby d2_50) (v := (1 : Int32)) rfl rfl ?_
          refine own_isub (pc' := 52) XJ hx (hb hby d2_51) rfl ?_
          refine own_iaload (pc' := 53) XJ hx hZ eJ PJ (hb hby d2_52) (v := ((own_fill ks ks.length).getD (i - 1) 0)) (own_nn1 h1 h5) (own_nc1 h1 h5) (own_gd hi1) rfl ?_
          by_cases hc53 : ((own_fill ks ks.length).getD i 0) < ((own_fill ks ks.length).getD (i - 1) 0)
          · refine own_icmpN (pc' := 56) XJ hx (hb hby d2_53) (tlt hc53).2.1 rfl ?_
            refine own_iloadN (pc' := 57) XJ hx (hb hby d2_56) rfl rfl ?_
            refine own_istoreN (pc' := 58) XJ hx (hb hby d2_57) (Ls' := #[.val (.ref a1), .val (.ref a105), .val (.int i.toInt32), .val (.int i.toInt32)]) rfl rfl ?_
            refine own_iinc (pc' := 61) XJ hx (hb hby d2_58) rfl (y := (i + 1).toInt32) (own_i1 i) (Ls' := #[.val (.ref a1), .val (.ref a105), .val (.int i.toInt32), .val (.int (i + 1).toInt32)]) rfl rfl ?_
            refine own_goto XJ hx (hb hby d2_61) (by decide) (pc' := 35) (by decide) ?_
            exact ih (i + 1) _ (by omega) (by omega) (by omega) (by rw [← hsc]; simp only [own_scan, if_pos hii, if_pos hc42, if_pos hc53]) _ _ _ XJ eJ NJ PJ
          · refine own_icmpY XJ hx (hb hby d2_53) (flt hc53).2.1 (by decide) (pc' := 58) (by decide) ?_
            refine own_iinc (pc' := 61) XJ hx (hb hby d2_58) rfl (y := (i + 1).toInt32) (own_i1 i) (Ls' := #[.val (.ref a1), .val (.ref a105), .val (.int r), .val (.int (i + 1).toInt32)]) rfl rfl ?_
            refine own_goto XJ hx (hb hby d2_61) (by decide) (pc' := 35) (by decide) ?_
            exact ih (i + 1) _ (by omega) (by omega) (by omega) (by rw [← hsc]; simp only [own_scan, if_pos hii, if_pos hc42, if_neg hc53]) _ _ _ XJ eJ NJ PJ
        · refine own_ifY XJ hx (hb hby d2_42) ((if0 _ _).trans (flt hc42).2.1) (by decide) (pc' := 64) (by decide) ?_
          refine own_iloadN (pc' := 65) XJ hx (hb hby d2_64) rfl rfl ?_
          exact own_retI XJ hx hlk Bd.returns (hb hby d2_65) (by decide) (by decide) ⟨by rw [← hsc]; simp only [own_scan, if_pos hii, if_neg hc42], NJ⟩
      · have hi : ¬ i.toInt32 < ks.length.toInt32 := fun q => hlt ((own_lt (by omega) (by omega)).mp q)
        have hii : ¬ i < (own_fill ks ks.length).length := by rw [hfl]; exact hlt
        refine own_iloadN (pc' := 36) XJ hx (hb hby d2_35) rfl rfl ?_
        refine own_aloadN (pc' := 37) XJ hx (hb hby d2_36) rfl rfl rfl ?_
        refine own_arraylength (pc' := 38) XJ hx hZ eJ PJ (hb hby d2_37) (n := ks.length.toInt32) (by rw [hfl]) rfl ?_
        refine own_icmpY XJ hx (hb hby d2_38) (flt hi).2.1 (by decide) (pc' := 64) (by decide) ?_
        refine own_iloadN (pc' := 65) XJ hx (hb hby d2_64) rfl rfl ?_
        exact own_retI XJ hx hlk Bd.returns (hb hby d2_65) (by decide) (by decide) ⟨by rw [← hsc]; simp only [own_scan, if_neg hii], NJ⟩
  have L1 : ∀ (d i : Nat), i + d = ks.length → ∀ (TJ : State) (hJ : Heap) (LJ : List Loc), Stand p l e ({ frames := 0, cells := 1, slots := 4, locals := 0 } : Room) s m #[(.ref a1)] below meth c TJ LJ 1 4 → TJ.heap = hJ → Fr n0 LJ → own_PA Z hJ a1 .int ks → own_PA Z hJ a105 .int (own_fill ks i) → Goes p e below s 1 4 (Q_4 Z a1 ks h0 n0) TJ (mkF m 13 #[.val (.ref a1), .val (.ref a105), .val (.int i.toInt32), .unset] []) := by
    intro d
    induction d with
    | zero =>
      intro i hd TJ hJ LJ XJ eJ NJ QJ PJ
      have hi : ¬ i.toInt32 < ks.length.toInt32 := fun q => absurd ((own_lt (by omega) (by omega)).mp q) (by omega)
      obtain rfl : i = ks.length := by omega
      refine own_iloadN (pc' := 14) XJ hx (hb hby d2_13) rfl rfl ?_
      refine own_aloadN (pc' := 15) XJ hx (hb hby d2_14) rfl rfl rfl ?_
      refine own_arraylength (pc' := 16) XJ hx hZ eJ QJ (hb hby d2_15) (n := ks.length.toInt32) rfl rfl ?_
      refine own_icmpY XJ hx (hb hby d2_16) (flt hi).2.1 (by decide) (pc' := 31) (by decide) ?_
      refine own_iconst (pc' := 32) XJ hx (hb hby d2_31) (v := (-1 : Int32)) rfl rfl ?_
      refine own_istoreN (pc' := 33) XJ hx (hb hby d2_32) (Ls' := #[.val (.ref a1), .val (.ref a105), .val (.int (-1 : Int32)), .unset]) rfl rfl ?_
      refine own_iconst (pc' := 34) XJ hx (hb hby d2_33) (v := (1 : Int32)) rfl rfl ?_
      refine own_istoreN (pc' := 35) XJ hx (hb hby d2_34) (Ls' := #[.val (.ref a1), .val (.ref a105), .val (.int (-1 : Int32)), .val (.int (1 : Int32))]) rfl rfl ?_
      exact L2 5 1 _ (by omega) (by omega) (by omega) rfl _ _ _ XJ eJ NJ PJ
    | succ d ih =>
      intro i hd TJ hJ LJ XJ eJ NJ QJ PJ
      have hi : i.toInt32 < ks.length.toInt32 := (own_lt (by omega) (by omega)).mpr (by omega)
      have hil : i < ks.length := by omega
      have hk := hks (ks.getD i 0) (own_mem hil)
      refine own_iloadN (pc' := 14) XJ hx (hb hby d2_13) rfl rfl ?_
      refine own_aloadN (pc' := 15) XJ hx (hb hby d2_14) rfl rfl rfl ?_
      refine own_arraylength (pc' := 16) XJ hx hZ eJ QJ (hb hby d2_15) (n := ks.length.toInt32) rfl rfl ?_
      refine own_icmpN (pc' := 19) XJ hx (hb hby d2_16) (tlt hi).2.1 rfl ?_
      refine own_aloadN (pc' := 20) XJ hx (hb hby d2_19) rfl rfl rfl ?_
      refine own_aloadN (pc' := 21) XJ hx (hb hby d2_20) rfl rfl rfl ?_
      refine own_iloadN (pc' := 22) XJ hx (hb hby d2_21) rfl rfl ?_
      refine own_iaload (pc' := 23) XJ hx hZ eJ QJ (hb hby d2_22) (v := (ks.getD i 0)) (own_nn (by omega)) (own_nc (by omega)) (own_gd hil) rfl ?_
      refine own_iloadN (pc' := 24) XJ hx (hb hby d2_23) rfl rfl ?_
      refine own_iastore (pc' := 25) XJ hx hZ eJ PJ (hb hby d2_24) hk.1 rfl (by rw [hfl]; exact hk.2) rfl ?_
      intro T106 h106 X106 e106 W106 P106
      have N106 := Fr.snoc X106 NJ ga
      have P106_a1 := QJ.other W106 ne
      show Goes p e below s 1 4 (Q_4 Z a1 ks h0 n0) T106 (mkF m 25 #[.val (.ref a1), .val (.ref a105), .val (.int i.toInt32), .unset] [])
      refine own_iinc (pc' := 28) X106 hx (hb hby d2_25) rfl (y := (i + 1).toInt32) (own_i1 i) (Ls' := #[.val (.ref a1), .val (.ref a105), .val (.int (i + 1).toInt32), .unset]) rfl rfl ?_
      refine own_goto X106 hx (hb hby d2_28) (by decide) (pc' := 13) (by decide) ?_
      exact ih (i + 1) (by omega) _ _ _ X106 e106 N106 P106_a1 P106
  refine own_astoreN (pc' := 11) X105 hx (hb hby d2_10) rfl (Ls' := #[.val (.ref a1), .val (.ref a105), .unset, .unset]) rfl rfl ?_
  refine own_iconst (pc' := 12) X105 hx (hb hby d2_11) (v := (0 : Int32)) rfl rfl ?_
  refine own_istoreN (pc' := 13) X105 hx (hb hby d2_12) (Ls' := #[.val (.ref a1), .val (.ref a105), .val (.int (0 : Int32)), .unset]) rfl rfl ?_
  exact L1 ks.length 0 (by omega) _ _ _ X105 e105 N0 F2 P105
theorem pn_0 : plainFor x = true := by first | (refine plainFor_of_name ?_; simp [plainName, overriddenIn, x]; done) | decide +kernel
theorem pd_0 : parseMethodDescriptor "(IIIII)Z" = some ⟨[.int, .int, .int, .int, .int], some .boolean⟩ := by decide +kernel
theorem ef_0 (m : MethodId) (q0 : Int32) (q1 : Int32) (q2 : Int32) (q3 : Int32) (q4 : Int32) : entryFrame m #[(.int q0), (.int q1), (.int q2), (.int q3), (.int q4)] maxLocals = mkF m 0 #[.val (.int q0), .val (.int q1), .val (.int q2), .val (.int q3), .val (.int q4), .unset, .unset, .unset, .unset, .unset, .unset] [] := by first | (simp [entryFrame, mkF, argsToLocals, Value.category, maxLocals]; done) | rfl
def Q_0 (Z : State) (q0 : Int32) (q1 : Int32) (q2 : Int32) (q3 : Int32) (q4 : Int32) (h0 : Heap) (n0 : Nat) (v : Option Value) (h : Heap) (L : List Loc) : Prop := v = some (.int 1) ∧ Fr n0 L
set_option maxRecDepth 65536 in
set_option maxHeartbeats 40000000 in
theorem rm_0 (l : Launch) (Z : State) (a0 : Array Value) (hw : ∀ d ∈ tables_1, d.before a0 Z = true) (ws : List Jvm.Cond) (q0 : Int32) (q1 : Int32) (q2 : Int32) (q3 : Int32) (q4 : Int32) (h0 : Heap) (n0 : Nat) (Z0 : n0 ≤ h0.size) :
    MetFree l x (head1 (Jvm.Cond.code x code maxLocals ret :: ws) room_1) (fun a U => a = #[(.int q0), (.int q1), (.int q2), (.int q3), (.int q4)] ∧ Z.Warmed39 U.vm ∧ U.heap = h0) (fun _ _ _ _ _ => True) (fun _ U o U' => ∃ v L, o = .returned v ∧ (Q_0 Z q0 q1 q2 q3 q4 h0 n0) v U'.heap L ∧ FrameEnd U o U' L room_1.cells room_1.slots) := by
  refine MetFree.of_bodySF pn_0 hisR ?_
  intro p e s m args below meth c s₁ Bd hml0 hP hK
  obtain ⟨rfl, hZ, hh⟩ := hP
  have hx := Bd.exec
  have hby := Bd.bytes
  have hlk : meth.locks = false := BodyLoose.notSynchronized Bd
  have hml : c.maxLocals = 11 := hml0
  have hown : s.vm.findClass "com/example/reciprocal/reciprocal/cbor/ItemOrderFirstEntryOutOfOrderPinLaw" = some m.cls := findClass_of_methodNamed Bd.named
  have hnm := (name_of_methodNamed Bd.named Bd.method).1
  have X0 : Stand p l e room_1 s m #[(.int q0), (.int q1), (.int q2), (.int q3), (.int q4)] below meth c s₁ [] 0 0 := Stand.of_body Bd
  have e0 : s₁.heap = h0 := by rw [← hh, Bd.state]; rfl
  have N0 := Fr.nil n0
  refine own_enter (Q := (Q_0 Z q0 q1 q2 q3 q4 h0 n0)) (cs := 16) (ss := 128) (ef_0 m q0 q1 q2 q3 q4) ?_
  have Jnull : ∀ (TJ : State) (LJ : List Loc) (nn : Int32), Stand p l e room_1 s m #[(.int q0), (.int q1), (.int q2), (.int q3), (.int q4)] below meth c TJ LJ 0 0 → TJ.heap = h0 → Fr n0 LJ → Goes p e below s 16 128 (Q_0 Z q0 q1 q2 q3 q4 h0 n0) TJ (mkF m 29 #[.val (.int q0), .val (.int q1), .val (.int q2), .val (.int q3), .val (.int q4), .val (.int (q4 &&& (7 : Int32))), .val (.int (1 : Int32)), .val (.int nn), .unset, .unset, .unset] []) := by
    intro TJ LJ nn XJ eJ NJ
    refine own_iconst (pc' := 30) XJ hx (hb hby at_29) (v := (4 : Int32)) rfl rfl ?_
    refine own_newarray (pc' := 32) XJ hx hZ (hw _ (List.mem_of_getElem? (i := 4) rfl)) eJ (hb hby at_30) (k := 4) (cap := 4) rfl (by decide) rfl (by decide) (by decide) (by decide) (by decide) rfl ?_
    intro T107 h107 a107 g107 X107 e107 E107 P107
    show Goes p e below s 16 128 (Q_0 Z q0 q1 q2 q3 q4 h0 n0) T107 (mkF m 32 #[.val (.int q0), .val (.int q1), .val (.int q2), .val (.int q3), .val (.int q4), .val (.int (q4 &&& (7 : Int32))), .val (.int (1 : Int32)), .val (.int nn), .unset, .unset, .unset] [(.ref a107)])
    have Zv : n0 ≤ Array.size h107 := Nat.le_trans Z0 E107.1
    have gv : n0 ≤ a107 := by rw [g107]; exact Z0
    refine own_dup (pc' := 33) X107 hx (hb hby at_32) rfl rfl ?_
    refine own_iconst (pc' := 34) X107 hx (hb hby at_33) (v := (0 : Int32)) rfl rfl ?_
    refine own_iloadN (pc' := 35) X107 hx (hb hby at_34) rfl rfl ?_
    refine own_iastore (pc' := 36) X107 hx hZ e107 P107 (hb hby at_35) (by decide) (k := 0) (by decide) (by simp) rfl ?_
    intro T108 h108 X108 e108 W108 P108
    have N108 := Fr.snoc X108 NJ gv
    have Z108 : n0 ≤ Array.size h108 := by rw [W108.size]; exact Zv
    show Goes p e below s 16 128 (Q_0 Z q0 q1 q2 q3 q4 h0 n0) T108 (mkF m 36 #[.val (.int q0), .val (.int q1), .val (.int q2), .val (.int q3), .val (.int q4), .val (.int (q4 &&& (7 : Int32))), .val (.int (1 : Int32)), .val (.int nn), .unset, .unset, .unset] [(.ref a107)])
    refine own_dup (pc' := 37) X108 hx (hb hby at_36) rfl rfl ?_
    refine own_iconst (pc' := 38) X108 hx (hb hby at_37) (v := (1 : Int32)) rfl rfl ?_
    refine own_iloadN (pc' := 39) X108 hx (hb hby at_38) rfl rfl ?_
    refine own_iastore (pc' := 40) X108 hx hZ e108 P108 (hb hby at_39) (by decide) (k := 1) (by decide) (by simp) rfl ?_
    intro T109 h109 X109 e109 W109 P109
    have N109 := Fr.snoc X109 N108 gv
    have Z109 : n0 ≤ Array.size h109 := by rw [W109.size]; exact Z108
    show Goes p e below s 16 128 (Q_0 Z q0 q1 q2 q3 q4 h0 n0) T109 (mkF m 40 #[.val (.int q0), .val (.int q1), .val (.int q2), .val (.int q3), .val (.int q4), .val (.int (q4 &&& (7 : Int32))), .val (.int (1 : Int32)), .val (.int nn), .unset, .unset, .unset] [(.ref a107)])
    refine own_dup (pc' := 41) X109 hx (hb hby at_40) rfl rfl ?_
    refine own_iconst (pc' := 42) X109 hx (hb hby at_41) (v := (2 : Int32)) rfl rfl ?_
    refine own_iloadN (pc' := 43) X109 hx (hb hby at_42) rfl rfl ?_
    refine own_iastore (pc' := 44) X109 hx hZ e109 P109 (hb hby at_43) (by decide) (k := 2) (by decide) (by simp) rfl ?_
    intro T110 h110 X110 e110 W110 P110
    have N110 := Fr.snoc X110 N109 gv
    have Z110 : n0 ≤ Array.size h110 := by rw [W110.size]; exact Z109
    show Goes p e below s 16 128 (Q_0 Z q0 q1 q2 q3 q4 h0 n0) T110 (mkF m 44 #[.val (.int q0), .val (.int q1), .val (.int q2), .val (.int q3), .val (.int q4), .val (.int (q4 &&& (7 : Int32))), .val (.int (1 : Int32)), .val (.int nn), .unset, .unset, .unset] [(.ref a107)])
    refine own_dup (pc' := 45) X110 hx (hb hby at_44) rfl rfl ?_
    refine own_iconst (pc' := 46) X110 hx (hb hby at_45) (v := (3 : Int32)) rfl rfl ?_
    refine own_iloadN (pc' := 47) X110 hx (hb hby at_46) rfl rfl ?_
    refine own_iastore (pc' := 48) X110 hx hZ e110 P110 (hb hby at_47) (by decide) (k := 3) (by decide) (by simp) rfl ?_
    intro T111 h111 X111 e111 W111 P111
    have N111 := Fr.snoc X111 N110 gv
    have Z111 : n0 ≤ Array.size h111 := by rw [W111.size]; exact Z110
    show Goes p e below s 16 128 (Q_0 Z q0 q1 q2 q3 q4 h0 n0) T111 (mkF m 48 #[.val (.int q0), .val (.int q1), .val (.int q2), .val (.int q3), .val (.int q4), .val (.int (q4 &&& (7 : Int32))), .val (.int (1 : Int32)), .val (.int nn), .unset, .unset, .unset] [(.ref a107)])
    have Pv : own_PA Z h111 a107 .int [q0, q1, q2, q3] := P111
    refine own_astore (pc' := 50) X111 hx (hb hby at_48) rfl (Ls' := #[.val (.int q0), .val (.int q1), .val (.int q2), .val (.int q3), .val (.int q4), .val (.int (q4 &&& (7 : Int32))), .val (.int (1 : Int32)), .val (.int nn), .val (.ref a107), .unset, .unset]) rfl rfl ?_
    refine own_aconstNull (pc' := 51) X111 hx (hb hby at_50) rfl ?_
    refine own_astore (pc' := 53) X111 hx (hb hby at_51) rfl (Ls' := #[.val (.int q0), .val (.int q1), .val (.int q2), .val (.int q3), .val (.int q4), .val (.int (q4 &&& (7 : Int32))), .val (.int (1 : Int32)), .val (.int nn), .val (.ref a107), .val (.null), .unset]) rfl rfl ?_
    refine own_iload (pc' := 55) X111 hx (hb hby at_53) rfl rfl ?_
    refine own_ifY X111 hx (hb hby at_55) (by decide) (by decide) (pc' := 135) (by decide) ?_
    refine own_iload (pc' := 137) X111 hx (hb hby at_135) rfl rfl ?_
    refine own_ifN (pc' := 140) X111 hx (hb hby at_137) (by decide) rfl ?_
    refine own_iconst (pc' := 141) X111 hx (hb hby at_140) (v := (-1 : Int32)) rfl rfl ?_
    refine own_istore (pc' := 143) X111 hx (hb hby at_141) (Ls' := #[.val (.int q0), .val (.int q1), .val (.int q2), .val (.int q3), .val (.int q4), .val (.int (q4 &&& (7 : Int32))), .val (.int (1 : Int32)), .val (.int nn), .val (.ref a107), .val (.null), .val (.int (-1 : Int32))]) rfl rfl ?_
    refine own_goto X111 hx (hb hby at_143) (by decide) (pc' := 200) (by decide) ?_
    refine own_aload (pc' := 202) X111 hx (hb hby at_200) rfl rfl rfl ?_
    obtain ⟨_, _, ⟨T112, L112, k112, n112⟩, -, X112, ⟨Lc112, hQ112, l112, y112, z112⟩, st112⟩ := Jvm.LawKit.callS X111 hx (y := (⟨"com/example/reciprocal/reciprocal/cbor/ItemOrder", "firstEntryOutOfOrder", "([I)I"⟩ : MethodName)) hown (mvT hZ (hw _ (List.mem_of_getElem? (i := 5) rfl))) (mvT hZ (hw _ (List.mem_of_getElem? (i := 6) rfl))) (mvT hZ (hw _ (List.mem_of_getElem? (i := 7) rfl))) (mvT hZ (hw _ (List.mem_of_getElem? (i := 8) rfl))) (by decide) (backOf (W := 0) (rm_5 l Z a0 hw [] 0 h111 n0 (Z111)) hZ (hw _ (List.mem_of_getElem? (i := 8) rfl)) (hw _ (List.mem_of_getElem? (i := 7) rfl)) (by decide) (by decide)) (g := (mkF m 202 #[.val (.int q0), .val (.int q1), .val (.int q2), .val (.int q3), .val (.int q4), .val (.int (q4 &&& (7 : Int32))), .val (.int (1 : Int32)), .val (.int nn), .val (.ref a107), .val (.null), .val (.int (-1 : Int32))] [(.null)])) rfl (by rw [hml]; rfl) (argsL := [(.null)]) (rest := []) (lenOf pd_5 rfl) rfl (by show 2 * 0 + _ ≤ _; exact Nat.le_of_eq rfl) (hb hby at_202) (fun _ _ => ⟨rfl, e111, (by decide : 1 + 1 ≤ _), (by decide : 4 + 4 ≤ _)⟩)
    dsimp only [Pt.U, Pt.locs, Pt.cells, Pt.slots] at X112 l112 y112 z112 st112 hQ112
    subst l112 y112 z112
    obtain ⟨rfl, M112⟩ := hQ112
    have N112 := Fr.app N111 M112
    refine Goes.pre st112 ?_
    show Goes p e below s 16 128 (Q_0 Z q0 q1 q2 q3 q4 h0 n0) T112 (mkF m 205 #[.val (.int q0), .val (.int q1), .val (.int q2), .val (.int q3), .val (.int q4), .val (.int (q4 &&& (7 : Int32))), .val (.int (1 : Int32)), .val (.int nn), .val (.ref a107), .val (.null), .val (.int (-1 : Int32))] [(.int (-1 : Int32))])
    refine own_iload (pc' := 207) X112 hx (hb hby at_205) rfl rfl ?_
    refine own_icmpN (pc' := 210) X112 hx (hb hby at_207) (by decide) rfl ?_
    refine own_iconst (pc' := 211) X112 hx (hb hby at_210) (v := (1 : Int32)) rfl rfl ?_
    refine own_goto X112 hx (hb hby at_211) (by decide) (pc' := 215) (by decide) ?_
    exact own_retN X112 hx hlk (t := .boolean) Bd.returns (by simp) (hb hby at_215) (by decide) (by decide) ⟨rfl, N112⟩
  have J0_n : ∀ (TJ : State) (LJ : List Loc), Stand p l e room_1 s m #[(.int q0), (.int q1), (.int q2), (.int q3), (.int q4)] below meth c TJ LJ 0 0 → TJ.heap = h0 → Fr n0 LJ → Goes p e below s 16 128 (Q_0 Z q0 q1 q2 q3 q4 h0 n0) TJ (mkF m 29 #[.val (.int q0), .val (.int q1), .val (.int q2), .val (.int q3), .val (.int q4), .val (.int (q4 &&& (7 : Int32))), .val (.int (0 : Int32)), .val (.int (0 : Int32)), .unset, .unset, .unset] []) := by
    intro TJ LJ XJ eJ NJ
    refine own_iconst (pc' := 30) XJ hx (hb hby at_29) (v := (4 : Int32)) rfl rfl ?_
    refine own_newarray (pc' := 32) XJ hx hZ (hw _ (List.mem_of_getElem? (i := 4) rfl)) eJ (hb hby at_30) (k := 4) (cap := 4) rfl (by decide) rfl (by decide) (by decide) (by decide) (by decide) rfl ?_
    intro T113 h113 a113 g113 X113 e113 E113 P113
    show Goes p e below s 16 128 (Q_0 Z q0 q1 q2 q3 q4 h0 n0) T113 (mkF m 32 #[.val (.int q0), .val (.int q1), .val (.int q2), .val (.int q3), .val (.int q4), .val (.int (q4 &&& (7 : Int32))), .val (.int (0 : Int32)), .val (.int (0 : Int32)), .unset, .unset, .unset] [(.ref a113)])
    have Zv : n0 ≤ Array.size h113 := Nat.le_trans Z0 E113.1
    have gv : n0 ≤ a113 := by rw [g113]; exact Z0
    refine own_dup (pc' := 33) X113 hx (hb hby at_32) rfl rfl ?_
    refine own_iconst (pc' := 34) X113 hx (hb hby at_33) (v := (0 : Int32)) rfl rfl ?_
    refine own_iloadN (pc' := 35) X113 hx (hb hby at_34) rfl rfl ?_
    refine own_iastore (pc' := 36) X113 hx hZ e113 P113 (hb hby at_35) (by decide) (k := 0) (by decide) (by simp) rfl ?_
    intro T114 h114 X114 e114 W114 P114
    have N114 := Fr.snoc X114 NJ gv
    have Z114 : n0 ≤ Array.size h114 := by rw [W114.size]; exact Zv
    show Goes p e below s 16 128 (Q_0 Z q0 q1 q2 q3 q4 h0 n0) T114 (mkF m 36 #[.val (.int q0), .val (.int q1), .val (.int q2), .val (.int q3), .val (.int q4), .val (.int (q4 &&& (7 : Int32))), .val (.int (0 : Int32)), .val (.int (0 : Int32)), .unset, .unset, .unset] [(.ref a113)])
    refine own_dup (pc' := 37) X114 hx (hb hby at_36) rfl rfl ?_
    refine own_iconst (pc' := 38) X114 hx (hb hby at_37) (v := (1 : Int32)) rfl rfl ?_
    refine own_iloadN (pc' := 39) X114 hx (hb hby at_38) rfl rfl ?_
    refine own_iastore (pc' := 40) X114 hx hZ e114 P114 (hb hby at_39) (by decide) (k := 1) (by decide) (by simp) rfl ?_
    intro T115 h115 X115 e115 W115 P115
    have N115 := Fr.snoc X115 N114 gv
    have Z115 : n0 ≤ Array.size h115 := by rw [W115.size]; exact Z114
    show Goes p e below s 16 128 (Q_0 Z q0 q1 q2 q3 q4 h0 n0) T115 (mkF m 40 #[.val (.int q0), .val (.int q1), .val (.int q2), .val (.int q3), .val (.int q4), .val (.int (q4 &&& (7 : Int32))), .val (.int (0 : Int32)), .val (.int (0 : Int32)), .unset, .unset, .unset] [(.ref a113)])
    refine own_dup (pc' := 41) X115 hx (hb hby at_40) rfl rfl ?_
    refine own_iconst (pc' := 42) X115 hx (hb hby at_41) (v := (2 : Int32)) rfl rfl ?_
    refine own_iloadN (pc' := 43) X115 hx (hb hby at_42) rfl rfl ?_
    refine own_iastore (pc' := 44) X115 hx hZ e115 P115 (hb hby at_43) (by decide) (k := 2) (by decide) (by simp) rfl ?_
    intro T116 h116 X116 e116 W116 P116
    have N116 := Fr.snoc X116 N115 gv
    have Z116 : n0 ≤ Array.size h116 := by rw [W116.size]; exact Z115
    show Goes p e below s 16 128 (Q_0 Z q0 q1 q2 q3 q4 h0 n0) T116 (mkF m 44 #[.val (.int q0), .val (.int q1), .val (.int q2), .val (.int q3), .val (.int q4), .val (.int (q4 &&& (7 : Int32))), .val (.int (0 : Int32)), .val (.int (0 : Int32)), .unset, .unset, .unset] [(.ref a113)])
    refine own_dup (pc' := 45) X116 hx (hb hby at_44) rfl rfl ?_
    refine own_iconst (pc' := 46) X116 hx (hb hby at_45) (v := (3 : Int32)) rfl rfl ?_
    refine own_iloadN (pc' := 47) X116 hx (hb hby at_46) rfl rfl ?_
    refine own_iastore (pc' := 48) X116 hx hZ e116 P116 (hb hby at_47) (by decide) (k := 3) (by decide) (by simp) rfl ?_
    intro T117 h117 X117 e117 W117 P117
    have N117 := Fr.snoc X117 N116 gv
    have Z117 : n0 ≤ Array.size h117 := by rw [W117.size]; exact Z116
    show Goes p e below s 16 128 (Q_0 Z q0 q1 q2 q3 q4 h0 n0) T117 (mkF m 48 #[.val (.int q0), .val (.int q1), .val (.int q2), .val (.int q3), .val (.int q4), .val (.int (q4 &&& (7 : Int32))), .val (.int (0 : Int32)), .val (.int (0 : Int32)), .unset, .unset, .unset] [(.ref a113)])
    have Pv : own_PA Z h117 a113 .int [q0, q1, q2, q3] := P117
    refine own_astore (pc' := 50) X117 hx (hb hby at_48) rfl (Ls' := #[.val (.int q0), .val (.int q1), .val (.int q2), .val (.int q3), .val (.int q4), .val (.int (q4 &&& (7 : Int32))), .val (.int (0 : Int32)), .val (.int (0 : Int32)), .val (.ref a113), .unset, .unset]) rfl rfl ?_
    refine own_aconstNull (pc' := 51) X117 hx (hb hby at_50) rfl ?_
    refine own_astore (pc' := 53) X117 hx (hb hby at_51) rfl (Ls' := #[.val (.int q0), .val (.int q1), .val (.int q2), .val (.int q3), .val (.int q4), .val (.int (q4 &&& (7 : Int32))), .val (.int (0 : Int32)), .val (.int (0 : Int32)), .val (.ref a113), .val (.null), .unset]) rfl rfl ?_
    refine own_iload (pc' := 55) X117 hx (hb hby at_53) rfl rfl ?_
    refine own_ifN (pc' := 58) X117 hx (hb hby at_55) (by decide) rfl ?_
    refine own_iload (pc' := 60) X117 hx (hb hby at_58) rfl rfl ?_
    refine own_newarray (pc' := 62) X117 hx hZ (hw _ (List.mem_of_getElem? (i := 4) rfl)) e117 (hb hby at_60) (k := 0) (cap := 4) rfl (by decide) rfl (by decide) (by decide) (by decide) (by decide) rfl ?_
    intro T118 h118 a118 g118 X118 e118 E118 P118
    show Goes p e below s 16 128 (Q_0 Z q0 q1 q2 q3 q4 h0 n0) T118 (mkF m 62 #[.val (.int q0), .val (.int q1), .val (.int q2), .val (.int q3), .val (.int q4), .val (.int (q4 &&& (7 : Int32))), .val (.int (0 : Int32)), .val (.int (0 : Int32)), .val (.ref a113), .val (.null), .unset] [(.ref a118)])
    have Pw := Pv.ext E118
    have go : n0 ≤ a118 := by rw [g118]; exact Z117
    have Zo : n0 ≤ Array.size h118 := Nat.le_trans Z117 E118.1
    have ne : a113 ≠ a118 := fun q => absurd (q ▸ Pv.lt) (by rw [g118]; exact Nat.lt_irrefl _)
    refine own_astore (pc' := 64) X118 hx (hb hby at_62) rfl (Ls' := #[.val (.int q0), .val (.int q1), .val (.int q2), .val (.int q3), .val (.int q4), .val (.int (q4 &&& (7 : Int32))), .val (.int (0 : Int32)), .val (.int (0 : Int32)), .val (.ref a113), .val (.ref a118), .unset]) rfl rfl ?_
    refine own_iload (pc' := 66) X118 hx (hb hby at_64) rfl rfl ?_
    refine own_ifY X118 hx (hb hby at_66) (by decide) (by decide) (pc' := 81) (by decide) ?_
    refine own_iload (pc' := 83) X118 hx (hb hby at_81) rfl rfl ?_
    refine own_iconst (pc' := 84) X118 hx (hb hby at_83) (v := (1 : Int32)) rfl rfl ?_
    refine own_icmpY X118 hx (hb hby at_84) (by decide) (by decide) (pc' := 99) (by decide) ?_
    refine own_iload (pc' := 101) X118 hx (hb hby at_99) rfl rfl ?_
    refine own_iconst (pc' := 102) X118 hx (hb hby at_101) (v := (2 : Int32)) rfl rfl ?_
    refine own_icmpY X118 hx (hb hby at_102) (by decide) (by decide) (pc' := 117) (by decide) ?_
    refine own_iload (pc' := 119) X118 hx (hb hby at_117) rfl rfl ?_
    refine own_iconst (pc' := 120) X118 hx (hb hby at_119) (v := (3 : Int32)) rfl rfl ?_
    refine own_icmpY X118 hx (hb hby at_120) (by decide) (by decide) (pc' := 135) (by decide) ?_
    refine own_iload (pc' := 137) X118 hx (hb hby at_135) rfl rfl ?_
    refine own_ifY X118 hx (hb hby at_137) (by decide) (by decide) (pc' := 146) (by decide) ?_
    refine own_iload (pc' := 148) X118 hx (hb hby at_146) rfl rfl ?_
    refine own_iconst (pc' := 149) X118 hx (hb hby at_148) (v := (1 : Int32)) rfl rfl ?_
    refine own_icmpY X118 hx (hb hby at_149) (by decide) (by decide) (pc' := 163) (by decide) ?_
    refine own_iload (pc' := 165) X118 hx (hb hby at_163) rfl rfl ?_
    refine own_iconst (pc' := 166) X118 hx (hb hby at_165) (v := (2 : Int32)) rfl rfl ?_
    refine own_icmpY X118 hx (hb hby at_166) (by decide) (by decide) (pc' := 180) (by decide) ?_
    refine own_iload (pc' := 182) X118 hx (hb hby at_180) rfl rfl ?_
    refine own_iconst (pc' := 183) X118 hx (hb hby at_182) (v := (3 : Int32)) rfl rfl ?_
    refine own_icmpY X118 hx (hb hby at_183) (by decide) (by decide) (pc' := 197) (by decide) ?_
    refine own_iconst (pc' := 198) X118 hx (hb hby at_197) (v := (-1 : Int32)) rfl rfl ?_
    refine own_istore (pc' := 200) X118 hx (hb hby at_198) (Ls' := #[.val (.int q0), .val (.int q1), .val (.int q2), .val (.int q3), .val (.int q4), .val (.int (q4 &&& (7 : Int32))), .val (.int (0 : Int32)), .val (.int (0 : Int32)), .val (.ref a113), .val (.ref a118), .val (.int (-1 : Int32))]) rfl rfl ?_
    refine own_aload (pc' := 202) X118 hx (hb hby at_200) rfl rfl rfl ?_
    obtain ⟨_, _, ⟨T119, L119, k119, n119⟩, -, X119, ⟨Lc119, hQ119, l119, y119, z119⟩, st119⟩ := Jvm.LawKit.callS X118 hx (y := (⟨"com/example/reciprocal/reciprocal/cbor/ItemOrder", "firstEntryOutOfOrder", "([I)I"⟩ : MethodName)) hown (mvT hZ (hw _ (List.mem_of_getElem? (i := 5) rfl))) (mvT hZ (hw _ (List.mem_of_getElem? (i := 6) rfl))) (mvT hZ (hw _ (List.mem_of_getElem? (i := 7) rfl))) (mvT hZ (hw _ (List.mem_of_getElem? (i := 8) rfl))) (by decide) (backOf (W := 0) (rm_4 l Z a0 hw [] a118 (own_ks0 q0 q1 q2 q3) h118 n0 Zo P118 (own_law0 q0 q1 q2 q3).1 (own_law0 q0 q1 q2 q3).2.1) hZ (hw _ (List.mem_of_getElem? (i := 8) rfl)) (hw _ (List.mem_of_getElem? (i := 7) rfl)) (by decide) (by decide)) (g := (mkF m 202 #[.val (.int q0), .val (.int q1), .val (.int q2), .val (.int q3), .val (.int q4), .val (.int (q4 &&& (7 : Int32))), .val (.int (0 : Int32)), .val (.int (0 : Int32)), .val (.ref a113), .val (.ref a118), .val (.int (-1 : Int32))] [(.ref a118)])) rfl (by rw [hml]; rfl) (argsL := [(.ref a118)]) (rest := []) (lenOf pd_4 rfl) rfl (by show 2 * 0 + _ ≤ _; exact Nat.le_of_eq rfl) (hb hby at_202) (fun _ _ => ⟨rfl, e118, (by decide : 2 + 1 ≤ _), (by decide : 8 + 4 ≤ _)⟩)
    dsimp only [Pt.U, Pt.locs, Pt.cells, Pt.slots] at X119 l119 y119 z119 st119 hQ119
    subst l119 y119 z119
    obtain ⟨rfl, M119⟩ := hQ119
    have N119 := Fr.app N117 M119
    refine Goes.pre st119 ?_
    show Goes p e below s 16 128 (Q_0 Z q0 q1 q2 q3 q4 h0 n0) T119 (mkF m 205 #[.val (.int q0), .val (.int q1), .val (.int q2), .val (.int q3), .val (.int q4), .val (.int (q4 &&& (7 : Int32))), .val (.int (0 : Int32)), .val (.int (0 : Int32)), .val (.ref a113), .val (.ref a118), .val (.int (-1 : Int32))] [(.int (own_first (own_ks0 q0 q1 q2 q3)))])
    refine own_iload (pc' := 207) X119 hx (hb hby at_205) rfl rfl ?_
    refine own_icmpN (pc' := 210) X119 hx (hb hby at_207) (teq (own_law0 q0 q1 q2 q3).2.2).2 rfl ?_
    refine own_iconst (pc' := 211) X119 hx (hb hby at_210) (v := (1 : Int32)) rfl rfl ?_
    refine own_goto X119 hx (hb hby at_211) (by decide) (pc' := 215) (by decide) ?_
    exact own_retN X119 hx hlk (t := .boolean) Bd.returns (by simp) (hb hby at_215) (by decide) (by decide) ⟨rfl, N119⟩
  have J1_n : ∀ (TJ : State) (LJ : List Loc), Stand p l e room_1 s m #[(.int q0), (.int q1), (.int q2), (.int q3), (.int q4)] below meth c TJ LJ 0 0 → TJ.heap = h0 → Fr n0 LJ → Goes p e below s 16 128 (Q_0 Z q0 q1 q2 q3 q4 h0 n0) TJ (mkF m 29 #[.val (.int q0), .val (.int q1), .val (.int q2), .val (.int q3), .val (.int q4), .val (.int (q4 &&& (7 : Int32))), .val (.int (0 : Int32)), .val (.int (1 : Int32)), .unset, .unset, .unset] []) := by
    intro TJ LJ XJ eJ NJ
    refine own_iconst (pc' := 30) XJ hx (hb hby at_29) (v := (4 : Int32)) rfl rfl ?_
    refine own_newarray (pc' := 32) XJ hx hZ (hw _ (List.mem_of_getElem? (i := 4) rfl)) eJ (hb hby at_30) (k := 4) (cap := 4) rfl (by decide) rfl (by decide) (by decide) (by decide) (by decide) rfl ?_
    intro T120 h120 a120 g120 X120 e120 E120 P120
    show Goes p e below s 16 128 (Q_0 Z q0 q1 q2 q3 q4 h0 n0) T120 (mkF m 32 #[.val (.int q0), .val (.int q1), .val (.int q2), .val (.int q3), .val (.int q4), .val (.int (q4 &&& (7 : Int32))), .val (.int (0 : Int32)), .val (.int (1 : Int32)), .unset, .unset, .unset] [(.ref a120)])
    have Zv : n0 ≤ Array.size h120 := Nat.le_trans Z0 E120.1
    have gv : n0 ≤ a120 := by rw [g120]; exact Z0
    refine own_dup (pc' := 33) X120 hx (hb hby at_32) rfl rfl ?_
    refine own_iconst (pc' := 34) X120 hx (hb hby at_33) (v := (0 : Int32)) rfl rfl ?_
    refine own_iloadN (pc' := 35) X120 hx (hb hby at_34) rfl rfl ?_
    refine own_iastore (pc' := 36) X120 hx hZ e120 P120 (hb hby at_35) (by decide) (k := 0) (by decide) (by simp) rfl ?_
    intro T121 h121 X121 e121 W121 P121
    have N121 := Fr.snoc X121 NJ gv
    have Z121 : n0 ≤ Array.size h121 := by rw [W121.size]; exact Zv
    show Goes p e below s 16 128 (Q_0 Z q0 q1 q2 q3 q4 h0 n0) T121 (mkF m 36 #[.val (.int q0), .val (.int q1), .val (.int q2), .val (.int q3), .val (.int q4), .val (.int (q4 &&& (7 : Int32))), .val (.int (0 : Int32)), .val (.int (1 : Int32)), .unset, .unset, .unset] [(.ref a120)])
    refine own_dup (pc' := 37) X121 hx (hb hby at_36) rfl rfl ?_
    refine own_iconst (pc' := 38) X121 hx (hb hby at_37) (v := (1 : Int32)) rfl rfl ?_
    refine own_iloadN (pc' := 39) X121 hx (hb hby at_38) rfl rfl ?_
    refine own_iastore (pc' := 40) X121 hx hZ e121 P121 (hb hby at_39) (by decide) (k := 1) (by decide) (by simp) rfl ?_
    intro T122 h122 X122 e122 W122 P122
    have N122 := Fr.snoc X122 N121 gv
    have Z122 : n0 ≤ Array.size h122 := by rw [W122.size]; exact Z121
    show Goes p e below s 16 128 (Q_0 Z q0 q1 q2 q3 q4 h0 n0) T122 (mkF m 40 #[.val (.int q0), .val (.int q1), .val (.int q2), .val (.int q3), .val (.int q4), .val (.int (q4 &&& (7 : Int32))), .val (.int (0 : Int32)), .val (.int (1 : Int32)), .unset, .unset, .unset] [(.ref a120)])
    refine own_dup (pc' := 41) X122 hx (hb hby at_40) rfl rfl ?_
    refine own_iconst (pc' := 42) X122 hx (hb hby at_41) (v := (2 : Int32)) rfl rfl ?_
    refine own_iloadN (pc' := 43) X122 hx (hb hby at_42) rfl rfl ?_
    refine own_iastore (pc' := 44) X122 hx hZ e122 P122 (hb hby at_43) (by decide) (k := 2) (by decide) (by simp) rfl ?_
    intro T123 h123 X123 e123 W123 P123
    have N123 := Fr.snoc X123 N122 gv
    have Z123 : n0 ≤ Array.size h123 := by rw [W123.size]; exact Z122
    show Goes p e below s 16 128 (Q_0 Z q0 q1 q2 q3 q4 h0 n0) T123 (mkF m 44 #[.val (.int q0), .val (.int q1), .val (.int q2), .val (.int q3), .val (.int q4), .val (.int (q4 &&& (7 : Int32))), .val (.int (0 : Int32)), .val (.int (1 : Int32)), .unset, .unset, .unset] [(.ref a120)])
    refine own_dup (pc' := 45) X123 hx (hb hby at_44) rfl rfl ?_
    refine own_iconst (pc' := 46) X123 hx (hb hby at_45) (v := (3 : Int32)) rfl rfl ?_
    refine own_iloadN (pc' := 47) X123 hx (hb hby at_46) rfl rfl ?_
    refine own_iastore (pc' := 48) X123 hx hZ e123 P123 (hb hby at_47) (by decide) (k := 3) (by decide) (by simp) rfl ?_
    intro T124 h124 X124 e124 W124 P124
    have N124 := Fr.snoc X124 N123 gv
    have Z124 : n0 ≤ Array.size h124 := by rw [W124.size]; exact Z123
    show Goes p e below s 16 128 (Q_0 Z q0 q1 q2 q3 q4 h0 n0) T124 (mkF m 48 #[.val (.int q0), .val (.int q1), .val (.int q2), .val (.int q3), .val (.int q4), .val (.int (q4 &&& (7 : Int32))), .val (.int (0 : Int32)), .val (.int (1 : Int32)), .unset, .unset, .unset] [(.ref a120)])
    have Pv : own_PA Z h124 a120 .int [q0, q1, q2, q3] := P124
    refine own_astore (pc' := 50) X124 hx (hb hby at_48) rfl (Ls' := #[.val (.int q0), .val (.int q1), .val (.int q2), .val (.int q3), .val (.int q4), .val (.int (q4 &&& (7 : Int32))), .val (.int (0 : Int32)), .val (.int (1 : Int32)), .val (.ref a120), .unset, .unset]) rfl rfl ?_
    refine own_aconstNull (pc' := 51) X124 hx (hb hby at_50) rfl ?_
    refine own_astore (pc' := 53) X124 hx (hb hby at_51) rfl (Ls' := #[.val (.int q0), .val (.int q1), .val (.int q2), .val (.int q3), .val (.int q4), .val (.int (q4 &&& (7 : Int32))), .val (.int (0 : Int32)), .val (.int (1 : Int32)), .val (.ref a120), .val (.null), .unset]) rfl rfl ?_
    refine own_iload (pc' := 55) X124 hx (hb hby at_53) rfl rfl ?_
    refine own_ifN (pc' := 58) X124 hx (hb hby at_55) (by decide) rfl ?_
    refine own_iload (pc' := 60) X124 hx (hb hby at_58) rfl rfl ?_
    refine own_newarray (pc' := 62) X124 hx hZ (hw _ (List.mem_of_getElem? (i := 4) rfl)) e124 (hb hby at_60) (k := 1) (cap := 4) rfl (by decide) rfl (by decide) (by decide) (by decide) (by decide) rfl ?_
    intro T125 h125 a125 g125 X125 e125 E125 P125
    show Goes p e below s 16 128 (Q_0 Z q0 q1 q2 q3 q4 h0 n0) T125 (mkF m 62 #[.val (.int q0), .val (.int q1), .val (.int q2), .val (.int q3), .val (.int q4), .val (.int (q4 &&& (7 : Int32))), .val (.int (0 : Int32)), .val (.int (1 : Int32)), .val (.ref a120), .val (.null), .unset] [(.ref a125)])
    have Pw := Pv.ext E125
    have go : n0 ≤ a125 := by rw [g125]; exact Z124
    have Zo : n0 ≤ Array.size h125 := Nat.le_trans Z124 E125.1
    have ne : a120 ≠ a125 := fun q => absurd (q ▸ Pv.lt) (by rw [g125]; exact Nat.lt_irrefl _)
    refine own_astore (pc' := 64) X125 hx (hb hby at_62) rfl (Ls' := #[.val (.int q0), .val (.int q1), .val (.int q2), .val (.int q3), .val (.int q4), .val (.int (q4 &&& (7 : Int32))), .val (.int (0 : Int32)), .val (.int (1 : Int32)), .val (.ref a120), .val (.ref a125), .unset]) rfl rfl ?_
    refine own_iload (pc' := 66) X125 hx (hb hby at_64) rfl rfl ?_
    refine own_ifN (pc' := 69) X125 hx (hb hby at_66) (by decide) rfl ?_
    refine own_aload (pc' := 71) X125 hx (hb hby at_69) rfl rfl rfl ?_
    refine own_aload (pc' := 73) X125 hx (hb hby at_71) rfl rfl rfl ?_
    refine own_iconst (pc' := 74) X125 hx (hb hby at_73) (v := (0 : Int32)) rfl rfl ?_
    refine own_iload (pc' := 76) X125 hx (hb hby at_74) rfl rfl ?_
    obtain ⟨_, _, ⟨T126, L126, k126, n126⟩, -, X126, ⟨Lc126, hQ126, l126, y126, z126⟩, st126⟩ := Jvm.LawKit.callS X125 hx (y := (⟨"com/example/reciprocal/reciprocal/cbor/ItemOrderFirstEntryOutOfOrderPinLaw", "rank", "([III)I"⟩ : MethodName)) hown (mvT hZ (hw _ (List.mem_of_getElem? (i := 9) rfl))) (mvT hZ (hw _ (List.mem_of_getElem? (i := 10) rfl))) (mvT hZ (hw _ (List.mem_of_getElem? (i := 11) rfl))) (mvT hZ (hw _ (List.mem_of_getElem? (i := 12) rfl))) (by decide) (backOf (W := 1) (rm_3 l Z a0 hw [] a120 q0 q1 q2 q3 q0 (0 : Int32) (1 : Int32) 0 h125 n0 Zo Pw (by decide) (by decide) rfl) hZ (hw _ (List.mem_of_getElem? (i := 12) rfl)) (hw _ (List.mem_of_getElem? (i := 11) rfl)) (by decide) (by decide)) (g := (mkF m 76 #[.val (.int q0), .val (.int q1), .val (.int q2), .val (.int q3), .val (.int q4), .val (.int (q4 &&& (7 : Int32))), .val (.int (0 : Int32)), .val (.int (1 : Int32)), .val (.ref a120), .val (.ref a125), .unset] [(.int (1 : Int32)), (.int (0 : Int32)), (.ref a120), (.ref a125)])) rfl (by rw [hml]; rfl) (argsL := [(.ref a120), (.int (0 : Int32)), (.int (1 : Int32))]) (rest := [(.ref a125)]) (lenOf pd_3 rfl) rfl (by show 2 * 0 + _ ≤ _; exact Nat.le_of_eq rfl) (hb hby at_76) (fun _ _ => ⟨rfl, e125, (by decide : 2 + 0 ≤ _), (by decide : 8 + 0 ≤ _)⟩)
    dsimp only [Pt.U, Pt.locs, Pt.cells, Pt.slots] at X126 l126 y126 z126 st126 hQ126
    subst l126 y126 z126
    obtain ⟨rfl, M126, er0⟩ := hQ126
    have N126 := Fr.app N124 M126
    refine Goes.pre st126 ?_
    show Goes p e below s 16 128 (Q_0 Z q0 q1 q2 q3 q4 h0 n0) T126 (mkF m 79 #[.val (.int q0), .val (.int q1), .val (.int q2), .val (.int q3), .val (.int q4), .val (.int (q4 &&& (7 : Int32))), .val (.int (0 : Int32)), .val (.int (1 : Int32)), .val (.ref a120), .val (.ref a125), .unset] [(.int (own_rank q0 q1 q2 q3 q0 (0 : Int32) (1 : Int32))), (.ref a125)])
    refine own_iconst (pc' := 80) X126 hx (hb hby at_79) (v := (0 : Int32)) rfl rfl ?_
    refine own_iastore (pc' := 81) X126 hx hZ er0 P125 (hb hby at_80) (own_rb1 q0 q1 q2 q3).1 rfl (by simp only [List.length_set, List.length_replicate]; exact (own_rb1 q0 q1 q2 q3).2) rfl ?_
    intro T127 h127 X127 e127 W127 P127
    have N127 := Fr.snoc X127 N126 go
    have P127_a120 := Pw.other W127 ne
    have Z127 : n0 ≤ Array.size h127 := by rw [W127.size]; exact Zo
    show Goes p e below s 16 128 (Q_0 Z q0 q1 q2 q3 q4 h0 n0) T127 (mkF m 81 #[.val (.int q0), .val (.int q1), .val (.int q2), .val (.int q3), .val (.int q4), .val (.int (q4 &&& (7 : Int32))), .val (.int (0 : Int32)), .val (.int (1 : Int32)), .val (.ref a120), .val (.ref a125), .unset] [])
    refine own_iload (pc' := 83) X127 hx (hb hby at_81) rfl rfl ?_
    refine own_iconst (pc' := 84) X127 hx (hb hby at_83) (v := (1 : Int32)) rfl rfl ?_
    refine own_icmpY X127 hx (hb hby at_84) (by decide) (by decide) (pc' := 99) (by decide) ?_
    refine own_iload (pc' := 101) X127 hx (hb hby at_99) rfl rfl ?_
    refine own_iconst (pc' := 102) X127 hx (hb hby at_101) (v := (2 : Int32)) rfl rfl ?_
    refine own_icmpY X127 hx (hb hby at_102) (by decide) (by decide) (pc' := 117) (by decide) ?_
    refine own_iload (pc' := 119) X127 hx (hb hby at_117) rfl rfl ?_
    refine own_iconst (pc' := 120) X127 hx (hb hby at_119) (v := (3 : Int32)) rfl rfl ?_
    refine own_icmpY X127 hx (hb hby at_120) (by decide) (by decide) (pc' := 135) (by decide) ?_
    refine own_iload (pc' := 137) X127 hx (hb hby at_135) rfl rfl ?_
    refine own_ifY X127 hx (hb hby at_137) (by decide) (by decide) (pc' := 146) (by decide) ?_
    refine own_iload (pc' := 148) X127 hx (hb hby at_146) rfl rfl ?_
    refine own_iconst (pc' := 149) X127 hx (hb hby at_148) (v := (1 : Int32)) rfl rfl ?_
    refine own_icmpY X127 hx (hb hby at_149) (by decide) (by decide) (pc' := 163) (by decide) ?_
    refine own_iload (pc' := 165) X127 hx (hb hby at_163) rfl rfl ?_
    refine own_iconst (pc' := 166) X127 hx (hb hby at_165) (v := (2 : Int32)) rfl rfl ?_
    refine own_icmpY X127 hx (hb hby at_166) (by decide) (by decide) (pc' := 180) (by decide) ?_
    refine own_iload (pc' := 182) X127 hx (hb hby at_180) rfl rfl ?_
    refine own_iconst (pc' := 183) X127 hx (hb hby at_182) (v := (3 : Int32)) rfl rfl ?_
    refine own_icmpY X127 hx (hb hby at_183) (by decide) (by decide) (pc' := 197) (by decide) ?_
    refine own_iconst (pc' := 198) X127 hx (hb hby at_197) (v := (-1 : Int32)) rfl rfl ?_
    refine own_istore (pc' := 200) X127 hx (hb hby at_198) (Ls' := #[.val (.int q0), .val (.int q1), .val (.int q2), .val (.int q3), .val (.int q4), .val (.int (q4 &&& (7 : Int32))), .val (.int (0 : Int32)), .val (.int (1 : Int32)), .val (.ref a120), .val (.ref a125), .val (.int (-1 : Int32))]) rfl rfl ?_
    refine own_aload (pc' := 202) X127 hx (hb hby at_200) rfl rfl rfl ?_
    obtain ⟨_, _, ⟨T128, L128, k128, n128⟩, -, X128, ⟨Lc128, hQ128, l128, y128, z128⟩, st128⟩ := Jvm.LawKit.callS X127 hx (y := (⟨"com/example/reciprocal/reciprocal/cbor/ItemOrder", "firstEntryOutOfOrder", "([I)I"⟩ : MethodName)) hown (mvT hZ (hw _ (List.mem_of_getElem? (i := 5) rfl))) (mvT hZ (hw _ (List.mem_of_getElem? (i := 6) rfl))) (mvT hZ (hw _ (List.mem_of_getElem? (i := 7) rfl))) (mvT hZ (hw _ (List.mem_of_getElem? (i := 8) rfl))) (by decide) (backOf (W := 0) (rm_4 l Z a0 hw [] a125 (own_ks1 q0 q1 q2 q3) h127 n0 Z127 P127 (own_law1 q0 q1 q2 q3).1 (own_law1 q0 q1 q2 q3).2.1) hZ (hw _ (List.mem_of_getElem? (i := 8) rfl)) (hw _ (List.mem_of_getElem? (i := 7) rfl)) (by decide) (by decide)) (g := (mkF m 202 #[.val (.int q0), .val (.int q1), .val (.int q2), .val (.int q3), .val (.int q4), .val (.int (q4 &&& (7 : Int32))), .val (.int (0 : Int32)), .val (.int (1 : Int32)), .val (.ref a120), .val (.ref a125), .val (.int (-1 : Int32))] [(.ref a125)])) rfl (by rw [hml]; rfl) (argsL := [(.ref a125)]) (rest := []) (lenOf pd_4 rfl) rfl (by show 2 * 0 + _ ≤ _; exact Nat.le_of_eq rfl) (hb hby at_202) (fun _ _ => ⟨rfl, e127, (by decide : 2 + 1 ≤ _), (by decide : 8 + 4 ≤ _)⟩)
    dsimp only [Pt.U, Pt.locs, Pt.cells, Pt.slots] at X128 l128 y128 z128 st128 hQ128
    subst l128 y128 z128
    obtain ⟨rfl, M128⟩ := hQ128
    have N128 := Fr.app N127 M128
    refine Goes.pre st128 ?_
    show Goes p e below s 16 128 (Q_0 Z q0 q1 q2 q3 q4 h0 n0) T128 (mkF m 205 #[.val (.int q0), .val (.int q1), .val (.int q2), .val (.int q3), .val (.int q4), .val (.int (q4 &&& (7 : Int32))), .val (.int (0 : Int32)), .val (.int (1 : Int32)), .val (.ref a120), .val (.ref a125), .val (.int (-1 : Int32))] [(.int (own_first (own_ks1 q0 q1 q2 q3)))])
    refine own_iload (pc' := 207) X128 hx (hb hby at_205) rfl rfl ?_
    refine own_icmpN (pc' := 210) X128 hx (hb hby at_207) (teq (own_law1 q0 q1 q2 q3).2.2).2 rfl ?_
    refine own_iconst (pc' := 211) X128 hx (hb hby at_210) (v := (1 : Int32)) rfl rfl ?_
    refine own_goto X128 hx (hb hby at_211) (by decide) (pc' := 215) (by decide) ?_
    exact own_retN X128 hx hlk (t := .boolean) Bd.returns (by simp) (hb hby at_215) (by decide) (by decide) ⟨rfl, N128⟩
  have J2_n : ∀ (TJ : State) (LJ : List Loc), Stand p l e room_1 s m #[(.int q0), (.int q1), (.int q2), (.int q3), (.int q4)] below meth c TJ LJ 0 0 → TJ.heap = h0 → Fr n0 LJ → Goes p e below s 16 128 (Q_0 Z q0 q1 q2 q3 q4 h0 n0) TJ (mkF m 29 #[.val (.int q0), .val (.int q1), .val (.int q2), .val (.int q3), .val (.int q4), .val (.int (q4 &&& (7 : Int32))), .val (.int (0 : Int32)), .val (.int (2 : Int32)), .unset, .unset, .unset] []) := by
    intro TJ LJ XJ eJ NJ
    refine own_iconst (pc' := 30) XJ hx (hb hby at_29) (v := (4 : Int32)) rfl rfl ?_
    refine own_newarray (pc' := 32) XJ hx hZ (hw _ (List.mem_of_getElem? (i := 4) rfl)) eJ (hb hby at_30) (k := 4) (cap := 4) rfl (by decide) rfl (by decide) (by decide) (by decide) (by decide) rfl ?_
    intro T129 h129 a129 g129 X129 e129 E129 P129
    show Goes p e below s 16 128 (Q_0 Z q0 q1 q2 q3 q4 h0 n0) T129 (mkF m 32 #[.val (.int q0), .val (.int q1), .val (.int q2), .val (.int q3), .val (.int q4), .val (.int (q4 &&& (7 : Int32))), .val (.int (0 : Int32)), .val (.int (2 : Int32)), .unset, .unset, .unset] [(.ref a129)])
    have Zv : n0 ≤ Array.size h129 := Nat.le_trans Z0 E129.1
    have gv : n0 ≤ a129 := by rw [g129]; exact Z0
    refine own_dup (pc' := 33) X129 hx (hb hby at_32) rfl rfl ?_
    refine own_iconst (pc' := 34) X129 hx (hb hby at_33) (v := (0 : Int32)) rfl rfl ?_
    refine own_iloadN (pc' := 35) X129 hx (hb hby at_34) rfl rfl ?_
    refine own_iastore (pc' := 36) X129 hx hZ e129 P129 (hb hby at_35) (by decide) (k := 0) (by decide) (by simp) rfl ?_
    intro T130 h130 X130 e130 W130 P130
    have N130 := Fr.snoc X130 NJ gv
    have Z130 : n0 ≤ Array.size h130 := by rw [W130.size]; exact Zv
    show Goes p e below s 16 128 (Q_0 Z q0 q1 q2 q3 q4 h0 n0) T130 (mkF m 36 #[.val (.int q0), .val (.int q1), .val (.int q2), .val (.int q3), .val (.int q4), .val (.int (q4 &&& (7 : Int32))), .val (.int (0 : Int32)), .val (.int (2 : Int32)), .unset, .unset, .unset] [(.ref a129)])
    refine own_dup (pc' := 37) X130 hx (hb hby at_36) rfl rfl ?_
    refine own_iconst (pc' := 38) X130 hx (hb hby at_37) (v := (1 : Int32)) rfl rfl ?_
    refine own_iloadN (pc' := 39) X130 hx (hb hby at_38) rfl rfl ?_
    refine own_iastore (pc' := 40) X130 hx hZ e130 P130 (hb hby at_39) (by decide) (k := 1) (by decide) (by simp) rfl ?_
    intro T131 h131 X131 e131 W131 P131
    have N131 := Fr.snoc X131 N130 gv
    have Z131 : n0 ≤ Array.size h131 := by rw [W131.size]; exact Z130
    show Goes p e below s 16 128 (Q_0 Z q0 q1 q2 q3 q4 h0 n0) T131 (mkF m 40 #[.val (.int q0), .val (.int q1), .val (.int q2), .val (.int q3), .val (.int q4), .val (.int (q4 &&& (7 : Int32))), .val (.int (0 : Int32)), .val (.int (2 : Int32)), .unset, .unset, .unset] [(.ref a129)])
    refine own_dup (pc' := 41) X131 hx (hb hby at_40) rfl rfl ?_
    refine own_iconst (pc' := 42) X131 hx (hb hby at_41) (v := (2 : Int32)) rfl rfl ?_
    refine own_iloadN (pc' := 43) X131 hx (hb hby at_42) rfl rfl ?_
    refine own_iastore (pc' := 44) X131 hx hZ e131 P131 (hb hby at_43) (by decide) (k := 2) (by decide) (by simp) rfl ?_
    intro T132 h132 X132 e132 W132 P132
    have N132 := Fr.snoc X132 N131 gv
    have Z132 : n0 ≤ Array.size h132 := by rw [W132.size]; exact Z131
    show Goes p e below s 16 128 (Q_0 Z q0 q1 q2 q3 q4 h0 n0) T132 (mkF m 44 #[.val (.int q0), .val (.int q1), .val (.int q2), .val (.int q3), .val (.int q4), .val (.int (q4 &&& (7 : Int32))), .val (.int (0 : Int32)), .val (.int (2 : Int32)), .unset, .unset, .unset] [(.ref a129)])
    refine own_dup (pc' := 45) X132 hx (hb hby at_44) rfl rfl ?_
    refine own_iconst (pc' := 46) X132 hx (hb hby at_45) (v := (3 : Int32)) rfl rfl ?_
    refine own_iloadN (pc' := 47) X132 hx (hb hby at_46) rfl rfl ?_
    refine own_iastore (pc' := 48) X132 hx hZ e132 P132 (hb hby at_47) (by decide) (k := 3) (by decide) (by simp) rfl ?_
    intro T133 h133 X133 e133 W133 P133
    have N133 := Fr.snoc X133 N132 gv
    have Z133 : n0 ≤ Array.size h133 := by rw [W133.size]; exact Z132
    show Goes p e below s 16 128 (Q_0 Z q0 q1 q2 q3 q4 h0 n0) T133 (mkF m 48 #[.val (.int q0), .val (.int q1), .val (.int q2), .val (.int q3), .val (.int q4), .val (.int (q4 &&& (7 : Int32))), .val (.int (0 : Int32)), .val (.int (2 : Int32)), .unset, .unset, .unset] [(.ref a129)])
    have Pv : own_PA Z h133 a129 .int [q0, q1, q2, q3] := P133
    refine own_astore (pc' := 50) X133 hx (hb hby at_48) rfl (Ls' := #[.val (.int q0), .val (.int q1), .val (.int q2), .val (.int q3), .val (.int q4), .val (.int (q4 &&& (7 : Int32))), .val (.int (0 : Int32)), .val (.int (2 : Int32)), .val (.ref a129), .unset, .unset]) rfl rfl ?_
    refine own_aconstNull (pc' := 51) X133 hx (hb hby at_50) rfl ?_
    refine own_astore (pc' := 53) X133 hx (hb hby at_51) rfl (Ls' := #[.val (.int q0), .val (.int q1), .val (.int q2), .val (.int q3), .val (.int q4), .val (.int (q4 &&& (7 : Int32))), .val (.int (0 : Int32)), .val (.int (2 : Int32)), .val (.ref a129), .val (.null), .unset]) rfl rfl ?_
    refine own_iload (pc' := 55) X133 hx (hb hby at_53) rfl rfl ?_
    refine own_ifN (pc' := 58) X133 hx (hb hby at_55) (by decide) rfl ?_
    refine own_iload (pc' := 60) X133 hx (hb hby at_58) rfl rfl ?_
    refine own_newarray (pc' := 62) X133 hx hZ (hw _ (List.mem_of_getElem? (i := 4) rfl)) e133 (hb hby at_60) (k := 2) (cap := 4) rfl (by decide) rfl (by decide) (by decide) (by decide) (by decide) rfl ?_
    intro T134 h134 a134 g134 X134 e134 E134 P134
    show Goes p e below s 16 128 (Q_0 Z q0 q1 q2 q3 q4 h0 n0) T134 (mkF m 62 #[.val (.int q0), .val (.int q1), .val (.int q2), .val (.int q3), .val (.int q4), .val (.int (q4 &&& (7 : Int32))), .val (.int (0 : Int32)), .val (.int (2 : Int32)), .val (.ref a129), .val (.null), .unset] [(.ref a134)])
    have Pw := Pv.ext E134
    have go : n0 ≤ a134 := by rw [g134]; exact Z133
    have Zo : n0 ≤ Array.size h134 := Nat.le_trans Z133 E134.1
    have ne : a129 ≠ a134 := fun q => absurd (q ▸ Pv.lt) (by rw [g134]; exact Nat.lt_irrefl _)
    refine own_astore (pc' := 64) X134 hx (hb hby at_62) rfl (Ls' := #[.val (.int q0), .val (.int q1), .val (.int q2), .val (.int q3), .val (.int q4), .val (.int (q4 &&& (7 : Int32))), .val (.int (0 : Int32)), .val (.int (2 : Int32)), .val (.ref a129), .val (.ref a134), .unset]) rfl rfl ?_
    refine own_iload (pc' := 66) X134 hx (hb hby at_64) rfl rfl ?_
    refine own_ifN (pc' := 69) X134 hx (hb hby at_66) (by decide) rfl ?_
    refine own_aload (pc' := 71) X134 hx (hb hby at_69) rfl rfl rfl ?_
    refine own_aload (pc' := 73) X134 hx (hb hby at_71) rfl rfl rfl ?_
    refine own_iconst (pc' := 74) X134 hx (hb hby at_73) (v := (0 : Int32)) rfl rfl ?_
    refine own_iload (pc' := 76) X134 hx (hb hby at_74) rfl rfl ?_
    obtain ⟨_, _, ⟨T135, L135, k135, n135⟩, -, X135, ⟨Lc135, hQ135, l135, y135, z135⟩, st135⟩ := Jvm.LawKit.callS X134 hx (y := (⟨"com/example/reciprocal/reciprocal/cbor/ItemOrderFirstEntryOutOfOrderPinLaw", "rank", "([III)I"⟩ : MethodName)) hown (mvT hZ (hw _ (List.mem_of_getElem? (i := 9) rfl))) (mvT hZ (hw _ (List.mem_of_getElem? (i := 10) rfl))) (mvT hZ (hw _ (List.mem_of_getElem? (i := 11) rfl))) (mvT hZ (hw _ (List.mem_of_getElem? (i := 12) rfl))) (by decide) (backOf (W := 1) (rm_3 l Z a0 hw [] a129 q0 q1 q2 q3 q0 (0 : Int32) (2 : Int32) 0 h134 n0 Zo Pw (by decide) (by decide) rfl) hZ (hw _ (List.mem_of_getElem? (i := 12) rfl)) (hw _ (List.mem_of_getElem? (i := 11) rfl)) (by decide) (by decide)) (g := (mkF m 76 #[.val (.int q0), .val (.int q1), .val (.int q2), .val (.int q3), .val (.int q4), .val (.int (q4 &&& (7 : Int32))), .val (.int (0 : Int32)), .val (.int (2 : Int32)), .val (.ref a129), .val (.ref a134), .unset] [(.int (2 : Int32)), (.int (0 : Int32)), (.ref a129), (.ref a134)])) rfl (by rw [hml]; rfl) (argsL := [(.ref a129), (.int (0 : Int32)), (.int (2 : Int32))]) (rest := [(.ref a134)]) (lenOf pd_3 rfl) rfl (by show 2 * 0 + _ ≤ _; exact Nat.le_of_eq rfl) (hb hby at_76) (fun _ _ => ⟨rfl, e134, (by decide : 2 + 0 ≤ _), (by decide : 8 + 0 ≤ _)⟩)
    dsimp only [Pt.U, Pt.locs, Pt.cells, Pt.slots] at X135 l135 y135 z135 st135 hQ135
    subst l135 y135 z135
    obtain ⟨rfl, M135, er0⟩ := hQ135
    have N135 := Fr.app N133 M135
    refine Goes.pre st135 ?_
    show Goes p e below s 16 128 (Q_0 Z q0 q1 q2 q3 q4 h0 n0) T135 (mkF m 79 #[.val (.int q0), .val (.int q1), .val (.int q2), .val (.int q3), .val (.int q4), .val (.int (q4 &&& (7 : Int32))), .val (.int (0 : Int32)), .val (.int (2 : Int32)), .val (.ref a129), .val (.ref a134), .unset] [(.int (own_rank q0 q1 q2 q3 q0 (0 : Int32) (2 : Int32))), (.ref a134)])
    refine own_iconst (pc' := 80) X135 hx (hb hby at_79) (v := (0 : Int32)) rfl rfl ?_
    refine own_iastore (pc' := 81) X135 hx hZ er0 P134 (hb hby at_80) (own_rb2 q0 q1 q2 q3).1.1 rfl (by simp only [List.length_set, List.length_replicate]; exact (own_rb2 q0 q1 q2 q3).1.2) rfl ?_
    intro T136 h136 X136 e136 W136 P136
    have N136 := Fr.snoc X136 N135 go
    have P136_a129 := Pw.other W136 ne
    have Z136 : n0 ≤ Array.size h136 := by rw [W136.size]; exact Zo
    show Goes p e below s 16 128 (Q_0 Z q0 q1 q2 q3 q4 h0 n0) T136 (mkF m 81 #[.val (.int q0), .val (.int q1), .val (.int q2), .val (.int q3), .val (.int q4), .val (.int (q4 &&& (7 : Int32))), .val (.int (0 : Int32)), .val (.int (2 : Int32)), .val (.ref a129), .val (.ref a134), .unset] [])
    refine own_iload (pc' := 83) X136 hx (hb hby at_81) rfl rfl ?_
    refine own_iconst (pc' := 84) X136 hx (hb hby at_83) (v := (1 : Int32)) rfl rfl ?_
    refine own_icmpN (pc' := 87) X136 hx (hb hby at_84) (by decide) rfl ?_
    refine own_aload (pc' := 89) X136 hx (hb hby at_87) rfl rfl rfl ?_
    refine own_aload (pc' := 91) X136 hx (hb hby at_89) rfl rfl rfl ?_
    refine own_iconst (pc' := 92) X136 hx (hb hby at_91) (v := (1 : Int32)) rfl rfl ?_
    refine own_iload (pc' := 94) X136 hx (hb hby at_92) rfl rfl ?_
    obtain ⟨_, _, ⟨T137, L137, k137, n137⟩, -, X137, ⟨Lc137, hQ137, l137, y137, z137⟩, st137⟩ := Jvm.LawKit.callS X136 hx (y := (⟨"com/example/reciprocal/reciprocal/cbor/ItemOrderFirstEntryOutOfOrderPinLaw", "rank", "([III)I"⟩ : MethodName)) hown (mvT hZ (hw _ (List.mem_of_getElem? (i := 9) rfl))) (mvT hZ (hw _ (List.mem_of_getElem? (i := 10) rfl))) (mvT hZ (hw _ (List.mem_of_getElem? (i := 11) rfl))) (mvT hZ (hw _ (List.mem_of_getElem? (i := 12) rfl))) (by decide) (backOf (W := 1) (rm_3 l Z a0 hw [] a129 q0 q1 q2 q3 q1 (1 : Int32) (2 : Int32) 1 h136 n0 Z136 P136_a129 (by decide) (by decide) rfl) hZ (hw _ (List.mem_of_getElem? (i := 12) rfl)) (hw _ (List.mem_of_getElem? (i := 11) rfl)) (by decide) (by decide)) (g := (mkF m 94 #[.val (.int q0), .val (.int q1), .val (.int q2), .val (.int q3), .val (.int q4), .val (.int (q4 &&& (7 : Int32))), .val (.int (0 : Int32)), .val (.int (2 : Int32)), .val (.ref a129), .val (.ref a134), .unset] [(.int (2 : Int32)), (.int (1 : Int32)), (.ref a129), (.ref a134)])) rfl (by rw [hml]; rfl) (argsL := [(.ref a129), (.int (1 : Int32)), (.int (2 : Int32))]) (rest := [(.ref a134)]) (lenOf pd_3 rfl) rfl (by show 2 * 0 + _ ≤ _; exact Nat.le_of_eq rfl) (hb hby at_94) (fun _ _ => ⟨rfl, e136, (by decide : 2 + 0 ≤ _), (by decide : 8 + 0 ≤ _)⟩)
    dsimp only [Pt.U, Pt.locs, Pt.cells, Pt.slots] at X137 l137 y137 z137 st137 hQ137
    subst l137 y137 z137
    obtain ⟨rfl, M137, er1⟩ := hQ137
    have N137 := Fr.app N136 M137
    refine Goes.pre st137 ?_
    show Goes p e below s 16 128 (Q_0 Z q0 q1 q2 q3 q4 h0 n0) T137 (mkF m 97 #[.val (.int q0), .val (.int q1), .val (.int q2), .val (.int q3), .val (.int q4), .val (.int (q4 &&& (7 : Int32))), .val (.int (0 : Int32)), .val (.int (2 : Int32)), .val (.ref a129), .val (.ref a134), .unset] [(.int (own_rank q0 q1 q2 q3 q1 (1 : Int32) (2 : Int32))), (.ref a134)])
    refine own_iconst (pc' := 98) X137 hx (hb hby at_97) (v := (1 : Int32)) rfl rfl ?_
    refine own_iastore (pc' := 99) X137 hx hZ er1 P136 (hb hby at_98) (own_rb2 q0 q1 q2 q3).2.1 rfl (by simp only [List.length_set, List.length_replicate]; exact (own_rb2 q0 q1 q2 q3).2.2) rfl ?_
    intro T138 h138 X138 e138 W138 P138
    have N138 := Fr.snoc X138 N137 go
    have P138_a129 := P136_a129.other W138 ne
    have Z138 : n0 ≤ Array.size h138 := by rw [W138.size]; exact Z136
    show Goes p e below s 16 128 (Q_0 Z q0 q1 q2 q3 q4 h0 n0) T138 (mkF m 99 #[.val (.int q0), .val (.int q1), .val (.int q2), .val (.int q3), .val (.int q4), .val (.int (q4 &&& (7 : Int32))), .val (.int (0 : Int32)), .val (.int (2 : Int32)), .val (.ref a129), .val (.ref a134), .unset] [])
    refine own_iload (pc' := 101) X138 hx (hb hby at_99) rfl rfl ?_
    refine own_iconst (pc' := 102) X138 hx (hb hby at_101) (v := (2 : Int32)) rfl rfl ?_
    refine own_icmpY X138 hx (hb hby at_102) (by decide) (by decide) (pc' := 117) (by decide) ?_
    refine own_iload (pc' := 119) X138 hx (hb hby at_117) rfl rfl ?_
    refine own_iconst (pc' := 120) X138 hx (hb hby at_119) (v := (3 : Int32)) rfl rfl ?_
    refine own_icmpY X138 hx (hb hby at_120) (by decide) (by decide) (pc' := 135) (by decide) ?_
    refine own_iload (pc' := 137) X138 hx (hb hby at_135) rfl rfl ?_
    refine own_ifY X138 hx (hb hby at_137) (by decide) (by decide) (pc' := 146) (by decide) ?_
    refine own_iload (pc' := 148) X138 hx (hb hby at_146) rfl rfl ?_
    refine own_iconst (pc' := 149) X138 hx (hb hby at_148) (v := (1 : Int32)) rfl rfl ?_
    refine own_icmpN (pc' := 152) X138 hx (hb hby at_149) (by decide) rfl ?_
    refine own_iloadN (pc' := 153) X138 hx (hb hby at_152) rfl rfl ?_
    refine own_iloadN (pc' := 154) X138 hx (hb hby at_153) rfl rfl ?_
    by_cases hc154 : q1 < q0
    · refine own_icmpN (pc' := 157) X138 hx (hb hby at_154) (tlt hc154).2.1 rfl ?_
      refine own_iconst (pc' := 158) X138 hx (hb hby at_157) (v := (1 : Int32)) rfl rfl ?_
      refine own_istore (pc' := 160) X138 hx (hb hby at_158) (Ls' := #[.val (.int q0), .val (.int q1), .val (.int q2), .val (.int q3), .val (.int q4), .val (.int (q4 &&& (7 : Int32))), .val (.int (0 : Int32)), .val (.int (2 : Int32)), .val (.ref a129), .val (.ref a134), .val (.int (1 : Int32))]) rfl rfl ?_
      refine own_goto X138 hx (hb hby at_160) (by decide) (pc' := 200) (by decide) ?_
      refine own_aload (pc' := 202) X138 hx (hb hby at_200) rfl rfl rfl ?_
      obtain ⟨_, _, ⟨T139, L139, k139, n139⟩, -, X139, ⟨Lc139, hQ139, l139, y139, z139⟩, st139⟩ := Jvm.LawKit.callS X138 hx (y := (⟨"com/example/reciprocal/reciprocal/cbor/ItemOrder", "firstEntryOutOfOrder", "([I)I"⟩ : MethodName)) hown (mvT hZ (hw _ (List.mem_of_getElem? (i := 5) rfl))) (mvT hZ (hw _ (List.mem_of_getElem? (i := 6) rfl))) (mvT hZ (hw _ (List.mem_of_getElem? (i := 7) rfl))) (mvT hZ (hw _ (List.mem_of_getElem? (i := 8) rfl))) (by decide) (backOf (W := 0) (rm_4 l Z a0 hw [] a134 (own_ks2 q0 q1 q2 q3) h138 n0 Z138 P138 (own_law2 q0 q1 q2 q3).1 (own_law2 q0 q1 q2 q3).2.1) hZ (hw _ (List.mem_of_getElem? (i := 8) rfl)) (hw _ (List.mem_of_getElem? (i := 7) rfl)) (by decide) (by decide)) (g := (mkF m 202 #[.val (.int q0), .val (.int q1), .val (.int q2), .val (.int q3), .val (.int q4), .val (.int (q4 &&& (7 : Int32))), .val (.int (0 : Int32)), .val (.int (2 : Int32)), .val (.ref a129), .val (.ref a134), .val (.int (1 : Int32))] [(.ref a134)])) rfl (by rw [hml]; rfl) (argsL := [(.ref a134)]) (rest := []) (lenOf pd_4 rfl) rfl (by show 2 * 0 + _ ≤ _; exact Nat.le_of_eq rfl) (hb hby at_202) (fun _ _ => ⟨rfl, e138, (by decide : 2 + 1 ≤ _), (by decide : 8 + 4 ≤ _)⟩)
      dsimp only [Pt.U, Pt.locs, Pt.cells, Pt.slots] at X139 l139 y139 z139 st139 hQ139
      subst l139 y139 z139
      obtain ⟨rfl, M139⟩ := hQ139
      have N139 := Fr.app N138 M139
      refine Goes.pre st139 ?_
      show Goes p e below s 16 128 (Q_0 Z q0 q1 q2 q3 q4 h0 n0) T139 (mkF m 205 #[.val (.int q0), .val (.int q1), .val (.int q2), .val (.int q3), .val (.int q4), .val (.int (q4 &&& (7 : Int32))), .val (.int (0 : Int32)), .val (.int (2 : Int32)), .val (.ref a129), .val (.ref a134), .val (.int (1 : Int32))] [(.int (own_first (own_ks2 q0 q1 q2 q3)))])
      refine own_iload (pc' := 207) X139 hx (hb hby at_205) rfl rfl ?_
      refine own_icmpN (pc' := 210) X139 hx (hb hby at_207) (teq (by rw [(own_law2 q0 q1 q2 q3).2.2]; simp [hc154] : (own_first (own_ks2 q0 q1 q2 q3)) = (1 : Int32))).2 rfl ?_
      refine own_iconst (pc' := 211) X139 hx (hb hby at_210) (v := (1 : Int32)) rfl rfl ?_
      refine own_goto X139 hx (hb hby at_211) (by decide) (pc' := 215) (by decide) ?_
      exact own_retN X139 hx hlk (t := .boolean) Bd.returns (by simp) (hb hby at_215) (by decide) (by decide) ⟨rfl, N139⟩
    · refine own_icmpY X138 hx (hb hby at_154) (flt hc154).2.1 (by decide) (pc' := 163) (by decide) ?_
      refine own_iload (pc' := 165) X138 hx (hb hby at_163) rfl rfl ?_
      refine own_iconst (pc' := 166) X138 hx (hb hby at_165) (v := (2 : Int32)) rfl rfl ?_
      refine own_icmpY X138 hx (hb hby at_166) (by decide) (by decide) (pc' := 180) (by decide) ?_
      refine own_iload (pc' := 182) X138 hx (hb hby at_180) rfl rfl ?_
      refine own_iconst (pc' := 183) X138 hx (hb hby at_182) (v := (3 : Int32)) rfl rfl ?_
      refine own_icmpY X138 hx (hb hby at_183) (by decide) (by decide) (pc' := 197) (by decide) ?_
      refine own_iconst (pc' := 198) X138 hx (hb hby at_197) (v := (-1 : Int32)) rfl rfl ?_
      refine own_istore (pc' := 200) X138 hx (hb hby at_198) (Ls' := #[.val (.int q0), .val (.int q1), .val (.int q2), .val (.int q3), .val (.int q4), .val (.int (q4 &&& (7 : Int32))), .val (.int (0 : Int32)), .val (.int (2 : Int32)), .val (.ref a129), .val (.ref a134), .val (.int (-1 : Int32))]) rfl rfl ?_
      refine own_aload (pc' := 202) X138 hx (hb hby at_200) rfl rfl rfl ?_
      obtain ⟨_, _, ⟨T140, L140, k140, n140⟩, -, X140, ⟨Lc140, hQ140, l140, y140, z140⟩, st140⟩ := Jvm.LawKit.callS X138 hx (y := (⟨"com/example/reciprocal/reciprocal/cbor/ItemOrder", "firstEntryOutOfOrder", "([I)I"⟩ : MethodName)) hown (mvT hZ (hw _ (List.mem_of_getElem? (i := 5) rfl))) (mvT hZ (hw _ (List.mem_of_getElem? (i := 6) rfl))) (mvT hZ (hw _ (List.mem_of_getElem? (i := 7) rfl))) (mvT hZ (hw _ (List.mem_of_getElem? (i := 8) rfl))) (by decide) (backOf (W := 0) (rm_4 l Z a0 hw [] a134 (own_ks2 q0 q1 q2 q3) h138 n0 Z138 P138 (own_law2 q0 q1 q2 q3).1 (own_law2 q0 q1 q2 q3).2.1) hZ (hw _ (List.mem_of_getElem? (i := 8) rfl)) (hw _ (List.mem_of_getElem? (i := 7) rfl)) (by decide) (by decide)) (g := (mkF m 202 #[.val (.int q0), .val (.int q1), .val (.int q2), .val (.int q3), .val (.int q4), .val (.int (q4 &&& (7 : Int32))), .val (.int (0 : Int32)), .val (.int (2 : Int32)), .val (.ref a129), .val (.ref a134), .val (.int (-1 : Int32))] [(.ref a134)])) rfl (by rw [hml]; rfl) (argsL := [(.ref a134)]) (rest := []) (lenOf pd_4 rfl) rfl (by show 2 * 0 + _ ≤ _; exact Nat.le_of_eq rfl) (hb hby at_202) (fun _ _ => ⟨rfl, e138, (by decide : 2 + 1 ≤ _), (by decide : 8 + 4 ≤ _)⟩)
      dsimp only [Pt.U, Pt.locs, Pt.cells, Pt.slots] at X140 l140 y140 z140 st140 hQ140
      subst l140 y140 z140
      obtain ⟨rfl, M140⟩ := hQ140
      have N140 := Fr.app N138 M140
      refine Goes.pre st140 ?_
      show Goes p e below s 16 128 (Q_0 Z q0 q1 q2 q3 q4 h0 n0) T140 (mkF m 205 #[.val (.int q0), .val (.int q1), .val (.int q2), .val (.int q3), .val (.int q4), .val (.int (q4 &&& (7 : Int32))), .val (.int (0 : Int32)), .val (.int (2 : Int32)), .val (.ref a129), .val (.ref a134), .val (.int (-1 : Int32))] [(.int (own_first (own_ks2 q0 q1 q2 q3)))])
      refine own_iload (pc' := 207) X140 hx (hb hby at_205) rfl rfl ?_
      refine own_icmpN (pc' := 210) X140 hx (hb hby at_207) (teq (by rw [(own_law2 q0 q1 q2 q3).2.2]; simp [hc154] : (own_first (own_ks2 q0 q1 q2 q3)) = (-1 : Int32))).2 rfl ?_
      refine own_iconst (pc' := 211) X140 hx (hb hby at_210) (v := (1 : Int32)) rfl rfl ?_
      refine own_goto X140 hx (hb hby at_211) (by decide) (pc' := 215) (by decide) ?_
      exact own_retN X140 hx hlk (t := .boolean) Bd.returns (by simp) (hb hby at_215) (by decide) (by decide) ⟨rfl, N140⟩
  have J3_n : ∀ (TJ : State) (LJ : List Loc), Stand p l e room_1 s m #[(.int q0), (.int q1), (.int q2), (.int q3), (.int q4)] below meth c TJ LJ 0 0 → TJ.heap = h0 → Fr n0 LJ → Goes p e below s 16 128 (Q_0 Z q0 q1 q2 q3 q4 h0 n0) TJ (mkF m 29 #[.val (.int q0), .val (.int q1), .val (.int q2), .val (.int q3), .val (.int q4), .val (.int (q4 &&& (7 : Int32))), .val (.int (0 : Int32)), .val (.int (3 : Int32)), .unset, .unset, .unset] []) := by
    intro TJ LJ XJ eJ NJ
    refine own_iconst (pc' := 30) XJ hx (hb hby at_29) (v := (4 : Int32)) rfl rfl ?_
    refine own_newarray (pc' := 32) XJ hx hZ (hw _ (List.mem_of_getElem? (i := 4) rfl)) eJ (hb hby at_30) (k := 4) (cap := 4) rfl (by decide) rfl (by decide) (by decide) (by decide) (by decide) rfl ?_
    intro T141 h141 a141 g141 X141 e141 E141 P141
    show Goes p e below s 16 128 (Q_0 Z q0 q1 q2 q3 q4 h0 n0) T141 (mkF m 32 #[.val (.int q0), .val (.int q1), .val (.int q2), .val (.int q3), .val (.int q4), .val (.int (q4 &&& (7 : Int32))), .val (.int (0 : Int32)), .val (.int (3 : Int32)), .unset, .unset, .unset] [(.ref a141)])
    have Zv : n0 ≤ Array.size h141 := Nat.le_trans Z0 E141.1
    have gv : n0 ≤ a141 := by rw [g141]; exact Z0
    refine own_dup (pc' := 33) X141 hx (hb hby at_32) rfl rfl ?_
    refine own_iconst (pc' := 34) X141 hx (hb hby at_33) (v := (0 : Int32)) rfl rfl ?_
    refine own_iloadN (pc' := 35) X141 hx (hb hby at_34) rfl rfl ?_
    refine own_iastore (pc' := 36) X141 hx hZ e141 P141 (hb hby at_35) (by decide) (k := 0) (by decide) (by simp) rfl ?_
    intro T142 h142 X142 e142 W142 P142
    have N142 := Fr.snoc X142 NJ gv
    have Z142 : n0 ≤ Array.size h142 := by rw [W142.size]; exact Zv
    show Goes p e below s 16 128 (Q_0 Z q0 q1 q2 q3 q4 h0 n0) T142 (mkF m 36 #[.val (.int q0), .val (.int q1), .val (.int q2), .val (.int q3), .val (.int q4), .val (.int (q4 &&& (7 : Int32))), .val (.int (0 : Int32)), .val (.int (3 : Int32)), .unset, .unset, .unset] [(.ref a141)])
    refine own_dup (pc' := 37) X142 hx (hb hby at_36) rfl rfl ?_
    refine own_iconst (pc' := 38) X142 hx (hb hby at_37) (v := (1 : Int32)) rfl rfl ?_
    refine own_iloadN (pc' := 39) X142 hx (hb hby at_38) rfl rfl ?_
    refine own_iastore (pc' := 40) X142 hx hZ e142 P142 (hb hby at_39) (by decide) (k := 1) (by decide) (by simp) rfl ?_
    intro T143 h143 X143 e143 W143 P143
    have N143 := Fr.snoc X143 N142 gv
    have Z143 : n0 ≤ Array.size h143 := by rw [W143.size]; exact Z142
    show Goes p e below s 16 128 (Q_0 Z q0 q1 q2 q3 q4 h0 n0) T143 (mkF m 40 #[.val (.int q0), .val (.int q1), .val (.int q2), .val (.int q3), .val (.int q4), .val (.int (q4 &&& (7 : Int32))), .val (.int (0 : Int32)), .val (.int (3 : Int32)), .unset, .unset, .unset] [(.ref a141)])
    refine own_dup (pc' := 41) X143 hx (hb hby at_40) rfl rfl ?_
    refine own_iconst (pc' := 42) X143 hx (hb hby at_41) (v := (2 : Int32)) rfl rfl ?_
    refine own_iloadN (pc' := 43) X143 hx (hb hby at_42) rfl rfl ?_
    refine own_iastore (pc' := 44) X143 hx hZ e143 P143 (hb hby at_43) (by decide) (k := 2) (by decide) (by simp) rfl ?_
    intro T144 h144 X144 e144 W144 P144
    have N144 := Fr.snoc X144 N143 gv
    have Z144 : n0 ≤ Array.size h144 := by rw [W144.size]; exact Z143
    show Goes p e below s 16 128 (Q_0 Z q0 q1 q2 q3 q4 h0 n0) T144 (mkF m 44 #[.val (.int q0), .val (.int q1), .val (.int q2), .val (.int q3), .val (.int q4), .val (.int (q4 &&& (7 : Int32))), .val (.int (0 : Int32)), .val (.int (3 : Int32)), .unset, .unset, .unset] [(.ref a141)])
    refine own_dup (pc' := 45) X144 hx (hb hby at_44) rfl rfl ?_
    refine own_iconst (pc' := 46) X144 hx (hb hby at_45) (v := (3 : Int32)) rfl rfl ?_
    refine own_iloadN (pc' := 47) X144 hx (hb hby at_46) rfl rfl ?_
    refine own_iastore (pc' := 48) X144 hx hZ e144 P144 (hb hby at_47) (by decide) (k := 3) (by decide) (by simp) rfl ?_
    intro T145 h145 X145 e145 W145 P145
    have N145 := Fr.snoc X145 N144 gv
    have Z145 : n0 ≤ Array.size h145 := by rw [W145.size]; exact Z144
    show Goes p e below s 16 128 (Q_0 Z q0 q1 q2 q3 q4 h0 n0) T145 (mkF m 48 #[.val (.int q0), .val (.int q1), .val (.int q2), .val (.int q3), .val (.int q4), .val (.int (q4 &&& (7 : Int32))), .val (.int (0 : Int32)), .val (.int (3 : Int32)), .unset, .unset, .unset] [(.ref a141)])
    have Pv : own_PA Z h145 a141 .int [q0, q1, q2, q3] := P145
    refine own_astore (pc' := 50) X145 hx (hb hby at_48) rfl (Ls' := #[.val (.int q0), .val (.int q1), .val (.int q2), .val (.int q3), .val (.int q4), .val (.int (q4 &&& (7 : Int32))), .val (.int (0 : Int32)), .val (.int (3 : Int32)), .val (.ref a141), .unset, .unset]) rfl rfl ?_
    refine own_aconstNull (pc' := 51) X145 hx (hb hby at_50) rfl ?_
    refine own_astore (pc' := 53) X145 hx (hb hby at_51) rfl (Ls' := #[.val (.int q0), .val (.int q1), .val (.int q2), .val (.int q3), .val (.int q4), .val (.int (q4 &&& (7 : Int32))), .val (.int (0 : Int32)), .val (.int (3 : Int32)), .val (.ref a141), .val (.null), .unset]) rfl rfl ?_
    refine own_iload (pc' := 55) X145 hx (hb hby at_53) rfl rfl ?_
    refine own_ifN (pc' := 58) X145 hx (hb hby at_55) (by decide) rfl ?_
    refine own_iload (pc' := 60) X145 hx (hb hby at_58) rfl rfl ?_
    refine own_newarray (pc' := 62) X145 hx hZ (hw _ (List.mem_of_getElem? (i := 4) rfl)) e145 (hb hby at_60) (k := 3) (cap := 4) rfl (by decide) rfl (by decide) (by decide) (by decide) (by decide) rfl ?_
    intro T146 h146 a146 g146 X146 e146 E146 P146
    show Goes p e below s 16 128 (Q_0 Z q0 q1 q2 q3 q4 h0 n0) T146 (mkF m 62 #[.val (.int q0), .val (.int q1), .val (.int q2), .val (.int q3), .val (.int q4), .val (.int (q4 &&& (7 : Int32))), .val (.int (0 : Int32)), .val (.int (3 : Int32)), .val (.ref a141), .val (.null), .unset] [(.ref a146)])
    have Pw := Pv.ext E146
    have go : n0 ≤ a146 := by rw [g146]; exact Z145
    have Zo : n0 ≤ Array.size h146 := Nat.le_trans Z145 E146.1
    have ne : a141 ≠ a146 := fun q => absurd (q ▸ Pv.lt) (by rw [g146]; exact Nat.lt_irrefl _)
    refine own_astore (pc' := 64) X146 hx (hb hby at_62) rfl (Ls' := #[.val (.int q0), .val (.int q1), .val (.int q2), .val (.int q3), .val (.int q4), .val (.int (q4 &&& (7 : Int32))), .val (.int (0 : Int32)), .val (.int (3 : Int32)), .val (.ref a141), .val (.ref a146), .unset]) rfl rfl ?_
    refine own_iload (pc' := 66) X146 hx (hb hby at_64) rfl rfl ?_
    refine own_ifN (pc' := 69) X146 hx (hb hby at_66) (by decide) rfl ?_
    refine own_aload (pc' := 71) X146 hx (hb hby at_69) rfl rfl rfl ?_
    refine own_aload (pc' := 73) X146 hx (hb hby at_71) rfl rfl rfl ?_
    refine own_iconst (pc' := 74) X146 hx (hb hby at_73) (v := (0 : Int32)) rfl rfl ?_
    refine own_iload (pc' := 76) X146 hx (hb hby at_74) rfl rfl ?_
    obtain ⟨_, _, ⟨T147, L147, k147, n147⟩, -, X147, ⟨Lc147, hQ147, l147, y147, z147⟩, st147⟩ := Jvm.LawKit.callS X146 hx (y := (⟨"com/example/reciprocal/reciprocal/cbor/ItemOrderFirstEntryOutOfOrderPinLaw", "rank", "([III)I"⟩ : MethodName)) hown (mvT hZ (hw _ (List.mem_of_getElem? (i := 9) rfl))) (mvT hZ (hw _ (List.mem_of_getElem? (i := 10) rfl))) (mvT hZ (hw _ (List.mem_of_getElem? (i := 11) rfl))) (mvT hZ (hw _ (List.mem_of_getElem? (i := 12) rfl))) (by decide) (backOf (W := 1) (rm_3 l Z a0 hw [] a141 q0 q1 q2 q3 q0 (0 : Int32) (3 : Int32) 0 h146 n0 Zo Pw (by decide) (by decide) rfl) hZ (hw _ (List.mem_of_getElem? (i := 12) rfl)) (hw _ (List.mem_of_getElem? (i := 11) rfl)) (by decide) (by decide)) (g := (mkF m 76 #[.val (.int q0), .val (.int q1), .val (.int q2), .val (.int q3), .val (.int q4), .val (.int (q4 &&& (7 : Int32))), .val (.int (0 : Int32)), .val (.int (3 : Int32)), .val (.ref a141), .val (.ref a146), .unset] [(.int (3 : Int32)), (.int (0 : Int32)), (.ref a141), (.ref a146)])) rfl (by rw [hml]; rfl) (argsL := [(.ref a141), (.int (0 : Int32)), (.int (3 : Int32))]) (rest := [(.ref a146)]) (lenOf pd_3 rfl) rfl (by show 2 * 0 + _ ≤ _; exact Nat.le_of_eq rfl) (hb hby at_76) (fun _ _ => ⟨rfl, e146, (by decide : 2 + 0 ≤ _), (by decide : 8 + 0 ≤ _)⟩)
    dsimp only [Pt.U, Pt.locs, Pt.cells, Pt.slots] at X147 l147 y147 z147 st147 hQ147
    subst l147 y147 z147
    obtain ⟨rfl, M147, er0⟩ := hQ147
    have N147 := Fr.app N145 M147
    refine Goes.pre st147 ?_
    show Goes p e below s 16 128 (Q_0 Z q0 q1 q2 q3 q4 h0 n0) T147 (mkF m 79 #[.val (.int q0), .val (.int q1), .val (.int q2), .val (.int q3), .val (.int q4), .val (.int (q4 &&& (7 : Int32))), .val (.int (0 : Int32)), .val (.int (3 : Int32)), .val (.ref a141), .val (.ref a146), .unset] [(.int (own_rank q0 q1 q2 q3 q0 (0 : Int32) (3 : Int32))), (.ref a146)])
    refine own_iconst (pc' := 80) X147 hx (hb hby at_79) (v := (0 : Int32)) rfl rfl ?_
    refine own_iastore (pc' := 81) X147 hx hZ er0 P146 (hb hby at_80) (own_rb3 q0 q1 q2 q3).1.1 rfl (by simp only [List.length_set, List.length_replicate]; exact (own_rb3 q0 q1 q2 q3).1.2) rfl ?_
    intro T148 h148 X148 e148 W148 P148
    have N148 := Fr.snoc X148 N147 go
    have P148_a141 := Pw.other W148 ne
    have Z148 : n0 ≤ Array.size h148 := by rw [W148.size]; exact Zo
    show Goes p e below s 16 128 (Q_0 Z q0 q1 q2 q3 q4 h0 n0) T148 (mkF m 81 #[.val (.int q0), .val (.int q1), .val (.int q2), .val (.int q3), .val (.int q4), .val (.int (q4 &&& (7 : Int32))), .val (.int (0 : Int32)), .val (.int (3 : Int32)), .val (.ref a141), .val (.ref a146), .unset] [])
    refine own_iload (pc' := 83) X148 hx (hb hby at_81) rfl rfl ?_
    refine own_iconst (pc' := 84) X148 hx (hb hby at_83) (v := (1 : Int32)) rfl rfl ?_
    refine own_icmpN (pc' := 87) X148 hx (hb hby at_84) (by decide) rfl ?_
    refine own_aload (pc' := 89) X148 hx (hb hby at_87) rfl rfl rfl ?_
    refine own_aload (pc' := 91) X148 hx (hb hby at_89) rfl rfl rfl ?_
    refine own_iconst (pc' := 92) X148 hx (hb hby at_91) (v := (1 : Int32)) rfl rfl ?_
    refine own_iload (pc' := 94) X148 hx (hb hby at_92) rfl rfl ?_
    obtain ⟨_, _, ⟨T149, L149, k149, n149⟩, -, X149, ⟨Lc149, hQ149, l149, y149, z149⟩, st149⟩ := Jvm.LawKit.callS X148 hx (y := (⟨"com/example/reciprocal/reciprocal/cbor/ItemOrderFirstEntryOutOfOrderPinLaw", "rank", "([III)I"⟩ : MethodName)) hown (mvT hZ (hw _ (List.mem_of_getElem? (i := 9) rfl))) (mvT hZ (hw _ (List.mem_of_getElem? (i := 10) rfl))) (mvT hZ (hw _ (List.mem_of_getElem? (i := 11) rfl))) (mvT hZ (hw _ (List.mem_of_getElem? (i := 12) rfl))) (by decide) (backOf (W := 1) (rm_3 l Z a0 hw [] a141 q0 q1 q2 q3 q1 (1 : Int32) (3 : Int32) 1 h148 n0 Z148 P148_a141 (by decide) (by decide) rfl) hZ (hw _ (List.mem_of_getElem? (i := 12) rfl)) (hw _ (List.mem_of_getElem? (i := 11) rfl)) (by decide) (by decide)) (g := (mkF m 94 #[.val (.int q0), .val (.int q1), .val (.int q2), .val (.int q3), .val (.int q4), .val (.int (q4 &&& (7 : Int32))), .val (.int (0 : Int32)), .val (.int (3 : Int32)), .val (.ref a141), .val (.ref a146), .unset] [(.int (3 : Int32)), (.int (1 : Int32)), (.ref a141), (.ref a146)])) rfl (by rw [hml]; rfl) (argsL := [(.ref a141), (.int (1 : Int32)), (.int (3 : Int32))]) (rest := [(.ref a146)]) (lenOf pd_3 rfl) rfl (by show 2 * 0 + _ ≤ _; exact Nat.le_of_eq rfl) (hb hby at_94) (fun _ _ => ⟨rfl, e148, (by decide : 2 + 0 ≤ _), (by decide : 8 + 0 ≤ _)⟩)
    dsimp only [Pt.U, Pt.locs, Pt.cells, Pt.slots] at X149 l149 y149 z149 st149 hQ149
    subst l149 y149 z149
    obtain ⟨rfl, M149, er1⟩ := hQ149
    have N149 := Fr.app N148 M149
    refine Goes.pre st149 ?_
    show Goes p e below s 16 128 (Q_0 Z q0 q1 q2 q3 q4 h0 n0) T149 (mkF m 97 #[.val (.int q0), .val (.int q1), .val (.int q2), .val (.int q3), .val (.int q4), .val (.int (q4 &&& (7 : Int32))), .val (.int (0 : Int32)), .val (.int (3 : Int32)), .val (.ref a141), .val (.ref a146), .unset] [(.int (own_rank q0 q1 q2 q3 q1 (1 : Int32) (3 : Int32))), (.ref a146)])
    refine own_iconst (pc' := 98) X149 hx (hb hby at_97) (v := (1 : Int32)) rfl rfl ?_
    refine own_iastore (pc' := 99) X149 hx hZ er1 P148 (hb hby at_98) (own_rb3 q0 q1 q2 q3).2.1.1 rfl (by simp only [List.length_set, List.length_replicate]; exact (own_rb3 q0 q1 q2 q3).2.1.2) rfl ?_
    intro T150 h150 X150 e150 W150 P150
    have N150 := Fr.snoc X150 N149 go
    have P150_a141 := P148_a141.other W150 ne
    have Z150 : n0 ≤ Array.size h150 := by rw [W150.size]; exact Z148
    show Goes p e below s 16 128 (Q_0 Z q0 q1 q2 q3 q4 h0 n0) T150 (mkF m 99 #[.val (.int q0), .val (.int q1), .val (.int q2), .val (.int q3), .val (.int q4), .val (.int (q4 &&& (7 : Int32))), .val (.int (0 : Int32)), .val (.int (3 : Int32)), .val (.ref a141), .val (.ref a146), .unset] [])
    refine own_iload (pc' := 101) X150 hx (hb hby at_99) rfl rfl ?_
    refine own_iconst (pc' := 102) X150 hx (hb hby at_101) (v := (2 : Int32)) rfl rfl ?_
    refine own_icmpN (pc' := 105) X150 hx (hb hby at_102) (by decide) rfl ?_
    refine own_aload (pc' := 107) X150 hx (hb hby at_105) rfl rfl rfl ?_
    refine own_aload (pc' := 109) X150 hx (hb hby at_107) rfl rfl rfl ?_
    refine own_iconst (pc' := 110) X150 hx (hb hby at_109) (v := (2 : Int32)) rfl rfl ?_
    refine own_iload (pc' := 112) X150 hx (hb hby at_110) rfl rfl ?_
    obtain ⟨_, _, ⟨T151, L151, k151, n151⟩, -, X151, ⟨Lc151, hQ151, l151, y151, z151⟩, st151⟩ := Jvm.LawKit.callS X150 hx (y := (⟨"com/example/reciprocal/reciprocal/cbor/ItemOrderFirstEntryOutOfOrderPinLaw", "rank", "([III)I"⟩ : MethodName)) hown (mvT hZ (hw _ (List.mem_of_getElem? (i := 9) rfl))) (mvT hZ (hw _ (List.mem_of_getElem? (i := 10) rfl))) (mvT hZ (hw _ (List.mem_of_getElem? (i := 11) rfl))) (mvT hZ (hw _ (List.mem_of_getElem? (i := 12) rfl))) (by decide) (backOf (W := 1) (rm_3 l Z a0 hw [] a141 q0 q1 q2 q3 q2 (2 : Int32) (3 : Int32) 2 h150 n0 Z150 P150_a141 (by decide) (by decide) rfl) hZ (hw _ (List.mem_of_getElem? (i := 12) rfl)) (hw _ (List.mem_of_getElem? (i := 11) rfl)) (by decide) (by decide)) (g := (mkF m 112 #[.val (.int q0), .val (.int q1), .val (.int q2), .val (.int q3), .val (.int q4), .val (.int (q4 &&& (7 : Int32))), .val (.int (0 : Int32)), .val (.int (3 : Int32)), .val (.ref a141), .val (.ref a146), .unset] [(.int (3 : Int32)), (.int (2 : Int32)), (.ref a141), (.ref a146)])) rfl (by rw [hml]; rfl) (argsL := [(.ref a141), (.int (2 : Int32)), (.int (3 : Int32))]) (rest := [(.ref a146)]) (lenOf pd_3 rfl) rfl (by show 2 * 0 + _ ≤ _; exact Nat.le_of_eq rfl) (hb hby at_112) (fun _ _ => ⟨rfl, e150, (by decide : 2 + 0 ≤ _), (by decide : 8 + 0 ≤ _)⟩)
    dsimp only [Pt.U, Pt.locs, Pt.cells, Pt.slots] at X151 l151 y151 z151 st151 hQ151
    subst l151 y151 z151
    obtain ⟨rfl, M151, er2⟩ := hQ151
    have N151 := Fr.app N150 M151
    refine Goes.pre st151 ?_
    show Goes p e below s 16 128 (Q_0 Z q0 q1 q2 q3 q4 h0 n0) T151 (mkF m 115 #[.val (.int q0), .val (.int q1), .val (.int q2), .val (.int q3), .val (.int q4), .val (.int (q4 &&& (7 : Int32))), .val (.int (0 : Int32)), .val (.int (3 : Int32)), .val (.ref a141), .val (.ref a146), .unset] [(.int (own_rank q0 q1 q2 q3 q2 (2 : Int32) (3 : Int32))), (.ref a146)])
    refine own_iconst (pc' := 116) X151 hx (hb hby at_115) (v := (2 : Int32)) rfl rfl ?_
    refine own_iastore (pc' := 117) X151 hx hZ er2 P150 (hb hby at_116) (own_rb3 q0 q1 q2 q3).2.2.1 rfl (by simp only [List.length_set, List.length_replicate]; exact (own_rb3 q0 q1 q2 q3).2.2.2) rfl ?_
    intro T152 h152 X152 e152 W152 P152
    have N152 := Fr.snoc X152 N151 go
    have P152_a141 := P150_a141.other W152 ne
    have Z152 : n0 ≤ Array.size h152 := by rw [W152.size]; exact Z150
    show Goes p e below s 16 128 (Q_0 Z q0 q1 q2 q3 q4 h0 n0) T152 (mkF m 117 #[.val (.int q0), .val (.int q1), .val (.int q2), .val (.int q3), .val (.int q4), .val (.int (q4 &&& (7 : Int32))), .val (.int (0 : Int32)), .val (.int (3 : Int32)), .val (.ref a141), .val (.ref a146), .unset] [])
    refine own_iload (pc' := 119) X152 hx (hb hby at_117) rfl rfl ?_
    refine own_iconst (pc' := 120) X152 hx (hb hby at_119) (v := (3 : Int32)) rfl rfl ?_
    refine own_icmpY X152 hx (hb hby at_120) (by decide) (by decide) (pc' := 135) (by decide) ?_
    refine own_iload (pc' := 137) X152 hx (hb hby at_135) rfl rfl ?_
    refine own_ifY X152 hx (hb hby at_137) (by decide) (by decide) (pc' := 146) (by decide) ?_
    refine own_iload (pc' := 148) X152 hx (hb hby at_146) rfl rfl ?_
    refine own_iconst (pc' := 149) X152 hx (hb hby at_148) (v := (1 : Int32)) rfl rfl ?_
    refine own_icmpN (pc' := 152) X152 hx (hb hby at_149) (by decide) rfl ?_
    refine own_iloadN (pc' := 153) X152 hx (hb hby at_152) rfl rfl ?_
    refine own_iloadN (pc' := 154) X152 hx (hb hby at_153) rfl rfl ?_
    by_cases hc154 : q1 < q0
    · refine own_icmpN (pc' := 157) X152 hx (hb hby at_154) (tlt hc154).2.1 rfl ?_
      refine own_iconst (pc' := 158) X152 hx (hb hby at_157) (v := (1 : Int32)) rfl rfl ?_
      refine own_istore (pc' := 160) X152 hx (hb hby at_158) (Ls' := #[.val (.int q0), .val (.int q1), .val (.int q2), .val (.int q3), .val (.int q4), .val (.int (q4 &&& (7 : Int32))), .val (.int (0 : Int32)), .val (.int (3 : Int32)), .val (.ref a141), .val (.ref a146), .val (.int (1 : Int32))]) rfl rfl ?_
      refine own_goto X152 hx (hb hby at_160) (by decide) (pc' := 200) (by decide) ?_
      refine own_aload (pc' := 202) X152 hx (hb hby at_200) rfl rfl rfl ?_
      obtain ⟨_, _, ⟨T153, L153, k153, n153⟩, -, X153, ⟨Lc153, hQ153, l153, y153, z153⟩, st153⟩ := Jvm.LawKit.callS X152 hx (y := (⟨"com/example/reciprocal/reciprocal/cbor/ItemOrder", "firstEntryOutOfOrder", "([I)I"⟩ : MethodName)) hown (mvT hZ (hw _ (List.mem_of_getElem? (i := 5) rfl))) (mvT hZ (hw _ (List.mem_of_getElem? (i := 6) rfl))) (mvT hZ (hw _ (List.mem_of_getElem? (i := 7) rfl))) (mvT hZ (hw _ (List.mem_of_getElem? (i := 8) rfl))) (by decide) (backOf (W := 0) (rm_4 l Z a0 hw [] a146 (own_ks3 q0 q1 q2 q3) h152 n0 Z152 P152 (own_law3 q0 q1 q2 q3).1 (own_law3 q0 q1 q2 q3).2.1) hZ (hw _ (List.mem_of_getElem? (i := 8) rfl)) (hw _ (List.mem_of_getElem? (i := 7) rfl)) (by decide) (by decide)) (g := (mkF m 202 #[.val (.int q0), .val (.int q1), .val (.int q2), .val (.int q3), .val (.int q4), .val (.int (q4 &&& (7 : Int32))), .val (.int (0 : Int32)), .val (.int (3 : Int32)), .val (.ref a141), .val (.ref a146), .val (.int (1 : Int32))] [(.ref a146)])) rfl (by rw [hml]; rfl) (argsL := [(.ref a146)]) (rest := []) (lenOf pd_4 rfl) rfl (by show 2 * 0 + _ ≤ _; exact Nat.le_of_eq rfl) (hb hby at_202) (fun _ _ => ⟨rfl, e152, (by decide : 2 + 1 ≤ _), (by decide : 8 + 4 ≤ _)⟩)
      dsimp only [Pt.U, Pt.locs, Pt.cells, Pt.slots] at X153 l153 y153 z153 st153 hQ153
      subst l153 y153 z153
      obtain ⟨rfl, M153⟩ := hQ153
      have N153 := Fr.app N152 M153
      refine Goes.pre st153 ?_
      show Goes p e below s 16 128 (Q_0 Z q0 q1 q2 q3 q4 h0 n0) T153 (mkF m 205 #[.val (.int q0), .val (.int q1), .val (.int q2), .val (.int q3), .val (.int q4), .val (.int (q4 &&& (7 : Int32))), .val (.int (0 : Int32)), .val (.int (3 : Int32)), .val (.ref a141), .val (.ref a146), .val (.int (1 : Int32))] [(.int (own_first (own_ks3 q0 q1 q2 q3)))])
      refine own_iload (pc' := 207) X153 hx (hb hby at_205) rfl rfl ?_
      refine own_icmpN (pc' := 210) X153 hx (hb hby at_207) (teq (by rw [(own_law3 q0 q1 q2 q3).2.2]; simp [hc154] : (own_first (own_ks3 q0 q1 q2 q3)) = (1 : Int32))).2 rfl ?_
      refine own_iconst (pc' := 211) X153 hx (hb hby at_210) (v := (1 : Int32)) rfl rfl ?_
      refine own_goto X153 hx (hb hby at_211) (by decide) (pc' := 215) (by decide) ?_
      exact own_retN X153 hx hlk (t := .boolean) Bd.returns (by simp) (hb hby at_215) (by decide) (by decide) ⟨rfl, N153⟩
    · refine own_icmpY X152 hx (hb hby at_154) (flt hc154).2.1 (by decide) (pc' := 163) (by decide) ?_
      refine own_iload (pc' := 165) X152 hx (hb hby at_163) rfl rfl ?_
      refine own_iconst (pc' := 166) X152 hx (hb hby at_165) (v := (2 : Int32)) rfl rfl ?_
      refine own_icmpN (pc' := 169) X152 hx (hb hby at_166) (by decide) rfl ?_
      refine own_iloadN (pc' := 170) X152 hx (hb hby at_169) rfl rfl ?_
      refine own_iloadN (pc' := 171) X152 hx (hb hby at_170) rfl rfl ?_
      by_cases hc171 : q2 < q1
      · refine own_icmpN (pc' := 174) X152 hx (hb hby at_171) (tlt hc171).2.1 rfl ?_
        refine own_iconst (pc' := 175) X152 hx (hb hby at_174) (v := (2 : Int32)) rfl rfl ?_
        refine own_istore (pc' := 177) X152 hx (hb hby at_175) (Ls' := #[.val (.int q0), .val (.int q1), .val (.int q2), .val (.int q3), .val (.int q4), .val (.int (q4 &&& (7 : Int32))), .val (.int (0 : Int32)), .val (.int (3 : Int32)), .val (.ref a141), .val (.ref a146), .val (.int (2 : Int32))]) rfl rfl ?_
        refine own_goto X152 hx (hb hby at_177) (by decide) (pc' := 200) (by decide) ?_
        refine own_aload (pc' := 202) X152 hx (hb hby at_200) rfl rfl rfl ?_
        obtain ⟨_, _, ⟨T154, L154, k154, n154⟩, -, X154, ⟨Lc154, hQ154, l154, y154, z154⟩, st154⟩ := Jvm.LawKit.callS X152 hx (y := (⟨"com/example/reciprocal/reciprocal/cbor/ItemOrder", "firstEntryOutOfOrder", "([I)I"⟩ : MethodName)) hown (mvT hZ (hw _ (List.mem_of_getElem? (i := 5) rfl))) (mvT hZ (hw _ (List.mem_of_getElem? (i := 6) rfl))) (mvT hZ (hw _ (List.mem_of_getElem? (i := 7) rfl))) (mvT hZ (hw _ (List.mem_of_getElem? (i := 8) rfl))) (by decide) (backOf (W := 0) (rm_4 l Z a0 hw [] a146 (own_ks3 q0 q1 q2 q3) h152 n0 Z152 P152 (own_law3 q0 q1 q2 q3).1 (own_law3 q0 q1 q2 q3).2.1) hZ (hw _ (List.mem_of_getElem? (i := 8) rfl)) (hw _ (List.mem_of_getElem? (i := 7) rfl)) (by decide) (by decide)) (g := (mkF m 202 #[.val (.int q0), .val (.int q1), .val (.int q2), .val (.int q3), .val (.int q4), .val (.int (q4 &&& (7 : Int32))), .val (.int (0 : Int32)), .val (.int (3 : Int32)), .val (.ref a141), .val (.ref a146), .val (.int (2 : Int32))] [(.ref a146)])) rfl (by rw [hml]; rfl) (argsL := [(.ref a146)]) (rest := []) (lenOf pd_4 rfl) rfl (by show 2 * 0 + _ ≤ _; exact Nat.le_of_eq rfl) (hb hby at_202) (fun _ _ => ⟨rfl, e152, (by decide : 2 + 1 ≤ _), (by decide : 8 + 4 ≤ _)⟩)
        dsimp only [Pt.U, Pt.locs, Pt.cells, Pt.slots] at X154 l154 y154 z154 st154 hQ154
        subst l154 y154 z154
        obtain ⟨rfl, M154⟩ := hQ154
        have N154 := Fr.app N152 M154
        refine Goes.pre st154 ?_
        show Goes p e below s 16 128 (Q_0 Z q0 q1 q2 q3 q4 h0 n0) T154 (mkF m 205 #[.val (.int q0), .val (.int q1), .val (.int q2), .val (.int q3), .val (.int q4), .val (.int (q4 &&& (7 : Int32))), .val (.int (0 : Int32)), .val (.int (3 : Int32)), .val (.ref a141), .val (.ref a146), .val (.int (2 : Int32))] [(.int (own_first (own_ks3 q0 q1 q2 q3)))])
        refine own_iload (pc' := 207) X154 hx (hb hby at_205) rfl rfl ?_
        refine own_icmpN (pc' := 210) X154 hx (hb hby at_207) (teq (by rw [(own_law3 q0 q1 q2 q3).2.2]; simp [hc154, hc171] : (own_first (own_ks3 q0 q1 q2 q3)) = (2 : Int32))).2 rfl ?_
        refine own_iconst (pc' := 211) X154 hx (hb hby at_210) (v := (1 : Int32)) rfl rfl ?_
        refine own_goto X154 hx (hb hby at_211) (by decide) (pc' := 215) (by decide) ?_
        exact own_retN X154 hx hlk (t := .boolean) Bd.returns (by simp) (hb hby at_215) (by decide) (by decide) ⟨rfl, N154⟩
      · refine own_icmpY X152 hx (hb hby at_171) (flt hc171).2.1 (by decide) (pc' := 180) (by decide) ?_
        refine own_iload (pc' := 182) X152 hx (hb hby at_180) rfl rfl ?_
        refine own_iconst (pc' := 183) X152 hx (hb hby at_182) (v := (3 : Int32)) rfl rfl ?_
        refine own_icmpY X152 hx (hb hby at_183) (by decide) (by decide) (pc' := 197) (by decide) ?_
        refine own_iconst (pc' := 198) X152 hx (hb hby at_197) (v := (-1 : Int32)) rfl rfl ?_
        refine own_istore (pc' := 200) X152 hx (hb hby at_198) (Ls' := #[.val (.int q0), .val (.int q1), .val (.int q2), .val (.int q3), .val (.int q4), .val (.int (q4 &&& (7 : Int32))), .val (.int (0 : Int32)), .val (.int (3 : Int32)), .val (.ref a141), .val (.ref a146), .val (.int (-1 : Int32))]) rfl rfl ?_
        refine own_aload (pc' := 202) X152 hx (hb hby at_200) rfl rfl rfl ?_
        obtain ⟨_, _, ⟨T155, L155, k155, n155⟩, -, X155, ⟨Lc155, hQ155, l155, y155, z155⟩, st155⟩ := Jvm.LawKit.callS X152 hx (y := (⟨"com/example/reciprocal/reciprocal/cbor/ItemOrder", "firstEntryOutOfOrder", "([I)I"⟩ : MethodName)) hown (mvT hZ (hw _ (List.mem_of_getElem? (i := 5) rfl))) (mvT hZ (hw _ (List.mem_of_getElem? (i := 6) rfl))) (mvT hZ (hw _ (List.mem_of_getElem? (i := 7) rfl))) (mvT hZ (hw _ (List.mem_of_getElem? (i := 8) rfl))) (by decide) (backOf (W := 0) (rm_4 l Z a0 hw [] a146 (own_ks3 q0 q1 q2 q3) h152 n0 Z152 P152 (own_law3 q0 q1 q2 q3).1 (own_law3 q0 q1 q2 q3).2.1) hZ (hw _ (List.mem_of_getElem? (i := 8) rfl)) (hw _ (List.mem_of_getElem? (i := 7) rfl)) (by decide) (by decide)) (g := (mkF m 202 #[.val (.int q0), .val (.int q1), .val (.int q2), .val (.int q3), .val (.int q4), .val (.int (q4 &&& (7 : Int32))), .val (.int (0 : Int32)), .val (.int (3 : Int32)), .val (.ref a141), .val (.ref a146), .val (.int (-1 : Int32))] [(.ref a146)])) rfl (by rw [hml]; rfl) (argsL := [(.ref a146)]) (rest := []) (lenOf pd_4 rfl) rfl (by show 2 * 0 + _ ≤ _; exact Nat.le_of_eq rfl) (hb hby at_202) (fun _ _ => ⟨rfl, e152, (by decide : 2 + 1 ≤ _), (by decide : 8 + 4 ≤ _)⟩)
        dsimp only [Pt.U, Pt.locs, Pt.cells, Pt.slots] at X155 l155 y155 z155 st155 hQ155
        subst l155 y155 z155
        obtain ⟨rfl, M155⟩ := hQ155
        have N155 := Fr.app N152 M155
        refine Goes.pre st155 ?_
        show Goes p e below s 16 128 (Q_0 Z q0 q1 q2 q3 q4 h0 n0) T155 (mkF m 205 #[.val (.int q0), .val (.int q1), .val (.int q2), .val (.int q3), .val (.int q4), .val (.int (q4 &&& (7 : Int32))), .val (.int (0 : Int32)), .val (.int (3 : Int32)), .val (.ref a141), .val (.ref a146), .val (.int (-1 : Int32))] [(.int (own_first (own_ks3 q0 q1 q2 q3)))])
        refine own_iload (pc' := 207) X155 hx (hb hby at_205) rfl rfl ?_
        refine own_icmpN (pc' := 210) X155 hx (hb hby at_207) (teq (by rw [(own_law3 q0 q1 q2 q3).2.2]; simp [hc154, hc171] : (own_first (own_ks3 q0 q1 q2 q3)) = (-1 : Int32))).2 rfl ?_
        refine own_iconst (pc' := 211) X155 hx (hb hby at_210) (v := (1 : Int32)) rfl rfl ?_
        refine own_goto X155 hx (hb hby at_211) (by decide) (pc' := 215) (by decide) ?_
        exact own_retN X155 hx hlk (t := .boolean) Bd.returns (by simp) (hb hby at_215) (by decide) (by decide) ⟨rfl, N155⟩
  have J4_n : ∀ (TJ : State) (LJ : List Loc), Stand p l e room_1 s m #[(.int q0), (.int q1), (.int q2), (.int q3), (.int q4)] below meth c TJ LJ 0 0 → TJ.heap = h0 → Fr n0 LJ → Goes p e below s 16 128 (Q_0 Z q0 q1 q2 q3 q4 h0 n0) TJ (mkF m 29 #[.val (.int q0), .val (.int q1), .val (.int q2), .val (.int q3), .val (.int q4), .val (.int (q4 &&& (7 : Int32))), .val (.int (0 : Int32)), .val (.int (4 : Int32)), .unset, .unset, .unset] []) := by
    intro TJ LJ XJ eJ NJ
    refine own_iconst (pc' := 30) XJ hx (hb hby at_29) (v := (4 : Int32)) rfl rfl ?_
    refine own_newarray (pc' := 32) XJ hx hZ (hw _ (List.mem_of_getElem? (i := 4) rfl)) eJ (hb hby at_30) (k := 4) (cap := 4) rfl (by decide) rfl (by decide) (by decide) (by decide) (by decide) rfl ?_
    intro T156 h156 a156 g156 X156 e156 E156 P156
    show Goes p e below s 16 128 (Q_0 Z q0 q1 q2 q3 q4 h0 n0) T156 (mkF m 32 #[.val (.int q0), .val (.int q1), .val (.int q2), .val (.int q3), .val (.int q4), .val (.int (q4 &&& (7 : Int32))), .val (.int (0 : Int32)), .val (.int (4 : Int32)), .unset, .unset, .unset] [(.ref a156)])
    have Zv : n0 ≤ Array.size h156 := Nat.le_trans Z0 E156.1
    have gv : n0 ≤ a156 := by rw [g156]; exact Z0
    refine own_dup (pc' := 33) X156 hx (hb hby at_32) rfl rfl ?_
    refine own_iconst (pc' := 34) X156 hx (hb hby at_33) (v := (0 : Int32)) rfl rfl ?_
    refine own_iloadN (pc' := 35) X156 hx (hb hby at_34) rfl rfl ?_
    refine own_iastore (pc' := 36) X156 hx hZ e156 P156 (hb hby at_35) (by decide) (k := 0) (by decide) (by simp) rfl ?_
    intro T157 h157 X157 e157 W157 P157
    have N157 := Fr.snoc X157 NJ gv
    have Z157 : n0 ≤ Array.size h157 := by rw [W157.size]; exact Zv
    show Goes p e below s 16 128 (Q_0 Z q0 q1 q2 q3 q4 h0 n0) T157 (mkF m 36 #[.val (.int q0), .val (.int q1), .val (.int q2), .val (.int q3), .val (.int q4), .val (.int (q4 &&& (7 : Int32))), .val (.int (0 : Int32)), .val (.int (4 : Int32)), .unset, .unset, .unset] [(.ref a156)])
    refine own_dup (pc' := 37) X157 hx (hb hby at_36) rfl rfl ?_
    refine own_iconst (pc' := 38) X157 hx (hb hby at_37) (v := (1 : Int32)) rfl rfl ?_
    refine own_iloadN (pc' := 39) X157 hx (hb hby at_38) rfl rfl ?_
    refine own_iastore (pc' := 40) X157 hx hZ e157 P157 (hb hby at_39) (by decide) (k := 1) (by decide) (by simp) rfl ?_
    intro T158 h158 X158 e158 W158 P158
    have N158 := Fr.snoc X158 N157 gv
    have Z158 : n0 ≤ Array.size h158 := by rw [W158.size]; exact Z157
    show Goes p e below s 16 128 (Q_0 Z q0 q1 q2 q3 q4 h0 n0) T158 (mkF m 40 #[.val (.int q0), .val (.int q1), .val (.int q2), .val (.int q3), .val (.int q4), .val (.int (q4 &&& (7 : Int32))), .val (.int (0 : Int32)), .val (.int (4 : Int32)), .unset, .unset, .unset] [(.ref a156)])
    refine own_dup (pc' := 41) X158 hx (hb hby at_40) rfl rfl ?_
    refine own_iconst (pc' := 42) X158 hx (hb hby at_41) (v := (2 : Int32)) rfl rfl ?_
    refine own_iloadN (pc' := 43) X158 hx (hb hby at_42) rfl rfl ?_
    refine own_iastore (pc' := 44) X158 hx hZ e158 P158 (hb hby at_43) (by decide) (k := 2) (by decide) (by simp) rfl ?_
    intro T159 h159 X159 e159 W159 P159
    have N159 := Fr.snoc X159 N158 gv
    have Z159 : n0 ≤ Array.size h159 := by rw [W159.size]; exact Z158
    show Goes p e below s 16 128 (Q_0 Z q0 q1 q2 q3 q4 h0 n0) T159 (mkF m 44 #[.val (.int q0), .val (.int q1), .val (.int q2), .val (.int q3), .val (.int q4), .val (.int (q4 &&& (7 : Int32))), .val (.int (0 : Int32)), .val (.int (4 : Int32)), .unset, .unset, .unset] [(.ref a156)])
    refine own_dup (pc' := 45) X159 hx (hb hby at_44) rfl rfl ?_
    refine own_iconst (pc' := 46) X159 hx (hb hby at_45) (v := (3 : Int32)) rfl rfl ?_
    refine own_iloadN (pc' := 47) X159 hx (hb hby at_46) rfl rfl ?_
    refine own_iastore (pc' := 48) X159 hx hZ e159 P159 (hb hby at_47) (by decide) (k := 3) (by decide) (by simp) rfl ?_
    intro T160 h160 X160 e160 W160 P160
    have N160 := Fr.snoc X160 N159 gv
    have Z160 : n0 ≤ Array.size h160 := by rw [W160.size]; exact Z159
    show Goes p e below s 16 128 (Q_0 Z q0 q1 q2 q3 q4 h0 n0) T160 (mkF m 48 #[.val (.int q0), .val (.int q1), .val (.int q2), .val (.int q3), .val (.int q4), .val (.int (q4 &&& (7 : Int32))), .val (.int (0 : Int32)), .val (.int (4 : Int32)), .unset, .unset, .unset] [(.ref a156)])
    have Pv : own_PA Z h160 a156 .int [q0, q1, q2, q3] := P160
    refine own_astore (pc' := 50) X160 hx (hb hby at_48) rfl (Ls' := #[.val (.int q0), .val (.int q1), .val (.int q2), .val (.int q3), .val (.int q4), .val (.int (q4 &&& (7 : Int32))), .val (.int (0 : Int32)), .val (.int (4 : Int32)), .val (.ref a156), .unset, .unset]) rfl rfl ?_
    refine own_aconstNull (pc' := 51) X160 hx (hb hby at_50) rfl ?_
    refine own_astore (pc' := 53) X160 hx (hb hby at_51) rfl (Ls' := #[.val (.int q0), .val (.int q1), .val (.int q2), .val (.int q3), .val (.int q4), .val (.int (q4 &&& (7 : Int32))), .val (.int (0 : Int32)), .val (.int (4 : Int32)), .val (.ref a156), .val (.null), .unset]) rfl rfl ?_
    refine own_iload (pc' := 55) X160 hx (hb hby at_53) rfl rfl ?_
    refine own_ifN (pc' := 58) X160 hx (hb hby at_55) (by decide) rfl ?_
    refine own_iload (pc' := 60) X160 hx (hb hby at_58) rfl rfl ?_
    refine own_newarray (pc' := 62) X160 hx hZ (hw _ (List.mem_of_getElem? (i := 4) rfl)) e160 (hb hby at_60) (k := 4) (cap := 4) rfl (by decide) rfl (by decide) (by decide) (by decide) (by decide) rfl ?_
    intro T161 h161 a161 g161 X161 e161 E161 P161
    show Goes p e below s 16 128 (Q_0 Z q0 q1 q2 q3 q4 h0 n0) T161 (mkF m 62 #[.val (.int q0), .val (.int q1), .val (.int q2), .val (.int q3), .val (.int q4), .val (.int (q4 &&& (7 : Int32))), .val (.int (0 : Int32)), .val (.int (4 : Int32)), .val (.ref a156), .val (.null), .unset] [(.ref a161)])
    have Pw := Pv.ext E161
    have go : n0 ≤ a161 := by rw [g161]; exact Z160
    have Zo : n0 ≤ Array.size h161 := Nat.le_trans Z160 E161.1
    have ne : a156 ≠ a161 := fun q => absurd (q ▸ Pv.lt) (by rw [g161]; exact Nat.lt_irrefl _)
    refine own_astore (pc' := 64) X161 hx (hb hby at_62) rfl (Ls' := #[.val (.int q0), .val (.int q1), .val (.int q2), .val (.int q3), .val (.int q4), .val (.int (q4 &&& (7 : Int32))), .val (.int (0 : Int32)), .val (.int (4 : Int32)), .val (.ref a156), .val (.ref a161), .unset]) rfl rfl ?_
    refine own_iload (pc' := 66) X161 hx (hb hby at_64) rfl rfl ?_
    refine own_ifN (pc' := 69) X161 hx (hb hby at_66) (by decide) rfl ?_
    refine own_aload (pc' := 71) X161 hx (hb hby at_69) rfl rfl rfl ?_
    refine own_aload (pc' := 73) X161 hx (hb hby at_71) rfl rfl rfl ?_
    refine own_iconst (pc' := 74) X161 hx (hb hby at_73) (v := (0 : Int32)) rfl rfl ?_
    refine own_iload (pc' := 76) X161 hx (hb hby at_74) rfl rfl ?_
    obtain ⟨_, _, ⟨T162, L162, k162, n162⟩, -, X162, ⟨Lc162, hQ162, l162, y162, z162⟩, st162⟩ := Jvm.LawKit.callS X161 hx (y := (⟨"com/example/reciprocal/reciprocal/cbor/ItemOrderFirstEntryOutOfOrderPinLaw", "rank", "([III)I"⟩ : MethodName)) hown (mvT hZ (hw _ (List.mem_of_getElem? (i := 9) rfl))) (mvT hZ (hw _ (List.mem_of_getElem? (i := 10) rfl))) (mvT hZ (hw _ (List.mem_of_getElem? (i := 11) rfl))) (mvT hZ (hw _ (List.mem_of_getElem? (i := 12) rfl))) (by decide) (backOf (W := 1) (rm_3 l Z a0 hw [] a156 q0 q1 q2 q3 q0 (0 : Int32) (4 : Int32) 0 h161 n0 Zo Pw (by decide) (by decide) rfl) hZ (hw _ (List.mem_of_getElem? (i := 12) rfl)) (hw _ (List.mem_of_getElem? (i := 11) rfl)) (by decide) (by decide)) (g := (mkF m 76 #[.val (.int q0), .val (.int q1), .val (.int q2), .val (.int q3), .val (.int q4), .val (.int (q4 &&& (7 : Int32))), .val (.int (0 : Int32)), .val (.int (4 : Int32)), .val (.ref a156), .val (.ref a161), .unset] [(.int (4 : Int32)), (.int (0 : Int32)), (.ref a156), (.ref a161)])) rfl (by rw [hml]; rfl) (argsL := [(.ref a156), (.int (0 : Int32)), (.int (4 : Int32))]) (rest := [(.ref a161)]) (lenOf pd_3 rfl) rfl (by show 2 * 0 + _ ≤ _; exact Nat.le_of_eq rfl) (hb hby at_76) (fun _ _ => ⟨rfl, e161, (by decide : 2 + 0 ≤ _), (by decide : 8 + 0 ≤ _)⟩)
    dsimp only [Pt.U, Pt.locs, Pt.cells, Pt.slots] at X162 l162 y162 z162 st162 hQ162
    subst l162 y162 z162
    obtain ⟨rfl, M162, er0⟩ := hQ162
    have N162 := Fr.app N160 M162
    refine Goes.pre st162 ?_
    show Goes p e below s 16 128 (Q_0 Z q0 q1 q2 q3 q4 h0 n0) T162 (mkF m 79 #[.val (.int q0), .val (.int q1), .val (.int q2), .val (.int q3), .val (.int q4), .val (.int (q4 &&& (7 : Int32))), .val (.int (0 : Int32)), .val (.int (4 : Int32)), .val (.ref a156), .val (.ref a161), .unset] [(.int (own_rank q0 q1 q2 q3 q0 (0 : Int32) (4 : Int32))), (.ref a161)])
    refine own_iconst (pc' := 80) X162 hx (hb hby at_79) (v := (0 : Int32)) rfl rfl ?_
    refine own_iastore (pc' := 81) X162 hx hZ er0 P161 (hb hby at_80) (own_rb4 q0 q1 q2 q3).1.1 rfl (by simp only [List.length_set, List.length_replicate]; exact (own_rb4 q0 q1 q2 q3).1.2) rfl ?_
    intro T163 h163 X163 e163 W163 P163
    have N163 := Fr.snoc X163 N162 go
    have P163_a156 := Pw.other W163 ne
    have Z163 : n0 ≤ Array.size h163 := by rw [W163.size]; exact Zo
    show Goes p e below s 16 128 (Q_0 Z q0 q1 q2 q3 q4 h0 n0) T163 (mkF m 81 #[.val (.int q0), .val (.int q1), .val (.int q2), .val (.int q3), .val (.int q4), .val (.int (q4 &&& (7 : Int32))), .val (.int (0 : Int32)), .val (.int (4 : Int32)), .val (.ref a156), .val (.ref a161), .unset] [])
    refine own_iload (pc' := 83) X163 hx (hb hby at_81) rfl rfl ?_
    refine own_iconst (pc' := 84) X163 hx (hb hby at_83) (v := (1 : Int32)) rfl rfl ?_
    refine own_icmpN (pc' := 87) X163 hx (hb hby at_84) (by decide) rfl ?_
    refine own_aload (pc' := 89) X163 hx (hb hby at_87) rfl rfl rfl ?_
    refine own_aload (pc' := 91) X163 hx (hb hby at_89) rfl rfl rfl ?_
    refine own_iconst (pc' := 92) X163 hx (hb hby at_91) (v := (1 : Int32)) rfl rfl ?_
    refine own_iload (pc' := 94) X163 hx (hb hby at_92) rfl rfl ?_
    obtain ⟨_, _, ⟨T164, L164, k164, n164⟩, -, X164, ⟨Lc164, hQ164, l164, y164, z164⟩, st164⟩ := Jvm.LawKit.callS X163 hx (y := (⟨"com/example/reciprocal/reciprocal/cbor/ItemOrderFirstEntryOutOfOrderPinLaw", "rank", "([III)I"⟩ : MethodName)) hown (mvT hZ (hw _ (List.mem_of_getElem? (i := 9) rfl))) (mvT hZ (hw _ (List.mem_of_getElem? (i := 10) rfl))) (mvT hZ (hw _ (List.mem_of_getElem? (i := 11) rfl))) (mvT hZ (hw _ (List.mem_of_getElem? (i := 12) rfl))) (by decide) (backOf (W := 1) (rm_3 l Z a0 hw [] a156 q0 q1 q2 q3 q1 (1 : Int32) (4 : Int32) 1 h163 n0 Z163 P163_a156 (by decide) (by decide) rfl) hZ (hw _ (List.mem_of_getElem? (i := 12) rfl)) (hw _ (List.mem_of_getElem? (i := 11) rfl)) (by decide) (by decide)) (g := (mkF m 94 #[.val (.int q0), .val (.int q1), .val (.int q2), .val (.int q3), .val (.int q4), .val (.int (q4 &&& (7 : Int32))), .val (.int (0 : Int32)), .val (.int (4 : Int32)), .val (.ref a156), .val (.ref a161), .unset] [(.int (4 : Int32)), (.int (1 : Int32)), (.ref a156), (.ref a161)])) rfl (by rw [hml]; rfl) (argsL := [(.ref a156), (.int (1 : Int32)), (.int (4 : Int32))]) (rest := [(.ref a161)]) (lenOf pd_3 rfl) rfl (by show 2 * 0 + _ ≤ _; exact Nat.le_of_eq rfl) (hb hby at_94) (fun _ _ => ⟨rfl, e163, (by decide : 2 + 0 ≤ _), (by decide : 8 + 0 ≤ _)⟩)
    dsimp only [Pt.U, Pt.locs, Pt.cells, Pt.slots] at X164 l164 y164 z164 st164 hQ164
    subst l164 y164 z164
    obtain ⟨rfl, M164, er1⟩ := hQ164
    have N164 := Fr.app N163 M164
    refine Goes.pre st164 ?_
    show Goes p e below s 16 128 (Q_0 Z q0 q1 q2 q3 q4 h0 n0) T164 (mkF m 97 #[.val (.int q0), .val (.int q1), .val (.int q2), .val (.int q3), .val (.int q4), .val (.int (q4 &&& (7 : Int32))), .val (.int (0 : Int32)), .val (.int (4 : Int32)), .val (.ref a156), .val (.ref a161), .unset] [(.int (own_rank q0 q1 q2 q3 q1 (1 : Int32) (4 : Int32))), (.ref a161)])
    refine own_iconst (pc' := 98) X164 hx (hb hby at_97) (v := (1 : Int32)) rfl rfl ?_
    refine own_iastore (pc' := 99) X164 hx hZ er1 P163 (hb hby at_98) (own_rb4 q0 q1 q2 q3).2.1.1 rfl (by simp only [List.length_set, List.length_replicate]; exact (own_rb4 q0 q1 q2 q3).2.1.2) rfl ?_
    intro T165 h165 X165 e165 W165 P165
    have N165 := Fr.snoc X165 N164 go
    have P165_a156 := P163_a156.other W165 ne
    have Z165 : n0 ≤ Array.size h165 := by rw [W165.size]; exact Z163
    show Goes p e below s 16 128 (Q_0 Z q0 q1 q2 q3 q4 h0 n0) T165 (mkF m 99 #[.val (.int q0), .val (.int q1), .val (.int q2), .val (.int q3), .val (.int q4), .val (.int (q4 &&& (7 : Int32))), .val (.int (0 : Int32)), .val (.int (4 : Int32)), .val (.ref a156), .val (.ref a161), .unset] [])
    refine own_iload (pc' := 101) X165 hx (hb hby at_99) rfl rfl ?_
    refine own_iconst (pc' := 102) X165 hx (hb hby at_101) (v := (2 : Int32)) rfl rfl ?_
    refine own_icmpN (pc' := 105) X165 hx (hb hby at_102) (by decide) rfl ?_
    refine own_aload (pc' := 107) X165 hx (hb hby at_105) rfl rfl rfl ?_
    refine own_aload (pc' := 109) X165 hx (hb hby at_107) rfl rfl rfl ?_
    refine own_iconst (pc' := 110) X165 hx (hb hby at_109) (v := (2 : Int32)) rfl rfl ?_
    refine own_iload (pc' := 112) X165 hx (hb hby at_110) rfl rfl ?_
    obtain ⟨_, _, ⟨T166, L166, k166, n166⟩, -, X166, ⟨Lc166, hQ166, l166, y166, z166⟩, st166⟩ := Jvm.LawKit.callS X165 hx (y := (⟨"com/example/reciprocal/reciprocal/cbor/ItemOrderFirstEntryOutOfOrderPinLaw", "rank", "([III)I"⟩ : MethodName)) hown (mvT hZ (hw _ (List.mem_of_getElem? (i := 9) rfl))) (mvT hZ (hw _ (List.mem_of_getElem? (i := 10) rfl))) (mvT hZ (hw _ (List.mem_of_getElem? (i := 11) rfl))) (mvT hZ (hw _ (List.mem_of_getElem? (i := 12) rfl))) (by decide) (backOf (W := 1) (rm_3 l Z a0 hw [] a156 q0 q1 q2 q3 q2 (2 : Int32) (4 : Int32) 2 h165 n0 Z165 P165_a156 (by decide) (by decide) rfl) hZ (hw _ (List.mem_of_getElem? (i := 12) rfl)) (hw _ (List.mem_of_getElem? (i := 11) rfl)) (by decide) (by decide)) (g := (mkF m 112 #[.val (.int q0), .val (.int q1), .val (.int q2), .val (.int q3), .val (.int q4), .val (.int (q4 &&& (7 : Int32))), .val (.int (0 : Int32)), .val (.int (4 : Int32)), .val (.ref a156), .val (.ref a161), .unset] [(.int (4 : Int32)), (.int (2 : Int32)), (.ref a156), (.ref a161)])) rfl (by rw [hml]; rfl) (argsL := [(.ref a156), (.int (2 : Int32)), (.int (4 : Int32))]) (rest := [(.ref a161)]) (lenOf pd_3 rfl) rfl (by show 2 * 0 + _ ≤ _; exact Nat.le_of_eq rfl) (hb hby at_112) (fun _ _ => ⟨rfl, e165, (by decide : 2 + 0 ≤ _), (by decide : 8 + 0 ≤ _)⟩)
    dsimp only [Pt.U, Pt.locs, Pt.cells, Pt.slots] at X166 l166 y166 z166 st166 hQ166
    subst l166 y166 z166
    obtain ⟨rfl, M166, er2⟩ := hQ166
    have N166 := Fr.app N165 M166
    refine Goes.pre st166 ?_
    show Goes p e below s 16 128 (Q_0 Z q0 q1 q2 q3 q4 h0 n0) T166 (mkF m 115 #[.val (.int q0), .val (.int q1), .val (.int q2), .val (.int q3), .val (.int q4), .val (.int (q4 &&& (7 : Int32))), .val (.int (0 : Int32)), .val (.int (4 : Int32)), .val (.ref a156), .val (.ref a161), .unset] [(.int (own_rank q0 q1 q2 q3 q2 (2 : Int32) (4 : Int32))), (.ref a161)])
    refine own_iconst (pc' := 116) X166 hx (hb hby at_115) (v := (2 : Int32)) rfl rfl ?_
    refine own_iastore (pc' := 117) X166 hx hZ er2 P165 (hb hby at_116) (own_rb4 q0 q1 q2 q3).2.2.1.1 rfl (by simp only [List.length_set, List.length_replicate]; exact (own_rb4 q0 q1 q2 q3).2.2.1.2) rfl ?_
    intro T167 h167 X167 e167 W167 P167
    have N167 := Fr.snoc X167 N166 go
    have P167_a156 := P165_a156.other W167 ne
    have Z167 : n0 ≤ Array.size h167 := by rw [W167.size]; exact Z165
    show Goes p e below s 16 128 (Q_0 Z q0 q1 q2 q3 q4 h0 n0) T167 (mkF m 117 #[.val (.int q0), .val (.int q1), .val (.int q2), .val (.int q3), .val (.int q4), .val (.int (q4 &&& (7 : Int32))), .val (.int (0 : Int32)), .val (.int (4 : Int32)), .val (.ref a156), .val (.ref a161), .unset] [])
    refine own_iload (pc' := 119) X167 hx (hb hby at_117) rfl rfl ?_
    refine own_iconst (pc' := 120) X167 hx (hb hby at_119) (v := (3 : Int32)) rfl rfl ?_
    refine own_icmpN (pc' := 123) X167 hx (hb hby at_120) (by decide) rfl ?_
    refine own_aload (pc' := 125) X167 hx (hb hby at_123) rfl rfl rfl ?_
    refine own_aload (pc' := 127) X167 hx (hb hby at_125) rfl rfl rfl ?_
    refine own_iconst (pc' := 128) X167 hx (hb hby at_127) (v := (3 : Int32)) rfl rfl ?_
    refine own_iload (pc' := 130) X167 hx (hb hby at_128) rfl rfl ?_
    obtain ⟨_, _, ⟨T168, L168, k168, n168⟩, -, X168, ⟨Lc168, hQ168, l168, y168, z168⟩, st168⟩ := Jvm.LawKit.callS X167 hx (y := (⟨"com/example/reciprocal/reciprocal/cbor/ItemOrderFirstEntryOutOfOrderPinLaw", "rank", "([III)I"⟩ : MethodName)) hown (mvT hZ (hw _ (List.mem_of_getElem? (i := 9) rfl))) (mvT hZ (hw _ (List.mem_of_getElem? (i := 10) rfl))) (mvT hZ (hw _ (List.mem_of_getElem? (i := 11) rfl))) (mvT hZ (hw _ (List.mem_of_getElem? (i := 12) rfl))) (by decide) (backOf (W := 1) (rm_3 l Z a0 hw [] a156 q0 q1 q2 q3 q3 (3 : Int32) (4 : Int32) 3 h167 n0 Z167 P167_a156 (by decide) (by decide) rfl) hZ (hw _ (List.mem_of_getElem? (i := 12) rfl)) (hw _ (List.mem_of_getElem? (i := 11) rfl)) (by decide) (by decide)) (g := (mkF m 130 #[.val (.int q0), .val (.int q1), .val (.int q2), .val (.int q3), .val (.int q4), .val (.int (q4 &&& (7 : Int32))), .val (.int (0 : Int32)), .val (.int (4 : Int32)), .val (.ref a156), .val (.ref a161), .unset] [(.int (4 : Int32)), (.int (3 : Int32)), (.ref a156), (.ref a161)])) rfl (by rw [hml]; rfl) (argsL := [(.ref a156), (.int (3 : Int32)), (.int (4 : Int32))]) (rest := [(.ref a161)]) (lenOf pd_3 rfl) rfl (by show 2 * 0 + _ ≤ _; exact Nat.le_of_eq rfl) (hb hby at_130) (fun _ _ => ⟨rfl, e167, (by decide : 2 + 0 ≤ _), (by decide : 8 + 0 ≤ _)⟩)
    dsimp only [Pt.U, Pt.locs, Pt.cells, Pt.slots] at X168 l168 y168 z168 st168 hQ168
    subst l168 y168 z168
    obtain ⟨rfl, M168, er3⟩ := hQ168
    have N168 := Fr.app N167 M168
    refine Goes.pre st168 ?_
    show Goes p e below s 16 128 (Q_0 Z q0 q1 q2 q3 q4 h0 n0) T168 (mkF m 133 #[.val (.int q0), .val (.int q1), .val (.int q2), .val (.int q3), .val (.int q4), .val (.int (q4 &&& (7 : Int32))), .val (.int (0 : Int32)), .val (.int (4 : Int32)), .val (.ref a156), .val (.ref a161), .unset] [(.int (own_rank q0 q1 q2 q3 q3 (3 : Int32) (4 : Int32))), (.ref a161)])
    refine own_iconst (pc' := 134) X168 hx (hb hby at_133) (v := (3 : Int32)) rfl rfl ?_
    refine own_iastore (pc' := 135) X168 hx hZ er3 P167 (hb hby at_134) (own_rb4 q0 q1 q2 q3).2.2.2.1 rfl (by simp only [List.length_set, List.length_replicate]; exact (own_rb4 q0 q1 q2 q3).2.2.2.2) rfl ?_
    intro T169 h169 X169 e169 W169 P169
    have N169 := Fr.snoc X169 N168 go
    have P169_a156 := P167_a156.other W169 ne
    have Z169 : n0 ≤ Array.size h169 := by rw [W169.size]; exact Z167
    show Goes p e below s 16 128 (Q_0 Z q0 q1 q2 q3 q4 h0 n0) T169 (mkF m 135 #[.val (.int q0), .val (.int q1), .val (.int q2), .val (.int q3), .val (.int q4), .val (.int (q4 &&& (7 : Int32))), .val (.int (0 : Int32)), .val (.int (4 : Int32)), .val (.ref a156), .val (.ref a161), .unset] [])
    refine own_iload (pc' := 137) X169 hx (hb hby at_135) rfl rfl ?_
    refine own_ifY X169 hx (hb hby at_137) (by decide) (by decide) (pc' := 146) (by decide) ?_
    refine own_iload (pc' := 148) X169 hx (hb hby at_146) rfl rfl ?_
    refine own_iconst (pc' := 149) X169 hx (hb hby at_148) (v := (1 : Int32)) rfl rfl ?_
    refine own_icmpN (pc' := 152) X169 hx (hb hby at_149) (by decide) rfl ?_
    refine own_iloadN (pc' := 153) X169 hx (hb hby at_152) rfl rfl ?_
    refine own_iloadN (pc' := 154) X169 hx (hb hby at_153) rfl rfl ?_
    by_cases hc154 : q1 < q0
    · refine own_icmpN (pc' := 157) X169 hx (hb hby at_154) (tlt hc154).2.1 rfl ?_
      refine own_iconst (pc' := 158) X169 hx (hb hby at_157) (v := (1 : Int32)) rfl rfl ?_
      refine own_istore (pc' := 160) X169 hx (hb hby at_158) (Ls' := #[.val (.int q0), .val (.int q1), .val (.int q2), .val (.int q3), .val (.int q4), .val (.int (q4 &&& (7 : Int32))), .val (.int (0 : Int32)), .val (.int (4 : Int32)), .val (.ref a156), .val (.ref a161), .val (.int (1 : Int32))]) rfl rfl ?_
      refine own_goto X169 hx (hb hby at_160) (by decide) (pc' := 200) (by decide) ?_
      refine own_aload (pc' := 202) X169 hx (hb hby at_200) rfl rfl rfl ?_
      obtain ⟨_, _, ⟨T170, L170, k170, n170⟩, -, X170, ⟨Lc170, hQ170, l170, y170, z170⟩, st170⟩ := Jvm.LawKit.callS X169 hx (y := (⟨"com/example/reciprocal/reciprocal/cbor/ItemOrder", "firstEntryOutOfOrder", "([I)I"⟩ : MethodName)) hown (mvT hZ (hw _ (List.mem_of_getElem? (i := 5) rfl))) (mvT hZ (hw _ (List.mem_of_getElem? (i := 6) rfl))) (mvT hZ (hw _ (List.mem_of_getElem? (i := 7) rfl))) (mvT hZ (hw _ (List.mem_of_getElem? (i := 8) rfl))) (by decide) (backOf (W := 0) (rm_4 l Z a0 hw [] a161 (own_ks4 q0 q1 q2 q3) h169 n0 Z169 P169 (own_law4 q0 q1 q2 q3).1 (own_law4 q0 q1 q2 q3).2.1) hZ (hw _ (List.mem_of_getElem? (i := 8) rfl)) (hw _ (List.mem_of_getElem? (i := 7) rfl)) (by decide) (by decide)) (g := (mkF m 202 #[.val (.int q0), .val (.int q1), .val (.int q2), .val (.int q3), .val (.int q4), .val (.int (q4 &&& (7 : Int32))), .val (.int (0 : Int32)), .val (.int (4 : Int32)), .val (.ref a156), .val (.ref a161), .val (.int (1 : Int32))] [(.ref a161)])) rfl (by rw [hml]; rfl) (argsL := [(.ref a161)]) (rest := []) (lenOf pd_4 rfl) rfl (by show 2 * 0 + _ ≤ _; exact Nat.le_of_eq rfl) (hb hby at_202) (fun _ _ => ⟨rfl, e169, (by decide : 2 + 1 ≤ _), (by decide : 8 + 4 ≤ _)⟩)
      dsimp only [Pt.U, Pt.locs, Pt.cells, Pt.slots] at X170 l170 y170 z170 st170 hQ170
      subst l170 y170 z170
      obtain ⟨rfl, M170⟩ := hQ170
      have N170 := Fr.app N169 M170
      refine Goes.pre st170 ?_
      show Goes p e below s 16 128 (Q_0 Z q0 q1 q2 q3 q4 h0 n0) T170 (mkF m 205 #[.val (.int q0), .val (.int q1), .val (.int q2), .val (.int q3), .val (.int q4), .val (.int (q4 &&& (7 : Int32))), .val (.int (0 : Int32)), .val (.int (4 : Int32)), .val (.ref a156), .val (.ref a161), .val (.int (1 : Int32))] [(.int (own_first (own_ks4 q0 q1 q2 q3)))])
      refine own_iload (pc' := 207) X170 hx (hb hby at_205) rfl rfl ?_
      refine own_icmpN (pc' := 210) X170 hx (hb hby at_207) (teq (by rw [(own_law4 q0 q1 q2 q3).2.2]; simp [hc154] : (own_first (own_ks4 q0 q1 q2 q3)) = (1 : Int32))).2 rfl ?_
      refine own_iconst (pc' := 211) X170 hx (hb hby at_210) (v := (1 : Int32)) rfl rfl ?_
      refine own_goto X170 hx (hb hby at_211) (by decide) (pc' := 215) (by decide) ?_
      exact own_retN X170 hx hlk (t := .boolean) Bd.returns (by simp) (hb hby at_215) (by decide) (by decide) ⟨rfl, N170⟩
    · refine own_icmpY X169 hx (hb hby at_154) (flt hc154).2.1 (by decide) (pc' := 163) (by decide) ?_
      refine own_iload (pc' := 165) X169 hx (hb hby at_163) rfl rfl ?_
      refine own_iconst (pc' := 166) X169 hx (hb hby at_165) (v := (2 : Int32)) rfl rfl ?_
      refine own_icmpN (pc' := 169) X169 hx (hb hby at_166) (by decide) rfl ?_
      refine own_iloadN (pc' := 170) X169 hx (hb hby at_169) rfl rfl ?_
      refine own_iloadN (pc' := 171) X169 hx (hb hby at_170) rfl rfl ?_
      by_cases hc171 : q2 < q1
      · refine own_icmpN (pc' := 174) X169 hx (hb hby at_171) (tlt hc171).2.1 rfl ?_
        refine own_iconst (pc' := 175) X169 hx (hb hby at_174) (v := (2 : Int32)) rfl rfl ?_
        refine own_istore (pc' := 177) X169 hx (hb hby at_175) (Ls' := #[.val (.int q0), .val (.int q1), .val (.int q2), .val (.int q3), .val (.int q4), .val (.int (q4 &&& (7 : Int32))), .val (.int (0 : Int32)), .val (.int (4 : Int32)), .val (.ref a156), .val (.ref a161), .val (.int (2 : Int32))]) rfl rfl ?_
        refine own_goto X169 hx (hb hby at_177) (by decide) (pc' := 200) (by decide) ?_
        refine own_aload (pc' := 202) X169 hx (hb hby at_200) rfl rfl rfl ?_
        obtain ⟨_, _, ⟨T171, L171, k171, n171⟩, -, X171, ⟨Lc171, hQ171, l171, y171, z171⟩, st171⟩ := Jvm.LawKit.callS X169 hx (y := (⟨"com/example/reciprocal/reciprocal/cbor/ItemOrder", "firstEntryOutOfOrder", "([I)I"⟩ : MethodName)) hown (mvT hZ (hw _ (List.mem_of_getElem? (i := 5) rfl))) (mvT hZ (hw _ (List.mem_of_getElem? (i := 6) rfl))) (mvT hZ (hw _ (List.mem_of_getElem? (i := 7) rfl))) (mvT hZ (hw _ (List.mem_of_getElem? (i := 8) rfl))) (by decide) (backOf (W := 0) (rm_4 l Z a0 hw [] a161 (own_ks4 q0 q1 q2 q3) h169 n0 Z169 P169 (own_law4 q0 q1 q2 q3).1 (own_law4 q0 q1 q2 q3).2.1) hZ (hw _ (List.mem_of_getElem? (i := 8) rfl)) (hw _ (List.mem_of_getElem? (i := 7) rfl)) (by decide) (by decide)) (g := (mkF m 202 #[.val (.int q0), .val (.int q1), .val (.int q2), .val (.int q3), .val (.int q4), .val (.int (q4 &&& (7 : Int32))), .val (.int (0 : Int32)), .val (.int (4 : Int32)), .val (.ref a156), .val (.ref a161), .val (.int (2 : Int32))] [(.ref a161)])) rfl (by rw [hml]; rfl) (argsL := [(.ref a161)]) (rest := []) (lenOf pd_4 rfl) rfl (by show 2 * 0 + _ ≤ _; exact Nat.le_of_eq rfl) (hb hby at_202) (fun _ _ => ⟨rfl, e169, (by decide : 2 + 1 ≤ _), (by decide : 8 + 4 ≤ _)⟩)
        dsimp only [Pt.U, Pt.locs, Pt.cells, Pt.slots] at X171 l171 y171 z171 st171 hQ171
        subst l171 y171 z171
        obtain ⟨rfl, M171⟩ := hQ171
        have N171 := Fr.app N169 M171
        refine Goes.pre st171 ?_
        show Goes p e below s 16 128 (Q_0 Z q0 q1 q2 q3 q4 h0 n0) T171 (mkF m 205 #[.val (.int q0), .val (.int q1), .val (.int q2), .val (.int q3), .val (.int q4), .val (.int (q4 &&& (7 : Int32))), .val (.int (0 : Int32)), .val (.int (4 : Int32)), .val (.ref a156), .val (.ref a161), .val (.int (2 : Int32))] [(.int (own_first (own_ks4 q0 q1 q2 q3)))])
        refine own_iload (pc' := 207) X171 hx (hb hby at_205) rfl rfl ?_
        refine own_icmpN (pc' := 210) X171 hx (hb hby at_207) (teq (by rw [(own_law4 q0 q1 q2 q3).2.2]; simp [hc154, hc171] : (own_first (own_ks4 q0 q1 q2 q3)) = (2 : Int32))).2 rfl ?_
        refine own_iconst (pc' := 211) X171 hx (hb hby at_210) (v := (1 : Int32)) rfl rfl ?_
        refine own_goto X171 hx (hb hby at_211) (by decide) (pc' := 215) (by decide) ?_
        exact own_retN X171 hx hlk (t := .boolean) Bd.returns (by simp) (hb hby at_215) (by decide) (by decide) ⟨rfl, N171⟩
      · refine own_icmpY X169 hx (hb hby at_171) (flt hc171).2.1 (by decide) (pc' := 180) (by decide) ?_
        refine own_iload (pc' := 182) X169 hx (hb hby at_180) rfl rfl ?_
        refine own_iconst (pc' := 183) X169 hx (hb hby at_182) (v := (3 : Int32)) rfl rfl ?_
        refine own_icmpN (pc' := 186) X169 hx (hb hby at_183) (by decide) rfl ?_
        refine own_iloadN (pc' := 187) X169 hx (hb hby at_186) rfl rfl ?_
        refine own_iloadN (pc' := 188) X169 hx (hb hby at_187) rfl rfl ?_
        by_cases hc188 : q3 < q2
        · refine own_icmpN (pc' := 191) X169 hx (hb hby at_188) (tlt hc188).2.1 rfl ?_
          refine own_iconst (pc' := 192) X169 hx (hb hby at_191) (v := (3 : Int32)) rfl rfl ?_
          refine own_istore (pc' := 194) X169 hx (hb hby at_192) (Ls' := #[.val (.int q0), .val (.int q1), .val (.int q2), .val (.int q3), .val (.int q4), .val (.int (q4 &&& (7 : Int32))), .val (.int (0 : Int32)), .val (.int (4 : Int32)), .val (.ref a156), .val (.ref a161), .val (.int (3 : Int32))]) rfl rfl ?_
          refine own_goto X169 hx (hb hby at_194) (by decide) (pc' := 200) (by decide) ?_
          refine own_aload (pc' := 202) X169 hx (hb hby at_200) rfl rfl rfl ?_
          obtain ⟨_, _, ⟨T172, L172, k172, n172⟩, -, X172, ⟨Lc172, hQ172, l172, y172, z172⟩, st172⟩ := Jvm.LawKit.callS X169 hx (y := (⟨"com/example/reciprocal/reciprocal/cbor/ItemOrder", "firstEntryOutOfOrder", "([I)I"⟩ : MethodName)) hown (mvT hZ (hw _ (List.mem_of_getElem? (i := 5) rfl))) (mvT hZ (hw _ (List.mem_of_getElem? (i := 6) rfl))) (mvT hZ (hw _ (List.mem_of_getElem? (i := 7) rfl))) (mvT hZ (hw _ (List.mem_of_getElem? (i := 8) rfl))) (by decide) (backOf (W := 0) (rm_4 l Z a0 hw [] a161 (own_ks4 q0 q1 q2 q3) h169 n0 Z169 P169 (own_law4 q0 q1 q2 q3).1 (own_law4 q0 q1 q2 q3).2.1) hZ (hw _ (List.mem_of_getElem? (i := 8) rfl)) (hw _ (List.mem_of_getElem? (i := 7) rfl)) (by decide) (by decide)) (g := (mkF m 202 #[.val (.int q0), .val (.int q1), .val (.int q2), .val (.int q3), .val (.int q4), .val (.int (q4 &&& (7 : Int32))), .val (.int (0 : Int32)), .val (.int (4 : Int32)), .val (.ref a156), .val (.ref a161), .val (.int (3 : Int32))] [(.ref a161)])) rfl (by rw [hml]; rfl) (argsL := [(.ref a161)]) (rest := []) (lenOf pd_4 rfl) rfl (by show 2 * 0 + _ ≤ _; exact Nat.le_of_eq rfl) (hb hby at_202) (fun _ _ => ⟨rfl, e169, (by decide : 2 + 1 ≤ _), (by decide : 8 + 4 ≤ _)⟩)
          dsimp only [Pt.U, Pt.locs, Pt.cells, Pt.slots] at X172 l172 y172 z172 st172 hQ172
          subst l172 y172 z172
          obtain ⟨rfl, M172⟩ := hQ172
          have N172 := Fr.app N169 M172
          refine Goes.pre st172 ?_
          show Goes p e below s 16 128 (Q_0 Z q0 q1 q2 q3 q4 h0 n0) T172 (mkF m 205 #[.val (.int q0), .val (.int q1), .val (.int q2), .val (.int q3), .val (.int q4), .val (.int (q4 &&& (7 : Int32))), .val (.int (0 : Int32)), .val (.int (4 : Int32)), .val (.ref a156), .val (.ref a161), .val (.int (3 : Int32))] [(.int (own_first (own_ks4 q0 q1 q2 q3)))])
          refine own_iload (pc' := 207) X172 hx (hb hby at_205) rfl rfl ?_
          refine own_icmpN (pc' := 210) X172 hx (hb hby at_207) (teq (by rw [(own_law4 q0 q1 q2 q3).2.2]; simp [hc154, hc171, hc188] : (own_first (own_ks4 q0 q1 q2 q3)) = (3 : Int32))).2 rfl ?_
          refine own_iconst (pc' := 211) X172 hx (hb hby at_210) (v := (1 : Int32)) rfl rfl ?_
          refine own_goto X172 hx (hb hby at_211) (by decide) (pc' := 215) (by decide) ?_
          exact own_retN X172 hx hlk (t := .boolean) Bd.returns (by simp) (hb hby at_215) (by decide) (by decide) ⟨rfl, N172⟩
        · refine own_icmpY X169 hx (hb hby at_188) (flt hc188).2.1 (by decide) (pc' := 197) (by decide) ?_
          refine own_iconst (pc' := 198) X169 hx (hb hby at_197) (v := (-1 : Int32)) rfl rfl ?_
          refine own_istore (pc' := 200) X169 hx (hb hby at_198) (Ls' := #[.val (.int q0), .val (.int q1), .val (.int q2), .val (.int q3), .val (.int q4), .val (.int (q4 &&& (7 : Int32))), .val (.int (0 : Int32)), .val (.int (4 : Int32)), .val (.ref a156), .val (.ref a161), .val (.int (-1 : Int32))]) rfl rfl ?_
          refine own_aload (pc' := 202) X169 hx (hb hby at_200) rfl rfl rfl ?_
          obtain ⟨_, _, ⟨T173, L173, k173, n173⟩, -, X173, ⟨Lc173, hQ173, l173, y173, z173⟩, st173⟩ := Jvm.LawKit.callS X169 hx (y := (⟨"com/example/reciprocal/reciprocal/cbor/ItemOrder", "firstEntryOutOfOrder", "([I)I"⟩ : MethodName)) hown (mvT hZ (hw _ (List.mem_of_getElem? (i := 5) rfl))) (mvT hZ (hw _ (List.mem_of_getElem? (i := 6) rfl))) (mvT hZ (hw _ (List.mem_of_getElem? (i := 7) rfl))) (mvT hZ (hw _ (List.mem_of_getElem? (i := 8) rfl))) (by decide) (backOf (W := 0) (rm_4 l Z a0 hw [] a161 (own_ks4 q0 q1 q2 q3) h169 n0 Z169 P169 (own_law4 q0 q1 q2 q3).1 (own_law4 q0 q1 q2 q3).2.1) hZ (hw _ (List.mem_of_getElem? (i := 8) rfl)) (hw _ (List.mem_of_getElem? (i := 7) rfl)) (by decide) (by decide)) (g := (mkF m 202 #[.val (.int q0), .val (.int q1), .val (.int q2), .val (.int q3), .val (.int q4), .val (.int (q4 &&& (7 : Int32))), .val (.int (0 : Int32)), .val (.int (4 : Int32)), .val (.ref a156), .val (.ref a161), .val (.int (-1 : Int32))] [(.ref a161)])) rfl (by rw [hml]; rfl) (argsL := [(.ref a161)]) (rest := []) (lenOf pd_4 rfl) rfl (by show 2 * 0 + _ ≤ _; exact Nat.le_of_eq rfl) (hb hby at_202) (fun _ _ => ⟨rfl, e169, (by decide : 2 + 1 ≤ _), (by decide : 8 + 4 ≤ _)⟩)
          dsimp only [Pt.U, Pt.locs, Pt.cells, Pt.slots] at X173 l173 y173 z173 st173 hQ173
          subst l173 y173 z173
          obtain ⟨rfl, M173⟩ := hQ173
          have N173 := Fr.app N169 M173
          refine Goes.pre st173 ?_
          show Goes p e below s 16 128 (Q_0 Z q0 q1 q2 q3 q4 h0 n0) T173 (mkF m 205 #[.val (.int q0), .val (.int q1), .val (.int q2), .val (.int q3), .val (.int q4), .val (.int (q4 &&& (7 : Int32))), .val (.int (0 : Int32)), .val (.int (4 : Int32)), .val (.ref a156), .val (.ref a161), .val (.int (-1 : Int32))] [(.int (own_first (own_ks4 q0 q1 q2 q3)))])
          refine own_iload (pc' := 207) X173 hx (hb hby at_205) rfl rfl ?_
          refine own_icmpN (pc' := 210) X173 hx (hb hby at_207) (teq (by rw [(own_law4 q0 q1 q2 q3).2.2]; simp [hc154, hc171, hc188] : (own_first (own_ks4 q0 q1 q2 q3)) = (-1 : Int32))).2 rfl ?_
          refine own_iconst (pc' := 211) X173 hx (hb hby at_210) (v := (1 : Int32)) rfl rfl ?_
          refine own_goto X173 hx (hb hby at_211) (by decide) (pc' := 215) (by decide) ?_
          exact own_retN X173 hx hlk (t := .boolean) Bd.returns (by simp) (hb hby at_215) (by decide) (by decide) ⟨rfl, N173⟩
  show Goes p e below s 16 128 (Q_0 Z q0 q1 q2 q3 q4 h0 n0) s₁ (mkF m 0 #[.val (.int q0), .val (.int q1), .val (.int q2), .val (.int q3), .val (.int q4), .unset, .unset, .unset, .unset, .unset, .unset] [])
  refine own_iload (pc' := 2) X0 hx (hb hby at_0) rfl rfl ?_
  refine own_bipush (pc' := 4) X0 hx (hb hby at_2) (v := (7 : Int32)) rfl rfl ?_
  refine own_iand (pc' := 5) X0 hx (hb hby at_4) rfl ?_
  refine own_istore (pc' := 7) X0 hx (hb hby at_5) (Ls' := #[.val (.int q0), .val (.int q1), .val (.int q2), .val (.int q3), .val (.int q4), .val (.int (q4 &&& (7 : Int32))), .unset, .unset, .unset, .unset, .unset]) rfl rfl ?_
  refine own_iload (pc' := 9) X0 hx (hb hby at_7) rfl rfl ?_
  refine own_bipush (pc' := 11) X0 hx (hb hby at_9) (v := (7 : Int32)) rfl rfl ?_
  by_cases hc11 : (q4 &&& (7 : Int32)) = (7 : Int32)
  · refine own_icmpN (pc' := 14) X0 hx (hb hby at_11) (teq hc11).2 rfl ?_
    refine own_iconst (pc' := 15) X0 hx (hb hby at_14) (v := (1 : Int32)) rfl rfl ?_
    refine own_goto X0 hx (hb hby at_15) (by decide) (pc' := 19) (by decide) ?_
    refine own_istore (pc' := 21) X0 hx (hb hby at_19) (Ls' := #[.val (.int q0), .val (.int q1), .val (.int q2), .val (.int q3), .val (.int q4), .val (.int (q4 &&& (7 : Int32))), .val (.int (1 : Int32)), .unset, .unset, .unset, .unset]) rfl rfl ?_
    refine own_iload (pc' := 23) X0 hx (hb hby at_21) rfl rfl ?_
    refine own_iconst (pc' := 24) X0 hx (hb hby at_23) (v := (4 : Int32)) rfl rfl ?_
    obtain ⟨_, _, ⟨T174, L174, k174, n174⟩, -, X174, ⟨Lc174, hQ174, l174, y174, z174⟩, st174⟩ := Jvm.LawKit.callS X0 hx (y := (⟨"java/lang/Math", "min", "(II)I"⟩ : MethodName)) hown (mvT hZ (hw _ (List.mem_of_getElem? (i := 0) rfl))) (mvT hZ (hw _ (List.mem_of_getElem? (i := 1) rfl))) (mvT hZ (hw _ (List.mem_of_getElem? (i := 2) rfl))) (mvT hZ (hw _ (List.mem_of_getElem? (i := 3) rfl))) (by decide) (backOf (W := 0) (rm_1 l Z a0 hw [] (q4 &&& (7 : Int32)) (4 : Int32) h0 n0 Z0) hZ (hw _ (List.mem_of_getElem? (i := 3) rfl)) (hw _ (List.mem_of_getElem? (i := 2) rfl)) (by decide) (by decide)) (g := (mkF m 24 #[.val (.int q0), .val (.int q1), .val (.int q2), .val (.int q3), .val (.int q4), .val (.int (q4 &&& (7 : Int32))), .val (.int (1 : Int32)), .unset, .unset, .unset, .unset] [(.int (4 : Int32)), (.int (q4 &&& (7 : Int32)))])) rfl (by rw [hml]; rfl) (argsL := [(.int (q4 &&& (7 : Int32))), (.int (4 : Int32))]) (rest := []) (lenOf pd_1 rfl) rfl (by show 2 * 0 + _ ≤ _; exact Nat.le_of_eq rfl) (hb hby at_24) (fun _ _ => ⟨rfl, e0, (by decide : 0 + 0 ≤ _), (by decide : 0 + 0 ≤ _)⟩)
    dsimp only [Pt.U, Pt.locs, Pt.cells, Pt.slots] at X174 l174 y174 z174 st174 hQ174
    subst l174 y174 z174
    obtain ⟨rfl, M174, e24⟩ := hQ174
    have N174 := Fr.app N0 M174
    refine Goes.pre st174 ?_
    show Goes p e below s 16 128 (Q_0 Z q0 q1 q2 q3 q4 h0 n0) T174 (mkF m 27 #[.val (.int q0), .val (.int q1), .val (.int q2), .val (.int q3), .val (.int q4), .val (.int (q4 &&& (7 : Int32))), .val (.int (1 : Int32)), .unset, .unset, .unset, .unset] [(.int (own_min (q4 &&& (7 : Int32)) (4 : Int32)))])
    refine own_istore (pc' := 29) X174 hx (hb hby at_27) (Ls' := #[.val (.int q0), .val (.int q1), .val (.int q2), .val (.int q3), .val (.int q4), .val (.int (q4 &&& (7 : Int32))), .val (.int (1 : Int32)), .val (.int (own_min (q4 &&& (7 : Int32)) (4 : Int32))), .unset, .unset, .unset]) rfl rfl ?_
    exact Jnull T174 _ _ X174 e24 N174
  · refine own_icmpY X0 hx (hb hby at_11) (feq hc11).2 (by decide) (pc' := 18) (by decide) ?_
    refine own_iconst (pc' := 19) X0 hx (hb hby at_18) (v := (0 : Int32)) rfl rfl ?_
    refine own_istore (pc' := 21) X0 hx (hb hby at_19) (Ls' := #[.val (.int q0), .val (.int q1), .val (.int q2), .val (.int q3), .val (.int q4), .val (.int (q4 &&& (7 : Int32))), .val (.int (0 : Int32)), .unset, .unset, .unset, .unset]) rfl rfl ?_
    refine own_iload (pc' := 23) X0 hx (hb hby at_21) rfl rfl ?_
    refine own_iconst (pc' := 24) X0 hx (hb hby at_23) (v := (4 : Int32)) rfl rfl ?_
    obtain ⟨_, _, ⟨T175, L175, k175, n175⟩, -, X175, ⟨Lc175, hQ175, l175, y175, z175⟩, st175⟩ := Jvm.LawKit.callS X0 hx (y := (⟨"java/lang/Math", "min", "(II)I"⟩ : MethodName)) hown (mvT hZ (hw _ (List.mem_of_getElem? (i := 0) rfl))) (mvT hZ (hw _ (List.mem_of_getElem? (i := 1) rfl))) (mvT hZ (hw _ (List.mem_of_getElem? (i := 2) rfl))) (mvT hZ (hw _ (List.mem_of_getElem? (i := 3) rfl))) (by decide) (backOf (W := 0) (rm_1 l Z a0 hw [] (q4 &&& (7 : Int32)) (4 : Int32) h0 n0 Z0) hZ (hw _ (List.mem_of_getElem? (i := 3) rfl)) (hw _ (List.mem_of_getElem? (i := 2) rfl)) (by decide) (by decide)) (g := (mkF m 24 #[.val (.int q0), .val (.int q1), .val (.int q2), .val (.int q3), .val (.int q4), .val (.int (q4 &&& (7 : Int32))), .val (.int (0 : Int32)), .unset, .unset, .unset, .unset] [(.int (4 : Int32)), (.int (q4 &&& (7 : Int32)))])) rfl (by rw [hml]; rfl) (argsL := [(.int (q4 &&& (7 : Int32))), (.int (4 : Int32))]) (rest := []) (lenOf pd_1 rfl) rfl (by show 2 * 0 + _ ≤ _; exact Nat.le_of_eq rfl) (hb hby at_24) (fun _ _ => ⟨rfl, e0, (by decide : 0 + 0 ≤ _), (by decide : 0 + 0 ≤ _)⟩)
    dsimp only [Pt.U, Pt.locs, Pt.cells, Pt.slots] at X175 l175 y175 z175 st175 hQ175
    subst l175 y175 z175
    obtain ⟨rfl, M175, e24⟩ := hQ175
    have N175 := Fr.app N0 M175
    refine Goes.pre st175 ?_
    show Goes p e below s 16 128 (Q_0 Z q0 q1 q2 q3 q4 h0 n0) T175 (mkF m 27 #[.val (.int q0), .val (.int q1), .val (.int q2), .val (.int q3), .val (.int q4), .val (.int (q4 &&& (7 : Int32))), .val (.int (0 : Int32)), .unset, .unset, .unset, .unset] [(.int (own_min (q4 &&& (7 : Int32)) (4 : Int32)))])
    refine own_istore (pc' := 29) X175 hx (hb hby at_27) (Ls' := #[.val (.int q0), .val (.int q1), .val (.int q2), .val (.int q3), .val (.int q4), .val (.int (q4 &&& (7 : Int32))), .val (.int (0 : Int32)), .val (.int (own_min (q4 &&& (7 : Int32)) (4 : Int32))), .unset, .unset, .unset]) rfl rfl ?_
    rcases own_n q4 hc11 with hn | hn | hn | hn | hn <;> rw [hn]
    · exact J0_n T175 _ X175 e24 N175
    · exact J1_n T175 _ X175 e24 N175
    · exact J2_n T175 _ X175 e24 N175
    · exact J3_n T175 _ X175 e24 N175
    · exact J4_n T175 _ X175 e24 N175
set_option maxRecDepth 65536 in
set_option maxHeartbeats 40000000 in
theorem comes_1 {Post : Tables → Env → Array Value → State → Outcome → State → Prop} (hpost : ∀ tb e args s v u, (limb_1_1.after args s (.returned v) u = true ∧ limb_1_2.after args s (.returned v) u = true ∧ True) → FrameEnd s (.returned v) u (Jvm.fieldLocs frame_1_writes args s ++ Jvm.arrayLocs frame_1_arrays args s ++ Jvm.staticLocs frame_1_statics s) 16 128 → Post tb e args s (.returned v) u) :
    ArmFor flags0 classFile x code maxLocals ret World_1 tables_1 room_1 Calls_1 rest_1 Pre_1 Post := by
  intro l hfl _ _ p e ha hc hk s m args below hf hA hF happ hP
  obtain ⟨hcalls, hrest, hpre⟩ := hP
  obtain ⟨-, -, -, hnamed, -, -, -, hat⟩ := (Spec.applies_iff hf).mp happ
  obtain ⟨hg, hn⟩ := and_e (Cond.before_iff.mp (show (Jvm.Cond.and given_1 narrow_1).before args s = true from hpre))
  obtain ⟨gc, r0⟩ := and_e hg
  obtain ⟨g0, r1⟩ := and_e r0
  obtain ⟨g1, r2⟩ := and_e r1
  obtain ⟨g2, r3⟩ := and_e r2
  obtain ⟨g3, r4⟩ := and_e r3
  obtain ⟨w0, w1, w2, w3, w4, rfl⟩ : ∃ w0 w1 w2 w3 w4 : Value, args = #[w0, w1, w2, w3, w4] := by
    have hs : args.size = 5 := by simpa [Cond.value, given_1] using gc
    obtain ⟨L⟩ := args
    match L, hs with
    | [w0, w1, w2, w3, w4], _ => exact ⟨w0, w1, w2, w3, w4, rfl⟩
  have hw := fun d (hd : d ∈ tables_1) => atoms_spec (ws := Jvm.Cond.code x code maxLocals ret :: tables_1) hat d (List.mem_cons_of_mem _ hd)
  obtain ⟨i0, ei0⟩ := is_v g0
  obtain rfl : w0 = (.int i0) := Option.some.inj ei0
  obtain ⟨i1, ei1⟩ := is_v g1
  obtain rfl : w1 = (.int i1) := Option.some.inj ei1
  obtain ⟨i2, ei2⟩ := is_v g2
  obtain rfl : w2 = (.int i2) := Option.some.inj ei2
  obtain ⟨i3, ei3⟩ := is_v g3
  obtain rfl : w3 = (.int i3) := Option.some.inj ei3
  obtain ⟨i4, ei4⟩ := is_v r4
  obtain rfl : w4 = (.int i4) := Option.some.inj ei4
  obtain ⟨n, o, h1, h2, h3, _, L, rfl, ⟨rfl, N⟩, hq⟩ := rm_0 l s _ hw tables_1 i0 i1 i2 i3 i4 s.heap s.heap.size (Nat.le_refl _)  p e ha hc hk s m _ below hf ((Spec.applies_iff_loose hf).mp happ).1 ⟨rfl, State.Warmed39.refl s, rfl⟩ trivial
  refine ⟨n, _, h1, h2, h3, hpost _ _ _ _ _ _ ⟨Cond.after_iff.mpr rfl, Cond.after_iff.mpr (eq_i res_at (Term.int_eval (1)) rfl), trivial⟩ ⟨hq.1, hq.2.1, (hq.2.2.sift fun y hy => Or.inr (N y hy)).mono (by decide) (by decide)⟩⟩
theorem main_1_1 : Claimed_1_1 := comes_1 fun _ _ _ _ _ _ h hF => ⟨h.1, hF⟩
theorem main_1_2 : Claimed_1_2 := comes_1 fun _ _ _ _ _ _ h hF => ⟨h.2.1, hF⟩
end Jvm.Pilot.@@N@@
namespace Jvm.Pilot.@@N@@
open Jvm Jvm.ClassFile Sem Op Lib Jvm.Free Jvm.Stand Jvm.Pilot.@@N@@.Jvm.D
/-! MADE BY PROGRAM (witnessworld.py) out of the Statement's table words and the real class files: 10 classes; the members and pool entries that the words name. The judged class is class 1, her method 3. -/
namespace start1
open Jvm.ClassFile
def u (s : String) : CpInfo := .utf8 (stringToUtf16 s)
/-- a pool by its gaps: so many unusable entries, then the entry; so many at the end -/
def gap : Nat → List CpInfo → List CpInfo
  | 0, r => r
  | n + 1, r => .unusable :: gap n r
def poolList (es : List (Nat × CpInfo)) (last : Nat) : List CpInfo := es.foldr (fun e r => gap e.1 (e.2 :: r)) (gap last [])
def pool (es : List (Nat × CpInfo)) (last : Nat) : Array CpInfo := ⟨poolList es last⟩
def fileOf (pool : Array CpInfo) (this : Nat) (attrs : Array Attribute := #[]) (ms : Array MethodInfo := #[]) (fl : Nat := 33) (sup : Nat := 0) (ifs : Array Nat := #[]) (fds : Array FieldInfo := #[]) : ClassFile where
  minorVersion := 0
  majorVersion := 65
  constantPool := pool
  accessFlags := fl
  thisClass := this
  superClass := sup
  interfaces := ifs
  fields := fds
  methods := ms
  attributes := attrs
def plain (name : String) (sup : Option ClassId) : Class where
  name := name
  kind := .ordinary
  loader := none
  accessFlags := 33
  super := sup
  interfaces := #[]
  cf := none
  fields := #[]
  methods := #[]
  instanceTypes := #[]
  staticTypes := #[]
  resolved := #[]
  callSites := []
  init := .initialized
  statics := none
  mirror := none

def pool0 : Array CpInfo := pool [(5, u "<init>"), (0, u "()V"), (1, .class_ 10), (1, u "java/lang/Object")] 113

def k0m0 : Method := { name := "<init>", desc := "()V", sig := { parameters := [], returnType := none }, accessFlags := 1, code := none }
/-- java/lang/Object -/
def k0 : Class := { plain "java/lang/Object" none with
  accessFlags := 33
  interfaces := #[]
  cf := some (fileOf pool0 8 #[] #[{ accessFlags := 1, nameIndex := 5, descriptorIndex := 6, attributes := #[] }] 33 0 #[] #[])
  fields := #[]
  methods := #[k0m0]
  instanceTypes := #[]
  staticTypes := #[]
  resolved := Array.replicate 124 none
  statics := none }

def pool1 : Array CpInfo := pool [(2, .class_ 4), (1, u "java/lang/Object"), (0, u "<init>"), (0, u "()V"), (0, .methodref 8 9), (0, .class_ 10), (0, .nameAndType 11 12), (0, u "com/example/reciprocal/reciprocal/cbor/ItemOrderFirstEntryOutOfOrderPinLaw"), (0, u "before"), (0, u "(IIII)I"), (0, .methodref 14 15), (0, .class_ 16), (0, .nameAndType 17 18), (0, u "java/lang/Math"), (0, u "min"), (0, u "(II)I"), (0, .methodref 8 20), (0, .nameAndType 21 22), (0, u "rank"), (0, u "([III)I"), (0, .methodref 24 25), (0, .class_ 26), (0, .nameAndType 27 28), (0, u "com/example/reciprocal/reciprocal/cbor/ItemOrder"), (0, u "firstEntryOutOfOrder"), (0, u "([I)I"), (3, u "law"), (0, u "(IIIII)Z")] 4

def k1m0 : Method := { name := "<init>", desc := "()V", sig := { parameters := [], returnType := none }, accessFlags := 2, code := none }
def k1c1 : Code := { maxStack := 2, maxLocals := 4, code := method_2_code, exceptionTable := #[], attributes := #[] }
def k1m1 : Method := { name := "before", desc := "(IIII)I", sig := { parameters := [.int, .int, .int, .int], returnType := some .int }, accessFlags := 10, code := some k1c1 }
def k1c2 : Code := { maxStack := 5, maxLocals := 4, code := method_3_code, exceptionTable := #[], attributes := #[] }
def k1m2 : Method := { name := "rank", desc := "([III)I", sig := { parameters := [(.array .int), .int, .int], returnType := some .int }, accessFlags := 10, code := some k1c2 }
def k1c3 : Code := { maxStack := 4, maxLocals := 11, code := code, exceptionTable := #[], attributes := #[] }
def k1m3 : Method := { name := "law", desc := "(IIIII)Z", sig := { parameters := [.int, .int, .int, .int, .int], returnType := some .boolean }, accessFlags := 9, code := some k1c3 }
/-- com/example/reciprocal/reciprocal/cbor/ItemOrderFirstEntryOutOfOrderPinLaw -/
def k1 : Class := { plain "com/example/reciprocal/reciprocal/cbor/ItemOrderFirstEntryOutOfOrderPinLaw" (some 0) with
  accessFlags := 49
  interfaces := #[]
  cf := some (fileOf pool1 8 #[] #[{ accessFlags := 2, nameIndex := 5, descriptorIndex := 6, attributes := #[] }, { accessFlags := 10, nameIndex := 11, descriptorIndex := 12, attributes := #[] }, { accessFlags := 10, nameIndex := 21, descriptorIndex := 22, attributes := #[] }, { accessFlags := 9, nameIndex := 32, descriptorIndex := 33, attributes := #[] }] 49 2 #[] #[])
  fields := #[]
  methods := #[k1m0, k1m1, k1m2, k1m3]
  instanceTypes := #[]
  staticTypes := #[]
  resolved := Array.replicate 38 none
  statics := none }

def pool2 : Array CpInfo := pool [(1, .class_ 2), (0, u "java/lang/Math"), (1, .class_ 6), (1, u "java/lang/Object"), (0, u "<init>"), (0, u "()V"), (89, .class_ 100), (1, u "java/lang/Math$RandomNumberGeneratorHolder"), (71, u "negativeZeroFloatBits"), (0, u "J"), (2, u "negativeZeroDoubleBits"), (24, u "min"), (43, u "$assertionsDisabled"), (0, u "Z"), (88, u "(II)I"), (2, u "twoToTheDoubleScaleDown"), (0, u "D"), (4, u "twoToTheDoubleScaleUp"), (9, u "E"), (3, u "PI"), (2, u "TAU"), (2, u "DEGREES_TO_RADIANS"), (0, u "RADIANS_TO_DEGREES")] 94

def k2m0 : Method := { name := "<init>", desc := "()V", sig := { parameters := [], returnType := none }, accessFlags := 2, code := none }
def k2c1 : Code := { maxStack := 2, maxLocals := 2, code := jdk_29_method_69_code, exceptionTable := #[], attributes := #[] }
def k2m1 : Method := { name := "min", desc := "(II)I", sig := { parameters := [.int, .int], returnType := some .int }, accessFlags := 9, code := some k2c1 }
/-- java/lang/Math -/
def k2 : Class := { plain "java/lang/Math" (some 0) with
  accessFlags := 49
  interfaces := #[]
  cf := some (fileOf pool2 1 #[.nestMembers #[98]] #[{ accessFlags := 2, nameIndex := 7, descriptorIndex := 8, attributes := #[] }, { accessFlags := 9, nameIndex := 201, descriptorIndex := 335, attributes := #[] }] 49 4 #[] #[{ accessFlags := 25, nameIndex := 354, descriptorIndex := 339, attributes := #[] }, { accessFlags := 25, nameIndex := 358, descriptorIndex := 339, attributes := #[] }, { accessFlags := 25, nameIndex := 361, descriptorIndex := 339, attributes := #[] }, { accessFlags := 26, nameIndex := 364, descriptorIndex := 339, attributes := #[] }, { accessFlags := 26, nameIndex := 365, descriptorIndex := 339, attributes := #[] }, { accessFlags := 26, nameIndex := 172, descriptorIndex := 173, attributes := #[] }, { accessFlags := 26, nameIndex := 176, descriptorIndex := 173, attributes := #[] }, { accessFlags := 8, nameIndex := 344, descriptorIndex := 339, attributes := #[] }, { accessFlags := 8, nameIndex := 338, descriptorIndex := 339, attributes := #[] }, { accessFlags := 4120, nameIndex := 245, descriptorIndex := 246, attributes := #[] }])
  fields := #[{ name := "E", type := .double, accessFlags := 25, slot := 0, constantValue := 0 }, { name := "PI", type := .double, accessFlags := 25, slot := 1, constantValue := 0 }, { name := "TAU", type := .double, accessFlags := 25, slot := 2, constantValue := 0 }, { name := "DEGREES_TO_RADIANS", type := .double, accessFlags := 26, slot := 3, constantValue := 0 }, { name := "RADIANS_TO_DEGREES", type := .double, accessFlags := 26, slot := 4, constantValue := 0 }, { name := "negativeZeroFloatBits", type := .long, accessFlags := 26, slot := 5, constantValue := 0 }, { name := "negativeZeroDoubleBits", type := .long, accessFlags := 26, slot := 6, constantValue := 0 }, { name := "twoToTheDoubleScaleUp", type := .double, accessFlags := 8, slot := 7, constantValue := 0 }, { name := "twoToTheDoubleScaleDown", type := .double, accessFlags := 8, slot := 8, constantValue := 0 }, { name := "$assertionsDisabled", type := .boolean, accessFlags := 4120, slot := 9, constantValue := 0 }]
  methods := #[k2m0, k2m1]
  instanceTypes := #[]
  staticTypes := #[.double, .double, .double, .double, .double, .long, .long, .double, .double, .boolean]
  resolved := Array.replicate 460 none
  statics := none }

def pool3 : Array CpInfo := pool [(2, .class_ 4), (1, u "java/lang/Object"), (0, u "<init>"), (0, u "()V"), (29, .class_ 38), (1, u "com/example/reciprocal/reciprocal/cbor/ItemOrder"), (13, .class_ 53), (0, u "com/example/reciprocal/reciprocal/cbor/ItemOrder$Form"), (33, .class_ 88), (0, u "com/example/reciprocal/reciprocal/cbor/ItemOrder$Keys"), (31, u "[Lcom/example/reciprocal/reciprocal/cbor/CborItem;"), (15, u "NONE"), (10, u "firstEntryOutOfOrder"), (0, u "([I)I")] 28

def k3m0 : Method := { name := "<init>", desc := "()V", sig := { parameters := [], returnType := none }, accessFlags := 2, code := none }
def k3c1 : Code := { maxStack := 4, maxLocals := 4, code := prog_32_method_11_code, exceptionTable := #[], attributes := #[] }
def k3m1 : Method := { name := "firstEntryOutOfOrder", desc := "([I)I", sig := { parameters := [(.array .int)], returnType := some .int }, accessFlags := 8, code := some k3c1 }
/-- com/example/reciprocal/reciprocal/cbor/ItemOrder -/
def k3 : Class := { plain "com/example/reciprocal/reciprocal/cbor/ItemOrder" (some 0) with
  accessFlags := 48
  interfaces := #[]
  cf := some (fileOf pool3 36 #[.nestMembers #[52, 87]] #[{ accessFlags := 2, nameIndex := 5, descriptorIndex := 6, attributes := #[] }, { accessFlags := 8, nameIndex := 147, descriptorIndex := 148, attributes := #[] }] 48 2 #[] #[{ accessFlags := 26, nameIndex := 136, descriptorIndex := 120, attributes := #[] }])
  fields := #[{ name := "NONE", type := (.array (.object "com/example/reciprocal/reciprocal/cbor/CborItem")), accessFlags := 26, slot := 0, constantValue := 0 }]
  methods := #[k3m0, k3m1]
  instanceTypes := #[]
  staticTypes := #[(.array (.object "com/example/reciprocal/reciprocal/cbor/CborItem"))]
  resolved := Array.replicate 177 none
  statics := none }

def pool4 : Array CpInfo := pool [(1, u "java/lang/Cloneable"), (0, .class_ 1), (0, u "java/lang/Object"), (0, .class_ 3)] 3

/-- java/lang/Cloneable -/
def k4 : Class := { plain "java/lang/Cloneable" (some 0) with
  accessFlags := 1537
  interfaces := #[]
  cf := some (fileOf pool4 2 #[] #[] 1537 4 #[] #[])
  fields := #[]
  methods := #[]
  instanceTypes := #[]
  staticTypes := #[]
  resolved := Array.replicate 8 none
  statics := none }

def pool5 : Array CpInfo := pool [(1, u "java/io/Serializable"), (0, .class_ 1), (0, u "java/lang/Object"), (0, .class_ 3)] 3

/-- java/io/Serializable -/
def k5 : Class := { plain "java/io/Serializable" (some 0) with
  accessFlags := 1537
  interfaces := #[]
  cf := some (fileOf pool5 2 #[] #[] 1537 4 #[] #[])
  fields := #[]
  methods := #[]
  instanceTypes := #[]
  staticTypes := #[]
  resolved := Array.replicate 8 none
  statics := none }

/-- the primitive byte -/
def k6 : Class := { plain "byte" none with kind := .primitive 'B', accessFlags := 0x411 }
/-- [B -/
def k7 : Class := { plain "[B" (some 0) with kind := .array 6 .byte, interfaces := #[4, 5], accessFlags := 1041 }

/-- the primitive int -/
def k8 : Class := { plain "int" none with kind := .primitive 'I', accessFlags := 0x411 }
/-- [I -/
def k9 : Class := { plain "[I" (some 0) with kind := .array 8 .int, interfaces := #[4, 5], accessFlags := 1041 }

def heap : Heap := #[]
def classes : Array Class := #[k0, k1, k2, k3, k4, k5, k6, k7, k8, k9]
def interned : List (Array UInt16 × Addr) := []
def slotsUsed : Nat := 0
def theMethod : MethodId := ⟨1, 3⟩
def args0 : Array Value := #[.int 5, .int 3, .int 9, .int 1, .int 4]
def aboutOver (below : List Frame) : State where
  vm := { classes := classes, interned := interned.toArray }
  heap := heap
  slotsUsed := slotsUsed
  threads := #[{ frames := .invoking theMethod args0 :: below }]
def below0 : List Frame := [.native { method := ⟨0, 0⟩, args := #[] }]
def about1 : State := aboutOver below0
def p0 : Program := .bare "" "" ""
def e0 : Env := launch0.env 0 0 0
theorem w_frames : about1.frames = Frame.invoking theMethod args0 :: below0 := rfl
set_option maxRecDepth 65536 in
theorem w_args : argsFit about1.vm theMethod args0 = true := by decide +kernel
set_option maxRecDepth 65536 in
theorem w_heap : heapFits about1 = true := by decide +kernel
set_option maxRecDepth 65536 in
theorem w_runnable : about1.curStatus? = some .runnable := by decide +kernel
set_option maxRecDepth 65536 in
theorem w_alone : about1.alone = true := by decide +kernel
set_option maxRecDepth 65536 in
theorem w_named : about1.methodNamed? x = some theMethod := by decide +kernel
set_option maxRecDepth 65536 in
theorem w_hears : about1.hears theMethod below0 = true := by decide +kernel
set_option maxRecDepth 65536 in
theorem w_ripe : about1.ripe theMethod args0 below0 = true := by decide +kernel
theorem w_running : about1.status = .running := rfl
set_option maxRecDepth 65536 in
theorem w_room : about1.hasRoom e0.platform room_1 = true :=
  launch0.hasRoom_least _ room_1 (by decide +kernel) (by decide +kernel) (by decide +kernel) (by decide +kernel) (by decide +kernel) (by decide +kernel)
theorem allAtoms_all (ts : List Jvm.Cond) (a : Array Jvm.Value) (st : Jvm.State) : (allAtoms ts).before a st = ts.all (fun c => c.before a st) := by
  induction ts with
  | nil => rfl
  | cons c t ih =>
    show (Jvm.Cond.and c (allAtoms t)).before a st = _
    rw [Jvm.Cond.before_and, ih, List.all_cons]
def words1 : List Jvm.Cond := Jvm.Cond.code x code maxLocals ret :: tables_1
/-- a 'code' word, met by the world's own term for the bytes: nothing is compared byte by byte -/
theorem code_word {y : MethodName} {bytes : ByteArray} {mx : Nat} {rt : Option FieldType} {a : Array Value} {s : State} {m : MethodId} {meth : Method} {c : Code} (h1 : s.methodNamed? y = some m) (h2 : s.vm.method? m = some meth) (h3 : meth.code = some c) (h4 : c.code = bytes)
    (h5 : (c.maxLocals == mx && c.exceptionTable.isEmpty && decide (c.maxStack ≤ mostOperands) && decide (meth.sig.returnType = rt) && !meth.locks && decide (parseMethodDescriptor y.desc = some meth.sig)) = true) : (Jvm.Cond.code y bytes mx rt).before a s = true := by
  simp only [Bool.and_eq_true, beq_iff_eq, Bool.not_eq_true', decide_eq_true_eq] at h5
  obtain ⟨⟨⟨⟨⟨g1, g2⟩, g3⟩, g4⟩, g5⟩, g6⟩ := h5
  simp [Cond.before, Cond.holds, Cond.value, h1, h2, h3, h4, g1, g2, g3, g4, g5, g6]
def isCode : Jvm.Cond → Bool
  | .code _ _ _ _ => true
  | _ => false
theorem all_split {L : List Jvm.Cond} {P : Jvm.Cond → Bool} (h1 : L.all (fun c => isCode c || P c) = true) (h2 : ∀ c ∈ L.filter isCode, P c = true) : L.all P = true := by
  refine List.all_eq_true.mpr fun c hc => ?_
  have h := List.all_eq_true.mp h1 c hc
  rcases Bool.eq_false_or_eq_true (isCode c) with hi | hi
  · exact h2 c (List.mem_filter.mpr ⟨hc, hi⟩)
  · simpa [hi] using h
set_option maxRecDepth 65536 in
theorem w_c0 : (Jvm.Cond.code x code maxLocals ret).before args0 about1 = true := code_word (m := ⟨1, 3⟩) (meth := k1m3) (c := k1c3) (by decide +kernel) rfl rfl rfl (by decide +kernel)
set_option maxRecDepth 65536 in
theorem w_c1 : (Jvm.Cond.code ({ cls := "java/lang/Math", name := "min", desc := "(II)I" } : Jvm.MethodName) jdk_29_method_69_code (2 : Nat) (Option.some Jvm.ClassFile.FieldType.int)).before args0 about1 = true := code_word (m := ⟨2, 1⟩) (meth := k2m1) (c := k2c1) (by decide +kernel) rfl rfl rfl (by decide +kernel)
set_option maxRecDepth 65536 in
theorem w_c2 : (Jvm.Cond.code ({ cls := "com/example/reciprocal/reciprocal/cbor/ItemOrder", name := "firstEntryOutOfOrder", desc := "([I)I" } : Jvm.MethodName) prog_32_method_11_code (4 : Nat) (Option.some Jvm.ClassFile.FieldType.int)).before args0 about1 = true := code_word (m := ⟨3, 1⟩) (meth := k3m1) (c := k3c1) (by decide +kernel) rfl rfl rfl (by decide +kernel)
set_option maxRecDepth 65536 in
theorem w_c3 : (Jvm.Cond.code ({ cls := "com/example/reciprocal/reciprocal/cbor/ItemOrderFirstEntryOutOfOrderPinLaw", name := "rank", desc := "([III)I" } : Jvm.MethodName) method_3_code (4 : Nat) (Option.some Jvm.ClassFile.FieldType.int)).before args0 about1 = true := code_word (m := ⟨1, 2⟩) (meth := k1m2) (c := k1c2) (by decide +kernel) rfl rfl rfl (by decide +kernel)
set_option maxRecDepth 65536 in
theorem w_c4 : (Jvm.Cond.code ({ cls := "com/example/reciprocal/reciprocal/cbor/ItemOrderFirstEntryOutOfOrderPinLaw", name := "before", desc := "(IIII)I" } : Jvm.MethodName) method_2_code (4 : Nat) (Option.some Jvm.ClassFile.FieldType.int)).before args0 about1 = true := code_word (m := ⟨1, 1⟩) (meth := k1m1) (c := k1c1) (by decide +kernel) rfl rfl rfl (by decide +kernel)
def codes1 : List Jvm.Cond := [Jvm.Cond.code x code maxLocals ret, Jvm.Cond.code ({ cls := "java/lang/Math", name := "min", desc := "(II)I" } : Jvm.MethodName) jdk_29_method_69_code (2 : Nat) (Option.some Jvm.ClassFile.FieldType.int), Jvm.Cond.code ({ cls := "com/example/reciprocal/reciprocal/cbor/ItemOrder", name := "firstEntryOutOfOrder", desc := "([I)I" } : Jvm.MethodName) prog_32_method_11_code (4 : Nat) (Option.some Jvm.ClassFile.FieldType.int), Jvm.Cond.code ({ cls := "com/example/reciprocal/reciprocal/cbor/ItemOrderFirstEntryOutOfOrderPinLaw", name := "rank", desc := "([III)I" } : Jvm.MethodName) method_3_code (4 : Nat) (Option.some Jvm.ClassFile.FieldType.int), Jvm.Cond.code ({ cls := "com/example/reciprocal/reciprocal/cbor/ItemOrderFirstEntryOutOfOrderPinLaw", name := "before", desc := "(IIII)I" } : Jvm.MethodName) method_2_code (4 : Nat) (Option.some Jvm.ClassFile.FieldType.int)]
set_option maxRecDepth 65536 in
theorem codes_eq : words1.filter isCode = codes1 := rfl
theorem w_codes : ∀ c ∈ words1.filter isCode, c.before args0 about1 = true := by
  rw [codes_eq]
  intro c hc
  simp only [codes1, List.mem_cons, List.not_mem_nil, or_false] at hc
  rcases hc with rfl | rfl | rfl | rfl | rfl
  · exact w_c0
  · exact w_c1
  · exact w_c2
  · exact w_c3
  · exact w_c4
set_option maxRecDepth 65536 in
theorem w_t1 : words1.all (fun c => isCode c || c.before args0 about1) = true := by decide +kernel
theorem w_tables : (allAtoms (Jvm.Cond.code x code maxLocals ret :: tables_1)).before args0 about1 = true := by
  rw [allAtoms_all]
  show words1.all (fun c => c.before args0 about1) = true
  refine all_split ?_ w_codes
  rw [w_t1]
set_option maxRecDepth 65536 in
theorem w_case : (Jvm.Cond.and given_1 narrow_1).before args0 about1 = true := by decide +kernel
theorem w_applies : (headSpec (Jvm.Cond.code x code maxLocals ret :: tables_1) room_1).applies x e0.platform about1 = true :=
  (Spec.applies_iff w_frames).mpr ⟨w_running, w_runnable, w_alone, w_named, w_hears, w_ripe, w_room, w_tables⟩
theorem atStart : AtStart classFile x code maxLocals ret World_1 tables_1 room_1 Calls_1 rest_1 Pre_1 launch0 p0 e0 about1 theMethod args0 below0 :=
  ⟨lists_1, trivial, launch0.admits_env _ _ _, launch0.least_env, fairChoices_fair.cas, fairChoices_fair.clock, w_frames, w_args, w_heap, w_applies, trivial, trivial, w_case⟩
end start1
theorem witness_1 : WitnessClaimed_1 := ⟨start1.p0, start1.e0, start1.about1, start1.theMethod, start1.args0, start1.below0, start1.atStart⟩
end Jvm.Pilot.@@N@@
