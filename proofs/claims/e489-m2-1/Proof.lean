import JvmDerived
import JvmDerived.Pilot.@@N@@Statement
import JvmDerived.Pilot.@@N@@Code
set_option linter.unusedVariables false
set_option linter.unusedSimpArgs false
namespace Jvm.Pilot.@@N@@
open Jvm Jvm.ClassFile Sem Op Lib Jvm.Free Jvm.Stand Jvm.LawKit Jvm.RoadKit Bundle Jvm.Pilot.@@N@@.Jvm.D
/-- the rest of a walk: from the frame g over T the run comes to an end that Q describes -/
def Goes (p : Program) (e : Env) (below : List Frame) (s : State) (cs ss : Nat) (Q : Option Value → Heap → List Loc → Prop) (T : State) (g : JFrame) : Prop :=
  ∃ U o, Steps p.tables e below (T.setTop g) U ∧ U.status = .running ∧ Ended U below o ∧ ∃ v L, o = .returned v ∧ Q v U.heap L ∧ FrameEnd s o U L cs ss
section Own
variable {p : Program} {l : Launch} {e : Env} {R : Room} {s : State} {m : MethodId} {args : Array Value} {below : List Frame} {meth : Method} {c : Code} {T T' : State} {locs : List Loc} {cells slots : Nat} {cs ss : Nat} {Q : Option Value → Heap → List Loc → Prop} {pc pc' : Nat} {Ls Ls' : Array Slot} {st : List Value}
theorem Goes.pre {g g' : JFrame} (h : ∀ target, Steps p.tables e below (T'.setTop g') target → Steps p.tables e below (T.setTop g) target) (k : Goes p e below s cs ss Q T' g') : Goes p e below s cs ss Q T g := by
  obtain ⟨U, o, h1, r⟩ := k
  exact ⟨U, o, h _ h1, r⟩
theorem Goes.aft {g g' : JFrame} (h : Steps p.tables e below (T.setTop g) (T'.setTop g')) (k : Goes p e below s cs ss Q T' g') : Goes p e below s cs ss Q T g := by
  obtain ⟨U, o, h1, r⟩ := k
  exact ⟨U, o, h.trans h1, r⟩
theorem own_enter {maxL : Nat} {g : JFrame} (hg : entryFrame m args maxL = g) (k : Goes p e below s cs ss Q T g) : ∃ s₂ o, Steps p.tables e below (T.setTop (entryFrame m args maxL)) s₂ ∧ s₂.status = .running ∧ Ended s₂ below o ∧ ∃ v L, o = .returned v ∧ Q v s₂.heap L ∧ FrameEnd s o s₂ L cs ss := by
  subst hg
  exact k
theorem own_retN (X : Stand p l e R s m args below meth c T locs cells slots) (hx : p.tables.exec = Jvm.exec) (hlk : meth.locks = false) {t : FieldType} (hret : meth.sig.returnType = some t) (ht : t = .boolean ∨ t = .byte ∨ t = .char ∨ t = .short) {z : Int32} (hd : decode c.code pc = .ok (.ireturn, 1)) (h1 : cells ≤ cs) (h2 : slots ≤ ss) (hq : Q (some (.int (nar t z))) T.heap locs) : Goes p e below s cs ss Q T (mkF m pc Ls (.int z :: st)) := by
  obtain ⟨fs, hr, hrun, hended, hW, hsame⟩ := X.leave (v := some (.int (nar t z))) (fun h => by rw [hret] at h; cases h) hlk
  exact ⟨_, _, retN X hx hret ht hd hr, hrun, hended, _, _, rfl, hq, ⟨_, rfl⟩, hW, hsame.mono h1 h2⟩
theorem own_retI (X : Stand p l e R s m args below meth c T locs cells slots) (hx : p.tables.exec = Jvm.exec) (hlk : meth.locks = false) (hret : meth.sig.returnType = some .int) {z : Int32} (hd : decode c.code pc = .ok (.ireturn, 1)) (h1 : cells ≤ cs) (h2 : slots ≤ ss) (hq : Q (some (.int z)) T.heap locs) : Goes p e below s cs ss Q T (mkF m pc Ls (.int z :: st)) := by
  obtain ⟨fs, hr, hrun, hended, hW, hsame⟩ := X.leave (v := some (.int z)) (fun h => by rw [hret] at h; cases h) hlk
  exact ⟨_, _, retOut X hx hret rfl (Or.inl ⟨rfl, Or.inl rfl, z, rfl⟩) hd hr, hrun, hended, _, _, rfl, hq, ⟨_, rfl⟩, hW, hsame.mono h1 h2⟩
theorem own_retJ (X : Stand p l e R s m args below meth c T locs cells slots) (hx : p.tables.exec = Jvm.exec) (hlk : meth.locks = false) (hret : meth.sig.returnType = some .long) {z : Int64} (hd : decode c.code pc = .ok (.lreturn, 1)) (h1 : cells ≤ cs) (h2 : slots ≤ ss) (hq : Q (some (.long z)) T.heap locs) : Goes p e below s cs ss Q T (mkF m pc Ls (.long z :: st)) := by
  obtain ⟨fs, hr, hrun, hended, hW, hsame⟩ := X.leave (v := some (.long z)) (fun h => by rw [hret] at h; cases h) hlk
  exact ⟨_, _, retOut X hx hret rfl (Or.inr (Or.inl ⟨rfl, rfl, z, rfl⟩)) hd hr, hrun, hended, _, _, rfl, hq, ⟨_, rfl⟩, hW, hsame.mono h1 h2⟩
theorem own_retA (X : Stand p l e R s m args below meth c T locs cells slots) (hx : p.tables.exec = Jvm.exec) (hlk : meth.locks = false) {t : FieldType} (hret : meth.sig.returnType = some t) {w : Value} (ht : t.isReference = true) (hw : w.isRef = true) (hn : narrow t w = w) (hd : decode c.code pc = .ok (.areturn, 1)) (h1 : cells ≤ cs) (h2 : slots ≤ ss) (hq : Q (some w) T.heap locs) : Goes p e below s cs ss Q T (mkF m pc Ls (w :: st)) := by
  obtain ⟨fs, hr, hrun, hended, hW, hsame⟩ := X.leave (v := some w) (fun h => by rw [hret] at h; cases h) hlk
  exact ⟨_, _, retOut X hx hret hn (Or.inr (Or.inr (Or.inr (Or.inr ⟨rfl, ht, hw⟩)))) hd hr, hrun, hended, _, _, rfl, hq, ⟨_, rfl⟩, hW, hsame.mono h1 h2⟩
theorem own_ret0 (X : Stand p l e R s m args below meth c T locs cells slots) (hx : p.tables.exec = Jvm.exec) (hlk : meth.locks = false) (hret : meth.sig.returnType = none) (hd : decode c.code pc = .ok (.return_, 1)) (h1 : cells ≤ cs) (h2 : slots ≤ ss) (hq : Q none T.heap locs) : Goes p e below s cs ss Q T (mkF m pc Ls []) := by
  obtain ⟨fs, hr, hrun, hended, hW, hsame⟩ := X.leave (v := none) (fun _ => rfl) hlk
  exact ⟨_, _, X.returnOut hx hret hd hr, hrun, hended, _, _, rfl, hq, ⟨_, rfl⟩, hW, hsame.mono h1 h2⟩
theorem own_iload (X : Stand p l e R s m args below meth c T locs cells slots) (hx : p.tables.exec = Jvm.exec) {i : Nat} {v : Int32} (hd : decode c.code pc = .ok (.iload i, 2)) (hl : Ls[i]? = some (.val (.int v))) (hp : pc + 2 = pc') (k : Goes p e below s cs ss Q T (mkF m pc' Ls (.int v :: st))) : Goes p e below s cs ss Q T (mkF m pc Ls st) := by
  subst hp
  exact Goes.pre (fun _ k => XS.iload X.here hx rfl hd hl k) k
theorem own_iloadN (X : Stand p l e R s m args below meth c T locs cells slots) (hx : p.tables.exec = Jvm.exec) {i : Fin 4} {v : Int32} (hd : decode c.code pc = .ok (.iload_n i, 1)) (hl : Ls[i.val]? = some (.val (.int v))) (hp : pc + 1 = pc') (k : Goes p e below s cs ss Q T (mkF m pc' Ls (.int v :: st))) : Goes p e below s cs ss Q T (mkF m pc Ls st) := by
  subst hp
  exact Goes.pre (fun _ k => XS.iloadN X.here hx rfl hd hl k) k
theorem own_lload (X : Stand p l e R s m args below meth c T locs cells slots) (hx : p.tables.exec = Jvm.exec) {i : Nat} {v : Int64} (hd : decode c.code pc = .ok (.lload i, 2)) (hl : Ls[i]? = some (.val (.long v))) (hp : pc + 2 = pc') (k : Goes p e below s cs ss Q T (mkF m pc' Ls (.long v :: st))) : Goes p e below s cs ss Q T (mkF m pc Ls st) := by
  subst hp
  exact Goes.pre (fun _ k => XS.lload X.here hx rfl hd hl k) k
theorem own_lloadN (X : Stand p l e R s m args below meth c T locs cells slots) (hx : p.tables.exec = Jvm.exec) {i : Fin 4} {v : Int64} (hd : decode c.code pc = .ok (.lload_n i, 1)) (hl : Ls[i.val]? = some (.val (.long v))) (hp : pc + 1 = pc') (k : Goes p e below s cs ss Q T (mkF m pc' Ls (.long v :: st))) : Goes p e below s cs ss Q T (mkF m pc Ls st) := by
  subst hp
  exact Goes.pre (fun _ k => XS.lloadN X.here hx rfl hd hl k) k
theorem own_aload (X : Stand p l e R s m args below meth c T locs cells slots) (hx : p.tables.exec = Jvm.exec) {i : Nat} {v : Value} (hd : decode c.code pc = .ok (.aload i, 2)) (hl : Ls[i]? = some (.val v)) (hv : v.isRef = true) (hp : pc + 2 = pc') (k : Goes p e below s cs ss Q T (mkF m pc' Ls (v :: st))) : Goes p e below s cs ss Q T (mkF m pc Ls st) := by
  subst hp
  exact Goes.pre (fun _ k => XS.aload X.here hx rfl hd hl hv k) k
theorem own_aloadN (X : Stand p l e R s m args below meth c T locs cells slots) (hx : p.tables.exec = Jvm.exec) {i : Fin 4} {v : Value} (hd : decode c.code pc = .ok (.aload_n i, 1)) (hl : Ls[i.val]? = some (.val v)) (hv : v.isRef = true) (hp : pc + 1 = pc') (k : Goes p e below s cs ss Q T (mkF m pc' Ls (v :: st))) : Goes p e below s cs ss Q T (mkF m pc Ls st) := by
  subst hp
  exact Goes.pre (fun _ k => XS.aloadN X.here hx rfl hd hl hv k) k
theorem own_istore (X : Stand p l e R s m args below meth c T locs cells slots) (hx : p.tables.exec = Jvm.exec) {i : Nat} {x : Int32} (hd : decode c.code pc = .ok (.istore i, 2)) (hl : storeLocals Ls i (.int x) = some Ls') (hp : pc + 2 = pc') (k : Goes p e below s cs ss Q T (mkF m pc' Ls' st)) : Goes p e below s cs ss Q T (mkF m pc Ls (.int x :: st)) := by
  subst hp
  exact Goes.pre (fun _ k => XS.istore X.here hx rfl hd rfl hl k) k
theorem own_istoreN (X : Stand p l e R s m args below meth c T locs cells slots) (hx : p.tables.exec = Jvm.exec) {i : Fin 4} {x : Int32} (hd : decode c.code pc = .ok (.istore_n i, 1)) (hl : storeLocals Ls i.val (.int x) = some Ls') (hp : pc + 1 = pc') (k : Goes p e below s cs ss Q T (mkF m pc' Ls' st)) : Goes p e below s cs ss Q T (mkF m pc Ls (.int x :: st)) := by
  subst hp
  exact Goes.pre (fun _ k => XS.istoreN X.here hx rfl hd rfl hl k) k
theorem own_lstore (X : Stand p l e R s m args below meth c T locs cells slots) (hx : p.tables.exec = Jvm.exec) {i : Nat} {x : Int64} (hd : decode c.code pc = .ok (.lstore i, 2)) (hl : storeLocals Ls i (.long x) = some Ls') (hp : pc + 2 = pc') (k : Goes p e below s cs ss Q T (mkF m pc' Ls' st)) : Goes p e below s cs ss Q T (mkF m pc Ls (.long x :: st)) := by
  subst hp
  exact Goes.pre (fun _ k => XS.lstore X.here hx rfl hd rfl hl k) k
theorem own_lstoreN (X : Stand p l e R s m args below meth c T locs cells slots) (hx : p.tables.exec = Jvm.exec) {i : Fin 4} {x : Int64} (hd : decode c.code pc = .ok (.lstore_n i, 1)) (hl : storeLocals Ls i.val (.long x) = some Ls') (hp : pc + 1 = pc') (k : Goes p e below s cs ss Q T (mkF m pc' Ls' st)) : Goes p e below s cs ss Q T (mkF m pc Ls (.long x :: st)) := by
  subst hp
  exact Goes.pre (fun _ k => XS.lstoreN X.here hx rfl hd rfl hl k) k
theorem own_astore (X : Stand p l e R s m args below meth c T locs cells slots) (hx : p.tables.exec = Jvm.exec) {i : Nat} {x : Value} (hd : decode c.code pc = .ok (.astore i, 2)) (hv : x.isRef = true) (hl : storeLocals Ls i x = some Ls') (hp : pc + 2 = pc') (k : Goes p e below s cs ss Q T (mkF m pc' Ls' st)) : Goes p e below s cs ss Q T (mkF m pc Ls (x :: st)) := by
  subst hp
  exact Goes.pre (fun _ k => XS.astore X.here hx rfl hd rfl hv hl k) k
theorem own_astoreN (X : Stand p l e R s m args below meth c T locs cells slots) (hx : p.tables.exec = Jvm.exec) {i : Fin 4} {x : Value} (hd : decode c.code pc = .ok (.astore_n i, 1)) (hv : x.isRef = true) (hl : storeLocals Ls i.val x = some Ls') (hp : pc + 1 = pc') (k : Goes p e below s cs ss Q T (mkF m pc' Ls' st)) : Goes p e below s cs ss Q T (mkF m pc Ls (x :: st)) := by
  subst hp
  exact Goes.pre (fun _ k => XS.astoreN X.here hx rfl hd rfl hv hl k) k
theorem own_iinc (X : Stand p l e R s m args below meth c T locs cells slots) (hx : p.tables.exec = Jvm.exec) {i : Nat} {q : Int} {x y : Int32} (hd : decode c.code pc = .ok (.iinc i q, 3)) (hl : Ls[i]? = some (.val (.int x))) (hy : x + Int32.ofInt q = y) (hl' : storeLocals Ls i (.int y) = some Ls') (hp : pc + 3 = pc') (k : Goes p e below s cs ss Q T (mkF m pc' Ls' st)) : Goes p e below s cs ss Q T (mkF m pc Ls st) := by
  subst hp
  exact Goes.pre (fun _ k => XS.iinc X.here hx rfl hd hl (hy.symm ▸ hl') k) k
theorem own_iconst (X : Stand p l e R s m args below meth c T locs cells slots) (hx : p.tables.exec = Jvm.exec) {i : Int} {v : Int32} (hd : decode c.code pc = .ok (.iconst i, 1)) (hv : Int32.ofInt i = v) (hp : pc + 1 = pc') (k : Goes p e below s cs ss Q T (mkF m pc' Ls (.int v :: st))) : Goes p e below s cs ss Q T (mkF m pc Ls st) := by
  subst hp hv
  exact Goes.pre (fun _ k => XS.iconst X.here hx rfl hd k) k
theorem own_bipush (X : Stand p l e R s m args below meth c T locs cells slots) (hx : p.tables.exec = Jvm.exec) {i : Int} {v : Int32} (hd : decode c.code pc = .ok (.bipush i, 2)) (hv : (Int8.ofInt i).toInt32 = v) (hp : pc + 2 = pc') (k : Goes p e below s cs ss Q T (mkF m pc' Ls (.int v :: st))) : Goes p e below s cs ss Q T (mkF m pc Ls st) := by
  subst hp hv
  exact Goes.pre (fun _ k => XS.bipush X.here hx rfl hd k) k
theorem own_lconst (X : Stand p l e R s m args below meth c T locs cells slots) (hx : p.tables.exec = Jvm.exec) {i : Fin 2} {v : Int64} (hd : decode c.code pc = .ok (.lconst i, 1)) (hv : Int64.ofNat i = v) (hp : pc + 1 = pc') (k : Goes p e below s cs ss Q T (mkF m pc' Ls (.long v :: st))) : Goes p e below s cs ss Q T (mkF m pc Ls st) := by
  subst hp hv
  exact Goes.pre (fun _ k => XS.lconst X.here hx rfl hd k) k
theorem own_aconstNull (X : Stand p l e R s m args below meth c T locs cells slots) (hx : p.tables.exec = Jvm.exec)  (hd : decode c.code pc = .ok (.aconst_null, 1))  (hp : pc + 1 = pc') (k : Goes p e below s cs ss Q T (mkF m pc' Ls (.null :: st))) : Goes p e below s cs ss Q T (mkF m pc Ls st) := by
  subst hp
  exact Goes.pre (fun _ k => XS.aconstNull X.here hx rfl hd k) k
theorem own_iadd (X : Stand p l e R s m args below meth c T locs cells slots) (hx : p.tables.exec = Jvm.exec) {x y : Int32} (hd : decode c.code pc = .ok (.iadd, 1))  (hp : pc + 1 = pc') (k : Goes p e below s cs ss Q T (mkF m pc' Ls (.int (x + y) :: st))) : Goes p e below s cs ss Q T (mkF m pc Ls (.int y :: .int x :: st)) := by
  subst hp
  exact Goes.pre (fun _ k => XS.iadd X.here hx rfl hd rfl k) k
theorem own_isub (X : Stand p l e R s m args below meth c T locs cells slots) (hx : p.tables.exec = Jvm.exec) {x y : Int32} (hd : decode c.code pc = .ok (.isub, 1))  (hp : pc + 1 = pc') (k : Goes p e below s cs ss Q T (mkF m pc' Ls (.int (x - y) :: st))) : Goes p e below s cs ss Q T (mkF m pc Ls (.int y :: .int x :: st)) := by
  subst hp
  exact Goes.pre (fun _ k => XS.isub X.here hx rfl hd rfl k) k
theorem own_imul (X : Stand p l e R s m args below meth c T locs cells slots) (hx : p.tables.exec = Jvm.exec) {x y : Int32} (hd : decode c.code pc = .ok (.imul, 1))  (hp : pc + 1 = pc') (k : Goes p e below s cs ss Q T (mkF m pc' Ls (.int (x * y) :: st))) : Goes p e below s cs ss Q T (mkF m pc Ls (.int y :: .int x :: st)) := by
  subst hp
  exact Goes.pre (fun _ k => XS.imul X.here hx rfl hd rfl k) k
theorem own_iand (X : Stand p l e R s m args below meth c T locs cells slots) (hx : p.tables.exec = Jvm.exec) {x y : Int32} (hd : decode c.code pc = .ok (.iand, 1))  (hp : pc + 1 = pc') (k : Goes p e below s cs ss Q T (mkF m pc' Ls (.int (x &&& y) :: st))) : Goes p e below s cs ss Q T (mkF m pc Ls (.int y :: .int x :: st)) := by
  subst hp
  exact Goes.pre (fun _ k => XS.iand X.here hx rfl hd rfl k) k
theorem own_iushr (X : Stand p l e R s m args below meth c T locs cells slots) (hx : p.tables.exec = Jvm.exec) {x y : Int32} (hd : decode c.code pc = .ok (.iushr, 1))  (hp : pc + 1 = pc') (k : Goes p e below s cs ss Q T (mkF m pc' Ls (.int ((x.toUInt32 >>> (y &&& 31).toUInt32).toInt32) :: st))) : Goes p e below s cs ss Q T (mkF m pc Ls (.int y :: .int x :: st)) := by
  subst hp
  exact Goes.pre (fun _ k => XS.iushr X.here hx rfl hd rfl k) k
theorem own_irem (X : Stand p l e R s m args below meth c T locs cells slots) (hx : p.tables.exec = Jvm.exec) {x y : Int32} (hd : decode c.code pc = .ok (.irem, 1)) (hy : y ≠ 0) (hp : pc + 1 = pc') (k : Goes p e below s cs ss Q T (mkF m pc' Ls (.int (x % y) :: st))) : Goes p e below s cs ss Q T (mkF m pc Ls (.int y :: .int x :: st)) := by
  subst hp
  exact Goes.pre (fun _ k => iremM X hx rfl hd rfl hy k) k
theorem own_ladd (X : Stand p l e R s m args below meth c T locs cells slots) (hx : p.tables.exec = Jvm.exec) {x y : Int64} (hd : decode c.code pc = .ok (.ladd, 1))  (hp : pc + 1 = pc') (k : Goes p e below s cs ss Q T (mkF m pc' Ls (.long (x + y) :: st))) : Goes p e below s cs ss Q T (mkF m pc Ls (.long y :: .long x :: st)) := by
  subst hp
  exact Goes.pre (fun _ k => XS.ladd X.here hx rfl hd rfl k) k
theorem own_lsub (X : Stand p l e R s m args below meth c T locs cells slots) (hx : p.tables.exec = Jvm.exec) {x y : Int64} (hd : decode c.code pc = .ok (.lsub, 1))  (hp : pc + 1 = pc') (k : Goes p e below s cs ss Q T (mkF m pc' Ls (.long (x - y) :: st))) : Goes p e below s cs ss Q T (mkF m pc Ls (.long y :: .long x :: st)) := by
  subst hp
  exact Goes.pre (fun _ k => XS.lsub X.here hx rfl hd rfl k) k
theorem own_land (X : Stand p l e R s m args below meth c T locs cells slots) (hx : p.tables.exec = Jvm.exec) {x y : Int64} (hd : decode c.code pc = .ok (.land, 1))  (hp : pc + 1 = pc') (k : Goes p e below s cs ss Q T (mkF m pc' Ls (.long (x &&& y) :: st))) : Goes p e below s cs ss Q T (mkF m pc Ls (.long y :: .long x :: st)) := by
  subst hp
  exact Goes.pre (fun _ k => XS.land X.here hx rfl hd rfl k) k
theorem own_lxor (X : Stand p l e R s m args below meth c T locs cells slots) (hx : p.tables.exec = Jvm.exec) {x y : Int64} (hd : decode c.code pc = .ok (.lxor, 1))  (hp : pc + 1 = pc') (k : Goes p e below s cs ss Q T (mkF m pc' Ls (.long (x ^^^ y) :: st))) : Goes p e below s cs ss Q T (mkF m pc Ls (.long y :: .long x :: st)) := by
  subst hp
  exact Goes.pre (fun _ k => XS.lxor X.here hx rfl hd rfl k) k
theorem own_lcmp (X : Stand p l e R s m args below meth c T locs cells slots) (hx : p.tables.exec = Jvm.exec) {x y : Int64} (hd : decode c.code pc = .ok (.lcmp, 1))  (hp : pc + 1 = pc') (k : Goes p e below s cs ss Q T (mkF m pc' Ls (.int (lcmpW x y) :: st))) : Goes p e below s cs ss Q T (mkF m pc Ls (.long y :: .long x :: st)) := by
  subst hp
  exact Goes.pre (fun _ k => XS.lcmp X.here hx rfl hd rfl k) k
theorem own_i2c (X : Stand p l e R s m args below meth c T locs cells slots) (hx : p.tables.exec = Jvm.exec) {x : Int32} (hd : decode c.code pc = .ok (.i2c, 1))  (hp : pc + 1 = pc') (k : Goes p e below s cs ss Q T (mkF m pc' Ls (.int (x.toUInt32.toUInt16.toUInt32.toInt32) :: st))) : Goes p e below s cs ss Q T (mkF m pc Ls (.int x :: st)) := by
  subst hp
  exact Goes.pre (fun _ k => XS.i2c X.here hx rfl hd rfl k) k
theorem own_dup (X : Stand p l e R s m args below meth c T locs cells slots) (hx : p.tables.exec = Jvm.exec) {x : Value} (hd : decode c.code pc = .ok (.dup, 1)) (hc : x.category = 1) (hp : pc + 1 = pc') (k : Goes p e below s cs ss Q T (mkF m pc' Ls (x :: x :: st))) : Goes p e below s cs ss Q T (mkF m pc Ls (x :: st)) := by
  subst hp
  exact Goes.pre (fun _ k => XS.dup X.here hx rfl hd rfl hc k) k
theorem own_pop (X : Stand p l e R s m args below meth c T locs cells slots) (hx : p.tables.exec = Jvm.exec) {x : Value} (hd : decode c.code pc = .ok (.pop, 1)) (hc : x.category = 1) (hp : pc + 1 = pc') (k : Goes p e below s cs ss Q T (mkF m pc' Ls st)) : Goes p e below s cs ss Q T (mkF m pc Ls (x :: st)) := by
  subst hp
  exact Goes.pre (fun _ k => XS.pop X.here hx rfl hd rfl hc k) k
theorem own_goto (X : Stand p l e R s m args below meth c T locs cells slots) (hx : p.tables.exec = Jvm.exec) {o : Int}  (hd : decode c.code pc = .ok (.goto o, 3))  (ho : 0 ≤ (pc : Int) + o) (hp : ((pc : Int) + o).toNat = pc') (k : Goes p e below s cs ss Q T (mkF m pc' Ls st)) : Goes p e below s cs ss Q T (mkF m pc Ls st) := by
  exact Goes.pre (fun _ k => XS.goto X.here hx rfl rfl hd ho hp k) k
theorem own_ifY (X : Stand p l e R s m args below meth c T locs cells slots) (hx : p.tables.exec = Jvm.exec) {o : Int} {cd : ClassFile.Cond} {x : Int32} (hd : decode c.code pc = .ok (.ifCond cd o, 3)) (hc : ifCond.holds cd x = true) (ho : 0 ≤ (pc : Int) + o) (hp : ((pc : Int) + o).toNat = pc') (k : Goes p e below s cs ss Q T (mkF m pc' Ls st)) : Goes p e below s cs ss Q T (mkF m pc Ls (.int x :: st)) := by
  exact Goes.pre (fun _ k => XS.ifYes X.here hx rfl rfl hd rfl hc ho hp k) k
theorem own_icmpY (X : Stand p l e R s m args below meth c T locs cells slots) (hx : p.tables.exec = Jvm.exec) {o : Int} {cd : ClassFile.Cond} {x y : Int32} (hd : decode c.code pc = .ok (.if_icmp cd o, 3)) (hc : if_icmp.holds cd x y = true) (ho : 0 ≤ (pc : Int) + o) (hp : ((pc : Int) + o).toNat = pc') (k : Goes p e below s cs ss Q T (mkF m pc' Ls st)) : Goes p e below s cs ss Q T (mkF m pc Ls (.int y :: .int x :: st)) := by
  exact Goes.pre (fun _ k => XS.icmpYes X.here hx rfl rfl hd rfl hc ho hp k) k
theorem own_ifN (X : Stand p l e R s m args below meth c T locs cells slots) (hx : p.tables.exec = Jvm.exec) {o : Int} {cd : ClassFile.Cond} {x : Int32} (hd : decode c.code pc = .ok (.ifCond cd o, 3)) (hc : ifCond.holds cd x = false) (hp : pc + 3 = pc') (k : Goes p e below s cs ss Q T (mkF m pc' Ls st)) : Goes p e below s cs ss Q T (mkF m pc Ls (.int x :: st)) := by
  subst hp
  exact Goes.pre (fun _ k => XS.ifNo X.here hx rfl hd rfl hc k) k
theorem own_icmpN (X : Stand p l e R s m args below meth c T locs cells slots) (hx : p.tables.exec = Jvm.exec) {o : Int} {cd : ClassFile.Cond} {x y : Int32} (hd : decode c.code pc = .ok (.if_icmp cd o, 3)) (hc : if_icmp.holds cd x y = false) (hp : pc + 3 = pc') (k : Goes p e below s cs ss Q T (mkF m pc' Ls st)) : Goes p e below s cs ss Q T (mkF m pc Ls (.int y :: .int x :: st)) := by
  subst hp
  exact Goes.pre (fun _ k => XS.icmpNo X.here hx rfl hd rfl hc k) k
theorem own_ifnullY (X : Stand p l e R s m args below meth c T locs cells slots) (hx : p.tables.exec = Jvm.exec) {o : Int}  (hd : decode c.code pc = .ok (.ifnull o, 3))  (ho : 0 ≤ (pc : Int) + o) (hp : ((pc : Int) + o).toNat = pc') (k : Goes p e below s cs ss Q T (mkF m pc' Ls st)) : Goes p e below s cs ss Q T (mkF m pc Ls (.null :: st)) := by
  exact Goes.pre (fun _ k => XS.ifnullYes X.here hx rfl rfl hd rfl ho hp k) k
theorem own_ifnullN (X : Stand p l e R s m args below meth c T locs cells slots) (hx : p.tables.exec = Jvm.exec) {o : Int} {b : Addr} (hd : decode c.code pc = .ok (.ifnull o, 3))  (hp : pc + 3 = pc') (k : Goes p e below s cs ss Q T (mkF m pc' Ls st)) : Goes p e below s cs ss Q T (mkF m pc Ls (.ref b :: st)) := by
  subst hp
  exact Goes.pre (fun _ k => XS.ifnullNo X.here hx rfl hd rfl k) k
theorem own_ifnonnullY (X : Stand p l e R s m args below meth c T locs cells slots) (hx : p.tables.exec = Jvm.exec) {o : Int} {b : Addr} (hd : decode c.code pc = .ok (.ifnonnull o, 3))  (ho : 0 ≤ (pc : Int) + o) (hp : ((pc : Int) + o).toNat = pc') (k : Goes p e below s cs ss Q T (mkF m pc' Ls st)) : Goes p e below s cs ss Q T (mkF m pc Ls (.ref b :: st)) := by
  exact Goes.pre (fun _ k => XS.ifnonnullYes X.here hx rfl rfl hd rfl ho hp k) k
theorem own_ifnonnullN (X : Stand p l e R s m args below meth c T locs cells slots) (hx : p.tables.exec = Jvm.exec) {o : Int} (hd : decode c.code pc = .ok (.ifnonnull o, 3))  (hp : pc + 3 = pc') (k : Goes p e below s cs ss Q T (mkF m pc' Ls st)) : Goes p e below s cs ss Q T (mkF m pc Ls (.null :: st)) := by
  subst hp
  exact Goes.pre (fun _ k => XS.ifnonnullNo X.here hx rfl hd rfl k) k
theorem own_ldc2 (X : Stand p l e R s m args below meth c T locs cells slots) (hx : p.tables.exec = Jvm.exec) {own : String} {i : Nat} {v : Int64} (hown : s.vm.findClass own = some m.cls) (w : (Cond.constantLong own i v).before args s = true) (hd : decode c.code pc = .ok (.ldc2_w i, 3)) (hp : pc + 3 = pc') (k : Goes p e below s cs ss Q T (mkF m pc' Ls (.long v :: st))) : Goes p e below s cs ss Q T (mkF m pc Ls st) := by
  subst hp
  exact Goes.pre (fun t k => X.ldc2Long hx hown w (g := mkF m pc Ls st) rfl hd t k) k
theorem own_ldcI (X : Stand p l e R s m args below meth c T locs cells slots) (hx : p.tables.exec = Jvm.exec) {own : String} {i : Nat} {v : Int32} (hown : s.vm.findClass own = some m.cls) (w : (Cond.constant own i v).before args s = true) (hd : decode c.code pc = .ok (.ldc i, 2)) (hp : pc + 2 = pc') (k : Goes p e below s cs ss Q T (mkF m pc' Ls (.int v :: st))) : Goes p e below s cs ss Q T (mkF m pc Ls st) := by
  subst hp
  exact Goes.pre (fun t k => X.ldcInt hx hown w (g := mkF m pc Ls st) rfl hd t k) k
theorem own_sipush (X : Stand p l e R s m args below meth c T locs cells slots) (hx : p.tables.exec = Jvm.exec) {i : Int} {v : Int32} (hd : decode c.code pc = .ok (.sipush i, 3)) (hv : (Int16.ofInt i).toInt32 = v) (hp : pc + 3 = pc') (k : Goes p e below s cs ss Q T (mkF m pc' Ls (.int v :: st))) : Goes p e below s cs ss Q T (mkF m pc Ls st) := by
  subst hp hv
  exact Goes.pre (fun _ k => XS.sipush X.here hx rfl hd k) k
theorem own_istoreS (X : Stand p l e R s m args below meth c T locs cells slots) (hx : p.tables.exec = Jvm.exec) {i : Nat} {x : Int32} {o : Slot} (hd : decode c.code pc = .ok (.istore i, 2)) (hold : Ls[i]? = some o) (ho : One o) (hl : Ls.setIfInBounds i (.val (.int x)) = Ls') (hp : pc + 2 = pc') (k : Goes p e below s cs ss Q T (mkF m pc' Ls' st)) : Goes p e below s cs ss Q T (mkF m pc Ls (.int x :: st)) := by
  subst hp
  exact Goes.pre (fun _ k => XS.istoreS X.here hx rfl hd rfl hold ho (hl.symm ▸ k)) k
theorem own_i2b (X : Stand p l e R s m args below meth c T locs cells slots) (hx : p.tables.exec = Jvm.exec) {x : Int32} (hd : decode c.code pc = .ok (.i2b, 1))  (hp : pc + 1 = pc') (k : Goes p e below s cs ss Q T (mkF m pc' Ls (.int x.toInt8.toInt32 :: st))) : Goes p e below s cs ss Q T (mkF m pc Ls (.int x :: st)) := by
  subst hp
  exact Goes.pre (fun _ k => XS.i2b X.here hx rfl hd rfl k) k
theorem own_dupX1 (X : Stand p l e R s m args below meth c T locs cells slots) (hx : p.tables.exec = Jvm.exec) {x y : Value} (hd : decode c.code pc = .ok (.dup_x1, 1)) (hc : x.category = 1) (hc' : y.category = 1) (hp : pc + 1 = pc') (k : Goes p e below s cs ss Q T (mkF m pc' Ls (x :: y :: x :: st))) : Goes p e below s cs ss Q T (mkF m pc Ls (x :: y :: st)) := by
  subst hp
  exact Goes.pre (fun _ k => XS.dupX1 X.here hx rfl hd rfl hc hc' k) k
end Own
theorem own_Tlt {a b : Int64} (h : a < b) : ifCond.holds .lt (lcmpW a b) = true ∧ ifCond.holds .ge (lcmpW a b) = false := ⟨(if0 _ _).trans (tlt ((lw_lt a b).mpr h)).1, (if0 _ _).trans (tlt ((lw_lt a b).mpr h)).2.1⟩
theorem own_Flt {a b : Int64} (h : ¬ a < b) : ifCond.holds .lt (lcmpW a b) = false ∧ ifCond.holds .ge (lcmpW a b) = true := ⟨(if0 _ _).trans (flt fun q => h ((lw_lt a b).mp q)).1, (if0 _ _).trans (flt fun q => h ((lw_lt a b).mp q)).2.1⟩
theorem own_Tgt {a b : Int64} (h : b < a) : ifCond.holds .gt (lcmpW a b) = true ∧ ifCond.holds .le (lcmpW a b) = false := ⟨(if0 _ _).trans (tlt ((lw_gt a b).mpr h)).2.2.1, (if0 _ _).trans (tlt ((lw_gt a b).mpr h)).2.2.2⟩
theorem own_Fgt {a b : Int64} (h : ¬ b < a) : ifCond.holds .gt (lcmpW a b) = false ∧ ifCond.holds .le (lcmpW a b) = true := ⟨(if0 _ _).trans (flt fun q => h ((lw_gt a b).mp q)).2.2.1, (if0 _ _).trans (flt fun q => h ((lw_gt a b).mp q)).2.2.2⟩
theorem own_Teq {a b : Int64} (h : a = b) : ifCond.holds .eq (lcmpW a b) = true ∧ ifCond.holds .ne (lcmpW a b) = false := ⟨(if0 _ _).trans (teq ((lw_eq a b).mpr h)).1, (if0 _ _).trans (teq ((lw_eq a b).mpr h)).2⟩
theorem own_Feq {a b : Int64} (h : ¬ a = b) : ifCond.holds .eq (lcmpW a b) = false ∧ ifCond.holds .ne (lcmpW a b) = true := ⟨(if0 _ _).trans (feq fun q => h ((lw_eq a b).mp q)).1, (if0 _ _).trans (feq fun q => h ((lw_eq a b).mp q)).2⟩
def own_Rec (Z : State) (h : Heap) (a : Addr) (v1 v2 v3 v4 v5 v6 v7 v8 : Int64) : Prop := Exa Z h a "com/example/reciprocal/reciprocal/speed/PlainRecord" ∧ Fld Z h a "com/example/reciprocal/reciprocal/speed/PlainRecord" "f1" "J" (.long v1) ∧ Fld Z h a "com/example/reciprocal/reciprocal/speed/PlainRecord" "f2" "J" (.long v2) ∧ Fld Z h a "com/example/reciprocal/reciprocal/speed/PlainRecord" "f3" "J" (.long v3) ∧ Fld Z h a "com/example/reciprocal/reciprocal/speed/PlainRecord" "f4" "J" (.long v4) ∧ Fld Z h a "com/example/reciprocal/reciprocal/speed/PlainRecord" "f5" "J" (.long v5) ∧ Fld Z h a "com/example/reciprocal/reciprocal/speed/PlainRecord" "f6" "J" (.long v6) ∧ Fld Z h a "com/example/reciprocal/reciprocal/speed/PlainRecord" "f7" "J" (.long v7) ∧ Fld Z h a "com/example/reciprocal/reciprocal/speed/PlainRecord" "f8" "J" (.long v8)
theorem own_Rec.keep {Z : State} {h h' : Heap} {a : Addr} {v1 v2 v3 v4 v5 v6 v7 v8 : Int64} {us : List Addr} (F : own_Rec Z h a v1 v2 v3 v4 v5 v6 v7 v8) (K : Keep h h' us) (q : a ∉ us) : own_Rec Z h' a v1 v2 v3 v4 v5 v6 v7 v8 := ⟨F.1.keep K, F.2.1.keep K q, F.2.2.1.keep K q, F.2.2.2.1.keep K q, F.2.2.2.2.1.keep K q, F.2.2.2.2.2.1.keep K q, F.2.2.2.2.2.2.1.keep K q, F.2.2.2.2.2.2.2.1.keep K q, F.2.2.2.2.2.2.2.2.keep K q⟩
theorem own_Rec.ext {Z : State} {h h' : Heap} {a : Addr} {v1 v2 v3 v4 v5 v6 v7 v8 : Int64} (F : own_Rec Z h a v1 v2 v3 v4 v5 v6 v7 v8) (K : Ext h h') : own_Rec Z h' a v1 v2 v3 v4 v5 v6 v7 v8 := ⟨F.1.ext K, F.2.1.ext K, F.2.2.1.ext K, F.2.2.2.1.ext K, F.2.2.2.2.1.ext K, F.2.2.2.2.2.1.ext K, F.2.2.2.2.2.2.1.ext K, F.2.2.2.2.2.2.2.1.ext K, F.2.2.2.2.2.2.2.2.ext K⟩
def own_sum (v1 v2 v3 v4 v5 v6 v7 v8 : Int64) : Int64 := v1 + v2 + v3 + v4 + v5 + v6 + v7 + v8
theorem own_addsub (a b : Int64) : a + b - a = b := by rw [Int64.add_comm, Int64.add_sub_cancel]
theorem own_bump1 (v1 v2 v3 v4 v5 v6 v7 v8 x : Int64) : own_sum (v1 + x) v2 v3 v4 v5 v6 v7 v8 = own_sum v1 v2 v3 v4 v5 v6 v7 v8 + x := by simp only [own_sum]; ac_rfl
theorem own_bump2 (v1 v2 v3 v4 v5 v6 v7 v8 x : Int64) : own_sum v1 (v2 + x) v3 v4 v5 v6 v7 v8 = own_sum v1 v2 v3 v4 v5 v6 v7 v8 + x := by simp only [own_sum]; ac_rfl
theorem own_bump3 (v1 v2 v3 v4 v5 v6 v7 v8 x : Int64) : own_sum v1 v2 (v3 + x) v4 v5 v6 v7 v8 = own_sum v1 v2 v3 v4 v5 v6 v7 v8 + x := by simp only [own_sum]; ac_rfl
theorem own_bump4 (v1 v2 v3 v4 v5 v6 v7 v8 x : Int64) : own_sum v1 v2 v3 (v4 + x) v5 v6 v7 v8 = own_sum v1 v2 v3 v4 v5 v6 v7 v8 + x := by simp only [own_sum]; ac_rfl
theorem own_bump5 (v1 v2 v3 v4 v5 v6 v7 v8 x : Int64) : own_sum v1 v2 v3 v4 (v5 + x) v6 v7 v8 = own_sum v1 v2 v3 v4 v5 v6 v7 v8 + x := by simp only [own_sum]; ac_rfl
theorem own_bump6 (v1 v2 v3 v4 v5 v6 v7 v8 x : Int64) : own_sum v1 v2 v3 v4 v5 (v6 + x) v7 v8 = own_sum v1 v2 v3 v4 v5 v6 v7 v8 + x := by simp only [own_sum]; ac_rfl
theorem own_bump7 (v1 v2 v3 v4 v5 v6 v7 v8 x : Int64) : own_sum v1 v2 v3 v4 v5 v6 (v7 + x) v8 = own_sum v1 v2 v3 v4 v5 v6 v7 v8 + x := by simp only [own_sum]; ac_rfl
theorem own_bump8 (v1 v2 v3 v4 v5 v6 v7 v8 x : Int64) : own_sum v1 v2 v3 v4 v5 v6 v7 (v8 + x) = own_sum v1 v2 v3 v4 v5 v6 v7 v8 + x := by simp only [own_sum]; ac_rfl
theorem d1_0 : decode prog_143_method_1_code 0 = .ok (.aload_n 0, 1) := by decide +kernel
theorem d1_1 : decode prog_143_method_1_code 1 = .ok (.invokespecial 1, 3) := by decide +kernel
theorem d1_4 : decode prog_143_method_1_code 4 = .ok (.return_, 1) := by decide +kernel
theorem pn_1 : plainFor (⟨"com/example/reciprocal/reciprocal/speed/PlainRecord", "<init>", "()V"⟩ : MethodName) = true := by first | exact plainFor_of_name (by simp [plainName, overriddenIn]; done) | exact plainFor_of_name (by decide +kernel) | decide +kernel
theorem pd_1 : parseMethodDescriptor "()V" = some ⟨[], none⟩ := by decide +kernel
theorem ef_1 (m : MethodId) (a1 : Addr) : entryFrame m #[(.ref a1)] 1 = mkF m 0 #[.val (.ref a1)] [] := by first | (simp [entryFrame, mkF, argsToLocals, Value.category]; done) | rfl
def Q_1 (Z : State) (a1 : Addr) (h0 : Heap) (n0 : Nat) (v : Option Value) (h : Heap) (L : List Loc) : Prop := v = none ∧ Fr n0 L ∧ h = h0
set_option maxRecDepth 65536 in
set_option maxHeartbeats 40000000 in
theorem rm_1 (l : Launch) (Z : State) (a0 : Array Value) (hw : ∀ d ∈ tables_1, d.before a0 Z = true) (ws : List Jvm.Cond) (a1 : Addr) (h0 : Heap) (n0 : Nat) (Z0 : n0 ≤ h0.size) :
    MetFree l (⟨"com/example/reciprocal/reciprocal/speed/PlainRecord", "<init>", "()V"⟩ : MethodName) (head1 (Jvm.Cond.code (⟨"com/example/reciprocal/reciprocal/speed/PlainRecord", "<init>", "()V"⟩ : MethodName) prog_143_method_1_code 1 none :: ws) ({ frames := 1, cells := 0, slots := 0, locals := 12 } : Room)) (fun a U => a = #[(.ref a1)] ∧ Z.Warmed39 U.vm ∧ U.heap = h0) (fun _ _ _ _ _ => True) (fun _ U o U' => ∃ v L, o = .returned v ∧ (Q_1 Z a1 h0 n0) v U'.heap L ∧ FrameEnd U o U' L ({ frames := 1, cells := 0, slots := 0, locals := 12 } : Room).cells ({ frames := 1, cells := 0, slots := 0, locals := 12 } : Room).slots) := by
  refine MetFree.of_bodySF pn_1 hisR ?_
  intro p e s m args below meth c s₁ Bd hml0 hP hK
  obtain ⟨rfl, hZ, hh⟩ := hP
  have hx := Bd.exec
  have hby := Bd.bytes
  have hlk : meth.locks = false := BodyLoose.notSynchronized Bd
  have hml : c.maxLocals = 1 := hml0
  have hown : s.vm.findClass "com/example/reciprocal/reciprocal/speed/PlainRecord" = some m.cls := findClass_of_methodNamed Bd.named
  have hnm := (name_of_methodNamed Bd.named Bd.method).1
  have X0 : Stand p l e ({ frames := 1, cells := 0, slots := 0, locals := 12 } : Room) s m #[(.ref a1)] below meth c s₁ [] 0 0 := Stand.of_body Bd
  have e0 : s₁.heap = h0 := by rw [← hh, Bd.state]; rfl
  have N0 := Fr.nil n0
  refine own_enter (Q := (Q_1 Z a1 h0 n0)) (cs := 0) (ss := 0) (ef_1 m a1) ?_
  show Goes p e below s 0 0 (Q_1 Z a1 h0 n0) s₁ (mkF m 0 #[.val (.ref a1)] [])
  refine own_aloadN (pc' := 1) X0 hx (hb hby d1_0) rfl rfl rfl ?_
  obtain ⟨T101, X101, e101, st101⟩ := initO X0 hx hZ hown (hw _ (List.mem_of_getElem? (i := 6) rfl)) (hw _ (List.mem_of_getElem? (i := 7) rfl)) (hw _ (List.mem_of_getElem? (i := 8) rfl)) e0 (g := (mkF m 1 #[.val (.ref a1)] [(.ref a1)])) rfl (by rw [hml]; rfl) rfl (hb hby d1_1) (by decide) (W := 0) (by show 2 * 0 + _ ≤ _; exact Nat.le_of_eq rfl) (by decide)
  refine Goes.pre st101 ?_
  show Goes p e below s 0 0 (Q_1 Z a1 h0 n0) T101 (mkF m 4 #[.val (.ref a1)] [])
  exact own_ret0 X101 hx hlk Bd.returns (hb hby d1_4) (by decide) (by decide) ⟨rfl, N0, e101⟩
theorem d3_0 : decode method_2_code 0 = .ok (.aload_n 0, 1) := by decide +kernel
theorem d3_1 : decode method_2_code 1 = .ok (.lload_n 1, 1) := by decide +kernel
theorem d3_2 : decode method_2_code 2 = .ok (.putfield 7, 3) := by decide +kernel
theorem d3_5 : decode method_2_code 5 = .ok (.aload_n 0, 1) := by decide +kernel
theorem d3_6 : decode method_2_code 6 = .ok (.lload_n 3, 1) := by decide +kernel
theorem d3_7 : decode method_2_code 7 = .ok (.putfield 13, 3) := by decide +kernel
theorem d3_10 : decode method_2_code 10 = .ok (.aload_n 0, 1) := by decide +kernel
theorem d3_11 : decode method_2_code 11 = .ok (.lload 5, 2) := by decide +kernel
theorem d3_13 : decode method_2_code 13 = .ok (.putfield 16, 3) := by decide +kernel
theorem d3_16 : decode method_2_code 16 = .ok (.aload_n 0, 1) := by decide +kernel
theorem d3_17 : decode method_2_code 17 = .ok (.lload 7, 2) := by decide +kernel
theorem d3_19 : decode method_2_code 19 = .ok (.putfield 19, 3) := by decide +kernel
theorem d3_22 : decode method_2_code 22 = .ok (.aload_n 0, 1) := by decide +kernel
theorem d3_23 : decode method_2_code 23 = .ok (.lload_n 1, 1) := by decide +kernel
theorem d3_24 : decode method_2_code 24 = .ok (.lload_n 3, 1) := by decide +kernel
theorem d3_25 : decode method_2_code 25 = .ok (.lxor, 1) := by decide +kernel
theorem d3_26 : decode method_2_code 26 = .ok (.putfield 22, 3) := by decide +kernel
theorem d3_29 : decode method_2_code 29 = .ok (.aload_n 0, 1) := by decide +kernel
theorem d3_30 : decode method_2_code 30 = .ok (.lload 5, 2) := by decide +kernel
theorem d3_32 : decode method_2_code 32 = .ok (.lload 7, 2) := by decide +kernel
theorem d3_34 : decode method_2_code 34 = .ok (.lsub, 1) := by decide +kernel
theorem d3_35 : decode method_2_code 35 = .ok (.putfield 25, 3) := by decide +kernel
theorem d3_38 : decode method_2_code 38 = .ok (.aload_n 0, 1) := by decide +kernel
theorem d3_39 : decode method_2_code 39 = .ok (.lload_n 1, 1) := by decide +kernel
theorem d3_40 : decode method_2_code 40 = .ok (.ldc2_w 28, 3) := by decide +kernel
theorem d3_43 : decode method_2_code 43 = .ok (.lxor, 1) := by decide +kernel
theorem d3_44 : decode method_2_code 44 = .ok (.putfield 30, 3) := by decide +kernel
theorem d3_47 : decode method_2_code 47 = .ok (.aload_n 0, 1) := by decide +kernel
theorem d3_48 : decode method_2_code 48 = .ok (.lload_n 3, 1) := by decide +kernel
theorem d3_49 : decode method_2_code 49 = .ok (.lload 7, 2) := by decide +kernel
theorem d3_51 : decode method_2_code 51 = .ok (.ladd, 1) := by decide +kernel
theorem d3_52 : decode method_2_code 52 = .ok (.putfield 33, 3) := by decide +kernel
theorem d3_55 : decode method_2_code 55 = .ok (.return_, 1) := by decide +kernel
theorem pn_2 : plainFor (⟨"com/example/reciprocal/reciprocal/speed/PlainRecordSumPinLaw", "fill", "(Lcom/example/reciprocal/reciprocal/speed/PlainRecord;JJJJ)V"⟩ : MethodName) = true := by first | exact plainFor_of_name (by simp [plainName, overriddenIn]; done) | exact plainFor_of_name (by decide +kernel) | decide +kernel
theorem pd_2 : parseMethodDescriptor "(Lcom/example/reciprocal/reciprocal/speed/PlainRecord;JJJJ)V" = some ⟨[(.object "com/example/reciprocal/reciprocal/speed/PlainRecord"), .long, .long, .long, .long], none⟩ := by decide +kernel
theorem ef_2 (m : MethodId) (a1 : Addr) (q1 : Int64) (q2 : Int64) (q3 : Int64) (q4 : Int64) (v1 : Int64) (v2 : Int64) (v3 : Int64) (v4 : Int64) (v5 : Int64) (v6 : Int64) (v7 : Int64) (v8 : Int64) : entryFrame m #[(.ref a1), (.long q1), (.long q2), (.long q3), (.long q4)] 9 = mkF m 0 #[.val (.ref a1), .val (.long q1), .second, .val (.long q2), .second, .val (.long q3), .second, .val (.long q4), .second] [] := by first | (simp [entryFrame, mkF, argsToLocals, Value.category]; done) | rfl
def Q_2 (Z : State) (a1 : Addr) (q1 : Int64) (q2 : Int64) (q3 : Int64) (q4 : Int64) (v1 : Int64) (v2 : Int64) (v3 : Int64) (v4 : Int64) (v5 : Int64) (v6 : Int64) (v7 : Int64) (v8 : Int64) (h0 : Heap) (n0 : Nat) (v : Option Value) (h : Heap) (L : List Loc) : Prop := v = none ∧ Fr n0 L ∧ Keep h0 h [a1] ∧ own_Rec Z h a1 q1 q2 q3 q4 (q1 ^^^ q2) (q3 - q4) (q1 ^^^ (-1 : Int64)) (q2 + q4)
set_option maxRecDepth 65536 in
set_option maxHeartbeats 40000000 in
theorem rm_2 (l : Launch) (Z : State) (a0 : Array Value) (hw : ∀ d ∈ tables_1, d.before a0 Z = true) (ws : List Jvm.Cond) (a1 : Addr) (q1 : Int64) (q2 : Int64) (q3 : Int64) (q4 : Int64) (v1 : Int64) (v2 : Int64) (v3 : Int64) (v4 : Int64) (v5 : Int64) (v6 : Int64) (v7 : Int64) (v8 : Int64) (h0 : Heap) (n0 : Nat) (Z0 : n0 ≤ h0.size) (R1 : own_Rec Z h0 a1 v1 v2 v3 v4 v5 v6 v7 v8) (g1 : n0 ≤ a1) :
    MetFree l (⟨"com/example/reciprocal/reciprocal/speed/PlainRecordSumPinLaw", "fill", "(Lcom/example/reciprocal/reciprocal/speed/PlainRecord;JJJJ)V"⟩ : MethodName) (head1 (Jvm.Cond.code (⟨"com/example/reciprocal/reciprocal/speed/PlainRecordSumPinLaw", "fill", "(Lcom/example/reciprocal/reciprocal/speed/PlainRecord;JJJJ)V"⟩ : MethodName) method_2_code 9 none :: ws) ({ frames := 0, cells := 0, slots := 0, locals := 0 } : Room)) (fun a U => a = #[(.ref a1), (.long q1), (.long q2), (.long q3), (.long q4)] ∧ Z.Warmed39 U.vm ∧ U.heap = h0) (fun _ _ _ _ _ => True) (fun _ U o U' => ∃ v L, o = .returned v ∧ (Q_2 Z a1 q1 q2 q3 q4 v1 v2 v3 v4 v5 v6 v7 v8 h0 n0) v U'.heap L ∧ FrameEnd U o U' L ({ frames := 0, cells := 0, slots := 0, locals := 0 } : Room).cells ({ frames := 0, cells := 0, slots := 0, locals := 0 } : Room).slots) := by
  refine MetFree.of_bodySF pn_2 hisR ?_
  intro p e s m args below meth c s₁ Bd hml0 hP hK
  obtain ⟨rfl, hZ, hh⟩ := hP
  have hx := Bd.exec
  have hby := Bd.bytes
  have hlk : meth.locks = false := BodyLoose.notSynchronized Bd
  have hml : c.maxLocals = 9 := hml0
  have hown : s.vm.findClass "com/example/reciprocal/reciprocal/speed/PlainRecordSumPinLaw" = some m.cls := findClass_of_methodNamed Bd.named
  have hnm := (name_of_methodNamed Bd.named Bd.method).1
  have X0 : Stand p l e ({ frames := 0, cells := 0, slots := 0, locals := 0 } : Room) s m #[(.ref a1), (.long q1), (.long q2), (.long q3), (.long q4)] below meth c s₁ [] 0 0 := Stand.of_body Bd
  have e0 : s₁.heap = h0 := by rw [← hh, Bd.state]; rfl
  have N0 := Fr.nil n0
  refine own_enter (Q := (Q_2 Z a1 q1 q2 q3 q4 v1 v2 v3 v4 v5 v6 v7 v8 h0 n0)) (cs := 0) (ss := 0) (ef_2 m a1 q1 q2 q3 q4 v1 v2 v3 v4 v5 v6 v7 v8) ?_
  show Goes p e below s 0 0 (Q_2 Z a1 q1 q2 q3 q4 v1 v2 v3 v4 v5 v6 v7 v8 h0 n0) s₁ (mkF m 0 #[.val (.ref a1), .val (.long q1), .second, .val (.long q2), .second, .val (.long q3), .second, .val (.long q4), .second] [])
  obtain ⟨E1, F1, F2, F3, F4, F5, F6, F7, F8⟩ := R1
  refine own_aloadN (pc' := 1) X0 hx (hb hby d3_0) rfl rfl rfl ?_
  refine own_lloadN (pc' := 2) X0 hx (hb hby d3_1) rfl rfl ?_
  obtain ⟨T102, h102, X102, e102, W102, st102⟩ := putF X0 hx hZ hown (host := "") (Or.inl (hw _ (List.mem_of_getElem? (i := 13) rfl))) Via.refl e0 F1 E1 (Or.inl (hw _ (List.mem_of_getElem? (i := 14) rfl))) (hw _ (List.mem_of_getElem? (i := 1) rfl)) (ty := .long) (by decide) rfl rfl (g := (mkF m 2 #[.val (.ref a1), .val (.long q1), .second, .val (.long q2), .second, .val (.long q3), .second, .val (.long q4), .second] [(.long q1), (.ref a1)])) rfl rfl (hb hby d3_2)
  have N102 := Fr.snoc X102 N0 g1
  refine Goes.pre st102 ?_
  show Goes p e below s 0 0 (Q_2 Z a1 q1 q2 q3 q4 v1 v2 v3 v4 v5 v6 v7 v8 h0 n0) T102 (mkF m 5 #[.val (.ref a1), .val (.long q1), .second, .val (.long q2), .second, .val (.long q3), .second, .val (.long q4), .second] [])
  have F102_a1_f1 := F1.same W102
  have F102_a1_f2 := F2.other W102 (Or.inr (slot_ne (Or.inl (hw _ (List.mem_of_getElem? (i := 16) rfl))) (Or.inl (hw _ (List.mem_of_getElem? (i := 14) rfl))) (by decide) (t := .long) (t' := .long) (by decide) (by decide)))
  have F102_a1_f3 := F3.other W102 (Or.inr (slot_ne (Or.inl (hw _ (List.mem_of_getElem? (i := 18) rfl))) (Or.inl (hw _ (List.mem_of_getElem? (i := 14) rfl))) (by decide) (t := .long) (t' := .long) (by decide) (by decide)))
  have F102_a1_f4 := F4.other W102 (Or.inr (slot_ne (Or.inl (hw _ (List.mem_of_getElem? (i := 20) rfl))) (Or.inl (hw _ (List.mem_of_getElem? (i := 14) rfl))) (by decide) (t := .long) (t' := .long) (by decide) (by decide)))
  have F102_a1_f5 := F5.other W102 (Or.inr (slot_ne (Or.inl (hw _ (List.mem_of_getElem? (i := 22) rfl))) (Or.inl (hw _ (List.mem_of_getElem? (i := 14) rfl))) (by decide) (t := .long) (t' := .long) (by decide) (by decide)))
  have F102_a1_f6 := F6.other W102 (Or.inr (slot_ne (Or.inl (hw _ (List.mem_of_getElem? (i := 24) rfl))) (Or.inl (hw _ (List.mem_of_getElem? (i := 14) rfl))) (by decide) (t := .long) (t' := .long) (by decide) (by decide)))
  have F102_a1_f7 := F7.other W102 (Or.inr (slot_ne (Or.inl (hw _ (List.mem_of_getElem? (i := 27) rfl))) (Or.inl (hw _ (List.mem_of_getElem? (i := 14) rfl))) (by decide) (t := .long) (t' := .long) (by decide) (by decide)))
  have F102_a1_f8 := F8.other W102 (Or.inr (slot_ne (Or.inl (hw _ (List.mem_of_getElem? (i := 29) rfl))) (Or.inl (hw _ (List.mem_of_getElem? (i := 14) rfl))) (by decide) (t := .long) (t' := .long) (by decide) (by decide)))
  have E102_a1 := E1.wr W102
  have K102 := Keep.wr (Keep.refl h0 [a1]) W102 (Or.inl (List.mem_of_getElem? (i := 0) rfl))
  refine own_aloadN (pc' := 6) X102 hx (hb hby d3_5) rfl rfl rfl ?_
  refine own_lloadN (pc' := 7) X102 hx (hb hby d3_6) rfl rfl ?_
  obtain ⟨T103, h103, X103, e103, W103, st103⟩ := putF X102 hx hZ hown (host := "") (Or.inl (hw _ (List.mem_of_getElem? (i := 15) rfl))) Via.refl e102 F102_a1_f2 E102_a1 (Or.inl (hw _ (List.mem_of_getElem? (i := 16) rfl))) (hw _ (List.mem_of_getElem? (i := 1) rfl)) (ty := .long) (by decide) rfl rfl (g := (mkF m 7 #[.val (.ref a1), .val (.long q1), .second, .val (.long q2), .second, .val (.long q3), .second, .val (.long q4), .second] [(.long q2), (.ref a1)])) rfl rfl (hb hby d3_7)
  have N103 := Fr.snoc X103 N102 g1
  refine Goes.pre st103 ?_
  show Goes p e below s 0 0 (Q_2 Z a1 q1 q2 q3 q4 v1 v2 v3 v4 v5 v6 v7 v8 h0 n0) T103 (mkF m 10 #[.val (.ref a1), .val (.long q1), .second, .val (.long q2), .second, .val (.long q3), .second, .val (.long q4), .second] [])
  have F103_a1_f1 := F102_a1_f1.other W103 (Or.inr (slot_ne (Or.inl (hw _ (List.mem_of_getElem? (i := 14) rfl))) (Or.inl (hw _ (List.mem_of_getElem? (i := 16) rfl))) (by decide) (t := .long) (t' := .long) (by decide) (by decide)))
  have F103_a1_f2 := F102_a1_f2.same W103
  have F103_a1_f3 := F102_a1_f3.other W103 (Or.inr (slot_ne (Or.inl (hw _ (List.mem_of_getElem? (i := 18) rfl))) (Or.inl (hw _ (List.mem_of_getElem? (i := 16) rfl))) (by decide) (t := .long) (t' := .long) (by decide) (by decide)))
  have F103_a1_f4 := F102_a1_f4.other W103 (Or.inr (slot_ne (Or.inl (hw _ (List.mem_of_getElem? (i := 20) rfl))) (Or.inl (hw _ (List.mem_of_getElem? (i := 16) rfl))) (by decide) (t := .long) (t' := .long) (by decide) (by decide)))
  have F103_a1_f5 := F102_a1_f5.other W103 (Or.inr (slot_ne (Or.inl (hw _ (List.mem_of_getElem? (i := 22) rfl))) (Or.inl (hw _ (List.mem_of_getElem? (i := 16) rfl))) (by decide) (t := .long) (t' := .long) (by decide) (by decide)))
  have F103_a1_f6 := F102_a1_f6.other W103 (Or.inr (slot_ne (Or.inl (hw _ (List.mem_of_getElem? (i := 24) rfl))) (Or.inl (hw _ (List.mem_of_getElem? (i := 16) rfl))) (by decide) (t := .long) (t' := .long) (by decide) (by decide)))
  have F103_a1_f7 := F102_a1_f7.other W103 (Or.inr (slot_ne (Or.inl (hw _ (List.mem_of_getElem? (i := 27) rfl))) (Or.inl (hw _ (List.mem_of_getElem? (i := 16) rfl))) (by decide) (t := .long) (t' := .long) (by decide) (by decide)))
  have F103_a1_f8 := F102_a1_f8.other W103 (Or.inr (slot_ne (Or.inl (hw _ (List.mem_of_getElem? (i := 29) rfl))) (Or.inl (hw _ (List.mem_of_getElem? (i := 16) rfl))) (by decide) (t := .long) (t' := .long) (by decide) (by decide)))
  have E103_a1 := E102_a1.wr W103
  have K103 := Keep.wr K102 W103 (Or.inl (List.mem_of_getElem? (i := 0) rfl))
  refine own_aloadN (pc' := 11) X103 hx (hb hby d3_10) rfl rfl rfl ?_
  refine own_lload (pc' := 13) X103 hx (hb hby d3_11) rfl rfl ?_
  obtain ⟨T104, h104, X104, e104, W104, st104⟩ := putF X103 hx hZ hown (host := "") (Or.inl (hw _ (List.mem_of_getElem? (i := 17) rfl))) Via.refl e103 F103_a1_f3 E103_a1 (Or.inl (hw _ (List.mem_of_getElem? (i := 18) rfl))) (hw _ (List.mem_of_getElem? (i := 1) rfl)) (ty := .long) (by decide) rfl rfl (g := (mkF m 13 #[.val (.ref a1), .val (.long q1), .second, .val (.long q2), .second, .val (.long q3), .second, .val (.long q4), .second] [(.long q3), (.ref a1)])) rfl rfl (hb hby d3_13)
  have N104 := Fr.snoc X104 N103 g1
  refine Goes.pre st104 ?_
  show Goes p e below s 0 0 (Q_2 Z a1 q1 q2 q3 q4 v1 v2 v3 v4 v5 v6 v7 v8 h0 n0) T104 (mkF m 16 #[.val (.ref a1), .val (.long q1), .second, .val (.long q2), .second, .val (.long q3), .second, .val (.long q4), .second] [])
  have F104_a1_f1 := F103_a1_f1.other W104 (Or.inr (slot_ne (Or.inl (hw _ (List.mem_of_getElem? (i := 14) rfl))) (Or.inl (hw _ (List.mem_of_getElem? (i := 18) rfl))) (by decide) (t := .long) (t' := .long) (by decide) (by decide)))
  have F104_a1_f2 := F103_a1_f2.other W104 (Or.inr (slot_ne (Or.inl (hw _ (List.mem_of_getElem? (i := 16) rfl))) (Or.inl (hw _ (List.mem_of_getElem? (i := 18) rfl))) (by decide) (t := .long) (t' := .long) (by decide) (by decide)))
  have F104_a1_f3 := F103_a1_f3.same W104
  have F104_a1_f4 := F103_a1_f4.other W104 (Or.inr (slot_ne (Or.inl (hw _ (List.mem_of_getElem? (i := 20) rfl))) (Or.inl (hw _ (List.mem_of_getElem? (i := 18) rfl))) (by decide) (t := .long) (t' := .long) (by decide) (by decide)))
  have F104_a1_f5 := F103_a1_f5.other W104 (Or.inr (slot_ne (Or.inl (hw _ (List.mem_of_getElem? (i := 22) rfl))) (Or.inl (hw _ (List.mem_of_getElem? (i := 18) rfl))) (by decide) (t := .long) (t' := .long) (by decide) (by decide)))
  have F104_a1_f6 := F103_a1_f6.other W104 (Or.inr (slot_ne (Or.inl (hw _ (List.mem_of_getElem? (i := 24) rfl))) (Or.inl (hw _ (List.mem_of_getElem? (i := 18) rfl))) (by decide) (t := .long) (t' := .long) (by decide) (by decide)))
  have F104_a1_f7 := F103_a1_f7.other W104 (Or.inr (slot_ne (Or.inl (hw _ (List.mem_of_getElem? (i := 27) rfl))) (Or.inl (hw _ (List.mem_of_getElem? (i := 18) rfl))) (by decide) (t := .long) (t' := .long) (by decide) (by decide)))
  have F104_a1_f8 := F103_a1_f8.other W104 (Or.inr (slot_ne (Or.inl (hw _ (List.mem_of_getElem? (i := 29) rfl))) (Or.inl (hw _ (List.mem_of_getElem? (i := 18) rfl))) (by decide) (t := .long) (t' := .long) (by decide) (by decide)))
  have E104_a1 := E103_a1.wr W104
  have K104 := Keep.wr K103 W104 (Or.inl (List.mem_of_getElem? (i := 0) rfl))
  refine own_aloadN (pc' := 17) X104 hx (hb hby d3_16) rfl rfl rfl ?_
  refine own_lload (pc' := 19) X104 hx (hb hby d3_17) rfl rfl ?_
  obtain ⟨T105, h105, X105, e105, W105, st105⟩ := putF X104 hx hZ hown (host := "") (Or.inl (hw _ (List.mem_of_getElem? (i := 19) rfl))) Via.refl e104 F104_a1_f4 E104_a1 (Or.inl (hw _ (List.mem_of_getElem? (i := 20) rfl))) (hw _ (List.mem_of_getElem? (i := 1) rfl)) (ty := .long) (by decide) rfl rfl (g := (mkF m 19 #[.val (.ref a1), .val (.long q1), .second, .val (.long q2), .second, .val (.long q3), .second, .val (.long q4), .second] [(.long q4), (.ref a1)])) rfl rfl (hb hby d3_19)
  have N105 := Fr.snoc X105 N104 g1
  refine Goes.pre st105 ?_
  show Goes p e below s 0 0 (Q_2 Z a1 q1 q2 q3 q4 v1 v2 v3 v4 v5 v6 v7 v8 h0 n0) T105 (mkF m 22 #[.val (.ref a1), .val (.long q1), .second, .val (.long q2), .second, .val (.long q3), .second, .val (.long q4), .second] [])
  have F105_a1_f1 := F104_a1_f1.other W105 (Or.inr (slot_ne (Or.inl (hw _ (List.mem_of_getElem? (i := 14) rfl))) (Or.inl (hw _ (List.mem_of_getElem? (i := 20) rfl))) (by decide) (t := .long) (t' := .long) (by decide) (by decide)))
  have F105_a1_f2 := F104_a1_f2.other W105 (Or.inr (slot_ne (Or.inl (hw _ (List.mem_of_getElem? (i := 16) rfl))) (Or.inl (hw _ (List.mem_of_getElem? (i := 20) rfl))) (by decide) (t := .long) (t' := .long) (by decide) (by decide)))
  have F105_a1_f3 := F104_a1_f3.other W105 (Or.inr (slot_ne (Or.inl (hw _ (List.mem_of_getElem? (i := 18) rfl))) (Or.inl (hw _ (List.mem_of_getElem? (i := 20) rfl))) (by decide) (t := .long) (t' := .long) (by decide) (by decide)))
  have F105_a1_f4 := F104_a1_f4.same W105
  have F105_a1_f5 := F104_a1_f5.other W105 (Or.inr (slot_ne (Or.inl (hw _ (List.mem_of_getElem? (i := 22) rfl))) (Or.inl (hw _ (List.mem_of_getElem? (i := 20) rfl))) (by decide) (t := .long) (t' := .long) (by decide) (by decide)))
  have F105_a1_f6 := F104_a1_f6.other W105 (Or.inr (slot_ne (Or.inl (hw _ (List.mem_of_getElem? (i := 24) rfl))) (Or.inl (hw _ (List.mem_of_getElem? (i := 20) rfl))) (by decide) (t := .long) (t' := .long) (by decide) (by decide)))
  have F105_a1_f7 := F104_a1_f7.other W105 (Or.inr (slot_ne (Or.inl (hw _ (List.mem_of_getElem? (i := 27) rfl))) (Or.inl (hw _ (List.mem_of_getElem? (i := 20) rfl))) (by decide) (t := .long) (t' := .long) (by decide) (by decide)))
  have F105_a1_f8 := F104_a1_f8.other W105 (Or.inr (slot_ne (Or.inl (hw _ (List.mem_of_getElem? (i := 29) rfl))) (Or.inl (hw _ (List.mem_of_getElem? (i := 20) rfl))) (by decide) (t := .long) (t' := .long) (by decide) (by decide)))
  have E105_a1 := E104_a1.wr W105
  have K105 := Keep.wr K104 W105 (Or.inl (List.mem_of_getElem? (i := 0) rfl))
  refine own_aloadN (pc' := 23) X105 hx (hb hby d3_22) rfl rfl rfl ?_
  refine own_lloadN (pc' := 24) X105 hx (hb hby d3_23) rfl rfl ?_
  refine own_lloadN (pc' := 25) X105 hx (hb hby d3_24) rfl rfl ?_
  refine own_lxor (pc' := 26) X105 hx (hb hby d3_25) rfl ?_
  obtain ⟨T106, h106, X106, e106, W106, st106⟩ := putF X105 hx hZ hown (host := "") (Or.inl (hw _ (List.mem_of_getElem? (i := 21) rfl))) Via.refl e105 F105_a1_f5 E105_a1 (Or.inl (hw _ (List.mem_of_getElem? (i := 22) rfl))) (hw _ (List.mem_of_getElem? (i := 1) rfl)) (ty := .long) (by decide) rfl rfl (g := (mkF m 26 #[.val (.ref a1), .val (.long q1), .second, .val (.long q2), .second, .val (.long q3), .second, .val (.long q4), .second] [(.long (q1 ^^^ q2)), (.ref a1)])) rfl rfl (hb hby d3_26)
  have N106 := Fr.snoc X106 N105 g1
  refine Goes.pre st106 ?_
  show Goes p e below s 0 0 (Q_2 Z a1 q1 q2 q3 q4 v1 v2 v3 v4 v5 v6 v7 v8 h0 n0) T106 (mkF m 29 #[.val (.ref a1), .val (.long q1), .second, .val (.long q2), .second, .val (.long q3), .second, .val (.long q4), .second] [])
  have F106_a1_f1 := F105_a1_f1.other W106 (Or.inr (slot_ne (Or.inl (hw _ (List.mem_of_getElem? (i := 14) rfl))) (Or.inl (hw _ (List.mem_of_getElem? (i := 22) rfl))) (by decide) (t := .long) (t' := .long) (by decide) (by decide)))
  have F106_a1_f2 := F105_a1_f2.other W106 (Or.inr (slot_ne (Or.inl (hw _ (List.mem_of_getElem? (i := 16) rfl))) (Or.inl (hw _ (List.mem_of_getElem? (i := 22) rfl))) (by decide) (t := .long) (t' := .long) (by decide) (by decide)))
  have F106_a1_f3 := F105_a1_f3.other W106 (Or.inr (slot_ne (Or.inl (hw _ (List.mem_of_getElem? (i := 18) rfl))) (Or.inl (hw _ (List.mem_of_getElem? (i := 22) rfl))) (by decide) (t := .long) (t' := .long) (by decide) (by decide)))
  have F106_a1_f4 := F105_a1_f4.other W106 (Or.inr (slot_ne (Or.inl (hw _ (List.mem_of_getElem? (i := 20) rfl))) (Or.inl (hw _ (List.mem_of_getElem? (i := 22) rfl))) (by decide) (t := .long) (t' := .long) (by decide) (by decide)))
  have F106_a1_f5 := F105_a1_f5.same W106
  have F106_a1_f6 := F105_a1_f6.other W106 (Or.inr (slot_ne (Or.inl (hw _ (List.mem_of_getElem? (i := 24) rfl))) (Or.inl (hw _ (List.mem_of_getElem? (i := 22) rfl))) (by decide) (t := .long) (t' := .long) (by decide) (by decide)))
  have F106_a1_f7 := F105_a1_f7.other W106 (Or.inr (slot_ne (Or.inl (hw _ (List.mem_of_getElem? (i := 27) rfl))) (Or.inl (hw _ (List.mem_of_getElem? (i := 22) rfl))) (by decide) (t := .long) (t' := .long) (by decide) (by decide)))
  have F106_a1_f8 := F105_a1_f8.other W106 (Or.inr (slot_ne (Or.inl (hw _ (List.mem_of_getElem? (i := 29) rfl))) (Or.inl (hw _ (List.mem_of_getElem? (i := 22) rfl))) (by decide) (t := .long) (t' := .long) (by decide) (by decide)))
  have E106_a1 := E105_a1.wr W106
  have K106 := Keep.wr K105 W106 (Or.inl (List.mem_of_getElem? (i := 0) rfl))
  refine own_aloadN (pc' := 30) X106 hx (hb hby d3_29) rfl rfl rfl ?_
  refine own_lload (pc' := 32) X106 hx (hb hby d3_30) rfl rfl ?_
  refine own_lload (pc' := 34) X106 hx (hb hby d3_32) rfl rfl ?_
  refine own_lsub (pc' := 35) X106 hx (hb hby d3_34) rfl ?_
  obtain ⟨T107, h107, X107, e107, W107, st107⟩ := putF X106 hx hZ hown (host := "") (Or.inl (hw _ (List.mem_of_getElem? (i := 23) rfl))) Via.refl e106 F106_a1_f6 E106_a1 (Or.inl (hw _ (List.mem_of_getElem? (i := 24) rfl))) (hw _ (List.mem_of_getElem? (i := 1) rfl)) (ty := .long) (by decide) rfl rfl (g := (mkF m 35 #[.val (.ref a1), .val (.long q1), .second, .val (.long q2), .second, .val (.long q3), .second, .val (.long q4), .second] [(.long (q3 - q4)), (.ref a1)])) rfl rfl (hb hby d3_35)
  have N107 := Fr.snoc X107 N106 g1
  refine Goes.pre st107 ?_
  show Goes p e below s 0 0 (Q_2 Z a1 q1 q2 q3 q4 v1 v2 v3 v4 v5 v6 v7 v8 h0 n0) T107 (mkF m 38 #[.val (.ref a1), .val (.long q1), .second, .val (.long q2), .second, .val (.long q3), .second, .val (.long q4), .second] [])
  have F107_a1_f1 := F106_a1_f1.other W107 (Or.inr (slot_ne (Or.inl (hw _ (List.mem_of_getElem? (i := 14) rfl))) (Or.inl (hw _ (List.mem_of_getElem? (i := 24) rfl))) (by decide) (t := .long) (t' := .long) (by decide) (by decide)))
  have F107_a1_f2 := F106_a1_f2.other W107 (Or.inr (slot_ne (Or.inl (hw _ (List.mem_of_getElem? (i := 16) rfl))) (Or.inl (hw _ (List.mem_of_getElem? (i := 24) rfl))) (by decide) (t := .long) (t' := .long) (by decide) (by decide)))
  have F107_a1_f3 := F106_a1_f3.other W107 (Or.inr (slot_ne (Or.inl (hw _ (List.mem_of_getElem? (i := 18) rfl))) (Or.inl (hw _ (List.mem_of_getElem? (i := 24) rfl))) (by decide) (t := .long) (t' := .long) (by decide) (by decide)))
  have F107_a1_f4 := F106_a1_f4.other W107 (Or.inr (slot_ne (Or.inl (hw _ (List.mem_of_getElem? (i := 20) rfl))) (Or.inl (hw _ (List.mem_of_getElem? (i := 24) rfl))) (by decide) (t := .long) (t' := .long) (by decide) (by decide)))
  have F107_a1_f5 := F106_a1_f5.other W107 (Or.inr (slot_ne (Or.inl (hw _ (List.mem_of_getElem? (i := 22) rfl))) (Or.inl (hw _ (List.mem_of_getElem? (i := 24) rfl))) (by decide) (t := .long) (t' := .long) (by decide) (by decide)))
  have F107_a1_f6 := F106_a1_f6.same W107
  have F107_a1_f7 := F106_a1_f7.other W107 (Or.inr (slot_ne (Or.inl (hw _ (List.mem_of_getElem? (i := 27) rfl))) (Or.inl (hw _ (List.mem_of_getElem? (i := 24) rfl))) (by decide) (t := .long) (t' := .long) (by decide) (by decide)))
  have F107_a1_f8 := F106_a1_f8.other W107 (Or.inr (slot_ne (Or.inl (hw _ (List.mem_of_getElem? (i := 29) rfl))) (Or.inl (hw _ (List.mem_of_getElem? (i := 24) rfl))) (by decide) (t := .long) (t' := .long) (by decide) (by decide)))
  have E107_a1 := E106_a1.wr W107
  have K107 := Keep.wr K106 W107 (Or.inl (List.mem_of_getElem? (i := 0) rfl))
  refine own_aloadN (pc' := 39) X107 hx (hb hby d3_38) rfl rfl rfl ?_
  refine own_lloadN (pc' := 40) X107 hx (hb hby d3_39) rfl rfl ?_
  refine own_ldc2 (pc' := 43) X107 hx hown (mvT hZ (hw _ (List.mem_of_getElem? (i := 25) rfl))) (hb hby d3_40) rfl ?_
  refine own_lxor (pc' := 44) X107 hx (hb hby d3_43) rfl ?_
  obtain ⟨T108, h108, X108, e108, W108, st108⟩ := putF X107 hx hZ hown (host := "") (Or.inl (hw _ (List.mem_of_getElem? (i := 26) rfl))) Via.refl e107 F107_a1_f7 E107_a1 (Or.inl (hw _ (List.mem_of_getElem? (i := 27) rfl))) (hw _ (List.mem_of_getElem? (i := 1) rfl)) (ty := .long) (by decide) rfl rfl (g := (mkF m 44 #[.val (.ref a1), .val (.long q1), .second, .val (.long q2), .second, .val (.long q3), .second, .val (.long q4), .second] [(.long (q1 ^^^ (-1 : Int64))), (.ref a1)])) rfl rfl (hb hby d3_44)
  have N108 := Fr.snoc X108 N107 g1
  refine Goes.pre st108 ?_
  show Goes p e below s 0 0 (Q_2 Z a1 q1 q2 q3 q4 v1 v2 v3 v4 v5 v6 v7 v8 h0 n0) T108 (mkF m 47 #[.val (.ref a1), .val (.long q1), .second, .val (.long q2), .second, .val (.long q3), .second, .val (.long q4), .second] [])
  have F108_a1_f1 := F107_a1_f1.other W108 (Or.inr (slot_ne (Or.inl (hw _ (List.mem_of_getElem? (i := 14) rfl))) (Or.inl (hw _ (List.mem_of_getElem? (i := 27) rfl))) (by decide) (t := .long) (t' := .long) (by decide) (by decide)))
  have F108_a1_f2 := F107_a1_f2.other W108 (Or.inr (slot_ne (Or.inl (hw _ (List.mem_of_getElem? (i := 16) rfl))) (Or.inl (hw _ (List.mem_of_getElem? (i := 27) rfl))) (by decide) (t := .long) (t' := .long) (by decide) (by decide)))
  have F108_a1_f3 := F107_a1_f3.other W108 (Or.inr (slot_ne (Or.inl (hw _ (List.mem_of_getElem? (i := 18) rfl))) (Or.inl (hw _ (List.mem_of_getElem? (i := 27) rfl))) (by decide) (t := .long) (t' := .long) (by decide) (by decide)))
  have F108_a1_f4 := F107_a1_f4.other W108 (Or.inr (slot_ne (Or.inl (hw _ (List.mem_of_getElem? (i := 20) rfl))) (Or.inl (hw _ (List.mem_of_getElem? (i := 27) rfl))) (by decide) (t := .long) (t' := .long) (by decide) (by decide)))
  have F108_a1_f5 := F107_a1_f5.other W108 (Or.inr (slot_ne (Or.inl (hw _ (List.mem_of_getElem? (i := 22) rfl))) (Or.inl (hw _ (List.mem_of_getElem? (i := 27) rfl))) (by decide) (t := .long) (t' := .long) (by decide) (by decide)))
  have F108_a1_f6 := F107_a1_f6.other W108 (Or.inr (slot_ne (Or.inl (hw _ (List.mem_of_getElem? (i := 24) rfl))) (Or.inl (hw _ (List.mem_of_getElem? (i := 27) rfl))) (by decide) (t := .long) (t' := .long) (by decide) (by decide)))
  have F108_a1_f7 := F107_a1_f7.same W108
  have F108_a1_f8 := F107_a1_f8.other W108 (Or.inr (slot_ne (Or.inl (hw _ (List.mem_of_getElem? (i := 29) rfl))) (Or.inl (hw _ (List.mem_of_getElem? (i := 27) rfl))) (by decide) (t := .long) (t' := .long) (by decide) (by decide)))
  have E108_a1 := E107_a1.wr W108
  have K108 := Keep.wr K107 W108 (Or.inl (List.mem_of_getElem? (i := 0) rfl))
  refine own_aloadN (pc' := 48) X108 hx (hb hby d3_47) rfl rfl rfl ?_
  refine own_lloadN (pc' := 49) X108 hx (hb hby d3_48) rfl rfl ?_
  refine own_lload (pc' := 51) X108 hx (hb hby d3_49) rfl rfl ?_
  refine own_ladd (pc' := 52) X108 hx (hb hby d3_51) rfl ?_
  obtain ⟨T109, h109, X109, e109, W109, st109⟩ := putF X108 hx hZ hown (host := "") (Or.inl (hw _ (List.mem_of_getElem? (i := 28) rfl))) Via.refl e108 F108_a1_f8 E108_a1 (Or.inl (hw _ (List.mem_of_getElem? (i := 29) rfl))) (hw _ (List.mem_of_getElem? (i := 1) rfl)) (ty := .long) (by decide) rfl rfl (g := (mkF m 52 #[.val (.ref a1), .val (.long q1), .second, .val (.long q2), .second, .val (.long q3), .second, .val (.long q4), .second] [(.long (q2 + q4)), (.ref a1)])) rfl rfl (hb hby d3_52)
  have N109 := Fr.snoc X109 N108 g1
  refine Goes.pre st109 ?_
  show Goes p e below s 0 0 (Q_2 Z a1 q1 q2 q3 q4 v1 v2 v3 v4 v5 v6 v7 v8 h0 n0) T109 (mkF m 55 #[.val (.ref a1), .val (.long q1), .second, .val (.long q2), .second, .val (.long q3), .second, .val (.long q4), .second] [])
  have F109_a1_f1 := F108_a1_f1.other W109 (Or.inr (slot_ne (Or.inl (hw _ (List.mem_of_getElem? (i := 14) rfl))) (Or.inl (hw _ (List.mem_of_getElem? (i := 29) rfl))) (by decide) (t := .long) (t' := .long) (by decide) (by decide)))
  have F109_a1_f2 := F108_a1_f2.other W109 (Or.inr (slot_ne (Or.inl (hw _ (List.mem_of_getElem? (i := 16) rfl))) (Or.inl (hw _ (List.mem_of_getElem? (i := 29) rfl))) (by decide) (t := .long) (t' := .long) (by decide) (by decide)))
  have F109_a1_f3 := F108_a1_f3.other W109 (Or.inr (slot_ne (Or.inl (hw _ (List.mem_of_getElem? (i := 18) rfl))) (Or.inl (hw _ (List.mem_of_getElem? (i := 29) rfl))) (by decide) (t := .long) (t' := .long) (by decide) (by decide)))
  have F109_a1_f4 := F108_a1_f4.other W109 (Or.inr (slot_ne (Or.inl (hw _ (List.mem_of_getElem? (i := 20) rfl))) (Or.inl (hw _ (List.mem_of_getElem? (i := 29) rfl))) (by decide) (t := .long) (t' := .long) (by decide) (by decide)))
  have F109_a1_f5 := F108_a1_f5.other W109 (Or.inr (slot_ne (Or.inl (hw _ (List.mem_of_getElem? (i := 22) rfl))) (Or.inl (hw _ (List.mem_of_getElem? (i := 29) rfl))) (by decide) (t := .long) (t' := .long) (by decide) (by decide)))
  have F109_a1_f6 := F108_a1_f6.other W109 (Or.inr (slot_ne (Or.inl (hw _ (List.mem_of_getElem? (i := 24) rfl))) (Or.inl (hw _ (List.mem_of_getElem? (i := 29) rfl))) (by decide) (t := .long) (t' := .long) (by decide) (by decide)))
  have F109_a1_f7 := F108_a1_f7.other W109 (Or.inr (slot_ne (Or.inl (hw _ (List.mem_of_getElem? (i := 27) rfl))) (Or.inl (hw _ (List.mem_of_getElem? (i := 29) rfl))) (by decide) (t := .long) (t' := .long) (by decide) (by decide)))
  have F109_a1_f8 := F108_a1_f8.same W109
  have E109_a1 := E108_a1.wr W109
  have K109 := Keep.wr K108 W109 (Or.inl (List.mem_of_getElem? (i := 0) rfl))
  exact own_ret0 X109 hx hlk Bd.returns (hb hby d3_55) (by decide) (by decide) (by rw [e109]; exact ⟨rfl, N109, K109, ⟨E109_a1, F109_a1_f1, F109_a1_f2, F109_a1_f3, F109_a1_f4, F109_a1_f5, F109_a1_f6, F109_a1_f7, F109_a1_f8⟩⟩)
theorem d4_0 : decode method_3_code 0 = .ok (.iload_n 1, 1) := by decide +kernel
theorem d4_1 : decode method_3_code 1 = .ok (.ifCond .ne 16, 3) := by decide +kernel
theorem d4_4 : decode method_3_code 4 = .ok (.aload_n 0, 1) := by decide +kernel
theorem d4_5 : decode method_3_code 5 = .ok (.aload_n 0, 1) := by decide +kernel
theorem d4_6 : decode method_3_code 6 = .ok (.getfield 7, 3) := by decide +kernel
theorem d4_9 : decode method_3_code 9 = .ok (.lload_n 2, 1) := by decide +kernel
theorem d4_10 : decode method_3_code 10 = .ok (.ladd, 1) := by decide +kernel
theorem d4_11 : decode method_3_code 11 = .ok (.putfield 7, 3) := by decide +kernel
theorem d4_14 : decode method_3_code 14 = .ok (.goto 122, 3) := by decide +kernel
theorem d4_17 : decode method_3_code 17 = .ok (.iload_n 1, 1) := by decide +kernel
theorem d4_18 : decode method_3_code 18 = .ok (.iconst 1, 1) := by decide +kernel
theorem d4_19 : decode method_3_code 19 = .ok (.if_icmp .ne 16, 3) := by decide +kernel
theorem d4_22 : decode method_3_code 22 = .ok (.aload_n 0, 1) := by decide +kernel
theorem d4_23 : decode method_3_code 23 = .ok (.aload_n 0, 1) := by decide +kernel
theorem d4_24 : decode method_3_code 24 = .ok (.getfield 13, 3) := by decide +kernel
theorem d4_27 : decode method_3_code 27 = .ok (.lload_n 2, 1) := by decide +kernel
theorem d4_28 : decode method_3_code 28 = .ok (.ladd, 1) := by decide +kernel
theorem d4_29 : decode method_3_code 29 = .ok (.putfield 13, 3) := by decide +kernel
theorem d4_32 : decode method_3_code 32 = .ok (.goto 104, 3) := by decide +kernel
theorem d4_35 : decode method_3_code 35 = .ok (.iload_n 1, 1) := by decide +kernel
theorem d4_36 : decode method_3_code 36 = .ok (.iconst 2, 1) := by decide +kernel
theorem d4_37 : decode method_3_code 37 = .ok (.if_icmp .ne 16, 3) := by decide +kernel
theorem d4_40 : decode method_3_code 40 = .ok (.aload_n 0, 1) := by decide +kernel
theorem d4_41 : decode method_3_code 41 = .ok (.aload_n 0, 1) := by decide +kernel
theorem d4_42 : decode method_3_code 42 = .ok (.getfield 16, 3) := by decide +kernel
theorem d4_45 : decode method_3_code 45 = .ok (.lload_n 2, 1) := by decide +kernel
theorem d4_46 : decode method_3_code 46 = .ok (.ladd, 1) := by decide +kernel
theorem d4_47 : decode method_3_code 47 = .ok (.putfield 16, 3) := by decide +kernel
theorem d4_50 : decode method_3_code 50 = .ok (.goto 86, 3) := by decide +kernel
theorem d4_53 : decode method_3_code 53 = .ok (.iload_n 1, 1) := by decide +kernel
theorem d4_54 : decode method_3_code 54 = .ok (.iconst 3, 1) := by decide +kernel
theorem d4_55 : decode method_3_code 55 = .ok (.if_icmp .ne 16, 3) := by decide +kernel
theorem d4_58 : decode method_3_code 58 = .ok (.aload_n 0, 1) := by decide +kernel
theorem d4_59 : decode method_3_code 59 = .ok (.aload_n 0, 1) := by decide +kernel
theorem d4_60 : decode method_3_code 60 = .ok (.getfield 19, 3) := by decide +kernel
theorem d4_63 : decode method_3_code 63 = .ok (.lload_n 2, 1) := by decide +kernel
theorem d4_64 : decode method_3_code 64 = .ok (.ladd, 1) := by decide +kernel
theorem d4_65 : decode method_3_code 65 = .ok (.putfield 19, 3) := by decide +kernel
theorem d4_68 : decode method_3_code 68 = .ok (.goto 68, 3) := by decide +kernel
theorem d4_71 : decode method_3_code 71 = .ok (.iload_n 1, 1) := by decide +kernel
theorem d4_72 : decode method_3_code 72 = .ok (.iconst 4, 1) := by decide +kernel
theorem d4_73 : decode method_3_code 73 = .ok (.if_icmp .ne 16, 3) := by decide +kernel
theorem d4_76 : decode method_3_code 76 = .ok (.aload_n 0, 1) := by decide +kernel
theorem d4_77 : decode method_3_code 77 = .ok (.aload_n 0, 1) := by decide +kernel
theorem d4_78 : decode method_3_code 78 = .ok (.getfield 22, 3) := by decide +kernel
theorem d4_81 : decode method_3_code 81 = .ok (.lload_n 2, 1) := by decide +kernel
theorem d4_82 : decode method_3_code 82 = .ok (.ladd, 1) := by decide +kernel
theorem d4_83 : decode method_3_code 83 = .ok (.putfield 22, 3) := by decide +kernel
theorem d4_86 : decode method_3_code 86 = .ok (.goto 50, 3) := by decide +kernel
theorem d4_89 : decode method_3_code 89 = .ok (.iload_n 1, 1) := by decide +kernel
theorem d4_90 : decode method_3_code 90 = .ok (.iconst 5, 1) := by decide +kernel
theorem d4_91 : decode method_3_code 91 = .ok (.if_icmp .ne 16, 3) := by decide +kernel
theorem d4_94 : decode method_3_code 94 = .ok (.aload_n 0, 1) := by decide +kernel
theorem d4_95 : decode method_3_code 95 = .ok (.aload_n 0, 1) := by decide +kernel
theorem d4_96 : decode method_3_code 96 = .ok (.getfield 25, 3) := by decide +kernel
theorem d4_99 : decode method_3_code 99 = .ok (.lload_n 2, 1) := by decide +kernel
theorem d4_100 : decode method_3_code 100 = .ok (.ladd, 1) := by decide +kernel
theorem d4_101 : decode method_3_code 101 = .ok (.putfield 25, 3) := by decide +kernel
theorem d4_104 : decode method_3_code 104 = .ok (.goto 32, 3) := by decide +kernel
theorem d4_107 : decode method_3_code 107 = .ok (.iload_n 1, 1) := by decide +kernel
theorem d4_108 : decode method_3_code 108 = .ok (.bipush 6, 2) := by decide +kernel
theorem d4_110 : decode method_3_code 110 = .ok (.if_icmp .ne 16, 3) := by decide +kernel
theorem d4_113 : decode method_3_code 113 = .ok (.aload_n 0, 1) := by decide +kernel
theorem d4_114 : decode method_3_code 114 = .ok (.aload_n 0, 1) := by decide +kernel
theorem d4_115 : decode method_3_code 115 = .ok (.getfield 30, 3) := by decide +kernel
theorem d4_118 : decode method_3_code 118 = .ok (.lload_n 2, 1) := by decide +kernel
theorem d4_119 : decode method_3_code 119 = .ok (.ladd, 1) := by decide +kernel
theorem d4_120 : decode method_3_code 120 = .ok (.putfield 30, 3) := by decide +kernel
theorem d4_123 : decode method_3_code 123 = .ok (.goto 13, 3) := by decide +kernel
theorem d4_126 : decode method_3_code 126 = .ok (.aload_n 0, 1) := by decide +kernel
theorem d4_127 : decode method_3_code 127 = .ok (.aload_n 0, 1) := by decide +kernel
theorem d4_128 : decode method_3_code 128 = .ok (.getfield 33, 3) := by decide +kernel
theorem d4_131 : decode method_3_code 131 = .ok (.lload_n 2, 1) := by decide +kernel
theorem d4_132 : decode method_3_code 132 = .ok (.ladd, 1) := by decide +kernel
theorem d4_133 : decode method_3_code 133 = .ok (.putfield 33, 3) := by decide +kernel
theorem d4_136 : decode method_3_code 136 = .ok (.return_, 1) := by decide +kernel
theorem pn_3 : plainFor (⟨"com/example/reciprocal/reciprocal/speed/PlainRecordSumPinLaw", "bump", "(Lcom/example/reciprocal/reciprocal/speed/PlainRecord;IJ)V"⟩ : MethodName) = true := by first | exact plainFor_of_name (by simp [plainName, overriddenIn]; done) | exact plainFor_of_name (by decide +kernel) | decide +kernel
theorem pd_3 : parseMethodDescriptor "(Lcom/example/reciprocal/reciprocal/speed/PlainRecord;IJ)V" = some ⟨[(.object "com/example/reciprocal/reciprocal/speed/PlainRecord"), .int, .long], none⟩ := by decide +kernel
theorem ef_3 (m : MethodId) (a1 : Addr) (k : Int32) (x : Int64) (v1 : Int64) (v2 : Int64) (v3 : Int64) (v4 : Int64) (v5 : Int64) (v6 : Int64) (v7 : Int64) (v8 : Int64) : entryFrame m #[(.ref a1), (.int k), (.long x)] 4 = mkF m 0 #[.val (.ref a1), .val (.int k), .val (.long x), .second] [] := by first | (simp [entryFrame, mkF, argsToLocals, Value.category]; done) | rfl
def Q_3 (Z : State) (a1 : Addr) (k : Int32) (x : Int64) (v1 : Int64) (v2 : Int64) (v3 : Int64) (v4 : Int64) (v5 : Int64) (v6 : Int64) (v7 : Int64) (v8 : Int64) (h0 : Heap) (n0 : Nat) (v : Option Value) (h : Heap) (L : List Loc) : Prop := v = none ∧ Fr n0 L ∧ Keep h0 h [a1] ∧ ∃ u1 u2 u3 u4 u5 u6 u7 u8 : Int64, own_Rec Z h a1 u1 u2 u3 u4 u5 u6 u7 u8 ∧ own_sum u1 u2 u3 u4 u5 u6 u7 u8 = own_sum v1 v2 v3 v4 v5 v6 v7 v8 + x
set_option maxRecDepth 65536 in
set_option maxHeartbeats 40000000 in
theorem rm_3 (l : Launch) (Z : State) (a0 : Array Value) (hw : ∀ d ∈ tables_1, d.before a0 Z = true) (ws : List Jvm.Cond) (a1 : Addr) (k : Int32) (x : Int64) (v1 : Int64) (v2 : Int64) (v3 : Int64) (v4 : Int64) (v5 : Int64) (v6 : Int64) (v7 : Int64) (v8 : Int64) (h0 : Heap) (n0 : Nat) (Z0 : n0 ≤ h0.size) (R1 : own_Rec Z h0 a1 v1 v2 v3 v4 v5 v6 v7 v8) (g1 : n0 ≤ a1) :
    MetFree l (⟨"com/example/reciprocal/reciprocal/speed/PlainRecordSumPinLaw", "bump", "(Lcom/example/reciprocal/reciprocal/speed/PlainRecord;IJ)V"⟩ : MethodName) (head1 (Jvm.Cond.code (⟨"com/example/reciprocal/reciprocal/speed/PlainRecordSumPinLaw", "bump", "(Lcom/example/reciprocal/reciprocal/speed/PlainRecord;IJ)V"⟩ : MethodName) method_3_code 4 none :: ws) ({ frames := 0, cells := 0, slots := 0, locals := 0 } : Room)) (fun a U => a = #[(.ref a1), (.int k), (.long x)] ∧ Z.Warmed39 U.vm ∧ U.heap = h0) (fun _ _ _ _ _ => True) (fun _ U o U' => ∃ v L, o = .returned v ∧ (Q_3 Z a1 k x v1 v2 v3 v4 v5 v6 v7 v8 h0 n0) v U'.heap L ∧ FrameEnd U o U' L ({ frames := 0, cells := 0, slots := 0, locals := 0 } : Room).cells ({ frames := 0, cells := 0, slots := 0, locals := 0 } : Room).slots) := by
  refine MetFree.of_bodySF pn_3 hisR ?_
  intro p e s m args below meth c s₁ Bd hml0 hP hK
  obtain ⟨rfl, hZ, hh⟩ := hP
  have hx := Bd.exec
  have hby := Bd.bytes
  have hlk : meth.locks = false := BodyLoose.notSynchronized Bd
  have hml : c.maxLocals = 4 := hml0
  have hown : s.vm.findClass "com/example/reciprocal/reciprocal/speed/PlainRecordSumPinLaw" = some m.cls := findClass_of_methodNamed Bd.named
  have hnm := (name_of_methodNamed Bd.named Bd.method).1
  have X0 : Stand p l e ({ frames := 0, cells := 0, slots := 0, locals := 0 } : Room) s m #[(.ref a1), (.int k), (.long x)] below meth c s₁ [] 0 0 := Stand.of_body Bd
  have e0 : s₁.heap = h0 := by rw [← hh, Bd.state]; rfl
  have N0 := Fr.nil n0
  refine own_enter (Q := (Q_3 Z a1 k x v1 v2 v3 v4 v5 v6 v7 v8 h0 n0)) (cs := 0) (ss := 0) (ef_3 m a1 k x v1 v2 v3 v4 v5 v6 v7 v8) ?_
  show Goes p e below s 0 0 (Q_3 Z a1 k x v1 v2 v3 v4 v5 v6 v7 v8 h0 n0) s₁ (mkF m 0 #[.val (.ref a1), .val (.int k), .val (.long x), .second] [])
  obtain ⟨E1, F1, F2, F3, F4, F5, F6, F7, F8⟩ := R1
  refine own_iloadN (pc' := 1) X0 hx (hb hby d4_0) rfl rfl ?_
  by_cases hc1 : k = (0 : Int32)
  · refine own_ifN (pc' := 4) X0 hx (hb hby d4_1) ((if0 _ _).trans (teq hc1).2) rfl ?_
    refine own_aloadN (pc' := 5) X0 hx (hb hby d4_4) rfl rfl rfl ?_
    refine own_aloadN (pc' := 6) X0 hx (hb hby d4_5) rfl rfl rfl ?_
    obtain ⟨T110, X110, e110, st110⟩ := getF X0 hx hZ hown (host := "") (Or.inl (hw _ (List.mem_of_getElem? (i := 13) rfl))) Via.refl e0 F1 (g := (mkF m 6 #[.val (.ref a1), .val (.int k), .val (.long x), .second] [(.ref a1), (.ref a1)])) rfl rfl (hb hby d4_6)
    refine Goes.pre st110 ?_
    show Goes p e below s 0 0 (Q_3 Z a1 k x v1 v2 v3 v4 v5 v6 v7 v8 h0 n0) T110 (mkF m 9 #[.val (.ref a1), .val (.int k), .val (.long x), .second] [(.long v1), (.ref a1)])
    refine own_lloadN (pc' := 10) X110 hx (hb hby d4_9) rfl rfl ?_
    refine own_ladd (pc' := 11) X110 hx (hb hby d4_10) rfl ?_
    obtain ⟨T111, h111, X111, e111, W111, st111⟩ := putF X110 hx hZ hown (host := "") (Or.inl (hw _ (List.mem_of_getElem? (i := 13) rfl))) Via.refl e110 F1 E1 (Or.inl (hw _ (List.mem_of_getElem? (i := 14) rfl))) (hw _ (List.mem_of_getElem? (i := 1) rfl)) (ty := .long) (by decide) rfl rfl (g := (mkF m 11 #[.val (.ref a1), .val (.int k), .val (.long x), .second] [(.long (v1 + x)), (.ref a1)])) rfl rfl (hb hby d4_11)
    have N111 := Fr.snoc X111 N0 g1
    refine Goes.pre st111 ?_
    show Goes p e below s 0 0 (Q_3 Z a1 k x v1 v2 v3 v4 v5 v6 v7 v8 h0 n0) T111 (mkF m 14 #[.val (.ref a1), .val (.int k), .val (.long x), .second] [])
    have F111_a1_f1 := F1.same W111
    have F111_a1_f2 := F2.other W111 (Or.inr (slot_ne (Or.inl (hw _ (List.mem_of_getElem? (i := 16) rfl))) (Or.inl (hw _ (List.mem_of_getElem? (i := 14) rfl))) (by decide) (t := .long) (t' := .long) (by decide) (by decide)))
    have F111_a1_f3 := F3.other W111 (Or.inr (slot_ne (Or.inl (hw _ (List.mem_of_getElem? (i := 18) rfl))) (Or.inl (hw _ (List.mem_of_getElem? (i := 14) rfl))) (by decide) (t := .long) (t' := .long) (by decide) (by decide)))
    have F111_a1_f4 := F4.other W111 (Or.inr (slot_ne (Or.inl (hw _ (List.mem_of_getElem? (i := 20) rfl))) (Or.inl (hw _ (List.mem_of_getElem? (i := 14) rfl))) (by decide) (t := .long) (t' := .long) (by decide) (by decide)))
    have F111_a1_f5 := F5.other W111 (Or.inr (slot_ne (Or.inl (hw _ (List.mem_of_getElem? (i := 22) rfl))) (Or.inl (hw _ (List.mem_of_getElem? (i := 14) rfl))) (by decide) (t := .long) (t' := .long) (by decide) (by decide)))
    have F111_a1_f6 := F6.other W111 (Or.inr (slot_ne (Or.inl (hw _ (List.mem_of_getElem? (i := 24) rfl))) (Or.inl (hw _ (List.mem_of_getElem? (i := 14) rfl))) (by decide) (t := .long) (t' := .long) (by decide) (by decide)))
    have F111_a1_f7 := F7.other W111 (Or.inr (slot_ne (Or.inl (hw _ (List.mem_of_getElem? (i := 27) rfl))) (Or.inl (hw _ (List.mem_of_getElem? (i := 14) rfl))) (by decide) (t := .long) (t' := .long) (by decide) (by decide)))
    have F111_a1_f8 := F8.other W111 (Or.inr (slot_ne (Or.inl (hw _ (List.mem_of_getElem? (i := 29) rfl))) (Or.inl (hw _ (List.mem_of_getElem? (i := 14) rfl))) (by decide) (t := .long) (t' := .long) (by decide) (by decide)))
    have E111_a1 := E1.wr W111
    have K111 := Keep.wr (Keep.refl h0 [a1]) W111 (Or.inl (List.mem_of_getElem? (i := 0) rfl))
    refine own_goto X111 hx (hb hby d4_14) (by decide) (pc' := 136) (by decide) ?_
    exact own_ret0 X111 hx hlk Bd.returns (hb hby d4_136) (by decide) (by decide) (by rw [e111]; exact ⟨rfl, N111, K111, _, _, _, _, _, _, _, _, ⟨E111_a1, F111_a1_f1, F111_a1_f2, F111_a1_f3, F111_a1_f4, F111_a1_f5, F111_a1_f6, F111_a1_f7, F111_a1_f8⟩, own_bump1 _ _ _ _ _ _ _ _ _⟩)
  · refine own_ifY X0 hx (hb hby d4_1) ((if0 _ _).trans (feq hc1).2) (by decide) (pc' := 17) (by decide) ?_
    refine own_iloadN (pc' := 18) X0 hx (hb hby d4_17) rfl rfl ?_
    refine own_iconst (pc' := 19) X0 hx (hb hby d4_18) (v := (1 : Int32)) rfl rfl ?_
    by_cases hc19 : k = (1 : Int32)
    · refine own_icmpN (pc' := 22) X0 hx (hb hby d4_19) (teq hc19).2 rfl ?_
      refine own_aloadN (pc' := 23) X0 hx (hb hby d4_22) rfl rfl rfl ?_
      refine own_aloadN (pc' := 24) X0 hx (hb hby d4_23) rfl rfl rfl ?_
      obtain ⟨T112, X112, e112, st112⟩ := getF X0 hx hZ hown (host := "") (Or.inl (hw _ (List.mem_of_getElem? (i := 15) rfl))) Via.refl e0 F2 (g := (mkF m 24 #[.val (.ref a1), .val (.int k), .val (.long x), .second] [(.ref a1), (.ref a1)])) rfl rfl (hb hby d4_24)
      refine Goes.pre st112 ?_
      show Goes p e below s 0 0 (Q_3 Z a1 k x v1 v2 v3 v4 v5 v6 v7 v8 h0 n0) T112 (mkF m 27 #[.val (.ref a1), .val (.int k), .val (.long x), .second] [(.long v2), (.ref a1)])
      refine own_lloadN (pc' := 28) X112 hx (hb hby d4_27) rfl rfl ?_
      refine own_ladd (pc' := 29) X112 hx (hb hby d4_28) rfl ?_
      obtain ⟨T113, h113, X113, e113, W113, st113⟩ := putF X112 hx hZ hown (host := "") (Or.inl (hw _ (List.mem_of_getElem? (i := 15) rfl))) Via.refl e112 F2 E1 (Or.inl (hw _ (List.mem_of_getElem? (i := 16) rfl))) (hw _ (List.mem_of_getElem? (i := 1) rfl)) (ty := .long) (by decide) rfl rfl (g := (mkF m 29 #[.val (.ref a1), .val (.int k), .val (.long x), .second] [(.long (v2 + x)), (.ref a1)])) rfl rfl (hb hby d4_29)
      have N113 := Fr.snoc X113 N0 g1
      refine Goes.pre st113 ?_
      show Goes p e below s 0 0 (Q_3 Z a1 k x v1 v2 v3 v4 v5 v6 v7 v8 h0 n0) T113 (mkF m 32 #[.val (.ref a1), .val (.int k), .val (.long x), .second] [])
      have F113_a1_f1 := F1.other W113 (Or.inr (slot_ne (Or.inl (hw _ (List.mem_of_getElem? (i := 14) rfl))) (Or.inl (hw _ (List.mem_of_getElem? (i := 16) rfl))) (by decide) (t := .long) (t' := .long) (by decide) (by decide)))
      have F113_a1_f2 := F2.same W113
      have F113_a1_f3 := F3.other W113 (Or.inr (slot_ne (Or.inl (hw _ (List.mem_of_getElem? (i := 18) rfl))) (Or.inl (hw _ (List.mem_of_getElem? (i := 16) rfl))) (by decide) (t := .long) (t' := .long) (by decide) (by decide)))
      have F113_a1_f4 := F4.other W113 (Or.inr (slot_ne (Or.inl (hw _ (List.mem_of_getElem? (i := 20) rfl))) (Or.inl (hw _ (List.mem_of_getElem? (i := 16) rfl))) (by decide) (t := .long) (t' := .long) (by decide) (by decide)))
      have F113_a1_f5 := F5.other W113 (Or.inr (slot_ne (Or.inl (hw _ (List.mem_of_getElem? (i := 22) rfl))) (Or.inl (hw _ (List.mem_of_getElem? (i := 16) rfl))) (by decide) (t := .long) (t' := .long) (by decide) (by decide)))
      have F113_a1_f6 := F6.other W113 (Or.inr (slot_ne (Or.inl (hw _ (List.mem_of_getElem? (i := 24) rfl))) (Or.inl (hw _ (List.mem_of_getElem? (i := 16) rfl))) (by decide) (t := .long) (t' := .long) (by decide) (by decide)))
      have F113_a1_f7 := F7.other W113 (Or.inr (slot_ne (Or.inl (hw _ (List.mem_of_getElem? (i := 27) rfl))) (Or.inl (hw _ (List.mem_of_getElem? (i := 16) rfl))) (by decide) (t := .long) (t' := .long) (by decide) (by decide)))
      have F113_a1_f8 := F8.other W113 (Or.inr (slot_ne (Or.inl (hw _ (List.mem_of_getElem? (i := 29) rfl))) (Or.inl (hw _ (List.mem_of_getElem? (i := 16) rfl))) (by decide) (t := .long) (t' := .long) (by decide) (by decide)))
      have E113_a1 := E1.wr W113
      have K113 := Keep.wr (Keep.refl h0 [a1]) W113 (Or.inl (List.mem_of_getElem? (i := 0) rfl))
      refine own_goto X113 hx (hb hby d4_32) (by decide) (pc' := 136) (by decide) ?_
      exact own_ret0 X113 hx hlk Bd.returns (hb hby d4_136) (by decide) (by decide) (by rw [e113]; exact ⟨rfl, N113, K113, _, _, _, _, _, _, _, _, ⟨E113_a1, F113_a1_f1, F113_a1_f2, F113_a1_f3, F113_a1_f4, F113_a1_f5, F113_a1_f6, F113_a1_f7, F113_a1_f8⟩, own_bump2 _ _ _ _ _ _ _ _ _⟩)
    · refine own_icmpY X0 hx (hb hby d4_19) (feq hc19).2 (by decide) (pc' := 35) (by decide) ?_
      refine own_iloadN (pc' := 36) X0 hx (hb hby d4_35) rfl rfl ?_
      refine own_iconst (pc' := 37) X0 hx (hb hby d4_36) (v := (2 : Int32)) rfl rfl ?_
      by_cases hc37 : k = (2 : Int32)
      · refine own_icmpN (pc' := 40) X0 hx (hb hby d4_37) (teq hc37).2 rfl ?_
        refine own_aloadN (pc' := 41) X0 hx (hb hby d4_40) rfl rfl rfl ?_
        refine own_aloadN (pc' := 42) X0 hx (hb hby d4_41) rfl rfl rfl ?_
        obtain ⟨T114, X114, e114, st114⟩ := getF X0 hx hZ hown (host := "") (Or.inl (hw _ (List.mem_of_getElem? (i := 17) rfl))) Via.refl e0 F3 (g := (mkF m 42 #[.val (.ref a1), .val (.int k), .val (.long x), .second] [(.ref a1), (.ref a1)])) rfl rfl (hb hby d4_42)
        refine Goes.pre st114 ?_
        show Goes p e below s 0 0 (Q_3 Z a1 k x v1 v2 v3 v4 v5 v6 v7 v8 h0 n0) T114 (mkF m 45 #[.val (.ref a1), .val (.int k), .val (.long x), .second] [(.long v3), (.ref a1)])
        refine own_lloadN (pc' := 46) X114 hx (hb hby d4_45) rfl rfl ?_
        refine own_ladd (pc' := 47) X114 hx (hb hby d4_46) rfl ?_
        obtain ⟨T115, h115, X115, e115, W115, st115⟩ := putF X114 hx hZ hown (host := "") (Or.inl (hw _ (List.mem_of_getElem? (i := 17) rfl))) Via.refl e114 F3 E1 (Or.inl (hw _ (List.mem_of_getElem? (i := 18) rfl))) (hw _ (List.mem_of_getElem? (i := 1) rfl)) (ty := .long) (by decide) rfl rfl (g := (mkF m 47 #[.val (.ref a1), .val (.int k), .val (.long x), .second] [(.long (v3 + x)), (.ref a1)])) rfl rfl (hb hby d4_47)
        have N115 := Fr.snoc X115 N0 g1
        refine Goes.pre st115 ?_
        show Goes p e below s 0 0 (Q_3 Z a1 k x v1 v2 v3 v4 v5 v6 v7 v8 h0 n0) T115 (mkF m 50 #[.val (.ref a1), .val (.int k), .val (.long x), .second] [])
        have F115_a1_f1 := F1.other W115 (Or.inr (slot_ne (Or.inl (hw _ (List.mem_of_getElem? (i := 14) rfl))) (Or.inl (hw _ (List.mem_of_getElem? (i := 18) rfl))) (by decide) (t := .long) (t' := .long) (by decide) (by decide)))
        have F115_a1_f2 := F2.other W115 (Or.inr (slot_ne (Or.inl (hw _ (List.mem_of_getElem? (i := 16) rfl))) (Or.inl (hw _ (List.mem_of_getElem? (i := 18) rfl))) (by decide) (t := .long) (t' := .long) (by decide) (by decide)))
        have F115_a1_f3 := F3.same W115
        have F115_a1_f4 := F4.other W115 (Or.inr (slot_ne (Or.inl (hw _ (List.mem_of_getElem? (i := 20) rfl))) (Or.inl (hw _ (List.mem_of_getElem? (i := 18) rfl))) (by decide) (t := .long) (t' := .long) (by decide) (by decide)))
        have F115_a1_f5 := F5.other W115 (Or.inr (slot_ne (Or.inl (hw _ (List.mem_of_getElem? (i := 22) rfl))) (Or.inl (hw _ (List.mem_of_getElem? (i := 18) rfl))) (by decide) (t := .long) (t' := .long) (by decide) (by decide)))
        have F115_a1_f6 := F6.other W115 (Or.inr (slot_ne (Or.inl (hw _ (List.mem_of_getElem? (i := 24) rfl))) (Or.inl (hw _ (List.mem_of_getElem? (i := 18) rfl))) (by decide) (t := .long) (t' := .long) (by decide) (by decide)))
        have F115_a1_f7 := F7.other W115 (Or.inr (slot_ne (Or.inl (hw _ (List.mem_of_getElem? (i := 27) rfl))) (Or.inl (hw _ (List.mem_of_getElem? (i := 18) rfl))) (by decide) (t := .long) (t' := .long) (by decide) (by decide)))
        have F115_a1_f8 := F8.other W115 (Or.inr (slot_ne (Or.inl (hw _ (List.mem_of_getElem? (i := 29) rfl))) (Or.inl (hw _ (List.mem_of_getElem? (i := 18) rfl))) (by decide) (t := .long) (t' := .long) (by decide) (by decide)))
        have E115_a1 := E1.wr W115
        have K115 := Keep.wr (Keep.refl h0 [a1]) W115 (Or.inl (List.mem_of_getElem? (i := 0) rfl))
        refine own_goto X115 hx (hb hby d4_50) (by decide) (pc' := 136) (by decide) ?_
        exact own_ret0 X115 hx hlk Bd.returns (hb hby d4_136) (by decide) (by decide) (by rw [e115]; exact ⟨rfl, N115, K115, _, _, _, _, _, _, _, _, ⟨E115_a1, F115_a1_f1, F115_a1_f2, F115_a1_f3, F115_a1_f4, F115_a1_f5, F115_a1_f6, F115_a1_f7, F115_a1_f8⟩, own_bump3 _ _ _ _ _ _ _ _ _⟩)
      · refine own_icmpY X0 hx (hb hby d4_37) (feq hc37).2 (by decide) (pc' := 53) (by decide) ?_
        refine own_iloadN (pc' := 54) X0 hx (hb hby d4_53) rfl rfl ?_
        refine own_iconst (pc' := 55) X0 hx (hb hby d4_54) (v := (3 : Int32)) rfl rfl ?_
        by_cases hc55 : k = (3 : Int32)
        · refine own_icmpN (pc' := 58) X0 hx (hb hby d4_55) (teq hc55).2 rfl ?_
          refine own_aloadN (pc' := 59) X0 hx (hb hby d4_58) rfl rfl rfl ?_
          refine own_aloadN (pc' := 60) X0 hx (hb hby d4_59) rfl rfl rfl ?_
          obtain ⟨T116, X116, e116, st116⟩ := getF X0 hx hZ hown (host := "") (Or.inl (hw _ (List.mem_of_getElem? (i := 19) rfl))) Via.refl e0 F4 (g := (mkF m 60 #[.val (.ref a1), .val (.int k), .val (.long x), .second] [(.ref a1), (.ref a1)])) rfl rfl (hb hby d4_60)
          refine Goes.pre st116 ?_
          show Goes p e below s 0 0 (Q_3 Z a1 k x v1 v2 v3 v4 v5 v6 v7 v8 h0 n0) T116 (mkF m 63 #[.val (.ref a1), .val (.int k), .val (.long x), .second] [(.long v4), (.ref a1)])
          refine own_lloadN (pc' := 64) X116 hx (hb hby d4_63) rfl rfl ?_
          refine own_ladd (pc' := 65) X116 hx (hb hby d4_64) rfl ?_
          obtain ⟨T117, h117, X117, e117, W117, st117⟩ := putF X116 hx hZ hown (host := "") (Or.inl (hw _ (List.mem_of_getElem? (i := 19) rfl))) Via.refl e116 F4 E1 (Or.inl (hw _ (List.mem_of_getElem? (i := 20) rfl))) (hw _ (List.mem_of_getElem? (i := 1) rfl)) (ty := .long) (by decide) rfl rfl (g := (mkF m 65 #[.val (.ref a1), .val (.int k), .val (.long x), .second] [(.long (v4 + x)), (.ref a1)])) rfl rfl (hb hby d4_65)
          have N117 := Fr.snoc X117 N0 g1
          refine Goes.pre st117 ?_
          show Goes p e below s 0 0 (Q_3 Z a1 k x v1 v2 v3 v4 v5 v6 v7 v8 h0 n0) T117 (mkF m 68 #[.val (.ref a1), .val (.int k), .val (.long x), .second] [])
          have F117_a1_f1 := F1.other W117 (Or.inr (slot_ne (Or.inl (hw _ (List.mem_of_getElem? (i := 14) rfl))) (Or.inl (hw _ (List.mem_of_getElem? (i := 20) rfl))) (by decide) (t := .long) (t' := .long) (by decide) (by decide)))
          have F117_a1_f2 := F2.other W117 (Or.inr (slot_ne (Or.inl (hw _ (List.mem_of_getElem? (i := 16) rfl))) (Or.inl (hw _ (List.mem_of_getElem? (i := 20) rfl))) (by decide) (t := .long) (t' := .long) (by decide) (by decide)))
          have F117_a1_f3 := F3.other W117 (Or.inr (slot_ne (Or.inl (hw _ (List.mem_of_getElem? (i := 18) rfl))) (Or.inl (hw _ (List.mem_of_getElem? (i := 20) rfl))) (by decide) (t := .long) (t' := .long) (by decide) (by decide)))
          have F117_a1_f4 := F4.same W117
          have F117_a1_f5 := F5.other W117 (Or.inr (slot_ne (Or.inl (hw _ (List.mem_of_getElem? (i := 22) rfl))) (Or.inl (hw _ (List.mem_of_getElem? (i := 20) rfl))) (by decide) (t := .long) (t' := .long) (by decide) (by decide)))
          have F117_a1_f6 := F6.other W117 (Or.inr (slot_ne (Or.inl (hw _ (List.mem_of_getElem? (i := 24) rfl))) (Or.inl (hw _ (List.mem_of_getElem? (i := 20) rfl))) (by decide) (t := .long) (t' := .long) (by decide) (by decide)))
          have F117_a1_f7 := F7.other W117 (Or.inr (slot_ne (Or.inl (hw _ (List.mem_of_getElem? (i := 27) rfl))) (Or.inl (hw _ (List.mem_of_getElem? (i := 20) rfl))) (by decide) (t := .long) (t' := .long) (by decide) (by decide)))
          have F117_a1_f8 := F8.other W117 (Or.inr (slot_ne (Or.inl (hw _ (List.mem_of_getElem? (i := 29) rfl))) (Or.inl (hw _ (List.mem_of_getElem? (i := 20) rfl))) (by decide) (t := .long) (t' := .long) (by decide) (by decide)))
          have E117_a1 := E1.wr W117
          have K117 := Keep.wr (Keep.refl h0 [a1]) W117 (Or.inl (List.mem_of_getElem? (i := 0) rfl))
          refine own_goto X117 hx (hb hby d4_68) (by decide) (pc' := 136) (by decide) ?_
          exact own_ret0 X117 hx hlk Bd.returns (hb hby d4_136) (by decide) (by decide) (by rw [e117]; exact ⟨rfl, N117, K117, _, _, _, _, _, _, _, _, ⟨E117_a1, F117_a1_f1, F117_a1_f2, F117_a1_f3, F117_a1_f4, F117_a1_f5, F117_a1_f6, F117_a1_f7, F117_a1_f8⟩, own_bump4 _ _ _ _ _ _ _ _ _⟩)
        · refine own_icmpY X0 hx (hb hby d4_55) (feq hc55).2 (by decide) (pc' := 71) (by decide) ?_
          refine own_iloadN (pc' := 72) X0 hx (hb hby d4_71) rfl rfl ?_
          refine own_iconst (pc' := 73) X0 hx (hb hby d4_72) (v := (4 : Int32)) rfl rfl ?_
          by_cases hc73 : k = (4 : Int32)
          · refine own_icmpN (pc' := 76) X0 hx (hb hby d4_73) (teq hc73).2 rfl ?_
            refine own_aloadN (pc' := 77) X0 hx (hb hby d4_76) rfl rfl rfl ?_
            refine own_aloadN (pc' := 78) X0 hx (hb hby d4_77) rfl rfl rfl ?_
            obtain ⟨T118, X118, e118, st118⟩ := getF X0 hx hZ hown (host := "") (Or.inl (hw _ (List.mem_of_getElem? (i := 21) rfl))) Via.refl e0 F5 (g := (mkF m 78 #[.val (.ref a1), .val (.int k), .val (.long x), .second] [(.ref a1), (.ref a1)])) rfl rfl (hb hby d4_78)
            refine Goes.pre st118 ?_
            show Goes p e below s 0 0 (Q_3 Z a1 k x v1 v2 v3 v4 v5 v6 v7 v8 h0 n0) T118 (mkF m 81 #[.val (.ref a1), .val (.int k), .val (.long x), .second] [(.long v5), (.ref a1)])
            refine own_lloadN (pc' := 82) X118 hx (hb hby d4_81) rfl rfl ?_
            refine own_ladd (pc' := 83) X118 hx (hb hby d4_82) rfl ?_
            obtain ⟨T119, h119, X119, e119, W119, st119⟩ := putF X118 hx hZ hown (host := "") (Or.inl (hw _ (List.mem_of_getElem? (i := 21) rfl))) Via.refl e118 F5 E1 (Or.inl (hw _ (List.mem_of_getElem? (i := 22) rfl))) (hw _ (List.mem_of_getElem? (i := 1) rfl)) (ty := .long) (by decide) rfl rfl (g := (mkF m 83 #[.val (.ref a1), .val (.int k), .val (.long x), .second] [(.long (v5 + x)), (.ref a1)])) rfl rfl (hb hby d4_83)
            have N119 := Fr.snoc X119 N0 g1
            refine Goes.pre st119 ?_
            show Goes p e below s 0 0 (Q_3 Z a1 k x v1 v2 v3 v4 v5 v6 v7 v8 h0 n0) T119 (mkF m 86 #[.val (.ref a1), .val (.int k), .val (.long x), .second] [])
            have F119_a1_f1 := F1.other W119 (Or.inr (slot_ne (Or.inl (hw _ (List.mem_of_getElem? (i := 14) rfl))) (Or.inl (hw _ (List.mem_of_getElem? (i := 22) rfl))) (by decide) (t := .long) (t' := .long) (by decide) (by decide)))
            have F119_a1_f2 := F2.other W119 (Or.inr (slot_ne (Or.inl (hw _ (List.mem_of_getElem? (i := 16) rfl))) (Or.inl (hw _ (List.mem_of_getElem? (i := 22) rfl))) (by decide) (t := .long) (t' := .long) (by decide) (by decide)))
            have F119_a1_f3 := F3.other W119 (Or.inr (slot_ne (Or.inl (hw _ (List.mem_of_getElem? (i := 18) rfl))) (Or.inl (hw _ (List.mem_of_getElem? (i := 22) rfl))) (by decide) (t := .long) (t' := .long) (by decide) (by decide)))
            have F119_a1_f4 := F4.other W119 (Or.inr (slot_ne (Or.inl (hw _ (List.mem_of_getElem? (i := 20) rfl))) (Or.inl (hw _ (List.mem_of_getElem? (i := 22) rfl))) (by decide) (t := .long) (t' := .long) (by decide) (by decide)))
            have F119_a1_f5 := F5.same W119
            have F119_a1_f6 := F6.other W119 (Or.inr (slot_ne (Or.inl (hw _ (List.mem_of_getElem? (i := 24) rfl))) (Or.inl (hw _ (List.mem_of_getElem? (i := 22) rfl))) (by decide) (t := .long) (t' := .long) (by decide) (by decide)))
            have F119_a1_f7 := F7.other W119 (Or.inr (slot_ne (Or.inl (hw _ (List.mem_of_getElem? (i := 27) rfl))) (Or.inl (hw _ (List.mem_of_getElem? (i := 22) rfl))) (by decide) (t := .long) (t' := .long) (by decide) (by decide)))
            have F119_a1_f8 := F8.other W119 (Or.inr (slot_ne (Or.inl (hw _ (List.mem_of_getElem? (i := 29) rfl))) (Or.inl (hw _ (List.mem_of_getElem? (i := 22) rfl))) (by decide) (t := .long) (t' := .long) (by decide) (by decide)))
            have E119_a1 := E1.wr W119
            have K119 := Keep.wr (Keep.refl h0 [a1]) W119 (Or.inl (List.mem_of_getElem? (i := 0) rfl))
            refine own_goto X119 hx (hb hby d4_86) (by decide) (pc' := 136) (by decide) ?_
            exact own_ret0 X119 hx hlk Bd.returns (hb hby d4_136) (by decide) (by decide) (by rw [e119]; exact ⟨rfl, N119, K119, _, _, _, _, _, _, _, _, ⟨E119_a1, F119_a1_f1, F119_a1_f2, F119_a1_f3, F119_a1_f4, F119_a1_f5, F119_a1_f6, F119_a1_f7, F119_a1_f8⟩, own_bump5 _ _ _ _ _ _ _ _ _⟩)
          · refine own_icmpY X0 hx (hb hby d4_73) (feq hc73).2 (by decide) (pc' := 89) (by decide) ?_
            refine own_iloadN (pc' := 90) X0 hx (hb hby d4_89) rfl rfl ?_
            refine own_iconst (pc' := 91) X0 hx (hb hby d4_90) (v := (5 : Int32)) rfl rfl ?_
            by_cases hc91 : k = (5 : Int32)
            · refine own_icmpN (pc' := 94) X0 hx (hb hby d4_91) (teq hc91).2 rfl ?_
              refine own_aloadN (pc' := 95) X0 hx (hb hby d4_94) rfl rfl rfl ?_
              refine own_aloadN (pc' := 96) X0 hx (hb hby d4_95) rfl rfl rfl ?_
              obtain ⟨T120, X120, e120, st120⟩ := getF X0 hx hZ hown (host := "") (Or.inl (hw _ (List.mem_of_getElem? (i := 23) rfl))) Via.refl e0 F6 (g := (mkF m 96 #[.val (.ref a1), .val (.int k), .val (.long x), .second] [(.ref a1), (.ref a1)])) rfl rfl (hb hby d4_96)
              refine Goes.pre st120 ?_
              show Goes p e below s 0 0 (Q_3 Z a1 k x v1 v2 v3 v4 v5 v6 v7 v8 h0 n0) T120 (mkF m 99 #[.val (.ref a1), .val (.int k), .val (.long x), .second] [(.long v6), (.ref a1)])
              refine own_lloadN (pc' := 100) X120 hx (hb hby d4_99) rfl rfl ?_
              refine own_ladd (pc' := 101) X120 hx (hb hby d4_100) rfl ?_
              obtain ⟨T121, h121, X121, e121, W121, st121⟩ := putF X120 hx hZ hown (host := "") (Or.inl (hw _ (List.mem_of_getElem? (i := 23) rfl))) Via.refl e120 F6 E1 (Or.inl (hw _ (List.mem_of_getElem? (i := 24) rfl))) (hw _ (List.mem_of_getElem? (i := 1) rfl)) (ty := .long) (by decide) rfl rfl (g := (mkF m 101 #[.val (.ref a1), .val (.int k), .val (.long x), .second] [(.long (v6 + x)), (.ref a1)])) rfl rfl (hb hby d4_101)
              have N121 := Fr.snoc X121 N0 g1
              refine Goes.pre st121 ?_
              show Goes p e below s 0 0 (Q_3 Z a1 k x v1 v2 v3 v4 v5 v6 v7 v8 h0 n0) T121 (mkF m 104 #[.val (.ref a1), .val (.int k), .val (.long x), .second] [])
              have F121_a1_f1 := F1.other W121 (Or.inr (slot_ne (Or.inl (hw _ (List.mem_of_getElem? (i := 14) rfl))) (Or.inl (hw _ (List.mem_of_getElem? (i := 24) rfl))) (by decide) (t := .long) (t' := .long) (by decide) (by decide)))
              have F121_a1_f2 := F2.other W121 (Or.inr (slot_ne (Or.inl (hw _ (List.mem_of_getElem? (i := 16) rfl))) (Or.inl (hw _ (List.mem_of_getElem? (i := 24) rfl))) (by decide) (t := .long) (t' := .long) (by decide) (by decide)))
              have F121_a1_f3 := F3.other W121 (Or.inr (slot_ne (Or.inl (hw _ (List.mem_of_getElem? (i := 18) rfl))) (Or.inl (hw _ (List.mem_of_getElem? (i := 24) rfl))) (by decide) (t := .long) (t' := .long) (by decide) (by decide)))
              have F121_a1_f4 := F4.other W121 (Or.inr (slot_ne (Or.inl (hw _ (List.mem_of_getElem? (i := 20) rfl))) (Or.inl (hw _ (List.mem_of_getElem? (i := 24) rfl))) (by decide) (t := .long) (t' := .long) (by decide) (by decide)))
              have F121_a1_f5 := F5.other W121 (Or.inr (slot_ne (Or.inl (hw _ (List.mem_of_getElem? (i := 22) rfl))) (Or.inl (hw _ (List.mem_of_getElem? (i := 24) rfl))) (by decide) (t := .long) (t' := .long) (by decide) (by decide)))
              have F121_a1_f6 := F6.same W121
              have F121_a1_f7 := F7.other W121 (Or.inr (slot_ne (Or.inl (hw _ (List.mem_of_getElem? (i := 27) rfl))) (Or.inl (hw _ (List.mem_of_getElem? (i := 24) rfl))) (by decide) (t := .long) (t' := .long) (by decide) (by decide)))
              have F121_a1_f8 := F8.other W121 (Or.inr (slot_ne (Or.inl (hw _ (List.mem_of_getElem? (i := 29) rfl))) (Or.inl (hw _ (List.mem_of_getElem? (i := 24) rfl))) (by decide) (t := .long) (t' := .long) (by decide) (by decide)))
              have E121_a1 := E1.wr W121
              have K121 := Keep.wr (Keep.refl h0 [a1]) W121 (Or.inl (List.mem_of_getElem? (i := 0) rfl))
              refine own_goto X121 hx (hb hby d4_104) (by decide) (pc' := 136) (by decide) ?_
              exact own_ret0 X121 hx hlk Bd.returns (hb hby d4_136) (by decide) (by decide) (by rw [e121]; exact ⟨rfl, N121, K121, _, _, _, _, _, _, _, _, ⟨E121_a1, F121_a1_f1, F121_a1_f2, F121_a1_f3, F121_a1_f4, F121_a1_f5, F121_a1_f6, F121_a1_f7, F121_a1_f8⟩, own_bump6 _ _ _ _ _ _ _ _ _⟩)
            · refine own_icmpY X0 hx (hb hby d4_91) (feq hc91).2 (by decide) (pc' := 107) (by decide) ?_
              refine own_iloadN (pc' := 108) X0 hx (hb hby d4_107) rfl rfl ?_
              refine own_bipush (pc' := 110) X0 hx (hb hby d4_108) (v := (6 : Int32)) rfl rfl ?_
              by_cases hc110 : k = (6 : Int32)
              · refine own_icmpN (pc' := 113) X0 hx (hb hby d4_110) (teq hc110).2 rfl ?_
                refine own_aloadN (pc' := 114) X0 hx (hb hby d4_113) rfl rfl rfl ?_
                refine own_aloadN (pc' := 115) X0 hx (hb hby d4_114) rfl rfl rfl ?_
                obtain ⟨T122, X122, e122, st122⟩ := getF X0 hx hZ hown (host := "") (Or.inl (hw _ (List.mem_of_getElem? (i := 26) rfl))) Via.refl e0 F7 (g := (mkF m 115 #[.val (.ref a1), .val (.int k), .val (.long x), .second] [(.ref a1), (.ref a1)])) rfl rfl (hb hby d4_115)
                refine Goes.pre st122 ?_
                show Goes p e below s 0 0 (Q_3 Z a1 k x v1 v2 v3 v4 v5 v6 v7 v8 h0 n0) T122 (mkF m 118 #[.val (.ref a1), .val (.int k), .val (.long x), .second] [(.long v7), (.ref a1)])
                refine own_lloadN (pc' := 119) X122 hx (hb hby d4_118) rfl rfl ?_
                refine own_ladd (pc' := 120) X122 hx (hb hby d4_119) rfl ?_
                obtain ⟨T123, h123, X123, e123, W123, st123⟩ := putF X122 hx hZ hown (host := "") (Or.inl (hw _ (List.mem_of_getElem? (i := 26) rfl))) Via.refl e122 F7 E1 (Or.inl (hw _ (List.mem_of_getElem? (i := 27) rfl))) (hw _ (List.mem_of_getElem? (i := 1) rfl)) (ty := .long) (by decide) rfl rfl (g := (mkF m 120 #[.val (.ref a1), .val (.int k), .val (.long x), .second] [(.long (v7 + x)), (.ref a1)])) rfl rfl (hb hby d4_120)
                have N123 := Fr.snoc X123 N0 g1
                refine Goes.pre st123 ?_
                show Goes p e below s 0 0 (Q_3 Z a1 k x v1 v2 v3 v4 v5 v6 v7 v8 h0 n0) T123 (mkF m 123 #[.val (.ref a1), .val (.int k), .val (.long x), .second] [])
                have F123_a1_f1 := F1.other W123 (Or.inr (slot_ne (Or.inl (hw _ (List.mem_of_getElem? (i := 14) rfl))) (Or.inl (hw _ (List.mem_of_getElem? (i := 27) rfl))) (by decide) (t := .long) (t' := .long) (by decide) (by decide)))
                have F123_a1_f2 := F2.other W123 (Or.inr (slot_ne (Or.inl (hw _ (List.mem_of_getElem? (i := 16) rfl))) (Or.inl (hw _ (List.mem_of_getElem? (i := 27) rfl))) (by decide) (t := .long) (t' := .long) (by decide) (by decide)))
                have F123_a1_f3 := F3.other W123 (Or.inr (slot_ne (Or.inl (hw _ (List.mem_of_getElem? (i := 18) rfl))) (Or.inl (hw _ (List.mem_of_getElem? (i := 27) rfl))) (by decide) (t := .long) (t' := .long) (by decide) (by decide)))
                have F123_a1_f4 := F4.other W123 (Or.inr (slot_ne (Or.inl (hw _ (List.mem_of_getElem? (i := 20) rfl))) (Or.inl (hw _ (List.mem_of_getElem? (i := 27) rfl))) (by decide) (t := .long) (t' := .long) (by decide) (by decide)))
                have F123_a1_f5 := F5.other W123 (Or.inr (slot_ne (Or.inl (hw _ (List.mem_of_getElem? (i := 22) rfl))) (Or.inl (hw _ (List.mem_of_getElem? (i := 27) rfl))) (by decide) (t := .long) (t' := .long) (by decide) (by decide)))
                have F123_a1_f6 := F6.other W123 (Or.inr (slot_ne (Or.inl (hw _ (List.mem_of_getElem? (i := 24) rfl))) (Or.inl (hw _ (List.mem_of_getElem? (i := 27) rfl))) (by decide) (t := .long) (t' := .long) (by decide) (by decide)))
                have F123_a1_f7 := F7.same W123
                have F123_a1_f8 := F8.other W123 (Or.inr (slot_ne (Or.inl (hw _ (List.mem_of_getElem? (i := 29) rfl))) (Or.inl (hw _ (List.mem_of_getElem? (i := 27) rfl))) (by decide) (t := .long) (t' := .long) (by decide) (by decide)))
                have E123_a1 := E1.wr W123
                have K123 := Keep.wr (Keep.refl h0 [a1]) W123 (Or.inl (List.mem_of_getElem? (i := 0) rfl))
                refine own_goto X123 hx (hb hby d4_123) (by decide) (pc' := 136) (by decide) ?_
                exact own_ret0 X123 hx hlk Bd.returns (hb hby d4_136) (by decide) (by decide) (by rw [e123]; exact ⟨rfl, N123, K123, _, _, _, _, _, _, _, _, ⟨E123_a1, F123_a1_f1, F123_a1_f2, F123_a1_f3, F123_a1_f4, F123_a1_f5, F123_a1_f6, F123_a1_f7, F123_a1_f8⟩, own_bump7 _ _ _ _ _ _ _ _ _⟩)
              · refine own_icmpY X0 hx (hb hby d4_110) (feq hc110).2 (by decide) (pc' := 126) (by decide) ?_
                refine own_aloadN (pc' := 127) X0 hx (hb hby d4_126) rfl rfl rfl ?_
                refine own_aloadN (pc' := 128) X0 hx (hb hby d4_127) rfl rfl rfl ?_
                obtain ⟨T124, X124, e124, st124⟩ := getF X0 hx hZ hown (host := "") (Or.inl (hw _ (List.mem_of_getElem? (i := 28) rfl))) Via.refl e0 F8 (g := (mkF m 128 #[.val (.ref a1), .val (.int k), .val (.long x), .second] [(.ref a1), (.ref a1)])) rfl rfl (hb hby d4_128)
                refine Goes.pre st124 ?_
                show Goes p e below s 0 0 (Q_3 Z a1 k x v1 v2 v3 v4 v5 v6 v7 v8 h0 n0) T124 (mkF m 131 #[.val (.ref a1), .val (.int k), .val (.long x), .second] [(.long v8), (.ref a1)])
                refine own_lloadN (pc' := 132) X124 hx (hb hby d4_131) rfl rfl ?_
                refine own_ladd (pc' := 133) X124 hx (hb hby d4_132) rfl ?_
                obtain ⟨T125, h125, X125, e125, W125, st125⟩ := putF X124 hx hZ hown (host := "") (Or.inl (hw _ (List.mem_of_getElem? (i := 28) rfl))) Via.refl e124 F8 E1 (Or.inl (hw _ (List.mem_of_getElem? (i := 29) rfl))) (hw _ (List.mem_of_getElem? (i := 1) rfl)) (ty := .long) (by decide) rfl rfl (g := (mkF m 133 #[.val (.ref a1), .val (.int k), .val (.long x), .second] [(.long (v8 + x)), (.ref a1)])) rfl rfl (hb hby d4_133)
                have N125 := Fr.snoc X125 N0 g1
                refine Goes.pre st125 ?_
                show Goes p e below s 0 0 (Q_3 Z a1 k x v1 v2 v3 v4 v5 v6 v7 v8 h0 n0) T125 (mkF m 136 #[.val (.ref a1), .val (.int k), .val (.long x), .second] [])
                have F125_a1_f1 := F1.other W125 (Or.inr (slot_ne (Or.inl (hw _ (List.mem_of_getElem? (i := 14) rfl))) (Or.inl (hw _ (List.mem_of_getElem? (i := 29) rfl))) (by decide) (t := .long) (t' := .long) (by decide) (by decide)))
                have F125_a1_f2 := F2.other W125 (Or.inr (slot_ne (Or.inl (hw _ (List.mem_of_getElem? (i := 16) rfl))) (Or.inl (hw _ (List.mem_of_getElem? (i := 29) rfl))) (by decide) (t := .long) (t' := .long) (by decide) (by decide)))
                have F125_a1_f3 := F3.other W125 (Or.inr (slot_ne (Or.inl (hw _ (List.mem_of_getElem? (i := 18) rfl))) (Or.inl (hw _ (List.mem_of_getElem? (i := 29) rfl))) (by decide) (t := .long) (t' := .long) (by decide) (by decide)))
                have F125_a1_f4 := F4.other W125 (Or.inr (slot_ne (Or.inl (hw _ (List.mem_of_getElem? (i := 20) rfl))) (Or.inl (hw _ (List.mem_of_getElem? (i := 29) rfl))) (by decide) (t := .long) (t' := .long) (by decide) (by decide)))
                have F125_a1_f5 := F5.other W125 (Or.inr (slot_ne (Or.inl (hw _ (List.mem_of_getElem? (i := 22) rfl))) (Or.inl (hw _ (List.mem_of_getElem? (i := 29) rfl))) (by decide) (t := .long) (t' := .long) (by decide) (by decide)))
                have F125_a1_f6 := F6.other W125 (Or.inr (slot_ne (Or.inl (hw _ (List.mem_of_getElem? (i := 24) rfl))) (Or.inl (hw _ (List.mem_of_getElem? (i := 29) rfl))) (by decide) (t := .long) (t' := .long) (by decide) (by decide)))
                have F125_a1_f7 := F7.other W125 (Or.inr (slot_ne (Or.inl (hw _ (List.mem_of_getElem? (i := 27) rfl))) (Or.inl (hw _ (List.mem_of_getElem? (i := 29) rfl))) (by decide) (t := .long) (t' := .long) (by decide) (by decide)))
                have F125_a1_f8 := F8.same W125
                have E125_a1 := E1.wr W125
                have K125 := Keep.wr (Keep.refl h0 [a1]) W125 (Or.inl (List.mem_of_getElem? (i := 0) rfl))
                exact own_ret0 X125 hx hlk Bd.returns (hb hby d4_136) (by decide) (by decide) (by rw [e125]; exact ⟨rfl, N125, K125, _, _, _, _, _, _, _, _, ⟨E125_a1, F125_a1_f1, F125_a1_f2, F125_a1_f3, F125_a1_f4, F125_a1_f5, F125_a1_f6, F125_a1_f7, F125_a1_f8⟩, own_bump8 _ _ _ _ _ _ _ _ _⟩)
theorem d5_0 : decode prog_143_method_2_code 0 = .ok (.aload_n 0, 1) := by decide +kernel
theorem d5_1 : decode prog_143_method_2_code 1 = .ok (.getfield 7, 3) := by decide +kernel
theorem d5_4 : decode prog_143_method_2_code 4 = .ok (.aload_n 0, 1) := by decide +kernel
theorem d5_5 : decode prog_143_method_2_code 5 = .ok (.getfield 13, 3) := by decide +kernel
theorem d5_8 : decode prog_143_method_2_code 8 = .ok (.ladd, 1) := by decide +kernel
theorem d5_9 : decode prog_143_method_2_code 9 = .ok (.aload_n 0, 1) := by decide +kernel
theorem d5_10 : decode prog_143_method_2_code 10 = .ok (.getfield 16, 3) := by decide +kernel
theorem d5_13 : decode prog_143_method_2_code 13 = .ok (.ladd, 1) := by decide +kernel
theorem d5_14 : decode prog_143_method_2_code 14 = .ok (.aload_n 0, 1) := by decide +kernel
theorem d5_15 : decode prog_143_method_2_code 15 = .ok (.getfield 19, 3) := by decide +kernel
theorem d5_18 : decode prog_143_method_2_code 18 = .ok (.ladd, 1) := by decide +kernel
theorem d5_19 : decode prog_143_method_2_code 19 = .ok (.aload_n 0, 1) := by decide +kernel
theorem d5_20 : decode prog_143_method_2_code 20 = .ok (.getfield 22, 3) := by decide +kernel
theorem d5_23 : decode prog_143_method_2_code 23 = .ok (.ladd, 1) := by decide +kernel
theorem d5_24 : decode prog_143_method_2_code 24 = .ok (.aload_n 0, 1) := by decide +kernel
theorem d5_25 : decode prog_143_method_2_code 25 = .ok (.getfield 25, 3) := by decide +kernel
theorem d5_28 : decode prog_143_method_2_code 28 = .ok (.ladd, 1) := by decide +kernel
theorem d5_29 : decode prog_143_method_2_code 29 = .ok (.aload_n 0, 1) := by decide +kernel
theorem d5_30 : decode prog_143_method_2_code 30 = .ok (.getfield 28, 3) := by decide +kernel
theorem d5_33 : decode prog_143_method_2_code 33 = .ok (.ladd, 1) := by decide +kernel
theorem d5_34 : decode prog_143_method_2_code 34 = .ok (.aload_n 0, 1) := by decide +kernel
theorem d5_35 : decode prog_143_method_2_code 35 = .ok (.getfield 31, 3) := by decide +kernel
theorem d5_38 : decode prog_143_method_2_code 38 = .ok (.ladd, 1) := by decide +kernel
theorem d5_39 : decode prog_143_method_2_code 39 = .ok (.lreturn, 1) := by decide +kernel
theorem pn_4 : plainFor (⟨"com/example/reciprocal/reciprocal/speed/PlainRecord", "sum", "()J"⟩ : MethodName) = true := by first | exact plainFor_of_name (by simp [plainName, overriddenIn]; done) | exact plainFor_of_name (by decide +kernel) | decide +kernel
theorem pd_4 : parseMethodDescriptor "()J" = some ⟨[], some .long⟩ := by decide +kernel
theorem ef_4 (m : MethodId) (a1 : Addr) (v1 : Int64) (v2 : Int64) (v3 : Int64) (v4 : Int64) (v5 : Int64) (v6 : Int64) (v7 : Int64) (v8 : Int64) : entryFrame m #[(.ref a1)] 1 = mkF m 0 #[.val (.ref a1)] [] := by first | (simp [entryFrame, mkF, argsToLocals, Value.category]; done) | rfl
def Q_4 (Z : State) (a1 : Addr) (v1 : Int64) (v2 : Int64) (v3 : Int64) (v4 : Int64) (v5 : Int64) (v6 : Int64) (v7 : Int64) (v8 : Int64) (h0 : Heap) (n0 : Nat) (v : Option Value) (h : Heap) (L : List Loc) : Prop := v = some (.long (own_sum v1 v2 v3 v4 v5 v6 v7 v8)) ∧ Fr n0 L ∧ h = h0
set_option maxRecDepth 65536 in
set_option maxHeartbeats 40000000 in
theorem rm_4 (l : Launch) (Z : State) (a0 : Array Value) (hw : ∀ d ∈ tables_1, d.before a0 Z = true) (ws : List Jvm.Cond) (a1 : Addr) (v1 : Int64) (v2 : Int64) (v3 : Int64) (v4 : Int64) (v5 : Int64) (v6 : Int64) (v7 : Int64) (v8 : Int64) (h0 : Heap) (n0 : Nat) (Z0 : n0 ≤ h0.size) (R1 : own_Rec Z h0 a1 v1 v2 v3 v4 v5 v6 v7 v8) :
    MetFree l (⟨"com/example/reciprocal/reciprocal/speed/PlainRecord", "sum", "()J"⟩ : MethodName) (head1 (Jvm.Cond.code (⟨"com/example/reciprocal/reciprocal/speed/PlainRecord", "sum", "()J"⟩ : MethodName) prog_143_method_2_code 1 (some .long) :: ws) ({ frames := 0, cells := 0, slots := 0, locals := 0 } : Room)) (fun a U => a = #[(.ref a1)] ∧ Z.Warmed39 U.vm ∧ U.heap = h0) (fun _ _ _ _ _ => True) (fun _ U o U' => ∃ v L, o = .returned v ∧ (Q_4 Z a1 v1 v2 v3 v4 v5 v6 v7 v8 h0 n0) v U'.heap L ∧ FrameEnd U o U' L ({ frames := 0, cells := 0, slots := 0, locals := 0 } : Room).cells ({ frames := 0, cells := 0, slots := 0, locals := 0 } : Room).slots) := by
  refine MetFree.of_bodySF pn_4 hisR ?_
  intro p e s m args below meth c s₁ Bd hml0 hP hK
  obtain ⟨rfl, hZ, hh⟩ := hP
  have hx := Bd.exec
  have hby := Bd.bytes
  have hlk : meth.locks = false := BodyLoose.notSynchronized Bd
  have hml : c.maxLocals = 1 := hml0
  have hown : s.vm.findClass "com/example/reciprocal/reciprocal/speed/PlainRecord" = some m.cls := findClass_of_methodNamed Bd.named
  have hnm := (name_of_methodNamed Bd.named Bd.method).1
  have X0 : Stand p l e ({ frames := 0, cells := 0, slots := 0, locals := 0 } : Room) s m #[(.ref a1)] below meth c s₁ [] 0 0 := Stand.of_body Bd
  have e0 : s₁.heap = h0 := by rw [← hh, Bd.state]; rfl
  have N0 := Fr.nil n0
  refine own_enter (Q := (Q_4 Z a1 v1 v2 v3 v4 v5 v6 v7 v8 h0 n0)) (cs := 0) (ss := 0) (ef_4 m a1 v1 v2 v3 v4 v5 v6 v7 v8) ?_
  show Goes p e below s 0 0 (Q_4 Z a1 v1 v2 v3 v4 v5 v6 v7 v8 h0 n0) s₁ (mkF m 0 #[.val (.ref a1)] [])
  obtain ⟨E1, F1, F2, F3, F4, F5, F6, F7, F8⟩ := R1
  refine own_aloadN (pc' := 1) X0 hx (hb hby d5_0) rfl rfl rfl ?_
  obtain ⟨T126, X126, e126, st126⟩ := getF X0 hx hZ hown (host := "") (Or.inl (hw _ (List.mem_of_getElem? (i := 38) rfl))) Via.refl e0 F1 (g := (mkF m 1 #[.val (.ref a1)] [(.ref a1)])) rfl rfl (hb hby d5_1)
  refine Goes.pre st126 ?_
  show Goes p e below s 0 0 (Q_4 Z a1 v1 v2 v3 v4 v5 v6 v7 v8 h0 n0) T126 (mkF m 4 #[.val (.ref a1)] [(.long v1)])
  refine own_aloadN (pc' := 5) X126 hx (hb hby d5_4) rfl rfl rfl ?_
  obtain ⟨T127, X127, e127, st127⟩ := getF X126 hx hZ hown (host := "") (Or.inl (hw _ (List.mem_of_getElem? (i := 39) rfl))) Via.refl e126 F2 (g := (mkF m 5 #[.val (.ref a1)] [(.ref a1), (.long v1)])) rfl rfl (hb hby d5_5)
  refine Goes.pre st127 ?_
  show Goes p e below s 0 0 (Q_4 Z a1 v1 v2 v3 v4 v5 v6 v7 v8 h0 n0) T127 (mkF m 8 #[.val (.ref a1)] [(.long v2), (.long v1)])
  refine own_ladd (pc' := 9) X127 hx (hb hby d5_8) rfl ?_
  refine own_aloadN (pc' := 10) X127 hx (hb hby d5_9) rfl rfl rfl ?_
  obtain ⟨T128, X128, e128, st128⟩ := getF X127 hx hZ hown (host := "") (Or.inl (hw _ (List.mem_of_getElem? (i := 40) rfl))) Via.refl e127 F3 (g := (mkF m 10 #[.val (.ref a1)] [(.ref a1), (.long (v1 + v2))])) rfl rfl (hb hby d5_10)
  refine Goes.pre st128 ?_
  show Goes p e below s 0 0 (Q_4 Z a1 v1 v2 v3 v4 v5 v6 v7 v8 h0 n0) T128 (mkF m 13 #[.val (.ref a1)] [(.long v3), (.long (v1 + v2))])
  refine own_ladd (pc' := 14) X128 hx (hb hby d5_13) rfl ?_
  refine own_aloadN (pc' := 15) X128 hx (hb hby d5_14) rfl rfl rfl ?_
  obtain ⟨T129, X129, e129, st129⟩ := getF X128 hx hZ hown (host := "") (Or.inl (hw _ (List.mem_of_getElem? (i := 41) rfl))) Via.refl e128 F4 (g := (mkF m 15 #[.val (.ref a1)] [(.ref a1), (.long ((v1 + v2) + v3))])) rfl rfl (hb hby d5_15)
  refine Goes.pre st129 ?_
  show Goes p e below s 0 0 (Q_4 Z a1 v1 v2 v3 v4 v5 v6 v7 v8 h0 n0) T129 (mkF m 18 #[.val (.ref a1)] [(.long v4), (.long ((v1 + v2) + v3))])
  refine own_ladd (pc' := 19) X129 hx (hb hby d5_18) rfl ?_
  refine own_aloadN (pc' := 20) X129 hx (hb hby d5_19) rfl rfl rfl ?_
  obtain ⟨T130, X130, e130, st130⟩ := getF X129 hx hZ hown (host := "") (Or.inl (hw _ (List.mem_of_getElem? (i := 42) rfl))) Via.refl e129 F5 (g := (mkF m 20 #[.val (.ref a1)] [(.ref a1), (.long (((v1 + v2) + v3) + v4))])) rfl rfl (hb hby d5_20)
  refine Goes.pre st130 ?_
  show Goes p e below s 0 0 (Q_4 Z a1 v1 v2 v3 v4 v5 v6 v7 v8 h0 n0) T130 (mkF m 23 #[.val (.ref a1)] [(.long v5), (.long (((v1 + v2) + v3) + v4))])
  refine own_ladd (pc' := 24) X130 hx (hb hby d5_23) rfl ?_
  refine own_aloadN (pc' := 25) X130 hx (hb hby d5_24) rfl rfl rfl ?_
  obtain ⟨T131, X131, e131, st131⟩ := getF X130 hx hZ hown (host := "") (Or.inl (hw _ (List.mem_of_getElem? (i := 43) rfl))) Via.refl e130 F6 (g := (mkF m 25 #[.val (.ref a1)] [(.ref a1), (.long ((((v1 + v2) + v3) + v4) + v5))])) rfl rfl (hb hby d5_25)
  refine Goes.pre st131 ?_
  show Goes p e below s 0 0 (Q_4 Z a1 v1 v2 v3 v4 v5 v6 v7 v8 h0 n0) T131 (mkF m 28 #[.val (.ref a1)] [(.long v6), (.long ((((v1 + v2) + v3) + v4) + v5))])
  refine own_ladd (pc' := 29) X131 hx (hb hby d5_28) rfl ?_
  refine own_aloadN (pc' := 30) X131 hx (hb hby d5_29) rfl rfl rfl ?_
  obtain ⟨T132, X132, e132, st132⟩ := getF X131 hx hZ hown (host := "") (Or.inl (hw _ (List.mem_of_getElem? (i := 44) rfl))) Via.refl e131 F7 (g := (mkF m 30 #[.val (.ref a1)] [(.ref a1), (.long (((((v1 + v2) + v3) + v4) + v5) + v6))])) rfl rfl (hb hby d5_30)
  refine Goes.pre st132 ?_
  show Goes p e below s 0 0 (Q_4 Z a1 v1 v2 v3 v4 v5 v6 v7 v8 h0 n0) T132 (mkF m 33 #[.val (.ref a1)] [(.long v7), (.long (((((v1 + v2) + v3) + v4) + v5) + v6))])
  refine own_ladd (pc' := 34) X132 hx (hb hby d5_33) rfl ?_
  refine own_aloadN (pc' := 35) X132 hx (hb hby d5_34) rfl rfl rfl ?_
  obtain ⟨T133, X133, e133, st133⟩ := getF X132 hx hZ hown (host := "") (Or.inl (hw _ (List.mem_of_getElem? (i := 45) rfl))) Via.refl e132 F8 (g := (mkF m 35 #[.val (.ref a1)] [(.ref a1), (.long ((((((v1 + v2) + v3) + v4) + v5) + v6) + v7))])) rfl rfl (hb hby d5_35)
  refine Goes.pre st133 ?_
  show Goes p e below s 0 0 (Q_4 Z a1 v1 v2 v3 v4 v5 v6 v7 v8 h0 n0) T133 (mkF m 38 #[.val (.ref a1)] [(.long v8), (.long ((((((v1 + v2) + v3) + v4) + v5) + v6) + v7))])
  refine own_ladd (pc' := 39) X133 hx (hb hby d5_38) rfl ?_
  exact own_retJ X133 hx hlk Bd.returns (hb hby d5_39) (by decide) (by decide) ⟨rfl, N0, e133⟩
theorem pn_0 : plainFor x = true := by first | exact plainFor_of_name (by simp [plainName, overriddenIn, x]; done) | exact plainFor_of_name (by decide +kernel) | decide +kernel
theorem pd_0 : parseMethodDescriptor "(IJJJJJ)Z" = some ⟨[.int, .long, .long, .long, .long, .long], some .boolean⟩ := by decide +kernel
theorem ef_0 (m : MethodId) (q0 : Int32) (q1 : Int64) (q2 : Int64) (q3 : Int64) (q4 : Int64) (q5 : Int64) : entryFrame m #[(.int q0), (.long q1), (.long q2), (.long q3), (.long q4), (.long q5)] maxLocals = mkF m 0 #[.val (.int q0), .val (.long q1), .second, .val (.long q2), .second, .val (.long q3), .second, .val (.long q4), .second, .val (.long q5), .second, .unset, .unset, .unset, .unset, .unset, .unset, .unset, .unset, .unset, .unset] [] := by first | (simp [entryFrame, mkF, argsToLocals, Value.category, maxLocals]; done) | rfl
def Q_0 (Z : State) (q0 : Int32) (q1 : Int64) (q2 : Int64) (q3 : Int64) (q4 : Int64) (q5 : Int64) (h0 : Heap) (n0 : Nat) (v : Option Value) (h : Heap) (L : List Loc) : Prop := v = some (.int 1) ∧ Fr n0 L
set_option maxRecDepth 65536 in
set_option maxHeartbeats 40000000 in
theorem rm_0 (l : Launch) (Z : State) (a0 : Array Value) (hw : ∀ d ∈ tables_1, d.before a0 Z = true) (ws : List Jvm.Cond) (q0 : Int32) (q1 : Int64) (q2 : Int64) (q3 : Int64) (q4 : Int64) (q5 : Int64) (h0 : Heap) (n0 : Nat) (Z0 : n0 ≤ h0.size) :
    MetFree l x (head1 (Jvm.Cond.code x code maxLocals ret :: ws) room_1) (fun a U => a = #[(.int q0), (.long q1), (.long q2), (.long q3), (.long q4), (.long q5)] ∧ Z.Warmed39 U.vm ∧ U.heap = h0) (fun _ _ _ _ _ => True) (fun _ U o U' => ∃ v L, o = .returned v ∧ (Q_0 Z q0 q1 q2 q3 q4 q5 h0 n0) v U'.heap L ∧ FrameEnd U o U' L room_1.cells room_1.slots) := by
  refine MetFree.of_bodySF pn_0 hisR ?_
  intro p e s m args below meth c s₁ Bd hml0 hP hK
  obtain ⟨rfl, hZ, hh⟩ := hP
  have hx := Bd.exec
  have hby := Bd.bytes
  have hlk : meth.locks = false := BodyLoose.notSynchronized Bd
  have hml : c.maxLocals = 21 := hml0
  have hown : s.vm.findClass "com/example/reciprocal/reciprocal/speed/PlainRecordSumPinLaw" = some m.cls := findClass_of_methodNamed Bd.named
  have hnm := (name_of_methodNamed Bd.named Bd.method).1
  have X0 : Stand p l e room_1 s m #[(.int q0), (.long q1), (.long q2), (.long q3), (.long q4), (.long q5)] below meth c s₁ [] 0 0 := Stand.of_body Bd
  have e0 : s₁.heap = h0 := by rw [← hh, Bd.state]; rfl
  have N0 := Fr.nil n0
  refine own_enter (Q := (Q_0 Z q0 q1 q2 q3 q4 q5 h0 n0)) (cs := 16) (ss := 128) (ef_0 m q0 q1 q2 q3 q4 q5) ?_
  show Goes p e below s 16 128 (Q_0 Z q0 q1 q2 q3 q4 q5 h0 n0) s₁ (mkF m 0 #[.val (.int q0), .val (.long q1), .second, .val (.long q2), .second, .val (.long q3), .second, .val (.long q4), .second, .val (.long q5), .second, .unset, .unset, .unset, .unset, .unset, .unset, .unset, .unset, .unset, .unset] [])
  refine own_iloadN (pc' := 1) X0 hx (hb hby at_0) rfl rfl ?_
  refine own_bipush (pc' := 3) X0 hx (hb hby at_1) (v := (7 : Int32)) rfl rfl ?_
  refine own_iand (pc' := 4) X0 hx (hb hby at_3) rfl ?_
  refine own_istore (pc' := 6) X0 hx (hb hby at_4) (Ls' := #[.val (.int q0), .val (.long q1), .second, .val (.long q2), .second, .val (.long q3), .second, .val (.long q4), .second, .val (.long q5), .second, .val (.int (q0 &&& (7 : Int32))), .unset, .unset, .unset, .unset, .unset, .unset, .unset, .unset, .unset]) rfl rfl ?_
  obtain ⟨T134, h134, X134, e134, E134, A134, D134, -, st134⟩ := newO X0 hx hZ hown (hw _ (List.mem_of_getElem? (i := 0) rfl)) (hw _ (List.mem_of_getElem? (i := 1) rfl)) (hw _ (List.mem_of_getElem? (i := 2) rfl)) e0 (g := (mkF m 6 #[.val (.int q0), .val (.long q1), .second, .val (.long q2), .second, .val (.long q3), .second, .val (.long q4), .second, .val (.long q5), .second, .val (.int (q0 &&& (7 : Int32))), .unset, .unset, .unset, .unset, .unset, .unset, .unset, .unset, .unset] [])) rfl (hb hby at_6) (by decide) (by decide)
  obtain ⟨a134, g134⟩ : ∃ z, z = Array.size (h0) := ⟨_, rfl⟩
  rw [← g134] at A134 D134 st134
  refine Goes.pre st134 ?_
  show Goes p e below s 16 128 (Q_0 Z q0 q1 q2 q3 q4 q5 h0 n0) T134 (mkF m 9 #[.val (.int q0), .val (.long q1), .second, .val (.long q2), .second, .val (.long q3), .second, .val (.long q4), .second, .val (.long q5), .second, .val (.int (q0 &&& (7 : Int32))), .unset, .unset, .unset, .unset, .unset, .unset, .unset, .unset, .unset] [(.ref a134)])
  have F134_f1 : Fld Z h134 a134 "com/example/reciprocal/reciprocal/speed/PlainRecord" "f1" "J" (.long (0 : Int64)) := D134 (Or.inl (hw _ (List.mem_of_getElem? (i := 14) rfl))) (ty := .long) (by decide)
  have F134_f2 : Fld Z h134 a134 "com/example/reciprocal/reciprocal/speed/PlainRecord" "f2" "J" (.long (0 : Int64)) := D134 (Or.inl (hw _ (List.mem_of_getElem? (i := 16) rfl))) (ty := .long) (by decide)
  have F134_f3 : Fld Z h134 a134 "com/example/reciprocal/reciprocal/speed/PlainRecord" "f3" "J" (.long (0 : Int64)) := D134 (Or.inl (hw _ (List.mem_of_getElem? (i := 18) rfl))) (ty := .long) (by decide)
  have F134_f4 : Fld Z h134 a134 "com/example/reciprocal/reciprocal/speed/PlainRecord" "f4" "J" (.long (0 : Int64)) := D134 (Or.inl (hw _ (List.mem_of_getElem? (i := 20) rfl))) (ty := .long) (by decide)
  have F134_f5 : Fld Z h134 a134 "com/example/reciprocal/reciprocal/speed/PlainRecord" "f5" "J" (.long (0 : Int64)) := D134 (Or.inl (hw _ (List.mem_of_getElem? (i := 22) rfl))) (ty := .long) (by decide)
  have F134_f6 : Fld Z h134 a134 "com/example/reciprocal/reciprocal/speed/PlainRecord" "f6" "J" (.long (0 : Int64)) := D134 (Or.inl (hw _ (List.mem_of_getElem? (i := 24) rfl))) (ty := .long) (by decide)
  have F134_f7 : Fld Z h134 a134 "com/example/reciprocal/reciprocal/speed/PlainRecord" "f7" "J" (.long (0 : Int64)) := D134 (Or.inl (hw _ (List.mem_of_getElem? (i := 27) rfl))) (ty := .long) (by decide)
  have F134_f8 : Fld Z h134 a134 "com/example/reciprocal/reciprocal/speed/PlainRecord" "f8" "J" (.long (0 : Int64)) := D134 (Or.inl (hw _ (List.mem_of_getElem? (i := 29) rfl))) (ty := .long) (by decide)
  have R1_1 : own_Rec Z h134 a134 (0 : Int64) (0 : Int64) (0 : Int64) (0 : Int64) (0 : Int64) (0 : Int64) (0 : Int64) (0 : Int64) := ⟨A134, F134_f1, F134_f2, F134_f3, F134_f4, F134_f5, F134_f6, F134_f7, F134_f8⟩
  have Z1 : n0 ≤ Array.size h134 := Nat.le_trans Z0 E134.1
  have G1 : n0 ≤ a134 := Nat.le_trans Z0 (Nat.le_of_eq g134.symm)
  refine own_dup (pc' := 10) X134 hx (hb hby at_9) rfl rfl ?_
  obtain ⟨_, _, ⟨T135, L135, k135, n135⟩, -, X135, ⟨Lc135, hQ135, l135, y135, z135⟩, st135⟩ := X134.specialBack hx (y := (⟨"com/example/reciprocal/reciprocal/speed/PlainRecord", "<init>", "()V"⟩ : MethodName)) rfl hown (mvT hZ (hw _ (List.mem_of_getElem? (i := 3) rfl))) (mvT hZ (hw _ (List.mem_of_getElem? (i := 4) rfl))) (mvT hZ (hw _ (List.mem_of_getElem? (i := 5) rfl))) (by decide) (backOf (W := 1) (rm_1 l Z a0 hw [] a134 h134 n0 Z1) hZ (hw _ (List.mem_of_getElem? (i := 5) rfl)) (hw _ (List.mem_of_getElem? (i := 2) rfl)) (by decide) (by decide)) (g := (mkF m 10 #[.val (.int q0), .val (.long q1), .second, .val (.long q2), .second, .val (.long q3), .second, .val (.long q4), .second, .val (.long q5), .second, .val (.int (q0 &&& (7 : Int32))), .unset, .unset, .unset, .unset, .unset, .unset, .unset, .unset, .unset] [(.ref a134), (.ref a134)])) rfl (by rw [hml]; rfl) (Steps.refl _) (a := a134) (argsL := []) (rest := [(.ref a134)]) (lenOf pd_1 rfl) rfl (by show 2 * 0 + _ ≤ _; exact Nat.le_of_eq rfl) (hb hby at_10) (fun _ _ => ⟨rfl, e134, (by decide : 1 + 0 ≤ _), (by decide : 8 + 0 ≤ _)⟩)
  dsimp only [Pt.U, Pt.locs, Pt.cells, Pt.slots] at X135 l135 y135 z135 st135 hQ135
  subst l135 y135 z135
  obtain ⟨rfl, M135, ei1⟩ := hQ135
  have N135 := Fr.app N0 M135
  refine Goes.aft st135 ?_
  show Goes p e below s 16 128 (Q_0 Z q0 q1 q2 q3 q4 q5 h0 n0) T135 (mkF m 13 #[.val (.int q0), .val (.long q1), .second, .val (.long q2), .second, .val (.long q3), .second, .val (.long q4), .second, .val (.long q5), .second, .val (.int (q0 &&& (7 : Int32))), .unset, .unset, .unset, .unset, .unset, .unset, .unset, .unset, .unset] [(.ref a134)])
  refine own_astore (pc' := 15) X135 hx (hb hby at_13) rfl (Ls' := #[.val (.int q0), .val (.long q1), .second, .val (.long q2), .second, .val (.long q3), .second, .val (.long q4), .second, .val (.long q5), .second, .val (.int (q0 &&& (7 : Int32))), .val (.ref a134), .unset, .unset, .unset, .unset, .unset, .unset, .unset, .unset]) rfl rfl ?_
  obtain ⟨T136, h136, X136, e136, E136, A136, D136, -, st136⟩ := newO X135 hx hZ hown (hw _ (List.mem_of_getElem? (i := 0) rfl)) (hw _ (List.mem_of_getElem? (i := 1) rfl)) (hw _ (List.mem_of_getElem? (i := 2) rfl)) ei1 (g := (mkF m 15 #[.val (.int q0), .val (.long q1), .second, .val (.long q2), .second, .val (.long q3), .second, .val (.long q4), .second, .val (.long q5), .second, .val (.int (q0 &&& (7 : Int32))), .val (.ref a134), .unset, .unset, .unset, .unset, .unset, .unset, .unset, .unset] [])) rfl (hb hby at_15) (by decide) (by decide)
  obtain ⟨a136, g136⟩ : ∃ z, z = Array.size (h134) := ⟨_, rfl⟩
  rw [← g136] at A136 D136 st136
  refine Goes.pre st136 ?_
  show Goes p e below s 16 128 (Q_0 Z q0 q1 q2 q3 q4 q5 h0 n0) T136 (mkF m 18 #[.val (.int q0), .val (.long q1), .second, .val (.long q2), .second, .val (.long q3), .second, .val (.long q4), .second, .val (.long q5), .second, .val (.int (q0 &&& (7 : Int32))), .val (.ref a134), .unset, .unset, .unset, .unset, .unset, .unset, .unset, .unset] [(.ref a136)])
  have F136_f1 : Fld Z h136 a136 "com/example/reciprocal/reciprocal/speed/PlainRecord" "f1" "J" (.long (0 : Int64)) := D136 (Or.inl (hw _ (List.mem_of_getElem? (i := 14) rfl))) (ty := .long) (by decide)
  have F136_f2 : Fld Z h136 a136 "com/example/reciprocal/reciprocal/speed/PlainRecord" "f2" "J" (.long (0 : Int64)) := D136 (Or.inl (hw _ (List.mem_of_getElem? (i := 16) rfl))) (ty := .long) (by decide)
  have F136_f3 : Fld Z h136 a136 "com/example/reciprocal/reciprocal/speed/PlainRecord" "f3" "J" (.long (0 : Int64)) := D136 (Or.inl (hw _ (List.mem_of_getElem? (i := 18) rfl))) (ty := .long) (by decide)
  have F136_f4 : Fld Z h136 a136 "com/example/reciprocal/reciprocal/speed/PlainRecord" "f4" "J" (.long (0 : Int64)) := D136 (Or.inl (hw _ (List.mem_of_getElem? (i := 20) rfl))) (ty := .long) (by decide)
  have F136_f5 : Fld Z h136 a136 "com/example/reciprocal/reciprocal/speed/PlainRecord" "f5" "J" (.long (0 : Int64)) := D136 (Or.inl (hw _ (List.mem_of_getElem? (i := 22) rfl))) (ty := .long) (by decide)
  have F136_f6 : Fld Z h136 a136 "com/example/reciprocal/reciprocal/speed/PlainRecord" "f6" "J" (.long (0 : Int64)) := D136 (Or.inl (hw _ (List.mem_of_getElem? (i := 24) rfl))) (ty := .long) (by decide)
  have F136_f7 : Fld Z h136 a136 "com/example/reciprocal/reciprocal/speed/PlainRecord" "f7" "J" (.long (0 : Int64)) := D136 (Or.inl (hw _ (List.mem_of_getElem? (i := 27) rfl))) (ty := .long) (by decide)
  have F136_f8 : Fld Z h136 a136 "com/example/reciprocal/reciprocal/speed/PlainRecord" "f8" "J" (.long (0 : Int64)) := D136 (Or.inl (hw _ (List.mem_of_getElem? (i := 29) rfl))) (ty := .long) (by decide)
  have R2_2 : own_Rec Z h136 a136 (0 : Int64) (0 : Int64) (0 : Int64) (0 : Int64) (0 : Int64) (0 : Int64) (0 : Int64) (0 : Int64) := ⟨A136, F136_f1, F136_f2, F136_f3, F136_f4, F136_f5, F136_f6, F136_f7, F136_f8⟩
  have Z2 : n0 ≤ Array.size h136 := Nat.le_trans Z1 E136.1
  have G2 : n0 ≤ a136 := Nat.le_trans Z1 (Nat.le_of_eq g136.symm)
  have R1_2 : own_Rec Z h136 a134 (0 : Int64) (0 : Int64) (0 : Int64) (0 : Int64) (0 : Int64) (0 : Int64) (0 : Int64) (0 : Int64) := R1_1.ext E136
  have ne12 : a134 ≠ a136 := fun q => absurd (q ▸ R1_1.1.lt) (by rw [g136]; exact Nat.lt_irrefl _)
  refine own_dup (pc' := 19) X136 hx (hb hby at_18) rfl rfl ?_
  obtain ⟨_, _, ⟨T137, L137, k137, n137⟩, -, X137, ⟨Lc137, hQ137, l137, y137, z137⟩, st137⟩ := X136.specialBack hx (y := (⟨"com/example/reciprocal/reciprocal/speed/PlainRecord", "<init>", "()V"⟩ : MethodName)) rfl hown (mvT hZ (hw _ (List.mem_of_getElem? (i := 3) rfl))) (mvT hZ (hw _ (List.mem_of_getElem? (i := 4) rfl))) (mvT hZ (hw _ (List.mem_of_getElem? (i := 5) rfl))) (by decide) (backOf (W := 1) (rm_1 l Z a0 hw [] a136 h136 n0 Z2) hZ (hw _ (List.mem_of_getElem? (i := 5) rfl)) (hw _ (List.mem_of_getElem? (i := 2) rfl)) (by decide) (by decide)) (g := (mkF m 19 #[.val (.int q0), .val (.long q1), .second, .val (.long q2), .second, .val (.long q3), .second, .val (.long q4), .second, .val (.long q5), .second, .val (.int (q0 &&& (7 : Int32))), .val (.ref a134), .unset, .unset, .unset, .unset, .unset, .unset, .unset, .unset] [(.ref a136), (.ref a136)])) rfl (by rw [hml]; rfl) (Steps.refl _) (a := a136) (argsL := []) (rest := [(.ref a136)]) (lenOf pd_1 rfl) rfl (by show 2 * 0 + _ ≤ _; exact Nat.le_of_eq rfl) (hb hby at_19) (fun _ _ => ⟨rfl, e136, (by decide : 2 + 0 ≤ _), (by decide : 16 + 0 ≤ _)⟩)
  dsimp only [Pt.U, Pt.locs, Pt.cells, Pt.slots] at X137 l137 y137 z137 st137 hQ137
  subst l137 y137 z137
  obtain ⟨rfl, M137, ei2⟩ := hQ137
  have N137 := Fr.app N135 M137
  refine Goes.aft st137 ?_
  show Goes p e below s 16 128 (Q_0 Z q0 q1 q2 q3 q4 q5 h0 n0) T137 (mkF m 22 #[.val (.int q0), .val (.long q1), .second, .val (.long q2), .second, .val (.long q3), .second, .val (.long q4), .second, .val (.long q5), .second, .val (.int (q0 &&& (7 : Int32))), .val (.ref a134), .unset, .unset, .unset, .unset, .unset, .unset, .unset, .unset] [(.ref a136)])
  refine own_astore (pc' := 24) X137 hx (hb hby at_22) rfl (Ls' := #[.val (.int q0), .val (.long q1), .second, .val (.long q2), .second, .val (.long q3), .second, .val (.long q4), .second, .val (.long q5), .second, .val (.int (q0 &&& (7 : Int32))), .val (.ref a134), .val (.ref a136), .unset, .unset, .unset, .unset, .unset, .unset, .unset]) rfl rfl ?_
  obtain ⟨T138, h138, X138, e138, E138, A138, D138, -, st138⟩ := newO X137 hx hZ hown (hw _ (List.mem_of_getElem? (i := 0) rfl)) (hw _ (List.mem_of_getElem? (i := 1) rfl)) (hw _ (List.mem_of_getElem? (i := 2) rfl)) ei2 (g := (mkF m 24 #[.val (.int q0), .val (.long q1), .second, .val (.long q2), .second, .val (.long q3), .second, .val (.long q4), .second, .val (.long q5), .second, .val (.int (q0 &&& (7 : Int32))), .val (.ref a134), .val (.ref a136), .unset, .unset, .unset, .unset, .unset, .unset, .unset] [])) rfl (hb hby at_24) (by decide) (by decide)
  obtain ⟨a138, g138⟩ : ∃ z, z = Array.size (h136) := ⟨_, rfl⟩
  rw [← g138] at A138 D138 st138
  refine Goes.pre st138 ?_
  show Goes p e below s 16 128 (Q_0 Z q0 q1 q2 q3 q4 q5 h0 n0) T138 (mkF m 27 #[.val (.int q0), .val (.long q1), .second, .val (.long q2), .second, .val (.long q3), .second, .val (.long q4), .second, .val (.long q5), .second, .val (.int (q0 &&& (7 : Int32))), .val (.ref a134), .val (.ref a136), .unset, .unset, .unset, .unset, .unset, .unset, .unset] [(.ref a138)])
  have F138_f1 : Fld Z h138 a138 "com/example/reciprocal/reciprocal/speed/PlainRecord" "f1" "J" (.long (0 : Int64)) := D138 (Or.inl (hw _ (List.mem_of_getElem? (i := 14) rfl))) (ty := .long) (by decide)
  have F138_f2 : Fld Z h138 a138 "com/example/reciprocal/reciprocal/speed/PlainRecord" "f2" "J" (.long (0 : Int64)) := D138 (Or.inl (hw _ (List.mem_of_getElem? (i := 16) rfl))) (ty := .long) (by decide)
  have F138_f3 : Fld Z h138 a138 "com/example/reciprocal/reciprocal/speed/PlainRecord" "f3" "J" (.long (0 : Int64)) := D138 (Or.inl (hw _ (List.mem_of_getElem? (i := 18) rfl))) (ty := .long) (by decide)
  have F138_f4 : Fld Z h138 a138 "com/example/reciprocal/reciprocal/speed/PlainRecord" "f4" "J" (.long (0 : Int64)) := D138 (Or.inl (hw _ (List.mem_of_getElem? (i := 20) rfl))) (ty := .long) (by decide)
  have F138_f5 : Fld Z h138 a138 "com/example/reciprocal/reciprocal/speed/PlainRecord" "f5" "J" (.long (0 : Int64)) := D138 (Or.inl (hw _ (List.mem_of_getElem? (i := 22) rfl))) (ty := .long) (by decide)
  have F138_f6 : Fld Z h138 a138 "com/example/reciprocal/reciprocal/speed/PlainRecord" "f6" "J" (.long (0 : Int64)) := D138 (Or.inl (hw _ (List.mem_of_getElem? (i := 24) rfl))) (ty := .long) (by decide)
  have F138_f7 : Fld Z h138 a138 "com/example/reciprocal/reciprocal/speed/PlainRecord" "f7" "J" (.long (0 : Int64)) := D138 (Or.inl (hw _ (List.mem_of_getElem? (i := 27) rfl))) (ty := .long) (by decide)
  have F138_f8 : Fld Z h138 a138 "com/example/reciprocal/reciprocal/speed/PlainRecord" "f8" "J" (.long (0 : Int64)) := D138 (Or.inl (hw _ (List.mem_of_getElem? (i := 29) rfl))) (ty := .long) (by decide)
  have R3_3 : own_Rec Z h138 a138 (0 : Int64) (0 : Int64) (0 : Int64) (0 : Int64) (0 : Int64) (0 : Int64) (0 : Int64) (0 : Int64) := ⟨A138, F138_f1, F138_f2, F138_f3, F138_f4, F138_f5, F138_f6, F138_f7, F138_f8⟩
  have Z3 : n0 ≤ Array.size h138 := Nat.le_trans Z2 E138.1
  have G3 : n0 ≤ a138 := Nat.le_trans Z2 (Nat.le_of_eq g138.symm)
  have R1_3 : own_Rec Z h138 a134 (0 : Int64) (0 : Int64) (0 : Int64) (0 : Int64) (0 : Int64) (0 : Int64) (0 : Int64) (0 : Int64) := R1_2.ext E138
  have R2_3 : own_Rec Z h138 a136 (0 : Int64) (0 : Int64) (0 : Int64) (0 : Int64) (0 : Int64) (0 : Int64) (0 : Int64) (0 : Int64) := R2_2.ext E138
  have ne13 : a134 ≠ a138 := fun q => absurd (q ▸ R1_2.1.lt) (by rw [g138]; exact Nat.lt_irrefl _)
  have ne23 : a136 ≠ a138 := fun q => absurd (q ▸ R2_2.1.lt) (by rw [g138]; exact Nat.lt_irrefl _)
  refine own_dup (pc' := 28) X138 hx (hb hby at_27) rfl rfl ?_
  obtain ⟨_, _, ⟨T139, L139, k139, n139⟩, -, X139, ⟨Lc139, hQ139, l139, y139, z139⟩, st139⟩ := X138.specialBack hx (y := (⟨"com/example/reciprocal/reciprocal/speed/PlainRecord", "<init>", "()V"⟩ : MethodName)) rfl hown (mvT hZ (hw _ (List.mem_of_getElem? (i := 3) rfl))) (mvT hZ (hw _ (List.mem_of_getElem? (i := 4) rfl))) (mvT hZ (hw _ (List.mem_of_getElem? (i := 5) rfl))) (by decide) (backOf (W := 1) (rm_1 l Z a0 hw [] a138 h138 n0 Z3) hZ (hw _ (List.mem_of_getElem? (i := 5) rfl)) (hw _ (List.mem_of_getElem? (i := 2) rfl)) (by decide) (by decide)) (g := (mkF m 28 #[.val (.int q0), .val (.long q1), .second, .val (.long q2), .second, .val (.long q3), .second, .val (.long q4), .second, .val (.long q5), .second, .val (.int (q0 &&& (7 : Int32))), .val (.ref a134), .val (.ref a136), .unset, .unset, .unset, .unset, .unset, .unset, .unset] [(.ref a138), (.ref a138)])) rfl (by rw [hml]; rfl) (Steps.refl _) (a := a138) (argsL := []) (rest := [(.ref a138)]) (lenOf pd_1 rfl) rfl (by show 2 * 0 + _ ≤ _; exact Nat.le_of_eq rfl) (hb hby at_28) (fun _ _ => ⟨rfl, e138, (by decide : 3 + 0 ≤ _), (by decide : 24 + 0 ≤ _)⟩)
  dsimp only [Pt.U, Pt.locs, Pt.cells, Pt.slots] at X139 l139 y139 z139 st139 hQ139
  subst l139 y139 z139
  obtain ⟨rfl, M139, ei3⟩ := hQ139
  have N139 := Fr.app N137 M139
  refine Goes.aft st139 ?_
  show Goes p e below s 16 128 (Q_0 Z q0 q1 q2 q3 q4 q5 h0 n0) T139 (mkF m 31 #[.val (.int q0), .val (.long q1), .second, .val (.long q2), .second, .val (.long q3), .second, .val (.long q4), .second, .val (.long q5), .second, .val (.int (q0 &&& (7 : Int32))), .val (.ref a134), .val (.ref a136), .unset, .unset, .unset, .unset, .unset, .unset, .unset] [(.ref a138)])
  refine own_astore (pc' := 33) X139 hx (hb hby at_31) rfl (Ls' := #[.val (.int q0), .val (.long q1), .second, .val (.long q2), .second, .val (.long q3), .second, .val (.long q4), .second, .val (.long q5), .second, .val (.int (q0 &&& (7 : Int32))), .val (.ref a134), .val (.ref a136), .val (.ref a138), .unset, .unset, .unset, .unset, .unset, .unset]) rfl rfl ?_
  refine own_aload (pc' := 35) X139 hx (hb hby at_33) rfl rfl rfl ?_
  refine own_lloadN (pc' := 36) X139 hx (hb hby at_35) rfl rfl ?_
  refine own_lload (pc' := 38) X139 hx (hb hby at_36) rfl rfl ?_
  refine own_lload (pc' := 40) X139 hx (hb hby at_38) rfl rfl ?_
  refine own_lload (pc' := 42) X139 hx (hb hby at_40) rfl rfl ?_
  obtain ⟨_, _, ⟨T140, L140, k140, n140⟩, -, X140, ⟨Lc140, hQ140, l140, y140, z140⟩, st140⟩ := Jvm.LawKit.callS X139 hx (y := (⟨"com/example/reciprocal/reciprocal/speed/PlainRecordSumPinLaw", "fill", "(Lcom/example/reciprocal/reciprocal/speed/PlainRecord;JJJJ)V"⟩ : MethodName)) hown (mvT hZ (hw _ (List.mem_of_getElem? (i := 9) rfl))) (mvT hZ (hw _ (List.mem_of_getElem? (i := 10) rfl))) (mvT hZ (hw _ (List.mem_of_getElem? (i := 11) rfl))) (mvT hZ (hw _ (List.mem_of_getElem? (i := 12) rfl))) (by decide) (backOf (W := 0) (rm_2 l Z a0 hw [] a136 q2 q3 q4 q5 (0 : Int64) (0 : Int64) (0 : Int64) (0 : Int64) (0 : Int64) (0 : Int64) (0 : Int64) (0 : Int64) h138 n0 Z3 R2_3 G2) hZ (hw _ (List.mem_of_getElem? (i := 12) rfl)) (hw _ (List.mem_of_getElem? (i := 11) rfl)) (by decide) (by decide)) (g := (mkF m 42 #[.val (.int q0), .val (.long q1), .second, .val (.long q2), .second, .val (.long q3), .second, .val (.long q4), .second, .val (.long q5), .second, .val (.int (q0 &&& (7 : Int32))), .val (.ref a134), .val (.ref a136), .val (.ref a138), .unset, .unset, .unset, .unset, .unset, .unset] [(.long q5), (.long q4), (.long q3), (.long q2), (.ref a136)])) rfl (by rw [hml]; rfl) (argsL := [(.ref a136), (.long q2), (.long q3), (.long q4), (.long q5)]) (rest := []) (lenOf pd_2 rfl) rfl (by show 2 * 0 + _ ≤ _; exact Nat.le_of_eq rfl) (hb hby at_42) (fun _ _ => ⟨rfl, ei3, (by decide : 3 + 0 ≤ _), (by decide : 24 + 0 ≤ _)⟩)
  dsimp only [Pt.U, Pt.locs, Pt.cells, Pt.slots] at X140 l140 y140 z140 st140 hQ140
  subst l140 y140 z140
  obtain ⟨rfl, M140, KA, R2_A⟩ := hQ140
  have N140 := Fr.app N139 M140
  refine Goes.pre st140 ?_
  show Goes p e below s 16 128 (Q_0 Z q0 q1 q2 q3 q4 q5 h0 n0) T140 (mkF m 45 #[.val (.int q0), .val (.long q1), .second, .val (.long q2), .second, .val (.long q3), .second, .val (.long q4), .second, .val (.long q5), .second, .val (.int (q0 &&& (7 : Int32))), .val (.ref a134), .val (.ref a136), .val (.ref a138), .unset, .unset, .unset, .unset, .unset, .unset] [])
  have R1_A := R1_3.keep KA (ninS ne12 nin0)
  have R3_A := R3_3.keep KA (ninS (Ne.symm ne23) nin0)
  have ZA : n0 ≤ Array.size T140.heap := Nat.le_trans Z3 KA.1
  refine own_aload (pc' := 47) X140 hx (hb hby at_45) rfl rfl rfl ?_
  refine own_lloadN (pc' := 48) X140 hx (hb hby at_47) rfl rfl ?_
  refine own_lload (pc' := 50) X140 hx (hb hby at_48) rfl rfl ?_
  refine own_lload (pc' := 52) X140 hx (hb hby at_50) rfl rfl ?_
  refine own_lload (pc' := 54) X140 hx (hb hby at_52) rfl rfl ?_
  obtain ⟨_, _, ⟨T141, L141, k141, n141⟩, -, X141, ⟨Lc141, hQ141, l141, y141, z141⟩, st141⟩ := Jvm.LawKit.callS X140 hx (y := (⟨"com/example/reciprocal/reciprocal/speed/PlainRecordSumPinLaw", "fill", "(Lcom/example/reciprocal/reciprocal/speed/PlainRecord;JJJJ)V"⟩ : MethodName)) hown (mvT hZ (hw _ (List.mem_of_getElem? (i := 9) rfl))) (mvT hZ (hw _ (List.mem_of_getElem? (i := 10) rfl))) (mvT hZ (hw _ (List.mem_of_getElem? (i := 11) rfl))) (mvT hZ (hw _ (List.mem_of_getElem? (i := 12) rfl))) (by decide) (backOf (W := 0) (rm_2 l Z a0 hw [] a138 q2 q3 q4 q5 (0 : Int64) (0 : Int64) (0 : Int64) (0 : Int64) (0 : Int64) (0 : Int64) (0 : Int64) (0 : Int64) T140.heap n0 ZA R3_A G3) hZ (hw _ (List.mem_of_getElem? (i := 12) rfl)) (hw _ (List.mem_of_getElem? (i := 11) rfl)) (by decide) (by decide)) (g := (mkF m 54 #[.val (.int q0), .val (.long q1), .second, .val (.long q2), .second, .val (.long q3), .second, .val (.long q4), .second, .val (.long q5), .second, .val (.int (q0 &&& (7 : Int32))), .val (.ref a134), .val (.ref a136), .val (.ref a138), .unset, .unset, .unset, .unset, .unset, .unset] [(.long q5), (.long q4), (.long q3), (.long q2), (.ref a138)])) rfl (by rw [hml]; rfl) (argsL := [(.ref a138), (.long q2), (.long q3), (.long q4), (.long q5)]) (rest := []) (lenOf pd_2 rfl) rfl (by show 2 * 0 + _ ≤ _; exact Nat.le_of_eq rfl) (hb hby at_54) (fun _ _ => ⟨rfl, rfl, (by decide : 3 + 0 ≤ _), (by decide : 24 + 0 ≤ _)⟩)
  dsimp only [Pt.U, Pt.locs, Pt.cells, Pt.slots] at X141 l141 y141 z141 st141 hQ141
  subst l141 y141 z141
  obtain ⟨rfl, M141, KB, R3_B⟩ := hQ141
  have N141 := Fr.app N140 M141
  refine Goes.pre st141 ?_
  show Goes p e below s 16 128 (Q_0 Z q0 q1 q2 q3 q4 q5 h0 n0) T141 (mkF m 57 #[.val (.int q0), .val (.long q1), .second, .val (.long q2), .second, .val (.long q3), .second, .val (.long q4), .second, .val (.long q5), .second, .val (.int (q0 &&& (7 : Int32))), .val (.ref a134), .val (.ref a136), .val (.ref a138), .unset, .unset, .unset, .unset, .unset, .unset] [])
  have R1_B := R1_A.keep KB (ninS ne13 nin0)
  have R2_B := R2_A.keep KB (ninS ne23 nin0)
  have ZB : n0 ≤ Array.size T141.heap := Nat.le_trans ZA KB.1
  refine own_aload (pc' := 59) X141 hx (hb hby at_57) rfl rfl rfl ?_
  refine own_iload (pc' := 61) X141 hx (hb hby at_59) rfl rfl ?_
  refine own_lloadN (pc' := 62) X141 hx (hb hby at_61) rfl rfl ?_
  obtain ⟨_, _, ⟨T142, L142, k142, n142⟩, -, X142, ⟨Lc142, hQ142, l142, y142, z142⟩, st142⟩ := Jvm.LawKit.callS X141 hx (y := (⟨"com/example/reciprocal/reciprocal/speed/PlainRecordSumPinLaw", "bump", "(Lcom/example/reciprocal/reciprocal/speed/PlainRecord;IJ)V"⟩ : MethodName)) hown (mvT hZ (hw _ (List.mem_of_getElem? (i := 30) rfl))) (mvT hZ (hw _ (List.mem_of_getElem? (i := 31) rfl))) (mvT hZ (hw _ (List.mem_of_getElem? (i := 11) rfl))) (mvT hZ (hw _ (List.mem_of_getElem? (i := 32) rfl))) (by decide) (backOf (W := 0) (rm_3 l Z a0 hw [] a138 (q0 &&& (7 : Int32)) q1 q2 q3 q4 q5 (q2 ^^^ q3) (q4 - q5) (q2 ^^^ (-1 : Int64)) (q3 + q5) T141.heap n0 ZB R3_B G3) hZ (hw _ (List.mem_of_getElem? (i := 32) rfl)) (hw _ (List.mem_of_getElem? (i := 11) rfl)) (by decide) (by decide)) (g := (mkF m 62 #[.val (.int q0), .val (.long q1), .second, .val (.long q2), .second, .val (.long q3), .second, .val (.long q4), .second, .val (.long q5), .second, .val (.int (q0 &&& (7 : Int32))), .val (.ref a134), .val (.ref a136), .val (.ref a138), .unset, .unset, .unset, .unset, .unset, .unset] [(.long q1), (.int (q0 &&& (7 : Int32))), (.ref a138)])) rfl (by rw [hml]; rfl) (argsL := [(.ref a138), (.int (q0 &&& (7 : Int32))), (.long q1)]) (rest := []) (lenOf pd_3 rfl) rfl (by show 2 * 0 + _ ≤ _; exact Nat.le_of_eq rfl) (hb hby at_62) (fun _ _ => ⟨rfl, rfl, (by decide : 3 + 0 ≤ _), (by decide : 24 + 0 ≤ _)⟩)
  dsimp only [Pt.U, Pt.locs, Pt.cells, Pt.slots] at X142 l142 y142 z142 st142 hQ142
  subst l142 y142 z142
  obtain ⟨rfl, M142, KC, u1, u2, u3, u4, u5, u6, u7, u8, R3_C, hsum⟩ := hQ142
  have N142 := Fr.app N141 M142
  refine Goes.pre st142 ?_
  show Goes p e below s 16 128 (Q_0 Z q0 q1 q2 q3 q4 q5 h0 n0) T142 (mkF m 65 #[.val (.int q0), .val (.long q1), .second, .val (.long q2), .second, .val (.long q3), .second, .val (.long q4), .second, .val (.long q5), .second, .val (.int (q0 &&& (7 : Int32))), .val (.ref a134), .val (.ref a136), .val (.ref a138), .unset, .unset, .unset, .unset, .unset, .unset] [])
  have R1_C := R1_B.keep KC (ninS ne13 nin0)
  have R2_C := R2_B.keep KC (ninS ne23 nin0)
  have ZC : n0 ≤ Array.size T142.heap := Nat.le_trans ZB KC.1
  refine own_aload (pc' := 67) X142 hx (hb hby at_65) rfl rfl rfl ?_
  obtain ⟨cq144, kq144, q144a, q144b, q144c⟩ := isOf hZ rfl R1_C.1
  obtain ⟨_, _, ⟨T143, L143, k143, n143⟩, -, X143, ⟨Lc143, hQ143, l143, y143, z143⟩, st143⟩ := X142.virtualBack hx (y := (⟨"com/example/reciprocal/reciprocal/speed/PlainRecord", "sum", "()J"⟩ : MethodName)) (z := (⟨"com/example/reciprocal/reciprocal/speed/PlainRecord", "sum", "()J"⟩ : MethodName)) hown (mvT hZ (hw _ (List.mem_of_getElem? (i := 33) rfl))) (mvT hZ (hw _ (List.mem_of_getElem? (i := 34) rfl))) (notFace_of_selects (args := #[]) (mvT hZ (hw _ (List.mem_of_getElem? (i := 36) rfl)))) (mvT hZ (hw _ (List.mem_of_getElem? (i := 36) rfl))) (mvT hZ (hw _ (List.mem_of_getElem? (i := 35) rfl))) (by decide) (backOf (W := 0) (rm_4 l Z a0 hw [] a134 (0 : Int64) (0 : Int64) (0 : Int64) (0 : Int64) (0 : Int64) (0 : Int64) (0 : Int64) (0 : Int64) T142.heap n0 ZC R1_C) hZ (hw _ (List.mem_of_getElem? (i := 37) rfl)) (hw _ (List.mem_of_getElem? (i := 2) rfl)) (by decide) (by decide)) q144a q144c (g := (mkF m 67 #[.val (.int q0), .val (.long q1), .second, .val (.long q2), .second, .val (.long q3), .second, .val (.long q4), .second, .val (.long q5), .second, .val (.int (q0 &&& (7 : Int32))), .val (.ref a134), .val (.ref a136), .val (.ref a138), .unset, .unset, .unset, .unset, .unset, .unset] [(.ref a134)])) rfl (by rw [hml]; rfl) (Steps.refl _) (argsL := []) (rest := []) (lenOf pd_4 rfl) rfl (by show 2 * 0 + _ ≤ _; exact Nat.le_of_eq rfl) (hb hby at_67) (fun _ _ => ⟨rfl, rfl, (by decide : 3 + 0 ≤ _), (by decide : 24 + 0 ≤ _)⟩)
  dsimp only [Pt.U, Pt.locs, Pt.cells, Pt.slots] at X143 l143 y143 z143 st143 hQ143
  subst l143 y143 z143
  obtain ⟨rfl, M143, es1⟩ := hQ143
  have N143 := Fr.app N142 M143
  refine Goes.aft st143 ?_
  show Goes p e below s 16 128 (Q_0 Z q0 q1 q2 q3 q4 q5 h0 n0) T143 (mkF m 70 #[.val (.int q0), .val (.long q1), .second, .val (.long q2), .second, .val (.long q3), .second, .val (.long q4), .second, .val (.long q5), .second, .val (.int (q0 &&& (7 : Int32))), .val (.ref a134), .val (.ref a136), .val (.ref a138), .unset, .unset, .unset, .unset, .unset, .unset] [(.long (own_sum (0 : Int64) (0 : Int64) (0 : Int64) (0 : Int64) (0 : Int64) (0 : Int64) (0 : Int64) (0 : Int64)))])
  refine own_lstore (pc' := 72) X143 hx (hb hby at_70) (Ls' := #[.val (.int q0), .val (.long q1), .second, .val (.long q2), .second, .val (.long q3), .second, .val (.long q4), .second, .val (.long q5), .second, .val (.int (q0 &&& (7 : Int32))), .val (.ref a134), .val (.ref a136), .val (.ref a138), .val (.long (own_sum (0 : Int64) (0 : Int64) (0 : Int64) (0 : Int64) (0 : Int64) (0 : Int64) (0 : Int64) (0 : Int64))), .second, .unset, .unset, .unset, .unset]) rfl rfl ?_
  refine own_aload (pc' := 74) X143 hx (hb hby at_72) rfl rfl rfl ?_
  obtain ⟨cq146, kq146, q146a, q146b, q146c⟩ := isOf hZ es1 R2_C.1
  obtain ⟨_, _, ⟨T145, L145, k145, n145⟩, -, X145, ⟨Lc145, hQ145, l145, y145, z145⟩, st145⟩ := X143.virtualBack hx (y := (⟨"com/example/reciprocal/reciprocal/speed/PlainRecord", "sum", "()J"⟩ : MethodName)) (z := (⟨"com/example/reciprocal/reciprocal/speed/PlainRecord", "sum", "()J"⟩ : MethodName)) hown (mvT hZ (hw _ (List.mem_of_getElem? (i := 33) rfl))) (mvT hZ (hw _ (List.mem_of_getElem? (i := 34) rfl))) (notFace_of_selects (args := #[]) (mvT hZ (hw _ (List.mem_of_getElem? (i := 36) rfl)))) (mvT hZ (hw _ (List.mem_of_getElem? (i := 36) rfl))) (mvT hZ (hw _ (List.mem_of_getElem? (i := 35) rfl))) (by decide) (backOf (W := 0) (rm_4 l Z a0 hw [] a136 q2 q3 q4 q5 (q2 ^^^ q3) (q4 - q5) (q2 ^^^ (-1 : Int64)) (q3 + q5) T142.heap n0 ZC R2_C) hZ (hw _ (List.mem_of_getElem? (i := 37) rfl)) (hw _ (List.mem_of_getElem? (i := 2) rfl)) (by decide) (by decide)) q146a q146c (g := (mkF m 74 #[.val (.int q0), .val (.long q1), .second, .val (.long q2), .second, .val (.long q3), .second, .val (.long q4), .second, .val (.long q5), .second, .val (.int (q0 &&& (7 : Int32))), .val (.ref a134), .val (.ref a136), .val (.ref a138), .val (.long (own_sum (0 : Int64) (0 : Int64) (0 : Int64) (0 : Int64) (0 : Int64) (0 : Int64) (0 : Int64) (0 : Int64))), .second, .unset, .unset, .unset, .unset] [(.ref a136)])) rfl (by rw [hml]; rfl) (Steps.refl _) (argsL := []) (rest := []) (lenOf pd_4 rfl) rfl (by show 2 * 0 + _ ≤ _; exact Nat.le_of_eq rfl) (hb hby at_74) (fun _ _ => ⟨rfl, es1, (by decide : 3 + 0 ≤ _), (by decide : 24 + 0 ≤ _)⟩)
  dsimp only [Pt.U, Pt.locs, Pt.cells, Pt.slots] at X145 l145 y145 z145 st145 hQ145
  subst l145 y145 z145
  obtain ⟨rfl, M145, es2⟩ := hQ145
  have N145 := Fr.app N143 M145
  refine Goes.aft st145 ?_
  show Goes p e below s 16 128 (Q_0 Z q0 q1 q2 q3 q4 q5 h0 n0) T145 (mkF m 77 #[.val (.int q0), .val (.long q1), .second, .val (.long q2), .second, .val (.long q3), .second, .val (.long q4), .second, .val (.long q5), .second, .val (.int (q0 &&& (7 : Int32))), .val (.ref a134), .val (.ref a136), .val (.ref a138), .val (.long (own_sum (0 : Int64) (0 : Int64) (0 : Int64) (0 : Int64) (0 : Int64) (0 : Int64) (0 : Int64) (0 : Int64))), .second, .unset, .unset, .unset, .unset] [(.long (own_sum q2 q3 q4 q5 (q2 ^^^ q3) (q4 - q5) (q2 ^^^ (-1 : Int64)) (q3 + q5)))])
  refine own_lstore (pc' := 79) X145 hx (hb hby at_77) (Ls' := #[.val (.int q0), .val (.long q1), .second, .val (.long q2), .second, .val (.long q3), .second, .val (.long q4), .second, .val (.long q5), .second, .val (.int (q0 &&& (7 : Int32))), .val (.ref a134), .val (.ref a136), .val (.ref a138), .val (.long (own_sum (0 : Int64) (0 : Int64) (0 : Int64) (0 : Int64) (0 : Int64) (0 : Int64) (0 : Int64) (0 : Int64))), .second, .val (.long (own_sum q2 q3 q4 q5 (q2 ^^^ q3) (q4 - q5) (q2 ^^^ (-1 : Int64)) (q3 + q5))), .second, .unset, .unset]) rfl rfl ?_
  refine own_aload (pc' := 81) X145 hx (hb hby at_79) rfl rfl rfl ?_
  obtain ⟨cq148, kq148, q148a, q148b, q148c⟩ := isOf hZ es2 R3_C.1
  obtain ⟨_, _, ⟨T147, L147, k147, n147⟩, -, X147, ⟨Lc147, hQ147, l147, y147, z147⟩, st147⟩ := X145.virtualBack hx (y := (⟨"com/example/reciprocal/reciprocal/speed/PlainRecord", "sum", "()J"⟩ : MethodName)) (z := (⟨"com/example/reciprocal/reciprocal/speed/PlainRecord", "sum", "()J"⟩ : MethodName)) hown (mvT hZ (hw _ (List.mem_of_getElem? (i := 33) rfl))) (mvT hZ (hw _ (List.mem_of_getElem? (i := 34) rfl))) (notFace_of_selects (args := #[]) (mvT hZ (hw _ (List.mem_of_getElem? (i := 36) rfl)))) (mvT hZ (hw _ (List.mem_of_getElem? (i := 36) rfl))) (mvT hZ (hw _ (List.mem_of_getElem? (i := 35) rfl))) (by decide) (backOf (W := 0) (rm_4 l Z a0 hw [] a138 u1 u2 u3 u4 u5 u6 u7 u8 T142.heap n0 ZC R3_C) hZ (hw _ (List.mem_of_getElem? (i := 37) rfl)) (hw _ (List.mem_of_getElem? (i := 2) rfl)) (by decide) (by decide)) q148a q148c (g := (mkF m 81 #[.val (.int q0), .val (.long q1), .second, .val (.long q2), .second, .val (.long q3), .second, .val (.long q4), .second, .val (.long q5), .second, .val (.int (q0 &&& (7 : Int32))), .val (.ref a134), .val (.ref a136), .val (.ref a138), .val (.long (own_sum (0 : Int64) (0 : Int64) (0 : Int64) (0 : Int64) (0 : Int64) (0 : Int64) (0 : Int64) (0 : Int64))), .second, .val (.long (own_sum q2 q3 q4 q5 (q2 ^^^ q3) (q4 - q5) (q2 ^^^ (-1 : Int64)) (q3 + q5))), .second, .unset, .unset] [(.ref a138)])) rfl (by rw [hml]; rfl) (Steps.refl _) (argsL := []) (rest := []) (lenOf pd_4 rfl) rfl (by show 2 * 0 + _ ≤ _; exact Nat.le_of_eq rfl) (hb hby at_81) (fun _ _ => ⟨rfl, es2, (by decide : 3 + 0 ≤ _), (by decide : 24 + 0 ≤ _)⟩)
  dsimp only [Pt.U, Pt.locs, Pt.cells, Pt.slots] at X147 l147 y147 z147 st147 hQ147
  subst l147 y147 z147
  obtain ⟨rfl, M147, es3⟩ := hQ147
  have N147 := Fr.app N145 M147
  refine Goes.aft st147 ?_
  show Goes p e below s 16 128 (Q_0 Z q0 q1 q2 q3 q4 q5 h0 n0) T147 (mkF m 84 #[.val (.int q0), .val (.long q1), .second, .val (.long q2), .second, .val (.long q3), .second, .val (.long q4), .second, .val (.long q5), .second, .val (.int (q0 &&& (7 : Int32))), .val (.ref a134), .val (.ref a136), .val (.ref a138), .val (.long (own_sum (0 : Int64) (0 : Int64) (0 : Int64) (0 : Int64) (0 : Int64) (0 : Int64) (0 : Int64) (0 : Int64))), .second, .val (.long (own_sum q2 q3 q4 q5 (q2 ^^^ q3) (q4 - q5) (q2 ^^^ (-1 : Int64)) (q3 + q5))), .second, .unset, .unset] [(.long (own_sum u1 u2 u3 u4 u5 u6 u7 u8))])
  refine own_lstore (pc' := 86) X147 hx (hb hby at_84) (Ls' := #[.val (.int q0), .val (.long q1), .second, .val (.long q2), .second, .val (.long q3), .second, .val (.long q4), .second, .val (.long q5), .second, .val (.int (q0 &&& (7 : Int32))), .val (.ref a134), .val (.ref a136), .val (.ref a138), .val (.long (own_sum (0 : Int64) (0 : Int64) (0 : Int64) (0 : Int64) (0 : Int64) (0 : Int64) (0 : Int64) (0 : Int64))), .second, .val (.long (own_sum q2 q3 q4 q5 (q2 ^^^ q3) (q4 - q5) (q2 ^^^ (-1 : Int64)) (q3 + q5))), .second, .val (.long (own_sum u1 u2 u3 u4 u5 u6 u7 u8)), .second]) rfl rfl ?_
  refine own_lload (pc' := 88) X147 hx (hb hby at_86) rfl rfl ?_
  refine own_lconst (pc' := 89) X147 hx (hb hby at_88) (v := (0 : Int64)) rfl rfl ?_
  refine own_lcmp (pc' := 90) X147 hx (hb hby at_89) rfl ?_
  refine own_ifN (pc' := 93) X147 hx (hb hby at_90) (own_Teq (by decide : (own_sum (0 : Int64) (0 : Int64) (0 : Int64) (0 : Int64) (0 : Int64) (0 : Int64) (0 : Int64) (0 : Int64)) = (0 : Int64))).2 rfl ?_
  refine own_lload (pc' := 95) X147 hx (hb hby at_93) rfl rfl ?_
  refine own_lload (pc' := 97) X147 hx (hb hby at_95) rfl rfl ?_
  refine own_lsub (pc' := 98) X147 hx (hb hby at_97) rfl ?_
  refine own_lloadN (pc' := 99) X147 hx (hb hby at_98) rfl rfl ?_
  refine own_lcmp (pc' := 100) X147 hx (hb hby at_99) rfl ?_
  refine own_ifN (pc' := 103) X147 hx (hb hby at_100) (own_Teq (by rw [hsum]; exact own_addsub _ _ : ((own_sum u1 u2 u3 u4 u5 u6 u7 u8) - (own_sum q2 q3 q4 q5 (q2 ^^^ q3) (q4 - q5) (q2 ^^^ (-1 : Int64)) (q3 + q5))) = q1)).2 rfl ?_
  refine own_iconst (pc' := 104) X147 hx (hb hby at_103) (v := (1 : Int32)) rfl rfl ?_
  refine own_goto X147 hx (hb hby at_104) (by decide) (pc' := 108) (by decide) ?_
  exact own_retN X147 hx hlk (t := .boolean) Bd.returns (by simp) (hb hby at_108) (by decide) (by decide) ⟨rfl, N147⟩
set_option maxRecDepth 65536 in
set_option maxHeartbeats 40000000 in
theorem comes_1 {Post : Tables → Env → Array Value → State → Outcome → State → Prop} (hpost : ∀ tb e args s v u, (limb_1_1.after args s (.returned v) u = true ∧ limb_1_2.after args s (.returned v) u = true ∧ True) → FrameEnd s (.returned v) u (Jvm.fieldLocs frame_1_writes args s ++ Jvm.arrayLocs frame_1_arrays args s ++ Jvm.staticLocs frame_1_statics s) 16 128 → Post tb e args s (.returned v) u) :
    ArmFor flags0 classFile x code maxLocals ret World_1 tables_1 room_1 Calls_1 rest_1 Pre_1 Post := by
  intro l hfl _ _ p e ha hc hk s m args below hf hA hF happ hP
  obtain ⟨hcalls, hrest, hpre⟩ := hP
  obtain ⟨-, -, -, hnamed, -, -, -, hat⟩ := (Spec.applies_iff hf).mp happ
  obtain ⟨hg, hn⟩ := and_e (Cond.before_iff.mp (show (Jvm.Cond.and given_1 narrow_1).before args s = true from hpre))
  obtain ⟨gc, r0⟩ := and_e hg
  obtain ⟨g0, r1⟩ := and_e r0
  obtain ⟨g1, r2⟩ := and_e r1
  obtain ⟨g2, r3⟩ := and_e r2
  obtain ⟨g3, r4⟩ := and_e r3
  obtain ⟨g4, r5⟩ := and_e r4
  obtain ⟨w0, w1, w2, w3, w4, w5, rfl⟩ : ∃ w0 w1 w2 w3 w4 w5 : Value, args = #[w0, w1, w2, w3, w4, w5] := by
    have hs : args.size = 6 := by simpa [Cond.value, given_1] using gc
    obtain ⟨L⟩ := args
    match L, hs with
    | [w0, w1, w2, w3, w4, w5], _ => exact ⟨w0, w1, w2, w3, w4, w5, rfl⟩
  have hw := fun d (hd : d ∈ tables_1) => atoms_spec (ws := Jvm.Cond.code x code maxLocals ret :: tables_1) hat d (List.mem_cons_of_mem _ hd)
  obtain ⟨i0, ei0⟩ := is_v g0
  obtain rfl : w0 = (.int i0) := Option.some.inj ei0
  obtain ⟨i1, ei1⟩ := isL_v g1
  obtain rfl : w1 = (.long i1) := Option.some.inj ei1
  obtain ⟨i2, ei2⟩ := isL_v g2
  obtain rfl : w2 = (.long i2) := Option.some.inj ei2
  obtain ⟨i3, ei3⟩ := isL_v g3
  obtain rfl : w3 = (.long i3) := Option.some.inj ei3
  obtain ⟨i4, ei4⟩ := isL_v g4
  obtain rfl : w4 = (.long i4) := Option.some.inj ei4
  obtain ⟨i5, ei5⟩ := isL_v r5
  obtain rfl : w5 = (.long i5) := Option.some.inj ei5
  obtain ⟨n, o, h1, h2, h3, _, L, rfl, ⟨rfl, N⟩, hq⟩ := rm_0 l s _ hw tables_1 i0 i1 i2 i3 i4 i5 s.heap s.heap.size (Nat.le_refl _)  p e ha hc hk s m _ below hf ((Spec.applies_iff_loose hf).mp happ).1 ⟨rfl, State.Warmed39.refl s, rfl⟩ trivial
  refine ⟨n, _, h1, h2, h3, hpost _ _ _ _ _ _ ⟨Cond.after_iff.mpr rfl, Cond.after_iff.mpr (eq_i res_at (Term.int_eval (1)) rfl), trivial⟩ ⟨hq.1, hq.2.1, (hq.2.2.sift fun y hy => Or.inr (N y hy)).mono (by decide) (by decide)⟩⟩
theorem main_1_1 : Claimed_1_1 := comes_1 fun _ _ _ _ _ _ h hF => ⟨h.1, hF⟩
theorem main_1_2 : Claimed_1_2 := comes_1 fun _ _ _ _ _ _ h hF => ⟨h.2.1, hF⟩
end Jvm.Pilot.@@N@@
namespace Jvm.Pilot.@@N@@
open Jvm Jvm.ClassFile Sem Op Lib Jvm.Free Jvm.Stand Jvm.Pilot.@@N@@.Jvm.D
/-! MADE BY PROGRAM (witnessworld.py) out of the Statement's table words and the real class files: 9 classes; the members and pool entries that the words name. The judged class is class 1, her method 3. -/
namespace start1
open Jvm.ClassFile
def u (s : String) : CpInfo := .utf8 (stringToUtf16 s)
/-- a pool by its gaps: so many unusable entries, then the entry; so many at the end -/
def gap : Nat → List CpInfo → List CpInfo
  | 0, r => r
  | n + 1, r => .unusable :: gap n r
def poolList (es : List (Nat × CpInfo)) (last : Nat) : List CpInfo := es.foldr (fun e r => gap e.1 (e.2 :: r)) (gap last [])
def pool (es : List (Nat × CpInfo)) (last : Nat) : Array CpInfo := ⟨poolList es last⟩
def fileOf (pool : Array CpInfo) (this : Nat) (attrs : Array Attribute := #[]) (ms : Array MethodInfo := #[]) (fl : Nat := 33) (sup : Nat := 0) (ifs : Array Nat := #[]) (fds : Array FieldInfo := #[]) : ClassFile where
  minorVersion := 0
  majorVersion := 65
  constantPool := pool
  accessFlags := fl
  thisClass := this
  superClass := sup
  interfaces := ifs
  fields := fds
  methods := ms
  attributes := attrs
def plain (name : String) (sup : Option ClassId) : Class where
  name := name
  kind := .ordinary
  loader := none
  accessFlags := 33
  super := sup
  interfaces := #[]
  cf := none
  fields := #[]
  methods := #[]
  instanceTypes := #[]
  staticTypes := #[]
  resolved := #[]
  callSites := []
  init := .initialized
  statics := none
  mirror := none

def pool0 : Array CpInfo := pool [(5, u "<init>"), (0, u "()V"), (1, .class_ 10), (1, u "java/lang/Object")] 113

def k0c0 : Code := { maxStack := 0, maxLocals := 1, code := object_method_1_code, exceptionTable := #[], attributes := #[] }
def k0m0 : Method := { name := "<init>", desc := "()V", sig := { parameters := [], returnType := none }, accessFlags := 1, code := some k0c0 }
/-- java/lang/Object -/
def k0 : Class := { plain "java/lang/Object" none with
  accessFlags := 33
  interfaces := #[]
  cf := some (fileOf pool0 8 #[] #[{ accessFlags := 1, nameIndex := 5, descriptorIndex := 6, attributes := #[] }] 33 0 #[] #[])
  fields := #[]
  methods := #[k0m0]
  instanceTypes := #[]
  staticTypes := #[]
  resolved := Array.replicate 124 none
  statics := none }

def pool1 : Array CpInfo := pool [(2, .class_ 4), (0, .nameAndType 5 6), (0, u "java/lang/Object"), (0, u "<init>"), (0, u "()V"), (0, .fieldref 8 9), (0, .class_ 10), (0, .nameAndType 11 12), (0, u "com/example/reciprocal/reciprocal/speed/PlainRecord"), (0, u "f1"), (0, u "J"), (0, .fieldref 8 14), (0, .nameAndType 15 12), (0, u "f2"), (0, .fieldref 8 17), (0, .nameAndType 18 12), (0, u "f3"), (0, .fieldref 8 20), (0, .nameAndType 21 12), (0, u "f4"), (0, .fieldref 8 23), (0, .nameAndType 24 12), (0, u "f5"), (0, .fieldref 8 26), (0, .nameAndType 27 12), (0, u "f6"), (0, .long 18446744073709551615), (1, .fieldref 8 31), (0, .nameAndType 32 12), (0, u "f7"), (0, .fieldref 8 34), (0, .nameAndType 35 12), (0, u "f8"), (0, .methodref 8 3), (0, .methodref 38 39), (0, .class_ 40), (0, .nameAndType 41 42), (0, u "com/example/reciprocal/reciprocal/speed/PlainRecordSumPinLaw"), (0, u "fill"), (0, u "(Lcom/example/reciprocal/reciprocal/speed/PlainRecord;JJJJ)V"), (0, .methodref 38 44), (0, .nameAndType 45 46), (0, u "bump"), (0, u "(Lcom/example/reciprocal/reciprocal/speed/PlainRecord;IJ)V"), (0, .methodref 8 48), (0, .nameAndType 49 50), (0, u "sum"), (0, u "()J"), (3, u "law"), (0, u "(IJJJJJ)Z")] 2

def k1m0 : Method := { name := "<init>", desc := "()V", sig := { parameters := [], returnType := none }, accessFlags := 1, code := none }
def k1c1 : Code := { maxStack := 5, maxLocals := 9, code := method_2_code, exceptionTable := #[], attributes := #[] }
def k1m1 : Method := { name := "fill", desc := "(Lcom/example/reciprocal/reciprocal/speed/PlainRecord;JJJJ)V", sig := { parameters := [(.object "com/example/reciprocal/reciprocal/speed/PlainRecord"), .long, .long, .long, .long], returnType := none }, accessFlags := 10, code := some k1c1 }
def k1c2 : Code := { maxStack := 5, maxLocals := 4, code := method_3_code, exceptionTable := #[], attributes := #[] }
def k1m2 : Method := { name := "bump", desc := "(Lcom/example/reciprocal/reciprocal/speed/PlainRecord;IJ)V", sig := { parameters := [(.object "com/example/reciprocal/reciprocal/speed/PlainRecord"), .int, .long], returnType := none }, accessFlags := 10, code := some k1c2 }
def k1c3 : Code := { maxStack := 9, maxLocals := 21, code := code, exceptionTable := #[], attributes := #[] }
def k1m3 : Method := { name := "law", desc := "(IJJJJJ)Z", sig := { parameters := [.int, .long, .long, .long, .long, .long], returnType := some .boolean }, accessFlags := 9, code := some k1c3 }
/-- com/example/reciprocal/reciprocal/speed/PlainRecordSumPinLaw -/
def k1 : Class := { plain "com/example/reciprocal/reciprocal/speed/PlainRecordSumPinLaw" (some 0) with
  accessFlags := 49
  interfaces := #[]
  cf := some (fileOf pool1 38 #[] #[{ accessFlags := 1, nameIndex := 5, descriptorIndex := 6, attributes := #[] }, { accessFlags := 10, nameIndex := 41, descriptorIndex := 42, attributes := #[] }, { accessFlags := 10, nameIndex := 45, descriptorIndex := 46, attributes := #[] }, { accessFlags := 9, nameIndex := 54, descriptorIndex := 55, attributes := #[] }] 49 2 #[] #[])
  fields := #[]
  methods := #[k1m0, k1m1, k1m2, k1m3]
  instanceTypes := #[]
  staticTypes := #[]
  resolved := Array.replicate 58 none
  statics := none }

def pool2 : Array CpInfo := pool [(1, .methodref 2 3), (0, .class_ 4), (0, .nameAndType 5 6), (0, u "java/lang/Object"), (0, u "<init>"), (0, u "()V"), (0, .fieldref 8 9), (0, .class_ 10), (0, .nameAndType 11 12), (0, u "com/example/reciprocal/reciprocal/speed/PlainRecord"), (0, u "f1"), (0, u "J"), (0, .fieldref 8 14), (0, .nameAndType 15 12), (0, u "f2"), (0, .fieldref 8 17), (0, .nameAndType 18 12), (0, u "f3"), (0, .fieldref 8 20), (0, .nameAndType 21 12), (0, u "f4"), (0, .fieldref 8 23), (0, .nameAndType 24 12), (0, u "f5"), (0, .fieldref 8 26), (0, .nameAndType 27 12), (0, u "f6"), (0, .fieldref 8 29), (0, .nameAndType 30 12), (0, u "f7"), (0, .fieldref 8 32), (0, .nameAndType 33 12), (0, u "f8"), (2, u "sum"), (0, u "()J")] 2

def k2c0 : Code := { maxStack := 1, maxLocals := 1, code := prog_143_method_1_code, exceptionTable := #[], attributes := #[] }
def k2m0 : Method := { name := "<init>", desc := "()V", sig := { parameters := [], returnType := none }, accessFlags := 1, code := some k2c0 }
def k2c1 : Code := { maxStack := 4, maxLocals := 1, code := prog_143_method_2_code, exceptionTable := #[], attributes := #[] }
def k2m1 : Method := { name := "sum", desc := "()J", sig := { parameters := [], returnType := some .long }, accessFlags := 0, code := some k2c1 }
/-- com/example/reciprocal/reciprocal/speed/PlainRecord -/
def k2 : Class := { plain "com/example/reciprocal/reciprocal/speed/PlainRecord" (some 0) with
  accessFlags := 49
  interfaces := #[]
  cf := some (fileOf pool2 8 #[] #[{ accessFlags := 1, nameIndex := 5, descriptorIndex := 6, attributes := #[] }, { accessFlags := 0, nameIndex := 36, descriptorIndex := 37, attributes := #[] }] 49 2 #[] #[{ accessFlags := 1, nameIndex := 11, descriptorIndex := 12, attributes := #[] }, { accessFlags := 1, nameIndex := 15, descriptorIndex := 12, attributes := #[] }, { accessFlags := 1, nameIndex := 18, descriptorIndex := 12, attributes := #[] }, { accessFlags := 1, nameIndex := 21, descriptorIndex := 12, attributes := #[] }, { accessFlags := 1, nameIndex := 24, descriptorIndex := 12, attributes := #[] }, { accessFlags := 1, nameIndex := 27, descriptorIndex := 12, attributes := #[] }, { accessFlags := 1, nameIndex := 30, descriptorIndex := 12, attributes := #[] }, { accessFlags := 1, nameIndex := 33, descriptorIndex := 12, attributes := #[] }])
  fields := #[{ name := "f1", type := .long, accessFlags := 1, slot := 0, constantValue := 0 }, { name := "f2", type := .long, accessFlags := 1, slot := 1, constantValue := 0 }, { name := "f3", type := .long, accessFlags := 1, slot := 2, constantValue := 0 }, { name := "f4", type := .long, accessFlags := 1, slot := 3, constantValue := 0 }, { name := "f5", type := .long, accessFlags := 1, slot := 4, constantValue := 0 }, { name := "f6", type := .long, accessFlags := 1, slot := 5, constantValue := 0 }, { name := "f7", type := .long, accessFlags := 1, slot := 6, constantValue := 0 }, { name := "f8", type := .long, accessFlags := 1, slot := 7, constantValue := 0 }]
  methods := #[k2m0, k2m1]
  instanceTypes := #[.long, .long, .long, .long, .long, .long, .long, .long]
  staticTypes := #[]
  resolved := Array.replicate 40 none
  statics := none }

def pool3 : Array CpInfo := pool [(1, u "java/lang/Cloneable"), (0, .class_ 1), (0, u "java/lang/Object"), (0, .class_ 3)] 3

/-- java/lang/Cloneable -/
def k3 : Class := { plain "java/lang/Cloneable" (some 0) with
  accessFlags := 1537
  interfaces := #[]
  cf := some (fileOf pool3 2 #[] #[] 1537 4 #[] #[])
  fields := #[]
  methods := #[]
  instanceTypes := #[]
  staticTypes := #[]
  resolved := Array.replicate 8 none
  statics := none }

def pool4 : Array CpInfo := pool [(1, u "java/io/Serializable"), (0, .class_ 1), (0, u "java/lang/Object"), (0, .class_ 3)] 3

/-- java/io/Serializable -/
def k4 : Class := { plain "java/io/Serializable" (some 0) with
  accessFlags := 1537
  interfaces := #[]
  cf := some (fileOf pool4 2 #[] #[] 1537 4 #[] #[])
  fields := #[]
  methods := #[]
  instanceTypes := #[]
  staticTypes := #[]
  resolved := Array.replicate 8 none
  statics := none }

/-- the primitive byte -/
def k5 : Class := { plain "byte" none with kind := .primitive 'B', accessFlags := 0x411 }
/-- [B -/
def k6 : Class := { plain "[B" (some 0) with kind := .array 5 .byte, interfaces := #[3, 4], accessFlags := 1041 }

/-- the primitive int -/
def k7 : Class := { plain "int" none with kind := .primitive 'I', accessFlags := 0x411 }
/-- [I -/
def k8 : Class := { plain "[I" (some 0) with kind := .array 7 .int, interfaces := #[3, 4], accessFlags := 1041 }

def heap : Heap := #[]
def classes : Array Class := #[k0, k1, k2, k3, k4, k5, k6, k7, k8]
def interned : List (Array UInt16 × Addr) := []
def slotsUsed : Nat := 0
def theMethod : MethodId := ⟨1, 3⟩
def args0 : Array Value := #[.int 3, .long 5, .long 6, .long 7, .long 8, .long 9]
def aboutOver (below : List Frame) : State where
  vm := { classes := classes, interned := interned.toArray }
  heap := heap
  slotsUsed := slotsUsed
  threads := #[{ frames := .invoking theMethod args0 :: below }]
def below0 : List Frame := [.native { method := ⟨0, 0⟩, args := #[] }]
def about1 : State := aboutOver below0
def p0 : Program := .bare "" "" ""
def e0 : Env := launch0.env 0 0 0
theorem w_frames : about1.frames = Frame.invoking theMethod args0 :: below0 := rfl
set_option maxRecDepth 65536 in
theorem w_args : argsFit about1.vm theMethod args0 = true := by decide +kernel
set_option maxRecDepth 65536 in
theorem w_heap : heapFits about1 = true := by decide +kernel
set_option maxRecDepth 65536 in
theorem w_runnable : about1.curStatus? = some .runnable := by decide +kernel
set_option maxRecDepth 65536 in
theorem w_alone : about1.alone = true := by decide +kernel
set_option maxRecDepth 65536 in
theorem w_named : about1.methodNamed? x = some theMethod := by decide +kernel
set_option maxRecDepth 65536 in
theorem w_hears : about1.hears theMethod below0 = true := by decide +kernel
set_option maxRecDepth 65536 in
theorem w_ripe : about1.ripe theMethod args0 below0 = true := by decide +kernel
theorem w_running : about1.status = .running := rfl
set_option maxRecDepth 65536 in
theorem w_room : about1.hasRoom e0.platform room_1 = true :=
  launch0.hasRoom_least _ room_1 (by decide +kernel) (by decide +kernel) (by decide +kernel) (by decide +kernel) (by decide +kernel) (by decide +kernel)
theorem allAtoms_all (ts : List Jvm.Cond) (a : Array Jvm.Value) (st : Jvm.State) : (allAtoms ts).before a st = ts.all (fun c => c.before a st) := by
  induction ts with
  | nil => rfl
  | cons c t ih =>
    show (Jvm.Cond.and c (allAtoms t)).before a st = _
    rw [Jvm.Cond.before_and, ih, List.all_cons]
def words1 : List Jvm.Cond := Jvm.Cond.code x code maxLocals ret :: tables_1
/-- a 'code' word, met by the world's own term for the bytes: nothing is compared byte by byte -/
theorem code_word {y : MethodName} {bytes : ByteArray} {mx : Nat} {rt : Option FieldType} {a : Array Value} {s : State} {m : MethodId} {meth : Method} {c : Code} (h1 : s.methodNamed? y = some m) (h2 : s.vm.method? m = some meth) (h3 : meth.code = some c) (h4 : c.code = bytes)
    (h5 : (c.maxLocals == mx && c.exceptionTable.isEmpty && decide (c.maxStack ≤ mostOperands) && decide (meth.sig.returnType = rt) && !meth.locks && decide (parseMethodDescriptor y.desc = some meth.sig)) = true) : (Jvm.Cond.code y bytes mx rt).before a s = true := by
  simp only [Bool.and_eq_true, beq_iff_eq, Bool.not_eq_true', decide_eq_true_eq] at h5
  obtain ⟨⟨⟨⟨⟨g1, g2⟩, g3⟩, g4⟩, g5⟩, g6⟩ := h5
  simp [Cond.before, Cond.holds, Cond.value, h1, h2, h3, h4, g1, g2, g3, g4, g5, g6]
def isCode : Jvm.Cond → Bool
  | .code _ _ _ _ => true
  | _ => false
theorem all_split {L : List Jvm.Cond} {P : Jvm.Cond → Bool} (h1 : L.all (fun c => isCode c || P c) = true) (h2 : ∀ c ∈ L.filter isCode, P c = true) : L.all P = true := by
  refine List.all_eq_true.mpr fun c hc => ?_
  have h := List.all_eq_true.mp h1 c hc
  rcases Bool.eq_false_or_eq_true (isCode c) with hi | hi
  · exact h2 c (List.mem_filter.mpr ⟨hc, hi⟩)
  · simpa [hi] using h
set_option maxRecDepth 65536 in
theorem w_c0 : (Jvm.Cond.code x code maxLocals ret).before args0 about1 = true := code_word (m := ⟨1, 3⟩) (meth := k1m3) (c := k1c3) (by decide +kernel) rfl rfl rfl (by decide +kernel)
set_option maxRecDepth 65536 in
theorem w_c1 : (Jvm.Cond.code ({ cls := "com/example/reciprocal/reciprocal/speed/PlainRecord", name := "<init>", desc := "()V" } : Jvm.MethodName) prog_143_method_1_code (1 : Nat) (Option.none : Option Jvm.ClassFile.FieldType)).before args0 about1 = true := code_word (m := ⟨2, 0⟩) (meth := k2m0) (c := k2c0) (by decide +kernel) rfl rfl rfl (by decide +kernel)
set_option maxRecDepth 65536 in
theorem w_c2 : (Jvm.Cond.code ({ cls := "java/lang/Object", name := "<init>", desc := "()V" } : Jvm.MethodName) object_method_1_code (1 : Nat) (Option.none : Option Jvm.ClassFile.FieldType)).before args0 about1 = true := code_word (m := ⟨0, 0⟩) (meth := k0m0) (c := k0c0) (by decide +kernel) rfl rfl rfl (by decide +kernel)
set_option maxRecDepth 65536 in
theorem w_c3 : (Jvm.Cond.code ({ cls := "com/example/reciprocal/reciprocal/speed/PlainRecordSumPinLaw", name := "fill", desc := "(Lcom/example/reciprocal/reciprocal/speed/PlainRecord;JJJJ)V" } : Jvm.MethodName) method_2_code (9 : Nat) (Option.none : Option Jvm.ClassFile.FieldType)).before args0 about1 = true := code_word (m := ⟨1, 1⟩) (meth := k1m1) (c := k1c1) (by decide +kernel) rfl rfl rfl (by decide +kernel)
set_option maxRecDepth 65536 in
theorem w_c4 : (Jvm.Cond.code ({ cls := "com/example/reciprocal/reciprocal/speed/PlainRecordSumPinLaw", name := "bump", desc := "(Lcom/example/reciprocal/reciprocal/speed/PlainRecord;IJ)V" } : Jvm.MethodName) method_3_code (4 : Nat) (Option.none : Option Jvm.ClassFile.FieldType)).before args0 about1 = true := code_word (m := ⟨1, 2⟩) (meth := k1m2) (c := k1c2) (by decide +kernel) rfl rfl rfl (by decide +kernel)
set_option maxRecDepth 65536 in
theorem w_c5 : (Jvm.Cond.code ({ cls := "com/example/reciprocal/reciprocal/speed/PlainRecord", name := "sum", desc := "()J" } : Jvm.MethodName) prog_143_method_2_code (1 : Nat) (Option.some Jvm.ClassFile.FieldType.long)).before args0 about1 = true := code_word (m := ⟨2, 1⟩) (meth := k2m1) (c := k2c1) (by decide +kernel) rfl rfl rfl (by decide +kernel)
def codes1 : List Jvm.Cond := [Jvm.Cond.code x code maxLocals ret, Jvm.Cond.code ({ cls := "com/example/reciprocal/reciprocal/speed/PlainRecord", name := "<init>", desc := "()V" } : Jvm.MethodName) prog_143_method_1_code (1 : Nat) (Option.none : Option Jvm.ClassFile.FieldType), Jvm.Cond.code ({ cls := "java/lang/Object", name := "<init>", desc := "()V" } : Jvm.MethodName) object_method_1_code (1 : Nat) (Option.none : Option Jvm.ClassFile.FieldType), Jvm.Cond.code ({ cls := "com/example/reciprocal/reciprocal/speed/PlainRecordSumPinLaw", name := "fill", desc := "(Lcom/example/reciprocal/reciprocal/speed/PlainRecord;JJJJ)V" } : Jvm.MethodName) method_2_code (9 : Nat) (Option.none : Option Jvm.ClassFile.FieldType), Jvm.Cond.code ({ cls := "com/example/reciprocal/reciprocal/speed/PlainRecordSumPinLaw", name := "bump", desc := "(Lcom/example/reciprocal/reciprocal/speed/PlainRecord;IJ)V" } : Jvm.MethodName) method_3_code (4 : Nat) (Option.none : Option Jvm.ClassFile.FieldType), Jvm.Cond.code ({ cls := "com/example/reciprocal/reciprocal/speed/PlainRecord", name := "sum", desc := "()J" } : Jvm.MethodName) prog_143_method_2_code (1 : Nat) (Option.some Jvm.ClassFile.FieldType.long)]
set_option maxRecDepth 65536 in
theorem codes_eq : words1.filter isCode = codes1 := rfl
theorem w_codes : ∀ c ∈ words1.filter isCode, c.before args0 about1 = true := by
  rw [codes_eq]
  intro c hc
  simp only [codes1, List.mem_cons, List.not_mem_nil, or_false] at hc
  rcases hc with rfl | rfl | rfl | rfl | rfl | rfl
  · exact w_c0
  · exact w_c1
  · exact w_c2
  · exact w_c3
  · exact w_c4
  · exact w_c5
set_option maxRecDepth 65536 in
theorem w_t1 : (words1.take 24).all (fun c => isCode c || c.before args0 about1) = true := by decide +kernel
set_option maxRecDepth 65536 in
theorem w_t2 : (words1.drop 24).all (fun c => isCode c || c.before args0 about1) = true := by decide +kernel
theorem w_tables : (allAtoms (Jvm.Cond.code x code maxLocals ret :: tables_1)).before args0 about1 = true := by
  rw [allAtoms_all]
  show words1.all (fun c => c.before args0 about1) = true
  refine all_split ?_ w_codes
  rw [← List.take_append_drop 24 words1, List.all_append, w_t1, w_t2]
  rfl
set_option maxRecDepth 65536 in
theorem w_case : (Jvm.Cond.and given_1 narrow_1).before args0 about1 = true := by decide +kernel
theorem w_applies : (headSpec (Jvm.Cond.code x code maxLocals ret :: tables_1) room_1).applies x e0.platform about1 = true :=
  (Spec.applies_iff w_frames).mpr ⟨w_running, w_runnable, w_alone, w_named, w_hears, w_ripe, w_room, w_tables⟩
theorem atStart : AtStart classFile x code maxLocals ret World_1 tables_1 room_1 Calls_1 rest_1 Pre_1 launch0 p0 e0 about1 theMethod args0 below0 :=
  ⟨lists_1, trivial, launch0.admits_env _ _ _, launch0.least_env, fairChoices_fair.cas, fairChoices_fair.clock, w_frames, w_args, w_heap, w_applies, trivial, trivial, w_case⟩
end start1
theorem witness_1 : WitnessClaimed_1 := ⟨start1.p0, start1.e0, start1.about1, start1.theMethod, start1.args0, start1.below0, start1.atStart⟩
end Jvm.Pilot.@@N@@
