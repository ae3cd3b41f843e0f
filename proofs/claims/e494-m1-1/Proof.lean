import JvmDerived
import JvmDerived.Pilot.@@N@@Statement
import JvmDerived.Pilot.@@N@@Code
set_option linter.unusedVariables false
set_option linter.unusedSimpArgs false
namespace Jvm.Pilot.@@N@@
open Jvm Jvm.ClassFile Sem Op Lib Jvm.Free Jvm.Stand Jvm.LawKit Jvm.RoadKit Bundle Jvm.Pilot.@@N@@.Jvm.D
/-- the rest of a walk: from the frame g over T the run comes to an end that Q describes -/
def Goes (p : Program) (e : Env) (below : List Frame) (s : State) (cs ss : Nat) (Q : Option Value → Heap → List Loc → Prop) (T : State) (g : JFrame) : Prop :=
  ∃ U o, Steps p.tables e below (T.setTop g) U ∧ U.status = .running ∧ Ended U below o ∧ ∃ v L, o = .returned v ∧ Q v U.heap L ∧ FrameEnd s o U L cs ss
section Own
variable {p : Program} {l : Launch} {e : Env} {R : Room} {s : State} {m : MethodId} {args : Array Value} {below : List Frame} {meth : Method} {c : Code} {T T' : State} {locs : List Loc} {cells slots : Nat} {cs ss : Nat} {Q : Option Value → Heap → List Loc → Prop} {pc pc' : Nat} {Ls Ls' : Array Slot} {st : List Value}
theorem Goes.pre {g g' : JFrame} (h : ∀ target, Steps p.tables e below (T'.setTop g') target → Steps p.tables e below (T.setTop g) target) (k : Goes p e below s cs ss Q T' g') : Goes p e below s cs ss Q T g := by
  obtain ⟨U, o, h1, r⟩ := k
  exact ⟨U, o, h _ h1, r⟩
theorem Goes.aft {g g' : JFrame} (h : Steps p.tables e below (T.setTop g) (T'.setTop g')) (k : Goes p e below s cs ss Q T' g') : Goes p e below s cs ss Q T g := by
  obtain ⟨U, o, h1, r⟩ := k
  exact ⟨U, o, h.trans h1, r⟩
theorem own_enter {maxL : Nat} {g : JFrame} (hg : entryFrame m args maxL = g) (k : Goes p e below s cs ss Q T g) : ∃ s₂ o, Steps p.tables e below (T.setTop (entryFrame m args maxL)) s₂ ∧ s₂.status = .running ∧ Ended s₂ below o ∧ ∃ v L, o = .returned v ∧ Q v s₂.heap L ∧ FrameEnd s o s₂ L cs ss := by
  subst hg
  exact k
theorem own_retN (X : Stand p l e R s m args below meth c T locs cells slots) (hx : p.tables.exec = Jvm.exec) (hlk : meth.locks = false) {t : FieldType} (hret : meth.sig.returnType = some t) (ht : t = .boolean ∨ t = .byte ∨ t = .char ∨ t = .short) {z : Int32} (hd : decode c.code pc = .ok (.ireturn, 1)) (h1 : cells ≤ cs) (h2 : slots ≤ ss) (hq : Q (some (.int (nar t z))) T.heap locs) : Goes p e below s cs ss Q T (mkF m pc Ls (.int z :: st)) := by
  obtain ⟨fs, hr, hrun, hended, hW, hsame⟩ := X.leave (v := some (.int (nar t z))) (fun h => by rw [hret] at h; cases h) hlk
  exact ⟨_, _, retN X hx hret ht hd hr, hrun, hended, _, _, rfl, hq, ⟨_, rfl⟩, hW, hsame.mono h1 h2⟩
theorem own_retI (X : Stand p l e R s m args below meth c T locs cells slots) (hx : p.tables.exec = Jvm.exec) (hlk : meth.locks = false) (hret : meth.sig.returnType = some .int) {z : Int32} (hd : decode c.code pc = .ok (.ireturn, 1)) (h1 : cells ≤ cs) (h2 : slots ≤ ss) (hq : Q (some (.int z)) T.heap locs) : Goes p e below s cs ss Q T (mkF m pc Ls (.int z :: st)) := by
  obtain ⟨fs, hr, hrun, hended, hW, hsame⟩ := X.leave (v := some (.int z)) (fun h => by rw [hret] at h; cases h) hlk
  exact ⟨_, _, retOut X hx hret rfl (Or.inl ⟨rfl, Or.inl rfl, z, rfl⟩) hd hr, hrun, hended, _, _, rfl, hq, ⟨_, rfl⟩, hW, hsame.mono h1 h2⟩
theorem own_retJ (X : Stand p l e R s m args below meth c T locs cells slots) (hx : p.tables.exec = Jvm.exec) (hlk : meth.locks = false) (hret : meth.sig.returnType = some .long) {z : Int64} (hd : decode c.code pc = .ok (.lreturn, 1)) (h1 : cells ≤ cs) (h2 : slots ≤ ss) (hq : Q (some (.long z)) T.heap locs) : Goes p e below s cs ss Q T (mkF m pc Ls (.long z :: st)) := by
  obtain ⟨fs, hr, hrun, hended, hW, hsame⟩ := X.leave (v := some (.long z)) (fun h => by rw [hret] at h; cases h) hlk
  exact ⟨_, _, retOut X hx hret rfl (Or.inr (Or.inl ⟨rfl, rfl, z, rfl⟩)) hd hr, hrun, hended, _, _, rfl, hq, ⟨_, rfl⟩, hW, hsame.mono h1 h2⟩
theorem own_retA (X : Stand p l e R s m args below meth c T locs cells slots) (hx : p.tables.exec = Jvm.exec) (hlk : meth.locks = false) {t : FieldType} (hret : meth.sig.returnType = some t) {w : Value} (ht : t.isReference = true) (hw : w.isRef = true) (hn : narrow t w = w) (hd : decode c.code pc = .ok (.areturn, 1)) (h1 : cells ≤ cs) (h2 : slots ≤ ss) (hq : Q (some w) T.heap locs) : Goes p e below s cs ss Q T (mkF m pc Ls (w :: st)) := by
  obtain ⟨fs, hr, hrun, hended, hW, hsame⟩ := X.leave (v := some w) (fun h => by rw [hret] at h; cases h) hlk
  exact ⟨_, _, retOut X hx hret hn (Or.inr (Or.inr (Or.inr (Or.inr ⟨rfl, ht, hw⟩)))) hd hr, hrun, hended, _, _, rfl, hq, ⟨_, rfl⟩, hW, hsame.mono h1 h2⟩
theorem own_ret0 (X : Stand p l e R s m args below meth c T locs cells slots) (hx : p.tables.exec = Jvm.exec) (hlk : meth.locks = false) (hret : meth.sig.returnType = none) (hd : decode c.code pc = .ok (.return_, 1)) (h1 : cells ≤ cs) (h2 : slots ≤ ss) (hq : Q none T.heap locs) : Goes p e below s cs ss Q T (mkF m pc Ls []) := by
  obtain ⟨fs, hr, hrun, hended, hW, hsame⟩ := X.leave (v := none) (fun _ => rfl) hlk
  exact ⟨_, _, X.returnOut hx hret hd hr, hrun, hended, _, _, rfl, hq, ⟨_, rfl⟩, hW, hsame.mono h1 h2⟩
theorem own_iload (X : Stand p l e R s m args below meth c T locs cells slots) (hx : p.tables.exec = Jvm.exec) {i : Nat} {v : Int32} (hd : decode c.code pc = .ok (.iload i, 2)) (hl : Ls[i]? = some (.val (.int v))) (hp : pc + 2 = pc') (k : Goes p e below s cs ss Q T (mkF m pc' Ls (.int v :: st))) : Goes p e below s cs ss Q T (mkF m pc Ls st) := by
  subst hp
  exact Goes.pre (fun _ k => XS.iload X.here hx rfl hd hl k) k
theorem own_iloadN (X : Stand p l e R s m args below meth c T locs cells slots) (hx : p.tables.exec = Jvm.exec) {i : Fin 4} {v : Int32} (hd : decode c.code pc = .ok (.iload_n i, 1)) (hl : Ls[i.val]? = some (.val (.int v))) (hp : pc + 1 = pc') (k : Goes p e below s cs ss Q T (mkF m pc' Ls (.int v :: st))) : Goes p e below s cs ss Q T (mkF m pc Ls st) := by
  subst hp
  exact Goes.pre (fun _ k => XS.iloadN X.here hx rfl hd hl k) k
theorem own_lload (X : Stand p l e R s m args below meth c T locs cells slots) (hx : p.tables.exec = Jvm.exec) {i : Nat} {v : Int64} (hd : decode c.code pc = .ok (.lload i, 2)) (hl : Ls[i]? = some (.val (.long v))) (hp : pc + 2 = pc') (k : Goes p e below s cs ss Q T (mkF m pc' Ls (.long v :: st))) : Goes p e below s cs ss Q T (mkF m pc Ls st) := by
  subst hp
  exact Goes.pre (fun _ k => XS.lload X.here hx rfl hd hl k) k
theorem own_lloadN (X : Stand p l e R s m args below meth c T locs cells slots) (hx : p.tables.exec = Jvm.exec) {i : Fin 4} {v : Int64} (hd : decode c.code pc = .ok (.lload_n i, 1)) (hl : Ls[i.val]? = some (.val (.long v))) (hp : pc + 1 = pc') (k : Goes p e below s cs ss Q T (mkF m pc' Ls (.long v :: st))) : Goes p e below s cs ss Q T (mkF m pc Ls st) := by
  subst hp
  exact Goes.pre (fun _ k => XS.lloadN X.here hx rfl hd hl k) k
theorem own_aload (X : Stand p l e R s m args below meth c T locs cells slots) (hx : p.tables.exec = Jvm.exec) {i : Nat} {v : Value} (hd : decode c.code pc = .ok (.aload i, 2)) (hl : Ls[i]? = some (.val v)) (hv : v.isRef = true) (hp : pc + 2 = pc') (k : Goes p e below s cs ss Q T (mkF m pc' Ls (v :: st))) : Goes p e below s cs ss Q T (mkF m pc Ls st) := by
  subst hp
  exact Goes.pre (fun _ k => XS.aload X.here hx rfl hd hl hv k) k
theorem own_aloadN (X : Stand p l e R s m args below meth c T locs cells slots) (hx : p.tables.exec = Jvm.exec) {i : Fin 4} {v : Value} (hd : decode c.code pc = .ok (.aload_n i, 1)) (hl : Ls[i.val]? = some (.val v)) (hv : v.isRef = true) (hp : pc + 1 = pc') (k : Goes p e below s cs ss Q T (mkF m pc' Ls (v :: st))) : Goes p e below s cs ss Q T (mkF m pc Ls st) := by
  subst hp
  exact Goes.pre (fun _ k => XS.aloadN X.here hx rfl hd hl hv k) k
theorem own_istore (X : Stand p l e R s m args below meth c T locs cells slots) (hx : p.tables.exec = Jvm.exec) {i : Nat} {x : Int32} (hd : decode c.code pc = .ok (.istore i, 2)) (hl : storeLocals Ls i (.int x) = some Ls') (hp : pc + 2 = pc') (k : Goes p e below s cs ss Q T (mkF m pc' Ls' st)) : Goes p e below s cs ss Q T (mkF m pc Ls (.int x :: st)) := by
  subst hp
  exact Goes.pre (fun _ k => XS.istore X.here hx rfl hd rfl hl k) k
theorem own_istoreN (X : Stand p l e R s m args below meth c T locs cells slots) (hx : p.tables.exec = Jvm.exec) {i : Fin 4} {x : Int32} (hd : decode c.code pc = .ok (.istore_n i, 1)) (hl : storeLocals Ls i.val (.int x) = some Ls') (hp : pc + 1 = pc') (k : Goes p e below s cs ss Q T (mkF m pc' Ls' st)) : Goes p e below s cs ss Q T (mkF m pc Ls (.int x :: st)) := by
  subst hp
  exact Goes.pre (fun _ k => XS.istoreN X.here hx rfl hd rfl hl k) k
theorem own_lstore (X : Stand p l e R s m args below meth c T locs cells slots) (hx : p.tables.exec = Jvm.exec) {i : Nat} {x : Int64} (hd : decode c.code pc = .ok (.lstore i, 2)) (hl : storeLocals Ls i (.long x) = some Ls') (hp : pc + 2 = pc') (k : Goes p e below s cs ss Q T (mkF m pc' Ls' st)) : Goes p e below s cs ss Q T (mkF m pc Ls (.long x :: st)) := by
  subst hp
  exact Goes.pre (fun _ k => XS.lstore X.here hx rfl hd rfl hl k) k
theorem own_lstoreN (X : Stand p l e R s m args below meth c T locs cells slots) (hx : p.tables.exec = Jvm.exec) {i : Fin 4} {x : Int64} (hd : decode c.code pc = .ok (.lstore_n i, 1)) (hl : storeLocals Ls i.val (.long x) = some Ls') (hp : pc + 1 = pc') (k : Goes p e below s cs ss Q T (mkF m pc' Ls' st)) : Goes p e below s cs ss Q T (mkF m pc Ls (.long x :: st)) := by
  subst hp
  exact Goes.pre (fun _ k => XS.lstoreN X.here hx rfl hd rfl hl k) k
theorem own_astore (X : Stand p l e R s m args below meth c T locs cells slots) (hx : p.tables.exec = Jvm.exec) {i : Nat} {x : Value} (hd : decode c.code pc = .ok (.astore i, 2)) (hv : x.isRef = true) (hl : storeLocals Ls i x = some Ls') (hp : pc + 2 = pc') (k : Goes p e below s cs ss Q T (mkF m pc' Ls' st)) : Goes p e below s cs ss Q T (mkF m pc Ls (x :: st)) := by
  subst hp
  exact Goes.pre (fun _ k => XS.astore X.here hx rfl hd rfl hv hl k) k
theorem own_astoreN (X : Stand p l e R s m args below meth c T locs cells slots) (hx : p.tables.exec = Jvm.exec) {i : Fin 4} {x : Value} (hd : decode c.code pc = .ok (.astore_n i, 1)) (hv : x.isRef = true) (hl : storeLocals Ls i.val x = some Ls') (hp : pc + 1 = pc') (k : Goes p e below s cs ss Q T (mkF m pc' Ls' st)) : Goes p e below s cs ss Q T (mkF m pc Ls (x :: st)) := by
  subst hp
  exact Goes.pre (fun _ k => XS.astoreN X.here hx rfl hd rfl hv hl k) k
theorem own_iinc (X : Stand p l e R s m args below meth c T locs cells slots) (hx : p.tables.exec = Jvm.exec) {i : Nat} {q : Int} {x y : Int32} (hd : decode c.code pc = .ok (.iinc i q, 3)) (hl : Ls[i]? = some (.val (.int x))) (hy : x + Int32.ofInt q = y) (hl' : storeLocals Ls i (.int y) = some Ls') (hp : pc + 3 = pc') (k : Goes p e below s cs ss Q T (mkF m pc' Ls' st)) : Goes p e below s cs ss Q T (mkF m pc Ls st) := by
  subst hp
  exact Goes.pre (fun _ k => XS.iinc X.here hx rfl hd hl (hy.symm ▸ hl') k) k
theorem own_iconst (X : Stand p l e R s m args below meth c T locs cells slots) (hx : p.tables.exec = Jvm.exec) {i : Int} {v : Int32} (hd : decode c.code pc = .ok (.iconst i, 1)) (hv : Int32.ofInt i = v) (hp : pc + 1 = pc') (k : Goes p e below s cs ss Q T (mkF m pc' Ls (.int v :: st))) : Goes p e below s cs ss Q T (mkF m pc Ls st) := by
  subst hp hv
  exact Goes.pre (fun _ k => XS.iconst X.here hx rfl hd k) k
theorem own_bipush (X : Stand p l e R s m args below meth c T locs cells slots) (hx : p.tables.exec = Jvm.exec) {i : Int} {v : Int32} (hd : decode c.code pc = .ok (.bipush i, 2)) (hv : (Int8.ofInt i).toInt32 = v) (hp : pc + 2 = pc') (k : Goes p e below s cs ss Q T (mkF m pc' Ls (.int v :: st))) : Goes p e below s cs ss Q T (mkF m pc Ls st) := by
  subst hp hv
  exact Goes.pre (fun _ k => XS.bipush X.here hx rfl hd k) k
theorem own_lconst (X : Stand p l e R s m args below meth c T locs cells slots) (hx : p.tables.exec = Jvm.exec) {i : Fin 2} {v : Int64} (hd : decode c.code pc = .ok (.lconst i, 1)) (hv : Int64.ofNat i = v) (hp : pc + 1 = pc') (k : Goes p e below s cs ss Q T (mkF m pc' Ls (.long v :: st))) : Goes p e below s cs ss Q T (mkF m pc Ls st) := by
  subst hp hv
  exact Goes.pre (fun _ k => XS.lconst X.here hx rfl hd k) k
theorem own_aconstNull (X : Stand p l e R s m args below meth c T locs cells slots) (hx : p.tables.exec = Jvm.exec)  (hd : decode c.code pc = .ok (.aconst_null, 1))  (hp : pc + 1 = pc') (k : Goes p e below s cs ss Q T (mkF m pc' Ls (.null :: st))) : Goes p e below s cs ss Q T (mkF m pc Ls st) := by
  subst hp
  exact Goes.pre (fun _ k => XS.aconstNull X.here hx rfl hd k) k
theorem own_iadd (X : Stand p l e R s m args below meth c T locs cells slots) (hx : p.tables.exec = Jvm.exec) {x y : Int32} (hd : decode c.code pc = .ok (.iadd, 1))  (hp : pc + 1 = pc') (k : Goes p e below s cs ss Q T (mkF m pc' Ls (.int (x + y) :: st))) : Goes p e below s cs ss Q T (mkF m pc Ls (.int y :: .int x :: st)) := by
  subst hp
  exact Goes.pre (fun _ k => XS.iadd X.here hx rfl hd rfl k) k
theorem own_isub (X : Stand p l e R s m args below meth c T locs cells slots) (hx : p.tables.exec = Jvm.exec) {x y : Int32} (hd : decode c.code pc = .ok (.isub, 1))  (hp : pc + 1 = pc') (k : Goes p e below s cs ss Q T (mkF m pc' Ls (.int (x - y) :: st))) : Goes p e below s cs ss Q T (mkF m pc Ls (.int y :: .int x :: st)) := by
  subst hp
  exact Goes.pre (fun _ k => XS.isub X.here hx rfl hd rfl k) k
theorem own_imul (X : Stand p l e R s m args below meth c T locs cells slots) (hx : p.tables.exec = Jvm.exec) {x y : Int32} (hd : decode c.code pc = .ok (.imul, 1))  (hp : pc + 1 = pc') (k : Goes p e below s cs ss Q T (mkF m pc' Ls (.int (x * y) :: st))) : Goes p e below s cs ss Q T (mkF m pc Ls (.int y :: .int x :: st)) := by
  subst hp
  exact Goes.pre (fun _ k => XS.imul X.here hx rfl hd rfl k) k
theorem own_iand (X : Stand p l e R s m args below meth c T locs cells slots) (hx : p.tables.exec = Jvm.exec) {x y : Int32} (hd : decode c.code pc = .ok (.iand, 1))  (hp : pc + 1 = pc') (k : Goes p e below s cs ss Q T (mkF m pc' Ls (.int (x &&& y) :: st))) : Goes p e below s cs ss Q T (mkF m pc Ls (.int y :: .int x :: st)) := by
  subst hp
  exact Goes.pre (fun _ k => XS.iand X.here hx rfl hd rfl k) k
theorem own_iushr (X : Stand p l e R s m args below meth c T locs cells slots) (hx : p.tables.exec = Jvm.exec) {x y : Int32} (hd : decode c.code pc = .ok (.iushr, 1))  (hp : pc + 1 = pc') (k : Goes p e below s cs ss Q T (mkF m pc' Ls (.int ((x.toUInt32 >>> (y &&& 31).toUInt32).toInt32) :: st))) : Goes p e below s cs ss Q T (mkF m pc Ls (.int y :: .int x :: st)) := by
  subst hp
  exact Goes.pre (fun _ k => XS.iushr X.here hx rfl hd rfl k) k
theorem own_irem (X : Stand p l e R s m args below meth c T locs cells slots) (hx : p.tables.exec = Jvm.exec) {x y : Int32} (hd : decode c.code pc = .ok (.irem, 1)) (hy : y ≠ 0) (hp : pc + 1 = pc') (k : Goes p e below s cs ss Q T (mkF m pc' Ls (.int (x % y) :: st))) : Goes p e below s cs ss Q T (mkF m pc Ls (.int y :: .int x :: st)) := by
  subst hp
  exact Goes.pre (fun _ k => iremM X hx rfl hd rfl hy k) k
theorem own_ladd (X : Stand p l e R s m args below meth c T locs cells slots) (hx : p.tables.exec = Jvm.exec) {x y : Int64} (hd : decode c.code pc = .ok (.ladd, 1))  (hp : pc + 1 = pc') (k : Goes p e below s cs ss Q T (mkF m pc' Ls (.long (x + y) :: st))) : Goes p e below s cs ss Q T (mkF m pc Ls (.long y :: .long x :: st)) := by
  subst hp
  exact Goes.pre (fun _ k => XS.ladd X.here hx rfl hd rfl k) k
theorem own_lsub (X : Stand p l e R s m args below meth c T locs cells slots) (hx : p.tables.exec = Jvm.exec) {x y : Int64} (hd : decode c.code pc = .ok (.lsub, 1))  (hp : pc + 1 = pc') (k : Goes p e below s cs ss Q T (mkF m pc' Ls (.long (x - y) :: st))) : Goes p e below s cs ss Q T (mkF m pc Ls (.long y :: .long x :: st)) := by
  subst hp
  exact Goes.pre (fun _ k => XS.lsub X.here hx rfl hd rfl k) k
theorem own_land (X : Stand p l e R s m args below meth c T locs cells slots) (hx : p.tables.exec = Jvm.exec) {x y : Int64} (hd : decode c.code pc = .ok (.land, 1))  (hp : pc + 1 = pc') (k : Goes p e below s cs ss Q T (mkF m pc' Ls (.long (x &&& y) :: st))) : Goes p e below s cs ss Q T (mkF m pc Ls (.long y :: .long x :: st)) := by
  subst hp
  exact Goes.pre (fun _ k => XS.land X.here hx rfl hd rfl k) k
theorem own_lxor (X : Stand p l e R s m args below meth c T locs cells slots) (hx : p.tables.exec = Jvm.exec) {x y : Int64} (hd : decode c.code pc = .ok (.lxor, 1))  (hp : pc + 1 = pc') (k : Goes p e below s cs ss Q T (mkF m pc' Ls (.long (x ^^^ y) :: st))) : Goes p e below s cs ss Q T (mkF m pc Ls (.long y :: .long x :: st)) := by
  subst hp
  exact Goes.pre (fun _ k => XS.lxor X.here hx rfl hd rfl k) k
theorem own_lcmp (X : Stand p l e R s m args below meth c T locs cells slots) (hx : p.tables.exec = Jvm.exec) {x y : Int64} (hd : decode c.code pc = .ok (.lcmp, 1))  (hp : pc + 1 = pc') (k : Goes p e below s cs ss Q T (mkF m pc' Ls (.int (lcmpW x y) :: st))) : Goes p e below s cs ss Q T (mkF m pc Ls (.long y :: .long x :: st)) := by
  subst hp
  exact Goes.pre (fun _ k => XS.lcmp X.here hx rfl hd rfl k) k
theorem own_i2c (X : Stand p l e R s m args below meth c T locs cells slots) (hx : p.tables.exec = Jvm.exec) {x : Int32} (hd : decode c.code pc = .ok (.i2c, 1))  (hp : pc + 1 = pc') (k : Goes p e below s cs ss Q T (mkF m pc' Ls (.int (x.toUInt32.toUInt16.toUInt32.toInt32) :: st))) : Goes p e below s cs ss Q T (mkF m pc Ls (.int x :: st)) := by
  subst hp
  exact Goes.pre (fun _ k => XS.i2c X.here hx rfl hd rfl k) k
theorem own_dup (X : Stand p l e R s m args below meth c T locs cells slots) (hx : p.tables.exec = Jvm.exec) {x : Value} (hd : decode c.code pc = .ok (.dup, 1)) (hc : x.category = 1) (hp : pc + 1 = pc') (k : Goes p e below s cs ss Q T (mkF m pc' Ls (x :: x :: st))) : Goes p e below s cs ss Q T (mkF m pc Ls (x :: st)) := by
  subst hp
  exact Goes.pre (fun _ k => XS.dup X.here hx rfl hd rfl hc k) k
theorem own_pop (X : Stand p l e R s m args below meth c T locs cells slots) (hx : p.tables.exec = Jvm.exec) {x : Value} (hd : decode c.code pc = .ok (.pop, 1)) (hc : x.category = 1) (hp : pc + 1 = pc') (k : Goes p e below s cs ss Q T (mkF m pc' Ls st)) : Goes p e below s cs ss Q T (mkF m pc Ls (x :: st)) := by
  subst hp
  exact Goes.pre (fun _ k => XS.pop X.here hx rfl hd rfl hc k) k
theorem own_goto (X : Stand p l e R s m args below meth c T locs cells slots) (hx : p.tables.exec = Jvm.exec) {o : Int}  (hd : decode c.code pc = .ok (.goto o, 3))  (ho : 0 ≤ (pc : Int) + o) (hp : ((pc : Int) + o).toNat = pc') (k : Goes p e below s cs ss Q T (mkF m pc' Ls st)) : Goes p e below s cs ss Q T (mkF m pc Ls st) := by
  exact Goes.pre (fun _ k => XS.goto X.here hx rfl rfl hd ho hp k) k
theorem own_ifY (X : Stand p l e R s m args below meth c T locs cells slots) (hx : p.tables.exec = Jvm.exec) {o : Int} {cd : ClassFile.Cond} {x : Int32} (hd : decode c.code pc = .ok (.ifCond cd o, 3)) (hc : ifCond.holds cd x = true) (ho : 0 ≤ (pc : Int) + o) (hp : ((pc : Int) + o).toNat = pc') (k : Goes p e below s cs ss Q T (mkF m pc' Ls st)) : Goes p e below s cs ss Q T (mkF m pc Ls (.int x :: st)) := by
  exact Goes.pre (fun _ k => XS.ifYes X.here hx rfl rfl hd rfl hc ho hp k) k
theorem own_icmpY (X : Stand p l e R s m args below meth c T locs cells slots) (hx : p.tables.exec = Jvm.exec) {o : Int} {cd : ClassFile.Cond} {x y : Int32} (hd : decode c.code pc = .ok (.if_icmp cd o, 3)) (hc : if_icmp.holds cd x y = true) (ho : 0 ≤ (pc : Int) + o) (hp : ((pc : Int) + o).toNat = pc') (k : Goes p e below s cs ss Q T (mkF m pc' Ls st)) : Goes p e below s cs ss Q T (mkF m pc Ls (.int y :: .int x :: st)) := by
  exact Goes.pre (fun _ k => XS.icmpYes X.here hx rfl rfl hd rfl hc ho hp k) k
theorem own_ifN (X : Stand p l e R s m args below meth c T locs cells slots) (hx : p.tables.exec = Jvm.exec) {o : Int} {cd : ClassFile.Cond} {x : Int32} (hd : decode c.code pc = .ok (.ifCond cd o, 3)) (hc : ifCond.holds cd x = false) (hp : pc + 3 = pc') (k : Goes p e below s cs ss Q T (mkF m pc' Ls st)) : Goes p e below s cs ss Q T (mkF m pc Ls (.int x :: st)) := by
  subst hp
  exact Goes.pre (fun _ k => XS.ifNo X.here hx rfl hd rfl hc k) k
theorem own_icmpN (X : Stand p l e R s m args below meth c T locs cells slots) (hx : p.tables.exec = Jvm.exec) {o : Int} {cd : ClassFile.Cond} {x y : Int32} (hd : decode c.code pc = .ok (.if_icmp cd o, 3)) (hc : if_icmp.holds cd x y = false) (hp : pc + 3 = pc') (k : Goes p e below s cs ss Q T (mkF m pc' Ls st)) : Goes p e below s cs ss Q T (mkF m pc Ls (.int y :: .int x :: st)) := by
  subst hp
  exact Goes.pre (fun _ k => XS.icmpNo X.here hx rfl hd rfl hc k) k
theorem own_ifnullY (X : Stand p l e R s m args below meth c T locs cells slots) (hx : p.tables.exec = Jvm.exec) {o : Int}  (hd : decode c.code pc = .ok (.ifnull o, 3))  (ho : 0 ≤ (pc : Int) + o) (hp : ((pc : Int) + o).toNat = pc') (k : Goes p e below s cs ss Q T (mkF m pc' Ls st)) : Goes p e below s cs ss Q T (mkF m pc Ls (.null :: st)) := by
  exact Goes.pre (fun _ k => XS.ifnullYes X.here hx rfl rfl hd rfl ho hp k) k
theorem own_ifnullN (X : Stand p l e R s m args below meth c T locs cells slots) (hx : p.tables.exec = Jvm.exec) {o : Int} {b : Addr} (hd : decode c.code pc = .ok (.ifnull o, 3))  (hp : pc + 3 = pc') (k : Goes p e below s cs ss Q T (mkF m pc' Ls st)) : Goes p e below s cs ss Q T (mkF m pc Ls (.ref b :: st)) := by
  subst hp
  exact Goes.pre (fun _ k => XS.ifnullNo X.here hx rfl hd rfl k) k
theorem own_ifnonnullY (X : Stand p l e R s m args below meth c T locs cells slots) (hx : p.tables.exec = Jvm.exec) {o : Int} {b : Addr} (hd : decode c.code pc = .ok (.ifnonnull o, 3))  (ho : 0 ≤ (pc : Int) + o) (hp : ((pc : Int) + o).toNat = pc') (k : Goes p e below s cs ss Q T (mkF m pc' Ls st)) : Goes p e below s cs ss Q T (mkF m pc Ls (.ref b :: st)) := by
  exact Goes.pre (fun _ k => XS.ifnonnullYes X.here hx rfl rfl hd rfl ho hp k) k
theorem own_ifnonnullN (X : Stand p l e R s m args below meth c T locs cells slots) (hx : p.tables.exec = Jvm.exec) {o : Int} (hd : decode c.code pc = .ok (.ifnonnull o, 3))  (hp : pc + 3 = pc') (k : Goes p e below s cs ss Q T (mkF m pc' Ls st)) : Goes p e below s cs ss Q T (mkF m pc Ls (.null :: st)) := by
  subst hp
  exact Goes.pre (fun _ k => XS.ifnonnullNo X.here hx rfl hd rfl k) k
theorem own_ldc2 (X : Stand p l e R s m args below meth c T locs cells slots) (hx : p.tables.exec = Jvm.exec) {own : String} {i : Nat} {v : Int64} (hown : s.vm.findClass own = some m.cls) (w : (Cond.constantLong own i v).before args s = true) (hd : decode c.code pc = .ok (.ldc2_w i, 3)) (hp : pc + 3 = pc') (k : Goes p e below s cs ss Q T (mkF m pc' Ls (.long v :: st))) : Goes p e below s cs ss Q T (mkF m pc Ls st) := by
  subst hp
  exact Goes.pre (fun t k => X.ldc2Long hx hown w (g := mkF m pc Ls st) rfl hd t k) k
theorem own_ldcI (X : Stand p l e R s m args below meth c T locs cells slots) (hx : p.tables.exec = Jvm.exec) {own : String} {i : Nat} {v : Int32} (hown : s.vm.findClass own = some m.cls) (w : (Cond.constant own i v).before args s = true) (hd : decode c.code pc = .ok (.ldc i, 2)) (hp : pc + 2 = pc') (k : Goes p e below s cs ss Q T (mkF m pc' Ls (.int v :: st))) : Goes p e below s cs ss Q T (mkF m pc Ls st) := by
  subst hp
  exact Goes.pre (fun t k => X.ldcInt hx hown w (g := mkF m pc Ls st) rfl hd t k) k
theorem own_sipush (X : Stand p l e R s m args below meth c T locs cells slots) (hx : p.tables.exec = Jvm.exec) {i : Int} {v : Int32} (hd : decode c.code pc = .ok (.sipush i, 3)) (hv : (Int16.ofInt i).toInt32 = v) (hp : pc + 3 = pc') (k : Goes p e below s cs ss Q T (mkF m pc' Ls (.int v :: st))) : Goes p e below s cs ss Q T (mkF m pc Ls st) := by
  subst hp hv
  exact Goes.pre (fun _ k => XS.sipush X.here hx rfl hd k) k
theorem own_istoreS (X : Stand p l e R s m args below meth c T locs cells slots) (hx : p.tables.exec = Jvm.exec) {i : Nat} {x : Int32} {o : Slot} (hd : decode c.code pc = .ok (.istore i, 2)) (hold : Ls[i]? = some o) (ho : One o) (hl : Ls.setIfInBounds i (.val (.int x)) = Ls') (hp : pc + 2 = pc') (k : Goes p e below s cs ss Q T (mkF m pc' Ls' st)) : Goes p e below s cs ss Q T (mkF m pc Ls (.int x :: st)) := by
  subst hp
  exact Goes.pre (fun _ k => XS.istoreS X.here hx rfl hd rfl hold ho (hl.symm ▸ k)) k
theorem own_i2b (X : Stand p l e R s m args below meth c T locs cells slots) (hx : p.tables.exec = Jvm.exec) {x : Int32} (hd : decode c.code pc = .ok (.i2b, 1))  (hp : pc + 1 = pc') (k : Goes p e below s cs ss Q T (mkF m pc' Ls (.int x.toInt8.toInt32 :: st))) : Goes p e below s cs ss Q T (mkF m pc Ls (.int x :: st)) := by
  subst hp
  exact Goes.pre (fun _ k => XS.i2b X.here hx rfl hd rfl k) k
theorem own_dupX1 (X : Stand p l e R s m args below meth c T locs cells slots) (hx : p.tables.exec = Jvm.exec) {x y : Value} (hd : decode c.code pc = .ok (.dup_x1, 1)) (hc : x.category = 1) (hc' : y.category = 1) (hp : pc + 1 = pc') (k : Goes p e below s cs ss Q T (mkF m pc' Ls (x :: y :: x :: st))) : Goes p e below s cs ss Q T (mkF m pc Ls (x :: y :: st)) := by
  subst hp
  exact Goes.pre (fun _ k => XS.dupX1 X.here hx rfl hd rfl hc hc' k) k
end Own
theorem own_Tlt {a b : Int64} (h : a < b) : ifCond.holds .lt (lcmpW a b) = true ∧ ifCond.holds .ge (lcmpW a b) = false := ⟨(if0 _ _).trans (tlt ((lw_lt a b).mpr h)).1, (if0 _ _).trans (tlt ((lw_lt a b).mpr h)).2.1⟩
theorem own_Flt {a b : Int64} (h : ¬ a < b) : ifCond.holds .lt (lcmpW a b) = false ∧ ifCond.holds .ge (lcmpW a b) = true := ⟨(if0 _ _).trans (flt fun q => h ((lw_lt a b).mp q)).1, (if0 _ _).trans (flt fun q => h ((lw_lt a b).mp q)).2.1⟩
theorem own_Tgt {a b : Int64} (h : b < a) : ifCond.holds .gt (lcmpW a b) = true ∧ ifCond.holds .le (lcmpW a b) = false := ⟨(if0 _ _).trans (tlt ((lw_gt a b).mpr h)).2.2.1, (if0 _ _).trans (tlt ((lw_gt a b).mpr h)).2.2.2⟩
theorem own_Fgt {a b : Int64} (h : ¬ b < a) : ifCond.holds .gt (lcmpW a b) = false ∧ ifCond.holds .le (lcmpW a b) = true := ⟨(if0 _ _).trans (flt fun q => h ((lw_gt a b).mp q)).2.2.1, (if0 _ _).trans (flt fun q => h ((lw_gt a b).mp q)).2.2.2⟩
theorem own_Teq {a b : Int64} (h : a = b) : ifCond.holds .eq (lcmpW a b) = true ∧ ifCond.holds .ne (lcmpW a b) = false := ⟨(if0 _ _).trans (teq ((lw_eq a b).mpr h)).1, (if0 _ _).trans (teq ((lw_eq a b).mpr h)).2⟩
theorem own_Feq {a b : Int64} (h : ¬ a = b) : ifCond.holds .eq (lcmpW a b) = false ∧ ifCond.holds .ne (lcmpW a b) = true := ⟨(if0 _ _).trans (feq fun q => h ((lw_eq a b).mp q)).1, (if0 _ _).trans (feq fun q => h ((lw_eq a b).mp q)).2⟩
def own_follows (a b : Int64) : Int32 := if (4294966271 : Int64) < a then (if b = a + (1 : Int64) then 1 else if b < (1024 : Int64) then 1 else 0) else if b = a + (1 : Int64) then 1 else 0
def own_following (a : Int64) : Int64 := if (4294966271 : Int64) < a then (1 : Int64) else a + (1 : Int64)
theorem own_ff (a : Int64) : own_follows a (own_following a) = 1 := by
  unfold own_follows own_following
  by_cases h : (4294966271 : Int64) < a
  · simp only [if_pos h]
    by_cases h2 : (1 : Int64) = a + (1 : Int64)
    · rw [if_pos h2]
    · rw [if_neg h2]; decide
  · simp only [if_neg h, if_pos]
theorem own_exp (a b : Int64) (h1 : 0 ≤ a.toInt) (h2 : a.toInt < 4294967296) (h3 : -16 ≤ b.toInt) (h4 : b.toInt < 4294967312) : own_follows a b = if b - a = (1 : Int64) then 1 else if (4294967295 : Int64) - a < (1024 : Int64) ∧ b < (1024 : Int64) then 1 else 0 := by
  have k1 := c_ladd a 1
  have k2 := c_lsub b a
  have k3 := c_lsub (4294967295 : Int64) a
  have r1 := rng64 (a + 1)
  have r2 := rng64 (b - a)
  have r3 := rng64 ((4294967295 : Int64) - a)
  have t1 : (1 : Int64).toInt = 1 := by decide
  have t2 : (4294967295 : Int64).toInt = 4294967295 := by decide
  have t3 : (1024 : Int64).toInt = 1024 := by decide
  have t4 : (4294966271 : Int64).toInt = 4294966271 := by decide
  rw [t1] at k1
  rw [t2] at k3
  have E1 : (b = a + (1 : Int64)) ↔ (b - a = (1 : Int64)) := by
    rw [← Int64.toInt_inj, ← Int64.toInt_inj, t1]; omega
  have E2 : ((4294966271 : Int64) < a) ↔ ((4294967295 : Int64) - a < (1024 : Int64)) := by
    rw [Int64.lt_iff_toInt_lt, Int64.lt_iff_toInt_lt, t3, t4]; omega
  unfold own_follows
  by_cases g1 : (4294967295 : Int64) - a < (1024 : Int64) <;> by_cases g2 : b - a = (1 : Int64) <;> by_cases g3 : b < (1024 : Int64) <;> simp [E1, E2, g1, g2, g3]
theorem d1_0 : decode prog_29_method_4_code 0 = .ok (.lload_n 0, 1) := by decide +kernel
theorem d1_1 : decode prog_29_method_4_code 1 = .ok (.ldc2_w 38, 3) := by decide +kernel
theorem d1_4 : decode prog_29_method_4_code 4 = .ok (.lcmp, 1) := by decide +kernel
theorem d1_5 : decode prog_29_method_4_code 5 = .ok (.ifCond .le 25, 3) := by decide +kernel
theorem d1_8 : decode prog_29_method_4_code 8 = .ok (.lload_n 2, 1) := by decide +kernel
theorem d1_9 : decode prog_29_method_4_code 9 = .ok (.lload_n 0, 1) := by decide +kernel
theorem d1_10 : decode prog_29_method_4_code 10 = .ok (.lconst 1, 1) := by decide +kernel
theorem d1_11 : decode prog_29_method_4_code 11 = .ok (.ladd, 1) := by decide +kernel
theorem d1_12 : decode prog_29_method_4_code 12 = .ok (.lcmp, 1) := by decide +kernel
theorem d1_13 : decode prog_29_method_4_code 13 = .ok (.ifCond .eq 11, 3) := by decide +kernel
theorem d1_16 : decode prog_29_method_4_code 16 = .ok (.lload_n 2, 1) := by decide +kernel
theorem d1_17 : decode prog_29_method_4_code 17 = .ok (.ldc2_w 40, 3) := by decide +kernel
theorem d1_20 : decode prog_29_method_4_code 20 = .ok (.lcmp, 1) := by decide +kernel
theorem d1_21 : decode prog_29_method_4_code 21 = .ok (.ifCond .ge 7, 3) := by decide +kernel
theorem d1_24 : decode prog_29_method_4_code 24 = .ok (.iconst 1, 1) := by decide +kernel
theorem d1_25 : decode prog_29_method_4_code 25 = .ok (.goto 4, 3) := by decide +kernel
theorem d1_28 : decode prog_29_method_4_code 28 = .ok (.iconst 0, 1) := by decide +kernel
theorem d1_29 : decode prog_29_method_4_code 29 = .ok (.ireturn, 1) := by decide +kernel
theorem d1_30 : decode prog_29_method_4_code 30 = .ok (.lload_n 2, 1) := by decide +kernel
theorem d1_31 : decode prog_29_method_4_code 31 = .ok (.lload_n 0, 1) := by decide +kernel
theorem d1_32 : decode prog_29_method_4_code 32 = .ok (.lconst 1, 1) := by decide +kernel
theorem d1_33 : decode prog_29_method_4_code 33 = .ok (.ladd, 1) := by decide +kernel
theorem d1_34 : decode prog_29_method_4_code 34 = .ok (.lcmp, 1) := by decide +kernel
theorem d1_35 : decode prog_29_method_4_code 35 = .ok (.ifCond .ne 7, 3) := by decide +kernel
theorem d1_38 : decode prog_29_method_4_code 38 = .ok (.iconst 1, 1) := by decide +kernel
theorem d1_39 : decode prog_29_method_4_code 39 = .ok (.goto 4, 3) := by decide +kernel
theorem d1_42 : decode prog_29_method_4_code 42 = .ok (.iconst 0, 1) := by decide +kernel
theorem d1_43 : decode prog_29_method_4_code 43 = .ok (.ireturn, 1) := by decide +kernel
theorem pn_1 : plainFor (⟨"com/example/millwright/millwright/channel/SequenceNumbers", "follows", "(JJ)Z"⟩ : MethodName) = true := by first | exact plainFor_of_name (by simp [plainName, overriddenIn]; done) | exact plainFor_of_name (by decide +kernel) | decide +kernel
theorem pd_1 : parseMethodDescriptor "(JJ)Z" = some ⟨[.long, .long], some .boolean⟩ := by decide +kernel
theorem ef_1 (m : MethodId) (q1 : Int64) (q2 : Int64) : entryFrame m #[(.long q1), (.long q2)] 4 = mkF m 0 #[.val (.long q1), .second, .val (.long q2), .second] [] := by first | (simp [entryFrame, mkF, argsToLocals, Value.category]; done) | rfl
theorem own_a (a : Int64) : (0 ≤ (a &&& (4294967295 : Int64)).toInt ∧ (a &&& (4294967295 : Int64)).toInt < 4294967296) ∧ (0 ≤ ((4294967295 : Int64) - (a &&& (2047 : Int64))).toInt ∧ ((4294967295 : Int64) - (a &&& (2047 : Int64))).toInt < 4294967296) := by
  have k1 := c_maskL a (4294967295 : Int64) 32 (by decide) (by decide)
  have k2 := c_maskL a (2047 : Int64) 11 (by decide) (by decide)
  have k3 := c_lsub (4294967295 : Int64) (a &&& (2047 : Int64))
  have r3 := rng64 ((4294967295 : Int64) - (a &&& (2047 : Int64)))
  have t2 : (4294967295 : Int64).toInt = 4294967295 := by decide
  rw [t2] at k3
  omega
theorem own_b (v b : Int64) (h1 : 0 ≤ v.toInt) (h2 : v.toInt < 4294967296) : (-16 ≤ (v + (1 : Int64)).toInt ∧ (v + (1 : Int64)).toInt < 4294967312) ∧ (-16 ≤ (b &&& (4294967295 : Int64)).toInt ∧ (b &&& (4294967295 : Int64)).toInt < 4294967312) ∧ (-16 ≤ (b &&& (2047 : Int64)).toInt ∧ (b &&& (2047 : Int64)).toInt < 4294967312) ∧ (-16 ≤ ((v + (1 : Int64)) + ((b &&& (7 : Int64)) - (3 : Int64))).toInt ∧ ((v + (1 : Int64)) + ((b &&& (7 : Int64)) - (3 : Int64))).toInt < 4294967312) := by
  have k0 := c_ladd v 1
  have k1 := c_maskL b (4294967295 : Int64) 32 (by decide) (by decide)
  have k2 := c_maskL b (2047 : Int64) 11 (by decide) (by decide)
  have k3 := c_maskL b (7 : Int64) 3 (by decide) (by decide)
  have k4 := c_lsub (b &&& (7 : Int64)) 3
  have k5 := c_ladd (v + 1) ((b &&& (7 : Int64)) - 3)
  have r0 := rng64 (v + 1)
  have r4 := rng64 ((b &&& (7 : Int64)) - 3)
  have r5 := rng64 ((v + 1) + ((b &&& (7 : Int64)) - 3))
  have t1 : (1 : Int64).toInt = 1 := by decide
  have t3 : (3 : Int64).toInt = 3 := by decide
  rw [t1] at k0
  rw [t3] at k4
  omega
def Q_1 (Z : State) (q1 : Int64) (q2 : Int64) (h0 : Heap) (n0 : Nat) (v : Option Value) (h : Heap) (L : List Loc) : Prop := v = some (.int (own_follows q1 q2)) ∧ Fr n0 L ∧ h = h0
set_option maxRecDepth 65536 in
set_option maxHeartbeats 40000000 in
theorem rm_1 (l : Launch) (Z : State) (a0 : Array Value) (hw : ∀ d ∈ tables_1, d.before a0 Z = true) (ws : List Jvm.Cond) (q1 : Int64) (q2 : Int64) (h0 : Heap) (n0 : Nat) (Z0 : n0 ≤ h0.size) :
    MetFree l (⟨"com/example/millwright/millwright/channel/SequenceNumbers", "follows", "(JJ)Z"⟩ : MethodName) (head1 (Jvm.Cond.code (⟨"com/example/millwright/millwright/channel/SequenceNumbers", "follows", "(JJ)Z"⟩ : MethodName) prog_29_method_4_code 4 (some .boolean) :: ws) ({ frames := 0, cells := 0, slots := 0, locals := 0 } : Room)) (fun a U => a = #[(.long q1), (.long q2)] ∧ Z.Warmed39 U.vm ∧ U.heap = h0) (fun _ _ _ _ _ => True) (fun _ U o U' => ∃ v L, o = .returned v ∧ (Q_1 Z q1 q2 h0 n0) v U'.heap L ∧ FrameEnd U o U' L ({ frames := 0, cells := 0, slots := 0, locals := 0 } : Room).cells ({ frames := 0, cells := 0, slots := 0, locals := 0 } : Room).slots) := by
  refine MetFree.of_bodySF pn_1 hisR ?_
  intro p e s m args below meth c s₁ Bd hml0 hP hK
  obtain ⟨rfl, hZ, hh⟩ := hP
  have hx := Bd.exec
  have hby := Bd.bytes
  have hlk : meth.locks = false := BodyLoose.notSynchronized Bd
  have hml : c.maxLocals = 4 := hml0
  have hown : s.vm.findClass "com/example/millwright/millwright/channel/SequenceNumbers" = some m.cls := findClass_of_methodNamed Bd.named
  have hnm := (name_of_methodNamed Bd.named Bd.method).1
  have X0 : Stand p l e ({ frames := 0, cells := 0, slots := 0, locals := 0 } : Room) s m #[(.long q1), (.long q2)] below meth c s₁ [] 0 0 := Stand.of_body Bd
  have e0 : s₁.heap = h0 := by rw [← hh, Bd.state]; rfl
  have N0 := Fr.nil n0
  refine own_enter (Q := (Q_1 Z q1 q2 h0 n0)) (cs := 0) (ss := 0) (ef_1 m q1 q2) ?_
  show Goes p e below s 0 0 (Q_1 Z q1 q2 h0 n0) s₁ (mkF m 0 #[.val (.long q1), .second, .val (.long q2), .second] [])
  refine own_lloadN (pc' := 1) X0 hx (hb hby d1_0) rfl rfl ?_
  refine own_ldc2 (pc' := 4) X0 hx hown (mvT hZ (hw _ (List.mem_of_getElem? (i := 6) rfl))) (hb hby d1_1) rfl ?_
  refine own_lcmp (pc' := 5) X0 hx (hb hby d1_4) rfl ?_
  by_cases hc5 : (4294966271 : Int64) < q1
  · refine own_ifN (pc' := 8) X0 hx (hb hby d1_5) (own_Tgt hc5).2 rfl ?_
    refine own_lloadN (pc' := 9) X0 hx (hb hby d1_8) rfl rfl ?_
    refine own_lloadN (pc' := 10) X0 hx (hb hby d1_9) rfl rfl ?_
    refine own_lconst (pc' := 11) X0 hx (hb hby d1_10) (v := (1 : Int64)) rfl rfl ?_
    refine own_ladd (pc' := 12) X0 hx (hb hby d1_11) rfl ?_
    refine own_lcmp (pc' := 13) X0 hx (hb hby d1_12) rfl ?_
    by_cases hc13 : q2 = (q1 + (1 : Int64))
    · refine own_ifY X0 hx (hb hby d1_13) (own_Teq hc13).1 (by decide) (pc' := 24) (by decide) ?_
      refine own_iconst (pc' := 25) X0 hx (hb hby d1_24) (v := (1 : Int32)) rfl rfl ?_
      refine own_goto X0 hx (hb hby d1_25) (by decide) (pc' := 29) (by decide) ?_
      exact own_retN X0 hx hlk (t := .boolean) Bd.returns (by simp) (hb hby d1_29) (by decide) (by decide) ⟨by simp [own_follows, hc5, hc13, nar], N0, e0⟩
    · refine own_ifN (pc' := 16) X0 hx (hb hby d1_13) (own_Feq hc13).1 rfl ?_
      refine own_lloadN (pc' := 17) X0 hx (hb hby d1_16) rfl rfl ?_
      refine own_ldc2 (pc' := 20) X0 hx hown (mvT hZ (hw _ (List.mem_of_getElem? (i := 13) rfl))) (hb hby d1_17) rfl ?_
      refine own_lcmp (pc' := 21) X0 hx (hb hby d1_20) rfl ?_
      by_cases hc21 : q2 < (1024 : Int64)
      · refine own_ifN (pc' := 24) X0 hx (hb hby d1_21) (own_Tlt hc21).2 rfl ?_
        refine own_iconst (pc' := 25) X0 hx (hb hby d1_24) (v := (1 : Int32)) rfl rfl ?_
        refine own_goto X0 hx (hb hby d1_25) (by decide) (pc' := 29) (by decide) ?_
        exact own_retN X0 hx hlk (t := .boolean) Bd.returns (by simp) (hb hby d1_29) (by decide) (by decide) ⟨by simp [own_follows, hc5, hc13, hc21, nar], N0, e0⟩
      · refine own_ifY X0 hx (hb hby d1_21) (own_Flt hc21).2 (by decide) (pc' := 28) (by decide) ?_
        refine own_iconst (pc' := 29) X0 hx (hb hby d1_28) (v := (0 : Int32)) rfl rfl ?_
        exact own_retN X0 hx hlk (t := .boolean) Bd.returns (by simp) (hb hby d1_29) (by decide) (by decide) ⟨by simp [own_follows, hc5, hc13, hc21, nar], N0, e0⟩
  · refine own_ifY X0 hx (hb hby d1_5) (own_Fgt hc5).2 (by decide) (pc' := 30) (by decide) ?_
    refine own_lloadN (pc' := 31) X0 hx (hb hby d1_30) rfl rfl ?_
    refine own_lloadN (pc' := 32) X0 hx (hb hby d1_31) rfl rfl ?_
    refine own_lconst (pc' := 33) X0 hx (hb hby d1_32) (v := (1 : Int64)) rfl rfl ?_
    refine own_ladd (pc' := 34) X0 hx (hb hby d1_33) rfl ?_
    refine own_lcmp (pc' := 35) X0 hx (hb hby d1_34) rfl ?_
    by_cases hc35 : q2 = (q1 + (1 : Int64))
    · refine own_ifN (pc' := 38) X0 hx (hb hby d1_35) (own_Teq hc35).2 rfl ?_
      refine own_iconst (pc' := 39) X0 hx (hb hby d1_38) (v := (1 : Int32)) rfl rfl ?_
      refine own_goto X0 hx (hb hby d1_39) (by decide) (pc' := 43) (by decide) ?_
      exact own_retN X0 hx hlk (t := .boolean) Bd.returns (by simp) (hb hby d1_43) (by decide) (by decide) ⟨by simp [own_follows, hc5, hc35, nar], N0, e0⟩
    · refine own_ifY X0 hx (hb hby d1_35) (own_Feq hc35).2 (by decide) (pc' := 42) (by decide) ?_
      refine own_iconst (pc' := 43) X0 hx (hb hby d1_42) (v := (0 : Int32)) rfl rfl ?_
      exact own_retN X0 hx hlk (t := .boolean) Bd.returns (by simp) (hb hby d1_43) (by decide) (by decide) ⟨by simp [own_follows, hc5, hc35, nar], N0, e0⟩
theorem d2_0 : decode prog_29_method_5_code 0 = .ok (.lload_n 0, 1) := by decide +kernel
theorem d2_1 : decode prog_29_method_5_code 1 = .ok (.ldc2_w 38, 3) := by decide +kernel
theorem d2_4 : decode prog_29_method_5_code 4 = .ok (.lcmp, 1) := by decide +kernel
theorem d2_5 : decode prog_29_method_5_code 5 = .ok (.ifCond .le 7, 3) := by decide +kernel
theorem d2_8 : decode prog_29_method_5_code 8 = .ok (.lconst 1, 1) := by decide +kernel
theorem d2_9 : decode prog_29_method_5_code 9 = .ok (.goto 6, 3) := by decide +kernel
theorem d2_12 : decode prog_29_method_5_code 12 = .ok (.lload_n 0, 1) := by decide +kernel
theorem d2_13 : decode prog_29_method_5_code 13 = .ok (.lconst 1, 1) := by decide +kernel
theorem d2_14 : decode prog_29_method_5_code 14 = .ok (.ladd, 1) := by decide +kernel
theorem d2_15 : decode prog_29_method_5_code 15 = .ok (.lreturn, 1) := by decide +kernel
theorem pn_2 : plainFor (⟨"com/example/millwright/millwright/channel/SequenceNumbers", "following", "(J)J"⟩ : MethodName) = true := by first | exact plainFor_of_name (by simp [plainName, overriddenIn]; done) | exact plainFor_of_name (by decide +kernel) | decide +kernel
theorem pd_2 : parseMethodDescriptor "(J)J" = some ⟨[.long], some .long⟩ := by decide +kernel
theorem ef_2 (m : MethodId) (q1 : Int64) : entryFrame m #[(.long q1)] 2 = mkF m 0 #[.val (.long q1), .second] [] := by first | (simp [entryFrame, mkF, argsToLocals, Value.category]; done) | rfl
def Q_2 (Z : State) (q1 : Int64) (h0 : Heap) (n0 : Nat) (v : Option Value) (h : Heap) (L : List Loc) : Prop := v = some (.long (own_following q1)) ∧ Fr n0 L ∧ h = h0
set_option maxRecDepth 65536 in
set_option maxHeartbeats 40000000 in
theorem rm_2 (l : Launch) (Z : State) (a0 : Array Value) (hw : ∀ d ∈ tables_1, d.before a0 Z = true) (ws : List Jvm.Cond) (q1 : Int64) (h0 : Heap) (n0 : Nat) (Z0 : n0 ≤ h0.size) :
    MetFree l (⟨"com/example/millwright/millwright/channel/SequenceNumbers", "following", "(J)J"⟩ : MethodName) (head1 (Jvm.Cond.code (⟨"com/example/millwright/millwright/channel/SequenceNumbers", "following", "(J)J"⟩ : MethodName) prog_29_method_5_code 2 (some .long) :: ws) ({ frames := 0, cells := 0, slots := 0, locals := 0 } : Room)) (fun a U => a = #[(.long q1)] ∧ Z.Warmed39 U.vm ∧ U.heap = h0) (fun _ _ _ _ _ => True) (fun _ U o U' => ∃ v L, o = .returned v ∧ (Q_2 Z q1 h0 n0) v U'.heap L ∧ FrameEnd U o U' L ({ frames := 0, cells := 0, slots := 0, locals := 0 } : Room).cells ({ frames := 0, cells := 0, slots := 0, locals := 0 } : Room).slots) := by
  refine MetFree.of_bodySF pn_2 hisR ?_
  intro p e s m args below meth c s₁ Bd hml0 hP hK
  obtain ⟨rfl, hZ, hh⟩ := hP
  have hx := Bd.exec
  have hby := Bd.bytes
  have hlk : meth.locks = false := BodyLoose.notSynchronized Bd
  have hml : c.maxLocals = 2 := hml0
  have hown : s.vm.findClass "com/example/millwright/millwright/channel/SequenceNumbers" = some m.cls := findClass_of_methodNamed Bd.named
  have hnm := (name_of_methodNamed Bd.named Bd.method).1
  have X0 : Stand p l e ({ frames := 0, cells := 0, slots := 0, locals := 0 } : Room) s m #[(.long q1)] below meth c s₁ [] 0 0 := Stand.of_body Bd
  have e0 : s₁.heap = h0 := by rw [← hh, Bd.state]; rfl
  have N0 := Fr.nil n0
  refine own_enter (Q := (Q_2 Z q1 h0 n0)) (cs := 0) (ss := 0) (ef_2 m q1) ?_
  show Goes p e below s 0 0 (Q_2 Z q1 h0 n0) s₁ (mkF m 0 #[.val (.long q1), .second] [])
  refine own_lloadN (pc' := 1) X0 hx (hb hby d2_0) rfl rfl ?_
  refine own_ldc2 (pc' := 4) X0 hx hown (mvT hZ (hw _ (List.mem_of_getElem? (i := 6) rfl))) (hb hby d2_1) rfl ?_
  refine own_lcmp (pc' := 5) X0 hx (hb hby d2_4) rfl ?_
  by_cases hc5 : (4294966271 : Int64) < q1
  · refine own_ifN (pc' := 8) X0 hx (hb hby d2_5) (own_Tgt hc5).2 rfl ?_
    refine own_lconst (pc' := 9) X0 hx (hb hby d2_8) (v := (1 : Int64)) rfl rfl ?_
    refine own_goto X0 hx (hb hby d2_9) (by decide) (pc' := 15) (by decide) ?_
    exact own_retJ X0 hx hlk Bd.returns (hb hby d2_15) (by decide) (by decide) ⟨by simp [own_following, hc5], N0, e0⟩
  · refine own_ifY X0 hx (hb hby d2_5) (own_Fgt hc5).2 (by decide) (pc' := 12) (by decide) ?_
    refine own_lloadN (pc' := 13) X0 hx (hb hby d2_12) rfl rfl ?_
    refine own_lconst (pc' := 14) X0 hx (hb hby d2_13) (v := (1 : Int64)) rfl rfl ?_
    refine own_ladd (pc' := 15) X0 hx (hb hby d2_14) rfl ?_
    exact own_retJ X0 hx hlk Bd.returns (hb hby d2_15) (by decide) (by decide) ⟨by simp [own_following, hc5], N0, e0⟩
theorem pn_0 : plainFor x = true := by first | exact plainFor_of_name (by simp [plainName, overriddenIn, x]; done) | exact plainFor_of_name (by decide +kernel) | decide +kernel
theorem pd_0 : parseMethodDescriptor "(JJI)Z" = some ⟨[.long, .long, .int], some .boolean⟩ := by decide +kernel
theorem ef_0 (m : MethodId) (q1 : Int64) (q2 : Int64) (p3 : Int32) : entryFrame m #[(.long q1), (.long q2), (.int p3)] maxLocals = mkF m 0 #[.val (.long q1), .second, .val (.long q2), .second, .val (.int p3), .unset, .unset, .unset, .unset, .unset, .unset, .unset, .unset, .unset] [] := by first | (simp [entryFrame, mkF, argsToLocals, Value.category, maxLocals]; done) | rfl
def Q_0 (Z : State) (q1 : Int64) (q2 : Int64) (p3 : Int32) (h0 : Heap) (n0 : Nat) (v : Option Value) (h : Heap) (L : List Loc) : Prop := v = some (.int 1) ∧ Fr n0 L
set_option maxRecDepth 65536 in
set_option maxHeartbeats 40000000 in
theorem rm_0 (l : Launch) (Z : State) (a0 : Array Value) (hw : ∀ d ∈ tables_1, d.before a0 Z = true) (ws : List Jvm.Cond) (q1 : Int64) (q2 : Int64) (p3 : Int32) (h0 : Heap) (n0 : Nat) (Z0 : n0 ≤ h0.size) :
    MetFree l x (head1 (Jvm.Cond.code x code maxLocals ret :: ws) room_1) (fun a U => a = #[(.long q1), (.long q2), (.int p3)] ∧ Z.Warmed39 U.vm ∧ U.heap = h0) (fun _ _ _ _ _ => True) (fun _ U o U' => ∃ v L, o = .returned v ∧ (Q_0 Z q1 q2 p3 h0 n0) v U'.heap L ∧ FrameEnd U o U' L room_1.cells room_1.slots) := by
  refine MetFree.of_bodySF pn_0 hisR ?_
  intro p e s m args below meth c s₁ Bd hml0 hP hK
  obtain ⟨rfl, hZ, hh⟩ := hP
  have hx := Bd.exec
  have hby := Bd.bytes
  have hlk : meth.locks = false := BodyLoose.notSynchronized Bd
  have hml : c.maxLocals = 14 := hml0
  have hown : s.vm.findClass "com/example/millwright/millwright/channel/SequenceNumbersFollowsPinLaw" = some m.cls := findClass_of_methodNamed Bd.named
  have hnm := (name_of_methodNamed Bd.named Bd.method).1
  have X0 : Stand p l e room_1 s m #[(.long q1), (.long q2), (.int p3)] below meth c s₁ [] 0 0 := Stand.of_body Bd
  have e0 : s₁.heap = h0 := by rw [← hh, Bd.state]; rfl
  have N0 := Fr.nil n0
  refine own_enter (Q := (Q_0 Z q1 q2 p3 h0 n0)) (cs := 0) (ss := 0) (ef_0 m q1 q2 p3) ?_
  have J173 : ∀ (v5 : Int64) (v7 : Int32) (v8 : Int64) (i10 i11 i12 i13 : Int32), i13 = own_follows v5 v8 → Goes p e below s 0 0 (Q_0 Z q1 q2 p3 h0 n0) s₁ (mkF m 173 #[.val (.long q1), .second, .val (.long q2), .second, .val (.int p3), .val (.long v5), .second, .val (.int v7), .val (.long v8), .second, .val (.int i10), .val (.int i11), .val (.int i12), .val (.int i13)] []) := by
    intro v5 v7 v8 i10 i11 i12 i13 h13
    refine own_lload (pc' := 175) X0 hx (hb hby at_173) rfl rfl ?_
    refine own_lload (pc' := 177) X0 hx (hb hby at_175) rfl rfl ?_
    obtain ⟨_, _, ⟨T101, L101, k101, n101⟩, -, X101, ⟨Lc101, hQ101, l101, y101, z101⟩, st101⟩ := Jvm.LawKit.callS X0 hx (y := (⟨"com/example/millwright/millwright/channel/SequenceNumbers", "follows", "(JJ)Z"⟩ : MethodName)) hown (mvT hZ (hw _ (List.mem_of_getElem? (i := 2) rfl))) (mvT hZ (hw _ (List.mem_of_getElem? (i := 3) rfl))) (mvT hZ (hw _ (List.mem_of_getElem? (i := 4) rfl))) (mvT hZ (hw _ (List.mem_of_getElem? (i := 5) rfl))) (by decide) (backOf (W := 0) (rm_1 l Z a0 hw [] v5 v8 h0 n0 Z0) hZ (hw _ (List.mem_of_getElem? (i := 5) rfl)) (hw _ (List.mem_of_getElem? (i := 4) rfl)) (by decide) (by decide)) (g := (mkF m 177 #[.val (.long q1), .second, .val (.long q2), .second, .val (.int p3), .val (.long v5), .second, .val (.int v7), .val (.long v8), .second, .val (.int i10), .val (.int i11), .val (.int i12), .val (.int i13)] [(.long v8), (.long v5)])) rfl (by rw [hml]; rfl) (argsL := [(.long v5), (.long v8)]) (rest := []) (lenOf pd_1 rfl) rfl (by show 2 * 0 + _ ≤ _; exact Nat.le_of_eq rfl) (hb hby at_177) (fun _ _ => ⟨rfl, e0, (by decide : 0 + 0 ≤ _), (by decide : 0 + 0 ≤ _)⟩)
    dsimp only [Pt.U, Pt.locs, Pt.cells, Pt.slots] at X101 l101 y101 z101 st101 hQ101
    subst l101 y101 z101
    obtain ⟨rfl, M101, e177⟩ := hQ101
    have N101 := Fr.app N0 M101
    refine Goes.pre st101 ?_
    show Goes p e below s 0 0 (Q_0 Z q1 q2 p3 h0 n0) T101 (mkF m 180 #[.val (.long q1), .second, .val (.long q2), .second, .val (.int p3), .val (.long v5), .second, .val (.int v7), .val (.long v8), .second, .val (.int i10), .val (.int i11), .val (.int i12), .val (.int i13)] [(.int (own_follows v5 v8))])
    refine own_iload (pc' := 182) X101 hx (hb hby at_180) rfl rfl ?_
    refine own_icmpY X101 hx (hb hby at_182) (teq h13.symm).1 (by decide) (pc' := 187) (by decide) ?_
    refine own_lload (pc' := 189) X101 hx (hb hby at_187) rfl rfl ?_
    refine own_lload (pc' := 191) X101 hx (hb hby at_189) rfl rfl ?_
    obtain ⟨_, _, ⟨T102, L102, k102, n102⟩, -, X102, ⟨Lc102, hQ102, l102, y102, z102⟩, st102⟩ := Jvm.LawKit.callS X101 hx (y := (⟨"com/example/millwright/millwright/channel/SequenceNumbers", "following", "(J)J"⟩ : MethodName)) hown (mvT hZ (hw _ (List.mem_of_getElem? (i := 7) rfl))) (mvT hZ (hw _ (List.mem_of_getElem? (i := 8) rfl))) (mvT hZ (hw _ (List.mem_of_getElem? (i := 4) rfl))) (mvT hZ (hw _ (List.mem_of_getElem? (i := 9) rfl))) (by decide) (backOf (W := 2) (rm_2 l Z a0 hw [] v5 h0 n0 Z0) hZ (hw _ (List.mem_of_getElem? (i := 9) rfl)) (hw _ (List.mem_of_getElem? (i := 4) rfl)) (by decide) (by decide)) (g := (mkF m 191 #[.val (.long q1), .second, .val (.long q2), .second, .val (.int p3), .val (.long v5), .second, .val (.int v7), .val (.long v8), .second, .val (.int i10), .val (.int i11), .val (.int i12), .val (.int i13)] [(.long v5), (.long v5)])) rfl (by rw [hml]; rfl) (argsL := [(.long v5)]) (rest := [(.long v5)]) (lenOf pd_2 rfl) rfl (by show 2 * 0 + _ ≤ _; exact Nat.le_of_eq rfl) (hb hby at_191) (fun _ _ => ⟨rfl, e177, (by decide : 0 + 0 ≤ _), (by decide : 0 + 0 ≤ _)⟩)
    dsimp only [Pt.U, Pt.locs, Pt.cells, Pt.slots] at X102 l102 y102 z102 st102 hQ102
    subst l102 y102 z102
    obtain ⟨rfl, M102, e191⟩ := hQ102
    have N102 := Fr.app N101 M102
    refine Goes.pre st102 ?_
    show Goes p e below s 0 0 (Q_0 Z q1 q2 p3 h0 n0) T102 (mkF m 194 #[.val (.long q1), .second, .val (.long q2), .second, .val (.int p3), .val (.long v5), .second, .val (.int v7), .val (.long v8), .second, .val (.int i10), .val (.int i11), .val (.int i12), .val (.int i13)] [(.long (own_following v5)), (.long v5)])
    obtain ⟨_, _, ⟨T103, L103, k103, n103⟩, -, X103, ⟨Lc103, hQ103, l103, y103, z103⟩, st103⟩ := Jvm.LawKit.callS X102 hx (y := (⟨"com/example/millwright/millwright/channel/SequenceNumbers", "follows", "(JJ)Z"⟩ : MethodName)) hown (mvT hZ (hw _ (List.mem_of_getElem? (i := 2) rfl))) (mvT hZ (hw _ (List.mem_of_getElem? (i := 3) rfl))) (mvT hZ (hw _ (List.mem_of_getElem? (i := 4) rfl))) (mvT hZ (hw _ (List.mem_of_getElem? (i := 5) rfl))) (by decide) (backOf (W := 0) (rm_1 l Z a0 hw [] v5 (own_following v5) h0 n0 Z0) hZ (hw _ (List.mem_of_getElem? (i := 5) rfl)) (hw _ (List.mem_of_getElem? (i := 4) rfl)) (by decide) (by decide)) (g := (mkF m 194 #[.val (.long q1), .second, .val (.long q2), .second, .val (.int p3), .val (.long v5), .second, .val (.int v7), .val (.long v8), .second, .val (.int i10), .val (.int i11), .val (.int i12), .val (.int i13)] [(.long (own_following v5)), (.long v5)])) rfl (by rw [hml]; rfl) (argsL := [(.long v5), (.long (own_following v5))]) (rest := []) (lenOf pd_1 rfl) rfl (by show 2 * 0 + _ ≤ _; exact Nat.le_of_eq rfl) (hb hby at_194) (fun _ _ => ⟨rfl, e191, (by decide : 0 + 0 ≤ _), (by decide : 0 + 0 ≤ _)⟩)
    dsimp only [Pt.U, Pt.locs, Pt.cells, Pt.slots] at X103 l103 y103 z103 st103 hQ103
    subst l103 y103 z103
    obtain ⟨rfl, M103, e194⟩ := hQ103
    have N103 := Fr.app N102 M103
    refine Goes.pre st103 ?_
    show Goes p e below s 0 0 (Q_0 Z q1 q2 p3 h0 n0) T103 (mkF m 197 #[.val (.long q1), .second, .val (.long q2), .second, .val (.int p3), .val (.long v5), .second, .val (.int v7), .val (.long v8), .second, .val (.int i10), .val (.int i11), .val (.int i12), .val (.int i13)] [(.int (own_follows v5 (own_following v5)))])
    exact own_retN X103 hx hlk (t := .boolean) Bd.returns (by simp) (hb hby at_197) (by decide) (by decide) ⟨by rw [own_ff]; rfl, N103⟩
  have J98 : ∀ (v5 : Int64) (v7 : Int32) (v8 : Int64), 0 ≤ v5.toInt → v5.toInt < 4294967296 → -16 ≤ v8.toInt → v8.toInt < 4294967312 → Goes p e below s 0 0 (Q_0 Z q1 q2 p3 h0 n0) s₁ (mkF m 98 #[.val (.long q1), .second, .val (.long q2), .second, .val (.int p3), .val (.long v5), .second, .val (.int v7), .val (.long v8), .second, .unset, .unset, .unset, .unset] []) := by
    intro v5 v7 v8 b1 b2 b3 b4
    refine own_lload (pc' := 100) X0 hx (hb hby at_98) rfl rfl ?_
    refine own_lload (pc' := 102) X0 hx (hb hby at_100) rfl rfl ?_
    refine own_lsub (pc' := 103) X0 hx (hb hby at_102) rfl ?_
    refine own_lconst (pc' := 104) X0 hx (hb hby at_103) (v := (1 : Int64)) rfl rfl ?_
    refine own_lcmp (pc' := 105) X0 hx (hb hby at_104) rfl ?_
    by_cases hc105 : (v8 - v5) = (1 : Int64)
    · refine own_ifN (pc' := 108) X0 hx (hb hby at_105) (own_Teq hc105).2 rfl ?_
      refine own_iconst (pc' := 109) X0 hx (hb hby at_108) (v := (1 : Int32)) rfl rfl ?_
      refine own_goto X0 hx (hb hby at_109) (by decide) (pc' := 113) (by decide) ?_
      refine own_istore (pc' := 115) X0 hx (hb hby at_113) (Ls' := #[.val (.long q1), .second, .val (.long q2), .second, .val (.int p3), .val (.long v5), .second, .val (.int v7), .val (.long v8), .second, .val (.int (1 : Int32)), .unset, .unset, .unset]) rfl rfl ?_
      refine own_ldc2 (pc' := 118) X0 hx hown (mvT hZ (hw _ (List.mem_of_getElem? (i := 0) rfl))) (hb hby at_115) rfl ?_
      refine own_lload (pc' := 120) X0 hx (hb hby at_118) rfl rfl ?_
      refine own_lsub (pc' := 121) X0 hx (hb hby at_120) rfl ?_
      refine own_ldc2 (pc' := 124) X0 hx hown (mvT hZ (hw _ (List.mem_of_getElem? (i := 1) rfl))) (hb hby at_121) rfl ?_
      refine own_lcmp (pc' := 125) X0 hx (hb hby at_124) rfl ?_
      by_cases hc125 : ((4294967295 : Int64) - v5) < (1024 : Int64)
      · refine own_ifN (pc' := 128) X0 hx (hb hby at_125) (own_Tlt hc125).2 rfl ?_
        refine own_iconst (pc' := 129) X0 hx (hb hby at_128) (v := (1 : Int32)) rfl rfl ?_
        refine own_goto X0 hx (hb hby at_129) (by decide) (pc' := 133) (by decide) ?_
        refine own_istore (pc' := 135) X0 hx (hb hby at_133) (Ls' := #[.val (.long q1), .second, .val (.long q2), .second, .val (.int p3), .val (.long v5), .second, .val (.int v7), .val (.long v8), .second, .val (.int (1 : Int32)), .val (.int (1 : Int32)), .unset, .unset]) rfl rfl ?_
        refine own_lload (pc' := 137) X0 hx (hb hby at_135) rfl rfl ?_
        refine own_ldc2 (pc' := 140) X0 hx hown (mvT hZ (hw _ (List.mem_of_getElem? (i := 1) rfl))) (hb hby at_137) rfl ?_
        refine own_lcmp (pc' := 141) X0 hx (hb hby at_140) rfl ?_
        by_cases hc141 : v8 < (1024 : Int64)
        · refine own_ifN (pc' := 144) X0 hx (hb hby at_141) (own_Tlt hc141).2 rfl ?_
          refine own_iconst (pc' := 145) X0 hx (hb hby at_144) (v := (1 : Int32)) rfl rfl ?_
          refine own_goto X0 hx (hb hby at_145) (by decide) (pc' := 149) (by decide) ?_
          refine own_istore (pc' := 151) X0 hx (hb hby at_149) (Ls' := #[.val (.long q1), .second, .val (.long q2), .second, .val (.int p3), .val (.long v5), .second, .val (.int v7), .val (.long v8), .second, .val (.int (1 : Int32)), .val (.int (1 : Int32)), .val (.int (1 : Int32)), .unset]) rfl rfl ?_
          refine own_iload (pc' := 153) X0 hx (hb hby at_151) rfl rfl ?_
          refine own_ifY X0 hx (hb hby at_153) (by decide) (by decide) (pc' := 166) (by decide) ?_
          refine own_iconst (pc' := 167) X0 hx (hb hby at_166) (v := (1 : Int32)) rfl rfl ?_
          refine own_goto X0 hx (hb hby at_167) (by decide) (pc' := 171) (by decide) ?_
          refine own_istore (pc' := 173) X0 hx (hb hby at_171) (Ls' := #[.val (.long q1), .second, .val (.long q2), .second, .val (.int p3), .val (.long v5), .second, .val (.int v7), .val (.long v8), .second, .val (.int (1 : Int32)), .val (.int (1 : Int32)), .val (.int (1 : Int32)), .val (.int (1 : Int32))]) rfl rfl ?_
          exact J173 v5 v7 v8 _ _ _ _ (by rw [own_exp v5 v8 b1 b2 b3 b4]; simp [hc105, hc125, hc141])
        · refine own_ifY X0 hx (hb hby at_141) (own_Flt hc141).2 (by decide) (pc' := 148) (by decide) ?_
          refine own_iconst (pc' := 149) X0 hx (hb hby at_148) (v := (0 : Int32)) rfl rfl ?_
          refine own_istore (pc' := 151) X0 hx (hb hby at_149) (Ls' := #[.val (.long q1), .second, .val (.long q2), .second, .val (.int p3), .val (.long v5), .second, .val (.int v7), .val (.long v8), .second, .val (.int (1 : Int32)), .val (.int (1 : Int32)), .val (.int (0 : Int32)), .unset]) rfl rfl ?_
          refine own_iload (pc' := 153) X0 hx (hb hby at_151) rfl rfl ?_
          refine own_ifY X0 hx (hb hby at_153) (by decide) (by decide) (pc' := 166) (by decide) ?_
          refine own_iconst (pc' := 167) X0 hx (hb hby at_166) (v := (1 : Int32)) rfl rfl ?_
          refine own_goto X0 hx (hb hby at_167) (by decide) (pc' := 171) (by decide) ?_
          refine own_istore (pc' := 173) X0 hx (hb hby at_171) (Ls' := #[.val (.long q1), .second, .val (.long q2), .second, .val (.int p3), .val (.long v5), .second, .val (.int v7), .val (.long v8), .second, .val (.int (1 : Int32)), .val (.int (1 : Int32)), .val (.int (0 : Int32)), .val (.int (1 : Int32))]) rfl rfl ?_
          exact J173 v5 v7 v8 _ _ _ _ (by rw [own_exp v5 v8 b1 b2 b3 b4]; simp [hc105, hc125, hc141])
      · refine own_ifY X0 hx (hb hby at_125) (own_Flt hc125).2 (by decide) (pc' := 132) (by decide) ?_
        refine own_iconst (pc' := 133) X0 hx (hb hby at_132) (v := (0 : Int32)) rfl rfl ?_
        refine own_istore (pc' := 135) X0 hx (hb hby at_133) (Ls' := #[.val (.long q1), .second, .val (.long q2), .second, .val (.int p3), .val (.long v5), .second, .val (.int v7), .val (.long v8), .second, .val (.int (1 : Int32)), .val (.int (0 : Int32)), .unset, .unset]) rfl rfl ?_
        refine own_lload (pc' := 137) X0 hx (hb hby at_135) rfl rfl ?_
        refine own_ldc2 (pc' := 140) X0 hx hown (mvT hZ (hw _ (List.mem_of_getElem? (i := 1) rfl))) (hb hby at_137) rfl ?_
        refine own_lcmp (pc' := 141) X0 hx (hb hby at_140) rfl ?_
        by_cases hc141 : v8 < (1024 : Int64)
        · refine own_ifN (pc' := 144) X0 hx (hb hby at_141) (own_Tlt hc141).2 rfl ?_
          refine own_iconst (pc' := 145) X0 hx (hb hby at_144) (v := (1 : Int32)) rfl rfl ?_
          refine own_goto X0 hx (hb hby at_145) (by decide) (pc' := 149) (by decide) ?_
          refine own_istore (pc' := 151) X0 hx (hb hby at_149) (Ls' := #[.val (.long q1), .second, .val (.long q2), .second, .val (.int p3), .val (.long v5), .second, .val (.int v7), .val (.long v8), .second, .val (.int (1 : Int32)), .val (.int (0 : Int32)), .val (.int (1 : Int32)), .unset]) rfl rfl ?_
          refine own_iload (pc' := 153) X0 hx (hb hby at_151) rfl rfl ?_
          refine own_ifY X0 hx (hb hby at_153) (by decide) (by decide) (pc' := 166) (by decide) ?_
          refine own_iconst (pc' := 167) X0 hx (hb hby at_166) (v := (1 : Int32)) rfl rfl ?_
          refine own_goto X0 hx (hb hby at_167) (by decide) (pc' := 171) (by decide) ?_
          refine own_istore (pc' := 173) X0 hx (hb hby at_171) (Ls' := #[.val (.long q1), .second, .val (.long q2), .second, .val (.int p3), .val (.long v5), .second, .val (.int v7), .val (.long v8), .second, .val (.int (1 : Int32)), .val (.int (0 : Int32)), .val (.int (1 : Int32)), .val (.int (1 : Int32))]) rfl rfl ?_
          exact J173 v5 v7 v8 _ _ _ _ (by rw [own_exp v5 v8 b1 b2 b3 b4]; simp [hc105, hc125, hc141])
        · refine own_ifY X0 hx (hb hby at_141) (own_Flt hc141).2 (by decide) (pc' := 148) (by decide) ?_
          refine own_iconst (pc' := 149) X0 hx (hb hby at_148) (v := (0 : Int32)) rfl rfl ?_
          refine own_istore (pc' := 151) X0 hx (hb hby at_149) (Ls' := #[.val (.long q1), .second, .val (.long q2), .second, .val (.int p3), .val (.long v5), .second, .val (.int v7), .val (.long v8), .second, .val (.int (1 : Int32)), .val (.int (0 : Int32)), .val (.int (0 : Int32)), .unset]) rfl rfl ?_
          refine own_iload (pc' := 153) X0 hx (hb hby at_151) rfl rfl ?_
          refine own_ifY X0 hx (hb hby at_153) (by decide) (by decide) (pc' := 166) (by decide) ?_
          refine own_iconst (pc' := 167) X0 hx (hb hby at_166) (v := (1 : Int32)) rfl rfl ?_
          refine own_goto X0 hx (hb hby at_167) (by decide) (pc' := 171) (by decide) ?_
          refine own_istore (pc' := 173) X0 hx (hb hby at_171) (Ls' := #[.val (.long q1), .second, .val (.long q2), .second, .val (.int p3), .val (.long v5), .second, .val (.int v7), .val (.long v8), .second, .val (.int (1 : Int32)), .val (.int (0 : Int32)), .val (.int (0 : Int32)), .val (.int (1 : Int32))]) rfl rfl ?_
          exact J173 v5 v7 v8 _ _ _ _ (by rw [own_exp v5 v8 b1 b2 b3 b4]; simp [hc105, hc125, hc141])
    · refine own_ifY X0 hx (hb hby at_105) (own_Feq hc105).2 (by decide) (pc' := 112) (by decide) ?_
      refine own_iconst (pc' := 113) X0 hx (hb hby at_112) (v := (0 : Int32)) rfl rfl ?_
      refine own_istore (pc' := 115) X0 hx (hb hby at_113) (Ls' := #[.val (.long q1), .second, .val (.long q2), .second, .val (.int p3), .val (.long v5), .second, .val (.int v7), .val (.long v8), .second, .val (.int (0 : Int32)), .unset, .unset, .unset]) rfl rfl ?_
      refine own_ldc2 (pc' := 118) X0 hx hown (mvT hZ (hw _ (List.mem_of_getElem? (i := 0) rfl))) (hb hby at_115) rfl ?_
      refine own_lload (pc' := 120) X0 hx (hb hby at_118) rfl rfl ?_
      refine own_lsub (pc' := 121) X0 hx (hb hby at_120) rfl ?_
      refine own_ldc2 (pc' := 124) X0 hx hown (mvT hZ (hw _ (List.mem_of_getElem? (i := 1) rfl))) (hb hby at_121) rfl ?_
      refine own_lcmp (pc' := 125) X0 hx (hb hby at_124) rfl ?_
      by_cases hc125 : ((4294967295 : Int64) - v5) < (1024 : Int64)
      · refine own_ifN (pc' := 128) X0 hx (hb hby at_125) (own_Tlt hc125).2 rfl ?_
        refine own_iconst (pc' := 129) X0 hx (hb hby at_128) (v := (1 : Int32)) rfl rfl ?_
        refine own_goto X0 hx (hb hby at_129) (by decide) (pc' := 133) (by decide) ?_
        refine own_istore (pc' := 135) X0 hx (hb hby at_133) (Ls' := #[.val (.long q1), .second, .val (.long q2), .second, .val (.int p3), .val (.long v5), .second, .val (.int v7), .val (.long v8), .second, .val (.int (0 : Int32)), .val (.int (1 : Int32)), .unset, .unset]) rfl rfl ?_
        refine own_lload (pc' := 137) X0 hx (hb hby at_135) rfl rfl ?_
        refine own_ldc2 (pc' := 140) X0 hx hown (mvT hZ (hw _ (List.mem_of_getElem? (i := 1) rfl))) (hb hby at_137) rfl ?_
        refine own_lcmp (pc' := 141) X0 hx (hb hby at_140) rfl ?_
        by_cases hc141 : v8 < (1024 : Int64)
        · refine own_ifN (pc' := 144) X0 hx (hb hby at_141) (own_Tlt hc141).2 rfl ?_
          refine own_iconst (pc' := 145) X0 hx (hb hby at_144) (v := (1 : Int32)) rfl rfl ?_
          refine own_goto X0 hx (hb hby at_145) (by decide) (pc' := 149) (by decide) ?_
          refine own_istore (pc' := 151) X0 hx (hb hby at_149) (Ls' := #[.val (.long q1), .second, .val (.long q2), .second, .val (.int p3), .val (.long v5), .second, .val (.int v7), .val (.long v8), .second, .val (.int (0 : Int32)), .val (.int (1 : Int32)), .val (.int (1 : Int32)), .unset]) rfl rfl ?_
          refine own_iload (pc' := 153) X0 hx (hb hby at_151) rfl rfl ?_
          refine own_ifN (pc' := 156) X0 hx (hb hby at_153) (by decide) rfl ?_
          refine own_iload (pc' := 158) X0 hx (hb hby at_156) rfl rfl ?_
          refine own_ifN (pc' := 161) X0 hx (hb hby at_158) (by decide) rfl ?_
          refine own_iload (pc' := 163) X0 hx (hb hby at_161) rfl rfl ?_
          refine own_ifN (pc' := 166) X0 hx (hb hby at_163) (by decide) rfl ?_
          refine own_iconst (pc' := 167) X0 hx (hb hby at_166) (v := (1 : Int32)) rfl rfl ?_
          refine own_goto X0 hx (hb hby at_167) (by decide) (pc' := 171) (by decide) ?_
          refine own_istore (pc' := 173) X0 hx (hb hby at_171) (Ls' := #[.val (.long q1), .second, .val (.long q2), .second, .val (.int p3), .val (.long v5), .second, .val (.int v7), .val (.long v8), .second, .val (.int (0 : Int32)), .val (.int (1 : Int32)), .val (.int (1 : Int32)), .val (.int (1 : Int32))]) rfl rfl ?_
          exact J173 v5 v7 v8 _ _ _ _ (by rw [own_exp v5 v8 b1 b2 b3 b4]; simp [hc105, hc125, hc141])
        · refine own_ifY X0 hx (hb hby at_141) (own_Flt hc141).2 (by decide) (pc' := 148) (by decide) ?_
          refine own_iconst (pc' := 149) X0 hx (hb hby at_148) (v := (0 : Int32)) rfl rfl ?_
          refine own_istore (pc' := 151) X0 hx (hb hby at_149) (Ls' := #[.val (.long q1), .second, .val (.long q2), .second, .val (.int p3), .val (.long v5), .second, .val (.int v7), .val (.long v8), .second, .val (.int (0 : Int32)), .val (.int (1 : Int32)), .val (.int (0 : Int32)), .unset]) rfl rfl ?_
          refine own_iload (pc' := 153) X0 hx (hb hby at_151) rfl rfl ?_
          refine own_ifN (pc' := 156) X0 hx (hb hby at_153) (by decide) rfl ?_
          refine own_iload (pc' := 158) X0 hx (hb hby at_156) rfl rfl ?_
          refine own_ifN (pc' := 161) X0 hx (hb hby at_158) (by decide) rfl ?_
          refine own_iload (pc' := 163) X0 hx (hb hby at_161) rfl rfl ?_
          refine own_ifY X0 hx (hb hby at_163) (by decide) (by decide) (pc' := 170) (by decide) ?_
          refine own_iconst (pc' := 171) X0 hx (hb hby at_170) (v := (0 : Int32)) rfl rfl ?_
          refine own_istore (pc' := 173) X0 hx (hb hby at_171) (Ls' := #[.val (.long q1), .second, .val (.long q2), .second, .val (.int p3), .val (.long v5), .second, .val (.int v7), .val (.long v8), .second, .val (.int (0 : Int32)), .val (.int (1 : Int32)), .val (.int (0 : Int32)), .val (.int (0 : Int32))]) rfl rfl ?_
          exact J173 v5 v7 v8 _ _ _ _ (by rw [own_exp v5 v8 b1 b2 b3 b4]; simp [hc105, hc125, hc141])
      · refine own_ifY X0 hx (hb hby at_125) (own_Flt hc125).2 (by decide) (pc' := 132) (by decide) ?_
        refine own_iconst (pc' := 133) X0 hx (hb hby at_132) (v := (0 : Int32)) rfl rfl ?_
        refine own_istore (pc' := 135) X0 hx (hb hby at_133) (Ls' := #[.val (.long q1), .second, .val (.long q2), .second, .val (.int p3), .val (.long v5), .second, .val (.int v7), .val (.long v8), .second, .val (.int (0 : Int32)), .val (.int (0 : Int32)), .unset, .unset]) rfl rfl ?_
        refine own_lload (pc' := 137) X0 hx (hb hby at_135) rfl rfl ?_
        refine own_ldc2 (pc' := 140) X0 hx hown (mvT hZ (hw _ (List.mem_of_getElem? (i := 1) rfl))) (hb hby at_137) rfl ?_
        refine own_lcmp (pc' := 141) X0 hx (hb hby at_140) rfl ?_
        by_cases hc141 : v8 < (1024 : Int64)
        · refine own_ifN (pc' := 144) X0 hx (hb hby at_141) (own_Tlt hc141).2 rfl ?_
          refine own_iconst (pc' := 145) X0 hx (hb hby at_144) (v := (1 : Int32)) rfl rfl ?_
          refine own_goto X0 hx (hb hby at_145) (by decide) (pc' := 149) (by decide) ?_
          refine own_istore (pc' := 151) X0 hx (hb hby at_149) (Ls' := #[.val (.long q1), .second, .val (.long q2), .second, .val (.int p3), .val (.long v5), .second, .val (.int v7), .val (.long v8), .second, .val (.int (0 : Int32)), .val (.int (0 : Int32)), .val (.int (1 : Int32)), .unset]) rfl rfl ?_
          refine own_iload (pc' := 153) X0 hx (hb hby at_151) rfl rfl ?_
          refine own_ifN (pc' := 156) X0 hx (hb hby at_153) (by decide) rfl ?_
          refine own_iload (pc' := 158) X0 hx (hb hby at_156) rfl rfl ?_
          refine own_ifY X0 hx (hb hby at_158) (by decide) (by decide) (pc' := 170) (by decide) ?_
          refine own_iconst (pc' := 171) X0 hx (hb hby at_170) (v := (0 : Int32)) rfl rfl ?_
          refine own_istore (pc' := 173) X0 hx (hb hby at_171) (Ls' := #[.val (.long q1), .second, .val (.long q2), .second, .val (.int p3), .val (.long v5), .second, .val (.int v7), .val (.long v8), .second, .val (.int (0 : Int32)), .val (.int (0 : Int32)), .val (.int (1 : Int32)), .val (.int (0 : Int32))]) rfl rfl ?_
          exact J173 v5 v7 v8 _ _ _ _ (by rw [own_exp v5 v8 b1 b2 b3 b4]; simp [hc105, hc125, hc141])
        · refine own_ifY X0 hx (hb hby at_141) (own_Flt hc141).2 (by decide) (pc' := 148) (by decide) ?_
          refine own_iconst (pc' := 149) X0 hx (hb hby at_148) (v := (0 : Int32)) rfl rfl ?_
          refine own_istore (pc' := 151) X0 hx (hb hby at_149) (Ls' := #[.val (.long q1), .second, .val (.long q2), .second, .val (.int p3), .val (.long v5), .second, .val (.int v7), .val (.long v8), .second, .val (.int (0 : Int32)), .val (.int (0 : Int32)), .val (.int (0 : Int32)), .unset]) rfl rfl ?_
          refine own_iload (pc' := 153) X0 hx (hb hby at_151) rfl rfl ?_
          refine own_ifN (pc' := 156) X0 hx (hb hby at_153) (by decide) rfl ?_
          refine own_iload (pc' := 158) X0 hx (hb hby at_156) rfl rfl ?_
          refine own_ifY X0 hx (hb hby at_158) (by decide) (by decide) (pc' := 170) (by decide) ?_
          refine own_iconst (pc' := 171) X0 hx (hb hby at_170) (v := (0 : Int32)) rfl rfl ?_
          refine own_istore (pc' := 173) X0 hx (hb hby at_171) (Ls' := #[.val (.long q1), .second, .val (.long q2), .second, .val (.int p3), .val (.long v5), .second, .val (.int v7), .val (.long v8), .second, .val (.int (0 : Int32)), .val (.int (0 : Int32)), .val (.int (0 : Int32)), .val (.int (0 : Int32))]) rfl rfl ?_
          exact J173 v5 v7 v8 _ _ _ _ (by rw [own_exp v5 v8 b1 b2 b3 b4]; simp [hc105, hc125, hc141])
  have J28 : ∀ (v5 : Int64), 0 ≤ v5.toInt → v5.toInt < 4294967296 → Goes p e below s 0 0 (Q_0 Z q1 q2 p3 h0 n0) s₁ (mkF m 28 #[.val (.long q1), .second, .val (.long q2), .second, .val (.int p3), .val (.long v5), .second, .unset, .unset, .unset, .unset, .unset, .unset, .unset] []) := by
    intro v5 b1 b2
    refine own_iload (pc' := 30) X0 hx (hb hby at_28) rfl rfl ?_
    refine own_iconst (pc' := 31) X0 hx (hb hby at_30) (v := (1 : Int32)) rfl rfl ?_
    refine own_iushr (pc' := 32) X0 hx (hb hby at_31) rfl ?_
    refine own_iconst (pc' := 33) X0 hx (hb hby at_32) (v := (3 : Int32)) rfl rfl ?_
    refine own_iand (pc' := 34) X0 hx (hb hby at_33) rfl ?_
    refine own_istore (pc' := 36) X0 hx (hb hby at_34) (Ls' := #[.val (.long q1), .second, .val (.long q2), .second, .val (.int p3), .val (.long v5), .second, .val (.int ((((p3).toUInt32 >>> ((1 : Int32) &&& 31).toUInt32).toInt32) &&& (3 : Int32))), .unset, .unset, .unset, .unset, .unset, .unset]) rfl rfl ?_
    refine own_iload (pc' := 38) X0 hx (hb hby at_36) rfl rfl ?_
    by_cases hc38 : ((((p3).toUInt32 >>> ((1 : Int32) &&& 31).toUInt32).toInt32) &&& (3 : Int32)) = (0 : Int32)
    · refine own_ifN (pc' := 41) X0 hx (hb hby at_38) ((if0 _ _).trans (teq hc38).2) rfl ?_
      refine own_lload (pc' := 43) X0 hx (hb hby at_41) rfl rfl ?_
      refine own_lconst (pc' := 44) X0 hx (hb hby at_43) (v := (1 : Int64)) rfl rfl ?_
      refine own_ladd (pc' := 45) X0 hx (hb hby at_44) rfl ?_
      refine own_lstore (pc' := 47) X0 hx (hb hby at_45) (Ls' := #[.val (.long q1), .second, .val (.long q2), .second, .val (.int p3), .val (.long v5), .second, .val (.int ((((p3).toUInt32 >>> ((1 : Int32) &&& 31).toUInt32).toInt32) &&& (3 : Int32))), .val (.long (v5 + (1 : Int64))), .second, .unset, .unset, .unset, .unset]) rfl rfl ?_
      refine own_goto X0 hx (hb hby at_47) (by decide) (pc' := 98) (by decide) ?_
      exact J98 v5 _ _ b1 b2 (own_b v5 q2 b1 b2).1.1 (own_b v5 q2 b1 b2).1.2
    · refine own_ifY X0 hx (hb hby at_38) ((if0 _ _).trans (feq hc38).2) (by decide) (pc' := 50) (by decide) ?_
      refine own_iload (pc' := 52) X0 hx (hb hby at_50) rfl rfl ?_
      refine own_iconst (pc' := 53) X0 hx (hb hby at_52) (v := (1 : Int32)) rfl rfl ?_
      by_cases hc53 : ((((p3).toUInt32 >>> ((1 : Int32) &&& 31).toUInt32).toInt32) &&& (3 : Int32)) = (1 : Int32)
      · refine own_icmpN (pc' := 56) X0 hx (hb hby at_53) (teq hc53).2 rfl ?_
        refine own_lloadN (pc' := 57) X0 hx (hb hby at_56) rfl rfl ?_
        refine own_ldc2 (pc' := 60) X0 hx hown (mvT hZ (hw _ (List.mem_of_getElem? (i := 0) rfl))) (hb hby at_57) rfl ?_
        refine own_land (pc' := 61) X0 hx (hb hby at_60) rfl ?_
        refine own_lstore (pc' := 63) X0 hx (hb hby at_61) (Ls' := #[.val (.long q1), .second, .val (.long q2), .second, .val (.int p3), .val (.long v5), .second, .val (.int ((((p3).toUInt32 >>> ((1 : Int32) &&& 31).toUInt32).toInt32) &&& (3 : Int32))), .val (.long (q2 &&& (4294967295 : Int64))), .second, .unset, .unset, .unset, .unset]) rfl rfl ?_
        refine own_goto X0 hx (hb hby at_63) (by decide) (pc' := 98) (by decide) ?_
        exact J98 v5 _ _ b1 b2 (own_b v5 q2 b1 b2).2.1.1 (own_b v5 q2 b1 b2).2.1.2
      · refine own_icmpY X0 hx (hb hby at_53) (feq hc53).2 (by decide) (pc' := 66) (by decide) ?_
        refine own_iload (pc' := 68) X0 hx (hb hby at_66) rfl rfl ?_
        refine own_iconst (pc' := 69) X0 hx (hb hby at_68) (v := (2 : Int32)) rfl rfl ?_
        by_cases hc69 : ((((p3).toUInt32 >>> ((1 : Int32) &&& 31).toUInt32).toInt32) &&& (3 : Int32)) = (2 : Int32)
        · refine own_icmpN (pc' := 72) X0 hx (hb hby at_69) (teq hc69).2 rfl ?_
          refine own_lloadN (pc' := 73) X0 hx (hb hby at_72) rfl rfl ?_
          refine own_ldc2 (pc' := 76) X0 hx hown (mvT hZ (hw _ (List.mem_of_getElem? (i := 10) rfl))) (hb hby at_73) rfl ?_
          refine own_land (pc' := 77) X0 hx (hb hby at_76) rfl ?_
          refine own_lstore (pc' := 79) X0 hx (hb hby at_77) (Ls' := #[.val (.long q1), .second, .val (.long q2), .second, .val (.int p3), .val (.long v5), .second, .val (.int ((((p3).toUInt32 >>> ((1 : Int32) &&& 31).toUInt32).toInt32) &&& (3 : Int32))), .val (.long (q2 &&& (2047 : Int64))), .second, .unset, .unset, .unset, .unset]) rfl rfl ?_
          refine own_goto X0 hx (hb hby at_79) (by decide) (pc' := 98) (by decide) ?_
          exact J98 v5 _ _ b1 b2 (own_b v5 q2 b1 b2).2.2.1.1 (own_b v5 q2 b1 b2).2.2.1.2
        · refine own_icmpY X0 hx (hb hby at_69) (feq hc69).2 (by decide) (pc' := 82) (by decide) ?_
          refine own_lload (pc' := 84) X0 hx (hb hby at_82) rfl rfl ?_
          refine own_lconst (pc' := 85) X0 hx (hb hby at_84) (v := (1 : Int64)) rfl rfl ?_
          refine own_ladd (pc' := 86) X0 hx (hb hby at_85) rfl ?_
          refine own_lloadN (pc' := 87) X0 hx (hb hby at_86) rfl rfl ?_
          refine own_ldc2 (pc' := 90) X0 hx hown (mvT hZ (hw _ (List.mem_of_getElem? (i := 11) rfl))) (hb hby at_87) rfl ?_
          refine own_land (pc' := 91) X0 hx (hb hby at_90) rfl ?_
          refine own_ldc2 (pc' := 94) X0 hx hown (mvT hZ (hw _ (List.mem_of_getElem? (i := 12) rfl))) (hb hby at_91) rfl ?_
          refine own_lsub (pc' := 95) X0 hx (hb hby at_94) rfl ?_
          refine own_ladd (pc' := 96) X0 hx (hb hby at_95) rfl ?_
          refine own_lstore (pc' := 98) X0 hx (hb hby at_96) (Ls' := #[.val (.long q1), .second, .val (.long q2), .second, .val (.int p3), .val (.long v5), .second, .val (.int ((((p3).toUInt32 >>> ((1 : Int32) &&& 31).toUInt32).toInt32) &&& (3 : Int32))), .val (.long ((v5 + (1 : Int64)) + ((q2 &&& (7 : Int64)) - (3 : Int64)))), .second, .unset, .unset, .unset, .unset]) rfl rfl ?_
          exact J98 v5 _ _ b1 b2 (own_b v5 q2 b1 b2).2.2.2.1 (own_b v5 q2 b1 b2).2.2.2.2
  show Goes p e below s 0 0 (Q_0 Z q1 q2 p3 h0 n0) s₁ (mkF m 0 #[.val (.long q1), .second, .val (.long q2), .second, .val (.int p3), .unset, .unset, .unset, .unset, .unset, .unset, .unset, .unset, .unset] [])
  refine own_iload (pc' := 2) X0 hx (hb hby at_0) rfl rfl ?_
  refine own_iconst (pc' := 3) X0 hx (hb hby at_2) (v := (1 : Int32)) rfl rfl ?_
  refine own_iand (pc' := 4) X0 hx (hb hby at_3) rfl ?_
  by_cases hc4 : (p3 &&& (1 : Int32)) = (0 : Int32)
  · refine own_ifY X0 hx (hb hby at_4) ((if0 _ _).trans (teq hc4).1) (by decide) (pc' := 21) (by decide) ?_
    refine own_lloadN (pc' := 22) X0 hx (hb hby at_21) rfl rfl ?_
    refine own_ldc2 (pc' := 25) X0 hx hown (mvT hZ (hw _ (List.mem_of_getElem? (i := 0) rfl))) (hb hby at_22) rfl ?_
    refine own_land (pc' := 26) X0 hx (hb hby at_25) rfl ?_
    refine own_lstore (pc' := 28) X0 hx (hb hby at_26) (Ls' := #[.val (.long q1), .second, .val (.long q2), .second, .val (.int p3), .val (.long (q1 &&& (4294967295 : Int64))), .second, .unset, .unset, .unset, .unset, .unset, .unset, .unset]) rfl rfl ?_
    exact J28 _ (own_a q1).1.1 (own_a q1).1.2
  · refine own_ifN (pc' := 7) X0 hx (hb hby at_4) ((if0 _ _).trans (feq hc4).1) rfl ?_
    refine own_ldc2 (pc' := 10) X0 hx hown (mvT hZ (hw _ (List.mem_of_getElem? (i := 0) rfl))) (hb hby at_7) rfl ?_
    refine own_lloadN (pc' := 11) X0 hx (hb hby at_10) rfl rfl ?_
    refine own_ldc2 (pc' := 14) X0 hx hown (mvT hZ (hw _ (List.mem_of_getElem? (i := 10) rfl))) (hb hby at_11) rfl ?_
    refine own_land (pc' := 15) X0 hx (hb hby at_14) rfl ?_
    refine own_lsub (pc' := 16) X0 hx (hb hby at_15) rfl ?_
    refine own_lstore (pc' := 18) X0 hx (hb hby at_16) (Ls' := #[.val (.long q1), .second, .val (.long q2), .second, .val (.int p3), .val (.long ((4294967295 : Int64) - (q1 &&& (2047 : Int64)))), .second, .unset, .unset, .unset, .unset, .unset, .unset, .unset]) rfl rfl ?_
    refine own_goto X0 hx (hb hby at_18) (by decide) (pc' := 28) (by decide) ?_
    exact J28 _ (own_a q1).2.1 (own_a q1).2.2
set_option maxRecDepth 65536 in
set_option maxHeartbeats 40000000 in
theorem comes_1 {Post : Tables → Env → Array Value → State → Outcome → State → Prop} (hpost : ∀ tb e args s v u, (limb_1_1.after args s (.returned v) u = true ∧ limb_1_2.after args s (.returned v) u = true ∧ True) → FrameEnd s (.returned v) u (Jvm.fieldLocs frame_1_writes args s ++ Jvm.arrayLocs frame_1_arrays args s ++ Jvm.staticLocs frame_1_statics s) 0 0 → Post tb e args s (.returned v) u) :
    ArmFor flags0 classFile x code maxLocals ret World_1 tables_1 room_1 Calls_1 rest_1 Pre_1 Post := by
  intro l hfl _ _ p e ha hc hk s m args below hf hA hF happ hP
  obtain ⟨hcalls, hrest, hpre⟩ := hP
  obtain ⟨-, -, -, hnamed, -, -, -, hat⟩ := (Spec.applies_iff hf).mp happ
  obtain ⟨hg, hn⟩ := and_e (Cond.before_iff.mp (show (Jvm.Cond.and given_1 narrow_1).before args s = true from hpre))
  obtain ⟨gc, r0⟩ := and_e hg
  obtain ⟨g0, r1⟩ := and_e r0
  obtain ⟨g1, r2⟩ := and_e r1
  obtain ⟨w0, w1, w2, rfl⟩ : ∃ w0 w1 w2 : Value, args = #[w0, w1, w2] := by
    have hs : args.size = 3 := by simpa [Cond.value, given_1] using gc
    obtain ⟨L⟩ := args
    match L, hs with
    | [w0, w1, w2], _ => exact ⟨w0, w1, w2, rfl⟩
  have hw := fun d (hd : d ∈ tables_1) => atoms_spec (ws := Jvm.Cond.code x code maxLocals ret :: tables_1) hat d (List.mem_cons_of_mem _ hd)
  obtain ⟨i0, ei0⟩ := isL_v g0
  obtain rfl : w0 = (.long i0) := Option.some.inj ei0
  obtain ⟨i1, ei1⟩ := isL_v g1
  obtain rfl : w1 = (.long i1) := Option.some.inj ei1
  obtain ⟨i2, ei2⟩ := is_v r2
  obtain rfl : w2 = (.int i2) := Option.some.inj ei2
  obtain ⟨n, o, h1, h2, h3, _, L, rfl, ⟨rfl, N⟩, hq⟩ := rm_0 l s _ hw tables_1 i0 i1 i2 s.heap s.heap.size (Nat.le_refl _)  p e ha hc hk s m _ below hf ((Spec.applies_iff_loose hf).mp happ).1 ⟨rfl, State.Warmed39.refl s, rfl⟩ trivial
  refine ⟨n, _, h1, h2, h3, hpost _ _ _ _ _ _ ⟨Cond.after_iff.mpr rfl, Cond.after_iff.mpr (eq_i res_at (Term.int_eval (1)) rfl), trivial⟩ ⟨hq.1, hq.2.1, (hq.2.2.sift fun y hy => Or.inr (N y hy)).mono (by decide) (by decide)⟩⟩
theorem main_1_1 : Claimed_1_1 := comes_1 fun _ _ _ _ _ _ h hF => ⟨h.1, hF⟩
theorem main_1_2 : Claimed_1_2 := comes_1 fun _ _ _ _ _ _ h hF => ⟨h.2.1, hF⟩
end Jvm.Pilot.@@N@@
namespace Jvm.Pilot.@@N@@
open Jvm Jvm.ClassFile Sem Op Lib Jvm.Free Jvm.Stand Jvm.Pilot.@@N@@.Jvm.D
/-! MADE BY PROGRAM (witnessworld.py) out of the Statement's table words and the real class files: 9 classes; the members and pool entries that the words name. The judged class is class 1, her method 1. -/
namespace start1
open Jvm.ClassFile
def u (s : String) : CpInfo := .utf8 (stringToUtf16 s)
/-- a pool by its gaps: so many unusable entries, then the entry; so many at the end -/
def gap : Nat → List CpInfo → List CpInfo
  | 0, r => r
  | n + 1, r => .unusable :: gap n r
def poolList (es : List (Nat × CpInfo)) (last : Nat) : List CpInfo := es.foldr (fun e r => gap e.1 (e.2 :: r)) (gap last [])
def pool (es : List (Nat × CpInfo)) (last : Nat) : Array CpInfo := ⟨poolList es last⟩
def fileOf (pool : Array CpInfo) (this : Nat) (attrs : Array Attribute := #[]) (ms : Array MethodInfo := #[]) (fl : Nat := 33) (sup : Nat := 0) (ifs : Array Nat := #[]) (fds : Array FieldInfo := #[]) : ClassFile where
  minorVersion := 0
  majorVersion := 65
  constantPool := pool
  accessFlags := fl
  thisClass := this
  superClass := sup
  interfaces := ifs
  fields := fds
  methods := ms
  attributes := attrs
def plain (name : String) (sup : Option ClassId) : Class where
  name := name
  kind := .ordinary
  loader := none
  accessFlags := 33
  super := sup
  interfaces := #[]
  cf := none
  fields := #[]
  methods := #[]
  instanceTypes := #[]
  staticTypes := #[]
  resolved := #[]
  callSites := []
  init := .initialized
  statics := none
  mirror := none

def pool0 : Array CpInfo := pool [(5, u "<init>"), (0, u "()V"), (1, .class_ 10), (1, u "java/lang/Object")] 113

def k0m0 : Method := { name := "<init>", desc := "()V", sig := { parameters := [], returnType := none }, accessFlags := 1, code := none }
/-- java/lang/Object -/
def k0 : Class := { plain "java/lang/Object" none with
  accessFlags := 33
  interfaces := #[]
  cf := some (fileOf pool0 8 #[] #[{ accessFlags := 1, nameIndex := 5, descriptorIndex := 6, attributes := #[] }] 33 0 #[] #[])
  fields := #[]
  methods := #[k0m0]
  instanceTypes := #[]
  staticTypes := #[]
  resolved := Array.replicate 124 none
  statics := none }

def pool1 : Array CpInfo := pool [(2, .class_ 4), (1, u "java/lang/Object"), (0, u "<init>"), (0, u "()V"), (0, .long 4294967295), (1, .long 2047), (1, .long 7), (1, .long 3), (1, .long 1024), (1, .methodref 18 19), (0, .class_ 20), (0, .nameAndType 21 22), (0, u "com/example/millwright/millwright/channel/SequenceNumbers"), (0, u "follows"), (0, u "(JJ)Z"), (0, .methodref 18 24), (0, .nameAndType 25 26), (0, u "following"), (0, u "(J)J"), (0, .class_ 28), (0, u "com/example/millwright/millwright/channel/SequenceNumbersFollowsPinLaw"), (2, u "law"), (0, u "(JJI)Z")] 3

def k1m0 : Method := { name := "<init>", desc := "()V", sig := { parameters := [], returnType := none }, accessFlags := 1, code := none }
def k1c1 : Code := { maxStack := 6, maxLocals := 14, code := code, exceptionTable := #[], attributes := #[] }
def k1m1 : Method := { name := "law", desc := "(JJI)Z", sig := { parameters := [.long, .long, .int], returnType := some .boolean }, accessFlags := 9, code := some k1c1 }
/-- com/example/millwright/millwright/channel/SequenceNumbersFollowsPinLaw -/
def k1 : Class := { plain "com/example/millwright/millwright/channel/SequenceNumbersFollowsPinLaw" (some 0) with
  accessFlags := 49
  interfaces := #[]
  cf := some (fileOf pool1 27 #[] #[{ accessFlags := 1, nameIndex := 5, descriptorIndex := 6, attributes := #[] }, { accessFlags := 9, nameIndex := 31, descriptorIndex := 32, attributes := #[] }] 49 2 #[] #[])
  fields := #[]
  methods := #[k1m0, k1m1]
  instanceTypes := #[]
  staticTypes := #[]
  resolved := Array.replicate 36 none
  statics := none }

def pool2 : Array CpInfo := pool [(2, .class_ 4), (1, u "java/lang/Object"), (0, u "<init>"), (0, u "()V"), (3, .class_ 12), (1, u "com/example/millwright/millwright/channel/SequenceNumbers"), (0, u "received"), (0, u "J"), (2, u "follows"), (0, u "(JJ)Z"), (14, u "sent"), (2, u "following"), (0, u "(J)J"), (0, .long 4294966271), (1, .long 1024), (1, u "LAST_SEQUENCE_NUMBER_BEFORE_WRAP"), (1, u "WRAPPED_SEQUENCE_NUMBER_LIMIT")] 25

def k2m0 : Method := { name := "<init>", desc := "()V", sig := { parameters := [], returnType := none }, accessFlags := 0, code := none }
def k2c1 : Code := { maxStack := 6, maxLocals := 4, code := prog_29_method_4_code, exceptionTable := #[], attributes := #[] }
def k2m1 : Method := { name := "follows", desc := "(JJ)Z", sig := { parameters := [.long, .long], returnType := some .boolean }, accessFlags := 8, code := some k2c1 }
def k2c2 : Code := { maxStack := 4, maxLocals := 2, code := prog_29_method_5_code, exceptionTable := #[], attributes := #[] }
def k2m2 : Method := { name := "following", desc := "(J)J", sig := { parameters := [.long], returnType := some .long }, accessFlags := 8, code := some k2c2 }
/-- com/example/millwright/millwright/channel/SequenceNumbers -/
def k2 : Class := { plain "com/example/millwright/millwright/channel/SequenceNumbers" (some 0) with
  accessFlags := 48
  interfaces := #[]
  cf := some (fileOf pool2 10 #[] #[{ accessFlags := 0, nameIndex := 5, descriptorIndex := 6, attributes := #[] }, { accessFlags := 8, nameIndex := 17, descriptorIndex := 18, attributes := #[] }, { accessFlags := 8, nameIndex := 36, descriptorIndex := 37, attributes := #[] }] 48 2 #[] #[{ accessFlags := 26, nameIndex := 42, descriptorIndex := 14, attributes := #[] }, { accessFlags := 26, nameIndex := 44, descriptorIndex := 14, attributes := #[] }, { accessFlags := 2, nameIndex := 13, descriptorIndex := 14, attributes := #[] }, { accessFlags := 2, nameIndex := 33, descriptorIndex := 14, attributes := #[] }])
  fields := #[{ name := "LAST_SEQUENCE_NUMBER_BEFORE_WRAP", type := .long, accessFlags := 26, slot := 0, constantValue := 0 }, { name := "WRAPPED_SEQUENCE_NUMBER_LIMIT", type := .long, accessFlags := 26, slot := 1, constantValue := 0 }, { name := "received", type := .long, accessFlags := 2, slot := 0, constantValue := 0 }, { name := "sent", type := .long, accessFlags := 2, slot := 1, constantValue := 0 }]
  methods := #[k2m0, k2m1, k2m2]
  instanceTypes := #[.long, .long]
  staticTypes := #[.long, .long]
  resolved := Array.replicate 70 none
  statics := none }

def pool3 : Array CpInfo := pool [(1, u "java/lang/Cloneable"), (0, .class_ 1), (0, u "java/lang/Object"), (0, .class_ 3)] 3

/-- java/lang/Cloneable -/
def k3 : Class := { plain "java/lang/Cloneable" (some 0) with
  accessFlags := 1537
  interfaces := #[]
  cf := some (fileOf pool3 2 #[] #[] 1537 4 #[] #[])
  fields := #[]
  methods := #[]
  instanceTypes := #[]
  staticTypes := #[]
  resolved := Array.replicate 8 none
  statics := none }

def pool4 : Array CpInfo := pool [(1, u "java/io/Serializable"), (0, .class_ 1), (0, u "java/lang/Object"), (0, .class_ 3)] 3

/-- java/io/Serializable -/
def k4 : Class := { plain "java/io/Serializable" (some 0) with
  accessFlags := 1537
  interfaces := #[]
  cf := some (fileOf pool4 2 #[] #[] 1537 4 #[] #[])
  fields := #[]
  methods := #[]
  instanceTypes := #[]
  staticTypes := #[]
  resolved := Array.replicate 8 none
  statics := none }

/-- the primitive byte -/
def k5 : Class := { plain "byte" none with kind := .primitive 'B', accessFlags := 0x411 }
/-- [B -/
def k6 : Class := { plain "[B" (some 0) with kind := .array 5 .byte, interfaces := #[3, 4], accessFlags := 1041 }

/-- the primitive int -/
def k7 : Class := { plain "int" none with kind := .primitive 'I', accessFlags := 0x411 }
/-- [I -/
def k8 : Class := { plain "[I" (some 0) with kind := .array 7 .int, interfaces := #[3, 4], accessFlags := 1041 }

def heap : Heap := #[]
def classes : Array Class := #[k0, k1, k2, k3, k4, k5, k6, k7, k8]
def interned : List (Array UInt16 × Addr) := []
def slotsUsed : Nat := 0
def theMethod : MethodId := ⟨1, 1⟩
def args0 : Array Value := #[.long 5, .long 300, .int 7]
def aboutOver (below : List Frame) : State where
  vm := { classes := classes, interned := interned.toArray }
  heap := heap
  slotsUsed := slotsUsed
  threads := #[{ frames := .invoking theMethod args0 :: below }]
def below0 : List Frame := [.native { method := ⟨0, 0⟩, args := #[] }]
def about1 : State := aboutOver below0
def p0 : Program := .bare "" "" ""
def e0 : Env := launch0.env 0 0 0
theorem w_frames : about1.frames = Frame.invoking theMethod args0 :: below0 := rfl
set_option maxRecDepth 65536 in
theorem w_args : argsFit about1.vm theMethod args0 = true := by decide +kernel
set_option maxRecDepth 65536 in
theorem w_heap : heapFits about1 = true := by decide +kernel
set_option maxRecDepth 65536 in
theorem w_runnable : about1.curStatus? = some .runnable := by decide +kernel
set_option maxRecDepth 65536 in
theorem w_alone : about1.alone = true := by decide +kernel
set_option maxRecDepth 65536 in
theorem w_named : about1.methodNamed? x = some theMethod := by decide +kernel
set_option maxRecDepth 65536 in
theorem w_hears : about1.hears theMethod below0 = true := by decide +kernel
set_option maxRecDepth 65536 in
theorem w_ripe : about1.ripe theMethod args0 below0 = true := by decide +kernel
theorem w_running : about1.status = .running := rfl
set_option maxRecDepth 65536 in
theorem w_room : about1.hasRoom e0.platform room_1 = true :=
  launch0.hasRoom_least _ room_1 (by decide +kernel) (by decide +kernel) (by decide +kernel) (by decide +kernel) (by decide +kernel) (by decide +kernel)
theorem allAtoms_all (ts : List Jvm.Cond) (a : Array Jvm.Value) (st : Jvm.State) : (allAtoms ts).before a st = ts.all (fun c => c.before a st) := by
  induction ts with
  | nil => rfl
  | cons c t ih =>
    show (Jvm.Cond.and c (allAtoms t)).before a st = _
    rw [Jvm.Cond.before_and, ih, List.all_cons]
def words1 : List Jvm.Cond := Jvm.Cond.code x code maxLocals ret :: tables_1
/-- a 'code' word, met by the world's own term for the bytes: nothing is compared byte by byte -/
theorem code_word {y : MethodName} {bytes : ByteArray} {mx : Nat} {rt : Option FieldType} {a : Array Value} {s : State} {m : MethodId} {meth : Method} {c : Code} (h1 : s.methodNamed? y = some m) (h2 : s.vm.method? m = some meth) (h3 : meth.code = some c) (h4 : c.code = bytes)
    (h5 : (c.maxLocals == mx && c.exceptionTable.isEmpty && decide (c.maxStack ≤ mostOperands) && decide (meth.sig.returnType = rt) && !meth.locks && decide (parseMethodDescriptor y.desc = some meth.sig)) = true) : (Jvm.Cond.code y bytes mx rt).before a s = true := by
  simp only [Bool.and_eq_true, beq_iff_eq, Bool.not_eq_true', decide_eq_true_eq] at h5
  obtain ⟨⟨⟨⟨⟨g1, g2⟩, g3⟩, g4⟩, g5⟩, g6⟩ := h5
  simp [Cond.before, Cond.holds, Cond.value, h1, h2, h3, h4, g1, g2, g3, g4, g5, g6]
def isCode : Jvm.Cond → Bool
  | .code _ _ _ _ => true
  | _ => false
theorem all_split {L : List Jvm.Cond} {P : Jvm.Cond → Bool} (h1 : L.all (fun c => isCode c || P c) = true) (h2 : ∀ c ∈ L.filter isCode, P c = true) : L.all P = true := by
  refine List.all_eq_true.mpr fun c hc => ?_
  have h := List.all_eq_true.mp h1 c hc
  rcases Bool.eq_false_or_eq_true (isCode c) with hi | hi
  · exact h2 c (List.mem_filter.mpr ⟨hc, hi⟩)
  · simpa [hi] using h
set_option maxRecDepth 65536 in
theorem w_c0 : (Jvm.Cond.code x code maxLocals ret).before args0 about1 = true := code_word (m := ⟨1, 1⟩) (meth := k1m1) (c := k1c1) (by decide +kernel) rfl rfl rfl (by decide +kernel)
set_option maxRecDepth 65536 in
theorem w_c1 : (Jvm.Cond.code ({ cls := "com/example/millwright/millwright/channel/SequenceNumbers", name := "follows", desc := "(JJ)Z" } : Jvm.MethodName) prog_29_method_4_code (4 : Nat) (Option.some Jvm.ClassFile.FieldType.boolean)).before args0 about1 = true := code_word (m := ⟨2, 1⟩) (meth := k2m1) (c := k2c1) (by decide +kernel) rfl rfl rfl (by decide +kernel)
set_option maxRecDepth 65536 in
theorem w_c2 : (Jvm.Cond.code ({ cls := "com/example/millwright/millwright/channel/SequenceNumbers", name := "following", desc := "(J)J" } : Jvm.MethodName) prog_29_method_5_code (2 : Nat) (Option.some Jvm.ClassFile.FieldType.long)).before args0 about1 = true := code_word (m := ⟨2, 2⟩) (meth := k2m2) (c := k2c2) (by decide +kernel) rfl rfl rfl (by decide +kernel)
def codes1 : List Jvm.Cond := [Jvm.Cond.code x code maxLocals ret, Jvm.Cond.code ({ cls := "com/example/millwright/millwright/channel/SequenceNumbers", name := "follows", desc := "(JJ)Z" } : Jvm.MethodName) prog_29_method_4_code (4 : Nat) (Option.some Jvm.ClassFile.FieldType.boolean), Jvm.Cond.code ({ cls := "com/example/millwright/millwright/channel/SequenceNumbers", name := "following", desc := "(J)J" } : Jvm.MethodName) prog_29_method_5_code (2 : Nat) (Option.some Jvm.ClassFile.FieldType.long)]
set_option maxRecDepth 65536 in
theorem codes_eq : words1.filter isCode = codes1 := rfl
theorem w_codes : ∀ c ∈ words1.filter isCode, c.before args0 about1 = true := by
  rw [codes_eq]
  intro c hc
  simp only [codes1, List.mem_cons, List.not_mem_nil, or_false] at hc
  rcases hc with rfl | rfl | rfl
  · exact w_c0
  · exact w_c1
  · exact w_c2
set_option maxRecDepth 65536 in
theorem w_t1 : words1.all (fun c => isCode c || c.before args0 about1) = true := by decide +kernel
theorem w_tables : (allAtoms (Jvm.Cond.code x code maxLocals ret :: tables_1)).before args0 about1 = true := by
  rw [allAtoms_all]
  show words1.all (fun c => c.before args0 about1) = true
  refine all_split ?_ w_codes
  rw [w_t1]
set_option maxRecDepth 65536 in
theorem w_case : (Jvm.Cond.and given_1 narrow_1).before args0 about1 = true := by decide +kernel
theorem w_applies : (headSpec (Jvm.Cond.code x code maxLocals ret :: tables_1) room_1).applies x e0.platform about1 = true :=
  (Spec.applies_iff w_frames).mpr ⟨w_running, w_runnable, w_alone, w_named, w_hears, w_ripe, w_room, w_tables⟩
theorem atStart : AtStart classFile x code maxLocals ret World_1 tables_1 room_1 Calls_1 rest_1 Pre_1 launch0 p0 e0 about1 theMethod args0 below0 :=
  ⟨lists_1, trivial, launch0.admits_env _ _ _, launch0.least_env, fairChoices_fair.cas, fairChoices_fair.clock, w_frames, w_args, w_heap, w_applies, trivial, trivial, w_case⟩
end start1
theorem witness_1 : WitnessClaimed_1 := ⟨start1.p0, start1.e0, start1.about1, start1.theMethod, start1.args0, start1.below0, start1.atStart⟩
end Jvm.Pilot.@@N@@
