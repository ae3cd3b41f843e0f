import JvmDerived
import JvmDerived.Pilot.@@N@@Statement
import JvmDerived.Pilot.@@N@@Code
set_option linter.unusedVariables false
set_option linter.unusedSimpArgs false
namespace Jvm.Pilot.@@N@@
open Jvm Jvm.ClassFile Sem Op Lib Jvm.Free Jvm.Stand Jvm.LawKit Jvm.RoadKit Bundle Jvm.Pilot.@@N@@.Jvm.D
/-- the rest of a walk: from the frame g over T the run comes to an end that Q describes -/
def Goes (p : Program) (e : Env) (below : List Frame) (s : State) (cs ss : Nat) (Q : Option Value → Heap → List Loc → Prop) (T : State) (g : JFrame) : Prop :=
  ∃ U o, Steps p.tables e below (T.setTop g) U ∧ U.status = .running ∧ Ended U below o ∧ ∃ v L, o = .returned v ∧ Q v U.heap L ∧ FrameEnd s o U L cs ss
section Own
variable {p : Program} {l : Launch} {e : Env} {R : Room} {s : State} {m : MethodId} {args : Array Value} {below : List Frame} {meth : Method} {c : Code} {T T' : State} {locs : List Loc} {cells slots : Nat} {cs ss : Nat} {Q : Option Value → Heap → List Loc → Prop} {pc pc' : Nat} {Ls Ls' : Array Slot} {st : List Value}
theorem Goes.pre {g g' : JFrame} (h : ∀ target, Steps p.tables e below (T'.setTop g') target → Steps p.tables e below (T.setTop g) target) (k : Goes p e below s cs ss Q T' g') : Goes p e below s cs ss Q T g := by
  obtain ⟨U, o, h1, r⟩ := k
  exact ⟨U, o, h _ h1, r⟩
theorem Goes.aft {g g' : JFrame} (h : Steps p.tables e below (T.setTop g) (T'.setTop g')) (k : Goes p e below s cs ss Q T' g') : Goes p e below s cs ss Q T g := by
  obtain ⟨U, o, h1, r⟩ := k
  exact ⟨U, o, h.trans h1, r⟩
theorem own_enter {maxL : Nat} {g : JFrame} (hg : entryFrame m args maxL = g) (k : Goes p e below s cs ss Q T g) : ∃ s₂ o, Steps p.tables e below (T.setTop (entryFrame m args maxL)) s₂ ∧ s₂.status = .running ∧ Ended s₂ below o ∧ ∃ v L, o = .returned v ∧ Q v s₂.heap L ∧ FrameEnd s o s₂ L cs ss := by
  subst hg
  exact k
theorem own_retN (X : Stand p l e R s m args below meth c T locs cells slots) (hx : p.tables.exec = Jvm.exec) (hlk : meth.locks = false) {t : FieldType} (hret : meth.sig.returnType = some t) (ht : t = .boolean ∨ t = .byte ∨ t = .char ∨ t = .short) {z : Int32} (hd : decode c.code pc = .ok (.ireturn, 1)) (h1 : cells ≤ cs) (h2 : slots ≤ ss) (hq : Q (some (.int (nar t z))) T.heap locs) : Goes p e below s cs ss Q T (mkF m pc Ls (.int z :: st)) := by
  obtain ⟨fs, hr, hrun, hended, hW, hsame⟩ := X.leave (v := some (.int (nar t z))) (fun h => by rw [hret] at h; cases h) hlk
  exact ⟨_, _, retN X hx hret ht hd hr, hrun, hended, _, _, rfl, hq, ⟨_, rfl⟩, hW, hsame.mono h1 h2⟩
theorem own_retI (X : Stand p l e R s m args below meth c T locs cells slots) (hx : p.tables.exec = Jvm.exec) (hlk : meth.locks = false) (hret : meth.sig.returnType = some .int) {z : Int32} (hd : decode c.code pc = .ok (.ireturn, 1)) (h1 : cells ≤ cs) (h2 : slots ≤ ss) (hq : Q (some (.int z)) T.heap locs) : Goes p e below s cs ss Q T (mkF m pc Ls (.int z :: st)) := by
  obtain ⟨fs, hr, hrun, hended, hW, hsame⟩ := X.leave (v := some (.int z)) (fun h => by rw [hret] at h; cases h) hlk
  exact ⟨_, _, retOut X hx hret rfl (Or.inl ⟨rfl, Or.inl rfl, z, rfl⟩) hd hr, hrun, hended, _, _, rfl, hq, ⟨_, rfl⟩, hW, hsame.mono h1 h2⟩
theorem own_retJ (X : Stand p l e R s m args below meth c T locs cells slots) (hx : p.tables.exec = Jvm.exec) (hlk : meth.locks = false) (hret : meth.sig.returnType = some .long) {z : Int64} (hd : decode c.code pc = .ok (.lreturn, 1)) (h1 : cells ≤ cs) (h2 : slots ≤ ss) (hq : Q (some (.long z)) T.heap locs) : Goes p e below s cs ss Q T (mkF m pc Ls (.long z :: st)) := by
  obtain ⟨fs, hr, hrun, hended, hW, hsame⟩ := X.leave (v := some (.long z)) (fun h => by rw [hret] at h; cases h) hlk
  exact ⟨_, _, retOut X hx hret rfl (Or.inr (Or.inl ⟨rfl, rfl, z, rfl⟩)) hd hr, hrun, hended, _, _, rfl, hq, ⟨_, rfl⟩, hW, hsame.mono h1 h2⟩
theorem own_retA (X : Stand p l e R s m args below meth c T locs cells slots) (hx : p.tables.exec = Jvm.exec) (hlk : meth.locks = false) {t : FieldType} (hret : meth.sig.returnType = some t) {w : Value} (ht : t.isReference = true) (hw : w.isRef = true) (hn : narrow t w = w) (hd : decode c.code pc = .ok (.areturn, 1)) (h1 : cells ≤ cs) (h2 : slots ≤ ss) (hq : Q (some w) T.heap locs) : Goes p e below s cs ss Q T (mkF m pc Ls (w :: st)) := by
  obtain ⟨fs, hr, hrun, hended, hW, hsame⟩ := X.leave (v := some w) (fun h => by rw [hret] at h; cases h) hlk
  exact ⟨_, _, retOut X hx hret hn (Or.inr (Or.inr (Or.inr (Or.inr ⟨rfl, ht, hw⟩)))) hd hr, hrun, hended, _, _, rfl, hq, ⟨_, rfl⟩, hW, hsame.mono h1 h2⟩
theorem own_ret0 (X : Stand p l e R s m args below meth c T locs cells slots) (hx : p.tables.exec = Jvm.exec) (hlk : meth.locks = false) (hret : meth.sig.returnType = none) (hd : decode c.code pc = .ok (.return_, 1)) (h1 : cells ≤ cs) (h2 : slots ≤ ss) (hq : Q none T.heap locs) : Goes p e below s cs ss Q T (mkF m pc Ls []) := by
  obtain ⟨fs, hr, hrun, hended, hW, hsame⟩ := X.leave (v := none) (fun _ => rfl) hlk
  exact ⟨_, _, X.returnOut hx hret hd hr, hrun, hended, _, _, rfl, hq, ⟨_, rfl⟩, hW, hsame.mono h1 h2⟩
theorem own_iload (X : Stand p l e R s m args below meth c T locs cells slots) (hx : p.tables.exec = Jvm.exec) {i : Nat} {v : Int32} (hd : decode c.code pc = .ok (.iload i, 2)) (hl : Ls[i]? = some (.val (.int v))) (hp : pc + 2 = pc') (k : Goes p e below s cs ss Q T (mkF m pc' Ls (.int v :: st))) : Goes p e below s cs ss Q T (mkF m pc Ls st) := by
  subst hp
  exact Goes.pre (fun _ k => XS.iload X.here hx rfl hd hl k) k
theorem own_iloadN (X : Stand p l e R s m args below meth c T locs cells slots) (hx : p.tables.exec = Jvm.exec) {i : Fin 4} {v : Int32} (hd : decode c.code pc = .ok (.iload_n i, 1)) (hl : Ls[i.val]? = some (.val (.int v))) (hp : pc + 1 = pc') (k : Goes p e below s cs ss Q T (mkF m pc' Ls (.int v :: st))) : Goes p e below s cs ss Q T (mkF m pc Ls st) := by
  subst hp
  exact Goes.pre (fun _ k => XS.iloadN X.here hx rfl hd hl k) k
theorem own_lload (X : Stand p l e R s m args below meth c T locs cells slots) (hx : p.tables.exec = Jvm.exec) {i : Nat} {v : Int64} (hd : decode c.code pc = .ok (.lload i, 2)) (hl : Ls[i]? = some (.val (.long v))) (hp : pc + 2 = pc') (k : Goes p e below s cs ss Q T (mkF m pc' Ls (.long v :: st))) : Goes p e below s cs ss Q T (mkF m pc Ls st) := by
  subst hp
  exact Goes.pre (fun _ k => XS.lload X.here hx rfl hd hl k) k
theorem own_lloadN (X : Stand p l e R s m args below meth c T locs cells slots) (hx : p.tables.exec = Jvm.exec) {i : Fin 4} {v : Int64} (hd : decode c.code pc = .ok (.lload_n i, 1)) (hl : Ls[i.val]? = some (.val (.long v))) (hp : pc + 1 = pc') (k : Goes p e below s cs ss Q T (mkF m pc' Ls (.long v :: st))) : Goes p e below s cs ss Q T (mkF m pc Ls st) := by
  subst hp
  exact Goes.pre (fun _ k => XS.lloadN X.here hx rfl hd hl k) k
theorem own_aload (X : Stand p l e R s m args below meth c T locs cells slots) (hx : p.tables.exec = Jvm.exec) {i : Nat} {v : Value} (hd : decode c.code pc = .ok (.aload i, 2)) (hl : Ls[i]? = some (.val v)) (hv : v.isRef = true) (hp : pc + 2 = pc') (k : Goes p e below s cs ss Q T (mkF m pc' Ls (v :: st))) : Goes p e below s cs ss Q T (mkF m pc Ls st) := by
  subst hp
  exact Goes.pre (fun _ k => XS.aload X.here hx rfl hd hl hv k) k
theorem own_aloadN (X : Stand p l e R s m args below meth c T locs cells slots) (hx : p.tables.exec = Jvm.exec) {i : Fin 4} {v : Value} (hd : decode c.code pc = .ok (.aload_n i, 1)) (hl : Ls[i.val]? = some (.val v)) (hv : v.isRef = true) (hp : pc + 1 = pc') (k : Goes p e below s cs ss Q T (mkF m pc' Ls (v :: st))) : Goes p e below s cs ss Q T (mkF m pc Ls st) := by
  subst hp
  exact Goes.pre (fun _ k => XS.aloadN X.here hx rfl hd hl hv k) k
theorem own_istore (X : Stand p l e R s m args below meth c T locs cells slots) (hx : p.tables.exec = Jvm.exec) {i : Nat} {x : Int32} (hd : decode c.code pc = .ok (.istore i, 2)) (hl : storeLocals Ls i (.int x) = some Ls') (hp : pc + 2 = pc') (k : Goes p e below s cs ss Q T (mkF m pc' Ls' st)) : Goes p e below s cs ss Q T (mkF m pc Ls (.int x :: st)) := by
  subst hp
  exact Goes.pre (fun _ k => XS.istore X.here hx rfl hd rfl hl k) k
theorem own_istoreN (X : Stand p l e R s m args below meth c T locs cells slots) (hx : p.tables.exec = Jvm.exec) {i : Fin 4} {x : Int32} (hd : decode c.code pc = .ok (.istore_n i, 1)) (hl : storeLocals Ls i.val (.int x) = some Ls') (hp : pc + 1 = pc') (k : Goes p e below s cs ss Q T (mkF m pc' Ls' st)) : Goes p e below s cs ss Q T (mkF m pc Ls (.int x :: st)) := by
  subst hp
  exact Goes.pre (fun _ k => XS.istoreN X.here hx rfl hd rfl hl k) k
theorem own_lstore (X : Stand p l e R s m args below meth c T locs cells slots) (hx : p.tables.exec = Jvm.exec) {i : Nat} {x : Int64} (hd : decode c.code pc = .ok (.lstore i, 2)) (hl : storeLocals Ls i (.long x) = some Ls') (hp : pc + 2 = pc') (k : Goes p e below s cs ss Q T (mkF m pc' Ls' st)) : Goes p e below s cs ss Q T (mkF m pc Ls (.long x :: st)) := by
  subst hp
  exact Goes.pre (fun _ k => XS.lstore X.here hx rfl hd rfl hl k) k
theorem own_lstoreN (X : Stand p l e R s m args below meth c T locs cells slots) (hx : p.tables.exec = Jvm.exec) {i : Fin 4} {x : Int64} (hd : decode c.code pc = .ok (.lstore_n i, 1)) (hl : storeLocals Ls i.val (.long x) = some Ls') (hp : pc + 1 = pc') (k : Goes p e below s cs ss Q T (mkF m pc' Ls' st)) : Goes p e below s cs ss Q T (mkF m pc Ls (.long x :: st)) := by
  subst hp
  exact Goes.pre (fun _ k => XS.lstoreN X.here hx rfl hd rfl hl k) k
theorem own_astore (X : Stand p l e R s m args below meth c T locs cells slots) (hx : p.tables.exec = Jvm.exec) {i : Nat} {x : Value} (hd : decode c.code pc = .ok (.astore i, 2)) (hv : x.isRef = true) (hl : storeLocals Ls i x = some Ls') (hp : pc + 2 = pc') (k : Goes p e below s cs ss Q T (mkF m pc' Ls' st)) : Goes p e below s cs ss Q T (mkF m pc Ls (x :: st)) := by
  subst hp
  exact Goes.pre (fun _ k => XS.astore X.here hx rfl hd rfl hv hl k) k
theorem own_astoreN (X : Stand p l e R s m args below meth c T locs cells slots) (hx : p.tables.exec = Jvm.exec) {i : Fin 4} {x : Value} (hd : decode c.code pc = .ok (.astore_n i, 1)) (hv : x.isRef = true) (hl : storeLocals Ls i.val x = some Ls') (hp : pc + 1 = pc') (k : Goes p e below s cs ss Q T (mkF m pc' Ls' st)) : Goes p e below s cs ss Q T (mkF m pc Ls (x :: st)) := by
  subst hp
  exact Goes.pre (fun _ k => XS.astoreN X.here hx rfl hd rfl hv hl k) k
theorem own_iinc (X : Stand p l e R s m args below meth c T locs cells slots) (hx : p.tables.exec = Jvm.exec) {i : Nat} {q : Int} {x y : Int32} (hd : decode c.code pc = .ok (.iinc i q, 3)) (hl : Ls[i]? = some (.val (.int x))) (hy : x + Int32.ofInt q = y) (hl' : storeLocals Ls i (.int y) = some Ls') (hp : pc + 3 = pc') (k : Goes p e below s cs ss Q T (mkF m pc' Ls' st)) : Goes p e below s cs ss Q T (mkF m pc Ls st) := by
  subst hp
  exact Goes.pre (fun _ k => XS.iinc X.here hx rfl hd hl (hy.symm ▸ hl') k) k
theorem own_iconst (X : Stand p l e R s m args below meth c T locs cells slots) (hx : p.tables.exec = Jvm.exec) {i : Int} {v : Int32} (hd : decode c.code pc = .ok (.iconst i, 1)) (hv : Int32.ofInt i = v) (hp : pc + 1 = pc') (k : Goes p e below s cs ss Q T (mkF m pc' Ls (.int v :: st))) : Goes p e below s cs ss Q T (mkF m pc Ls st) := by
  subst hp hv
  exact Goes.pre (fun _ k => XS.iconst X.here hx rfl hd k) k
theorem own_bipush (X : Stand p l e R s m args below meth c T locs cells slots) (hx : p.tables.exec = Jvm.exec) {i : Int} {v : Int32} (hd : decode c.code pc = .ok (.bipush i, 2)) (hv : (Int8.ofInt i).toInt32 = v) (hp : pc + 2 = pc') (k : Goes p e below s cs ss Q T (mkF m pc' Ls (.int v :: st))) : Goes p e below s cs ss Q T (mkF m pc Ls st) := by
  subst hp hv
  exact Goes.pre (fun _ k => XS.bipush X.here hx rfl hd k) k
theorem own_lconst (X : Stand p l e R s m args below meth c T locs cells slots) (hx : p.tables.exec = Jvm.exec) {i : Fin 2} {v : Int64} (hd : decode c.code pc = .ok (.lconst i, 1)) (hv : Int64.ofNat i = v) (hp : pc + 1 = pc') (k : Goes p e below s cs ss Q T (mkF m pc' Ls (.long v :: st))) : Goes p e below s cs ss Q T (mkF m pc Ls st) := by
  subst hp hv
  exact Goes.pre (fun _ k => XS.lconst X.here hx rfl hd k) k
theorem own_aconstNull (X : Stand p l e R s m args below meth c T locs cells slots) (hx : p.tables.exec = Jvm.exec)  (hd : decode c.code pc = .ok (.aconst_null, 1))  (hp : pc + 1 = pc') (k : Goes p e below s cs ss Q T (mkF m pc' Ls (.null :: st))) : Goes p e below s cs ss Q T (mkF m pc Ls st) := by
  subst hp
  exact Goes.pre (fun _ k => XS.aconstNull X.here hx rfl hd k) k
theorem own_iadd (X : Stand p l e R s m args below meth c T locs cells slots) (hx : p.tables.exec = Jvm.exec) {x y : Int32} (hd : decode c.code pc = .ok (.iadd, 1))  (hp : pc + 1 = pc') (k : Goes p e below s cs ss Q T (mkF m pc' Ls (.int (x + y) :: st))) : Goes p e below s cs ss Q T (mkF m pc Ls (.int y :: .int x :: st)) := by
  subst hp
  exact Goes.pre (fun _ k => XS.iadd X.here hx rfl hd rfl k) k
theorem own_isub (X : Stand p l e R s m args below meth c T locs cells slots) (hx : p.tables.exec = Jvm.exec) {x y : Int32} (hd : decode c.code pc = .ok (.isub, 1))  (hp : pc + 1 = pc') (k : Goes p e below s cs ss Q T (mkF m pc' Ls (.int (x - y) :: st))) : Goes p e below s cs ss Q T (mkF m pc Ls (.int y :: .int x :: st)) := by
  subst hp
  exact Goes.pre (fun _ k => XS.isub X.here hx rfl hd rfl k) k
theorem own_imul (X : Stand p l e R s m args below meth c T locs cells slots) (hx : p.tables.exec = Jvm.exec) {x y : Int32} (hd : decode c.code pc = .ok (.imul, 1))  (hp : pc + 1 = pc') (k : Goes p e below s cs ss Q T (mkF m pc' Ls (.int (x * y) :: st))) : Goes p e below s cs ss Q T (mkF m pc Ls (.int y :: .int x :: st)) := by
  subst hp
  exact Goes.pre (fun _ k => XS.imul X.here hx rfl hd rfl k) k
theorem own_iand (X : Stand p l e R s m args below meth c T locs cells slots) (hx : p.tables.exec = Jvm.exec) {x y : Int32} (hd : decode c.code pc = .ok (.iand, 1))  (hp : pc + 1 = pc') (k : Goes p e below s cs ss Q T (mkF m pc' Ls (.int (x &&& y) :: st))) : Goes p e below s cs ss Q T (mkF m pc Ls (.int y :: .int x :: st)) := by
  subst hp
  exact Goes.pre (fun _ k => XS.iand X.here hx rfl hd rfl k) k
theorem own_iushr (X : Stand p l e R s m args below meth c T locs cells slots) (hx : p.tables.exec = Jvm.exec) {x y : Int32} (hd : decode c.code pc = .ok (.iushr, 1))  (hp : pc + 1 = pc') (k : Goes p e below s cs ss Q T (mkF m pc' Ls (.int ((x.toUInt32 >>> (y &&& 31).toUInt32).toInt32) :: st))) : Goes p e below s cs ss Q T (mkF m pc Ls (.int y :: .int x :: st)) := by
  subst hp
  exact Goes.pre (fun _ k => XS.iushr X.here hx rfl hd rfl k) k
theorem own_irem (X : Stand p l e R s m args below meth c T locs cells slots) (hx : p.tables.exec = Jvm.exec) {x y : Int32} (hd : decode c.code pc = .ok (.irem, 1)) (hy : y ≠ 0) (hp : pc + 1 = pc') (k : Goes p e below s cs ss Q T (mkF m pc' Ls (.int (x % y) :: st))) : Goes p e below s cs ss Q T (mkF m pc Ls (.int y :: .int x :: st)) := by
  subst hp
  exact Goes.pre (fun _ k => iremM X hx rfl hd rfl hy k) k
theorem own_ladd (X : Stand p l e R s m args below meth c T locs cells slots) (hx : p.tables.exec = Jvm.exec) {x y : Int64} (hd : decode c.code pc = .ok (.ladd, 1))  (hp : pc + 1 = pc') (k : Goes p e below s cs ss Q T (mkF m pc' Ls (.long (x + y) :: st))) : Goes p e below s cs ss Q T (mkF m pc Ls (.long y :: .long x :: st)) := by
  subst hp
  exact Goes.pre (fun _ k => XS.ladd X.here hx rfl hd rfl k) k
theorem own_lsub (X : Stand p l e R s m args below meth c T locs cells slots) (hx : p.tables.exec = Jvm.exec) {x y : Int64} (hd : decode c.code pc = .ok (.lsub, 1))  (hp : pc + 1 = pc') (k : Goes p e below s cs ss Q T (mkF m pc' Ls (.long (x - y) :: st))) : Goes p e below s cs ss Q T (mkF m pc Ls (.long y :: .long x :: st)) := by
  subst hp
  exact Goes.pre (fun _ k => XS.lsub X.here hx rfl hd rfl k) k
theorem own_land (X : Stand p l e R s m args below meth c T locs cells slots) (hx : p.tables.exec = Jvm.exec) {x y : Int64} (hd : decode c.code pc = .ok (.land, 1))  (hp : pc + 1 = pc') (k : Goes p e below s cs ss Q T (mkF m pc' Ls (.long (x &&& y) :: st))) : Goes p e below s cs ss Q T (mkF m pc Ls (.long y :: .long x :: st)) := by
  subst hp
  exact Goes.pre (fun _ k => XS.land X.here hx rfl hd rfl k) k
theorem own_lxor (X : Stand p l e R s m args below meth c T locs cells slots) (hx : p.tables.exec = Jvm.exec) {x y : Int64} (hd : decode c.code pc = .ok (.lxor, 1))  (hp : pc + 1 = pc') (k : Goes p e below s cs ss Q T (mkF m pc' Ls (.long (x ^^^ y) :: st))) : Goes p e below s cs ss Q T (mkF m pc Ls (.long y :: .long x :: st)) := by
  subst hp
  exact Goes.pre (fun _ k => XS.lxor X.here hx rfl hd rfl k) k
theorem own_lcmp (X : Stand p l e R s m args below meth c T locs cells slots) (hx : p.tables.exec = Jvm.exec) {x y : Int64} (hd : decode c.code pc = .ok (.lcmp, 1))  (hp : pc + 1 = pc') (k : Goes p e below s cs ss Q T (mkF m pc' Ls (.int (lcmpW x y) :: st))) : Goes p e below s cs ss Q T (mkF m pc Ls (.long y :: .long x :: st)) := by
  subst hp
  exact Goes.pre (fun _ k => XS.lcmp X.here hx rfl hd rfl k) k
theorem own_i2c (X : Stand p l e R s m args below meth c T locs cells slots) (hx : p.tables.exec = Jvm.exec) {x : Int32} (hd : decode c.code pc = .ok (.i2c, 1))  (hp : pc + 1 = pc') (k : Goes p e below s cs ss Q T (mkF m pc' Ls (.int (x.toUInt32.toUInt16.toUInt32.toInt32) :: st))) : Goes p e below s cs ss Q T (mkF m pc Ls (.int x :: st)) := by
  subst hp
  exact Goes.pre (fun _ k => XS.i2c X.here hx rfl hd rfl k) k
theorem own_dup (X : Stand p l e R s m args below meth c T locs cells slots) (hx : p.tables.exec = Jvm.exec) {x : Value} (hd : decode c.code pc = .ok (.dup, 1)) (hc : x.category = 1) (hp : pc + 1 = pc') (k : Goes p e below s cs ss Q T (mkF m pc' Ls (x :: x :: st))) : Goes p e below s cs ss Q T (mkF m pc Ls (x :: st)) := by
  subst hp
  exact Goes.pre (fun _ k => XS.dup X.here hx rfl hd rfl hc k) k
theorem own_pop (X : Stand p l e R s m args below meth c T locs cells slots) (hx : p.tables.exec = Jvm.exec) {x : Value} (hd : decode c.code pc = .ok (.pop, 1)) (hc : x.category = 1) (hp : pc + 1 = pc') (k : Goes p e below s cs ss Q T (mkF m pc' Ls st)) : Goes p e below s cs ss Q T (mkF m pc Ls (x :: st)) := by
  subst hp
  exact Goes.pre (fun _ k => XS.pop X.here hx rfl hd rfl hc k) k
theorem own_goto (X : Stand p l e R s m args below meth c T locs cells slots) (hx : p.tables.exec = Jvm.exec) {o : Int}  (hd : decode c.code pc = .ok (.goto o, 3))  (ho : 0 ≤ (pc : Int) + o) (hp : ((pc : Int) + o).toNat = pc') (k : Goes p e below s cs ss Q T (mkF m pc' Ls st)) : Goes p e below s cs ss Q T (mkF m pc Ls st) := by
  exact Goes.pre (fun _ k => XS.goto X.here hx rfl rfl hd ho hp k) k
theorem own_ifY (X : Stand p l e R s m args below meth c T locs cells slots) (hx : p.tables.exec = Jvm.exec) {o : Int} {cd : ClassFile.Cond} {x : Int32} (hd : decode c.code pc = .ok (.ifCond cd o, 3)) (hc : ifCond.holds cd x = true) (ho : 0 ≤ (pc : Int) + o) (hp : ((pc : Int) + o).toNat = pc') (k : Goes p e below s cs ss Q T (mkF m pc' Ls st)) : Goes p e below s cs ss Q T (mkF m pc Ls (.int x :: st)) := by
  exact Goes.pre (fun _ k => XS.ifYes X.here hx rfl rfl hd rfl hc ho hp k) k
theorem own_icmpY (X : Stand p l e R s m args below meth c T locs cells slots) (hx : p.tables.exec = Jvm.exec) {o : Int} {cd : ClassFile.Cond} {x y : Int32} (hd : decode c.code pc = .ok (.if_icmp cd o, 3)) (hc : if_icmp.holds cd x y = true) (ho : 0 ≤ (pc : Int) + o) (hp : ((pc : Int) + o).toNat = pc') (k : Goes p e below s cs ss Q T (mkF m pc' Ls st)) : Goes p e below s cs ss Q T (mkF m pc Ls (.int y :: .int x :: st)) := by
  exact Goes.pre (fun _ k => XS.icmpYes X.here hx rfl rfl hd rfl hc ho hp k) k
theorem own_ifN (X : Stand p l e R s m args below meth c T locs cells slots) (hx : p.tables.exec = Jvm.exec) {o : Int} {cd : ClassFile.Cond} {x : Int32} (hd : decode c.code pc = .ok (.ifCond cd o, 3)) (hc : ifCond.holds cd x = false) (hp : pc + 3 = pc') (k : Goes p e below s cs ss Q T (mkF m pc' Ls st)) : Goes p e below s cs ss Q T (mkF m pc Ls (.int x :: st)) := by
  subst hp
  exact Goes.pre (fun _ k => XS.ifNo X.here hx rfl hd rfl hc k) k
theorem own_icmpN (X : Stand p l e R s m args below meth c T locs cells slots) (hx : p.tables.exec = Jvm.exec) {o : Int} {cd : ClassFile.Cond} {x y : Int32} (hd : decode c.code pc = .ok (.if_icmp cd o, 3)) (hc : if_icmp.holds cd x y = false) (hp : pc + 3 = pc') (k : Goes p e below s cs ss Q T (mkF m pc' Ls st)) : Goes p e below s cs ss Q T (mkF m pc Ls (.int y :: .int x :: st)) := by
  subst hp
  exact Goes.pre (fun _ k => XS.icmpNo X.here hx rfl hd rfl hc k) k
theorem own_ifnullY (X : Stand p l e R s m args below meth c T locs cells slots) (hx : p.tables.exec = Jvm.exec) {o : Int}  (hd : decode c.code pc = .ok (.ifnull o, 3))  (ho : 0 ≤ (pc : Int) + o) (hp : ((pc : Int) + o).toNat = pc') (k : Goes p e below s cs ss Q T (mkF m pc' Ls st)) : Goes p e below s cs ss Q T (mkF m pc Ls (.null :: st)) := by
  exact Goes.pre (fun _ k => XS.ifnullYes X.here hx rfl rfl hd rfl ho hp k) k
theorem own_ifnullN (X : Stand p l e R s m args below meth c T locs cells slots) (hx : p.tables.exec = Jvm.exec) {o : Int} {b : Addr} (hd : decode c.code pc = .ok (.ifnull o, 3))  (hp : pc + 3 = pc') (k : Goes p e below s cs ss Q T (mkF m pc' Ls st)) : Goes p e below s cs ss Q T (mkF m pc Ls (.ref b :: st)) := by
  subst hp
  exact Goes.pre (fun _ k => XS.ifnullNo X.here hx rfl hd rfl k) k
theorem own_ifnonnullY (X : Stand p l e R s m args below meth c T locs cells slots) (hx : p.tables.exec = Jvm.exec) {o : Int} {b : Addr} (hd : decode c.code pc = .ok (.ifnonnull o, 3))  (ho : 0 ≤ (pc : Int) + o) (hp : ((pc : Int) + o).toNat = pc') (k : Goes p e below s cs ss Q T (mkF m pc' Ls st)) : Goes p e below s cs ss Q T (mkF m pc Ls (.ref b :: st)) := by
  exact Goes.pre (fun _ k => XS.ifnonnullYes X.here hx rfl rfl hd rfl ho hp k) k
theorem own_ifnonnullN (X : Stand p l e R s m args below meth c T locs cells slots) (hx : p.tables.exec = Jvm.exec) {o : Int} (hd : decode c.code pc = .ok (.ifnonnull o, 3))  (hp : pc + 3 = pc') (k : Goes p e below s cs ss Q T (mkF m pc' Ls st)) : Goes p e below s cs ss Q T (mkF m pc Ls (.null :: st)) := by
  subst hp
  exact Goes.pre (fun _ k => XS.ifnonnullNo X.here hx rfl hd rfl k) k
theorem own_ldc2 (X : Stand p l e R s m args below meth c T locs cells slots) (hx : p.tables.exec = Jvm.exec) {own : String} {i : Nat} {v : Int64} (hown : s.vm.findClass own = some m.cls) (w : (Cond.constantLong own i v).before args s = true) (hd : decode c.code pc = .ok (.ldc2_w i, 3)) (hp : pc + 3 = pc') (k : Goes p e below s cs ss Q T (mkF m pc' Ls (.long v :: st))) : Goes p e below s cs ss Q T (mkF m pc Ls st) := by
  subst hp
  exact Goes.pre (fun t k => X.ldc2Long hx hown w (g := mkF m pc Ls st) rfl hd t k) k
theorem own_ldcI (X : Stand p l e R s m args below meth c T locs cells slots) (hx : p.tables.exec = Jvm.exec) {own : String} {i : Nat} {v : Int32} (hown : s.vm.findClass own = some m.cls) (w : (Cond.constant own i v).before args s = true) (hd : decode c.code pc = .ok (.ldc i, 2)) (hp : pc + 2 = pc') (k : Goes p e below s cs ss Q T (mkF m pc' Ls (.int v :: st))) : Goes p e below s cs ss Q T (mkF m pc Ls st) := by
  subst hp
  exact Goes.pre (fun t k => X.ldcInt hx hown w (g := mkF m pc Ls st) rfl hd t k) k
theorem own_sipush (X : Stand p l e R s m args below meth c T locs cells slots) (hx : p.tables.exec = Jvm.exec) {i : Int} {v : Int32} (hd : decode c.code pc = .ok (.sipush i, 3)) (hv : (Int16.ofInt i).toInt32 = v) (hp : pc + 3 = pc') (k : Goes p e below s cs ss Q T (mkF m pc' Ls (.int v :: st))) : Goes p e below s cs ss Q T (mkF m pc Ls st) := by
  subst hp hv
  exact Goes.pre (fun _ k => XS.sipush X.here hx rfl hd k) k
theorem own_istoreS (X : Stand p l e R s m args below meth c T locs cells slots) (hx : p.tables.exec = Jvm.exec) {i : Nat} {x : Int32} {o : Slot} (hd : decode c.code pc = .ok (.istore i, 2)) (hold : Ls[i]? = some o) (ho : One o) (hl : Ls.setIfInBounds i (.val (.int x)) = Ls') (hp : pc + 2 = pc') (k : Goes p e below s cs ss Q T (mkF m pc' Ls' st)) : Goes p e below s cs ss Q T (mkF m pc Ls (.int x :: st)) := by
  subst hp
  exact Goes.pre (fun _ k => XS.istoreS X.here hx rfl hd rfl hold ho (hl.symm ▸ k)) k
theorem own_i2b (X : Stand p l e R s m args below meth c T locs cells slots) (hx : p.tables.exec = Jvm.exec) {x : Int32} (hd : decode c.code pc = .ok (.i2b, 1))  (hp : pc + 1 = pc') (k : Goes p e below s cs ss Q T (mkF m pc' Ls (.int x.toInt8.toInt32 :: st))) : Goes p e below s cs ss Q T (mkF m pc Ls (.int x :: st)) := by
  subst hp
  exact Goes.pre (fun _ k => XS.i2b X.here hx rfl hd rfl k) k
theorem own_dupX1 (X : Stand p l e R s m args below meth c T locs cells slots) (hx : p.tables.exec = Jvm.exec) {x y : Value} (hd : decode c.code pc = .ok (.dup_x1, 1)) (hc : x.category = 1) (hc' : y.category = 1) (hp : pc + 1 = pc') (k : Goes p e below s cs ss Q T (mkF m pc' Ls (x :: y :: x :: st))) : Goes p e below s cs ss Q T (mkF m pc Ls (x :: y :: st)) := by
  subst hp
  exact Goes.pre (fun _ k => XS.dupX1 X.here hx rfl hd rfl hc hc' k) k
end Own
theorem own_Tlt {a b : Int64} (h : a < b) : ifCond.holds .lt (lcmpW a b) = true ∧ ifCond.holds .ge (lcmpW a b) = false := ⟨(if0 _ _).trans (tlt ((lw_lt a b).mpr h)).1, (if0 _ _).trans (tlt ((lw_lt a b).mpr h)).2.1⟩
theorem own_Flt {a b : Int64} (h : ¬ a < b) : ifCond.holds .lt (lcmpW a b) = false ∧ ifCond.holds .ge (lcmpW a b) = true := ⟨(if0 _ _).trans (flt fun q => h ((lw_lt a b).mp q)).1, (if0 _ _).trans (flt fun q => h ((lw_lt a b).mp q)).2.1⟩
theorem own_Tgt {a b : Int64} (h : b < a) : ifCond.holds .gt (lcmpW a b) = true ∧ ifCond.holds .le (lcmpW a b) = false := ⟨(if0 _ _).trans (tlt ((lw_gt a b).mpr h)).2.2.1, (if0 _ _).trans (tlt ((lw_gt a b).mpr h)).2.2.2⟩
theorem own_Fgt {a b : Int64} (h : ¬ b < a) : ifCond.holds .gt (lcmpW a b) = false ∧ ifCond.holds .le (lcmpW a b) = true := ⟨(if0 _ _).trans (flt fun q => h ((lw_gt a b).mp q)).2.2.1, (if0 _ _).trans (flt fun q => h ((lw_gt a b).mp q)).2.2.2⟩
theorem own_Teq {a b : Int64} (h : a = b) : ifCond.holds .eq (lcmpW a b) = true ∧ ifCond.holds .ne (lcmpW a b) = false := ⟨(if0 _ _).trans (teq ((lw_eq a b).mpr h)).1, (if0 _ _).trans (teq ((lw_eq a b).mpr h)).2⟩
theorem own_Feq {a b : Int64} (h : ¬ a = b) : ifCond.holds .eq (lcmpW a b) = false ∧ ifCond.holds .ne (lcmpW a b) = true := ⟨(if0 _ _).trans (feq fun q => h ((lw_eq a b).mp q)).1, (if0 _ _).trans (feq fun q => h ((lw_eq a b).mp q)).2⟩
def own_allow (mc ms c s : Int64) : Int32 := if mc = (0 : Int64) then (if ms = (0 : Int64) then 1 else if ms < s then 0 else 1) else if mc < c then 0 else (if ms = (0 : Int64) then 1 else if ms < s then 0 else 1)
theorem d1_0 : decode prog_214_method_1_code 0 = .ok (.aload_n 0, 1) := by decide +kernel
theorem d1_1 : decode prog_214_method_1_code 1 = .ok (.invokespecial 1, 3) := by decide +kernel
theorem d1_4 : decode prog_214_method_1_code 4 = .ok (.aload_n 0, 1) := by decide +kernel
theorem d1_5 : decode prog_214_method_1_code 5 = .ok (.iload_n 1, 1) := by decide +kernel
theorem d1_6 : decode prog_214_method_1_code 6 = .ok (.putfield 7, 3) := by decide +kernel
theorem d1_9 : decode prog_214_method_1_code 9 = .ok (.aload_n 0, 1) := by decide +kernel
theorem d1_10 : decode prog_214_method_1_code 10 = .ok (.lload_n 2, 1) := by decide +kernel
theorem d1_11 : decode prog_214_method_1_code 11 = .ok (.putfield 13, 3) := by decide +kernel
theorem d1_14 : decode prog_214_method_1_code 14 = .ok (.aload_n 0, 1) := by decide +kernel
theorem d1_15 : decode prog_214_method_1_code 15 = .ok (.lload 4, 2) := by decide +kernel
theorem d1_17 : decode prog_214_method_1_code 17 = .ok (.putfield 17, 3) := by decide +kernel
theorem d1_20 : decode prog_214_method_1_code 20 = .ok (.return_, 1) := by decide +kernel
theorem pn_1 : plainFor (⟨"com/example/millwright/millwright/transport/MessageLimits", "<init>", "(IJJ)V"⟩ : MethodName) = true := by first | exact plainFor_of_name (by simp [plainName, overriddenIn]; done) | exact plainFor_of_name (by decide +kernel) | decide +kernel
theorem pd_1 : parseMethodDescriptor "(IJJ)V" = some ⟨[.int, .long, .long], none⟩ := by decide +kernel
theorem ef_1 (m : MethodId) (a1 : Addr) (q1 : Int32) (q2 : Int64) (q3 : Int64) : entryFrame m #[(.ref a1), (.int q1), (.long q2), (.long q3)] 6 = mkF m 0 #[.val (.ref a1), .val (.int q1), .val (.long q2), .second, .val (.long q3), .second] [] := by first | (simp [entryFrame, mkF, argsToLocals, Value.category]; done) | rfl
def Q_1 (Z : State) (a1 : Addr) (q1 : Int32) (q2 : Int64) (q3 : Int64) (h0 : Heap) (n0 : Nat) (v : Option Value) (h : Heap) (L : List Loc) : Prop := v = none ∧ Fr n0 L ∧ Keep h0 h [a1] ∧ Exa Z h a1 "com/example/millwright/millwright/transport/MessageLimits" ∧ Fld Z h a1 "com/example/millwright/millwright/transport/MessageLimits" "maxMessageSize" "J" (.long q2) ∧ Fld Z h a1 "com/example/millwright/millwright/transport/MessageLimits" "maxChunkCount" "J" (.long q3)
set_option maxRecDepth 65536 in
set_option maxHeartbeats 40000000 in
theorem rm_1 (l : Launch) (Z : State) (a0 : Array Value) (hw : ∀ d ∈ tables_1, d.before a0 Z = true) (ws : List Jvm.Cond) (a1 : Addr) (q1 : Int32) (q2 : Int64) (q3 : Int64) (h0 : Heap) (n0 : Nat) (Z0 : n0 ≤ h0.size) (F1 : Fld Z h0 a1 "com/example/millwright/millwright/transport/MessageLimits" "chunkSize" "I" (.int (0 : Int32))) (F2 : Fld Z h0 a1 "com/example/millwright/millwright/transport/MessageLimits" "maxMessageSize" "J" (.long (0 : Int64))) (F3 : Fld Z h0 a1 "com/example/millwright/millwright/transport/MessageLimits" "maxChunkCount" "J" (.long (0 : Int64))) (E1 : Exa Z h0 a1 "com/example/millwright/millwright/transport/MessageLimits") (g1 : n0 ≤ a1) :
    MetFree l (⟨"com/example/millwright/millwright/transport/MessageLimits", "<init>", "(IJJ)V"⟩ : MethodName) (head1 (Jvm.Cond.code (⟨"com/example/millwright/millwright/transport/MessageLimits", "<init>", "(IJJ)V"⟩ : MethodName) prog_214_method_1_code 6 none :: ws) ({ frames := 1, cells := 0, slots := 0, locals := 12 } : Room)) (fun a U => a = #[(.ref a1), (.int q1), (.long q2), (.long q3)] ∧ Z.Warmed39 U.vm ∧ U.heap = h0) (fun _ _ _ _ _ => True) (fun _ U o U' => ∃ v L, o = .returned v ∧ (Q_1 Z a1 q1 q2 q3 h0 n0) v U'.heap L ∧ FrameEnd U o U' L ({ frames := 1, cells := 0, slots := 0, locals := 12 } : Room).cells ({ frames := 1, cells := 0, slots := 0, locals := 12 } : Room).slots) := by
  refine MetFree.of_bodySF pn_1 hisR ?_
  intro p e s m args below meth c s₁ Bd hml0 hP hK
  obtain ⟨rfl, hZ, hh⟩ := hP
  have hx := Bd.exec
  have hby := Bd.bytes
  have hlk : meth.locks = false := BodyLoose.notSynchronized Bd
  have hml : c.maxLocals = 6 := hml0
  have hown : s.vm.findClass "com/example/millwright/millwright/transport/MessageLimits" = some m.cls := findClass_of_methodNamed Bd.named
  have hnm := (name_of_methodNamed Bd.named Bd.method).1
  have X0 : Stand p l e ({ frames := 1, cells := 0, slots := 0, locals := 12 } : Room) s m #[(.ref a1), (.int q1), (.long q2), (.long q3)] below meth c s₁ [] 0 0 := Stand.of_body Bd
  have e0 : s₁.heap = h0 := by rw [← hh, Bd.state]; rfl
  have N0 := Fr.nil n0
  refine own_enter (Q := (Q_1 Z a1 q1 q2 q3 h0 n0)) (cs := 0) (ss := 0) (ef_1 m a1 q1 q2 q3) ?_
  show Goes p e below s 0 0 (Q_1 Z a1 q1 q2 q3 h0 n0) s₁ (mkF m 0 #[.val (.ref a1), .val (.int q1), .val (.long q2), .second, .val (.long q3), .second] [])
  refine own_aloadN (pc' := 1) X0 hx (hb hby d1_0) rfl rfl rfl ?_
  obtain ⟨T101, X101, e101, st101⟩ := initO X0 hx hZ hown (hw _ (List.mem_of_getElem? (i := 7) rfl)) (hw _ (List.mem_of_getElem? (i := 8) rfl)) (hw _ (List.mem_of_getElem? (i := 9) rfl)) e0 (g := (mkF m 1 #[.val (.ref a1), .val (.int q1), .val (.long q2), .second, .val (.long q3), .second] [(.ref a1)])) rfl (by rw [hml]; rfl) rfl (hb hby d1_1) (by decide) (W := 0) (by show 2 * 0 + _ ≤ _; exact Nat.le_of_eq rfl) (by decide)
  refine Goes.pre st101 ?_
  show Goes p e below s 0 0 (Q_1 Z a1 q1 q2 q3 h0 n0) T101 (mkF m 4 #[.val (.ref a1), .val (.int q1), .val (.long q2), .second, .val (.long q3), .second] [])
  refine own_aloadN (pc' := 5) X101 hx (hb hby d1_4) rfl rfl rfl ?_
  refine own_iloadN (pc' := 6) X101 hx (hb hby d1_5) rfl rfl ?_
  obtain ⟨T102, h102, X102, e102, W102, st102⟩ := putF X101 hx hZ hown (host := "") (Or.inl (hw _ (List.mem_of_getElem? (i := 10) rfl))) Via.refl e101 F1 E1 (Or.inr ⟨(hw _ (List.mem_of_getElem? (i := 11) rfl)), rfl, hnm⟩) (hw _ (List.mem_of_getElem? (i := 2) rfl)) (ty := .int) (by decide) rfl rfl (g := (mkF m 6 #[.val (.ref a1), .val (.int q1), .val (.long q2), .second, .val (.long q3), .second] [(.int q1), (.ref a1)])) rfl rfl (hb hby d1_6)
  have N102 := Fr.snoc X102 N0 g1
  refine Goes.pre st102 ?_
  show Goes p e below s 0 0 (Q_1 Z a1 q1 q2 q3 h0 n0) T102 (mkF m 9 #[.val (.ref a1), .val (.int q1), .val (.long q2), .second, .val (.long q3), .second] [])
  have F102_a1_chunkSize := F1.same W102
  have F102_a1_maxMessageSize := F2.other W102 (Or.inr (slot_ne (Or.inr (hw _ (List.mem_of_getElem? (i := 13) rfl))) (Or.inr (hw _ (List.mem_of_getElem? (i := 11) rfl))) (by decide) (t := .long) (t' := .int) (by decide) (by decide)))
  have F102_a1_maxChunkCount := F3.other W102 (Or.inr (slot_ne (Or.inr (hw _ (List.mem_of_getElem? (i := 15) rfl))) (Or.inr (hw _ (List.mem_of_getElem? (i := 11) rfl))) (by decide) (t := .long) (t' := .int) (by decide) (by decide)))
  have E102_a1 := E1.wr W102
  have K102 := Keep.wr (Keep.refl h0 [a1]) W102 (Or.inl (List.mem_of_getElem? (i := 0) rfl))
  refine own_aloadN (pc' := 10) X102 hx (hb hby d1_9) rfl rfl rfl ?_
  refine own_lloadN (pc' := 11) X102 hx (hb hby d1_10) rfl rfl ?_
  obtain ⟨T103, h103, X103, e103, W103, st103⟩ := putF X102 hx hZ hown (host := "") (Or.inl (hw _ (List.mem_of_getElem? (i := 12) rfl))) Via.refl e102 F102_a1_maxMessageSize E102_a1 (Or.inr ⟨(hw _ (List.mem_of_getElem? (i := 13) rfl)), rfl, hnm⟩) (hw _ (List.mem_of_getElem? (i := 2) rfl)) (ty := .long) (by decide) rfl rfl (g := (mkF m 11 #[.val (.ref a1), .val (.int q1), .val (.long q2), .second, .val (.long q3), .second] [(.long q2), (.ref a1)])) rfl rfl (hb hby d1_11)
  have N103 := Fr.snoc X103 N102 g1
  refine Goes.pre st103 ?_
  show Goes p e below s 0 0 (Q_1 Z a1 q1 q2 q3 h0 n0) T103 (mkF m 14 #[.val (.ref a1), .val (.int q1), .val (.long q2), .second, .val (.long q3), .second] [])
  have F103_a1_chunkSize := F102_a1_chunkSize.other W103 (Or.inr (slot_ne (Or.inr (hw _ (List.mem_of_getElem? (i := 11) rfl))) (Or.inr (hw _ (List.mem_of_getElem? (i := 13) rfl))) (by decide) (t := .int) (t' := .long) (by decide) (by decide)))
  have F103_a1_maxMessageSize := F102_a1_maxMessageSize.same W103
  have F103_a1_maxChunkCount := F102_a1_maxChunkCount.other W103 (Or.inr (slot_ne (Or.inr (hw _ (List.mem_of_getElem? (i := 15) rfl))) (Or.inr (hw _ (List.mem_of_getElem? (i := 13) rfl))) (by decide) (t := .long) (t' := .long) (by decide) (by decide)))
  have E103_a1 := E102_a1.wr W103
  have K103 := Keep.wr K102 W103 (Or.inl (List.mem_of_getElem? (i := 0) rfl))
  refine own_aloadN (pc' := 15) X103 hx (hb hby d1_14) rfl rfl rfl ?_
  refine own_lload (pc' := 17) X103 hx (hb hby d1_15) rfl rfl ?_
  obtain ⟨T104, h104, X104, e104, W104, st104⟩ := putF X103 hx hZ hown (host := "") (Or.inl (hw _ (List.mem_of_getElem? (i := 14) rfl))) Via.refl e103 F103_a1_maxChunkCount E103_a1 (Or.inr ⟨(hw _ (List.mem_of_getElem? (i := 15) rfl)), rfl, hnm⟩) (hw _ (List.mem_of_getElem? (i := 2) rfl)) (ty := .long) (by decide) rfl rfl (g := (mkF m 17 #[.val (.ref a1), .val (.int q1), .val (.long q2), .second, .val (.long q3), .second] [(.long q3), (.ref a1)])) rfl rfl (hb hby d1_17)
  have N104 := Fr.snoc X104 N103 g1
  refine Goes.pre st104 ?_
  show Goes p e below s 0 0 (Q_1 Z a1 q1 q2 q3 h0 n0) T104 (mkF m 20 #[.val (.ref a1), .val (.int q1), .val (.long q2), .second, .val (.long q3), .second] [])
  have F104_a1_chunkSize := F103_a1_chunkSize.other W104 (Or.inr (slot_ne (Or.inr (hw _ (List.mem_of_getElem? (i := 11) rfl))) (Or.inr (hw _ (List.mem_of_getElem? (i := 15) rfl))) (by decide) (t := .int) (t' := .long) (by decide) (by decide)))
  have F104_a1_maxMessageSize := F103_a1_maxMessageSize.other W104 (Or.inr (slot_ne (Or.inr (hw _ (List.mem_of_getElem? (i := 13) rfl))) (Or.inr (hw _ (List.mem_of_getElem? (i := 15) rfl))) (by decide) (t := .long) (t' := .long) (by decide) (by decide)))
  have F104_a1_maxChunkCount := F103_a1_maxChunkCount.same W104
  have E104_a1 := E103_a1.wr W104
  have K104 := Keep.wr K103 W104 (Or.inl (List.mem_of_getElem? (i := 0) rfl))
  exact own_ret0 X104 hx hlk Bd.returns (hb hby d1_20) (by decide) (by decide) (by rw [e104]; exact ⟨rfl, N104, K104, E104_a1, F104_a1_maxMessageSize, F104_a1_maxChunkCount⟩)
theorem d3_0 : decode prog_214_method_5_code 0 = .ok (.aload_n 0, 1) := by decide +kernel
theorem d3_1 : decode prog_214_method_5_code 1 = .ok (.getfield 17, 3) := by decide +kernel
theorem d3_4 : decode prog_214_method_5_code 4 = .ok (.lconst 0, 1) := by decide +kernel
theorem d3_5 : decode prog_214_method_5_code 5 = .ok (.lcmp, 1) := by decide +kernel
theorem d3_6 : decode prog_214_method_5_code 6 = .ok (.ifCond .eq 12, 3) := by decide +kernel
theorem d3_9 : decode prog_214_method_5_code 9 = .ok (.lload_n 1, 1) := by decide +kernel
theorem d3_10 : decode prog_214_method_5_code 10 = .ok (.aload_n 0, 1) := by decide +kernel
theorem d3_11 : decode prog_214_method_5_code 11 = .ok (.getfield 17, 3) := by decide +kernel
theorem d3_14 : decode prog_214_method_5_code 14 = .ok (.lcmp, 1) := by decide +kernel
theorem d3_15 : decode prog_214_method_5_code 15 = .ok (.ifCond .gt 25, 3) := by decide +kernel
theorem d3_18 : decode prog_214_method_5_code 18 = .ok (.aload_n 0, 1) := by decide +kernel
theorem d3_19 : decode prog_214_method_5_code 19 = .ok (.getfield 13, 3) := by decide +kernel
theorem d3_22 : decode prog_214_method_5_code 22 = .ok (.lconst 0, 1) := by decide +kernel
theorem d3_23 : decode prog_214_method_5_code 23 = .ok (.lcmp, 1) := by decide +kernel
theorem d3_24 : decode prog_214_method_5_code 24 = .ok (.ifCond .eq 12, 3) := by decide +kernel
theorem d3_27 : decode prog_214_method_5_code 27 = .ok (.lload_n 3, 1) := by decide +kernel
theorem d3_28 : decode prog_214_method_5_code 28 = .ok (.aload_n 0, 1) := by decide +kernel
theorem d3_29 : decode prog_214_method_5_code 29 = .ok (.getfield 13, 3) := by decide +kernel
theorem d3_32 : decode prog_214_method_5_code 32 = .ok (.lcmp, 1) := by decide +kernel
theorem d3_33 : decode prog_214_method_5_code 33 = .ok (.ifCond .gt 7, 3) := by decide +kernel
theorem d3_36 : decode prog_214_method_5_code 36 = .ok (.iconst 1, 1) := by decide +kernel
theorem d3_37 : decode prog_214_method_5_code 37 = .ok (.goto 4, 3) := by decide +kernel
theorem d3_40 : decode prog_214_method_5_code 40 = .ok (.iconst 0, 1) := by decide +kernel
theorem d3_41 : decode prog_214_method_5_code 41 = .ok (.ireturn, 1) := by decide +kernel
theorem pn_2 : plainFor (⟨"com/example/millwright/millwright/transport/MessageLimits", "allow", "(JJ)Z"⟩ : MethodName) = true := by first | exact plainFor_of_name (by simp [plainName, overriddenIn]; done) | exact plainFor_of_name (by decide +kernel) | decide +kernel
theorem pd_2 : parseMethodDescriptor "(JJ)Z" = some ⟨[.long, .long], some .boolean⟩ := by decide +kernel
theorem ef_2 (m : MethodId) (a1 : Addr) (mc : Int64) (ms : Int64) (q1 : Int64) (q2 : Int64) : entryFrame m #[(.ref a1), (.long q1), (.long q2)] 5 = mkF m 0 #[.val (.ref a1), .val (.long q1), .second, .val (.long q2), .second] [] := by first | (simp [entryFrame, mkF, argsToLocals, Value.category]; done) | rfl
def Q_2 (Z : State) (a1 : Addr) (mc : Int64) (ms : Int64) (q1 : Int64) (q2 : Int64) (h0 : Heap) (n0 : Nat) (v : Option Value) (h : Heap) (L : List Loc) : Prop := v = some (.int (own_allow mc ms q1 q2)) ∧ Fr n0 L ∧ h = h0
set_option maxRecDepth 65536 in
set_option maxHeartbeats 40000000 in
theorem rm_2 (l : Launch) (Z : State) (a0 : Array Value) (hw : ∀ d ∈ tables_1, d.before a0 Z = true) (ws : List Jvm.Cond) (a1 : Addr) (mc : Int64) (ms : Int64) (q1 : Int64) (q2 : Int64) (h0 : Heap) (n0 : Nat) (Z0 : n0 ≤ h0.size) (F2 : Fld Z h0 a1 "com/example/millwright/millwright/transport/MessageLimits" "maxMessageSize" "J" (.long ms)) (F3 : Fld Z h0 a1 "com/example/millwright/millwright/transport/MessageLimits" "maxChunkCount" "J" (.long mc)) :
    MetFree l (⟨"com/example/millwright/millwright/transport/MessageLimits", "allow", "(JJ)Z"⟩ : MethodName) (head1 (Jvm.Cond.code (⟨"com/example/millwright/millwright/transport/MessageLimits", "allow", "(JJ)Z"⟩ : MethodName) prog_214_method_5_code 5 (some .boolean) :: ws) ({ frames := 0, cells := 0, slots := 0, locals := 0 } : Room)) (fun a U => a = #[(.ref a1), (.long q1), (.long q2)] ∧ Z.Warmed39 U.vm ∧ U.heap = h0) (fun _ _ _ _ _ => True) (fun _ U o U' => ∃ v L, o = .returned v ∧ (Q_2 Z a1 mc ms q1 q2 h0 n0) v U'.heap L ∧ FrameEnd U o U' L ({ frames := 0, cells := 0, slots := 0, locals := 0 } : Room).cells ({ frames := 0, cells := 0, slots := 0, locals := 0 } : Room).slots) := by
  refine MetFree.of_bodySF pn_2 hisR ?_
  intro p e s m args below meth c s₁ Bd hml0 hP hK
  obtain ⟨rfl, hZ, hh⟩ := hP
  have hx := Bd.exec
  have hby := Bd.bytes
  have hlk : meth.locks = false := BodyLoose.notSynchronized Bd
  have hml : c.maxLocals = 5 := hml0
  have hown : s.vm.findClass "com/example/millwright/millwright/transport/MessageLimits" = some m.cls := findClass_of_methodNamed Bd.named
  have hnm := (name_of_methodNamed Bd.named Bd.method).1
  have X0 : Stand p l e ({ frames := 0, cells := 0, slots := 0, locals := 0 } : Room) s m #[(.ref a1), (.long q1), (.long q2)] below meth c s₁ [] 0 0 := Stand.of_body Bd
  have e0 : s₁.heap = h0 := by rw [← hh, Bd.state]; rfl
  have N0 := Fr.nil n0
  refine own_enter (Q := (Q_2 Z a1 mc ms q1 q2 h0 n0)) (cs := 0) (ss := 0) (ef_2 m a1 mc ms q1 q2) ?_
  show Goes p e below s 0 0 (Q_2 Z a1 mc ms q1 q2 h0 n0) s₁ (mkF m 0 #[.val (.ref a1), .val (.long q1), .second, .val (.long q2), .second] [])
  refine own_aloadN (pc' := 1) X0 hx (hb hby d3_0) rfl rfl rfl ?_
  obtain ⟨T105, X105, e105, st105⟩ := getF X0 hx hZ hown (host := "") (Or.inl (hw _ (List.mem_of_getElem? (i := 14) rfl))) Via.refl e0 F3 (g := (mkF m 1 #[.val (.ref a1), .val (.long q1), .second, .val (.long q2), .second] [(.ref a1)])) rfl rfl (hb hby d3_1)
  refine Goes.pre st105 ?_
  show Goes p e below s 0 0 (Q_2 Z a1 mc ms q1 q2 h0 n0) T105 (mkF m 4 #[.val (.ref a1), .val (.long q1), .second, .val (.long q2), .second] [(.long mc)])
  refine own_lconst (pc' := 5) X105 hx (hb hby d3_4) (v := (0 : Int64)) rfl rfl ?_
  refine own_lcmp (pc' := 6) X105 hx (hb hby d3_5) rfl ?_
  by_cases hc6 : mc = (0 : Int64)
  · refine own_ifY X105 hx (hb hby d3_6) (own_Teq hc6).1 (by decide) (pc' := 18) (by decide) ?_
    refine own_aloadN (pc' := 19) X105 hx (hb hby d3_18) rfl rfl rfl ?_
    obtain ⟨T106, X106, e106, st106⟩ := getF X105 hx hZ hown (host := "") (Or.inl (hw _ (List.mem_of_getElem? (i := 12) rfl))) Via.refl e105 F2 (g := (mkF m 19 #[.val (.ref a1), .val (.long q1), .second, .val (.long q2), .second] [(.ref a1)])) rfl rfl (hb hby d3_19)
    refine Goes.pre st106 ?_
    show Goes p e below s 0 0 (Q_2 Z a1 mc ms q1 q2 h0 n0) T106 (mkF m 22 #[.val (.ref a1), .val (.long q1), .second, .val (.long q2), .second] [(.long ms)])
    refine own_lconst (pc' := 23) X106 hx (hb hby d3_22) (v := (0 : Int64)) rfl rfl ?_
    refine own_lcmp (pc' := 24) X106 hx (hb hby d3_23) rfl ?_
    by_cases hc24 : ms = (0 : Int64)
    · refine own_ifY X106 hx (hb hby d3_24) (own_Teq hc24).1 (by decide) (pc' := 36) (by decide) ?_
      refine own_iconst (pc' := 37) X106 hx (hb hby d3_36) (v := (1 : Int32)) rfl rfl ?_
      refine own_goto X106 hx (hb hby d3_37) (by decide) (pc' := 41) (by decide) ?_
      exact own_retN X106 hx hlk (t := .boolean) Bd.returns (by simp) (hb hby d3_41) (by decide) (by decide) ⟨by simp [own_allow, hc6, hc24, nar], N0, e106⟩
    · refine own_ifN (pc' := 27) X106 hx (hb hby d3_24) (own_Feq hc24).1 rfl ?_
      refine own_lloadN (pc' := 28) X106 hx (hb hby d3_27) rfl rfl ?_
      refine own_aloadN (pc' := 29) X106 hx (hb hby d3_28) rfl rfl rfl ?_
      obtain ⟨T107, X107, e107, st107⟩ := getF X106 hx hZ hown (host := "") (Or.inl (hw _ (List.mem_of_getElem? (i := 12) rfl))) Via.refl e106 F2 (g := (mkF m 29 #[.val (.ref a1), .val (.long q1), .second, .val (.long q2), .second] [(.ref a1), (.long q2)])) rfl rfl (hb hby d3_29)
      refine Goes.pre st107 ?_
      show Goes p e below s 0 0 (Q_2 Z a1 mc ms q1 q2 h0 n0) T107 (mkF m 32 #[.val (.ref a1), .val (.long q1), .second, .val (.long q2), .second] [(.long ms), (.long q2)])
      refine own_lcmp (pc' := 33) X107 hx (hb hby d3_32) rfl ?_
      by_cases hc33 : ms < q2
      · refine own_ifY X107 hx (hb hby d3_33) (own_Tgt hc33).1 (by decide) (pc' := 40) (by decide) ?_
        refine own_iconst (pc' := 41) X107 hx (hb hby d3_40) (v := (0 : Int32)) rfl rfl ?_
        exact own_retN X107 hx hlk (t := .boolean) Bd.returns (by simp) (hb hby d3_41) (by decide) (by decide) ⟨by simp [own_allow, hc6, hc24, hc33, nar], N0, e107⟩
      · refine own_ifN (pc' := 36) X107 hx (hb hby d3_33) (own_Fgt hc33).1 rfl ?_
        refine own_iconst (pc' := 37) X107 hx (hb hby d3_36) (v := (1 : Int32)) rfl rfl ?_
        refine own_goto X107 hx (hb hby d3_37) (by decide) (pc' := 41) (by decide) ?_
        exact own_retN X107 hx hlk (t := .boolean) Bd.returns (by simp) (hb hby d3_41) (by decide) (by decide) ⟨by simp [own_allow, hc6, hc24, hc33, nar], N0, e107⟩
  · refine own_ifN (pc' := 9) X105 hx (hb hby d3_6) (own_Feq hc6).1 rfl ?_
    refine own_lloadN (pc' := 10) X105 hx (hb hby d3_9) rfl rfl ?_
    refine own_aloadN (pc' := 11) X105 hx (hb hby d3_10) rfl rfl rfl ?_
    obtain ⟨T108, X108, e108, st108⟩ := getF X105 hx hZ hown (host := "") (Or.inl (hw _ (List.mem_of_getElem? (i := 14) rfl))) Via.refl e105 F3 (g := (mkF m 11 #[.val (.ref a1), .val (.long q1), .second, .val (.long q2), .second] [(.ref a1), (.long q1)])) rfl rfl (hb hby d3_11)
    refine Goes.pre st108 ?_
    show Goes p e below s 0 0 (Q_2 Z a1 mc ms q1 q2 h0 n0) T108 (mkF m 14 #[.val (.ref a1), .val (.long q1), .second, .val (.long q2), .second] [(.long mc), (.long q1)])
    refine own_lcmp (pc' := 15) X108 hx (hb hby d3_14) rfl ?_
    by_cases hc15 : mc < q1
    · refine own_ifY X108 hx (hb hby d3_15) (own_Tgt hc15).1 (by decide) (pc' := 40) (by decide) ?_
      refine own_iconst (pc' := 41) X108 hx (hb hby d3_40) (v := (0 : Int32)) rfl rfl ?_
      exact own_retN X108 hx hlk (t := .boolean) Bd.returns (by simp) (hb hby d3_41) (by decide) (by decide) ⟨by simp [own_allow, hc6, hc15, nar], N0, e108⟩
    · refine own_ifN (pc' := 18) X108 hx (hb hby d3_15) (own_Fgt hc15).1 rfl ?_
      refine own_aloadN (pc' := 19) X108 hx (hb hby d3_18) rfl rfl rfl ?_
      obtain ⟨T109, X109, e109, st109⟩ := getF X108 hx hZ hown (host := "") (Or.inl (hw _ (List.mem_of_getElem? (i := 12) rfl))) Via.refl e108 F2 (g := (mkF m 19 #[.val (.ref a1), .val (.long q1), .second, .val (.long q2), .second] [(.ref a1)])) rfl rfl (hb hby d3_19)
      refine Goes.pre st109 ?_
      show Goes p e below s 0 0 (Q_2 Z a1 mc ms q1 q2 h0 n0) T109 (mkF m 22 #[.val (.ref a1), .val (.long q1), .second, .val (.long q2), .second] [(.long ms)])
      refine own_lconst (pc' := 23) X109 hx (hb hby d3_22) (v := (0 : Int64)) rfl rfl ?_
      refine own_lcmp (pc' := 24) X109 hx (hb hby d3_23) rfl ?_
      by_cases hc24 : ms = (0 : Int64)
      · refine own_ifY X109 hx (hb hby d3_24) (own_Teq hc24).1 (by decide) (pc' := 36) (by decide) ?_
        refine own_iconst (pc' := 37) X109 hx (hb hby d3_36) (v := (1 : Int32)) rfl rfl ?_
        refine own_goto X109 hx (hb hby d3_37) (by decide) (pc' := 41) (by decide) ?_
        exact own_retN X109 hx hlk (t := .boolean) Bd.returns (by simp) (hb hby d3_41) (by decide) (by decide) ⟨by simp [own_allow, hc6, hc15, hc24, nar], N0, e109⟩
      · refine own_ifN (pc' := 27) X109 hx (hb hby d3_24) (own_Feq hc24).1 rfl ?_
        refine own_lloadN (pc' := 28) X109 hx (hb hby d3_27) rfl rfl ?_
        refine own_aloadN (pc' := 29) X109 hx (hb hby d3_28) rfl rfl rfl ?_
        obtain ⟨T110, X110, e110, st110⟩ := getF X109 hx hZ hown (host := "") (Or.inl (hw _ (List.mem_of_getElem? (i := 12) rfl))) Via.refl e109 F2 (g := (mkF m 29 #[.val (.ref a1), .val (.long q1), .second, .val (.long q2), .second] [(.ref a1), (.long q2)])) rfl rfl (hb hby d3_29)
        refine Goes.pre st110 ?_
        show Goes p e below s 0 0 (Q_2 Z a1 mc ms q1 q2 h0 n0) T110 (mkF m 32 #[.val (.ref a1), .val (.long q1), .second, .val (.long q2), .second] [(.long ms), (.long q2)])
        refine own_lcmp (pc' := 33) X110 hx (hb hby d3_32) rfl ?_
        by_cases hc33 : ms < q2
        · refine own_ifY X110 hx (hb hby d3_33) (own_Tgt hc33).1 (by decide) (pc' := 40) (by decide) ?_
          refine own_iconst (pc' := 41) X110 hx (hb hby d3_40) (v := (0 : Int32)) rfl rfl ?_
          exact own_retN X110 hx hlk (t := .boolean) Bd.returns (by simp) (hb hby d3_41) (by decide) (by decide) ⟨by simp [own_allow, hc6, hc15, hc24, hc33, nar], N0, e110⟩
        · refine own_ifN (pc' := 36) X110 hx (hb hby d3_33) (own_Fgt hc33).1 rfl ?_
          refine own_iconst (pc' := 37) X110 hx (hb hby d3_36) (v := (1 : Int32)) rfl rfl ?_
          refine own_goto X110 hx (hb hby d3_37) (by decide) (pc' := 41) (by decide) ?_
          exact own_retN X110 hx hlk (t := .boolean) Bd.returns (by simp) (hb hby d3_41) (by decide) (by decide) ⟨by simp [own_allow, hc6, hc15, hc24, hc33, nar], N0, e110⟩
theorem pn_0 : plainFor x = true := by first | exact plainFor_of_name (by simp [plainName, overriddenIn, x]; done) | exact plainFor_of_name (by decide +kernel) | decide +kernel
theorem pd_0 : parseMethodDescriptor "(IJJJJI)Z" = some ⟨[.int, .long, .long, .long, .long, .int], some .boolean⟩ := by decide +kernel
theorem ef_0 (m : MethodId) (q0 : Int32) (q1 : Int64) (q2 : Int64) (q3 : Int64) (q4 : Int64) (p5 : Int32) : entryFrame m #[(.int q0), (.long q1), (.long q2), (.long q3), (.long q4), (.int p5)] maxLocals = mkF m 0 #[.val (.int q0), .val (.long q1), .second, .val (.long q2), .second, .val (.long q3), .second, .val (.long q4), .second, .val (.int p5), .unset, .unset, .unset, .unset, .unset, .unset, .unset, .unset, .unset, .unset, .unset, .unset, .unset] [] := by first | (simp [entryFrame, mkF, argsToLocals, Value.category, maxLocals]; done) | rfl
def Q_0 (Z : State) (q0 : Int32) (q1 : Int64) (q2 : Int64) (q3 : Int64) (q4 : Int64) (p5 : Int32) (h0 : Heap) (n0 : Nat) (v : Option Value) (h : Heap) (L : List Loc) : Prop := v = some (.int 1) ∧ Fr n0 L
set_option maxRecDepth 65536 in
set_option maxHeartbeats 40000000 in
theorem rm_0 (l : Launch) (Z : State) (a0 : Array Value) (hw : ∀ d ∈ tables_1, d.before a0 Z = true) (ws : List Jvm.Cond) (q0 : Int32) (q1 : Int64) (q2 : Int64) (q3 : Int64) (q4 : Int64) (p5 : Int32) (h0 : Heap) (n0 : Nat) (Z0 : n0 ≤ h0.size) :
    MetFree l x (head1 (Jvm.Cond.code x code maxLocals ret :: ws) room_1) (fun a U => a = #[(.int q0), (.long q1), (.long q2), (.long q3), (.long q4), (.int p5)] ∧ Z.Warmed39 U.vm ∧ U.heap = h0) (fun _ _ _ _ _ => True) (fun _ U o U' => ∃ v L, o = .returned v ∧ (Q_0 Z q0 q1 q2 q3 q4 p5 h0 n0) v U'.heap L ∧ FrameEnd U o U' L room_1.cells room_1.slots) := by
  refine MetFree.of_bodySF pn_0 hisR ?_
  intro p e s m args below meth c s₁ Bd hml0 hP hK
  obtain ⟨rfl, hZ, hh⟩ := hP
  have hx := Bd.exec
  have hby := Bd.bytes
  have hlk : meth.locks = false := BodyLoose.notSynchronized Bd
  have hml : c.maxLocals = 23 := hml0
  have hown : s.vm.findClass "com/example/millwright/millwright/transport/MessageLimitsAllowPinLaw" = some m.cls := findClass_of_methodNamed Bd.named
  have hnm := (name_of_methodNamed Bd.named Bd.method).1
  have X0 : Stand p l e room_1 s m #[(.int q0), (.long q1), (.long q2), (.long q3), (.long q4), (.int p5)] below meth c s₁ [] 0 0 := Stand.of_body Bd
  have e0 : s₁.heap = h0 := by rw [← hh, Bd.state]; rfl
  have N0 := Fr.nil n0
  refine own_enter (Q := (Q_0 Z q0 q1 q2 q3 q4 p5 h0 n0)) (cs := 16) (ss := 128) (ef_0 m q0 q1 q2 q3 q4 p5) ?_
  have J85 : ∀ (v10 v12 v14 v16 : Int64), Goes p e below s 16 128 (Q_0 Z q0 q1 q2 q3 q4 p5 h0 n0) s₁ (mkF m 85 #[.val (.int q0), .val (.long q1), .second, .val (.long q2), .second, .val (.long q3), .second, .val (.long q4), .second, .val (.int p5), .val (.long v10), .second, .val (.long v12), .second, .val (.long v14), .second, .val (.long v16), .second, .unset, .unset, .unset, .unset, .unset] []) := by
    intro v10 v12 v14 v16  
    obtain ⟨T111, h111, X111, e111, E111, A111, D111, -, st111⟩ := newO X0 hx hZ hown (hw _ (List.mem_of_getElem? (i := 1) rfl)) (hw _ (List.mem_of_getElem? (i := 2) rfl)) (hw _ (List.mem_of_getElem? (i := 3) rfl)) e0 (g := (mkF m 85 #[.val (.int q0), .val (.long q1), .second, .val (.long q2), .second, .val (.long q3), .second, .val (.long q4), .second, .val (.int p5), .val (.long v10), .second, .val (.long v12), .second, .val (.long v14), .second, .val (.long v16), .second, .unset, .unset, .unset, .unset, .unset] [])) rfl (hb hby at_85) (by decide) (by decide)
    obtain ⟨a111, g111⟩ : ∃ z, z = Array.size (h0) := ⟨_, rfl⟩
    rw [← g111] at A111 D111 st111
    refine Goes.pre st111 ?_
    show Goes p e below s 16 128 (Q_0 Z q0 q1 q2 q3 q4 p5 h0 n0) T111 (mkF m 88 #[.val (.int q0), .val (.long q1), .second, .val (.long q2), .second, .val (.long q3), .second, .val (.long q4), .second, .val (.int p5), .val (.long v10), .second, .val (.long v12), .second, .val (.long v14), .second, .val (.long v16), .second, .unset, .unset, .unset, .unset, .unset] [(.ref a111)])
    have F111_chunkSize : Fld Z h111 a111 "com/example/millwright/millwright/transport/MessageLimits" "chunkSize" "I" (.int (0 : Int32)) := D111 (Or.inr (hw _ (List.mem_of_getElem? (i := 11) rfl))) (ty := .int) (by decide)
    have F111_maxMessageSize : Fld Z h111 a111 "com/example/millwright/millwright/transport/MessageLimits" "maxMessageSize" "J" (.long (0 : Int64)) := D111 (Or.inr (hw _ (List.mem_of_getElem? (i := 13) rfl))) (ty := .long) (by decide)
    have F111_maxChunkCount : Fld Z h111 a111 "com/example/millwright/millwright/transport/MessageLimits" "maxChunkCount" "J" (.long (0 : Int64)) := D111 (Or.inr (hw _ (List.mem_of_getElem? (i := 15) rfl))) (ty := .long) (by decide)
    have Z111 : n0 ≤ Array.size h111 := Nat.le_trans Z0 E111.1
    refine own_dup (pc' := 89) X111 hx (hb hby at_88) rfl rfl ?_
    refine own_iloadN (pc' := 90) X111 hx (hb hby at_89) rfl rfl ?_
    refine own_lload (pc' := 92) X111 hx (hb hby at_90) rfl rfl ?_
    refine own_lload (pc' := 94) X111 hx (hb hby at_92) rfl rfl ?_
    obtain ⟨_, _, ⟨T112, L112, k112, n112⟩, -, X112, ⟨Lc112, hQ112, l112, y112, z112⟩, st112⟩ := X111.specialBack hx (y := (⟨"com/example/millwright/millwright/transport/MessageLimits", "<init>", "(IJJ)V"⟩ : MethodName)) rfl hown (mvT hZ (hw _ (List.mem_of_getElem? (i := 4) rfl))) (mvT hZ (hw _ (List.mem_of_getElem? (i := 5) rfl))) (mvT hZ (hw _ (List.mem_of_getElem? (i := 6) rfl))) (by decide) (backOf (W := 1) (rm_1 l Z a0 hw [] a111 q0 v12 v10 h111 n0 Z111 F111_chunkSize F111_maxMessageSize F111_maxChunkCount A111 (Nat.le_trans Z0 (Nat.le_of_eq g111.symm))) hZ (hw _ (List.mem_of_getElem? (i := 6) rfl)) (hw _ (List.mem_of_getElem? (i := 3) rfl)) (by decide) (by decide)) (g := (mkF m 94 #[.val (.int q0), .val (.long q1), .second, .val (.long q2), .second, .val (.long q3), .second, .val (.long q4), .second, .val (.int p5), .val (.long v10), .second, .val (.long v12), .second, .val (.long v14), .second, .val (.long v16), .second, .unset, .unset, .unset, .unset, .unset] [(.long v10), (.long v12), (.int q0), (.ref a111), (.ref a111)])) rfl (by rw [hml]; rfl) (Steps.refl _) (a := a111) (argsL := [(.int q0), (.long v12), (.long v10)]) (rest := [(.ref a111)]) (lenOf pd_1 rfl) rfl (by show 2 * 0 + _ ≤ _; exact Nat.le_of_eq rfl) (hb hby at_94) (fun _ _ => ⟨rfl, e111, (by decide : 1 + 0 ≤ _), (by decide : 3 + 0 ≤ _)⟩)
    dsimp only [Pt.U, Pt.locs, Pt.cells, Pt.slots] at X112 l112 y112 z112 st112 hQ112
    subst l112 y112 z112
    obtain ⟨rfl, M112, K94, E94, F94s, F94c⟩ := hQ112
    have N112 := Fr.app N0 M112
    refine Goes.aft st112 ?_
    show Goes p e below s 16 128 (Q_0 Z q0 q1 q2 q3 q4 p5 h0 n0) T112 (mkF m 97 #[.val (.int q0), .val (.long q1), .second, .val (.long q2), .second, .val (.long q3), .second, .val (.long q4), .second, .val (.int p5), .val (.long v10), .second, .val (.long v12), .second, .val (.long v14), .second, .val (.long v16), .second, .unset, .unset, .unset, .unset, .unset] [(.ref a111)])
    have Z94 : n0 ≤ Array.size T112.heap := Nat.le_trans Z111 K94.1
    refine own_astore (pc' := 99) X112 hx (hb hby at_97) rfl (Ls' := #[.val (.int q0), .val (.long q1), .second, .val (.long q2), .second, .val (.long q3), .second, .val (.long q4), .second, .val (.int p5), .val (.long v10), .second, .val (.long v12), .second, .val (.long v14), .second, .val (.long v16), .second, .val (.ref a111), .unset, .unset, .unset, .unset]) rfl rfl ?_
    refine own_aload (pc' := 101) X112 hx (hb hby at_99) rfl rfl rfl ?_
    refine own_lload (pc' := 103) X112 hx (hb hby at_101) rfl rfl ?_
    refine own_lload (pc' := 105) X112 hx (hb hby at_103) rfl rfl ?_
    obtain ⟨cq114, kq114, q114a, q114b, q114c⟩ := isOf hZ rfl E94
    obtain ⟨_, _, ⟨T113, L113, k113, n113⟩, -, X113, ⟨Lc113, hQ113, l113, y113, z113⟩, st113⟩ := X112.virtualBack hx (y := (⟨"com/example/millwright/millwright/transport/MessageLimits", "allow", "(JJ)Z"⟩ : MethodName)) (z := (⟨"com/example/millwright/millwright/transport/MessageLimits", "allow", "(JJ)Z"⟩ : MethodName)) hown (mvT hZ (hw _ (List.mem_of_getElem? (i := 16) rfl))) (mvT hZ (hw _ (List.mem_of_getElem? (i := 17) rfl))) (notFace_of_selects (args := #[]) (mvT hZ (hw _ (List.mem_of_getElem? (i := 19) rfl)))) (mvT hZ (hw _ (List.mem_of_getElem? (i := 19) rfl))) (mvT hZ (hw _ (List.mem_of_getElem? (i := 18) rfl))) (by decide) (backOf (W := 0) (rm_2 l Z a0 hw [] a111 v10 v12 v14 v16 T112.heap n0 Z94 F94s F94c) hZ (hw _ (List.mem_of_getElem? (i := 20) rfl)) (hw _ (List.mem_of_getElem? (i := 3) rfl)) (by decide) (by decide)) q114a q114c (g := (mkF m 105 #[.val (.int q0), .val (.long q1), .second, .val (.long q2), .second, .val (.long q3), .second, .val (.long q4), .second, .val (.int p5), .val (.long v10), .second, .val (.long v12), .second, .val (.long v14), .second, .val (.long v16), .second, .val (.ref a111), .unset, .unset, .unset, .unset] [(.long v16), (.long v14), (.ref a111)])) rfl (by rw [hml]; rfl) (Steps.refl _) (argsL := [(.long v14), (.long v16)]) (rest := []) (lenOf pd_2 rfl) rfl (by show 2 * 0 + _ ≤ _; exact Nat.le_of_eq rfl) (hb hby at_105) (fun _ _ => ⟨rfl, rfl, (by decide : 1 + 0 ≤ _), (by decide : 3 + 0 ≤ _)⟩)
    dsimp only [Pt.U, Pt.locs, Pt.cells, Pt.slots] at X113 l113 y113 z113 st113 hQ113
    subst l113 y113 z113
    obtain ⟨rfl, M113, e105⟩ := hQ113
    have N113 := Fr.app N112 M113
    refine Goes.aft st113 ?_
    show Goes p e below s 16 128 (Q_0 Z q0 q1 q2 q3 q4 p5 h0 n0) T113 (mkF m 108 #[.val (.int q0), .val (.long q1), .second, .val (.long q2), .second, .val (.long q3), .second, .val (.long q4), .second, .val (.int p5), .val (.long v10), .second, .val (.long v12), .second, .val (.long v14), .second, .val (.long v16), .second, .val (.ref a111), .unset, .unset, .unset, .unset] [(.int (own_allow v10 v12 v14 v16))])
    refine own_istore (pc' := 110) X113 hx (hb hby at_108) (Ls' := #[.val (.int q0), .val (.long q1), .second, .val (.long q2), .second, .val (.long q3), .second, .val (.long q4), .second, .val (.int p5), .val (.long v10), .second, .val (.long v12), .second, .val (.long v14), .second, .val (.long v16), .second, .val (.ref a111), .val (.int (own_allow v10 v12 v14 v16)), .unset, .unset, .unset]) rfl rfl ?_
    refine own_lload (pc' := 112) X113 hx (hb hby at_110) rfl rfl ?_
    refine own_lconst (pc' := 113) X113 hx (hb hby at_112) (v := (0 : Int64)) rfl rfl ?_
    refine own_lcmp (pc' := 114) X113 hx (hb hby at_113) rfl ?_
    by_cases hc114 : v10 = (0 : Int64)
    · refine own_ifY X113 hx (hb hby at_114) (own_Teq hc114).1 (by decide) (pc' := 129) (by decide) ?_
      refine own_iconst (pc' := 130) X113 hx (hb hby at_129) (v := (0 : Int32)) rfl rfl ?_
      refine own_istore (pc' := 132) X113 hx (hb hby at_130) (Ls' := #[.val (.int q0), .val (.long q1), .second, .val (.long q2), .second, .val (.long q3), .second, .val (.long q4), .second, .val (.int p5), .val (.long v10), .second, .val (.long v12), .second, .val (.long v14), .second, .val (.long v16), .second, .val (.ref a111), .val (.int (own_allow v10 v12 v14 v16)), .val (.int (0 : Int32)), .unset, .unset]) rfl rfl ?_
      refine own_lload (pc' := 134) X113 hx (hb hby at_132) rfl rfl ?_
      refine own_lconst (pc' := 135) X113 hx (hb hby at_134) (v := (0 : Int64)) rfl rfl ?_
      refine own_lcmp (pc' := 136) X113 hx (hb hby at_135) rfl ?_
      by_cases hc136 : v12 = (0 : Int64)
      · refine own_ifY X113 hx (hb hby at_136) (own_Teq hc136).1 (by decide) (pc' := 151) (by decide) ?_
        refine own_iconst (pc' := 152) X113 hx (hb hby at_151) (v := (0 : Int32)) rfl rfl ?_
        refine own_istore (pc' := 154) X113 hx (hb hby at_152) (Ls' := #[.val (.int q0), .val (.long q1), .second, .val (.long q2), .second, .val (.long q3), .second, .val (.long q4), .second, .val (.int p5), .val (.long v10), .second, .val (.long v12), .second, .val (.long v14), .second, .val (.long v16), .second, .val (.ref a111), .val (.int (own_allow v10 v12 v14 v16)), .val (.int (0 : Int32)), .val (.int (0 : Int32)), .unset]) rfl rfl ?_
        refine own_iload (pc' := 156) X113 hx (hb hby at_154) rfl rfl ?_
        refine own_ifN (pc' := 159) X113 hx (hb hby at_156) (by decide) rfl ?_
        refine own_iload (pc' := 161) X113 hx (hb hby at_159) rfl rfl ?_
        refine own_ifN (pc' := 164) X113 hx (hb hby at_161) (by decide) rfl ?_
        refine own_iconst (pc' := 165) X113 hx (hb hby at_164) (v := (1 : Int32)) rfl rfl ?_
        refine own_goto X113 hx (hb hby at_165) (by decide) (pc' := 169) (by decide) ?_
        refine own_istore (pc' := 171) X113 hx (hb hby at_169) (Ls' := #[.val (.int q0), .val (.long q1), .second, .val (.long q2), .second, .val (.long q3), .second, .val (.long q4), .second, .val (.int p5), .val (.long v10), .second, .val (.long v12), .second, .val (.long v14), .second, .val (.long v16), .second, .val (.ref a111), .val (.int (own_allow v10 v12 v14 v16)), .val (.int (0 : Int32)), .val (.int (0 : Int32)), .val (.int (1 : Int32))]) rfl rfl ?_
        refine own_iload (pc' := 173) X113 hx (hb hby at_171) rfl rfl ?_
        refine own_iload (pc' := 175) X113 hx (hb hby at_173) rfl rfl ?_
        refine own_icmpN (pc' := 178) X113 hx (hb hby at_175) (teq (by simp [own_allow, hc114, hc136] : (own_allow v10 v12 v14 v16) = (1 : Int32))).2 rfl ?_
        refine own_iconst (pc' := 179) X113 hx (hb hby at_178) (v := (1 : Int32)) rfl rfl ?_
        refine own_goto X113 hx (hb hby at_179) (by decide) (pc' := 183) (by decide) ?_
        exact own_retN X113 hx hlk (t := .boolean) Bd.returns (by simp) (hb hby at_183) (by decide) (by decide) ⟨rfl, N113⟩
      · refine own_ifN (pc' := 139) X113 hx (hb hby at_136) (own_Feq hc136).1 rfl ?_
        refine own_lload (pc' := 141) X113 hx (hb hby at_139) rfl rfl ?_
        refine own_lload (pc' := 143) X113 hx (hb hby at_141) rfl rfl ?_
        refine own_lcmp (pc' := 144) X113 hx (hb hby at_143) rfl ?_
        by_cases hc144 : v12 < v16
        · refine own_ifN (pc' := 147) X113 hx (hb hby at_144) (own_Tgt hc144).2 rfl ?_
          refine own_iconst (pc' := 148) X113 hx (hb hby at_147) (v := (1 : Int32)) rfl rfl ?_
          refine own_goto X113 hx (hb hby at_148) (by decide) (pc' := 152) (by decide) ?_
          refine own_istore (pc' := 154) X113 hx (hb hby at_152) (Ls' := #[.val (.int q0), .val (.long q1), .second, .val (.long q2), .second, .val (.long q3), .second, .val (.long q4), .second, .val (.int p5), .val (.long v10), .second, .val (.long v12), .second, .val (.long v14), .second, .val (.long v16), .second, .val (.ref a111), .val (.int (own_allow v10 v12 v14 v16)), .val (.int (0 : Int32)), .val (.int (1 : Int32)), .unset]) rfl rfl ?_
          refine own_iload (pc' := 156) X113 hx (hb hby at_154) rfl rfl ?_
          refine own_ifN (pc' := 159) X113 hx (hb hby at_156) (by decide) rfl ?_
          refine own_iload (pc' := 161) X113 hx (hb hby at_159) rfl rfl ?_
          refine own_ifY X113 hx (hb hby at_161) (by decide) (by decide) (pc' := 168) (by decide) ?_
          refine own_iconst (pc' := 169) X113 hx (hb hby at_168) (v := (0 : Int32)) rfl rfl ?_
          refine own_istore (pc' := 171) X113 hx (hb hby at_169) (Ls' := #[.val (.int q0), .val (.long q1), .second, .val (.long q2), .second, .val (.long q3), .second, .val (.long q4), .second, .val (.int p5), .val (.long v10), .second, .val (.long v12), .second, .val (.long v14), .second, .val (.long v16), .second, .val (.ref a111), .val (.int (own_allow v10 v12 v14 v16)), .val (.int (0 : Int32)), .val (.int (1 : Int32)), .val (.int (0 : Int32))]) rfl rfl ?_
          refine own_iload (pc' := 173) X113 hx (hb hby at_171) rfl rfl ?_
          refine own_iload (pc' := 175) X113 hx (hb hby at_173) rfl rfl ?_
          refine own_icmpN (pc' := 178) X113 hx (hb hby at_175) (teq (by simp [own_allow, hc114, hc136, hc144] : (own_allow v10 v12 v14 v16) = (0 : Int32))).2 rfl ?_
          refine own_iconst (pc' := 179) X113 hx (hb hby at_178) (v := (1 : Int32)) rfl rfl ?_
          refine own_goto X113 hx (hb hby at_179) (by decide) (pc' := 183) (by decide) ?_
          exact own_retN X113 hx hlk (t := .boolean) Bd.returns (by simp) (hb hby at_183) (by decide) (by decide) ⟨rfl, N113⟩
        · refine own_ifY X113 hx (hb hby at_144) (own_Fgt hc144).2 (by decide) (pc' := 151) (by decide) ?_
          refine own_iconst (pc' := 152) X113 hx (hb hby at_151) (v := (0 : Int32)) rfl rfl ?_
          refine own_istore (pc' := 154) X113 hx (hb hby at_152) (Ls' := #[.val (.int q0), .val (.long q1), .second, .val (.long q2), .second, .val (.long q3), .second, .val (.long q4), .second, .val (.int p5), .val (.long v10), .second, .val (.long v12), .second, .val (.long v14), .second, .val (.long v16), .second, .val (.ref a111), .val (.int (own_allow v10 v12 v14 v16)), .val (.int (0 : Int32)), .val (.int (0 : Int32)), .unset]) rfl rfl ?_
          refine own_iload (pc' := 156) X113 hx (hb hby at_154) rfl rfl ?_
          refine own_ifN (pc' := 159) X113 hx (hb hby at_156) (by decide) rfl ?_
          refine own_iload (pc' := 161) X113 hx (hb hby at_159) rfl rfl ?_
          refine own_ifN (pc' := 164) X113 hx (hb hby at_161) (by decide) rfl ?_
          refine own_iconst (pc' := 165) X113 hx (hb hby at_164) (v := (1 : Int32)) rfl rfl ?_
          refine own_goto X113 hx (hb hby at_165) (by decide) (pc' := 169) (by decide) ?_
          refine own_istore (pc' := 171) X113 hx (hb hby at_169) (Ls' := #[.val (.int q0), .val (.long q1), .second, .val (.long q2), .second, .val (.long q3), .second, .val (.long q4), .second, .val (.int p5), .val (.long v10), .second, .val (.long v12), .second, .val (.long v14), .second, .val (.long v16), .second, .val (.ref a111), .val (.int (own_allow v10 v12 v14 v16)), .val (.int (0 : Int32)), .val (.int (0 : Int32)), .val (.int (1 : Int32))]) rfl rfl ?_
          refine own_iload (pc' := 173) X113 hx (hb hby at_171) rfl rfl ?_
          refine own_iload (pc' := 175) X113 hx (hb hby at_173) rfl rfl ?_
          refine own_icmpN (pc' := 178) X113 hx (hb hby at_175) (teq (by simp [own_allow, hc114, hc136, hc144] : (own_allow v10 v12 v14 v16) = (1 : Int32))).2 rfl ?_
          refine own_iconst (pc' := 179) X113 hx (hb hby at_178) (v := (1 : Int32)) rfl rfl ?_
          refine own_goto X113 hx (hb hby at_179) (by decide) (pc' := 183) (by decide) ?_
          exact own_retN X113 hx hlk (t := .boolean) Bd.returns (by simp) (hb hby at_183) (by decide) (by decide) ⟨rfl, N113⟩
    · refine own_ifN (pc' := 117) X113 hx (hb hby at_114) (own_Feq hc114).1 rfl ?_
      refine own_lload (pc' := 119) X113 hx (hb hby at_117) rfl rfl ?_
      refine own_lload (pc' := 121) X113 hx (hb hby at_119) rfl rfl ?_
      refine own_lcmp (pc' := 122) X113 hx (hb hby at_121) rfl ?_
      by_cases hc122 : v10 < v14
      · refine own_ifN (pc' := 125) X113 hx (hb hby at_122) (own_Tgt hc122).2 rfl ?_
        refine own_iconst (pc' := 126) X113 hx (hb hby at_125) (v := (1 : Int32)) rfl rfl ?_
        refine own_goto X113 hx (hb hby at_126) (by decide) (pc' := 130) (by decide) ?_
        refine own_istore (pc' := 132) X113 hx (hb hby at_130) (Ls' := #[.val (.int q0), .val (.long q1), .second, .val (.long q2), .second, .val (.long q3), .second, .val (.long q4), .second, .val (.int p5), .val (.long v10), .second, .val (.long v12), .second, .val (.long v14), .second, .val (.long v16), .second, .val (.ref a111), .val (.int (own_allow v10 v12 v14 v16)), .val (.int (1 : Int32)), .unset, .unset]) rfl rfl ?_
        refine own_lload (pc' := 134) X113 hx (hb hby at_132) rfl rfl ?_
        refine own_lconst (pc' := 135) X113 hx (hb hby at_134) (v := (0 : Int64)) rfl rfl ?_
        refine own_lcmp (pc' := 136) X113 hx (hb hby at_135) rfl ?_
        by_cases hc136 : v12 = (0 : Int64)
        · refine own_ifY X113 hx (hb hby at_136) (own_Teq hc136).1 (by decide) (pc' := 151) (by decide) ?_
          refine own_iconst (pc' := 152) X113 hx (hb hby at_151) (v := (0 : Int32)) rfl rfl ?_
          refine own_istore (pc' := 154) X113 hx (hb hby at_152) (Ls' := #[.val (.int q0), .val (.long q1), .second, .val (.long q2), .second, .val (.long q3), .second, .val (.long q4), .second, .val (.int p5), .val (.long v10), .second, .val (.long v12), .second, .val (.long v14), .second, .val (.long v16), .second, .val (.ref a111), .val (.int (own_allow v10 v12 v14 v16)), .val (.int (1 : Int32)), .val (.int (0 : Int32)), .unset]) rfl rfl ?_
          refine own_iload (pc' := 156) X113 hx (hb hby at_154) rfl rfl ?_
          refine own_ifY X113 hx (hb hby at_156) (by decide) (by decide) (pc' := 168) (by decide) ?_
          refine own_iconst (pc' := 169) X113 hx (hb hby at_168) (v := (0 : Int32)) rfl rfl ?_
          refine own_istore (pc' := 171) X113 hx (hb hby at_169) (Ls' := #[.val (.int q0), .val (.long q1), .second, .val (.long q2), .second, .val (.long q3), .second, .val (.long q4), .second, .val (.int p5), .val (.long v10), .second, .val (.long v12), .second, .val (.long v14), .second, .val (.long v16), .second, .val (.ref a111), .val (.int (own_allow v10 v12 v14 v16)), .val (.int (1 : Int32)), .val (.int (0 : Int32)), .val (.int (0 : Int32))]) rfl rfl ?_
          refine own_iload (pc' := 173) X113 hx (hb hby at_171) rfl rfl ?_
          refine own_iload (pc' := 175) X113 hx (hb hby at_173) rfl rfl ?_
          refine own_icmpN (pc' := 178) X113 hx (hb hby at_175) (teq (by simp [own_allow, hc114, hc122, hc136] : (own_allow v10 v12 v14 v16) = (0 : Int32))).2 rfl ?_
          refine own_iconst (pc' := 179) X113 hx (hb hby at_178) (v := (1 : Int32)) rfl rfl ?_
          refine own_goto X113 hx (hb hby at_179) (by decide) (pc' := 183) (by decide) ?_
          exact own_retN X113 hx hlk (t := .boolean) Bd.returns (by simp) (hb hby at_183) (by decide) (by decide) ⟨rfl, N113⟩
        · refine own_ifN (pc' := 139) X113 hx (hb hby at_136) (own_Feq hc136).1 rfl ?_
          refine own_lload (pc' := 141) X113 hx (hb hby at_139) rfl rfl ?_
          refine own_lload (pc' := 143) X113 hx (hb hby at_141) rfl rfl ?_
          refine own_lcmp (pc' := 144) X113 hx (hb hby at_143) rfl ?_
          by_cases hc144 : v12 < v16
          · refine own_ifN (pc' := 147) X113 hx (hb hby at_144) (own_Tgt hc144).2 rfl ?_
            refine own_iconst (pc' := 148) X113 hx (hb hby at_147) (v := (1 : Int32)) rfl rfl ?_
            refine own_goto X113 hx (hb hby at_148) (by decide) (pc' := 152) (by decide) ?_
            refine own_istore (pc' := 154) X113 hx (hb hby at_152) (Ls' := #[.val (.int q0), .val (.long q1), .second, .val (.long q2), .second, .val (.long q3), .second, .val (.long q4), .second, .val (.int p5), .val (.long v10), .second, .val (.long v12), .second, .val (.long v14), .second, .val (.long v16), .second, .val (.ref a111), .val (.int (own_allow v10 v12 v14 v16)), .val (.int (1 : Int32)), .val (.int (1 : Int32)), .unset]) rfl rfl ?_
            refine own_iload (pc' := 156) X113 hx (hb hby at_154) rfl rfl ?_
            refine own_ifY X113 hx (hb hby at_156) (by decide) (by decide) (pc' := 168) (by decide) ?_
            refine own_iconst (pc' := 169) X113 hx (hb hby at_168) (v := (0 : Int32)) rfl rfl ?_
            refine own_istore (pc' := 171) X113 hx (hb hby at_169) (Ls' := #[.val (.int q0), .val (.long q1), .second, .val (.long q2), .second, .val (.long q3), .second, .val (.long q4), .second, .val (.int p5), .val (.long v10), .second, .val (.long v12), .second, .val (.long v14), .second, .val (.long v16), .second, .val (.ref a111), .val (.int (own_allow v10 v12 v14 v16)), .val (.int (1 : Int32)), .val (.int (1 : Int32)), .val (.int (0 : Int32))]) rfl rfl ?_
            refine own_iload (pc' := 173) X113 hx (hb hby at_171) rfl rfl ?_
            refine own_iload (pc' := 175) X113 hx (hb hby at_173) rfl rfl ?_
            refine own_icmpN (pc' := 178) X113 hx (hb hby at_175) (teq (by simp [own_allow, hc114, hc122, hc136, hc144] : (own_allow v10 v12 v14 v16) = (0 : Int32))).2 rfl ?_
            refine own_iconst (pc' := 179) X113 hx (hb hby at_178) (v := (1 : Int32)) rfl rfl ?_
            refine own_goto X113 hx (hb hby at_179) (by decide) (pc' := 183) (by decide) ?_
            exact own_retN X113 hx hlk (t := .boolean) Bd.returns (by simp) (hb hby at_183) (by decide) (by decide) ⟨rfl, N113⟩
          · refine own_ifY X113 hx (hb hby at_144) (own_Fgt hc144).2 (by decide) (pc' := 151) (by decide) ?_
            refine own_iconst (pc' := 152) X113 hx (hb hby at_151) (v := (0 : Int32)) rfl rfl ?_
            refine own_istore (pc' := 154) X113 hx (hb hby at_152) (Ls' := #[.val (.int q0), .val (.long q1), .second, .val (.long q2), .second, .val (.long q3), .second, .val (.long q4), .second, .val (.int p5), .val (.long v10), .second, .val (.long v12), .second, .val (.long v14), .second, .val (.long v16), .second, .val (.ref a111), .val (.int (own_allow v10 v12 v14 v16)), .val (.int (1 : Int32)), .val (.int (0 : Int32)), .unset]) rfl rfl ?_
            refine own_iload (pc' := 156) X113 hx (hb hby at_154) rfl rfl ?_
            refine own_ifY X113 hx (hb hby at_156) (by decide) (by decide) (pc' := 168) (by decide) ?_
            refine own_iconst (pc' := 169) X113 hx (hb hby at_168) (v := (0 : Int32)) rfl rfl ?_
            refine own_istore (pc' := 171) X113 hx (hb hby at_169) (Ls' := #[.val (.int q0), .val (.long q1), .second, .val (.long q2), .second, .val (.long q3), .second, .val (.long q4), .second, .val (.int p5), .val (.long v10), .second, .val (.long v12), .second, .val (.long v14), .second, .val (.long v16), .second, .val (.ref a111), .val (.int (own_allow v10 v12 v14 v16)), .val (.int (1 : Int32)), .val (.int (0 : Int32)), .val (.int (0 : Int32))]) rfl rfl ?_
            refine own_iload (pc' := 173) X113 hx (hb hby at_171) rfl rfl ?_
            refine own_iload (pc' := 175) X113 hx (hb hby at_173) rfl rfl ?_
            refine own_icmpN (pc' := 178) X113 hx (hb hby at_175) (teq (by simp [own_allow, hc114, hc122, hc136, hc144] : (own_allow v10 v12 v14 v16) = (0 : Int32))).2 rfl ?_
            refine own_iconst (pc' := 179) X113 hx (hb hby at_178) (v := (1 : Int32)) rfl rfl ?_
            refine own_goto X113 hx (hb hby at_179) (by decide) (pc' := 183) (by decide) ?_
            exact own_retN X113 hx hlk (t := .boolean) Bd.returns (by simp) (hb hby at_183) (by decide) (by decide) ⟨rfl, N113⟩
      · refine own_ifY X113 hx (hb hby at_122) (own_Fgt hc122).2 (by decide) (pc' := 129) (by decide) ?_
        refine own_iconst (pc' := 130) X113 hx (hb hby at_129) (v := (0 : Int32)) rfl rfl ?_
        refine own_istore (pc' := 132) X113 hx (hb hby at_130) (Ls' := #[.val (.int q0), .val (.long q1), .second, .val (.long q2), .second, .val (.long q3), .second, .val (.long q4), .second, .val (.int p5), .val (.long v10), .second, .val (.long v12), .second, .val (.long v14), .second, .val (.long v16), .second, .val (.ref a111), .val (.int (own_allow v10 v12 v14 v16)), .val (.int (0 : Int32)), .unset, .unset]) rfl rfl ?_
        refine own_lload (pc' := 134) X113 hx (hb hby at_132) rfl rfl ?_
        refine own_lconst (pc' := 135) X113 hx (hb hby at_134) (v := (0 : Int64)) rfl rfl ?_
        refine own_lcmp (pc' := 136) X113 hx (hb hby at_135) rfl ?_
        by_cases hc136 : v12 = (0 : Int64)
        · refine own_ifY X113 hx (hb hby at_136) (own_Teq hc136).1 (by decide) (pc' := 151) (by decide) ?_
          refine own_iconst (pc' := 152) X113 hx (hb hby at_151) (v := (0 : Int32)) rfl rfl ?_
          refine own_istore (pc' := 154) X113 hx (hb hby at_152) (Ls' := #[.val (.int q0), .val (.long q1), .second, .val (.long q2), .second, .val (.long q3), .second, .val (.long q4), .second, .val (.int p5), .val (.long v10), .second, .val (.long v12), .second, .val (.long v14), .second, .val (.long v16), .second, .val (.ref a111), .val (.int (own_allow v10 v12 v14 v16)), .val (.int (0 : Int32)), .val (.int (0 : Int32)), .unset]) rfl rfl ?_
          refine own_iload (pc' := 156) X113 hx (hb hby at_154) rfl rfl ?_
          refine own_ifN (pc' := 159) X113 hx (hb hby at_156) (by decide) rfl ?_
          refine own_iload (pc' := 161) X113 hx (hb hby at_159) rfl rfl ?_
          refine own_ifN (pc' := 164) X113 hx (hb hby at_161) (by decide) rfl ?_
          refine own_iconst (pc' := 165) X113 hx (hb hby at_164) (v := (1 : Int32)) rfl rfl ?_
          refine own_goto X113 hx (hb hby at_165) (by decide) (pc' := 169) (by decide) ?_
          refine own_istore (pc' := 171) X113 hx (hb hby at_169) (Ls' := #[.val (.int q0), .val (.long q1), .second, .val (.long q2), .second, .val (.long q3), .second, .val (.long q4), .second, .val (.int p5), .val (.long v10), .second, .val (.long v12), .second, .val (.long v14), .second, .val (.long v16), .second, .val (.ref a111), .val (.int (own_allow v10 v12 v14 v16)), .val (.int (0 : Int32)), .val (.int (0 : Int32)), .val (.int (1 : Int32))]) rfl rfl ?_
          refine own_iload (pc' := 173) X113 hx (hb hby at_171) rfl rfl ?_
          refine own_iload (pc' := 175) X113 hx (hb hby at_173) rfl rfl ?_
          refine own_icmpN (pc' := 178) X113 hx (hb hby at_175) (teq (by simp [own_allow, hc114, hc122, hc136] : (own_allow v10 v12 v14 v16) = (1 : Int32))).2 rfl ?_
          refine own_iconst (pc' := 179) X113 hx (hb hby at_178) (v := (1 : Int32)) rfl rfl ?_
          refine own_goto X113 hx (hb hby at_179) (by decide) (pc' := 183) (by decide) ?_
          exact own_retN X113 hx hlk (t := .boolean) Bd.returns (by simp) (hb hby at_183) (by decide) (by decide) ⟨rfl, N113⟩
        · refine own_ifN (pc' := 139) X113 hx (hb hby at_136) (own_Feq hc136).1 rfl ?_
          refine own_lload (pc' := 141) X113 hx (hb hby at_139) rfl rfl ?_
          refine own_lload (pc' := 143) X113 hx (hb hby at_141) rfl rfl ?_
          refine own_lcmp (pc' := 144) X113 hx (hb hby at_143) rfl ?_
          by_cases hc144 : v12 < v16
          · refine own_ifN (pc' := 147) X113 hx (hb hby at_144) (own_Tgt hc144).2 rfl ?_
            refine own_iconst (pc' := 148) X113 hx (hb hby at_147) (v := (1 : Int32)) rfl rfl ?_
            refine own_goto X113 hx (hb hby at_148) (by decide) (pc' := 152) (by decide) ?_
            refine own_istore (pc' := 154) X113 hx (hb hby at_152) (Ls' := #[.val (.int q0), .val (.long q1), .second, .val (.long q2), .second, .val (.long q3), .second, .val (.long q4), .second, .val (.int p5), .val (.long v10), .second, .val (.long v12), .second, .val (.long v14), .second, .val (.long v16), .second, .val (.ref a111), .val (.int (own_allow v10 v12 v14 v16)), .val (.int (0 : Int32)), .val (.int (1 : Int32)), .unset]) rfl rfl ?_
            refine own_iload (pc' := 156) X113 hx (hb hby at_154) rfl rfl ?_
            refine own_ifN (pc' := 159) X113 hx (hb hby at_156) (by decide) rfl ?_
            refine own_iload (pc' := 161) X113 hx (hb hby at_159) rfl rfl ?_
            refine own_ifY X113 hx (hb hby at_161) (by decide) (by decide) (pc' := 168) (by decide) ?_
            refine own_iconst (pc' := 169) X113 hx (hb hby at_168) (v := (0 : Int32)) rfl rfl ?_
            refine own_istore (pc' := 171) X113 hx (hb hby at_169) (Ls' := #[.val (.int q0), .val (.long q1), .second, .val (.long q2), .second, .val (.long q3), .second, .val (.long q4), .second, .val (.int p5), .val (.long v10), .second, .val (.long v12), .second, .val (.long v14), .second, .val (.long v16), .second, .val (.ref a111), .val (.int (own_allow v10 v12 v14 v16)), .val (.int (0 : Int32)), .val (.int (1 : Int32)), .val (.int (0 : Int32))]) rfl rfl ?_
            refine own_iload (pc' := 173) X113 hx (hb hby at_171) rfl rfl ?_
            refine own_iload (pc' := 175) X113 hx (hb hby at_173) rfl rfl ?_
            refine own_icmpN (pc' := 178) X113 hx (hb hby at_175) (teq (by simp [own_allow, hc114, hc122, hc136, hc144] : (own_allow v10 v12 v14 v16) = (0 : Int32))).2 rfl ?_
            refine own_iconst (pc' := 179) X113 hx (hb hby at_178) (v := (1 : Int32)) rfl rfl ?_
            refine own_goto X113 hx (hb hby at_179) (by decide) (pc' := 183) (by decide) ?_
            exact own_retN X113 hx hlk (t := .boolean) Bd.returns (by simp) (hb hby at_183) (by decide) (by decide) ⟨rfl, N113⟩
          · refine own_ifY X113 hx (hb hby at_144) (own_Fgt hc144).2 (by decide) (pc' := 151) (by decide) ?_
            refine own_iconst (pc' := 152) X113 hx (hb hby at_151) (v := (0 : Int32)) rfl rfl ?_
            refine own_istore (pc' := 154) X113 hx (hb hby at_152) (Ls' := #[.val (.int q0), .val (.long q1), .second, .val (.long q2), .second, .val (.long q3), .second, .val (.long q4), .second, .val (.int p5), .val (.long v10), .second, .val (.long v12), .second, .val (.long v14), .second, .val (.long v16), .second, .val (.ref a111), .val (.int (own_allow v10 v12 v14 v16)), .val (.int (0 : Int32)), .val (.int (0 : Int32)), .unset]) rfl rfl ?_
            refine own_iload (pc' := 156) X113 hx (hb hby at_154) rfl rfl ?_
            refine own_ifN (pc' := 159) X113 hx (hb hby at_156) (by decide) rfl ?_
            refine own_iload (pc' := 161) X113 hx (hb hby at_159) rfl rfl ?_
            refine own_ifN (pc' := 164) X113 hx (hb hby at_161) (by decide) rfl ?_
            refine own_iconst (pc' := 165) X113 hx (hb hby at_164) (v := (1 : Int32)) rfl rfl ?_
            refine own_goto X113 hx (hb hby at_165) (by decide) (pc' := 169) (by decide) ?_
            refine own_istore (pc' := 171) X113 hx (hb hby at_169) (Ls' := #[.val (.int q0), .val (.long q1), .second, .val (.long q2), .second, .val (.long q3), .second, .val (.long q4), .second, .val (.int p5), .val (.long v10), .second, .val (.long v12), .second, .val (.long v14), .second, .val (.long v16), .second, .val (.ref a111), .val (.int (own_allow v10 v12 v14 v16)), .val (.int (0 : Int32)), .val (.int (0 : Int32)), .val (.int (1 : Int32))]) rfl rfl ?_
            refine own_iload (pc' := 173) X113 hx (hb hby at_171) rfl rfl ?_
            refine own_iload (pc' := 175) X113 hx (hb hby at_173) rfl rfl ?_
            refine own_icmpN (pc' := 178) X113 hx (hb hby at_175) (teq (by simp [own_allow, hc114, hc122, hc136, hc144] : (own_allow v10 v12 v14 v16) = (1 : Int32))).2 rfl ?_
            refine own_iconst (pc' := 179) X113 hx (hb hby at_178) (v := (1 : Int32)) rfl rfl ?_
            refine own_goto X113 hx (hb hby at_179) (by decide) (pc' := 183) (by decide) ?_
            exact own_retN X113 hx hlk (t := .boolean) Bd.returns (by simp) (hb hby at_183) (by decide) (by decide) ⟨rfl, N113⟩
  have J60 : ∀ (v10 v12 v14 : Int64), Goes p e below s 16 128 (Q_0 Z q0 q1 q2 q3 q4 p5 h0 n0) s₁ (mkF m 60 #[.val (.int q0), .val (.long q1), .second, .val (.long q2), .second, .val (.long q3), .second, .val (.long q4), .second, .val (.int p5), .val (.long v10), .second, .val (.long v12), .second, .val (.long v14), .second, .unset, .unset, .unset, .unset, .unset, .unset, .unset] []) := by
    intro v10 v12 v14  
    refine own_iload (pc' := 62) X0 hx (hb hby at_60) rfl rfl ?_
    refine own_iconst (pc' := 63) X0 hx (hb hby at_62) (v := (2 : Int32)) rfl rfl ?_
    refine own_iand (pc' := 64) X0 hx (hb hby at_63) rfl ?_
    by_cases hc64 : (p5 &&& (2 : Int32)) = (0 : Int32)
    · refine own_ifY X0 hx (hb hby at_64) ((if0 _ _).trans (teq hc64).1) (by decide) (pc' := 81) (by decide) ?_
      refine own_lload (pc' := 83) X0 hx (hb hby at_81) rfl rfl ?_
      refine own_lstore (pc' := 85) X0 hx (hb hby at_83) (Ls' := #[.val (.int q0), .val (.long q1), .second, .val (.long q2), .second, .val (.long q3), .second, .val (.long q4), .second, .val (.int p5), .val (.long v10), .second, .val (.long v12), .second, .val (.long v14), .second, .val (.long q4), .second, .unset, .unset, .unset, .unset, .unset]) rfl rfl ?_
      exact J85 _ _ _ _
    · refine own_ifN (pc' := 67) X0 hx (hb hby at_64) ((if0 _ _).trans (feq hc64).1) rfl ?_
      refine own_lload (pc' := 69) X0 hx (hb hby at_67) rfl rfl ?_
      refine own_lload (pc' := 71) X0 hx (hb hby at_69) rfl rfl ?_
      refine own_ldc2 (pc' := 74) X0 hx hown (mvT hZ (hw _ (List.mem_of_getElem? (i := 21) rfl))) (hb hby at_71) rfl ?_
      refine own_land (pc' := 75) X0 hx (hb hby at_74) rfl ?_
      refine own_lconst (pc' := 76) X0 hx (hb hby at_75) (v := (1 : Int64)) rfl rfl ?_
      refine own_lsub (pc' := 77) X0 hx (hb hby at_76) rfl ?_
      refine own_ladd (pc' := 78) X0 hx (hb hby at_77) rfl ?_
      refine own_goto X0 hx (hb hby at_78) (by decide) (pc' := 83) (by decide) ?_
      refine own_lstore (pc' := 85) X0 hx (hb hby at_83) (Ls' := #[.val (.int q0), .val (.long q1), .second, .val (.long q2), .second, .val (.long q3), .second, .val (.long q4), .second, .val (.int p5), .val (.long v10), .second, .val (.long v12), .second, .val (.long v14), .second, .val (.long (v12 + ((q4 &&& (3 : Int64)) - (1 : Int64)))), .second, .unset, .unset, .unset, .unset, .unset]) rfl rfl ?_
      exact J85 _ _ _ _
  have J35 : ∀ (v10 v12 : Int64), Goes p e below s 16 128 (Q_0 Z q0 q1 q2 q3 q4 p5 h0 n0) s₁ (mkF m 35 #[.val (.int q0), .val (.long q1), .second, .val (.long q2), .second, .val (.long q3), .second, .val (.long q4), .second, .val (.int p5), .val (.long v10), .second, .val (.long v12), .second, .unset, .unset, .unset, .unset, .unset, .unset, .unset, .unset, .unset] []) := by
    intro v10 v12  
    refine own_iload (pc' := 37) X0 hx (hb hby at_35) rfl rfl ?_
    refine own_iconst (pc' := 38) X0 hx (hb hby at_37) (v := (1 : Int32)) rfl rfl ?_
    refine own_iand (pc' := 39) X0 hx (hb hby at_38) rfl ?_
    by_cases hc39 : (p5 &&& (1 : Int32)) = (0 : Int32)
    · refine own_ifY X0 hx (hb hby at_39) ((if0 _ _).trans (teq hc39).1) (by decide) (pc' := 56) (by decide) ?_
      refine own_lload (pc' := 58) X0 hx (hb hby at_56) rfl rfl ?_
      refine own_lstore (pc' := 60) X0 hx (hb hby at_58) (Ls' := #[.val (.int q0), .val (.long q1), .second, .val (.long q2), .second, .val (.long q3), .second, .val (.long q4), .second, .val (.int p5), .val (.long v10), .second, .val (.long v12), .second, .val (.long q3), .second, .unset, .unset, .unset, .unset, .unset, .unset, .unset]) rfl rfl ?_
      exact J60 _ _ _
    · refine own_ifN (pc' := 42) X0 hx (hb hby at_39) ((if0 _ _).trans (feq hc39).1) rfl ?_
      refine own_lload (pc' := 44) X0 hx (hb hby at_42) rfl rfl ?_
      refine own_lload (pc' := 46) X0 hx (hb hby at_44) rfl rfl ?_
      refine own_ldc2 (pc' := 49) X0 hx hown (mvT hZ (hw _ (List.mem_of_getElem? (i := 21) rfl))) (hb hby at_46) rfl ?_
      refine own_land (pc' := 50) X0 hx (hb hby at_49) rfl ?_
      refine own_lconst (pc' := 51) X0 hx (hb hby at_50) (v := (1 : Int64)) rfl rfl ?_
      refine own_lsub (pc' := 52) X0 hx (hb hby at_51) rfl ?_
      refine own_ladd (pc' := 53) X0 hx (hb hby at_52) rfl ?_
      refine own_goto X0 hx (hb hby at_53) (by decide) (pc' := 58) (by decide) ?_
      refine own_lstore (pc' := 60) X0 hx (hb hby at_58) (Ls' := #[.val (.int q0), .val (.long q1), .second, .val (.long q2), .second, .val (.long q3), .second, .val (.long q4), .second, .val (.int p5), .val (.long v10), .second, .val (.long v12), .second, .val (.long (v10 + ((q3 &&& (3 : Int64)) - (1 : Int64)))), .second, .unset, .unset, .unset, .unset, .unset, .unset, .unset]) rfl rfl ?_
      exact J60 _ _ _
  have J17 : ∀ (v10 : Int64), Goes p e below s 16 128 (Q_0 Z q0 q1 q2 q3 q4 p5 h0 n0) s₁ (mkF m 17 #[.val (.int q0), .val (.long q1), .second, .val (.long q2), .second, .val (.long q3), .second, .val (.long q4), .second, .val (.int p5), .val (.long v10), .second, .unset, .unset, .unset, .unset, .unset, .unset, .unset, .unset, .unset, .unset, .unset] []) := by
    intro v10  
    refine own_lloadN (pc' := 18) X0 hx (hb hby at_17) rfl rfl ?_
    refine own_ldc2 (pc' := 21) X0 hx hown (mvT hZ (hw _ (List.mem_of_getElem? (i := 0) rfl))) (hb hby at_18) rfl ?_
    refine own_land (pc' := 22) X0 hx (hb hby at_21) rfl ?_
    refine own_lstore (pc' := 24) X0 hx (hb hby at_22) (Ls' := #[.val (.int q0), .val (.long q1), .second, .val (.long q2), .second, .val (.long q3), .second, .val (.long q4), .second, .val (.int p5), .val (.long v10), .second, .val (.long (q1 &&& (4294967295 : Int64))), .second, .unset, .unset, .unset, .unset, .unset, .unset, .unset, .unset, .unset]) rfl rfl ?_
    refine own_iload (pc' := 26) X0 hx (hb hby at_24) rfl rfl ?_
    refine own_bipush (pc' := 28) X0 hx (hb hby at_26) (v := (8 : Int32)) rfl rfl ?_
    refine own_iand (pc' := 29) X0 hx (hb hby at_28) rfl ?_
    by_cases hc29 : (p5 &&& (8 : Int32)) = (0 : Int32)
    · refine own_ifY X0 hx (hb hby at_29) ((if0 _ _).trans (teq hc29).1) (by decide) (pc' := 35) (by decide) ?_
      exact J35 _ _
    · refine own_ifN (pc' := 32) X0 hx (hb hby at_29) ((if0 _ _).trans (feq hc29).1) rfl ?_
      refine own_lconst (pc' := 33) X0 hx (hb hby at_32) (v := (0 : Int64)) rfl rfl ?_
      refine own_lstore (pc' := 35) X0 hx (hb hby at_33) (Ls' := #[.val (.int q0), .val (.long q1), .second, .val (.long q2), .second, .val (.long q3), .second, .val (.long q4), .second, .val (.int p5), .val (.long v10), .second, .val (.long (0 : Int64)), .second, .unset, .unset, .unset, .unset, .unset, .unset, .unset, .unset, .unset]) rfl rfl ?_
      exact J35 _ _
  show Goes p e below s 16 128 (Q_0 Z q0 q1 q2 q3 q4 p5 h0 n0) s₁ (mkF m 0 #[.val (.int q0), .val (.long q1), .second, .val (.long q2), .second, .val (.long q3), .second, .val (.long q4), .second, .val (.int p5), .unset, .unset, .unset, .unset, .unset, .unset, .unset, .unset, .unset, .unset, .unset, .unset, .unset] [])
  refine own_lloadN (pc' := 1) X0 hx (hb hby at_0) rfl rfl ?_
  refine own_ldc2 (pc' := 4) X0 hx hown (mvT hZ (hw _ (List.mem_of_getElem? (i := 0) rfl))) (hb hby at_1) rfl ?_
  refine own_land (pc' := 5) X0 hx (hb hby at_4) rfl ?_
  refine own_lstore (pc' := 7) X0 hx (hb hby at_5) (Ls' := #[.val (.int q0), .val (.long q1), .second, .val (.long q2), .second, .val (.long q3), .second, .val (.long q4), .second, .val (.int p5), .val (.long (q2 &&& (4294967295 : Int64))), .second, .unset, .unset, .unset, .unset, .unset, .unset, .unset, .unset, .unset, .unset, .unset]) rfl rfl ?_
  refine own_iload (pc' := 9) X0 hx (hb hby at_7) rfl rfl ?_
  refine own_iconst (pc' := 10) X0 hx (hb hby at_9) (v := (4 : Int32)) rfl rfl ?_
  refine own_iand (pc' := 11) X0 hx (hb hby at_10) rfl ?_
  by_cases hc11 : (p5 &&& (4 : Int32)) = (0 : Int32)
  · refine own_ifY X0 hx (hb hby at_11) ((if0 _ _).trans (teq hc11).1) (by decide) (pc' := 17) (by decide) ?_
    exact J17 _
  · refine own_ifN (pc' := 14) X0 hx (hb hby at_11) ((if0 _ _).trans (feq hc11).1) rfl ?_
    refine own_lconst (pc' := 15) X0 hx (hb hby at_14) (v := (0 : Int64)) rfl rfl ?_
    refine own_lstore (pc' := 17) X0 hx (hb hby at_15) (Ls' := #[.val (.int q0), .val (.long q1), .second, .val (.long q2), .second, .val (.long q3), .second, .val (.long q4), .second, .val (.int p5), .val (.long (0 : Int64)), .second, .unset, .unset, .unset, .unset, .unset, .unset, .unset, .unset, .unset, .unset, .unset]) rfl rfl ?_
    exact J17 _
set_option maxRecDepth 65536 in
set_option maxHeartbeats 40000000 in
theorem comes_1 {Post : Tables → Env → Array Value → State → Outcome → State → Prop} (hpost : ∀ tb e args s v u, (limb_1_1.after args s (.returned v) u = true ∧ limb_1_2.after args s (.returned v) u = true ∧ True) → FrameEnd s (.returned v) u (Jvm.fieldLocs frame_1_writes args s ++ Jvm.arrayLocs frame_1_arrays args s ++ Jvm.staticLocs frame_1_statics s) 16 128 → Post tb e args s (.returned v) u) :
    ArmFor flags0 classFile x code maxLocals ret World_1 tables_1 room_1 Calls_1 rest_1 Pre_1 Post := by
  intro l hfl _ _ p e ha hc hk s m args below hf hA hF happ hP
  obtain ⟨hcalls, hrest, hpre⟩ := hP
  obtain ⟨-, -, -, hnamed, -, -, -, hat⟩ := (Spec.applies_iff hf).mp happ
  obtain ⟨hg, hn⟩ := and_e (Cond.before_iff.mp (show (Jvm.Cond.and given_1 narrow_1).before args s = true from hpre))
  obtain ⟨gc, r0⟩ := and_e hg
  obtain ⟨g0, r1⟩ := and_e r0
  obtain ⟨g1, r2⟩ := and_e r1
  obtain ⟨g2, r3⟩ := and_e r2
  obtain ⟨g3, r4⟩ := and_e r3
  obtain ⟨g4, r5⟩ := and_e r4
  obtain ⟨w0, w1, w2, w3, w4, w5, rfl⟩ : ∃ w0 w1 w2 w3 w4 w5 : Value, args = #[w0, w1, w2, w3, w4, w5] := by
    have hs : args.size = 6 := by simpa [Cond.value, given_1] using gc
    obtain ⟨L⟩ := args
    match L, hs with
    | [w0, w1, w2, w3, w4, w5], _ => exact ⟨w0, w1, w2, w3, w4, w5, rfl⟩
  have hw := fun d (hd : d ∈ tables_1) => atoms_spec (ws := Jvm.Cond.code x code maxLocals ret :: tables_1) hat d (List.mem_cons_of_mem _ hd)
  obtain ⟨i0, ei0⟩ := is_v g0
  obtain rfl : w0 = (.int i0) := Option.some.inj ei0
  obtain ⟨i1, ei1⟩ := isL_v g1
  obtain rfl : w1 = (.long i1) := Option.some.inj ei1
  obtain ⟨i2, ei2⟩ := isL_v g2
  obtain rfl : w2 = (.long i2) := Option.some.inj ei2
  obtain ⟨i3, ei3⟩ := isL_v g3
  obtain rfl : w3 = (.long i3) := Option.some.inj ei3
  obtain ⟨i4, ei4⟩ := isL_v g4
  obtain rfl : w4 = (.long i4) := Option.some.inj ei4
  obtain ⟨i5, ei5⟩ := is_v r5
  obtain rfl : w5 = (.int i5) := Option.some.inj ei5
  obtain ⟨n, o, h1, h2, h3, _, L, rfl, ⟨rfl, N⟩, hq⟩ := rm_0 l s _ hw tables_1 i0 i1 i2 i3 i4 i5 s.heap s.heap.size (Nat.le_refl _)  p e ha hc hk s m _ below hf ((Spec.applies_iff_loose hf).mp happ).1 ⟨rfl, State.Warmed39.refl s, rfl⟩ trivial
  refine ⟨n, _, h1, h2, h3, hpost _ _ _ _ _ _ ⟨Cond.after_iff.mpr rfl, Cond.after_iff.mpr (eq_i res_at (Term.int_eval (1)) rfl), trivial⟩ ⟨hq.1, hq.2.1, (hq.2.2.sift fun y hy => Or.inr (N y hy)).mono (by decide) (by decide)⟩⟩
theorem main_1_1 : Claimed_1_1 := comes_1 fun _ _ _ _ _ _ h hF => ⟨h.1, hF⟩
theorem main_1_2 : Claimed_1_2 := comes_1 fun _ _ _ _ _ _ h hF => ⟨h.2.1, hF⟩
end Jvm.Pilot.@@N@@
namespace Jvm.Pilot.@@N@@
open Jvm Jvm.ClassFile Sem Op Lib Jvm.Free Jvm.Stand Jvm.Pilot.@@N@@.Jvm.D
/-! MADE BY PROGRAM (witnessworld.py) out of the Statement's table words and the real class files: 9 classes; the members and pool entries that the words name. The judged class is class 1, her method 1. -/
namespace start1
open Jvm.ClassFile
def u (s : String) : CpInfo := .utf8 (stringToUtf16 s)
/-- a pool by its gaps: so many unusable entries, then the entry; so many at the end -/
def gap : Nat → List CpInfo → List CpInfo
  | 0, r => r
  | n + 1, r => .unusable :: gap n r
def poolList (es : List (Nat × CpInfo)) (last : Nat) : List CpInfo := es.foldr (fun e r => gap e.1 (e.2 :: r)) (gap last [])
def pool (es : List (Nat × CpInfo)) (last : Nat) : Array CpInfo := ⟨poolList es last⟩
def fileOf (pool : Array CpInfo) (this : Nat) (attrs : Array Attribute := #[]) (ms : Array MethodInfo := #[]) (fl : Nat := 33) (sup : Nat := 0) (ifs : Array Nat := #[]) (fds : Array FieldInfo := #[]) : ClassFile where
  minorVersion := 0
  majorVersion := 65
  constantPool := pool
  accessFlags := fl
  thisClass := this
  superClass := sup
  interfaces := ifs
  fields := fds
  methods := ms
  attributes := attrs
def plain (name : String) (sup : Option ClassId) : Class where
  name := name
  kind := .ordinary
  loader := none
  accessFlags := 33
  super := sup
  interfaces := #[]
  cf := none
  fields := #[]
  methods := #[]
  instanceTypes := #[]
  staticTypes := #[]
  resolved := #[]
  callSites := []
  init := .initialized
  statics := none
  mirror := none

def pool0 : Array CpInfo := pool [(5, u "<init>"), (0, u "()V"), (1, .class_ 10), (1, u "java/lang/Object")] 113

def k0c0 : Code := { maxStack := 0, maxLocals := 1, code := object_method_1_code, exceptionTable := #[], attributes := #[] }
def k0m0 : Method := { name := "<init>", desc := "()V", sig := { parameters := [], returnType := none }, accessFlags := 1, code := some k0c0 }
/-- java/lang/Object -/
def k0 : Class := { plain "java/lang/Object" none with
  accessFlags := 33
  interfaces := #[]
  cf := some (fileOf pool0 8 #[] #[{ accessFlags := 1, nameIndex := 5, descriptorIndex := 6, attributes := #[] }] 33 0 #[] #[])
  fields := #[]
  methods := #[k0m0]
  instanceTypes := #[]
  staticTypes := #[]
  resolved := Array.replicate 124 none
  statics := none }

def pool1 : Array CpInfo := pool [(2, .class_ 4), (1, u "java/lang/Object"), (0, u "<init>"), (0, u "()V"), (0, .long 4294967295), (1, .long 3), (1, .class_ 12), (0, u "com/example/millwright/millwright/transport/MessageLimits"), (0, .methodref 11 14), (0, .nameAndType 5 15), (0, u "(IJJ)V"), (0, .methodref 11 17), (0, .nameAndType 18 19), (0, u "allow"), (0, u "(JJ)Z"), (0, .class_ 21), (0, u "com/example/millwright/millwright/transport/MessageLimitsAllowPinLaw"), (2, u "law"), (0, u "(IJJJJI)Z")] 3

def k1m0 : Method := { name := "<init>", desc := "()V", sig := { parameters := [], returnType := none }, accessFlags := 1, code := none }
def k1c1 : Code := { maxStack := 7, maxLocals := 23, code := code, exceptionTable := #[], attributes := #[] }
def k1m1 : Method := { name := "law", desc := "(IJJJJI)Z", sig := { parameters := [.int, .long, .long, .long, .long, .int], returnType := some .boolean }, accessFlags := 9, code := some k1c1 }
/-- com/example/millwright/millwright/transport/MessageLimitsAllowPinLaw -/
def k1 : Class := { plain "com/example/millwright/millwright/transport/MessageLimitsAllowPinLaw" (some 0) with
  accessFlags := 49
  interfaces := #[]
  cf := some (fileOf pool1 20 #[] #[{ accessFlags := 1, nameIndex := 5, descriptorIndex := 6, attributes := #[] }, { accessFlags := 9, nameIndex := 24, descriptorIndex := 25, attributes := #[] }] 49 2 #[] #[])
  fields := #[]
  methods := #[k1m0, k1m1]
  instanceTypes := #[]
  staticTypes := #[]
  resolved := Array.replicate 29 none
  statics := none }

def pool2 : Array CpInfo := pool [(1, .methodref 2 3), (0, .class_ 4), (0, .nameAndType 5 6), (0, u "java/lang/Object"), (0, u "<init>"), (0, u "()V"), (0, .fieldref 8 9), (0, .class_ 10), (0, .nameAndType 11 12), (0, u "com/example/millwright/millwright/transport/MessageLimits"), (0, u "chunkSize"), (0, u "I"), (0, .fieldref 8 14), (0, .nameAndType 15 16), (0, u "maxMessageSize"), (0, u "J"), (0, .fieldref 8 18), (0, .nameAndType 19 16), (0, u "maxChunkCount"), (22, u "(IJJ)V"), (4, u "allow"), (0, u "(JJ)Z")] 28

def k2c0 : Code := { maxStack := 3, maxLocals := 6, code := prog_214_method_1_code, exceptionTable := #[], attributes := #[] }
def k2m0 : Method := { name := "<init>", desc := "(IJJ)V", sig := { parameters := [.int, .long, .long], returnType := none }, accessFlags := 1, code := some k2c0 }
def k2c1 : Code := { maxStack := 4, maxLocals := 5, code := prog_214_method_5_code, exceptionTable := #[], attributes := #[] }
def k2m1 : Method := { name := "allow", desc := "(JJ)Z", sig := { parameters := [.long, .long], returnType := some .boolean }, accessFlags := 1, code := some k2c1 }
/-- com/example/millwright/millwright/transport/MessageLimits -/
def k2 : Class := { plain "com/example/millwright/millwright/transport/MessageLimits" (some 0) with
  accessFlags := 49
  interfaces := #[]
  cf := some (fileOf pool2 8 #[] #[{ accessFlags := 1, nameIndex := 5, descriptorIndex := 42, attributes := #[] }, { accessFlags := 1, nameIndex := 47, descriptorIndex := 48, attributes := #[] }] 49 2 #[] #[{ accessFlags := 18, nameIndex := 11, descriptorIndex := 12, attributes := #[] }, { accessFlags := 18, nameIndex := 15, descriptorIndex := 16, attributes := #[] }, { accessFlags := 18, nameIndex := 19, descriptorIndex := 16, attributes := #[] }])
  fields := #[{ name := "chunkSize", type := .int, accessFlags := 18, slot := 0, constantValue := 0 }, { name := "maxMessageSize", type := .long, accessFlags := 18, slot := 1, constantValue := 0 }, { name := "maxChunkCount", type := .long, accessFlags := 18, slot := 2, constantValue := 0 }]
  methods := #[k2m0, k2m1]
  instanceTypes := #[.int, .long, .long]
  staticTypes := #[]
  resolved := Array.replicate 77 none
  statics := none }

def pool3 : Array CpInfo := pool [(1, u "java/lang/Cloneable"), (0, .class_ 1), (0, u "java/lang/Object"), (0, .class_ 3)] 3

/-- java/lang/Cloneable -/
def k3 : Class := { plain "java/lang/Cloneable" (some 0) with
  accessFlags := 1537
  interfaces := #[]
  cf := some (fileOf pool3 2 #[] #[] 1537 4 #[] #[])
  fields := #[]
  methods := #[]
  instanceTypes := #[]
  staticTypes := #[]
  resolved := Array.replicate 8 none
  statics := none }

def pool4 : Array CpInfo := pool [(1, u "java/io/Serializable"), (0, .class_ 1), (0, u "java/lang/Object"), (0, .class_ 3)] 3

/-- java/io/Serializable -/
def k4 : Class := { plain "java/io/Serializable" (some 0) with
  accessFlags := 1537
  interfaces := #[]
  cf := some (fileOf pool4 2 #[] #[] 1537 4 #[] #[])
  fields := #[]
  methods := #[]
  instanceTypes := #[]
  staticTypes := #[]
  resolved := Array.replicate 8 none
  statics := none }

/-- the primitive byte -/
def k5 : Class := { plain "byte" none with kind := .primitive 'B', accessFlags := 0x411 }
/-- [B -/
def k6 : Class := { plain "[B" (some 0) with kind := .array 5 .byte, interfaces := #[3, 4], accessFlags := 1041 }

/-- the primitive int -/
def k7 : Class := { plain "int" none with kind := .primitive 'I', accessFlags := 0x411 }
/-- [I -/
def k8 : Class := { plain "[I" (some 0) with kind := .array 7 .int, interfaces := #[3, 4], accessFlags := 1041 }

def heap : Heap := #[]
def classes : Array Class := #[k0, k1, k2, k3, k4, k5, k6, k7, k8]
def interned : List (Array UInt16 × Addr) := []
def slotsUsed : Nat := 0
def theMethod : MethodId := ⟨1, 1⟩
def args0 : Array Value := #[.int 8192, .long 5, .long 6, .long 7, .long 8, .int 3]
def aboutOver (below : List Frame) : State where
  vm := { classes := classes, interned := interned.toArray }
  heap := heap
  slotsUsed := slotsUsed
  threads := #[{ frames := .invoking theMethod args0 :: below }]
def below0 : List Frame := [.native { method := ⟨0, 0⟩, args := #[] }]
def about1 : State := aboutOver below0
def p0 : Program := .bare "" "" ""
def e0 : Env := launch0.env 0 0 0
theorem w_frames : about1.frames = Frame.invoking theMethod args0 :: below0 := rfl
set_option maxRecDepth 65536 in
theorem w_args : argsFit about1.vm theMethod args0 = true := by decide +kernel
set_option maxRecDepth 65536 in
theorem w_heap : heapFits about1 = true := by decide +kernel
set_option maxRecDepth 65536 in
theorem w_runnable : about1.curStatus? = some .runnable := by decide +kernel
set_option maxRecDepth 65536 in
theorem w_alone : about1.alone = true := by decide +kernel
set_option maxRecDepth 65536 in
theorem w_named : about1.methodNamed? x = some theMethod := by decide +kernel
set_option maxRecDepth 65536 in
theorem w_hears : about1.hears theMethod below0 = true := by decide +kernel
set_option maxRecDepth 65536 in
theorem w_ripe : about1.ripe theMethod args0 below0 = true := by decide +kernel
theorem w_running : about1.status = .running := rfl
set_option maxRecDepth 65536 in
theorem w_room : about1.hasRoom e0.platform room_1 = true :=
  launch0.hasRoom_least _ room_1 (by decide +kernel) (by decide +kernel) (by decide +kernel) (by decide +kernel) (by decide +kernel) (by decide +kernel)
theorem allAtoms_all (ts : List Jvm.Cond) (a : Array Jvm.Value) (st : Jvm.State) : (allAtoms ts).before a st = ts.all (fun c => c.before a st) := by
  induction ts with
  | nil => rfl
  | cons c t ih =>
    show (Jvm.Cond.and c (allAtoms t)).before a st = _
    rw [Jvm.Cond.before_and, ih, List.all_cons]
def words1 : List Jvm.Cond := Jvm.Cond.code x code maxLocals ret :: tables_1
/-- a 'code' word, met by the world's own term for the bytes: nothing is compared byte by byte -/
theorem code_word {y : MethodName} {bytes : ByteArray} {mx : Nat} {rt : Option FieldType} {a : Array Value} {s : State} {m : MethodId} {meth : Method} {c : Code} (h1 : s.methodNamed? y = some m) (h2 : s.vm.method? m = some meth) (h3 : meth.code = some c) (h4 : c.code = bytes)
    (h5 : (c.maxLocals == mx && c.exceptionTable.isEmpty && decide (c.maxStack ≤ mostOperands) && decide (meth.sig.returnType = rt) && !meth.locks && decide (parseMethodDescriptor y.desc = some meth.sig)) = true) : (Jvm.Cond.code y bytes mx rt).before a s = true := by
  simp only [Bool.and_eq_true, beq_iff_eq, Bool.not_eq_true', decide_eq_true_eq] at h5
  obtain ⟨⟨⟨⟨⟨g1, g2⟩, g3⟩, g4⟩, g5⟩, g6⟩ := h5
  simp [Cond.before, Cond.holds, Cond.value, h1, h2, h3, h4, g1, g2, g3, g4, g5, g6]
def isCode : Jvm.Cond → Bool
  | .code _ _ _ _ => true
  | _ => false
theorem all_split {L : List Jvm.Cond} {P : Jvm.Cond → Bool} (h1 : L.all (fun c => isCode c || P c) = true) (h2 : ∀ c ∈ L.filter isCode, P c = true) : L.all P = true := by
  refine List.all_eq_true.mpr fun c hc => ?_
  have h := List.all_eq_true.mp h1 c hc
  rcases Bool.eq_false_or_eq_true (isCode c) with hi | hi
  · exact h2 c (List.mem_filter.mpr ⟨hc, hi⟩)
  · simpa [hi] using h
set_option maxRecDepth 65536 in
theorem w_c0 : (Jvm.Cond.code x code maxLocals ret).before args0 about1 = true := code_word (m := ⟨1, 1⟩) (meth := k1m1) (c := k1c1) (by decide +kernel) rfl rfl rfl (by decide +kernel)
set_option maxRecDepth 65536 in
theorem w_c1 : (Jvm.Cond.code ({ cls := "com/example/millwright/millwright/transport/MessageLimits", name := "<init>", desc := "(IJJ)V" } : Jvm.MethodName) prog_214_method_1_code (6 : Nat) (Option.none : Option Jvm.ClassFile.FieldType)).before args0 about1 = true := code_word (m := ⟨2, 0⟩) (meth := k2m0) (c := k2c0) (by decide +kernel) rfl rfl rfl (by decide +kernel)
set_option maxRecDepth 65536 in
theorem w_c2 : (Jvm.Cond.code ({ cls := "java/lang/Object", name := "<init>", desc := "()V" } : Jvm.MethodName) object_method_1_code (1 : Nat) (Option.none : Option Jvm.ClassFile.FieldType)).before args0 about1 = true := code_word (m := ⟨0, 0⟩) (meth := k0m0) (c := k0c0) (by decide +kernel) rfl rfl rfl (by decide +kernel)
set_option maxRecDepth 65536 in
theorem w_c3 : (Jvm.Cond.code ({ cls := "com/example/millwright/millwright/transport/MessageLimits", name := "allow", desc := "(JJ)Z" } : Jvm.MethodName) prog_214_method_5_code (5 : Nat) (Option.some Jvm.ClassFile.FieldType.boolean)).before args0 about1 = true := code_word (m := ⟨2, 1⟩) (meth := k2m1) (c := k2c1) (by decide +kernel) rfl rfl rfl (by decide +kernel)
def codes1 : List Jvm.Cond := [Jvm.Cond.code x code maxLocals ret, Jvm.Cond.code ({ cls := "com/example/millwright/millwright/transport/MessageLimits", name := "<init>", desc := "(IJJ)V" } : Jvm.MethodName) prog_214_method_1_code (6 : Nat) (Option.none : Option Jvm.ClassFile.FieldType), Jvm.Cond.code ({ cls := "java/lang/Object", name := "<init>", desc := "()V" } : Jvm.MethodName) object_method_1_code (1 : Nat) (Option.none : Option Jvm.ClassFile.FieldType), Jvm.Cond.code ({ cls := "com/example/millwright/millwright/transport/MessageLimits", name := "allow", desc := "(JJ)Z" } : Jvm.MethodName) prog_214_method_5_code (5 : Nat) (Option.some Jvm.ClassFile.FieldType.boolean)]
set_option maxRecDepth 65536 in
theorem codes_eq : words1.filter isCode = codes1 := rfl
theorem w_codes : ∀ c ∈ words1.filter isCode, c.before args0 about1 = true := by
  rw [codes_eq]
  intro c hc
  simp only [codes1, List.mem_cons, List.not_mem_nil, or_false] at hc
  rcases hc with rfl | rfl | rfl | rfl
  · exact w_c0
  · exact w_c1
  · exact w_c2
  · exact w_c3
set_option maxRecDepth 65536 in
theorem w_t1 : words1.all (fun c => isCode c || c.before args0 about1) = true := by decide +kernel
theorem w_tables : (allAtoms (Jvm.Cond.code x code maxLocals ret :: tables_1)).before args0 about1 = true := by
  rw [allAtoms_all]
  show words1.all (fun c => c.before args0 about1) = true
  refine all_split ?_ w_codes
  rw [w_t1]
set_option maxRecDepth 65536 in
theorem w_case : (Jvm.Cond.and given_1 narrow_1).before args0 about1 = true := by decide +kernel
theorem w_applies : (headSpec (Jvm.Cond.code x code maxLocals ret :: tables_1) room_1).applies x e0.platform about1 = true :=
  (Spec.applies_iff w_frames).mpr ⟨w_running, w_runnable, w_alone, w_named, w_hears, w_ripe, w_room, w_tables⟩
theorem atStart : AtStart classFile x code maxLocals ret World_1 tables_1 room_1 Calls_1 rest_1 Pre_1 launch0 p0 e0 about1 theMethod args0 below0 :=
  ⟨lists_1, trivial, launch0.admits_env _ _ _, launch0.least_env, fairChoices_fair.cas, fairChoices_fair.clock, w_frames, w_args, w_heap, w_applies, trivial, trivial, w_case⟩
end start1
theorem witness_1 : WitnessClaimed_1 := ⟨start1.p0, start1.e0, start1.about1, start1.theMethod, start1.args0, start1.below0, start1.atStart⟩
end Jvm.Pilot.@@N@@
