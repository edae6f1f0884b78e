import JvmDerived
import JvmDerived.Pilot.@@N@@Statement
import JvmDerived.Pilot.@@N@@Code
set_option linter.unusedVariables false
set_option linter.unusedSimpArgs false
namespace Jvm.Pilot.@@N@@
open Jvm Jvm.ClassFile Sem Op Lib Jvm.Free Jvm.Stand Jvm.LawKit Jvm.RoadKit Bundle Jvm.Pilot.@@N@@.Jvm.D
section OwnGo
variable {p : Program} {l : Launch} {e : Env} {R : Room} {s : State} {m : MethodId} {args : Array Value} {below : List Frame} {meth : Method} {c : Code} {T : State} {locs : List Loc} {cells slots : Nat} {Q : Option Value → Heap → List Loc → Prop} {rc rs : Nat} {Ls : Array Slot} {st : List Value} {pc pc' pt : Nat} {Z : State} {a0 : Array Value} {h : Heap} {En : Outcome → State → Prop}
def Go (p : Program) (e : Env) (below : List Frame) (En : Outcome → State → Prop) (S : State) : Prop := ∃ s₂ o, Steps p.tables e below S s₂ ∧ s₂.status = .running ∧ Ended s₂ below o ∧ En o s₂
def EndN (s : State) (Q : Option Value → Heap → List Loc → Prop) (rc rs : Nat) (o : Outcome) (s₂ : State) : Prop := ∃ v L, o = .returned v ∧ Q v s₂.heap L ∧ FrameEnd s o s₂ L rc rs
def EndW (s : State) (Q : Option Value → Heap → List Loc → Prop) (rc rs : Nat) (o : Outcome) (s₂ : State) : Prop := ∃ v L, o = .returned v ∧ Q v s₂.heap L ∧ ReturnedEndW s o s₂ L rc rs
theorem own_via {S S' : State} (q : ∀ t, Steps p.tables e below S' t → Steps p.tables e below S t) (k : Go p e below En S') : Go p e below En S := by
  obtain ⟨t, o, h1, h2⟩ := k
  exact ⟨t, o, q _ h1, h2⟩
def Dec (b : ByteArray) (pc : Nat) (i : Instr) (n pc' : Nat) : Prop := decode b pc = .ok (i, n) ∧ pc + n = pc'
def DecB (b : ByteArray) (pc : Nat) (i : Instr) (o : Int) (pF pT : Nat) : Prop := decode b pc = .ok (i, 3) ∧ pc + 3 = pF ∧ 0 ≤ (pc : Int) + o ∧ ((pc : Int) + o).toNat = pT
theorem dc {b : ByteArray} {i : Instr} {n : Nat} (q : c.code = b) (k : Dec b pc i n pc') : Dec c.code pc i n pc' := q ▸ k
theorem db {b : ByteArray} {i : Instr} {o : Int} (q : c.code = b) (k : DecB b pc i o pc' pt) : DecB c.code pc i o pc' pt := q ▸ k
theorem go_iadd (X : Stand p l e R s m args below meth c T locs cells slots) (hx : p.tables.exec = Jvm.exec) {x y : Int32} (hd : Dec c.code pc (.iadd) 1 pc') (k : Go p e below En (T.setTop (mkF m pc' Ls (.int (x + y) :: st)))) : Go p e below En (T.setTop (mkF m pc Ls (.int y :: .int x :: st))) := by
  obtain ⟨hd, rfl⟩ := hd
  exact own_via (fun t => XS.iadd X.here hx rfl hd rfl) k
theorem go_isub (X : Stand p l e R s m args below meth c T locs cells slots) (hx : p.tables.exec = Jvm.exec) {x y : Int32} (hd : Dec c.code pc (.isub) 1 pc') (k : Go p e below En (T.setTop (mkF m pc' Ls (.int (x - y) :: st)))) : Go p e below En (T.setTop (mkF m pc Ls (.int y :: .int x :: st))) := by
  obtain ⟨hd, rfl⟩ := hd
  exact own_via (fun t => XS.isub X.here hx rfl hd rfl) k
theorem go_imul (X : Stand p l e R s m args below meth c T locs cells slots) (hx : p.tables.exec = Jvm.exec) {x y : Int32} (hd : Dec c.code pc (.imul) 1 pc') (k : Go p e below En (T.setTop (mkF m pc' Ls (.int (x * y) :: st)))) : Go p e below En (T.setTop (mkF m pc Ls (.int y :: .int x :: st))) := by
  obtain ⟨hd, rfl⟩ := hd
  exact own_via (fun t => XS.imul X.here hx rfl hd rfl) k
theorem go_iand (X : Stand p l e R s m args below meth c T locs cells slots) (hx : p.tables.exec = Jvm.exec) {x y : Int32} (hd : Dec c.code pc (.iand) 1 pc') (k : Go p e below En (T.setTop (mkF m pc' Ls (.int (x &&& y) :: st)))) : Go p e below En (T.setTop (mkF m pc Ls (.int y :: .int x :: st))) := by
  obtain ⟨hd, rfl⟩ := hd
  exact own_via (fun t => XS.iand X.here hx rfl hd rfl) k
theorem go_ior (X : Stand p l e R s m args below meth c T locs cells slots) (hx : p.tables.exec = Jvm.exec) {x y : Int32} (hd : Dec c.code pc (.ior) 1 pc') (k : Go p e below En (T.setTop (mkF m pc' Ls (.int (x ||| y) :: st)))) : Go p e below En (T.setTop (mkF m pc Ls (.int y :: .int x :: st))) := by
  obtain ⟨hd, rfl⟩ := hd
  exact own_via (fun t => XT.ior X.here hx rfl hd rfl) k
theorem go_ixor (X : Stand p l e R s m args below meth c T locs cells slots) (hx : p.tables.exec = Jvm.exec) {x y : Int32} (hd : Dec c.code pc (.ixor) 1 pc') (k : Go p e below En (T.setTop (mkF m pc' Ls (.int (x ^^^ y) :: st)))) : Go p e below En (T.setTop (mkF m pc Ls (.int y :: .int x :: st))) := by
  obtain ⟨hd, rfl⟩ := hd
  exact own_via (fun t => XT.ixor X.here hx rfl hd rfl) k
theorem go_ishl (X : Stand p l e R s m args below meth c T locs cells slots) (hx : p.tables.exec = Jvm.exec) {x y : Int32} (hd : Dec c.code pc (.ishl) 1 pc') (k : Go p e below En (T.setTop (mkF m pc' Ls (.int (x <<< (y &&& 31)) :: st)))) : Go p e below En (T.setTop (mkF m pc Ls (.int y :: .int x :: st))) := by
  obtain ⟨hd, rfl⟩ := hd
  exact own_via (fun t => XT.ishl X.here hx rfl hd rfl) k
theorem go_ishr (X : Stand p l e R s m args below meth c T locs cells slots) (hx : p.tables.exec = Jvm.exec) {x y : Int32} (hd : Dec c.code pc (.ishr) 1 pc') (k : Go p e below En (T.setTop (mkF m pc' Ls (.int (x >>> (y &&& 31)) :: st)))) : Go p e below En (T.setTop (mkF m pc Ls (.int y :: .int x :: st))) := by
  obtain ⟨hd, rfl⟩ := hd
  exact own_via (fun t => XT.ishr X.here hx rfl hd rfl) k
theorem go_iushr (X : Stand p l e R s m args below meth c T locs cells slots) (hx : p.tables.exec = Jvm.exec) {x y : Int32} (hd : Dec c.code pc (.iushr) 1 pc') (k : Go p e below En (T.setTop (mkF m pc' Ls (.int (XT.ushr x y) :: st)))) : Go p e below En (T.setTop (mkF m pc Ls (.int y :: .int x :: st))) := by
  obtain ⟨hd, rfl⟩ := hd
  exact own_via (fun t => XT.iushr X.here hx rfl hd rfl) k
theorem go_idiv (X : Stand p l e R s m args below meth c T locs cells slots) (hx : p.tables.exec = Jvm.exec) {x y : Int32} (hd : Dec c.code pc (.idiv) 1 pc') (hy : y ≠ 0) (k : Go p e below En (T.setTop (mkF m pc' Ls (.int (x / y) :: st)))) : Go p e below En (T.setTop (mkF m pc Ls (.int y :: .int x :: st))) := by
  obtain ⟨hd, rfl⟩ := hd
  exact own_via (fun t => XS.idiv X.here hx rfl hd rfl hy) k
theorem go_irem (X : Stand p l e R s m args below meth c T locs cells slots) (hx : p.tables.exec = Jvm.exec) {x y : Int32} (hd : Dec c.code pc (.irem) 1 pc') (hy : y ≠ 0) (k : Go p e below En (T.setTop (mkF m pc' Ls (.int (x % y) :: st)))) : Go p e below En (T.setTop (mkF m pc Ls (.int y :: .int x :: st))) := by
  obtain ⟨hd, rfl⟩ := hd
  exact own_via (fun t => iremM X hx rfl hd rfl hy) k
theorem go_ineg (X : Stand p l e R s m args below meth c T locs cells slots) (hx : p.tables.exec = Jvm.exec) {x : Int32} (hd : Dec c.code pc (.ineg) 1 pc') (k : Go p e below En (T.setTop (mkF m pc' Ls (.int (-x) :: st)))) : Go p e below En (T.setTop (mkF m pc Ls (.int x :: st))) := by
  obtain ⟨hd, rfl⟩ := hd
  exact own_via (fun t => XS.ineg X.here hx rfl hd rfl) k
theorem go_ladd (X : Stand p l e R s m args below meth c T locs cells slots) (hx : p.tables.exec = Jvm.exec) {x y : Int64} (hd : Dec c.code pc (.ladd) 1 pc') (k : Go p e below En (T.setTop (mkF m pc' Ls (.long (x + y) :: st)))) : Go p e below En (T.setTop (mkF m pc Ls (.long y :: .long x :: st))) := by
  obtain ⟨hd, rfl⟩ := hd
  exact own_via (fun t => XT.ladd X.here hx rfl hd rfl) k
theorem go_lsub (X : Stand p l e R s m args below meth c T locs cells slots) (hx : p.tables.exec = Jvm.exec) {x y : Int64} (hd : Dec c.code pc (.lsub) 1 pc') (k : Go p e below En (T.setTop (mkF m pc' Ls (.long (x - y) :: st)))) : Go p e below En (T.setTop (mkF m pc Ls (.long y :: .long x :: st))) := by
  obtain ⟨hd, rfl⟩ := hd
  exact own_via (fun t => XT.lsub X.here hx rfl hd rfl) k
theorem go_lmul (X : Stand p l e R s m args below meth c T locs cells slots) (hx : p.tables.exec = Jvm.exec) {x y : Int64} (hd : Dec c.code pc (.lmul) 1 pc') (k : Go p e below En (T.setTop (mkF m pc' Ls (.long (x * y) :: st)))) : Go p e below En (T.setTop (mkF m pc Ls (.long y :: .long x :: st))) := by
  obtain ⟨hd, rfl⟩ := hd
  exact own_via (fun t => XT.lmul X.here hx rfl hd rfl) k
theorem go_land (X : Stand p l e R s m args below meth c T locs cells slots) (hx : p.tables.exec = Jvm.exec) {x y : Int64} (hd : Dec c.code pc (.land) 1 pc') (k : Go p e below En (T.setTop (mkF m pc' Ls (.long (x &&& y) :: st)))) : Go p e below En (T.setTop (mkF m pc Ls (.long y :: .long x :: st))) := by
  obtain ⟨hd, rfl⟩ := hd
  exact own_via (fun t => XT.land X.here hx rfl hd rfl) k
theorem go_lor (X : Stand p l e R s m args below meth c T locs cells slots) (hx : p.tables.exec = Jvm.exec) {x y : Int64} (hd : Dec c.code pc (.lor) 1 pc') (k : Go p e below En (T.setTop (mkF m pc' Ls (.long (x ||| y) :: st)))) : Go p e below En (T.setTop (mkF m pc Ls (.long y :: .long x :: st))) := by
  obtain ⟨hd, rfl⟩ := hd
  exact own_via (fun t => XT.lor X.here hx rfl hd rfl) k
theorem go_lxor (X : Stand p l e R s m args below meth c T locs cells slots) (hx : p.tables.exec = Jvm.exec) {x y : Int64} (hd : Dec c.code pc (.lxor) 1 pc') (k : Go p e below En (T.setTop (mkF m pc' Ls (.long (x ^^^ y) :: st)))) : Go p e below En (T.setTop (mkF m pc Ls (.long y :: .long x :: st))) := by
  obtain ⟨hd, rfl⟩ := hd
  exact own_via (fun t => XT.lxor X.here hx rfl hd rfl) k
theorem go_lshl (X : Stand p l e R s m args below meth c T locs cells slots) (hx : p.tables.exec = Jvm.exec) {x : Int64} {y : Int32} (hd : Dec c.code pc (.lshl) 1 pc') (k : Go p e below En (T.setTop (mkF m pc' Ls (.long (x <<< (y.toInt64 &&& 63)) :: st)))) : Go p e below En (T.setTop (mkF m pc Ls (.int y :: .long x :: st))) := by
  obtain ⟨hd, rfl⟩ := hd
  exact own_via (fun t => XT.lshl X.here hx rfl hd rfl) k
theorem go_lshr (X : Stand p l e R s m args below meth c T locs cells slots) (hx : p.tables.exec = Jvm.exec) {x : Int64} {y : Int32} (hd : Dec c.code pc (.lshr) 1 pc') (k : Go p e below En (T.setTop (mkF m pc' Ls (.long (x >>> (y.toInt64 &&& 63)) :: st)))) : Go p e below En (T.setTop (mkF m pc Ls (.int y :: .long x :: st))) := by
  obtain ⟨hd, rfl⟩ := hd
  exact own_via (fun t => XT.lshr X.here hx rfl hd rfl) k
theorem go_lushr (X : Stand p l e R s m args below meth c T locs cells slots) (hx : p.tables.exec = Jvm.exec) {x : Int64} {y : Int32} (hd : Dec c.code pc (.lushr) 1 pc') (k : Go p e below En (T.setTop (mkF m pc' Ls (.long (XT.ushrL x y) :: st)))) : Go p e below En (T.setTop (mkF m pc Ls (.int y :: .long x :: st))) := by
  obtain ⟨hd, rfl⟩ := hd
  exact own_via (fun t => XT.lushr X.here hx rfl hd rfl) k
theorem go_ldiv (X : Stand p l e R s m args below meth c T locs cells slots) (hx : p.tables.exec = Jvm.exec) {x y : Int64} (hd : Dec c.code pc (.ldiv) 1 pc') (hy : y ≠ 0) (k : Go p e below En (T.setTop (mkF m pc' Ls (.long (x / y) :: st)))) : Go p e below En (T.setTop (mkF m pc Ls (.long y :: .long x :: st))) := by
  obtain ⟨hd, rfl⟩ := hd
  exact own_via (fun t => XT.ldiv X.here hx rfl hd rfl hy) k
theorem go_lrem (X : Stand p l e R s m args below meth c T locs cells slots) (hx : p.tables.exec = Jvm.exec) {x y : Int64} (hd : Dec c.code pc (.lrem) 1 pc') (hy : y ≠ 0) (k : Go p e below En (T.setTop (mkF m pc' Ls (.long (x - (x / y) * y) :: st)))) : Go p e below En (T.setTop (mkF m pc Ls (.long y :: .long x :: st))) := by
  obtain ⟨hd, rfl⟩ := hd
  exact own_via (fun t => XT.lrem X.here hx rfl hd rfl hy) k
theorem go_lneg (X : Stand p l e R s m args below meth c T locs cells slots) (hx : p.tables.exec = Jvm.exec) {x : Int64} (hd : Dec c.code pc (.lneg) 1 pc') (k : Go p e below En (T.setTop (mkF m pc' Ls (.long (-x) :: st)))) : Go p e below En (T.setTop (mkF m pc Ls (.long x :: st))) := by
  obtain ⟨hd, rfl⟩ := hd
  exact own_via (fun t => XT.lneg X.here hx rfl hd rfl) k
theorem go_lcmp (X : Stand p l e R s m args below meth c T locs cells slots) (hx : p.tables.exec = Jvm.exec) {x y : Int64} (hd : Dec c.code pc (.lcmp) 1 pc') (k : Go p e below En (T.setTop (mkF m pc' Ls (.int (XT.cmpL x y) :: st)))) : Go p e below En (T.setTop (mkF m pc Ls (.long y :: .long x :: st))) := by
  obtain ⟨hd, rfl⟩ := hd
  exact own_via (fun t => XT.lcmp X.here hx rfl hd rfl) k
theorem go_i2l (X : Stand p l e R s m args below meth c T locs cells slots) (hx : p.tables.exec = Jvm.exec) {x : Int32} (hd : Dec c.code pc (.i2l) 1 pc') (k : Go p e below En (T.setTop (mkF m pc' Ls (.long x.toInt64 :: st)))) : Go p e below En (T.setTop (mkF m pc Ls (.int x :: st))) := by
  obtain ⟨hd, rfl⟩ := hd
  exact own_via (fun t => XT.i2l X.here hx rfl hd rfl) k
theorem go_l2i (X : Stand p l e R s m args below meth c T locs cells slots) (hx : p.tables.exec = Jvm.exec) {x : Int64} (hd : Dec c.code pc (.l2i) 1 pc') (k : Go p e below En (T.setTop (mkF m pc' Ls (.int x.toInt32 :: st)))) : Go p e below En (T.setTop (mkF m pc Ls (.long x :: st))) := by
  obtain ⟨hd, rfl⟩ := hd
  exact own_via (fun t => XT.l2i X.here hx rfl hd rfl) k
theorem go_i2b (X : Stand p l e R s m args below meth c T locs cells slots) (hx : p.tables.exec = Jvm.exec) {x : Int32} (hd : Dec c.code pc (.i2b) 1 pc') (k : Go p e below En (T.setTop (mkF m pc' Ls (.int x.toInt8.toInt32 :: st)))) : Go p e below En (T.setTop (mkF m pc Ls (.int x :: st))) := by
  obtain ⟨hd, rfl⟩ := hd
  exact own_via (fun t => XT.i2b X.here hx rfl hd rfl) k
theorem go_i2c (X : Stand p l e R s m args below meth c T locs cells slots) (hx : p.tables.exec = Jvm.exec) {x : Int32} (hd : Dec c.code pc (.i2c) 1 pc') (k : Go p e below En (T.setTop (mkF m pc' Ls (.int x.toUInt32.toUInt16.toUInt32.toInt32 :: st)))) : Go p e below En (T.setTop (mkF m pc Ls (.int x :: st))) := by
  obtain ⟨hd, rfl⟩ := hd
  exact own_via (fun t => XT.i2c X.here hx rfl hd rfl) k
theorem go_i2s (X : Stand p l e R s m args below meth c T locs cells slots) (hx : p.tables.exec = Jvm.exec) {x : Int32} (hd : Dec c.code pc (.i2s) 1 pc') (k : Go p e below En (T.setTop (mkF m pc' Ls (.int x.toInt16.toInt32 :: st)))) : Go p e below En (T.setTop (mkF m pc Ls (.int x :: st))) := by
  obtain ⟨hd, rfl⟩ := hd
  exact own_via (fun t => XT.i2s X.here hx rfl hd rfl) k
theorem go_iloadn (X : Stand p l e R s m args below meth c T locs cells slots) (hx : p.tables.exec = Jvm.exec) {k : Fin 4} {v : Int32} (hd : Dec c.code pc (.iload_n k) 1 pc') (hl : Ls[k.val]? = some (.val (.int v))) (k : Go p e below En (T.setTop (mkF m pc' Ls (.int v :: st)))) : Go p e below En (T.setTop (mkF m pc Ls st)) := by
  obtain ⟨hd, rfl⟩ := hd
  exact own_via (fun t => XS.iloadN X.here hx rfl hd hl) k
theorem go_iload (X : Stand p l e R s m args below meth c T locs cells slots) (hx : p.tables.exec = Jvm.exec) {k : Nat} {v : Int32} (hd : Dec c.code pc (.iload k) 2 pc') (hl : Ls[k]? = some (.val (.int v))) (k : Go p e below En (T.setTop (mkF m pc' Ls (.int v :: st)))) : Go p e below En (T.setTop (mkF m pc Ls st)) := by
  obtain ⟨hd, rfl⟩ := hd
  exact own_via (fun t => XS.iload X.here hx rfl hd hl) k
theorem go_lloadn (X : Stand p l e R s m args below meth c T locs cells slots) (hx : p.tables.exec = Jvm.exec) {k : Fin 4} {v : Int64} (hd : Dec c.code pc (.lload_n k) 1 pc') (hl : Ls[k.val]? = some (.val (.long v))) (k : Go p e below En (T.setTop (mkF m pc' Ls (.long v :: st)))) : Go p e below En (T.setTop (mkF m pc Ls st)) := by
  obtain ⟨hd, rfl⟩ := hd
  exact own_via (fun t => XT.lloadN X.here hx rfl hd hl) k
theorem go_lload (X : Stand p l e R s m args below meth c T locs cells slots) (hx : p.tables.exec = Jvm.exec) {k : Nat} {v : Int64} (hd : Dec c.code pc (.lload k) 2 pc') (hl : Ls[k]? = some (.val (.long v))) (k : Go p e below En (T.setTop (mkF m pc' Ls (.long v :: st)))) : Go p e below En (T.setTop (mkF m pc Ls st)) := by
  obtain ⟨hd, rfl⟩ := hd
  exact own_via (fun t => XT.lload X.here hx rfl hd hl) k
theorem go_aloadn (X : Stand p l e R s m args below meth c T locs cells slots) (hx : p.tables.exec = Jvm.exec) {k : Fin 4} {v : Value} (hd : Dec c.code pc (.aload_n k) 1 pc') (hl : Ls[k.val]? = some (.val v)) (hv : v.isRef = true) (k : Go p e below En (T.setTop (mkF m pc' Ls (v :: st)))) : Go p e below En (T.setTop (mkF m pc Ls st)) := by
  obtain ⟨hd, rfl⟩ := hd
  exact own_via (fun t => XS.aloadN X.here hx rfl hd hl hv) k
theorem go_aload (X : Stand p l e R s m args below meth c T locs cells slots) (hx : p.tables.exec = Jvm.exec) {k : Nat} {v : Value} (hd : Dec c.code pc (.aload k) 2 pc') (hl : Ls[k]? = some (.val v)) (hv : v.isRef = true) (k : Go p e below En (T.setTop (mkF m pc' Ls (v :: st)))) : Go p e below En (T.setTop (mkF m pc Ls st)) := by
  obtain ⟨hd, rfl⟩ := hd
  exact own_via (fun t => XS.aload X.here hx rfl hd hl hv) k
theorem go_istoren (X : Stand p l e R s m args below meth c T locs cells slots) (hx : p.tables.exec = Jvm.exec) {k : Fin 4} {x : Int32} (Ls' : Array Slot) (hd : Dec c.code pc (.istore_n k) 1 pc') (hl : storeLocals Ls k.val (.int x) = some Ls') (k : Go p e below En (T.setTop (mkF m pc' Ls' st))) : Go p e below En (T.setTop (mkF m pc Ls (.int x :: st))) := by
  obtain ⟨hd, rfl⟩ := hd
  exact own_via (fun t => XS.istoreN X.here hx rfl hd rfl hl) k
theorem go_istore (X : Stand p l e R s m args below meth c T locs cells slots) (hx : p.tables.exec = Jvm.exec) {k : Nat} {x : Int32} (Ls' : Array Slot) (hd : Dec c.code pc (.istore k) 2 pc') (hl : storeLocals Ls k (.int x) = some Ls') (k : Go p e below En (T.setTop (mkF m pc' Ls' st))) : Go p e below En (T.setTop (mkF m pc Ls (.int x :: st))) := by
  obtain ⟨hd, rfl⟩ := hd
  exact own_via (fun t => XS.istore X.here hx rfl hd rfl hl) k
theorem go_lstoren (X : Stand p l e R s m args below meth c T locs cells slots) (hx : p.tables.exec = Jvm.exec) {k : Fin 4} {x : Int64} (Ls' : Array Slot) (hd : Dec c.code pc (.lstore_n k) 1 pc') (hl : storeLocals Ls k.val (.long x) = some Ls') (k : Go p e below En (T.setTop (mkF m pc' Ls' st))) : Go p e below En (T.setTop (mkF m pc Ls (.long x :: st))) := by
  obtain ⟨hd, rfl⟩ := hd
  exact own_via (fun t => XT.lstoreN X.here hx rfl hd rfl hl) k
theorem go_lstore (X : Stand p l e R s m args below meth c T locs cells slots) (hx : p.tables.exec = Jvm.exec) {k : Nat} {x : Int64} (Ls' : Array Slot) (hd : Dec c.code pc (.lstore k) 2 pc') (hl : storeLocals Ls k (.long x) = some Ls') (k : Go p e below En (T.setTop (mkF m pc' Ls' st))) : Go p e below En (T.setTop (mkF m pc Ls (.long x :: st))) := by
  obtain ⟨hd, rfl⟩ := hd
  exact own_via (fun t => XT.lstore X.here hx rfl hd rfl hl) k
theorem go_astoren (X : Stand p l e R s m args below meth c T locs cells slots) (hx : p.tables.exec = Jvm.exec) {k : Fin 4} {x : Value} (Ls' : Array Slot) (hd : Dec c.code pc (.astore_n k) 1 pc') (hv : x.isRef = true) (hl : storeLocals Ls k.val (x) = some Ls') (k : Go p e below En (T.setTop (mkF m pc' Ls' st))) : Go p e below En (T.setTop (mkF m pc Ls (x :: st))) := by
  obtain ⟨hd, rfl⟩ := hd
  exact own_via (fun t => XS.astoreN X.here hx rfl hd rfl hv hl) k
theorem go_astore (X : Stand p l e R s m args below meth c T locs cells slots) (hx : p.tables.exec = Jvm.exec) {k : Nat} {x : Value} (Ls' : Array Slot) (hd : Dec c.code pc (.astore k) 2 pc') (hv : x.isRef = true) (hl : storeLocals Ls k (x) = some Ls') (k : Go p e below En (T.setTop (mkF m pc' Ls' st))) : Go p e below En (T.setTop (mkF m pc Ls (x :: st))) := by
  obtain ⟨hd, rfl⟩ := hd
  exact own_via (fun t => XS.astore X.here hx rfl hd rfl hv hl) k
theorem go_iconst (X : Stand p l e R s m args below meth c T locs cells slots) (hx : p.tables.exec = Jvm.exec) {i : Int} (v : Int32) (hd : Dec c.code pc (.iconst i) 1 pc') (hv : Int32.ofInt i = v) (k : Go p e below En (T.setTop (mkF m pc' Ls (.int v :: st)))) : Go p e below En (T.setTop (mkF m pc Ls st)) := by
  obtain ⟨hd, rfl⟩ := hd
  exact own_via (fun t => (fun q => XS.iconst X.here hx rfl hd (by rw [hv]; exact q))) k
theorem go_bipush (X : Stand p l e R s m args below meth c T locs cells slots) (hx : p.tables.exec = Jvm.exec) {i : Int} (v : Int32) (hd : Dec c.code pc (.bipush i) 2 pc') (hv : (Int8.ofInt i).toInt32 = v) (k : Go p e below En (T.setTop (mkF m pc' Ls (.int v :: st)))) : Go p e below En (T.setTop (mkF m pc Ls st)) := by
  obtain ⟨hd, rfl⟩ := hd
  exact own_via (fun t => (fun q => XS.bipush X.here hx rfl hd (by rw [hv]; exact q))) k
theorem go_sipush (X : Stand p l e R s m args below meth c T locs cells slots) (hx : p.tables.exec = Jvm.exec) {i : Int} (v : Int32) (hd : Dec c.code pc (.sipush i) 3 pc') (hv : (Int16.ofInt i).toInt32 = v) (k : Go p e below En (T.setTop (mkF m pc' Ls (.int v :: st)))) : Go p e below En (T.setTop (mkF m pc Ls st)) := by
  obtain ⟨hd, rfl⟩ := hd
  exact own_via (fun t => (fun q => XS.sipush X.here hx rfl hd (by rw [hv]; exact q))) k
theorem go_lconst (X : Stand p l e R s m args below meth c T locs cells slots) (hx : p.tables.exec = Jvm.exec) {k : Fin 2} (v : Int64) (hd : Dec c.code pc (.lconst k) 1 pc') (hv : Int64.ofNat k = v) (k : Go p e below En (T.setTop (mkF m pc' Ls (.long v :: st)))) : Go p e below En (T.setTop (mkF m pc Ls st)) := by
  obtain ⟨hd, rfl⟩ := hd
  exact own_via (fun t => (fun q => XT.lconst X.here hx rfl hd (by rw [hv]; exact q))) k
theorem go_aconstnull (X : Stand p l e R s m args below meth c T locs cells slots) (hx : p.tables.exec = Jvm.exec)  (hd : Dec c.code pc (.aconst_null) 1 pc') (k : Go p e below En (T.setTop (mkF m pc' Ls (.null :: st)))) : Go p e below En (T.setTop (mkF m pc Ls st)) := by
  obtain ⟨hd, rfl⟩ := hd
  exact own_via (fun t => XS.aconstNull X.here hx rfl hd) k
theorem go_ldc (X : Stand p l e R s m args below meth c T locs cells slots) (hx : p.tables.exec = Jvm.exec) (hZ : Z.Warmed39 s.vm) {own : String} {index : Nat} {v : Int32} (hown : s.vm.findClass own = some m.cls) (w : (Jvm.Cond.constant own index v).before a0 Z = true) (hd : Dec c.code pc (.ldc index) 2 pc') (k : Go p e below En (T.setTop (mkF m pc' Ls (.int v :: st)))) : Go p e below En (T.setTop (mkF m pc Ls st)) := by
  obtain ⟨hd, rfl⟩ := hd
  exact own_via (fun t => X.ldcInt hx hown (mv hZ w) (g := mkF m pc Ls st) rfl hd t) k
theorem go_ldc2 (X : Stand p l e R s m args below meth c T locs cells slots) (hx : p.tables.exec = Jvm.exec) (hZ : Z.Warmed39 s.vm) {own : String} {index : Nat} {v : Int64} (hown : s.vm.findClass own = some m.cls) (w : (Jvm.Cond.constantLong own index v).before a0 Z = true) (hd : Dec c.code pc (.ldc2_w index) 3 pc') (k : Go p e below En (T.setTop (mkF m pc' Ls (.long v :: st)))) : Go p e below En (T.setTop (mkF m pc Ls st)) := by
  obtain ⟨hd, rfl⟩ := hd
  exact own_via (fun t => X.ldc2Long hx hown (mv hZ w) (g := mkF m pc Ls st) rfl hd t) k
theorem go_dup (X : Stand p l e R s m args below meth c T locs cells slots) (hx : p.tables.exec = Jvm.exec) {v : Value} (hd : Dec c.code pc (.dup) 1 pc') (hc : v.category = 1) (k : Go p e below En (T.setTop (mkF m pc' Ls (v :: v :: st)))) : Go p e below En (T.setTop (mkF m pc Ls (v :: st))) := by
  obtain ⟨hd, rfl⟩ := hd
  exact own_via (fun t => XS.dup X.here hx rfl hd rfl hc) k
theorem go_pop (X : Stand p l e R s m args below meth c T locs cells slots) (hx : p.tables.exec = Jvm.exec) {v : Value} (hd : Dec c.code pc (.pop) 1 pc') (hc : v.category = 1) (k : Go p e below En (T.setTop (mkF m pc' Ls st))) : Go p e below En (T.setTop (mkF m pc Ls (v :: st))) := by
  obtain ⟨hd, rfl⟩ := hd
  exact own_via (fun t => XT.pop X.here hx rfl hd rfl hc) k
theorem go_dupx1 (X : Stand p l e R s m args below meth c T locs cells slots) (hx : p.tables.exec = Jvm.exec) {v v' : Value} (hd : Dec c.code pc (.dup_x1) 1 pc') (hc : v.category = 1) (hc' : v'.category = 1) (k : Go p e below En (T.setTop (mkF m pc' Ls (v :: v' :: v :: st)))) : Go p e below En (T.setTop (mkF m pc Ls (v :: v' :: st))) := by
  obtain ⟨hd, rfl⟩ := hd
  exact own_via (fun t => XT.dupX1 X.here hx rfl hd rfl hc hc') k
theorem go_dup2L (X : Stand p l e R s m args below meth c T locs cells slots) (hx : p.tables.exec = Jvm.exec) {x : Int64} (hd : Dec c.code pc (.dup2) 1 pc') (k : Go p e below En (T.setTop (mkF m pc' Ls (.long x :: .long x :: st)))) : Go p e below En (T.setTop (mkF m pc Ls (.long x :: st))) := by
  obtain ⟨hd, rfl⟩ := hd
  exact own_via (fun t => XT.dup2L X.here hx rfl hd rfl) k
theorem go_dup2 (X : Stand p l e R s m args below meth c T locs cells slots) (hx : p.tables.exec = Jvm.exec) {v v' : Value} (hd : Dec c.code pc (.dup2) 1 pc') (hc : v.category = 1) (hc' : v'.category = 1) (k : Go p e below En (T.setTop (mkF m pc' Ls (v :: v' :: v :: v' :: st)))) : Go p e below En (T.setTop (mkF m pc Ls (v :: v' :: st))) := by
  obtain ⟨hd, rfl⟩ := hd
  exact own_via (fun t => XT.dup2 X.here hx rfl hd rfl hc hc') k
theorem go_iinc (X : Stand p l e R s m args below meth c T locs cells slots) (hx : p.tables.exec = Jvm.exec) {k : Nat} {cst : Int} {x : Int32} (Ls' : Array Slot) (hd : Dec c.code pc (.iinc k cst) 3 pc') (hl : Ls[k]? = some (.val (.int x))) (hl' : storeLocals Ls k (.int (x + Int32.ofInt cst)) = some Ls') (k : Go p e below En (T.setTop (mkF m pc' Ls' st))) : Go p e below En (T.setTop (mkF m pc Ls st)) := by
  obtain ⟨hd, rfl⟩ := hd
  exact own_via (fun t => XS.iinc X.here hx rfl hd hl hl') k
theorem go_goto (X : Stand p l e R s m args below meth c T locs cells slots) (hx : p.tables.exec = Jvm.exec) {o : Int} (hd : DecB c.code pc (.goto o) o pc' pt) (k : Go p e below En (T.setTop (mkF m pt Ls st))) : Go p e below En (T.setTop (mkF m pc Ls st)) := own_via (fun t => XS.goto X.here hx rfl rfl hd.1 hd.2.2.1 hd.2.2.2) k
theorem go_icmp (X : Stand p l e R s m args below meth c T locs cells slots) (hx : p.tables.exec = Jvm.exec) {cd : ClassFile.Cond} {x y : Int32} {o : Int} (hd : DecB c.code pc (.if_icmp cd o) o pc' pt) (kT : if_icmp.holds cd x y = true → Go p e below En (T.setTop (mkF m pt Ls st))) (kF : if_icmp.holds cd x y = false → Go p e below En (T.setTop (mkF m pc' Ls st))) : Go p e below En (T.setTop (mkF m pc Ls (.int y :: .int x :: st))) := by
  obtain ⟨h1, rfl, h3, h4⟩ := hd
  cases q : if_icmp.holds cd x y
  · exact own_via (fun t => XS.icmpNo X.here hx rfl h1 rfl q) (kF q)
  · exact own_via (fun t => XS.icmpYes X.here hx rfl rfl h1 rfl q h3 h4) (kT q)
theorem go_ifc (X : Stand p l e R s m args below meth c T locs cells slots) (hx : p.tables.exec = Jvm.exec) {cd : ClassFile.Cond} {x : Int32} {o : Int} (hd : DecB c.code pc (.ifCond cd o) o pc' pt) (kT : if_icmp.holds cd x 0 = true → Go p e below En (T.setTop (mkF m pt Ls st))) (kF : if_icmp.holds cd x 0 = false → Go p e below En (T.setTop (mkF m pc' Ls st))) : Go p e below En (T.setTop (mkF m pc Ls (.int x :: st))) := by
  obtain ⟨h1, rfl, h3, h4⟩ := hd
  cases q : if_icmp.holds cd x 0
  · exact own_via (fun t => XS.ifNo X.here hx rfl h1 rfl ((if0 cd x).trans q)) (kF q)
  · exact own_via (fun t => XS.ifYes X.here hx rfl rfl h1 rfl ((if0 cd x).trans q) h3 h4) (kT q)
theorem go_icmp_eq (X : Stand p l e R s m args below meth c T locs cells slots) (hx : p.tables.exec = Jvm.exec) {x y : Int32} {o : Int} (hd : DecB c.code pc (.if_icmp .eq o) o pc' pt) (kT : x = y → Go p e below En (T.setTop (mkF m pt Ls st))) (kF : ¬ x = y → Go p e below En (T.setTop (mkF m pc' Ls st))) : Go p e below En (T.setTop (mkF m pc Ls (.int y :: .int x :: st))) := by
  by_cases q : x = y
  · exact go_icmp X hx hd (fun _ => kT q) (fun r => absurd r (by rw [(teq q).1]; decide))
  · exact go_icmp X hx hd (fun r => absurd r (by rw [(feq q).1]; decide)) (fun _ => kF q)
theorem go_ifc_eq (X : Stand p l e R s m args below meth c T locs cells slots) (hx : p.tables.exec = Jvm.exec) {x : Int32} {o : Int} (hd : DecB c.code pc (.ifCond .eq o) o pc' pt) (kT : x = 0 → Go p e below En (T.setTop (mkF m pt Ls st))) (kF : ¬ x = 0 → Go p e below En (T.setTop (mkF m pc' Ls st))) : Go p e below En (T.setTop (mkF m pc Ls (.int x :: st))) := by
  by_cases q : x = 0
  · exact go_ifc X hx hd (fun _ => kT q) (fun r => absurd r (by rw [(teq q).1]; decide))
  · exact go_ifc X hx hd (fun r => absurd r (by rw [(feq q).1]; decide)) (fun _ => kF q)
theorem go_icmp_ne (X : Stand p l e R s m args below meth c T locs cells slots) (hx : p.tables.exec = Jvm.exec) {x y : Int32} {o : Int} (hd : DecB c.code pc (.if_icmp .ne o) o pc' pt) (kT : ¬ x = y → Go p e below En (T.setTop (mkF m pt Ls st))) (kF : x = y → Go p e below En (T.setTop (mkF m pc' Ls st))) : Go p e below En (T.setTop (mkF m pc Ls (.int y :: .int x :: st))) := by
  by_cases q : x = y
  · exact go_icmp X hx hd (fun r => absurd r (by rw [(teq q).2]; decide)) (fun _ => kF q)
  · exact go_icmp X hx hd (fun _ => kT q) (fun r => absurd r (by rw [(feq q).2]; decide))
theorem go_ifc_ne (X : Stand p l e R s m args below meth c T locs cells slots) (hx : p.tables.exec = Jvm.exec) {x : Int32} {o : Int} (hd : DecB c.code pc (.ifCond .ne o) o pc' pt) (kT : ¬ x = 0 → Go p e below En (T.setTop (mkF m pt Ls st))) (kF : x = 0 → Go p e below En (T.setTop (mkF m pc' Ls st))) : Go p e below En (T.setTop (mkF m pc Ls (.int x :: st))) := by
  by_cases q : x = 0
  · exact go_ifc X hx hd (fun r => absurd r (by rw [(teq q).2]; decide)) (fun _ => kF q)
  · exact go_ifc X hx hd (fun _ => kT q) (fun r => absurd r (by rw [(feq q).2]; decide))
theorem go_icmp_lt (X : Stand p l e R s m args below meth c T locs cells slots) (hx : p.tables.exec = Jvm.exec) {x y : Int32} {o : Int} (hd : DecB c.code pc (.if_icmp .lt o) o pc' pt) (kT : x < y → Go p e below En (T.setTop (mkF m pt Ls st))) (kF : ¬ x < y → Go p e below En (T.setTop (mkF m pc' Ls st))) : Go p e below En (T.setTop (mkF m pc Ls (.int y :: .int x :: st))) := by
  by_cases q : x < y
  · exact go_icmp X hx hd (fun _ => kT q) (fun r => absurd r (by rw [(tlt q).1]; decide))
  · exact go_icmp X hx hd (fun r => absurd r (by rw [(flt q).1]; decide)) (fun _ => kF q)
theorem go_ifc_lt (X : Stand p l e R s m args below meth c T locs cells slots) (hx : p.tables.exec = Jvm.exec) {x : Int32} {o : Int} (hd : DecB c.code pc (.ifCond .lt o) o pc' pt) (kT : x < 0 → Go p e below En (T.setTop (mkF m pt Ls st))) (kF : ¬ x < 0 → Go p e below En (T.setTop (mkF m pc' Ls st))) : Go p e below En (T.setTop (mkF m pc Ls (.int x :: st))) := by
  by_cases q : x < 0
  · exact go_ifc X hx hd (fun _ => kT q) (fun r => absurd r (by rw [(tlt q).1]; decide))
  · exact go_ifc X hx hd (fun r => absurd r (by rw [(flt q).1]; decide)) (fun _ => kF q)
theorem go_icmp_ge (X : Stand p l e R s m args below meth c T locs cells slots) (hx : p.tables.exec = Jvm.exec) {x y : Int32} {o : Int} (hd : DecB c.code pc (.if_icmp .ge o) o pc' pt) (kT : ¬ x < y → Go p e below En (T.setTop (mkF m pt Ls st))) (kF : x < y → Go p e below En (T.setTop (mkF m pc' Ls st))) : Go p e below En (T.setTop (mkF m pc Ls (.int y :: .int x :: st))) := by
  by_cases q : x < y
  · exact go_icmp X hx hd (fun r => absurd r (by rw [(tlt q).2.1]; decide)) (fun _ => kF q)
  · exact go_icmp X hx hd (fun _ => kT q) (fun r => absurd r (by rw [(flt q).2.1]; decide))
theorem go_ifc_ge (X : Stand p l e R s m args below meth c T locs cells slots) (hx : p.tables.exec = Jvm.exec) {x : Int32} {o : Int} (hd : DecB c.code pc (.ifCond .ge o) o pc' pt) (kT : ¬ x < 0 → Go p e below En (T.setTop (mkF m pt Ls st))) (kF : x < 0 → Go p e below En (T.setTop (mkF m pc' Ls st))) : Go p e below En (T.setTop (mkF m pc Ls (.int x :: st))) := by
  by_cases q : x < 0
  · exact go_ifc X hx hd (fun r => absurd r (by rw [(tlt q).2.1]; decide)) (fun _ => kF q)
  · exact go_ifc X hx hd (fun _ => kT q) (fun r => absurd r (by rw [(flt q).2.1]; decide))
theorem go_icmp_gt (X : Stand p l e R s m args below meth c T locs cells slots) (hx : p.tables.exec = Jvm.exec) {x y : Int32} {o : Int} (hd : DecB c.code pc (.if_icmp .gt o) o pc' pt) (kT : y < x → Go p e below En (T.setTop (mkF m pt Ls st))) (kF : ¬ y < x → Go p e below En (T.setTop (mkF m pc' Ls st))) : Go p e below En (T.setTop (mkF m pc Ls (.int y :: .int x :: st))) := by
  by_cases q : y < x
  · exact go_icmp X hx hd (fun _ => kT q) (fun r => absurd r (by rw [(tlt q).2.2.1]; decide))
  · exact go_icmp X hx hd (fun r => absurd r (by rw [(flt q).2.2.1]; decide)) (fun _ => kF q)
theorem go_ifc_gt (X : Stand p l e R s m args below meth c T locs cells slots) (hx : p.tables.exec = Jvm.exec) {x : Int32} {o : Int} (hd : DecB c.code pc (.ifCond .gt o) o pc' pt) (kT : 0 < x → Go p e below En (T.setTop (mkF m pt Ls st))) (kF : ¬ 0 < x → Go p e below En (T.setTop (mkF m pc' Ls st))) : Go p e below En (T.setTop (mkF m pc Ls (.int x :: st))) := by
  by_cases q : 0 < x
  · exact go_ifc X hx hd (fun _ => kT q) (fun r => absurd r (by rw [(tlt q).2.2.1]; decide))
  · exact go_ifc X hx hd (fun r => absurd r (by rw [(flt q).2.2.1]; decide)) (fun _ => kF q)
theorem go_icmp_le (X : Stand p l e R s m args below meth c T locs cells slots) (hx : p.tables.exec = Jvm.exec) {x y : Int32} {o : Int} (hd : DecB c.code pc (.if_icmp .le o) o pc' pt) (kT : ¬ y < x → Go p e below En (T.setTop (mkF m pt Ls st))) (kF : y < x → Go p e below En (T.setTop (mkF m pc' Ls st))) : Go p e below En (T.setTop (mkF m pc Ls (.int y :: .int x :: st))) := by
  by_cases q : y < x
  · exact go_icmp X hx hd (fun r => absurd r (by rw [(tlt q).2.2.2]; decide)) (fun _ => kF q)
  · exact go_icmp X hx hd (fun _ => kT q) (fun r => absurd r (by rw [(flt q).2.2.2]; decide))
theorem go_ifc_le (X : Stand p l e R s m args below meth c T locs cells slots) (hx : p.tables.exec = Jvm.exec) {x : Int32} {o : Int} (hd : DecB c.code pc (.ifCond .le o) o pc' pt) (kT : ¬ 0 < x → Go p e below En (T.setTop (mkF m pt Ls st))) (kF : 0 < x → Go p e below En (T.setTop (mkF m pc' Ls st))) : Go p e below En (T.setTop (mkF m pc Ls (.int x :: st))) := by
  by_cases q : 0 < x
  · exact go_ifc X hx hd (fun r => absurd r (by rw [(tlt q).2.2.2]; decide)) (fun _ => kF q)
  · exact go_ifc X hx hd (fun _ => kT q) (fun r => absurd r (by rw [(flt q).2.2.2]; decide))
theorem go_ifnullY (X : Stand p l e R s m args below meth c T locs cells slots) (hx : p.tables.exec = Jvm.exec) {o : Int} (hd : DecB c.code pc (.ifnull o) o pc' pt) (k : Go p e below En (T.setTop (mkF m pt Ls st))) : Go p e below En (T.setTop (mkF m pc Ls (.null :: st))) := own_via (fun t => XS.ifnullYes X.here hx rfl rfl hd.1 rfl hd.2.2.1 hd.2.2.2) k
theorem go_ifnullN (X : Stand p l e R s m args below meth c T locs cells slots) (hx : p.tables.exec = Jvm.exec) {o : Int} {a : Addr} (hd : DecB c.code pc (.ifnull o) o pc' pt) (k : Go p e below En (T.setTop (mkF m pc' Ls st))) : Go p e below En (T.setTop (mkF m pc Ls (.ref a :: st))) := by
  obtain ⟨h1, rfl, h3, h4⟩ := hd
  exact own_via (fun t => XS.ifnullNo X.here hx rfl h1 rfl) k
theorem go_ifnonnullY (X : Stand p l e R s m args below meth c T locs cells slots) (hx : p.tables.exec = Jvm.exec) {o : Int} {a : Addr} (hd : DecB c.code pc (.ifnonnull o) o pc' pt) (k : Go p e below En (T.setTop (mkF m pt Ls st))) : Go p e below En (T.setTop (mkF m pc Ls (.ref a :: st))) := own_via (fun t => XT.ifnonnullYes X.here hx rfl rfl hd.1 rfl hd.2.2.1 hd.2.2.2) k
theorem go_ifnonnullN (X : Stand p l e R s m args below meth c T locs cells slots) (hx : p.tables.exec = Jvm.exec) {o : Int} (hd : DecB c.code pc (.ifnonnull o) o pc' pt) (k : Go p e below En (T.setTop (mkF m pc' Ls st))) : Go p e below En (T.setTop (mkF m pc Ls (.null :: st))) := by
  obtain ⟨h1, rfl, h3, h4⟩ := hd
  exact own_via (fun t => XT.ifnonnullNo X.here hx rfl h1 rfl) k
theorem go_acmp_eq (X : Stand p l e R s m args below meth c T locs cells slots) (hx : p.tables.exec = Jvm.exec) {x y : Value} (hx' : x.isRef = true) (hy' : y.isRef = true) {o : Int} (hd : DecB c.code pc (.if_acmp .eq o) o pc' pt) (kT : x = y → Go p e below En (T.setTop (mkF m pt Ls st))) (kF : ¬ x = y → Go p e below En (T.setTop (mkF m pc' Ls st))) : Go p e below En (T.setTop (mkF m pc Ls (y :: x :: st))) := by
  obtain ⟨h1, rfl, h3, h4⟩ := hd
  by_cases q : x = y
  · exact own_via (fun t => XT.acmpYes X.here hx rfl rfl h1 rfl hx' hy' (by simp [XT.acmp, q]) h3 h4) (kT q)
  · exact own_via (fun t => XT.acmpNo X.here hx rfl h1 rfl hx' hy' (by simp [XT.acmp, q])) (kF q)
theorem go_acmp_ne (X : Stand p l e R s m args below meth c T locs cells slots) (hx : p.tables.exec = Jvm.exec) {x y : Value} (hx' : x.isRef = true) (hy' : y.isRef = true) {o : Int} (hd : DecB c.code pc (.if_acmp .ne o) o pc' pt) (kT : ¬ x = y → Go p e below En (T.setTop (mkF m pt Ls st))) (kF : x = y → Go p e below En (T.setTop (mkF m pc' Ls st))) : Go p e below En (T.setTop (mkF m pc Ls (y :: x :: st))) := by
  obtain ⟨h1, rfl, h3, h4⟩ := hd
  by_cases q : x = y
  · exact own_via (fun t => XT.acmpNo X.here hx rfl h1 rfl hx' hy' (by simp [XT.acmp, q])) (kF q)
  · exact own_via (fun t => XT.acmpYes X.here hx rfl rfl h1 rfl hx' hy' (by simp [XT.acmp, q]) h3 h4) (kT q)
theorem go_retN (X : Stand p l e R s m args below meth c T locs cells slots) (hx : p.tables.exec = Jvm.exec) {z : Int32} {t : FieldType} (hret : meth.sig.returnType = some t) (ht : t = .boolean ∨ t = .byte ∨ t = .char ∨ t = .short) (hd : Dec c.code pc .ireturn 1 pc') (hk : meth.locks = false) (hc : cells ≤ rc) (hs : slots ≤ rs) (hQ : Q (some (.int (nar t z))) T.heap locs) : Go p e below (EndN s Q rc rs) (T.setTop (mkF m pc Ls (.int z :: st))) := by
  obtain ⟨fs, hr, hrun, hended, hW, hsame⟩ := X.leave (v := (some (.int (nar t z)))) (fun q => by first | rfl | (rw [hret] at q; cases q)) hk
  exact ⟨_, _, retN X hx hret ht hd.1 hr, hrun, hended, _, _, rfl, hQ, ⟨_, rfl⟩, hW, hsame.mono hc hs⟩
theorem go_retI (X : Stand p l e R s m args below meth c T locs cells slots) (hx : p.tables.exec = Jvm.exec) {z : Int32} (hret : meth.sig.returnType = some .int) (hd : Dec c.code pc .ireturn 1 pc') (hk : meth.locks = false) (hc : cells ≤ rc) (hs : slots ≤ rs) (hQ : Q (some (.int z)) T.heap locs) : Go p e below (EndN s Q rc rs) (T.setTop (mkF m pc Ls (.int z :: st))) := by
  obtain ⟨fs, hr, hrun, hended, hW, hsame⟩ := X.leave (v := (some (.int z))) (fun q => by first | rfl | (rw [hret] at q; cases q)) hk
  exact ⟨_, _, retOut X hx hret rfl (Or.inl ⟨rfl, Or.inl rfl, _, rfl⟩) hd.1 hr, hrun, hended, _, _, rfl, hQ, ⟨_, rfl⟩, hW, hsame.mono hc hs⟩
theorem go_retJ (X : Stand p l e R s m args below meth c T locs cells slots) (hx : p.tables.exec = Jvm.exec) {z : Int64} (hret : meth.sig.returnType = some .long) (hd : Dec c.code pc .lreturn 1 pc') (hk : meth.locks = false) (hc : cells ≤ rc) (hs : slots ≤ rs) (hQ : Q (some (.long z)) T.heap locs) : Go p e below (EndN s Q rc rs) (T.setTop (mkF m pc Ls (.long z :: st))) := by
  obtain ⟨fs, hr, hrun, hended, hW, hsame⟩ := X.leave (v := (some (.long z))) (fun q => by first | rfl | (rw [hret] at q; cases q)) hk
  exact ⟨_, _, retOut X hx hret rfl (Or.inr (Or.inl ⟨rfl, rfl, _, rfl⟩)) hd.1 hr, hrun, hended, _, _, rfl, hQ, ⟨_, rfl⟩, hW, hsame.mono hc hs⟩
theorem go_retA (X : Stand p l e R s m args below meth c T locs cells slots) (hx : p.tables.exec = Jvm.exec) {v : Value} {t : FieldType} (hret : meth.sig.returnType = some t) (ht : t.isReference = true) (hv : v.isRef = true) (hd : Dec c.code pc .areturn 1 pc') (hk : meth.locks = false) (hc : cells ≤ rc) (hs : slots ≤ rs) (hQ : Q (some v) T.heap locs) : Go p e below (EndN s Q rc rs) (T.setTop (mkF m pc Ls (v :: st))) := by
  obtain ⟨fs, hr, hrun, hended, hW, hsame⟩ := X.leave (v := (some v)) (fun q => by first | rfl | (rw [hret] at q; cases q)) hk
  exact ⟨_, _, retOut X hx hret (by cases t <;> first | rfl | cases ht) (Or.inr (Or.inr (Or.inr (Or.inr ⟨rfl, ht, hv⟩)))) hd.1 hr, hrun, hended, _, _, rfl, hQ, ⟨_, rfl⟩, hW, hsame.mono hc hs⟩
theorem go_retV (X : Stand p l e R s m args below meth c T locs cells slots) (hx : p.tables.exec = Jvm.exec)  (hret : meth.sig.returnType = none) (hd : Dec c.code pc .return_ 1 pc') (hk : meth.locks = false) (hc : cells ≤ rc) (hs : slots ≤ rs) (hQ : Q none T.heap locs) : Go p e below (EndN s Q rc rs) (T.setTop (mkF m pc Ls [])) := by
  obtain ⟨fs, hr, hrun, hended, hW, hsame⟩ := X.leave (v := none) (fun q => by first | rfl | (rw [hret] at q; cases q)) hk
  exact ⟨_, _, X.returnOut hx hret hd.1 hr, hrun, hended, _, _, rfl, hQ, ⟨_, rfl⟩, hW, hsame.mono hc hs⟩
theorem go_getF (X : Stand p l e R s m args below meth c T locs cells slots) (hx : p.tables.exec = Jvm.exec) (hZ : Z.Warmed39 s.vm) {own R0 O n d host : String} {index : Nat} (hown : s.vm.findClass own = some m.cls) (w : (Jvm.Cond.fieldLink own index R0 n d).before a0 Z = true ∨ (Jvm.Cond.fieldLinkNest own index R0 n d host).before a0 Z = true) (via : Via Z R0 O n d) (eT : T.heap = h) {a : Addr} {v : Value} (F : Fld Z h a O n d v) (hd : Dec c.code pc (.getfield index) 3 pc') (k : ∀ T', Stand p l e R s m args below meth c T' locs cells slots → T'.heap = h → Go p e below En (T'.setTop (mkF m pc' Ls (v :: st)))) : Go p e below En (T.setTop (mkF m pc Ls (.ref a :: st))) := by
  obtain ⟨hd, rfl⟩ := hd
  obtain ⟨T', X', e', q⟩ := getF X hx hZ hown w via eT F (g := mkF m pc Ls (.ref a :: st)) rfl rfl hd
  exact own_via q (k T' X' e')
theorem go_putF (X : Stand p l e R s m args below meth c T locs cells slots) (hx : p.tables.exec = Jvm.exec) (hZ : Z.Warmed39 s.vm) {own R0 O n d host C : String} {index kk : Nat} {ty : FieldType} (hown : s.vm.findClass own = some m.cls) (w : (Jvm.Cond.fieldLink own index R0 n d).before a0 Z = true ∨ (Jvm.Cond.fieldLinkNest own index R0 n d host).before a0 Z = true) (via : Via Z R0 O n d) (eT : T.heap = h) {a : Addr} {v old : Value} (F : Fld Z h a O n d old) (E : Exa Z h a C) (L : (Jvm.Cond.lays C O n d).before a0 Z = true ∨ ((Jvm.Cond.laysFinal C O n d).before a0 Z = true ∧ own = O ∧ meth.name = "<init>")) (wi : (Jvm.Cond.instantiable C kk).before a0 Z = true) (hty : parseFieldDescriptor d = some ty) (hn : narrow ty v = v) (hf : fits ty v = true) (hd : Dec c.code pc (.putfield index) 3 pc') (k : ∀ T' h', Stand p l e R s m args below meth c T' (locs ++ [⟨a, Jvm.RoadKit.slotOf Z O n d⟩]) cells slots → T'.heap = h' → Wr h h' a (Jvm.RoadKit.slotOf Z O n d) v → Go p e below En (T'.setTop (mkF m pc' Ls st))) : Go p e below En (T.setTop (mkF m pc Ls (v :: .ref a :: st))) := by
  obtain ⟨hd, rfl⟩ := hd
  obtain ⟨T', h', X', e', W, q⟩ := putF X hx hZ hown w via eT F E L wi hty hn hf (g := mkF m pc Ls (v :: .ref a :: st)) rfl rfl hd
  exact own_via q (k T' h' X' e' W)
theorem go_getS (X : Stand p l e R s m args below meth c T locs cells slots) (hx : p.tables.exec = Jvm.exec) (hZ : Z.Warmed39 s.vm) {own R0 O n d host : String} {index : Nat} (hown : s.vm.findClass own = some m.cls) (w : (Jvm.Cond.fieldLink own index R0 n d).before a0 Z = true) (via : Via Z R0 O n d) (eT : T.heap = h) {v : Value} (F : Sta Z h O n d v) (hd : Dec c.code pc (.getstatic index) 3 pc') (k : ∀ T', Stand p l e R s m args below meth c T' locs cells slots → T'.heap = h → Go p e below En (T'.setTop (mkF m pc' Ls (v :: st)))) : Go p e below En (T.setTop (mkF m pc Ls st)) := by
  obtain ⟨hd, rfl⟩ := hd
  obtain ⟨T', X', e', q⟩ := getS (host := "") X hx hZ hown w via eT F (g := mkF m pc Ls st) rfl hd
  exact own_via q (k T' X' e')
theorem go_newO (X : Stand p l e R s m args below meth c T locs cells slots) (hx : p.tables.exec = Jvm.exec) (hZ : Z.Warmed39 s.vm) {own C : String} {index n : Nat} (hown : s.vm.findClass own = some m.cls) (w : (Jvm.Cond.classLink own index C).before a0 Z = true) (wi : (Jvm.Cond.instantiable C n).before a0 Z = true) (wz : (Jvm.Cond.initialized C).before a0 Z = true) (eT : T.heap = h) (hd : Dec c.code pc (.new index) 3 pc') (hc : cells + 1 ≤ R.cells) (hl : slots + n ≤ R.slots) (k : ∀ T' h' (a : Addr), a = h.size → Stand p l e R s m args below meth c T' locs (cells + 1) (slots + n) → T'.heap = h' → Ext h h' → Exa Z h' a C → (∀ {O nm d : String} {ty : FieldType}, Laid Z a0 C O nm d → parseFieldDescriptor d = some ty → Fld Z h' a O nm d (defaultValue ty)) → Go p e below En (T'.setTop (mkF m pc' Ls (.ref a :: st)))) : Go p e below En (T.setTop (mkF m pc Ls st)) := by
  obtain ⟨hd, rfl⟩ := hd
  obtain ⟨T', h', X', e', E, A, D, -, q⟩ := newO X hx hZ hown w wi wz eT (g := mkF m pc Ls st) rfl hd hc hl
  exact own_via q (k T' h' _ rfl X' e' E A D)
theorem go_newP (X : Stand p l e R s m args below meth c T locs cells slots) (hx : p.tables.exec = Jvm.exec) (hZ : Z.Warmed39 s.vm) {aty : ArrayType} (w : (Jvm.Cond.arrayClass (newarray.typeOf aty)).before a0 Z = true) (eT : T.heap = h) (hd : Dec c.code pc (.newarray aty) 2 pc') {n : Int32} (hn : ¬ n < 0) (cap : Nat) (hcap : n.toNatClampNeg ≤ cap) (hb : cap * 8 ≤ 536870912) (hc : cells + 1 ≤ R.cells) (hl : slots + cap ≤ R.slots) (k : ∀ T' h' cA (a : Addr), a = h.size → Stand p l e R s m args below meth c T' locs (cells + 1) (slots + cap) → T'.heap = h' → Ext h h' → Arr Z h' a (newA cA (newarray.typeOf aty) n) (newarray.typeOf aty) → Go p e below En (T'.setTop (mkF m pc' Ls (.ref a :: st)))) : Go p e below En (T.setTop (mkF m pc Ls (.int n :: st))) := by
  obtain ⟨hd, rfl⟩ := hd
  obtain ⟨T', h', cA, X', e', E, A, q⟩ := newP X hx hZ w eT (g := mkF m pc Ls (.int n :: st)) rfl hd rfl hn hcap hb hc hl
  exact own_via q (k T' h' cA _ rfl X' e' E A)
theorem go_initO (X : Stand p l e R s m args below meth c T locs cells slots) (hx : p.tables.exec = Jvm.exec) (hZ : Z.Warmed39 s.vm) {own : String} {idx : Nat} (hown : s.vm.findClass own = some m.cls) (w1 : (Jvm.Cond.methodLink own idx Lib.objectInit).before a0 Z = true) (w2 : (Jvm.Cond.instanceMethod Lib.objectInit).before a0 Z = true) (w3 : (Jvm.Cond.code Lib.objectInit object_method_1_code 1 none).before a0 Z = true) (eT : T.heap = h) (hsize : Ls.size = c.maxLocals) {a : Addr} (hd : Dec c.code pc (.invokespecial idx) 3 pc') (hf : 1 ≤ R.frames) (W : Nat) (hW : (st.map fun v => v.category).sum ≤ W) (hl : W + 12 ≤ R.locals) (k : ∀ T', Stand p l e R s m args below meth c T' locs cells slots → T'.heap = h → Go p e below En (T'.setTop (mkF m pc' Ls st))) : Go p e below En (T.setTop (mkF m pc Ls (.ref a :: st))) := by
  obtain ⟨hd, rfl⟩ := hd
  obtain ⟨T', X', e', q⟩ := initO X hx hZ hown w1 w2 w3 eT (g := mkF m pc Ls (.ref a :: st)) rfl hsize rfl hd hf (W := W) (by show 2 * 0 + _ ≤ _; omega) hl
  exact own_via q (k T' X' e')
def Ct (l : Launch) (Z : State) (y : MethodName) (bytes : ByteArray) (maxL : Nat) (ret : Option FieldType) (ws : List Jvm.Cond) (rm : Room) (as' : Array Value) (h0 : Heap) (Q : Option Value → Heap → List Loc → Prop) : Prop := MetFree l y (head1 (Jvm.Cond.code y bytes maxL ret :: ws) rm) (fun a U => a = as' ∧ Z.Warmed39 U.vm ∧ U.heap = h0) (fun _ _ _ _ _ => True) (fun _ U o U' => ∃ v L, o = .returned v ∧ Q v U'.heap L ∧ FrameEnd U o U' L rm.cells rm.slots)
theorem Ct.of {y : MethodName} {bytes : ByteArray} {maxL : Nat} {ret : Option FieldType} {ws : List Jvm.Cond} {rm : Room} {as' : Array Value} {h0 : Heap} (pn : plainName y.cls = true) (F0 : Array Slot) (ef : ∀ m, entryFrame m as' maxL = mkF m 0 F0 []) (body : ∀ (p : Program) (e : Env) (s : State) (m : MethodId) (below : List Frame) (meth : Method) (c : Code) (T : State), p.tables.exec = Jvm.exec → c.code = bytes → c.maxLocals = maxL → Z.Warmed39 s.vm → s.vm.findClass y.cls = some m.cls → meth.name = y.name → meth.sig.returnType = ret → meth.locks = false → T.heap = h0 → Stand p l e rm s m as' below meth c T [] 0 0 → Go p e below (EndN s Q rm.cells rm.slots) (T.setTop (mkF m 0 F0 []))) : Ct l Z y bytes maxL ret ws rm as' h0 Q := by
  refine MetFree.of_bodySF (plainFor_of_name pn) hisR ?_
  intro p e s m args below meth c s₁ Bd hml0 hP hK
  obtain ⟨rfl, hZ, hh⟩ := hP
  have G := body p e s m below meth c s₁ Bd.exec Bd.bytes hml0 hZ (findClass_of_methodNamed Bd.named) (name_of_methodNamed Bd.named Bd.method).1 Bd.returns Bd.notSynchronized (by rw [← hh, Bd.state]; rfl) (Stand.of_body Bd)
  rw [← ef m] at G
  exact G
theorem go_static (X : Stand p l e R s m args below meth c T locs cells slots) (hx : p.tables.exec = Jvm.exec) (hZ : Z.Warmed39 s.vm) {own : String} {index : Nat} {y : MethodName} {bytes : ByteArray} {maxL : Nat} {ret : Option FieldType} (hown : s.vm.findClass own = some m.cls) (w1 : (Jvm.Cond.methodLink own index y).before a0 Z = true) (w2 : (Jvm.Cond.static y).before a0 Z = true) (w3 : (Jvm.Cond.initialized y.cls).before a0 Z = true) (w4 : (Jvm.Cond.code y bytes maxL ret).before a0 Z = true) (hy : y.cls ≠ "java/lang/invoke/MethodHandle" ∧ y.cls ≠ "java/lang/invoke/VarHandle") (eT : T.heap = h) {rm : Room} (argsL rest : List Value) {Qc : Option Value → Heap → List Loc → Prop} (hC : Ct l Z y bytes maxL ret [] rm argsL.toArray h Qc) {ps : List FieldType} {rt : Option FieldType} (pd : parseMethodDescriptor y.desc = some ⟨ps, rt⟩) (hl : argsL.length = ps.length) (hsize : Ls.size = c.maxLocals) {stk : List Value} (hstk : stk = argsL.reverse ++ rest) (W : Nat) (hW : (rest.map fun v => v.category).sum ≤ W) (hf : rm.frames + 1 ≤ R.frames) (hlo : W + (maxL + 11) + rm.locals ≤ R.locals) (hce : cells + rm.cells ≤ R.cells) (hsl : slots + rm.slots ≤ R.slots) (hd : Dec c.code pc (.invokestatic index) 3 pc') (k : ∀ T' v L, Stand p l e R s m args below meth c T' (locs ++ L) (cells + rm.cells) (slots + rm.slots) → Qc v T'.heap L → Go p e below En (T'.setTop (mkF m pc' Ls (v.toList ++ rest)))) : Go p e below En (T.setTop (mkF m pc Ls stk)) := by
  obtain ⟨hd, rfl⟩ := hd
  obtain ⟨v, _, ⟨T', L', k', n'⟩, -, X', ⟨L, hQ, l1, y1, z1⟩, q⟩ := Jvm.LawKit.callS X hx hown (mvT hZ w1) (mvT hZ w2) (mvT hZ w3) (mvT hZ w4) hy (backOf (W := W) hC hZ w4 w3 hf hlo) (g := mkF m pc Ls stk) rfl hsize (argsL := argsL) (rest := rest) (lenOf pd hl) hstk (by show 2 * 0 + _ ≤ _; omega) hd (fun _ _ => ⟨rfl, eT, hce, hsl⟩)
  dsimp only [Pt.U, Pt.locs, Pt.cells, Pt.slots] at X' l1 y1 z1 q hQ
  subst l1 y1 z1
  exact own_via q (k T' v L X' hQ)
theorem go_special (X : Stand p l e R s m args below meth c T locs cells slots) (hx : p.tables.exec = Jvm.exec) (hZ : Z.Warmed39 s.vm) {own : String} {index : Nat} {y : MethodName} (hn : y.name = "<init>") {bytes : ByteArray} {maxL : Nat} (hown : s.vm.findClass own = some m.cls) (w1 : (Jvm.Cond.methodLink own index y).before a0 Z = true) (w2 : (Jvm.Cond.instanceMethod y).before a0 Z = true) (w3 : (Jvm.Cond.initialized y.cls).before a0 Z = true) (w4 : (Jvm.Cond.code y bytes maxL none).before a0 Z = true) (hy : y.cls ≠ "java/lang/invoke/MethodHandle" ∧ y.cls ≠ "java/lang/invoke/VarHandle") (eT : T.heap = h) {rm : Room} {a : Addr} (argsL rest : List Value) {Qc : Option Value → Heap → List Loc → Prop} (hC : Ct l Z y bytes maxL none [] rm (.ref a :: argsL).toArray h Qc) {ps : List FieldType} {rt : Option FieldType} (pd : parseMethodDescriptor y.desc = some ⟨ps, rt⟩) (hl : argsL.length = ps.length) (hsize : Ls.size = c.maxLocals) {stk : List Value} (hstk : stk = argsL.reverse ++ .ref a :: rest) (W : Nat) (hW : (rest.map fun v => v.category).sum ≤ W) (hf : rm.frames + 1 ≤ R.frames) (hlo : W + (maxL + 11) + rm.locals ≤ R.locals) (hce : cells + rm.cells ≤ R.cells) (hsl : slots + rm.slots ≤ R.slots) (hd : Dec c.code pc (.invokespecial index) 3 pc') (k : ∀ T' v L, Stand p l e R s m args below meth c T' (locs ++ L) (cells + rm.cells) (slots + rm.slots) → Qc v T'.heap L → Go p e below En (T'.setTop (mkF m pc' Ls (v.toList ++ rest)))) : Go p e below En (T.setTop (mkF m pc Ls stk)) := by
  obtain ⟨hd, rfl⟩ := hd
  obtain ⟨v, _, ⟨T', L', k', n'⟩, -, X', ⟨L, hQ, l1, y1, z1⟩, q⟩ := X.specialBack hx hn hown (mvT hZ w1) (mvT hZ w2) (mvT hZ w4) hy (backOf (W := W) hC hZ w4 w3 hf hlo) (g := mkF m pc Ls stk) rfl hsize (Steps.refl _) (a := a) (argsL := argsL) (rest := rest) (lenOf pd hl) hstk (by show 2 * 0 + _ ≤ _; omega) hd (fun _ _ => ⟨rfl, eT, hce, hsl⟩)
  dsimp only [Pt.U, Pt.locs, Pt.cells, Pt.slots] at X' l1 y1 z1 q hQ
  subst l1 y1 z1
  exact own_via (fun _ => q.trans) (k T' v L X' hQ)
theorem go_virtual (X : Stand p l e R s m args below meth c T locs cells slots) (hx : p.tables.exec = Jvm.exec) (hZ : Z.Warmed39 s.vm) {own C : String} {index : Nat} {y : MethodName} {bytes : ByteArray} {maxL : Nat} {ret : Option FieldType} (hown : s.vm.findClass own = some m.cls) (w1 : (Jvm.Cond.methodLink own index y).before a0 Z = true) (w2 : (Jvm.Cond.declares y).before a0 Z = true) (w5 : (Jvm.Cond.selects C y y).before a0 Z = true) (w6 : (Jvm.Cond.instanceMethod y).before a0 Z = true) (w3 : (Jvm.Cond.initialized y.cls).before a0 Z = true) (w4 : (Jvm.Cond.code y bytes maxL ret).before a0 Z = true) (hy : y.cls ≠ "java/lang/invoke/MethodHandle" ∧ y.cls ≠ "java/lang/invoke/VarHandle") (eT : T.heap = h) {rm : Room} {a : Addr} (E : Exa Z h a C) (argsL rest : List Value) {Qc : Option Value → Heap → List Loc → Prop} (hC : Ct l Z y bytes maxL ret [] rm (.ref a :: argsL).toArray h Qc) {ps : List FieldType} {rt : Option FieldType} (pd : parseMethodDescriptor y.desc = some ⟨ps, rt⟩) (hl : argsL.length = ps.length) (hsize : Ls.size = c.maxLocals) {stk : List Value} (hstk : stk = argsL.reverse ++ .ref a :: rest) (W : Nat) (hW : (rest.map fun v => v.category).sum ≤ W) (hf : rm.frames + 1 ≤ R.frames) (hlo : W + (maxL + 11) + rm.locals ≤ R.locals) (hce : cells + rm.cells ≤ R.cells) (hsl : slots + rm.slots ≤ R.slots) (hd : Dec c.code pc (.invokevirtual index) 3 pc') (k : ∀ T' v L, Stand p l e R s m args below meth c T' (locs ++ L) (cells + rm.cells) (slots + rm.slots) → Qc v T'.heap L → Go p e below En (T'.setTop (mkF m pc' Ls (v.toList ++ rest)))) : Go p e below En (T.setTop (mkF m pc Ls stk)) := by
  obtain ⟨hd, rfl⟩ := hd
  obtain ⟨cq, kq, qa, qb, qc⟩ := isOf hZ eT E
  obtain ⟨v, _, ⟨T', L', k', n'⟩, -, X', ⟨L, hQ, l1, y1, z1⟩, q⟩ := X.virtualBack hx hown (mvT hZ w1) (mvT hZ w2) (notFace_of_selects (args := #[]) (mvT hZ w5)) (mvT hZ w5) (mvT hZ w6) hy (backOf (W := W) hC hZ w4 w3 hf hlo) qa qc (g := mkF m pc Ls stk) rfl hsize (Steps.refl _) (argsL := argsL) (rest := rest) (lenOf pd hl) hstk (by show 2 * 0 + _ ≤ _; omega) hd (fun _ _ => ⟨rfl, eT, hce, hsl⟩)
  dsimp only [Pt.U, Pt.locs, Pt.cells, Pt.slots] at X' l1 y1 z1 q hQ
  subst l1 y1 z1
  exact own_via (fun _ => q.trans) (k T' v L X' hQ)
abbrev QP (r : Value) (h0 : Heap) : Option Value → Heap → List Loc → Prop := fun v h L => v = some r ∧ h = h0 ∧ L = []
theorem go_staticP (X : Stand p l e R s m args below meth c T locs cells slots) (hx : p.tables.exec = Jvm.exec) (hZ : Z.Warmed39 s.vm) {own : String} {index : Nat} {y : MethodName} {bytes : ByteArray} {maxL : Nat} {ret : Option FieldType} (hown : s.vm.findClass own = some m.cls) (w1 : (Jvm.Cond.methodLink own index y).before a0 Z = true) (w2 : (Jvm.Cond.static y).before a0 Z = true) (w3 : (Jvm.Cond.initialized y.cls).before a0 Z = true) (w4 : (Jvm.Cond.code y bytes maxL ret).before a0 Z = true) (hy : y.cls ≠ "java/lang/invoke/MethodHandle" ∧ y.cls ≠ "java/lang/invoke/VarHandle") (eT : T.heap = h) {rm : Room} (argsL rest : List Value) {r : Value} (hC : Ct l Z y bytes maxL ret [] rm argsL.toArray h (QP r h)) {ps : List FieldType} {rt : Option FieldType} (pd : parseMethodDescriptor y.desc = some ⟨ps, rt⟩) (hl : argsL.length = ps.length) (hsize : Ls.size = c.maxLocals) {stk : List Value} (hstk : stk = argsL.reverse ++ rest) (W : Nat) (hW : (rest.map fun v => v.category).sum ≤ W) (hf : rm.frames + 1 ≤ R.frames) (hlo : W + (maxL + 11) + rm.locals ≤ R.locals) (hce : rm.cells = 0) (hsl : rm.slots = 0) (hrc : cells ≤ R.cells) (hrs : slots ≤ R.slots) (hd : Dec c.code pc (.invokestatic index) 3 pc') (k : ∀ T', Stand p l e R s m args below meth c T' locs cells slots → T'.heap = h → Go p e below En (T'.setTop (mkF m pc' Ls (r :: rest)))) : Go p e below En (T.setTop (mkF m pc Ls stk)) :=
  go_static X hx hZ hown w1 w2 w3 w4 hy eT argsL rest hC pd hl hsize hstk W hW hf hlo (by rw [hce]; exact hrc) (by rw [hsl]; exact hrs) hd (fun T' v L X' hQ => by
    obtain ⟨rfl, e', rfl⟩ := hQ
    rw [hce, hsl, List.append_nil, Nat.add_zero, Nat.add_zero] at X'
    exact k T' X' e')
theorem go_virtualP (X : Stand p l e R s m args below meth c T locs cells slots) (hx : p.tables.exec = Jvm.exec) (hZ : Z.Warmed39 s.vm) {own C : String} {index : Nat} {y : MethodName} {bytes : ByteArray} {maxL : Nat} {ret : Option FieldType} (hown : s.vm.findClass own = some m.cls) (w1 : (Jvm.Cond.methodLink own index y).before a0 Z = true) (w2 : (Jvm.Cond.declares y).before a0 Z = true) (w5 : (Jvm.Cond.selects C y y).before a0 Z = true) (w6 : (Jvm.Cond.instanceMethod y).before a0 Z = true) (w3 : (Jvm.Cond.initialized y.cls).before a0 Z = true) (w4 : (Jvm.Cond.code y bytes maxL ret).before a0 Z = true) (hy : y.cls ≠ "java/lang/invoke/MethodHandle" ∧ y.cls ≠ "java/lang/invoke/VarHandle") (eT : T.heap = h) {rm : Room} {a : Addr} (E : Exa Z h a C) (argsL rest : List Value) {r : Value} (hC : Ct l Z y bytes maxL ret [] rm (.ref a :: argsL).toArray h (QP r h)) {ps : List FieldType} {rt : Option FieldType} (pd : parseMethodDescriptor y.desc = some ⟨ps, rt⟩) (hl : argsL.length = ps.length) (hsize : Ls.size = c.maxLocals) {stk : List Value} (hstk : stk = argsL.reverse ++ .ref a :: rest) (W : Nat) (hW : (rest.map fun v => v.category).sum ≤ W) (hf : rm.frames + 1 ≤ R.frames) (hlo : W + (maxL + 11) + rm.locals ≤ R.locals) (hce : rm.cells = 0) (hsl : rm.slots = 0) (hrc : cells ≤ R.cells) (hrs : slots ≤ R.slots) (hd : Dec c.code pc (.invokevirtual index) 3 pc') (k : ∀ T', Stand p l e R s m args below meth c T' locs cells slots → T'.heap = h → Go p e below En (T'.setTop (mkF m pc' Ls (r :: rest)))) : Go p e below En (T.setTop (mkF m pc Ls stk)) :=
  go_virtual X hx hZ hown w1 w2 w5 w6 w3 w4 hy eT E argsL rest hC pd hl hsize hstk W hW hf hlo (by rw [hce]; exact hrc) (by rw [hsl]; exact hrs) hd (fun T' v L X' hQ => by
    obtain ⟨rfl, e', rfl⟩ := hQ
    rw [hce, hsl, List.append_nil, Nat.add_zero, Nat.add_zero] at X'
    exact k T' X' e')
theorem own_lsw {tb : Tables} [Ours tb] {target : State} {g : JFrame} (q : At T m c below) (hx : tb.exec = Jvm.exec) (hg : g.method = m) {dflt : Int} {ps : Array (Int × Int)} {len : Nat} {o : Int} {pc0 : Nat} (hpc : g.pc = pc0) (hd : decode c.code g.pc = .ok (.lookupswitch dflt ps, len)) {i : Int32} {rest : List Value} (hs : g.stack = .int i :: rest)
    (hsort : (ps.toList.zip (ps.toList.drop 1)).all (fun (a, next) => a.1 < next.1) = true) (hoff : lookupswitch.offset ps.toList dflt i.toInt = o) (ho : 0 ≤ (pc0 : Int) + o) (hp : ((pc0 : Int) + o).toNat = pc')
    (hr : Steps tb e below (T.setTop { g with pc := pc', stack := rest }) target) : Steps tb e below (T.setTop g) target := by
  subst hg hpc hp hoff
  jvm_step q [q.top, hx, hd, hs, ho, lookupswitch.wp_chain]
  exact ⟨by simpa using hsort, hr⟩
theorem go_lsw (X : Stand p l e R s m args below meth c T locs cells slots) (hx : p.tables.exec = Jvm.exec) {dflt : Int} {ps : Array (Int × Int)} {len : Nat} {x : Int32} {o : Int} (hd : decode c.code pc = .ok (.lookupswitch dflt ps, len)) (hsort : (ps.toList.zip (ps.toList.drop 1)).all (fun (a, next) => a.1 < next.1) = true) (hoff : lookupswitch.offset ps.toList dflt x.toInt = o) (ho : 0 ≤ (pc : Int) + o) (hp : ((pc : Int) + o).toNat = pt) (k : Go p e below En (T.setTop (mkF m pt Ls st))) : Go p e below En (T.setTop (mkF m pc Ls (.int x :: st))) := own_via (fun t => own_lsw (g := mkF m pc Ls (.int x :: st)) X.here hx rfl rfl hd rfl hsort hoff ho hp) k
theorem go_alen (X : Stand p l e R s m args below meth c T locs cells slots) (hx : p.tables.exec = Jvm.exec) (hZ : Z.Warmed39 s.vm) (eT : T.heap = h) {a : Addr} {cl : Cell} {ty : FieldType} (A : Arr Z h a cl ty) {z : Int32} (S : cl.slots.size = z.toNatClampNeg) (hz : ¬ z < 0) (hd : Dec c.code pc .arraylength 1 pc') (k : Go p e below En (T.setTop (mkF m pc' Ls (.int z :: st)))) : Go p e below En (T.setTop (mkF m pc Ls (.ref a :: st))) := by
  obtain ⟨hd, rfl⟩ := hd
  refine own_via (fun t q => X.arraylength hx (cell := cl) (by rw [eT]; exact A.1) (State.isArrayOf_alike hZ.alike A.2.1) (g := mkF m pc Ls (.ref a :: st)) rfl (rest := st) rfl hd _ ?_) k
  rw [len_of S hz]
  exact q
theorem go_iaload (X : Stand p l e R s m args below meth c T locs cells slots) (hx : p.tables.exec = Jvm.exec) (hZ : Z.Warmed39 s.vm) (eT : T.heap = h) {a : Addr} {cl : Cell} (A : Arr Z h a cl .int) {j : Int32} {w : Int32} (hj : ¬ (j < 0 ∨ cl.slots.size ≤ j.toNatClampNeg)) (hv : cl.slots[j.toNatClampNeg]? = some (.int w)) (hd : Dec c.code pc .iaload 1 pc') (k : Go p e below En (T.setTop (mkF m pc' Ls (.int w :: st)))) : Go p e below En (T.setTop (mkF m pc Ls (.int j :: .ref a :: st))) := by
  obtain ⟨hd, rfl⟩ := hd
  exact own_via (fun t q => X.iaload hx (j := j) (v := (.int w)) (by rw [eT]; exact A.1) (State.isArrayOf_alike hZ.alike A.2.1) A.2.2 hj hv (g := mkF m pc Ls (.int j :: .ref a :: st)) rfl rfl hd _ q) k
theorem go_laload (X : Stand p l e R s m args below meth c T locs cells slots) (hx : p.tables.exec = Jvm.exec) (hZ : Z.Warmed39 s.vm) (eT : T.heap = h) {a : Addr} {cl : Cell} (A : Arr Z h a cl .long) {j : Int32} {w : Int64} (hj : ¬ (j < 0 ∨ cl.slots.size ≤ j.toNatClampNeg)) (hv : cl.slots[j.toNatClampNeg]? = some (.long w)) (hd : Dec c.code pc .laload 1 pc') (k : Go p e below En (T.setTop (mkF m pc' Ls (.long w :: st)))) : Go p e below En (T.setTop (mkF m pc Ls (.int j :: .ref a :: st))) := by
  obtain ⟨hd, rfl⟩ := hd
  exact own_via (fun t q => X.laload hx (j := j) (v := (.long w)) (by rw [eT]; exact A.1) (State.isArrayOf_alike hZ.alike A.2.1) A.2.2 hj hv (g := mkF m pc Ls (.int j :: .ref a :: st)) rfl rfl hd _ q) k
theorem go_iastore (X : Stand p l e R s m args below meth c T locs cells slots) (hx : p.tables.exec = Jvm.exec) (hZ : Z.Warmed39 s.vm) (eT : T.heap = h) {a : Addr} {cl : Cell} (A : Arr Z h a cl .int) {j : Int32} {x : Int32} (hj : ¬ (j < 0 ∨ cl.slots.size ≤ j.toNatClampNeg)) (hd : Dec c.code pc .iastore 1 pc') (k : ∀ T' h', Stand p l e R s m args below meth c T' (locs ++ [⟨a, j.toNatClampNeg⟩]) cells slots → T'.heap = h' → Wr h h' a j.toNatClampNeg (.int x) → Go p e below En (T'.setTop (mkF m pc' Ls st))) : Go p e below En (T.setTop (mkF m pc Ls (.int x :: .int j :: .ref a :: st))) := by
  obtain ⟨hd, rfl⟩ := hd
  obtain ⟨T', h', X', e', W, q⟩ := stI X hx hZ eT A hj (g := mkF m pc Ls (.int x :: .int j :: .ref a :: st)) rfl rfl hd
  exact own_via q (k T' h' X' e' W)
theorem go_lastore (X : Stand p l e R s m args below meth c T locs cells slots) (hx : p.tables.exec = Jvm.exec) (hZ : Z.Warmed39 s.vm) (eT : T.heap = h) {a : Addr} {cl : Cell} (A : Arr Z h a cl .long) {j : Int32} {x : Int64} (hj : ¬ (j < 0 ∨ cl.slots.size ≤ j.toNatClampNeg)) (hd : Dec c.code pc .lastore 1 pc') (k : ∀ T' h', Stand p l e R s m args below meth c T' (locs ++ [⟨a, j.toNatClampNeg⟩]) cells slots → T'.heap = h' → Wr h h' a j.toNatClampNeg (.long x) → Go p e below En (T'.setTop (mkF m pc' Ls st))) : Go p e below En (T.setTop (mkF m pc Ls (.long x :: .int j :: .ref a :: st))) := by
  obtain ⟨hd, rfl⟩ := hd
  obtain ⟨T', h', X', e', W, q⟩ := stJ X hx hZ eT A hj (g := mkF m pc Ls (.long x :: .int j :: .ref a :: st)) rfl rfl hd
  exact own_via q (k T' h' X' e' W)
theorem go_castore (X : Stand p l e R s m args below meth c T locs cells slots) (hx : p.tables.exec = Jvm.exec) (hZ : Z.Warmed39 s.vm) (eT : T.heap = h) {a : Addr} {cl : Cell} (A : Arr Z h a cl .char) {j : Int32} {x : Int32} (hj : ¬ (j < 0 ∨ cl.slots.size ≤ j.toNatClampNeg)) (hd : Dec c.code pc .castore 1 pc') (k : ∀ T' h', Stand p l e R s m args below meth c T' (locs ++ [⟨a, j.toNatClampNeg⟩]) cells slots → T'.heap = h' → Wr h h' a j.toNatClampNeg (.int (nar .char x)) → Go p e below En (T'.setTop (mkF m pc' Ls st))) : Go p e below En (T.setTop (mkF m pc Ls (.int x :: .int j :: .ref a :: st))) := by
  obtain ⟨hd, rfl⟩ := hd
  obtain ⟨T', h', X', e', W, q⟩ := stC X hx hZ eT A hj (g := mkF m pc Ls (.int x :: .int j :: .ref a :: st)) rfl rfl hd
  exact own_via q (k T' h' X' e' W)
theorem go_bastore (X : Stand p l e R s m args below meth c T locs cells slots) (hx : p.tables.exec = Jvm.exec) (hZ : Z.Warmed39 s.vm) (eT : T.heap = h) {a : Addr} {cl : Cell} (A : Arr Z h a cl .byte) {j : Int32} {x : Int32} (hj : ¬ (j < 0 ∨ cl.slots.size ≤ j.toNatClampNeg)) (hd : Dec c.code pc .bastore 1 pc') (k : ∀ T' h', Stand p l e R s m args below meth c T' (locs ++ [⟨a, j.toNatClampNeg⟩]) cells slots → T'.heap = h' → Wr h h' a j.toNatClampNeg (.int (nar .byte x)) → Go p e below En (T'.setTop (mkF m pc' Ls st))) : Go p e below En (T.setTop (mkF m pc Ls (.int x :: .int j :: .ref a :: st))) := by
  obtain ⟨hd, rfl⟩ := hd
  obtain ⟨T', h', X', e', W, q⟩ := stB X hx hZ eT A hj (g := mkF m pc Ls (.int x :: .int j :: .ref a :: st)) rfl rfl hd
  exact own_via q (k T' h' X' e' W)
theorem go_zastore (X : Stand p l e R s m args below meth c T locs cells slots) (hx : p.tables.exec = Jvm.exec) (hZ : Z.Warmed39 s.vm) (eT : T.heap = h) {a : Addr} {cl : Cell} (A : Arr Z h a cl .boolean) {j : Int32} {x : Int32} (hj : ¬ (j < 0 ∨ cl.slots.size ≤ j.toNatClampNeg)) (hd : Dec c.code pc .bastore 1 pc') (k : ∀ T' h', Stand p l e R s m args below meth c T' (locs ++ [⟨a, j.toNatClampNeg⟩]) cells slots → T'.heap = h' → Wr h h' a j.toNatClampNeg (.int (nar .boolean x)) → Go p e below En (T'.setTop (mkF m pc' Ls st))) : Go p e below En (T.setTop (mkF m pc Ls (.int x :: .int j :: .ref a :: st))) := by
  obtain ⟨hd, rfl⟩ := hd
  obtain ⟨T', h', X', e', W, q⟩ := stZ X hx hZ eT A hj (g := mkF m pc Ls (.int x :: .int j :: .ref a :: st)) rfl rfl hd
  exact own_via q (k T' h' X' e' W)
abbrev QV (h0 : Heap) : Option Value → Heap → List Loc → Prop := fun v h L => v = none ∧ h = h0 ∧ L = []
theorem go_specialP (X : Stand p l e R s m args below meth c T locs cells slots) (hx : p.tables.exec = Jvm.exec) (hZ : Z.Warmed39 s.vm) {own : String} {index : Nat} {y : MethodName} (hn : y.name = "<init>") {bytes : ByteArray} {maxL : Nat} (hown : s.vm.findClass own = some m.cls) (w1 : (Jvm.Cond.methodLink own index y).before a0 Z = true) (w2 : (Jvm.Cond.instanceMethod y).before a0 Z = true) (w3 : (Jvm.Cond.initialized y.cls).before a0 Z = true) (w4 : (Jvm.Cond.code y bytes maxL none).before a0 Z = true) (hy : y.cls ≠ "java/lang/invoke/MethodHandle" ∧ y.cls ≠ "java/lang/invoke/VarHandle") (eT : T.heap = h) {rm : Room} {a : Addr} (argsL rest : List Value) (hC : Ct l Z y bytes maxL none [] rm (.ref a :: argsL).toArray h (QV h)) {ps : List FieldType} {rt : Option FieldType} (pd : parseMethodDescriptor y.desc = some ⟨ps, rt⟩) (hl : argsL.length = ps.length) (hsize : Ls.size = c.maxLocals) {stk : List Value} (hstk : stk = argsL.reverse ++ .ref a :: rest) (W : Nat) (hW : (rest.map fun v => v.category).sum ≤ W) (hf : rm.frames + 1 ≤ R.frames) (hlo : W + (maxL + 11) + rm.locals ≤ R.locals) (hce : rm.cells = 0) (hsl : rm.slots = 0) (hrc : cells ≤ R.cells) (hrs : slots ≤ R.slots) (hd : Dec c.code pc (.invokespecial index) 3 pc') (k : ∀ T', Stand p l e R s m args below meth c T' locs cells slots → T'.heap = h → Go p e below En (T'.setTop (mkF m pc' Ls rest))) : Go p e below En (T.setTop (mkF m pc Ls stk)) :=
  go_special X hx hZ hn hown w1 w2 w3 w4 hy eT argsL rest hC pd hl hsize hstk W hW hf hlo (by rw [hce]; exact hrc) (by rw [hsl]; exact hrs) hd (fun T' v L X' hQ => by
    obtain ⟨rfl, e', rfl⟩ := hQ
    rw [hce, hsl, List.append_nil, Nat.add_zero, Nat.add_zero] at X'
    exact k T' X' e')
theorem go_virtualUp (X : Stand p l e R s m args below meth c T locs cells slots) (hx : p.tables.exec = Jvm.exec) (hZ : Z.Warmed39 s.vm) {own C owner : String} {index : Nat} {x y : MethodName} {bytes : ByteArray} {maxL : Nat} {ret : Option FieldType} (hown : s.vm.findClass own = some m.cls) (w1 : (Jvm.Cond.methodLink own index x).before a0 Z = true) (w2 : (Jvm.Cond.sameMethod x.cls owner x.name x.desc).before a0 Z = true) (w7 : (Jvm.Cond.declares ⟨owner, x.name, x.desc⟩).before a0 Z = true) (w5 : (Jvm.Cond.selects C x y).before a0 Z = true) (w6 : (Jvm.Cond.instanceMethod y).before a0 Z = true) (w3 : (Jvm.Cond.initialized y.cls).before a0 Z = true) (w4 : (Jvm.Cond.code y bytes maxL ret).before a0 Z = true) (hy : owner ≠ "java/lang/invoke/MethodHandle" ∧ owner ≠ "java/lang/invoke/VarHandle") (eT : T.heap = h) {rm : Room} {a : Addr} (E : Exa Z h a C) (argsL rest : List Value) {Qc : Option Value → Heap → List Loc → Prop} (hC : Ct l Z y bytes maxL ret [] rm (.ref a :: argsL).toArray h Qc) {ps : List FieldType} {rt : Option FieldType} (pd : parseMethodDescriptor x.desc = some ⟨ps, rt⟩) (hl : argsL.length = ps.length) (hsize : Ls.size = c.maxLocals) {stk : List Value} (hstk : stk = argsL.reverse ++ .ref a :: rest) (W : Nat) (hW : (rest.map fun v => v.category).sum ≤ W) (hf : rm.frames + 1 ≤ R.frames) (hlo : W + (maxL + 11) + rm.locals ≤ R.locals) (hce : cells + rm.cells ≤ R.cells) (hsl : slots + rm.slots ≤ R.slots) (hd : Dec c.code pc (.invokevirtual index) 3 pc') (k : ∀ T' v L, Stand p l e R s m args below meth c T' (locs ++ L) (cells + rm.cells) (slots + rm.slots) → Qc v T'.heap L → Go p e below En (T'.setTop (mkF m pc' Ls (v.toList ++ rest)))) : Go p e below En (T.setTop (mkF m pc Ls stk)) := by
  obtain ⟨hd, rfl⟩ := hd
  obtain ⟨cq, kq, qa, qb, qc⟩ := isOf hZ eT E
  obtain ⟨v, _, ⟨T', L', k', n'⟩, -, X', ⟨L, hQ, l1, y1, z1⟩, q⟩ := X.virtualBackUp hx hown (mvT hZ w1) (mvT hZ w2) (mvT hZ w7) hy (mvT hZ w5) (mvT hZ w6) (backOf (W := W) hC hZ w4 w3 hf hlo) qa qc (g := mkF m pc Ls stk) rfl hsize (Steps.refl _) (argsL := argsL) (rest := rest) (lenOf pd hl) hstk (by show 2 * 0 + _ ≤ _; omega) hd (fun _ _ => ⟨rfl, eT, hce, hsl⟩)
  dsimp only [Pt.U, Pt.locs, Pt.cells, Pt.slots] at X' l1 y1 z1 q hQ
  subst l1 y1 z1
  exact own_via (fun _ => q.trans) (k T' v L X' hQ)
def PutOk (Z : State) (a0 : Array Value) (h : Heap) (a : Addr) (O n d : String) : Prop := ∃ C kk, Exa Z h a C ∧ (Jvm.Cond.lays C O n d).before a0 Z = true ∧ (Jvm.Cond.instantiable C kk).before a0 Z = true
theorem go_putN (X : Stand p l e R s m args below meth c T locs cells slots) (hx : p.tables.exec = Jvm.exec) (hZ : Z.Warmed39 s.vm) {own R0 O n d host : String} {index : Nat} {ty : FieldType} (hown : s.vm.findClass own = some m.cls) (w : (Jvm.Cond.fieldLink own index R0 n d).before a0 Z = true ∨ (Jvm.Cond.fieldLinkNest own index R0 n d host).before a0 Z = true) (via : Via Z R0 O n d) (eT : T.heap = h) {a : Addr} {v old : Value} (F : Fld Z h a O n d old) (P : PutOk Z a0 h a O n d) (hty : parseFieldDescriptor d = some ty) (hn : narrow ty v = v) (hf : fits ty v = true) (hd : Dec c.code pc (.putfield index) 3 pc') (k : ∀ T' h', Stand p l e R s m args below meth c T' (locs ++ [⟨a, Jvm.RoadKit.slotOf Z O n d⟩]) cells slots → T'.heap = h' → Wr h h' a (Jvm.RoadKit.slotOf Z O n d) v → Go p e below En (T'.setTop (mkF m pc' Ls st))) : Go p e below En (T.setTop (mkF m pc Ls (v :: .ref a :: st))) := by
  obtain ⟨C, kk, E, L, wi⟩ := P
  exact go_putF X hx hZ hown w via eT F E (Or.inl L) wi hty hn hf hd k
theorem own_staK {C n d : String} {v : Value} {h' : Heap} (F : Sta Z h C n d v) (K : Keep h h' []) : Sta Z h' C n d v := by
  obtain ⟨cf, i, k, f, st, cell, h1, h2, h3, h4, h5, r⟩ := F
  exact ⟨cf, i, k, f, st, cell, h1, h2, h3, h4, K.2.1 _ _ h5 (by simp), r⟩
theorem own_ldcW (X : Stand p l e R s m args below meth c T locs cells slots) (hexec : p.tables.exec = Jvm.exec) {own : String} {index : Nat} {v : Int32} (hown : s.vm.findClass own = some m.cls) (hconst : (Jvm.Cond.constant own index v).before args s = true) {g : JFrame} (hg : g.method = m) (hdg : decode c.code g.pc = .ok (.ldc_w index, 3)) :
    ∀ target, Steps p.tables e below (T.setTop { g with pc := g.pc + 3, stack := .int v :: g.stack }) target → Steps p.tables e below (T.setTop g) target := by
  obtain ⟨k, cf, bytes, hk, hcf, hcp, hb⟩ := Cond.constant_spec hown hconst
  obtain ⟨k', hk', he⟩ := X.warmed.alike.2.2 _ _ hk
  intro target hrest
  subst hg
  jvm_step X.here [hexec, hdg, ldc_w.wp_int (s := T) (f := g) X.here.top hk' (by rw [he]; exact hcf) hcp, hb]
  exact hrest
theorem go_ldcw (X : Stand p l e R s m args below meth c T locs cells slots) (hx : p.tables.exec = Jvm.exec) (hZ : Z.Warmed39 s.vm) {own : String} {index : Nat} {v : Int32} (hown : s.vm.findClass own = some m.cls) (w : (Jvm.Cond.constant own index v).before a0 Z = true) (hd : Dec c.code pc (.ldc_w index) 3 pc') (k : Go p e below En (T.setTop (mkF m pc' Ls (.int v :: st)))) : Go p e below En (T.setTop (mkF m pc Ls st)) := by
  obtain ⟨hd, rfl⟩ := hd
  exact own_via (fun t => own_ldcW X hx hown (mv hZ w) (g := mkF m pc Ls st) rfl hd t) k
theorem go_baload (X : Stand p l e R s m args below meth c T locs cells slots) (hx : p.tables.exec = Jvm.exec) (hZ : Z.Warmed39 s.vm) (eT : T.heap = h) {a : Addr} {cl : Cell} (A : Arr Z h a cl .byte) {j w : Int32} (hj : ¬ (j < 0 ∨ cl.slots.size ≤ j.toNatClampNeg)) (hv : cl.slots[j.toNatClampNeg]? = some (.int w)) (hd : Dec c.code pc .baload 1 pc') (k : Go p e below En (T.setTop (mkF m pc' Ls (.int w :: st)))) : Go p e below En (T.setTop (mkF m pc Ls (.int j :: .ref a :: st))) := by
  obtain ⟨hd, rfl⟩ := hd
  exact own_via (fun t q => X.baloadBytes hx (j := j) (v := (.int w)) (by rw [eT]; exact A.1) (State.isArrayOf_alike hZ.alike A.2.1) A.2.2 hj hv (g := mkF m pc Ls (.int j :: .ref a :: st)) rfl rfl hd _ q) k
theorem own_rep {n : Nat} {d : Value} : ∀ i, (List.replicate n d).getD i d = ([] : List Value).getD i d := fun i => by
  simp only [List.getD_eq_getElem?_getD, List.getElem?_replicate, List.getElem?_nil, Option.getD_none]
  split <;> rfl
theorem go_iastoreV (X : Stand p l e R s m args below meth c T locs cells slots) (hx : p.tables.exec = Jvm.exec) (hZ : Z.Warmed39 s.vm) (eT : T.heap = h) {a : Addr} {kc : ClassId} {z : Int32} {vs : List Value} {d : Value} (F : Arv Z h a kc .int z vs d) {j : Int32} {x : Int32} (q : ¬ j < 0 ∧ j < z) (i : Nat) (hj : j.toNatClampNeg = i) (hl : i < vs.length) (hd : Dec c.code pc .iastore 1 pc') (k : ∀ T' h', Stand p l e R s m args below meth c T' (locs ++ [⟨a, j.toNatClampNeg⟩]) cells slots → T'.heap = h' → Wr h h' a j.toNatClampNeg (.int x) → Arv Z h' a kc .int z (vs.set i (.int x)) d → Go p e below En (T'.setTop (mkF m pc' Ls st))) : Go p e below En (T.setTop (mkF m pc Ls (.int x :: .int j :: .ref a :: st))) := by
  obtain ⟨c1, A, q1, S, q3, H, G⟩ := F
  exact go_iastore X hx hZ eT A (inb_of S q) hd (fun T' h' X' e' W => k T' h' X' e' W (Arv.set A q1 S q3 H G rfl W i hj hl))
theorem go_lastoreV (X : Stand p l e R s m args below meth c T locs cells slots) (hx : p.tables.exec = Jvm.exec) (hZ : Z.Warmed39 s.vm) (eT : T.heap = h) {a : Addr} {kc : ClassId} {z : Int32} {vs : List Value} {d : Value} (F : Arv Z h a kc .long z vs d) {j : Int32} {x : Int64} (q : ¬ j < 0 ∧ j < z) (i : Nat) (hj : j.toNatClampNeg = i) (hl : i < vs.length) (hd : Dec c.code pc .lastore 1 pc') (k : ∀ T' h', Stand p l e R s m args below meth c T' (locs ++ [⟨a, j.toNatClampNeg⟩]) cells slots → T'.heap = h' → Wr h h' a j.toNatClampNeg (.long x) → Arv Z h' a kc .long z (vs.set i (.long x)) d → Go p e below En (T'.setTop (mkF m pc' Ls st))) : Go p e below En (T.setTop (mkF m pc Ls (.long x :: .int j :: .ref a :: st))) := by
  obtain ⟨c1, A, q1, S, q3, H, G⟩ := F
  exact go_lastore X hx hZ eT A (inb_of S q) hd (fun T' h' X' e' W => k T' h' X' e' W (Arv.set A q1 S q3 H G rfl W i hj hl))
theorem go_bastoreV (X : Stand p l e R s m args below meth c T locs cells slots) (hx : p.tables.exec = Jvm.exec) (hZ : Z.Warmed39 s.vm) (eT : T.heap = h) {a : Addr} {kc : ClassId} {z : Int32} {vs : List Value} {d : Value} (F : Arv Z h a kc .byte z vs d) {j : Int32} {x : Int32} (q : ¬ j < 0 ∧ j < z) (i : Nat) (hj : j.toNatClampNeg = i) (hl : i < vs.length) (hd : Dec c.code pc .bastore 1 pc') (k : ∀ T' h', Stand p l e R s m args below meth c T' (locs ++ [⟨a, j.toNatClampNeg⟩]) cells slots → T'.heap = h' → Wr h h' a j.toNatClampNeg (.int (nar .byte x)) → Arv Z h' a kc .byte z (vs.set i (.int (nar .byte x))) d → Go p e below En (T'.setTop (mkF m pc' Ls st))) : Go p e below En (T.setTop (mkF m pc Ls (.int x :: .int j :: .ref a :: st))) := by
  obtain ⟨c1, A, q1, S, q3, H, G⟩ := F
  exact go_bastore X hx hZ eT A (inb_of S q) hd (fun T' h' X' e' W => k T' h' X' e' W (Arv.set A q1 S q3 H G (fits_nar_byte _) W i hj hl))
theorem go_castoreV (X : Stand p l e R s m args below meth c T locs cells slots) (hx : p.tables.exec = Jvm.exec) (hZ : Z.Warmed39 s.vm) (eT : T.heap = h) {a : Addr} {kc : ClassId} {z : Int32} {vs : List Value} {d : Value} (F : Arv Z h a kc .char z vs d) {j : Int32} {x : Int32} (q : ¬ j < 0 ∧ j < z) (i : Nat) (hj : j.toNatClampNeg = i) (hl : i < vs.length) (hd : Dec c.code pc .castore 1 pc') (k : ∀ T' h', Stand p l e R s m args below meth c T' (locs ++ [⟨a, j.toNatClampNeg⟩]) cells slots → T'.heap = h' → Wr h h' a j.toNatClampNeg (.int (nar .char x)) → Arv Z h' a kc .char z (vs.set i (.int (nar .char x))) d → Go p e below En (T'.setTop (mkF m pc' Ls st))) : Go p e below En (T.setTop (mkF m pc Ls (.int x :: .int j :: .ref a :: st))) := by
  obtain ⟨c1, A, q1, S, q3, H, G⟩ := F
  exact go_castore X hx hZ eT A (inb_of S q) hd (fun T' h' X' e' W => k T' h' X' e' W (Arv.set A q1 S q3 H G (fits_nar_char _) W i hj hl))
theorem go_aastoreV (X : Stand p l e R s m args below meth c T locs cells slots) (hx : p.tables.exec = Jvm.exec) (hZ : Z.Warmed39 s.vm) (eT : T.heap = h) {a y : Addr} {C : String} {kc : ClassId} {z : Int32} {vs : List Value} {d : Value} (F : Arv Z h a kc (.object C) z vs d) (O : Ovr Z kc C) (I : Ins Z h y C true) {j : Int32} (q : ¬ j < 0 ∧ j < z) (i : Nat) (hj : j.toNatClampNeg = i) (hl : i < vs.length) (hd : Dec c.code pc .aastore 1 pc') (k : ∀ T' h', Stand p l e R s m args below meth c T' (locs ++ [⟨a, j.toNatClampNeg⟩]) cells slots → T'.heap = h' → Wr h h' a j.toNatClampNeg (.ref y) → Arv Z h' a kc (.object C) z (vs.set i (.ref y)) d → Go p e below En (T'.setTop (mkF m pc' Ls st))) : Go p e below En (T.setTop (mkF m pc Ls (.ref y :: .int j :: .ref a :: st))) := by
  obtain ⟨hd, rfl⟩ := hd
  obtain ⟨c1, A, q1, S, q3, H, G⟩ := F
  obtain ⟨T', h', X', e', W, r⟩ := stR X hx hZ eT A (inb_of S q) rfl (Sto.of A (by rw [q1]; exact O) I) (g := mkF m pc Ls (.ref y :: .int j :: .ref a :: st)) rfl rfl hd
  exact own_via r (k T' h' X' e' W (Arv.set A q1 S q3 H G rfl W i hj hl))
theorem go_newR (X : Stand p l e R s m args below meth c T locs cells slots) (hx : p.tables.exec = Jvm.exec) (hZ : Z.Warmed39 s.vm) {own C : String} {index : Nat} (hown : s.vm.findClass own = some m.cls) (w1 : (Jvm.Cond.classLink own index C).before a0 Z = true) (w2 : (Jvm.Cond.arrayOver (.object C)).before a0 Z = true) (eT : T.heap = h) (hd : Dec c.code pc (.anewarray index) 3 pc') {n : Int32} (hn : ¬ n < 0) (cap : Nat) (hcap : n.toNatClampNeg ≤ cap) (hb : cap * 8 ≤ 536870912) (hc : cells + 1 ≤ R.cells) (hl : slots + cap ≤ R.slots) (k : ∀ T' h' cA (a : Addr), a = h.size → Stand p l e R s m args below meth c T' locs (cells + 1) (slots + cap) → T'.heap = h' → Ext h h' → Arr Z h' a (newA cA (.object C) n) (.object C) → Ovr Z cA C → Go p e below En (T'.setTop (mkF m pc' Ls (.ref a :: st)))) : Go p e below En (T.setTop (mkF m pc Ls (.int n :: st))) := by
  obtain ⟨hd, rfl⟩ := hd
  obtain ⟨T', h', cA, X', e', E, A, O, q⟩ := newR X hx hZ hown w1 w2 eT (g := mkF m pc Ls (.int n :: st)) rfl hd rfl hn hcap hb hc hl
  exact own_via q (k T' h' cA _ rfl X' e' E A O)
theorem go_ialoadV (X : Stand p l e R s m args below meth c T locs cells slots) (hx : p.tables.exec = Jvm.exec) (hZ : Z.Warmed39 s.vm) (eT : T.heap = h) {a : Addr} {kc : ClassId} {z : Int32} {vs : List Value} {d : Value} (F : Arv Z h a kc .int z vs d) {j : Int32} {w : Int32} (q : ¬ j < 0 ∧ j < z) (hv : vs.getD j.toNatClampNeg d = .int w) (hd : Dec c.code pc .iaload 1 pc') (k : Go p e below En (T.setTop (mkF m pc' Ls (.int w :: st)))) : Go p e below En (T.setTop (mkF m pc Ls (.int j :: .ref a :: st))) := by
  obtain ⟨c1, A, q1, S, q3, H, G⟩ := F
  have hin := inb_of S q
  exact go_iaload X hx hZ eT A hin (by rw [H _ (Nat.lt_of_not_le fun r => hin (Or.inr r)), hv]) hd k
theorem go_laloadV (X : Stand p l e R s m args below meth c T locs cells slots) (hx : p.tables.exec = Jvm.exec) (hZ : Z.Warmed39 s.vm) (eT : T.heap = h) {a : Addr} {kc : ClassId} {z : Int32} {vs : List Value} {d : Value} (F : Arv Z h a kc .long z vs d) {j : Int32} {w : Int64} (q : ¬ j < 0 ∧ j < z) (hv : vs.getD j.toNatClampNeg d = .long w) (hd : Dec c.code pc .laload 1 pc') (k : Go p e below En (T.setTop (mkF m pc' Ls (.long w :: st)))) : Go p e below En (T.setTop (mkF m pc Ls (.int j :: .ref a :: st))) := by
  obtain ⟨c1, A, q1, S, q3, H, G⟩ := F
  have hin := inb_of S q
  exact go_laload X hx hZ eT A hin (by rw [H _ (Nat.lt_of_not_le fun r => hin (Or.inr r)), hv]) hd k
theorem go_baloadV (X : Stand p l e R s m args below meth c T locs cells slots) (hx : p.tables.exec = Jvm.exec) (hZ : Z.Warmed39 s.vm) (eT : T.heap = h) {a : Addr} {kc : ClassId} {z : Int32} {vs : List Value} {d : Value} (F : Arv Z h a kc .byte z vs d) {j : Int32} {w : Int32} (q : ¬ j < 0 ∧ j < z) (hv : vs.getD j.toNatClampNeg d = .int w) (hd : Dec c.code pc .baload 1 pc') (k : Go p e below En (T.setTop (mkF m pc' Ls (.int w :: st)))) : Go p e below En (T.setTop (mkF m pc Ls (.int j :: .ref a :: st))) := by
  obtain ⟨c1, A, q1, S, q3, H, G⟩ := F
  have hin := inb_of S q
  exact go_baload X hx hZ eT A hin (by rw [H _ (Nat.lt_of_not_le fun r => hin (Or.inr r)), hv]) hd k
theorem go_aaloadV (X : Stand p l e R s m args below meth c T locs cells slots) (hx : p.tables.exec = Jvm.exec) (hZ : Z.Warmed39 s.vm) (eT : T.heap = h) {a : Addr} {kc : ClassId} {ty : FieldType} (hty : ty.isReference = true) {z : Int32} {vs : List Value} {d : Value} (F : Arv Z h a kc ty z vs d) {j : Int32} {v : Value} (q : ¬ j < 0 ∧ j < z) (hv : vs.getD j.toNatClampNeg d = v) (hd : Dec c.code pc .aaload 1 pc') (k : Go p e below En (T.setTop (mkF m pc' Ls (v :: st)))) : Go p e below En (T.setTop (mkF m pc Ls (.int j :: .ref a :: st))) := by
  obtain ⟨hd, rfl⟩ := hd
  obtain ⟨c1, A, q1, S, q3, H, G⟩ := F
  have hin := inb_of S q
  exact own_via (fun t r => X.aaload hx (j := j) (v := v) (by rw [eT]; exact A.1) (State.isArrayOf_alike hZ.alike A.2.1) hty A.2.2 hin (by rw [H _ (Nat.lt_of_not_le fun r => hin (Or.inr r)), hv]) (g := mkF m pc Ls (.int j :: .ref a :: st)) rfl rfl hd _ r) k
end OwnGo

def own_E (Z : State) (h : Heap) (a : Addr) : Prop := Exa Z h a "com/example/strict_model/strictmodel/TreeNode$Root" ∨ Exa Z h a "com/example/strict_model/strictmodel/TreeNode$TextNode"
def own_N (Z : State) (h : Heap) (a : Addr) : Prop := own_E Z h a ∧ Fld Z h a "com/example/strict_model/strictmodel/TreeNode$Linked" "parent" "Lcom/example/strict_model/strictmodel/TreeNode$Branch;" .null ∧ Fld Z h a "com/example/strict_model/strictmodel/TreeNode$Linked" "next" "Lcom/example/strict_model/strictmodel/TreeNode$Linked;" .null ∧ Fld Z h a "com/example/strict_model/strictmodel/TreeNode$Linked" "previous" "Lcom/example/strict_model/strictmodel/TreeNode$Linked;" .null
theorem own_E.keep {Z : State} {h h' : Heap} {a : Addr} {ws : List Addr} (F : own_E Z h a) (K : Keep h h' ws) : own_E Z h' a := F.imp (·.keep K) (·.keep K)
theorem own_E.wr {Z : State} {h h' : Heap} {a b : Addr} {sl : Nat} {v : Value} (F : own_E Z h a) (W : Wr h h' b sl v) : own_E Z h' a := F.imp (·.wr W) (·.wr W)
theorem own_E.lt {Z : State} {h : Heap} {a : Addr} (F : own_E Z h a) : a < h.size := F.elim (·.lt) (·.lt)
theorem own_N.keep {Z : State} {h h' : Heap} {a : Addr} (F : own_N Z h a) (K : Keep h h' []) : own_N Z h' a := ⟨F.1.keep K, F.2.1.keep K (by simp), F.2.2.1.keep K (by simp), F.2.2.2.keep K (by simp)⟩

theorem own_put_parent {Z : State} {a0 : Array Value} (hw : ∀ d ∈ tables_1, d.before a0 Z = true) {h : Heap} {a : Addr} (E : own_E Z h a) : PutOk Z a0 h a "com/example/strict_model/strictmodel/TreeNode$Linked" "parent" "Lcom/example/strict_model/strictmodel/TreeNode$Branch;" := by
  rcases E with E | E
  · exact ⟨_, _, E, (hw _ (List.mem_of_getElem? (i := 74) rfl)), (hw _ (List.mem_of_getElem? (i := 1) rfl))⟩
  · exact ⟨_, _, E, (hw _ (List.mem_of_getElem? (i := 72) rfl)), (hw _ (List.mem_of_getElem? (i := 29) rfl))⟩
theorem own_put_next {Z : State} {a0 : Array Value} (hw : ∀ d ∈ tables_1, d.before a0 Z = true) {h : Heap} {a : Addr} (E : own_E Z h a) : PutOk Z a0 h a "com/example/strict_model/strictmodel/TreeNode$Linked" "next" "Lcom/example/strict_model/strictmodel/TreeNode$Linked;" := by
  rcases E with E | E
  · exact ⟨_, _, E, (hw _ (List.mem_of_getElem? (i := 91) rfl)), (hw _ (List.mem_of_getElem? (i := 1) rfl))⟩
  · exact ⟨_, _, E, (hw _ (List.mem_of_getElem? (i := 87) rfl)), (hw _ (List.mem_of_getElem? (i := 29) rfl))⟩
theorem own_put_previous {Z : State} {a0 : Array Value} (hw : ∀ d ∈ tables_1, d.before a0 Z = true) {h : Heap} {a : Addr} (E : own_E Z h a) : PutOk Z a0 h a "com/example/strict_model/strictmodel/TreeNode$Linked" "previous" "Lcom/example/strict_model/strictmodel/TreeNode$Linked;" := by
  rcases E with E | E
  · exact ⟨_, _, E, (hw _ (List.mem_of_getElem? (i := 88) rfl)), (hw _ (List.mem_of_getElem? (i := 1) rfl))⟩
  · exact ⟨_, _, E, (hw _ (List.mem_of_getElem? (i := 85) rfl)), (hw _ (List.mem_of_getElem? (i := 29) rfl))⟩
theorem own_put_first {Z : State} {a0 : Array Value} (hw : ∀ d ∈ tables_1, d.before a0 Z = true) {h : Heap} {a : Addr} (E : Exa Z h a "com/example/strict_model/strictmodel/TreeNode$Root") : PutOk Z a0 h a "com/example/strict_model/strictmodel/TreeNode$Branch" "first" "Lcom/example/strict_model/strictmodel/TreeNode$Linked;" := ⟨_, _, E, (hw _ (List.mem_of_getElem? (i := 83) rfl)), (hw _ (List.mem_of_getElem? (i := 1) rfl))⟩
theorem own_sl_parent_next {Z : State} {a0 : Array Value} (hw : ∀ d ∈ tables_1, d.before a0 Z = true) : Jvm.RoadKit.slotOf Z "com/example/strict_model/strictmodel/TreeNode$Linked" "parent" "Lcom/example/strict_model/strictmodel/TreeNode$Branch;" ≠ Jvm.RoadKit.slotOf Z "com/example/strict_model/strictmodel/TreeNode$Linked" "next" "Lcom/example/strict_model/strictmodel/TreeNode$Linked;" := slot_ne (C := "com/example/strict_model/strictmodel/TreeNode$Root") (Or.inl (hw _ (List.mem_of_getElem? (i := 74) rfl))) (Or.inl (hw _ (List.mem_of_getElem? (i := 91) rfl))) (by decide) (t := .object "com/example/strict_model/strictmodel/TreeNode$Branch") (by decide) (t' := .object "com/example/strict_model/strictmodel/TreeNode$Linked") (by decide)
theorem own_sl_parent_previous {Z : State} {a0 : Array Value} (hw : ∀ d ∈ tables_1, d.before a0 Z = true) : Jvm.RoadKit.slotOf Z "com/example/strict_model/strictmodel/TreeNode$Linked" "parent" "Lcom/example/strict_model/strictmodel/TreeNode$Branch;" ≠ Jvm.RoadKit.slotOf Z "com/example/strict_model/strictmodel/TreeNode$Linked" "previous" "Lcom/example/strict_model/strictmodel/TreeNode$Linked;" := slot_ne (C := "com/example/strict_model/strictmodel/TreeNode$Root") (Or.inl (hw _ (List.mem_of_getElem? (i := 74) rfl))) (Or.inl (hw _ (List.mem_of_getElem? (i := 88) rfl))) (by decide) (t := .object "com/example/strict_model/strictmodel/TreeNode$Branch") (by decide) (t' := .object "com/example/strict_model/strictmodel/TreeNode$Linked") (by decide)
theorem own_sl_parent_first {Z : State} {a0 : Array Value} (hw : ∀ d ∈ tables_1, d.before a0 Z = true) : Jvm.RoadKit.slotOf Z "com/example/strict_model/strictmodel/TreeNode$Linked" "parent" "Lcom/example/strict_model/strictmodel/TreeNode$Branch;" ≠ Jvm.RoadKit.slotOf Z "com/example/strict_model/strictmodel/TreeNode$Branch" "first" "Lcom/example/strict_model/strictmodel/TreeNode$Linked;" := slot_ne (C := "com/example/strict_model/strictmodel/TreeNode$Root") (Or.inl (hw _ (List.mem_of_getElem? (i := 74) rfl))) (Or.inl (hw _ (List.mem_of_getElem? (i := 83) rfl))) (by decide) (t := .object "com/example/strict_model/strictmodel/TreeNode$Branch") (by decide) (t' := .object "com/example/strict_model/strictmodel/TreeNode$Linked") (by decide)
theorem own_sl_next_parent {Z : State} {a0 : Array Value} (hw : ∀ d ∈ tables_1, d.before a0 Z = true) : Jvm.RoadKit.slotOf Z "com/example/strict_model/strictmodel/TreeNode$Linked" "next" "Lcom/example/strict_model/strictmodel/TreeNode$Linked;" ≠ Jvm.RoadKit.slotOf Z "com/example/strict_model/strictmodel/TreeNode$Linked" "parent" "Lcom/example/strict_model/strictmodel/TreeNode$Branch;" := slot_ne (C := "com/example/strict_model/strictmodel/TreeNode$Root") (Or.inl (hw _ (List.mem_of_getElem? (i := 91) rfl))) (Or.inl (hw _ (List.mem_of_getElem? (i := 74) rfl))) (by decide) (t := .object "com/example/strict_model/strictmodel/TreeNode$Linked") (by decide) (t' := .object "com/example/strict_model/strictmodel/TreeNode$Branch") (by decide)
theorem own_sl_next_previous {Z : State} {a0 : Array Value} (hw : ∀ d ∈ tables_1, d.before a0 Z = true) : Jvm.RoadKit.slotOf Z "com/example/strict_model/strictmodel/TreeNode$Linked" "next" "Lcom/example/strict_model/strictmodel/TreeNode$Linked;" ≠ Jvm.RoadKit.slotOf Z "com/example/strict_model/strictmodel/TreeNode$Linked" "previous" "Lcom/example/strict_model/strictmodel/TreeNode$Linked;" := slot_ne (C := "com/example/strict_model/strictmodel/TreeNode$Root") (Or.inl (hw _ (List.mem_of_getElem? (i := 91) rfl))) (Or.inl (hw _ (List.mem_of_getElem? (i := 88) rfl))) (by decide) (t := .object "com/example/strict_model/strictmodel/TreeNode$Linked") (by decide) (t' := .object "com/example/strict_model/strictmodel/TreeNode$Linked") (by decide)
theorem own_sl_next_first {Z : State} {a0 : Array Value} (hw : ∀ d ∈ tables_1, d.before a0 Z = true) : Jvm.RoadKit.slotOf Z "com/example/strict_model/strictmodel/TreeNode$Linked" "next" "Lcom/example/strict_model/strictmodel/TreeNode$Linked;" ≠ Jvm.RoadKit.slotOf Z "com/example/strict_model/strictmodel/TreeNode$Branch" "first" "Lcom/example/strict_model/strictmodel/TreeNode$Linked;" := slot_ne (C := "com/example/strict_model/strictmodel/TreeNode$Root") (Or.inl (hw _ (List.mem_of_getElem? (i := 91) rfl))) (Or.inl (hw _ (List.mem_of_getElem? (i := 83) rfl))) (by decide) (t := .object "com/example/strict_model/strictmodel/TreeNode$Linked") (by decide) (t' := .object "com/example/strict_model/strictmodel/TreeNode$Linked") (by decide)
theorem own_sl_previous_parent {Z : State} {a0 : Array Value} (hw : ∀ d ∈ tables_1, d.before a0 Z = true) : Jvm.RoadKit.slotOf Z "com/example/strict_model/strictmodel/TreeNode$Linked" "previous" "Lcom/example/strict_model/strictmodel/TreeNode$Linked;" ≠ Jvm.RoadKit.slotOf Z "com/example/strict_model/strictmodel/TreeNode$Linked" "parent" "Lcom/example/strict_model/strictmodel/TreeNode$Branch;" := slot_ne (C := "com/example/strict_model/strictmodel/TreeNode$Root") (Or.inl (hw _ (List.mem_of_getElem? (i := 88) rfl))) (Or.inl (hw _ (List.mem_of_getElem? (i := 74) rfl))) (by decide) (t := .object "com/example/strict_model/strictmodel/TreeNode$Linked") (by decide) (t' := .object "com/example/strict_model/strictmodel/TreeNode$Branch") (by decide)
theorem own_sl_previous_next {Z : State} {a0 : Array Value} (hw : ∀ d ∈ tables_1, d.before a0 Z = true) : Jvm.RoadKit.slotOf Z "com/example/strict_model/strictmodel/TreeNode$Linked" "previous" "Lcom/example/strict_model/strictmodel/TreeNode$Linked;" ≠ Jvm.RoadKit.slotOf Z "com/example/strict_model/strictmodel/TreeNode$Linked" "next" "Lcom/example/strict_model/strictmodel/TreeNode$Linked;" := slot_ne (C := "com/example/strict_model/strictmodel/TreeNode$Root") (Or.inl (hw _ (List.mem_of_getElem? (i := 88) rfl))) (Or.inl (hw _ (List.mem_of_getElem? (i := 91) rfl))) (by decide) (t := .object "com/example/strict_model/strictmodel/TreeNode$Linked") (by decide) (t' := .object "com/example/strict_model/strictmodel/TreeNode$Linked") (by decide)
theorem own_sl_previous_first {Z : State} {a0 : Array Value} (hw : ∀ d ∈ tables_1, d.before a0 Z = true) : Jvm.RoadKit.slotOf Z "com/example/strict_model/strictmodel/TreeNode$Linked" "previous" "Lcom/example/strict_model/strictmodel/TreeNode$Linked;" ≠ Jvm.RoadKit.slotOf Z "com/example/strict_model/strictmodel/TreeNode$Branch" "first" "Lcom/example/strict_model/strictmodel/TreeNode$Linked;" := slot_ne (C := "com/example/strict_model/strictmodel/TreeNode$Root") (Or.inl (hw _ (List.mem_of_getElem? (i := 88) rfl))) (Or.inl (hw _ (List.mem_of_getElem? (i := 83) rfl))) (by decide) (t := .object "com/example/strict_model/strictmodel/TreeNode$Linked") (by decide) (t' := .object "com/example/strict_model/strictmodel/TreeNode$Linked") (by decide)
theorem own_sl_first_parent {Z : State} {a0 : Array Value} (hw : ∀ d ∈ tables_1, d.before a0 Z = true) : Jvm.RoadKit.slotOf Z "com/example/strict_model/strictmodel/TreeNode$Branch" "first" "Lcom/example/strict_model/strictmodel/TreeNode$Linked;" ≠ Jvm.RoadKit.slotOf Z "com/example/strict_model/strictmodel/TreeNode$Linked" "parent" "Lcom/example/strict_model/strictmodel/TreeNode$Branch;" := slot_ne (C := "com/example/strict_model/strictmodel/TreeNode$Root") (Or.inl (hw _ (List.mem_of_getElem? (i := 83) rfl))) (Or.inl (hw _ (List.mem_of_getElem? (i := 74) rfl))) (by decide) (t := .object "com/example/strict_model/strictmodel/TreeNode$Linked") (by decide) (t' := .object "com/example/strict_model/strictmodel/TreeNode$Branch") (by decide)
theorem own_sl_first_next {Z : State} {a0 : Array Value} (hw : ∀ d ∈ tables_1, d.before a0 Z = true) : Jvm.RoadKit.slotOf Z "com/example/strict_model/strictmodel/TreeNode$Branch" "first" "Lcom/example/strict_model/strictmodel/TreeNode$Linked;" ≠ Jvm.RoadKit.slotOf Z "com/example/strict_model/strictmodel/TreeNode$Linked" "next" "Lcom/example/strict_model/strictmodel/TreeNode$Linked;" := slot_ne (C := "com/example/strict_model/strictmodel/TreeNode$Root") (Or.inl (hw _ (List.mem_of_getElem? (i := 83) rfl))) (Or.inl (hw _ (List.mem_of_getElem? (i := 91) rfl))) (by decide) (t := .object "com/example/strict_model/strictmodel/TreeNode$Linked") (by decide) (t' := .object "com/example/strict_model/strictmodel/TreeNode$Linked") (by decide)
theorem own_sl_first_previous {Z : State} {a0 : Array Value} (hw : ∀ d ∈ tables_1, d.before a0 Z = true) : Jvm.RoadKit.slotOf Z "com/example/strict_model/strictmodel/TreeNode$Branch" "first" "Lcom/example/strict_model/strictmodel/TreeNode$Linked;" ≠ Jvm.RoadKit.slotOf Z "com/example/strict_model/strictmodel/TreeNode$Linked" "previous" "Lcom/example/strict_model/strictmodel/TreeNode$Linked;" := slot_ne (C := "com/example/strict_model/strictmodel/TreeNode$Root") (Or.inl (hw _ (List.mem_of_getElem? (i := 83) rfl))) (Or.inl (hw _ (List.mem_of_getElem? (i := 88) rfl))) (by decide) (t := .object "com/example/strict_model/strictmodel/TreeNode$Linked") (by decide) (t' := .object "com/example/strict_model/strictmodel/TreeNode$Linked") (by decide)
theorem own_sl_parent_data {Z : State} {a0 : Array Value} (hw : ∀ d ∈ tables_1, d.before a0 Z = true) : Jvm.RoadKit.slotOf Z "com/example/strict_model/strictmodel/TreeNode$Linked" "parent" "Lcom/example/strict_model/strictmodel/TreeNode$Branch;" ≠ Jvm.RoadKit.slotOf Z "com/example/strict_model/strictmodel/TreeNode$Characters" "data" "Ljava/lang/String;" := slot_ne (C := "com/example/strict_model/strictmodel/TreeNode$TextNode") (Or.inl (hw _ (List.mem_of_getElem? (i := 72) rfl))) (Or.inr (hw _ (List.mem_of_getElem? (i := 65) rfl))) (by decide) (t := .object "com/example/strict_model/strictmodel/TreeNode$Branch") (by decide) (t' := .object "java/lang/String") (by decide)
theorem own_sl_next_data {Z : State} {a0 : Array Value} (hw : ∀ d ∈ tables_1, d.before a0 Z = true) : Jvm.RoadKit.slotOf Z "com/example/strict_model/strictmodel/TreeNode$Linked" "next" "Lcom/example/strict_model/strictmodel/TreeNode$Linked;" ≠ Jvm.RoadKit.slotOf Z "com/example/strict_model/strictmodel/TreeNode$Characters" "data" "Ljava/lang/String;" := slot_ne (C := "com/example/strict_model/strictmodel/TreeNode$TextNode") (Or.inl (hw _ (List.mem_of_getElem? (i := 87) rfl))) (Or.inr (hw _ (List.mem_of_getElem? (i := 65) rfl))) (by decide) (t := .object "com/example/strict_model/strictmodel/TreeNode$Linked") (by decide) (t' := .object "java/lang/String") (by decide)
theorem own_sl_previous_data {Z : State} {a0 : Array Value} (hw : ∀ d ∈ tables_1, d.before a0 Z = true) : Jvm.RoadKit.slotOf Z "com/example/strict_model/strictmodel/TreeNode$Linked" "previous" "Lcom/example/strict_model/strictmodel/TreeNode$Linked;" ≠ Jvm.RoadKit.slotOf Z "com/example/strict_model/strictmodel/TreeNode$Characters" "data" "Ljava/lang/String;" := slot_ne (C := "com/example/strict_model/strictmodel/TreeNode$TextNode") (Or.inl (hw _ (List.mem_of_getElem? (i := 85) rfl))) (Or.inr (hw _ (List.mem_of_getElem? (i := 65) rfl))) (by decide) (t := .object "com/example/strict_model/strictmodel/TreeNode$Linked") (by decide) (t' := .object "java/lang/String") (by decide)
theorem d4_0 : Dec prog_31_method_1_code 0 (.aload_n 0) 1 1 := ⟨by decide +kernel, rfl⟩
theorem d4_1 : Dec prog_31_method_1_code 1 (.invokespecial 1) 3 4 := ⟨by decide +kernel, rfl⟩
theorem d4_4 : Dec prog_31_method_1_code 4 (.return_) 1 5 := ⟨by decide +kernel, rfl⟩
theorem pn4 : plainName "com/example/strict_model/strictmodel/TreeNode" = true := by first | (simp [plainName, overriddenIn]; done) | decide +kernel
theorem ef4 (x0 : Addr) (m : MethodId) : entryFrame m #[(.ref x0)] 1 = mkF m 0 #[.val (.ref x0)] [] := by first | (simp [entryFrame, mkF, argsToLocals, Value.category, maxLocals]; done) | rfl
set_option maxRecDepth 65536 in
set_option maxHeartbeats 40000000 in
theorem rm4 (l : Launch) (Z : State) (a0 : Array Value) (hw : ∀ d ∈ tables_1, d.before a0 Z = true) (ws : List Jvm.Cond) (a : Addr) (h0 : Heap)  : Ct l Z (⟨"com/example/strict_model/strictmodel/TreeNode", "<init>", "()V"⟩ : MethodName) prog_31_method_1_code 1 none ws ({ frames := 1, cells := 0, slots := 0, locals := 12 } : Room) #[(.ref a)] h0 (QV h0) := by
  refine Ct.of (pn4) _ (ef4 a) ?_
  intro p e s m below meth c T0 hx hby hml hZ hown hnm hret hk e0 X0
  show Go p e below _ (T0.setTop (mkF m 0 #[.val (.ref a)] []))
  refine go_aloadn X0 hx (dc hby d4_0) (v := (.ref a)) rfl rfl ?_
  refine go_initO X0 hx hZ hown (hw _ (List.mem_of_getElem? (i := 21) rfl)) (hw _ (List.mem_of_getElem? (i := 22) rfl)) (hw _ (List.mem_of_getElem? (i := 23) rfl)) e0 (by rw [hml]; rfl) (dc hby d4_1) (by decide) 0 (Nat.le_of_eq rfl) (by decide) (fun T1 X1 e1 => ?_)
  exact go_retV X1 hx hret (dc hby d4_4) hk (by decide) (by decide) ⟨rfl, e1, rfl⟩
theorem pd4 : parseMethodDescriptor "()V" = some ⟨[], none⟩ := by decide +kernel
theorem d3_0 : Dec prog_38_method_1_code 0 (.aload_n 0) 1 1 := ⟨by decide +kernel, rfl⟩
theorem d3_1 : Dec prog_38_method_1_code 1 (.invokespecial 1) 3 4 := ⟨by decide +kernel, rfl⟩
theorem d3_4 : Dec prog_38_method_1_code 4 (.return_) 1 5 := ⟨by decide +kernel, rfl⟩
theorem pn3 : plainName "com/example/strict_model/strictmodel/TreeNode$Linked" = true := by first | (simp [plainName, overriddenIn]; done) | decide +kernel
theorem ef3 (x0 : Addr) (m : MethodId) : entryFrame m #[(.ref x0)] 1 = mkF m 0 #[.val (.ref x0)] [] := by first | (simp [entryFrame, mkF, argsToLocals, Value.category, maxLocals]; done) | rfl
set_option maxRecDepth 65536 in
set_option maxHeartbeats 40000000 in
theorem rm3 (l : Launch) (Z : State) (a0 : Array Value) (hw : ∀ d ∈ tables_1, d.before a0 Z = true) (ws : List Jvm.Cond) (a : Addr) (h0 : Heap)  : Ct l Z (⟨"com/example/strict_model/strictmodel/TreeNode$Linked", "<init>", "()V"⟩ : MethodName) prog_38_method_1_code 1 none ws ({ frames := 2, cells := 0, slots := 0, locals := 24 } : Room) #[(.ref a)] h0 (QV h0) := by
  refine Ct.of (pn3) _ (ef3 a) ?_
  intro p e s m below meth c T0 hx hby hml hZ hown hnm hret hk e0 X0
  show Go p e below _ (T0.setTop (mkF m 0 #[.val (.ref a)] []))
  refine go_aloadn X0 hx (dc hby d3_0) (v := (.ref a)) rfl rfl ?_
  refine go_specialP X0 hx hZ rfl hown (hw _ (List.mem_of_getElem? (i := 16) rfl)) (hw _ (List.mem_of_getElem? (i := 17) rfl)) (hw _ (List.mem_of_getElem? (i := 19) rfl)) (hw _ (List.mem_of_getElem? (i := 20) rfl)) (by decide) e0 (a := a) [] [] (rm4 l Z a0 hw [] a h0) pd4 rfl (by rw [hml]; rfl) rfl 0 (Nat.le_of_eq rfl) (by decide) (by decide) rfl rfl (by decide) (by decide) (dc hby d3_1) (fun T1 X1 e1 => ?_)
  exact go_retV X1 hx hret (dc hby d3_4) hk (by decide) (by decide) ⟨rfl, e1, rfl⟩
theorem pd3 : parseMethodDescriptor "()V" = some ⟨[], none⟩ := by decide +kernel
theorem d2_0 : Dec prog_34_method_1_code 0 (.aload_n 0) 1 1 := ⟨by decide +kernel, rfl⟩
theorem d2_1 : Dec prog_34_method_1_code 1 (.invokespecial 1) 3 4 := ⟨by decide +kernel, rfl⟩
theorem d2_4 : Dec prog_34_method_1_code 4 (.return_) 1 5 := ⟨by decide +kernel, rfl⟩
theorem pn2 : plainName "com/example/strict_model/strictmodel/TreeNode$Branch" = true := by first | (simp [plainName, overriddenIn]; done) | decide +kernel
theorem ef2 (x0 : Addr) (m : MethodId) : entryFrame m #[(.ref x0)] 1 = mkF m 0 #[.val (.ref x0)] [] := by first | (simp [entryFrame, mkF, argsToLocals, Value.category, maxLocals]; done) | rfl
set_option maxRecDepth 65536 in
set_option maxHeartbeats 40000000 in
theorem rm2 (l : Launch) (Z : State) (a0 : Array Value) (hw : ∀ d ∈ tables_1, d.before a0 Z = true) (ws : List Jvm.Cond) (a : Addr) (h0 : Heap)  : Ct l Z (⟨"com/example/strict_model/strictmodel/TreeNode$Branch", "<init>", "()V"⟩ : MethodName) prog_34_method_1_code 1 none ws ({ frames := 3, cells := 0, slots := 0, locals := 36 } : Room) #[(.ref a)] h0 (QV h0) := by
  refine Ct.of (pn2) _ (ef2 a) ?_
  intro p e s m below meth c T0 hx hby hml hZ hown hnm hret hk e0 X0
  show Go p e below _ (T0.setTop (mkF m 0 #[.val (.ref a)] []))
  refine go_aloadn X0 hx (dc hby d2_0) (v := (.ref a)) rfl rfl ?_
  refine go_specialP X0 hx hZ rfl hown (hw _ (List.mem_of_getElem? (i := 11) rfl)) (hw _ (List.mem_of_getElem? (i := 12) rfl)) (hw _ (List.mem_of_getElem? (i := 14) rfl)) (hw _ (List.mem_of_getElem? (i := 15) rfl)) (by decide) e0 (a := a) [] [] (rm3 l Z a0 hw [] a h0) pd3 rfl (by rw [hml]; rfl) rfl 0 (Nat.le_of_eq rfl) (by decide) (by decide) rfl rfl (by decide) (by decide) (dc hby d2_1) (fun T1 X1 e1 => ?_)
  exact go_retV X1 hx hret (dc hby d2_4) hk (by decide) (by decide) ⟨rfl, e1, rfl⟩
theorem pd2 : parseMethodDescriptor "()V" = some ⟨[], none⟩ := by decide +kernel
theorem d1_0 : Dec prog_40_method_1_code 0 (.aload_n 0) 1 1 := ⟨by decide +kernel, rfl⟩
theorem d1_1 : Dec prog_40_method_1_code 1 (.invokespecial 1) 3 4 := ⟨by decide +kernel, rfl⟩
theorem d1_4 : Dec prog_40_method_1_code 4 (.return_) 1 5 := ⟨by decide +kernel, rfl⟩
theorem pn1 : plainName "com/example/strict_model/strictmodel/TreeNode$Root" = true := by first | (simp [plainName, overriddenIn]; done) | decide +kernel
theorem ef1 (x0 : Addr) (m : MethodId) : entryFrame m #[(.ref x0)] 1 = mkF m 0 #[.val (.ref x0)] [] := by first | (simp [entryFrame, mkF, argsToLocals, Value.category, maxLocals]; done) | rfl
set_option maxRecDepth 65536 in
set_option maxHeartbeats 40000000 in
theorem rm1 (l : Launch) (Z : State) (a0 : Array Value) (hw : ∀ d ∈ tables_1, d.before a0 Z = true) (ws : List Jvm.Cond) (a : Addr) (h0 : Heap)  : Ct l Z (⟨"com/example/strict_model/strictmodel/TreeNode$Root", "<init>", "()V"⟩ : MethodName) prog_40_method_1_code 1 none ws ({ frames := 4, cells := 0, slots := 0, locals := 48 } : Room) #[(.ref a)] h0 (QV h0) := by
  refine Ct.of (pn1) _ (ef1 a) ?_
  intro p e s m below meth c T0 hx hby hml hZ hown hnm hret hk e0 X0
  show Go p e below _ (T0.setTop (mkF m 0 #[.val (.ref a)] []))
  refine go_aloadn X0 hx (dc hby d1_0) (v := (.ref a)) rfl rfl ?_
  refine go_specialP X0 hx hZ rfl hown (hw _ (List.mem_of_getElem? (i := 6) rfl)) (hw _ (List.mem_of_getElem? (i := 7) rfl)) (hw _ (List.mem_of_getElem? (i := 9) rfl)) (hw _ (List.mem_of_getElem? (i := 10) rfl)) (by decide) e0 (a := a) [] [] (rm2 l Z a0 hw [] a h0) pd2 rfl (by rw [hml]; rfl) rfl 0 (Nat.le_of_eq rfl) (by decide) (by decide) rfl rfl (by decide) (by decide) (dc hby d1_1) (fun T1 X1 e1 => ?_)
  exact go_retV X1 hx hret (dc hby d1_4) hk (by decide) (by decide) ⟨rfl, e1, rfl⟩
theorem pd1 : parseMethodDescriptor "()V" = some ⟨[], none⟩ := by decide +kernel
theorem d12_0 : Dec prog_35_method_1_code 0 (.aload_n 0) 1 1 := ⟨by decide +kernel, rfl⟩
theorem d12_1 : Dec prog_35_method_1_code 1 (.invokespecial 1) 3 4 := ⟨by decide +kernel, rfl⟩
theorem d12_4 : Dec prog_35_method_1_code 4 (.aload_n 0) 1 5 := ⟨by decide +kernel, rfl⟩
theorem d12_5 : Dec prog_35_method_1_code 5 (.aload_n 1) 1 6 := ⟨by decide +kernel, rfl⟩
theorem d12_6 : Dec prog_35_method_1_code 6 (.putfield 7) 3 9 := ⟨by decide +kernel, rfl⟩
theorem d12_9 : Dec prog_35_method_1_code 9 (.return_) 1 10 := ⟨by decide +kernel, rfl⟩
theorem pn12 : plainName "com/example/strict_model/strictmodel/TreeNode$Characters" = true := by first | (simp [plainName, overriddenIn]; done) | decide +kernel
theorem ef12 (x0 : Addr) (x1 : Addr) (m : MethodId) : entryFrame m #[(.ref x0), (.ref x1)] 2 = mkF m 0 #[.val (.ref x0), .val (.ref x1)] [] := by first | (simp [entryFrame, mkF, argsToLocals, Value.category, maxLocals]; done) | rfl
set_option maxRecDepth 65536 in
set_option maxHeartbeats 40000000 in
theorem rm12 (l : Launch) (Z : State) (a0 : Array Value) (hw : ∀ d ∈ tables_1, d.before a0 Z = true) (ws : List Jvm.Cond) (a b : Addr) (h0 : Heap) (E : Exa Z h0 a "com/example/strict_model/strictmodel/TreeNode$TextNode") (F : Fld Z h0 a "com/example/strict_model/strictmodel/TreeNode$Characters" "data" "Ljava/lang/String;" .null) : Ct l Z (⟨"com/example/strict_model/strictmodel/TreeNode$Characters", "<init>", "(Ljava/lang/String;)V"⟩ : MethodName) prog_35_method_1_code 2 none ws ({ frames := 3, cells := 0, slots := 0, locals := 36 } : Room) #[(.ref a), (.ref b)] h0 (fun v h L => v = none ∧ Wr h0 h a (Jvm.RoadKit.slotOf Z "com/example/strict_model/strictmodel/TreeNode$Characters" "data" "Ljava/lang/String;") (.ref b) ∧ (∀ y ∈ L, y.base = a)) := by
  refine Ct.of (pn12) _ (ef12 a b) ?_
  intro p e s m below meth c T0 hx hby hml hZ hown hnm hret hk e0 X0
  show Go p e below _ (T0.setTop (mkF m 0 #[.val (.ref a), .val (.ref b)] []))
  refine go_aloadn X0 hx (dc hby d12_0) (v := (.ref a)) rfl rfl ?_
  refine go_specialP X0 hx hZ rfl hown (hw _ (List.mem_of_getElem? (i := 63) rfl)) (hw _ (List.mem_of_getElem? (i := 12) rfl)) (hw _ (List.mem_of_getElem? (i := 14) rfl)) (hw _ (List.mem_of_getElem? (i := 15) rfl)) (by decide) e0 (a := a) [] [] (rm3 l Z a0 hw [] a h0) pd3 rfl (by rw [hml]; rfl) rfl 0 (Nat.le_of_eq rfl) (by decide) (by decide) rfl rfl (by decide) (by decide) (dc hby d12_1) (fun T1 X1 e1 => ?_)
  refine go_aloadn X1 hx (dc hby d12_4) (v := (.ref a)) rfl rfl ?_
  refine go_aloadn X1 hx (dc hby d12_5) (v := (.ref b)) rfl rfl ?_
  refine go_putF X1 hx hZ (host := "") hown (Or.inl (hw _ (List.mem_of_getElem? (i := 64) rfl))) Via.refl e1 F E (Or.inr ⟨(hw _ (List.mem_of_getElem? (i := 65) rfl)), rfl, hnm⟩) (hw _ (List.mem_of_getElem? (i := 29) rfl)) (ty := .object "java/lang/String") (by decide) rfl rfl (dc hby d12_6) (fun T2 h2 X2 e2 W2 => ?_)
  subst e2
  exact go_retV X2 hx hret (dc hby d12_9) hk (by decide) (by decide) ⟨rfl, W2, fun y hy => by simp at hy; rw [hy]⟩
theorem pd12 : parseMethodDescriptor "(Ljava/lang/String;)V" = some ⟨[(.object "java/lang/String")], none⟩ := by decide +kernel
theorem d11_0 : Dec prog_41_method_1_code 0 (.aload_n 0) 1 1 := ⟨by decide +kernel, rfl⟩
theorem d11_1 : Dec prog_41_method_1_code 1 (.aload_n 1) 1 2 := ⟨by decide +kernel, rfl⟩
theorem d11_2 : Dec prog_41_method_1_code 2 (.invokespecial 1) 3 5 := ⟨by decide +kernel, rfl⟩
theorem d11_5 : Dec prog_41_method_1_code 5 (.return_) 1 6 := ⟨by decide +kernel, rfl⟩
theorem pn11 : plainName "com/example/strict_model/strictmodel/TreeNode$TextNode" = true := by first | (simp [plainName, overriddenIn]; done) | decide +kernel
theorem ef11 (x0 : Addr) (x1 : Addr) (m : MethodId) : entryFrame m #[(.ref x0), (.ref x1)] 2 = mkF m 0 #[.val (.ref x0), .val (.ref x1)] [] := by first | (simp [entryFrame, mkF, argsToLocals, Value.category, maxLocals]; done) | rfl
set_option maxRecDepth 65536 in
set_option maxHeartbeats 40000000 in
theorem rm11 (l : Launch) (Z : State) (a0 : Array Value) (hw : ∀ d ∈ tables_1, d.before a0 Z = true) (ws : List Jvm.Cond) (a b : Addr) (h0 : Heap) (E : Exa Z h0 a "com/example/strict_model/strictmodel/TreeNode$TextNode") (F : Fld Z h0 a "com/example/strict_model/strictmodel/TreeNode$Characters" "data" "Ljava/lang/String;" .null) : Ct l Z (⟨"com/example/strict_model/strictmodel/TreeNode$TextNode", "<init>", "(Ljava/lang/String;)V"⟩ : MethodName) prog_41_method_1_code 2 none ws ({ frames := 4, cells := 0, slots := 0, locals := 49 } : Room) #[(.ref a), (.ref b)] h0 (fun v h L => v = none ∧ Wr h0 h a (Jvm.RoadKit.slotOf Z "com/example/strict_model/strictmodel/TreeNode$Characters" "data" "Ljava/lang/String;") (.ref b) ∧ (∀ y ∈ L, y.base = a)) := by
  refine Ct.of (pn11) _ (ef11 a b) ?_
  intro p e s m below meth c T0 hx hby hml hZ hown hnm hret hk e0 X0
  show Go p e below _ (T0.setTop (mkF m 0 #[.val (.ref a), .val (.ref b)] []))
  refine go_aloadn X0 hx (dc hby d11_0) (v := (.ref a)) rfl rfl ?_
  refine go_aloadn X0 hx (dc hby d11_1) (v := (.ref b)) rfl rfl ?_
  refine go_special X0 hx hZ rfl hown (hw _ (List.mem_of_getElem? (i := 58) rfl)) (hw _ (List.mem_of_getElem? (i := 59) rfl)) (hw _ (List.mem_of_getElem? (i := 61) rfl)) (hw _ (List.mem_of_getElem? (i := 62) rfl)) (by decide) e0 (a := a) [(.ref b)] [] (rm12 l Z a0 hw [] a b h0 E F) pd12 rfl (by rw [hml]; rfl) rfl 0 (Nat.le_of_eq rfl) (by decide) (by decide) (by decide) (by decide) (dc hby d11_2) (fun T1 v1 L1 X1 hQ1 => ?_)
  obtain ⟨rfl, W1, N1⟩ := hQ1
  show Go p e below _ (T1.setTop (mkF m 5 #[.val (.ref a), .val (.ref b)] []))
  exact go_retV X1 hx hret (dc hby d11_5) hk (by decide) (by decide) ⟨rfl, W1, fun y hy => N1 y (by simpa using hy)⟩
theorem pd11 : parseMethodDescriptor "(Ljava/lang/String;)V" = some ⟨[(.object "java/lang/String")], none⟩ := by decide +kernel
theorem d10_0 : Dec jdk_42_method_151_code 0 (.aload_n 0) 1 1 := ⟨by decide +kernel, rfl⟩
theorem d10_1 : Dec jdk_42_method_151_code 1 (.invokespecial 1) 3 4 := ⟨by decide +kernel, rfl⟩
theorem d10_4 : Dec jdk_42_method_151_code 4 (.aload_n 0) 1 5 := ⟨by decide +kernel, rfl⟩
theorem d10_5 : Dec jdk_42_method_151_code 5 (.aload_n 1) 1 6 := ⟨by decide +kernel, rfl⟩
theorem d10_6 : Dec jdk_42_method_151_code 6 (.putfield 9) 3 9 := ⟨by decide +kernel, rfl⟩
theorem d10_9 : Dec jdk_42_method_151_code 9 (.aload_n 0) 1 10 := ⟨by decide +kernel, rfl⟩
theorem d10_10 : Dec jdk_42_method_151_code 10 (.iload_n 2) 1 11 := ⟨by decide +kernel, rfl⟩
theorem d10_11 : Dec jdk_42_method_151_code 11 (.putfield 15) 3 14 := ⟨by decide +kernel, rfl⟩
theorem d10_14 : Dec jdk_42_method_151_code 14 (.return_) 1 15 := ⟨by decide +kernel, rfl⟩
theorem pn10 : plainName "java/lang/String" = true := by first | (simp [plainName, overriddenIn]; done) | decide +kernel
theorem ef10 (x0 : Addr) (x1 : Addr) (x2 : Int32) (m : MethodId) : entryFrame m #[(.ref x0), (.ref x1), (.int x2)] 3 = mkF m 0 #[.val (.ref x0), .val (.ref x1), .val (.int x2)] [] := by first | (simp [entryFrame, mkF, argsToLocals, Value.category, maxLocals]; done) | rfl
set_option maxRecDepth 65536 in
set_option maxHeartbeats 40000000 in
theorem rm10 (l : Launch) (Z : State) (a0 : Array Value) (hw : ∀ d ∈ tables_1, d.before a0 Z = true) (ws : List Jvm.Cond) (a b : Addr) (z : Int32) (h0 : Heap) (hz : z = 0) (E : Exa Z h0 a "java/lang/String") (F : Fld Z h0 a "java/lang/String" "value" "[B" .null) (G : Fld Z h0 a "java/lang/String" "coder" "B" (.int 0)) : Ct l Z (⟨"java/lang/String", "<init>", "([BB)V"⟩ : MethodName) jdk_42_method_151_code 3 none ws ({ frames := 1, cells := 0, slots := 0, locals := 12 } : Room) #[(.ref a), (.ref b), (.int z)] h0 (fun v h L => v = none ∧ Keep h0 h [a] ∧ (∀ y ∈ L, y.base = a)) := by
  refine Ct.of (pn10) _ (ef10 a b z) ?_
  intro p e s m below meth c T0 hx hby hml hZ hown hnm hret hk e0 X0
  show Go p e below _ (T0.setTop (mkF m 0 #[.val (.ref a), .val (.ref b), .val (.int z)] []))
  refine go_aloadn X0 hx (dc hby d10_0) (v := (.ref a)) rfl rfl ?_
  refine go_initO X0 hx hZ hown (hw _ (List.mem_of_getElem? (i := 50) rfl)) (hw _ (List.mem_of_getElem? (i := 22) rfl)) (hw _ (List.mem_of_getElem? (i := 23) rfl)) e0 (by rw [hml]; rfl) (dc hby d10_1) (by decide) 0 (Nat.le_of_eq rfl) (by decide) (fun T1 X1 e1 => ?_)
  refine go_aloadn X1 hx (dc hby d10_4) (v := (.ref a)) rfl rfl ?_
  refine go_aloadn X1 hx (dc hby d10_5) (v := (.ref b)) rfl rfl ?_
  refine go_putF X1 hx hZ (host := "") hown (Or.inl (hw _ (List.mem_of_getElem? (i := 51) rfl))) Via.refl e1 F E (Or.inr ⟨(hw _ (List.mem_of_getElem? (i := 52) rfl)), rfl, hnm⟩) (hw _ (List.mem_of_getElem? (i := 41) rfl)) (ty := .array .byte) (by decide) rfl rfl (dc hby d10_6) (fun T2 h2 X2 e2 W2 => ?_)
  refine go_aloadn X2 hx (dc hby d10_9) (v := (.ref a)) rfl rfl ?_
  refine go_iloadn X2 hx (dc hby d10_10) (v := z) rfl ?_
  have G2 : Fld Z h2 a "java/lang/String" "coder" "B" (.int 0) := G.other W2 (Or.inr (slot_ne (C := "java/lang/String") (Or.inr (hw _ (List.mem_of_getElem? (i := 54) rfl))) (Or.inr (hw _ (List.mem_of_getElem? (i := 52) rfl))) (by decide) (t := .byte) (by decide) (t' := .array .byte) (by decide)))
  obtain rfl : z = 0 := hz
  show Go p e below _ (T2.setTop (mkF m 11 #[.val (.ref a), .val (.ref b), .val (.int 0)] [(.int 0), (.ref a)]))
  refine go_putF X2 hx hZ (host := "") hown (Or.inl (hw _ (List.mem_of_getElem? (i := 53) rfl))) Via.refl e2 G2 (E.wr W2) (Or.inr ⟨(hw _ (List.mem_of_getElem? (i := 54) rfl)), rfl, hnm⟩) (hw _ (List.mem_of_getElem? (i := 41) rfl)) (ty := .byte) (by decide) rfl rfl (dc hby d10_11) (fun T3 h3 X3 e3 W3 => ?_)
  subst e3
  exact go_retV X3 hx hret (dc hby d10_14) hk (by decide) (by decide) ⟨rfl, ((Keep.refl _ _).wr W2 (Or.inl (by simp))).wr W3 (Or.inl (by simp)), fun y hy => by simp at hy; rcases hy with rfl | rfl <;> rfl⟩
theorem pd10 : parseMethodDescriptor "([BB)V" = some ⟨[(.array .byte), .byte], none⟩ := by decide +kernel
theorem d9_0 : Dec jdk_43_method_46_code 0 (.iconst 1) 1 1 := ⟨by decide +kernel, rfl⟩
theorem d9_1 : Dec jdk_43_method_46_code 1 (.newarray .byte) 2 3 := ⟨by decide +kernel, rfl⟩
theorem d9_3 : Dec jdk_43_method_46_code 3 (.dup) 1 4 := ⟨by decide +kernel, rfl⟩
theorem d9_4 : Dec jdk_43_method_46_code 4 (.iconst 0) 1 5 := ⟨by decide +kernel, rfl⟩
theorem d9_5 : Dec jdk_43_method_46_code 5 (.iload_n 0) 1 6 := ⟨by decide +kernel, rfl⟩
theorem d9_6 : Dec jdk_43_method_46_code 6 (.i2b) 1 7 := ⟨by decide +kernel, rfl⟩
theorem d9_7 : Dec jdk_43_method_46_code 7 (.bastore) 1 8 := ⟨by decide +kernel, rfl⟩
theorem d9_8 : Dec jdk_43_method_46_code 8 (.areturn) 1 9 := ⟨by decide +kernel, rfl⟩
theorem pn9 : plainName "java/lang/StringLatin1" = true := by first | (simp [plainName, overriddenIn]; done) | decide +kernel
theorem ef9 (x0 : Int32) (m : MethodId) : entryFrame m #[(.int x0)] 1 = mkF m 0 #[.val (.int x0)] [] := by first | (simp [entryFrame, mkF, argsToLocals, Value.category, maxLocals]; done) | rfl
set_option maxRecDepth 65536 in
set_option maxHeartbeats 40000000 in
theorem rm9 (l : Launch) (Z : State) (a0 : Array Value) (hw : ∀ d ∈ tables_1, d.before a0 Z = true) (ws : List Jvm.Cond) (z : Int32) (h0 : Heap)  : Ct l Z (⟨"java/lang/StringLatin1", "toBytes", "(C)[B"⟩ : MethodName) jdk_43_method_46_code 1 (some (.array .byte)) ws ({ frames := 0, cells := 1, slots := 1, locals := 0 } : Room) #[(.int z)] h0 (fun v h L => ∃ b, v = some (.ref b) ∧ Keep h0 h [] ∧ Fr h0.size L) := by
  refine Ct.of (pn9) _ (ef9 z) ?_
  intro p e s m below meth c T0 hx hby hml hZ hown hnm hret hk e0 X0
  show Go p e below _ (T0.setTop (mkF m 0 #[.val (.int z)] []))
  refine go_iconst X0 hx (1) (dc hby d9_0) rfl ?_
  refine go_newP X0 hx hZ (hw _ (List.mem_of_getElem? (i := 45) rfl)) e0 (dc hby d9_1) (by decide) 1 (by decide) (by decide) (by decide) (by decide) (fun T1 h1 cA b g1 X1 e1 E1 A1 => ?_)
  refine go_dup X1 hx (dc hby d9_3) rfl ?_
  refine go_iconst X1 hx (0) (dc hby d9_4) rfl ?_
  refine go_iloadn X1 hx (dc hby d9_5) (v := z) rfl ?_
  refine go_i2b X1 hx (dc hby d9_6) ?_
  refine go_bastore X1 hx hZ e1 A1 (by rw [sz_new]; decide) (dc hby d9_7) (fun T2 h2 X2 e2 W2 => ?_)
  subst e2
  exact go_retA X2 hx hret rfl rfl (dc hby d9_8) hk (by decide) (by decide) ⟨b, rfl, ((Keep.refl _ _).ext E1).wr W2 (Or.inr (Nat.le_of_eq g1.symm)), fun y hy => by simp at hy; rw [hy]; exact Nat.le_of_eq g1.symm⟩
theorem pd9 : parseMethodDescriptor "(C)[B" = some ⟨[.char], some (.array .byte)⟩ := by decide +kernel
theorem d8_0 : Dec jdk_43_method_3_code 0 (.iload_n 0) 1 1 := ⟨by decide +kernel, rfl⟩
theorem d8_1 : Dec jdk_43_method_3_code 1 (.sipush 255) 3 4 := ⟨by decide +kernel, rfl⟩
theorem d8_4 : DecB jdk_43_method_3_code 4 (.if_icmp .gt 7) (7) 7 11 := ⟨by decide +kernel, rfl, by decide, by decide⟩
theorem d8_7 : Dec jdk_43_method_3_code 7 (.iconst 1) 1 8 := ⟨by decide +kernel, rfl⟩
theorem d8_8 : DecB jdk_43_method_3_code 8 (.goto 4) (4) 11 12 := ⟨by decide +kernel, rfl, by decide, by decide⟩
theorem d8_12 : Dec jdk_43_method_3_code 12 (.ireturn) 1 13 := ⟨by decide +kernel, rfl⟩
theorem pn8 : plainName "java/lang/StringLatin1" = true := by first | (simp [plainName, overriddenIn]; done) | decide +kernel
theorem ef8 (x0 : Int32) (m : MethodId) : entryFrame m #[(.int x0)] 1 = mkF m 0 #[.val (.int x0)] [] := by first | (simp [entryFrame, mkF, argsToLocals, Value.category, maxLocals]; done) | rfl
set_option maxRecDepth 65536 in
set_option maxHeartbeats 40000000 in
theorem rm8 (l : Launch) (Z : State) (a0 : Array Value) (hw : ∀ d ∈ tables_1, d.before a0 Z = true) (ws : List Jvm.Cond) (z : Int32) (h0 : Heap) (hz : ¬ (255 : Int32) < z) : Ct l Z (⟨"java/lang/StringLatin1", "canEncode", "(C)Z"⟩ : MethodName) jdk_43_method_3_code 1 (some .boolean) ws ({ frames := 0, cells := 0, slots := 0, locals := 0 } : Room) #[(.int z)] h0 (QP (.int 1) h0) := by
  refine Ct.of (pn8) _ (ef8 z) ?_
  intro p e s m below meth c T0 hx hby hml hZ hown hnm hret hk e0 X0
  show Go p e below _ (T0.setTop (mkF m 0 #[.val (.int z)] []))
  refine go_iloadn X0 hx (dc hby d8_0) (v := z) rfl ?_
  refine go_sipush X0 hx (255) (dc hby d8_1) rfl ?_
  refine go_icmp_gt X0 hx (db hby d8_4) (fun c4 => ?_) (fun c4 => ?_)
  · exact absurd c4 hz
  · refine go_iconst X0 hx (1) (dc hby d8_7) rfl ?_
    refine go_goto X0 hx (db hby d8_8) ?_
    exact go_retN X0 hx hret (by simp) (dc hby d8_12) hk (by decide) (by decide) ⟨rfl, e0, rfl⟩
theorem pd8 : parseMethodDescriptor "(C)Z" = some ⟨[.char], some .boolean⟩ := by decide +kernel
theorem d7_0 : Dec jdk_42_method_139_code 0 (.getstatic 38) 3 3 := ⟨by decide +kernel, rfl⟩
theorem d7_3 : DecB jdk_42_method_139_code 3 (.ifCond .eq 23) (23) 6 26 := ⟨by decide +kernel, rfl, by decide, by decide⟩
theorem d7_6 : Dec jdk_42_method_139_code 6 (.iload_n 0) 1 7 := ⟨by decide +kernel, rfl⟩
theorem d7_7 : Dec jdk_42_method_139_code 7 (.invokestatic 1015) 3 10 := ⟨by decide +kernel, rfl⟩
theorem d7_10 : DecB jdk_42_method_139_code 10 (.ifCond .eq 16) (16) 13 26 := ⟨by decide +kernel, rfl, by decide, by decide⟩
theorem d7_13 : Dec jdk_42_method_139_code 13 (.new 10) 3 16 := ⟨by decide +kernel, rfl⟩
theorem d7_16 : Dec jdk_42_method_139_code 16 (.dup) 1 17 := ⟨by decide +kernel, rfl⟩
theorem d7_17 : Dec jdk_42_method_139_code 17 (.iload_n 0) 1 18 := ⟨by decide +kernel, rfl⟩
theorem d7_18 : Dec jdk_42_method_139_code 18 (.invokestatic 1018) 3 21 := ⟨by decide +kernel, rfl⟩
theorem d7_21 : Dec jdk_42_method_139_code 21 (.iconst 0) 1 22 := ⟨by decide +kernel, rfl⟩
theorem d7_22 : Dec jdk_42_method_139_code 22 (.invokespecial 209) 3 25 := ⟨by decide +kernel, rfl⟩
theorem d7_25 : Dec jdk_42_method_139_code 25 (.areturn) 1 26 := ⟨by decide +kernel, rfl⟩
theorem pn7 : plainName "java/lang/String" = true := by first | (simp [plainName, overriddenIn]; done) | decide +kernel
theorem ef7 (x0 : Int32) (m : MethodId) : entryFrame m #[(.int x0)] 1 = mkF m 0 #[.val (.int x0)] [] := by first | (simp [entryFrame, mkF, argsToLocals, Value.category, maxLocals]; done) | rfl
set_option maxRecDepth 65536 in
set_option maxHeartbeats 40000000 in
theorem rm7 (l : Launch) (Z : State) (a0 : Array Value) (hw : ∀ d ∈ tables_1, d.before a0 Z = true) (ws : List Jvm.Cond) (z cs : Int32) (h0 : Heap) (hz : ¬ (255 : Int32) < z) (hcs : ¬ cs = 0) (SC : Sta Z h0 "java/lang/String" "COMPACT_STRINGS" "Z" (.int cs)) : Ct l Z (⟨"java/lang/String", "valueOf", "(C)Ljava/lang/String;"⟩ : MethodName) jdk_42_method_139_code 1 (some (.object "java/lang/String")) ws ({ frames := 2, cells := 2, slots := 5, locals := 27 } : Room) #[(.int z)] h0 (fun v h L => ∃ b, v = some (.ref b) ∧ Keep h0 h [] ∧ Fr h0.size L) := by
  refine Ct.of (pn7) _ (ef7 z) ?_
  intro p e s m below meth c T0 hx hby hml hZ hown hnm hret hk e0 X0
  show Go p e below _ (T0.setTop (mkF m 0 #[.val (.int z)] []))
  refine go_getS X0 hx hZ (host := "") hown (hw _ (List.mem_of_getElem? (i := 35) rfl)) Via.refl e0 SC (dc hby d7_0) (fun T1 X1 e1 => ?_)
  refine go_ifc_eq X1 hx (db hby d7_3) (fun c3 => ?_) (fun c3 => ?_)
  · exact absurd c3 hcs
  · refine go_iloadn X1 hx (dc hby d7_6) (v := z) rfl ?_
    refine go_staticP X1 hx hZ hown (hw _ (List.mem_of_getElem? (i := 36) rfl)) (hw _ (List.mem_of_getElem? (i := 37) rfl)) (hw _ (List.mem_of_getElem? (i := 38) rfl)) (hw _ (List.mem_of_getElem? (i := 39) rfl)) (by decide) e1 [(.int z)] [] (r := (.int (1 : Int32))) (rm8 l Z a0 hw [] z h0 hz) pd8 rfl (by rw [hml]; rfl) rfl 0 (Nat.le_of_eq rfl) (by decide) (by decide) rfl rfl (by decide) (by decide) (dc hby d7_7) (fun T2 X2 e2 => ?_)
    refine go_ifc_eq X2 hx (db hby d7_10) (fun c10 => ?_) (fun c10 => ?_)
    · exact absurd c10 (by decide)
    · refine go_newO X2 hx hZ hown (hw _ (List.mem_of_getElem? (i := 40) rfl)) (hw _ (List.mem_of_getElem? (i := 41) rfl)) (hw _ (List.mem_of_getElem? (i := 33) rfl)) e2 (dc hby d7_13) (by decide) (by decide) (fun T3 h3 sa g3 X3 e3 E3 A3 D3 => ?_)
      refine go_dup X3 hx (dc hby d7_16) rfl ?_
      refine go_iloadn X3 hx (dc hby d7_17) (v := z) rfl ?_
      refine go_static X3 hx hZ hown (hw _ (List.mem_of_getElem? (i := 42) rfl)) (hw _ (List.mem_of_getElem? (i := 43) rfl)) (hw _ (List.mem_of_getElem? (i := 38) rfl)) (hw _ (List.mem_of_getElem? (i := 44) rfl)) (by decide) e3 [(.int z)] [(.ref sa), (.ref sa)] (rm9 l Z a0 hw [] z h3) pd9 rfl (by rw [hml]; rfl) rfl 2 (Nat.le_of_eq rfl) (by decide) (by decide) (by decide) (by decide) (dc hby d7_18) (fun T4 v4 L4 X4 hQ4 => ?_)
      obtain ⟨ba, rfl, K4, N4⟩ := hQ4
      show Go p e below _ (T4.setTop (mkF m 21 #[.val (.int z)] [(.ref ba), (.ref sa), (.ref sa)]))
      refine go_iconst X4 hx (0) (dc hby d7_21) rfl ?_
      refine go_special X4 hx hZ rfl hown (hw _ (List.mem_of_getElem? (i := 46) rfl)) (hw _ (List.mem_of_getElem? (i := 47) rfl)) (hw _ (List.mem_of_getElem? (i := 33) rfl)) (hw _ (List.mem_of_getElem? (i := 49) rfl)) (by decide) rfl (a := sa) [(.ref ba), (.int (0 : Int32))] [(.ref sa)] (rm10 l Z a0 hw [] sa ba 0 T4.heap rfl (A3.keep K4) ((D3 (Or.inr (hw _ (List.mem_of_getElem? (i := 52) rfl))) (ty := .array .byte) (by decide)).keep K4 (by simp)) ((D3 (Or.inr (hw _ (List.mem_of_getElem? (i := 54) rfl))) (ty := .byte) (by decide)).keep K4 (by simp))) pd10 rfl (by rw [hml]; rfl) rfl 1 (Nat.le_of_eq rfl) (by decide) (by decide) (by decide) (by decide) (dc hby d7_22) (fun T5 v5 L5 X5 hQ5 => ?_)
      obtain ⟨rfl, K5, N5⟩ := hQ5
      show Go p e below _ (T5.setTop (mkF m 25 #[.val (.int z)] [(.ref sa)]))
      have gs : h0.size ≤ sa := Nat.le_of_eq g3.symm
      exact go_retA X5 hx hret rfl rfl (dc hby d7_25) hk (by decide) (by decide) ⟨sa, rfl, (((Keep.refl _ _).ext E3).trans K4 (by simp)).trans K5 (fun x hx => Or.inr (by simp at hx; rw [hx]; exact gs)), fun y hy => by
            simp only [List.nil_append, List.mem_append] at hy
            rcases hy with hy | hy
            · exact Nat.le_trans E3.1 (N4 y hy)
            · rw [N5 y hy]; exact gs⟩
theorem pd7 : parseMethodDescriptor "(C)Ljava/lang/String;" = some ⟨[.char], some (.object "java/lang/String")⟩ := by decide +kernel
theorem own_ch (x : Int32) : ¬ (255 : Int32) < (x &&& 255).toUInt32.toUInt16.toUInt32.toInt32 := by
  rw [i2c_mask, Int32.lt_iff_toInt_lt]
  have h1 := c_mask x 255 8 (by decide) (by decide)
  rw [h1, show (255 : Int32).toInt = 255 from rfl]; omega
theorem d6_0 : Dec method_2_code 0 (.iload_n 0) 1 1 := ⟨by decide +kernel, rfl⟩
theorem d6_1 : Dec method_2_code 1 (.iload_n 1) 1 2 := ⟨by decide +kernel, rfl⟩
theorem d6_2 : Dec method_2_code 2 (.iushr) 1 3 := ⟨by decide +kernel, rfl⟩
theorem d6_3 : Dec method_2_code 3 (.iconst 1) 1 4 := ⟨by decide +kernel, rfl⟩
theorem d6_4 : Dec method_2_code 4 (.iand) 1 5 := ⟨by decide +kernel, rfl⟩
theorem d6_5 : DecB method_2_code 5 (.ifCond .eq 24) (24) 8 29 := ⟨by decide +kernel, rfl, by decide, by decide⟩
theorem d6_8 : Dec method_2_code 8 (.new 7) 3 11 := ⟨by decide +kernel, rfl⟩
theorem d6_11 : Dec method_2_code 11 (.dup) 1 12 := ⟨by decide +kernel, rfl⟩
theorem d6_12 : Dec method_2_code 12 (.iload_n 0) 1 13 := ⟨by decide +kernel, rfl⟩
theorem d6_13 : Dec method_2_code 13 (.iload_n 1) 1 14 := ⟨by decide +kernel, rfl⟩
theorem d6_14 : Dec method_2_code 14 (.iconst 4) 1 15 := ⟨by decide +kernel, rfl⟩
theorem d6_15 : Dec method_2_code 15 (.iadd) 1 16 := ⟨by decide +kernel, rfl⟩
theorem d6_16 : Dec method_2_code 16 (.iushr) 1 17 := ⟨by decide +kernel, rfl⟩
theorem d6_17 : Dec method_2_code 17 (.sipush 255) 3 20 := ⟨by decide +kernel, rfl⟩
theorem d6_20 : Dec method_2_code 20 (.iand) 1 21 := ⟨by decide +kernel, rfl⟩
theorem d6_21 : Dec method_2_code 21 (.i2c) 1 22 := ⟨by decide +kernel, rfl⟩
theorem d6_22 : Dec method_2_code 22 (.invokestatic 9) 3 25 := ⟨by decide +kernel, rfl⟩
theorem d6_25 : Dec method_2_code 25 (.invokespecial 15) 3 28 := ⟨by decide +kernel, rfl⟩
theorem d6_28 : Dec method_2_code 28 (.areturn) 1 29 := ⟨by decide +kernel, rfl⟩
theorem d6_29 : Dec method_2_code 29 (.new 18) 3 32 := ⟨by decide +kernel, rfl⟩
theorem d6_32 : Dec method_2_code 32 (.dup) 1 33 := ⟨by decide +kernel, rfl⟩
theorem d6_33 : Dec method_2_code 33 (.invokespecial 20) 3 36 := ⟨by decide +kernel, rfl⟩
theorem d6_36 : Dec method_2_code 36 (.areturn) 1 37 := ⟨by decide +kernel, rfl⟩
theorem pn6 : plainName "com/example/strict_model/strictmodel/LinkedGetPreviousSiblingPinLaw" = true := by first | (simp [plainName, overriddenIn]; done) | decide +kernel
theorem ef6 (x0 : Int32) (x1 : Int32) (m : MethodId) : entryFrame m #[(.int x0), (.int x1)] 2 = mkF m 0 #[.val (.int x0), .val (.int x1)] [] := by first | (simp [entryFrame, mkF, argsToLocals, Value.category, maxLocals]; done) | rfl
set_option maxRecDepth 65536 in
set_option maxHeartbeats 40000000 in
theorem rm6 (l : Launch) (Z : State) (a0 : Array Value) (hw : ∀ d ∈ tables_1, d.before a0 Z = true) (ws : List Jvm.Cond) (p1 p2 cs : Int32) (h0 : Heap) (hcs : ¬ cs = 0) (SC : Sta Z h0 "java/lang/String" "COMPACT_STRINGS" "Z" (.int cs)) : Ct l Z (⟨"com/example/strict_model/strictmodel/LinkedGetPreviousSiblingPinLaw", "make", "(II)Lcom/example/strict_model/strictmodel/TreeNode$Linked;"⟩ : MethodName) method_2_code 2 (some (.object "com/example/strict_model/strictmodel/TreeNode$Linked")) ws ({ frames := 5, cells := 3, slots := 9, locals := 63 } : Room) #[(.int p1), (.int p2)] h0 (fun v h L => ∃ a, v = some (.ref a) ∧ h0.size ≤ a ∧ Keep h0 h [] ∧ Fr h0.size L ∧ own_N Z h a) := by
  refine Ct.of (pn6) _ (ef6 p1 p2) ?_
  intro p e s m below meth c T0 hx hby hml hZ hown hnm hret hk e0 X0
  show Go p e below _ (T0.setTop (mkF m 0 #[.val (.int p1), .val (.int p2)] []))
  refine go_iloadn X0 hx (dc hby d6_0) (v := p1) rfl ?_
  refine go_iloadn X0 hx (dc hby d6_1) (v := p2) rfl ?_
  refine go_iushr X0 hx (dc hby d6_2) ?_
  refine go_iconst X0 hx (1) (dc hby d6_3) rfl ?_
  refine go_iand X0 hx (dc hby d6_4) ?_
  refine go_ifc_eq X0 hx (db hby d6_5) (fun c5 => ?_) (fun c5 => ?_)
  · refine go_newO X0 hx hZ hown (hw _ (List.mem_of_getElem? (i := 0) rfl)) (hw _ (List.mem_of_getElem? (i := 1) rfl)) (hw _ (List.mem_of_getElem? (i := 2) rfl)) e0 (dc hby d6_29) (by decide) (by decide) (fun T1 h1 a g1 X1 e1 E1 A1 D1 => ?_)
    refine go_dup X1 hx (dc hby d6_32) rfl ?_
    refine go_specialP X1 hx hZ rfl hown (hw _ (List.mem_of_getElem? (i := 3) rfl)) (hw _ (List.mem_of_getElem? (i := 4) rfl)) (hw _ (List.mem_of_getElem? (i := 2) rfl)) (hw _ (List.mem_of_getElem? (i := 5) rfl)) (by decide) e1 (a := a) [] [(.ref a)] (rm1 l Z a0 hw [] a h1) pd1 rfl (by rw [hml]; rfl) rfl 1 (Nat.le_of_eq rfl) (by decide) (by decide) rfl rfl (by decide) (by decide) (dc hby d6_33) (fun T2 X2 e2 => ?_)
    have ga : h0.size ≤ a := Nat.le_of_eq g1.symm
    exact go_retA X2 hx hret rfl rfl (dc hby d6_36) hk (by decide) (by decide) (by rw [e2]; exact ⟨a, rfl, ga, (Keep.refl _ _).ext E1, fun y hy => by simp at hy, Or.inl A1, D1 (Or.inl (hw _ (List.mem_of_getElem? (i := 74) rfl))) (ty := .object "com/example/strict_model/strictmodel/TreeNode$Branch") (by decide), D1 (Or.inl (hw _ (List.mem_of_getElem? (i := 91) rfl))) (ty := .object "com/example/strict_model/strictmodel/TreeNode$Linked") (by decide), D1 (Or.inl (hw _ (List.mem_of_getElem? (i := 88) rfl))) (ty := .object "com/example/strict_model/strictmodel/TreeNode$Linked") (by decide)⟩)
  · refine go_newO X0 hx hZ hown (hw _ (List.mem_of_getElem? (i := 28) rfl)) (hw _ (List.mem_of_getElem? (i := 29) rfl)) (hw _ (List.mem_of_getElem? (i := 30) rfl)) e0 (dc hby d6_8) (by decide) (by decide) (fun T3 h3 a g3 X3 e3 E3 A3 D3 => ?_)
    refine go_dup X3 hx (dc hby d6_11) rfl ?_
    refine go_iloadn X3 hx (dc hby d6_12) (v := p1) rfl ?_
    refine go_iloadn X3 hx (dc hby d6_13) (v := p2) rfl ?_
    refine go_iconst X3 hx (4) (dc hby d6_14) rfl ?_
    refine go_iadd X3 hx (dc hby d6_15) ?_
    refine go_iushr X3 hx (dc hby d6_16) ?_
    refine go_sipush X3 hx (255) (dc hby d6_17) rfl ?_
    refine go_iand X3 hx (dc hby d6_20) ?_
    refine go_i2c X3 hx (dc hby d6_21) ?_
    have ga : h0.size ≤ a := Nat.le_of_eq g3.symm
    refine go_static X3 hx hZ hown (hw _ (List.mem_of_getElem? (i := 31) rfl)) (hw _ (List.mem_of_getElem? (i := 32) rfl)) (hw _ (List.mem_of_getElem? (i := 33) rfl)) (hw _ (List.mem_of_getElem? (i := 34) rfl)) (by decide) e3 [(.int (((XT.ushr p1 (p2 + (4 : Int32))) &&& (255 : Int32))).toUInt32.toUInt16.toUInt32.toInt32)] [(.ref a), (.ref a)] (rm7 l Z a0 hw [] (((XT.ushr p1 (p2 + (4 : Int32))) &&& (255 : Int32))).toUInt32.toUInt16.toUInt32.toInt32 cs h3 (own_ch _) hcs (SC.ext E3)) pd7 rfl (by rw [hml]; rfl) rfl 2 (Nat.le_of_eq rfl) (by decide) (by decide) (by decide) (by decide) (dc hby d6_22) (fun T4 v4 L4 X4 hQ4 => ?_)
    obtain ⟨b, rfl, K4, N4⟩ := hQ4
    show Go p e below _ (T4.setTop (mkF m 25 #[.val (.int p1), .val (.int p2)] [(.ref b), (.ref a), (.ref a)]))
    refine go_special X4 hx hZ rfl hown (hw _ (List.mem_of_getElem? (i := 55) rfl)) (hw _ (List.mem_of_getElem? (i := 56) rfl)) (hw _ (List.mem_of_getElem? (i := 30) rfl)) (hw _ (List.mem_of_getElem? (i := 57) rfl)) (by decide) rfl (a := a) [(.ref b)] [(.ref a)] (rm11 l Z a0 hw [] a b T4.heap (A3.keep K4) ((D3 (Or.inr (hw _ (List.mem_of_getElem? (i := 65) rfl))) (ty := .object "java/lang/String") (by decide)).keep K4 (by simp))) pd11 rfl (by rw [hml]; rfl) rfl 1 (Nat.le_of_eq rfl) (by decide) (by decide) (by decide) (by decide) (dc hby d6_25) (fun T5 v5 L5 X5 hQ5 => ?_)
    obtain ⟨rfl, W5, N5⟩ := hQ5
    show Go p e below _ (T5.setTop (mkF m 28 #[.val (.int p1), .val (.int p2)] [(.ref a)]))
    exact go_retA X5 hx hret rfl rfl (dc hby d6_28) hk (by decide) (by decide) ⟨a, rfl, ga, (((Keep.refl _ _).ext E3).trans K4 (by simp)).wr W5 (Or.inr ga), fun y hy => by
          simp only [List.nil_append, List.mem_append] at hy
          rcases hy with hy | hy
          · exact Nat.le_trans E3.1 (N4 y hy)
          · rw [N5 y hy]; exact ga, Or.inr ((A3.keep K4).wr W5), ((D3 (Or.inl (hw _ (List.mem_of_getElem? (i := 72) rfl))) (ty := .object "com/example/strict_model/strictmodel/TreeNode$Branch") (by decide)).keep K4 (by simp)).other W5 (Or.inr (own_sl_parent_data hw)), ((D3 (Or.inl (hw _ (List.mem_of_getElem? (i := 87) rfl))) (ty := .object "com/example/strict_model/strictmodel/TreeNode$Linked") (by decide)).keep K4 (by simp)).other W5 (Or.inr (own_sl_next_data hw)), ((D3 (Or.inl (hw _ (List.mem_of_getElem? (i := 85) rfl))) (ty := .object "com/example/strict_model/strictmodel/TreeNode$Linked") (by decide)).keep K4 (by simp)).other W5 (Or.inr (own_sl_previous_data hw))⟩
theorem pd6 : parseMethodDescriptor "(II)Lcom/example/strict_model/strictmodel/TreeNode$Linked;" = some ⟨[.int, .int], some (.object "com/example/strict_model/strictmodel/TreeNode$Linked")⟩ := by decide +kernel
theorem d13_0 : Dec prog_38_method_3_code 0 (.aload_n 0) 1 1 := ⟨by decide +kernel, rfl⟩
theorem d13_1 : Dec prog_38_method_3_code 1 (.getfield 7) 3 4 := ⟨by decide +kernel, rfl⟩
theorem d13_4 : DecB prog_38_method_3_code 4 (.ifnull 14) (14) 7 18 := ⟨by decide +kernel, rfl, by decide, by decide⟩
theorem d13_7 : Dec prog_38_method_3_code 7 (.aload_n 0) 1 8 := ⟨by decide +kernel, rfl⟩
theorem d13_8 : Dec prog_38_method_3_code 8 (.getfield 7) 3 11 := ⟨by decide +kernel, rfl⟩
theorem d13_11 : Dec prog_38_method_3_code 11 (.getfield 13) 3 14 := ⟨by decide +kernel, rfl⟩
theorem d13_14 : Dec prog_38_method_3_code 14 (.aload_n 0) 1 15 := ⟨by decide +kernel, rfl⟩
theorem d13_15 : DecB prog_38_method_3_code 15 (.if_acmp .ne 7) (7) 18 22 := ⟨by decide +kernel, rfl, by decide, by decide⟩
theorem d13_18 : Dec prog_38_method_3_code 18 (.aconst_null) 1 19 := ⟨by decide +kernel, rfl⟩
theorem d13_19 : DecB prog_38_method_3_code 19 (.goto 7) (7) 22 26 := ⟨by decide +kernel, rfl, by decide, by decide⟩
theorem d13_22 : Dec prog_38_method_3_code 22 (.aload_n 0) 1 23 := ⟨by decide +kernel, rfl⟩
theorem d13_23 : Dec prog_38_method_3_code 23 (.getfield 19) 3 26 := ⟨by decide +kernel, rfl⟩
theorem d13_26 : Dec prog_38_method_3_code 26 (.areturn) 1 27 := ⟨by decide +kernel, rfl⟩
theorem pn13 : plainName "com/example/strict_model/strictmodel/TreeNode$Linked" = true := by first | (simp [plainName, overriddenIn]; done) | decide +kernel
theorem ef13 (x0 : Addr) (m : MethodId) : entryFrame m #[(.ref x0)] 1 = mkF m 0 #[.val (.ref x0)] [] := by first | (simp [entryFrame, mkF, argsToLocals, Value.category, maxLocals]; done) | rfl
set_option maxRecDepth 65536 in
set_option maxHeartbeats 40000000 in
theorem rm13 (l : Launch) (Z : State) (a0 : Array Value) (hw : ∀ d ∈ tables_1, d.before a0 Z = true) (ws : List Jvm.Cond) (a : Addr) (res : Value) (h0 : Heap) (hg : (Fld Z h0 a "com/example/strict_model/strictmodel/TreeNode$Linked" "parent" "Lcom/example/strict_model/strictmodel/TreeNode$Branch;" .null ∧ res = .null) ∨ (∃ r f, Fld Z h0 a "com/example/strict_model/strictmodel/TreeNode$Linked" "parent" "Lcom/example/strict_model/strictmodel/TreeNode$Branch;" (.ref r) ∧ Fld Z h0 r "com/example/strict_model/strictmodel/TreeNode$Branch" "first" "Lcom/example/strict_model/strictmodel/TreeNode$Linked;" (.ref f) ∧ ((f = a ∧ res = .null) ∨ (f ≠ a ∧ Fld Z h0 a "com/example/strict_model/strictmodel/TreeNode$Linked" "previous" "Lcom/example/strict_model/strictmodel/TreeNode$Linked;" res ∧ res.isRef = true)))) : Ct l Z (⟨"com/example/strict_model/strictmodel/TreeNode$Linked", "getPreviousSibling", "()Lorg/w3c/dom/Node;"⟩ : MethodName) prog_38_method_3_code 1 (some (.object "org/w3c/dom/Node")) ws ({ frames := 0, cells := 0, slots := 0, locals := 0 } : Room) #[(.ref a)] h0 (QP res h0) := by
  refine Ct.of (pn13) _ (ef13 a) ?_
  intro p e s m below meth c T0 hx hby hml hZ hown hnm hret hk e0 X0
  rcases hg with ⟨F, rfl⟩ | ⟨r, f, F, G, ⟨rfl, rfl⟩ | ⟨hne, P, hres⟩⟩
  · show Go p e below _ (T0.setTop (mkF m 0 #[.val (.ref a)] []))
    refine go_aloadn X0 hx (dc hby d13_0) (v := (.ref a)) rfl rfl ?_
    refine go_getF X0 hx hZ (host := "") hown (Or.inl (hw _ (List.mem_of_getElem? (i := 71) rfl))) Via.refl e0 F (dc hby d13_1) (fun T1 X1 e1 => ?_)
    refine go_ifnullY X1 hx (db hby d13_4) ?_
    refine go_aconstnull X1 hx (dc hby d13_18) ?_
    refine go_goto X1 hx (db hby d13_19) ?_
    exact go_retA X1 hx hret rfl rfl (dc hby d13_26) hk (by decide) (by decide) ⟨rfl, e1, rfl⟩
  · show Go p e below _ (T0.setTop (mkF m 0 #[.val (.ref f)] []))
    refine go_aloadn X0 hx (dc hby d13_0) (v := (.ref f)) rfl rfl ?_
    refine go_getF X0 hx hZ (host := "") hown (Or.inl (hw _ (List.mem_of_getElem? (i := 71) rfl))) Via.refl e0 F (dc hby d13_1) (fun T2 X2 e2 => ?_)
    refine go_ifnullN X2 hx (db hby d13_4) ?_
    refine go_aloadn X2 hx (dc hby d13_7) (v := (.ref f)) rfl rfl ?_
    refine go_getF X2 hx hZ (host := "") hown (Or.inl (hw _ (List.mem_of_getElem? (i := 71) rfl))) Via.refl e2 F (dc hby d13_8) (fun T3 X3 e3 => ?_)
    refine go_getF X3 hx hZ hown (Or.inr (hw _ (List.mem_of_getElem? (i := 89) rfl))) Via.refl e3 G (dc hby d13_11) (fun T4 X4 e4 => ?_)
    refine go_aloadn X4 hx (dc hby d13_14) (v := (.ref f)) rfl rfl ?_
    refine go_acmp_ne X4 hx rfl rfl (db hby d13_15) (fun c15 => ?_) (fun c15 => ?_)
    · exact absurd rfl c15
    · refine go_aconstnull X4 hx (dc hby d13_18) ?_
      refine go_goto X4 hx (db hby d13_19) ?_
      exact go_retA X4 hx hret rfl rfl (dc hby d13_26) hk (by decide) (by decide) ⟨rfl, e4, rfl⟩
  · show Go p e below _ (T0.setTop (mkF m 0 #[.val (.ref a)] []))
    refine go_aloadn X0 hx (dc hby d13_0) (v := (.ref a)) rfl rfl ?_
    refine go_getF X0 hx hZ (host := "") hown (Or.inl (hw _ (List.mem_of_getElem? (i := 71) rfl))) Via.refl e0 F (dc hby d13_1) (fun T5 X5 e5 => ?_)
    refine go_ifnullN X5 hx (db hby d13_4) ?_
    refine go_aloadn X5 hx (dc hby d13_7) (v := (.ref a)) rfl rfl ?_
    refine go_getF X5 hx hZ (host := "") hown (Or.inl (hw _ (List.mem_of_getElem? (i := 71) rfl))) Via.refl e5 F (dc hby d13_8) (fun T6 X6 e6 => ?_)
    refine go_getF X6 hx hZ hown (Or.inr (hw _ (List.mem_of_getElem? (i := 89) rfl))) Via.refl e6 G (dc hby d13_11) (fun T7 X7 e7 => ?_)
    refine go_aloadn X7 hx (dc hby d13_14) (v := (.ref a)) rfl rfl ?_
    refine go_acmp_ne X7 hx rfl rfl (db hby d13_15) (fun c15 => ?_) (fun c15 => ?_)
    · refine go_aloadn X7 hx (dc hby d13_22) (v := (.ref a)) rfl rfl ?_
      refine go_getF X7 hx hZ (host := "") hown (Or.inl (hw _ (List.mem_of_getElem? (i := 90) rfl))) Via.refl e7 P (dc hby d13_23) (fun T8 X8 e8 => ?_)
      exact go_retA X8 hx hret rfl hres (dc hby d13_26) hk (by decide) (by decide) ⟨rfl, e8, rfl⟩
    · exact absurd (Value.ref.inj c15) hne
theorem pd13 : parseMethodDescriptor "()Lorg/w3c/dom/Node;" = some ⟨[], some (.object "org/w3c/dom/Node")⟩ := by decide +kernel
theorem d14_0 : Dec prog_34_method_3_code 0 (.aload_n 1) 1 1 := ⟨by decide +kernel, rfl⟩
theorem d14_1 : Dec prog_34_method_3_code 1 (.aload_n 0) 1 2 := ⟨by decide +kernel, rfl⟩
theorem d14_2 : Dec prog_34_method_3_code 2 (.putfield 7) 3 5 := ⟨by decide +kernel, rfl⟩
theorem d14_5 : Dec prog_34_method_3_code 5 (.aload_n 0) 1 6 := ⟨by decide +kernel, rfl⟩
theorem d14_6 : Dec prog_34_method_3_code 6 (.getfield 11) 3 9 := ⟨by decide +kernel, rfl⟩
theorem d14_9 : DecB prog_34_method_3_code 9 (.ifnonnull 11) (11) 12 20 := ⟨by decide +kernel, rfl, by decide, by decide⟩
theorem d14_12 : Dec prog_34_method_3_code 12 (.aload_n 0) 1 13 := ⟨by decide +kernel, rfl⟩
theorem d14_13 : Dec prog_34_method_3_code 13 (.aload_n 1) 1 14 := ⟨by decide +kernel, rfl⟩
theorem d14_14 : Dec prog_34_method_3_code 14 (.putfield 11) 3 17 := ⟨by decide +kernel, rfl⟩
theorem d14_17 : DecB prog_34_method_3_code 17 (.goto 21) (21) 20 38 := ⟨by decide +kernel, rfl, by decide, by decide⟩
theorem d14_20 : Dec prog_34_method_3_code 20 (.aload_n 0) 1 21 := ⟨by decide +kernel, rfl⟩
theorem d14_21 : Dec prog_34_method_3_code 21 (.getfield 11) 3 24 := ⟨by decide +kernel, rfl⟩
theorem d14_24 : Dec prog_34_method_3_code 24 (.getfield 17) 3 27 := ⟨by decide +kernel, rfl⟩
theorem d14_27 : Dec prog_34_method_3_code 27 (.astore_n 2) 1 28 := ⟨by decide +kernel, rfl⟩
theorem d14_28 : Dec prog_34_method_3_code 28 (.aload_n 2) 1 29 := ⟨by decide +kernel, rfl⟩
theorem d14_29 : Dec prog_34_method_3_code 29 (.aload_n 1) 1 30 := ⟨by decide +kernel, rfl⟩
theorem d14_30 : Dec prog_34_method_3_code 30 (.putfield 20) 3 33 := ⟨by decide +kernel, rfl⟩
theorem d14_33 : Dec prog_34_method_3_code 33 (.aload_n 1) 1 34 := ⟨by decide +kernel, rfl⟩
theorem d14_34 : Dec prog_34_method_3_code 34 (.aload_n 2) 1 35 := ⟨by decide +kernel, rfl⟩
theorem d14_35 : Dec prog_34_method_3_code 35 (.putfield 17) 3 38 := ⟨by decide +kernel, rfl⟩
theorem d14_38 : Dec prog_34_method_3_code 38 (.aload_n 0) 1 39 := ⟨by decide +kernel, rfl⟩
theorem d14_39 : Dec prog_34_method_3_code 39 (.getfield 11) 3 42 := ⟨by decide +kernel, rfl⟩
theorem d14_42 : Dec prog_34_method_3_code 42 (.aload_n 1) 1 43 := ⟨by decide +kernel, rfl⟩
theorem d14_43 : Dec prog_34_method_3_code 43 (.putfield 17) 3 46 := ⟨by decide +kernel, rfl⟩
theorem d14_46 : Dec prog_34_method_3_code 46 (.return_) 1 47 := ⟨by decide +kernel, rfl⟩
theorem pn14 : plainName "com/example/strict_model/strictmodel/TreeNode$Branch" = true := by first | (simp [plainName, overriddenIn]; done) | decide +kernel
theorem ef14 (x0 : Addr) (x1 : Addr) (m : MethodId) : entryFrame m #[(.ref x0), (.ref x1)] 3 = mkF m 0 #[.val (.ref x0), .val (.ref x1), .unset] [] := by first | (simp [entryFrame, mkF, argsToLocals, Value.category, maxLocals]; done) | rfl
set_option maxRecDepth 65536 in
set_option maxHeartbeats 40000000 in
theorem rm14a (l : Launch) (Z : State) (a0 : Array Value) (hw : ∀ d ∈ tables_1, d.before a0 Z = true) (ws : List Jvm.Cond) (r a : Addr) (h0 : Heap) (ER : Exa Z h0 r "com/example/strict_model/strictmodel/TreeNode$Root") (EA : own_E Z h0 a) (hne : r ≠ a) (GF : Fld Z h0 r "com/example/strict_model/strictmodel/TreeNode$Branch" "first" "Lcom/example/strict_model/strictmodel/TreeNode$Linked;" .null) (FP : Fld Z h0 a "com/example/strict_model/strictmodel/TreeNode$Linked" "parent" "Lcom/example/strict_model/strictmodel/TreeNode$Branch;" .null) (FV : Fld Z h0 a "com/example/strict_model/strictmodel/TreeNode$Linked" "previous" "Lcom/example/strict_model/strictmodel/TreeNode$Linked;" .null) : Ct l Z (⟨"com/example/strict_model/strictmodel/TreeNode$Branch", "append", "(Lcom/example/strict_model/strictmodel/TreeNode$Linked;)V"⟩ : MethodName) prog_34_method_3_code 3 none ws ({ frames := 0, cells := 0, slots := 0, locals := 0 } : Room) #[(.ref r), (.ref a)] h0 (fun v h L => v = none ∧ (∀ y ∈ L, y.base = r ∨ y.base = a) ∧ ∃ h1 h2, Wr h0 h1 a (Jvm.RoadKit.slotOf Z "com/example/strict_model/strictmodel/TreeNode$Linked" "parent" "Lcom/example/strict_model/strictmodel/TreeNode$Branch;") (.ref r) ∧ Wr h1 h2 r (Jvm.RoadKit.slotOf Z "com/example/strict_model/strictmodel/TreeNode$Branch" "first" "Lcom/example/strict_model/strictmodel/TreeNode$Linked;") (.ref a) ∧ Wr h2 h a (Jvm.RoadKit.slotOf Z "com/example/strict_model/strictmodel/TreeNode$Linked" "previous" "Lcom/example/strict_model/strictmodel/TreeNode$Linked;") (.ref a)) := by
  refine Ct.of (pn14) _ (ef14 r a) ?_
  intro p e s m below meth c T0 hx hby hml hZ hown hnm hret hk e0 X0
  show Go p e below _ (T0.setTop (mkF m 0 #[.val (.ref r), .val (.ref a), .unset] []))
  refine go_aloadn X0 hx (dc hby d14_0) (v := (.ref a)) rfl rfl ?_
  refine go_aloadn X0 hx (dc hby d14_1) (v := (.ref r)) rfl rfl ?_
  refine go_putN X0 hx hZ hown (Or.inr (hw _ (List.mem_of_getElem? (i := 81) rfl))) Via.refl e0 FP (own_put_parent hw EA) (ty := .object "com/example/strict_model/strictmodel/TreeNode$Branch") (by decide) rfl rfl (dc hby d14_2) (fun T1 h1 X1 e1 W1 => ?_)
  refine go_aloadn X1 hx (dc hby d14_5) (v := (.ref r)) rfl rfl ?_
  have G1 := GF.other W1 (Or.inl hne)
  refine go_getF X1 hx hZ (host := "") hown (Or.inl (hw _ (List.mem_of_getElem? (i := 82) rfl))) Via.refl e1 G1 (dc hby d14_6) (fun T2 X2 e2 => ?_)
  refine go_ifnonnullN X2 hx (db hby d14_9) ?_
  refine go_aloadn X2 hx (dc hby d14_12) (v := (.ref r)) rfl rfl ?_
  refine go_aloadn X2 hx (dc hby d14_13) (v := (.ref a)) rfl rfl ?_
  refine go_putN X2 hx hZ (host := "") hown (Or.inl (hw _ (List.mem_of_getElem? (i := 82) rfl))) Via.refl e2 G1 (own_put_first hw (ER.wr W1)) (ty := .object "com/example/strict_model/strictmodel/TreeNode$Linked") (by decide) rfl rfl (dc hby d14_14) (fun T3 h3 X3 e3 W3 => ?_)
  refine go_goto X3 hx (db hby d14_17) ?_
  refine go_aloadn X3 hx (dc hby d14_38) (v := (.ref r)) rfl rfl ?_
  have G3 := G1.same W3
  have P3 := (FV.other W1 (Or.inr (own_sl_previous_parent hw))).other W3 (Or.inl hne.symm)
  refine go_getF X3 hx hZ (host := "") hown (Or.inl (hw _ (List.mem_of_getElem? (i := 82) rfl))) Via.refl e3 G3 (dc hby d14_39) (fun T4 X4 e4 => ?_)
  refine go_aloadn X4 hx (dc hby d14_42) (v := (.ref a)) rfl rfl ?_
  refine go_putN X4 hx hZ hown (Or.inr (hw _ (List.mem_of_getElem? (i := 84) rfl))) Via.refl e4 P3 (own_put_previous hw ((EA.wr W1).wr W3)) (ty := .object "com/example/strict_model/strictmodel/TreeNode$Linked") (by decide) rfl rfl (dc hby d14_43) (fun T5 h5 X5 e5 W5 => ?_)
  subst e5
  exact go_retV X5 hx hret (dc hby d14_46) hk (by decide) (by decide) ⟨rfl, fun y hy => by simp at hy; rcases hy with rfl | rfl | rfl <;> simp, _, _, W1, W3, W5⟩
theorem pd14 : parseMethodDescriptor "(Lcom/example/strict_model/strictmodel/TreeNode$Linked;)V" = some ⟨[(.object "com/example/strict_model/strictmodel/TreeNode$Linked")], none⟩ := by decide +kernel
set_option maxRecDepth 65536 in
set_option maxHeartbeats 40000000 in
theorem rm14b (l : Launch) (Z : State) (a0 : Array Value) (hw : ∀ d ∈ tables_1, d.before a0 Z = true) (ws : List Jvm.Cond) (r a f q : Addr) (h0 : Heap) (EA : own_E Z h0 a) (EF : own_E Z h0 f) (EQ : own_E Z h0 q) (hne : r ≠ a) (hf : f ≠ a) (hq : q ≠ a) (GF : Fld Z h0 r "com/example/strict_model/strictmodel/TreeNode$Branch" "first" "Lcom/example/strict_model/strictmodel/TreeNode$Linked;" (.ref f)) (FP : Fld Z h0 a "com/example/strict_model/strictmodel/TreeNode$Linked" "parent" "Lcom/example/strict_model/strictmodel/TreeNode$Branch;" .null) (FV : Fld Z h0 a "com/example/strict_model/strictmodel/TreeNode$Linked" "previous" "Lcom/example/strict_model/strictmodel/TreeNode$Linked;" .null) (FU : Fld Z h0 f "com/example/strict_model/strictmodel/TreeNode$Linked" "previous" "Lcom/example/strict_model/strictmodel/TreeNode$Linked;" (.ref q)) (FN : ∃ u, Fld Z h0 q "com/example/strict_model/strictmodel/TreeNode$Linked" "next" "Lcom/example/strict_model/strictmodel/TreeNode$Linked;" u) : Ct l Z (⟨"com/example/strict_model/strictmodel/TreeNode$Branch", "append", "(Lcom/example/strict_model/strictmodel/TreeNode$Linked;)V"⟩ : MethodName) prog_34_method_3_code 3 none ws ({ frames := 0, cells := 0, slots := 0, locals := 0 } : Room) #[(.ref r), (.ref a)] h0 (fun v h L => v = none ∧ (∀ y ∈ L, y.base = q ∨ y.base = f ∨ y.base = a) ∧ ∃ h1 h2 h3, Wr h0 h1 a (Jvm.RoadKit.slotOf Z "com/example/strict_model/strictmodel/TreeNode$Linked" "parent" "Lcom/example/strict_model/strictmodel/TreeNode$Branch;") (.ref r) ∧ Wr h1 h2 q (Jvm.RoadKit.slotOf Z "com/example/strict_model/strictmodel/TreeNode$Linked" "next" "Lcom/example/strict_model/strictmodel/TreeNode$Linked;") (.ref a) ∧ Wr h2 h3 a (Jvm.RoadKit.slotOf Z "com/example/strict_model/strictmodel/TreeNode$Linked" "previous" "Lcom/example/strict_model/strictmodel/TreeNode$Linked;") (.ref q) ∧ Wr h3 h f (Jvm.RoadKit.slotOf Z "com/example/strict_model/strictmodel/TreeNode$Linked" "previous" "Lcom/example/strict_model/strictmodel/TreeNode$Linked;") (.ref a)) := by
  refine Ct.of (pn14) _ (ef14 r a) ?_
  obtain ⟨u, FN⟩ := FN
  intro p e s m below meth c T0 hx hby hml hZ hown hnm hret hk e0 X0
  show Go p e below _ (T0.setTop (mkF m 0 #[.val (.ref r), .val (.ref a), .unset] []))
  refine go_aloadn X0 hx (dc hby d14_0) (v := (.ref a)) rfl rfl ?_
  refine go_aloadn X0 hx (dc hby d14_1) (v := (.ref r)) rfl rfl ?_
  refine go_putN X0 hx hZ hown (Or.inr (hw _ (List.mem_of_getElem? (i := 81) rfl))) Via.refl e0 FP (own_put_parent hw EA) (ty := .object "com/example/strict_model/strictmodel/TreeNode$Branch") (by decide) rfl rfl (dc hby d14_2) (fun T1 h1 X1 e1 W1 => ?_)
  refine go_aloadn X1 hx (dc hby d14_5) (v := (.ref r)) rfl rfl ?_
  have G1 := GF.other W1 (Or.inl hne)
  refine go_getF X1 hx hZ (host := "") hown (Or.inl (hw _ (List.mem_of_getElem? (i := 82) rfl))) Via.refl e1 G1 (dc hby d14_6) (fun T2 X2 e2 => ?_)
  refine go_ifnonnullY X2 hx (db hby d14_9) ?_
  refine go_aloadn X2 hx (dc hby d14_20) (v := (.ref r)) rfl rfl ?_
  refine go_getF X2 hx hZ (host := "") hown (Or.inl (hw _ (List.mem_of_getElem? (i := 82) rfl))) Via.refl e2 G1 (dc hby d14_21) (fun T3 X3 e3 => ?_)
  have U1 := FU.other W1 (Or.inl hf)
  refine go_getF X3 hx hZ hown (Or.inr (hw _ (List.mem_of_getElem? (i := 84) rfl))) Via.refl e3 U1 (dc hby d14_24) (fun T4 X4 e4 => ?_)
  refine go_astoren X4 hx #[.val (.ref r), .val (.ref a), .val (.ref q)] (dc hby d14_27) rfl rfl ?_
  refine go_aloadn X4 hx (dc hby d14_28) (v := (.ref q)) rfl rfl ?_
  refine go_aloadn X4 hx (dc hby d14_29) (v := (.ref a)) rfl rfl ?_
  have M1 := FN.other W1 (Or.inl hq)
  refine go_putN X4 hx hZ hown (Or.inr (hw _ (List.mem_of_getElem? (i := 86) rfl))) Via.refl e4 M1 (own_put_next hw (EQ.wr W1)) (ty := .object "com/example/strict_model/strictmodel/TreeNode$Linked") (by decide) rfl rfl (dc hby d14_30) (fun T5 h5 X5 e5 W5 => ?_)
  refine go_aloadn X5 hx (dc hby d14_33) (v := (.ref a)) rfl rfl ?_
  refine go_aloadn X5 hx (dc hby d14_34) (v := (.ref q)) rfl rfl ?_
  have V5 := (FV.other W1 (Or.inr (own_sl_previous_parent hw))).other W5 (Or.inl hq.symm)
  refine go_putN X5 hx hZ hown (Or.inr (hw _ (List.mem_of_getElem? (i := 84) rfl))) Via.refl e5 V5 (own_put_previous hw ((EA.wr W1).wr W5)) (ty := .object "com/example/strict_model/strictmodel/TreeNode$Linked") (by decide) rfl rfl (dc hby d14_35) (fun T6 h6 X6 e6 W6 => ?_)
  refine go_aloadn X6 hx (dc hby d14_38) (v := (.ref r)) rfl rfl ?_
  have G6 := (G1.other W5 (Or.inr (own_sl_first_next hw))).other W6 (Or.inr (own_sl_first_previous hw))
  refine go_getF X6 hx hZ (host := "") hown (Or.inl (hw _ (List.mem_of_getElem? (i := 82) rfl))) Via.refl e6 G6 (dc hby d14_39) (fun T7 X7 e7 => ?_)
  refine go_aloadn X7 hx (dc hby d14_42) (v := (.ref a)) rfl rfl ?_
  have U6 := (U1.other W5 (Or.inr (own_sl_previous_next hw))).other W6 (Or.inl hf)
  refine go_putN X7 hx hZ hown (Or.inr (hw _ (List.mem_of_getElem? (i := 84) rfl))) Via.refl e7 U6 (own_put_previous hw (((EF.wr W1).wr W5).wr W6)) (ty := .object "com/example/strict_model/strictmodel/TreeNode$Linked") (by decide) rfl rfl (dc hby d14_43) (fun T8 h8 X8 e8 W8 => ?_)
  subst e8
  exact go_retV X8 hx hret (dc hby d14_46) hk (by decide) (by decide) ⟨rfl, fun y hy => by simp at hy; rcases hy with rfl | rfl | rfl | rfl <;> simp, _, _, _, W1, W5, W6, W8⟩
theorem own_gps {p : Program} {l : Launch} {e : Env} {R : Room} {s : State} {m : MethodId} {args : Array Value} {below : List Frame} {meth : Method} {c : Code} {T : State} {locs : List Loc} {cells slots : Nat} {En : Outcome → State → Prop} {Ls : Array Slot} {pc pc' : Nat} {Z : State} {a0 : Array Value} {h : Heap} (X : Stand p l e R s m args below meth c T locs cells slots) (hx : p.tables.exec = Jvm.exec) (hZ : Z.Warmed39 s.vm) (hw : ∀ d ∈ tables_1, d.before a0 Z = true) (hown : s.vm.findClass "com/example/strict_model/strictmodel/LinkedGetPreviousSiblingPinLaw" = some m.cls) (eT : T.heap = h) {a : Addr} (E : own_E Z h a) {r : Value} (hC : Ct l Z (⟨"com/example/strict_model/strictmodel/TreeNode$Linked", "getPreviousSibling", "()Lorg/w3c/dom/Node;"⟩ : MethodName) prog_38_method_3_code 1 (some (.object "org/w3c/dom/Node")) [] ({ frames := 0, cells := 0, slots := 0, locals := 0 } : Room) #[(.ref a)] h (QP r h)) (hsize : Ls.size = c.maxLocals) (hf : 1 ≤ R.frames) (hlo : 12 ≤ R.locals) (hrc : cells ≤ R.cells) (hrs : slots ≤ R.slots) (hd : Dec c.code pc (.invokevirtual 31) 3 pc') (k : ∀ T', Stand p l e R s m args below meth c T' locs cells slots → T'.heap = h → Go p e below En (T'.setTop (mkF m pc' Ls [r]))) : Go p e below En (T.setTop (mkF m pc Ls [(.ref a)])) := by
  rcases E with E | E
  · exact go_virtualP X hx hZ hown (hw _ (List.mem_of_getElem? (i := 66) rfl)) (hw _ (List.mem_of_getElem? (i := 67) rfl)) (hw _ (List.mem_of_getElem? (i := 73) rfl)) (hw _ (List.mem_of_getElem? (i := 68) rfl)) (hw _ (List.mem_of_getElem? (i := 14) rfl)) (hw _ (List.mem_of_getElem? (i := 70) rfl)) (by decide) eT (a := a) E [] [] (r := r) hC pd13 rfl hsize rfl 0 (by decide) hf hlo rfl rfl hrc hrs hd k
  · exact go_virtualP X hx hZ hown (hw _ (List.mem_of_getElem? (i := 66) rfl)) (hw _ (List.mem_of_getElem? (i := 67) rfl)) (hw _ (List.mem_of_getElem? (i := 69) rfl)) (hw _ (List.mem_of_getElem? (i := 68) rfl)) (hw _ (List.mem_of_getElem? (i := 14) rfl)) (hw _ (List.mem_of_getElem? (i := 70) rfl)) (by decide) eT (a := a) E [] [] (r := r) hC pd13 rfl hsize rfl 0 (by decide) hf hlo rfl rfl hrc hrs hd k
theorem d0_0 : Dec code 0 (.iload_n 0) 1 1 := ⟨at_0, rfl⟩
theorem d0_1 : Dec code 1 (.iconst 3) 1 2 := ⟨at_1, rfl⟩
theorem d0_2 : Dec code 2 (.iand) 1 3 := ⟨at_2, rfl⟩
theorem d0_3 : Dec code 3 (.istore_n 2) 1 4 := ⟨at_3, rfl⟩
theorem d0_4 : Dec code 4 (.new 18) 3 7 := ⟨at_4, rfl⟩
theorem d0_7 : Dec code 7 (.dup) 1 8 := ⟨at_7, rfl⟩
theorem d0_8 : Dec code 8 (.invokespecial 20) 3 11 := ⟨at_8, rfl⟩
theorem d0_11 : Dec code 11 (.astore_n 3) 1 12 := ⟨at_11, rfl⟩
theorem d0_12 : Dec code 12 (.iload_n 1) 1 13 := ⟨at_12, rfl⟩
theorem d0_13 : Dec code 13 (.iconst 0) 1 14 := ⟨at_13, rfl⟩
theorem d0_14 : Dec code 14 (.invokestatic 21) 3 17 := ⟨at_14, rfl⟩
theorem d0_17 : Dec code 17 (.astore 4) 2 19 := ⟨at_17, rfl⟩
theorem d0_19 : Dec code 19 (.iload_n 1) 1 20 := ⟨at_19, rfl⟩
theorem d0_20 : Dec code 20 (.iconst 1) 1 21 := ⟨at_20, rfl⟩
theorem d0_21 : Dec code 21 (.invokestatic 21) 3 24 := ⟨at_21, rfl⟩
theorem d0_24 : Dec code 24 (.astore 5) 2 26 := ⟨at_24, rfl⟩
theorem d0_26 : Dec code 26 (.iload_n 1) 1 27 := ⟨at_26, rfl⟩
theorem d0_27 : Dec code 27 (.iconst 2) 1 28 := ⟨at_27, rfl⟩
theorem d0_28 : Dec code 28 (.invokestatic 21) 3 31 := ⟨at_28, rfl⟩
theorem d0_31 : Dec code 31 (.astore 6) 2 33 := ⟨at_31, rfl⟩
theorem d0_33 : Dec code 33 (.iload_n 2) 1 34 := ⟨at_33, rfl⟩
theorem d0_34 : DecB code 34 (.ifCond .le 9) (9) 37 43 := ⟨at_34, rfl, by decide, by decide⟩
theorem d0_37 : Dec code 37 (.aload_n 3) 1 38 := ⟨at_37, rfl⟩
theorem d0_38 : Dec code 38 (.aload 4) 2 40 := ⟨at_38, rfl⟩
theorem d0_40 : Dec code 40 (.invokevirtual 27) 3 43 := ⟨at_40, rfl⟩
theorem d0_43 : Dec code 43 (.iload_n 2) 1 44 := ⟨at_43, rfl⟩
theorem d0_44 : Dec code 44 (.iconst 1) 1 45 := ⟨at_44, rfl⟩
theorem d0_45 : DecB code 45 (.if_icmp .le 9) (9) 48 54 := ⟨at_45, rfl, by decide, by decide⟩
theorem d0_48 : Dec code 48 (.aload_n 3) 1 49 := ⟨at_48, rfl⟩
theorem d0_49 : Dec code 49 (.aload 5) 2 51 := ⟨at_49, rfl⟩
theorem d0_51 : Dec code 51 (.invokevirtual 27) 3 54 := ⟨at_51, rfl⟩
theorem d0_54 : Dec code 54 (.iload_n 2) 1 55 := ⟨at_54, rfl⟩
theorem d0_55 : Dec code 55 (.iconst 2) 1 56 := ⟨at_55, rfl⟩
theorem d0_56 : DecB code 56 (.if_icmp .le 9) (9) 59 65 := ⟨at_56, rfl, by decide, by decide⟩
theorem d0_59 : Dec code 59 (.aload_n 3) 1 60 := ⟨at_59, rfl⟩
theorem d0_60 : Dec code 60 (.aload 6) 2 62 := ⟨at_60, rfl⟩
theorem d0_62 : Dec code 62 (.invokevirtual 27) 3 65 := ⟨at_62, rfl⟩
theorem d0_65 : Dec code 65 (.aload 4) 2 67 := ⟨at_65, rfl⟩
theorem d0_67 : Dec code 67 (.invokevirtual 31) 3 70 := ⟨at_67, rfl⟩
theorem d0_70 : Dec code 70 (.astore 7) 2 72 := ⟨at_70, rfl⟩
theorem d0_72 : Dec code 72 (.aload 5) 2 74 := ⟨at_72, rfl⟩
theorem d0_74 : Dec code 74 (.invokevirtual 31) 3 77 := ⟨at_74, rfl⟩
theorem d0_77 : Dec code 77 (.astore 8) 2 79 := ⟨at_77, rfl⟩
theorem d0_79 : Dec code 79 (.aload 6) 2 81 := ⟨at_79, rfl⟩
theorem d0_81 : Dec code 81 (.invokevirtual 31) 3 84 := ⟨at_81, rfl⟩
theorem d0_84 : Dec code 84 (.astore 9) 2 86 := ⟨at_84, rfl⟩
theorem d0_86 : Dec code 86 (.aload 7) 2 88 := ⟨at_86, rfl⟩
theorem d0_88 : DecB code 88 (.ifnonnull 7) (7) 91 95 := ⟨at_88, rfl, by decide, by decide⟩
theorem d0_91 : Dec code 91 (.iconst 1) 1 92 := ⟨at_91, rfl⟩
theorem d0_92 : DecB code 92 (.goto 4) (4) 95 96 := ⟨at_92, rfl, by decide, by decide⟩
theorem d0_96 : Dec code 96 (.istore 10) 2 98 := ⟨at_96, rfl⟩
theorem d0_98 : Dec code 98 (.iload_n 2) 1 99 := ⟨at_98, rfl⟩
theorem d0_99 : Dec code 99 (.iconst 1) 1 100 := ⟨at_99, rfl⟩
theorem d0_100 : DecB code 100 (.if_icmp .le 18) (18) 103 118 := ⟨at_100, rfl, by decide, by decide⟩
theorem d0_103 : Dec code 103 (.aload 8) 2 105 := ⟨at_103, rfl⟩
theorem d0_105 : Dec code 105 (.aload 4) 2 107 := ⟨at_105, rfl⟩
theorem d0_107 : DecB code 107 (.if_acmp .ne 7) (7) 110 114 := ⟨at_107, rfl, by decide, by decide⟩
theorem d0_110 : Dec code 110 (.iconst 1) 1 111 := ⟨at_110, rfl⟩
theorem d0_111 : DecB code 111 (.goto 17) (17) 114 128 := ⟨at_111, rfl, by decide, by decide⟩
theorem d0_118 : Dec code 118 (.aload 8) 2 120 := ⟨at_118, rfl⟩
theorem d0_120 : DecB code 120 (.ifnonnull 7) (7) 123 127 := ⟨at_120, rfl, by decide, by decide⟩
theorem d0_123 : Dec code 123 (.iconst 1) 1 124 := ⟨at_123, rfl⟩
theorem d0_124 : DecB code 124 (.goto 4) (4) 127 128 := ⟨at_124, rfl, by decide, by decide⟩
theorem d0_128 : Dec code 128 (.istore 11) 2 130 := ⟨at_128, rfl⟩
theorem d0_130 : Dec code 130 (.iload_n 2) 1 131 := ⟨at_130, rfl⟩
theorem d0_131 : Dec code 131 (.iconst 2) 1 132 := ⟨at_131, rfl⟩
theorem d0_132 : DecB code 132 (.if_icmp .le 18) (18) 135 150 := ⟨at_132, rfl, by decide, by decide⟩
theorem d0_135 : Dec code 135 (.aload 9) 2 137 := ⟨at_135, rfl⟩
theorem d0_137 : Dec code 137 (.aload 5) 2 139 := ⟨at_137, rfl⟩
theorem d0_139 : DecB code 139 (.if_acmp .ne 7) (7) 142 146 := ⟨at_139, rfl, by decide, by decide⟩
theorem d0_142 : Dec code 142 (.iconst 1) 1 143 := ⟨at_142, rfl⟩
theorem d0_143 : DecB code 143 (.goto 17) (17) 146 160 := ⟨at_143, rfl, by decide, by decide⟩
theorem d0_150 : Dec code 150 (.aload 9) 2 152 := ⟨at_150, rfl⟩
theorem d0_152 : DecB code 152 (.ifnonnull 7) (7) 155 159 := ⟨at_152, rfl, by decide, by decide⟩
theorem d0_155 : Dec code 155 (.iconst 1) 1 156 := ⟨at_155, rfl⟩
theorem d0_156 : DecB code 156 (.goto 4) (4) 159 160 := ⟨at_156, rfl, by decide, by decide⟩
theorem d0_160 : Dec code 160 (.istore 12) 2 162 := ⟨at_160, rfl⟩
theorem d0_162 : Dec code 162 (.iload 10) 2 164 := ⟨at_162, rfl⟩
theorem d0_164 : DecB code 164 (.ifCond .eq 17) (17) 167 181 := ⟨at_164, rfl, by decide, by decide⟩
theorem d0_167 : Dec code 167 (.iload 11) 2 169 := ⟨at_167, rfl⟩
theorem d0_169 : DecB code 169 (.ifCond .eq 12) (12) 172 181 := ⟨at_169, rfl, by decide, by decide⟩
theorem d0_172 : Dec code 172 (.iload 12) 2 174 := ⟨at_172, rfl⟩
theorem d0_174 : DecB code 174 (.ifCond .eq 7) (7) 177 181 := ⟨at_174, rfl, by decide, by decide⟩
theorem d0_177 : Dec code 177 (.iconst 1) 1 178 := ⟨at_177, rfl⟩
theorem d0_178 : DecB code 178 (.goto 4) (4) 181 182 := ⟨at_178, rfl, by decide, by decide⟩
theorem d0_182 : Dec code 182 (.ireturn) 1 183 := ⟨at_182, rfl⟩
theorem pn0 : plainName "com/example/strict_model/strictmodel/LinkedGetPreviousSiblingPinLaw" = true := by first | (simp [plainName, overriddenIn]; done) | decide +kernel
theorem ef0 (x0 : Int32) (x1 : Int32) (m : MethodId) : entryFrame m #[(.int x0), (.int x1)] maxLocals = mkF m 0 #[.val (.int x0), .val (.int x1), .unset, .unset, .unset, .unset, .unset, .unset, .unset, .unset, .unset, .unset, .unset] [] := by first | (simp [entryFrame, mkF, argsToLocals, Value.category, maxLocals]; done) | rfl
set_option maxRecDepth 65536 in
set_option maxHeartbeats 40000000 in
theorem rm0 (l : Launch) (Z : State) (a0 : Array Value) (hw : ∀ d ∈ tables_1, d.before a0 Z = true) (ws : List Jvm.Cond) (p1 p2 cs : Int32) (h0 : Heap) (hcs : ¬ cs = 0) (SC : Sta Z h0 "java/lang/String" "COMPACT_STRINGS" "Z" (.int cs)) : Ct l Z x code maxLocals ret ws room_1 #[(.int p1), (.int p2)] h0 (fun v h L => v = some (.int 1) ∧ Fr h0.size L) := by
  refine Ct.of (pn0) _ (ef0 p1 p2) ?_
  intro p e s m below meth c T0 hx hby hml hZ hown hnm hret hk e0 X0
  show Go p e below _ (T0.setTop (mkF m 0 #[.val (.int p1), .val (.int p2), .unset, .unset, .unset, .unset, .unset, .unset, .unset, .unset, .unset, .unset, .unset] []))
  refine go_iloadn X0 hx (dc hby d0_0) (v := p1) rfl ?_
  refine go_iconst X0 hx (3) (dc hby d0_1) rfl ?_
  refine go_iand X0 hx (dc hby d0_2) ?_
  show Go p e below _ (T0.setTop (mkF m 3 #[.val (.int p1), .val (.int p2), .unset, .unset, .unset, .unset, .unset, .unset, .unset, .unset, .unset, .unset, .unset] [(.int (p1 &&& (3 : Int32)))]))
  generalize hn : p1 &&& 3 = n
  show Go p e below _ (T0.setTop (mkF m 3 #[.val (.int p1), .val (.int p2), .unset, .unset, .unset, .unset, .unset, .unset, .unset, .unset, .unset, .unset, .unset] [(.int n)]))
  refine go_istoren X0 hx #[.val (.int p1), .val (.int p2), .val (.int n), .unset, .unset, .unset, .unset, .unset, .unset, .unset, .unset, .unset, .unset] (dc hby d0_3) rfl ?_
  refine go_newO X0 hx hZ hown (hw _ (List.mem_of_getElem? (i := 0) rfl)) (hw _ (List.mem_of_getElem? (i := 1) rfl)) (hw _ (List.mem_of_getElem? (i := 2) rfl)) e0 (dc hby d0_4) (by decide) (by decide) (fun T1 h1 r g1 X1 e1 E1 A1 D1 => ?_)
  refine go_dup X1 hx (dc hby d0_7) rfl ?_
  refine go_specialP X1 hx hZ rfl hown (hw _ (List.mem_of_getElem? (i := 3) rfl)) (hw _ (List.mem_of_getElem? (i := 4) rfl)) (hw _ (List.mem_of_getElem? (i := 2) rfl)) (hw _ (List.mem_of_getElem? (i := 5) rfl)) (by decide) e1 (a := r) [] [(.ref r)] (rm1 l Z a0 hw [] r h1) pd1 rfl (by rw [hml]; rfl) rfl 1 (Nat.le_of_eq rfl) (by decide) (by decide) rfl rfl (by decide) (by decide) (dc hby d0_8) (fun T2 X2 e2 => ?_)
  refine go_astoren X2 hx #[.val (.int p1), .val (.int p2), .val (.int n), .val (.ref r), .unset, .unset, .unset, .unset, .unset, .unset, .unset, .unset, .unset] (dc hby d0_11) rfl rfl ?_
  refine go_iloadn X2 hx (dc hby d0_12) (v := p2) rfl ?_
  refine go_iconst X2 hx (0) (dc hby d0_13) rfl ?_
  have gr : h0.size ≤ r := Nat.le_of_eq g1.symm
  have K0 : Keep h0 h1 [] := (Keep.refl _ _).ext E1
  have ER0 := A1
  have GF0 : Fld Z h1 r "com/example/strict_model/strictmodel/TreeNode$Branch" "first" "Lcom/example/strict_model/strictmodel/TreeNode$Linked;" .null := D1 (Or.inl (hw _ (List.mem_of_getElem? (i := 83) rfl))) (ty := .object "com/example/strict_model/strictmodel/TreeNode$Linked") (by decide)
  have rl0 := ER0.lt
  have N0 : Fr h0.size ([] : List Loc) := Fr.nil _
  refine go_static X2 hx hZ hown (hw _ (List.mem_of_getElem? (i := 24) rfl)) (hw _ (List.mem_of_getElem? (i := 25) rfl)) (hw _ (List.mem_of_getElem? (i := 26) rfl)) (hw _ (List.mem_of_getElem? (i := 27) rfl)) (by decide) e2 [(.int p2), (.int (0 : Int32))] [] (rm6 l Z a0 hw [] p2 0 cs h1 hcs (own_staK SC K0)) pd6 rfl (by rw [hml]; rfl) rfl 0 (Nat.le_of_eq rfl) (by decide) (by decide) (by decide) (by decide) (dc hby d0_14) (fun T3 v3 L3 X3 hQ3 => ?_)
  obtain ⟨b0, rfl, lb0, K3, N3, M0⟩ := hQ3
  show Go p e below _ (T3.setTop (mkF m 17 #[.val (.int p1), .val (.int p2), .val (.int n), .val (.ref r), .unset, .unset, .unset, .unset, .unset, .unset, .unset, .unset, .unset] [(.ref b0)]))
  refine go_astore X3 hx #[.val (.int p1), .val (.int p2), .val (.int n), .val (.ref r), .val (.ref b0), .unset, .unset, .unset, .unset, .unset, .unset, .unset, .unset] (dc hby d0_17) rfl rfl ?_
  refine go_iloadn X3 hx (dc hby d0_19) (v := p2) rfl ?_
  refine go_iconst X3 hx (1) (dc hby d0_20) rfl ?_
  have K1 : Keep h0 T3.heap [] := K0.trans K3 (by simp)
  have ER1 := ER0.keep K3
  have GF1 := GF0.keep K3 (by simp)
  have rb0 : r < b0 := Nat.lt_of_lt_of_le ER0.lt lb0
  have hb0 : h0.size ≤ b0 := Nat.le_trans gr (Nat.le_of_lt rb0)
  have FR0 : Fr h0.size (L3 : List Loc) := fun y hy => Nat.le_trans K0.1 (N3 y hy)
  have Na := Fr.app N0 FR0
  refine go_static X3 hx hZ hown (hw _ (List.mem_of_getElem? (i := 24) rfl)) (hw _ (List.mem_of_getElem? (i := 25) rfl)) (hw _ (List.mem_of_getElem? (i := 26) rfl)) (hw _ (List.mem_of_getElem? (i := 27) rfl)) (by decide) rfl [(.int p2), (.int (1 : Int32))] [] (rm6 l Z a0 hw [] p2 1 cs T3.heap hcs (own_staK SC K1)) pd6 rfl (by rw [hml]; rfl) rfl 0 (Nat.le_of_eq rfl) (by decide) (by decide) (by decide) (by decide) (dc hby d0_21) (fun T4 v4 L4 X4 hQ4 => ?_)
  obtain ⟨b1, rfl, lb1, K4, N4, M1⟩ := hQ4
  show Go p e below _ (T4.setTop (mkF m 24 #[.val (.int p1), .val (.int p2), .val (.int n), .val (.ref r), .val (.ref b0), .unset, .unset, .unset, .unset, .unset, .unset, .unset, .unset] [(.ref b1)]))
  refine go_astore X4 hx #[.val (.int p1), .val (.int p2), .val (.int n), .val (.ref r), .val (.ref b0), .val (.ref b1), .unset, .unset, .unset, .unset, .unset, .unset, .unset] (dc hby d0_24) rfl rfl ?_
  refine go_iloadn X4 hx (dc hby d0_26) (v := p2) rfl ?_
  refine go_iconst X4 hx (2) (dc hby d0_27) rfl ?_
  have K2 : Keep h0 T4.heap [] := K1.trans K4 (by simp)
  have ER2 := ER1.keep K4
  have GF2 := GF1.keep K4 (by simp)
  have rb1 : r < b1 := Nat.lt_of_lt_of_le ER1.lt lb1
  have bb01 : b0 < b1 := Nat.lt_of_lt_of_le M0.1.lt lb1
  have M0_ := M0.keep K4
  have hb1 : h0.size ≤ b1 := Nat.le_trans gr (Nat.le_of_lt rb1)
  have FR1 : Fr h0.size (L4 : List Loc) := fun y hy => Nat.le_trans K1.1 (N4 y hy)
  have Naa := Fr.app Na FR1
  refine go_static X4 hx hZ hown (hw _ (List.mem_of_getElem? (i := 24) rfl)) (hw _ (List.mem_of_getElem? (i := 25) rfl)) (hw _ (List.mem_of_getElem? (i := 26) rfl)) (hw _ (List.mem_of_getElem? (i := 27) rfl)) (by decide) rfl [(.int p2), (.int (2 : Int32))] [] (rm6 l Z a0 hw [] p2 2 cs T4.heap hcs (own_staK SC K2)) pd6 rfl (by rw [hml]; rfl) rfl 0 (Nat.le_of_eq rfl) (by decide) (by decide) (by decide) (by decide) (dc hby d0_28) (fun T5 v5 L5 X5 hQ5 => ?_)
  obtain ⟨b2, rfl, lb2, K5, N5, M2⟩ := hQ5
  show Go p e below _ (T5.setTop (mkF m 31 #[.val (.int p1), .val (.int p2), .val (.int n), .val (.ref r), .val (.ref b0), .val (.ref b1), .unset, .unset, .unset, .unset, .unset, .unset, .unset] [(.ref b2)]))
  refine go_astore X5 hx #[.val (.int p1), .val (.int p2), .val (.int n), .val (.ref r), .val (.ref b0), .val (.ref b1), .val (.ref b2), .unset, .unset, .unset, .unset, .unset, .unset] (dc hby d0_31) rfl rfl ?_
  refine go_iloadn X5 hx (dc hby d0_33) (v := n) rfl ?_
  have K3 : Keep h0 T5.heap [] := K2.trans K5 (by simp)
  have ER3 := ER2.keep K5
  have GF3 := GF2.keep K5 (by simp)
  have rb2 : r < b2 := Nat.lt_of_lt_of_le ER2.lt lb2
  have bb02 : b0 < b2 := Nat.lt_of_lt_of_le M0_.1.lt lb2
  have M0__ := M0_.keep K5
  have bb12 : b1 < b2 := Nat.lt_of_lt_of_le M1.1.lt lb2
  have M1_ := M1.keep K5
  have hb2 : h0.size ≤ b2 := Nat.le_trans gr (Nat.le_of_lt rb2)
  have FR2 : Fr h0.size (L5 : List Loc) := fun y hy => Nat.le_trans K2.1 (N5 y hy)
  have Naaa := Fr.app Naa FR2
  have hn4 : n = 0 ∨ n = 1 ∨ n = 2 ∨ n = 3 := by
    have h1 := c_mask p1 3 2 (by decide) (by decide)
    rw [hn] at h1
    simp only [← Int32.toInt_inj, show (0 : Int32).toInt = 0 from rfl, show (1 : Int32).toInt = 1 from rfl, show (2 : Int32).toInt = 2 from rfl, show (3 : Int32).toInt = 3 from rfl]
    omega
  rcases hn4 with rfl | rfl | rfl | rfl
  · show Go p e below _ (T5.setTop (mkF m 34 #[.val (.int p1), .val (.int p2), .val (.int (0 : Int32)), .val (.ref r), .val (.ref b0), .val (.ref b1), .val (.ref b2), .unset, .unset, .unset, .unset, .unset, .unset] [(.int (0 : Int32))]))
    refine go_ifc_le X5 hx (db hby d0_34) (fun c34 => ?_) (fun c34 => absurd c34 (by decide))
    refine go_iloadn X5 hx (dc hby d0_43) (v := (0 : Int32)) rfl ?_
    refine go_iconst X5 hx (1) (dc hby d0_44) rfl ?_
    refine go_icmp_le X5 hx (db hby d0_45) (fun c45 => ?_) (fun c45 => absurd c45 (by decide))
    refine go_iloadn X5 hx (dc hby d0_54) (v := (0 : Int32)) rfl ?_
    refine go_iconst X5 hx (2) (dc hby d0_55) rfl ?_
    refine go_icmp_le X5 hx (db hby d0_56) (fun c56 => ?_) (fun c56 => absurd c56 (by decide))
    refine go_aload X5 hx (dc hby d0_65) (v := (.ref b0)) rfl rfl ?_
    refine own_gps X5 hx hZ hw hown rfl M0__.1 (rm13 l Z a0 hw [] b0 .null T5.heap (Or.inl ⟨M0__.2.1, rfl⟩)) (by rw [hml]; rfl) (by decide) (by decide) (by decide) (by decide) (dc hby d0_67) (fun T6 X6 e6 => ?_)
    refine go_astore X6 hx #[.val (.int p1), .val (.int p2), .val (.int (0 : Int32)), .val (.ref r), .val (.ref b0), .val (.ref b1), .val (.ref b2), .val .null, .unset, .unset, .unset, .unset, .unset] (dc hby d0_70) rfl rfl ?_
    refine go_aload X6 hx (dc hby d0_72) (v := (.ref b1)) rfl rfl ?_
    refine own_gps X6 hx hZ hw hown e6 M1_.1 (rm13 l Z a0 hw [] b1 .null T5.heap (Or.inl ⟨M1_.2.1, rfl⟩)) (by rw [hml]; rfl) (by decide) (by decide) (by decide) (by decide) (dc hby d0_74) (fun T7 X7 e7 => ?_)
    refine go_astore X7 hx #[.val (.int p1), .val (.int p2), .val (.int (0 : Int32)), .val (.ref r), .val (.ref b0), .val (.ref b1), .val (.ref b2), .val .null, .val .null, .unset, .unset, .unset, .unset] (dc hby d0_77) rfl rfl ?_
    refine go_aload X7 hx (dc hby d0_79) (v := (.ref b2)) rfl rfl ?_
    refine own_gps X7 hx hZ hw hown e7 M2.1 (rm13 l Z a0 hw [] b2 .null T5.heap (Or.inl ⟨M2.2.1, rfl⟩)) (by rw [hml]; rfl) (by decide) (by decide) (by decide) (by decide) (dc hby d0_81) (fun T8 X8 e8 => ?_)
    refine go_astore X8 hx #[.val (.int p1), .val (.int p2), .val (.int (0 : Int32)), .val (.ref r), .val (.ref b0), .val (.ref b1), .val (.ref b2), .val .null, .val .null, .val .null, .unset, .unset, .unset] (dc hby d0_84) rfl rfl ?_
    refine go_aload X8 hx (dc hby d0_86) (v := .null) rfl rfl ?_
    refine go_ifnonnullN X8 hx (db hby d0_88) ?_
    refine go_iconst X8 hx (1) (dc hby d0_91) rfl ?_
    refine go_goto X8 hx (db hby d0_92) ?_
    refine go_istore X8 hx #[.val (.int p1), .val (.int p2), .val (.int (0 : Int32)), .val (.ref r), .val (.ref b0), .val (.ref b1), .val (.ref b2), .val .null, .val .null, .val .null, .val (.int (1 : Int32)), .unset, .unset] (dc hby d0_96) rfl ?_
    refine go_iloadn X8 hx (dc hby d0_98) (v := (0 : Int32)) rfl ?_
    refine go_iconst X8 hx (1) (dc hby d0_99) rfl ?_
    refine go_icmp_le X8 hx (db hby d0_100) (fun c100 => ?_) (fun c100 => absurd c100 (by decide))
    refine go_aload X8 hx (dc hby d0_118) (v := .null) rfl rfl ?_
    refine go_ifnonnullN X8 hx (db hby d0_120) ?_
    refine go_iconst X8 hx (1) (dc hby d0_123) rfl ?_
    refine go_goto X8 hx (db hby d0_124) ?_
    refine go_istore X8 hx #[.val (.int p1), .val (.int p2), .val (.int (0 : Int32)), .val (.ref r), .val (.ref b0), .val (.ref b1), .val (.ref b2), .val .null, .val .null, .val .null, .val (.int (1 : Int32)), .val (.int (1 : Int32)), .unset] (dc hby d0_128) rfl ?_
    refine go_iloadn X8 hx (dc hby d0_130) (v := (0 : Int32)) rfl ?_
    refine go_iconst X8 hx (2) (dc hby d0_131) rfl ?_
    refine go_icmp_le X8 hx (db hby d0_132) (fun c132 => ?_) (fun c132 => absurd c132 (by decide))
    refine go_aload X8 hx (dc hby d0_150) (v := .null) rfl rfl ?_
    refine go_ifnonnullN X8 hx (db hby d0_152) ?_
    refine go_iconst X8 hx (1) (dc hby d0_155) rfl ?_
    refine go_goto X8 hx (db hby d0_156) ?_
    refine go_istore X8 hx #[.val (.int p1), .val (.int p2), .val (.int (0 : Int32)), .val (.ref r), .val (.ref b0), .val (.ref b1), .val (.ref b2), .val .null, .val .null, .val .null, .val (.int (1 : Int32)), .val (.int (1 : Int32)), .val (.int (1 : Int32))] (dc hby d0_160) rfl ?_
    refine go_iload X8 hx (dc hby d0_162) (v := (1 : Int32)) rfl ?_
    refine go_ifc_eq X8 hx (db hby d0_164) (fun c164 => absurd c164 (by decide)) (fun c164 => ?_)
    refine go_iload X8 hx (dc hby d0_167) (v := (1 : Int32)) rfl ?_
    refine go_ifc_eq X8 hx (db hby d0_169) (fun c169 => absurd c169 (by decide)) (fun c169 => ?_)
    refine go_iload X8 hx (dc hby d0_172) (v := (1 : Int32)) rfl ?_
    refine go_ifc_eq X8 hx (db hby d0_174) (fun c174 => absurd c174 (by decide)) (fun c174 => ?_)
    refine go_iconst X8 hx (1) (dc hby d0_177) rfl ?_
    refine go_goto X8 hx (db hby d0_178) ?_
    exact go_retN X8 hx hret (by simp) (dc hby d0_182) hk (by decide) (by decide) ⟨rfl, by simpa using Naaa⟩
  · show Go p e below _ (T5.setTop (mkF m 34 #[.val (.int p1), .val (.int p2), .val (.int (1 : Int32)), .val (.ref r), .val (.ref b0), .val (.ref b1), .val (.ref b2), .unset, .unset, .unset, .unset, .unset, .unset] [(.int (1 : Int32))]))
    refine go_ifc_le X5 hx (db hby d0_34) (fun c34 => absurd c34 (by decide)) (fun c34 => ?_)
    refine go_aloadn X5 hx (dc hby d0_37) (v := (.ref r)) rfl rfl ?_
    refine go_aload X5 hx (dc hby d0_38) (v := (.ref b0)) rfl rfl ?_
    refine go_virtualUp X5 hx hZ hown (hw _ (List.mem_of_getElem? (i := 75) rfl)) (hw _ (List.mem_of_getElem? (i := 76) rfl)) (hw _ (List.mem_of_getElem? (i := 77) rfl)) (hw _ (List.mem_of_getElem? (i := 79) rfl)) (hw _ (List.mem_of_getElem? (i := 78) rfl)) (hw _ (List.mem_of_getElem? (i := 9) rfl)) (hw _ (List.mem_of_getElem? (i := 80) rfl)) (by decide) rfl (a := r) ER3 [(.ref b0)] [] (rm14a l Z a0 hw [] r b0 T5.heap ER3 M0__.1 (Nat.ne_of_lt rb0) GF3 M0__.2.1 M0__.2.2.2) pd14 rfl (by rw [hml]; rfl) rfl 0 (Nat.le_of_eq rfl) (by decide) (by decide) (by decide) (by decide) (dc hby d0_40) (fun T9 v9 L9 X9 hQ9 => ?_)
    obtain ⟨rfl, NB9, y9_0, y9_1, W9_0, W9_1, W9_2⟩ := hQ9
    show Go p e below _ (T9.setTop (mkF m 43 #[.val (.int p1), .val (.int p2), .val (.int (1 : Int32)), .val (.ref r), .val (.ref b0), .val (.ref b1), .val (.ref b2), .unset, .unset, .unset, .unset, .unset, .unset] []))
    have z1_1 := GF3.other W9_0 (Or.inl (Nat.ne_of_lt rb0))
    have z1_2 := M0__.2.1.same W9_0
    have z1_3 := M0__.2.2.1.other W9_0 (Or.inr (own_sl_next_parent hw))
    have z1_4 := M0__.2.2.2.other W9_0 (Or.inr (own_sl_previous_parent hw))
    have z1_5 := M1_.2.1.other W9_0 (Or.inl (Nat.ne_of_gt bb01))
    have z1_6 := M1_.2.2.1.other W9_0 (Or.inl (Nat.ne_of_gt bb01))
    have z1_7 := M1_.2.2.2.other W9_0 (Or.inl (Nat.ne_of_gt bb01))
    have z1_8 := M2.2.1.other W9_0 (Or.inl (Nat.ne_of_gt bb02))
    have z1_9 := M2.2.2.1.other W9_0 (Or.inl (Nat.ne_of_gt bb02))
    have z1_10 := M2.2.2.2.other W9_0 (Or.inl (Nat.ne_of_gt bb02))
    have z1_11 := ER3.wr W9_0
    have z1_12 := M0__.1.wr W9_0
    have z1_13 := M1_.1.wr W9_0
    have z1_14 := M2.1.wr W9_0
    have z1_15 := K3.wr W9_0 (Or.inr hb0)
    have z1_16 := z1_1.same W9_1
    have z1_17 := z1_2.other W9_1 (Or.inl (Nat.ne_of_gt rb0))
    have z1_18 := z1_3.other W9_1 (Or.inl (Nat.ne_of_gt rb0))
    have z1_19 := z1_4.other W9_1 (Or.inl (Nat.ne_of_gt rb0))
    have z1_20 := z1_5.other W9_1 (Or.inl (Nat.ne_of_gt rb1))
    have z1_21 := z1_6.other W9_1 (Or.inl (Nat.ne_of_gt rb1))
    have z1_22 := z1_7.other W9_1 (Or.inl (Nat.ne_of_gt rb1))
    have z1_23 := z1_8.other W9_1 (Or.inl (Nat.ne_of_gt rb2))
    have z1_24 := z1_9.other W9_1 (Or.inl (Nat.ne_of_gt rb2))
    have z1_25 := z1_10.other W9_1 (Or.inl (Nat.ne_of_gt rb2))
    have z1_26 := z1_11.wr W9_1
    have z1_27 := z1_12.wr W9_1
    have z1_28 := z1_13.wr W9_1
    have z1_29 := z1_14.wr W9_1
    have z1_30 := z1_15.wr W9_1 (Or.inr gr)
    have z1_31 := z1_16.other W9_2 (Or.inl (Nat.ne_of_lt rb0))
    have z1_32 := z1_17.other W9_2 (Or.inr (own_sl_parent_previous hw))
    have z1_33 := z1_18.other W9_2 (Or.inr (own_sl_next_previous hw))
    have z1_34 := z1_19.same W9_2
    have z1_35 := z1_20.other W9_2 (Or.inl (Nat.ne_of_gt bb01))
    have z1_36 := z1_21.other W9_2 (Or.inl (Nat.ne_of_gt bb01))
    have z1_37 := z1_22.other W9_2 (Or.inl (Nat.ne_of_gt bb01))
    have z1_38 := z1_23.other W9_2 (Or.inl (Nat.ne_of_gt bb02))
    have z1_39 := z1_24.other W9_2 (Or.inl (Nat.ne_of_gt bb02))
    have z1_40 := z1_25.other W9_2 (Or.inl (Nat.ne_of_gt bb02))
    have z1_41 := z1_26.wr W9_2
    have z1_42 := z1_27.wr W9_2
    have z1_43 := z1_28.wr W9_2
    have z1_44 := z1_29.wr W9_2
    have z1_45 := z1_30.wr W9_2 (Or.inr hb0)
    have z1_46 := Fr.app Naaa (L' := L9) (fun y hy => by
      rcases NB9 y hy with q | q
      · rw [q]; exact gr
      · rw [q]; exact hb0)
    refine go_iloadn X9 hx (dc hby d0_43) (v := (1 : Int32)) rfl ?_
    refine go_iconst X9 hx (1) (dc hby d0_44) rfl ?_
    refine go_icmp_le X9 hx (db hby d0_45) (fun c45 => ?_) (fun c45 => absurd c45 (by decide))
    refine go_iloadn X9 hx (dc hby d0_54) (v := (1 : Int32)) rfl ?_
    refine go_iconst X9 hx (2) (dc hby d0_55) rfl ?_
    refine go_icmp_le X9 hx (db hby d0_56) (fun c56 => ?_) (fun c56 => absurd c56 (by decide))
    refine go_aload X9 hx (dc hby d0_65) (v := (.ref b0)) rfl rfl ?_
    refine own_gps X9 hx hZ hw hown rfl z1_42 (rm13 l Z a0 hw [] b0 .null T9.heap (Or.inr ⟨r, b0, z1_32, z1_31, Or.inl ⟨rfl, rfl⟩⟩)) (by rw [hml]; rfl) (by decide) (by decide) (by decide) (by decide) (dc hby d0_67) (fun T10 X10 e10 => ?_)
    refine go_astore X10 hx #[.val (.int p1), .val (.int p2), .val (.int (1 : Int32)), .val (.ref r), .val (.ref b0), .val (.ref b1), .val (.ref b2), .val .null, .unset, .unset, .unset, .unset, .unset] (dc hby d0_70) rfl rfl ?_
    refine go_aload X10 hx (dc hby d0_72) (v := (.ref b1)) rfl rfl ?_
    refine own_gps X10 hx hZ hw hown e10 z1_43 (rm13 l Z a0 hw [] b1 .null T9.heap (Or.inl ⟨z1_35, rfl⟩)) (by rw [hml]; rfl) (by decide) (by decide) (by decide) (by decide) (dc hby d0_74) (fun T11 X11 e11 => ?_)
    refine go_astore X11 hx #[.val (.int p1), .val (.int p2), .val (.int (1 : Int32)), .val (.ref r), .val (.ref b0), .val (.ref b1), .val (.ref b2), .val .null, .val .null, .unset, .unset, .unset, .unset] (dc hby d0_77) rfl rfl ?_
    refine go_aload X11 hx (dc hby d0_79) (v := (.ref b2)) rfl rfl ?_
    refine own_gps X11 hx hZ hw hown e11 z1_44 (rm13 l Z a0 hw [] b2 .null T9.heap (Or.inl ⟨z1_38, rfl⟩)) (by rw [hml]; rfl) (by decide) (by decide) (by decide) (by decide) (dc hby d0_81) (fun T12 X12 e12 => ?_)
    refine go_astore X12 hx #[.val (.int p1), .val (.int p2), .val (.int (1 : Int32)), .val (.ref r), .val (.ref b0), .val (.ref b1), .val (.ref b2), .val .null, .val .null, .val .null, .unset, .unset, .unset] (dc hby d0_84) rfl rfl ?_
    refine go_aload X12 hx (dc hby d0_86) (v := .null) rfl rfl ?_
    refine go_ifnonnullN X12 hx (db hby d0_88) ?_
    refine go_iconst X12 hx (1) (dc hby d0_91) rfl ?_
    refine go_goto X12 hx (db hby d0_92) ?_
    refine go_istore X12 hx #[.val (.int p1), .val (.int p2), .val (.int (1 : Int32)), .val (.ref r), .val (.ref b0), .val (.ref b1), .val (.ref b2), .val .null, .val .null, .val .null, .val (.int (1 : Int32)), .unset, .unset] (dc hby d0_96) rfl ?_
    refine go_iloadn X12 hx (dc hby d0_98) (v := (1 : Int32)) rfl ?_
    refine go_iconst X12 hx (1) (dc hby d0_99) rfl ?_
    refine go_icmp_le X12 hx (db hby d0_100) (fun c100 => ?_) (fun c100 => absurd c100 (by decide))
    refine go_aload X12 hx (dc hby d0_118) (v := .null) rfl rfl ?_
    refine go_ifnonnullN X12 hx (db hby d0_120) ?_
    refine go_iconst X12 hx (1) (dc hby d0_123) rfl ?_
    refine go_goto X12 hx (db hby d0_124) ?_
    refine go_istore X12 hx #[.val (.int p1), .val (.int p2), .val (.int (1 : Int32)), .val (.ref r), .val (.ref b0), .val (.ref b1), .val (.ref b2), .val .null, .val .null, .val .null, .val (.int (1 : Int32)), .val (.int (1 : Int32)), .unset] (dc hby d0_128) rfl ?_
    refine go_iloadn X12 hx (dc hby d0_130) (v := (1 : Int32)) rfl ?_
    refine go_iconst X12 hx (2) (dc hby d0_131) rfl ?_
    refine go_icmp_le X12 hx (db hby d0_132) (fun c132 => ?_) (fun c132 => absurd c132 (by decide))
    refine go_aload X12 hx (dc hby d0_150) (v := .null) rfl rfl ?_
    refine go_ifnonnullN X12 hx (db hby d0_152) ?_
    refine go_iconst X12 hx (1) (dc hby d0_155) rfl ?_
    refine go_goto X12 hx (db hby d0_156) ?_
    refine go_istore X12 hx #[.val (.int p1), .val (.int p2), .val (.int (1 : Int32)), .val (.ref r), .val (.ref b0), .val (.ref b1), .val (.ref b2), .val .null, .val .null, .val .null, .val (.int (1 : Int32)), .val (.int (1 : Int32)), .val (.int (1 : Int32))] (dc hby d0_160) rfl ?_
    refine go_iload X12 hx (dc hby d0_162) (v := (1 : Int32)) rfl ?_
    refine go_ifc_eq X12 hx (db hby d0_164) (fun c164 => absurd c164 (by decide)) (fun c164 => ?_)
    refine go_iload X12 hx (dc hby d0_167) (v := (1 : Int32)) rfl ?_
    refine go_ifc_eq X12 hx (db hby d0_169) (fun c169 => absurd c169 (by decide)) (fun c169 => ?_)
    refine go_iload X12 hx (dc hby d0_172) (v := (1 : Int32)) rfl ?_
    refine go_ifc_eq X12 hx (db hby d0_174) (fun c174 => absurd c174 (by decide)) (fun c174 => ?_)
    refine go_iconst X12 hx (1) (dc hby d0_177) rfl ?_
    refine go_goto X12 hx (db hby d0_178) ?_
    exact go_retN X12 hx hret (by simp) (dc hby d0_182) hk (by decide) (by decide) ⟨rfl, by simpa using z1_46⟩
  · show Go p e below _ (T5.setTop (mkF m 34 #[.val (.int p1), .val (.int p2), .val (.int (2 : Int32)), .val (.ref r), .val (.ref b0), .val (.ref b1), .val (.ref b2), .unset, .unset, .unset, .unset, .unset, .unset] [(.int (2 : Int32))]))
    refine go_ifc_le X5 hx (db hby d0_34) (fun c34 => absurd c34 (by decide)) (fun c34 => ?_)
    refine go_aloadn X5 hx (dc hby d0_37) (v := (.ref r)) rfl rfl ?_
    refine go_aload X5 hx (dc hby d0_38) (v := (.ref b0)) rfl rfl ?_
    refine go_virtualUp X5 hx hZ hown (hw _ (List.mem_of_getElem? (i := 75) rfl)) (hw _ (List.mem_of_getElem? (i := 76) rfl)) (hw _ (List.mem_of_getElem? (i := 77) rfl)) (hw _ (List.mem_of_getElem? (i := 79) rfl)) (hw _ (List.mem_of_getElem? (i := 78) rfl)) (hw _ (List.mem_of_getElem? (i := 9) rfl)) (hw _ (List.mem_of_getElem? (i := 80) rfl)) (by decide) rfl (a := r) ER3 [(.ref b0)] [] (rm14a l Z a0 hw [] r b0 T5.heap ER3 M0__.1 (Nat.ne_of_lt rb0) GF3 M0__.2.1 M0__.2.2.2) pd14 rfl (by rw [hml]; rfl) rfl 0 (Nat.le_of_eq rfl) (by decide) (by decide) (by decide) (by decide) (dc hby d0_40) (fun T13 v13 L13 X13 hQ13 => ?_)
    obtain ⟨rfl, NB13, y13_0, y13_1, W13_0, W13_1, W13_2⟩ := hQ13
    show Go p e below _ (T13.setTop (mkF m 43 #[.val (.int p1), .val (.int p2), .val (.int (2 : Int32)), .val (.ref r), .val (.ref b0), .val (.ref b1), .val (.ref b2), .unset, .unset, .unset, .unset, .unset, .unset] []))
    have z2_1 := GF3.other W13_0 (Or.inl (Nat.ne_of_lt rb0))
    have z2_2 := M0__.2.1.same W13_0
    have z2_3 := M0__.2.2.1.other W13_0 (Or.inr (own_sl_next_parent hw))
    have z2_4 := M0__.2.2.2.other W13_0 (Or.inr (own_sl_previous_parent hw))
    have z2_5 := M1_.2.1.other W13_0 (Or.inl (Nat.ne_of_gt bb01))
    have z2_6 := M1_.2.2.1.other W13_0 (Or.inl (Nat.ne_of_gt bb01))
    have z2_7 := M1_.2.2.2.other W13_0 (Or.inl (Nat.ne_of_gt bb01))
    have z2_8 := M2.2.1.other W13_0 (Or.inl (Nat.ne_of_gt bb02))
    have z2_9 := M2.2.2.1.other W13_0 (Or.inl (Nat.ne_of_gt bb02))
    have z2_10 := M2.2.2.2.other W13_0 (Or.inl (Nat.ne_of_gt bb02))
    have z2_11 := ER3.wr W13_0
    have z2_12 := M0__.1.wr W13_0
    have z2_13 := M1_.1.wr W13_0
    have z2_14 := M2.1.wr W13_0
    have z2_15 := K3.wr W13_0 (Or.inr hb0)
    have z2_16 := z2_1.same W13_1
    have z2_17 := z2_2.other W13_1 (Or.inl (Nat.ne_of_gt rb0))
    have z2_18 := z2_3.other W13_1 (Or.inl (Nat.ne_of_gt rb0))
    have z2_19 := z2_4.other W13_1 (Or.inl (Nat.ne_of_gt rb0))
    have z2_20 := z2_5.other W13_1 (Or.inl (Nat.ne_of_gt rb1))
    have z2_21 := z2_6.other W13_1 (Or.inl (Nat.ne_of_gt rb1))
    have z2_22 := z2_7.other W13_1 (Or.inl (Nat.ne_of_gt rb1))
    have z2_23 := z2_8.other W13_1 (Or.inl (Nat.ne_of_gt rb2))
    have z2_24 := z2_9.other W13_1 (Or.inl (Nat.ne_of_gt rb2))
    have z2_25 := z2_10.other W13_1 (Or.inl (Nat.ne_of_gt rb2))
    have z2_26 := z2_11.wr W13_1
    have z2_27 := z2_12.wr W13_1
    have z2_28 := z2_13.wr W13_1
    have z2_29 := z2_14.wr W13_1
    have z2_30 := z2_15.wr W13_1 (Or.inr gr)
    have z2_31 := z2_16.other W13_2 (Or.inl (Nat.ne_of_lt rb0))
    have z2_32 := z2_17.other W13_2 (Or.inr (own_sl_parent_previous hw))
    have z2_33 := z2_18.other W13_2 (Or.inr (own_sl_next_previous hw))
    have z2_34 := z2_19.same W13_2
    have z2_35 := z2_20.other W13_2 (Or.inl (Nat.ne_of_gt bb01))
    have z2_36 := z2_21.other W13_2 (Or.inl (Nat.ne_of_gt bb01))
    have z2_37 := z2_22.other W13_2 (Or.inl (Nat.ne_of_gt bb01))
    have z2_38 := z2_23.other W13_2 (Or.inl (Nat.ne_of_gt bb02))
    have z2_39 := z2_24.other W13_2 (Or.inl (Nat.ne_of_gt bb02))
    have z2_40 := z2_25.other W13_2 (Or.inl (Nat.ne_of_gt bb02))
    have z2_41 := z2_26.wr W13_2
    have z2_42 := z2_27.wr W13_2
    have z2_43 := z2_28.wr W13_2
    have z2_44 := z2_29.wr W13_2
    have z2_45 := z2_30.wr W13_2 (Or.inr hb0)
    have z2_46 := Fr.app Naaa (L' := L13) (fun y hy => by
      rcases NB13 y hy with q | q
      · rw [q]; exact gr
      · rw [q]; exact hb0)
    refine go_iloadn X13 hx (dc hby d0_43) (v := (2 : Int32)) rfl ?_
    refine go_iconst X13 hx (1) (dc hby d0_44) rfl ?_
    refine go_icmp_le X13 hx (db hby d0_45) (fun c45 => absurd c45 (by decide)) (fun c45 => ?_)
    refine go_aloadn X13 hx (dc hby d0_48) (v := (.ref r)) rfl rfl ?_
    refine go_aload X13 hx (dc hby d0_49) (v := (.ref b1)) rfl rfl ?_
    refine go_virtualUp X13 hx hZ hown (hw _ (List.mem_of_getElem? (i := 75) rfl)) (hw _ (List.mem_of_getElem? (i := 76) rfl)) (hw _ (List.mem_of_getElem? (i := 77) rfl)) (hw _ (List.mem_of_getElem? (i := 79) rfl)) (hw _ (List.mem_of_getElem? (i := 78) rfl)) (hw _ (List.mem_of_getElem? (i := 9) rfl)) (hw _ (List.mem_of_getElem? (i := 80) rfl)) (by decide) rfl (a := r) z2_41 [(.ref b1)] [] (rm14b l Z a0 hw [] r b1 b0 b0 T13.heap z2_43 z2_42 z2_42 (Nat.ne_of_lt rb1) (Nat.ne_of_lt bb01) (Nat.ne_of_lt bb01) z2_31 z2_35 z2_37 z2_34 ⟨_, z2_33⟩) pd14 rfl (by rw [hml]; rfl) rfl 0 (Nat.le_of_eq rfl) (by decide) (by decide) (by decide) (by decide) (dc hby d0_51) (fun T14 v14 L14 X14 hQ14 => ?_)
    obtain ⟨rfl, NB14, y14_0, y14_1, y14_2, W14_0, W14_1, W14_2, W14_3⟩ := hQ14
    show Go p e below _ (T14.setTop (mkF m 54 #[.val (.int p1), .val (.int p2), .val (.int (2 : Int32)), .val (.ref r), .val (.ref b0), .val (.ref b1), .val (.ref b2), .unset, .unset, .unset, .unset, .unset, .unset] []))
    have z2_47 := z2_31.other W14_0 (Or.inl (Nat.ne_of_lt rb1))
    have z2_48 := z2_32.other W14_0 (Or.inl (Nat.ne_of_lt bb01))
    have z2_49 := z2_33.other W14_0 (Or.inl (Nat.ne_of_lt bb01))
    have z2_50 := z2_34.other W14_0 (Or.inl (Nat.ne_of_lt bb01))
    have z2_51 := z2_35.same W14_0
    have z2_52 := z2_36.other W14_0 (Or.inr (own_sl_next_parent hw))
    have z2_53 := z2_37.other W14_0 (Or.inr (own_sl_previous_parent hw))
    have z2_54 := z2_38.other W14_0 (Or.inl (Nat.ne_of_gt bb12))
    have z2_55 := z2_39.other W14_0 (Or.inl (Nat.ne_of_gt bb12))
    have z2_56 := z2_40.other W14_0 (Or.inl (Nat.ne_of_gt bb12))
    have z2_57 := z2_41.wr W14_0
    have z2_58 := z2_42.wr W14_0
    have z2_59 := z2_43.wr W14_0
    have z2_60 := z2_44.wr W14_0
    have z2_61 := z2_45.wr W14_0 (Or.inr hb1)
    have z2_62 := z2_47.other W14_1 (Or.inl (Nat.ne_of_lt rb0))
    have z2_63 := z2_48.other W14_1 (Or.inr (own_sl_parent_next hw))
    have z2_64 := z2_49.same W14_1
    have z2_65 := z2_50.other W14_1 (Or.inr (own_sl_previous_next hw))
    have z2_66 := z2_51.other W14_1 (Or.inl (Nat.ne_of_gt bb01))
    have z2_67 := z2_52.other W14_1 (Or.inl (Nat.ne_of_gt bb01))
    have z2_68 := z2_53.other W14_1 (Or.inl (Nat.ne_of_gt bb01))
    have z2_69 := z2_54.other W14_1 (Or.inl (Nat.ne_of_gt bb02))
    have z2_70 := z2_55.other W14_1 (Or.inl (Nat.ne_of_gt bb02))
    have z2_71 := z2_56.other W14_1 (Or.inl (Nat.ne_of_gt bb02))
    have z2_72 := z2_57.wr W14_1
    have z2_73 := z2_58.wr W14_1
    have z2_74 := z2_59.wr W14_1
    have z2_75 := z2_60.wr W14_1
    have z2_76 := z2_61.wr W14_1 (Or.inr hb0)
    have z2_77 := z2_62.other W14_2 (Or.inl (Nat.ne_of_lt rb1))
    have z2_78 := z2_63.other W14_2 (Or.inl (Nat.ne_of_lt bb01))
    have z2_79 := z2_64.other W14_2 (Or.inl (Nat.ne_of_lt bb01))
    have z2_80 := z2_65.other W14_2 (Or.inl (Nat.ne_of_lt bb01))
    have z2_81 := z2_66.other W14_2 (Or.inr (own_sl_parent_previous hw))
    have z2_82 := z2_67.other W14_2 (Or.inr (own_sl_next_previous hw))
    have z2_83 := z2_68.same W14_2
    have z2_84 := z2_69.other W14_2 (Or.inl (Nat.ne_of_gt bb12))
    have z2_85 := z2_70.other W14_2 (Or.inl (Nat.ne_of_gt bb12))
    have z2_86 := z2_71.other W14_2 (Or.inl (Nat.ne_of_gt bb12))
    have z2_87 := z2_72.wr W14_2
    have z2_88 := z2_73.wr W14_2
    have z2_89 := z2_74.wr W14_2
    have z2_90 := z2_75.wr W14_2
    have z2_91 := z2_76.wr W14_2 (Or.inr hb1)
    have z2_92 := z2_77.other W14_3 (Or.inl (Nat.ne_of_lt rb0))
    have z2_93 := z2_78.other W14_3 (Or.inr (own_sl_parent_previous hw))
    have z2_94 := z2_79.other W14_3 (Or.inr (own_sl_next_previous hw))
    have z2_95 := z2_80.same W14_3
    have z2_96 := z2_81.other W14_3 (Or.inl (Nat.ne_of_gt bb01))
    have z2_97 := z2_82.other W14_3 (Or.inl (Nat.ne_of_gt bb01))
    have z2_98 := z2_83.other W14_3 (Or.inl (Nat.ne_of_gt bb01))
    have z2_99 := z2_84.other W14_3 (Or.inl (Nat.ne_of_gt bb02))
    have z2_100 := z2_85.other W14_3 (Or.inl (Nat.ne_of_gt bb02))
    have z2_101 := z2_86.other W14_3 (Or.inl (Nat.ne_of_gt bb02))
    have z2_102 := z2_87.wr W14_3
    have z2_103 := z2_88.wr W14_3
    have z2_104 := z2_89.wr W14_3
    have z2_105 := z2_90.wr W14_3
    have z2_106 := z2_91.wr W14_3 (Or.inr hb0)
    have z2_107 := Fr.app z2_46 (L' := L14) (fun y hy => by
      rcases NB14 y hy with q | q | q
      · rw [q]; exact hb0
      · rw [q]; exact hb0
      · rw [q]; exact hb1)
    refine go_iloadn X14 hx (dc hby d0_54) (v := (2 : Int32)) rfl ?_
    refine go_iconst X14 hx (2) (dc hby d0_55) rfl ?_
    refine go_icmp_le X14 hx (db hby d0_56) (fun c56 => ?_) (fun c56 => absurd c56 (by decide))
    refine go_aload X14 hx (dc hby d0_65) (v := (.ref b0)) rfl rfl ?_
    refine own_gps X14 hx hZ hw hown rfl z2_103 (rm13 l Z a0 hw [] b0 .null T14.heap (Or.inr ⟨r, b0, z2_93, z2_92, Or.inl ⟨rfl, rfl⟩⟩)) (by rw [hml]; rfl) (by decide) (by decide) (by decide) (by decide) (dc hby d0_67) (fun T15 X15 e15 => ?_)
    refine go_astore X15 hx #[.val (.int p1), .val (.int p2), .val (.int (2 : Int32)), .val (.ref r), .val (.ref b0), .val (.ref b1), .val (.ref b2), .val .null, .unset, .unset, .unset, .unset, .unset] (dc hby d0_70) rfl rfl ?_
    refine go_aload X15 hx (dc hby d0_72) (v := (.ref b1)) rfl rfl ?_
    refine own_gps X15 hx hZ hw hown e15 z2_104 (rm13 l Z a0 hw [] b1 (.ref b0) T14.heap (Or.inr ⟨r, b0, z2_96, z2_92, Or.inr ⟨(Nat.ne_of_lt bb01), z2_98, rfl⟩⟩)) (by rw [hml]; rfl) (by decide) (by decide) (by decide) (by decide) (dc hby d0_74) (fun T16 X16 e16 => ?_)
    refine go_astore X16 hx #[.val (.int p1), .val (.int p2), .val (.int (2 : Int32)), .val (.ref r), .val (.ref b0), .val (.ref b1), .val (.ref b2), .val .null, .val (.ref b0), .unset, .unset, .unset, .unset] (dc hby d0_77) rfl rfl ?_
    refine go_aload X16 hx (dc hby d0_79) (v := (.ref b2)) rfl rfl ?_
    refine own_gps X16 hx hZ hw hown e16 z2_105 (rm13 l Z a0 hw [] b2 .null T14.heap (Or.inl ⟨z2_99, rfl⟩)) (by rw [hml]; rfl) (by decide) (by decide) (by decide) (by decide) (dc hby d0_81) (fun T17 X17 e17 => ?_)
    refine go_astore X17 hx #[.val (.int p1), .val (.int p2), .val (.int (2 : Int32)), .val (.ref r), .val (.ref b0), .val (.ref b1), .val (.ref b2), .val .null, .val (.ref b0), .val .null, .unset, .unset, .unset] (dc hby d0_84) rfl rfl ?_
    refine go_aload X17 hx (dc hby d0_86) (v := .null) rfl rfl ?_
    refine go_ifnonnullN X17 hx (db hby d0_88) ?_
    refine go_iconst X17 hx (1) (dc hby d0_91) rfl ?_
    refine go_goto X17 hx (db hby d0_92) ?_
    refine go_istore X17 hx #[.val (.int p1), .val (.int p2), .val (.int (2 : Int32)), .val (.ref r), .val (.ref b0), .val (.ref b1), .val (.ref b2), .val .null, .val (.ref b0), .val .null, .val (.int (1 : Int32)), .unset, .unset] (dc hby d0_96) rfl ?_
    refine go_iloadn X17 hx (dc hby d0_98) (v := (2 : Int32)) rfl ?_
    refine go_iconst X17 hx (1) (dc hby d0_99) rfl ?_
    refine go_icmp_le X17 hx (db hby d0_100) (fun c100 => absurd c100 (by decide)) (fun c100 => ?_)
    refine go_aload X17 hx (dc hby d0_103) (v := (.ref b0)) rfl rfl ?_
    refine go_aload X17 hx (dc hby d0_105) (v := (.ref b0)) rfl rfl ?_
    refine go_acmp_ne X17 hx rfl rfl (db hby d0_107) (fun c107 => absurd rfl c107) (fun c107 => ?_)
    refine go_iconst X17 hx (1) (dc hby d0_110) rfl ?_
    refine go_goto X17 hx (db hby d0_111) ?_
    refine go_istore X17 hx #[.val (.int p1), .val (.int p2), .val (.int (2 : Int32)), .val (.ref r), .val (.ref b0), .val (.ref b1), .val (.ref b2), .val .null, .val (.ref b0), .val .null, .val (.int (1 : Int32)), .val (.int (1 : Int32)), .unset] (dc hby d0_128) rfl ?_
    refine go_iloadn X17 hx (dc hby d0_130) (v := (2 : Int32)) rfl ?_
    refine go_iconst X17 hx (2) (dc hby d0_131) rfl ?_
    refine go_icmp_le X17 hx (db hby d0_132) (fun c132 => ?_) (fun c132 => absurd c132 (by decide))
    refine go_aload X17 hx (dc hby d0_150) (v := .null) rfl rfl ?_
    refine go_ifnonnullN X17 hx (db hby d0_152) ?_
    refine go_iconst X17 hx (1) (dc hby d0_155) rfl ?_
    refine go_goto X17 hx (db hby d0_156) ?_
    refine go_istore X17 hx #[.val (.int p1), .val (.int p2), .val (.int (2 : Int32)), .val (.ref r), .val (.ref b0), .val (.ref b1), .val (.ref b2), .val .null, .val (.ref b0), .val .null, .val (.int (1 : Int32)), .val (.int (1 : Int32)), .val (.int (1 : Int32))] (dc hby d0_160) rfl ?_
    refine go_iload X17 hx (dc hby d0_162) (v := (1 : Int32)) rfl ?_
    refine go_ifc_eq X17 hx (db hby d0_164) (fun c164 => absurd c164 (by decide)) (fun c164 => ?_)
    refine go_iload X17 hx (dc hby d0_167) (v := (1 : Int32)) rfl ?_
    refine go_ifc_eq X17 hx (db hby d0_169) (fun c169 => absurd c169 (by decide)) (fun c169 => ?_)
    refine go_iload X17 hx (dc hby d0_172) (v := (1 : Int32)) rfl ?_
    refine go_ifc_eq X17 hx (db hby d0_174) (fun c174 => absurd c174 (by decide)) (fun c174 => ?_)
    refine go_iconst X17 hx (1) (dc hby d0_177) rfl ?_
    refine go_goto X17 hx (db hby d0_178) ?_
    exact go_retN X17 hx hret (by simp) (dc hby d0_182) hk (by decide) (by decide) ⟨rfl, by simpa using z2_107⟩
  · show Go p e below _ (T5.setTop (mkF m 34 #[.val (.int p1), .val (.int p2), .val (.int (3 : Int32)), .val (.ref r), .val (.ref b0), .val (.ref b1), .val (.ref b2), .unset, .unset, .unset, .unset, .unset, .unset] [(.int (3 : Int32))]))
    refine go_ifc_le X5 hx (db hby d0_34) (fun c34 => absurd c34 (by decide)) (fun c34 => ?_)
    refine go_aloadn X5 hx (dc hby d0_37) (v := (.ref r)) rfl rfl ?_
    refine go_aload X5 hx (dc hby d0_38) (v := (.ref b0)) rfl rfl ?_
    refine go_virtualUp X5 hx hZ hown (hw _ (List.mem_of_getElem? (i := 75) rfl)) (hw _ (List.mem_of_getElem? (i := 76) rfl)) (hw _ (List.mem_of_getElem? (i := 77) rfl)) (hw _ (List.mem_of_getElem? (i := 79) rfl)) (hw _ (List.mem_of_getElem? (i := 78) rfl)) (hw _ (List.mem_of_getElem? (i := 9) rfl)) (hw _ (List.mem_of_getElem? (i := 80) rfl)) (by decide) rfl (a := r) ER3 [(.ref b0)] [] (rm14a l Z a0 hw [] r b0 T5.heap ER3 M0__.1 (Nat.ne_of_lt rb0) GF3 M0__.2.1 M0__.2.2.2) pd14 rfl (by rw [hml]; rfl) rfl 0 (Nat.le_of_eq rfl) (by decide) (by decide) (by decide) (by decide) (dc hby d0_40) (fun T18 v18 L18 X18 hQ18 => ?_)
    obtain ⟨rfl, NB18, y18_0, y18_1, W18_0, W18_1, W18_2⟩ := hQ18
    show Go p e below _ (T18.setTop (mkF m 43 #[.val (.int p1), .val (.int p2), .val (.int (3 : Int32)), .val (.ref r), .val (.ref b0), .val (.ref b1), .val (.ref b2), .unset, .unset, .unset, .unset, .unset, .unset] []))
    have z3_1 := GF3.other W18_0 (Or.inl (Nat.ne_of_lt rb0))
    have z3_2 := M0__.2.1.same W18_0
    have z3_3 := M0__.2.2.1.other W18_0 (Or.inr (own_sl_next_parent hw))
    have z3_4 := M0__.2.2.2.other W18_0 (Or.inr (own_sl_previous_parent hw))
    have z3_5 := M1_.2.1.other W18_0 (Or.inl (Nat.ne_of_gt bb01))
    have z3_6 := M1_.2.2.1.other W18_0 (Or.inl (Nat.ne_of_gt bb01))
    have z3_7 := M1_.2.2.2.other W18_0 (Or.inl (Nat.ne_of_gt bb01))
    have z3_8 := M2.2.1.other W18_0 (Or.inl (Nat.ne_of_gt bb02))
    have z3_9 := M2.2.2.1.other W18_0 (Or.inl (Nat.ne_of_gt bb02))
    have z3_10 := M2.2.2.2.other W18_0 (Or.inl (Nat.ne_of_gt bb02))
    have z3_11 := ER3.wr W18_0
    have z3_12 := M0__.1.wr W18_0
    have z3_13 := M1_.1.wr W18_0
    have z3_14 := M2.1.wr W18_0
    have z3_15 := K3.wr W18_0 (Or.inr hb0)
    have z3_16 := z3_1.same W18_1
    have z3_17 := z3_2.other W18_1 (Or.inl (Nat.ne_of_gt rb0))
    have z3_18 := z3_3.other W18_1 (Or.inl (Nat.ne_of_gt rb0))
    have z3_19 := z3_4.other W18_1 (Or.inl (Nat.ne_of_gt rb0))
    have z3_20 := z3_5.other W18_1 (Or.inl (Nat.ne_of_gt rb1))
    have z3_21 := z3_6.other W18_1 (Or.inl (Nat.ne_of_gt rb1))
    have z3_22 := z3_7.other W18_1 (Or.inl (Nat.ne_of_gt rb1))
    have z3_23 := z3_8.other W18_1 (Or.inl (Nat.ne_of_gt rb2))
    have z3_24 := z3_9.other W18_1 (Or.inl (Nat.ne_of_gt rb2))
    have z3_25 := z3_10.other W18_1 (Or.inl (Nat.ne_of_gt rb2))
    have z3_26 := z3_11.wr W18_1
    have z3_27 := z3_12.wr W18_1
    have z3_28 := z3_13.wr W18_1
    have z3_29 := z3_14.wr W18_1
    have z3_30 := z3_15.wr W18_1 (Or.inr gr)
    have z3_31 := z3_16.other W18_2 (Or.inl (Nat.ne_of_lt rb0))
    have z3_32 := z3_17.other W18_2 (Or.inr (own_sl_parent_previous hw))
    have z3_33 := z3_18.other W18_2 (Or.inr (own_sl_next_previous hw))
    have z3_34 := z3_19.same W18_2
    have z3_35 := z3_20.other W18_2 (Or.inl (Nat.ne_of_gt bb01))
    have z3_36 := z3_21.other W18_2 (Or.inl (Nat.ne_of_gt bb01))
    have z3_37 := z3_22.other W18_2 (Or.inl (Nat.ne_of_gt bb01))
    have z3_38 := z3_23.other W18_2 (Or.inl (Nat.ne_of_gt bb02))
    have z3_39 := z3_24.other W18_2 (Or.inl (Nat.ne_of_gt bb02))
    have z3_40 := z3_25.other W18_2 (Or.inl (Nat.ne_of_gt bb02))
    have z3_41 := z3_26.wr W18_2
    have z3_42 := z3_27.wr W18_2
    have z3_43 := z3_28.wr W18_2
    have z3_44 := z3_29.wr W18_2
    have z3_45 := z3_30.wr W18_2 (Or.inr hb0)
    have z3_46 := Fr.app Naaa (L' := L18) (fun y hy => by
      rcases NB18 y hy with q | q
      · rw [q]; exact gr
      · rw [q]; exact hb0)
    refine go_iloadn X18 hx (dc hby d0_43) (v := (3 : Int32)) rfl ?_
    refine go_iconst X18 hx (1) (dc hby d0_44) rfl ?_
    refine go_icmp_le X18 hx (db hby d0_45) (fun c45 => absurd c45 (by decide)) (fun c45 => ?_)
    refine go_aloadn X18 hx (dc hby d0_48) (v := (.ref r)) rfl rfl ?_
    refine go_aload X18 hx (dc hby d0_49) (v := (.ref b1)) rfl rfl ?_
    refine go_virtualUp X18 hx hZ hown (hw _ (List.mem_of_getElem? (i := 75) rfl)) (hw _ (List.mem_of_getElem? (i := 76) rfl)) (hw _ (List.mem_of_getElem? (i := 77) rfl)) (hw _ (List.mem_of_getElem? (i := 79) rfl)) (hw _ (List.mem_of_getElem? (i := 78) rfl)) (hw _ (List.mem_of_getElem? (i := 9) rfl)) (hw _ (List.mem_of_getElem? (i := 80) rfl)) (by decide) rfl (a := r) z3_41 [(.ref b1)] [] (rm14b l Z a0 hw [] r b1 b0 b0 T18.heap z3_43 z3_42 z3_42 (Nat.ne_of_lt rb1) (Nat.ne_of_lt bb01) (Nat.ne_of_lt bb01) z3_31 z3_35 z3_37 z3_34 ⟨_, z3_33⟩) pd14 rfl (by rw [hml]; rfl) rfl 0 (Nat.le_of_eq rfl) (by decide) (by decide) (by decide) (by decide) (dc hby d0_51) (fun T19 v19 L19 X19 hQ19 => ?_)
    obtain ⟨rfl, NB19, y19_0, y19_1, y19_2, W19_0, W19_1, W19_2, W19_3⟩ := hQ19
    show Go p e below _ (T19.setTop (mkF m 54 #[.val (.int p1), .val (.int p2), .val (.int (3 : Int32)), .val (.ref r), .val (.ref b0), .val (.ref b1), .val (.ref b2), .unset, .unset, .unset, .unset, .unset, .unset] []))
    have z3_47 := z3_31.other W19_0 (Or.inl (Nat.ne_of_lt rb1))
    have z3_48 := z3_32.other W19_0 (Or.inl (Nat.ne_of_lt bb01))
    have z3_49 := z3_33.other W19_0 (Or.inl (Nat.ne_of_lt bb01))
    have z3_50 := z3_34.other W19_0 (Or.inl (Nat.ne_of_lt bb01))
    have z3_51 := z3_35.same W19_0
    have z3_52 := z3_36.other W19_0 (Or.inr (own_sl_next_parent hw))
    have z3_53 := z3_37.other W19_0 (Or.inr (own_sl_previous_parent hw))
    have z3_54 := z3_38.other W19_0 (Or.inl (Nat.ne_of_gt bb12))
    have z3_55 := z3_39.other W19_0 (Or.inl (Nat.ne_of_gt bb12))
    have z3_56 := z3_40.other W19_0 (Or.inl (Nat.ne_of_gt bb12))
    have z3_57 := z3_41.wr W19_0
    have z3_58 := z3_42.wr W19_0
    have z3_59 := z3_43.wr W19_0
    have z3_60 := z3_44.wr W19_0
    have z3_61 := z3_45.wr W19_0 (Or.inr hb1)
    have z3_62 := z3_47.other W19_1 (Or.inl (Nat.ne_of_lt rb0))
    have z3_63 := z3_48.other W19_1 (Or.inr (own_sl_parent_next hw))
    have z3_64 := z3_49.same W19_1
    have z3_65 := z3_50.other W19_1 (Or.inr (own_sl_previous_next hw))
    have z3_66 := z3_51.other W19_1 (Or.inl (Nat.ne_of_gt bb01))
    have z3_67 := z3_52.other W19_1 (Or.inl (Nat.ne_of_gt bb01))
    have z3_68 := z3_53.other W19_1 (Or.inl (Nat.ne_of_gt bb01))
    have z3_69 := z3_54.other W19_1 (Or.inl (Nat.ne_of_gt bb02))
    have z3_70 := z3_55.other W19_1 (Or.inl (Nat.ne_of_gt bb02))
    have z3_71 := z3_56.other W19_1 (Or.inl (Nat.ne_of_gt bb02))
    have z3_72 := z3_57.wr W19_1
    have z3_73 := z3_58.wr W19_1
    have z3_74 := z3_59.wr W19_1
    have z3_75 := z3_60.wr W19_1
    have z3_76 := z3_61.wr W19_1 (Or.inr hb0)
    have z3_77 := z3_62.other W19_2 (Or.inl (Nat.ne_of_lt rb1))
    have z3_78 := z3_63.other W19_2 (Or.inl (Nat.ne_of_lt bb01))
    have z3_79 := z3_64.other W19_2 (Or.inl (Nat.ne_of_lt bb01))
    have z3_80 := z3_65.other W19_2 (Or.inl (Nat.ne_of_lt bb01))
    have z3_81 := z3_66.other W19_2 (Or.inr (own_sl_parent_previous hw))
    have z3_82 := z3_67.other W19_2 (Or.inr (own_sl_next_previous hw))
    have z3_83 := z3_68.same W19_2
    have z3_84 := z3_69.other W19_2 (Or.inl (Nat.ne_of_gt bb12))
    have z3_85 := z3_70.other W19_2 (Or.inl (Nat.ne_of_gt bb12))
    have z3_86 := z3_71.other W19_2 (Or.inl (Nat.ne_of_gt bb12))
    have z3_87 := z3_72.wr W19_2
    have z3_88 := z3_73.wr W19_2
    have z3_89 := z3_74.wr W19_2
    have z3_90 := z3_75.wr W19_2
    have z3_91 := z3_76.wr W19_2 (Or.inr hb1)
    have z3_92 := z3_77.other W19_3 (Or.inl (Nat.ne_of_lt rb0))
    have z3_93 := z3_78.other W19_3 (Or.inr (own_sl_parent_previous hw))
    have z3_94 := z3_79.other W19_3 (Or.inr (own_sl_next_previous hw))
    have z3_95 := z3_80.same W19_3
    have z3_96 := z3_81.other W19_3 (Or.inl (Nat.ne_of_gt bb01))
    have z3_97 := z3_82.other W19_3 (Or.inl (Nat.ne_of_gt bb01))
    have z3_98 := z3_83.other W19_3 (Or.inl (Nat.ne_of_gt bb01))
    have z3_99 := z3_84.other W19_3 (Or.inl (Nat.ne_of_gt bb02))
    have z3_100 := z3_85.other W19_3 (Or.inl (Nat.ne_of_gt bb02))
    have z3_101 := z3_86.other W19_3 (Or.inl (Nat.ne_of_gt bb02))
    have z3_102 := z3_87.wr W19_3
    have z3_103 := z3_88.wr W19_3
    have z3_104 := z3_89.wr W19_3
    have z3_105 := z3_90.wr W19_3
    have z3_106 := z3_91.wr W19_3 (Or.inr hb0)
    have z3_107 := Fr.app z3_46 (L' := L19) (fun y hy => by
      rcases NB19 y hy with q | q | q
      · rw [q]; exact hb0
      · rw [q]; exact hb0
      · rw [q]; exact hb1)
    refine go_iloadn X19 hx (dc hby d0_54) (v := (3 : Int32)) rfl ?_
    refine go_iconst X19 hx (2) (dc hby d0_55) rfl ?_
    refine go_icmp_le X19 hx (db hby d0_56) (fun c56 => absurd c56 (by decide)) (fun c56 => ?_)
    refine go_aloadn X19 hx (dc hby d0_59) (v := (.ref r)) rfl rfl ?_
    refine go_aload X19 hx (dc hby d0_60) (v := (.ref b2)) rfl rfl ?_
    refine go_virtualUp X19 hx hZ hown (hw _ (List.mem_of_getElem? (i := 75) rfl)) (hw _ (List.mem_of_getElem? (i := 76) rfl)) (hw _ (List.mem_of_getElem? (i := 77) rfl)) (hw _ (List.mem_of_getElem? (i := 79) rfl)) (hw _ (List.mem_of_getElem? (i := 78) rfl)) (hw _ (List.mem_of_getElem? (i := 9) rfl)) (hw _ (List.mem_of_getElem? (i := 80) rfl)) (by decide) rfl (a := r) z3_102 [(.ref b2)] [] (rm14b l Z a0 hw [] r b2 b0 b1 T19.heap z3_105 z3_103 z3_104 (Nat.ne_of_lt rb2) (Nat.ne_of_lt bb02) (Nat.ne_of_lt bb12) z3_92 z3_99 z3_101 z3_95 ⟨_, z3_97⟩) pd14 rfl (by rw [hml]; rfl) rfl 0 (Nat.le_of_eq rfl) (by decide) (by decide) (by decide) (by decide) (dc hby d0_62) (fun T20 v20 L20 X20 hQ20 => ?_)
    obtain ⟨rfl, NB20, y20_0, y20_1, y20_2, W20_0, W20_1, W20_2, W20_3⟩ := hQ20
    show Go p e below _ (T20.setTop (mkF m 65 #[.val (.int p1), .val (.int p2), .val (.int (3 : Int32)), .val (.ref r), .val (.ref b0), .val (.ref b1), .val (.ref b2), .unset, .unset, .unset, .unset, .unset, .unset] []))
    have z3_108 := z3_92.other W20_0 (Or.inl (Nat.ne_of_lt rb2))
    have z3_109 := z3_93.other W20_0 (Or.inl (Nat.ne_of_lt bb02))
    have z3_110 := z3_94.other W20_0 (Or.inl (Nat.ne_of_lt bb02))
    have z3_111 := z3_95.other W20_0 (Or.inl (Nat.ne_of_lt bb02))
    have z3_112 := z3_96.other W20_0 (Or.inl (Nat.ne_of_lt bb12))
    have z3_113 := z3_97.other W20_0 (Or.inl (Nat.ne_of_lt bb12))
    have z3_114 := z3_98.other W20_0 (Or.inl (Nat.ne_of_lt bb12))
    have z3_115 := z3_99.same W20_0
    have z3_116 := z3_100.other W20_0 (Or.inr (own_sl_next_parent hw))
    have z3_117 := z3_101.other W20_0 (Or.inr (own_sl_previous_parent hw))
    have z3_118 := z3_102.wr W20_0
    have z3_119 := z3_103.wr W20_0
    have z3_120 := z3_104.wr W20_0
    have z3_121 := z3_105.wr W20_0
    have z3_122 := z3_106.wr W20_0 (Or.inr hb2)
    have z3_123 := z3_108.other W20_1 (Or.inl (Nat.ne_of_lt rb1))
    have z3_124 := z3_109.other W20_1 (Or.inl (Nat.ne_of_lt bb01))
    have z3_125 := z3_110.other W20_1 (Or.inl (Nat.ne_of_lt bb01))
    have z3_126 := z3_111.other W20_1 (Or.inl (Nat.ne_of_lt bb01))
    have z3_127 := z3_112.other W20_1 (Or.inr (own_sl_parent_next hw))
    have z3_128 := z3_113.same W20_1
    have z3_129 := z3_114.other W20_1 (Or.inr (own_sl_previous_next hw))
    have z3_130 := z3_115.other W20_1 (Or.inl (Nat.ne_of_gt bb12))
    have z3_131 := z3_116.other W20_1 (Or.inl (Nat.ne_of_gt bb12))
    have z3_132 := z3_117.other W20_1 (Or.inl (Nat.ne_of_gt bb12))
    have z3_133 := z3_118.wr W20_1
    have z3_134 := z3_119.wr W20_1
    have z3_135 := z3_120.wr W20_1
    have z3_136 := z3_121.wr W20_1
    have z3_137 := z3_122.wr W20_1 (Or.inr hb1)
    have z3_138 := z3_123.other W20_2 (Or.inl (Nat.ne_of_lt rb2))
    have z3_139 := z3_124.other W20_2 (Or.inl (Nat.ne_of_lt bb02))
    have z3_140 := z3_125.other W20_2 (Or.inl (Nat.ne_of_lt bb02))
    have z3_141 := z3_126.other W20_2 (Or.inl (Nat.ne_of_lt bb02))
    have z3_142 := z3_127.other W20_2 (Or.inl (Nat.ne_of_lt bb12))
    have z3_143 := z3_128.other W20_2 (Or.inl (Nat.ne_of_lt bb12))
    have z3_144 := z3_129.other W20_2 (Or.inl (Nat.ne_of_lt bb12))
    have z3_145 := z3_130.other W20_2 (Or.inr (own_sl_parent_previous hw))
    have z3_146 := z3_131.other W20_2 (Or.inr (own_sl_next_previous hw))
    have z3_147 := z3_132.same W20_2
    have z3_148 := z3_133.wr W20_2
    have z3_149 := z3_134.wr W20_2
    have z3_150 := z3_135.wr W20_2
    have z3_151 := z3_136.wr W20_2
    have z3_152 := z3_137.wr W20_2 (Or.inr hb2)
    have z3_153 := z3_138.other W20_3 (Or.inl (Nat.ne_of_lt rb0))
    have z3_154 := z3_139.other W20_3 (Or.inr (own_sl_parent_previous hw))
    have z3_155 := z3_140.other W20_3 (Or.inr (own_sl_next_previous hw))
    have z3_156 := z3_141.same W20_3
    have z3_157 := z3_142.other W20_3 (Or.inl (Nat.ne_of_gt bb01))
    have z3_158 := z3_143.other W20_3 (Or.inl (Nat.ne_of_gt bb01))
    have z3_159 := z3_144.other W20_3 (Or.inl (Nat.ne_of_gt bb01))
    have z3_160 := z3_145.other W20_3 (Or.inl (Nat.ne_of_gt bb02))
    have z3_161 := z3_146.other W20_3 (Or.inl (Nat.ne_of_gt bb02))
    have z3_162 := z3_147.other W20_3 (Or.inl (Nat.ne_of_gt bb02))
    have z3_163 := z3_148.wr W20_3
    have z3_164 := z3_149.wr W20_3
    have z3_165 := z3_150.wr W20_3
    have z3_166 := z3_151.wr W20_3
    have z3_167 := z3_152.wr W20_3 (Or.inr hb0)
    have z3_168 := Fr.app z3_107 (L' := L20) (fun y hy => by
      rcases NB20 y hy with q | q | q
      · rw [q]; exact hb1
      · rw [q]; exact hb0
      · rw [q]; exact hb2)
    refine go_aload X20 hx (dc hby d0_65) (v := (.ref b0)) rfl rfl ?_
    refine own_gps X20 hx hZ hw hown rfl z3_164 (rm13 l Z a0 hw [] b0 .null T20.heap (Or.inr ⟨r, b0, z3_154, z3_153, Or.inl ⟨rfl, rfl⟩⟩)) (by rw [hml]; rfl) (by decide) (by decide) (by decide) (by decide) (dc hby d0_67) (fun T21 X21 e21 => ?_)
    refine go_astore X21 hx #[.val (.int p1), .val (.int p2), .val (.int (3 : Int32)), .val (.ref r), .val (.ref b0), .val (.ref b1), .val (.ref b2), .val .null, .unset, .unset, .unset, .unset, .unset] (dc hby d0_70) rfl rfl ?_
    refine go_aload X21 hx (dc hby d0_72) (v := (.ref b1)) rfl rfl ?_
    refine own_gps X21 hx hZ hw hown e21 z3_165 (rm13 l Z a0 hw [] b1 (.ref b0) T20.heap (Or.inr ⟨r, b0, z3_157, z3_153, Or.inr ⟨(Nat.ne_of_lt bb01), z3_159, rfl⟩⟩)) (by rw [hml]; rfl) (by decide) (by decide) (by decide) (by decide) (dc hby d0_74) (fun T22 X22 e22 => ?_)
    refine go_astore X22 hx #[.val (.int p1), .val (.int p2), .val (.int (3 : Int32)), .val (.ref r), .val (.ref b0), .val (.ref b1), .val (.ref b2), .val .null, .val (.ref b0), .unset, .unset, .unset, .unset] (dc hby d0_77) rfl rfl ?_
    refine go_aload X22 hx (dc hby d0_79) (v := (.ref b2)) rfl rfl ?_
    refine own_gps X22 hx hZ hw hown e22 z3_166 (rm13 l Z a0 hw [] b2 (.ref b1) T20.heap (Or.inr ⟨r, b0, z3_160, z3_153, Or.inr ⟨(Nat.ne_of_lt bb02), z3_162, rfl⟩⟩)) (by rw [hml]; rfl) (by decide) (by decide) (by decide) (by decide) (dc hby d0_81) (fun T23 X23 e23 => ?_)
    refine go_astore X23 hx #[.val (.int p1), .val (.int p2), .val (.int (3 : Int32)), .val (.ref r), .val (.ref b0), .val (.ref b1), .val (.ref b2), .val .null, .val (.ref b0), .val (.ref b1), .unset, .unset, .unset] (dc hby d0_84) rfl rfl ?_
    refine go_aload X23 hx (dc hby d0_86) (v := .null) rfl rfl ?_
    refine go_ifnonnullN X23 hx (db hby d0_88) ?_
    refine go_iconst X23 hx (1) (dc hby d0_91) rfl ?_
    refine go_goto X23 hx (db hby d0_92) ?_
    refine go_istore X23 hx #[.val (.int p1), .val (.int p2), .val (.int (3 : Int32)), .val (.ref r), .val (.ref b0), .val (.ref b1), .val (.ref b2), .val .null, .val (.ref b0), .val (.ref b1), .val (.int (1 : Int32)), .unset, .unset] (dc hby d0_96) rfl ?_
    refine go_iloadn X23 hx (dc hby d0_98) (v := (3 : Int32)) rfl ?_
    refine go_iconst X23 hx (1) (dc hby d0_99) rfl ?_
    refine go_icmp_le X23 hx (db hby d0_100) (fun c100 => absurd c100 (by decide)) (fun c100 => ?_)
    refine go_aload X23 hx (dc hby d0_103) (v := (.ref b0)) rfl rfl ?_
    refine go_aload X23 hx (dc hby d0_105) (v := (.ref b0)) rfl rfl ?_
    refine go_acmp_ne X23 hx rfl rfl (db hby d0_107) (fun c107 => absurd rfl c107) (fun c107 => ?_)
    refine go_iconst X23 hx (1) (dc hby d0_110) rfl ?_
    refine go_goto X23 hx (db hby d0_111) ?_
    refine go_istore X23 hx #[.val (.int p1), .val (.int p2), .val (.int (3 : Int32)), .val (.ref r), .val (.ref b0), .val (.ref b1), .val (.ref b2), .val .null, .val (.ref b0), .val (.ref b1), .val (.int (1 : Int32)), .val (.int (1 : Int32)), .unset] (dc hby d0_128) rfl ?_
    refine go_iloadn X23 hx (dc hby d0_130) (v := (3 : Int32)) rfl ?_
    refine go_iconst X23 hx (2) (dc hby d0_131) rfl ?_
    refine go_icmp_le X23 hx (db hby d0_132) (fun c132 => absurd c132 (by decide)) (fun c132 => ?_)
    refine go_aload X23 hx (dc hby d0_135) (v := (.ref b1)) rfl rfl ?_
    refine go_aload X23 hx (dc hby d0_137) (v := (.ref b1)) rfl rfl ?_
    refine go_acmp_ne X23 hx rfl rfl (db hby d0_139) (fun c139 => absurd rfl c139) (fun c139 => ?_)
    refine go_iconst X23 hx (1) (dc hby d0_142) rfl ?_
    refine go_goto X23 hx (db hby d0_143) ?_
    refine go_istore X23 hx #[.val (.int p1), .val (.int p2), .val (.int (3 : Int32)), .val (.ref r), .val (.ref b0), .val (.ref b1), .val (.ref b2), .val .null, .val (.ref b0), .val (.ref b1), .val (.int (1 : Int32)), .val (.int (1 : Int32)), .val (.int (1 : Int32))] (dc hby d0_160) rfl ?_
    refine go_iload X23 hx (dc hby d0_162) (v := (1 : Int32)) rfl ?_
    refine go_ifc_eq X23 hx (db hby d0_164) (fun c164 => absurd c164 (by decide)) (fun c164 => ?_)
    refine go_iload X23 hx (dc hby d0_167) (v := (1 : Int32)) rfl ?_
    refine go_ifc_eq X23 hx (db hby d0_169) (fun c169 => absurd c169 (by decide)) (fun c169 => ?_)
    refine go_iload X23 hx (dc hby d0_172) (v := (1 : Int32)) rfl ?_
    refine go_ifc_eq X23 hx (db hby d0_174) (fun c174 => absurd c174 (by decide)) (fun c174 => ?_)
    refine go_iconst X23 hx (1) (dc hby d0_177) rfl ?_
    refine go_goto X23 hx (db hby d0_178) ?_
    exact go_retN X23 hx hret (by simp) (dc hby d0_182) hk (by decide) (by decide) ⟨rfl, by simpa using z3_168⟩
theorem pd0 : parseMethodDescriptor "(II)Z" = some ⟨[.int, .int], some .boolean⟩ := by decide +kernel
set_option maxRecDepth 65536 in
set_option maxHeartbeats 40000000 in
theorem comes_1 {Post : Tables → Env → Array Value → State → Outcome → State → Prop} (hpost : ∀ tb e args s v u, (limb_1_1.after args s (.returned v) u = true ∧ limb_1_2.after args s (.returned v) u = true ∧ True) → FrameEnd s (.returned v) u (Jvm.fieldLocs frame_1_writes args s ++ Jvm.arrayLocs frame_1_arrays args s ++ Jvm.staticLocs frame_1_statics s) 32 128 → Post tb e args s (.returned v) u) :
    ArmFor flags0 classFile x code maxLocals ret World_1 tables_1 room_1 Calls_1 rest_1 Pre_1 Post := by
  intro l hfl _ _ p e ha hc hk s m args below hf hA hF happ hP
  obtain ⟨hcalls, hrest, hpre⟩ := hP
  obtain ⟨-, -, -, hnamed, -, -, -, hat⟩ := (Spec.applies_iff hf).mp happ
  obtain ⟨hg, hn⟩ := and_e (Cond.before_iff.mp (show (Jvm.Cond.and given_1 narrow_1).before args s = true from hpre))
  obtain ⟨g1, g2⟩ := and_e hg
  obtain ⟨w0, w1, rfl⟩ : ∃ w0 w1 : Value, args = #[w0, w1] := by
    have hs : args.size = 2 := by simpa [Cond.value, given_1] using g1
    obtain ⟨L⟩ := args
    match L, hs with
    | [w0, w1], _ => exact ⟨w0, w1, rfl⟩
  have hw := fun d (hd : d ∈ tables_1) => atoms_spec (ws := Jvm.Cond.code x code maxLocals ret :: tables_1) hat d (List.mem_cons_of_mem _ hd)
  have hfit : Fit s := fun {y c} hc i hi => by
    obtain ⟨ha, rfl⟩ := Array.getElem?_eq_some_iff.mp hc
    have q := List.all_eq_true.mp ((Array.all_eq_true_iff_forall_mem.mp hF) _ (Array.getElem_mem ha)) i (List.mem_range.mpr hi)
    simpa [Array.getElem?_eq_getElem hi] using q
  obtain ⟨u0, r0⟩ := and_e g2
  obtain ⟨i0, j0⟩ := is_v u0
  obtain rfl : w0 = (.int i0) := Option.some.inj j0
  obtain ⟨i1, j1⟩ := is_v r0
  obtain rfl : w1 = (.int i1) := Option.some.inj j1
  have hJ := (atoms_of jdkStatics_1 (by rw [← rest_1_c_eq]; exact hrest)).1
  obtain ⟨cs, vcs⟩ := is_v (Cond.before_iff.mp (hJ _ (List.mem_of_getElem? (i := 1) rfl)))
  have SC := Sta.start vcs (Or.inl (hJ _ (List.mem_of_getElem? (i := 0) rfl)))
  have hcs : ¬ cs = 0 := fun q => by
    have h2 := not_v (Cond.before_iff.mp (hJ _ (List.mem_of_getElem? (i := 2) rfl)))
    rw [q] at vcs
    rw [eq_i vcs (Term.int_eval 0) rfl] at h2
    exact absurd h2 (by decide)
  obtain ⟨n, o, h1, h2, h3, _, L, rfl, ⟨rfl, N⟩, hq⟩ := rm0 l s _ hw tables_1 i0 i1 cs s.heap hcs SC p e ha hc hk s m _ below hf ((Spec.applies_iff_loose hf).mp happ).1 ⟨rfl, State.Warmed39.refl s, rfl⟩ trivial
  refine ⟨n, _, h1, h2, h3, hpost _ _ _ _ _ _ ⟨Cond.after_iff.mpr rfl, Cond.after_iff.mpr (eq_i res_at (Term.int_eval (1)) rfl), trivial⟩ ⟨hq.1, hq.2.1, (hq.2.2.sift fun y hy => Or.inr (N y hy)).mono (by decide) (by decide)⟩⟩
theorem main_1_1 : Claimed_1_1 := comes_1 fun _ _ _ _ _ _ h hF => ⟨h.1, hF⟩
theorem main_1_2 : Claimed_1_2 := comes_1 fun _ _ _ _ _ _ h hF => ⟨h.2.1, hF⟩
end Jvm.Pilot.@@N@@
namespace Jvm.Pilot.@@N@@
open Jvm Jvm.ClassFile Sem Op Lib Jvm.Free Jvm.Stand Jvm.Pilot.@@N@@.Jvm.D
/-! MADE BY PROGRAM (witnessworld.py) out of the Statement's table words and the real class files: 26 classes; the members and pool entries that the words name. The judged class is class 1, her method 2. -/
namespace start1
open Jvm.ClassFile
def u (s : String) : CpInfo := .utf8 (stringToUtf16 s)
/-- a pool by its gaps: so many unusable entries, then the entry; so many at the end -/
def gap : Nat → List CpInfo → List CpInfo
  | 0, r => r
  | n + 1, r => .unusable :: gap n r
def poolList (es : List (Nat × CpInfo)) (last : Nat) : List CpInfo := es.foldr (fun e r => gap e.1 (e.2 :: r)) (gap last [])
def pool (es : List (Nat × CpInfo)) (last : Nat) : Array CpInfo := ⟨poolList es last⟩
def fileOf (pool : Array CpInfo) (this : Nat) (attrs : Array Attribute := #[]) (ms : Array MethodInfo := #[]) (fl : Nat := 33) (sup : Nat := 0) (ifs : Array Nat := #[]) (fds : Array FieldInfo := #[]) : ClassFile where
  minorVersion := 0
  majorVersion := 65
  constantPool := pool
  accessFlags := fl
  thisClass := this
  superClass := sup
  interfaces := ifs
  fields := fds
  methods := ms
  attributes := attrs
def plain (name : String) (sup : Option ClassId) : Class where
  name := name
  kind := .ordinary
  loader := none
  accessFlags := 33
  super := sup
  interfaces := #[]
  cf := none
  fields := #[]
  methods := #[]
  instanceTypes := #[]
  staticTypes := #[]
  resolved := #[]
  callSites := []
  init := .initialized
  statics := none
  mirror := none

def pool0 : Array CpInfo := pool [(5, u "<init>"), (0, u "()V"), (1, .class_ 10), (1, u "java/lang/Object")] 113

def k0c0 : Code := { maxStack := 0, maxLocals := 1, code := object_method_1_code, exceptionTable := #[], attributes := #[] }
def k0m0 : Method := { name := "<init>", desc := "()V", sig := { parameters := [], returnType := none }, accessFlags := 1, code := some k0c0 }
/-- java/lang/Object -/
def k0 : Class := { plain "java/lang/Object" none with
  accessFlags := 33
  interfaces := #[]
  cf := some (fileOf pool0 8 #[] #[{ accessFlags := 1, nameIndex := 5, descriptorIndex := 6, attributes := #[] }] 33 0 #[] #[])
  fields := #[]
  methods := #[k0m0]
  instanceTypes := #[]
  staticTypes := #[]
  resolved := Array.replicate 124 none
  statics := none }

def pool1 : Array CpInfo := pool [(2, .class_ 4), (0, .nameAndType 5 6), (0, u "java/lang/Object"), (0, u "<init>"), (0, u "()V"), (0, .class_ 8), (0, u "com/example/strict_model/strictmodel/TreeNode$TextNode"), (0, .methodref 10 11), (0, .class_ 12), (0, .nameAndType 13 14), (0, u "java/lang/String"), (0, u "valueOf"), (0, u "(C)Ljava/lang/String;"), (0, .methodref 7 16), (0, .nameAndType 5 17), (0, u "(Ljava/lang/String;)V"), (0, .class_ 19), (0, u "com/example/strict_model/strictmodel/TreeNode$Root"), (0, .methodref 18 3), (0, .methodref 22 23), (0, .class_ 24), (0, .nameAndType 25 26), (0, u "com/example/strict_model/strictmodel/LinkedGetPreviousSiblingPinLaw"), (0, u "make"), (0, u "(II)Lcom/example/strict_model/strictmodel/TreeNode$Linked;"), (0, .methodref 18 28), (0, .nameAndType 29 30), (0, u "append"), (0, u "(Lcom/example/strict_model/strictmodel/TreeNode$Linked;)V"), (0, .methodref 32 33), (0, .class_ 34), (0, .nameAndType 35 36), (0, u "com/example/strict_model/strictmodel/TreeNode$Linked"), (0, u "getPreviousSibling"), (0, u "()Lorg/w3c/dom/Node;"), (3, u "law"), (0, u "(II)Z")] 10

def k1m0 : Method := { name := "<init>", desc := "()V", sig := { parameters := [], returnType := none }, accessFlags := 1, code := none }
def k1c1 : Code := { maxStack := 5, maxLocals := 2, code := method_2_code, exceptionTable := #[], attributes := #[] }
def k1m1 : Method := { name := "make", desc := "(II)Lcom/example/strict_model/strictmodel/TreeNode$Linked;", sig := { parameters := [.int, .int], returnType := some (.object "com/example/strict_model/strictmodel/TreeNode$Linked") }, accessFlags := 10, code := some k1c1 }
def k1c2 : Code := { maxStack := 2, maxLocals := 13, code := code, exceptionTable := #[], attributes := #[] }
def k1m2 : Method := { name := "law", desc := "(II)Z", sig := { parameters := [.int, .int], returnType := some .boolean }, accessFlags := 9, code := some k1c2 }
/-- com/example/strict_model/strictmodel/LinkedGetPreviousSiblingPinLaw -/
def k1 : Class := { plain "com/example/strict_model/strictmodel/LinkedGetPreviousSiblingPinLaw" (some 0) with
  accessFlags := 49
  interfaces := #[]
  cf := some (fileOf pool1 22 #[] #[{ accessFlags := 1, nameIndex := 5, descriptorIndex := 6, attributes := #[] }, { accessFlags := 10, nameIndex := 25, descriptorIndex := 26, attributes := #[] }, { accessFlags := 9, nameIndex := 40, descriptorIndex := 41, attributes := #[] }] 49 2 #[] #[])
  fields := #[]
  methods := #[k1m0, k1m1, k1m2]
  instanceTypes := #[]
  staticTypes := #[]
  resolved := Array.replicate 52 none
  statics := none }

def pool2 : Array CpInfo := pool [(1, u "org/w3c/dom/Node"), (0, .class_ 1), (0, u "java/lang/Object"), (0, .class_ 3)] 0

/-- org/w3c/dom/Node -/
def k2 : Class := { plain "org/w3c/dom/Node" (some 0) with
  accessFlags := 1537
  interfaces := #[]
  cf := some (fileOf pool2 2 #[] #[] 1537 4 #[] #[])
  fields := #[]
  methods := #[]
  instanceTypes := #[]
  staticTypes := #[]
  resolved := Array.replicate 5 none
  statics := none }

def pool3 : Array CpInfo := pool [(1, .methodref 2 3), (0, .class_ 4), (0, .nameAndType 5 6), (0, u "java/lang/Object"), (0, u "<init>"), (0, u "()V"), (1, .class_ 10), (1, u "com/example/strict_model/strictmodel/TreeNode"), (4, u "NO_NODES"), (0, u "Lorg/w3c/dom/NodeList;"), (34, .class_ 53), (1, u "org/w3c/dom/Node"), (5, .class_ 60), (0, u "com/example/strict_model/strictmodel/TreeNode$Nodes"), (65, .class_ 127), (0, u "com/example/strict_model/strictmodel/TreeNode$Attributes"), (0, .class_ 129), (0, u "com/example/strict_model/strictmodel/TreeNode$AttributeNode"), (0, .class_ 131), (0, u "com/example/strict_model/strictmodel/TreeNode$InstructionNode"), (0, .class_ 133), (0, u "com/example/strict_model/strictmodel/TreeNode$CommentNode"), (0, .class_ 135), (0, u "com/example/strict_model/strictmodel/TreeNode$TextNode"), (0, .class_ 137), (0, u "com/example/strict_model/strictmodel/TreeNode$Characters"), (0, .class_ 139), (0, u "com/example/strict_model/strictmodel/TreeNode$Root"), (0, .class_ 141), (0, u "com/example/strict_model/strictmodel/TreeNode$Branch"), (0, .class_ 143), (0, u "com/example/strict_model/strictmodel/TreeNode$Linked")] 25

def k3c0 : Code := { maxStack := 1, maxLocals := 1, code := prog_31_method_1_code, exceptionTable := #[], attributes := #[] }
def k3m0 : Method := { name := "<init>", desc := "()V", sig := { parameters := [], returnType := none }, accessFlags := 0, code := some k3c0 }
/-- com/example/strict_model/strictmodel/TreeNode -/
def k3 : Class := { plain "com/example/strict_model/strictmodel/TreeNode" (some 0) with
  accessFlags := 1056
  interfaces := #[2]
  cf := some (fileOf pool3 8 #[.nestMembers #[59, 126, 128, 130, 132, 134, 136, 138, 140, 142]] #[{ accessFlags := 0, nameIndex := 5, descriptorIndex := 6, attributes := #[] }] 1056 2 #[51] #[{ accessFlags := 26, nameIndex := 15, descriptorIndex := 16, attributes := #[] }])
  fields := #[{ name := "NO_NODES", type := (.object "org/w3c/dom/NodeList"), accessFlags := 26, slot := 0, constantValue := 0 }]
  methods := #[k3m0]
  instanceTypes := #[]
  staticTypes := #[(.object "org/w3c/dom/NodeList")]
  resolved := Array.replicate 169 none
  statics := none }

def pool4 : Array CpInfo := pool [(1, .methodref 2 3), (0, .class_ 4), (0, .nameAndType 5 6), (0, u "com/example/strict_model/strictmodel/TreeNode"), (0, u "<init>"), (0, u "()V"), (0, .fieldref 8 9), (0, .class_ 10), (0, .nameAndType 11 12), (0, u "com/example/strict_model/strictmodel/TreeNode$Linked"), (0, u "parent"), (0, u "Lcom/example/strict_model/strictmodel/TreeNode$Branch;"), (0, .fieldref 14 15), (0, .class_ 16), (0, .nameAndType 17 18), (0, u "com/example/strict_model/strictmodel/TreeNode$Branch"), (0, u "first"), (0, u "Lcom/example/strict_model/strictmodel/TreeNode$Linked;"), (0, .fieldref 8 20), (0, .nameAndType 21 18), (0, u "previous"), (2, u "next"), (7, u "()Lorg/w3c/dom/Node;"), (0, u "getPreviousSibling")] 17

def k4c0 : Code := { maxStack := 1, maxLocals := 1, code := prog_38_method_1_code, exceptionTable := #[], attributes := #[] }
def k4m0 : Method := { name := "<init>", desc := "()V", sig := { parameters := [], returnType := none }, accessFlags := 0, code := some k4c0 }
def k4c1 : Code := { maxStack := 2, maxLocals := 1, code := prog_38_method_3_code, exceptionTable := #[], attributes := #[] }
def k4m1 : Method := { name := "getPreviousSibling", desc := "()Lorg/w3c/dom/Node;", sig := { parameters := [], returnType := some (.object "org/w3c/dom/Node") }, accessFlags := 1, code := some k4c1 }
/-- com/example/strict_model/strictmodel/TreeNode$Linked -/
def k4 : Class := { plain "com/example/strict_model/strictmodel/TreeNode$Linked" (some 3) with
  accessFlags := 1056
  interfaces := #[]
  cf := some (fileOf pool4 8 #[.nestHost 2] #[{ accessFlags := 0, nameIndex := 5, descriptorIndex := 6, attributes := #[] }, { accessFlags := 1, nameIndex := 33, descriptorIndex := 32, attributes := #[] }] 1056 2 #[] #[{ accessFlags := 2, nameIndex := 11, descriptorIndex := 12, attributes := #[] }, { accessFlags := 2, nameIndex := 21, descriptorIndex := 18, attributes := #[] }, { accessFlags := 2, nameIndex := 24, descriptorIndex := 18, attributes := #[] }])
  fields := #[{ name := "parent", type := (.object "com/example/strict_model/strictmodel/TreeNode$Branch"), accessFlags := 2, slot := 0, constantValue := 0 }, { name := "previous", type := (.object "com/example/strict_model/strictmodel/TreeNode$Linked"), accessFlags := 2, slot := 1, constantValue := 0 }, { name := "next", type := (.object "com/example/strict_model/strictmodel/TreeNode$Linked"), accessFlags := 2, slot := 2, constantValue := 0 }]
  methods := #[k4m0, k4m1]
  instanceTypes := #[(.object "com/example/strict_model/strictmodel/TreeNode$Branch"), (.object "com/example/strict_model/strictmodel/TreeNode$Linked"), (.object "com/example/strict_model/strictmodel/TreeNode$Linked")]
  staticTypes := #[]
  resolved := Array.replicate 51 none
  statics := none }

def pool5 : Array CpInfo := pool [(1, .methodref 2 3), (0, .class_ 4), (0, .nameAndType 5 6), (0, u "com/example/strict_model/strictmodel/TreeNode$Linked"), (0, u "<init>"), (0, u "()V"), (0, .fieldref 2 8), (0, .nameAndType 9 10), (0, u "parent"), (0, u "Lcom/example/strict_model/strictmodel/TreeNode$Branch;"), (0, .fieldref 12 13), (0, .class_ 14), (0, .nameAndType 15 16), (0, u "com/example/strict_model/strictmodel/TreeNode$Branch"), (0, u "first"), (0, u "Lcom/example/strict_model/strictmodel/TreeNode$Linked;"), (0, .fieldref 2 18), (0, .nameAndType 19 16), (0, u "previous"), (0, .fieldref 2 21), (0, .nameAndType 22 16), (0, u "next"), (27, u "append"), (18, u "(Lcom/example/strict_model/strictmodel/TreeNode$Linked;)V"), (10, .class_ 81), (0, u "com/example/strict_model/strictmodel/TreeNode")] 8

def k5c0 : Code := { maxStack := 1, maxLocals := 1, code := prog_34_method_1_code, exceptionTable := #[], attributes := #[] }
def k5m0 : Method := { name := "<init>", desc := "()V", sig := { parameters := [], returnType := none }, accessFlags := 0, code := some k5c0 }
def k5c1 : Code := { maxStack := 2, maxLocals := 3, code := prog_34_method_3_code, exceptionTable := #[], attributes := #[] }
def k5m1 : Method := { name := "append", desc := "(Lcom/example/strict_model/strictmodel/TreeNode$Linked;)V", sig := { parameters := [(.object "com/example/strict_model/strictmodel/TreeNode$Linked")], returnType := none }, accessFlags := 16, code := some k5c1 }
/-- com/example/strict_model/strictmodel/TreeNode$Branch -/
def k5 : Class := { plain "com/example/strict_model/strictmodel/TreeNode$Branch" (some 4) with
  accessFlags := 1056
  interfaces := #[]
  cf := some (fileOf pool5 12 #[.nestHost 80] #[{ accessFlags := 0, nameIndex := 5, descriptorIndex := 6, attributes := #[] }, { accessFlags := 16, nameIndex := 50, descriptorIndex := 69, attributes := #[] }] 1056 2 #[] #[{ accessFlags := 2, nameIndex := 15, descriptorIndex := 16, attributes := #[] }])
  fields := #[{ name := "first", type := (.object "com/example/strict_model/strictmodel/TreeNode$Linked"), accessFlags := 2, slot := 3, constantValue := 0 }]
  methods := #[k5m0, k5m1]
  instanceTypes := #[(.object "com/example/strict_model/strictmodel/TreeNode$Branch"), (.object "com/example/strict_model/strictmodel/TreeNode$Linked"), (.object "com/example/strict_model/strictmodel/TreeNode$Linked"), (.object "com/example/strict_model/strictmodel/TreeNode$Linked")]
  staticTypes := #[]
  resolved := Array.replicate 90 none
  statics := none }

def pool6 : Array CpInfo := pool [(1, u "org/w3c/dom/Document"), (0, .class_ 1), (0, u "java/lang/Object"), (0, .class_ 3)] 0

/-- org/w3c/dom/Document -/
def k6 : Class := { plain "org/w3c/dom/Document" (some 0) with
  accessFlags := 1537
  interfaces := #[]
  cf := some (fileOf pool6 2 #[] #[] 1537 4 #[] #[])
  fields := #[]
  methods := #[]
  instanceTypes := #[]
  staticTypes := #[]
  resolved := Array.replicate 5 none
  statics := none }

def pool7 : Array CpInfo := pool [(1, .methodref 2 3), (0, .class_ 4), (0, .nameAndType 5 6), (0, u "com/example/strict_model/strictmodel/TreeNode$Branch"), (0, u "<init>"), (0, u "()V"), (10, .class_ 19), (1, u "com/example/strict_model/strictmodel/TreeNode$Root"), (16, .class_ 37), (0, u "org/w3c/dom/Document"), (68, .class_ 107), (0, u "com/example/strict_model/strictmodel/TreeNode")] 4

def k7c0 : Code := { maxStack := 1, maxLocals := 1, code := prog_40_method_1_code, exceptionTable := #[], attributes := #[] }
def k7m0 : Method := { name := "<init>", desc := "()V", sig := { parameters := [], returnType := none }, accessFlags := 0, code := some k7c0 }
/-- com/example/strict_model/strictmodel/TreeNode$Root -/
def k7 : Class := { plain "com/example/strict_model/strictmodel/TreeNode$Root" (some 5) with
  accessFlags := 48
  interfaces := #[6]
  cf := some (fileOf pool7 17 #[.nestHost 106] #[{ accessFlags := 0, nameIndex := 5, descriptorIndex := 6, attributes := #[] }] 48 2 #[36] #[])
  fields := #[]
  methods := #[k7m0]
  instanceTypes := #[(.object "com/example/strict_model/strictmodel/TreeNode$Branch"), (.object "com/example/strict_model/strictmodel/TreeNode$Linked"), (.object "com/example/strict_model/strictmodel/TreeNode$Linked"), (.object "com/example/strict_model/strictmodel/TreeNode$Linked")]
  staticTypes := #[]
  resolved := Array.replicate 112 none
  statics := none }

def pool8 : Array CpInfo := pool [(1, u "org/w3c/dom/CharacterData"), (0, .class_ 1), (0, u "java/lang/Object"), (0, .class_ 3)] 0

/-- org/w3c/dom/CharacterData -/
def k8 : Class := { plain "org/w3c/dom/CharacterData" (some 0) with
  accessFlags := 1537
  interfaces := #[]
  cf := some (fileOf pool8 2 #[] #[] 1537 4 #[] #[])
  fields := #[]
  methods := #[]
  instanceTypes := #[]
  staticTypes := #[]
  resolved := Array.replicate 5 none
  statics := none }

def pool9 : Array CpInfo := pool [(1, .methodref 2 3), (0, .class_ 4), (0, .nameAndType 5 6), (0, u "com/example/strict_model/strictmodel/TreeNode$Linked"), (0, u "<init>"), (0, u "()V"), (0, .fieldref 8 9), (0, .class_ 10), (0, .nameAndType 11 12), (0, u "com/example/strict_model/strictmodel/TreeNode$Characters"), (0, u "data"), (0, u "Ljava/lang/String;"), (28, .class_ 42), (0, u "org/w3c/dom/CharacterData"), (0, u "(Ljava/lang/String;)V"), (19, .class_ 64), (0, u "com/example/strict_model/strictmodel/TreeNode")] 17

def k9c0 : Code := { maxStack := 2, maxLocals := 2, code := prog_35_method_1_code, exceptionTable := #[], attributes := #[] }
def k9m0 : Method := { name := "<init>", desc := "(Ljava/lang/String;)V", sig := { parameters := [(.object "java/lang/String")], returnType := none }, accessFlags := 0, code := some k9c0 }
/-- com/example/strict_model/strictmodel/TreeNode$Characters -/
def k9 : Class := { plain "com/example/strict_model/strictmodel/TreeNode$Characters" (some 4) with
  accessFlags := 1056
  interfaces := #[8]
  cf := some (fileOf pool9 8 #[.nestHost 63] #[{ accessFlags := 0, nameIndex := 5, descriptorIndex := 43, attributes := #[] }] 1056 2 #[41] #[{ accessFlags := 18, nameIndex := 11, descriptorIndex := 12, attributes := #[] }])
  fields := #[{ name := "data", type := (.object "java/lang/String"), accessFlags := 18, slot := 3, constantValue := 0 }]
  methods := #[k9m0]
  instanceTypes := #[(.object "com/example/strict_model/strictmodel/TreeNode$Branch"), (.object "com/example/strict_model/strictmodel/TreeNode$Linked"), (.object "com/example/strict_model/strictmodel/TreeNode$Linked"), (.object "java/lang/String")]
  staticTypes := #[]
  resolved := Array.replicate 82 none
  statics := none }

def pool10 : Array CpInfo := pool [(1, u "org/w3c/dom/Text"), (0, .class_ 1), (0, u "java/lang/Object"), (0, .class_ 3)] 0

/-- org/w3c/dom/Text -/
def k10 : Class := { plain "org/w3c/dom/Text" (some 0) with
  accessFlags := 1537
  interfaces := #[]
  cf := some (fileOf pool10 2 #[] #[] 1537 4 #[] #[])
  fields := #[]
  methods := #[]
  instanceTypes := #[]
  staticTypes := #[]
  resolved := Array.replicate 5 none
  statics := none }

def pool11 : Array CpInfo := pool [(1, .methodref 2 3), (0, .class_ 4), (0, .nameAndType 5 6), (0, u "com/example/strict_model/strictmodel/TreeNode$Characters"), (0, u "<init>"), (0, u "(Ljava/lang/String;)V"), (5, .class_ 14), (1, u "com/example/strict_model/strictmodel/TreeNode$TextNode"), (6, .class_ 22), (0, u "org/w3c/dom/Text"), (15, .class_ 39), (0, u "com/example/strict_model/strictmodel/TreeNode")] 3

def k11c0 : Code := { maxStack := 2, maxLocals := 2, code := prog_41_method_1_code, exceptionTable := #[], attributes := #[] }
def k11m0 : Method := { name := "<init>", desc := "(Ljava/lang/String;)V", sig := { parameters := [(.object "java/lang/String")], returnType := none }, accessFlags := 0, code := some k11c0 }
/-- com/example/strict_model/strictmodel/TreeNode$TextNode -/
def k11 : Class := { plain "com/example/strict_model/strictmodel/TreeNode$TextNode" (some 9) with
  accessFlags := 48
  interfaces := #[10]
  cf := some (fileOf pool11 12 #[.nestHost 38] #[{ accessFlags := 0, nameIndex := 5, descriptorIndex := 6, attributes := #[] }] 48 2 #[21] #[])
  fields := #[]
  methods := #[k11m0]
  instanceTypes := #[(.object "com/example/strict_model/strictmodel/TreeNode$Branch"), (.object "com/example/strict_model/strictmodel/TreeNode$Linked"), (.object "com/example/strict_model/strictmodel/TreeNode$Linked"), (.object "java/lang/String")]
  staticTypes := #[]
  resolved := Array.replicate 43 none
  statics := none }

def pool12 : Array CpInfo := pool [(1, .class_ 2), (0, u "java/io/Serializable"), (0, .class_ 4), (0, u "java/lang/Object")] 2

/-- java/io/Serializable -/
def k12 : Class := { plain "java/io/Serializable" (some 0) with
  accessFlags := 1537
  interfaces := #[]
  cf := some (fileOf pool12 1 #[] #[] 1537 3 #[] #[])
  fields := #[]
  methods := #[]
  instanceTypes := #[]
  staticTypes := #[]
  resolved := Array.replicate 7 none
  statics := none }

def pool13 : Array CpInfo := pool [(1, .class_ 2), (0, u "java/lang/Comparable"), (0, .class_ 4), (0, u "java/lang/Object")] 7

/-- java/lang/Comparable -/
def k13 : Class := { plain "java/lang/Comparable" (some 0) with
  accessFlags := 1537
  interfaces := #[]
  cf := some (fileOf pool13 1 #[] #[] 1537 3 #[] #[])
  fields := #[]
  methods := #[]
  instanceTypes := #[]
  staticTypes := #[]
  resolved := Array.replicate 12 none
  statics := none }

def pool14 : Array CpInfo := pool [(2, .class_ 4), (1, u "java/lang/CharSequence"), (42, .class_ 48), (0, u "java/lang/CharSequence$1CodePointIterator"), (10, .class_ 60), (0, u "java/lang/CharSequence$1CharIterator"), (5, .class_ 67), (0, u "java/lang/Object")] 63

/-- java/lang/CharSequence -/
def k14 : Class := { plain "java/lang/CharSequence" (some 0) with
  accessFlags := 1537
  interfaces := #[]
  cf := some (fileOf pool14 2 #[.nestMembers #[47, 59]] #[] 1537 66 #[] #[])
  fields := #[]
  methods := #[]
  instanceTypes := #[]
  staticTypes := #[]
  resolved := Array.replicate 131 none
  statics := none }

def pool15 : Array CpInfo := pool [(1, .class_ 2), (0, u "java/lang/constant/Constable"), (0, .class_ 4), (0, u "java/lang/Object")] 6

/-- java/lang/constant/Constable -/
def k15 : Class := { plain "java/lang/constant/Constable" (some 0) with
  accessFlags := 1537
  interfaces := #[]
  cf := some (fileOf pool15 1 #[] #[] 1537 3 #[] #[])
  fields := #[]
  methods := #[]
  instanceTypes := #[]
  staticTypes := #[]
  resolved := Array.replicate 11 none
  statics := none }

def pool16 : Array CpInfo := pool [(1, .class_ 2), (0, u "java/lang/constant/ConstantDesc"), (0, .class_ 4), (0, u "java/lang/Object")] 32

/-- java/lang/constant/ConstantDesc -/
def k16 : Class := { plain "java/lang/constant/ConstantDesc" (some 0) with
  accessFlags := 1537
  interfaces := #[]
  cf := some (fileOf pool16 1 #[] #[] 1537 3 #[] #[])
  fields := #[]
  methods := #[]
  instanceTypes := #[]
  staticTypes := #[]
  resolved := Array.replicate 37 none
  statics := none }

def pool17 : Array CpInfo := pool [(1, .methodref 2 3), (0, .class_ 4), (0, .nameAndType 5 6), (0, u "java/lang/Object"), (0, u "<init>"), (0, u "()V"), (2, .fieldref 10 11), (0, .class_ 12), (0, .nameAndType 13 14), (0, u "java/lang/String"), (0, u "value"), (0, u "[B"), (0, .fieldref 10 16), (0, .nameAndType 17 18), (0, u "coder"), (0, u "B"), (2, u "hash"), (0, u "I"), (2, u "hashIsZero"), (0, u "Z"), (11, .fieldref 10 39), (0, .nameAndType 40 26), (0, u "COMPACT_STRINGS"), (12, u "toBytes"), (53, .class_ 109), (1, u "java/lang/StringLatin1"), (99, .methodref 10 210), (0, .nameAndType 5 211), (0, u "([BB)V"), (157, u "(C)Z"), (205, .class_ 576), (0, u "java/lang/CharSequence"), (22, u "CASE_INSENSITIVE_ORDER"), (0, u "Ljava/util/Comparator;"), (181, u "valueOf"), (0, u "(C)Ljava/lang/String;"), (231, .methodref 107 1016), (0, .nameAndType 1017 369), (0, u "canEncode"), (0, .methodref 107 1019), (0, .nameAndType 53 1020), (0, u "(C)[B"), (80, u "serialPersistentFields"), (0, u "[Ljava/io/ObjectStreamField;"), (0, .class_ 1104), (0, u "java/lang/String$CaseInsensitiveComparator"), (1, .class_ 1107), (0, u "java/io/Serializable"), (0, .class_ 1109), (0, u "java/lang/Comparable"), (0, .class_ 1111), (0, u "java/lang/constant/Constable"), (0, .class_ 1113), (0, u "java/lang/constant/ConstantDesc"), (2, u "serialVersionUID"), (0, u "J"), (3, u "REPL"), (0, u "C"), (2, u "LATIN1"), (1, u "UTF16")] 323

def k17m0 : Method := { name := "<init>", desc := "()V", sig := { parameters := [], returnType := none }, accessFlags := 1, code := none }
def k17c1 : Code := { maxStack := 4, maxLocals := 1, code := jdk_42_method_139_code, exceptionTable := #[], attributes := #[] }
def k17m1 : Method := { name := "valueOf", desc := "(C)Ljava/lang/String;", sig := { parameters := [.char], returnType := some (.object "java/lang/String") }, accessFlags := 9, code := some k17c1 }
def k17c2 : Code := { maxStack := 2, maxLocals := 3, code := jdk_42_method_151_code, exceptionTable := #[], attributes := #[] }
def k17m2 : Method := { name := "<init>", desc := "([BB)V", sig := { parameters := [(.array .byte), .byte], returnType := none }, accessFlags := 0, code := some k17c2 }
/-- java/lang/String -/
def k17 : Class := { plain "java/lang/String" (some 0) with
  accessFlags := 49
  interfaces := #[12, 13, 14, 15, 16]
  cf := some (fileOf pool17 10 #[.nestMembers #[1103]] #[{ accessFlags := 1, nameIndex := 5, descriptorIndex := 6, attributes := #[] }, { accessFlags := 9, nameIndex := 782, descriptorIndex := 783, attributes := #[] }, { accessFlags := 0, nameIndex := 5, descriptorIndex := 211, attributes := #[] }] 49 2 #[1106, 1108, 575, 1110, 1112] #[{ accessFlags := 18, nameIndex := 13, descriptorIndex := 14, attributes := #[] }, { accessFlags := 18, nameIndex := 17, descriptorIndex := 18, attributes := #[] }, { accessFlags := 2, nameIndex := 21, descriptorIndex := 22, attributes := #[] }, { accessFlags := 2, nameIndex := 25, descriptorIndex := 26, attributes := #[] }, { accessFlags := 26, nameIndex := 1116, descriptorIndex := 1117, attributes := #[] }, { accessFlags := 24, nameIndex := 40, descriptorIndex := 26, attributes := #[] }, { accessFlags := 26, nameIndex := 1101, descriptorIndex := 1102, attributes := #[] }, { accessFlags := 26, nameIndex := 1121, descriptorIndex := 1122, attributes := #[] }, { accessFlags := 25, nameIndex := 599, descriptorIndex := 600, attributes := #[] }, { accessFlags := 24, nameIndex := 1125, descriptorIndex := 18, attributes := #[] }, { accessFlags := 24, nameIndex := 1127, descriptorIndex := 18, attributes := #[] }])
  fields := #[{ name := "value", type := (.array .byte), accessFlags := 18, slot := 0, constantValue := 0 }, { name := "coder", type := .byte, accessFlags := 18, slot := 1, constantValue := 0 }, { name := "hash", type := .int, accessFlags := 2, slot := 2, constantValue := 0 }, { name := "hashIsZero", type := .boolean, accessFlags := 2, slot := 3, constantValue := 0 }, { name := "serialVersionUID", type := .long, accessFlags := 26, slot := 0, constantValue := 0 }, { name := "COMPACT_STRINGS", type := .boolean, accessFlags := 24, slot := 1, constantValue := 0 }, { name := "serialPersistentFields", type := (.array (.object "java/io/ObjectStreamField")), accessFlags := 26, slot := 2, constantValue := 0 }, { name := "REPL", type := .char, accessFlags := 26, slot := 3, constantValue := 0 }, { name := "CASE_INSENSITIVE_ORDER", type := (.object "java/util/Comparator"), accessFlags := 25, slot := 4, constantValue := 0 }, { name := "LATIN1", type := .byte, accessFlags := 24, slot := 5, constantValue := 0 }, { name := "UTF16", type := .byte, accessFlags := 24, slot := 6, constantValue := 0 }]
  methods := #[k17m0, k17m1, k17m2]
  instanceTypes := #[(.array .byte), .byte, .int, .boolean]
  staticTypes := #[.long, .boolean, (.array (.object "java/io/ObjectStreamField")), .char, (.object "java/util/Comparator"), .byte, .byte]
  resolved := Array.replicate 1451 none
  statics := some 0 }

def pool18 : Array CpInfo := pool [(4, .class_ 6), (1, u "java/lang/Object"), (0, u "<init>"), (0, u "()V"), (5, .class_ 16), (1, u "java/lang/StringLatin1"), (73, u "canEncode"), (14, u "(C)Z"), (15, u "$assertionsDisabled"), (0, u "Z"), (98, .class_ 223), (1, u "java/lang/StringLatin1$LinesSpliterator"), (156, u "toBytes"), (1, u "(C)[B"), (7, .class_ 391), (0, u "java/lang/StringLatin1$CharsSpliterator")] 3

def k18m0 : Method := { name := "<init>", desc := "()V", sig := { parameters := [], returnType := none }, accessFlags := 0, code := none }
def k18c1 : Code := { maxStack := 2, maxLocals := 1, code := jdk_43_method_3_code, exceptionTable := #[], attributes := #[] }
def k18m1 : Method := { name := "canEncode", desc := "(C)Z", sig := { parameters := [.char], returnType := some .boolean }, accessFlags := 9, code := some k18c1 }
def k18c2 : Code := { maxStack := 4, maxLocals := 1, code := jdk_43_method_46_code, exceptionTable := #[], attributes := #[] }
def k18m2 : Method := { name := "toBytes", desc := "(C)[B", sig := { parameters := [.char], returnType := some (.array .byte) }, accessFlags := 9, code := some k18c2 }
/-- java/lang/StringLatin1 -/
def k18 : Class := { plain "java/lang/StringLatin1" (some 0) with
  accessFlags := 48
  interfaces := #[]
  cf := some (fileOf pool18 14 #[.nestMembers #[390, 221]] #[{ accessFlags := 0, nameIndex := 7, descriptorIndex := 8, attributes := #[] }, { accessFlags := 9, nameIndex := 90, descriptorIndex := 105, attributes := #[] }, { accessFlags := 9, nameIndex := 380, descriptorIndex := 382, attributes := #[] }] 48 4 #[] #[{ accessFlags := 4120, nameIndex := 121, descriptorIndex := 122, attributes := #[] }])
  fields := #[{ name := "$assertionsDisabled", type := .boolean, accessFlags := 4120, slot := 0, constantValue := 0 }]
  methods := #[k18m0, k18m1, k18m2]
  instanceTypes := #[]
  staticTypes := #[.boolean]
  resolved := Array.replicate 395 none
  statics := none }

def pool19 : Array CpInfo := pool [(2, .class_ 4), (1, u "java/lang/Object"), (0, u "<init>"), (0, u "()V"), (17, .class_ 26), (1, u "jdk/internal/util/Preconditions"), (28, .class_ 56), (0, u "jdk/internal/util/Preconditions$4"), (57, .class_ 115), (0, u "jdk/internal/util/Preconditions$1"), (7, u "SIOOBE_FORMATTER"), (0, u "Ljava/util/function/BiFunction;"), (0, .class_ 126), (0, u "jdk/internal/util/Preconditions$2"), (3, u "AIOOBE_FORMATTER"), (0, .class_ 132), (0, u "jdk/internal/util/Preconditions$3"), (3, u "IOOBE_FORMATTER")] 57

def k19m0 : Method := { name := "<init>", desc := "()V", sig := { parameters := [], returnType := none }, accessFlags := 1, code := none }
/-- jdk/internal/util/Preconditions -/
def k19 : Class := { plain "jdk/internal/util/Preconditions" (some 0) with
  accessFlags := 33
  interfaces := #[]
  cf := some (fileOf pool19 24 #[.nestMembers #[55, 131, 125, 114]] #[{ accessFlags := 1, nameIndex := 5, descriptorIndex := 6, attributes := #[] }] 33 2 #[] #[{ accessFlags := 25, nameIndex := 123, descriptorIndex := 124, attributes := #[] }, { accessFlags := 25, nameIndex := 130, descriptorIndex := 124, attributes := #[] }, { accessFlags := 25, nameIndex := 136, descriptorIndex := 124, attributes := #[] }])
  fields := #[{ name := "SIOOBE_FORMATTER", type := (.object "java/util/function/BiFunction"), accessFlags := 25, slot := 0, constantValue := 0 }, { name := "AIOOBE_FORMATTER", type := (.object "java/util/function/BiFunction"), accessFlags := 25, slot := 1, constantValue := 0 }, { name := "IOOBE_FORMATTER", type := (.object "java/util/function/BiFunction"), accessFlags := 25, slot := 2, constantValue := 0 }]
  methods := #[k19m0]
  instanceTypes := #[]
  staticTypes := #[(.object "java/util/function/BiFunction"), (.object "java/util/function/BiFunction"), (.object "java/util/function/BiFunction")]
  resolved := Array.replicate 194 none
  statics := some 1 }

def pool20 : Array CpInfo := pool [(9, u "<init>"), (6, .class_ 18), (1, u "java/lang/Object"), (0, u "()V"), (1, .class_ 23), (1, u "jdk/internal/util/ArraysSupport"), (0, u "LOG2_ARRAY_LONG_INDEX_SCALE"), (0, u "I"), (2, u "U"), (0, u "Ljdk/internal/misc/Unsafe;"), (8, u "BIG_ENDIAN"), (0, u "Z"), (8, u "LOG2_BYTE_BIT_SIZE"), (4, u "LOG2_ARRAY_INT_INDEX_SCALE"), (54, u "JLA"), (0, u "Ljdk/internal/access/JavaLangAccess;"), (11, u "LOG2_ARRAY_BOOLEAN_INDEX_SCALE"), (9, u "LOG2_ARRAY_BYTE_INDEX_SCALE"), (5, u "LOG2_ARRAY_CHAR_INDEX_SCALE"), (5, u "LOG2_ARRAY_SHORT_INDEX_SCALE"), (18, u "LOG2_ARRAY_FLOAT_INDEX_SCALE"), (24, u "LOG2_ARRAY_DOUBLE_INDEX_SCALE"), (89, u "T_BOOLEAN"), (2, u "T_CHAR"), (1, u "T_FLOAT"), (1, u "T_DOUBLE"), (1, u "T_BYTE"), (1, u "T_SHORT"), (1, u "T_INT"), (1, u "T_LONG"), (1, u "SOFT_MAX_ARRAY_LENGTH")] 83

def k20m0 : Method := { name := "<init>", desc := "()V", sig := { parameters := [], returnType := none }, accessFlags := 2, code := none }
/-- jdk/internal/util/ArraysSupport -/
def k20 : Class := { plain "jdk/internal/util/ArraysSupport" (some 0) with
  accessFlags := 33
  interfaces := #[]
  cf := some (fileOf pool20 21 #[] #[{ accessFlags := 2, nameIndex := 9, descriptorIndex := 19, attributes := #[] }] 33 16 #[] #[{ accessFlags := 24, nameIndex := 28, descriptorIndex := 29, attributes := #[] }, { accessFlags := 26, nameIndex := 38, descriptorIndex := 39, attributes := #[] }, { accessFlags := 25, nameIndex := 121, descriptorIndex := 25, attributes := #[] }, { accessFlags := 25, nameIndex := 131, descriptorIndex := 25, attributes := #[] }, { accessFlags := 25, nameIndex := 137, descriptorIndex := 25, attributes := #[] }, { accessFlags := 25, nameIndex := 143, descriptorIndex := 25, attributes := #[] }, { accessFlags := 25, nameIndex := 53, descriptorIndex := 25, attributes := #[] }, { accessFlags := 25, nameIndex := 24, descriptorIndex := 25, attributes := #[] }, { accessFlags := 25, nameIndex := 162, descriptorIndex := 25, attributes := #[] }, { accessFlags := 25, nameIndex := 187, descriptorIndex := 25, attributes := #[] }, { accessFlags := 26, nameIndex := 48, descriptorIndex := 25, attributes := #[] }, { accessFlags := 25, nameIndex := 277, descriptorIndex := 25, attributes := #[] }, { accessFlags := 25, nameIndex := 280, descriptorIndex := 25, attributes := #[] }, { accessFlags := 25, nameIndex := 282, descriptorIndex := 25, attributes := #[] }, { accessFlags := 25, nameIndex := 284, descriptorIndex := 25, attributes := #[] }, { accessFlags := 25, nameIndex := 286, descriptorIndex := 25, attributes := #[] }, { accessFlags := 25, nameIndex := 288, descriptorIndex := 25, attributes := #[] }, { accessFlags := 25, nameIndex := 290, descriptorIndex := 25, attributes := #[] }, { accessFlags := 25, nameIndex := 292, descriptorIndex := 25, attributes := #[] }, { accessFlags := 26, nameIndex := 108, descriptorIndex := 109, attributes := #[] }, { accessFlags := 25, nameIndex := 294, descriptorIndex := 25, attributes := #[] }])
  fields := #[{ name := "U", type := (.object "jdk/internal/misc/Unsafe"), accessFlags := 24, slot := 0, constantValue := 0 }, { name := "BIG_ENDIAN", type := .boolean, accessFlags := 26, slot := 1, constantValue := 0 }, { name := "LOG2_ARRAY_BOOLEAN_INDEX_SCALE", type := .int, accessFlags := 25, slot := 2, constantValue := 0 }, { name := "LOG2_ARRAY_BYTE_INDEX_SCALE", type := .int, accessFlags := 25, slot := 3, constantValue := 0 }, { name := "LOG2_ARRAY_CHAR_INDEX_SCALE", type := .int, accessFlags := 25, slot := 4, constantValue := 0 }, { name := "LOG2_ARRAY_SHORT_INDEX_SCALE", type := .int, accessFlags := 25, slot := 5, constantValue := 0 }, { name := "LOG2_ARRAY_INT_INDEX_SCALE", type := .int, accessFlags := 25, slot := 6, constantValue := 0 }, { name := "LOG2_ARRAY_LONG_INDEX_SCALE", type := .int, accessFlags := 25, slot := 7, constantValue := 0 }, { name := "LOG2_ARRAY_FLOAT_INDEX_SCALE", type := .int, accessFlags := 25, slot := 8, constantValue := 0 }, { name := "LOG2_ARRAY_DOUBLE_INDEX_SCALE", type := .int, accessFlags := 25, slot := 9, constantValue := 0 }, { name := "LOG2_BYTE_BIT_SIZE", type := .int, accessFlags := 26, slot := 10, constantValue := 0 }, { name := "T_BOOLEAN", type := .int, accessFlags := 25, slot := 11, constantValue := 0 }, { name := "T_CHAR", type := .int, accessFlags := 25, slot := 12, constantValue := 0 }, { name := "T_FLOAT", type := .int, accessFlags := 25, slot := 13, constantValue := 0 }, { name := "T_DOUBLE", type := .int, accessFlags := 25, slot := 14, constantValue := 0 }, { name := "T_BYTE", type := .int, accessFlags := 25, slot := 15, constantValue := 0 }, { name := "T_SHORT", type := .int, accessFlags := 25, slot := 16, constantValue := 0 }, { name := "T_INT", type := .int, accessFlags := 25, slot := 17, constantValue := 0 }, { name := "T_LONG", type := .int, accessFlags := 25, slot := 18, constantValue := 0 }, { name := "JLA", type := (.object "jdk/internal/access/JavaLangAccess"), accessFlags := 26, slot := 19, constantValue := 0 }, { name := "SOFT_MAX_ARRAY_LENGTH", type := .int, accessFlags := 25, slot := 20, constantValue := 0 }]
  methods := #[k20m0]
  instanceTypes := #[]
  staticTypes := #[(.object "jdk/internal/misc/Unsafe"), .boolean, .int, .int, .int, .int, .int, .int, .int, .int, .int, .int, .int, .int, .int, .int, .int, .int, .int, (.object "jdk/internal/access/JavaLangAccess"), .int]
  resolved := Array.replicate 378 none
  statics := none }

def pool21 : Array CpInfo := pool [(1, u "java/lang/Cloneable"), (0, .class_ 1), (0, u "java/lang/Object"), (0, .class_ 3)] 3

/-- java/lang/Cloneable -/
def k21 : Class := { plain "java/lang/Cloneable" (some 0) with
  accessFlags := 1537
  interfaces := #[]
  cf := some (fileOf pool21 2 #[] #[] 1537 4 #[] #[])
  fields := #[]
  methods := #[]
  instanceTypes := #[]
  staticTypes := #[]
  resolved := Array.replicate 8 none
  statics := none }

/-- the primitive byte -/
def k22 : Class := { plain "byte" none with kind := .primitive 'B', accessFlags := 0x411 }
/-- [B -/
def k23 : Class := { plain "[B" (some 0) with kind := .array 22 .byte, interfaces := #[21, 12], accessFlags := 1041 }

/-- the primitive int -/
def k24 : Class := { plain "int" none with kind := .primitive 'I', accessFlags := 0x411 }
/-- [I -/
def k25 : Class := { plain "[I" (some 0) with kind := .array 24 .int, interfaces := #[21, 12], accessFlags := 1041 }

def heap : Heap := #[{ cls := 17, slots := #[.long 0, .int 1, .null, .int 0, .null, .int 0, .int 0], vm := .statics 17 },
  { cls := 19, slots := #[.null, .null, .null], vm := .statics 19 }]
def classes : Array Class := #[k0, k1, k2, k3, k4, k5, k6, k7, k8, k9, k10, k11, k12, k13, k14, k15, k16, k17, k18, k19, k20, k21, k22, k23, k24, k25]
def interned : List (Array UInt16 × Addr) := []
def slotsUsed : Nat := 10
def theMethod : MethodId := ⟨1, 2⟩
def args0 : Array Value := #[.int 3, .int 5]
def aboutOver (below : List Frame) : State where
  vm := { classes := classes, interned := interned.toArray }
  heap := heap
  slotsUsed := slotsUsed
  threads := #[{ frames := .invoking theMethod args0 :: below }]
def below0 : List Frame := [.native { method := ⟨0, 0⟩, args := #[] }]
def about1 : State := aboutOver below0
def p0 : Program := .bare "" "" ""
def e0 : Env := launch0.env 0 0 0
theorem w_frames : about1.frames = Frame.invoking theMethod args0 :: below0 := rfl
set_option maxRecDepth 65536 in
theorem w_args : argsFit about1.vm theMethod args0 = true := by decide +kernel
set_option maxRecDepth 65536 in
theorem w_heap : heapFits about1 = true := by decide +kernel
set_option maxRecDepth 65536 in
theorem w_runnable : about1.curStatus? = some .runnable := by decide +kernel
set_option maxRecDepth 65536 in
theorem w_alone : about1.alone = true := by decide +kernel
set_option maxRecDepth 65536 in
theorem w_named : about1.methodNamed? x = some theMethod := by decide +kernel
set_option maxRecDepth 65536 in
theorem w_hears : about1.hears theMethod below0 = true := by decide +kernel
set_option maxRecDepth 65536 in
theorem w_ripe : about1.ripe theMethod args0 below0 = true := by decide +kernel
theorem w_running : about1.status = .running := rfl
set_option maxRecDepth 65536 in
theorem w_room : about1.hasRoom e0.platform room_1 = true :=
  launch0.hasRoom_least _ room_1 (by decide +kernel) (by decide +kernel) (by decide +kernel) (by decide +kernel) (by decide +kernel) (by decide +kernel)
theorem allAtoms_all (ts : List Jvm.Cond) (a : Array Jvm.Value) (st : Jvm.State) : (allAtoms ts).before a st = ts.all (fun c => c.before a st) := by
  induction ts with
  | nil => rfl
  | cons c t ih =>
    show (Jvm.Cond.and c (allAtoms t)).before a st = _
    rw [Jvm.Cond.before_and, ih, List.all_cons]
def words1 : List Jvm.Cond := Jvm.Cond.code x code maxLocals ret :: tables_1
/-- a 'code' word, met by the world's own term for the bytes: nothing is compared byte by byte -/
theorem code_word {y : MethodName} {bytes : ByteArray} {mx : Nat} {rt : Option FieldType} {a : Array Value} {s : State} {m : MethodId} {meth : Method} {c : Code} (h1 : s.methodNamed? y = some m) (h2 : s.vm.method? m = some meth) (h3 : meth.code = some c) (h4 : c.code = bytes)
    (h5 : (c.maxLocals == mx && c.exceptionTable.isEmpty && decide (c.maxStack ≤ mostOperands) && decide (meth.sig.returnType = rt) && !meth.locks && decide (parseMethodDescriptor y.desc = some meth.sig)) = true) : (Jvm.Cond.code y bytes mx rt).before a s = true := by
  simp only [Bool.and_eq_true, beq_iff_eq, Bool.not_eq_true', decide_eq_true_eq] at h5
  obtain ⟨⟨⟨⟨⟨g1, g2⟩, g3⟩, g4⟩, g5⟩, g6⟩ := h5
  simp [Cond.before, Cond.holds, Cond.value, h1, h2, h3, h4, g1, g2, g3, g4, g5, g6]
def isCode : Jvm.Cond → Bool
  | .code _ _ _ _ => true
  | _ => false
theorem all_split {L : List Jvm.Cond} {P : Jvm.Cond → Bool} (h1 : L.all (fun c => isCode c || P c) = true) (h2 : ∀ c ∈ L.filter isCode, P c = true) : L.all P = true := by
  refine List.all_eq_true.mpr fun c hc => ?_
  have h := List.all_eq_true.mp h1 c hc
  rcases Bool.eq_false_or_eq_true (isCode c) with hi | hi
  · exact h2 c (List.mem_filter.mpr ⟨hc, hi⟩)
  · simpa [hi] using h
set_option maxRecDepth 65536 in
theorem w_c0 : (Jvm.Cond.code x code maxLocals ret).before args0 about1 = true := code_word (m := ⟨1, 2⟩) (meth := k1m2) (c := k1c2) (by decide +kernel) rfl rfl rfl (by decide +kernel)
set_option maxRecDepth 65536 in
theorem w_c1 : (Jvm.Cond.code ({ cls := "com/example/strict_model/strictmodel/TreeNode$Root", name := "<init>", desc := "()V" } : Jvm.MethodName) prog_40_method_1_code (1 : Nat) (Option.none : Option Jvm.ClassFile.FieldType)).before args0 about1 = true := code_word (m := ⟨7, 0⟩) (meth := k7m0) (c := k7c0) (by decide +kernel) rfl rfl rfl (by decide +kernel)
set_option maxRecDepth 65536 in
theorem w_c2 : (Jvm.Cond.code ({ cls := "com/example/strict_model/strictmodel/TreeNode$Branch", name := "<init>", desc := "()V" } : Jvm.MethodName) prog_34_method_1_code (1 : Nat) (Option.none : Option Jvm.ClassFile.FieldType)).before args0 about1 = true := code_word (m := ⟨5, 0⟩) (meth := k5m0) (c := k5c0) (by decide +kernel) rfl rfl rfl (by decide +kernel)
set_option maxRecDepth 65536 in
theorem w_c3 : (Jvm.Cond.code ({ cls := "com/example/strict_model/strictmodel/TreeNode$Linked", name := "<init>", desc := "()V" } : Jvm.MethodName) prog_38_method_1_code (1 : Nat) (Option.none : Option Jvm.ClassFile.FieldType)).before args0 about1 = true := code_word (m := ⟨4, 0⟩) (meth := k4m0) (c := k4c0) (by decide +kernel) rfl rfl rfl (by decide +kernel)
set_option maxRecDepth 65536 in
theorem w_c4 : (Jvm.Cond.code ({ cls := "com/example/strict_model/strictmodel/TreeNode", name := "<init>", desc := "()V" } : Jvm.MethodName) prog_31_method_1_code (1 : Nat) (Option.none : Option Jvm.ClassFile.FieldType)).before args0 about1 = true := code_word (m := ⟨3, 0⟩) (meth := k3m0) (c := k3c0) (by decide +kernel) rfl rfl rfl (by decide +kernel)
set_option maxRecDepth 65536 in
theorem w_c5 : (Jvm.Cond.code ({ cls := "java/lang/Object", name := "<init>", desc := "()V" } : Jvm.MethodName) object_method_1_code (1 : Nat) (Option.none : Option Jvm.ClassFile.FieldType)).before args0 about1 = true := code_word (m := ⟨0, 0⟩) (meth := k0m0) (c := k0c0) (by decide +kernel) rfl rfl rfl (by decide +kernel)
set_option maxRecDepth 65536 in
theorem w_c6 : (Jvm.Cond.code ({ cls := "com/example/strict_model/strictmodel/LinkedGetPreviousSiblingPinLaw", name := "make", desc := "(II)Lcom/example/strict_model/strictmodel/TreeNode$Linked;" } : Jvm.MethodName) method_2_code (2 : Nat) (Option.some (Jvm.ClassFile.FieldType.object "com/example/strict_model/strictmodel/TreeNode$Linked"))).before args0 about1 = true := code_word (m := ⟨1, 1⟩) (meth := k1m1) (c := k1c1) (by decide +kernel) rfl rfl rfl (by decide +kernel)
set_option maxRecDepth 65536 in
theorem w_c7 : (Jvm.Cond.code ({ cls := "java/lang/String", name := "valueOf", desc := "(C)Ljava/lang/String;" } : Jvm.MethodName) jdk_42_method_139_code (1 : Nat) (Option.some (Jvm.ClassFile.FieldType.object "java/lang/String"))).before args0 about1 = true := code_word (m := ⟨17, 1⟩) (meth := k17m1) (c := k17c1) (by decide +kernel) rfl rfl rfl (by decide +kernel)
set_option maxRecDepth 65536 in
theorem w_c8 : (Jvm.Cond.code ({ cls := "java/lang/StringLatin1", name := "canEncode", desc := "(C)Z" } : Jvm.MethodName) jdk_43_method_3_code (1 : Nat) (Option.some Jvm.ClassFile.FieldType.boolean)).before args0 about1 = true := code_word (m := ⟨18, 1⟩) (meth := k18m1) (c := k18c1) (by decide +kernel) rfl rfl rfl (by decide +kernel)
set_option maxRecDepth 65536 in
theorem w_c9 : (Jvm.Cond.code ({ cls := "java/lang/StringLatin1", name := "toBytes", desc := "(C)[B" } : Jvm.MethodName) jdk_43_method_46_code (1 : Nat) (Option.some (Jvm.ClassFile.FieldType.array Jvm.ClassFile.FieldType.byte))).before args0 about1 = true := code_word (m := ⟨18, 2⟩) (meth := k18m2) (c := k18c2) (by decide +kernel) rfl rfl rfl (by decide +kernel)
set_option maxRecDepth 65536 in
theorem w_c10 : (Jvm.Cond.code ({ cls := "java/lang/String", name := "<init>", desc := "([BB)V" } : Jvm.MethodName) jdk_42_method_151_code (3 : Nat) (Option.none : Option Jvm.ClassFile.FieldType)).before args0 about1 = true := code_word (m := ⟨17, 2⟩) (meth := k17m2) (c := k17c2) (by decide +kernel) rfl rfl rfl (by decide +kernel)
set_option maxRecDepth 65536 in
theorem w_c11 : (Jvm.Cond.code ({ cls := "com/example/strict_model/strictmodel/TreeNode$TextNode", name := "<init>", desc := "(Ljava/lang/String;)V" } : Jvm.MethodName) prog_41_method_1_code (2 : Nat) (Option.none : Option Jvm.ClassFile.FieldType)).before args0 about1 = true := code_word (m := ⟨11, 0⟩) (meth := k11m0) (c := k11c0) (by decide +kernel) rfl rfl rfl (by decide +kernel)
set_option maxRecDepth 65536 in
theorem w_c12 : (Jvm.Cond.code ({ cls := "com/example/strict_model/strictmodel/TreeNode$Characters", name := "<init>", desc := "(Ljava/lang/String;)V" } : Jvm.MethodName) prog_35_method_1_code (2 : Nat) (Option.none : Option Jvm.ClassFile.FieldType)).before args0 about1 = true := code_word (m := ⟨9, 0⟩) (meth := k9m0) (c := k9c0) (by decide +kernel) rfl rfl rfl (by decide +kernel)
set_option maxRecDepth 65536 in
theorem w_c13 : (Jvm.Cond.code ({ cls := "com/example/strict_model/strictmodel/TreeNode$Linked", name := "getPreviousSibling", desc := "()Lorg/w3c/dom/Node;" } : Jvm.MethodName) prog_38_method_3_code (1 : Nat) (Option.some (Jvm.ClassFile.FieldType.object "org/w3c/dom/Node"))).before args0 about1 = true := code_word (m := ⟨4, 1⟩) (meth := k4m1) (c := k4c1) (by decide +kernel) rfl rfl rfl (by decide +kernel)
set_option maxRecDepth 65536 in
theorem w_c14 : (Jvm.Cond.code ({ cls := "com/example/strict_model/strictmodel/TreeNode$Branch", name := "append", desc := "(Lcom/example/strict_model/strictmodel/TreeNode$Linked;)V" } : Jvm.MethodName) prog_34_method_3_code (3 : Nat) (Option.none : Option Jvm.ClassFile.FieldType)).before args0 about1 = true := code_word (m := ⟨5, 1⟩) (meth := k5m1) (c := k5c1) (by decide +kernel) rfl rfl rfl (by decide +kernel)
def codes1 : List Jvm.Cond := [Jvm.Cond.code x code maxLocals ret, Jvm.Cond.code ({ cls := "com/example/strict_model/strictmodel/TreeNode$Root", name := "<init>", desc := "()V" } : Jvm.MethodName) prog_40_method_1_code (1 : Nat) (Option.none : Option Jvm.ClassFile.FieldType), Jvm.Cond.code ({ cls := "com/example/strict_model/strictmodel/TreeNode$Branch", name := "<init>", desc := "()V" } : Jvm.MethodName) prog_34_method_1_code (1 : Nat) (Option.none : Option Jvm.ClassFile.FieldType), Jvm.Cond.code ({ cls := "com/example/strict_model/strictmodel/TreeNode$Linked", name := "<init>", desc := "()V" } : Jvm.MethodName) prog_38_method_1_code (1 : Nat) (Option.none : Option Jvm.ClassFile.FieldType), Jvm.Cond.code ({ cls := "com/example/strict_model/strictmodel/TreeNode", name := "<init>", desc := "()V" } : Jvm.MethodName) prog_31_method_1_code (1 : Nat) (Option.none : Option Jvm.ClassFile.FieldType), Jvm.Cond.code ({ cls := "java/lang/Object", name := "<init>", desc := "()V" } : Jvm.MethodName) object_method_1_code (1 : Nat) (Option.none : Option Jvm.ClassFile.FieldType), Jvm.Cond.code ({ cls := "com/example/strict_model/strictmodel/LinkedGetPreviousSiblingPinLaw", name := "make", desc := "(II)Lcom/example/strict_model/strictmodel/TreeNode$Linked;" } : Jvm.MethodName) method_2_code (2 : Nat) (Option.some (Jvm.ClassFile.FieldType.object "com/example/strict_model/strictmodel/TreeNode$Linked")), Jvm.Cond.code ({ cls := "java/lang/String", name := "valueOf", desc := "(C)Ljava/lang/String;" } : Jvm.MethodName) jdk_42_method_139_code (1 : Nat) (Option.some (Jvm.ClassFile.FieldType.object "java/lang/String")), Jvm.Cond.code ({ cls := "java/lang/StringLatin1", name := "canEncode", desc := "(C)Z" } : Jvm.MethodName) jdk_43_method_3_code (1 : Nat) (Option.some Jvm.ClassFile.FieldType.boolean), Jvm.Cond.code ({ cls := "java/lang/StringLatin1", name := "toBytes", desc := "(C)[B" } : Jvm.MethodName) jdk_43_method_46_code (1 : Nat) (Option.some (Jvm.ClassFile.FieldType.array Jvm.ClassFile.FieldType.byte)), Jvm.Cond.code ({ cls := "java/lang/String", name := "<init>", desc := "([BB)V" } : Jvm.MethodName) jdk_42_method_151_code (3 : Nat) (Option.none : Option Jvm.ClassFile.FieldType), Jvm.Cond.code ({ cls := "com/example/strict_model/strictmodel/TreeNode$TextNode", name := "<init>", desc := "(Ljava/lang/String;)V" } : Jvm.MethodName) prog_41_method_1_code (2 : Nat) (Option.none : Option Jvm.ClassFile.FieldType), Jvm.Cond.code ({ cls := "com/example/strict_model/strictmodel/TreeNode$Characters", name := "<init>", desc := "(Ljava/lang/String;)V" } : Jvm.MethodName) prog_35_method_1_code (2 : Nat) (Option.none : Option Jvm.ClassFile.FieldType), Jvm.Cond.code ({ cls := "com/example/strict_model/strictmodel/TreeNode$Linked", name := "getPreviousSibling", desc := "()Lorg/w3c/dom/Node;" } : Jvm.MethodName) prog_38_method_3_code (1 : Nat) (Option.some (Jvm.ClassFile.FieldType.object "org/w3c/dom/Node")), Jvm.Cond.code ({ cls := "com/example/strict_model/strictmodel/TreeNode$Branch", name := "append", desc := "(Lcom/example/strict_model/strictmodel/TreeNode$Linked;)V" } : Jvm.MethodName) prog_34_method_3_code (3 : Nat) (Option.none : Option Jvm.ClassFile.FieldType)]
set_option maxRecDepth 65536 in
theorem codes_eq : words1.filter isCode = codes1 := rfl
theorem w_codes : ∀ c ∈ words1.filter isCode, c.before args0 about1 = true := by
  rw [codes_eq]
  intro c hc
  simp only [codes1, List.mem_cons, List.not_mem_nil, or_false] at hc
  rcases hc with rfl | rfl | rfl | rfl | rfl | rfl | rfl | rfl | rfl | rfl | rfl | rfl | rfl | rfl | rfl
  · exact w_c0
  · exact w_c1
  · exact w_c2
  · exact w_c3
  · exact w_c4
  · exact w_c5
  · exact w_c6
  · exact w_c7
  · exact w_c8
  · exact w_c9
  · exact w_c10
  · exact w_c11
  · exact w_c12
  · exact w_c13
  · exact w_c14
set_option maxRecDepth 65536 in
theorem w_t1 : (words1.take 24).all (fun c => isCode c || c.before args0 about1) = true := by decide +kernel
set_option maxRecDepth 65536 in
theorem w_t2 : ((words1.drop 24).take 24).all (fun c => isCode c || c.before args0 about1) = true := by decide +kernel
set_option maxRecDepth 65536 in
theorem w_t3 : (((words1.drop 24).drop 24).take 24).all (fun c => isCode c || c.before args0 about1) = true := by decide +kernel
set_option maxRecDepth 65536 in
theorem w_t4 : (((words1.drop 24).drop 24).drop 24).all (fun c => isCode c || c.before args0 about1) = true := by decide +kernel
theorem w_tables : (allAtoms (Jvm.Cond.code x code maxLocals ret :: tables_1)).before args0 about1 = true := by
  rw [allAtoms_all]
  show words1.all (fun c => c.before args0 about1) = true
  refine all_split ?_ w_codes
  rw [← List.take_append_drop 24 words1, List.all_append, w_t1, ← List.take_append_drop 24 (words1.drop 24), List.all_append, w_t2, ← List.take_append_drop 24 ((words1.drop 24).drop 24), List.all_append, w_t3, w_t4]
  rfl
set_option maxRecDepth 65536 in
theorem w_rest : rest_1_c.before args0 about1 = true := by decide +kernel
set_option maxRecDepth 65536 in
theorem w_case : (Jvm.Cond.and given_1 narrow_1).before args0 about1 = true := by decide +kernel
theorem w_applies : (headSpec (Jvm.Cond.code x code maxLocals ret :: tables_1) room_1).applies x e0.platform about1 = true :=
  (Spec.applies_iff w_frames).mpr ⟨w_running, w_runnable, w_alone, w_named, w_hears, w_ripe, w_room, w_tables⟩
theorem atStart : AtStart classFile x code maxLocals ret World_1 tables_1 room_1 Calls_1 rest_1 Pre_1 launch0 p0 e0 about1 theMethod args0 below0 :=
  ⟨lists_1, trivial, launch0.admits_env _ _ _, launch0.least_env, fairChoices_fair.cas, fairChoices_fair.clock, w_frames, w_args, w_heap, w_applies, trivial, w_rest, w_case⟩
end start1
theorem witness_1 : WitnessClaimed_1 := ⟨start1.p0, start1.e0, start1.about1, start1.theMethod, start1.args0, start1.below0, start1.atStart⟩
end Jvm.Pilot.@@N@@
