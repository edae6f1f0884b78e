import JvmDerived
import JvmDerived.Pilot.@@N@@Statement
import JvmDerived.Pilot.@@N@@Code
set_option linter.unusedVariables false
set_option linter.unusedSimpArgs false
namespace Jvm.Pilot.@@N@@
open Jvm Jvm.ClassFile Sem Op Lib Jvm.Free Jvm.Stand Jvm.LawKit Jvm.RoadKit Bundle Jvm.Pilot.@@N@@.Jvm.D
section OwnGo
variable {p : Program} {l : Launch} {e : Env} {R : Room} {s : State} {m : MethodId} {args : Array Value} {below : List Frame} {meth : Method} {c : Code} {T : State} {locs : List Loc} {cells slots : Nat} {Q : Option Value → Heap → List Loc → Prop} {rc rs : Nat} {Ls : Array Slot} {st : List Value} {pc pc' pt : Nat} {Z : State} {a0 : Array Value} {h : Heap} {En : Outcome → State → Prop}
def Go (p : Program) (e : Env) (below : List Frame) (En : Outcome → State → Prop) (S : State) : Prop := ∃ s₂ o, Steps p.tables e below S s₂ ∧ s₂.status = .running ∧ Ended s₂ below o ∧ En o s₂
def EndN (s : State) (Q : Option Value → Heap → List Loc → Prop) (rc rs : Nat) (o : Outcome) (s₂ : State) : Prop := ∃ v L, o = .returned v ∧ Q v s₂.heap L ∧ FrameEnd s o s₂ L rc rs
def EndW (s : State) (Q : Option Value → Heap → List Loc → Prop) (rc rs : Nat) (o : Outcome) (s₂ : State) : Prop := ∃ v L, o = .returned v ∧ Q v s₂.heap L ∧ ReturnedEndW s o s₂ L rc rs
theorem own_via {S S' : State} (q : ∀ t, Steps p.tables e below S' t → Steps p.tables e below S t) (k : Go p e below En S') : Go p e below En S := by
  obtain ⟨t, o, h1, h2⟩ := k
  exact ⟨t, o, q _ h1, h2⟩
def Dec (b : ByteArray) (pc : Nat) (i : Instr) (n pc' : Nat) : Prop := decode b pc = .ok (i, n) ∧ pc + n = pc'
def DecB (b : ByteArray) (pc : Nat) (i : Instr) (o : Int) (pF pT : Nat) : Prop := decode b pc = .ok (i, 3) ∧ pc + 3 = pF ∧ 0 ≤ (pc : Int) + o ∧ ((pc : Int) + o).toNat = pT
theorem dc {b : ByteArray} {i : Instr} {n : Nat} (q : c.code = b) (k : Dec b pc i n pc') : Dec c.code pc i n pc' := q ▸ k
theorem db {b : ByteArray} {i : Instr} {o : Int} (q : c.code = b) (k : DecB b pc i o pc' pt) : DecB c.code pc i o pc' pt := q ▸ k
theorem go_iadd (X : Stand p l e R s m args below meth c T locs cells slots) (hx : p.tables.exec = Jvm.exec) {x y : Int32} (hd : Dec c.code pc (.iadd) 1 pc') (k : Go p e below En (T.setTop (mkF m pc' Ls (.int (x + y) :: st)))) : Go p e below En (T.setTop (mkF m pc Ls (.int y :: .int x :: st))) := by
  obtain ⟨hd, rfl⟩ := hd
  exact own_via (fun t => XS.iadd X.here hx rfl hd rfl) k
theorem go_isub (X : Stand p l e R s m args below meth c T locs cells slots) (hx : p.tables.exec = Jvm.exec) {x y : Int32} (hd : Dec c.code pc (.isub) 1 pc') (k : Go p e below En (T.setTop (mkF m pc' Ls (.int (x - y) :: st)))) : Go p e below En (T.setTop (mkF m pc Ls (.int y :: .int x :: st))) := by
  obtain ⟨hd, rfl⟩ := hd
  exact own_via (fun t => XS.isub X.here hx rfl hd rfl) k
theorem go_imul (X : Stand p l e R s m args below meth c T locs cells slots) (hx : p.tables.exec = Jvm.exec) {x y : Int32} (hd : Dec c.code pc (.imul) 1 pc') (k : Go p e below En (T.setTop (mkF m pc' Ls (.int (x * y) :: st)))) : Go p e below En (T.setTop (mkF m pc Ls (.int y :: .int x :: st))) := by
  obtain ⟨hd, rfl⟩ := hd
  exact own_via (fun t => XS.imul X.here hx rfl hd rfl) k
theorem go_iand (X : Stand p l e R s m args below meth c T locs cells slots) (hx : p.tables.exec = Jvm.exec) {x y : Int32} (hd : Dec c.code pc (.iand) 1 pc') (k : Go p e below En (T.setTop (mkF m pc' Ls (.int (x &&& y) :: st)))) : Go p e below En (T.setTop (mkF m pc Ls (.int y :: .int x :: st))) := by
  obtain ⟨hd, rfl⟩ := hd
  exact own_via (fun t => XS.iand X.here hx rfl hd rfl) k
theorem go_ior (X : Stand p l e R s m args below meth c T locs cells slots) (hx : p.tables.exec = Jvm.exec) {x y : Int32} (hd : Dec c.code pc (.ior) 1 pc') (k : Go p e below En (T.setTop (mkF m pc' Ls (.int (x ||| y) :: st)))) : Go p e below En (T.setTop (mkF m pc Ls (.int y :: .int x :: st))) := by
  obtain ⟨hd, rfl⟩ := hd
  exact own_via (fun t => XT.ior X.here hx rfl hd rfl) k
theorem go_ixor (X : Stand p l e R s m args below meth c T locs cells slots) (hx : p.tables.exec = Jvm.exec) {x y : Int32} (hd : Dec c.code pc (.ixor) 1 pc') (k : Go p e below En (T.setTop (mkF m pc' Ls (.int (x ^^^ y) :: st)))) : Go p e below En (T.setTop (mkF m pc Ls (.int y :: .int x :: st))) := by
  obtain ⟨hd, rfl⟩ := hd
  exact own_via (fun t => XT.ixor X.here hx rfl hd rfl) k
theorem go_ishl (X : Stand p l e R s m args below meth c T locs cells slots) (hx : p.tables.exec = Jvm.exec) {x y : Int32} (hd : Dec c.code pc (.ishl) 1 pc') (k : Go p e below En (T.setTop (mkF m pc' Ls (.int (x <<< (y &&& 31)) :: st)))) : Go p e below En (T.setTop (mkF m pc Ls (.int y :: .int x :: st))) := by
  obtain ⟨hd, rfl⟩ := hd
  exact own_via (fun t => XT.ishl X.here hx rfl hd rfl) k
theorem go_ishr (X : Stand p l e R s m args below meth c T locs cells slots) (hx : p.tables.exec = Jvm.exec) {x y : Int32} (hd : Dec c.code pc (.ishr) 1 pc') (k : Go p e below En (T.setTop (mkF m pc' Ls (.int (x >>> (y &&& 31)) :: st)))) : Go p e below En (T.setTop (mkF m pc Ls (.int y :: .int x :: st))) := by
  obtain ⟨hd, rfl⟩ := hd
  exact own_via (fun t => XT.ishr X.here hx rfl hd rfl) k
theorem go_iushr (X : Stand p l e R s m args below meth c T locs cells slots) (hx : p.tables.exec = Jvm.exec) {x y : Int32} (hd : Dec c.code pc (.iushr) 1 pc') (k : Go p e below En (T.setTop (mkF m pc' Ls (.int (XT.ushr x y) :: st)))) : Go p e below En (T.setTop (mkF m pc Ls (.int y :: .int x :: st))) := by
  obtain ⟨hd, rfl⟩ := hd
  exact own_via (fun t => XT.iushr X.here hx rfl hd rfl) k
theorem go_idiv (X : Stand p l e R s m args below meth c T locs cells slots) (hx : p.tables.exec = Jvm.exec) {x y : Int32} (hd : Dec c.code pc (.idiv) 1 pc') (hy : y ≠ 0) (k : Go p e below En (T.setTop (mkF m pc' Ls (.int (x / y) :: st)))) : Go p e below En (T.setTop (mkF m pc Ls (.int y :: .int x :: st))) := by
  obtain ⟨hd, rfl⟩ := hd
  exact own_via (fun t => XS.idiv X.here hx rfl hd rfl hy) k
theorem go_irem (X : Stand p l e R s m args below meth c T locs cells slots) (hx : p.tables.exec = Jvm.exec) {x y : Int32} (hd : Dec c.code pc (.irem) 1 pc') (hy : y ≠ 0) (k : Go p e below En (T.setTop (mkF m pc' Ls (.int (x % y) :: st)))) : Go p e below En (T.setTop (mkF m pc Ls (.int y :: .int x :: st))) := by
  obtain ⟨hd, rfl⟩ := hd
  exact own_via (fun t => iremM X hx rfl hd rfl hy) k
theorem go_ineg (X : Stand p l e R s m args below meth c T locs cells slots) (hx : p.tables.exec = Jvm.exec) {x : Int32} (hd : Dec c.code pc (.ineg) 1 pc') (k : Go p e below En (T.setTop (mkF m pc' Ls (.int (-x) :: st)))) : Go p e below En (T.setTop (mkF m pc Ls (.int x :: st))) := by
  obtain ⟨hd, rfl⟩ := hd
  exact own_via (fun t => XS.ineg X.here hx rfl hd rfl) k
theorem go_ladd (X : Stand p l e R s m args below meth c T locs cells slots) (hx : p.tables.exec = Jvm.exec) {x y : Int64} (hd : Dec c.code pc (.ladd) 1 pc') (k : Go p e below En (T.setTop (mkF m pc' Ls (.long (x + y) :: st)))) : Go p e below En (T.setTop (mkF m pc Ls (.long y :: .long x :: st))) := by
  obtain ⟨hd, rfl⟩ := hd
  exact own_via (fun t => XT.ladd X.here hx rfl hd rfl) k
theorem go_lsub (X : Stand p l e R s m args below meth c T locs cells slots) (hx : p.tables.exec = Jvm.exec) {x y : Int64} (hd : Dec c.code pc (.lsub) 1 pc') (k : Go p e below En (T.setTop (mkF m pc' Ls (.long (x - y) :: st)))) : Go p e below En (T.setTop (mkF m pc Ls (.long y :: .long x :: st))) := by
  obtain ⟨hd, rfl⟩ := hd
  exact own_via (fun t => XT.lsub X.here hx rfl hd rfl) k
theorem go_lmul (X : Stand p l e R s m args below meth c T locs cells slots) (hx : p.tables.exec = Jvm.exec) {x y : Int64} (hd : Dec c.code pc (.lmul) 1 pc') (k : Go p e below En (T.setTop (mkF m pc' Ls (.long (x * y) :: st)))) : Go p e below En (T.setTop (mkF m pc Ls (.long y :: .long x :: st))) := by
  obtain ⟨hd, rfl⟩ := hd
  exact own_via (fun t => XT.lmul X.here hx rfl hd rfl) k
theorem go_land (X : Stand p l e R s m args below meth c T locs cells slots) (hx : p.tables.exec = Jvm.exec) {x y : Int64} (hd : Dec c.code pc (.land) 1 pc') (k : Go p e below En (T.setTop (mkF m pc' Ls (.long (x &&& y) :: st)))) : Go p e below En (T.setTop (mkF m pc Ls (.long y :: .long x :: st))) := by
  obtain ⟨hd, rfl⟩ := hd
  exact own_via (fun t => XT.land X.here hx rfl hd rfl) k
theorem go_lor (X : Stand p l e R s m args below meth c T locs cells slots) (hx : p.tables.exec = Jvm.exec) {x y : Int64} (hd : Dec c.code pc (.lor) 1 pc') (k : Go p e below En (T.setTop (mkF m pc' Ls (.long (x ||| y) :: st)))) : Go p e below En (T.setTop (mkF m pc Ls (.long y :: .long x :: st))) := by
  obtain ⟨hd, rfl⟩ := hd
  exact own_via (fun t => XT.lor X.here hx rfl hd rfl) k
theorem go_lxor (X : Stand p l e R s m args below meth c T locs cells slots) (hx : p.tables.exec = Jvm.exec) {x y : Int64} (hd : Dec c.code pc (.lxor) 1 pc') (k : Go p e below En (T.setTop (mkF m pc' Ls (.long (x ^^^ y) :: st)))) : Go p e below En (T.setTop (mkF m pc Ls (.long y :: .long x :: st))) := by
  obtain ⟨hd, rfl⟩ := hd
  exact own_via (fun t => XT.lxor X.here hx rfl hd rfl) k
theorem go_lshl (X : Stand p l e R s m args below meth c T locs cells slots) (hx : p.tables.exec = Jvm.exec) {x : Int64} {y : Int32} (hd : Dec c.code pc (.lshl) 1 pc') (k : Go p e below En (T.setTop (mkF m pc' Ls (.long (x <<< (y.toInt64 &&& 63)) :: st)))) : Go p e below En (T.setTop (mkF m pc Ls (.int y :: .long x :: st))) := by
  obtain ⟨hd, rfl⟩ := hd
  exact own_via (fun t => XT.lshl X.here hx rfl hd rfl) k
theorem go_lshr (X : Stand p l e R s m args below meth c T locs cells slots) (hx : p.tables.exec = Jvm.exec) {x : Int64} {y : Int32} (hd : Dec c.code pc (.lshr) 1 pc') (k : Go p e below En (T.setTop (mkF m pc' Ls (.long (x >>> (y.toInt64 &&& 63)) :: st)))) : Go p e below En (T.setTop (mkF m pc Ls (.int y :: .long x :: st))) := by
  obtain ⟨hd, rfl⟩ := hd
  exact own_via (fun t => XT.lshr X.here hx rfl hd rfl) k
theorem go_lushr (X : Stand p l e R s m args below meth c T locs cells slots) (hx : p.tables.exec = Jvm.exec) {x : Int64} {y : Int32} (hd : Dec c.code pc (.lushr) 1 pc') (k : Go p e below En (T.setTop (mkF m pc' Ls (.long (XT.ushrL x y) :: st)))) : Go p e below En (T.setTop (mkF m pc Ls (.int y :: .long x :: st))) := by
  obtain ⟨hd, rfl⟩ := hd
  exact own_via (fun t => XT.lushr X.here hx rfl hd rfl) k
theorem go_ldiv (X : Stand p l e R s m args below meth c T locs cells slots) (hx : p.tables.exec = Jvm.exec) {x y : Int64} (hd : Dec c.code pc (.ldiv) 1 pc') (hy : y ≠ 0) (k : Go p e below En (T.setTop (mkF m pc' Ls (.long (x / y) :: st)))) : Go p e below En (T.setTop (mkF m pc Ls (.long y :: .long x :: st))) := by
  obtain ⟨hd, rfl⟩ := hd
  exact own_via (fun t => XT.ldiv X.here hx rfl hd rfl hy) k
theorem go_lrem (X : Stand p l e R s m args below meth c T locs cells slots) (hx : p.tables.exec = Jvm.exec) {x y : Int64} (hd : Dec c.code pc (.lrem) 1 pc') (hy : y ≠ 0) (k : Go p e below En (T.setTop (mkF m pc' Ls (.long (x - (x / y) * y) :: st)))) : Go p e below En (T.setTop (mkF m pc Ls (.long y :: .long x :: st))) := by
  obtain ⟨hd, rfl⟩ := hd
  exact own_via (fun t => XT.lrem X.here hx rfl hd rfl hy) k
theorem go_lneg (X : Stand p l e R s m args below meth c T locs cells slots) (hx : p.tables.exec = Jvm.exec) {x : Int64} (hd : Dec c.code pc (.lneg) 1 pc') (k : Go p e below En (T.setTop (mkF m pc' Ls (.long (-x) :: st)))) : Go p e below En (T.setTop (mkF m pc Ls (.long x :: st))) := by
  obtain ⟨hd, rfl⟩ := hd
  exact own_via (fun t => XT.lneg X.here hx rfl hd rfl) k
theorem go_lcmp (X : Stand p l e R s m args below meth c T locs cells slots) (hx : p.tables.exec = Jvm.exec) {x y : Int64} (hd : Dec c.code pc (.lcmp) 1 pc') (k : Go p e below En (T.setTop (mkF m pc' Ls (.int (XT.cmpL x y) :: st)))) : Go p e below En (T.setTop (mkF m pc Ls (.long y :: .long x :: st))) := by
  obtain ⟨hd, rfl⟩ := hd
  exact own_via (fun t => XT.lcmp X.here hx rfl hd rfl) k
theorem go_i2l (X : Stand p l e R s m args below meth c T locs cells slots) (hx : p.tables.exec = Jvm.exec) {x : Int32} (hd : Dec c.code pc (.i2l) 1 pc') (k : Go p e below En (T.setTop (mkF m pc' Ls (.long x.toInt64 :: st)))) : Go p e below En (T.setTop (mkF m pc Ls (.int x :: st))) := by
  obtain ⟨hd, rfl⟩ := hd
  exact own_via (fun t => XT.i2l X.here hx rfl hd rfl) k
theorem go_l2i (X : Stand p l e R s m args below meth c T locs cells slots) (hx : p.tables.exec = Jvm.exec) {x : Int64} (hd : Dec c.code pc (.l2i) 1 pc') (k : Go p e below En (T.setTop (mkF m pc' Ls (.int x.toInt32 :: st)))) : Go p e below En (T.setTop (mkF m pc Ls (.long x :: st))) := by
  obtain ⟨hd, rfl⟩ := hd
  exact own_via (fun t => XT.l2i X.here hx rfl hd rfl) k
theorem go_i2b (X : Stand p l e R s m args below meth c T locs cells slots) (hx : p.tables.exec = Jvm.exec) {x : Int32} (hd : Dec c.code pc (.i2b) 1 pc') (k : Go p e below En (T.setTop (mkF m pc' Ls (.int x.toInt8.toInt32 :: st)))) : Go p e below En (T.setTop (mkF m pc Ls (.int x :: st))) := by
  obtain ⟨hd, rfl⟩ := hd
  exact own_via (fun t => XT.i2b X.here hx rfl hd rfl) k
theorem go_i2c (X : Stand p l e R s m args below meth c T locs cells slots) (hx : p.tables.exec = Jvm.exec) {x : Int32} (hd : Dec c.code pc (.i2c) 1 pc') (k : Go p e below En (T.setTop (mkF m pc' Ls (.int x.toUInt32.toUInt16.toUInt32.toInt32 :: st)))) : Go p e below En (T.setTop (mkF m pc Ls (.int x :: st))) := by
  obtain ⟨hd, rfl⟩ := hd
  exact own_via (fun t => XT.i2c X.here hx rfl hd rfl) k
theorem go_i2s (X : Stand p l e R s m args below meth c T locs cells slots) (hx : p.tables.exec = Jvm.exec) {x : Int32} (hd : Dec c.code pc (.i2s) 1 pc') (k : Go p e below En (T.setTop (mkF m pc' Ls (.int x.toInt16.toInt32 :: st)))) : Go p e below En (T.setTop (mkF m pc Ls (.int x :: st))) := by
  obtain ⟨hd, rfl⟩ := hd
  exact own_via (fun t => XT.i2s X.here hx rfl hd rfl) k
theorem go_iloadn (X : Stand p l e R s m args below meth c T locs cells slots) (hx : p.tables.exec = Jvm.exec) {k : Fin 4} {v : Int32} (hd : Dec c.code pc (.iload_n k) 1 pc') (hl : Ls[k.val]? = some (.val (.int v))) (k : Go p e below En (T.setTop (mkF m pc' Ls (.int v :: st)))) : Go p e below En (T.setTop (mkF m pc Ls st)) := by
  obtain ⟨hd, rfl⟩ := hd
  exact own_via (fun t => XS.iloadN X.here hx rfl hd hl) k
theorem go_iload (X : Stand p l e R s m args below meth c T locs cells slots) (hx : p.tables.exec = Jvm.exec) {k : Nat} {v : Int32} (hd : Dec c.code pc (.iload k) 2 pc') (hl : Ls[k]? = some (.val (.int v))) (k : Go p e below En (T.setTop (mkF m pc' Ls (.int v :: st)))) : Go p e below En (T.setTop (mkF m pc Ls st)) := by
  obtain ⟨hd, rfl⟩ := hd
  exact own_via (fun t => XS.iload X.here hx rfl hd hl) k
theorem go_lloadn (X : Stand p l e R s m args below meth c T locs cells slots) (hx : p.tables.exec = Jvm.exec) {k : Fin 4} {v : Int64} (hd : Dec c.code pc (.lload_n k) 1 pc') (hl : Ls[k.val]? = some (.val (.long v))) (k : Go p e below En (T.setTop (mkF m pc' Ls (.long v :: st)))) : Go p e below En (T.setTop (mkF m pc Ls st)) := by
  obtain ⟨hd, rfl⟩ := hd
  exact own_via (fun t => XT.lloadN X.here hx rfl hd hl) k
theorem go_lload (X : Stand p l e R s m args below meth c T locs cells slots) (hx : p.tables.exec = Jvm.exec) {k : Nat} {v : Int64} (hd : Dec c.code pc (.lload k) 2 pc') (hl : Ls[k]? = some (.val (.long v))) (k : Go p e below En (T.setTop (mkF m pc' Ls (.long v :: st)))) : Go p e below En (T.setTop (mkF m pc Ls st)) := by
  obtain ⟨hd, rfl⟩ := hd
  exact own_via (fun t => XT.lload X.here hx rfl hd hl) k
theorem go_aloadn (X : Stand p l e R s m args below meth c T locs cells slots) (hx : p.tables.exec = Jvm.exec) {k : Fin 4} {v : Value} (hd : Dec c.code pc (.aload_n k) 1 pc') (hl : Ls[k.val]? = some (.val v)) (hv : v.isRef = true) (k : Go p e below En (T.setTop (mkF m pc' Ls (v :: st)))) : Go p e below En (T.setTop (mkF m pc Ls st)) := by
  obtain ⟨hd, rfl⟩ := hd
  exact own_via (fun t => XS.aloadN X.here hx rfl hd hl hv) k
theorem go_aload (X : Stand p l e R s m args below meth c T locs cells slots) (hx : p.tables.exec = Jvm.exec) {k : Nat} {v : Value} (hd : Dec c.code pc (.aload k) 2 pc') (hl : Ls[k]? = some (.val v)) (hv : v.isRef = true) (k : Go p e below En (T.setTop (mkF m pc' Ls (v :: st)))) : Go p e below En (T.setTop (mkF m pc Ls st)) := by
  obtain ⟨hd, rfl⟩ := hd
  exact own_via (fun t => XS.aload X.here hx rfl hd hl hv) k
theorem go_istoren (X : Stand p l e R s m args below meth c T locs cells slots) (hx : p.tables.exec = Jvm.exec) {k : Fin 4} {x : Int32} (Ls' : Array Slot) (hd : Dec c.code pc (.istore_n k) 1 pc') (hl : storeLocals Ls k.val (.int x) = some Ls') (k : Go p e below En (T.setTop (mkF m pc' Ls' st))) : Go p e below En (T.setTop (mkF m pc Ls (.int x :: st))) := by
  obtain ⟨hd, rfl⟩ := hd
  exact own_via (fun t => XS.istoreN X.here hx rfl hd rfl hl) k
theorem go_istore (X : Stand p l e R s m args below meth c T locs cells slots) (hx : p.tables.exec = Jvm.exec) {k : Nat} {x : Int32} (Ls' : Array Slot) (hd : Dec c.code pc (.istore k) 2 pc') (hl : storeLocals Ls k (.int x) = some Ls') (k : Go p e below En (T.setTop (mkF m pc' Ls' st))) : Go p e below En (T.setTop (mkF m pc Ls (.int x :: st))) := by
  obtain ⟨hd, rfl⟩ := hd
  exact own_via (fun t => XS.istore X.here hx rfl hd rfl hl) k
theorem go_lstoren (X : Stand p l e R s m args below meth c T locs cells slots) (hx : p.tables.exec = Jvm.exec) {k : Fin 4} {x : Int64} (Ls' : Array Slot) (hd : Dec c.code pc (.lstore_n k) 1 pc') (hl : storeLocals Ls k.val (.long x) = some Ls') (k : Go p e below En (T.setTop (mkF m pc' Ls' st))) : Go p e below En (T.setTop (mkF m pc Ls (.long x :: st))) := by
  obtain ⟨hd, rfl⟩ := hd
  exact own_via (fun t => XT.lstoreN X.here hx rfl hd rfl hl) k
theorem go_lstore (X : Stand p l e R s m args below meth c T locs cells slots) (hx : p.tables.exec = Jvm.exec) {k : Nat} {x : Int64} (Ls' : Array Slot) (hd : Dec c.code pc (.lstore k) 2 pc') (hl : storeLocals Ls k (.long x) = some Ls') (k : Go p e below En (T.setTop (mkF m pc' Ls' st))) : Go p e below En (T.setTop (mkF m pc Ls (.long x :: st))) := by
  obtain ⟨hd, rfl⟩ := hd
  exact own_via (fun t => XT.lstore X.here hx rfl hd rfl hl) k
theorem go_astoren (X : Stand p l e R s m args below meth c T locs cells slots) (hx : p.tables.exec = Jvm.exec) {k : Fin 4} {x : Value} (Ls' : Array Slot) (hd : Dec c.code pc (.astore_n k) 1 pc') (hv : x.isRef = true) (hl : storeLocals Ls k.val (x) = some Ls') (k : Go p e below En (T.setTop (mkF m pc' Ls' st))) : Go p e below En (T.setTop (mkF m pc Ls (x :: st))) := by
  obtain ⟨hd, rfl⟩ := hd
  exact own_via (fun t => XS.astoreN X.here hx rfl hd rfl hv hl) k
theorem go_astore (X : Stand p l e R s m args below meth c T locs cells slots) (hx : p.tables.exec = Jvm.exec) {k : Nat} {x : Value} (Ls' : Array Slot) (hd : Dec c.code pc (.astore k) 2 pc') (hv : x.isRef = true) (hl : storeLocals Ls k (x) = some Ls') (k : Go p e below En (T.setTop (mkF m pc' Ls' st))) : Go p e below En (T.setTop (mkF m pc Ls (x :: st))) := by
  obtain ⟨hd, rfl⟩ := hd
  exact own_via (fun t => XS.astore X.here hx rfl hd rfl hv hl) k
theorem go_iconst (X : Stand p l e R s m args below meth c T locs cells slots) (hx : p.tables.exec = Jvm.exec) {i : Int} (v : Int32) (hd : Dec c.code pc (.iconst i) 1 pc') (hv : Int32.ofInt i = v) (k : Go p e below En (T.setTop (mkF m pc' Ls (.int v :: st)))) : Go p e below En (T.setTop (mkF m pc Ls st)) := by
  obtain ⟨hd, rfl⟩ := hd
  exact own_via (fun t => (fun q => XS.iconst X.here hx rfl hd (by rw [hv]; exact q))) k
theorem go_bipush (X : Stand p l e R s m args below meth c T locs cells slots) (hx : p.tables.exec = Jvm.exec) {i : Int} (v : Int32) (hd : Dec c.code pc (.bipush i) 2 pc') (hv : (Int8.ofInt i).toInt32 = v) (k : Go p e below En (T.setTop (mkF m pc' Ls (.int v :: st)))) : Go p e below En (T.setTop (mkF m pc Ls st)) := by
  obtain ⟨hd, rfl⟩ := hd
  exact own_via (fun t => (fun q => XS.bipush X.here hx rfl hd (by rw [hv]; exact q))) k
theorem go_sipush (X : Stand p l e R s m args below meth c T locs cells slots) (hx : p.tables.exec = Jvm.exec) {i : Int} (v : Int32) (hd : Dec c.code pc (.sipush i) 3 pc') (hv : (Int16.ofInt i).toInt32 = v) (k : Go p e below En (T.setTop (mkF m pc' Ls (.int v :: st)))) : Go p e below En (T.setTop (mkF m pc Ls st)) := by
  obtain ⟨hd, rfl⟩ := hd
  exact own_via (fun t => (fun q => XS.sipush X.here hx rfl hd (by rw [hv]; exact q))) k
theorem go_lconst (X : Stand p l e R s m args below meth c T locs cells slots) (hx : p.tables.exec = Jvm.exec) {k : Fin 2} (v : Int64) (hd : Dec c.code pc (.lconst k) 1 pc') (hv : Int64.ofNat k = v) (k : Go p e below En (T.setTop (mkF m pc' Ls (.long v :: st)))) : Go p e below En (T.setTop (mkF m pc Ls st)) := by
  obtain ⟨hd, rfl⟩ := hd
  exact own_via (fun t => (fun q => XT.lconst X.here hx rfl hd (by rw [hv]; exact q))) k
theorem go_aconstnull (X : Stand p l e R s m args below meth c T locs cells slots) (hx : p.tables.exec = Jvm.exec)  (hd : Dec c.code pc (.aconst_null) 1 pc') (k : Go p e below En (T.setTop (mkF m pc' Ls (.null :: st)))) : Go p e below En (T.setTop (mkF m pc Ls st)) := by
  obtain ⟨hd, rfl⟩ := hd
  exact own_via (fun t => XS.aconstNull X.here hx rfl hd) k
theorem go_ldc (X : Stand p l e R s m args below meth c T locs cells slots) (hx : p.tables.exec = Jvm.exec) (hZ : Z.Warmed39 s.vm) {own : String} {index : Nat} {v : Int32} (hown : s.vm.findClass own = some m.cls) (w : (Jvm.Cond.constant own index v).before a0 Z = true) (hd : Dec c.code pc (.ldc index) 2 pc') (k : Go p e below En (T.setTop (mkF m pc' Ls (.int v :: st)))) : Go p e below En (T.setTop (mkF m pc Ls st)) := by
  obtain ⟨hd, rfl⟩ := hd
  exact own_via (fun t => X.ldcInt hx hown (mv hZ w) (g := mkF m pc Ls st) rfl hd t) k
theorem go_ldc2 (X : Stand p l e R s m args below meth c T locs cells slots) (hx : p.tables.exec = Jvm.exec) (hZ : Z.Warmed39 s.vm) {own : String} {index : Nat} {v : Int64} (hown : s.vm.findClass own = some m.cls) (w : (Jvm.Cond.constantLong own index v).before a0 Z = true) (hd : Dec c.code pc (.ldc2_w index) 3 pc') (k : Go p e below En (T.setTop (mkF m pc' Ls (.long v :: st)))) : Go p e below En (T.setTop (mkF m pc Ls st)) := by
  obtain ⟨hd, rfl⟩ := hd
  exact own_via (fun t => X.ldc2Long hx hown (mv hZ w) (g := mkF m pc Ls st) rfl hd t) k
theorem go_dup (X : Stand p l e R s m args below meth c T locs cells slots) (hx : p.tables.exec = Jvm.exec) {v : Value} (hd : Dec c.code pc (.dup) 1 pc') (hc : v.category = 1) (k : Go p e below En (T.setTop (mkF m pc' Ls (v :: v :: st)))) : Go p e below En (T.setTop (mkF m pc Ls (v :: st))) := by
  obtain ⟨hd, rfl⟩ := hd
  exact own_via (fun t => XS.dup X.here hx rfl hd rfl hc) k
theorem go_pop (X : Stand p l e R s m args below meth c T locs cells slots) (hx : p.tables.exec = Jvm.exec) {v : Value} (hd : Dec c.code pc (.pop) 1 pc') (hc : v.category = 1) (k : Go p e below En (T.setTop (mkF m pc' Ls st))) : Go p e below En (T.setTop (mkF m pc Ls (v :: st))) := by
  obtain ⟨hd, rfl⟩ := hd
  exact own_via (fun t => XT.pop X.here hx rfl hd rfl hc) k
theorem go_dupx1 (X : Stand p l e R s m args below meth c T locs cells slots) (hx : p.tables.exec = Jvm.exec) {v v' : Value} (hd : Dec c.code pc (.dup_x1) 1 pc') (hc : v.category = 1) (hc' : v'.category = 1) (k : Go p e below En (T.setTop (mkF m pc' Ls (v :: v' :: v :: st)))) : Go p e below En (T.setTop (mkF m pc Ls (v :: v' :: st))) := by
  obtain ⟨hd, rfl⟩ := hd
  exact own_via (fun t => XT.dupX1 X.here hx rfl hd rfl hc hc') k
theorem go_dup2L (X : Stand p l e R s m args below meth c T locs cells slots) (hx : p.tables.exec = Jvm.exec) {x : Int64} (hd : Dec c.code pc (.dup2) 1 pc') (k : Go p e below En (T.setTop (mkF m pc' Ls (.long x :: .long x :: st)))) : Go p e below En (T.setTop (mkF m pc Ls (.long x :: st))) := by
  obtain ⟨hd, rfl⟩ := hd
  exact own_via (fun t => XT.dup2L X.here hx rfl hd rfl) k
theorem go_dup2 (X : Stand p l e R s m args below meth c T locs cells slots) (hx : p.tables.exec = Jvm.exec) {v v' : Value} (hd : Dec c.code pc (.dup2) 1 pc') (hc : v.category = 1) (hc' : v'.category = 1) (k : Go p e below En (T.setTop (mkF m pc' Ls (v :: v' :: v :: v' :: st)))) : Go p e below En (T.setTop (mkF m pc Ls (v :: v' :: st))) := by
  obtain ⟨hd, rfl⟩ := hd
  exact own_via (fun t => XT.dup2 X.here hx rfl hd rfl hc hc') k
theorem go_iinc (X : Stand p l e R s m args below meth c T locs cells slots) (hx : p.tables.exec = Jvm.exec) {k : Nat} {cst : Int} {x : Int32} (Ls' : Array Slot) (hd : Dec c.code pc (.iinc k cst) 3 pc') (hl : Ls[k]? = some (.val (.int x))) (hl' : storeLocals Ls k (.int (x + Int32.ofInt cst)) = some Ls') (k : Go p e below En (T.setTop (mkF m pc' Ls' st))) : Go p e below En (T.setTop (mkF m pc Ls st)) := by
  obtain ⟨hd, rfl⟩ := hd
  exact own_via (fun t => XS.iinc X.here hx rfl hd hl hl') k
theorem go_goto (X : Stand p l e R s m args below meth c T locs cells slots) (hx : p.tables.exec = Jvm.exec) {o : Int} (hd : DecB c.code pc (.goto o) o pc' pt) (k : Go p e below En (T.setTop (mkF m pt Ls st))) : Go p e below En (T.setTop (mkF m pc Ls st)) := own_via (fun t => XS.goto X.here hx rfl rfl hd.1 hd.2.2.1 hd.2.2.2) k
theorem go_icmp (X : Stand p l e R s m args below meth c T locs cells slots) (hx : p.tables.exec = Jvm.exec) {cd : ClassFile.Cond} {x y : Int32} {o : Int} (hd : DecB c.code pc (.if_icmp cd o) o pc' pt) (kT : if_icmp.holds cd x y = true → Go p e below En (T.setTop (mkF m pt Ls st))) (kF : if_icmp.holds cd x y = false → Go p e below En (T.setTop (mkF m pc' Ls st))) : Go p e below En (T.setTop (mkF m pc Ls (.int y :: .int x :: st))) := by
  obtain ⟨h1, rfl, h3, h4⟩ := hd
  cases q : if_icmp.holds cd x y
  · exact own_via (fun t => XS.icmpNo X.here hx rfl h1 rfl q) (kF q)
  · exact own_via (fun t => XS.icmpYes X.here hx rfl rfl h1 rfl q h3 h4) (kT q)
theorem go_ifc (X : Stand p l e R s m args below meth c T locs cells slots) (hx : p.tables.exec = Jvm.exec) {cd : ClassFile.Cond} {x : Int32} {o : Int} (hd : DecB c.code pc (.ifCond cd o) o pc' pt) (kT : if_icmp.holds cd x 0 = true → Go p e below En (T.setTop (mkF m pt Ls st))) (kF : if_icmp.holds cd x 0 = false → Go p e below En (T.setTop (mkF m pc' Ls st))) : Go p e below En (T.setTop (mkF m pc Ls (.int x :: st))) := by
  obtain ⟨h1, rfl, h3, h4⟩ := hd
  cases q : if_icmp.holds cd x 0
  · exact own_via (fun t => XS.ifNo X.here hx rfl h1 rfl ((if0 cd x).trans q)) (kF q)
  · exact own_via (fun t => XS.ifYes X.here hx rfl rfl h1 rfl ((if0 cd x).trans q) h3 h4) (kT q)
theorem go_icmp_eq (X : Stand p l e R s m args below meth c T locs cells slots) (hx : p.tables.exec = Jvm.exec) {x y : Int32} {o : Int} (hd : DecB c.code pc (.if_icmp .eq o) o pc' pt) (kT : x = y → Go p e below En (T.setTop (mkF m pt Ls st))) (kF : ¬ x = y → Go p e below En (T.setTop (mkF m pc' Ls st))) : Go p e below En (T.setTop (mkF m pc Ls (.int y :: .int x :: st))) := by
  by_cases q : x = y
  · exact go_icmp X hx hd (fun _ => kT q) (fun r => absurd r (by rw [(teq q).1]; decide))
  · exact go_icmp X hx hd (fun r => absurd r (by rw [(feq q).1]; decide)) (fun _ => kF q)
theorem go_ifc_eq (X : Stand p l e R s m args below meth c T locs cells slots) (hx : p.tables.exec = Jvm.exec) {x : Int32} {o : Int} (hd : DecB c.code pc (.ifCond .eq o) o pc' pt) (kT : x = 0 → Go p e below En (T.setTop (mkF m pt Ls st))) (kF : ¬ x = 0 → Go p e below En (T.setTop (mkF m pc' Ls st))) : Go p e below En (T.setTop (mkF m pc Ls (.int x :: st))) := by
  by_cases q : x = 0
  · exact go_ifc X hx hd (fun _ => kT q) (fun r => absurd r (by rw [(teq q).1]; decide))
  · exact go_ifc X hx hd (fun r => absurd r (by rw [(feq q).1]; decide)) (fun _ => kF q)
theorem go_icmp_ne (X : Stand p l e R s m args below meth c T locs cells slots) (hx : p.tables.exec = Jvm.exec) {x y : Int32} {o : Int} (hd : DecB c.code pc (.if_icmp .ne o) o pc' pt) (kT : ¬ x = y → Go p e below En (T.setTop (mkF m pt Ls st))) (kF : x = y → Go p e below En (T.setTop (mkF m pc' Ls st))) : Go p e below En (T.setTop (mkF m pc Ls (.int y :: .int x :: st))) := by
  by_cases q : x = y
  · exact go_icmp X hx hd (fun r => absurd r (by rw [(teq q).2]; decide)) (fun _ => kF q)
  · exact go_icmp X hx hd (fun _ => kT q) (fun r => absurd r (by rw [(feq q).2]; decide))
theorem go_ifc_ne (X : Stand p l e R s m args below meth c T locs cells slots) (hx : p.tables.exec = Jvm.exec) {x : Int32} {o : Int} (hd : DecB c.code pc (.ifCond .ne o) o pc' pt) (kT : ¬ x = 0 → Go p e below En (T.setTop (mkF m pt Ls st))) (kF : x = 0 → Go p e below En (T.setTop (mkF m pc' Ls st))) : Go p e below En (T.setTop (mkF m pc Ls (.int x :: st))) := by
  by_cases q : x = 0
  · exact go_ifc X hx hd (fun r => absurd r (by rw [(teq q).2]; decide)) (fun _ => kF q)
  · exact go_ifc X hx hd (fun _ => kT q) (fun r => absurd r (by rw [(feq q).2]; decide))
theorem go_icmp_lt (X : Stand p l e R s m args below meth c T locs cells slots) (hx : p.tables.exec = Jvm.exec) {x y : Int32} {o : Int} (hd : DecB c.code pc (.if_icmp .lt o) o pc' pt) (kT : x < y → Go p e below En (T.setTop (mkF m pt Ls st))) (kF : ¬ x < y → Go p e below En (T.setTop (mkF m pc' Ls st))) : Go p e below En (T.setTop (mkF m pc Ls (.int y :: .int x :: st))) := by
  by_cases q : x < y
  · exact go_icmp X hx hd (fun _ => kT q) (fun r => absurd r (by rw [(tlt q).1]; decide))
  · exact go_icmp X hx hd (fun r => absurd r (by rw [(flt q).1]; decide)) (fun _ => kF q)
theorem go_ifc_lt (X : Stand p l e R s m args below meth c T locs cells slots) (hx : p.tables.exec = Jvm.exec) {x : Int32} {o : Int} (hd : DecB c.code pc (.ifCond .lt o) o pc' pt) (kT : x < 0 → Go p e below En (T.setTop (mkF m pt Ls st))) (kF : ¬ x < 0 → Go p e below En (T.setTop (mkF m pc' Ls st))) : Go p e below En (T.setTop (mkF m pc Ls (.int x :: st))) := by
  by_cases q : x < 0
  · exact go_ifc X hx hd (fun _ => kT q) (fun r => absurd r (by rw [(tlt q).1]; decide))
  · exact go_ifc X hx hd (fun r => absurd r (by rw [(flt q).1]; decide)) (fun _ => kF q)
theorem go_icmp_ge (X : Stand p l e R s m args below meth c T locs cells slots) (hx : p.tables.exec = Jvm.exec) {x y : Int32} {o : Int} (hd : DecB c.code pc (.if_icmp .ge o) o pc' pt) (kT : ¬ x < y → Go p e below En (T.setTop (mkF m pt Ls st))) (kF : x < y → Go p e below En (T.setTop (mkF m pc' Ls st))) : Go p e below En (T.setTop (mkF m pc Ls (.int y :: .int x :: st))) := by
  by_cases q : x < y
  · exact go_icmp X hx hd (fun r => absurd r (by rw [(tlt q).2.1]; decide)) (fun _ => kF q)
  · exact go_icmp X hx hd (fun _ => kT q) (fun r => absurd r (by rw [(flt q).2.1]; decide))
theorem go_ifc_ge (X : Stand p l e R s m args below meth c T locs cells slots) (hx : p.tables.exec = Jvm.exec) {x : Int32} {o : Int} (hd : DecB c.code pc (.ifCond .ge o) o pc' pt) (kT : ¬ x < 0 → Go p e below En (T.setTop (mkF m pt Ls st))) (kF : x < 0 → Go p e below En (T.setTop (mkF m pc' Ls st))) : Go p e below En (T.setTop (mkF m pc Ls (.int x :: st))) := by
  by_cases q : x < 0
  · exact go_ifc X hx hd (fun r => absurd r (by rw [(tlt q).2.1]; decide)) (fun _ => kF q)
  · exact go_ifc X hx hd (fun _ => kT q) (fun r => absurd r (by rw [(flt q).2.1]; decide))
theorem go_icmp_gt (X : Stand p l e R s m args below meth c T locs cells slots) (hx : p.tables.exec = Jvm.exec) {x y : Int32} {o : Int} (hd : DecB c.code pc (.if_icmp .gt o) o pc' pt) (kT : y < x → Go p e below En (T.setTop (mkF m pt Ls st))) (kF : ¬ y < x → Go p e below En (T.setTop (mkF m pc' Ls st))) : Go p e below En (T.setTop (mkF m pc Ls (.int y :: .int x :: st))) := by
  by_cases q : y < x
  · exact go_icmp X hx hd (fun _ => kT q) (fun r => absurd r (by rw [(tlt q).2.2.1]; decide))
  · exact go_icmp X hx hd (fun r => absurd r (by rw [(flt q).2.2.1]; decide)) (fun _ => kF q)
theorem go_ifc_gt (X : Stand p l e R s m args below meth c T locs cells slots) (hx : p.tables.exec = Jvm.exec) {x : Int32} {o : Int} (hd : DecB c.code pc (.ifCond .gt o) o pc' pt) (kT : 0 < x → Go p e below En (T.setTop (mkF m pt Ls st))) (kF : ¬ 0 < x → Go p e below En (T.setTop (mkF m pc' Ls st))) : Go p e below En (T.setTop (mkF m pc Ls (.int x :: st))) := by
  by_cases q : 0 < x
  · exact go_ifc X hx hd (fun _ => kT q) (fun r => absurd r (by rw [(tlt q).2.2.1]; decide))
  · exact go_ifc X hx hd (fun r => absurd r (by rw [(flt q).2.2.1]; decide)) (fun _ => kF q)
theorem go_icmp_le (X : Stand p l e R s m args below meth c T locs cells slots) (hx : p.tables.exec = Jvm.exec) {x y : Int32} {o : Int} (hd : DecB c.code pc (.if_icmp .le o) o pc' pt) (kT : ¬ y < x → Go p e below En (T.setTop (mkF m pt Ls st))) (kF : y < x → Go p e below En (T.setTop (mkF m pc' Ls st))) : Go p e below En (T.setTop (mkF m pc Ls (.int y :: .int x :: st))) := by
  by_cases q : y < x
  · exact go_icmp X hx hd (fun r => absurd r (by rw [(tlt q).2.2.2]; decide)) (fun _ => kF q)
  · exact go_icmp X hx hd (fun _ => kT q) (fun r => absurd r (by rw [(flt q).2.2.2]; decide))
theorem go_ifc_le (X : Stand p l e R s m args below meth c T locs cells slots) (hx : p.tables.exec = Jvm.exec) {x : Int32} {o : Int} (hd : DecB c.code pc (.ifCond .le o) o pc' pt) (kT : ¬ 0 < x → Go p e below En (T.setTop (mkF m pt Ls st))) (kF : 0 < x → Go p e below En (T.setTop (mkF m pc' Ls st))) : Go p e below En (T.setTop (mkF m pc Ls (.int x :: st))) := by
  by_cases q : 0 < x
  · exact go_ifc X hx hd (fun r => absurd r (by rw [(tlt q).2.2.2]; decide)) (fun _ => kF q)
  · exact go_ifc X hx hd (fun _ => kT q) (fun r => absurd r (by rw [(flt q).2.2.2]; decide))
theorem go_ifnullY (X : Stand p l e R s m args below meth c T locs cells slots) (hx : p.tables.exec = Jvm.exec) {o : Int} (hd : DecB c.code pc (.ifnull o) o pc' pt) (k : Go p e below En (T.setTop (mkF m pt Ls st))) : Go p e below En (T.setTop (mkF m pc Ls (.null :: st))) := own_via (fun t => XS.ifnullYes X.here hx rfl rfl hd.1 rfl hd.2.2.1 hd.2.2.2) k
theorem go_ifnullN (X : Stand p l e R s m args below meth c T locs cells slots) (hx : p.tables.exec = Jvm.exec) {o : Int} {a : Addr} (hd : DecB c.code pc (.ifnull o) o pc' pt) (k : Go p e below En (T.setTop (mkF m pc' Ls st))) : Go p e below En (T.setTop (mkF m pc Ls (.ref a :: st))) := by
  obtain ⟨h1, rfl, h3, h4⟩ := hd
  exact own_via (fun t => XS.ifnullNo X.here hx rfl h1 rfl) k
theorem go_ifnonnullY (X : Stand p l e R s m args below meth c T locs cells slots) (hx : p.tables.exec = Jvm.exec) {o : Int} {a : Addr} (hd : DecB c.code pc (.ifnonnull o) o pc' pt) (k : Go p e below En (T.setTop (mkF m pt Ls st))) : Go p e below En (T.setTop (mkF m pc Ls (.ref a :: st))) := own_via (fun t => XT.ifnonnullYes X.here hx rfl rfl hd.1 rfl hd.2.2.1 hd.2.2.2) k
theorem go_ifnonnullN (X : Stand p l e R s m args below meth c T locs cells slots) (hx : p.tables.exec = Jvm.exec) {o : Int} (hd : DecB c.code pc (.ifnonnull o) o pc' pt) (k : Go p e below En (T.setTop (mkF m pc' Ls st))) : Go p e below En (T.setTop (mkF m pc Ls (.null :: st))) := by
  obtain ⟨h1, rfl, h3, h4⟩ := hd
  exact own_via (fun t => XT.ifnonnullNo X.here hx rfl h1 rfl) k
theorem go_acmp_eq (X : Stand p l e R s m args below meth c T locs cells slots) (hx : p.tables.exec = Jvm.exec) {x y : Value} (hx' : x.isRef = true) (hy' : y.isRef = true) {o : Int} (hd : DecB c.code pc (.if_acmp .eq o) o pc' pt) (kT : x = y → Go p e below En (T.setTop (mkF m pt Ls st))) (kF : ¬ x = y → Go p e below En (T.setTop (mkF m pc' Ls st))) : Go p e below En (T.setTop (mkF m pc Ls (y :: x :: st))) := by
  obtain ⟨h1, rfl, h3, h4⟩ := hd
  by_cases q : x = y
  · exact own_via (fun t => XT.acmpYes X.here hx rfl rfl h1 rfl hx' hy' (by simp [XT.acmp, q]) h3 h4) (kT q)
  · exact own_via (fun t => XT.acmpNo X.here hx rfl h1 rfl hx' hy' (by simp [XT.acmp, q])) (kF q)
theorem go_acmp_ne (X : Stand p l e R s m args below meth c T locs cells slots) (hx : p.tables.exec = Jvm.exec) {x y : Value} (hx' : x.isRef = true) (hy' : y.isRef = true) {o : Int} (hd : DecB c.code pc (.if_acmp .ne o) o pc' pt) (kT : ¬ x = y → Go p e below En (T.setTop (mkF m pt Ls st))) (kF : x = y → Go p e below En (T.setTop (mkF m pc' Ls st))) : Go p e below En (T.setTop (mkF m pc Ls (y :: x :: st))) := by
  obtain ⟨h1, rfl, h3, h4⟩ := hd
  by_cases q : x = y
  · exact own_via (fun t => XT.acmpNo X.here hx rfl h1 rfl hx' hy' (by simp [XT.acmp, q])) (kF q)
  · exact own_via (fun t => XT.acmpYes X.here hx rfl rfl h1 rfl hx' hy' (by simp [XT.acmp, q]) h3 h4) (kT q)
theorem go_retN (X : Stand p l e R s m args below meth c T locs cells slots) (hx : p.tables.exec = Jvm.exec) {z : Int32} {t : FieldType} (hret : meth.sig.returnType = some t) (ht : t = .boolean ∨ t = .byte ∨ t = .char ∨ t = .short) (hd : Dec c.code pc .ireturn 1 pc') (hk : meth.locks = false) (hc : cells ≤ rc) (hs : slots ≤ rs) (hQ : Q (some (.int (nar t z))) T.heap locs) : Go p e below (EndN s Q rc rs) (T.setTop (mkF m pc Ls (.int z :: st))) := by
  obtain ⟨fs, hr, hrun, hended, hW, hsame⟩ := X.leave (v := (some (.int (nar t z)))) (fun q => by first | rfl | (rw [hret] at q; cases q)) hk
  exact ⟨_, _, retN X hx hret ht hd.1 hr, hrun, hended, _, _, rfl, hQ, ⟨_, rfl⟩, hW, hsame.mono hc hs⟩
theorem go_retI (X : Stand p l e R s m args below meth c T locs cells slots) (hx : p.tables.exec = Jvm.exec) {z : Int32} (hret : meth.sig.returnType = some .int) (hd : Dec c.code pc .ireturn 1 pc') (hk : meth.locks = false) (hc : cells ≤ rc) (hs : slots ≤ rs) (hQ : Q (some (.int z)) T.heap locs) : Go p e below (EndN s Q rc rs) (T.setTop (mkF m pc Ls (.int z :: st))) := by
  obtain ⟨fs, hr, hrun, hended, hW, hsame⟩ := X.leave (v := (some (.int z))) (fun q => by first | rfl | (rw [hret] at q; cases q)) hk
  exact ⟨_, _, retOut X hx hret rfl (Or.inl ⟨rfl, Or.inl rfl, _, rfl⟩) hd.1 hr, hrun, hended, _, _, rfl, hQ, ⟨_, rfl⟩, hW, hsame.mono hc hs⟩
theorem go_retJ (X : Stand p l e R s m args below meth c T locs cells slots) (hx : p.tables.exec = Jvm.exec) {z : Int64} (hret : meth.sig.returnType = some .long) (hd : Dec c.code pc .lreturn 1 pc') (hk : meth.locks = false) (hc : cells ≤ rc) (hs : slots ≤ rs) (hQ : Q (some (.long z)) T.heap locs) : Go p e below (EndN s Q rc rs) (T.setTop (mkF m pc Ls (.long z :: st))) := by
  obtain ⟨fs, hr, hrun, hended, hW, hsame⟩ := X.leave (v := (some (.long z))) (fun q => by first | rfl | (rw [hret] at q; cases q)) hk
  exact ⟨_, _, retOut X hx hret rfl (Or.inr (Or.inl ⟨rfl, rfl, _, rfl⟩)) hd.1 hr, hrun, hended, _, _, rfl, hQ, ⟨_, rfl⟩, hW, hsame.mono hc hs⟩
theorem go_retA (X : Stand p l e R s m args below meth c T locs cells slots) (hx : p.tables.exec = Jvm.exec) {v : Value} {t : FieldType} (hret : meth.sig.returnType = some t) (ht : t.isReference = true) (hv : v.isRef = true) (hd : Dec c.code pc .areturn 1 pc') (hk : meth.locks = false) (hc : cells ≤ rc) (hs : slots ≤ rs) (hQ : Q (some v) T.heap locs) : Go p e below (EndN s Q rc rs) (T.setTop (mkF m pc Ls (v :: st))) := by
  obtain ⟨fs, hr, hrun, hended, hW, hsame⟩ := X.leave (v := (some v)) (fun q => by first | rfl | (rw [hret] at q; cases q)) hk
  exact ⟨_, _, retOut X hx hret (by cases t <;> first | rfl | cases ht) (Or.inr (Or.inr (Or.inr (Or.inr ⟨rfl, ht, hv⟩)))) hd.1 hr, hrun, hended, _, _, rfl, hQ, ⟨_, rfl⟩, hW, hsame.mono hc hs⟩
theorem go_retV (X : Stand p l e R s m args below meth c T locs cells slots) (hx : p.tables.exec = Jvm.exec)  (hret : meth.sig.returnType = none) (hd : Dec c.code pc .return_ 1 pc') (hk : meth.locks = false) (hc : cells ≤ rc) (hs : slots ≤ rs) (hQ : Q none T.heap locs) : Go p e below (EndN s Q rc rs) (T.setTop (mkF m pc Ls [])) := by
  obtain ⟨fs, hr, hrun, hended, hW, hsame⟩ := X.leave (v := none) (fun q => by first | rfl | (rw [hret] at q; cases q)) hk
  exact ⟨_, _, X.returnOut hx hret hd.1 hr, hrun, hended, _, _, rfl, hQ, ⟨_, rfl⟩, hW, hsame.mono hc hs⟩
theorem go_getF (X : Stand p l e R s m args below meth c T locs cells slots) (hx : p.tables.exec = Jvm.exec) (hZ : Z.Warmed39 s.vm) {own R0 O n d host : String} {index : Nat} (hown : s.vm.findClass own = some m.cls) (w : (Jvm.Cond.fieldLink own index R0 n d).before a0 Z = true ∨ (Jvm.Cond.fieldLinkNest own index R0 n d host).before a0 Z = true) (via : Via Z R0 O n d) (eT : T.heap = h) {a : Addr} {v : Value} (F : Fld Z h a O n d v) (hd : Dec c.code pc (.getfield index) 3 pc') (k : ∀ T', Stand p l e R s m args below meth c T' locs cells slots → T'.heap = h → Go p e below En (T'.setTop (mkF m pc' Ls (v :: st)))) : Go p e below En (T.setTop (mkF m pc Ls (.ref a :: st))) := by
  obtain ⟨hd, rfl⟩ := hd
  obtain ⟨T', X', e', q⟩ := getF X hx hZ hown w via eT F (g := mkF m pc Ls (.ref a :: st)) rfl rfl hd
  exact own_via q (k T' X' e')
theorem go_putF (X : Stand p l e R s m args below meth c T locs cells slots) (hx : p.tables.exec = Jvm.exec) (hZ : Z.Warmed39 s.vm) {own R0 O n d host C : String} {index kk : Nat} {ty : FieldType} (hown : s.vm.findClass own = some m.cls) (w : (Jvm.Cond.fieldLink own index R0 n d).before a0 Z = true ∨ (Jvm.Cond.fieldLinkNest own index R0 n d host).before a0 Z = true) (via : Via Z R0 O n d) (eT : T.heap = h) {a : Addr} {v old : Value} (F : Fld Z h a O n d old) (E : Exa Z h a C) (L : (Jvm.Cond.lays C O n d).before a0 Z = true ∨ ((Jvm.Cond.laysFinal C O n d).before a0 Z = true ∧ own = O ∧ meth.name = "<init>")) (wi : (Jvm.Cond.instantiable C kk).before a0 Z = true) (hty : parseFieldDescriptor d = some ty) (hn : narrow ty v = v) (hf : fits ty v = true) (hd : Dec c.code pc (.putfield index) 3 pc') (k : ∀ T' h', Stand p l e R s m args below meth c T' (locs ++ [⟨a, Jvm.RoadKit.slotOf Z O n d⟩]) cells slots → T'.heap = h' → Wr h h' a (Jvm.RoadKit.slotOf Z O n d) v → Go p e below En (T'.setTop (mkF m pc' Ls st))) : Go p e below En (T.setTop (mkF m pc Ls (v :: .ref a :: st))) := by
  obtain ⟨hd, rfl⟩ := hd
  obtain ⟨T', h', X', e', W, q⟩ := putF X hx hZ hown w via eT F E L wi hty hn hf (g := mkF m pc Ls (v :: .ref a :: st)) rfl rfl hd
  exact own_via q (k T' h' X' e' W)
theorem go_getS (X : Stand p l e R s m args below meth c T locs cells slots) (hx : p.tables.exec = Jvm.exec) (hZ : Z.Warmed39 s.vm) {own R0 O n d host : String} {index : Nat} (hown : s.vm.findClass own = some m.cls) (w : (Jvm.Cond.fieldLink own index R0 n d).before a0 Z = true) (via : Via Z R0 O n d) (eT : T.heap = h) {v : Value} (F : Sta Z h O n d v) (hd : Dec c.code pc (.getstatic index) 3 pc') (k : ∀ T', Stand p l e R s m args below meth c T' locs cells slots → T'.heap = h → Go p e below En (T'.setTop (mkF m pc' Ls (v :: st)))) : Go p e below En (T.setTop (mkF m pc Ls st)) := by
  obtain ⟨hd, rfl⟩ := hd
  obtain ⟨T', X', e', q⟩ := getS (host := "") X hx hZ hown w via eT F (g := mkF m pc Ls st) rfl hd
  exact own_via q (k T' X' e')
theorem go_newO (X : Stand p l e R s m args below meth c T locs cells slots) (hx : p.tables.exec = Jvm.exec) (hZ : Z.Warmed39 s.vm) {own C : String} {index n : Nat} (hown : s.vm.findClass own = some m.cls) (w : (Jvm.Cond.classLink own index C).before a0 Z = true) (wi : (Jvm.Cond.instantiable C n).before a0 Z = true) (wz : (Jvm.Cond.initialized C).before a0 Z = true) (eT : T.heap = h) (hd : Dec c.code pc (.new index) 3 pc') (hc : cells + 1 ≤ R.cells) (hl : slots + n ≤ R.slots) (k : ∀ T' h' (a : Addr), a = h.size → Stand p l e R s m args below meth c T' locs (cells + 1) (slots + n) → T'.heap = h' → Ext h h' → Exa Z h' a C → (∀ {O nm d : String} {ty : FieldType}, Laid Z a0 C O nm d → parseFieldDescriptor d = some ty → Fld Z h' a O nm d (defaultValue ty)) → Go p e below En (T'.setTop (mkF m pc' Ls (.ref a :: st)))) : Go p e below En (T.setTop (mkF m pc Ls st)) := by
  obtain ⟨hd, rfl⟩ := hd
  obtain ⟨T', h', X', e', E, A, D, -, q⟩ := newO X hx hZ hown w wi wz eT (g := mkF m pc Ls st) rfl hd hc hl
  exact own_via q (k T' h' _ rfl X' e' E A D)
theorem go_newP (X : Stand p l e R s m args below meth c T locs cells slots) (hx : p.tables.exec = Jvm.exec) (hZ : Z.Warmed39 s.vm) {aty : ArrayType} (w : (Jvm.Cond.arrayClass (newarray.typeOf aty)).before a0 Z = true) (eT : T.heap = h) (hd : Dec c.code pc (.newarray aty) 2 pc') {n : Int32} (hn : ¬ n < 0) (cap : Nat) (hcap : n.toNatClampNeg ≤ cap) (hb : cap * 8 ≤ 536870912) (hc : cells + 1 ≤ R.cells) (hl : slots + cap ≤ R.slots) (k : ∀ T' h' cA (a : Addr), a = h.size → Stand p l e R s m args below meth c T' locs (cells + 1) (slots + cap) → T'.heap = h' → Ext h h' → Arr Z h' a (newA cA (newarray.typeOf aty) n) (newarray.typeOf aty) → Go p e below En (T'.setTop (mkF m pc' Ls (.ref a :: st)))) : Go p e below En (T.setTop (mkF m pc Ls (.int n :: st))) := by
  obtain ⟨hd, rfl⟩ := hd
  obtain ⟨T', h', cA, X', e', E, A, q⟩ := newP X hx hZ w eT (g := mkF m pc Ls (.int n :: st)) rfl hd rfl hn hcap hb hc hl
  exact own_via q (k T' h' cA _ rfl X' e' E A)
def Ct (l : Launch) (Z : State) (y : MethodName) (bytes : ByteArray) (maxL : Nat) (ret : Option FieldType) (ws : List Jvm.Cond) (rm : Room) (as' : Array Value) (h0 : Heap) (Q : Option Value → Heap → List Loc → Prop) : Prop := MetFree l y (head1 (Jvm.Cond.code y bytes maxL ret :: ws) rm) (fun a U => a = as' ∧ Z.Warmed39 U.vm ∧ U.heap = h0) (fun _ _ _ _ _ => True) (fun _ U o U' => ∃ v L, o = .returned v ∧ Q v U'.heap L ∧ FrameEnd U o U' L rm.cells rm.slots)
theorem Ct.of {y : MethodName} {bytes : ByteArray} {maxL : Nat} {ret : Option FieldType} {ws : List Jvm.Cond} {rm : Room} {as' : Array Value} {h0 : Heap} (pn : plainName y.cls = true) (F0 : Array Slot) (ef : ∀ m, entryFrame m as' maxL = mkF m 0 F0 []) (body : ∀ (p : Program) (e : Env) (s : State) (m : MethodId) (below : List Frame) (meth : Method) (c : Code) (T : State), p.tables.exec = Jvm.exec → c.code = bytes → c.maxLocals = maxL → Z.Warmed39 s.vm → s.vm.findClass y.cls = some m.cls → meth.name = y.name → meth.sig.returnType = ret → meth.locks = false → T.heap = h0 → Stand p l e rm s m as' below meth c T [] 0 0 → Go p e below (EndN s Q rm.cells rm.slots) (T.setTop (mkF m 0 F0 []))) : Ct l Z y bytes maxL ret ws rm as' h0 Q := by
  refine MetFree.of_bodySF (plainFor_of_name pn) hisR ?_
  intro p e s m args below meth c s₁ Bd hml0 hP hK
  obtain ⟨rfl, hZ, hh⟩ := hP
  have G := body p e s m below meth c s₁ Bd.exec Bd.bytes hml0 hZ (findClass_of_methodNamed Bd.named) (name_of_methodNamed Bd.named Bd.method).1 Bd.returns Bd.notSynchronized (by rw [← hh, Bd.state]; rfl) (Stand.of_body Bd)
  rw [← ef m] at G
  exact G
theorem go_static (X : Stand p l e R s m args below meth c T locs cells slots) (hx : p.tables.exec = Jvm.exec) (hZ : Z.Warmed39 s.vm) {own : String} {index : Nat} {y : MethodName} {bytes : ByteArray} {maxL : Nat} {ret : Option FieldType} (hown : s.vm.findClass own = some m.cls) (w1 : (Jvm.Cond.methodLink own index y).before a0 Z = true) (w2 : (Jvm.Cond.static y).before a0 Z = true) (w3 : (Jvm.Cond.initialized y.cls).before a0 Z = true) (w4 : (Jvm.Cond.code y bytes maxL ret).before a0 Z = true) (hy : y.cls ≠ "java/lang/invoke/MethodHandle" ∧ y.cls ≠ "java/lang/invoke/VarHandle") (eT : T.heap = h) {rm : Room} (argsL rest : List Value) {Qc : Option Value → Heap → List Loc → Prop} (hC : Ct l Z y bytes maxL ret [] rm argsL.toArray h Qc) {ps : List FieldType} {rt : Option FieldType} (pd : parseMethodDescriptor y.desc = some ⟨ps, rt⟩) (hl : argsL.length = ps.length) (hsize : Ls.size = c.maxLocals) {stk : List Value} (hstk : stk = argsL.reverse ++ rest) (W : Nat) (hW : (rest.map fun v => v.category).sum ≤ W) (hf : rm.frames + 1 ≤ R.frames) (hlo : W + (maxL + 11) + rm.locals ≤ R.locals) (hce : cells + rm.cells ≤ R.cells) (hsl : slots + rm.slots ≤ R.slots) (hd : Dec c.code pc (.invokestatic index) 3 pc') (k : ∀ T' v L, Stand p l e R s m args below meth c T' (locs ++ L) (cells + rm.cells) (slots + rm.slots) → Qc v T'.heap L → Go p e below En (T'.setTop (mkF m pc' Ls (v.toList ++ rest)))) : Go p e below En (T.setTop (mkF m pc Ls stk)) := by
  obtain ⟨hd, rfl⟩ := hd
  obtain ⟨v, _, ⟨T', L', k', n'⟩, -, X', ⟨L, hQ, l1, y1, z1⟩, q⟩ := Jvm.LawKit.callS X hx hown (mvT hZ w1) (mvT hZ w2) (mvT hZ w3) (mvT hZ w4) hy (backOf (W := W) hC hZ w4 w3 hf hlo) (g := mkF m pc Ls stk) rfl hsize (argsL := argsL) (rest := rest) (lenOf pd hl) hstk (by show 2 * 0 + _ ≤ _; omega) hd (fun _ _ => ⟨rfl, eT, hce, hsl⟩)
  dsimp only [Pt.U, Pt.locs, Pt.cells, Pt.slots] at X' l1 y1 z1 q hQ
  subst l1 y1 z1
  exact own_via q (k T' v L X' hQ)
theorem go_special (X : Stand p l e R s m args below meth c T locs cells slots) (hx : p.tables.exec = Jvm.exec) (hZ : Z.Warmed39 s.vm) {own : String} {index : Nat} {y : MethodName} (hn : y.name = "<init>") {bytes : ByteArray} {maxL : Nat} (hown : s.vm.findClass own = some m.cls) (w1 : (Jvm.Cond.methodLink own index y).before a0 Z = true) (w2 : (Jvm.Cond.instanceMethod y).before a0 Z = true) (w3 : (Jvm.Cond.initialized y.cls).before a0 Z = true) (w4 : (Jvm.Cond.code y bytes maxL none).before a0 Z = true) (hy : y.cls ≠ "java/lang/invoke/MethodHandle" ∧ y.cls ≠ "java/lang/invoke/VarHandle") (eT : T.heap = h) {rm : Room} {a : Addr} (argsL rest : List Value) {Qc : Option Value → Heap → List Loc → Prop} (hC : Ct l Z y bytes maxL none [] rm (.ref a :: argsL).toArray h Qc) {ps : List FieldType} {rt : Option FieldType} (pd : parseMethodDescriptor y.desc = some ⟨ps, rt⟩) (hl : argsL.length = ps.length) (hsize : Ls.size = c.maxLocals) {stk : List Value} (hstk : stk = argsL.reverse ++ .ref a :: rest) (W : Nat) (hW : (rest.map fun v => v.category).sum ≤ W) (hf : rm.frames + 1 ≤ R.frames) (hlo : W + (maxL + 11) + rm.locals ≤ R.locals) (hce : cells + rm.cells ≤ R.cells) (hsl : slots + rm.slots ≤ R.slots) (hd : Dec c.code pc (.invokespecial index) 3 pc') (k : ∀ T' v L, Stand p l e R s m args below meth c T' (locs ++ L) (cells + rm.cells) (slots + rm.slots) → Qc v T'.heap L → Go p e below En (T'.setTop (mkF m pc' Ls (v.toList ++ rest)))) : Go p e below En (T.setTop (mkF m pc Ls stk)) := by
  obtain ⟨hd, rfl⟩ := hd
  obtain ⟨v, _, ⟨T', L', k', n'⟩, -, X', ⟨L, hQ, l1, y1, z1⟩, q⟩ := X.specialBack hx hn hown (mvT hZ w1) (mvT hZ w2) (mvT hZ w4) hy (backOf (W := W) hC hZ w4 w3 hf hlo) (g := mkF m pc Ls stk) rfl hsize (Steps.refl _) (a := a) (argsL := argsL) (rest := rest) (lenOf pd hl) hstk (by show 2 * 0 + _ ≤ _; omega) hd (fun _ _ => ⟨rfl, eT, hce, hsl⟩)
  dsimp only [Pt.U, Pt.locs, Pt.cells, Pt.slots] at X' l1 y1 z1 q hQ
  subst l1 y1 z1
  exact own_via (fun _ => q.trans) (k T' v L X' hQ)
theorem go_virtual (X : Stand p l e R s m args below meth c T locs cells slots) (hx : p.tables.exec = Jvm.exec) (hZ : Z.Warmed39 s.vm) {own C : String} {index : Nat} {y : MethodName} {bytes : ByteArray} {maxL : Nat} {ret : Option FieldType} (hown : s.vm.findClass own = some m.cls) (w1 : (Jvm.Cond.methodLink own index y).before a0 Z = true) (w2 : (Jvm.Cond.declares y).before a0 Z = true) (w5 : (Jvm.Cond.selects C y y).before a0 Z = true) (w6 : (Jvm.Cond.instanceMethod y).before a0 Z = true) (w3 : (Jvm.Cond.initialized y.cls).before a0 Z = true) (w4 : (Jvm.Cond.code y bytes maxL ret).before a0 Z = true) (hy : y.cls ≠ "java/lang/invoke/MethodHandle" ∧ y.cls ≠ "java/lang/invoke/VarHandle") (eT : T.heap = h) {rm : Room} {a : Addr} (E : Exa Z h a C) (argsL rest : List Value) {Qc : Option Value → Heap → List Loc → Prop} (hC : Ct l Z y bytes maxL ret [] rm (.ref a :: argsL).toArray h Qc) {ps : List FieldType} {rt : Option FieldType} (pd : parseMethodDescriptor y.desc = some ⟨ps, rt⟩) (hl : argsL.length = ps.length) (hsize : Ls.size = c.maxLocals) {stk : List Value} (hstk : stk = argsL.reverse ++ .ref a :: rest) (W : Nat) (hW : (rest.map fun v => v.category).sum ≤ W) (hf : rm.frames + 1 ≤ R.frames) (hlo : W + (maxL + 11) + rm.locals ≤ R.locals) (hce : cells + rm.cells ≤ R.cells) (hsl : slots + rm.slots ≤ R.slots) (hd : Dec c.code pc (.invokevirtual index) 3 pc') (k : ∀ T' v L, Stand p l e R s m args below meth c T' (locs ++ L) (cells + rm.cells) (slots + rm.slots) → Qc v T'.heap L → Go p e below En (T'.setTop (mkF m pc' Ls (v.toList ++ rest)))) : Go p e below En (T.setTop (mkF m pc Ls stk)) := by
  obtain ⟨hd, rfl⟩ := hd
  obtain ⟨cq, kq, qa, qb, qc⟩ := isOf hZ eT E
  obtain ⟨v, _, ⟨T', L', k', n'⟩, -, X', ⟨L, hQ, l1, y1, z1⟩, q⟩ := X.virtualBack hx hown (mvT hZ w1) (mvT hZ w2) (notFace_of_selects (args := #[]) (mvT hZ w5)) (mvT hZ w5) (mvT hZ w6) hy (backOf (W := W) hC hZ w4 w3 hf hlo) qa qc (g := mkF m pc Ls stk) rfl hsize (Steps.refl _) (argsL := argsL) (rest := rest) (lenOf pd hl) hstk (by show 2 * 0 + _ ≤ _; omega) hd (fun _ _ => ⟨rfl, eT, hce, hsl⟩)
  dsimp only [Pt.U, Pt.locs, Pt.cells, Pt.slots] at X' l1 y1 z1 q hQ
  subst l1 y1 z1
  exact own_via (fun _ => q.trans) (k T' v L X' hQ)
abbrev QP (r : Value) (h0 : Heap) : Option Value → Heap → List Loc → Prop := fun v h L => v = some r ∧ h = h0 ∧ L = []
theorem go_staticP (X : Stand p l e R s m args below meth c T locs cells slots) (hx : p.tables.exec = Jvm.exec) (hZ : Z.Warmed39 s.vm) {own : String} {index : Nat} {y : MethodName} {bytes : ByteArray} {maxL : Nat} {ret : Option FieldType} (hown : s.vm.findClass own = some m.cls) (w1 : (Jvm.Cond.methodLink own index y).before a0 Z = true) (w2 : (Jvm.Cond.static y).before a0 Z = true) (w3 : (Jvm.Cond.initialized y.cls).before a0 Z = true) (w4 : (Jvm.Cond.code y bytes maxL ret).before a0 Z = true) (hy : y.cls ≠ "java/lang/invoke/MethodHandle" ∧ y.cls ≠ "java/lang/invoke/VarHandle") (eT : T.heap = h) {rm : Room} (argsL rest : List Value) {r : Value} (hC : Ct l Z y bytes maxL ret [] rm argsL.toArray h (QP r h)) {ps : List FieldType} {rt : Option FieldType} (pd : parseMethodDescriptor y.desc = some ⟨ps, rt⟩) (hl : argsL.length = ps.length) (hsize : Ls.size = c.maxLocals) {stk : List Value} (hstk : stk = argsL.reverse ++ rest) (W : Nat) (hW : (rest.map fun v => v.category).sum ≤ W) (hf : rm.frames + 1 ≤ R.frames) (hlo : W + (maxL + 11) + rm.locals ≤ R.locals) (hce : rm.cells = 0) (hsl : rm.slots = 0) (hrc : cells ≤ R.cells) (hrs : slots ≤ R.slots) (hd : Dec c.code pc (.invokestatic index) 3 pc') (k : ∀ T', Stand p l e R s m args below meth c T' locs cells slots → T'.heap = h → Go p e below En (T'.setTop (mkF m pc' Ls (r :: rest)))) : Go p e below En (T.setTop (mkF m pc Ls stk)) :=
  go_static X hx hZ hown w1 w2 w3 w4 hy eT argsL rest hC pd hl hsize hstk W hW hf hlo (by rw [hce]; exact hrc) (by rw [hsl]; exact hrs) hd (fun T' v L X' hQ => by
    obtain ⟨rfl, e', rfl⟩ := hQ
    rw [hce, hsl, List.append_nil, Nat.add_zero, Nat.add_zero] at X'
    exact k T' X' e')
theorem go_virtualP (X : Stand p l e R s m args below meth c T locs cells slots) (hx : p.tables.exec = Jvm.exec) (hZ : Z.Warmed39 s.vm) {own C : String} {index : Nat} {y : MethodName} {bytes : ByteArray} {maxL : Nat} {ret : Option FieldType} (hown : s.vm.findClass own = some m.cls) (w1 : (Jvm.Cond.methodLink own index y).before a0 Z = true) (w2 : (Jvm.Cond.declares y).before a0 Z = true) (w5 : (Jvm.Cond.selects C y y).before a0 Z = true) (w6 : (Jvm.Cond.instanceMethod y).before a0 Z = true) (w3 : (Jvm.Cond.initialized y.cls).before a0 Z = true) (w4 : (Jvm.Cond.code y bytes maxL ret).before a0 Z = true) (hy : y.cls ≠ "java/lang/invoke/MethodHandle" ∧ y.cls ≠ "java/lang/invoke/VarHandle") (eT : T.heap = h) {rm : Room} {a : Addr} (E : Exa Z h a C) (argsL rest : List Value) {r : Value} (hC : Ct l Z y bytes maxL ret [] rm (.ref a :: argsL).toArray h (QP r h)) {ps : List FieldType} {rt : Option FieldType} (pd : parseMethodDescriptor y.desc = some ⟨ps, rt⟩) (hl : argsL.length = ps.length) (hsize : Ls.size = c.maxLocals) {stk : List Value} (hstk : stk = argsL.reverse ++ .ref a :: rest) (W : Nat) (hW : (rest.map fun v => v.category).sum ≤ W) (hf : rm.frames + 1 ≤ R.frames) (hlo : W + (maxL + 11) + rm.locals ≤ R.locals) (hce : rm.cells = 0) (hsl : rm.slots = 0) (hrc : cells ≤ R.cells) (hrs : slots ≤ R.slots) (hd : Dec c.code pc (.invokevirtual index) 3 pc') (k : ∀ T', Stand p l e R s m args below meth c T' locs cells slots → T'.heap = h → Go p e below En (T'.setTop (mkF m pc' Ls (r :: rest)))) : Go p e below En (T.setTop (mkF m pc Ls stk)) :=
  go_virtual X hx hZ hown w1 w2 w5 w6 w3 w4 hy eT E argsL rest hC pd hl hsize hstk W hW hf hlo (by rw [hce]; exact hrc) (by rw [hsl]; exact hrs) hd (fun T' v L X' hQ => by
    obtain ⟨rfl, e', rfl⟩ := hQ
    rw [hce, hsl, List.append_nil, Nat.add_zero, Nat.add_zero] at X'
    exact k T' X' e')
theorem own_lsw {tb : Tables} [Ours tb] {target : State} {g : JFrame} (q : At T m c below) (hx : tb.exec = Jvm.exec) (hg : g.method = m) {dflt : Int} {ps : Array (Int × Int)} {len : Nat} {o : Int} {pc0 : Nat} (hpc : g.pc = pc0) (hd : decode c.code g.pc = .ok (.lookupswitch dflt ps, len)) {i : Int32} {rest : List Value} (hs : g.stack = .int i :: rest)
    (hsort : (ps.toList.zip (ps.toList.drop 1)).all (fun (a, next) => a.1 < next.1) = true) (hoff : lookupswitch.offset ps.toList dflt i.toInt = o) (ho : 0 ≤ (pc0 : Int) + o) (hp : ((pc0 : Int) + o).toNat = pc')
    (hr : Steps tb e below (T.setTop { g with pc := pc', stack := rest }) target) : Steps tb e below (T.setTop g) target := by
  subst hg hpc hp hoff
  jvm_step q [q.top, hx, hd, hs, ho, lookupswitch.wp_chain]
  exact ⟨by simpa using hsort, hr⟩
theorem go_lsw (X : Stand p l e R s m args below meth c T locs cells slots) (hx : p.tables.exec = Jvm.exec) {dflt : Int} {ps : Array (Int × Int)} {len : Nat} {x : Int32} {o : Int} (hd : decode c.code pc = .ok (.lookupswitch dflt ps, len)) (hsort : (ps.toList.zip (ps.toList.drop 1)).all (fun (a, next) => a.1 < next.1) = true) (hoff : lookupswitch.offset ps.toList dflt x.toInt = o) (ho : 0 ≤ (pc : Int) + o) (hp : ((pc : Int) + o).toNat = pt) (k : Go p e below En (T.setTop (mkF m pt Ls st))) : Go p e below En (T.setTop (mkF m pc Ls (.int x :: st))) := own_via (fun t => own_lsw (g := mkF m pc Ls (.int x :: st)) X.here hx rfl rfl hd rfl hsort hoff ho hp) k
theorem go_alen (X : Stand p l e R s m args below meth c T locs cells slots) (hx : p.tables.exec = Jvm.exec) (hZ : Z.Warmed39 s.vm) (eT : T.heap = h) {a : Addr} {cl : Cell} {ty : FieldType} (A : Arr Z h a cl ty) {z : Int32} (S : cl.slots.size = z.toNatClampNeg) (hz : ¬ z < 0) (hd : Dec c.code pc .arraylength 1 pc') (k : Go p e below En (T.setTop (mkF m pc' Ls (.int z :: st)))) : Go p e below En (T.setTop (mkF m pc Ls (.ref a :: st))) := by
  obtain ⟨hd, rfl⟩ := hd
  refine own_via (fun t q => X.arraylength hx (cell := cl) (by rw [eT]; exact A.1) (State.isArrayOf_alike hZ.alike A.2.1) (g := mkF m pc Ls (.ref a :: st)) rfl (rest := st) rfl hd _ ?_) k
  rw [len_of S hz]
  exact q
theorem go_iaload (X : Stand p l e R s m args below meth c T locs cells slots) (hx : p.tables.exec = Jvm.exec) (hZ : Z.Warmed39 s.vm) (eT : T.heap = h) {a : Addr} {cl : Cell} (A : Arr Z h a cl .int) {j : Int32} {w : Int32} (hj : ¬ (j < 0 ∨ cl.slots.size ≤ j.toNatClampNeg)) (hv : cl.slots[j.toNatClampNeg]? = some (.int w)) (hd : Dec c.code pc .iaload 1 pc') (k : Go p e below En (T.setTop (mkF m pc' Ls (.int w :: st)))) : Go p e below En (T.setTop (mkF m pc Ls (.int j :: .ref a :: st))) := by
  obtain ⟨hd, rfl⟩ := hd
  exact own_via (fun t q => X.iaload hx (j := j) (v := (.int w)) (by rw [eT]; exact A.1) (State.isArrayOf_alike hZ.alike A.2.1) A.2.2 hj hv (g := mkF m pc Ls (.int j :: .ref a :: st)) rfl rfl hd _ q) k
theorem go_laload (X : Stand p l e R s m args below meth c T locs cells slots) (hx : p.tables.exec = Jvm.exec) (hZ : Z.Warmed39 s.vm) (eT : T.heap = h) {a : Addr} {cl : Cell} (A : Arr Z h a cl .long) {j : Int32} {w : Int64} (hj : ¬ (j < 0 ∨ cl.slots.size ≤ j.toNatClampNeg)) (hv : cl.slots[j.toNatClampNeg]? = some (.long w)) (hd : Dec c.code pc .laload 1 pc') (k : Go p e below En (T.setTop (mkF m pc' Ls (.long w :: st)))) : Go p e below En (T.setTop (mkF m pc Ls (.int j :: .ref a :: st))) := by
  obtain ⟨hd, rfl⟩ := hd
  exact own_via (fun t q => X.laload hx (j := j) (v := (.long w)) (by rw [eT]; exact A.1) (State.isArrayOf_alike hZ.alike A.2.1) A.2.2 hj hv (g := mkF m pc Ls (.int j :: .ref a :: st)) rfl rfl hd _ q) k
theorem go_iastore (X : Stand p l e R s m args below meth c T locs cells slots) (hx : p.tables.exec = Jvm.exec) (hZ : Z.Warmed39 s.vm) (eT : T.heap = h) {a : Addr} {cl : Cell} (A : Arr Z h a cl .int) {j : Int32} {x : Int32} (hj : ¬ (j < 0 ∨ cl.slots.size ≤ j.toNatClampNeg)) (hd : Dec c.code pc .iastore 1 pc') (k : ∀ T' h', Stand p l e R s m args below meth c T' (locs ++ [⟨a, j.toNatClampNeg⟩]) cells slots → T'.heap = h' → Wr h h' a j.toNatClampNeg (.int x) → Go p e below En (T'.setTop (mkF m pc' Ls st))) : Go p e below En (T.setTop (mkF m pc Ls (.int x :: .int j :: .ref a :: st))) := by
  obtain ⟨hd, rfl⟩ := hd
  obtain ⟨T', h', X', e', W, q⟩ := stI X hx hZ eT A hj (g := mkF m pc Ls (.int x :: .int j :: .ref a :: st)) rfl rfl hd
  exact own_via q (k T' h' X' e' W)
theorem go_lastore (X : Stand p l e R s m args below meth c T locs cells slots) (hx : p.tables.exec = Jvm.exec) (hZ : Z.Warmed39 s.vm) (eT : T.heap = h) {a : Addr} {cl : Cell} (A : Arr Z h a cl .long) {j : Int32} {x : Int64} (hj : ¬ (j < 0 ∨ cl.slots.size ≤ j.toNatClampNeg)) (hd : Dec c.code pc .lastore 1 pc') (k : ∀ T' h', Stand p l e R s m args below meth c T' (locs ++ [⟨a, j.toNatClampNeg⟩]) cells slots → T'.heap = h' → Wr h h' a j.toNatClampNeg (.long x) → Go p e below En (T'.setTop (mkF m pc' Ls st))) : Go p e below En (T.setTop (mkF m pc Ls (.long x :: .int j :: .ref a :: st))) := by
  obtain ⟨hd, rfl⟩ := hd
  obtain ⟨T', h', X', e', W, q⟩ := stJ X hx hZ eT A hj (g := mkF m pc Ls (.long x :: .int j :: .ref a :: st)) rfl rfl hd
  exact own_via q (k T' h' X' e' W)
theorem go_castore (X : Stand p l e R s m args below meth c T locs cells slots) (hx : p.tables.exec = Jvm.exec) (hZ : Z.Warmed39 s.vm) (eT : T.heap = h) {a : Addr} {cl : Cell} (A : Arr Z h a cl .char) {j : Int32} {x : Int32} (hj : ¬ (j < 0 ∨ cl.slots.size ≤ j.toNatClampNeg)) (hd : Dec c.code pc .castore 1 pc') (k : ∀ T' h', Stand p l e R s m args below meth c T' (locs ++ [⟨a, j.toNatClampNeg⟩]) cells slots → T'.heap = h' → Wr h h' a j.toNatClampNeg (.int (nar .char x)) → Go p e below En (T'.setTop (mkF m pc' Ls st))) : Go p e below En (T.setTop (mkF m pc Ls (.int x :: .int j :: .ref a :: st))) := by
  obtain ⟨hd, rfl⟩ := hd
  obtain ⟨T', h', X', e', W, q⟩ := stC X hx hZ eT A hj (g := mkF m pc Ls (.int x :: .int j :: .ref a :: st)) rfl rfl hd
  exact own_via q (k T' h' X' e' W)
theorem go_bastore (X : Stand p l e R s m args below meth c T locs cells slots) (hx : p.tables.exec = Jvm.exec) (hZ : Z.Warmed39 s.vm) (eT : T.heap = h) {a : Addr} {cl : Cell} (A : Arr Z h a cl .byte) {j : Int32} {x : Int32} (hj : ¬ (j < 0 ∨ cl.slots.size ≤ j.toNatClampNeg)) (hd : Dec c.code pc .bastore 1 pc') (k : ∀ T' h', Stand p l e R s m args below meth c T' (locs ++ [⟨a, j.toNatClampNeg⟩]) cells slots → T'.heap = h' → Wr h h' a j.toNatClampNeg (.int (nar .byte x)) → Go p e below En (T'.setTop (mkF m pc' Ls st))) : Go p e below En (T.setTop (mkF m pc Ls (.int x :: .int j :: .ref a :: st))) := by
  obtain ⟨hd, rfl⟩ := hd
  obtain ⟨T', h', X', e', W, q⟩ := stB X hx hZ eT A hj (g := mkF m pc Ls (.int x :: .int j :: .ref a :: st)) rfl rfl hd
  exact own_via q (k T' h' X' e' W)
theorem go_zastore (X : Stand p l e R s m args below meth c T locs cells slots) (hx : p.tables.exec = Jvm.exec) (hZ : Z.Warmed39 s.vm) (eT : T.heap = h) {a : Addr} {cl : Cell} (A : Arr Z h a cl .boolean) {j : Int32} {x : Int32} (hj : ¬ (j < 0 ∨ cl.slots.size ≤ j.toNatClampNeg)) (hd : Dec c.code pc .bastore 1 pc') (k : ∀ T' h', Stand p l e R s m args below meth c T' (locs ++ [⟨a, j.toNatClampNeg⟩]) cells slots → T'.heap = h' → Wr h h' a j.toNatClampNeg (.int (nar .boolean x)) → Go p e below En (T'.setTop (mkF m pc' Ls st))) : Go p e below En (T.setTop (mkF m pc Ls (.int x :: .int j :: .ref a :: st))) := by
  obtain ⟨hd, rfl⟩ := hd
  obtain ⟨T', h', X', e', W, q⟩ := stZ X hx hZ eT A hj (g := mkF m pc Ls (.int x :: .int j :: .ref a :: st)) rfl rfl hd
  exact own_via q (k T' h' X' e' W)
abbrev QV (h0 : Heap) : Option Value → Heap → List Loc → Prop := fun v h L => v = none ∧ h = h0 ∧ L = []
theorem go_specialP (X : Stand p l e R s m args below meth c T locs cells slots) (hx : p.tables.exec = Jvm.exec) (hZ : Z.Warmed39 s.vm) {own : String} {index : Nat} {y : MethodName} (hn : y.name = "<init>") {bytes : ByteArray} {maxL : Nat} (hown : s.vm.findClass own = some m.cls) (w1 : (Jvm.Cond.methodLink own index y).before a0 Z = true) (w2 : (Jvm.Cond.instanceMethod y).before a0 Z = true) (w3 : (Jvm.Cond.initialized y.cls).before a0 Z = true) (w4 : (Jvm.Cond.code y bytes maxL none).before a0 Z = true) (hy : y.cls ≠ "java/lang/invoke/MethodHandle" ∧ y.cls ≠ "java/lang/invoke/VarHandle") (eT : T.heap = h) {rm : Room} {a : Addr} (argsL rest : List Value) (hC : Ct l Z y bytes maxL none [] rm (.ref a :: argsL).toArray h (QV h)) {ps : List FieldType} {rt : Option FieldType} (pd : parseMethodDescriptor y.desc = some ⟨ps, rt⟩) (hl : argsL.length = ps.length) (hsize : Ls.size = c.maxLocals) {stk : List Value} (hstk : stk = argsL.reverse ++ .ref a :: rest) (W : Nat) (hW : (rest.map fun v => v.category).sum ≤ W) (hf : rm.frames + 1 ≤ R.frames) (hlo : W + (maxL + 11) + rm.locals ≤ R.locals) (hce : rm.cells = 0) (hsl : rm.slots = 0) (hrc : cells ≤ R.cells) (hrs : slots ≤ R.slots) (hd : Dec c.code pc (.invokespecial index) 3 pc') (k : ∀ T', Stand p l e R s m args below meth c T' locs cells slots → T'.heap = h → Go p e below En (T'.setTop (mkF m pc' Ls rest))) : Go p e below En (T.setTop (mkF m pc Ls stk)) :=
  go_special X hx hZ hn hown w1 w2 w3 w4 hy eT argsL rest hC pd hl hsize hstk W hW hf hlo (by rw [hce]; exact hrc) (by rw [hsl]; exact hrs) hd (fun T' v L X' hQ => by
    obtain ⟨rfl, e', rfl⟩ := hQ
    rw [hce, hsl, List.append_nil, Nat.add_zero, Nat.add_zero] at X'
    exact k T' X' e')
theorem go_virtualUp (X : Stand p l e R s m args below meth c T locs cells slots) (hx : p.tables.exec = Jvm.exec) (hZ : Z.Warmed39 s.vm) {own C owner : String} {index : Nat} {x y : MethodName} {bytes : ByteArray} {maxL : Nat} {ret : Option FieldType} (hown : s.vm.findClass own = some m.cls) (w1 : (Jvm.Cond.methodLink own index x).before a0 Z = true) (w2 : (Jvm.Cond.sameMethod x.cls owner x.name x.desc).before a0 Z = true) (w7 : (Jvm.Cond.declares ⟨owner, x.name, x.desc⟩).before a0 Z = true) (w5 : (Jvm.Cond.selects C x y).before a0 Z = true) (w6 : (Jvm.Cond.instanceMethod y).before a0 Z = true) (w3 : (Jvm.Cond.initialized y.cls).before a0 Z = true) (w4 : (Jvm.Cond.code y bytes maxL ret).before a0 Z = true) (hy : owner ≠ "java/lang/invoke/MethodHandle" ∧ owner ≠ "java/lang/invoke/VarHandle") (eT : T.heap = h) {rm : Room} {a : Addr} (E : Exa Z h a C) (argsL rest : List Value) {Qc : Option Value → Heap → List Loc → Prop} (hC : Ct l Z y bytes maxL ret [] rm (.ref a :: argsL).toArray h Qc) {ps : List FieldType} {rt : Option FieldType} (pd : parseMethodDescriptor x.desc = some ⟨ps, rt⟩) (hl : argsL.length = ps.length) (hsize : Ls.size = c.maxLocals) {stk : List Value} (hstk : stk = argsL.reverse ++ .ref a :: rest) (W : Nat) (hW : (rest.map fun v => v.category).sum ≤ W) (hf : rm.frames + 1 ≤ R.frames) (hlo : W + (maxL + 11) + rm.locals ≤ R.locals) (hce : cells + rm.cells ≤ R.cells) (hsl : slots + rm.slots ≤ R.slots) (hd : Dec c.code pc (.invokevirtual index) 3 pc') (k : ∀ T' v L, Stand p l e R s m args below meth c T' (locs ++ L) (cells + rm.cells) (slots + rm.slots) → Qc v T'.heap L → Go p e below En (T'.setTop (mkF m pc' Ls (v.toList ++ rest)))) : Go p e below En (T.setTop (mkF m pc Ls stk)) := by
  obtain ⟨hd, rfl⟩ := hd
  obtain ⟨cq, kq, qa, qb, qc⟩ := isOf hZ eT E
  obtain ⟨v, _, ⟨T', L', k', n'⟩, -, X', ⟨L, hQ, l1, y1, z1⟩, q⟩ := X.virtualBackUp hx hown (mvT hZ w1) (mvT hZ w2) (mvT hZ w7) hy (mvT hZ w5) (mvT hZ w6) (backOf (W := W) hC hZ w4 w3 hf hlo) qa qc (g := mkF m pc Ls stk) rfl hsize (Steps.refl _) (argsL := argsL) (rest := rest) (lenOf pd hl) hstk (by show 2 * 0 + _ ≤ _; omega) hd (fun _ _ => ⟨rfl, eT, hce, hsl⟩)
  dsimp only [Pt.U, Pt.locs, Pt.cells, Pt.slots] at X' l1 y1 z1 q hQ
  subst l1 y1 z1
  exact own_via (fun _ => q.trans) (k T' v L X' hQ)
def PutOk (Z : State) (a0 : Array Value) (h : Heap) (a : Addr) (O n d : String) : Prop := ∃ C kk, Exa Z h a C ∧ (Jvm.Cond.lays C O n d).before a0 Z = true ∧ (Jvm.Cond.instantiable C kk).before a0 Z = true
theorem go_putN (X : Stand p l e R s m args below meth c T locs cells slots) (hx : p.tables.exec = Jvm.exec) (hZ : Z.Warmed39 s.vm) {own R0 O n d host : String} {index : Nat} {ty : FieldType} (hown : s.vm.findClass own = some m.cls) (w : (Jvm.Cond.fieldLink own index R0 n d).before a0 Z = true ∨ (Jvm.Cond.fieldLinkNest own index R0 n d host).before a0 Z = true) (via : Via Z R0 O n d) (eT : T.heap = h) {a : Addr} {v old : Value} (F : Fld Z h a O n d old) (P : PutOk Z a0 h a O n d) (hty : parseFieldDescriptor d = some ty) (hn : narrow ty v = v) (hf : fits ty v = true) (hd : Dec c.code pc (.putfield index) 3 pc') (k : ∀ T' h', Stand p l e R s m args below meth c T' (locs ++ [⟨a, Jvm.RoadKit.slotOf Z O n d⟩]) cells slots → T'.heap = h' → Wr h h' a (Jvm.RoadKit.slotOf Z O n d) v → Go p e below En (T'.setTop (mkF m pc' Ls st))) : Go p e below En (T.setTop (mkF m pc Ls (v :: .ref a :: st))) := by
  obtain ⟨C, kk, E, L, wi⟩ := P
  exact go_putF X hx hZ hown w via eT F E (Or.inl L) wi hty hn hf hd k
theorem own_staK {C n d : String} {v : Value} {h' : Heap} (F : Sta Z h C n d v) (K : Keep h h' []) : Sta Z h' C n d v := by
  obtain ⟨cf, i, k, f, st, cell, h1, h2, h3, h4, h5, r⟩ := F
  exact ⟨cf, i, k, f, st, cell, h1, h2, h3, h4, K.2.1 _ _ h5 (by simp), r⟩
theorem own_ldcW (X : Stand p l e R s m args below meth c T locs cells slots) (hexec : p.tables.exec = Jvm.exec) {own : String} {index : Nat} {v : Int32} (hown : s.vm.findClass own = some m.cls) (hconst : (Jvm.Cond.constant own index v).before args s = true) {g : JFrame} (hg : g.method = m) (hdg : decode c.code g.pc = .ok (.ldc_w index, 3)) :
    ∀ target, Steps p.tables e below (T.setTop { g with pc := g.pc + 3, stack := .int v :: g.stack }) target → Steps p.tables e below (T.setTop g) target := by
  obtain ⟨k, cf, bytes, hk, hcf, hcp, hb⟩ := Cond.constant_spec hown hconst
  obtain ⟨k', hk', he⟩ := X.warmed.alike.2.2 _ _ hk
  intro target hrest
  subst hg
  jvm_step X.here [hexec, hdg, ldc_w.wp_int (s := T) (f := g) X.here.top hk' (by rw [he]; exact hcf) hcp, hb]
  exact hrest
theorem go_ldcw (X : Stand p l e R s m args below meth c T locs cells slots) (hx : p.tables.exec = Jvm.exec) (hZ : Z.Warmed39 s.vm) {own : String} {index : Nat} {v : Int32} (hown : s.vm.findClass own = some m.cls) (w : (Jvm.Cond.constant own index v).before a0 Z = true) (hd : Dec c.code pc (.ldc_w index) 3 pc') (k : Go p e below En (T.setTop (mkF m pc' Ls (.int v :: st)))) : Go p e below En (T.setTop (mkF m pc Ls st)) := by
  obtain ⟨hd, rfl⟩ := hd
  exact own_via (fun t => own_ldcW X hx hown (mv hZ w) (g := mkF m pc Ls st) rfl hd t) k
theorem go_baload (X : Stand p l e R s m args below meth c T locs cells slots) (hx : p.tables.exec = Jvm.exec) (hZ : Z.Warmed39 s.vm) (eT : T.heap = h) {a : Addr} {cl : Cell} (A : Arr Z h a cl .byte) {j w : Int32} (hj : ¬ (j < 0 ∨ cl.slots.size ≤ j.toNatClampNeg)) (hv : cl.slots[j.toNatClampNeg]? = some (.int w)) (hd : Dec c.code pc .baload 1 pc') (k : Go p e below En (T.setTop (mkF m pc' Ls (.int w :: st)))) : Go p e below En (T.setTop (mkF m pc Ls (.int j :: .ref a :: st))) := by
  obtain ⟨hd, rfl⟩ := hd
  exact own_via (fun t q => X.baloadBytes hx (j := j) (v := (.int w)) (by rw [eT]; exact A.1) (State.isArrayOf_alike hZ.alike A.2.1) A.2.2 hj hv (g := mkF m pc Ls (.int j :: .ref a :: st)) rfl rfl hd _ q) k
theorem own_rep {n : Nat} {d : Value} : ∀ i, (List.replicate n d).getD i d = ([] : List Value).getD i d := fun i => by
  simp only [List.getD_eq_getElem?_getD, List.getElem?_replicate, List.getElem?_nil, Option.getD_none]
  split <;> rfl
theorem go_iastoreV (X : Stand p l e R s m args below meth c T locs cells slots) (hx : p.tables.exec = Jvm.exec) (hZ : Z.Warmed39 s.vm) (eT : T.heap = h) {a : Addr} {kc : ClassId} {z : Int32} {vs : List Value} {d : Value} (F : Arv Z h a kc .int z vs d) {j : Int32} {x : Int32} (q : ¬ j < 0 ∧ j < z) (i : Nat) (hj : j.toNatClampNeg = i) (hl : i < vs.length) (hd : Dec c.code pc .iastore 1 pc') (k : ∀ T' h', Stand p l e R s m args below meth c T' (locs ++ [⟨a, j.toNatClampNeg⟩]) cells slots → T'.heap = h' → Wr h h' a j.toNatClampNeg (.int x) → Arv Z h' a kc .int z (vs.set i (.int x)) d → Go p e below En (T'.setTop (mkF m pc' Ls st))) : Go p e below En (T.setTop (mkF m pc Ls (.int x :: .int j :: .ref a :: st))) := by
  obtain ⟨c1, A, q1, S, q3, H, G⟩ := F
  exact go_iastore X hx hZ eT A (inb_of S q) hd (fun T' h' X' e' W => k T' h' X' e' W (Arv.set A q1 S q3 H G rfl W i hj hl))
theorem go_lastoreV (X : Stand p l e R s m args below meth c T locs cells slots) (hx : p.tables.exec = Jvm.exec) (hZ : Z.Warmed39 s.vm) (eT : T.heap = h) {a : Addr} {kc : ClassId} {z : Int32} {vs : List Value} {d : Value} (F : Arv Z h a kc .long z vs d) {j : Int32} {x : Int64} (q : ¬ j < 0 ∧ j < z) (i : Nat) (hj : j.toNatClampNeg = i) (hl : i < vs.length) (hd : Dec c.code pc .lastore 1 pc') (k : ∀ T' h', Stand p l e R s m args below meth c T' (locs ++ [⟨a, j.toNatClampNeg⟩]) cells slots → T'.heap = h' → Wr h h' a j.toNatClampNeg (.long x) → Arv Z h' a kc .long z (vs.set i (.long x)) d → Go p e below En (T'.setTop (mkF m pc' Ls st))) : Go p e below En (T.setTop (mkF m pc Ls (.long x :: .int j :: .ref a :: st))) := by
  obtain ⟨c1, A, q1, S, q3, H, G⟩ := F
  exact go_lastore X hx hZ eT A (inb_of S q) hd (fun T' h' X' e' W => k T' h' X' e' W (Arv.set A q1 S q3 H G rfl W i hj hl))
theorem go_bastoreV (X : Stand p l e R s m args below meth c T locs cells slots) (hx : p.tables.exec = Jvm.exec) (hZ : Z.Warmed39 s.vm) (eT : T.heap = h) {a : Addr} {kc : ClassId} {z : Int32} {vs : List Value} {d : Value} (F : Arv Z h a kc .byte z vs d) {j : Int32} {x : Int32} (q : ¬ j < 0 ∧ j < z) (i : Nat) (hj : j.toNatClampNeg = i) (hl : i < vs.length) (hd : Dec c.code pc .bastore 1 pc') (k : ∀ T' h', Stand p l e R s m args below meth c T' (locs ++ [⟨a, j.toNatClampNeg⟩]) cells slots → T'.heap = h' → Wr h h' a j.toNatClampNeg (.int (nar .byte x)) → Arv Z h' a kc .byte z (vs.set i (.int (nar .byte x))) d → Go p e below En (T'.setTop (mkF m pc' Ls st))) : Go p e below En (T.setTop (mkF m pc Ls (.int x :: .int j :: .ref a :: st))) := by
  obtain ⟨c1, A, q1, S, q3, H, G⟩ := F
  exact go_bastore X hx hZ eT A (inb_of S q) hd (fun T' h' X' e' W => k T' h' X' e' W (Arv.set A q1 S q3 H G (fits_nar_byte _) W i hj hl))
theorem go_castoreV (X : Stand p l e R s m args below meth c T locs cells slots) (hx : p.tables.exec = Jvm.exec) (hZ : Z.Warmed39 s.vm) (eT : T.heap = h) {a : Addr} {kc : ClassId} {z : Int32} {vs : List Value} {d : Value} (F : Arv Z h a kc .char z vs d) {j : Int32} {x : Int32} (q : ¬ j < 0 ∧ j < z) (i : Nat) (hj : j.toNatClampNeg = i) (hl : i < vs.length) (hd : Dec c.code pc .castore 1 pc') (k : ∀ T' h', Stand p l e R s m args below meth c T' (locs ++ [⟨a, j.toNatClampNeg⟩]) cells slots → T'.heap = h' → Wr h h' a j.toNatClampNeg (.int (nar .char x)) → Arv Z h' a kc .char z (vs.set i (.int (nar .char x))) d → Go p e below En (T'.setTop (mkF m pc' Ls st))) : Go p e below En (T.setTop (mkF m pc Ls (.int x :: .int j :: .ref a :: st))) := by
  obtain ⟨c1, A, q1, S, q3, H, G⟩ := F
  exact go_castore X hx hZ eT A (inb_of S q) hd (fun T' h' X' e' W => k T' h' X' e' W (Arv.set A q1 S q3 H G (fits_nar_char _) W i hj hl))
theorem go_aastoreV (X : Stand p l e R s m args below meth c T locs cells slots) (hx : p.tables.exec = Jvm.exec) (hZ : Z.Warmed39 s.vm) (eT : T.heap = h) {a y : Addr} {C : String} {kc : ClassId} {z : Int32} {vs : List Value} {d : Value} (F : Arv Z h a kc (.object C) z vs d) (O : Ovr Z kc C) (I : Ins Z h y C true) {j : Int32} (q : ¬ j < 0 ∧ j < z) (i : Nat) (hj : j.toNatClampNeg = i) (hl : i < vs.length) (hd : Dec c.code pc .aastore 1 pc') (k : ∀ T' h', Stand p l e R s m args below meth c T' (locs ++ [⟨a, j.toNatClampNeg⟩]) cells slots → T'.heap = h' → Wr h h' a j.toNatClampNeg (.ref y) → Arv Z h' a kc (.object C) z (vs.set i (.ref y)) d → Go p e below En (T'.setTop (mkF m pc' Ls st))) : Go p e below En (T.setTop (mkF m pc Ls (.ref y :: .int j :: .ref a :: st))) := by
  obtain ⟨hd, rfl⟩ := hd
  obtain ⟨c1, A, q1, S, q3, H, G⟩ := F
  obtain ⟨T', h', X', e', W, r⟩ := stR X hx hZ eT A (inb_of S q) rfl (Sto.of A (by rw [q1]; exact O) I) (g := mkF m pc Ls (.ref y :: .int j :: .ref a :: st)) rfl rfl hd
  exact own_via r (k T' h' X' e' W (Arv.set A q1 S q3 H G rfl W i hj hl))
theorem go_newR (X : Stand p l e R s m args below meth c T locs cells slots) (hx : p.tables.exec = Jvm.exec) (hZ : Z.Warmed39 s.vm) {own C : String} {index : Nat} (hown : s.vm.findClass own = some m.cls) (w1 : (Jvm.Cond.classLink own index C).before a0 Z = true) (w2 : (Jvm.Cond.arrayOver (.object C)).before a0 Z = true) (eT : T.heap = h) (hd : Dec c.code pc (.anewarray index) 3 pc') {n : Int32} (hn : ¬ n < 0) (cap : Nat) (hcap : n.toNatClampNeg ≤ cap) (hb : cap * 8 ≤ 536870912) (hc : cells + 1 ≤ R.cells) (hl : slots + cap ≤ R.slots) (k : ∀ T' h' cA (a : Addr), a = h.size → Stand p l e R s m args below meth c T' locs (cells + 1) (slots + cap) → T'.heap = h' → Ext h h' → Arr Z h' a (newA cA (.object C) n) (.object C) → Ovr Z cA C → Go p e below En (T'.setTop (mkF m pc' Ls (.ref a :: st)))) : Go p e below En (T.setTop (mkF m pc Ls (.int n :: st))) := by
  obtain ⟨hd, rfl⟩ := hd
  obtain ⟨T', h', cA, X', e', E, A, O, q⟩ := newR X hx hZ hown w1 w2 eT (g := mkF m pc Ls (.int n :: st)) rfl hd rfl hn hcap hb hc hl
  exact own_via q (k T' h' cA _ rfl X' e' E A O)
theorem go_ialoadV (X : Stand p l e R s m args below meth c T locs cells slots) (hx : p.tables.exec = Jvm.exec) (hZ : Z.Warmed39 s.vm) (eT : T.heap = h) {a : Addr} {kc : ClassId} {z : Int32} {vs : List Value} {d : Value} (F : Arv Z h a kc .int z vs d) {j : Int32} {w : Int32} (q : ¬ j < 0 ∧ j < z) (hv : vs.getD j.toNatClampNeg d = .int w) (hd : Dec c.code pc .iaload 1 pc') (k : Go p e below En (T.setTop (mkF m pc' Ls (.int w :: st)))) : Go p e below En (T.setTop (mkF m pc Ls (.int j :: .ref a :: st))) := by
  obtain ⟨c1, A, q1, S, q3, H, G⟩ := F
  have hin := inb_of S q
  exact go_iaload X hx hZ eT A hin (by rw [H _ (Nat.lt_of_not_le fun r => hin (Or.inr r)), hv]) hd k
theorem go_laloadV (X : Stand p l e R s m args below meth c T locs cells slots) (hx : p.tables.exec = Jvm.exec) (hZ : Z.Warmed39 s.vm) (eT : T.heap = h) {a : Addr} {kc : ClassId} {z : Int32} {vs : List Value} {d : Value} (F : Arv Z h a kc .long z vs d) {j : Int32} {w : Int64} (q : ¬ j < 0 ∧ j < z) (hv : vs.getD j.toNatClampNeg d = .long w) (hd : Dec c.code pc .laload 1 pc') (k : Go p e below En (T.setTop (mkF m pc' Ls (.long w :: st)))) : Go p e below En (T.setTop (mkF m pc Ls (.int j :: .ref a :: st))) := by
  obtain ⟨c1, A, q1, S, q3, H, G⟩ := F
  have hin := inb_of S q
  exact go_laload X hx hZ eT A hin (by rw [H _ (Nat.lt_of_not_le fun r => hin (Or.inr r)), hv]) hd k
theorem go_baloadV (X : Stand p l e R s m args below meth c T locs cells slots) (hx : p.tables.exec = Jvm.exec) (hZ : Z.Warmed39 s.vm) (eT : T.heap = h) {a : Addr} {kc : ClassId} {z : Int32} {vs : List Value} {d : Value} (F : Arv Z h a kc .byte z vs d) {j : Int32} {w : Int32} (q : ¬ j < 0 ∧ j < z) (hv : vs.getD j.toNatClampNeg d = .int w) (hd : Dec c.code pc .baload 1 pc') (k : Go p e below En (T.setTop (mkF m pc' Ls (.int w :: st)))) : Go p e below En (T.setTop (mkF m pc Ls (.int j :: .ref a :: st))) := by
  obtain ⟨c1, A, q1, S, q3, H, G⟩ := F
  have hin := inb_of S q
  exact go_baload X hx hZ eT A hin (by rw [H _ (Nat.lt_of_not_le fun r => hin (Or.inr r)), hv]) hd k
theorem go_aaloadV (X : Stand p l e R s m args below meth c T locs cells slots) (hx : p.tables.exec = Jvm.exec) (hZ : Z.Warmed39 s.vm) (eT : T.heap = h) {a : Addr} {kc : ClassId} {ty : FieldType} (hty : ty.isReference = true) {z : Int32} {vs : List Value} {d : Value} (F : Arv Z h a kc ty z vs d) {j : Int32} {v : Value} (q : ¬ j < 0 ∧ j < z) (hv : vs.getD j.toNatClampNeg d = v) (hd : Dec c.code pc .aaload 1 pc') (k : Go p e below En (T.setTop (mkF m pc' Ls (v :: st)))) : Go p e below En (T.setTop (mkF m pc Ls (.int j :: .ref a :: st))) := by
  obtain ⟨hd, rfl⟩ := hd
  obtain ⟨c1, A, q1, S, q3, H, G⟩ := F
  have hin := inb_of S q
  exact own_via (fun t r => X.aaload hx (j := j) (v := v) (by rw [eT]; exact A.1) (State.isArrayOf_alike hZ.alike A.2.1) hty A.2.2 hin (by rw [H _ (Nat.lt_of_not_le fun r => hin (Or.inr r)), hv]) (g := mkF m pc Ls (.int j :: .ref a :: st)) rfl rfl hd _ r) k
end OwnGo
def own_b (P : Prop) [Decidable P] : Int32 := if P then 1 else 0
theorem own_b0 {P : Prop} [Decidable P] : own_b P = 0 ↔ ¬ P := by unfold own_b; by_cases h : P <;> simp [h]
theorem own_bT {P : Prop} [Decidable P] (h : P) : own_b P = 1 := by unfold own_b; simp [h]
theorem own_bF {P : Prop} [Decidable P] (h : ¬ P) : own_b P = 0 := by unfold own_b; simp [h]
theorem own_bC {P Q : Prop} [Decidable P] [Decidable Q] (h : P ↔ Q) : own_b P = own_b Q := by unfold own_b; by_cases q : P <;> simp [q, h.symm] <;> simp [← h, q]

theorem own_ord {args : Array Value} {s : State} {t : Term} {C n d : String} {k : Int32} {a : Addr} (ht : t.eval args s none [] s = some (.ref a)) (hq : (Jvm.Cond.eq (Term.field t C n d) (Term.int k)).value args s none s [] = some true) : s.fieldOf? a C n d = some (.int k) := by
  have e1 := fld_at (C := C) (n := n) (dd := d) ht
  have e2 : (Term.int k).eval args s none [] s = some (.int k) := rfl
  cases hv : s.fieldOf? a C n d with
  | none => rw [hv] at e1; simp [Cond.value, e1, e2] at hq
  | some v =>
    rw [hv] at e1
    simp only [Cond.value, e1, e2] at hq
    cases v <;> simp at hq ⊢ <;> exact hq


def own_lo : List Int32 := [0, 0, 1, 1, 0, 0, 0, 0, 2, 2, 2, 2, 2, 2, 0, 0, 3, 1, 1, 0, 0, 1, 0, 1, 1, 1, 1]
def own_hi : List Int32 := [0, 0, 1, 1, 1, 1, 1, 1, 2147483647, 2, 2, 2, 2, 3, 1, 1, 3, 1, 1, 0, 0, 1, 1, 1, 1, 1, 1]
def own_S (Z : State) (h : Heap) (A : Nat → Addr) : Prop := Sta Z h "com/example/strict_model/strictmodel/XPathFunctions$Function" "LAST" "Lcom/example/strict_model/strictmodel/XPathFunctions$Function;" (.ref (A 0)) ∧ Sta Z h "com/example/strict_model/strictmodel/XPathFunctions$Function" "POSITION" "Lcom/example/strict_model/strictmodel/XPathFunctions$Function;" (.ref (A 1)) ∧ Sta Z h "com/example/strict_model/strictmodel/XPathFunctions$Function" "COUNT" "Lcom/example/strict_model/strictmodel/XPathFunctions$Function;" (.ref (A 2)) ∧ Sta Z h "com/example/strict_model/strictmodel/XPathFunctions$Function" "ID" "Lcom/example/strict_model/strictmodel/XPathFunctions$Function;" (.ref (A 3)) ∧ Sta Z h "com/example/strict_model/strictmodel/XPathFunctions$Function" "LOCAL_NAME" "Lcom/example/strict_model/strictmodel/XPathFunctions$Function;" (.ref (A 4)) ∧ Sta Z h "com/example/strict_model/strictmodel/XPathFunctions$Function" "NAMESPACE_URI" "Lcom/example/strict_model/strictmodel/XPathFunctions$Function;" (.ref (A 5)) ∧ Sta Z h "com/example/strict_model/strictmodel/XPathFunctions$Function" "NAME" "Lcom/example/strict_model/strictmodel/XPathFunctions$Function;" (.ref (A 6)) ∧ Sta Z h "com/example/strict_model/strictmodel/XPathFunctions$Function" "STRING" "Lcom/example/strict_model/strictmodel/XPathFunctions$Function;" (.ref (A 7)) ∧ Sta Z h "com/example/strict_model/strictmodel/XPathFunctions$Function" "CONCAT" "Lcom/example/strict_model/strictmodel/XPathFunctions$Function;" (.ref (A 8)) ∧ Sta Z h "com/example/strict_model/strictmodel/XPathFunctions$Function" "STARTS_WITH" "Lcom/example/strict_model/strictmodel/XPathFunctions$Function;" (.ref (A 9)) ∧ Sta Z h "com/example/strict_model/strictmodel/XPathFunctions$Function" "CONTAINS" "Lcom/example/strict_model/strictmodel/XPathFunctions$Function;" (.ref (A 10)) ∧ Sta Z h "com/example/strict_model/strictmodel/XPathFunctions$Function" "SUBSTRING_BEFORE" "Lcom/example/strict_model/strictmodel/XPathFunctions$Function;" (.ref (A 11)) ∧ Sta Z h "com/example/strict_model/strictmodel/XPathFunctions$Function" "SUBSTRING_AFTER" "Lcom/example/strict_model/strictmodel/XPathFunctions$Function;" (.ref (A 12)) ∧ Sta Z h "com/example/strict_model/strictmodel/XPathFunctions$Function" "SUBSTRING" "Lcom/example/strict_model/strictmodel/XPathFunctions$Function;" (.ref (A 13)) ∧ Sta Z h "com/example/strict_model/strictmodel/XPathFunctions$Function" "STRING_LENGTH" "Lcom/example/strict_model/strictmodel/XPathFunctions$Function;" (.ref (A 14)) ∧ Sta Z h "com/example/strict_model/strictmodel/XPathFunctions$Function" "NORMALIZE_SPACE" "Lcom/example/strict_model/strictmodel/XPathFunctions$Function;" (.ref (A 15)) ∧ Sta Z h "com/example/strict_model/strictmodel/XPathFunctions$Function" "TRANSLATE" "Lcom/example/strict_model/strictmodel/XPathFunctions$Function;" (.ref (A 16)) ∧ Sta Z h "com/example/strict_model/strictmodel/XPathFunctions$Function" "BOOLEAN" "Lcom/example/strict_model/strictmodel/XPathFunctions$Function;" (.ref (A 17)) ∧ Sta Z h "com/example/strict_model/strictmodel/XPathFunctions$Function" "NOT" "Lcom/example/strict_model/strictmodel/XPathFunctions$Function;" (.ref (A 18)) ∧ Sta Z h "com/example/strict_model/strictmodel/XPathFunctions$Function" "TRUE" "Lcom/example/strict_model/strictmodel/XPathFunctions$Function;" (.ref (A 19)) ∧ Sta Z h "com/example/strict_model/strictmodel/XPathFunctions$Function" "FALSE" "Lcom/example/strict_model/strictmodel/XPathFunctions$Function;" (.ref (A 20)) ∧ Sta Z h "com/example/strict_model/strictmodel/XPathFunctions$Function" "LANG" "Lcom/example/strict_model/strictmodel/XPathFunctions$Function;" (.ref (A 21)) ∧ Sta Z h "com/example/strict_model/strictmodel/XPathFunctions$Function" "NUMBER" "Lcom/example/strict_model/strictmodel/XPathFunctions$Function;" (.ref (A 22)) ∧ Sta Z h "com/example/strict_model/strictmodel/XPathFunctions$Function" "SUM" "Lcom/example/strict_model/strictmodel/XPathFunctions$Function;" (.ref (A 23)) ∧ Sta Z h "com/example/strict_model/strictmodel/XPathFunctions$Function" "FLOOR" "Lcom/example/strict_model/strictmodel/XPathFunctions$Function;" (.ref (A 24)) ∧ Sta Z h "com/example/strict_model/strictmodel/XPathFunctions$Function" "CEILING" "Lcom/example/strict_model/strictmodel/XPathFunctions$Function;" (.ref (A 25)) ∧ Sta Z h "com/example/strict_model/strictmodel/XPathFunctions$Function" "ROUND" "Lcom/example/strict_model/strictmodel/XPathFunctions$Function;" (.ref (A 26))
theorem own_toInt {n : Nat} (h : n < 2 ^ 31) : (Int32.ofNat n).toInt = n := Int32.toInt_ofNat_small h
theorem own_clamp {n : Nat} (h : n < 2 ^ 31) : (Int32.ofNat n).toNatClampNeg = n := by
  show (Int32.ofNat n).toInt.toNat = n
  rw [own_toInt h]; rfl
theorem own_inN {n : Nat} (h : n < 27) : ¬ Int32.ofNat n < 0 ∧ Int32.ofNat n < 27 := by
  rw [Int32.lt_iff_toInt_lt, Int32.lt_iff_toInt_lt, own_toInt (by omega), show (0 : Int32).toInt = 0 from rfl, show (27 : Int32).toInt = 27 from rfl]; omega
theorem own_idx (x : Int32) : ∃ n : Nat, n < 27 ∧ (x &&& 2147483647) % 27 = Int32.ofNat n := by
  have h1 := c_mask x 2147483647 31 (by decide) (by decide)
  have h2 := (c_iremV (x &&& 2147483647) 27).1 (by rw [h1]; omega) (by decide)
  have h3 : (27 : Int32).toInt = 27 := rfl
  refine ⟨((x &&& 2147483647) % 27).toInt.toNat, by omega, ?_⟩
  rw [← Int32.toInt_inj, Int32.toInt_ofNat_small (by omega)]
  omega
theorem own_cases {P : Nat → Prop} (h0 : P 0) (h1 : P 1) (h2 : P 2) (h3 : P 3) (h4 : P 4) (h5 : P 5) (h6 : P 6) (h7 : P 7) (h8 : P 8) (h9 : P 9) (h10 : P 10) (h11 : P 11) (h12 : P 12) (h13 : P 13) (h14 : P 14) (h15 : P 15) (h16 : P 16) (h17 : P 17) (h18 : P 18) (h19 : P 19) (h20 : P 20) (h21 : P 21) (h22 : P 22) (h23 : P 23) (h24 : P 24) (h25 : P 25) (h26 : P 26) : ∀ n, n < 27 → P n := by
  intro n hn
  have z : n = 0 ∨ n = 1 ∨ n = 2 ∨ n = 3 ∨ n = 4 ∨ n = 5 ∨ n = 6 ∨ n = 7 ∨ n = 8 ∨ n = 9 ∨ n = 10 ∨ n = 11 ∨ n = 12 ∨ n = 13 ∨ n = 14 ∨ n = 15 ∨ n = 16 ∨ n = 17 ∨ n = 18 ∨ n = 19 ∨ n = 20 ∨ n = 21 ∨ n = 22 ∨ n = 23 ∨ n = 24 ∨ n = 25 ∨ n = 26 := by omega
  rcases z with rfl | rfl | rfl | rfl | rfl | rfl | rfl | rfl | rfl | rfl | rfl | rfl | rfl | rfl | rfl | rfl | rfl | rfl | rfl | rfl | rfl | rfl | rfl | rfl | rfl | rfl | rfl
  · exact h0
  · exact h1
  · exact h2
  · exact h3
  · exact h4
  · exact h5
  · exact h6
  · exact h7
  · exact h8
  · exact h9
  · exact h10
  · exact h11
  · exact h12
  · exact h13
  · exact h14
  · exact h15
  · exact h16
  · exact h17
  · exact h18
  · exact h19
  · exact h20
  · exact h21
  · exact h22
  · exact h23
  · exact h24
  · exact h25
  · exact h26
theorem own_fldOf {args : Array Value} {s : State} {C n d : String} {v : Value} {a : Addr} (q : s.fieldOf? a C n d = some v) : Fld s s.heap a C n d v := Fld.start q

theorem d1_0 : Dec prog_45_method_4_code 0 (.iload_n 1) 1 1 := ⟨by decide +kernel, rfl⟩
theorem d1_1 : Dec prog_45_method_4_code 1 (.aload_n 0) 1 2 := ⟨by decide +kernel, rfl⟩
theorem d1_2 : Dec prog_45_method_4_code 2 (.getfield 108) 3 5 := ⟨by decide +kernel, rfl⟩
theorem d1_5 : DecB prog_45_method_4_code 5 (.if_icmp .lt 15) (15) 8 20 := ⟨by decide +kernel, rfl, by decide, by decide⟩
theorem d1_8 : Dec prog_45_method_4_code 8 (.iload_n 1) 1 9 := ⟨by decide +kernel, rfl⟩
theorem d1_9 : Dec prog_45_method_4_code 9 (.aload_n 0) 1 10 := ⟨by decide +kernel, rfl⟩
theorem d1_10 : Dec prog_45_method_4_code 10 (.getfield 112) 3 13 := ⟨by decide +kernel, rfl⟩
theorem d1_13 : DecB prog_45_method_4_code 13 (.if_icmp .gt 7) (7) 16 20 := ⟨by decide +kernel, rfl, by decide, by decide⟩
theorem d1_16 : Dec prog_45_method_4_code 16 (.iconst 1) 1 17 := ⟨by decide +kernel, rfl⟩
theorem d1_17 : DecB prog_45_method_4_code 17 (.goto 4) (4) 20 21 := ⟨by decide +kernel, rfl, by decide, by decide⟩
theorem d1_20 : Dec prog_45_method_4_code 20 (.iconst 0) 1 21 := ⟨by decide +kernel, rfl⟩
theorem d1_21 : Dec prog_45_method_4_code 21 (.ireturn) 1 22 := ⟨by decide +kernel, rfl⟩
theorem pn1 : plainName "com/example/strict_model/strictmodel/XPathFunctions$Function" = true := by first | (simp [plainName, overriddenIn]; done) | decide +kernel
theorem ef1 (x0 : Addr) (x1 : Int32) (m : MethodId) : entryFrame m #[(.ref x0), (.int x1)] 2 = mkF m 0 #[.val (.ref x0), .val (.int x1)] [] := by first | (simp [entryFrame, mkF, argsToLocals, Value.category, maxLocals]; done) | rfl
set_option maxRecDepth 65536 in
set_option maxHeartbeats 40000000 in
theorem rm1 (l : Launch) (Z : State) (a0 : Array Value) (hw : ∀ d ∈ tables_1, d.before a0 Z = true) (ws : List Jvm.Cond) (a : Addr) (pv lov hiv : Int32) (h0 : Heap) (F1 : Fld Z h0 a "com/example/strict_model/strictmodel/XPathFunctions$Function" "minimum" "I" (.int lov)) (F2 : Fld Z h0 a "com/example/strict_model/strictmodel/XPathFunctions$Function" "maximum" "I" (.int hiv)) : Ct l Z (⟨"com/example/strict_model/strictmodel/XPathFunctions$Function", "takes", "(I)Z"⟩ : MethodName) prog_45_method_4_code 2 (some .boolean) ws ({ frames := 0, cells := 0, slots := 0, locals := 0 } : Room) #[(.ref a), (.int pv)] h0 (QP (.int (own_b (¬ pv < lov ∧ ¬ hiv < pv))) h0) := by
  refine Ct.of (pn1) _ (ef1 a pv) ?_
  intro p e s m below meth c T0 hx hby hml hZ hown hnm hret hk e0 X0
  show Go p e below _ (T0.setTop (mkF m 0 #[.val (.ref a), .val (.int pv)] []))
  refine go_iloadn X0 hx (dc hby d1_0) (v := pv) rfl ?_
  refine go_aloadn X0 hx (dc hby d1_1) (v := (.ref a)) rfl rfl ?_
  refine go_getF X0 hx hZ (host := "") hown (Or.inl (hw _ (List.mem_of_getElem? (i := 65) rfl))) Via.refl e0 F1 (dc hby d1_2) (fun T1 X1 e1 => ?_)
  refine go_icmp_lt X1 hx (db hby d1_5) (fun c5 => ?_) (fun c5 => ?_)
  · refine go_iconst X1 hx (0) (dc hby d1_20) rfl ?_
    exact go_retN X1 hx hret (by simp) (dc hby d1_21) hk (by decide) (by decide) ⟨congrArg (fun z => some (Value.int z)) (by first | exact (own_bT (by simp_all)).symm | exact (own_bF (by simp_all)).symm), e1, rfl⟩
  · refine go_iloadn X1 hx (dc hby d1_8) (v := pv) rfl ?_
    refine go_aloadn X1 hx (dc hby d1_9) (v := (.ref a)) rfl rfl ?_
    refine go_getF X1 hx hZ (host := "") hown (Or.inl (hw _ (List.mem_of_getElem? (i := 67) rfl))) Via.refl e1 F2 (dc hby d1_10) (fun T2 X2 e2 => ?_)
    refine go_icmp_gt X2 hx (db hby d1_13) (fun c13 => ?_) (fun c13 => ?_)
    · refine go_iconst X2 hx (0) (dc hby d1_20) rfl ?_
      exact go_retN X2 hx hret (by simp) (dc hby d1_21) hk (by decide) (by decide) ⟨congrArg (fun z => some (Value.int z)) (by first | exact (own_bT (by simp_all)).symm | exact (own_bF (by simp_all)).symm), e2, rfl⟩
    · refine go_iconst X2 hx (1) (dc hby d1_16) rfl ?_
      refine go_goto X2 hx (db hby d1_17) ?_
      exact go_retN X2 hx hret (by simp) (dc hby d1_21) hk (by decide) (by decide) ⟨congrArg (fun z => some (Value.int z)) (by first | exact (own_bT (by simp_all)).symm | exact (own_bF (by simp_all)).symm), e2, rfl⟩
theorem pd1 : parseMethodDescriptor "(I)Z" = some ⟨[.int], some .boolean⟩ := by decide +kernel
theorem d0_0 : Dec code 0 (.bipush 27) 2 2 := ⟨at_0, rfl⟩
theorem d0_2 : Dec code 2 (.anewarray 7) 3 5 := ⟨at_2, rfl⟩
theorem d0_5 : Dec code 5 (.dup) 1 6 := ⟨at_5, rfl⟩
theorem d0_6 : Dec code 6 (.iconst 0) 1 7 := ⟨at_6, rfl⟩
theorem d0_7 : Dec code 7 (.getstatic 9) 3 10 := ⟨at_7, rfl⟩
theorem d0_10 : Dec code 10 (.aastore) 1 11 := ⟨at_10, rfl⟩
theorem d0_11 : Dec code 11 (.dup) 1 12 := ⟨at_11, rfl⟩
theorem d0_12 : Dec code 12 (.iconst 1) 1 13 := ⟨at_12, rfl⟩
theorem d0_13 : Dec code 13 (.getstatic 13) 3 16 := ⟨at_13, rfl⟩
theorem d0_16 : Dec code 16 (.aastore) 1 17 := ⟨at_16, rfl⟩
theorem d0_17 : Dec code 17 (.dup) 1 18 := ⟨at_17, rfl⟩
theorem d0_18 : Dec code 18 (.iconst 2) 1 19 := ⟨at_18, rfl⟩
theorem d0_19 : Dec code 19 (.getstatic 16) 3 22 := ⟨at_19, rfl⟩
theorem d0_22 : Dec code 22 (.aastore) 1 23 := ⟨at_22, rfl⟩
theorem d0_23 : Dec code 23 (.dup) 1 24 := ⟨at_23, rfl⟩
theorem d0_24 : Dec code 24 (.iconst 3) 1 25 := ⟨at_24, rfl⟩
theorem d0_25 : Dec code 25 (.getstatic 19) 3 28 := ⟨at_25, rfl⟩
theorem d0_28 : Dec code 28 (.aastore) 1 29 := ⟨at_28, rfl⟩
theorem d0_29 : Dec code 29 (.dup) 1 30 := ⟨at_29, rfl⟩
theorem d0_30 : Dec code 30 (.iconst 4) 1 31 := ⟨at_30, rfl⟩
theorem d0_31 : Dec code 31 (.getstatic 22) 3 34 := ⟨at_31, rfl⟩
theorem d0_34 : Dec code 34 (.aastore) 1 35 := ⟨at_34, rfl⟩
theorem d0_35 : Dec code 35 (.dup) 1 36 := ⟨at_35, rfl⟩
theorem d0_36 : Dec code 36 (.iconst 5) 1 37 := ⟨at_36, rfl⟩
theorem d0_37 : Dec code 37 (.getstatic 25) 3 40 := ⟨at_37, rfl⟩
theorem d0_40 : Dec code 40 (.aastore) 1 41 := ⟨at_40, rfl⟩
theorem d0_41 : Dec code 41 (.dup) 1 42 := ⟨at_41, rfl⟩
theorem d0_42 : Dec code 42 (.bipush 6) 2 44 := ⟨at_42, rfl⟩
theorem d0_44 : Dec code 44 (.getstatic 28) 3 47 := ⟨at_44, rfl⟩
theorem d0_47 : Dec code 47 (.aastore) 1 48 := ⟨at_47, rfl⟩
theorem d0_48 : Dec code 48 (.dup) 1 49 := ⟨at_48, rfl⟩
theorem d0_49 : Dec code 49 (.bipush 7) 2 51 := ⟨at_49, rfl⟩
theorem d0_51 : Dec code 51 (.getstatic 31) 3 54 := ⟨at_51, rfl⟩
theorem d0_54 : Dec code 54 (.aastore) 1 55 := ⟨at_54, rfl⟩
theorem d0_55 : Dec code 55 (.dup) 1 56 := ⟨at_55, rfl⟩
theorem d0_56 : Dec code 56 (.bipush 8) 2 58 := ⟨at_56, rfl⟩
theorem d0_58 : Dec code 58 (.getstatic 34) 3 61 := ⟨at_58, rfl⟩
theorem d0_61 : Dec code 61 (.aastore) 1 62 := ⟨at_61, rfl⟩
theorem d0_62 : Dec code 62 (.dup) 1 63 := ⟨at_62, rfl⟩
theorem d0_63 : Dec code 63 (.bipush 9) 2 65 := ⟨at_63, rfl⟩
theorem d0_65 : Dec code 65 (.getstatic 37) 3 68 := ⟨at_65, rfl⟩
theorem d0_68 : Dec code 68 (.aastore) 1 69 := ⟨at_68, rfl⟩
theorem d0_69 : Dec code 69 (.dup) 1 70 := ⟨at_69, rfl⟩
theorem d0_70 : Dec code 70 (.bipush 10) 2 72 := ⟨at_70, rfl⟩
theorem d0_72 : Dec code 72 (.getstatic 40) 3 75 := ⟨at_72, rfl⟩
theorem d0_75 : Dec code 75 (.aastore) 1 76 := ⟨at_75, rfl⟩
theorem d0_76 : Dec code 76 (.dup) 1 77 := ⟨at_76, rfl⟩
theorem d0_77 : Dec code 77 (.bipush 11) 2 79 := ⟨at_77, rfl⟩
theorem d0_79 : Dec code 79 (.getstatic 43) 3 82 := ⟨at_79, rfl⟩
theorem d0_82 : Dec code 82 (.aastore) 1 83 := ⟨at_82, rfl⟩
theorem d0_83 : Dec code 83 (.dup) 1 84 := ⟨at_83, rfl⟩
theorem d0_84 : Dec code 84 (.bipush 12) 2 86 := ⟨at_84, rfl⟩
theorem d0_86 : Dec code 86 (.getstatic 46) 3 89 := ⟨at_86, rfl⟩
theorem d0_89 : Dec code 89 (.aastore) 1 90 := ⟨at_89, rfl⟩
theorem d0_90 : Dec code 90 (.dup) 1 91 := ⟨at_90, rfl⟩
theorem d0_91 : Dec code 91 (.bipush 13) 2 93 := ⟨at_91, rfl⟩
theorem d0_93 : Dec code 93 (.getstatic 49) 3 96 := ⟨at_93, rfl⟩
theorem d0_96 : Dec code 96 (.aastore) 1 97 := ⟨at_96, rfl⟩
theorem d0_97 : Dec code 97 (.dup) 1 98 := ⟨at_97, rfl⟩
theorem d0_98 : Dec code 98 (.bipush 14) 2 100 := ⟨at_98, rfl⟩
theorem d0_100 : Dec code 100 (.getstatic 52) 3 103 := ⟨at_100, rfl⟩
theorem d0_103 : Dec code 103 (.aastore) 1 104 := ⟨at_103, rfl⟩
theorem d0_104 : Dec code 104 (.dup) 1 105 := ⟨at_104, rfl⟩
theorem d0_105 : Dec code 105 (.bipush 15) 2 107 := ⟨at_105, rfl⟩
theorem d0_107 : Dec code 107 (.getstatic 55) 3 110 := ⟨at_107, rfl⟩
theorem d0_110 : Dec code 110 (.aastore) 1 111 := ⟨at_110, rfl⟩
theorem d0_111 : Dec code 111 (.dup) 1 112 := ⟨at_111, rfl⟩
theorem d0_112 : Dec code 112 (.bipush 16) 2 114 := ⟨at_112, rfl⟩
theorem d0_114 : Dec code 114 (.getstatic 58) 3 117 := ⟨at_114, rfl⟩
theorem d0_117 : Dec code 117 (.aastore) 1 118 := ⟨at_117, rfl⟩
theorem d0_118 : Dec code 118 (.dup) 1 119 := ⟨at_118, rfl⟩
theorem d0_119 : Dec code 119 (.bipush 17) 2 121 := ⟨at_119, rfl⟩
theorem d0_121 : Dec code 121 (.getstatic 61) 3 124 := ⟨at_121, rfl⟩
theorem d0_124 : Dec code 124 (.aastore) 1 125 := ⟨at_124, rfl⟩
theorem d0_125 : Dec code 125 (.dup) 1 126 := ⟨at_125, rfl⟩
theorem d0_126 : Dec code 126 (.bipush 18) 2 128 := ⟨at_126, rfl⟩
theorem d0_128 : Dec code 128 (.getstatic 64) 3 131 := ⟨at_128, rfl⟩
theorem d0_131 : Dec code 131 (.aastore) 1 132 := ⟨at_131, rfl⟩
theorem d0_132 : Dec code 132 (.dup) 1 133 := ⟨at_132, rfl⟩
theorem d0_133 : Dec code 133 (.bipush 19) 2 135 := ⟨at_133, rfl⟩
theorem d0_135 : Dec code 135 (.getstatic 67) 3 138 := ⟨at_135, rfl⟩
theorem d0_138 : Dec code 138 (.aastore) 1 139 := ⟨at_138, rfl⟩
theorem d0_139 : Dec code 139 (.dup) 1 140 := ⟨at_139, rfl⟩
theorem d0_140 : Dec code 140 (.bipush 20) 2 142 := ⟨at_140, rfl⟩
theorem d0_142 : Dec code 142 (.getstatic 70) 3 145 := ⟨at_142, rfl⟩
theorem d0_145 : Dec code 145 (.aastore) 1 146 := ⟨at_145, rfl⟩
theorem d0_146 : Dec code 146 (.dup) 1 147 := ⟨at_146, rfl⟩
theorem d0_147 : Dec code 147 (.bipush 21) 2 149 := ⟨at_147, rfl⟩
theorem d0_149 : Dec code 149 (.getstatic 73) 3 152 := ⟨at_149, rfl⟩
theorem d0_152 : Dec code 152 (.aastore) 1 153 := ⟨at_152, rfl⟩
theorem d0_153 : Dec code 153 (.dup) 1 154 := ⟨at_153, rfl⟩
theorem d0_154 : Dec code 154 (.bipush 22) 2 156 := ⟨at_154, rfl⟩
theorem d0_156 : Dec code 156 (.getstatic 76) 3 159 := ⟨at_156, rfl⟩
theorem d0_159 : Dec code 159 (.aastore) 1 160 := ⟨at_159, rfl⟩
theorem d0_160 : Dec code 160 (.dup) 1 161 := ⟨at_160, rfl⟩
theorem d0_161 : Dec code 161 (.bipush 23) 2 163 := ⟨at_161, rfl⟩
theorem d0_163 : Dec code 163 (.getstatic 79) 3 166 := ⟨at_163, rfl⟩
theorem d0_166 : Dec code 166 (.aastore) 1 167 := ⟨at_166, rfl⟩
theorem d0_167 : Dec code 167 (.dup) 1 168 := ⟨at_167, rfl⟩
theorem d0_168 : Dec code 168 (.bipush 24) 2 170 := ⟨at_168, rfl⟩
theorem d0_170 : Dec code 170 (.getstatic 82) 3 173 := ⟨at_170, rfl⟩
theorem d0_173 : Dec code 173 (.aastore) 1 174 := ⟨at_173, rfl⟩
theorem d0_174 : Dec code 174 (.dup) 1 175 := ⟨at_174, rfl⟩
theorem d0_175 : Dec code 175 (.bipush 25) 2 177 := ⟨at_175, rfl⟩
theorem d0_177 : Dec code 177 (.getstatic 85) 3 180 := ⟨at_177, rfl⟩
theorem d0_180 : Dec code 180 (.aastore) 1 181 := ⟨at_180, rfl⟩
theorem d0_181 : Dec code 181 (.dup) 1 182 := ⟨at_181, rfl⟩
theorem d0_182 : Dec code 182 (.bipush 26) 2 184 := ⟨at_182, rfl⟩
theorem d0_184 : Dec code 184 (.getstatic 88) 3 187 := ⟨at_184, rfl⟩
theorem d0_187 : Dec code 187 (.aastore) 1 188 := ⟨at_187, rfl⟩
theorem d0_188 : Dec code 188 (.astore_n 2) 1 189 := ⟨at_188, rfl⟩
theorem d0_189 : Dec code 189 (.bipush 27) 2 191 := ⟨at_189, rfl⟩
theorem d0_191 : Dec code 191 (.newarray .int) 2 193 := ⟨at_191, rfl⟩
theorem d0_193 : Dec code 193 (.dup) 1 194 := ⟨at_193, rfl⟩
theorem d0_194 : Dec code 194 (.iconst 0) 1 195 := ⟨at_194, rfl⟩
theorem d0_195 : Dec code 195 (.iconst 0) 1 196 := ⟨at_195, rfl⟩
theorem d0_196 : Dec code 196 (.iastore) 1 197 := ⟨at_196, rfl⟩
theorem d0_197 : Dec code 197 (.dup) 1 198 := ⟨at_197, rfl⟩
theorem d0_198 : Dec code 198 (.iconst 1) 1 199 := ⟨at_198, rfl⟩
theorem d0_199 : Dec code 199 (.iconst 0) 1 200 := ⟨at_199, rfl⟩
theorem d0_200 : Dec code 200 (.iastore) 1 201 := ⟨at_200, rfl⟩
theorem d0_201 : Dec code 201 (.dup) 1 202 := ⟨at_201, rfl⟩
theorem d0_202 : Dec code 202 (.iconst 2) 1 203 := ⟨at_202, rfl⟩
theorem d0_203 : Dec code 203 (.iconst 1) 1 204 := ⟨at_203, rfl⟩
theorem d0_204 : Dec code 204 (.iastore) 1 205 := ⟨at_204, rfl⟩
theorem d0_205 : Dec code 205 (.dup) 1 206 := ⟨at_205, rfl⟩
theorem d0_206 : Dec code 206 (.iconst 3) 1 207 := ⟨at_206, rfl⟩
theorem d0_207 : Dec code 207 (.iconst 1) 1 208 := ⟨at_207, rfl⟩
theorem d0_208 : Dec code 208 (.iastore) 1 209 := ⟨at_208, rfl⟩
theorem d0_209 : Dec code 209 (.dup) 1 210 := ⟨at_209, rfl⟩
theorem d0_210 : Dec code 210 (.iconst 4) 1 211 := ⟨at_210, rfl⟩
theorem d0_211 : Dec code 211 (.iconst 0) 1 212 := ⟨at_211, rfl⟩
theorem d0_212 : Dec code 212 (.iastore) 1 213 := ⟨at_212, rfl⟩
theorem d0_213 : Dec code 213 (.dup) 1 214 := ⟨at_213, rfl⟩
theorem d0_214 : Dec code 214 (.iconst 5) 1 215 := ⟨at_214, rfl⟩
theorem d0_215 : Dec code 215 (.iconst 0) 1 216 := ⟨at_215, rfl⟩
theorem d0_216 : Dec code 216 (.iastore) 1 217 := ⟨at_216, rfl⟩
theorem d0_217 : Dec code 217 (.dup) 1 218 := ⟨at_217, rfl⟩
theorem d0_218 : Dec code 218 (.bipush 6) 2 220 := ⟨at_218, rfl⟩
theorem d0_220 : Dec code 220 (.iconst 0) 1 221 := ⟨at_220, rfl⟩
theorem d0_221 : Dec code 221 (.iastore) 1 222 := ⟨at_221, rfl⟩
theorem d0_222 : Dec code 222 (.dup) 1 223 := ⟨at_222, rfl⟩
theorem d0_223 : Dec code 223 (.bipush 7) 2 225 := ⟨at_223, rfl⟩
theorem d0_225 : Dec code 225 (.iconst 0) 1 226 := ⟨at_225, rfl⟩
theorem d0_226 : Dec code 226 (.iastore) 1 227 := ⟨at_226, rfl⟩
theorem d0_227 : Dec code 227 (.dup) 1 228 := ⟨at_227, rfl⟩
theorem d0_228 : Dec code 228 (.bipush 8) 2 230 := ⟨at_228, rfl⟩
theorem d0_230 : Dec code 230 (.iconst 2) 1 231 := ⟨at_230, rfl⟩
theorem d0_231 : Dec code 231 (.iastore) 1 232 := ⟨at_231, rfl⟩
theorem d0_232 : Dec code 232 (.dup) 1 233 := ⟨at_232, rfl⟩
theorem d0_233 : Dec code 233 (.bipush 9) 2 235 := ⟨at_233, rfl⟩
theorem d0_235 : Dec code 235 (.iconst 2) 1 236 := ⟨at_235, rfl⟩
theorem d0_236 : Dec code 236 (.iastore) 1 237 := ⟨at_236, rfl⟩
theorem d0_237 : Dec code 237 (.dup) 1 238 := ⟨at_237, rfl⟩
theorem d0_238 : Dec code 238 (.bipush 10) 2 240 := ⟨at_238, rfl⟩
theorem d0_240 : Dec code 240 (.iconst 2) 1 241 := ⟨at_240, rfl⟩
theorem d0_241 : Dec code 241 (.iastore) 1 242 := ⟨at_241, rfl⟩
theorem d0_242 : Dec code 242 (.dup) 1 243 := ⟨at_242, rfl⟩
theorem d0_243 : Dec code 243 (.bipush 11) 2 245 := ⟨at_243, rfl⟩
theorem d0_245 : Dec code 245 (.iconst 2) 1 246 := ⟨at_245, rfl⟩
theorem d0_246 : Dec code 246 (.iastore) 1 247 := ⟨at_246, rfl⟩
theorem d0_247 : Dec code 247 (.dup) 1 248 := ⟨at_247, rfl⟩
theorem d0_248 : Dec code 248 (.bipush 12) 2 250 := ⟨at_248, rfl⟩
theorem d0_250 : Dec code 250 (.iconst 2) 1 251 := ⟨at_250, rfl⟩
theorem d0_251 : Dec code 251 (.iastore) 1 252 := ⟨at_251, rfl⟩
theorem d0_252 : Dec code 252 (.dup) 1 253 := ⟨at_252, rfl⟩
theorem d0_253 : Dec code 253 (.bipush 13) 2 255 := ⟨at_253, rfl⟩
theorem d0_255 : Dec code 255 (.iconst 2) 1 256 := ⟨at_255, rfl⟩
theorem d0_256 : Dec code 256 (.iastore) 1 257 := ⟨at_256, rfl⟩
theorem d0_257 : Dec code 257 (.dup) 1 258 := ⟨at_257, rfl⟩
theorem d0_258 : Dec code 258 (.bipush 14) 2 260 := ⟨at_258, rfl⟩
theorem d0_260 : Dec code 260 (.iconst 0) 1 261 := ⟨at_260, rfl⟩
theorem d0_261 : Dec code 261 (.iastore) 1 262 := ⟨at_261, rfl⟩
theorem d0_262 : Dec code 262 (.dup) 1 263 := ⟨at_262, rfl⟩
theorem d0_263 : Dec code 263 (.bipush 15) 2 265 := ⟨at_263, rfl⟩
theorem d0_265 : Dec code 265 (.iconst 0) 1 266 := ⟨at_265, rfl⟩
theorem d0_266 : Dec code 266 (.iastore) 1 267 := ⟨at_266, rfl⟩
theorem d0_267 : Dec code 267 (.dup) 1 268 := ⟨at_267, rfl⟩
theorem d0_268 : Dec code 268 (.bipush 16) 2 270 := ⟨at_268, rfl⟩
theorem d0_270 : Dec code 270 (.iconst 3) 1 271 := ⟨at_270, rfl⟩
theorem d0_271 : Dec code 271 (.iastore) 1 272 := ⟨at_271, rfl⟩
theorem d0_272 : Dec code 272 (.dup) 1 273 := ⟨at_272, rfl⟩
theorem d0_273 : Dec code 273 (.bipush 17) 2 275 := ⟨at_273, rfl⟩
theorem d0_275 : Dec code 275 (.iconst 1) 1 276 := ⟨at_275, rfl⟩
theorem d0_276 : Dec code 276 (.iastore) 1 277 := ⟨at_276, rfl⟩
theorem d0_277 : Dec code 277 (.dup) 1 278 := ⟨at_277, rfl⟩
theorem d0_278 : Dec code 278 (.bipush 18) 2 280 := ⟨at_278, rfl⟩
theorem d0_280 : Dec code 280 (.iconst 1) 1 281 := ⟨at_280, rfl⟩
theorem d0_281 : Dec code 281 (.iastore) 1 282 := ⟨at_281, rfl⟩
theorem d0_282 : Dec code 282 (.dup) 1 283 := ⟨at_282, rfl⟩
theorem d0_283 : Dec code 283 (.bipush 19) 2 285 := ⟨at_283, rfl⟩
theorem d0_285 : Dec code 285 (.iconst 0) 1 286 := ⟨at_285, rfl⟩
theorem d0_286 : Dec code 286 (.iastore) 1 287 := ⟨at_286, rfl⟩
theorem d0_287 : Dec code 287 (.dup) 1 288 := ⟨at_287, rfl⟩
theorem d0_288 : Dec code 288 (.bipush 20) 2 290 := ⟨at_288, rfl⟩
theorem d0_290 : Dec code 290 (.iconst 0) 1 291 := ⟨at_290, rfl⟩
theorem d0_291 : Dec code 291 (.iastore) 1 292 := ⟨at_291, rfl⟩
theorem d0_292 : Dec code 292 (.dup) 1 293 := ⟨at_292, rfl⟩
theorem d0_293 : Dec code 293 (.bipush 21) 2 295 := ⟨at_293, rfl⟩
theorem d0_295 : Dec code 295 (.iconst 1) 1 296 := ⟨at_295, rfl⟩
theorem d0_296 : Dec code 296 (.iastore) 1 297 := ⟨at_296, rfl⟩
theorem d0_297 : Dec code 297 (.dup) 1 298 := ⟨at_297, rfl⟩
theorem d0_298 : Dec code 298 (.bipush 22) 2 300 := ⟨at_298, rfl⟩
theorem d0_300 : Dec code 300 (.iconst 0) 1 301 := ⟨at_300, rfl⟩
theorem d0_301 : Dec code 301 (.iastore) 1 302 := ⟨at_301, rfl⟩
theorem d0_302 : Dec code 302 (.dup) 1 303 := ⟨at_302, rfl⟩
theorem d0_303 : Dec code 303 (.bipush 23) 2 305 := ⟨at_303, rfl⟩
theorem d0_305 : Dec code 305 (.iconst 1) 1 306 := ⟨at_305, rfl⟩
theorem d0_306 : Dec code 306 (.iastore) 1 307 := ⟨at_306, rfl⟩
theorem d0_307 : Dec code 307 (.dup) 1 308 := ⟨at_307, rfl⟩
theorem d0_308 : Dec code 308 (.bipush 24) 2 310 := ⟨at_308, rfl⟩
theorem d0_310 : Dec code 310 (.iconst 1) 1 311 := ⟨at_310, rfl⟩
theorem d0_311 : Dec code 311 (.iastore) 1 312 := ⟨at_311, rfl⟩
theorem d0_312 : Dec code 312 (.dup) 1 313 := ⟨at_312, rfl⟩
theorem d0_313 : Dec code 313 (.bipush 25) 2 315 := ⟨at_313, rfl⟩
theorem d0_315 : Dec code 315 (.iconst 1) 1 316 := ⟨at_315, rfl⟩
theorem d0_316 : Dec code 316 (.iastore) 1 317 := ⟨at_316, rfl⟩
theorem d0_317 : Dec code 317 (.dup) 1 318 := ⟨at_317, rfl⟩
theorem d0_318 : Dec code 318 (.bipush 26) 2 320 := ⟨at_318, rfl⟩
theorem d0_320 : Dec code 320 (.iconst 1) 1 321 := ⟨at_320, rfl⟩
theorem d0_321 : Dec code 321 (.iastore) 1 322 := ⟨at_321, rfl⟩
theorem d0_322 : Dec code 322 (.astore_n 3) 1 323 := ⟨at_322, rfl⟩
theorem d0_323 : Dec code 323 (.bipush 27) 2 325 := ⟨at_323, rfl⟩
theorem d0_325 : Dec code 325 (.newarray .int) 2 327 := ⟨at_325, rfl⟩
theorem d0_327 : Dec code 327 (.dup) 1 328 := ⟨at_327, rfl⟩
theorem d0_328 : Dec code 328 (.iconst 0) 1 329 := ⟨at_328, rfl⟩
theorem d0_329 : Dec code 329 (.iconst 0) 1 330 := ⟨at_329, rfl⟩
theorem d0_330 : Dec code 330 (.iastore) 1 331 := ⟨at_330, rfl⟩
theorem d0_331 : Dec code 331 (.dup) 1 332 := ⟨at_331, rfl⟩
theorem d0_332 : Dec code 332 (.iconst 1) 1 333 := ⟨at_332, rfl⟩
theorem d0_333 : Dec code 333 (.iconst 0) 1 334 := ⟨at_333, rfl⟩
theorem d0_334 : Dec code 334 (.iastore) 1 335 := ⟨at_334, rfl⟩
theorem d0_335 : Dec code 335 (.dup) 1 336 := ⟨at_335, rfl⟩
theorem d0_336 : Dec code 336 (.iconst 2) 1 337 := ⟨at_336, rfl⟩
theorem d0_337 : Dec code 337 (.iconst 1) 1 338 := ⟨at_337, rfl⟩
theorem d0_338 : Dec code 338 (.iastore) 1 339 := ⟨at_338, rfl⟩
theorem d0_339 : Dec code 339 (.dup) 1 340 := ⟨at_339, rfl⟩
theorem d0_340 : Dec code 340 (.iconst 3) 1 341 := ⟨at_340, rfl⟩
theorem d0_341 : Dec code 341 (.iconst 1) 1 342 := ⟨at_341, rfl⟩
theorem d0_342 : Dec code 342 (.iastore) 1 343 := ⟨at_342, rfl⟩
theorem d0_343 : Dec code 343 (.dup) 1 344 := ⟨at_343, rfl⟩
theorem d0_344 : Dec code 344 (.iconst 4) 1 345 := ⟨at_344, rfl⟩
theorem d0_345 : Dec code 345 (.iconst 1) 1 346 := ⟨at_345, rfl⟩
theorem d0_346 : Dec code 346 (.iastore) 1 347 := ⟨at_346, rfl⟩
theorem d0_347 : Dec code 347 (.dup) 1 348 := ⟨at_347, rfl⟩
theorem d0_348 : Dec code 348 (.iconst 5) 1 349 := ⟨at_348, rfl⟩
theorem d0_349 : Dec code 349 (.iconst 1) 1 350 := ⟨at_349, rfl⟩
theorem d0_350 : Dec code 350 (.iastore) 1 351 := ⟨at_350, rfl⟩
theorem d0_351 : Dec code 351 (.dup) 1 352 := ⟨at_351, rfl⟩
theorem d0_352 : Dec code 352 (.bipush 6) 2 354 := ⟨at_352, rfl⟩
theorem d0_354 : Dec code 354 (.iconst 1) 1 355 := ⟨at_354, rfl⟩
theorem d0_355 : Dec code 355 (.iastore) 1 356 := ⟨at_355, rfl⟩
theorem d0_356 : Dec code 356 (.dup) 1 357 := ⟨at_356, rfl⟩
theorem d0_357 : Dec code 357 (.bipush 7) 2 359 := ⟨at_357, rfl⟩
theorem d0_359 : Dec code 359 (.iconst 1) 1 360 := ⟨at_359, rfl⟩
theorem d0_360 : Dec code 360 (.iastore) 1 361 := ⟨at_360, rfl⟩
theorem d0_361 : Dec code 361 (.dup) 1 362 := ⟨at_361, rfl⟩
theorem d0_362 : Dec code 362 (.bipush 8) 2 364 := ⟨at_362, rfl⟩
theorem d0_364 : Dec code 364 (.ldc 93) 2 366 := ⟨at_364, rfl⟩
theorem d0_366 : Dec code 366 (.iastore) 1 367 := ⟨at_366, rfl⟩
theorem d0_367 : Dec code 367 (.dup) 1 368 := ⟨at_367, rfl⟩
theorem d0_368 : Dec code 368 (.bipush 9) 2 370 := ⟨at_368, rfl⟩
theorem d0_370 : Dec code 370 (.iconst 2) 1 371 := ⟨at_370, rfl⟩
theorem d0_371 : Dec code 371 (.iastore) 1 372 := ⟨at_371, rfl⟩
theorem d0_372 : Dec code 372 (.dup) 1 373 := ⟨at_372, rfl⟩
theorem d0_373 : Dec code 373 (.bipush 10) 2 375 := ⟨at_373, rfl⟩
theorem d0_375 : Dec code 375 (.iconst 2) 1 376 := ⟨at_375, rfl⟩
theorem d0_376 : Dec code 376 (.iastore) 1 377 := ⟨at_376, rfl⟩
theorem d0_377 : Dec code 377 (.dup) 1 378 := ⟨at_377, rfl⟩
theorem d0_378 : Dec code 378 (.bipush 11) 2 380 := ⟨at_378, rfl⟩
theorem d0_380 : Dec code 380 (.iconst 2) 1 381 := ⟨at_380, rfl⟩
theorem d0_381 : Dec code 381 (.iastore) 1 382 := ⟨at_381, rfl⟩
theorem d0_382 : Dec code 382 (.dup) 1 383 := ⟨at_382, rfl⟩
theorem d0_383 : Dec code 383 (.bipush 12) 2 385 := ⟨at_383, rfl⟩
theorem d0_385 : Dec code 385 (.iconst 2) 1 386 := ⟨at_385, rfl⟩
theorem d0_386 : Dec code 386 (.iastore) 1 387 := ⟨at_386, rfl⟩
theorem d0_387 : Dec code 387 (.dup) 1 388 := ⟨at_387, rfl⟩
theorem d0_388 : Dec code 388 (.bipush 13) 2 390 := ⟨at_388, rfl⟩
theorem d0_390 : Dec code 390 (.iconst 3) 1 391 := ⟨at_390, rfl⟩
theorem d0_391 : Dec code 391 (.iastore) 1 392 := ⟨at_391, rfl⟩
theorem d0_392 : Dec code 392 (.dup) 1 393 := ⟨at_392, rfl⟩
theorem d0_393 : Dec code 393 (.bipush 14) 2 395 := ⟨at_393, rfl⟩
theorem d0_395 : Dec code 395 (.iconst 1) 1 396 := ⟨at_395, rfl⟩
theorem d0_396 : Dec code 396 (.iastore) 1 397 := ⟨at_396, rfl⟩
theorem d0_397 : Dec code 397 (.dup) 1 398 := ⟨at_397, rfl⟩
theorem d0_398 : Dec code 398 (.bipush 15) 2 400 := ⟨at_398, rfl⟩
theorem d0_400 : Dec code 400 (.iconst 1) 1 401 := ⟨at_400, rfl⟩
theorem d0_401 : Dec code 401 (.iastore) 1 402 := ⟨at_401, rfl⟩
theorem d0_402 : Dec code 402 (.dup) 1 403 := ⟨at_402, rfl⟩
theorem d0_403 : Dec code 403 (.bipush 16) 2 405 := ⟨at_403, rfl⟩
theorem d0_405 : Dec code 405 (.iconst 3) 1 406 := ⟨at_405, rfl⟩
theorem d0_406 : Dec code 406 (.iastore) 1 407 := ⟨at_406, rfl⟩
theorem d0_407 : Dec code 407 (.dup) 1 408 := ⟨at_407, rfl⟩
theorem d0_408 : Dec code 408 (.bipush 17) 2 410 := ⟨at_408, rfl⟩
theorem d0_410 : Dec code 410 (.iconst 1) 1 411 := ⟨at_410, rfl⟩
theorem d0_411 : Dec code 411 (.iastore) 1 412 := ⟨at_411, rfl⟩
theorem d0_412 : Dec code 412 (.dup) 1 413 := ⟨at_412, rfl⟩
theorem d0_413 : Dec code 413 (.bipush 18) 2 415 := ⟨at_413, rfl⟩
theorem d0_415 : Dec code 415 (.iconst 1) 1 416 := ⟨at_415, rfl⟩
theorem d0_416 : Dec code 416 (.iastore) 1 417 := ⟨at_416, rfl⟩
theorem d0_417 : Dec code 417 (.dup) 1 418 := ⟨at_417, rfl⟩
theorem d0_418 : Dec code 418 (.bipush 19) 2 420 := ⟨at_418, rfl⟩
theorem d0_420 : Dec code 420 (.iconst 0) 1 421 := ⟨at_420, rfl⟩
theorem d0_421 : Dec code 421 (.iastore) 1 422 := ⟨at_421, rfl⟩
theorem d0_422 : Dec code 422 (.dup) 1 423 := ⟨at_422, rfl⟩
theorem d0_423 : Dec code 423 (.bipush 20) 2 425 := ⟨at_423, rfl⟩
theorem d0_425 : Dec code 425 (.iconst 0) 1 426 := ⟨at_425, rfl⟩
theorem d0_426 : Dec code 426 (.iastore) 1 427 := ⟨at_426, rfl⟩
theorem d0_427 : Dec code 427 (.dup) 1 428 := ⟨at_427, rfl⟩
theorem d0_428 : Dec code 428 (.bipush 21) 2 430 := ⟨at_428, rfl⟩
theorem d0_430 : Dec code 430 (.iconst 1) 1 431 := ⟨at_430, rfl⟩
theorem d0_431 : Dec code 431 (.iastore) 1 432 := ⟨at_431, rfl⟩
theorem d0_432 : Dec code 432 (.dup) 1 433 := ⟨at_432, rfl⟩
theorem d0_433 : Dec code 433 (.bipush 22) 2 435 := ⟨at_433, rfl⟩
theorem d0_435 : Dec code 435 (.iconst 1) 1 436 := ⟨at_435, rfl⟩
theorem d0_436 : Dec code 436 (.iastore) 1 437 := ⟨at_436, rfl⟩
theorem d0_437 : Dec code 437 (.dup) 1 438 := ⟨at_437, rfl⟩
theorem d0_438 : Dec code 438 (.bipush 23) 2 440 := ⟨at_438, rfl⟩
theorem d0_440 : Dec code 440 (.iconst 1) 1 441 := ⟨at_440, rfl⟩
theorem d0_441 : Dec code 441 (.iastore) 1 442 := ⟨at_441, rfl⟩
theorem d0_442 : Dec code 442 (.dup) 1 443 := ⟨at_442, rfl⟩
theorem d0_443 : Dec code 443 (.bipush 24) 2 445 := ⟨at_443, rfl⟩
theorem d0_445 : Dec code 445 (.iconst 1) 1 446 := ⟨at_445, rfl⟩
theorem d0_446 : Dec code 446 (.iastore) 1 447 := ⟨at_446, rfl⟩
theorem d0_447 : Dec code 447 (.dup) 1 448 := ⟨at_447, rfl⟩
theorem d0_448 : Dec code 448 (.bipush 25) 2 450 := ⟨at_448, rfl⟩
theorem d0_450 : Dec code 450 (.iconst 1) 1 451 := ⟨at_450, rfl⟩
theorem d0_451 : Dec code 451 (.iastore) 1 452 := ⟨at_451, rfl⟩
theorem d0_452 : Dec code 452 (.dup) 1 453 := ⟨at_452, rfl⟩
theorem d0_453 : Dec code 453 (.bipush 26) 2 455 := ⟨at_453, rfl⟩
theorem d0_455 : Dec code 455 (.iconst 1) 1 456 := ⟨at_455, rfl⟩
theorem d0_456 : Dec code 456 (.iastore) 1 457 := ⟨at_456, rfl⟩
theorem d0_457 : Dec code 457 (.astore 4) 2 459 := ⟨at_457, rfl⟩
theorem d0_459 : Dec code 459 (.iload_n 0) 1 460 := ⟨at_459, rfl⟩
theorem d0_460 : Dec code 460 (.ldc 93) 2 462 := ⟨at_460, rfl⟩
theorem d0_462 : Dec code 462 (.iand) 1 463 := ⟨at_462, rfl⟩
theorem d0_463 : Dec code 463 (.bipush 27) 2 465 := ⟨at_463, rfl⟩
theorem d0_465 : Dec code 465 (.irem) 1 466 := ⟨at_465, rfl⟩
theorem d0_466 : Dec code 466 (.istore 5) 2 468 := ⟨at_466, rfl⟩
theorem d0_468 : Dec code 468 (.iload_n 1) 1 469 := ⟨at_468, rfl⟩
theorem d0_469 : Dec code 469 (.aload_n 3) 1 470 := ⟨at_469, rfl⟩
theorem d0_470 : Dec code 470 (.iload 5) 2 472 := ⟨at_470, rfl⟩
theorem d0_472 : Dec code 472 (.iaload) 1 473 := ⟨at_472, rfl⟩
theorem d0_473 : DecB code 473 (.if_icmp .lt 16) (16) 476 489 := ⟨at_473, rfl, by decide, by decide⟩
theorem d0_476 : Dec code 476 (.iload_n 1) 1 477 := ⟨at_476, rfl⟩
theorem d0_477 : Dec code 477 (.aload 4) 2 479 := ⟨at_477, rfl⟩
theorem d0_479 : Dec code 479 (.iload 5) 2 481 := ⟨at_479, rfl⟩
theorem d0_481 : Dec code 481 (.iaload) 1 482 := ⟨at_481, rfl⟩
theorem d0_482 : DecB code 482 (.if_icmp .gt 7) (7) 485 489 := ⟨at_482, rfl, by decide, by decide⟩
theorem d0_485 : Dec code 485 (.iconst 1) 1 486 := ⟨at_485, rfl⟩
theorem d0_486 : DecB code 486 (.goto 4) (4) 489 490 := ⟨at_486, rfl, by decide, by decide⟩
theorem d0_489 : Dec code 489 (.iconst 0) 1 490 := ⟨at_489, rfl⟩
theorem d0_490 : Dec code 490 (.istore 6) 2 492 := ⟨at_490, rfl⟩
theorem d0_492 : Dec code 492 (.aload_n 2) 1 493 := ⟨at_492, rfl⟩
theorem d0_493 : Dec code 493 (.iload 5) 2 495 := ⟨at_493, rfl⟩
theorem d0_495 : Dec code 495 (.aaload) 1 496 := ⟨at_495, rfl⟩
theorem d0_496 : Dec code 496 (.iload_n 1) 1 497 := ⟨at_496, rfl⟩
theorem d0_497 : Dec code 497 (.invokevirtual 94) 3 500 := ⟨at_497, rfl⟩
theorem d0_500 : Dec code 500 (.iload 6) 2 502 := ⟨at_500, rfl⟩
theorem d0_502 : DecB code 502 (.if_icmp .ne 7) (7) 505 509 := ⟨at_502, rfl, by decide, by decide⟩
theorem d0_505 : Dec code 505 (.iconst 1) 1 506 := ⟨at_505, rfl⟩
theorem d0_506 : DecB code 506 (.goto 4) (4) 509 510 := ⟨at_506, rfl, by decide, by decide⟩
theorem d0_510 : Dec code 510 (.ireturn) 1 511 := ⟨at_510, rfl⟩
theorem pn0 : plainName "com/example/strict_model/strictmodel/FunctionTakesPinLaw" = true := by first | (simp [plainName, overriddenIn]; done) | decide +kernel
theorem ef0 (x0 : Int32) (x1 : Int32) (m : MethodId) : entryFrame m #[(.int x0), (.int x1)] maxLocals = mkF m 0 #[.val (.int x0), .val (.int x1), .unset, .unset, .unset, .unset, .unset] [] := by first | (simp [entryFrame, mkF, argsToLocals, Value.category, maxLocals]; done) | rfl
set_option maxRecDepth 65536 in
set_option maxHeartbeats 40000000 in
theorem rm0 (l : Launch) (Z : State) (a0 : Array Value) (hw : ∀ d ∈ tables_1, d.before a0 Z = true) (ws : List Jvm.Cond) (p1 p2 : Int32) (A : Nat → Addr) (h0 : Heap) (hS : own_S Z h0 A) (hE : ∀ k, k < 27 → Exa Z h0 (A k) "com/example/strict_model/strictmodel/XPathFunctions$Function") (hM : ∀ k, k < 27 → Fld Z h0 (A k) "com/example/strict_model/strictmodel/XPathFunctions$Function" "minimum" "I" (.int (own_lo.getD k 0)) ∧ Fld Z h0 (A k) "com/example/strict_model/strictmodel/XPathFunctions$Function" "maximum" "I" (.int (own_hi.getD k 0))) : Ct l Z x code maxLocals ret ws room_1 #[(.int p1), (.int p2)] h0 (fun v h L => v = some (.int 1) ∧ Fr h0.size L) := by
  refine Ct.of (pn0) _ (ef0 p1 p2) ?_
  intro p e s m below meth c T0 hx hby hml hZ hown hnm hret hk e0 X0
  obtain ⟨n, hn, hi⟩ := own_idx p1
  show Go p e below _ (T0.setTop (mkF m 0 #[.val (.int p1), .val (.int p2), .unset, .unset, .unset, .unset, .unset] []))
  refine go_bipush X0 hx (27) (dc hby d0_0) rfl ?_
  refine go_newR X0 hx hZ hown (hw _ (List.mem_of_getElem? (i := 0) rfl)) (hw _ (List.mem_of_getElem? (i := 1) rfl)) e0 (dc hby d0_2) (by decide) 27 (by decide) (by decide) (by decide) (by decide) (fun T1 h1 cF fa gF X1 e1 EF AF OF => ?_)
  have hfa : h0.size ≤ fa := Nat.le_of_eq gF.symm
  have NF := Fr.nil h0.size
  have K : Keep h0 h1 [] := (Keep.refl _ _).ext EF
  have VF : Arv Z h1 fa cF (.object "com/example/strict_model/strictmodel/XPathFunctions$Function") 27 [.null, .null, .null, .null, .null, .null, .null, .null, .null, .null, .null, .null, .null, .null, .null, .null, .null, .null, .null, .null, .null, .null, .null, .null, .null, .null, .null] .null := (Arv.new AF (by decide)).pad (own_rep (n := 27))
  refine go_dup X1 hx (dc hby d0_5) rfl ?_
  refine go_iconst X1 hx (0) (dc hby d0_6) rfl ?_
  refine go_getS X1 hx hZ (host := "") hown (hw _ (List.mem_of_getElem? (i := 2) rfl)) Via.refl e1 (own_staK hS.1 K) (dc hby d0_7) (fun T2 X2 e2 => ?_)
  refine go_aastoreV X2 hx hZ e2 VF OF (Ins.self ((hE 0 (by decide)).keep K)) ⟨by decide, by decide⟩ 0 (by decide) (by simp only [List.length_cons, List.length_nil]; decide) (dc hby d0_10) (fun T3 h3 X3 e3 W3 VF' => ?_)
  replace NF := Fr.snoc X3 NF hfa
  replace K := K.wr W3 (Or.inr hfa)
  replace VF : Arv Z h3 fa cF (.object "com/example/strict_model/strictmodel/XPathFunctions$Function") 27 [.ref (A 0), .null, .null, .null, .null, .null, .null, .null, .null, .null, .null, .null, .null, .null, .null, .null, .null, .null, .null, .null, .null, .null, .null, .null, .null, .null, .null] .null := VF'
  refine go_dup X3 hx (dc hby d0_11) rfl ?_
  refine go_iconst X3 hx (1) (dc hby d0_12) rfl ?_
  refine go_getS X3 hx hZ (host := "") hown (hw _ (List.mem_of_getElem? (i := 6) rfl)) Via.refl e3 (own_staK hS.2.1 K) (dc hby d0_13) (fun T4 X4 e4 => ?_)
  refine go_aastoreV X4 hx hZ e4 VF OF (Ins.self ((hE 1 (by decide)).keep K)) ⟨by decide, by decide⟩ 1 (by decide) (by simp only [List.length_cons, List.length_nil]; decide) (dc hby d0_16) (fun T5 h5 X5 e5 W5 VF' => ?_)
  replace NF := Fr.snoc X5 NF hfa
  replace K := K.wr W5 (Or.inr hfa)
  replace VF : Arv Z h5 fa cF (.object "com/example/strict_model/strictmodel/XPathFunctions$Function") 27 [.ref (A 0), .ref (A 1), .null, .null, .null, .null, .null, .null, .null, .null, .null, .null, .null, .null, .null, .null, .null, .null, .null, .null, .null, .null, .null, .null, .null, .null, .null] .null := VF'
  refine go_dup X5 hx (dc hby d0_17) rfl ?_
  refine go_iconst X5 hx (2) (dc hby d0_18) rfl ?_
  refine go_getS X5 hx hZ (host := "") hown (hw _ (List.mem_of_getElem? (i := 8) rfl)) Via.refl e5 (own_staK hS.2.2.1 K) (dc hby d0_19) (fun T6 X6 e6 => ?_)
  refine go_aastoreV X6 hx hZ e6 VF OF (Ins.self ((hE 2 (by decide)).keep K)) ⟨by decide, by decide⟩ 2 (by decide) (by simp only [List.length_cons, List.length_nil]; decide) (dc hby d0_22) (fun T7 h7 X7 e7 W7 VF' => ?_)
  replace NF := Fr.snoc X7 NF hfa
  replace K := K.wr W7 (Or.inr hfa)
  replace VF : Arv Z h7 fa cF (.object "com/example/strict_model/strictmodel/XPathFunctions$Function") 27 [.ref (A 0), .ref (A 1), .ref (A 2), .null, .null, .null, .null, .null, .null, .null, .null, .null, .null, .null, .null, .null, .null, .null, .null, .null, .null, .null, .null, .null, .null, .null, .null] .null := VF'
  refine go_dup X7 hx (dc hby d0_23) rfl ?_
  refine go_iconst X7 hx (3) (dc hby d0_24) rfl ?_
  refine go_getS X7 hx hZ (host := "") hown (hw _ (List.mem_of_getElem? (i := 10) rfl)) Via.refl e7 (own_staK hS.2.2.2.1 K) (dc hby d0_25) (fun T8 X8 e8 => ?_)
  refine go_aastoreV X8 hx hZ e8 VF OF (Ins.self ((hE 3 (by decide)).keep K)) ⟨by decide, by decide⟩ 3 (by decide) (by simp only [List.length_cons, List.length_nil]; decide) (dc hby d0_28) (fun T9 h9 X9 e9 W9 VF' => ?_)
  replace NF := Fr.snoc X9 NF hfa
  replace K := K.wr W9 (Or.inr hfa)
  replace VF : Arv Z h9 fa cF (.object "com/example/strict_model/strictmodel/XPathFunctions$Function") 27 [.ref (A 0), .ref (A 1), .ref (A 2), .ref (A 3), .null, .null, .null, .null, .null, .null, .null, .null, .null, .null, .null, .null, .null, .null, .null, .null, .null, .null, .null, .null, .null, .null, .null] .null := VF'
  refine go_dup X9 hx (dc hby d0_29) rfl ?_
  refine go_iconst X9 hx (4) (dc hby d0_30) rfl ?_
  refine go_getS X9 hx hZ (host := "") hown (hw _ (List.mem_of_getElem? (i := 12) rfl)) Via.refl e9 (own_staK hS.2.2.2.2.1 K) (dc hby d0_31) (fun T10 X10 e10 => ?_)
  refine go_aastoreV X10 hx hZ e10 VF OF (Ins.self ((hE 4 (by decide)).keep K)) ⟨by decide, by decide⟩ 4 (by decide) (by simp only [List.length_cons, List.length_nil]; decide) (dc hby d0_34) (fun T11 h11 X11 e11 W11 VF' => ?_)
  replace NF := Fr.snoc X11 NF hfa
  replace K := K.wr W11 (Or.inr hfa)
  replace VF : Arv Z h11 fa cF (.object "com/example/strict_model/strictmodel/XPathFunctions$Function") 27 [.ref (A 0), .ref (A 1), .ref (A 2), .ref (A 3), .ref (A 4), .null, .null, .null, .null, .null, .null, .null, .null, .null, .null, .null, .null, .null, .null, .null, .null, .null, .null, .null, .null, .null, .null] .null := VF'
  refine go_dup X11 hx (dc hby d0_35) rfl ?_
  refine go_iconst X11 hx (5) (dc hby d0_36) rfl ?_
  refine go_getS X11 hx hZ (host := "") hown (hw _ (List.mem_of_getElem? (i := 14) rfl)) Via.refl e11 (own_staK hS.2.2.2.2.2.1 K) (dc hby d0_37) (fun T12 X12 e12 => ?_)
  refine go_aastoreV X12 hx hZ e12 VF OF (Ins.self ((hE 5 (by decide)).keep K)) ⟨by decide, by decide⟩ 5 (by decide) (by simp only [List.length_cons, List.length_nil]; decide) (dc hby d0_40) (fun T13 h13 X13 e13 W13 VF' => ?_)
  replace NF := Fr.snoc X13 NF hfa
  replace K := K.wr W13 (Or.inr hfa)
  replace VF : Arv Z h13 fa cF (.object "com/example/strict_model/strictmodel/XPathFunctions$Function") 27 [.ref (A 0), .ref (A 1), .ref (A 2), .ref (A 3), .ref (A 4), .ref (A 5), .null, .null, .null, .null, .null, .null, .null, .null, .null, .null, .null, .null, .null, .null, .null, .null, .null, .null, .null, .null, .null] .null := VF'
  refine go_dup X13 hx (dc hby d0_41) rfl ?_
  refine go_bipush X13 hx (6) (dc hby d0_42) rfl ?_
  refine go_getS X13 hx hZ (host := "") hown (hw _ (List.mem_of_getElem? (i := 16) rfl)) Via.refl e13 (own_staK hS.2.2.2.2.2.2.1 K) (dc hby d0_44) (fun T14 X14 e14 => ?_)
  refine go_aastoreV X14 hx hZ e14 VF OF (Ins.self ((hE 6 (by decide)).keep K)) ⟨by decide, by decide⟩ 6 (by decide) (by simp only [List.length_cons, List.length_nil]; decide) (dc hby d0_47) (fun T15 h15 X15 e15 W15 VF' => ?_)
  replace NF := Fr.snoc X15 NF hfa
  replace K := K.wr W15 (Or.inr hfa)
  replace VF : Arv Z h15 fa cF (.object "com/example/strict_model/strictmodel/XPathFunctions$Function") 27 [.ref (A 0), .ref (A 1), .ref (A 2), .ref (A 3), .ref (A 4), .ref (A 5), .ref (A 6), .null, .null, .null, .null, .null, .null, .null, .null, .null, .null, .null, .null, .null, .null, .null, .null, .null, .null, .null, .null] .null := VF'
  refine go_dup X15 hx (dc hby d0_48) rfl ?_
  refine go_bipush X15 hx (7) (dc hby d0_49) rfl ?_
  refine go_getS X15 hx hZ (host := "") hown (hw _ (List.mem_of_getElem? (i := 18) rfl)) Via.refl e15 (own_staK hS.2.2.2.2.2.2.2.1 K) (dc hby d0_51) (fun T16 X16 e16 => ?_)
  refine go_aastoreV X16 hx hZ e16 VF OF (Ins.self ((hE 7 (by decide)).keep K)) ⟨by decide, by decide⟩ 7 (by decide) (by simp only [List.length_cons, List.length_nil]; decide) (dc hby d0_54) (fun T17 h17 X17 e17 W17 VF' => ?_)
  replace NF := Fr.snoc X17 NF hfa
  replace K := K.wr W17 (Or.inr hfa)
  replace VF : Arv Z h17 fa cF (.object "com/example/strict_model/strictmodel/XPathFunctions$Function") 27 [.ref (A 0), .ref (A 1), .ref (A 2), .ref (A 3), .ref (A 4), .ref (A 5), .ref (A 6), .ref (A 7), .null, .null, .null, .null, .null, .null, .null, .null, .null, .null, .null, .null, .null, .null, .null, .null, .null, .null, .null] .null := VF'
  refine go_dup X17 hx (dc hby d0_55) rfl ?_
  refine go_bipush X17 hx (8) (dc hby d0_56) rfl ?_
  refine go_getS X17 hx hZ (host := "") hown (hw _ (List.mem_of_getElem? (i := 20) rfl)) Via.refl e17 (own_staK hS.2.2.2.2.2.2.2.2.1 K) (dc hby d0_58) (fun T18 X18 e18 => ?_)
  refine go_aastoreV X18 hx hZ e18 VF OF (Ins.self ((hE 8 (by decide)).keep K)) ⟨by decide, by decide⟩ 8 (by decide) (by simp only [List.length_cons, List.length_nil]; decide) (dc hby d0_61) (fun T19 h19 X19 e19 W19 VF' => ?_)
  replace NF := Fr.snoc X19 NF hfa
  replace K := K.wr W19 (Or.inr hfa)
  replace VF : Arv Z h19 fa cF (.object "com/example/strict_model/strictmodel/XPathFunctions$Function") 27 [.ref (A 0), .ref (A 1), .ref (A 2), .ref (A 3), .ref (A 4), .ref (A 5), .ref (A 6), .ref (A 7), .ref (A 8), .null, .null, .null, .null, .null, .null, .null, .null, .null, .null, .null, .null, .null, .null, .null, .null, .null, .null] .null := VF'
  refine go_dup X19 hx (dc hby d0_62) rfl ?_
  refine go_bipush X19 hx (9) (dc hby d0_63) rfl ?_
  refine go_getS X19 hx hZ (host := "") hown (hw _ (List.mem_of_getElem? (i := 22) rfl)) Via.refl e19 (own_staK hS.2.2.2.2.2.2.2.2.2.1 K) (dc hby d0_65) (fun T20 X20 e20 => ?_)
  refine go_aastoreV X20 hx hZ e20 VF OF (Ins.self ((hE 9 (by decide)).keep K)) ⟨by decide, by decide⟩ 9 (by decide) (by simp only [List.length_cons, List.length_nil]; decide) (dc hby d0_68) (fun T21 h21 X21 e21 W21 VF' => ?_)
  replace NF := Fr.snoc X21 NF hfa
  replace K := K.wr W21 (Or.inr hfa)
  replace VF : Arv Z h21 fa cF (.object "com/example/strict_model/strictmodel/XPathFunctions$Function") 27 [.ref (A 0), .ref (A 1), .ref (A 2), .ref (A 3), .ref (A 4), .ref (A 5), .ref (A 6), .ref (A 7), .ref (A 8), .ref (A 9), .null, .null, .null, .null, .null, .null, .null, .null, .null, .null, .null, .null, .null, .null, .null, .null, .null] .null := VF'
  refine go_dup X21 hx (dc hby d0_69) rfl ?_
  refine go_bipush X21 hx (10) (dc hby d0_70) rfl ?_
  refine go_getS X21 hx hZ (host := "") hown (hw _ (List.mem_of_getElem? (i := 24) rfl)) Via.refl e21 (own_staK hS.2.2.2.2.2.2.2.2.2.2.1 K) (dc hby d0_72) (fun T22 X22 e22 => ?_)
  refine go_aastoreV X22 hx hZ e22 VF OF (Ins.self ((hE 10 (by decide)).keep K)) ⟨by decide, by decide⟩ 10 (by decide) (by simp only [List.length_cons, List.length_nil]; decide) (dc hby d0_75) (fun T23 h23 X23 e23 W23 VF' => ?_)
  replace NF := Fr.snoc X23 NF hfa
  replace K := K.wr W23 (Or.inr hfa)
  replace VF : Arv Z h23 fa cF (.object "com/example/strict_model/strictmodel/XPathFunctions$Function") 27 [.ref (A 0), .ref (A 1), .ref (A 2), .ref (A 3), .ref (A 4), .ref (A 5), .ref (A 6), .ref (A 7), .ref (A 8), .ref (A 9), .ref (A 10), .null, .null, .null, .null, .null, .null, .null, .null, .null, .null, .null, .null, .null, .null, .null, .null] .null := VF'
  refine go_dup X23 hx (dc hby d0_76) rfl ?_
  refine go_bipush X23 hx (11) (dc hby d0_77) rfl ?_
  refine go_getS X23 hx hZ (host := "") hown (hw _ (List.mem_of_getElem? (i := 26) rfl)) Via.refl e23 (own_staK hS.2.2.2.2.2.2.2.2.2.2.2.1 K) (dc hby d0_79) (fun T24 X24 e24 => ?_)
  refine go_aastoreV X24 hx hZ e24 VF OF (Ins.self ((hE 11 (by decide)).keep K)) ⟨by decide, by decide⟩ 11 (by decide) (by simp only [List.length_cons, List.length_nil]; decide) (dc hby d0_82) (fun T25 h25 X25 e25 W25 VF' => ?_)
  replace NF := Fr.snoc X25 NF hfa
  replace K := K.wr W25 (Or.inr hfa)
  replace VF : Arv Z h25 fa cF (.object "com/example/strict_model/strictmodel/XPathFunctions$Function") 27 [.ref (A 0), .ref (A 1), .ref (A 2), .ref (A 3), .ref (A 4), .ref (A 5), .ref (A 6), .ref (A 7), .ref (A 8), .ref (A 9), .ref (A 10), .ref (A 11), .null, .null, .null, .null, .null, .null, .null, .null, .null, .null, .null, .null, .null, .null, .null] .null := VF'
  refine go_dup X25 hx (dc hby d0_83) rfl ?_
  refine go_bipush X25 hx (12) (dc hby d0_84) rfl ?_
  refine go_getS X25 hx hZ (host := "") hown (hw _ (List.mem_of_getElem? (i := 28) rfl)) Via.refl e25 (own_staK hS.2.2.2.2.2.2.2.2.2.2.2.2.1 K) (dc hby d0_86) (fun T26 X26 e26 => ?_)
  refine go_aastoreV X26 hx hZ e26 VF OF (Ins.self ((hE 12 (by decide)).keep K)) ⟨by decide, by decide⟩ 12 (by decide) (by simp only [List.length_cons, List.length_nil]; decide) (dc hby d0_89) (fun T27 h27 X27 e27 W27 VF' => ?_)
  replace NF := Fr.snoc X27 NF hfa
  replace K := K.wr W27 (Or.inr hfa)
  replace VF : Arv Z h27 fa cF (.object "com/example/strict_model/strictmodel/XPathFunctions$Function") 27 [.ref (A 0), .ref (A 1), .ref (A 2), .ref (A 3), .ref (A 4), .ref (A 5), .ref (A 6), .ref (A 7), .ref (A 8), .ref (A 9), .ref (A 10), .ref (A 11), .ref (A 12), .null, .null, .null, .null, .null, .null, .null, .null, .null, .null, .null, .null, .null, .null] .null := VF'
  refine go_dup X27 hx (dc hby d0_90) rfl ?_
  refine go_bipush X27 hx (13) (dc hby d0_91) rfl ?_
  refine go_getS X27 hx hZ (host := "") hown (hw _ (List.mem_of_getElem? (i := 30) rfl)) Via.refl e27 (own_staK hS.2.2.2.2.2.2.2.2.2.2.2.2.2.1 K) (dc hby d0_93) (fun T28 X28 e28 => ?_)
  refine go_aastoreV X28 hx hZ e28 VF OF (Ins.self ((hE 13 (by decide)).keep K)) ⟨by decide, by decide⟩ 13 (by decide) (by simp only [List.length_cons, List.length_nil]; decide) (dc hby d0_96) (fun T29 h29 X29 e29 W29 VF' => ?_)
  replace NF := Fr.snoc X29 NF hfa
  replace K := K.wr W29 (Or.inr hfa)
  replace VF : Arv Z h29 fa cF (.object "com/example/strict_model/strictmodel/XPathFunctions$Function") 27 [.ref (A 0), .ref (A 1), .ref (A 2), .ref (A 3), .ref (A 4), .ref (A 5), .ref (A 6), .ref (A 7), .ref (A 8), .ref (A 9), .ref (A 10), .ref (A 11), .ref (A 12), .ref (A 13), .null, .null, .null, .null, .null, .null, .null, .null, .null, .null, .null, .null, .null] .null := VF'
  refine go_dup X29 hx (dc hby d0_97) rfl ?_
  refine go_bipush X29 hx (14) (dc hby d0_98) rfl ?_
  refine go_getS X29 hx hZ (host := "") hown (hw _ (List.mem_of_getElem? (i := 32) rfl)) Via.refl e29 (own_staK hS.2.2.2.2.2.2.2.2.2.2.2.2.2.2.1 K) (dc hby d0_100) (fun T30 X30 e30 => ?_)
  refine go_aastoreV X30 hx hZ e30 VF OF (Ins.self ((hE 14 (by decide)).keep K)) ⟨by decide, by decide⟩ 14 (by decide) (by simp only [List.length_cons, List.length_nil]; decide) (dc hby d0_103) (fun T31 h31 X31 e31 W31 VF' => ?_)
  replace NF := Fr.snoc X31 NF hfa
  replace K := K.wr W31 (Or.inr hfa)
  replace VF : Arv Z h31 fa cF (.object "com/example/strict_model/strictmodel/XPathFunctions$Function") 27 [.ref (A 0), .ref (A 1), .ref (A 2), .ref (A 3), .ref (A 4), .ref (A 5), .ref (A 6), .ref (A 7), .ref (A 8), .ref (A 9), .ref (A 10), .ref (A 11), .ref (A 12), .ref (A 13), .ref (A 14), .null, .null, .null, .null, .null, .null, .null, .null, .null, .null, .null, .null] .null := VF'
  refine go_dup X31 hx (dc hby d0_104) rfl ?_
  refine go_bipush X31 hx (15) (dc hby d0_105) rfl ?_
  refine go_getS X31 hx hZ (host := "") hown (hw _ (List.mem_of_getElem? (i := 34) rfl)) Via.refl e31 (own_staK hS.2.2.2.2.2.2.2.2.2.2.2.2.2.2.2.1 K) (dc hby d0_107) (fun T32 X32 e32 => ?_)
  refine go_aastoreV X32 hx hZ e32 VF OF (Ins.self ((hE 15 (by decide)).keep K)) ⟨by decide, by decide⟩ 15 (by decide) (by simp only [List.length_cons, List.length_nil]; decide) (dc hby d0_110) (fun T33 h33 X33 e33 W33 VF' => ?_)
  replace NF := Fr.snoc X33 NF hfa
  replace K := K.wr W33 (Or.inr hfa)
  replace VF : Arv Z h33 fa cF (.object "com/example/strict_model/strictmodel/XPathFunctions$Function") 27 [.ref (A 0), .ref (A 1), .ref (A 2), .ref (A 3), .ref (A 4), .ref (A 5), .ref (A 6), .ref (A 7), .ref (A 8), .ref (A 9), .ref (A 10), .ref (A 11), .ref (A 12), .ref (A 13), .ref (A 14), .ref (A 15), .null, .null, .null, .null, .null, .null, .null, .null, .null, .null, .null] .null := VF'
  refine go_dup X33 hx (dc hby d0_111) rfl ?_
  refine go_bipush X33 hx (16) (dc hby d0_112) rfl ?_
  refine go_getS X33 hx hZ (host := "") hown (hw _ (List.mem_of_getElem? (i := 36) rfl)) Via.refl e33 (own_staK hS.2.2.2.2.2.2.2.2.2.2.2.2.2.2.2.2.1 K) (dc hby d0_114) (fun T34 X34 e34 => ?_)
  refine go_aastoreV X34 hx hZ e34 VF OF (Ins.self ((hE 16 (by decide)).keep K)) ⟨by decide, by decide⟩ 16 (by decide) (by simp only [List.length_cons, List.length_nil]; decide) (dc hby d0_117) (fun T35 h35 X35 e35 W35 VF' => ?_)
  replace NF := Fr.snoc X35 NF hfa
  replace K := K.wr W35 (Or.inr hfa)
  replace VF : Arv Z h35 fa cF (.object "com/example/strict_model/strictmodel/XPathFunctions$Function") 27 [.ref (A 0), .ref (A 1), .ref (A 2), .ref (A 3), .ref (A 4), .ref (A 5), .ref (A 6), .ref (A 7), .ref (A 8), .ref (A 9), .ref (A 10), .ref (A 11), .ref (A 12), .ref (A 13), .ref (A 14), .ref (A 15), .ref (A 16), .null, .null, .null, .null, .null, .null, .null, .null, .null, .null] .null := VF'
  refine go_dup X35 hx (dc hby d0_118) rfl ?_
  refine go_bipush X35 hx (17) (dc hby d0_119) rfl ?_
  refine go_getS X35 hx hZ (host := "") hown (hw _ (List.mem_of_getElem? (i := 38) rfl)) Via.refl e35 (own_staK hS.2.2.2.2.2.2.2.2.2.2.2.2.2.2.2.2.2.1 K) (dc hby d0_121) (fun T36 X36 e36 => ?_)
  refine go_aastoreV X36 hx hZ e36 VF OF (Ins.self ((hE 17 (by decide)).keep K)) ⟨by decide, by decide⟩ 17 (by decide) (by simp only [List.length_cons, List.length_nil]; decide) (dc hby d0_124) (fun T37 h37 X37 e37 W37 VF' => ?_)
  replace NF := Fr.snoc X37 NF hfa
  replace K := K.wr W37 (Or.inr hfa)
  replace VF : Arv Z h37 fa cF (.object "com/example/strict_model/strictmodel/XPathFunctions$Function") 27 [.ref (A 0), .ref (A 1), .ref (A 2), .ref (A 3), .ref (A 4), .ref (A 5), .ref (A 6), .ref (A 7), .ref (A 8), .ref (A 9), .ref (A 10), .ref (A 11), .ref (A 12), .ref (A 13), .ref (A 14), .ref (A 15), .ref (A 16), .ref (A 17), .null, .null, .null, .null, .null, .null, .null, .null, .null] .null := VF'
  refine go_dup X37 hx (dc hby d0_125) rfl ?_
  refine go_bipush X37 hx (18) (dc hby d0_126) rfl ?_
  refine go_getS X37 hx hZ (host := "") hown (hw _ (List.mem_of_getElem? (i := 40) rfl)) Via.refl e37 (own_staK hS.2.2.2.2.2.2.2.2.2.2.2.2.2.2.2.2.2.2.1 K) (dc hby d0_128) (fun T38 X38 e38 => ?_)
  refine go_aastoreV X38 hx hZ e38 VF OF (Ins.self ((hE 18 (by decide)).keep K)) ⟨by decide, by decide⟩ 18 (by decide) (by simp only [List.length_cons, List.length_nil]; decide) (dc hby d0_131) (fun T39 h39 X39 e39 W39 VF' => ?_)
  replace NF := Fr.snoc X39 NF hfa
  replace K := K.wr W39 (Or.inr hfa)
  replace VF : Arv Z h39 fa cF (.object "com/example/strict_model/strictmodel/XPathFunctions$Function") 27 [.ref (A 0), .ref (A 1), .ref (A 2), .ref (A 3), .ref (A 4), .ref (A 5), .ref (A 6), .ref (A 7), .ref (A 8), .ref (A 9), .ref (A 10), .ref (A 11), .ref (A 12), .ref (A 13), .ref (A 14), .ref (A 15), .ref (A 16), .ref (A 17), .ref (A 18), .null, .null, .null, .null, .null, .null, .null, .null] .null := VF'
  refine go_dup X39 hx (dc hby d0_132) rfl ?_
  refine go_bipush X39 hx (19) (dc hby d0_133) rfl ?_
  refine go_getS X39 hx hZ (host := "") hown (hw _ (List.mem_of_getElem? (i := 42) rfl)) Via.refl e39 (own_staK hS.2.2.2.2.2.2.2.2.2.2.2.2.2.2.2.2.2.2.2.1 K) (dc hby d0_135) (fun T40 X40 e40 => ?_)
  refine go_aastoreV X40 hx hZ e40 VF OF (Ins.self ((hE 19 (by decide)).keep K)) ⟨by decide, by decide⟩ 19 (by decide) (by simp only [List.length_cons, List.length_nil]; decide) (dc hby d0_138) (fun T41 h41 X41 e41 W41 VF' => ?_)
  replace NF := Fr.snoc X41 NF hfa
  replace K := K.wr W41 (Or.inr hfa)
  replace VF : Arv Z h41 fa cF (.object "com/example/strict_model/strictmodel/XPathFunctions$Function") 27 [.ref (A 0), .ref (A 1), .ref (A 2), .ref (A 3), .ref (A 4), .ref (A 5), .ref (A 6), .ref (A 7), .ref (A 8), .ref (A 9), .ref (A 10), .ref (A 11), .ref (A 12), .ref (A 13), .ref (A 14), .ref (A 15), .ref (A 16), .ref (A 17), .ref (A 18), .ref (A 19), .null, .null, .null, .null, .null, .null, .null] .null := VF'
  refine go_dup X41 hx (dc hby d0_139) rfl ?_
  refine go_bipush X41 hx (20) (dc hby d0_140) rfl ?_
  refine go_getS X41 hx hZ (host := "") hown (hw _ (List.mem_of_getElem? (i := 44) rfl)) Via.refl e41 (own_staK hS.2.2.2.2.2.2.2.2.2.2.2.2.2.2.2.2.2.2.2.2.1 K) (dc hby d0_142) (fun T42 X42 e42 => ?_)
  refine go_aastoreV X42 hx hZ e42 VF OF (Ins.self ((hE 20 (by decide)).keep K)) ⟨by decide, by decide⟩ 20 (by decide) (by simp only [List.length_cons, List.length_nil]; decide) (dc hby d0_145) (fun T43 h43 X43 e43 W43 VF' => ?_)
  replace NF := Fr.snoc X43 NF hfa
  replace K := K.wr W43 (Or.inr hfa)
  replace VF : Arv Z h43 fa cF (.object "com/example/strict_model/strictmodel/XPathFunctions$Function") 27 [.ref (A 0), .ref (A 1), .ref (A 2), .ref (A 3), .ref (A 4), .ref (A 5), .ref (A 6), .ref (A 7), .ref (A 8), .ref (A 9), .ref (A 10), .ref (A 11), .ref (A 12), .ref (A 13), .ref (A 14), .ref (A 15), .ref (A 16), .ref (A 17), .ref (A 18), .ref (A 19), .ref (A 20), .null, .null, .null, .null, .null, .null] .null := VF'
  refine go_dup X43 hx (dc hby d0_146) rfl ?_
  refine go_bipush X43 hx (21) (dc hby d0_147) rfl ?_
  refine go_getS X43 hx hZ (host := "") hown (hw _ (List.mem_of_getElem? (i := 46) rfl)) Via.refl e43 (own_staK hS.2.2.2.2.2.2.2.2.2.2.2.2.2.2.2.2.2.2.2.2.2.1 K) (dc hby d0_149) (fun T44 X44 e44 => ?_)
  refine go_aastoreV X44 hx hZ e44 VF OF (Ins.self ((hE 21 (by decide)).keep K)) ⟨by decide, by decide⟩ 21 (by decide) (by simp only [List.length_cons, List.length_nil]; decide) (dc hby d0_152) (fun T45 h45 X45 e45 W45 VF' => ?_)
  replace NF := Fr.snoc X45 NF hfa
  replace K := K.wr W45 (Or.inr hfa)
  replace VF : Arv Z h45 fa cF (.object "com/example/strict_model/strictmodel/XPathFunctions$Function") 27 [.ref (A 0), .ref (A 1), .ref (A 2), .ref (A 3), .ref (A 4), .ref (A 5), .ref (A 6), .ref (A 7), .ref (A 8), .ref (A 9), .ref (A 10), .ref (A 11), .ref (A 12), .ref (A 13), .ref (A 14), .ref (A 15), .ref (A 16), .ref (A 17), .ref (A 18), .ref (A 19), .ref (A 20), .ref (A 21), .null, .null, .null, .null, .null] .null := VF'
  refine go_dup X45 hx (dc hby d0_153) rfl ?_
  refine go_bipush X45 hx (22) (dc hby d0_154) rfl ?_
  refine go_getS X45 hx hZ (host := "") hown (hw _ (List.mem_of_getElem? (i := 48) rfl)) Via.refl e45 (own_staK hS.2.2.2.2.2.2.2.2.2.2.2.2.2.2.2.2.2.2.2.2.2.2.1 K) (dc hby d0_156) (fun T46 X46 e46 => ?_)
  refine go_aastoreV X46 hx hZ e46 VF OF (Ins.self ((hE 22 (by decide)).keep K)) ⟨by decide, by decide⟩ 22 (by decide) (by simp only [List.length_cons, List.length_nil]; decide) (dc hby d0_159) (fun T47 h47 X47 e47 W47 VF' => ?_)
  replace NF := Fr.snoc X47 NF hfa
  replace K := K.wr W47 (Or.inr hfa)
  replace VF : Arv Z h47 fa cF (.object "com/example/strict_model/strictmodel/XPathFunctions$Function") 27 [.ref (A 0), .ref (A 1), .ref (A 2), .ref (A 3), .ref (A 4), .ref (A 5), .ref (A 6), .ref (A 7), .ref (A 8), .ref (A 9), .ref (A 10), .ref (A 11), .ref (A 12), .ref (A 13), .ref (A 14), .ref (A 15), .ref (A 16), .ref (A 17), .ref (A 18), .ref (A 19), .ref (A 20), .ref (A 21), .ref (A 22), .null, .null, .null, .null] .null := VF'
  refine go_dup X47 hx (dc hby d0_160) rfl ?_
  refine go_bipush X47 hx (23) (dc hby d0_161) rfl ?_
  refine go_getS X47 hx hZ (host := "") hown (hw _ (List.mem_of_getElem? (i := 50) rfl)) Via.refl e47 (own_staK hS.2.2.2.2.2.2.2.2.2.2.2.2.2.2.2.2.2.2.2.2.2.2.2.1 K) (dc hby d0_163) (fun T48 X48 e48 => ?_)
  refine go_aastoreV X48 hx hZ e48 VF OF (Ins.self ((hE 23 (by decide)).keep K)) ⟨by decide, by decide⟩ 23 (by decide) (by simp only [List.length_cons, List.length_nil]; decide) (dc hby d0_166) (fun T49 h49 X49 e49 W49 VF' => ?_)
  replace NF := Fr.snoc X49 NF hfa
  replace K := K.wr W49 (Or.inr hfa)
  replace VF : Arv Z h49 fa cF (.object "com/example/strict_model/strictmodel/XPathFunctions$Function") 27 [.ref (A 0), .ref (A 1), .ref (A 2), .ref (A 3), .ref (A 4), .ref (A 5), .ref (A 6), .ref (A 7), .ref (A 8), .ref (A 9), .ref (A 10), .ref (A 11), .ref (A 12), .ref (A 13), .ref (A 14), .ref (A 15), .ref (A 16), .ref (A 17), .ref (A 18), .ref (A 19), .ref (A 20), .ref (A 21), .ref (A 22), .ref (A 23), .null, .null, .null] .null := VF'
  refine go_dup X49 hx (dc hby d0_167) rfl ?_
  refine go_bipush X49 hx (24) (dc hby d0_168) rfl ?_
  refine go_getS X49 hx hZ (host := "") hown (hw _ (List.mem_of_getElem? (i := 52) rfl)) Via.refl e49 (own_staK hS.2.2.2.2.2.2.2.2.2.2.2.2.2.2.2.2.2.2.2.2.2.2.2.2.1 K) (dc hby d0_170) (fun T50 X50 e50 => ?_)
  refine go_aastoreV X50 hx hZ e50 VF OF (Ins.self ((hE 24 (by decide)).keep K)) ⟨by decide, by decide⟩ 24 (by decide) (by simp only [List.length_cons, List.length_nil]; decide) (dc hby d0_173) (fun T51 h51 X51 e51 W51 VF' => ?_)
  replace NF := Fr.snoc X51 NF hfa
  replace K := K.wr W51 (Or.inr hfa)
  replace VF : Arv Z h51 fa cF (.object "com/example/strict_model/strictmodel/XPathFunctions$Function") 27 [.ref (A 0), .ref (A 1), .ref (A 2), .ref (A 3), .ref (A 4), .ref (A 5), .ref (A 6), .ref (A 7), .ref (A 8), .ref (A 9), .ref (A 10), .ref (A 11), .ref (A 12), .ref (A 13), .ref (A 14), .ref (A 15), .ref (A 16), .ref (A 17), .ref (A 18), .ref (A 19), .ref (A 20), .ref (A 21), .ref (A 22), .ref (A 23), .ref (A 24), .null, .null] .null := VF'
  refine go_dup X51 hx (dc hby d0_174) rfl ?_
  refine go_bipush X51 hx (25) (dc hby d0_175) rfl ?_
  refine go_getS X51 hx hZ (host := "") hown (hw _ (List.mem_of_getElem? (i := 54) rfl)) Via.refl e51 (own_staK hS.2.2.2.2.2.2.2.2.2.2.2.2.2.2.2.2.2.2.2.2.2.2.2.2.2.1 K) (dc hby d0_177) (fun T52 X52 e52 => ?_)
  refine go_aastoreV X52 hx hZ e52 VF OF (Ins.self ((hE 25 (by decide)).keep K)) ⟨by decide, by decide⟩ 25 (by decide) (by simp only [List.length_cons, List.length_nil]; decide) (dc hby d0_180) (fun T53 h53 X53 e53 W53 VF' => ?_)
  replace NF := Fr.snoc X53 NF hfa
  replace K := K.wr W53 (Or.inr hfa)
  replace VF : Arv Z h53 fa cF (.object "com/example/strict_model/strictmodel/XPathFunctions$Function") 27 [.ref (A 0), .ref (A 1), .ref (A 2), .ref (A 3), .ref (A 4), .ref (A 5), .ref (A 6), .ref (A 7), .ref (A 8), .ref (A 9), .ref (A 10), .ref (A 11), .ref (A 12), .ref (A 13), .ref (A 14), .ref (A 15), .ref (A 16), .ref (A 17), .ref (A 18), .ref (A 19), .ref (A 20), .ref (A 21), .ref (A 22), .ref (A 23), .ref (A 24), .ref (A 25), .null] .null := VF'
  refine go_dup X53 hx (dc hby d0_181) rfl ?_
  refine go_bipush X53 hx (26) (dc hby d0_182) rfl ?_
  refine go_getS X53 hx hZ (host := "") hown (hw _ (List.mem_of_getElem? (i := 56) rfl)) Via.refl e53 (own_staK hS.2.2.2.2.2.2.2.2.2.2.2.2.2.2.2.2.2.2.2.2.2.2.2.2.2.2 K) (dc hby d0_184) (fun T54 X54 e54 => ?_)
  refine go_aastoreV X54 hx hZ e54 VF OF (Ins.self ((hE 26 (by decide)).keep K)) ⟨by decide, by decide⟩ 26 (by decide) (by simp only [List.length_cons, List.length_nil]; decide) (dc hby d0_187) (fun T55 h55 X55 e55 W55 VF' => ?_)
  replace NF := Fr.snoc X55 NF hfa
  replace K := K.wr W55 (Or.inr hfa)
  replace VF : Arv Z h55 fa cF (.object "com/example/strict_model/strictmodel/XPathFunctions$Function") 27 [.ref (A 0), .ref (A 1), .ref (A 2), .ref (A 3), .ref (A 4), .ref (A 5), .ref (A 6), .ref (A 7), .ref (A 8), .ref (A 9), .ref (A 10), .ref (A 11), .ref (A 12), .ref (A 13), .ref (A 14), .ref (A 15), .ref (A 16), .ref (A 17), .ref (A 18), .ref (A 19), .ref (A 20), .ref (A 21), .ref (A 22), .ref (A 23), .ref (A 24), .ref (A 25), .ref (A 26)] .null := VF'
  refine go_astoren X55 hx #[.val (.int p1), .val (.int p2), .val (.ref fa), .unset, .unset, .unset, .unset] (dc hby d0_188) rfl rfl ?_
  refine go_bipush X55 hx (27) (dc hby d0_189) rfl ?_
  refine go_newP X55 hx hZ (hw _ (List.mem_of_getElem? (i := 58) rfl)) e55 (dc hby d0_191) (by decide) 27 (by decide) (by decide) (by decide) (by decide) (fun T56 h56 cla la gla X56 e56 Ela Ala => ?_)
  have hla : h0.size ≤ la := by rw [gla]; exact K.1
  have ne_fla : fa ≠ la := by rw [gla]; exact Nat.ne_of_lt VF.lt
  replace K := K.ext Ela
  replace VF := VF.ext Ela
  have VL : Arv Z h56 la cla .int 27 [.int 0, .int 0, .int 0, .int 0, .int 0, .int 0, .int 0, .int 0, .int 0, .int 0, .int 0, .int 0, .int 0, .int 0, .int 0, .int 0, .int 0, .int 0, .int 0, .int 0, .int 0, .int 0, .int 0, .int 0, .int 0, .int 0, .int 0] (.int 0) := (Arv.new Ala (by decide)).pad (own_rep (n := 27))
  refine go_dup X56 hx (dc hby d0_193) rfl ?_
  refine go_iconst X56 hx (0) (dc hby d0_194) rfl ?_
  refine go_iconst X56 hx (0) (dc hby d0_195) rfl ?_
  refine go_iastoreV X56 hx hZ e56 VL ⟨by decide, by decide⟩ 0 (by decide) (by simp only [List.length_cons, List.length_nil]; decide) (dc hby d0_196) (fun T57 h57 X57 e57 W57 VL' => ?_)
  replace NF := Fr.snoc X57 NF hla
  replace K := K.wr W57 (Or.inr hla)
  replace VF := VF.other W57 ne_fla
  replace VL : Arv Z h57 la cla .int 27 [.int 0, .int 0, .int 0, .int 0, .int 0, .int 0, .int 0, .int 0, .int 0, .int 0, .int 0, .int 0, .int 0, .int 0, .int 0, .int 0, .int 0, .int 0, .int 0, .int 0, .int 0, .int 0, .int 0, .int 0, .int 0, .int 0, .int 0] (.int 0) := VL'
  refine go_dup X57 hx (dc hby d0_197) rfl ?_
  refine go_iconst X57 hx (1) (dc hby d0_198) rfl ?_
  refine go_iconst X57 hx (0) (dc hby d0_199) rfl ?_
  refine go_iastoreV X57 hx hZ e57 VL ⟨by decide, by decide⟩ 1 (by decide) (by simp only [List.length_cons, List.length_nil]; decide) (dc hby d0_200) (fun T58 h58 X58 e58 W58 VL' => ?_)
  replace NF := Fr.snoc X58 NF hla
  replace K := K.wr W58 (Or.inr hla)
  replace VF := VF.other W58 ne_fla
  replace VL : Arv Z h58 la cla .int 27 [.int 0, .int 0, .int 0, .int 0, .int 0, .int 0, .int 0, .int 0, .int 0, .int 0, .int 0, .int 0, .int 0, .int 0, .int 0, .int 0, .int 0, .int 0, .int 0, .int 0, .int 0, .int 0, .int 0, .int 0, .int 0, .int 0, .int 0] (.int 0) := VL'
  refine go_dup X58 hx (dc hby d0_201) rfl ?_
  refine go_iconst X58 hx (2) (dc hby d0_202) rfl ?_
  refine go_iconst X58 hx (1) (dc hby d0_203) rfl ?_
  refine go_iastoreV X58 hx hZ e58 VL ⟨by decide, by decide⟩ 2 (by decide) (by simp only [List.length_cons, List.length_nil]; decide) (dc hby d0_204) (fun T59 h59 X59 e59 W59 VL' => ?_)
  replace NF := Fr.snoc X59 NF hla
  replace K := K.wr W59 (Or.inr hla)
  replace VF := VF.other W59 ne_fla
  replace VL : Arv Z h59 la cla .int 27 [.int 0, .int 0, .int 1, .int 0, .int 0, .int 0, .int 0, .int 0, .int 0, .int 0, .int 0, .int 0, .int 0, .int 0, .int 0, .int 0, .int 0, .int 0, .int 0, .int 0, .int 0, .int 0, .int 0, .int 0, .int 0, .int 0, .int 0] (.int 0) := VL'
  refine go_dup X59 hx (dc hby d0_205) rfl ?_
  refine go_iconst X59 hx (3) (dc hby d0_206) rfl ?_
  refine go_iconst X59 hx (1) (dc hby d0_207) rfl ?_
  refine go_iastoreV X59 hx hZ e59 VL ⟨by decide, by decide⟩ 3 (by decide) (by simp only [List.length_cons, List.length_nil]; decide) (dc hby d0_208) (fun T60 h60 X60 e60 W60 VL' => ?_)
  replace NF := Fr.snoc X60 NF hla
  replace K := K.wr W60 (Or.inr hla)
  replace VF := VF.other W60 ne_fla
  replace VL : Arv Z h60 la cla .int 27 [.int 0, .int 0, .int 1, .int 1, .int 0, .int 0, .int 0, .int 0, .int 0, .int 0, .int 0, .int 0, .int 0, .int 0, .int 0, .int 0, .int 0, .int 0, .int 0, .int 0, .int 0, .int 0, .int 0, .int 0, .int 0, .int 0, .int 0] (.int 0) := VL'
  refine go_dup X60 hx (dc hby d0_209) rfl ?_
  refine go_iconst X60 hx (4) (dc hby d0_210) rfl ?_
  refine go_iconst X60 hx (0) (dc hby d0_211) rfl ?_
  refine go_iastoreV X60 hx hZ e60 VL ⟨by decide, by decide⟩ 4 (by decide) (by simp only [List.length_cons, List.length_nil]; decide) (dc hby d0_212) (fun T61 h61 X61 e61 W61 VL' => ?_)
  replace NF := Fr.snoc X61 NF hla
  replace K := K.wr W61 (Or.inr hla)
  replace VF := VF.other W61 ne_fla
  replace VL : Arv Z h61 la cla .int 27 [.int 0, .int 0, .int 1, .int 1, .int 0, .int 0, .int 0, .int 0, .int 0, .int 0, .int 0, .int 0, .int 0, .int 0, .int 0, .int 0, .int 0, .int 0, .int 0, .int 0, .int 0, .int 0, .int 0, .int 0, .int 0, .int 0, .int 0] (.int 0) := VL'
  refine go_dup X61 hx (dc hby d0_213) rfl ?_
  refine go_iconst X61 hx (5) (dc hby d0_214) rfl ?_
  refine go_iconst X61 hx (0) (dc hby d0_215) rfl ?_
  refine go_iastoreV X61 hx hZ e61 VL ⟨by decide, by decide⟩ 5 (by decide) (by simp only [List.length_cons, List.length_nil]; decide) (dc hby d0_216) (fun T62 h62 X62 e62 W62 VL' => ?_)
  replace NF := Fr.snoc X62 NF hla
  replace K := K.wr W62 (Or.inr hla)
  replace VF := VF.other W62 ne_fla
  replace VL : Arv Z h62 la cla .int 27 [.int 0, .int 0, .int 1, .int 1, .int 0, .int 0, .int 0, .int 0, .int 0, .int 0, .int 0, .int 0, .int 0, .int 0, .int 0, .int 0, .int 0, .int 0, .int 0, .int 0, .int 0, .int 0, .int 0, .int 0, .int 0, .int 0, .int 0] (.int 0) := VL'
  refine go_dup X62 hx (dc hby d0_217) rfl ?_
  refine go_bipush X62 hx (6) (dc hby d0_218) rfl ?_
  refine go_iconst X62 hx (0) (dc hby d0_220) rfl ?_
  refine go_iastoreV X62 hx hZ e62 VL ⟨by decide, by decide⟩ 6 (by decide) (by simp only [List.length_cons, List.length_nil]; decide) (dc hby d0_221) (fun T63 h63 X63 e63 W63 VL' => ?_)
  replace NF := Fr.snoc X63 NF hla
  replace K := K.wr W63 (Or.inr hla)
  replace VF := VF.other W63 ne_fla
  replace VL : Arv Z h63 la cla .int 27 [.int 0, .int 0, .int 1, .int 1, .int 0, .int 0, .int 0, .int 0, .int 0, .int 0, .int 0, .int 0, .int 0, .int 0, .int 0, .int 0, .int 0, .int 0, .int 0, .int 0, .int 0, .int 0, .int 0, .int 0, .int 0, .int 0, .int 0] (.int 0) := VL'
  refine go_dup X63 hx (dc hby d0_222) rfl ?_
  refine go_bipush X63 hx (7) (dc hby d0_223) rfl ?_
  refine go_iconst X63 hx (0) (dc hby d0_225) rfl ?_
  refine go_iastoreV X63 hx hZ e63 VL ⟨by decide, by decide⟩ 7 (by decide) (by simp only [List.length_cons, List.length_nil]; decide) (dc hby d0_226) (fun T64 h64 X64 e64 W64 VL' => ?_)
  replace NF := Fr.snoc X64 NF hla
  replace K := K.wr W64 (Or.inr hla)
  replace VF := VF.other W64 ne_fla
  replace VL : Arv Z h64 la cla .int 27 [.int 0, .int 0, .int 1, .int 1, .int 0, .int 0, .int 0, .int 0, .int 0, .int 0, .int 0, .int 0, .int 0, .int 0, .int 0, .int 0, .int 0, .int 0, .int 0, .int 0, .int 0, .int 0, .int 0, .int 0, .int 0, .int 0, .int 0] (.int 0) := VL'
  refine go_dup X64 hx (dc hby d0_227) rfl ?_
  refine go_bipush X64 hx (8) (dc hby d0_228) rfl ?_
  refine go_iconst X64 hx (2) (dc hby d0_230) rfl ?_
  refine go_iastoreV X64 hx hZ e64 VL ⟨by decide, by decide⟩ 8 (by decide) (by simp only [List.length_cons, List.length_nil]; decide) (dc hby d0_231) (fun T65 h65 X65 e65 W65 VL' => ?_)
  replace NF := Fr.snoc X65 NF hla
  replace K := K.wr W65 (Or.inr hla)
  replace VF := VF.other W65 ne_fla
  replace VL : Arv Z h65 la cla .int 27 [.int 0, .int 0, .int 1, .int 1, .int 0, .int 0, .int 0, .int 0, .int 2, .int 0, .int 0, .int 0, .int 0, .int 0, .int 0, .int 0, .int 0, .int 0, .int 0, .int 0, .int 0, .int 0, .int 0, .int 0, .int 0, .int 0, .int 0] (.int 0) := VL'
  refine go_dup X65 hx (dc hby d0_232) rfl ?_
  refine go_bipush X65 hx (9) (dc hby d0_233) rfl ?_
  refine go_iconst X65 hx (2) (dc hby d0_235) rfl ?_
  refine go_iastoreV X65 hx hZ e65 VL ⟨by decide, by decide⟩ 9 (by decide) (by simp only [List.length_cons, List.length_nil]; decide) (dc hby d0_236) (fun T66 h66 X66 e66 W66 VL' => ?_)
  replace NF := Fr.snoc X66 NF hla
  replace K := K.wr W66 (Or.inr hla)
  replace VF := VF.other W66 ne_fla
  replace VL : Arv Z h66 la cla .int 27 [.int 0, .int 0, .int 1, .int 1, .int 0, .int 0, .int 0, .int 0, .int 2, .int 2, .int 0, .int 0, .int 0, .int 0, .int 0, .int 0, .int 0, .int 0, .int 0, .int 0, .int 0, .int 0, .int 0, .int 0, .int 0, .int 0, .int 0] (.int 0) := VL'
  refine go_dup X66 hx (dc hby d0_237) rfl ?_
  refine go_bipush X66 hx (10) (dc hby d0_238) rfl ?_
  refine go_iconst X66 hx (2) (dc hby d0_240) rfl ?_
  refine go_iastoreV X66 hx hZ e66 VL ⟨by decide, by decide⟩ 10 (by decide) (by simp only [List.length_cons, List.length_nil]; decide) (dc hby d0_241) (fun T67 h67 X67 e67 W67 VL' => ?_)
  replace NF := Fr.snoc X67 NF hla
  replace K := K.wr W67 (Or.inr hla)
  replace VF := VF.other W67 ne_fla
  replace VL : Arv Z h67 la cla .int 27 [.int 0, .int 0, .int 1, .int 1, .int 0, .int 0, .int 0, .int 0, .int 2, .int 2, .int 2, .int 0, .int 0, .int 0, .int 0, .int 0, .int 0, .int 0, .int 0, .int 0, .int 0, .int 0, .int 0, .int 0, .int 0, .int 0, .int 0] (.int 0) := VL'
  refine go_dup X67 hx (dc hby d0_242) rfl ?_
  refine go_bipush X67 hx (11) (dc hby d0_243) rfl ?_
  refine go_iconst X67 hx (2) (dc hby d0_245) rfl ?_
  refine go_iastoreV X67 hx hZ e67 VL ⟨by decide, by decide⟩ 11 (by decide) (by simp only [List.length_cons, List.length_nil]; decide) (dc hby d0_246) (fun T68 h68 X68 e68 W68 VL' => ?_)
  replace NF := Fr.snoc X68 NF hla
  replace K := K.wr W68 (Or.inr hla)
  replace VF := VF.other W68 ne_fla
  replace VL : Arv Z h68 la cla .int 27 [.int 0, .int 0, .int 1, .int 1, .int 0, .int 0, .int 0, .int 0, .int 2, .int 2, .int 2, .int 2, .int 0, .int 0, .int 0, .int 0, .int 0, .int 0, .int 0, .int 0, .int 0, .int 0, .int 0, .int 0, .int 0, .int 0, .int 0] (.int 0) := VL'
  refine go_dup X68 hx (dc hby d0_247) rfl ?_
  refine go_bipush X68 hx (12) (dc hby d0_248) rfl ?_
  refine go_iconst X68 hx (2) (dc hby d0_250) rfl ?_
  refine go_iastoreV X68 hx hZ e68 VL ⟨by decide, by decide⟩ 12 (by decide) (by simp only [List.length_cons, List.length_nil]; decide) (dc hby d0_251) (fun T69 h69 X69 e69 W69 VL' => ?_)
  replace NF := Fr.snoc X69 NF hla
  replace K := K.wr W69 (Or.inr hla)
  replace VF := VF.other W69 ne_fla
  replace VL : Arv Z h69 la cla .int 27 [.int 0, .int 0, .int 1, .int 1, .int 0, .int 0, .int 0, .int 0, .int 2, .int 2, .int 2, .int 2, .int 2, .int 0, .int 0, .int 0, .int 0, .int 0, .int 0, .int 0, .int 0, .int 0, .int 0, .int 0, .int 0, .int 0, .int 0] (.int 0) := VL'
  refine go_dup X69 hx (dc hby d0_252) rfl ?_
  refine go_bipush X69 hx (13) (dc hby d0_253) rfl ?_
  refine go_iconst X69 hx (2) (dc hby d0_255) rfl ?_
  refine go_iastoreV X69 hx hZ e69 VL ⟨by decide, by decide⟩ 13 (by decide) (by simp only [List.length_cons, List.length_nil]; decide) (dc hby d0_256) (fun T70 h70 X70 e70 W70 VL' => ?_)
  replace NF := Fr.snoc X70 NF hla
  replace K := K.wr W70 (Or.inr hla)
  replace VF := VF.other W70 ne_fla
  replace VL : Arv Z h70 la cla .int 27 [.int 0, .int 0, .int 1, .int 1, .int 0, .int 0, .int 0, .int 0, .int 2, .int 2, .int 2, .int 2, .int 2, .int 2, .int 0, .int 0, .int 0, .int 0, .int 0, .int 0, .int 0, .int 0, .int 0, .int 0, .int 0, .int 0, .int 0] (.int 0) := VL'
  refine go_dup X70 hx (dc hby d0_257) rfl ?_
  refine go_bipush X70 hx (14) (dc hby d0_258) rfl ?_
  refine go_iconst X70 hx (0) (dc hby d0_260) rfl ?_
  refine go_iastoreV X70 hx hZ e70 VL ⟨by decide, by decide⟩ 14 (by decide) (by simp only [List.length_cons, List.length_nil]; decide) (dc hby d0_261) (fun T71 h71 X71 e71 W71 VL' => ?_)
  replace NF := Fr.snoc X71 NF hla
  replace K := K.wr W71 (Or.inr hla)
  replace VF := VF.other W71 ne_fla
  replace VL : Arv Z h71 la cla .int 27 [.int 0, .int 0, .int 1, .int 1, .int 0, .int 0, .int 0, .int 0, .int 2, .int 2, .int 2, .int 2, .int 2, .int 2, .int 0, .int 0, .int 0, .int 0, .int 0, .int 0, .int 0, .int 0, .int 0, .int 0, .int 0, .int 0, .int 0] (.int 0) := VL'
  refine go_dup X71 hx (dc hby d0_262) rfl ?_
  refine go_bipush X71 hx (15) (dc hby d0_263) rfl ?_
  refine go_iconst X71 hx (0) (dc hby d0_265) rfl ?_
  refine go_iastoreV X71 hx hZ e71 VL ⟨by decide, by decide⟩ 15 (by decide) (by simp only [List.length_cons, List.length_nil]; decide) (dc hby d0_266) (fun T72 h72 X72 e72 W72 VL' => ?_)
  replace NF := Fr.snoc X72 NF hla
  replace K := K.wr W72 (Or.inr hla)
  replace VF := VF.other W72 ne_fla
  replace VL : Arv Z h72 la cla .int 27 [.int 0, .int 0, .int 1, .int 1, .int 0, .int 0, .int 0, .int 0, .int 2, .int 2, .int 2, .int 2, .int 2, .int 2, .int 0, .int 0, .int 0, .int 0, .int 0, .int 0, .int 0, .int 0, .int 0, .int 0, .int 0, .int 0, .int 0] (.int 0) := VL'
  refine go_dup X72 hx (dc hby d0_267) rfl ?_
  refine go_bipush X72 hx (16) (dc hby d0_268) rfl ?_
  refine go_iconst X72 hx (3) (dc hby d0_270) rfl ?_
  refine go_iastoreV X72 hx hZ e72 VL ⟨by decide, by decide⟩ 16 (by decide) (by simp only [List.length_cons, List.length_nil]; decide) (dc hby d0_271) (fun T73 h73 X73 e73 W73 VL' => ?_)
  replace NF := Fr.snoc X73 NF hla
  replace K := K.wr W73 (Or.inr hla)
  replace VF := VF.other W73 ne_fla
  replace VL : Arv Z h73 la cla .int 27 [.int 0, .int 0, .int 1, .int 1, .int 0, .int 0, .int 0, .int 0, .int 2, .int 2, .int 2, .int 2, .int 2, .int 2, .int 0, .int 0, .int 3, .int 0, .int 0, .int 0, .int 0, .int 0, .int 0, .int 0, .int 0, .int 0, .int 0] (.int 0) := VL'
  refine go_dup X73 hx (dc hby d0_272) rfl ?_
  refine go_bipush X73 hx (17) (dc hby d0_273) rfl ?_
  refine go_iconst X73 hx (1) (dc hby d0_275) rfl ?_
  refine go_iastoreV X73 hx hZ e73 VL ⟨by decide, by decide⟩ 17 (by decide) (by simp only [List.length_cons, List.length_nil]; decide) (dc hby d0_276) (fun T74 h74 X74 e74 W74 VL' => ?_)
  replace NF := Fr.snoc X74 NF hla
  replace K := K.wr W74 (Or.inr hla)
  replace VF := VF.other W74 ne_fla
  replace VL : Arv Z h74 la cla .int 27 [.int 0, .int 0, .int 1, .int 1, .int 0, .int 0, .int 0, .int 0, .int 2, .int 2, .int 2, .int 2, .int 2, .int 2, .int 0, .int 0, .int 3, .int 1, .int 0, .int 0, .int 0, .int 0, .int 0, .int 0, .int 0, .int 0, .int 0] (.int 0) := VL'
  refine go_dup X74 hx (dc hby d0_277) rfl ?_
  refine go_bipush X74 hx (18) (dc hby d0_278) rfl ?_
  refine go_iconst X74 hx (1) (dc hby d0_280) rfl ?_
  refine go_iastoreV X74 hx hZ e74 VL ⟨by decide, by decide⟩ 18 (by decide) (by simp only [List.length_cons, List.length_nil]; decide) (dc hby d0_281) (fun T75 h75 X75 e75 W75 VL' => ?_)
  replace NF := Fr.snoc X75 NF hla
  replace K := K.wr W75 (Or.inr hla)
  replace VF := VF.other W75 ne_fla
  replace VL : Arv Z h75 la cla .int 27 [.int 0, .int 0, .int 1, .int 1, .int 0, .int 0, .int 0, .int 0, .int 2, .int 2, .int 2, .int 2, .int 2, .int 2, .int 0, .int 0, .int 3, .int 1, .int 1, .int 0, .int 0, .int 0, .int 0, .int 0, .int 0, .int 0, .int 0] (.int 0) := VL'
  refine go_dup X75 hx (dc hby d0_282) rfl ?_
  refine go_bipush X75 hx (19) (dc hby d0_283) rfl ?_
  refine go_iconst X75 hx (0) (dc hby d0_285) rfl ?_
  refine go_iastoreV X75 hx hZ e75 VL ⟨by decide, by decide⟩ 19 (by decide) (by simp only [List.length_cons, List.length_nil]; decide) (dc hby d0_286) (fun T76 h76 X76 e76 W76 VL' => ?_)
  replace NF := Fr.snoc X76 NF hla
  replace K := K.wr W76 (Or.inr hla)
  replace VF := VF.other W76 ne_fla
  replace VL : Arv Z h76 la cla .int 27 [.int 0, .int 0, .int 1, .int 1, .int 0, .int 0, .int 0, .int 0, .int 2, .int 2, .int 2, .int 2, .int 2, .int 2, .int 0, .int 0, .int 3, .int 1, .int 1, .int 0, .int 0, .int 0, .int 0, .int 0, .int 0, .int 0, .int 0] (.int 0) := VL'
  refine go_dup X76 hx (dc hby d0_287) rfl ?_
  refine go_bipush X76 hx (20) (dc hby d0_288) rfl ?_
  refine go_iconst X76 hx (0) (dc hby d0_290) rfl ?_
  refine go_iastoreV X76 hx hZ e76 VL ⟨by decide, by decide⟩ 20 (by decide) (by simp only [List.length_cons, List.length_nil]; decide) (dc hby d0_291) (fun T77 h77 X77 e77 W77 VL' => ?_)
  replace NF := Fr.snoc X77 NF hla
  replace K := K.wr W77 (Or.inr hla)
  replace VF := VF.other W77 ne_fla
  replace VL : Arv Z h77 la cla .int 27 [.int 0, .int 0, .int 1, .int 1, .int 0, .int 0, .int 0, .int 0, .int 2, .int 2, .int 2, .int 2, .int 2, .int 2, .int 0, .int 0, .int 3, .int 1, .int 1, .int 0, .int 0, .int 0, .int 0, .int 0, .int 0, .int 0, .int 0] (.int 0) := VL'
  refine go_dup X77 hx (dc hby d0_292) rfl ?_
  refine go_bipush X77 hx (21) (dc hby d0_293) rfl ?_
  refine go_iconst X77 hx (1) (dc hby d0_295) rfl ?_
  refine go_iastoreV X77 hx hZ e77 VL ⟨by decide, by decide⟩ 21 (by decide) (by simp only [List.length_cons, List.length_nil]; decide) (dc hby d0_296) (fun T78 h78 X78 e78 W78 VL' => ?_)
  replace NF := Fr.snoc X78 NF hla
  replace K := K.wr W78 (Or.inr hla)
  replace VF := VF.other W78 ne_fla
  replace VL : Arv Z h78 la cla .int 27 [.int 0, .int 0, .int 1, .int 1, .int 0, .int 0, .int 0, .int 0, .int 2, .int 2, .int 2, .int 2, .int 2, .int 2, .int 0, .int 0, .int 3, .int 1, .int 1, .int 0, .int 0, .int 1, .int 0, .int 0, .int 0, .int 0, .int 0] (.int 0) := VL'
  refine go_dup X78 hx (dc hby d0_297) rfl ?_
  refine go_bipush X78 hx (22) (dc hby d0_298) rfl ?_
  refine go_iconst X78 hx (0) (dc hby d0_300) rfl ?_
  refine go_iastoreV X78 hx hZ e78 VL ⟨by decide, by decide⟩ 22 (by decide) (by simp only [List.length_cons, List.length_nil]; decide) (dc hby d0_301) (fun T79 h79 X79 e79 W79 VL' => ?_)
  replace NF := Fr.snoc X79 NF hla
  replace K := K.wr W79 (Or.inr hla)
  replace VF := VF.other W79 ne_fla
  replace VL : Arv Z h79 la cla .int 27 [.int 0, .int 0, .int 1, .int 1, .int 0, .int 0, .int 0, .int 0, .int 2, .int 2, .int 2, .int 2, .int 2, .int 2, .int 0, .int 0, .int 3, .int 1, .int 1, .int 0, .int 0, .int 1, .int 0, .int 0, .int 0, .int 0, .int 0] (.int 0) := VL'
  refine go_dup X79 hx (dc hby d0_302) rfl ?_
  refine go_bipush X79 hx (23) (dc hby d0_303) rfl ?_
  refine go_iconst X79 hx (1) (dc hby d0_305) rfl ?_
  refine go_iastoreV X79 hx hZ e79 VL ⟨by decide, by decide⟩ 23 (by decide) (by simp only [List.length_cons, List.length_nil]; decide) (dc hby d0_306) (fun T80 h80 X80 e80 W80 VL' => ?_)
  replace NF := Fr.snoc X80 NF hla
  replace K := K.wr W80 (Or.inr hla)
  replace VF := VF.other W80 ne_fla
  replace VL : Arv Z h80 la cla .int 27 [.int 0, .int 0, .int 1, .int 1, .int 0, .int 0, .int 0, .int 0, .int 2, .int 2, .int 2, .int 2, .int 2, .int 2, .int 0, .int 0, .int 3, .int 1, .int 1, .int 0, .int 0, .int 1, .int 0, .int 1, .int 0, .int 0, .int 0] (.int 0) := VL'
  refine go_dup X80 hx (dc hby d0_307) rfl ?_
  refine go_bipush X80 hx (24) (dc hby d0_308) rfl ?_
  refine go_iconst X80 hx (1) (dc hby d0_310) rfl ?_
  refine go_iastoreV X80 hx hZ e80 VL ⟨by decide, by decide⟩ 24 (by decide) (by simp only [List.length_cons, List.length_nil]; decide) (dc hby d0_311) (fun T81 h81 X81 e81 W81 VL' => ?_)
  replace NF := Fr.snoc X81 NF hla
  replace K := K.wr W81 (Or.inr hla)
  replace VF := VF.other W81 ne_fla
  replace VL : Arv Z h81 la cla .int 27 [.int 0, .int 0, .int 1, .int 1, .int 0, .int 0, .int 0, .int 0, .int 2, .int 2, .int 2, .int 2, .int 2, .int 2, .int 0, .int 0, .int 3, .int 1, .int 1, .int 0, .int 0, .int 1, .int 0, .int 1, .int 1, .int 0, .int 0] (.int 0) := VL'
  refine go_dup X81 hx (dc hby d0_312) rfl ?_
  refine go_bipush X81 hx (25) (dc hby d0_313) rfl ?_
  refine go_iconst X81 hx (1) (dc hby d0_315) rfl ?_
  refine go_iastoreV X81 hx hZ e81 VL ⟨by decide, by decide⟩ 25 (by decide) (by simp only [List.length_cons, List.length_nil]; decide) (dc hby d0_316) (fun T82 h82 X82 e82 W82 VL' => ?_)
  replace NF := Fr.snoc X82 NF hla
  replace K := K.wr W82 (Or.inr hla)
  replace VF := VF.other W82 ne_fla
  replace VL : Arv Z h82 la cla .int 27 [.int 0, .int 0, .int 1, .int 1, .int 0, .int 0, .int 0, .int 0, .int 2, .int 2, .int 2, .int 2, .int 2, .int 2, .int 0, .int 0, .int 3, .int 1, .int 1, .int 0, .int 0, .int 1, .int 0, .int 1, .int 1, .int 1, .int 0] (.int 0) := VL'
  refine go_dup X82 hx (dc hby d0_317) rfl ?_
  refine go_bipush X82 hx (26) (dc hby d0_318) rfl ?_
  refine go_iconst X82 hx (1) (dc hby d0_320) rfl ?_
  refine go_iastoreV X82 hx hZ e82 VL ⟨by decide, by decide⟩ 26 (by decide) (by simp only [List.length_cons, List.length_nil]; decide) (dc hby d0_321) (fun T83 h83 X83 e83 W83 VL' => ?_)
  replace NF := Fr.snoc X83 NF hla
  replace K := K.wr W83 (Or.inr hla)
  replace VF := VF.other W83 ne_fla
  replace VL : Arv Z h83 la cla .int 27 [.int 0, .int 0, .int 1, .int 1, .int 0, .int 0, .int 0, .int 0, .int 2, .int 2, .int 2, .int 2, .int 2, .int 2, .int 0, .int 0, .int 3, .int 1, .int 1, .int 0, .int 0, .int 1, .int 0, .int 1, .int 1, .int 1, .int 1] (.int 0) := VL'
  refine go_astoren X83 hx #[.val (.int p1), .val (.int p2), .val (.ref fa), .val (.ref la), .unset, .unset, .unset] (dc hby d0_322) rfl rfl ?_
  refine go_bipush X83 hx (27) (dc hby d0_323) rfl ?_
  refine go_newP X83 hx hZ (hw _ (List.mem_of_getElem? (i := 58) rfl)) e83 (dc hby d0_325) (by decide) 27 (by decide) (by decide) (by decide) (by decide) (fun T84 h84 cha ha gha X84 e84 Eha Aha => ?_)
  have hha : h0.size ≤ ha := by rw [gha]; exact K.1
  have ne_fha : fa ≠ ha := by rw [gha]; exact Nat.ne_of_lt VF.lt
  have ne_la : la ≠ ha := by rw [gha]; exact Nat.ne_of_lt VL.lt
  replace K := K.ext Eha
  replace VF := VF.ext Eha
  replace VL := VL.ext Eha
  have VH : Arv Z h84 ha cha .int 27 [.int 0, .int 0, .int 0, .int 0, .int 0, .int 0, .int 0, .int 0, .int 0, .int 0, .int 0, .int 0, .int 0, .int 0, .int 0, .int 0, .int 0, .int 0, .int 0, .int 0, .int 0, .int 0, .int 0, .int 0, .int 0, .int 0, .int 0] (.int 0) := (Arv.new Aha (by decide)).pad (own_rep (n := 27))
  refine go_dup X84 hx (dc hby d0_327) rfl ?_
  refine go_iconst X84 hx (0) (dc hby d0_328) rfl ?_
  refine go_iconst X84 hx (0) (dc hby d0_329) rfl ?_
  refine go_iastoreV X84 hx hZ e84 VH ⟨by decide, by decide⟩ 0 (by decide) (by simp only [List.length_cons, List.length_nil]; decide) (dc hby d0_330) (fun T85 h85 X85 e85 W85 VH' => ?_)
  replace NF := Fr.snoc X85 NF hha
  replace K := K.wr W85 (Or.inr hha)
  replace VF := VF.other W85 ne_fha
  replace VH : Arv Z h85 ha cha .int 27 [.int 0, .int 0, .int 0, .int 0, .int 0, .int 0, .int 0, .int 0, .int 0, .int 0, .int 0, .int 0, .int 0, .int 0, .int 0, .int 0, .int 0, .int 0, .int 0, .int 0, .int 0, .int 0, .int 0, .int 0, .int 0, .int 0, .int 0] (.int 0) := VH'
  replace VL := VL.other W85 ne_la
  refine go_dup X85 hx (dc hby d0_331) rfl ?_
  refine go_iconst X85 hx (1) (dc hby d0_332) rfl ?_
  refine go_iconst X85 hx (0) (dc hby d0_333) rfl ?_
  refine go_iastoreV X85 hx hZ e85 VH ⟨by decide, by decide⟩ 1 (by decide) (by simp only [List.length_cons, List.length_nil]; decide) (dc hby d0_334) (fun T86 h86 X86 e86 W86 VH' => ?_)
  replace NF := Fr.snoc X86 NF hha
  replace K := K.wr W86 (Or.inr hha)
  replace VF := VF.other W86 ne_fha
  replace VH : Arv Z h86 ha cha .int 27 [.int 0, .int 0, .int 0, .int 0, .int 0, .int 0, .int 0, .int 0, .int 0, .int 0, .int 0, .int 0, .int 0, .int 0, .int 0, .int 0, .int 0, .int 0, .int 0, .int 0, .int 0, .int 0, .int 0, .int 0, .int 0, .int 0, .int 0] (.int 0) := VH'
  replace VL := VL.other W86 ne_la
  refine go_dup X86 hx (dc hby d0_335) rfl ?_
  refine go_iconst X86 hx (2) (dc hby d0_336) rfl ?_
  refine go_iconst X86 hx (1) (dc hby d0_337) rfl ?_
  refine go_iastoreV X86 hx hZ e86 VH ⟨by decide, by decide⟩ 2 (by decide) (by simp only [List.length_cons, List.length_nil]; decide) (dc hby d0_338) (fun T87 h87 X87 e87 W87 VH' => ?_)
  replace NF := Fr.snoc X87 NF hha
  replace K := K.wr W87 (Or.inr hha)
  replace VF := VF.other W87 ne_fha
  replace VH : Arv Z h87 ha cha .int 27 [.int 0, .int 0, .int 1, .int 0, .int 0, .int 0, .int 0, .int 0, .int 0, .int 0, .int 0, .int 0, .int 0, .int 0, .int 0, .int 0, .int 0, .int 0, .int 0, .int 0, .int 0, .int 0, .int 0, .int 0, .int 0, .int 0, .int 0] (.int 0) := VH'
  replace VL := VL.other W87 ne_la
  refine go_dup X87 hx (dc hby d0_339) rfl ?_
  refine go_iconst X87 hx (3) (dc hby d0_340) rfl ?_
  refine go_iconst X87 hx (1) (dc hby d0_341) rfl ?_
  refine go_iastoreV X87 hx hZ e87 VH ⟨by decide, by decide⟩ 3 (by decide) (by simp only [List.length_cons, List.length_nil]; decide) (dc hby d0_342) (fun T88 h88 X88 e88 W88 VH' => ?_)
  replace NF := Fr.snoc X88 NF hha
  replace K := K.wr W88 (Or.inr hha)
  replace VF := VF.other W88 ne_fha
  replace VH : Arv Z h88 ha cha .int 27 [.int 0, .int 0, .int 1, .int 1, .int 0, .int 0, .int 0, .int 0, .int 0, .int 0, .int 0, .int 0, .int 0, .int 0, .int 0, .int 0, .int 0, .int 0, .int 0, .int 0, .int 0, .int 0, .int 0, .int 0, .int 0, .int 0, .int 0] (.int 0) := VH'
  replace VL := VL.other W88 ne_la
  refine go_dup X88 hx (dc hby d0_343) rfl ?_
  refine go_iconst X88 hx (4) (dc hby d0_344) rfl ?_
  refine go_iconst X88 hx (1) (dc hby d0_345) rfl ?_
  refine go_iastoreV X88 hx hZ e88 VH ⟨by decide, by decide⟩ 4 (by decide) (by simp only [List.length_cons, List.length_nil]; decide) (dc hby d0_346) (fun T89 h89 X89 e89 W89 VH' => ?_)
  replace NF := Fr.snoc X89 NF hha
  replace K := K.wr W89 (Or.inr hha)
  replace VF := VF.other W89 ne_fha
  replace VH : Arv Z h89 ha cha .int 27 [.int 0, .int 0, .int 1, .int 1, .int 1, .int 0, .int 0, .int 0, .int 0, .int 0, .int 0, .int 0, .int 0, .int 0, .int 0, .int 0, .int 0, .int 0, .int 0, .int 0, .int 0, .int 0, .int 0, .int 0, .int 0, .int 0, .int 0] (.int 0) := VH'
  replace VL := VL.other W89 ne_la
  refine go_dup X89 hx (dc hby d0_347) rfl ?_
  refine go_iconst X89 hx (5) (dc hby d0_348) rfl ?_
  refine go_iconst X89 hx (1) (dc hby d0_349) rfl ?_
  refine go_iastoreV X89 hx hZ e89 VH ⟨by decide, by decide⟩ 5 (by decide) (by simp only [List.length_cons, List.length_nil]; decide) (dc hby d0_350) (fun T90 h90 X90 e90 W90 VH' => ?_)
  replace NF := Fr.snoc X90 NF hha
  replace K := K.wr W90 (Or.inr hha)
  replace VF := VF.other W90 ne_fha
  replace VH : Arv Z h90 ha cha .int 27 [.int 0, .int 0, .int 1, .int 1, .int 1, .int 1, .int 0, .int 0, .int 0, .int 0, .int 0, .int 0, .int 0, .int 0, .int 0, .int 0, .int 0, .int 0, .int 0, .int 0, .int 0, .int 0, .int 0, .int 0, .int 0, .int 0, .int 0] (.int 0) := VH'
  replace VL := VL.other W90 ne_la
  refine go_dup X90 hx (dc hby d0_351) rfl ?_
  refine go_bipush X90 hx (6) (dc hby d0_352) rfl ?_
  refine go_iconst X90 hx (1) (dc hby d0_354) rfl ?_
  refine go_iastoreV X90 hx hZ e90 VH ⟨by decide, by decide⟩ 6 (by decide) (by simp only [List.length_cons, List.length_nil]; decide) (dc hby d0_355) (fun T91 h91 X91 e91 W91 VH' => ?_)
  replace NF := Fr.snoc X91 NF hha
  replace K := K.wr W91 (Or.inr hha)
  replace VF := VF.other W91 ne_fha
  replace VH : Arv Z h91 ha cha .int 27 [.int 0, .int 0, .int 1, .int 1, .int 1, .int 1, .int 1, .int 0, .int 0, .int 0, .int 0, .int 0, .int 0, .int 0, .int 0, .int 0, .int 0, .int 0, .int 0, .int 0, .int 0, .int 0, .int 0, .int 0, .int 0, .int 0, .int 0] (.int 0) := VH'
  replace VL := VL.other W91 ne_la
  refine go_dup X91 hx (dc hby d0_356) rfl ?_
  refine go_bipush X91 hx (7) (dc hby d0_357) rfl ?_
  refine go_iconst X91 hx (1) (dc hby d0_359) rfl ?_
  refine go_iastoreV X91 hx hZ e91 VH ⟨by decide, by decide⟩ 7 (by decide) (by simp only [List.length_cons, List.length_nil]; decide) (dc hby d0_360) (fun T92 h92 X92 e92 W92 VH' => ?_)
  replace NF := Fr.snoc X92 NF hha
  replace K := K.wr W92 (Or.inr hha)
  replace VF := VF.other W92 ne_fha
  replace VH : Arv Z h92 ha cha .int 27 [.int 0, .int 0, .int 1, .int 1, .int 1, .int 1, .int 1, .int 1, .int 0, .int 0, .int 0, .int 0, .int 0, .int 0, .int 0, .int 0, .int 0, .int 0, .int 0, .int 0, .int 0, .int 0, .int 0, .int 0, .int 0, .int 0, .int 0] (.int 0) := VH'
  replace VL := VL.other W92 ne_la
  refine go_dup X92 hx (dc hby d0_361) rfl ?_
  refine go_bipush X92 hx (8) (dc hby d0_362) rfl ?_
  refine go_ldc X92 hx hZ hown (hw _ (List.mem_of_getElem? (i := 59) rfl)) (dc hby d0_364) ?_
  refine go_iastoreV X92 hx hZ e92 VH ⟨by decide, by decide⟩ 8 (by decide) (by simp only [List.length_cons, List.length_nil]; decide) (dc hby d0_366) (fun T93 h93 X93 e93 W93 VH' => ?_)
  replace NF := Fr.snoc X93 NF hha
  replace K := K.wr W93 (Or.inr hha)
  replace VF := VF.other W93 ne_fha
  replace VH : Arv Z h93 ha cha .int 27 [.int 0, .int 0, .int 1, .int 1, .int 1, .int 1, .int 1, .int 1, .int 2147483647, .int 0, .int 0, .int 0, .int 0, .int 0, .int 0, .int 0, .int 0, .int 0, .int 0, .int 0, .int 0, .int 0, .int 0, .int 0, .int 0, .int 0, .int 0] (.int 0) := VH'
  replace VL := VL.other W93 ne_la
  refine go_dup X93 hx (dc hby d0_367) rfl ?_
  refine go_bipush X93 hx (9) (dc hby d0_368) rfl ?_
  refine go_iconst X93 hx (2) (dc hby d0_370) rfl ?_
  refine go_iastoreV X93 hx hZ e93 VH ⟨by decide, by decide⟩ 9 (by decide) (by simp only [List.length_cons, List.length_nil]; decide) (dc hby d0_371) (fun T94 h94 X94 e94 W94 VH' => ?_)
  replace NF := Fr.snoc X94 NF hha
  replace K := K.wr W94 (Or.inr hha)
  replace VF := VF.other W94 ne_fha
  replace VH : Arv Z h94 ha cha .int 27 [.int 0, .int 0, .int 1, .int 1, .int 1, .int 1, .int 1, .int 1, .int 2147483647, .int 2, .int 0, .int 0, .int 0, .int 0, .int 0, .int 0, .int 0, .int 0, .int 0, .int 0, .int 0, .int 0, .int 0, .int 0, .int 0, .int 0, .int 0] (.int 0) := VH'
  replace VL := VL.other W94 ne_la
  refine go_dup X94 hx (dc hby d0_372) rfl ?_
  refine go_bipush X94 hx (10) (dc hby d0_373) rfl ?_
  refine go_iconst X94 hx (2) (dc hby d0_375) rfl ?_
  refine go_iastoreV X94 hx hZ e94 VH ⟨by decide, by decide⟩ 10 (by decide) (by simp only [List.length_cons, List.length_nil]; decide) (dc hby d0_376) (fun T95 h95 X95 e95 W95 VH' => ?_)
  replace NF := Fr.snoc X95 NF hha
  replace K := K.wr W95 (Or.inr hha)
  replace VF := VF.other W95 ne_fha
  replace VH : Arv Z h95 ha cha .int 27 [.int 0, .int 0, .int 1, .int 1, .int 1, .int 1, .int 1, .int 1, .int 2147483647, .int 2, .int 2, .int 0, .int 0, .int 0, .int 0, .int 0, .int 0, .int 0, .int 0, .int 0, .int 0, .int 0, .int 0, .int 0, .int 0, .int 0, .int 0] (.int 0) := VH'
  replace VL := VL.other W95 ne_la
  refine go_dup X95 hx (dc hby d0_377) rfl ?_
  refine go_bipush X95 hx (11) (dc hby d0_378) rfl ?_
  refine go_iconst X95 hx (2) (dc hby d0_380) rfl ?_
  refine go_iastoreV X95 hx hZ e95 VH ⟨by decide, by decide⟩ 11 (by decide) (by simp only [List.length_cons, List.length_nil]; decide) (dc hby d0_381) (fun T96 h96 X96 e96 W96 VH' => ?_)
  replace NF := Fr.snoc X96 NF hha
  replace K := K.wr W96 (Or.inr hha)
  replace VF := VF.other W96 ne_fha
  replace VH : Arv Z h96 ha cha .int 27 [.int 0, .int 0, .int 1, .int 1, .int 1, .int 1, .int 1, .int 1, .int 2147483647, .int 2, .int 2, .int 2, .int 0, .int 0, .int 0, .int 0, .int 0, .int 0, .int 0, .int 0, .int 0, .int 0, .int 0, .int 0, .int 0, .int 0, .int 0] (.int 0) := VH'
  replace VL := VL.other W96 ne_la
  refine go_dup X96 hx (dc hby d0_382) rfl ?_
  refine go_bipush X96 hx (12) (dc hby d0_383) rfl ?_
  refine go_iconst X96 hx (2) (dc hby d0_385) rfl ?_
  refine go_iastoreV X96 hx hZ e96 VH ⟨by decide, by decide⟩ 12 (by decide) (by simp only [List.length_cons, List.length_nil]; decide) (dc hby d0_386) (fun T97 h97 X97 e97 W97 VH' => ?_)
  replace NF := Fr.snoc X97 NF hha
  replace K := K.wr W97 (Or.inr hha)
  replace VF := VF.other W97 ne_fha
  replace VH : Arv Z h97 ha cha .int 27 [.int 0, .int 0, .int 1, .int 1, .int 1, .int 1, .int 1, .int 1, .int 2147483647, .int 2, .int 2, .int 2, .int 2, .int 0, .int 0, .int 0, .int 0, .int 0, .int 0, .int 0, .int 0, .int 0, .int 0, .int 0, .int 0, .int 0, .int 0] (.int 0) := VH'
  replace VL := VL.other W97 ne_la
  refine go_dup X97 hx (dc hby d0_387) rfl ?_
  refine go_bipush X97 hx (13) (dc hby d0_388) rfl ?_
  refine go_iconst X97 hx (3) (dc hby d0_390) rfl ?_
  refine go_iastoreV X97 hx hZ e97 VH ⟨by decide, by decide⟩ 13 (by decide) (by simp only [List.length_cons, List.length_nil]; decide) (dc hby d0_391) (fun T98 h98 X98 e98 W98 VH' => ?_)
  replace NF := Fr.snoc X98 NF hha
  replace K := K.wr W98 (Or.inr hha)
  replace VF := VF.other W98 ne_fha
  replace VH : Arv Z h98 ha cha .int 27 [.int 0, .int 0, .int 1, .int 1, .int 1, .int 1, .int 1, .int 1, .int 2147483647, .int 2, .int 2, .int 2, .int 2, .int 3, .int 0, .int 0, .int 0, .int 0, .int 0, .int 0, .int 0, .int 0, .int 0, .int 0, .int 0, .int 0, .int 0] (.int 0) := VH'
  replace VL := VL.other W98 ne_la
  refine go_dup X98 hx (dc hby d0_392) rfl ?_
  refine go_bipush X98 hx (14) (dc hby d0_393) rfl ?_
  refine go_iconst X98 hx (1) (dc hby d0_395) rfl ?_
  refine go_iastoreV X98 hx hZ e98 VH ⟨by decide, by decide⟩ 14 (by decide) (by simp only [List.length_cons, List.length_nil]; decide) (dc hby d0_396) (fun T99 h99 X99 e99 W99 VH' => ?_)
  replace NF := Fr.snoc X99 NF hha
  replace K := K.wr W99 (Or.inr hha)
  replace VF := VF.other W99 ne_fha
  replace VH : Arv Z h99 ha cha .int 27 [.int 0, .int 0, .int 1, .int 1, .int 1, .int 1, .int 1, .int 1, .int 2147483647, .int 2, .int 2, .int 2, .int 2, .int 3, .int 1, .int 0, .int 0, .int 0, .int 0, .int 0, .int 0, .int 0, .int 0, .int 0, .int 0, .int 0, .int 0] (.int 0) := VH'
  replace VL := VL.other W99 ne_la
  refine go_dup X99 hx (dc hby d0_397) rfl ?_
  refine go_bipush X99 hx (15) (dc hby d0_398) rfl ?_
  refine go_iconst X99 hx (1) (dc hby d0_400) rfl ?_
  refine go_iastoreV X99 hx hZ e99 VH ⟨by decide, by decide⟩ 15 (by decide) (by simp only [List.length_cons, List.length_nil]; decide) (dc hby d0_401) (fun T100 h100 X100 e100 W100 VH' => ?_)
  replace NF := Fr.snoc X100 NF hha
  replace K := K.wr W100 (Or.inr hha)
  replace VF := VF.other W100 ne_fha
  replace VH : Arv Z h100 ha cha .int 27 [.int 0, .int 0, .int 1, .int 1, .int 1, .int 1, .int 1, .int 1, .int 2147483647, .int 2, .int 2, .int 2, .int 2, .int 3, .int 1, .int 1, .int 0, .int 0, .int 0, .int 0, .int 0, .int 0, .int 0, .int 0, .int 0, .int 0, .int 0] (.int 0) := VH'
  replace VL := VL.other W100 ne_la
  refine go_dup X100 hx (dc hby d0_402) rfl ?_
  refine go_bipush X100 hx (16) (dc hby d0_403) rfl ?_
  refine go_iconst X100 hx (3) (dc hby d0_405) rfl ?_
  refine go_iastoreV X100 hx hZ e100 VH ⟨by decide, by decide⟩ 16 (by decide) (by simp only [List.length_cons, List.length_nil]; decide) (dc hby d0_406) (fun T101 h101 X101 e101 W101 VH' => ?_)
  replace NF := Fr.snoc X101 NF hha
  replace K := K.wr W101 (Or.inr hha)
  replace VF := VF.other W101 ne_fha
  replace VH : Arv Z h101 ha cha .int 27 [.int 0, .int 0, .int 1, .int 1, .int 1, .int 1, .int 1, .int 1, .int 2147483647, .int 2, .int 2, .int 2, .int 2, .int 3, .int 1, .int 1, .int 3, .int 0, .int 0, .int 0, .int 0, .int 0, .int 0, .int 0, .int 0, .int 0, .int 0] (.int 0) := VH'
  replace VL := VL.other W101 ne_la
  refine go_dup X101 hx (dc hby d0_407) rfl ?_
  refine go_bipush X101 hx (17) (dc hby d0_408) rfl ?_
  refine go_iconst X101 hx (1) (dc hby d0_410) rfl ?_
  refine go_iastoreV X101 hx hZ e101 VH ⟨by decide, by decide⟩ 17 (by decide) (by simp only [List.length_cons, List.length_nil]; decide) (dc hby d0_411) (fun T102 h102 X102 e102 W102 VH' => ?_)
  replace NF := Fr.snoc X102 NF hha
  replace K := K.wr W102 (Or.inr hha)
  replace VF := VF.other W102 ne_fha
  replace VH : Arv Z h102 ha cha .int 27 [.int 0, .int 0, .int 1, .int 1, .int 1, .int 1, .int 1, .int 1, .int 2147483647, .int 2, .int 2, .int 2, .int 2, .int 3, .int 1, .int 1, .int 3, .int 1, .int 0, .int 0, .int 0, .int 0, .int 0, .int 0, .int 0, .int 0, .int 0] (.int 0) := VH'
  replace VL := VL.other W102 ne_la
  refine go_dup X102 hx (dc hby d0_412) rfl ?_
  refine go_bipush X102 hx (18) (dc hby d0_413) rfl ?_
  refine go_iconst X102 hx (1) (dc hby d0_415) rfl ?_
  refine go_iastoreV X102 hx hZ e102 VH ⟨by decide, by decide⟩ 18 (by decide) (by simp only [List.length_cons, List.length_nil]; decide) (dc hby d0_416) (fun T103 h103 X103 e103 W103 VH' => ?_)
  replace NF := Fr.snoc X103 NF hha
  replace K := K.wr W103 (Or.inr hha)
  replace VF := VF.other W103 ne_fha
  replace VH : Arv Z h103 ha cha .int 27 [.int 0, .int 0, .int 1, .int 1, .int 1, .int 1, .int 1, .int 1, .int 2147483647, .int 2, .int 2, .int 2, .int 2, .int 3, .int 1, .int 1, .int 3, .int 1, .int 1, .int 0, .int 0, .int 0, .int 0, .int 0, .int 0, .int 0, .int 0] (.int 0) := VH'
  replace VL := VL.other W103 ne_la
  refine go_dup X103 hx (dc hby d0_417) rfl ?_
  refine go_bipush X103 hx (19) (dc hby d0_418) rfl ?_
  refine go_iconst X103 hx (0) (dc hby d0_420) rfl ?_
  refine go_iastoreV X103 hx hZ e103 VH ⟨by decide, by decide⟩ 19 (by decide) (by simp only [List.length_cons, List.length_nil]; decide) (dc hby d0_421) (fun T104 h104 X104 e104 W104 VH' => ?_)
  replace NF := Fr.snoc X104 NF hha
  replace K := K.wr W104 (Or.inr hha)
  replace VF := VF.other W104 ne_fha
  replace VH : Arv Z h104 ha cha .int 27 [.int 0, .int 0, .int 1, .int 1, .int 1, .int 1, .int 1, .int 1, .int 2147483647, .int 2, .int 2, .int 2, .int 2, .int 3, .int 1, .int 1, .int 3, .int 1, .int 1, .int 0, .int 0, .int 0, .int 0, .int 0, .int 0, .int 0, .int 0] (.int 0) := VH'
  replace VL := VL.other W104 ne_la
  refine go_dup X104 hx (dc hby d0_422) rfl ?_
  refine go_bipush X104 hx (20) (dc hby d0_423) rfl ?_
  refine go_iconst X104 hx (0) (dc hby d0_425) rfl ?_
  refine go_iastoreV X104 hx hZ e104 VH ⟨by decide, by decide⟩ 20 (by decide) (by simp only [List.length_cons, List.length_nil]; decide) (dc hby d0_426) (fun T105 h105 X105 e105 W105 VH' => ?_)
  replace NF := Fr.snoc X105 NF hha
  replace K := K.wr W105 (Or.inr hha)
  replace VF := VF.other W105 ne_fha
  replace VH : Arv Z h105 ha cha .int 27 [.int 0, .int 0, .int 1, .int 1, .int 1, .int 1, .int 1, .int 1, .int 2147483647, .int 2, .int 2, .int 2, .int 2, .int 3, .int 1, .int 1, .int 3, .int 1, .int 1, .int 0, .int 0, .int 0, .int 0, .int 0, .int 0, .int 0, .int 0] (.int 0) := VH'
  replace VL := VL.other W105 ne_la
  refine go_dup X105 hx (dc hby d0_427) rfl ?_
  refine go_bipush X105 hx (21) (dc hby d0_428) rfl ?_
  refine go_iconst X105 hx (1) (dc hby d0_430) rfl ?_
  refine go_iastoreV X105 hx hZ e105 VH ⟨by decide, by decide⟩ 21 (by decide) (by simp only [List.length_cons, List.length_nil]; decide) (dc hby d0_431) (fun T106 h106 X106 e106 W106 VH' => ?_)
  replace NF := Fr.snoc X106 NF hha
  replace K := K.wr W106 (Or.inr hha)
  replace VF := VF.other W106 ne_fha
  replace VH : Arv Z h106 ha cha .int 27 [.int 0, .int 0, .int 1, .int 1, .int 1, .int 1, .int 1, .int 1, .int 2147483647, .int 2, .int 2, .int 2, .int 2, .int 3, .int 1, .int 1, .int 3, .int 1, .int 1, .int 0, .int 0, .int 1, .int 0, .int 0, .int 0, .int 0, .int 0] (.int 0) := VH'
  replace VL := VL.other W106 ne_la
  refine go_dup X106 hx (dc hby d0_432) rfl ?_
  refine go_bipush X106 hx (22) (dc hby d0_433) rfl ?_
  refine go_iconst X106 hx (1) (dc hby d0_435) rfl ?_
  refine go_iastoreV X106 hx hZ e106 VH ⟨by decide, by decide⟩ 22 (by decide) (by simp only [List.length_cons, List.length_nil]; decide) (dc hby d0_436) (fun T107 h107 X107 e107 W107 VH' => ?_)
  replace NF := Fr.snoc X107 NF hha
  replace K := K.wr W107 (Or.inr hha)
  replace VF := VF.other W107 ne_fha
  replace VH : Arv Z h107 ha cha .int 27 [.int 0, .int 0, .int 1, .int 1, .int 1, .int 1, .int 1, .int 1, .int 2147483647, .int 2, .int 2, .int 2, .int 2, .int 3, .int 1, .int 1, .int 3, .int 1, .int 1, .int 0, .int 0, .int 1, .int 1, .int 0, .int 0, .int 0, .int 0] (.int 0) := VH'
  replace VL := VL.other W107 ne_la
  refine go_dup X107 hx (dc hby d0_437) rfl ?_
  refine go_bipush X107 hx (23) (dc hby d0_438) rfl ?_
  refine go_iconst X107 hx (1) (dc hby d0_440) rfl ?_
  refine go_iastoreV X107 hx hZ e107 VH ⟨by decide, by decide⟩ 23 (by decide) (by simp only [List.length_cons, List.length_nil]; decide) (dc hby d0_441) (fun T108 h108 X108 e108 W108 VH' => ?_)
  replace NF := Fr.snoc X108 NF hha
  replace K := K.wr W108 (Or.inr hha)
  replace VF := VF.other W108 ne_fha
  replace VH : Arv Z h108 ha cha .int 27 [.int 0, .int 0, .int 1, .int 1, .int 1, .int 1, .int 1, .int 1, .int 2147483647, .int 2, .int 2, .int 2, .int 2, .int 3, .int 1, .int 1, .int 3, .int 1, .int 1, .int 0, .int 0, .int 1, .int 1, .int 1, .int 0, .int 0, .int 0] (.int 0) := VH'
  replace VL := VL.other W108 ne_la
  refine go_dup X108 hx (dc hby d0_442) rfl ?_
  refine go_bipush X108 hx (24) (dc hby d0_443) rfl ?_
  refine go_iconst X108 hx (1) (dc hby d0_445) rfl ?_
  refine go_iastoreV X108 hx hZ e108 VH ⟨by decide, by decide⟩ 24 (by decide) (by simp only [List.length_cons, List.length_nil]; decide) (dc hby d0_446) (fun T109 h109 X109 e109 W109 VH' => ?_)
  replace NF := Fr.snoc X109 NF hha
  replace K := K.wr W109 (Or.inr hha)
  replace VF := VF.other W109 ne_fha
  replace VH : Arv Z h109 ha cha .int 27 [.int 0, .int 0, .int 1, .int 1, .int 1, .int 1, .int 1, .int 1, .int 2147483647, .int 2, .int 2, .int 2, .int 2, .int 3, .int 1, .int 1, .int 3, .int 1, .int 1, .int 0, .int 0, .int 1, .int 1, .int 1, .int 1, .int 0, .int 0] (.int 0) := VH'
  replace VL := VL.other W109 ne_la
  refine go_dup X109 hx (dc hby d0_447) rfl ?_
  refine go_bipush X109 hx (25) (dc hby d0_448) rfl ?_
  refine go_iconst X109 hx (1) (dc hby d0_450) rfl ?_
  refine go_iastoreV X109 hx hZ e109 VH ⟨by decide, by decide⟩ 25 (by decide) (by simp only [List.length_cons, List.length_nil]; decide) (dc hby d0_451) (fun T110 h110 X110 e110 W110 VH' => ?_)
  replace NF := Fr.snoc X110 NF hha
  replace K := K.wr W110 (Or.inr hha)
  replace VF := VF.other W110 ne_fha
  replace VH : Arv Z h110 ha cha .int 27 [.int 0, .int 0, .int 1, .int 1, .int 1, .int 1, .int 1, .int 1, .int 2147483647, .int 2, .int 2, .int 2, .int 2, .int 3, .int 1, .int 1, .int 3, .int 1, .int 1, .int 0, .int 0, .int 1, .int 1, .int 1, .int 1, .int 1, .int 0] (.int 0) := VH'
  replace VL := VL.other W110 ne_la
  refine go_dup X110 hx (dc hby d0_452) rfl ?_
  refine go_bipush X110 hx (26) (dc hby d0_453) rfl ?_
  refine go_iconst X110 hx (1) (dc hby d0_455) rfl ?_
  refine go_iastoreV X110 hx hZ e110 VH ⟨by decide, by decide⟩ 26 (by decide) (by simp only [List.length_cons, List.length_nil]; decide) (dc hby d0_456) (fun T111 h111 X111 e111 W111 VH' => ?_)
  replace NF := Fr.snoc X111 NF hha
  replace K := K.wr W111 (Or.inr hha)
  replace VF := VF.other W111 ne_fha
  replace VH : Arv Z h111 ha cha .int 27 [.int 0, .int 0, .int 1, .int 1, .int 1, .int 1, .int 1, .int 1, .int 2147483647, .int 2, .int 2, .int 2, .int 2, .int 3, .int 1, .int 1, .int 3, .int 1, .int 1, .int 0, .int 0, .int 1, .int 1, .int 1, .int 1, .int 1, .int 1] (.int 0) := VH'
  replace VL := VL.other W111 ne_la
  refine go_astore X111 hx #[.val (.int p1), .val (.int p2), .val (.ref fa), .val (.ref la), .val (.ref ha), .unset, .unset] (dc hby d0_457) rfl rfl ?_
  refine go_iloadn X111 hx (dc hby d0_459) (v := p1) rfl ?_
  refine go_ldc X111 hx hZ hown (hw _ (List.mem_of_getElem? (i := 59) rfl)) (dc hby d0_460) ?_
  refine go_iand X111 hx (dc hby d0_462) ?_
  refine go_bipush X111 hx (27) (dc hby d0_463) rfl ?_
  refine go_irem X111 hx (dc hby d0_465) (by decide) ?_
  obtain ⟨LL, XL, NL⟩ : ∃ LL, Stand p l e room_1 s m #[(.int p1), (.int p2)] below meth c T111 LL 3 81 ∧ Fr h0.size LL := ⟨_, X111, NF⟩
  show Go p e below _ (T111.setTop (mkF m 466 #[.val (.int p1), .val (.int p2), .val (.ref fa), .val (.ref la), .val (.ref ha), .unset, .unset] [(.int ((p1 &&& (2147483647 : Int32)) % (27 : Int32)))]))
  rw [hi]
  show Go p e below _ (T111.setTop (mkF m 466 #[.val (.int p1), .val (.int p2), .val (.ref fa), .val (.ref la), .val (.ref ha), .unset, .unset] [(.int (Int32.ofNat n))]))
  refine go_istore XL hx #[.val (.int p1), .val (.int p2), .val (.ref fa), .val (.ref la), .val (.ref ha), .val (.int (Int32.ofNat n)), .unset] (dc hby d0_466) rfl ?_
  refine go_iloadn XL hx (dc hby d0_468) (v := p2) rfl ?_
  refine go_aloadn XL hx (dc hby d0_469) (v := (.ref la)) rfl rfl ?_
  refine go_iload XL hx (dc hby d0_470) (v := (Int32.ofNat n)) rfl ?_
  have VL2 : Arv Z h111 la cla .int 27 (own_lo.map Value.int) (.int 0) := VL
  have VH2 : Arv Z h111 ha cha .int 27 (own_hi.map Value.int) (.int 0) := VH
  have VF2 : Arv Z h111 fa cF (.object "com/example/strict_model/strictmodel/XPathFunctions$Function") 27 [.ref (A 0), .ref (A 1), .ref (A 2), .ref (A 3), .ref (A 4), .ref (A 5), .ref (A 6), .ref (A 7), .ref (A 8), .ref (A 9), .ref (A 10), .ref (A 11), .ref (A 12), .ref (A 13), .ref (A 14), .ref (A 15), .ref (A 16), .ref (A 17), .ref (A 18), .ref (A 19), .ref (A 20), .ref (A 21), .ref (A 22), .ref (A 23), .ref (A 24), .ref (A 25), .ref (A 26)] .null := VF
  clear VL VH VF
  have gL : (own_lo.map Value.int).getD (Int32.ofNat n).toNatClampNeg (.int 0) = Value.int (own_lo.getD n 0) := by rw [own_clamp (by omega)]; exact own_cases (P := fun n => (own_lo.map Value.int).getD n (.int 0) = Value.int (own_lo.getD n 0)) rfl rfl rfl rfl rfl rfl rfl rfl rfl rfl rfl rfl rfl rfl rfl rfl rfl rfl rfl rfl rfl rfl rfl rfl rfl rfl rfl n hn
  have gH : (own_hi.map Value.int).getD (Int32.ofNat n).toNatClampNeg (.int 0) = Value.int (own_hi.getD n 0) := by rw [own_clamp (by omega)]; exact own_cases (P := fun n => (own_hi.map Value.int).getD n (.int 0) = Value.int (own_hi.getD n 0)) rfl rfl rfl rfl rfl rfl rfl rfl rfl rfl rfl rfl rfl rfl rfl rfl rfl rfl rfl rfl rfl rfl rfl rfl rfl rfl rfl n hn
  have gF : List.getD [.ref (A 0), .ref (A 1), .ref (A 2), .ref (A 3), .ref (A 4), .ref (A 5), .ref (A 6), .ref (A 7), .ref (A 8), .ref (A 9), .ref (A 10), .ref (A 11), .ref (A 12), .ref (A 13), .ref (A 14), .ref (A 15), .ref (A 16), .ref (A 17), .ref (A 18), .ref (A 19), .ref (A 20), .ref (A 21), .ref (A 22), .ref (A 23), .ref (A 24), .ref (A 25), .ref (A 26)] (Int32.ofNat n).toNatClampNeg .null = Value.ref (A n) := by rw [own_clamp (by omega)]; exact own_cases (P := fun n => List.getD [.ref (A 0), .ref (A 1), .ref (A 2), .ref (A 3), .ref (A 4), .ref (A 5), .ref (A 6), .ref (A 7), .ref (A 8), .ref (A 9), .ref (A 10), .ref (A 11), .ref (A 12), .ref (A 13), .ref (A 14), .ref (A 15), .ref (A 16), .ref (A 17), .ref (A 18), .ref (A 19), .ref (A 20), .ref (A 21), .ref (A 22), .ref (A 23), .ref (A 24), .ref (A 25), .ref (A 26)] n .null = Value.ref (A n)) rfl rfl rfl rfl rfl rfl rfl rfl rfl rfl rfl rfl rfl rfl rfl rfl rfl rfl rfl rfl rfl rfl rfl rfl rfl rfl rfl n hn
  refine go_ialoadV XL hx hZ e111 VL2 (w := (own_lo.getD n 0)) (own_inN hn) gL (dc hby d0_472) ?_
  have J112 : ∀ (TJ112 : State) (z : Int32), Stand p l e room_1 s m #[(.int p1), (.int p2)] below meth c TJ112 LL 3 81 → TJ112.heap = h111 → z = (own_b (¬ p2 < (own_lo.getD n 0) ∧ ¬ (own_hi.getD n 0) < p2)) → Go p e below (EndN s (fun v h L => v = some (.int 1) ∧ Fr h0.size L) room_1.cells room_1.slots) (TJ112.setTop (mkF m 490 #[.val (.int p1), .val (.int p2), .val (.ref fa), .val (.ref la), .val (.ref ha), .val (.int (Int32.ofNat n)), .unset] [(.int z)])) := by
    intro TJ112 z XJ112 eJ112 hz
    subst hz
    show Go p e below _ (TJ112.setTop (mkF m 490 #[.val (.int p1), .val (.int p2), .val (.ref fa), .val (.ref la), .val (.ref ha), .val (.int (Int32.ofNat n)), .unset] [(.int (own_b (¬ p2 < (own_lo.getD n 0) ∧ ¬ (own_hi.getD n 0) < p2)))]))
    refine go_istore XJ112 hx #[.val (.int p1), .val (.int p2), .val (.ref fa), .val (.ref la), .val (.ref ha), .val (.int (Int32.ofNat n)), .val (.int (own_b (¬ p2 < (own_lo.getD n 0) ∧ ¬ (own_hi.getD n 0) < p2)))] (dc hby d0_490) rfl ?_
    refine go_aloadn XJ112 hx (dc hby d0_492) (v := (.ref fa)) rfl rfl ?_
    refine go_iload XJ112 hx (dc hby d0_493) (v := (Int32.ofNat n)) rfl ?_
    refine go_aaloadV XJ112 hx hZ eJ112 rfl VF2 (v := (.ref (A n))) (own_inN hn) gF (dc hby d0_495) ?_
    refine go_iloadn XJ112 hx (dc hby d0_496) (v := p2) rfl ?_
    refine go_virtualP XJ112 hx hZ hown (hw _ (List.mem_of_getElem? (i := 60) rfl)) (hw _ (List.mem_of_getElem? (i := 61) rfl)) (hw _ (List.mem_of_getElem? (i := 63) rfl)) (hw _ (List.mem_of_getElem? (i := 62) rfl)) (hw _ (List.mem_of_getElem? (i := 3) rfl)) (hw _ (List.mem_of_getElem? (i := 64) rfl)) (by decide) eJ112 (a := (A n)) ((hE n hn).keep K) [(.int p2)] [] (r := (.int (own_b (¬ p2 < (own_lo.getD n 0) ∧ ¬ (own_hi.getD n 0) < p2)))) (rm1 l Z a0 hw [] (A n) p2 (own_lo.getD n 0) (own_hi.getD n 0) h111 ((hM n hn).1.keep K (by simp)) ((hM n hn).2.keep K (by simp))) pd1 rfl (by rw [hml]; rfl) rfl 0 (Nat.le_of_eq rfl) (by decide) (by decide) rfl rfl (by decide) (by decide) (dc hby d0_497) (fun T113 X113 e113 => ?_)
    refine go_iload X113 hx (dc hby d0_500) (v := (own_b (¬ p2 < (own_lo.getD n 0) ∧ ¬ (own_hi.getD n 0) < p2))) rfl ?_
    refine go_icmp_ne X113 hx (db hby d0_502) (fun c502 => ?_) (fun c502 => ?_)
    · exact absurd rfl c502
    · refine go_iconst X113 hx (1) (dc hby d0_505) rfl ?_
      refine go_goto X113 hx (db hby d0_506) ?_
      exact go_retN X113 hx hret (by simp) (dc hby d0_510) hk (by decide) (by decide) ⟨rfl, NL⟩
  refine go_icmp_lt XL hx (db hby d0_473) (fun c473 => ?_) (fun c473 => ?_)
  · refine go_iconst XL hx (0) (dc hby d0_489) rfl ?_
    exact J112 T111 _ XL e111 ((own_bF (fun q => q.1 c473)).symm)
  · refine go_iloadn XL hx (dc hby d0_476) (v := p2) rfl ?_
    refine go_aload XL hx (dc hby d0_477) (v := (.ref ha)) rfl rfl ?_
    refine go_iload XL hx (dc hby d0_479) (v := (Int32.ofNat n)) rfl ?_
    refine go_ialoadV XL hx hZ e111 VH2 (w := (own_hi.getD n 0)) (own_inN hn) gH (dc hby d0_481) ?_
    refine go_icmp_gt XL hx (db hby d0_482) (fun c482 => ?_) (fun c482 => ?_)
    · refine go_iconst XL hx (0) (dc hby d0_489) rfl ?_
      exact J112 T111 _ XL e111 ((own_bF (fun q => q.2 c482)).symm)
    · refine go_iconst XL hx (1) (dc hby d0_485) rfl ?_
      refine go_goto XL hx (db hby d0_486) ?_
      exact J112 T111 _ XL e111 ((own_bT ⟨c473, c482⟩).symm)
theorem pd0 : parseMethodDescriptor "(II)Z" = some ⟨[.int, .int], some .boolean⟩ := by decide +kernel
set_option maxRecDepth 65536 in
set_option maxHeartbeats 40000000 in
theorem comes_1 {Post : Tables → Env → Array Value → State → Outcome → State → Prop} (hpost : ∀ tb e args s v u, (limb_1_1.after args s (.returned v) u = true ∧ limb_1_2.after args s (.returned v) u = true ∧ True) → FrameEnd s (.returned v) u (Jvm.fieldLocs frame_1_writes args s ++ Jvm.arrayLocs frame_1_arrays args s ++ Jvm.staticLocs frame_1_statics s) 16 256 → Post tb e args s (.returned v) u) :
    ArmFor flags0 classFile x code maxLocals ret World_1 tables_1 room_1 Calls_1 rest_1 Pre_1 Post := by
  intro l hfl _ _ p e ha hc hk s m args below hf hA hF happ hP
  obtain ⟨hcalls, hrest, hpre⟩ := hP
  obtain ⟨-, -, -, hnamed, -, -, -, hat⟩ := (Spec.applies_iff hf).mp happ
  obtain ⟨hg, hn⟩ := and_e (Cond.before_iff.mp (show (Jvm.Cond.and given_1 narrow_1).before args s = true from hpre))
  obtain ⟨g1, g2⟩ := and_e hg
  obtain ⟨w0, w1, rfl⟩ : ∃ w0 w1 : Value, args = #[w0, w1] := by
    have hs : args.size = 2 := by simpa [Cond.value, given_1] using g1
    obtain ⟨L⟩ := args
    match L, hs with
    | [w0, w1], _ => exact ⟨w0, w1, rfl⟩
  have hw := fun d (hd : d ∈ tables_1) => atoms_spec (ws := Jvm.Cond.code x code maxLocals ret :: tables_1) hat d (List.mem_cons_of_mem _ hd)
  have hfit : Fit s := fun {y c} hc i hi => by
    obtain ⟨ha, rfl⟩ := Array.getElem?_eq_some_iff.mp hc
    have q := List.all_eq_true.mp ((Array.all_eq_true_iff_forall_mem.mp hF) _ (Array.getElem_mem ha)) i (List.mem_range.mpr hi)
    simpa [Array.getElem?_eq_getElem hi] using q
  obtain ⟨u0, r0⟩ := and_e g2
  obtain ⟨i0, j0⟩ := is_v u0
  obtain rfl : w0 = (.int i0) := Option.some.inj j0
  obtain ⟨i1, j1⟩ := is_v r0
  obtain rfl : w1 = (.int i1) := Option.some.inj j1
  obtain ⟨x0, t0⟩ := and_e hn
  obtain ⟨x1, t1⟩ := and_e t0
  obtain ⟨x2, t2⟩ := and_e t1
  obtain ⟨x3, t3⟩ := and_e t2
  obtain ⟨x4, t4⟩ := and_e t3
  obtain ⟨x5, t5⟩ := and_e t4
  obtain ⟨x6, t6⟩ := and_e t5
  obtain ⟨x7, t7⟩ := and_e t6
  obtain ⟨x8, t8⟩ := and_e t7
  obtain ⟨x9, t9⟩ := and_e t8
  obtain ⟨x10, t10⟩ := and_e t9
  obtain ⟨x11, t11⟩ := and_e t10
  obtain ⟨x12, t12⟩ := and_e t11
  obtain ⟨x13, t13⟩ := and_e t12
  obtain ⟨x14, t14⟩ := and_e t13
  obtain ⟨x15, t15⟩ := and_e t14
  obtain ⟨x16, t16⟩ := and_e t15
  obtain ⟨x17, t17⟩ := and_e t16
  obtain ⟨x18, t18⟩ := and_e t17
  obtain ⟨x19, t19⟩ := and_e t18
  obtain ⟨x20, t20⟩ := and_e t19
  obtain ⟨x21, t21⟩ := and_e t20
  obtain ⟨x22, t22⟩ := and_e t21
  obtain ⟨x23, t23⟩ := and_e t22
  obtain ⟨x24, t24⟩ := and_e t23
  obtain ⟨x25, t25⟩ := and_e t24
  obtain ⟨x26, t26⟩ := and_e t25
  obtain ⟨m0, t27⟩ := and_e t26
  obtain ⟨u0, t28⟩ := and_e t27
  obtain ⟨m14, t29⟩ := and_e t28
  obtain ⟨u14, t30⟩ := and_e t29
  obtain ⟨m5, t31⟩ := and_e t30
  obtain ⟨m13, t32⟩ := and_e t31
  obtain ⟨m19, t33⟩ := and_e t32
  obtain ⟨u19, t34⟩ := and_e t33
  obtain ⟨m6, t35⟩ := and_e t34
  obtain ⟨m8, t36⟩ := and_e t35
  obtain ⟨u8, t37⟩ := and_e t36
  obtain ⟨m12, t38⟩ := and_e t37
  obtain ⟨u12, t39⟩ := and_e t38
  obtain ⟨m11, t40⟩ := and_e t39
  obtain ⟨u11, t41⟩ := and_e t40
  obtain ⟨m3, t42⟩ := and_e t41
  obtain ⟨u3, t43⟩ := and_e t42
  obtain ⟨m24, t44⟩ := and_e t43
  obtain ⟨m18, t45⟩ := and_e t44
  obtain ⟨u18, t46⟩ := and_e t45
  obtain ⟨m10, t47⟩ := and_e t46
  obtain ⟨u10, t48⟩ := and_e t47
  obtain ⟨m1, t49⟩ := and_e t48
  obtain ⟨u1, t50⟩ := and_e t49
  obtain ⟨m15, t51⟩ := and_e t50
  obtain ⟨u15, t52⟩ := and_e t51
  obtain ⟨m2, t53⟩ := and_e t52
  obtain ⟨u2, t54⟩ := and_e t53
  obtain ⟨m22, t55⟩ := and_e t54
  obtain ⟨m7, t56⟩ := and_e t55
  obtain ⟨u7, t57⟩ := and_e t56
  obtain ⟨u5, t58⟩ := and_e t57
  obtain ⟨m25, t59⟩ := and_e t58
  obtain ⟨u25, t60⟩ := and_e t59
  obtain ⟨m26, t61⟩ := and_e t60
  obtain ⟨u26, t62⟩ := and_e t61
  obtain ⟨u24, t63⟩ := and_e t62
  obtain ⟨u6, t64⟩ := and_e t63
  obtain ⟨m9, t65⟩ := and_e t64
  obtain ⟨u9, t66⟩ := and_e t65
  obtain ⟨m4, t67⟩ := and_e t66
  obtain ⟨u4, t68⟩ := and_e t67
  obtain ⟨u13, t69⟩ := and_e t68
  obtain ⟨m17, t70⟩ := and_e t69
  obtain ⟨u17, t71⟩ := and_e t70
  obtain ⟨m21, t72⟩ := and_e t71
  obtain ⟨u21, t73⟩ := and_e t72
  obtain ⟨m20, t74⟩ := and_e t73
  obtain ⟨u20, t75⟩ := and_e t74
  obtain ⟨m16, t76⟩ := and_e t75
  obtain ⟨u16, t77⟩ := and_e t76
  obtain ⟨m23, t78⟩ := and_e t77
  obtain ⟨u23, t79⟩ := and_e t78
  have u22 := t79
  obtain ⟨a0, v0⟩ := exa_v x0
  have S0 := Sta.start v0 (Or.inr ⟨(hw _ (List.mem_of_getElem? (i := 3) rfl)), (hw _ (List.mem_of_getElem? (i := 4) rfl))⟩)
  obtain ⟨a1, v1⟩ := exa_v x1
  have S1 := Sta.start v1 (Or.inr ⟨(hw _ (List.mem_of_getElem? (i := 3) rfl)), (hw _ (List.mem_of_getElem? (i := 7) rfl))⟩)
  obtain ⟨a2, v2⟩ := exa_v x2
  have S2 := Sta.start v2 (Or.inr ⟨(hw _ (List.mem_of_getElem? (i := 3) rfl)), (hw _ (List.mem_of_getElem? (i := 9) rfl))⟩)
  obtain ⟨a3, v3⟩ := exa_v x3
  have S3 := Sta.start v3 (Or.inr ⟨(hw _ (List.mem_of_getElem? (i := 3) rfl)), (hw _ (List.mem_of_getElem? (i := 11) rfl))⟩)
  obtain ⟨a4, v4⟩ := exa_v x4
  have S4 := Sta.start v4 (Or.inr ⟨(hw _ (List.mem_of_getElem? (i := 3) rfl)), (hw _ (List.mem_of_getElem? (i := 13) rfl))⟩)
  obtain ⟨a5, v5⟩ := exa_v x5
  have S5 := Sta.start v5 (Or.inr ⟨(hw _ (List.mem_of_getElem? (i := 3) rfl)), (hw _ (List.mem_of_getElem? (i := 15) rfl))⟩)
  obtain ⟨a6, v6⟩ := exa_v x6
  have S6 := Sta.start v6 (Or.inr ⟨(hw _ (List.mem_of_getElem? (i := 3) rfl)), (hw _ (List.mem_of_getElem? (i := 17) rfl))⟩)
  obtain ⟨a7, v7⟩ := exa_v x7
  have S7 := Sta.start v7 (Or.inr ⟨(hw _ (List.mem_of_getElem? (i := 3) rfl)), (hw _ (List.mem_of_getElem? (i := 19) rfl))⟩)
  obtain ⟨a8, v8⟩ := exa_v x8
  have S8 := Sta.start v8 (Or.inr ⟨(hw _ (List.mem_of_getElem? (i := 3) rfl)), (hw _ (List.mem_of_getElem? (i := 21) rfl))⟩)
  obtain ⟨a9, v9⟩ := exa_v x9
  have S9 := Sta.start v9 (Or.inr ⟨(hw _ (List.mem_of_getElem? (i := 3) rfl)), (hw _ (List.mem_of_getElem? (i := 23) rfl))⟩)
  obtain ⟨a10, v10⟩ := exa_v x10
  have S10 := Sta.start v10 (Or.inr ⟨(hw _ (List.mem_of_getElem? (i := 3) rfl)), (hw _ (List.mem_of_getElem? (i := 25) rfl))⟩)
  obtain ⟨a11, v11⟩ := exa_v x11
  have S11 := Sta.start v11 (Or.inr ⟨(hw _ (List.mem_of_getElem? (i := 3) rfl)), (hw _ (List.mem_of_getElem? (i := 27) rfl))⟩)
  obtain ⟨a12, v12⟩ := exa_v x12
  have S12 := Sta.start v12 (Or.inr ⟨(hw _ (List.mem_of_getElem? (i := 3) rfl)), (hw _ (List.mem_of_getElem? (i := 29) rfl))⟩)
  obtain ⟨a13, v13⟩ := exa_v x13
  have S13 := Sta.start v13 (Or.inr ⟨(hw _ (List.mem_of_getElem? (i := 3) rfl)), (hw _ (List.mem_of_getElem? (i := 31) rfl))⟩)
  obtain ⟨a14, v14⟩ := exa_v x14
  have S14 := Sta.start v14 (Or.inr ⟨(hw _ (List.mem_of_getElem? (i := 3) rfl)), (hw _ (List.mem_of_getElem? (i := 33) rfl))⟩)
  obtain ⟨a15, v15⟩ := exa_v x15
  have S15 := Sta.start v15 (Or.inr ⟨(hw _ (List.mem_of_getElem? (i := 3) rfl)), (hw _ (List.mem_of_getElem? (i := 35) rfl))⟩)
  obtain ⟨a16, v16⟩ := exa_v x16
  have S16 := Sta.start v16 (Or.inr ⟨(hw _ (List.mem_of_getElem? (i := 3) rfl)), (hw _ (List.mem_of_getElem? (i := 37) rfl))⟩)
  obtain ⟨a17, v17⟩ := exa_v x17
  have S17 := Sta.start v17 (Or.inr ⟨(hw _ (List.mem_of_getElem? (i := 3) rfl)), (hw _ (List.mem_of_getElem? (i := 39) rfl))⟩)
  obtain ⟨a18, v18⟩ := exa_v x18
  have S18 := Sta.start v18 (Or.inr ⟨(hw _ (List.mem_of_getElem? (i := 3) rfl)), (hw _ (List.mem_of_getElem? (i := 41) rfl))⟩)
  obtain ⟨a19, v19⟩ := exa_v x19
  have S19 := Sta.start v19 (Or.inr ⟨(hw _ (List.mem_of_getElem? (i := 3) rfl)), (hw _ (List.mem_of_getElem? (i := 43) rfl))⟩)
  obtain ⟨a20, v20⟩ := exa_v x20
  have S20 := Sta.start v20 (Or.inr ⟨(hw _ (List.mem_of_getElem? (i := 3) rfl)), (hw _ (List.mem_of_getElem? (i := 45) rfl))⟩)
  obtain ⟨a21, v21⟩ := exa_v x21
  have S21 := Sta.start v21 (Or.inr ⟨(hw _ (List.mem_of_getElem? (i := 3) rfl)), (hw _ (List.mem_of_getElem? (i := 47) rfl))⟩)
  obtain ⟨a22, v22⟩ := exa_v x22
  have S22 := Sta.start v22 (Or.inr ⟨(hw _ (List.mem_of_getElem? (i := 3) rfl)), (hw _ (List.mem_of_getElem? (i := 49) rfl))⟩)
  obtain ⟨a23, v23⟩ := exa_v x23
  have S23 := Sta.start v23 (Or.inr ⟨(hw _ (List.mem_of_getElem? (i := 3) rfl)), (hw _ (List.mem_of_getElem? (i := 51) rfl))⟩)
  obtain ⟨a24, v24⟩ := exa_v x24
  have S24 := Sta.start v24 (Or.inr ⟨(hw _ (List.mem_of_getElem? (i := 3) rfl)), (hw _ (List.mem_of_getElem? (i := 53) rfl))⟩)
  obtain ⟨a25, v25⟩ := exa_v x25
  have S25 := Sta.start v25 (Or.inr ⟨(hw _ (List.mem_of_getElem? (i := 3) rfl)), (hw _ (List.mem_of_getElem? (i := 55) rfl))⟩)
  obtain ⟨a26, v26⟩ := exa_v x26
  have S26 := Sta.start v26 (Or.inr ⟨(hw _ (List.mem_of_getElem? (i := 3) rfl)), (hw _ (List.mem_of_getElem? (i := 57) rfl))⟩)
  have hE : ∀ k, k < 27 → Exa s s.heap ((fun k => ([a0, a1, a2, a3, a4, a5, a6, a7, a8, a9, a10, a11, a12, a13, a14, a15, a16, a17, a18, a19, a20, a21, a22, a23, a24, a25, a26] : List Addr).getD k 0) k) "com/example/strict_model/strictmodel/XPathFunctions$Function" := own_cases (P := fun k => Exa s s.heap ((fun k => ([a0, a1, a2, a3, a4, a5, a6, a7, a8, a9, a10, a11, a12, a13, a14, a15, a16, a17, a18, a19, a20, a21, a22, a23, a24, a25, a26] : List Addr).getD k 0) k) "com/example/strict_model/strictmodel/XPathFunctions$Function") (Exa.start v0 x0) (Exa.start v1 x1) (Exa.start v2 x2) (Exa.start v3 x3) (Exa.start v4 x4) (Exa.start v5 x5) (Exa.start v6 x6) (Exa.start v7 x7) (Exa.start v8 x8) (Exa.start v9 x9) (Exa.start v10 x10) (Exa.start v11 x11) (Exa.start v12 x12) (Exa.start v13 x13) (Exa.start v14 x14) (Exa.start v15 x15) (Exa.start v16 x16) (Exa.start v17 x17) (Exa.start v18 x18) (Exa.start v19 x19) (Exa.start v20 x20) (Exa.start v21 x21) (Exa.start v22 x22) (Exa.start v23 x23) (Exa.start v24 x24) (Exa.start v25 x25) (Exa.start v26 x26)
  have hM : ∀ k, k < 27 → Fld s s.heap ((fun k => ([a0, a1, a2, a3, a4, a5, a6, a7, a8, a9, a10, a11, a12, a13, a14, a15, a16, a17, a18, a19, a20, a21, a22, a23, a24, a25, a26] : List Addr).getD k 0) k) "com/example/strict_model/strictmodel/XPathFunctions$Function" "minimum" "I" (.int (own_lo.getD k 0)) ∧ Fld s s.heap ((fun k => ([a0, a1, a2, a3, a4, a5, a6, a7, a8, a9, a10, a11, a12, a13, a14, a15, a16, a17, a18, a19, a20, a21, a22, a23, a24, a25, a26] : List Addr).getD k 0) k) "com/example/strict_model/strictmodel/XPathFunctions$Function" "maximum" "I" (.int (own_hi.getD k 0)) := own_cases (P := fun k => Fld s s.heap ((fun k => ([a0, a1, a2, a3, a4, a5, a6, a7, a8, a9, a10, a11, a12, a13, a14, a15, a16, a17, a18, a19, a20, a21, a22, a23, a24, a25, a26] : List Addr).getD k 0) k) "com/example/strict_model/strictmodel/XPathFunctions$Function" "minimum" "I" (.int (own_lo.getD k 0)) ∧ Fld s s.heap ((fun k => ([a0, a1, a2, a3, a4, a5, a6, a7, a8, a9, a10, a11, a12, a13, a14, a15, a16, a17, a18, a19, a20, a21, a22, a23, a24, a25, a26] : List Addr).getD k 0) k) "com/example/strict_model/strictmodel/XPathFunctions$Function" "maximum" "I" (.int (own_hi.getD k 0))) ⟨Fld.start (own_ord v0 m0), Fld.start (own_ord v0 u0)⟩ ⟨Fld.start (own_ord v1 m1), Fld.start (own_ord v1 u1)⟩ ⟨Fld.start (own_ord v2 m2), Fld.start (own_ord v2 u2)⟩ ⟨Fld.start (own_ord v3 m3), Fld.start (own_ord v3 u3)⟩ ⟨Fld.start (own_ord v4 m4), Fld.start (own_ord v4 u4)⟩ ⟨Fld.start (own_ord v5 m5), Fld.start (own_ord v5 u5)⟩ ⟨Fld.start (own_ord v6 m6), Fld.start (own_ord v6 u6)⟩ ⟨Fld.start (own_ord v7 m7), Fld.start (own_ord v7 u7)⟩ ⟨Fld.start (own_ord v8 m8), Fld.start (own_ord v8 u8)⟩ ⟨Fld.start (own_ord v9 m9), Fld.start (own_ord v9 u9)⟩ ⟨Fld.start (own_ord v10 m10), Fld.start (own_ord v10 u10)⟩ ⟨Fld.start (own_ord v11 m11), Fld.start (own_ord v11 u11)⟩ ⟨Fld.start (own_ord v12 m12), Fld.start (own_ord v12 u12)⟩ ⟨Fld.start (own_ord v13 m13), Fld.start (own_ord v13 u13)⟩ ⟨Fld.start (own_ord v14 m14), Fld.start (own_ord v14 u14)⟩ ⟨Fld.start (own_ord v15 m15), Fld.start (own_ord v15 u15)⟩ ⟨Fld.start (own_ord v16 m16), Fld.start (own_ord v16 u16)⟩ ⟨Fld.start (own_ord v17 m17), Fld.start (own_ord v17 u17)⟩ ⟨Fld.start (own_ord v18 m18), Fld.start (own_ord v18 u18)⟩ ⟨Fld.start (own_ord v19 m19), Fld.start (own_ord v19 u19)⟩ ⟨Fld.start (own_ord v20 m20), Fld.start (own_ord v20 u20)⟩ ⟨Fld.start (own_ord v21 m21), Fld.start (own_ord v21 u21)⟩ ⟨Fld.start (own_ord v22 m22), Fld.start (own_ord v22 u22)⟩ ⟨Fld.start (own_ord v23 m23), Fld.start (own_ord v23 u23)⟩ ⟨Fld.start (own_ord v24 m24), Fld.start (own_ord v24 u24)⟩ ⟨Fld.start (own_ord v25 m25), Fld.start (own_ord v25 u25)⟩ ⟨Fld.start (own_ord v26 m26), Fld.start (own_ord v26 u26)⟩
  obtain ⟨n, o, h1, h2, h3, _, L, rfl, ⟨rfl, N⟩, hq⟩ := rm0 l s _ hw tables_1 i0 i1 (fun k => ([a0, a1, a2, a3, a4, a5, a6, a7, a8, a9, a10, a11, a12, a13, a14, a15, a16, a17, a18, a19, a20, a21, a22, a23, a24, a25, a26] : List Addr).getD k 0) s.heap ⟨S0, S1, S2, S3, S4, S5, S6, S7, S8, S9, S10, S11, S12, S13, S14, S15, S16, S17, S18, S19, S20, S21, S22, S23, S24, S25, S26⟩ hE hM p e ha hc hk s m _ below hf ((Spec.applies_iff_loose hf).mp happ).1 ⟨rfl, State.Warmed39.refl s, rfl⟩ trivial
  refine ⟨n, _, h1, h2, h3, hpost _ _ _ _ _ _ ⟨Cond.after_iff.mpr rfl, Cond.after_iff.mpr (eq_i res_at (Term.int_eval (1)) rfl), trivial⟩ ⟨hq.1, hq.2.1, (hq.2.2.sift fun y hy => Or.inr (N y hy)).mono (by decide) (by decide)⟩⟩
theorem main_1_1 : Claimed_1_1 := comes_1 fun _ _ _ _ _ _ h hF => ⟨h.1, hF⟩
theorem main_1_2 : Claimed_1_2 := comes_1 fun _ _ _ _ _ _ h hF => ⟨h.2.1, hF⟩
end Jvm.Pilot.@@N@@
namespace Jvm.Pilot.@@N@@
open Jvm Jvm.ClassFile Sem Op Lib Jvm.Free Jvm.Stand Jvm.Pilot.@@N@@.Jvm.D
/-! MADE BY PROGRAM (witnessworld.py) out of the Statement's table words and the real class files: 13 classes; the members and pool entries that the words name. The judged class is class 1, her method 1. -/
namespace start1
open Jvm.ClassFile
def u (s : String) : CpInfo := .utf8 (stringToUtf16 s)
/-- a pool by its gaps: so many unusable entries, then the entry; so many at the end -/
def gap : Nat → List CpInfo → List CpInfo
  | 0, r => r
  | n + 1, r => .unusable :: gap n r
def poolList (es : List (Nat × CpInfo)) (last : Nat) : List CpInfo := es.foldr (fun e r => gap e.1 (e.2 :: r)) (gap last [])
def pool (es : List (Nat × CpInfo)) (last : Nat) : Array CpInfo := ⟨poolList es last⟩
def fileOf (pool : Array CpInfo) (this : Nat) (attrs : Array Attribute := #[]) (ms : Array MethodInfo := #[]) (fl : Nat := 33) (sup : Nat := 0) (ifs : Array Nat := #[]) (fds : Array FieldInfo := #[]) : ClassFile where
  minorVersion := 0
  majorVersion := 65
  constantPool := pool
  accessFlags := fl
  thisClass := this
  superClass := sup
  interfaces := ifs
  fields := fds
  methods := ms
  attributes := attrs
def plain (name : String) (sup : Option ClassId) : Class where
  name := name
  kind := .ordinary
  loader := none
  accessFlags := 33
  super := sup
  interfaces := #[]
  cf := none
  fields := #[]
  methods := #[]
  instanceTypes := #[]
  staticTypes := #[]
  resolved := #[]
  callSites := []
  init := .initialized
  statics := none
  mirror := none

def pool0 : Array CpInfo := pool [(5, u "<init>"), (0, u "()V"), (1, .class_ 10), (1, u "java/lang/Object")] 113

def k0m0 : Method := { name := "<init>", desc := "()V", sig := { parameters := [], returnType := none }, accessFlags := 1, code := none }
/-- java/lang/Object -/
def k0 : Class := { plain "java/lang/Object" none with
  accessFlags := 33
  interfaces := #[]
  cf := some (fileOf pool0 8 #[] #[{ accessFlags := 1, nameIndex := 5, descriptorIndex := 6, attributes := #[] }] 33 0 #[] #[])
  fields := #[]
  methods := #[k0m0]
  instanceTypes := #[]
  staticTypes := #[]
  resolved := Array.replicate 124 none
  statics := none }

def pool1 : Array CpInfo := pool [(2, .class_ 4), (1, u "java/lang/Object"), (0, u "<init>"), (0, u "()V"), (0, .class_ 8), (0, u "com/example/strict_model/strictmodel/XPathFunctions$Function"), (0, .fieldref 7 10), (0, .nameAndType 11 12), (0, u "LAST"), (0, u "Lcom/example/strict_model/strictmodel/XPathFunctions$Function;"), (0, .fieldref 7 14), (0, .nameAndType 15 12), (0, u "POSITION"), (0, .fieldref 7 17), (0, .nameAndType 18 12), (0, u "COUNT"), (0, .fieldref 7 20), (0, .nameAndType 21 12), (0, u "ID"), (0, .fieldref 7 23), (0, .nameAndType 24 12), (0, u "LOCAL_NAME"), (0, .fieldref 7 26), (0, .nameAndType 27 12), (0, u "NAMESPACE_URI"), (0, .fieldref 7 29), (0, .nameAndType 30 12), (0, u "NAME"), (0, .fieldref 7 32), (0, .nameAndType 33 12), (0, u "STRING"), (0, .fieldref 7 35), (0, .nameAndType 36 12), (0, u "CONCAT"), (0, .fieldref 7 38), (0, .nameAndType 39 12), (0, u "STARTS_WITH"), (0, .fieldref 7 41), (0, .nameAndType 42 12), (0, u "CONTAINS"), (0, .fieldref 7 44), (0, .nameAndType 45 12), (0, u "SUBSTRING_BEFORE"), (0, .fieldref 7 47), (0, .nameAndType 48 12), (0, u "SUBSTRING_AFTER"), (0, .fieldref 7 50), (0, .nameAndType 51 12), (0, u "SUBSTRING"), (0, .fieldref 7 53), (0, .nameAndType 54 12), (0, u "STRING_LENGTH"), (0, .fieldref 7 56), (0, .nameAndType 57 12), (0, u "NORMALIZE_SPACE"), (0, .fieldref 7 59), (0, .nameAndType 60 12), (0, u "TRANSLATE"), (0, .fieldref 7 62), (0, .nameAndType 63 12), (0, u "BOOLEAN"), (0, .fieldref 7 65), (0, .nameAndType 66 12), (0, u "NOT"), (0, .fieldref 7 68), (0, .nameAndType 69 12), (0, u "TRUE"), (0, .fieldref 7 71), (0, .nameAndType 72 12), (0, u "FALSE"), (0, .fieldref 7 74), (0, .nameAndType 75 12), (0, u "LANG"), (0, .fieldref 7 77), (0, .nameAndType 78 12), (0, u "NUMBER"), (0, .fieldref 7 80), (0, .nameAndType 81 12), (0, u "SUM"), (0, .fieldref 7 83), (0, .nameAndType 84 12), (0, u "FLOOR"), (0, .fieldref 7 86), (0, .nameAndType 87 12), (0, u "CEILING"), (0, .fieldref 7 89), (0, .nameAndType 90 12), (0, u "ROUND"), (2, .integer 2147483647), (0, .methodref 7 95), (0, .nameAndType 96 97), (0, u "takes"), (0, u "(I)Z"), (0, .class_ 99), (0, u "com/example/strict_model/strictmodel/FunctionTakesPinLaw"), (2, u "law"), (0, u "(II)Z")] 11

def k1m0 : Method := { name := "<init>", desc := "()V", sig := { parameters := [], returnType := none }, accessFlags := 2, code := none }
def k1c1 : Code := { maxStack := 4, maxLocals := 7, code := code, exceptionTable := #[], attributes := #[] }
def k1m1 : Method := { name := "law", desc := "(II)Z", sig := { parameters := [.int, .int], returnType := some .boolean }, accessFlags := 9, code := some k1c1 }
/-- com/example/strict_model/strictmodel/FunctionTakesPinLaw -/
def k1 : Class := { plain "com/example/strict_model/strictmodel/FunctionTakesPinLaw" (some 0) with
  accessFlags := 49
  interfaces := #[]
  cf := some (fileOf pool1 98 #[] #[{ accessFlags := 2, nameIndex := 5, descriptorIndex := 6, attributes := #[] }, { accessFlags := 9, nameIndex := 102, descriptorIndex := 103, attributes := #[] }] 49 2 #[] #[])
  fields := #[]
  methods := #[k1m0, k1m1]
  instanceTypes := #[]
  staticTypes := #[]
  resolved := Array.replicate 115 none
  statics := none }

def pool2 : Array CpInfo := pool [(1, .class_ 2), (0, u "java/lang/constant/Constable"), (0, .class_ 4), (0, u "java/lang/Object")] 6

/-- java/lang/constant/Constable -/
def k2 : Class := { plain "java/lang/constant/Constable" (some 0) with
  accessFlags := 1537
  interfaces := #[]
  cf := some (fileOf pool2 1 #[] #[] 1537 3 #[] #[])
  fields := #[]
  methods := #[]
  instanceTypes := #[]
  staticTypes := #[]
  resolved := Array.replicate 11 none
  statics := none }

def pool3 : Array CpInfo := pool [(1, .class_ 2), (0, u "java/lang/Comparable"), (0, .class_ 4), (0, u "java/lang/Object")] 7

/-- java/lang/Comparable -/
def k3 : Class := { plain "java/lang/Comparable" (some 0) with
  accessFlags := 1537
  interfaces := #[]
  cf := some (fileOf pool3 1 #[] #[] 1537 3 #[] #[])
  fields := #[]
  methods := #[]
  instanceTypes := #[]
  staticTypes := #[]
  resolved := Array.replicate 12 none
  statics := none }

def pool4 : Array CpInfo := pool [(1, .class_ 2), (0, u "java/io/Serializable"), (0, .class_ 4), (0, u "java/lang/Object")] 2

/-- java/io/Serializable -/
def k4 : Class := { plain "java/io/Serializable" (some 0) with
  accessFlags := 1537
  interfaces := #[]
  cf := some (fileOf pool4 1 #[] #[] 1537 3 #[] #[])
  fields := #[]
  methods := #[]
  instanceTypes := #[]
  staticTypes := #[]
  resolved := Array.replicate 7 none
  statics := none }

def pool5 : Array CpInfo := pool [(2, .class_ 4), (1, u "java/lang/Enum"), (0, u "name"), (0, u "Ljava/lang/String;"), (2, u "ordinal"), (0, u "I"), (1, .class_ 14), (1, u "java/lang/Object"), (4, u "hash"), (86, .class_ 108), (1, u "java/lang/Enum$EnumDesc"), (2, .class_ 112), (0, u "java/lang/constant/Constable"), (0, .class_ 114), (0, u "java/lang/Comparable"), (0, .class_ 116), (0, u "java/io/Serializable")] 87

/-- java/lang/Enum -/
def k5 : Class := { plain "java/lang/Enum" (some 0) with
  accessFlags := 1057
  interfaces := #[2, 3, 4]
  cf := some (fileOf pool5 2 #[.nestMembers #[106]] #[] 1057 12 #[111, 113, 115] #[{ accessFlags := 18, nameIndex := 5, descriptorIndex := 6, attributes := #[] }, { accessFlags := 18, nameIndex := 9, descriptorIndex := 10, attributes := #[] }, { accessFlags := 2, nameIndex := 19, descriptorIndex := 10, attributes := #[] }])
  fields := #[{ name := "name", type := (.object "java/lang/String"), accessFlags := 18, slot := 0, constantValue := 0 }, { name := "ordinal", type := .int, accessFlags := 18, slot := 1, constantValue := 0 }, { name := "hash", type := .int, accessFlags := 2, slot := 2, constantValue := 0 }]
  methods := #[]
  instanceTypes := #[(.object "java/lang/String"), .int, .int]
  staticTypes := #[]
  resolved := Array.replicate 204 none
  statics := none }

def pool6 : Array CpInfo := pool [(1, .class_ 2), (0, u "com/example/strict_model/strictmodel/XPathFunctions$Function"), (2, u "LAST"), (0, u "Lcom/example/strict_model/strictmodel/XPathFunctions$Function;"), (2, u "POSITION"), (2, u "COUNT"), (2, u "ID"), (2, u "LOCAL_NAME"), (2, u "NAMESPACE_URI"), (2, u "NAME"), (2, u "STRING"), (2, u "CONCAT"), (2, u "STARTS_WITH"), (2, u "CONTAINS"), (2, u "SUBSTRING_BEFORE"), (2, u "SUBSTRING_AFTER"), (2, u "SUBSTRING"), (2, u "STRING_LENGTH"), (2, u "NORMALIZE_SPACE"), (2, u "TRANSLATE"), (2, u "BOOLEAN"), (2, u "NOT"), (2, u "TRUE"), (2, u "FALSE"), (2, u "LANG"), (2, u "NUMBER"), (2, u "SUM"), (2, u "FLOOR"), (2, u "CEILING"), (2, u "ROUND"), (2, u "$VALUES"), (0, u "[Lcom/example/strict_model/strictmodel/XPathFunctions$Function;"), (6, .class_ 97), (1, u "java/lang/Enum"), (8, u "functionName"), (0, u "Ljava/lang/String;"), (0, .fieldref 1 109), (0, .nameAndType 110 111), (0, u "minimum"), (0, u "I"), (0, .fieldref 1 113), (0, .nameAndType 114 111), (0, u "maximum"), (24, .class_ 141), (1, u "com/example/strict_model/strictmodel/XPathFunctions"), (199, u "BY_NAME"), (0, u "Ljava/util/Map;"), (16, u "takes"), (0, u "(I)Z")] 29

def k6c0 : Code := { maxStack := 2, maxLocals := 2, code := prog_45_method_4_code, exceptionTable := #[], attributes := #[] }
def k6m0 : Method := { name := "takes", desc := "(I)Z", sig := { parameters := [.int], returnType := some .boolean }, accessFlags := 0, code := some k6c0 }
/-- com/example/strict_model/strictmodel/XPathFunctions$Function -/
def k6 : Class := { plain "com/example/strict_model/strictmodel/XPathFunctions$Function" (some 5) with
  accessFlags := 16432
  interfaces := #[]
  cf := some (fileOf pool6 1 #[.nestHost 139] #[{ accessFlags := 0, nameIndex := 359, descriptorIndex := 360, attributes := #[] }] 16432 95 #[] #[{ accessFlags := 16409, nameIndex := 5, descriptorIndex := 6, attributes := #[] }, { accessFlags := 16409, nameIndex := 9, descriptorIndex := 6, attributes := #[] }, { accessFlags := 16409, nameIndex := 12, descriptorIndex := 6, attributes := #[] }, { accessFlags := 16409, nameIndex := 15, descriptorIndex := 6, attributes := #[] }, { accessFlags := 16409, nameIndex := 18, descriptorIndex := 6, attributes := #[] }, { accessFlags := 16409, nameIndex := 21, descriptorIndex := 6, attributes := #[] }, { accessFlags := 16409, nameIndex := 24, descriptorIndex := 6, attributes := #[] }, { accessFlags := 16409, nameIndex := 27, descriptorIndex := 6, attributes := #[] }, { accessFlags := 16409, nameIndex := 30, descriptorIndex := 6, attributes := #[] }, { accessFlags := 16409, nameIndex := 33, descriptorIndex := 6, attributes := #[] }, { accessFlags := 16409, nameIndex := 36, descriptorIndex := 6, attributes := #[] }, { accessFlags := 16409, nameIndex := 39, descriptorIndex := 6, attributes := #[] }, { accessFlags := 16409, nameIndex := 42, descriptorIndex := 6, attributes := #[] }, { accessFlags := 16409, nameIndex := 45, descriptorIndex := 6, attributes := #[] }, { accessFlags := 16409, nameIndex := 48, descriptorIndex := 6, attributes := #[] }, { accessFlags := 16409, nameIndex := 51, descriptorIndex := 6, attributes := #[] }, { accessFlags := 16409, nameIndex := 54, descriptorIndex := 6, attributes := #[] }, { accessFlags := 16409, nameIndex := 57, descriptorIndex := 6, attributes := #[] }, { accessFlags := 16409, nameIndex := 60, descriptorIndex := 6, attributes := #[] }, { accessFlags := 16409, nameIndex := 63, descriptorIndex := 6, attributes := #[] }, { accessFlags := 16409, nameIndex := 66, descriptorIndex := 6, attributes := #[] }, { accessFlags := 16409, nameIndex := 69, descriptorIndex := 6, attributes := #[] }, { accessFlags := 16409, nameIndex := 72, descriptorIndex := 6, attributes := #[] }, { accessFlags := 16409, nameIndex := 75, descriptorIndex := 6, attributes := #[] }, { accessFlags := 16409, nameIndex := 78, descriptorIndex := 6, attributes := #[] }, { accessFlags := 16409, nameIndex := 81, descriptorIndex := 6, attributes := #[] }, { accessFlags := 16409, nameIndex := 84, descriptorIndex := 6, attributes := #[] }, { accessFlags := 26, nameIndex := 341, descriptorIndex := 342, attributes := #[] }, { accessFlags := 18, nameIndex := 106, descriptorIndex := 107, attributes := #[] }, { accessFlags := 18, nameIndex := 110, descriptorIndex := 111, attributes := #[] }, { accessFlags := 18, nameIndex := 114, descriptorIndex := 111, attributes := #[] }, { accessFlags := 4122, nameIndex := 87, descriptorIndex := 88, attributes := #[] }])
  fields := #[{ name := "LAST", type := (.object "com/example/strict_model/strictmodel/XPathFunctions$Function"), accessFlags := 16409, slot := 0, constantValue := 0 }, { name := "POSITION", type := (.object "com/example/strict_model/strictmodel/XPathFunctions$Function"), accessFlags := 16409, slot := 1, constantValue := 0 }, { name := "COUNT", type := (.object "com/example/strict_model/strictmodel/XPathFunctions$Function"), accessFlags := 16409, slot := 2, constantValue := 0 }, { name := "ID", type := (.object "com/example/strict_model/strictmodel/XPathFunctions$Function"), accessFlags := 16409, slot := 3, constantValue := 0 }, { name := "LOCAL_NAME", type := (.object "com/example/strict_model/strictmodel/XPathFunctions$Function"), accessFlags := 16409, slot := 4, constantValue := 0 }, { name := "NAMESPACE_URI", type := (.object "com/example/strict_model/strictmodel/XPathFunctions$Function"), accessFlags := 16409, slot := 5, constantValue := 0 }, { name := "NAME", type := (.object "com/example/strict_model/strictmodel/XPathFunctions$Function"), accessFlags := 16409, slot := 6, constantValue := 0 }, { name := "STRING", type := (.object "com/example/strict_model/strictmodel/XPathFunctions$Function"), accessFlags := 16409, slot := 7, constantValue := 0 }, { name := "CONCAT", type := (.object "com/example/strict_model/strictmodel/XPathFunctions$Function"), accessFlags := 16409, slot := 8, constantValue := 0 }, { name := "STARTS_WITH", type := (.object "com/example/strict_model/strictmodel/XPathFunctions$Function"), accessFlags := 16409, slot := 9, constantValue := 0 }, { name := "CONTAINS", type := (.object "com/example/strict_model/strictmodel/XPathFunctions$Function"), accessFlags := 16409, slot := 10, constantValue := 0 }, { name := "SUBSTRING_BEFORE", type := (.object "com/example/strict_model/strictmodel/XPathFunctions$Function"), accessFlags := 16409, slot := 11, constantValue := 0 }, { name := "SUBSTRING_AFTER", type := (.object "com/example/strict_model/strictmodel/XPathFunctions$Function"), accessFlags := 16409, slot := 12, constantValue := 0 }, { name := "SUBSTRING", type := (.object "com/example/strict_model/strictmodel/XPathFunctions$Function"), accessFlags := 16409, slot := 13, constantValue := 0 }, { name := "STRING_LENGTH", type := (.object "com/example/strict_model/strictmodel/XPathFunctions$Function"), accessFlags := 16409, slot := 14, constantValue := 0 }, { name := "NORMALIZE_SPACE", type := (.object "com/example/strict_model/strictmodel/XPathFunctions$Function"), accessFlags := 16409, slot := 15, constantValue := 0 }, { name := "TRANSLATE", type := (.object "com/example/strict_model/strictmodel/XPathFunctions$Function"), accessFlags := 16409, slot := 16, constantValue := 0 }, { name := "BOOLEAN", type := (.object "com/example/strict_model/strictmodel/XPathFunctions$Function"), accessFlags := 16409, slot := 17, constantValue := 0 }, { name := "NOT", type := (.object "com/example/strict_model/strictmodel/XPathFunctions$Function"), accessFlags := 16409, slot := 18, constantValue := 0 }, { name := "TRUE", type := (.object "com/example/strict_model/strictmodel/XPathFunctions$Function"), accessFlags := 16409, slot := 19, constantValue := 0 }, { name := "FALSE", type := (.object "com/example/strict_model/strictmodel/XPathFunctions$Function"), accessFlags := 16409, slot := 20, constantValue := 0 }, { name := "LANG", type := (.object "com/example/strict_model/strictmodel/XPathFunctions$Function"), accessFlags := 16409, slot := 21, constantValue := 0 }, { name := "NUMBER", type := (.object "com/example/strict_model/strictmodel/XPathFunctions$Function"), accessFlags := 16409, slot := 22, constantValue := 0 }, { name := "SUM", type := (.object "com/example/strict_model/strictmodel/XPathFunctions$Function"), accessFlags := 16409, slot := 23, constantValue := 0 }, { name := "FLOOR", type := (.object "com/example/strict_model/strictmodel/XPathFunctions$Function"), accessFlags := 16409, slot := 24, constantValue := 0 }, { name := "CEILING", type := (.object "com/example/strict_model/strictmodel/XPathFunctions$Function"), accessFlags := 16409, slot := 25, constantValue := 0 }, { name := "ROUND", type := (.object "com/example/strict_model/strictmodel/XPathFunctions$Function"), accessFlags := 16409, slot := 26, constantValue := 0 }, { name := "BY_NAME", type := (.object "java/util/Map"), accessFlags := 26, slot := 27, constantValue := 0 }, { name := "functionName", type := (.object "java/lang/String"), accessFlags := 18, slot := 3, constantValue := 0 }, { name := "minimum", type := .int, accessFlags := 18, slot := 4, constantValue := 0 }, { name := "maximum", type := .int, accessFlags := 18, slot := 5, constantValue := 0 }, { name := "$VALUES", type := (.array (.object "com/example/strict_model/strictmodel/XPathFunctions$Function")), accessFlags := 4122, slot := 28, constantValue := 0 }]
  methods := #[k6m0]
  instanceTypes := #[(.object "java/lang/String"), .int, .int, (.object "java/lang/String"), .int, .int]
  staticTypes := #[(.object "com/example/strict_model/strictmodel/XPathFunctions$Function"), (.object "com/example/strict_model/strictmodel/XPathFunctions$Function"), (.object "com/example/strict_model/strictmodel/XPathFunctions$Function"), (.object "com/example/strict_model/strictmodel/XPathFunctions$Function"), (.object "com/example/strict_model/strictmodel/XPathFunctions$Function"), (.object "com/example/strict_model/strictmodel/XPathFunctions$Function"), (.object "com/example/strict_model/strictmodel/XPathFunctions$Function"), (.object "com/example/strict_model/strictmodel/XPathFunctions$Function"), (.object "com/example/strict_model/strictmodel/XPathFunctions$Function"), (.object "com/example/strict_model/strictmodel/XPathFunctions$Function"), (.object "com/example/strict_model/strictmodel/XPathFunctions$Function"), (.object "com/example/strict_model/strictmodel/XPathFunctions$Function"), (.object "com/example/strict_model/strictmodel/XPathFunctions$Function"), (.object "com/example/strict_model/strictmodel/XPathFunctions$Function"), (.object "com/example/strict_model/strictmodel/XPathFunctions$Function"), (.object "com/example/strict_model/strictmodel/XPathFunctions$Function"), (.object "com/example/strict_model/strictmodel/XPathFunctions$Function"), (.object "com/example/strict_model/strictmodel/XPathFunctions$Function"), (.object "com/example/strict_model/strictmodel/XPathFunctions$Function"), (.object "com/example/strict_model/strictmodel/XPathFunctions$Function"), (.object "com/example/strict_model/strictmodel/XPathFunctions$Function"), (.object "com/example/strict_model/strictmodel/XPathFunctions$Function"), (.object "com/example/strict_model/strictmodel/XPathFunctions$Function"), (.object "com/example/strict_model/strictmodel/XPathFunctions$Function"), (.object "com/example/strict_model/strictmodel/XPathFunctions$Function"), (.object "com/example/strict_model/strictmodel/XPathFunctions$Function"), (.object "com/example/strict_model/strictmodel/XPathFunctions$Function"), (.object "java/util/Map"), (.array (.object "com/example/strict_model/strictmodel/XPathFunctions$Function"))]
  resolved := Array.replicate 390 none
  statics := some 0 }

def pool7 : Array CpInfo := pool [(1, u "java/lang/Cloneable"), (0, .class_ 1), (0, u "java/lang/Object"), (0, .class_ 3)] 3

/-- java/lang/Cloneable -/
def k7 : Class := { plain "java/lang/Cloneable" (some 0) with
  accessFlags := 1537
  interfaces := #[]
  cf := some (fileOf pool7 2 #[] #[] 1537 4 #[] #[])
  fields := #[]
  methods := #[]
  instanceTypes := #[]
  staticTypes := #[]
  resolved := Array.replicate 8 none
  statics := none }

/-- the primitive byte -/
def k8 : Class := { plain "byte" none with kind := .primitive 'B', accessFlags := 0x411 }
/-- [B -/
def k9 : Class := { plain "[B" (some 0) with kind := .array 8 .byte, interfaces := #[7, 4], accessFlags := 1041 }

/-- the primitive int -/
def k10 : Class := { plain "int" none with kind := .primitive 'I', accessFlags := 0x411 }
/-- [I -/
def k11 : Class := { plain "[I" (some 0) with kind := .array 10 .int, interfaces := #[7, 4], accessFlags := 1041 }

/-- [Lcom/example/strict_model/strictmodel/XPathFunctions$Function; -/
def k12 : Class := { plain "[Lcom/example/strict_model/strictmodel/XPathFunctions$Function;" (some 0) with kind := .array 6 (.object "com/example/strict_model/strictmodel/XPathFunctions$Function"), interfaces := #[7, 4], accessFlags := 1041 }

def heap : Heap := #[{ cls := 6, slots := #[.ref 1, .ref 2, .ref 3, .ref 4, .ref 5, .ref 6, .ref 7, .ref 8, .ref 9, .ref 10, .ref 11, .ref 12, .ref 13, .ref 14, .ref 15, .ref 16, .ref 17, .ref 18, .ref 19, .ref 20, .ref 21, .ref 22, .ref 23, .ref 24, .ref 25, .ref 26, .ref 27, .null, .null], vm := .statics 6 },
  { cls := 6, slots := #[.null, .int 0, .int 0, .null, .int 0, .int 0], vm := .none },
  { cls := 6, slots := #[.null, .int 1, .int 0, .null, .int 0, .int 0], vm := .none },
  { cls := 6, slots := #[.null, .int 2, .int 0, .null, .int 1, .int 1], vm := .none },
  { cls := 6, slots := #[.null, .int 3, .int 0, .null, .int 1, .int 1], vm := .none },
  { cls := 6, slots := #[.null, .int 4, .int 0, .null, .int 0, .int 1], vm := .none },
  { cls := 6, slots := #[.null, .int 5, .int 0, .null, .int 0, .int 1], vm := .none },
  { cls := 6, slots := #[.null, .int 6, .int 0, .null, .int 0, .int 1], vm := .none },
  { cls := 6, slots := #[.null, .int 7, .int 0, .null, .int 0, .int 1], vm := .none },
  { cls := 6, slots := #[.null, .int 8, .int 0, .null, .int 2, .int 2147483647], vm := .none },
  { cls := 6, slots := #[.null, .int 9, .int 0, .null, .int 2, .int 2], vm := .none },
  { cls := 6, slots := #[.null, .int 10, .int 0, .null, .int 2, .int 2], vm := .none },
  { cls := 6, slots := #[.null, .int 11, .int 0, .null, .int 2, .int 2], vm := .none },
  { cls := 6, slots := #[.null, .int 12, .int 0, .null, .int 2, .int 2], vm := .none },
  { cls := 6, slots := #[.null, .int 13, .int 0, .null, .int 2, .int 3], vm := .none },
  { cls := 6, slots := #[.null, .int 14, .int 0, .null, .int 0, .int 1], vm := .none },
  { cls := 6, slots := #[.null, .int 15, .int 0, .null, .int 0, .int 1], vm := .none },
  { cls := 6, slots := #[.null, .int 16, .int 0, .null, .int 3, .int 3], vm := .none },
  { cls := 6, slots := #[.null, .int 17, .int 0, .null, .int 1, .int 1], vm := .none },
  { cls := 6, slots := #[.null, .int 18, .int 0, .null, .int 1, .int 1], vm := .none },
  { cls := 6, slots := #[.null, .int 19, .int 0, .null, .int 0, .int 0], vm := .none },
  { cls := 6, slots := #[.null, .int 20, .int 0, .null, .int 0, .int 0], vm := .none },
  { cls := 6, slots := #[.null, .int 21, .int 0, .null, .int 1, .int 1], vm := .none },
  { cls := 6, slots := #[.null, .int 22, .int 0, .null, .int 0, .int 1], vm := .none },
  { cls := 6, slots := #[.null, .int 23, .int 0, .null, .int 1, .int 1], vm := .none },
  { cls := 6, slots := #[.null, .int 24, .int 0, .null, .int 1, .int 1], vm := .none },
  { cls := 6, slots := #[.null, .int 25, .int 0, .null, .int 1, .int 1], vm := .none },
  { cls := 6, slots := #[.null, .int 26, .int 0, .null, .int 1, .int 1], vm := .none }]
def classes : Array Class := #[k0, k1, k2, k3, k4, k5, k6, k7, k8, k9, k10, k11, k12]
def interned : List (Array UInt16 × Addr) := []
def slotsUsed : Nat := 191
def theMethod : MethodId := ⟨1, 1⟩
def args0 : Array Value := #[.int 3, .int 1]
def aboutOver (below : List Frame) : State where
  vm := { classes := classes, interned := interned.toArray }
  heap := heap
  slotsUsed := slotsUsed
  threads := #[{ frames := .invoking theMethod args0 :: below }]
def below0 : List Frame := [.native { method := ⟨0, 0⟩, args := #[] }]
def about1 : State := aboutOver below0
def p0 : Program := .bare "" "" ""
def e0 : Env := launch0.env 0 0 0
theorem w_frames : about1.frames = Frame.invoking theMethod args0 :: below0 := rfl
set_option maxRecDepth 65536 in
theorem w_args : argsFit about1.vm theMethod args0 = true := by decide +kernel
set_option maxRecDepth 65536 in
theorem w_heap : heapFits about1 = true := by decide +kernel
set_option maxRecDepth 65536 in
theorem w_runnable : about1.curStatus? = some .runnable := by decide +kernel
set_option maxRecDepth 65536 in
theorem w_alone : about1.alone = true := by decide +kernel
set_option maxRecDepth 65536 in
theorem w_named : about1.methodNamed? x = some theMethod := by decide +kernel
set_option maxRecDepth 65536 in
theorem w_hears : about1.hears theMethod below0 = true := by decide +kernel
set_option maxRecDepth 65536 in
theorem w_ripe : about1.ripe theMethod args0 below0 = true := by decide +kernel
theorem w_running : about1.status = .running := rfl
set_option maxRecDepth 65536 in
theorem w_room : about1.hasRoom e0.platform room_1 = true :=
  launch0.hasRoom_least _ room_1 (by decide +kernel) (by decide +kernel) (by decide +kernel) (by decide +kernel) (by decide +kernel) (by decide +kernel)
theorem allAtoms_all (ts : List Jvm.Cond) (a : Array Jvm.Value) (st : Jvm.State) : (allAtoms ts).before a st = ts.all (fun c => c.before a st) := by
  induction ts with
  | nil => rfl
  | cons c t ih =>
    show (Jvm.Cond.and c (allAtoms t)).before a st = _
    rw [Jvm.Cond.before_and, ih, List.all_cons]
def words1 : List Jvm.Cond := Jvm.Cond.code x code maxLocals ret :: tables_1
/-- a 'code' word, met by the world's own term for the bytes: nothing is compared byte by byte -/
theorem code_word {y : MethodName} {bytes : ByteArray} {mx : Nat} {rt : Option FieldType} {a : Array Value} {s : State} {m : MethodId} {meth : Method} {c : Code} (h1 : s.methodNamed? y = some m) (h2 : s.vm.method? m = some meth) (h3 : meth.code = some c) (h4 : c.code = bytes)
    (h5 : (c.maxLocals == mx && c.exceptionTable.isEmpty && decide (c.maxStack ≤ mostOperands) && decide (meth.sig.returnType = rt) && !meth.locks && decide (parseMethodDescriptor y.desc = some meth.sig)) = true) : (Jvm.Cond.code y bytes mx rt).before a s = true := by
  simp only [Bool.and_eq_true, beq_iff_eq, Bool.not_eq_true', decide_eq_true_eq] at h5
  obtain ⟨⟨⟨⟨⟨g1, g2⟩, g3⟩, g4⟩, g5⟩, g6⟩ := h5
  simp [Cond.before, Cond.holds, Cond.value, h1, h2, h3, h4, g1, g2, g3, g4, g5, g6]
def isCode : Jvm.Cond → Bool
  | .code _ _ _ _ => true
  | _ => false
theorem all_split {L : List Jvm.Cond} {P : Jvm.Cond → Bool} (h1 : L.all (fun c => isCode c || P c) = true) (h2 : ∀ c ∈ L.filter isCode, P c = true) : L.all P = true := by
  refine List.all_eq_true.mpr fun c hc => ?_
  have h := List.all_eq_true.mp h1 c hc
  rcases Bool.eq_false_or_eq_true (isCode c) with hi | hi
  · exact h2 c (List.mem_filter.mpr ⟨hc, hi⟩)
  · simpa [hi] using h
set_option maxRecDepth 65536 in
theorem w_c0 : (Jvm.Cond.code x code maxLocals ret).before args0 about1 = true := code_word (m := ⟨1, 1⟩) (meth := k1m1) (c := k1c1) (by decide +kernel) rfl rfl rfl (by decide +kernel)
set_option maxRecDepth 65536 in
theorem w_c1 : (Jvm.Cond.code ({ cls := "com/example/strict_model/strictmodel/XPathFunctions$Function", name := "takes", desc := "(I)Z" } : Jvm.MethodName) prog_45_method_4_code (2 : Nat) (Option.some Jvm.ClassFile.FieldType.boolean)).before args0 about1 = true := code_word (m := ⟨6, 0⟩) (meth := k6m0) (c := k6c0) (by decide +kernel) rfl rfl rfl (by decide +kernel)
def codes1 : List Jvm.Cond := [Jvm.Cond.code x code maxLocals ret, Jvm.Cond.code ({ cls := "com/example/strict_model/strictmodel/XPathFunctions$Function", name := "takes", desc := "(I)Z" } : Jvm.MethodName) prog_45_method_4_code (2 : Nat) (Option.some Jvm.ClassFile.FieldType.boolean)]
set_option maxRecDepth 65536 in
theorem codes_eq : words1.filter isCode = codes1 := rfl
theorem w_codes : ∀ c ∈ words1.filter isCode, c.before args0 about1 = true := by
  rw [codes_eq]
  intro c hc
  simp only [codes1, List.mem_cons, List.not_mem_nil, or_false] at hc
  rcases hc with rfl | rfl
  · exact w_c0
  · exact w_c1
set_option maxRecDepth 65536 in
theorem w_t1 : (words1.take 24).all (fun c => isCode c || c.before args0 about1) = true := by decide +kernel
set_option maxRecDepth 65536 in
theorem w_t2 : ((words1.drop 24).take 24).all (fun c => isCode c || c.before args0 about1) = true := by decide +kernel
set_option maxRecDepth 65536 in
theorem w_t3 : ((words1.drop 24).drop 24).all (fun c => isCode c || c.before args0 about1) = true := by decide +kernel
theorem w_tables : (allAtoms (Jvm.Cond.code x code maxLocals ret :: tables_1)).before args0 about1 = true := by
  rw [allAtoms_all]
  show words1.all (fun c => c.before args0 about1) = true
  refine all_split ?_ w_codes
  rw [← List.take_append_drop 24 words1, List.all_append, w_t1, ← List.take_append_drop 24 (words1.drop 24), List.all_append, w_t2, w_t3]
  rfl
set_option maxRecDepth 65536 in
theorem w_case : (Jvm.Cond.and given_1 narrow_1).before args0 about1 = true := by decide +kernel
theorem w_applies : (headSpec (Jvm.Cond.code x code maxLocals ret :: tables_1) room_1).applies x e0.platform about1 = true :=
  (Spec.applies_iff w_frames).mpr ⟨w_running, w_runnable, w_alone, w_named, w_hears, w_ripe, w_room, w_tables⟩
theorem atStart : AtStart classFile x code maxLocals ret World_1 tables_1 room_1 Calls_1 rest_1 Pre_1 launch0 p0 e0 about1 theMethod args0 below0 :=
  ⟨lists_1, trivial, launch0.admits_env _ _ _, launch0.least_env, fairChoices_fair.cas, fairChoices_fair.clock, w_frames, w_args, w_heap, w_applies, trivial, trivial, w_case⟩
end start1
theorem witness_1 : WitnessClaimed_1 := ⟨start1.p0, start1.e0, start1.about1, start1.theMethod, start1.args0, start1.below0, start1.atStart⟩
end Jvm.Pilot.@@N@@
