import JvmDerived
import JvmDerived.Pilot.@@N@@Statement
import JvmDerived.Pilot.@@N@@Code
set_option linter.unusedVariables false
set_option linter.unusedSimpArgs false
namespace Jvm.Pilot.@@N@@
open Jvm Jvm.ClassFile Sem Op Lib Jvm.Free Jvm.Stand Jvm.LawKit Jvm.RoadKit Bundle Jvm.Pilot.@@N@@.Jvm.D
section OwnGo
variable {p : Program} {l : Launch} {e : Env} {R : Room} {s : State} {m : MethodId} {args : Array Value} {below : List Frame} {meth : Method} {c : Code} {T : State} {locs : List Loc} {cells slots : Nat} {Q : Option Value → Heap → List Loc → Prop} {rc rs : Nat} {Ls : Array Slot} {st : List Value} {pc pc' pt : Nat} {Z : State} {a0 : Array Value} {h : Heap} {En : Outcome → State → Prop}
def Go (p : Program) (e : Env) (below : List Frame) (En : Outcome → State → Prop) (S : State) : Prop := ∃ s₂ o, Steps p.tables e below S s₂ ∧ s₂.status = .running ∧ Ended s₂ below o ∧ En o s₂
def EndN (s : State) (Q : Option Value → Heap → List Loc → Prop) (rc rs : Nat) (o : Outcome) (s₂ : State) : Prop := ∃ v L, o = .returned v ∧ Q v s₂.heap L ∧ FrameEnd s o s₂ L rc rs
def EndW (s : State) (Q : Option Value → Heap → List Loc → Prop) (rc rs : Nat) (o : Outcome) (s₂ : State) : Prop := ∃ v L, o = .returned v ∧ Q v s₂.heap L ∧ ReturnedEndW s o s₂ L rc rs
theorem own_via {S S' : State} (q : ∀ t, Steps p.tables e below S' t → Steps p.tables e below S t) (k : Go p e below En S') : Go p e below En S := by
  obtain ⟨t, o, h1, h2⟩ := k
  exact ⟨t, o, q _ h1, h2⟩
def Dec (b : ByteArray) (pc : Nat) (i : Instr) (n pc' : Nat) : Prop := decode b pc = .ok (i, n) ∧ pc + n = pc'
def DecB (b : ByteArray) (pc : Nat) (i : Instr) (o : Int) (pF pT : Nat) : Prop := decode b pc = .ok (i, 3) ∧ pc + 3 = pF ∧ 0 ≤ (pc : Int) + o ∧ ((pc : Int) + o).toNat = pT
theorem dc {b : ByteArray} {i : Instr} {n : Nat} (q : c.code = b) (k : Dec b pc i n pc') : Dec c.code pc i n pc' := q ▸ k
theorem db {b : ByteArray} {i : Instr} {o : Int} (q : c.code = b) (k : DecB b pc i o pc' pt) : DecB c.code pc i o pc' pt := q ▸ k
theorem go_iadd (X : Stand p l e R s m args below meth c T locs cells slots) (hx : p.tables.exec = Jvm.exec) {x y : Int32} (hd : Dec c.code pc (.iadd) 1 pc') (k : Go p e below En (T.setTop (mkF m pc' Ls (.int (x + y) :: st)))) : Go p e below En (T.setTop (mkF m pc Ls (.int y :: .int x :: st))) := by
  obtain ⟨hd, rfl⟩ := hd
  exact own_via (fun t => XS.iadd X.here hx rfl hd rfl) k
theorem go_isub (X : Stand p l e R s m args below meth c T locs cells slots) (hx : p.tables.exec = Jvm.exec) {x y : Int32} (hd : Dec c.code pc (.isub) 1 pc') (k : Go p e below En (T.setTop (mkF m pc' Ls (.int (x - y) :: st)))) : Go p e below En (T.setTop (mkF m pc Ls (.int y :: .int x :: st))) := by
  obtain ⟨hd, rfl⟩ := hd
  exact own_via (fun t => XS.isub X.here hx rfl hd rfl) k
theorem go_imul (X : Stand p l e R s m args below meth c T locs cells slots) (hx : p.tables.exec = Jvm.exec) {x y : Int32} (hd : Dec c.code pc (.imul) 1 pc') (k : Go p e below En (T.setTop (mkF m pc' Ls (.int (x * y) :: st)))) : Go p e below En (T.setTop (mkF m pc Ls (.int y :: .int x :: st))) := by
  obtain ⟨hd, rfl⟩ := hd
  exact own_via (fun t => XS.imul X.here hx rfl hd rfl) k
theorem go_iand (X : Stand p l e R s m args below meth c T locs cells slots) (hx : p.tables.exec = Jvm.exec) {x y : Int32} (hd : Dec c.code pc (.iand) 1 pc') (k : Go p e below En (T.setTop (mkF m pc' Ls (.int (x &&& y) :: st)))) : Go p e below En (T.setTop (mkF m pc Ls (.int y :: .int x :: st))) := by
  obtain ⟨hd, rfl⟩ := hd
  exact own_via (fun t => XS.iand X.here hx rfl hd rfl) k
theorem go_ior (X : Stand p l e R s m args below meth c T locs cells slots) (hx : p.tables.exec = Jvm.exec) {x y : Int32} (hd : Dec c.code pc (.ior) 1 pc') (k : Go p e below En (T.setTop (mkF m pc' Ls (.int (x ||| y) :: st)))) : Go p e below En (T.setTop (mkF m pc Ls (.int y :: .int x :: st))) := by
  obtain ⟨hd, rfl⟩ := hd
  exact own_via (fun t => XT.ior X.here hx rfl hd rfl) k
theorem go_ixor (X : Stand p l e R s m args below meth c T locs cells slots) (hx : p.tables.exec = Jvm.exec) {x y : Int32} (hd : Dec c.code pc (.ixor) 1 pc') (k : Go p e below En (T.setTop (mkF m pc' Ls (.int (x ^^^ y) :: st)))) : Go p e below En (T.setTop (mkF m pc Ls (.int y :: .int x :: st))) := by
  obtain ⟨hd, rfl⟩ := hd
  exact own_via (fun t => XT.ixor X.here hx rfl hd rfl) k
theorem go_ishl (X : Stand p l e R s m args below meth c T locs cells slots) (hx : p.tables.exec = Jvm.exec) {x y : Int32} (hd : Dec c.code pc (.ishl) 1 pc') (k : Go p e below En (T.setTop (mkF m pc' Ls (.int (x <<< (y &&& 31)) :: st)))) : Go p e below En (T.setTop (mkF m pc Ls (.int y :: .int x :: st))) := by
  obtain ⟨hd, rfl⟩ := hd
  exact own_via (fun t => XT.ishl X.here hx rfl hd rfl) k
theorem go_ishr (X : Stand p l e R s m args below meth c T locs cells slots) (hx : p.tables.exec = Jvm.exec) {x y : Int32} (hd : Dec c.code pc (.ishr) 1 pc') (k : Go p e below En (T.setTop (mkF m pc' Ls (.int (x >>> (y &&& 31)) :: st)))) : Go p e below En (T.setTop (mkF m pc Ls (.int y :: .int x :: st))) := by
  obtain ⟨hd, rfl⟩ := hd
  exact own_via (fun t => XT.ishr X.here hx rfl hd rfl) k
theorem go_iushr (X : Stand p l e R s m args below meth c T locs cells slots) (hx : p.tables.exec = Jvm.exec) {x y : Int32} (hd : Dec c.code pc (.iushr) 1 pc') (k : Go p e below En (T.setTop (mkF m pc' Ls (.int (XT.ushr x y) :: st)))) : Go p e below En (T.setTop (mkF m pc Ls (.int y :: .int x :: st))) := by
  obtain ⟨hd, rfl⟩ := hd
  exact own_via (fun t => XT.iushr X.here hx rfl hd rfl) k
theorem go_idiv (X : Stand p l e R s m args below meth c T locs cells slots) (hx : p.tables.exec = Jvm.exec) {x y : Int32} (hd : Dec c.code pc (.idiv) 1 pc') (hy : y ≠ 0) (k : Go p e below En (T.setTop (mkF m pc' Ls (.int (x / y) :: st)))) : Go p e below En (T.setTop (mkF m pc Ls (.int y :: .int x :: st))) := by
  obtain ⟨hd, rfl⟩ := hd
  exact own_via (fun t => XS.idiv X.here hx rfl hd rfl hy) k
theorem go_irem (X : Stand p l e R s m args below meth c T locs cells slots) (hx : p.tables.exec = Jvm.exec) {x y : Int32} (hd : Dec c.code pc (.irem) 1 pc') (hy : y ≠ 0) (k : Go p e below En (T.setTop (mkF m pc' Ls (.int (x % y) :: st)))) : Go p e below En (T.setTop (mkF m pc Ls (.int y :: .int x :: st))) := by
  obtain ⟨hd, rfl⟩ := hd
  exact own_via (fun t => iremM X hx rfl hd rfl hy) k
theorem go_ineg (X : Stand p l e R s m args below meth c T locs cells slots) (hx : p.tables.exec = Jvm.exec) {x : Int32} (hd : Dec c.code pc (.ineg) 1 pc') (k : Go p e below En (T.setTop (mkF m pc' Ls (.int (-x) :: st)))) : Go p e below En (T.setTop (mkF m pc Ls (.int x :: st))) := by
  obtain ⟨hd, rfl⟩ := hd
  exact own_via (fun t => XS.ineg X.here hx rfl hd rfl) k
theorem go_ladd (X : Stand p l e R s m args below meth c T locs cells slots) (hx : p.tables.exec = Jvm.exec) {x y : Int64} (hd : Dec c.code pc (.ladd) 1 pc') (k : Go p e below En (T.setTop (mkF m pc' Ls (.long (x + y) :: st)))) : Go p e below En (T.setTop (mkF m pc Ls (.long y :: .long x :: st))) := by
  obtain ⟨hd, rfl⟩ := hd
  exact own_via (fun t => XT.ladd X.here hx rfl hd rfl) k
theorem go_lsub (X : Stand p l e R s m args below meth c T locs cells slots) (hx : p.tables.exec = Jvm.exec) {x y : Int64} (hd : Dec c.code pc (.lsub) 1 pc') (k : Go p e below En (T.setTop (mkF m pc' Ls (.long (x - y) :: st)))) : Go p e below En (T.setTop (mkF m pc Ls (.long y :: .long x :: st))) := by
  obtain ⟨hd, rfl⟩ := hd
  exact own_via (fun t => XT.lsub X.here hx rfl hd rfl) k
theorem go_lmul (X : Stand p l e R s m args below meth c T locs cells slots) (hx : p.tables.exec = Jvm.exec) {x y : Int64} (hd : Dec c.code pc (.lmul) 1 pc') (k : Go p e below En (T.setTop (mkF m pc' Ls (.long (x * y) :: st)))) : Go p e below En (T.setTop (mkF m pc Ls (.long y :: .long x :: st))) := by
  obtain ⟨hd, rfl⟩ := hd
  exact own_via (fun t => XT.lmul X.here hx rfl hd rfl) k
theorem go_land (X : Stand p l e R s m args below meth c T locs cells slots) (hx : p.tables.exec = Jvm.exec) {x y : Int64} (hd : Dec c.code pc (.land) 1 pc') (k : Go p e below En (T.setTop (mkF m pc' Ls (.long (x &&& y) :: st)))) : Go p e below En (T.setTop (mkF m pc Ls (.long y :: .long x :: st))) := by
  obtain ⟨hd, rfl⟩ := hd
  exact own_via (fun t => XT.land X.here hx rfl hd rfl) k
theorem go_lor (X : Stand p l e R s m args below meth c T locs cells slots) (hx : p.tables.exec = Jvm.exec) {x y : Int64} (hd : Dec c.code pc (.lor) 1 pc') (k : Go p e below En (T.setTop (mkF m pc' Ls (.long (x ||| y) :: st)))) : Go p e below En (T.setTop (mkF m pc Ls (.long y :: .long x :: st))) := by
  obtain ⟨hd, rfl⟩ := hd
  exact own_via (fun t => XT.lor X.here hx rfl hd rfl) k
theorem go_lxor (X : Stand p l e R s m args below meth c T locs cells slots) (hx : p.tables.exec = Jvm.exec) {x y : Int64} (hd : Dec c.code pc (.lxor) 1 pc') (k : Go p e below En (T.setTop (mkF m pc' Ls (.long (x ^^^ y) :: st)))) : Go p e below En (T.setTop (mkF m pc Ls (.long y :: .long x :: st))) := by
  obtain ⟨hd, rfl⟩ := hd
  exact own_via (fun t => XT.lxor X.here hx rfl hd rfl) k
theorem go_lshl (X : Stand p l e R s m args below meth c T locs cells slots) (hx : p.tables.exec = Jvm.exec) {x : Int64} {y : Int32} (hd : Dec c.code pc (.lshl) 1 pc') (k : Go p e below En (T.setTop (mkF m pc' Ls (.long (x <<< (y.toInt64 &&& 63)) :: st)))) : Go p e below En (T.setTop (mkF m pc Ls (.int y :: .long x :: st))) := by
  obtain ⟨hd, rfl⟩ := hd
  exact own_via (fun t => XT.lshl X.here hx rfl hd rfl) k
theorem go_lshr (X : Stand p l e R s m args below meth c T locs cells slots) (hx : p.tables.exec = Jvm.exec) {x : Int64} {y : Int32} (hd : Dec c.code pc (.lshr) 1 pc') (k : Go p e below En (T.setTop (mkF m pc' Ls (.long (x >>> (y.toInt64 &&& 63)) :: st)))) : Go p e below En (T.setTop (mkF m pc Ls (.int y :: .long x :: st))) := by
  obtain ⟨hd, rfl⟩ := hd
  exact own_via (fun t => XT.lshr X.here hx rfl hd rfl) k
theorem go_lushr (X : Stand p l e R s m args below meth c T locs cells slots) (hx : p.tables.exec = Jvm.exec) {x : Int64} {y : Int32} (hd : Dec c.code pc (.lushr) 1 pc') (k : Go p e below En (T.setTop (mkF m pc' Ls (.long (XT.ushrL x y) :: st)))) : Go p e below En (T.setTop (mkF m pc Ls (.int y :: .long x :: st))) := by
  obtain ⟨hd, rfl⟩ := hd
  exact own_via (fun t => XT.lushr X.here hx rfl hd rfl) k
theorem go_ldiv (X : Stand p l e R s m args below meth c T locs cells slots) (hx : p.tables.exec = Jvm.exec) {x y : Int64} (hd : Dec c.code pc (.ldiv) 1 pc') (hy : y ≠ 0) (k : Go p e below En (T.setTop (mkF m pc' Ls (.long (x / y) :: st)))) : Go p e below En (T.setTop (mkF m pc Ls (.long y :: .long x :: st))) := by
  obtain ⟨hd, rfl⟩ := hd
  exact own_via (fun t => XT.ldiv X.here hx rfl hd rfl hy) k
theorem go_lrem (X : Stand p l e R s m args below meth c T locs cells slots) (hx : p.tables.exec = Jvm.exec) {x y : Int64} (hd : Dec c.code pc (.lrem) 1 pc') (hy : y ≠ 0) (k : Go p e below En (T.setTop (mkF m pc' Ls (.long (x - (x / y) * y) :: st)))) : Go p e below En (T.setTop (mkF m pc Ls (.long y :: .long x :: st))) := by
  obtain ⟨hd, rfl⟩ := hd
  exact own_via (fun t => XT.lrem X.here hx rfl hd rfl hy) k
theorem go_lneg (X : Stand p l e R s m args below meth c T locs cells slots) (hx : p.tables.exec = Jvm.exec) {x : Int64} (hd : Dec c.code pc (.lneg) 1 pc') (k : Go p e below En (T.setTop (mkF m pc' Ls (.long (-x) :: st)))) : Go p e below En (T.setTop (mkF m pc Ls (.long x :: st))) := by
  obtain ⟨hd, rfl⟩ := hd
  exact own_via (fun t => XT.lneg X.here hx rfl hd rfl) k
theorem go_lcmp (X : Stand p l e R s m args below meth c T locs cells slots) (hx : p.tables.exec = Jvm.exec) {x y : Int64} (hd : Dec c.code pc (.lcmp) 1 pc') (k : Go p e below En (T.setTop (mkF m pc' Ls (.int (XT.cmpL x y) :: st)))) : Go p e below En (T.setTop (mkF m pc Ls (.long y :: .long x :: st))) := by
  obtain ⟨hd, rfl⟩ := hd
  exact own_via (fun t => XT.lcmp X.here hx rfl hd rfl) k
theorem go_i2l (X : Stand p l e R s m args below meth c T locs cells slots) (hx : p.tables.exec = Jvm.exec) {x : Int32} (hd : Dec c.code pc (.i2l) 1 pc') (k : Go p e below En (T.setTop (mkF m pc' Ls (.long x.toInt64 :: st)))) : Go p e below En (T.setTop (mkF m pc Ls (.int x :: st))) := by
  obtain ⟨hd, rfl⟩ := hd
  exact own_via (fun t => XT.i2l X.here hx rfl hd rfl) k
theorem go_l2i (X : Stand p l e R s m args below meth c T locs cells slots) (hx : p.tables.exec = Jvm.exec) {x : Int64} (hd : Dec c.code pc (.l2i) 1 pc') (k : Go p e below En (T.setTop (mkF m pc' Ls (.int x.toInt32 :: st)))) : Go p e below En (T.setTop (mkF m pc Ls (.long x :: st))) := by
  obtain ⟨hd, rfl⟩ := hd
  exact own_via (fun t => XT.l2i X.here hx rfl hd rfl) k
theorem go_i2b (X : Stand p l e R s m args below meth c T locs cells slots) (hx : p.tables.exec = Jvm.exec) {x : Int32} (hd : Dec c.code pc (.i2b) 1 pc') (k : Go p e below En (T.setTop (mkF m pc' Ls (.int x.toInt8.toInt32 :: st)))) : Go p e below En (T.setTop (mkF m pc Ls (.int x :: st))) := by
  obtain ⟨hd, rfl⟩ := hd
  exact own_via (fun t => XT.i2b X.here hx rfl hd rfl) k
theorem go_i2c (X : Stand p l e R s m args below meth c T locs cells slots) (hx : p.tables.exec = Jvm.exec) {x : Int32} (hd : Dec c.code pc (.i2c) 1 pc') (k : Go p e below En (T.setTop (mkF m pc' Ls (.int x.toUInt32.toUInt16.toUInt32.toInt32 :: st)))) : Go p e below En (T.setTop (mkF m pc Ls (.int x :: st))) := by
  obtain ⟨hd, rfl⟩ := hd
  exact own_via (fun t => XT.i2c X.here hx rfl hd rfl) k
theorem go_i2s (X : Stand p l e R s m args below meth c T locs cells slots) (hx : p.tables.exec = Jvm.exec) {x : Int32} (hd : Dec c.code pc (.i2s) 1 pc') (k : Go p e below En (T.setTop (mkF m pc' Ls (.int x.toInt16.toInt32 :: st)))) : Go p e below En (T.setTop (mkF m pc Ls (.int x :: st))) := by
  obtain ⟨hd, rfl⟩ := hd
  exact own_via (fun t => XT.i2s X.here hx rfl hd rfl) k
theorem go_iloadn (X : Stand p l e R s m args below meth c T locs cells slots) (hx : p.tables.exec = Jvm.exec) {k : Fin 4} {v : Int32} (hd : Dec c.code pc (.iload_n k) 1 pc') (hl : Ls[k.val]? = some (.val (.int v))) (k : Go p e below En (T.setTop (mkF m pc' Ls (.int v :: st)))) : Go p e below En (T.setTop (mkF m pc Ls st)) := by
  obtain ⟨hd, rfl⟩ := hd
  exact own_via (fun t => XS.iloadN X.here hx rfl hd hl) k
theorem go_iload (X : Stand p l e R s m args below meth c T locs cells slots) (hx : p.tables.exec = Jvm.exec) {k : Nat} {v : Int32} (hd : Dec c.code pc (.iload k) 2 pc') (hl : Ls[k]? = some (.val (.int v))) (k : Go p e below En (T.setTop (mkF m pc' Ls (.int v :: st)))) : Go p e below En (T.setTop (mkF m pc Ls st)) := by
  obtain ⟨hd, rfl⟩ := hd
  exact own_via (fun t => XS.iload X.here hx rfl hd hl) k
theorem go_lloadn (X : Stand p l e R s m args below meth c T locs cells slots) (hx : p.tables.exec = Jvm.exec) {k : Fin 4} {v : Int64} (hd : Dec c.code pc (.lload_n k) 1 pc') (hl : Ls[k.val]? = some (.val (.long v))) (k : Go p e below En (T.setTop (mkF m pc' Ls (.long v :: st)))) : Go p e below En (T.setTop (mkF m pc Ls st)) := by
  obtain ⟨hd, rfl⟩ := hd
  exact own_via (fun t => XT.lloadN X.here hx rfl hd hl) k
theorem go_lload (X : Stand p l e R s m args below meth c T locs cells slots) (hx : p.tables.exec = Jvm.exec) {k : Nat} {v : Int64} (hd : Dec c.code pc (.lload k) 2 pc') (hl : Ls[k]? = some (.val (.long v))) (k : Go p e below En (T.setTop (mkF m pc' Ls (.long v :: st)))) : Go p e below En (T.setTop (mkF m pc Ls st)) := by
  obtain ⟨hd, rfl⟩ := hd
  exact own_via (fun t => XT.lload X.here hx rfl hd hl) k
theorem go_aloadn (X : Stand p l e R s m args below meth c T locs cells slots) (hx : p.tables.exec = Jvm.exec) {k : Fin 4} {v : Value} (hd : Dec c.code pc (.aload_n k) 1 pc') (hl : Ls[k.val]? = some (.val v)) (hv : v.isRef = true) (k : Go p e below En (T.setTop (mkF m pc' Ls (v :: st)))) : Go p e below En (T.setTop (mkF m pc Ls st)) := by
  obtain ⟨hd, rfl⟩ := hd
  exact own_via (fun t => XS.aloadN X.here hx rfl hd hl hv) k
theorem go_aload (X : Stand p l e R s m args below meth c T locs cells slots) (hx : p.tables.exec = Jvm.exec) {k : Nat} {v : Value} (hd : Dec c.code pc (.aload k) 2 pc') (hl : Ls[k]? = some (.val v)) (hv : v.isRef = true) (k : Go p e below En (T.setTop (mkF m pc' Ls (v :: st)))) : Go p e below En (T.setTop (mkF m pc Ls st)) := by
  obtain ⟨hd, rfl⟩ := hd
  exact own_via (fun t => XS.aload X.here hx rfl hd hl hv) k
theorem go_istoren (X : Stand p l e R s m args below meth c T locs cells slots) (hx : p.tables.exec = Jvm.exec) {k : Fin 4} {x : Int32} (Ls' : Array Slot) (hd : Dec c.code pc (.istore_n k) 1 pc') (hl : storeLocals Ls k.val (.int x) = some Ls') (k : Go p e below En (T.setTop (mkF m pc' Ls' st))) : Go p e below En (T.setTop (mkF m pc Ls (.int x :: st))) := by
  obtain ⟨hd, rfl⟩ := hd
  exact own_via (fun t => XS.istoreN X.here hx rfl hd rfl hl) k
theorem go_istore (X : Stand p l e R s m args below meth c T locs cells slots) (hx : p.tables.exec = Jvm.exec) {k : Nat} {x : Int32} (Ls' : Array Slot) (hd : Dec c.code pc (.istore k) 2 pc') (hl : storeLocals Ls k (.int x) = some Ls') (k : Go p e below En (T.setTop (mkF m pc' Ls' st))) : Go p e below En (T.setTop (mkF m pc Ls (.int x :: st))) := by
  obtain ⟨hd, rfl⟩ := hd
  exact own_via (fun t => XS.istore X.here hx rfl hd rfl hl) k
theorem go_lstoren (X : Stand p l e R s m args below meth c T locs cells slots) (hx : p.tables.exec = Jvm.exec) {k : Fin 4} {x : Int64} (Ls' : Array Slot) (hd : Dec c.code pc (.lstore_n k) 1 pc') (hl : storeLocals Ls k.val (.long x) = some Ls') (k : Go p e below En (T.setTop (mkF m pc' Ls' st))) : Go p e below En (T.setTop (mkF m pc Ls (.long x :: st))) := by
  obtain ⟨hd, rfl⟩ := hd
  exact own_via (fun t => XT.lstoreN X.here hx rfl hd rfl hl) k
theorem go_lstore (X : Stand p l e R s m args below meth c T locs cells slots) (hx : p.tables.exec = Jvm.exec) {k : Nat} {x : Int64} (Ls' : Array Slot) (hd : Dec c.code pc (.lstore k) 2 pc') (hl : storeLocals Ls k (.long x) = some Ls') (k : Go p e below En (T.setTop (mkF m pc' Ls' st))) : Go p e below En (T.setTop (mkF m pc Ls (.long x :: st))) := by
  obtain ⟨hd, rfl⟩ := hd
  exact own_via (fun t => XT.lstore X.here hx rfl hd rfl hl) k
theorem go_astoren (X : Stand p l e R s m args below meth c T locs cells slots) (hx : p.tables.exec = Jvm.exec) {k : Fin 4} {x : Value} (Ls' : Array Slot) (hd : Dec c.code pc (.astore_n k) 1 pc') (hv : x.isRef = true) (hl : storeLocals Ls k.val (x) = some Ls') (k : Go p e below En (T.setTop (mkF m pc' Ls' st))) : Go p e below En (T.setTop (mkF m pc Ls (x :: st))) := by
  obtain ⟨hd, rfl⟩ := hd
  exact own_via (fun t => XS.astoreN X.here hx rfl hd rfl hv hl) k
theorem go_astore (X : Stand p l e R s m args below meth c T locs cells slots) (hx : p.tables.exec = Jvm.exec) {k : Nat} {x : Value} (Ls' : Array Slot) (hd : Dec c.code pc (.astore k) 2 pc') (hv : x.isRef = true) (hl : storeLocals Ls k (x) = some Ls') (k : Go p e below En (T.setTop (mkF m pc' Ls' st))) : Go p e below En (T.setTop (mkF m pc Ls (x :: st))) := by
  obtain ⟨hd, rfl⟩ := hd
  exact own_via (fun t => XS.astore X.here hx rfl hd rfl hv hl) k
theorem go_iconst (X : Stand p l e R s m args below meth c T locs cells slots) (hx : p.tables.exec = Jvm.exec) {i : Int} (v : Int32) (hd : Dec c.code pc (.iconst i) 1 pc') (hv : Int32.ofInt i = v) (k : Go p e below En (T.setTop (mkF m pc' Ls (.int v :: st)))) : Go p e below En (T.setTop (mkF m pc Ls st)) := by
  obtain ⟨hd, rfl⟩ := hd
  exact own_via (fun t => (fun q => XS.iconst X.here hx rfl hd (by rw [hv]; exact q))) k
theorem go_bipush (X : Stand p l e R s m args below meth c T locs cells slots) (hx : p.tables.exec = Jvm.exec) {i : Int} (v : Int32) (hd : Dec c.code pc (.bipush i) 2 pc') (hv : (Int8.ofInt i).toInt32 = v) (k : Go p e below En (T.setTop (mkF m pc' Ls (.int v :: st)))) : Go p e below En (T.setTop (mkF m pc Ls st)) := by
  obtain ⟨hd, rfl⟩ := hd
  exact own_via (fun t => (fun q => XS.bipush X.here hx rfl hd (by rw [hv]; exact q))) k
theorem go_sipush (X : Stand p l e R s m args below meth c T locs cells slots) (hx : p.tables.exec = Jvm.exec) {i : Int} (v : Int32) (hd : Dec c.code pc (.sipush i) 3 pc') (hv : (Int16.ofInt i).toInt32 = v) (k : Go p e below En (T.setTop (mkF m pc' Ls (.int v :: st)))) : Go p e below En (T.setTop (mkF m pc Ls st)) := by
  obtain ⟨hd, rfl⟩ := hd
  exact own_via (fun t => (fun q => XS.sipush X.here hx rfl hd (by rw [hv]; exact q))) k
theorem go_lconst (X : Stand p l e R s m args below meth c T locs cells slots) (hx : p.tables.exec = Jvm.exec) {k : Fin 2} (v : Int64) (hd : Dec c.code pc (.lconst k) 1 pc') (hv : Int64.ofNat k = v) (k : Go p e below En (T.setTop (mkF m pc' Ls (.long v :: st)))) : Go p e below En (T.setTop (mkF m pc Ls st)) := by
  obtain ⟨hd, rfl⟩ := hd
  exact own_via (fun t => (fun q => XT.lconst X.here hx rfl hd (by rw [hv]; exact q))) k
theorem go_aconstnull (X : Stand p l e R s m args below meth c T locs cells slots) (hx : p.tables.exec = Jvm.exec)  (hd : Dec c.code pc (.aconst_null) 1 pc') (k : Go p e below En (T.setTop (mkF m pc' Ls (.null :: st)))) : Go p e below En (T.setTop (mkF m pc Ls st)) := by
  obtain ⟨hd, rfl⟩ := hd
  exact own_via (fun t => XS.aconstNull X.here hx rfl hd) k
theorem go_ldc (X : Stand p l e R s m args below meth c T locs cells slots) (hx : p.tables.exec = Jvm.exec) (hZ : Z.Warmed39 s.vm) {own : String} {index : Nat} {v : Int32} (hown : s.vm.findClass own = some m.cls) (w : (Jvm.Cond.constant own index v).before a0 Z = true) (hd : Dec c.code pc (.ldc index) 2 pc') (k : Go p e below En (T.setTop (mkF m pc' Ls (.int v :: st)))) : Go p e below En (T.setTop (mkF m pc Ls st)) := by
  obtain ⟨hd, rfl⟩ := hd
  exact own_via (fun t => X.ldcInt hx hown (mv hZ w) (g := mkF m pc Ls st) rfl hd t) k
theorem go_ldc2 (X : Stand p l e R s m args below meth c T locs cells slots) (hx : p.tables.exec = Jvm.exec) (hZ : Z.Warmed39 s.vm) {own : String} {index : Nat} {v : Int64} (hown : s.vm.findClass own = some m.cls) (w : (Jvm.Cond.constantLong own index v).before a0 Z = true) (hd : Dec c.code pc (.ldc2_w index) 3 pc') (k : Go p e below En (T.setTop (mkF m pc' Ls (.long v :: st)))) : Go p e below En (T.setTop (mkF m pc Ls st)) := by
  obtain ⟨hd, rfl⟩ := hd
  exact own_via (fun t => X.ldc2Long hx hown (mv hZ w) (g := mkF m pc Ls st) rfl hd t) k
theorem go_dup (X : Stand p l e R s m args below meth c T locs cells slots) (hx : p.tables.exec = Jvm.exec) {v : Value} (hd : Dec c.code pc (.dup) 1 pc') (hc : v.category = 1) (k : Go p e below En (T.setTop (mkF m pc' Ls (v :: v :: st)))) : Go p e below En (T.setTop (mkF m pc Ls (v :: st))) := by
  obtain ⟨hd, rfl⟩ := hd
  exact own_via (fun t => XS.dup X.here hx rfl hd rfl hc) k
theorem go_pop (X : Stand p l e R s m args below meth c T locs cells slots) (hx : p.tables.exec = Jvm.exec) {v : Value} (hd : Dec c.code pc (.pop) 1 pc') (hc : v.category = 1) (k : Go p e below En (T.setTop (mkF m pc' Ls st))) : Go p e below En (T.setTop (mkF m pc Ls (v :: st))) := by
  obtain ⟨hd, rfl⟩ := hd
  exact own_via (fun t => XT.pop X.here hx rfl hd rfl hc) k
theorem go_dupx1 (X : Stand p l e R s m args below meth c T locs cells slots) (hx : p.tables.exec = Jvm.exec) {v v' : Value} (hd : Dec c.code pc (.dup_x1) 1 pc') (hc : v.category = 1) (hc' : v'.category = 1) (k : Go p e below En (T.setTop (mkF m pc' Ls (v :: v' :: v :: st)))) : Go p e below En (T.setTop (mkF m pc Ls (v :: v' :: st))) := by
  obtain ⟨hd, rfl⟩ := hd
  exact own_via (fun t => XT.dupX1 X.here hx rfl hd rfl hc hc') k
theorem go_dup2L (X : Stand p l e R s m args below meth c T locs cells slots) (hx : p.tables.exec = Jvm.exec) {x : Int64} (hd : Dec c.code pc (.dup2) 1 pc') (k : Go p e below En (T.setTop (mkF m pc' Ls (.long x :: .long x :: st)))) : Go p e below En (T.setTop (mkF m pc Ls (.long x :: st))) := by
  obtain ⟨hd, rfl⟩ := hd
  exact own_via (fun t => XT.dup2L X.here hx rfl hd rfl) k
theorem go_dup2 (X : Stand p l e R s m args below meth c T locs cells slots) (hx : p.tables.exec = Jvm.exec) {v v' : Value} (hd : Dec c.code pc (.dup2) 1 pc') (hc : v.category = 1) (hc' : v'.category = 1) (k : Go p e below En (T.setTop (mkF m pc' Ls (v :: v' :: v :: v' :: st)))) : Go p e below En (T.setTop (mkF m pc Ls (v :: v' :: st))) := by
  obtain ⟨hd, rfl⟩ := hd
  exact own_via (fun t => XT.dup2 X.here hx rfl hd rfl hc hc') k
theorem go_iinc (X : Stand p l e R s m args below meth c T locs cells slots) (hx : p.tables.exec = Jvm.exec) {k : Nat} {cst : Int} {x : Int32} (Ls' : Array Slot) (hd : Dec c.code pc (.iinc k cst) 3 pc') (hl : Ls[k]? = some (.val (.int x))) (hl' : storeLocals Ls k (.int (x + Int32.ofInt cst)) = some Ls') (k : Go p e below En (T.setTop (mkF m pc' Ls' st))) : Go p e below En (T.setTop (mkF m pc Ls st)) := by
  obtain ⟨hd, rfl⟩ := hd
  exact own_via (fun t => XS.iinc X.here hx rfl hd hl hl') k
theorem go_goto (X : Stand p l e R s m args below meth c T locs cells slots) (hx : p.tables.exec = Jvm.exec) {o : Int} (hd : DecB c.code pc (.goto o) o pc' pt) (k : Go p e below En (T.setTop (mkF m pt Ls st))) : Go p e below En (T.setTop (mkF m pc Ls st)) := own_via (fun t => XS.goto X.here hx rfl rfl hd.1 hd.2.2.1 hd.2.2.2) k
theorem go_icmp (X : Stand p l e R s m args below meth c T locs cells slots) (hx : p.tables.exec = Jvm.exec) {cd : ClassFile.Cond} {x y : Int32} {o : Int} (hd : DecB c.code pc (.if_icmp cd o) o pc' pt) (kT : if_icmp.holds cd x y = true → Go p e below En (T.setTop (mkF m pt Ls st))) (kF : if_icmp.holds cd x y = false → Go p e below En (T.setTop (mkF m pc' Ls st))) : Go p e below En (T.setTop (mkF m pc Ls (.int y :: .int x :: st))) := by
  obtain ⟨h1, rfl, h3, h4⟩ := hd
  cases q : if_icmp.holds cd x y
  · exact own_via (fun t => XS.icmpNo X.here hx rfl h1 rfl q) (kF q)
  · exact own_via (fun t => XS.icmpYes X.here hx rfl rfl h1 rfl q h3 h4) (kT q)
theorem go_ifc (X : Stand p l e R s m args below meth c T locs cells slots) (hx : p.tables.exec = Jvm.exec) {cd : ClassFile.Cond} {x : Int32} {o : Int} (hd : DecB c.code pc (.ifCond cd o) o pc' pt) (kT : if_icmp.holds cd x 0 = true → Go p e below En (T.setTop (mkF m pt Ls st))) (kF : if_icmp.holds cd x 0 = false → Go p e below En (T.setTop (mkF m pc' Ls st))) : Go p e below En (T.setTop (mkF m pc Ls (.int x :: st))) := by
  obtain ⟨h1, rfl, h3, h4⟩ := hd
  cases q : if_icmp.holds cd x 0
  · exact own_via (fun t => XS.ifNo X.here hx rfl h1 rfl ((if0 cd x).trans q)) (kF q)
  · exact own_via (fun t => XS.ifYes X.here hx rfl rfl h1 rfl ((if0 cd x).trans q) h3 h4) (kT q)
theorem go_icmp_eq (X : Stand p l e R s m args below meth c T locs cells slots) (hx : p.tables.exec = Jvm.exec) {x y : Int32} {o : Int} (hd : DecB c.code pc (.if_icmp .eq o) o pc' pt) (kT : x = y → Go p e below En (T.setTop (mkF m pt Ls st))) (kF : ¬ x = y → Go p e below En (T.setTop (mkF m pc' Ls st))) : Go p e below En (T.setTop (mkF m pc Ls (.int y :: .int x :: st))) := by
  by_cases q : x = y
  · exact go_icmp X hx hd (fun _ => kT q) (fun r => absurd r (by rw [(teq q).1]; decide))
  · exact go_icmp X hx hd (fun r => absurd r (by rw [(feq q).1]; decide)) (fun _ => kF q)
theorem go_ifc_eq (X : Stand p l e R s m args below meth c T locs cells slots) (hx : p.tables.exec = Jvm.exec) {x : Int32} {o : Int} (hd : DecB c.code pc (.ifCond .eq o) o pc' pt) (kT : x = 0 → Go p e below En (T.setTop (mkF m pt Ls st))) (kF : ¬ x = 0 → Go p e below En (T.setTop (mkF m pc' Ls st))) : Go p e below En (T.setTop (mkF m pc Ls (.int x :: st))) := by
  by_cases q : x = 0
  · exact go_ifc X hx hd (fun _ => kT q) (fun r => absurd r (by rw [(teq q).1]; decide))
  · exact go_ifc X hx hd (fun r => absurd r (by rw [(feq q).1]; decide)) (fun _ => kF q)
theorem go_icmp_ne (X : Stand p l e R s m args below meth c T locs cells slots) (hx : p.tables.exec = Jvm.exec) {x y : Int32} {o : Int} (hd : DecB c.code pc (.if_icmp .ne o) o pc' pt) (kT : ¬ x = y → Go p e below En (T.setTop (mkF m pt Ls st))) (kF : x = y → Go p e below En (T.setTop (mkF m pc' Ls st))) : Go p e below En (T.setTop (mkF m pc Ls (.int y :: .int x :: st))) := by
  by_cases q : x = y
  · exact go_icmp X hx hd (fun r => absurd r (by rw [(teq q).2]; decide)) (fun _ => kF q)
  · exact go_icmp X hx hd (fun _ => kT q) (fun r => absurd r (by rw [(feq q).2]; decide))
theorem go_ifc_ne (X : Stand p l e R s m args below meth c T locs cells slots) (hx : p.tables.exec = Jvm.exec) {x : Int32} {o : Int} (hd : DecB c.code pc (.ifCond .ne o) o pc' pt) (kT : ¬ x = 0 → Go p e below En (T.setTop (mkF m pt Ls st))) (kF : x = 0 → Go p e below En (T.setTop (mkF m pc' Ls st))) : Go p e below En (T.setTop (mkF m pc Ls (.int x :: st))) := by
  by_cases q : x = 0
  · exact go_ifc X hx hd (fun r => absurd r (by rw [(teq q).2]; decide)) (fun _ => kF q)
  · exact go_ifc X hx hd (fun _ => kT q) (fun r => absurd r (by rw [(feq q).2]; decide))
theorem go_icmp_lt (X : Stand p l e R s m args below meth c T locs cells slots) (hx : p.tables.exec = Jvm.exec) {x y : Int32} {o : Int} (hd : DecB c.code pc (.if_icmp .lt o) o pc' pt) (kT : x < y → Go p e below En (T.setTop (mkF m pt Ls st))) (kF : ¬ x < y → Go p e below En (T.setTop (mkF m pc' Ls st))) : Go p e below En (T.setTop (mkF m pc Ls (.int y :: .int x :: st))) := by
  by_cases q : x < y
  · exact go_icmp X hx hd (fun _ => kT q) (fun r => absurd r (by rw [(tlt q).1]; decide))
  · exact go_icmp X hx hd (fun r => absurd r (by rw [(flt q).1]; decide)) (fun _ => kF q)
theorem go_ifc_lt (X : Stand p l e R s m args below meth c T locs cells slots) (hx : p.tables.exec = Jvm.exec) {x : Int32} {o : Int} (hd : DecB c.code pc (.ifCond .lt o) o pc' pt) (kT : x < 0 → Go p e below En (T.setTop (mkF m pt Ls st))) (kF : ¬ x < 0 → Go p e below En (T.setTop (mkF m pc' Ls st))) : Go p e below En (T.setTop (mkF m pc Ls (.int x :: st))) := by
  by_cases q : x < 0
  · exact go_ifc X hx hd (fun _ => kT q) (fun r => absurd r (by rw [(tlt q).1]; decide))
  · exact go_ifc X hx hd (fun r => absurd r (by rw [(flt q).1]; decide)) (fun _ => kF q)
theorem go_icmp_ge (X : Stand p l e R s m args below meth c T locs cells slots) (hx : p.tables.exec = Jvm.exec) {x y : Int32} {o : Int} (hd : DecB c.code pc (.if_icmp .ge o) o pc' pt) (kT : ¬ x < y → Go p e below En (T.setTop (mkF m pt Ls st))) (kF : x < y → Go p e below En (T.setTop (mkF m pc' Ls st))) : Go p e below En (T.setTop (mkF m pc Ls (.int y :: .int x :: st))) := by
  by_cases q : x < y
  · exact go_icmp X hx hd (fun r => absurd r (by rw [(tlt q).2.1]; decide)) (fun _ => kF q)
  · exact go_icmp X hx hd (fun _ => kT q) (fun r => absurd r (by rw [(flt q).2.1]; decide))
theorem go_ifc_ge (X : Stand p l e R s m args below meth c T locs cells slots) (hx : p.tables.exec = Jvm.exec) {x : Int32} {o : Int} (hd : DecB c.code pc (.ifCond .ge o) o pc' pt) (kT : ¬ x < 0 → Go p e below En (T.setTop (mkF m pt Ls st))) (kF : x < 0 → Go p e below En (T.setTop (mkF m pc' Ls st))) : Go p e below En (T.setTop (mkF m pc Ls (.int x :: st))) := by
  by_cases q : x < 0
  · exact go_ifc X hx hd (fun r => absurd r (by rw [(tlt q).2.1]; decide)) (fun _ => kF q)
  · exact go_ifc X hx hd (fun _ => kT q) (fun r => absurd r (by rw [(flt q).2.1]; decide))
theorem go_icmp_gt (X : Stand p l e R s m args below meth c T locs cells slots) (hx : p.tables.exec = Jvm.exec) {x y : Int32} {o : Int} (hd : DecB c.code pc (.if_icmp .gt o) o pc' pt) (kT : y < x → Go p e below En (T.setTop (mkF m pt Ls st))) (kF : ¬ y < x → Go p e below En (T.setTop (mkF m pc' Ls st))) : Go p e below En (T.setTop (mkF m pc Ls (.int y :: .int x :: st))) := by
  by_cases q : y < x
  · exact go_icmp X hx hd (fun _ => kT q) (fun r => absurd r (by rw [(tlt q).2.2.1]; decide))
  · exact go_icmp X hx hd (fun r => absurd r (by rw [(flt q).2.2.1]; decide)) (fun _ => kF q)
theorem go_ifc_gt (X : Stand p l e R s m args below meth c T locs cells slots) (hx : p.tables.exec = Jvm.exec) {x : Int32} {o : Int} (hd : DecB c.code pc (.ifCond .gt o) o pc' pt) (kT : 0 < x → Go p e below En (T.setTop (mkF m pt Ls st))) (kF : ¬ 0 < x → Go p e below En (T.setTop (mkF m pc' Ls st))) : Go p e below En (T.setTop (mkF m pc Ls (.int x :: st))) := by
  by_cases q : 0 < x
  · exact go_ifc X hx hd (fun _ => kT q) (fun r => absurd r (by rw [(tlt q).2.2.1]; decide))
  · exact go_ifc X hx hd (fun r => absurd r (by rw [(flt q).2.2.1]; decide)) (fun _ => kF q)
theorem go_icmp_le (X : Stand p l e R s m args below meth c T locs cells slots) (hx : p.tables.exec = Jvm.exec) {x y : Int32} {o : Int} (hd : DecB c.code pc (.if_icmp .le o) o pc' pt) (kT : ¬ y < x → Go p e below En (T.setTop (mkF m pt Ls st))) (kF : y < x → Go p e below En (T.setTop (mkF m pc' Ls st))) : Go p e below En (T.setTop (mkF m pc Ls (.int y :: .int x :: st))) := by
  by_cases q : y < x
  · exact go_icmp X hx hd (fun r => absurd r (by rw [(tlt q).2.2.2]; decide)) (fun _ => kF q)
  · exact go_icmp X hx hd (fun _ => kT q) (fun r => absurd r (by rw [(flt q).2.2.2]; decide))
theorem go_ifc_le (X : Stand p l e R s m args below meth c T locs cells slots) (hx : p.tables.exec = Jvm.exec) {x : Int32} {o : Int} (hd : DecB c.code pc (.ifCond .le o) o pc' pt) (kT : ¬ 0 < x → Go p e below En (T.setTop (mkF m pt Ls st))) (kF : 0 < x → Go p e below En (T.setTop (mkF m pc' Ls st))) : Go p e below En (T.setTop (mkF m pc Ls (.int x :: st))) := by
  by_cases q : 0 < x
  · exact go_ifc X hx hd (fun r => absurd r (by rw [(tlt q).2.2.2]; decide)) (fun _ => kF q)
  · exact go_ifc X hx hd (fun _ => kT q) (fun r => absurd r (by rw [(flt q).2.2.2]; decide))
theorem go_ifnullY (X : Stand p l e R s m args below meth c T locs cells slots) (hx : p.tables.exec = Jvm.exec) {o : Int} (hd : DecB c.code pc (.ifnull o) o pc' pt) (k : Go p e below En (T.setTop (mkF m pt Ls st))) : Go p e below En (T.setTop (mkF m pc Ls (.null :: st))) := own_via (fun t => XS.ifnullYes X.here hx rfl rfl hd.1 rfl hd.2.2.1 hd.2.2.2) k
theorem go_ifnullN (X : Stand p l e R s m args below meth c T locs cells slots) (hx : p.tables.exec = Jvm.exec) {o : Int} {a : Addr} (hd : DecB c.code pc (.ifnull o) o pc' pt) (k : Go p e below En (T.setTop (mkF m pc' Ls st))) : Go p e below En (T.setTop (mkF m pc Ls (.ref a :: st))) := by
  obtain ⟨h1, rfl, h3, h4⟩ := hd
  exact own_via (fun t => XS.ifnullNo X.here hx rfl h1 rfl) k
theorem go_ifnonnullY (X : Stand p l e R s m args below meth c T locs cells slots) (hx : p.tables.exec = Jvm.exec) {o : Int} {a : Addr} (hd : DecB c.code pc (.ifnonnull o) o pc' pt) (k : Go p e below En (T.setTop (mkF m pt Ls st))) : Go p e below En (T.setTop (mkF m pc Ls (.ref a :: st))) := own_via (fun t => XT.ifnonnullYes X.here hx rfl rfl hd.1 rfl hd.2.2.1 hd.2.2.2) k
theorem go_ifnonnullN (X : Stand p l e R s m args below meth c T locs cells slots) (hx : p.tables.exec = Jvm.exec) {o : Int} (hd : DecB c.code pc (.ifnonnull o) o pc' pt) (k : Go p e below En (T.setTop (mkF m pc' Ls st))) : Go p e below En (T.setTop (mkF m pc Ls (.null :: st))) := by
  obtain ⟨h1, rfl, h3, h4⟩ := hd
  exact own_via (fun t => XT.ifnonnullNo X.here hx rfl h1 rfl) k
theorem go_acmp_eq (X : Stand p l e R s m args below meth c T locs cells slots) (hx : p.tables.exec = Jvm.exec) {x y : Value} (hx' : x.isRef = true) (hy' : y.isRef = true) {o : Int} (hd : DecB c.code pc (.if_acmp .eq o) o pc' pt) (kT : x = y → Go p e below En (T.setTop (mkF m pt Ls st))) (kF : ¬ x = y → Go p e below En (T.setTop (mkF m pc' Ls st))) : Go p e below En (T.setTop (mkF m pc Ls (y :: x :: st))) := by
  obtain ⟨h1, rfl, h3, h4⟩ := hd
  by_cases q : x = y
  · exact own_via (fun t => XT.acmpYes X.here hx rfl rfl h1 rfl hx' hy' (by simp [XT.acmp, q]) h3 h4) (kT q)
  · exact own_via (fun t => XT.acmpNo X.here hx rfl h1 rfl hx' hy' (by simp [XT.acmp, q])) (kF q)
theorem go_acmp_ne (X : Stand p l e R s m args below meth c T locs cells slots) (hx : p.tables.exec = Jvm.exec) {x y : Value} (hx' : x.isRef = true) (hy' : y.isRef = true) {o : Int} (hd : DecB c.code pc (.if_acmp .ne o) o pc' pt) (kT : ¬ x = y → Go p e below En (T.setTop (mkF m pt Ls st))) (kF : x = y → Go p e below En (T.setTop (mkF m pc' Ls st))) : Go p e below En (T.setTop (mkF m pc Ls (y :: x :: st))) := by
  obtain ⟨h1, rfl, h3, h4⟩ := hd
  by_cases q : x = y
  · exact own_via (fun t => XT.acmpNo X.here hx rfl h1 rfl hx' hy' (by simp [XT.acmp, q])) (kF q)
  · exact own_via (fun t => XT.acmpYes X.here hx rfl rfl h1 rfl hx' hy' (by simp [XT.acmp, q]) h3 h4) (kT q)
theorem go_retN (X : Stand p l e R s m args below meth c T locs cells slots) (hx : p.tables.exec = Jvm.exec) {z : Int32} {t : FieldType} (hret : meth.sig.returnType = some t) (ht : t = .boolean ∨ t = .byte ∨ t = .char ∨ t = .short) (hd : Dec c.code pc .ireturn 1 pc') (hk : meth.locks = false) (hc : cells ≤ rc) (hs : slots ≤ rs) (hQ : Q (some (.int (nar t z))) T.heap locs) : Go p e below (EndN s Q rc rs) (T.setTop (mkF m pc Ls (.int z :: st))) := by
  obtain ⟨fs, hr, hrun, hended, hW, hsame⟩ := X.leave (v := (some (.int (nar t z)))) (fun q => by first | rfl | (rw [hret] at q; cases q)) hk
  exact ⟨_, _, retN X hx hret ht hd.1 hr, hrun, hended, _, _, rfl, hQ, ⟨_, rfl⟩, hW, hsame.mono hc hs⟩
theorem go_retI (X : Stand p l e R s m args below meth c T locs cells slots) (hx : p.tables.exec = Jvm.exec) {z : Int32} (hret : meth.sig.returnType = some .int) (hd : Dec c.code pc .ireturn 1 pc') (hk : meth.locks = false) (hc : cells ≤ rc) (hs : slots ≤ rs) (hQ : Q (some (.int z)) T.heap locs) : Go p e below (EndN s Q rc rs) (T.setTop (mkF m pc Ls (.int z :: st))) := by
  obtain ⟨fs, hr, hrun, hended, hW, hsame⟩ := X.leave (v := (some (.int z))) (fun q => by first | rfl | (rw [hret] at q; cases q)) hk
  exact ⟨_, _, retOut X hx hret rfl (Or.inl ⟨rfl, Or.inl rfl, _, rfl⟩) hd.1 hr, hrun, hended, _, _, rfl, hQ, ⟨_, rfl⟩, hW, hsame.mono hc hs⟩
theorem go_retJ (X : Stand p l e R s m args below meth c T locs cells slots) (hx : p.tables.exec = Jvm.exec) {z : Int64} (hret : meth.sig.returnType = some .long) (hd : Dec c.code pc .lreturn 1 pc') (hk : meth.locks = false) (hc : cells ≤ rc) (hs : slots ≤ rs) (hQ : Q (some (.long z)) T.heap locs) : Go p e below (EndN s Q rc rs) (T.setTop (mkF m pc Ls (.long z :: st))) := by
  obtain ⟨fs, hr, hrun, hended, hW, hsame⟩ := X.leave (v := (some (.long z))) (fun q => by first | rfl | (rw [hret] at q; cases q)) hk
  exact ⟨_, _, retOut X hx hret rfl (Or.inr (Or.inl ⟨rfl, rfl, _, rfl⟩)) hd.1 hr, hrun, hended, _, _, rfl, hQ, ⟨_, rfl⟩, hW, hsame.mono hc hs⟩
theorem go_retA (X : Stand p l e R s m args below meth c T locs cells slots) (hx : p.tables.exec = Jvm.exec) {v : Value} {t : FieldType} (hret : meth.sig.returnType = some t) (ht : t.isReference = true) (hv : v.isRef = true) (hd : Dec c.code pc .areturn 1 pc') (hk : meth.locks = false) (hc : cells ≤ rc) (hs : slots ≤ rs) (hQ : Q (some v) T.heap locs) : Go p e below (EndN s Q rc rs) (T.setTop (mkF m pc Ls (v :: st))) := by
  obtain ⟨fs, hr, hrun, hended, hW, hsame⟩ := X.leave (v := (some v)) (fun q => by first | rfl | (rw [hret] at q; cases q)) hk
  exact ⟨_, _, retOut X hx hret (by cases t <;> first | rfl | cases ht) (Or.inr (Or.inr (Or.inr (Or.inr ⟨rfl, ht, hv⟩)))) hd.1 hr, hrun, hended, _, _, rfl, hQ, ⟨_, rfl⟩, hW, hsame.mono hc hs⟩
theorem go_retV (X : Stand p l e R s m args below meth c T locs cells slots) (hx : p.tables.exec = Jvm.exec)  (hret : meth.sig.returnType = none) (hd : Dec c.code pc .return_ 1 pc') (hk : meth.locks = false) (hc : cells ≤ rc) (hs : slots ≤ rs) (hQ : Q none T.heap locs) : Go p e below (EndN s Q rc rs) (T.setTop (mkF m pc Ls [])) := by
  obtain ⟨fs, hr, hrun, hended, hW, hsame⟩ := X.leave (v := none) (fun q => by first | rfl | (rw [hret] at q; cases q)) hk
  exact ⟨_, _, X.returnOut hx hret hd.1 hr, hrun, hended, _, _, rfl, hQ, ⟨_, rfl⟩, hW, hsame.mono hc hs⟩
theorem go_getF (X : Stand p l e R s m args below meth c T locs cells slots) (hx : p.tables.exec = Jvm.exec) (hZ : Z.Warmed39 s.vm) {own R0 O n d host : String} {index : Nat} (hown : s.vm.findClass own = some m.cls) (w : (Jvm.Cond.fieldLink own index R0 n d).before a0 Z = true ∨ (Jvm.Cond.fieldLinkNest own index R0 n d host).before a0 Z = true) (via : Via Z R0 O n d) (eT : T.heap = h) {a : Addr} {v : Value} (F : Fld Z h a O n d v) (hd : Dec c.code pc (.getfield index) 3 pc') (k : ∀ T', Stand p l e R s m args below meth c T' locs cells slots → T'.heap = h → Go p e below En (T'.setTop (mkF m pc' Ls (v :: st)))) : Go p e below En (T.setTop (mkF m pc Ls (.ref a :: st))) := by
  obtain ⟨hd, rfl⟩ := hd
  obtain ⟨T', X', e', q⟩ := getF X hx hZ hown w via eT F (g := mkF m pc Ls (.ref a :: st)) rfl rfl hd
  exact own_via q (k T' X' e')
theorem go_putF (X : Stand p l e R s m args below meth c T locs cells slots) (hx : p.tables.exec = Jvm.exec) (hZ : Z.Warmed39 s.vm) {own R0 O n d host C : String} {index kk : Nat} {ty : FieldType} (hown : s.vm.findClass own = some m.cls) (w : (Jvm.Cond.fieldLink own index R0 n d).before a0 Z = true ∨ (Jvm.Cond.fieldLinkNest own index R0 n d host).before a0 Z = true) (via : Via Z R0 O n d) (eT : T.heap = h) {a : Addr} {v old : Value} (F : Fld Z h a O n d old) (E : Exa Z h a C) (L : (Jvm.Cond.lays C O n d).before a0 Z = true ∨ ((Jvm.Cond.laysFinal C O n d).before a0 Z = true ∧ own = O ∧ meth.name = "<init>")) (wi : (Jvm.Cond.instantiable C kk).before a0 Z = true) (hty : parseFieldDescriptor d = some ty) (hn : narrow ty v = v) (hf : fits ty v = true) (hd : Dec c.code pc (.putfield index) 3 pc') (k : ∀ T' h', Stand p l e R s m args below meth c T' (locs ++ [⟨a, Jvm.RoadKit.slotOf Z O n d⟩]) cells slots → T'.heap = h' → Wr h h' a (Jvm.RoadKit.slotOf Z O n d) v → Go p e below En (T'.setTop (mkF m pc' Ls st))) : Go p e below En (T.setTop (mkF m pc Ls (v :: .ref a :: st))) := by
  obtain ⟨hd, rfl⟩ := hd
  obtain ⟨T', h', X', e', W, q⟩ := putF X hx hZ hown w via eT F E L wi hty hn hf (g := mkF m pc Ls (v :: .ref a :: st)) rfl rfl hd
  exact own_via q (k T' h' X' e' W)
theorem go_getS (X : Stand p l e R s m args below meth c T locs cells slots) (hx : p.tables.exec = Jvm.exec) (hZ : Z.Warmed39 s.vm) {own R0 O n d host : String} {index : Nat} (hown : s.vm.findClass own = some m.cls) (w : (Jvm.Cond.fieldLink own index R0 n d).before a0 Z = true) (via : Via Z R0 O n d) (eT : T.heap = h) {v : Value} (F : Sta Z h O n d v) (hd : Dec c.code pc (.getstatic index) 3 pc') (k : ∀ T', Stand p l e R s m args below meth c T' locs cells slots → T'.heap = h → Go p e below En (T'.setTop (mkF m pc' Ls (v :: st)))) : Go p e below En (T.setTop (mkF m pc Ls st)) := by
  obtain ⟨hd, rfl⟩ := hd
  obtain ⟨T', X', e', q⟩ := getS (host := "") X hx hZ hown w via eT F (g := mkF m pc Ls st) rfl hd
  exact own_via q (k T' X' e')
theorem go_newO (X : Stand p l e R s m args below meth c T locs cells slots) (hx : p.tables.exec = Jvm.exec) (hZ : Z.Warmed39 s.vm) {own C : String} {index n : Nat} (hown : s.vm.findClass own = some m.cls) (w : (Jvm.Cond.classLink own index C).before a0 Z = true) (wi : (Jvm.Cond.instantiable C n).before a0 Z = true) (wz : (Jvm.Cond.initialized C).before a0 Z = true) (eT : T.heap = h) (hd : Dec c.code pc (.new index) 3 pc') (hc : cells + 1 ≤ R.cells) (hl : slots + n ≤ R.slots) (k : ∀ T' h' (a : Addr), a = h.size → Stand p l e R s m args below meth c T' locs (cells + 1) (slots + n) → T'.heap = h' → Ext h h' → Exa Z h' a C → (∀ {O nm d : String} {ty : FieldType}, Laid Z a0 C O nm d → parseFieldDescriptor d = some ty → Fld Z h' a O nm d (defaultValue ty)) → Go p e below En (T'.setTop (mkF m pc' Ls (.ref a :: st)))) : Go p e below En (T.setTop (mkF m pc Ls st)) := by
  obtain ⟨hd, rfl⟩ := hd
  obtain ⟨T', h', X', e', E, A, D, -, q⟩ := newO X hx hZ hown w wi wz eT (g := mkF m pc Ls st) rfl hd hc hl
  exact own_via q (k T' h' _ rfl X' e' E A D)
theorem go_newP (X : Stand p l e R s m args below meth c T locs cells slots) (hx : p.tables.exec = Jvm.exec) (hZ : Z.Warmed39 s.vm) {aty : ArrayType} (w : (Jvm.Cond.arrayClass (newarray.typeOf aty)).before a0 Z = true) (eT : T.heap = h) (hd : Dec c.code pc (.newarray aty) 2 pc') {n : Int32} (hn : ¬ n < 0) (cap : Nat) (hcap : n.toNatClampNeg ≤ cap) (hb : cap * 8 ≤ 536870912) (hc : cells + 1 ≤ R.cells) (hl : slots + cap ≤ R.slots) (k : ∀ T' h' cA (a : Addr), a = h.size → Stand p l e R s m args below meth c T' locs (cells + 1) (slots + cap) → T'.heap = h' → Ext h h' → Arr Z h' a (newA cA (newarray.typeOf aty) n) (newarray.typeOf aty) → Go p e below En (T'.setTop (mkF m pc' Ls (.ref a :: st)))) : Go p e below En (T.setTop (mkF m pc Ls (.int n :: st))) := by
  obtain ⟨hd, rfl⟩ := hd
  obtain ⟨T', h', cA, X', e', E, A, q⟩ := newP X hx hZ w eT (g := mkF m pc Ls (.int n :: st)) rfl hd rfl hn hcap hb hc hl
  exact own_via q (k T' h' cA _ rfl X' e' E A)
theorem go_initO (X : Stand p l e R s m args below meth c T locs cells slots) (hx : p.tables.exec = Jvm.exec) (hZ : Z.Warmed39 s.vm) {own : String} {idx : Nat} (hown : s.vm.findClass own = some m.cls) (w1 : (Jvm.Cond.methodLink own idx Lib.objectInit).before a0 Z = true) (w2 : (Jvm.Cond.instanceMethod Lib.objectInit).before a0 Z = true) (w3 : (Jvm.Cond.code Lib.objectInit object_method_1_code 1 none).before a0 Z = true) (eT : T.heap = h) (hsize : Ls.size = c.maxLocals) {a : Addr} (hd : Dec c.code pc (.invokespecial idx) 3 pc') (hf : 1 ≤ R.frames) (W : Nat) (hW : (st.map fun v => v.category).sum ≤ W) (hl : W + 12 ≤ R.locals) (k : ∀ T', Stand p l e R s m args below meth c T' locs cells slots → T'.heap = h → Go p e below En (T'.setTop (mkF m pc' Ls st))) : Go p e below En (T.setTop (mkF m pc Ls (.ref a :: st))) := by
  obtain ⟨hd, rfl⟩ := hd
  obtain ⟨T', X', e', q⟩ := initO X hx hZ hown w1 w2 w3 eT (g := mkF m pc Ls (.ref a :: st)) rfl hsize rfl hd hf (W := W) (by show 2 * 0 + _ ≤ _; omega) hl
  exact own_via q (k T' X' e')
def Ct (l : Launch) (Z : State) (y : MethodName) (bytes : ByteArray) (maxL : Nat) (ret : Option FieldType) (ws : List Jvm.Cond) (rm : Room) (as' : Array Value) (h0 : Heap) (Q : Option Value → Heap → List Loc → Prop) : Prop := MetFree l y (head1 (Jvm.Cond.code y bytes maxL ret :: ws) rm) (fun a U => a = as' ∧ Z.Warmed39 U.vm ∧ U.heap = h0) (fun _ _ _ _ _ => True) (fun _ U o U' => ∃ v L, o = .returned v ∧ Q v U'.heap L ∧ FrameEnd U o U' L rm.cells rm.slots)
theorem Ct.of {y : MethodName} {bytes : ByteArray} {maxL : Nat} {ret : Option FieldType} {ws : List Jvm.Cond} {rm : Room} {as' : Array Value} {h0 : Heap} (pn : plainFor y = true) (F0 : Array Slot) (ef : ∀ m, entryFrame m as' maxL = mkF m 0 F0 []) (body : ∀ (p : Program) (e : Env) (s : State) (m : MethodId) (below : List Frame) (meth : Method) (c : Code) (T : State), p.tables.exec = Jvm.exec → c.code = bytes → c.maxLocals = maxL → Z.Warmed39 s.vm → s.vm.findClass y.cls = some m.cls → meth.name = y.name → meth.sig.returnType = ret → meth.locks = false → T.heap = h0 → Stand p l e rm s m as' below meth c T [] 0 0 → Go p e below (EndN s Q rm.cells rm.slots) (T.setTop (mkF m 0 F0 []))) : Ct l Z y bytes maxL ret ws rm as' h0 Q := by
  refine MetFree.of_bodySF pn hisR ?_
  intro p e s m args below meth c s₁ Bd hml0 hP hK
  obtain ⟨rfl, hZ, hh⟩ := hP
  have G := body p e s m below meth c s₁ Bd.exec Bd.bytes hml0 hZ (findClass_of_methodNamed Bd.named) (name_of_methodNamed Bd.named Bd.method).1 Bd.returns Bd.notSynchronized (by rw [← hh, Bd.state]; rfl) (Stand.of_body Bd)
  rw [← ef m] at G
  exact G
theorem go_static (X : Stand p l e R s m args below meth c T locs cells slots) (hx : p.tables.exec = Jvm.exec) (hZ : Z.Warmed39 s.vm) {own : String} {index : Nat} {y : MethodName} {bytes : ByteArray} {maxL : Nat} {ret : Option FieldType} (hown : s.vm.findClass own = some m.cls) (w1 : (Jvm.Cond.methodLink own index y).before a0 Z = true) (w2 : (Jvm.Cond.static y).before a0 Z = true) (w3 : (Jvm.Cond.initialized y.cls).before a0 Z = true) (w4 : (Jvm.Cond.code y bytes maxL ret).before a0 Z = true) (hy : y.cls ≠ "java/lang/invoke/MethodHandle" ∧ y.cls ≠ "java/lang/invoke/VarHandle") (eT : T.heap = h) {rm : Room} (argsL rest : List Value) {Qc : Option Value → Heap → List Loc → Prop} (hC : Ct l Z y bytes maxL ret [] rm argsL.toArray h Qc) {ps : List FieldType} {rt : Option FieldType} (pd : parseMethodDescriptor y.desc = some ⟨ps, rt⟩) (hl : argsL.length = ps.length) (hsize : Ls.size = c.maxLocals) {stk : List Value} (hstk : stk = argsL.reverse ++ rest) (W : Nat) (hW : (rest.map fun v => v.category).sum ≤ W) (hf : rm.frames + 1 ≤ R.frames) (hlo : W + (maxL + 11) + rm.locals ≤ R.locals) (hce : cells + rm.cells ≤ R.cells) (hsl : slots + rm.slots ≤ R.slots) (hd : Dec c.code pc (.invokestatic index) 3 pc') (k : ∀ T' v L, Stand p l e R s m args below meth c T' (locs ++ L) (cells + rm.cells) (slots + rm.slots) → Qc v T'.heap L → Go p e below En (T'.setTop (mkF m pc' Ls (v.toList ++ rest)))) : Go p e below En (T.setTop (mkF m pc Ls stk)) := by
  obtain ⟨hd, rfl⟩ := hd
  obtain ⟨v, _, ⟨T', L', k', n'⟩, -, X', ⟨L, hQ, l1, y1, z1⟩, q⟩ := Jvm.LawKit.callS X hx hown (mvT hZ w1) (mvT hZ w2) (mvT hZ w3) (mvT hZ w4) hy (backOf (W := W) hC hZ w4 w3 hf hlo) (g := mkF m pc Ls stk) rfl hsize (argsL := argsL) (rest := rest) (lenOf pd hl) hstk (by show 2 * 0 + _ ≤ _; omega) hd (fun _ _ => ⟨rfl, eT, hce, hsl⟩)
  dsimp only [Pt.U, Pt.locs, Pt.cells, Pt.slots] at X' l1 y1 z1 q hQ
  subst l1 y1 z1
  exact own_via q (k T' v L X' hQ)
theorem go_special (X : Stand p l e R s m args below meth c T locs cells slots) (hx : p.tables.exec = Jvm.exec) (hZ : Z.Warmed39 s.vm) {own : String} {index : Nat} {y : MethodName} (hn : y.name = "<init>") {bytes : ByteArray} {maxL : Nat} (hown : s.vm.findClass own = some m.cls) (w1 : (Jvm.Cond.methodLink own index y).before a0 Z = true) (w2 : (Jvm.Cond.instanceMethod y).before a0 Z = true) (w3 : (Jvm.Cond.initialized y.cls).before a0 Z = true) (w4 : (Jvm.Cond.code y bytes maxL none).before a0 Z = true) (hy : y.cls ≠ "java/lang/invoke/MethodHandle" ∧ y.cls ≠ "java/lang/invoke/VarHandle") (eT : T.heap = h) {rm : Room} {a : Addr} (argsL rest : List Value) {Qc : Option Value → Heap → List Loc → Prop} (hC : Ct l Z y bytes maxL none [] rm (.ref a :: argsL).toArray h Qc) {ps : List FieldType} {rt : Option FieldType} (pd : parseMethodDescriptor y.desc = some ⟨ps, rt⟩) (hl : argsL.length = ps.length) (hsize : Ls.size = c.maxLocals) {stk : List Value} (hstk : stk = argsL.reverse ++ .ref a :: rest) (W : Nat) (hW : (rest.map fun v => v.category).sum ≤ W) (hf : rm.frames + 1 ≤ R.frames) (hlo : W + (maxL + 11) + rm.locals ≤ R.locals) (hce : cells + rm.cells ≤ R.cells) (hsl : slots + rm.slots ≤ R.slots) (hd : Dec c.code pc (.invokespecial index) 3 pc') (k : ∀ T' v L, Stand p l e R s m args below meth c T' (locs ++ L) (cells + rm.cells) (slots + rm.slots) → Qc v T'.heap L → Go p e below En (T'.setTop (mkF m pc' Ls (v.toList ++ rest)))) : Go p e below En (T.setTop (mkF m pc Ls stk)) := by
  obtain ⟨hd, rfl⟩ := hd
  obtain ⟨v, _, ⟨T', L', k', n'⟩, -, X', ⟨L, hQ, l1, y1, z1⟩, q⟩ := X.specialBack hx hn hown (mvT hZ w1) (mvT hZ w2) (mvT hZ w4) hy (backOf (W := W) hC hZ w4 w3 hf hlo) (g := mkF m pc Ls stk) rfl hsize (Steps.refl _) (a := a) (argsL := argsL) (rest := rest) (lenOf pd hl) hstk (by show 2 * 0 + _ ≤ _; omega) hd (fun _ _ => ⟨rfl, eT, hce, hsl⟩)
  dsimp only [Pt.U, Pt.locs, Pt.cells, Pt.slots] at X' l1 y1 z1 q hQ
  subst l1 y1 z1
  exact own_via (fun _ => q.trans) (k T' v L X' hQ)
theorem go_virtual (X : Stand p l e R s m args below meth c T locs cells slots) (hx : p.tables.exec = Jvm.exec) (hZ : Z.Warmed39 s.vm) {own C : String} {index : Nat} {y : MethodName} {bytes : ByteArray} {maxL : Nat} {ret : Option FieldType} (hown : s.vm.findClass own = some m.cls) (w1 : (Jvm.Cond.methodLink own index y).before a0 Z = true) (w2 : (Jvm.Cond.declares y).before a0 Z = true) (w5 : (Jvm.Cond.selects C y y).before a0 Z = true) (w6 : (Jvm.Cond.instanceMethod y).before a0 Z = true) (w3 : (Jvm.Cond.initialized y.cls).before a0 Z = true) (w4 : (Jvm.Cond.code y bytes maxL ret).before a0 Z = true) (hy : y.cls ≠ "java/lang/invoke/MethodHandle" ∧ y.cls ≠ "java/lang/invoke/VarHandle") (eT : T.heap = h) {rm : Room} {a : Addr} (E : Exa Z h a C) (argsL rest : List Value) {Qc : Option Value → Heap → List Loc → Prop} (hC : Ct l Z y bytes maxL ret [] rm (.ref a :: argsL).toArray h Qc) {ps : List FieldType} {rt : Option FieldType} (pd : parseMethodDescriptor y.desc = some ⟨ps, rt⟩) (hl : argsL.length = ps.length) (hsize : Ls.size = c.maxLocals) {stk : List Value} (hstk : stk = argsL.reverse ++ .ref a :: rest) (W : Nat) (hW : (rest.map fun v => v.category).sum ≤ W) (hf : rm.frames + 1 ≤ R.frames) (hlo : W + (maxL + 11) + rm.locals ≤ R.locals) (hce : cells + rm.cells ≤ R.cells) (hsl : slots + rm.slots ≤ R.slots) (hd : Dec c.code pc (.invokevirtual index) 3 pc') (k : ∀ T' v L, Stand p l e R s m args below meth c T' (locs ++ L) (cells + rm.cells) (slots + rm.slots) → Qc v T'.heap L → Go p e below En (T'.setTop (mkF m pc' Ls (v.toList ++ rest)))) : Go p e below En (T.setTop (mkF m pc Ls stk)) := by
  obtain ⟨hd, rfl⟩ := hd
  obtain ⟨cq, kq, qa, qb, qc⟩ := isOf hZ eT E
  obtain ⟨v, _, ⟨T', L', k', n'⟩, -, X', ⟨L, hQ, l1, y1, z1⟩, q⟩ := X.virtualBack hx hown (mvT hZ w1) (mvT hZ w2) (notFace_of_selects (args := #[]) (mvT hZ w5)) (mvT hZ w5) (mvT hZ w6) hy (backOf (W := W) hC hZ w4 w3 hf hlo) qa qc (g := mkF m pc Ls stk) rfl hsize (Steps.refl _) (argsL := argsL) (rest := rest) (lenOf pd hl) hstk (by show 2 * 0 + _ ≤ _; omega) hd (fun _ _ => ⟨rfl, eT, hce, hsl⟩)
  dsimp only [Pt.U, Pt.locs, Pt.cells, Pt.slots] at X' l1 y1 z1 q hQ
  subst l1 y1 z1
  exact own_via (fun _ => q.trans) (k T' v L X' hQ)
abbrev QP (r : Value) (h0 : Heap) : Option Value → Heap → List Loc → Prop := fun v h L => v = some r ∧ h = h0 ∧ L = []
theorem go_staticP (X : Stand p l e R s m args below meth c T locs cells slots) (hx : p.tables.exec = Jvm.exec) (hZ : Z.Warmed39 s.vm) {own : String} {index : Nat} {y : MethodName} {bytes : ByteArray} {maxL : Nat} {ret : Option FieldType} (hown : s.vm.findClass own = some m.cls) (w1 : (Jvm.Cond.methodLink own index y).before a0 Z = true) (w2 : (Jvm.Cond.static y).before a0 Z = true) (w3 : (Jvm.Cond.initialized y.cls).before a0 Z = true) (w4 : (Jvm.Cond.code y bytes maxL ret).before a0 Z = true) (hy : y.cls ≠ "java/lang/invoke/MethodHandle" ∧ y.cls ≠ "java/lang/invoke/VarHandle") (eT : T.heap = h) {rm : Room} (argsL rest : List Value) {r : Value} (hC : Ct l Z y bytes maxL ret [] rm argsL.toArray h (QP r h)) {ps : List FieldType} {rt : Option FieldType} (pd : parseMethodDescriptor y.desc = some ⟨ps, rt⟩) (hl : argsL.length = ps.length) (hsize : Ls.size = c.maxLocals) {stk : List Value} (hstk : stk = argsL.reverse ++ rest) (W : Nat) (hW : (rest.map fun v => v.category).sum ≤ W) (hf : rm.frames + 1 ≤ R.frames) (hlo : W + (maxL + 11) + rm.locals ≤ R.locals) (hce : rm.cells = 0) (hsl : rm.slots = 0) (hrc : cells ≤ R.cells) (hrs : slots ≤ R.slots) (hd : Dec c.code pc (.invokestatic index) 3 pc') (k : ∀ T', Stand p l e R s m args below meth c T' locs cells slots → T'.heap = h → Go p e below En (T'.setTop (mkF m pc' Ls (r :: rest)))) : Go p e below En (T.setTop (mkF m pc Ls stk)) :=
  go_static X hx hZ hown w1 w2 w3 w4 hy eT argsL rest hC pd hl hsize hstk W hW hf hlo (by rw [hce]; exact hrc) (by rw [hsl]; exact hrs) hd (fun T' v L X' hQ => by
    obtain ⟨rfl, e', rfl⟩ := hQ
    rw [hce, hsl, List.append_nil, Nat.add_zero, Nat.add_zero] at X'
    exact k T' X' e')
theorem go_virtualP (X : Stand p l e R s m args below meth c T locs cells slots) (hx : p.tables.exec = Jvm.exec) (hZ : Z.Warmed39 s.vm) {own C : String} {index : Nat} {y : MethodName} {bytes : ByteArray} {maxL : Nat} {ret : Option FieldType} (hown : s.vm.findClass own = some m.cls) (w1 : (Jvm.Cond.methodLink own index y).before a0 Z = true) (w2 : (Jvm.Cond.declares y).before a0 Z = true) (w5 : (Jvm.Cond.selects C y y).before a0 Z = true) (w6 : (Jvm.Cond.instanceMethod y).before a0 Z = true) (w3 : (Jvm.Cond.initialized y.cls).before a0 Z = true) (w4 : (Jvm.Cond.code y bytes maxL ret).before a0 Z = true) (hy : y.cls ≠ "java/lang/invoke/MethodHandle" ∧ y.cls ≠ "java/lang/invoke/VarHandle") (eT : T.heap = h) {rm : Room} {a : Addr} (E : Exa Z h a C) (argsL rest : List Value) {r : Value} (hC : Ct l Z y bytes maxL ret [] rm (.ref a :: argsL).toArray h (QP r h)) {ps : List FieldType} {rt : Option FieldType} (pd : parseMethodDescriptor y.desc = some ⟨ps, rt⟩) (hl : argsL.length = ps.length) (hsize : Ls.size = c.maxLocals) {stk : List Value} (hstk : stk = argsL.reverse ++ .ref a :: rest) (W : Nat) (hW : (rest.map fun v => v.category).sum ≤ W) (hf : rm.frames + 1 ≤ R.frames) (hlo : W + (maxL + 11) + rm.locals ≤ R.locals) (hce : rm.cells = 0) (hsl : rm.slots = 0) (hrc : cells ≤ R.cells) (hrs : slots ≤ R.slots) (hd : Dec c.code pc (.invokevirtual index) 3 pc') (k : ∀ T', Stand p l e R s m args below meth c T' locs cells slots → T'.heap = h → Go p e below En (T'.setTop (mkF m pc' Ls (r :: rest)))) : Go p e below En (T.setTop (mkF m pc Ls stk)) :=
  go_virtual X hx hZ hown w1 w2 w5 w6 w3 w4 hy eT E argsL rest hC pd hl hsize hstk W hW hf hlo (by rw [hce]; exact hrc) (by rw [hsl]; exact hrs) hd (fun T' v L X' hQ => by
    obtain ⟨rfl, e', rfl⟩ := hQ
    rw [hce, hsl, List.append_nil, Nat.add_zero, Nat.add_zero] at X'
    exact k T' X' e')
theorem own_lsw {tb : Tables} [Ours tb] {target : State} {g : JFrame} (q : At T m c below) (hx : tb.exec = Jvm.exec) (hg : g.method = m) {dflt : Int} {ps : Array (Int × Int)} {len : Nat} {o : Int} {pc0 : Nat} (hpc : g.pc = pc0) (hd : decode c.code g.pc = .ok (.lookupswitch dflt ps, len)) {i : Int32} {rest : List Value} (hs : g.stack = .int i :: rest)
    (hsort : (ps.toList.zip (ps.toList.drop 1)).all (fun (a, next) => a.1 < next.1) = true) (hoff : lookupswitch.offset ps.toList dflt i.toInt = o) (ho : 0 ≤ (pc0 : Int) + o) (hp : ((pc0 : Int) + o).toNat = pc')
    (hr : Steps tb e below (T.setTop { g with pc := pc', stack := rest }) target) : Steps tb e below (T.setTop g) target := by
  subst hg hpc hp hoff
  jvm_step q [q.top, hx, hd, hs, ho, lookupswitch.wp_chain]
  exact ⟨by simpa using hsort, hr⟩
theorem go_lsw (X : Stand p l e R s m args below meth c T locs cells slots) (hx : p.tables.exec = Jvm.exec) {dflt : Int} {ps : Array (Int × Int)} {len : Nat} {x : Int32} {o : Int} (hd : decode c.code pc = .ok (.lookupswitch dflt ps, len)) (hsort : (ps.toList.zip (ps.toList.drop 1)).all (fun (a, next) => a.1 < next.1) = true) (hoff : lookupswitch.offset ps.toList dflt x.toInt = o) (ho : 0 ≤ (pc : Int) + o) (hp : ((pc : Int) + o).toNat = pt) (k : Go p e below En (T.setTop (mkF m pt Ls st))) : Go p e below En (T.setTop (mkF m pc Ls (.int x :: st))) := own_via (fun t => own_lsw (g := mkF m pc Ls (.int x :: st)) X.here hx rfl rfl hd rfl hsort hoff ho hp) k
theorem go_alen (X : Stand p l e R s m args below meth c T locs cells slots) (hx : p.tables.exec = Jvm.exec) (hZ : Z.Warmed39 s.vm) (eT : T.heap = h) {a : Addr} {cl : Cell} {ty : FieldType} (A : Arr Z h a cl ty) {z : Int32} (S : cl.slots.size = z.toNatClampNeg) (hz : ¬ z < 0) (hd : Dec c.code pc .arraylength 1 pc') (k : Go p e below En (T.setTop (mkF m pc' Ls (.int z :: st)))) : Go p e below En (T.setTop (mkF m pc Ls (.ref a :: st))) := by
  obtain ⟨hd, rfl⟩ := hd
  refine own_via (fun t q => X.arraylength hx (cell := cl) (by rw [eT]; exact A.1) (State.isArrayOf_alike hZ.alike A.2.1) (g := mkF m pc Ls (.ref a :: st)) rfl (rest := st) rfl hd _ ?_) k
  rw [len_of S hz]
  exact q
theorem go_iaload (X : Stand p l e R s m args below meth c T locs cells slots) (hx : p.tables.exec = Jvm.exec) (hZ : Z.Warmed39 s.vm) (eT : T.heap = h) {a : Addr} {cl : Cell} (A : Arr Z h a cl .int) {j : Int32} {w : Int32} (hj : ¬ (j < 0 ∨ cl.slots.size ≤ j.toNatClampNeg)) (hv : cl.slots[j.toNatClampNeg]? = some (.int w)) (hd : Dec c.code pc .iaload 1 pc') (k : Go p e below En (T.setTop (mkF m pc' Ls (.int w :: st)))) : Go p e below En (T.setTop (mkF m pc Ls (.int j :: .ref a :: st))) := by
  obtain ⟨hd, rfl⟩ := hd
  exact own_via (fun t q => X.iaload hx (j := j) (v := (.int w)) (by rw [eT]; exact A.1) (State.isArrayOf_alike hZ.alike A.2.1) A.2.2 hj hv (g := mkF m pc Ls (.int j :: .ref a :: st)) rfl rfl hd _ q) k
theorem go_laload (X : Stand p l e R s m args below meth c T locs cells slots) (hx : p.tables.exec = Jvm.exec) (hZ : Z.Warmed39 s.vm) (eT : T.heap = h) {a : Addr} {cl : Cell} (A : Arr Z h a cl .long) {j : Int32} {w : Int64} (hj : ¬ (j < 0 ∨ cl.slots.size ≤ j.toNatClampNeg)) (hv : cl.slots[j.toNatClampNeg]? = some (.long w)) (hd : Dec c.code pc .laload 1 pc') (k : Go p e below En (T.setTop (mkF m pc' Ls (.long w :: st)))) : Go p e below En (T.setTop (mkF m pc Ls (.int j :: .ref a :: st))) := by
  obtain ⟨hd, rfl⟩ := hd
  exact own_via (fun t q => X.laload hx (j := j) (v := (.long w)) (by rw [eT]; exact A.1) (State.isArrayOf_alike hZ.alike A.2.1) A.2.2 hj hv (g := mkF m pc Ls (.int j :: .ref a :: st)) rfl rfl hd _ q) k
theorem go_iastore (X : Stand p l e R s m args below meth c T locs cells slots) (hx : p.tables.exec = Jvm.exec) (hZ : Z.Warmed39 s.vm) (eT : T.heap = h) {a : Addr} {cl : Cell} (A : Arr Z h a cl .int) {j : Int32} {x : Int32} (hj : ¬ (j < 0 ∨ cl.slots.size ≤ j.toNatClampNeg)) (hd : Dec c.code pc .iastore 1 pc') (k : ∀ T' h', Stand p l e R s m args below meth c T' (locs ++ [⟨a, j.toNatClampNeg⟩]) cells slots → T'.heap = h' → Wr h h' a j.toNatClampNeg (.int x) → Go p e below En (T'.setTop (mkF m pc' Ls st))) : Go p e below En (T.setTop (mkF m pc Ls (.int x :: .int j :: .ref a :: st))) := by
  obtain ⟨hd, rfl⟩ := hd
  obtain ⟨T', h', X', e', W, q⟩ := stI X hx hZ eT A hj (g := mkF m pc Ls (.int x :: .int j :: .ref a :: st)) rfl rfl hd
  exact own_via q (k T' h' X' e' W)
theorem go_lastore (X : Stand p l e R s m args below meth c T locs cells slots) (hx : p.tables.exec = Jvm.exec) (hZ : Z.Warmed39 s.vm) (eT : T.heap = h) {a : Addr} {cl : Cell} (A : Arr Z h a cl .long) {j : Int32} {x : Int64} (hj : ¬ (j < 0 ∨ cl.slots.size ≤ j.toNatClampNeg)) (hd : Dec c.code pc .lastore 1 pc') (k : ∀ T' h', Stand p l e R s m args below meth c T' (locs ++ [⟨a, j.toNatClampNeg⟩]) cells slots → T'.heap = h' → Wr h h' a j.toNatClampNeg (.long x) → Go p e below En (T'.setTop (mkF m pc' Ls st))) : Go p e below En (T.setTop (mkF m pc Ls (.long x :: .int j :: .ref a :: st))) := by
  obtain ⟨hd, rfl⟩ := hd
  obtain ⟨T', h', X', e', W, q⟩ := stJ X hx hZ eT A hj (g := mkF m pc Ls (.long x :: .int j :: .ref a :: st)) rfl rfl hd
  exact own_via q (k T' h' X' e' W)
theorem go_castore (X : Stand p l e R s m args below meth c T locs cells slots) (hx : p.tables.exec = Jvm.exec) (hZ : Z.Warmed39 s.vm) (eT : T.heap = h) {a : Addr} {cl : Cell} (A : Arr Z h a cl .char) {j : Int32} {x : Int32} (hj : ¬ (j < 0 ∨ cl.slots.size ≤ j.toNatClampNeg)) (hd : Dec c.code pc .castore 1 pc') (k : ∀ T' h', Stand p l e R s m args below meth c T' (locs ++ [⟨a, j.toNatClampNeg⟩]) cells slots → T'.heap = h' → Wr h h' a j.toNatClampNeg (.int (nar .char x)) → Go p e below En (T'.setTop (mkF m pc' Ls st))) : Go p e below En (T.setTop (mkF m pc Ls (.int x :: .int j :: .ref a :: st))) := by
  obtain ⟨hd, rfl⟩ := hd
  obtain ⟨T', h', X', e', W, q⟩ := stC X hx hZ eT A hj (g := mkF m pc Ls (.int x :: .int j :: .ref a :: st)) rfl rfl hd
  exact own_via q (k T' h' X' e' W)
theorem go_bastore (X : Stand p l e R s m args below meth c T locs cells slots) (hx : p.tables.exec = Jvm.exec) (hZ : Z.Warmed39 s.vm) (eT : T.heap = h) {a : Addr} {cl : Cell} (A : Arr Z h a cl .byte) {j : Int32} {x : Int32} (hj : ¬ (j < 0 ∨ cl.slots.size ≤ j.toNatClampNeg)) (hd : Dec c.code pc .bastore 1 pc') (k : ∀ T' h', Stand p l e R s m args below meth c T' (locs ++ [⟨a, j.toNatClampNeg⟩]) cells slots → T'.heap = h' → Wr h h' a j.toNatClampNeg (.int (nar .byte x)) → Go p e below En (T'.setTop (mkF m pc' Ls st))) : Go p e below En (T.setTop (mkF m pc Ls (.int x :: .int j :: .ref a :: st))) := by
  obtain ⟨hd, rfl⟩ := hd
  obtain ⟨T', h', X', e', W, q⟩ := stB X hx hZ eT A hj (g := mkF m pc Ls (.int x :: .int j :: .ref a :: st)) rfl rfl hd
  exact own_via q (k T' h' X' e' W)
theorem go_zastore (X : Stand p l e R s m args below meth c T locs cells slots) (hx : p.tables.exec = Jvm.exec) (hZ : Z.Warmed39 s.vm) (eT : T.heap = h) {a : Addr} {cl : Cell} (A : Arr Z h a cl .boolean) {j : Int32} {x : Int32} (hj : ¬ (j < 0 ∨ cl.slots.size ≤ j.toNatClampNeg)) (hd : Dec c.code pc .bastore 1 pc') (k : ∀ T' h', Stand p l e R s m args below meth c T' (locs ++ [⟨a, j.toNatClampNeg⟩]) cells slots → T'.heap = h' → Wr h h' a j.toNatClampNeg (.int (nar .boolean x)) → Go p e below En (T'.setTop (mkF m pc' Ls st))) : Go p e below En (T.setTop (mkF m pc Ls (.int x :: .int j :: .ref a :: st))) := by
  obtain ⟨hd, rfl⟩ := hd
  obtain ⟨T', h', X', e', W, q⟩ := stZ X hx hZ eT A hj (g := mkF m pc Ls (.int x :: .int j :: .ref a :: st)) rfl rfl hd
  exact own_via q (k T' h' X' e' W)
abbrev QV (h0 : Heap) : Option Value → Heap → List Loc → Prop := fun v h L => v = none ∧ h = h0 ∧ L = []
theorem go_specialP (X : Stand p l e R s m args below meth c T locs cells slots) (hx : p.tables.exec = Jvm.exec) (hZ : Z.Warmed39 s.vm) {own : String} {index : Nat} {y : MethodName} (hn : y.name = "<init>") {bytes : ByteArray} {maxL : Nat} (hown : s.vm.findClass own = some m.cls) (w1 : (Jvm.Cond.methodLink own index y).before a0 Z = true) (w2 : (Jvm.Cond.instanceMethod y).before a0 Z = true) (w3 : (Jvm.Cond.initialized y.cls).before a0 Z = true) (w4 : (Jvm.Cond.code y bytes maxL none).before a0 Z = true) (hy : y.cls ≠ "java/lang/invoke/MethodHandle" ∧ y.cls ≠ "java/lang/invoke/VarHandle") (eT : T.heap = h) {rm : Room} {a : Addr} (argsL rest : List Value) (hC : Ct l Z y bytes maxL none [] rm (.ref a :: argsL).toArray h (QV h)) {ps : List FieldType} {rt : Option FieldType} (pd : parseMethodDescriptor y.desc = some ⟨ps, rt⟩) (hl : argsL.length = ps.length) (hsize : Ls.size = c.maxLocals) {stk : List Value} (hstk : stk = argsL.reverse ++ .ref a :: rest) (W : Nat) (hW : (rest.map fun v => v.category).sum ≤ W) (hf : rm.frames + 1 ≤ R.frames) (hlo : W + (maxL + 11) + rm.locals ≤ R.locals) (hce : rm.cells = 0) (hsl : rm.slots = 0) (hrc : cells ≤ R.cells) (hrs : slots ≤ R.slots) (hd : Dec c.code pc (.invokespecial index) 3 pc') (k : ∀ T', Stand p l e R s m args below meth c T' locs cells slots → T'.heap = h → Go p e below En (T'.setTop (mkF m pc' Ls rest))) : Go p e below En (T.setTop (mkF m pc Ls stk)) :=
  go_special X hx hZ hn hown w1 w2 w3 w4 hy eT argsL rest hC pd hl hsize hstk W hW hf hlo (by rw [hce]; exact hrc) (by rw [hsl]; exact hrs) hd (fun T' v L X' hQ => by
    obtain ⟨rfl, e', rfl⟩ := hQ
    rw [hce, hsl, List.append_nil, Nat.add_zero, Nat.add_zero] at X'
    exact k T' X' e')
theorem go_virtualUp (X : Stand p l e R s m args below meth c T locs cells slots) (hx : p.tables.exec = Jvm.exec) (hZ : Z.Warmed39 s.vm) {own C owner : String} {index : Nat} {x y : MethodName} {bytes : ByteArray} {maxL : Nat} {ret : Option FieldType} (hown : s.vm.findClass own = some m.cls) (w1 : (Jvm.Cond.methodLink own index x).before a0 Z = true) (w2 : (Jvm.Cond.sameMethod x.cls owner x.name x.desc).before a0 Z = true) (w7 : (Jvm.Cond.declares ⟨owner, x.name, x.desc⟩).before a0 Z = true) (w5 : (Jvm.Cond.selects C x y).before a0 Z = true) (w6 : (Jvm.Cond.instanceMethod y).before a0 Z = true) (w3 : (Jvm.Cond.initialized y.cls).before a0 Z = true) (w4 : (Jvm.Cond.code y bytes maxL ret).before a0 Z = true) (hy : owner ≠ "java/lang/invoke/MethodHandle" ∧ owner ≠ "java/lang/invoke/VarHandle") (eT : T.heap = h) {rm : Room} {a : Addr} (E : Exa Z h a C) (argsL rest : List Value) {Qc : Option Value → Heap → List Loc → Prop} (hC : Ct l Z y bytes maxL ret [] rm (.ref a :: argsL).toArray h Qc) {ps : List FieldType} {rt : Option FieldType} (pd : parseMethodDescriptor x.desc = some ⟨ps, rt⟩) (hl : argsL.length = ps.length) (hsize : Ls.size = c.maxLocals) {stk : List Value} (hstk : stk = argsL.reverse ++ .ref a :: rest) (W : Nat) (hW : (rest.map fun v => v.category).sum ≤ W) (hf : rm.frames + 1 ≤ R.frames) (hlo : W + (maxL + 11) + rm.locals ≤ R.locals) (hce : cells + rm.cells ≤ R.cells) (hsl : slots + rm.slots ≤ R.slots) (hd : Dec c.code pc (.invokevirtual index) 3 pc') (k : ∀ T' v L, Stand p l e R s m args below meth c T' (locs ++ L) (cells + rm.cells) (slots + rm.slots) → Qc v T'.heap L → Go p e below En (T'.setTop (mkF m pc' Ls (v.toList ++ rest)))) : Go p e below En (T.setTop (mkF m pc Ls stk)) := by
  obtain ⟨hd, rfl⟩ := hd
  obtain ⟨cq, kq, qa, qb, qc⟩ := isOf hZ eT E
  obtain ⟨v, _, ⟨T', L', k', n'⟩, -, X', ⟨L, hQ, l1, y1, z1⟩, q⟩ := X.virtualBackUp hx hown (mvT hZ w1) (mvT hZ w2) (mvT hZ w7) hy (mvT hZ w5) (mvT hZ w6) (backOf (W := W) hC hZ w4 w3 hf hlo) qa qc (g := mkF m pc Ls stk) rfl hsize (Steps.refl _) (argsL := argsL) (rest := rest) (lenOf pd hl) hstk (by show 2 * 0 + _ ≤ _; omega) hd (fun _ _ => ⟨rfl, eT, hce, hsl⟩)
  dsimp only [Pt.U, Pt.locs, Pt.cells, Pt.slots] at X' l1 y1 z1 q hQ
  subst l1 y1 z1
  exact own_via (fun _ => q.trans) (k T' v L X' hQ)
def PutOk (Z : State) (a0 : Array Value) (h : Heap) (a : Addr) (O n d : String) : Prop := ∃ C kk, Exa Z h a C ∧ (Jvm.Cond.lays C O n d).before a0 Z = true ∧ (Jvm.Cond.instantiable C kk).before a0 Z = true
theorem go_putN (X : Stand p l e R s m args below meth c T locs cells slots) (hx : p.tables.exec = Jvm.exec) (hZ : Z.Warmed39 s.vm) {own R0 O n d host : String} {index : Nat} {ty : FieldType} (hown : s.vm.findClass own = some m.cls) (w : (Jvm.Cond.fieldLink own index R0 n d).before a0 Z = true ∨ (Jvm.Cond.fieldLinkNest own index R0 n d host).before a0 Z = true) (via : Via Z R0 O n d) (eT : T.heap = h) {a : Addr} {v old : Value} (F : Fld Z h a O n d old) (P : PutOk Z a0 h a O n d) (hty : parseFieldDescriptor d = some ty) (hn : narrow ty v = v) (hf : fits ty v = true) (hd : Dec c.code pc (.putfield index) 3 pc') (k : ∀ T' h', Stand p l e R s m args below meth c T' (locs ++ [⟨a, Jvm.RoadKit.slotOf Z O n d⟩]) cells slots → T'.heap = h' → Wr h h' a (Jvm.RoadKit.slotOf Z O n d) v → Go p e below En (T'.setTop (mkF m pc' Ls st))) : Go p e below En (T.setTop (mkF m pc Ls (v :: .ref a :: st))) := by
  obtain ⟨C, kk, E, L, wi⟩ := P
  exact go_putF X hx hZ hown w via eT F E (Or.inl L) wi hty hn hf hd k
theorem own_staK {C n d : String} {v : Value} {h' : Heap} (F : Sta Z h C n d v) (K : Keep h h' []) : Sta Z h' C n d v := by
  obtain ⟨cf, i, k, f, st, cell, h1, h2, h3, h4, h5, r⟩ := F
  exact ⟨cf, i, k, f, st, cell, h1, h2, h3, h4, K.2.1 _ _ h5 (by simp), r⟩
theorem own_ldcW (X : Stand p l e R s m args below meth c T locs cells slots) (hexec : p.tables.exec = Jvm.exec) {own : String} {index : Nat} {v : Int32} (hown : s.vm.findClass own = some m.cls) (hconst : (Jvm.Cond.constant own index v).before args s = true) {g : JFrame} (hg : g.method = m) (hdg : decode c.code g.pc = .ok (.ldc_w index, 3)) :
    ∀ target, Steps p.tables e below (T.setTop { g with pc := g.pc + 3, stack := .int v :: g.stack }) target → Steps p.tables e below (T.setTop g) target := by
  obtain ⟨k, cf, bytes, hk, hcf, hcp, hb⟩ := Cond.constant_spec hown hconst
  obtain ⟨k', hk', he⟩ := X.warmed.alike.2.2 _ _ hk
  intro target hrest
  subst hg
  jvm_step X.here [hexec, hdg, ldc_w.wp_int (s := T) (f := g) X.here.top hk' (by rw [he]; exact hcf) hcp, hb]
  exact hrest
theorem go_ldcw (X : Stand p l e R s m args below meth c T locs cells slots) (hx : p.tables.exec = Jvm.exec) (hZ : Z.Warmed39 s.vm) {own : String} {index : Nat} {v : Int32} (hown : s.vm.findClass own = some m.cls) (w : (Jvm.Cond.constant own index v).before a0 Z = true) (hd : Dec c.code pc (.ldc_w index) 3 pc') (k : Go p e below En (T.setTop (mkF m pc' Ls (.int v :: st)))) : Go p e below En (T.setTop (mkF m pc Ls st)) := by
  obtain ⟨hd, rfl⟩ := hd
  exact own_via (fun t => own_ldcW X hx hown (mv hZ w) (g := mkF m pc Ls st) rfl hd t) k
theorem go_baload (X : Stand p l e R s m args below meth c T locs cells slots) (hx : p.tables.exec = Jvm.exec) (hZ : Z.Warmed39 s.vm) (eT : T.heap = h) {a : Addr} {cl : Cell} (A : Arr Z h a cl .byte) {j w : Int32} (hj : ¬ (j < 0 ∨ cl.slots.size ≤ j.toNatClampNeg)) (hv : cl.slots[j.toNatClampNeg]? = some (.int w)) (hd : Dec c.code pc .baload 1 pc') (k : Go p e below En (T.setTop (mkF m pc' Ls (.int w :: st)))) : Go p e below En (T.setTop (mkF m pc Ls (.int j :: .ref a :: st))) := by
  obtain ⟨hd, rfl⟩ := hd
  exact own_via (fun t q => X.baloadBytes hx (j := j) (v := (.int w)) (by rw [eT]; exact A.1) (State.isArrayOf_alike hZ.alike A.2.1) A.2.2 hj hv (g := mkF m pc Ls (.int j :: .ref a :: st)) rfl rfl hd _ q) k
theorem own_rep {n : Nat} {d : Value} : ∀ i, (List.replicate n d).getD i d = ([] : List Value).getD i d := fun i => by
  simp only [List.getD_eq_getElem?_getD, List.getElem?_replicate, List.getElem?_nil, Option.getD_none]
  split <;> rfl
theorem go_iastoreV (X : Stand p l e R s m args below meth c T locs cells slots) (hx : p.tables.exec = Jvm.exec) (hZ : Z.Warmed39 s.vm) (eT : T.heap = h) {a : Addr} {kc : ClassId} {z : Int32} {vs : List Value} {d : Value} (F : Arv Z h a kc .int z vs d) {j : Int32} {x : Int32} (q : ¬ j < 0 ∧ j < z) (i : Nat) (hj : j.toNatClampNeg = i) (hl : i < vs.length) (hd : Dec c.code pc .iastore 1 pc') (k : ∀ T' h', Stand p l e R s m args below meth c T' (locs ++ [⟨a, j.toNatClampNeg⟩]) cells slots → T'.heap = h' → Wr h h' a j.toNatClampNeg (.int x) → Arv Z h' a kc .int z (vs.set i (.int x)) d → Go p e below En (T'.setTop (mkF m pc' Ls st))) : Go p e below En (T.setTop (mkF m pc Ls (.int x :: .int j :: .ref a :: st))) := by
  obtain ⟨c1, A, q1, S, q3, H, G⟩ := F
  exact go_iastore X hx hZ eT A (inb_of S q) hd (fun T' h' X' e' W => k T' h' X' e' W (Arv.set A q1 S q3 H G rfl W i hj hl))
theorem go_lastoreV (X : Stand p l e R s m args below meth c T locs cells slots) (hx : p.tables.exec = Jvm.exec) (hZ : Z.Warmed39 s.vm) (eT : T.heap = h) {a : Addr} {kc : ClassId} {z : Int32} {vs : List Value} {d : Value} (F : Arv Z h a kc .long z vs d) {j : Int32} {x : Int64} (q : ¬ j < 0 ∧ j < z) (i : Nat) (hj : j.toNatClampNeg = i) (hl : i < vs.length) (hd : Dec c.code pc .lastore 1 pc') (k : ∀ T' h', Stand p l e R s m args below meth c T' (locs ++ [⟨a, j.toNatClampNeg⟩]) cells slots → T'.heap = h' → Wr h h' a j.toNatClampNeg (.long x) → Arv Z h' a kc .long z (vs.set i (.long x)) d → Go p e below En (T'.setTop (mkF m pc' Ls st))) : Go p e below En (T.setTop (mkF m pc Ls (.long x :: .int j :: .ref a :: st))) := by
  obtain ⟨c1, A, q1, S, q3, H, G⟩ := F
  exact go_lastore X hx hZ eT A (inb_of S q) hd (fun T' h' X' e' W => k T' h' X' e' W (Arv.set A q1 S q3 H G rfl W i hj hl))
theorem go_bastoreV (X : Stand p l e R s m args below meth c T locs cells slots) (hx : p.tables.exec = Jvm.exec) (hZ : Z.Warmed39 s.vm) (eT : T.heap = h) {a : Addr} {kc : ClassId} {z : Int32} {vs : List Value} {d : Value} (F : Arv Z h a kc .byte z vs d) {j : Int32} {x : Int32} (q : ¬ j < 0 ∧ j < z) (i : Nat) (hj : j.toNatClampNeg = i) (hl : i < vs.length) (hd : Dec c.code pc .bastore 1 pc') (k : ∀ T' h', Stand p l e R s m args below meth c T' (locs ++ [⟨a, j.toNatClampNeg⟩]) cells slots → T'.heap = h' → Wr h h' a j.toNatClampNeg (.int (nar .byte x)) → Arv Z h' a kc .byte z (vs.set i (.int (nar .byte x))) d → Go p e below En (T'.setTop (mkF m pc' Ls st))) : Go p e below En (T.setTop (mkF m pc Ls (.int x :: .int j :: .ref a :: st))) := by
  obtain ⟨c1, A, q1, S, q3, H, G⟩ := F
  exact go_bastore X hx hZ eT A (inb_of S q) hd (fun T' h' X' e' W => k T' h' X' e' W (Arv.set A q1 S q3 H G (fits_nar_byte _) W i hj hl))
theorem go_castoreV (X : Stand p l e R s m args below meth c T locs cells slots) (hx : p.tables.exec = Jvm.exec) (hZ : Z.Warmed39 s.vm) (eT : T.heap = h) {a : Addr} {kc : ClassId} {z : Int32} {vs : List Value} {d : Value} (F : Arv Z h a kc .char z vs d) {j : Int32} {x : Int32} (q : ¬ j < 0 ∧ j < z) (i : Nat) (hj : j.toNatClampNeg = i) (hl : i < vs.length) (hd : Dec c.code pc .castore 1 pc') (k : ∀ T' h', Stand p l e R s m args below meth c T' (locs ++ [⟨a, j.toNatClampNeg⟩]) cells slots → T'.heap = h' → Wr h h' a j.toNatClampNeg (.int (nar .char x)) → Arv Z h' a kc .char z (vs.set i (.int (nar .char x))) d → Go p e below En (T'.setTop (mkF m pc' Ls st))) : Go p e below En (T.setTop (mkF m pc Ls (.int x :: .int j :: .ref a :: st))) := by
  obtain ⟨c1, A, q1, S, q3, H, G⟩ := F
  exact go_castore X hx hZ eT A (inb_of S q) hd (fun T' h' X' e' W => k T' h' X' e' W (Arv.set A q1 S q3 H G (fits_nar_char _) W i hj hl))
theorem go_aastoreV (X : Stand p l e R s m args below meth c T locs cells slots) (hx : p.tables.exec = Jvm.exec) (hZ : Z.Warmed39 s.vm) (eT : T.heap = h) {a y : Addr} {C : String} {kc : ClassId} {z : Int32} {vs : List Value} {d : Value} (F : Arv Z h a kc (.object C) z vs d) (O : Ovr Z kc C) (I : Ins Z h y C true) {j : Int32} (q : ¬ j < 0 ∧ j < z) (i : Nat) (hj : j.toNatClampNeg = i) (hl : i < vs.length) (hd : Dec c.code pc .aastore 1 pc') (k : ∀ T' h', Stand p l e R s m args below meth c T' (locs ++ [⟨a, j.toNatClampNeg⟩]) cells slots → T'.heap = h' → Wr h h' a j.toNatClampNeg (.ref y) → Arv Z h' a kc (.object C) z (vs.set i (.ref y)) d → Go p e below En (T'.setTop (mkF m pc' Ls st))) : Go p e below En (T.setTop (mkF m pc Ls (.ref y :: .int j :: .ref a :: st))) := by
  obtain ⟨hd, rfl⟩ := hd
  obtain ⟨c1, A, q1, S, q3, H, G⟩ := F
  obtain ⟨T', h', X', e', W, r⟩ := stR X hx hZ eT A (inb_of S q) rfl (Sto.of A (by rw [q1]; exact O) I) (g := mkF m pc Ls (.ref y :: .int j :: .ref a :: st)) rfl rfl hd
  exact own_via r (k T' h' X' e' W (Arv.set A q1 S q3 H G rfl W i hj hl))
theorem go_newR (X : Stand p l e R s m args below meth c T locs cells slots) (hx : p.tables.exec = Jvm.exec) (hZ : Z.Warmed39 s.vm) {own C : String} {index : Nat} (hown : s.vm.findClass own = some m.cls) (w1 : (Jvm.Cond.classLink own index C).before a0 Z = true) (w2 : (Jvm.Cond.arrayOver (.object C)).before a0 Z = true) (eT : T.heap = h) (hd : Dec c.code pc (.anewarray index) 3 pc') {n : Int32} (hn : ¬ n < 0) (cap : Nat) (hcap : n.toNatClampNeg ≤ cap) (hb : cap * 8 ≤ 536870912) (hc : cells + 1 ≤ R.cells) (hl : slots + cap ≤ R.slots) (k : ∀ T' h' cA (a : Addr), a = h.size → Stand p l e R s m args below meth c T' locs (cells + 1) (slots + cap) → T'.heap = h' → Ext h h' → Arr Z h' a (newA cA (.object C) n) (.object C) → Ovr Z cA C → Go p e below En (T'.setTop (mkF m pc' Ls (.ref a :: st)))) : Go p e below En (T.setTop (mkF m pc Ls (.int n :: st))) := by
  obtain ⟨hd, rfl⟩ := hd
  obtain ⟨T', h', cA, X', e', E, A, O, q⟩ := newR X hx hZ hown w1 w2 eT (g := mkF m pc Ls (.int n :: st)) rfl hd rfl hn hcap hb hc hl
  exact own_via q (k T' h' cA _ rfl X' e' E A O)
theorem go_ialoadV (X : Stand p l e R s m args below meth c T locs cells slots) (hx : p.tables.exec = Jvm.exec) (hZ : Z.Warmed39 s.vm) (eT : T.heap = h) {a : Addr} {kc : ClassId} {z : Int32} {vs : List Value} {d : Value} (F : Arv Z h a kc .int z vs d) {j : Int32} {w : Int32} (q : ¬ j < 0 ∧ j < z) (hv : vs.getD j.toNatClampNeg d = .int w) (hd : Dec c.code pc .iaload 1 pc') (k : Go p e below En (T.setTop (mkF m pc' Ls (.int w :: st)))) : Go p e below En (T.setTop (mkF m pc Ls (.int j :: .ref a :: st))) := by
  obtain ⟨c1, A, q1, S, q3, H, G⟩ := F
  have hin := inb_of S q
  exact go_iaload X hx hZ eT A hin (by rw [H _ (Nat.lt_of_not_le fun r => hin (Or.inr r)), hv]) hd k
theorem go_laloadV (X : Stand p l e R s m args below meth c T locs cells slots) (hx : p.tables.exec = Jvm.exec) (hZ : Z.Warmed39 s.vm) (eT : T.heap = h) {a : Addr} {kc : ClassId} {z : Int32} {vs : List Value} {d : Value} (F : Arv Z h a kc .long z vs d) {j : Int32} {w : Int64} (q : ¬ j < 0 ∧ j < z) (hv : vs.getD j.toNatClampNeg d = .long w) (hd : Dec c.code pc .laload 1 pc') (k : Go p e below En (T.setTop (mkF m pc' Ls (.long w :: st)))) : Go p e below En (T.setTop (mkF m pc Ls (.int j :: .ref a :: st))) := by
  obtain ⟨c1, A, q1, S, q3, H, G⟩ := F
  have hin := inb_of S q
  exact go_laload X hx hZ eT A hin (by rw [H _ (Nat.lt_of_not_le fun r => hin (Or.inr r)), hv]) hd k
theorem go_baloadV (X : Stand p l e R s m args below meth c T locs cells slots) (hx : p.tables.exec = Jvm.exec) (hZ : Z.Warmed39 s.vm) (eT : T.heap = h) {a : Addr} {kc : ClassId} {z : Int32} {vs : List Value} {d : Value} (F : Arv Z h a kc .byte z vs d) {j : Int32} {w : Int32} (q : ¬ j < 0 ∧ j < z) (hv : vs.getD j.toNatClampNeg d = .int w) (hd : Dec c.code pc .baload 1 pc') (k : Go p e below En (T.setTop (mkF m pc' Ls (.int w :: st)))) : Go p e below En (T.setTop (mkF m pc Ls (.int j :: .ref a :: st))) := by
  obtain ⟨c1, A, q1, S, q3, H, G⟩ := F
  have hin := inb_of S q
  exact go_baload X hx hZ eT A hin (by rw [H _ (Nat.lt_of_not_le fun r => hin (Or.inr r)), hv]) hd k
theorem go_aaloadV (X : Stand p l e R s m args below meth c T locs cells slots) (hx : p.tables.exec = Jvm.exec) (hZ : Z.Warmed39 s.vm) (eT : T.heap = h) {a : Addr} {kc : ClassId} {ty : FieldType} (hty : ty.isReference = true) {z : Int32} {vs : List Value} {d : Value} (F : Arv Z h a kc ty z vs d) {j : Int32} {v : Value} (q : ¬ j < 0 ∧ j < z) (hv : vs.getD j.toNatClampNeg d = v) (hd : Dec c.code pc .aaload 1 pc') (k : Go p e below En (T.setTop (mkF m pc' Ls (v :: st)))) : Go p e below En (T.setTop (mkF m pc Ls (.int j :: .ref a :: st))) := by
  obtain ⟨hd, rfl⟩ := hd
  obtain ⟨c1, A, q1, S, q3, H, G⟩ := F
  have hin := inb_of S q
  exact own_via (fun t r => X.aaload hx (j := j) (v := v) (by rw [eT]; exact A.1) (State.isArrayOf_alike hZ.alike A.2.1) hty A.2.2 hin (by rw [H _ (Nat.lt_of_not_le fun r => hin (Or.inr r)), hv]) (g := mkF m pc Ls (.int j :: .ref a :: st)) rfl rfl hd _ r) k
theorem go_retNW {vm0 : Vm} (X : Stand p l e R (s.setVm vm0) m args below meth c T locs cells slots) (hx : p.tables.exec = Jvm.exec) {k0 : Nat} (hS : s.Since vm0 k0) (hk0 : k0 ≤ T.heap.size) {z : Int32} {t : FieldType} (hret : meth.sig.returnType = some t) (ht : t = .boolean ∨ t = .byte ∨ t = .char ∨ t = .short) (hd : Dec c.code pc .ireturn 1 pc') (hk : meth.locks = false) (hc : cells ≤ rc) (hs : slots ≤ rs) (hQ : Q (some (.int (nar t z))) T.heap locs) : Go p e below (EndW s Q rc rs) (T.setTop (mkF m pc Ls (.int z :: st))) := by
  obtain ⟨fs, hr, hrun, hended, hE⟩ := X.leaveW hS hk0 (v := (some (.int (nar t z)))) (fun q => by first | rfl | (rw [hret] at q; cases q)) hk
  exact ⟨_, _, retN X hx hret ht hd.1 hr, hrun, hended, _, _, rfl, hQ, hE.1, hE.2.1, hE.2.2.1, hE.2.2.2.mono hc hs⟩
theorem go_retAW {vm0 : Vm} (X : Stand p l e R (s.setVm vm0) m args below meth c T locs cells slots) (hx : p.tables.exec = Jvm.exec) {k0 : Nat} (hS : s.Since vm0 k0) (hk0 : k0 ≤ T.heap.size) {v : Value} {t : FieldType} (hret : meth.sig.returnType = some t) (ht : t.isReference = true) (hv : v.isRef = true) (hd : Dec c.code pc .areturn 1 pc') (hk : meth.locks = false) (hc : cells ≤ rc) (hs : slots ≤ rs) (hQ : Q (some v) T.heap locs) : Go p e below (EndW s Q rc rs) (T.setTop (mkF m pc Ls (v :: st))) := by
  obtain ⟨fs, hr, hrun, hended, hE⟩ := X.leaveW hS hk0 (v := (some v)) (fun q => by first | rfl | (rw [hret] at q; cases q)) hk
  exact ⟨_, _, retOut X hx hret (by cases t <;> first | rfl | cases ht) (Or.inr (Or.inr (Or.inr (Or.inr ⟨rfl, ht, hv⟩)))) hd.1 hr, hrun, hended, _, _, rfl, hQ, hE.1, hE.2.1, hE.2.2.1, hE.2.2.2.mono hc hs⟩
theorem go_retVW {vm0 : Vm} (X : Stand p l e R (s.setVm vm0) m args below meth c T locs cells slots) (hx : p.tables.exec = Jvm.exec) {k0 : Nat} (hS : s.Since vm0 k0) (hk0 : k0 ≤ T.heap.size)  (hret : meth.sig.returnType = none) (hd : Dec c.code pc .return_ 1 pc') (hk : meth.locks = false) (hc : cells ≤ rc) (hs : slots ≤ rs) (hQ : Q none T.heap locs) : Go p e below (EndW s Q rc rs) (T.setTop (mkF m pc Ls [])) := by
  obtain ⟨fs, hr, hrun, hended, hE⟩ := X.leaveW hS hk0 (v := none) (fun q => by first | rfl | (rw [hret] at q; cases q)) hk
  exact ⟨_, _, X.returnOut hx hret hd.1 hr, hrun, hended, _, _, rfl, hQ, hE.1, hE.2.1, hE.2.2.1, hE.2.2.2.mono hc hs⟩
def CtW (l : Launch) (Z : State) (y : MethodName) (bytes : ByteArray) (maxL : Nat) (ret : Option FieldType) (ws : List Jvm.Cond) (rm : Room) (as' : Array Value) (h0 : Heap) (Q : Option Value → Heap → List Loc → Prop) : Prop := MetFree l y (head1 (Jvm.Cond.code y bytes maxL ret :: ws) rm) (fun a U => a = as' ∧ Z.Warmed39 U.vm ∧ U.heap = h0) (fun _ _ _ _ _ => True) (fun _ U o U' => ∃ v L, o = .returned v ∧ Q v U'.heap L ∧ ReturnedEndW U o U' L rm.cells rm.slots)
theorem CtW.of {y : MethodName} {bytes : ByteArray} {maxL : Nat} {ret : Option FieldType} {ws : List Jvm.Cond} {rm : Room} {as' : Array Value} {h0 : Heap} (pn : plainFor y = true) (F0 : Array Slot) (ef : ∀ m, entryFrame m as' maxL = mkF m 0 F0 []) (body : ∀ (p : Program) (e : Env) (s : State) (m : MethodId) (below : List Frame) (meth : Method) (c : Code) (T : State), p.tables.exec = Jvm.exec → c.code = bytes → c.maxLocals = maxL → Z.Warmed39 s.vm → s.vm.findClass y.cls = some m.cls → meth.name = y.name → meth.sig.returnType = ret → meth.locks = false → T.heap = h0 → Stand p l e rm (s.setVm s.vm) m as' below meth c T [] 0 0 → s.Since s.vm 0 → Go p e below (EndW s Q rm.cells rm.slots) (T.setTop (mkF m 0 F0 []))) : CtW l Z y bytes maxL ret ws rm as' h0 Q := by
  refine MetFree.of_bodySF pn hisR ?_
  intro p e s m args below meth c s₁ Bd hml0 hP hK
  obtain ⟨rfl, hZ, hh⟩ := hP
  have G := body p e s m below meth c s₁ Bd.exec Bd.bytes hml0 hZ (findClass_of_methodNamed Bd.named) (name_of_methodNamed Bd.named Bd.method).1 Bd.returns Bd.notSynchronized (by rw [← hh, Bd.state]; rfl) (Stand.of_body Bd) ((State.WarmedH.refl s).since 0)
  rw [← ef m] at G
  exact G
theorem go_specialW {vm0 : Vm} (X : Stand p l e R (s.setVm vm0) m args below meth c T locs cells slots) (hx : p.tables.exec = Jvm.exec) {k0 : Nat} (hS : s.Since vm0 k0) (hk0 : k0 ≤ T.heap.size) (hZ : Z.Warmed39 vm0) {own : String} {index : Nat} {y : MethodName} (hn : y.name = "<init>") {bytes : ByteArray} {maxL : Nat} (hown : vm0.findClass own = some m.cls) (w1 : (Jvm.Cond.methodLink own index y).before a0 Z = true) (w2 : (Jvm.Cond.instanceMethod y).before a0 Z = true) (w3 : (Jvm.Cond.initialized y.cls).before a0 Z = true) (w4 : (Jvm.Cond.code y bytes maxL none).before a0 Z = true) (hy : y.cls ≠ "java/lang/invoke/MethodHandle" ∧ y.cls ≠ "java/lang/invoke/VarHandle") (eT : T.heap = h) {rm : Room} {a : Addr} (argsL rest : List Value) {Qc : Option Value → Heap → List Loc → Prop} (hC : CtW l Z y bytes maxL none [] rm (.ref a :: argsL).toArray h Qc) {ps : List FieldType} {rt : Option FieldType} (pd : parseMethodDescriptor y.desc = some ⟨ps, rt⟩) (hl : argsL.length = ps.length) (hsize : Ls.size = c.maxLocals) {stk : List Value} (hstk : stk = argsL.reverse ++ .ref a :: rest) (W : Nat) (hW : (rest.map fun v => v.category).sum ≤ W) (hf : rm.frames + 1 ≤ R.frames) (hlo : W + (maxL + 11) + rm.locals ≤ R.locals) (hce : cells + rm.cells ≤ R.cells) (hsl : slots + rm.slots ≤ R.slots) (hd : Dec c.code pc (.invokespecial index) 3 pc') (k : ∀ T' v L, Stand p l e R (s.setVm T'.vm) m args below meth c T' (locs ++ L) (cells + rm.cells) (slots + rm.slots) → s.Since T'.vm T'.heap.size → Z.Warmed39 T'.vm → T'.vm.findClass own = some m.cls → Qc v T'.heap L → Go p e below En (T'.setTop (mkF m pc' Ls (v.toList ++ rest)))) : Go p e below En (T.setTop (mkF m pc Ls stk)) := by
  obtain ⟨hd, rfl⟩ := hd
  obtain ⟨v, _, ⟨T', L', k', n'⟩, -, X', hS', hgr, ⟨L, hQ, l1, y1, z1⟩, q⟩ := X.specialBackS hx hn hown (mvT (s := s.setVm vm0) hZ w1) (mvT (s := s.setVm vm0) hZ w2) (mvT (s := s.setVm vm0) hZ w4) hy (backOfS (W := W) (s := s.setVm vm0) hC hZ w4 w3 hf hlo) (g := mkF m pc Ls stk) rfl hsize (Steps.refl _) (a := a) (argsL := argsL) (rest := rest) (lenOf pd hl) hstk (by show 2 * 0 + _ ≤ _; omega) hd (fun _ _ => ⟨rfl, eT, hce, hsl⟩)
  dsimp only [Pt.U, Pt.locs, Pt.cells, Pt.slots] at X' l1 y1 z1 q hQ hS' hgr
  subst l1 y1 z1
  exact own_via (fun _ => q.trans) (k T' v L X' (foldS hS hk0 hS' hgr) (State.Warmed39.trans (t := s.setVm vm0) hZ hS'.1) (by rw [hS'.1.alike.findClass]; exact hown) hQ)
theorem go_ldcS {vm0 : Vm} (X : Stand p l e R (s.setVm vm0) m args below meth c T locs cells slots) (hx : p.tables.exec = Jvm.exec) {k0 : Nat} (hS : s.Since vm0 k0) (hk0 : k0 ≤ T.heap.size) (hZ : Z.Warmed39 vm0) {own text : String} {index : Nat} (hown : vm0.findClass own = some m.cls) (w : (Jvm.Cond.stringLink own index text).before a0 Z = true) (wS : ∀ a ∈ Bundle.stringAtoms, a.before a0 Z = true) (eT : T.heap = h) (n : Nat) (hn : 4 * text.toList.length ≤ n) (hbig : n ≤ 536870912) (hc : cells + 2 ≤ R.cells) (hl : slots + (n + 4) ≤ R.slots) (hd : Dec c.code pc (.ldc index) 2 pc') (k : ∀ T' h' a k1, Stand p l e R (s.setVm T'.vm) m args below meth c T' locs (cells + 2) (slots + (n + 4)) → T'.heap = h' → Ext h h' → s.Since T'.vm k1 → k1 ≤ T'.heap.size → Z.Warmed39 T'.vm → T'.vm.findClass own = some m.cls → Go p e below En (T'.setTop (mkF m pc' Ls (.ref a :: st)))) : Go p e below En (T.setTop (mkF m pc Ls st)) := by
  obtain ⟨hd, rfl⟩ := hd
  obtain ⟨a, T', h', k1, X', e', E, hS', hk', hZ', ho', q⟩ := ldcS X hx hZ hown w wS eT hS (by rw [← eT]; exact hk0) (g := mkF m pc Ls st) rfl hd hn hbig hc hl
  exact own_via q (k T' h' a k1 X' e' E hS' (by rw [e']; exact hk') hZ' ho')
theorem go_caload (X : Stand p l e R s m args below meth c T locs cells slots) (hx : p.tables.exec = Jvm.exec) (hZ : Z.Warmed39 s.vm) (eT : T.heap = h) {a : Addr} {cl : Cell} (A : Arr Z h a cl .char) {j w : Int32} (hj : ¬ (j < 0 ∨ cl.slots.size ≤ j.toNatClampNeg)) (hv : cl.slots[j.toNatClampNeg]? = some (.int w)) (hd : Dec c.code pc .caload 1 pc') (k : Go p e below En (T.setTop (mkF m pc' Ls (.int w :: st)))) : Go p e below En (T.setTop (mkF m pc Ls (.int j :: .ref a :: st))) := by
  obtain ⟨hd, rfl⟩ := hd
  exact own_via (fun t q => X.caload hx (j := j) (v := (.int w)) (by rw [eT]; exact A.1) (State.isArrayOf_alike hZ.alike A.2.1) A.2.2 hj hv (g := mkF m pc Ls (.int j :: .ref a :: st)) rfl rfl hd _ q) k
theorem go_caloadV (X : Stand p l e R s m args below meth c T locs cells slots) (hx : p.tables.exec = Jvm.exec) (hZ : Z.Warmed39 s.vm) (eT : T.heap = h) {a : Addr} {kc : ClassId} {z : Int32} {vs : List Value} {d : Value} (F : Arv Z h a kc .char z vs d) {j : Int32} {w : Int32} (q : ¬ j < 0 ∧ j < z) (hv : vs.getD j.toNatClampNeg d = .int w) (hd : Dec c.code pc .caload 1 pc') (k : Go p e below En (T.setTop (mkF m pc' Ls (.int w :: st)))) : Go p e below En (T.setTop (mkF m pc Ls (.int j :: .ref a :: st))) := by
  obtain ⟨c1, A, q1, S, q3, H, G⟩ := F
  have hin := inb_of S q
  exact go_caload X hx hZ eT A hin (by rw [H _ (Nat.lt_of_not_le fun r => hin (Or.inr r)), hv]) hd k
theorem own_narC {w : Int32} (h : fits .char (.int w) = true) : nar .char w = w := by
  have h1 := c_i2c w
  change (decide ((0 : Int32) ≤ w) && decide (w ≤ (65535 : Int32))) = true at h
  simp only [Bool.and_eq_true, decide_eq_true_eq] at h
  rw [Int32.le_iff_toInt_le, Int32.le_iff_toInt_le, show (0 : Int32).toInt = 0 from rfl, show (65535 : Int32).toInt = 65535 from rfl] at h
  have h3 : (nar .char w).toInt = w.toInt := by
    show w.toUInt32.toUInt16.toUInt32.toInt32.toInt = w.toInt
    omega
  exact Int32.toInt_inj.mp h3
def CtH (l : Launch) (Z : State) (EL : List (String × Nat)) (y : MethodName) (bytes : ByteArray) (maxL : Nat) (ret : Option FieldType) (ws : List Jvm.Cond) (rm : Room) (as' : Array Value) (h0 : Heap) (Q : Option Value → Heap → List Loc → Prop) : Prop := MetFree l y (head1 (Jvm.Cond.code y bytes maxL ret :: ws) rm) (fun a U => a = as' ∧ Z.Warmed39 U.vm ∧ U.heap = h0 ∧ CHv Z EL U.vm h0) (fun _ _ _ _ _ => True) (fun _ U o U' => ∃ v L, o = .returned v ∧ Q v U'.heap L ∧ ReturnedEndW U o U' L rm.cells rm.slots)
theorem CtH.of {EL : List (String × Nat)} {y : MethodName} {bytes : ByteArray} {maxL : Nat} {ret : Option FieldType} {ws : List Jvm.Cond} {rm : Room} {as' : Array Value} {h0 : Heap} (pn : plainFor y = true) (F0 : Array Slot) (ef : ∀ m, entryFrame m as' maxL = mkF m 0 F0 []) (body : ∀ (p : Program) (e : Env) (s : State) (m : MethodId) (below : List Frame) (meth : Method) (c : Code) (T : State), p.tables.exec = Jvm.exec → c.code = bytes → c.maxLocals = maxL → Z.Warmed39 s.vm → s.vm.findClass y.cls = some m.cls → meth.name = y.name → meth.sig.returnType = ret → meth.locks = false → T.heap = h0 → Stand p l e rm (s.setVm s.vm) m as' below meth c T [] 0 0 → s.Since s.vm 0 → CHv Z EL s.vm h0 → Go p e below (EndW s Q rm.cells rm.slots) (T.setTop (mkF m 0 F0 []))) : CtH l Z EL y bytes maxL ret ws rm as' h0 Q := by
  refine MetFree.of_bodySF pn hisR ?_
  intro p e s m args below meth c s₁ Bd hml0 hP hK
  obtain ⟨rfl, hZ, hh, hH⟩ := hP
  have G := body p e s m below meth c s₁ Bd.exec Bd.bytes hml0 hZ (findClass_of_methodNamed Bd.named) (name_of_methodNamed Bd.named Bd.method).1 Bd.returns Bd.notSynchronized (by rw [← hh, Bd.state]; rfl) (Stand.of_body Bd) ((State.WarmedH.refl s).since 0) hH
  rw [← ef m] at G
  exact G
theorem own_backH {EL : List (String × Nat)} {vm0 : Vm} {y : MethodName} {bytes : ByteArray} {maxL : Nat} {ret : Option FieldType} {rm : Room} {len W : Nat} {as' : Array Value} (hM : CtH l Z EL y bytes maxL ret [] rm as' h Q) (hZ : Z.Warmed39 vm0) (wc : (Jvm.Cond.code y bytes maxL ret).before a0 Z = true) (wz : (Jvm.Cond.initialized y.cls).before a0 Z = true) (hf : rm.frames + 1 ≤ R.frames) (hl : W + (maxL + 11) + rm.locals ≤ R.locals) (hEL : EW Z a0 EL) (H : CHv Z EL vm0 h) : BackS l R p e below (s.setVm vm0) args y len W (fun A a => a = as' ∧ A.U.heap = h ∧ A.cells + rm.cells ≤ R.cells ∧ A.slots + rm.slots ≤ R.slots) (fun A _ v B => ∃ L, Q v B.U.heap L ∧ B.locs = A.locs ++ L ∧ B.cells = A.cells + rm.cells ∧ B.slots = A.slots + rm.slots) := by
  refine BackS.of_freeW (bytes := bytes) (maxL := maxL) (ret := ret) (E := fun _ _ o t L k n => k = rm.cells ∧ n = rm.slots ∧ ∃ v, o = .returned v ∧ Q v t.heap L) hM hf hl ?_ ?_ (fun _ _ _ _ _ _ _ _ _ => trivial) (fun _ _ _ _ ⟨v, L, h1, h2, h3⟩ => ⟨L, _, _, h3, rfl, rfl, v, h1, h2⟩) ?_
  · intro m meth c A a Y hp
    have hU : Z.Warmed39 A.U.vm := wtrans (s := s.setVm vm0) hZ Y.warmed
    refine ⟨?_, mv hU wc, mv hU wz, hp.2.2.1, hp.2.2.2⟩
    show (Jvm.Cond.and _ .tt).before a A.U = true
    rw [Cond.before_and, mv hU wc]; rfl
  · intro m meth c A a g mk Y hp
    exact ⟨hp.1, wtrans (s := s.setVm vm0) hZ Y.warmed, hp.2.1, (CHv.at Y hZ hEL H).1⟩
  · intro m meth c A a g mk v t L k n Y hp _ _ hE
    obtain ⟨e1, e2, v', e3, e4⟩ := hE
    cases e3; subst e1 e2
    exact ⟨L, e4, rfl, rfl, rfl⟩
theorem go_specialH {vm0 : Vm} (X : Stand p l e R (s.setVm vm0) m args below meth c T locs cells slots) (hx : p.tables.exec = Jvm.exec) {k0 : Nat} (hS : s.Since vm0 k0) (hk0 : k0 ≤ T.heap.size) (hZ : Z.Warmed39 vm0) {own : String} {index : Nat} {y : MethodName} {EL : List (String × Nat)} (hn : y.name = "<init>") {bytes : ByteArray} {maxL : Nat} (hown : vm0.findClass own = some m.cls) (w1 : (Jvm.Cond.methodLink own index y).before a0 Z = true) (w2 : (Jvm.Cond.instanceMethod y).before a0 Z = true) (w3 : (Jvm.Cond.initialized y.cls).before a0 Z = true) (w4 : (Jvm.Cond.code y bytes maxL none).before a0 Z = true) (hy : y.cls ≠ "java/lang/invoke/MethodHandle" ∧ y.cls ≠ "java/lang/invoke/VarHandle") (hEL : EW Z a0 EL) (H : CHv Z EL vm0 h) (eT : T.heap = h) {rm : Room} {a : Addr} (argsL rest : List Value) {Qc : Option Value → Heap → List Loc → Prop} (hC : CtH l Z EL y bytes maxL none [] rm (.ref a :: argsL).toArray h Qc) {ps : List FieldType} {rt : Option FieldType} (pd : parseMethodDescriptor y.desc = some ⟨ps, rt⟩) (hl : argsL.length = ps.length) (hsize : Ls.size = c.maxLocals) {stk : List Value} (hstk : stk = argsL.reverse ++ .ref a :: rest) (W : Nat) (hW : (rest.map fun v => v.category).sum ≤ W) (hf : rm.frames + 1 ≤ R.frames) (hlo : W + (maxL + 11) + rm.locals ≤ R.locals) (hce : cells + rm.cells ≤ R.cells) (hsl : slots + rm.slots ≤ R.slots) (hd : Dec c.code pc (.invokespecial index) 3 pc') (k : ∀ T' v L, Stand p l e R (s.setVm T'.vm) m args below meth c T' (locs ++ L) (cells + rm.cells) (slots + rm.slots) → s.Since T'.vm T'.heap.size → Z.Warmed39 T'.vm → T'.vm.findClass own = some m.cls → Qc v T'.heap L → Go p e below En (T'.setTop (mkF m pc' Ls (v.toList ++ rest)))) : Go p e below En (T.setTop (mkF m pc Ls stk)) := by
  obtain ⟨hd, rfl⟩ := hd
  obtain ⟨v, _, ⟨T', L', k', n'⟩, -, X', hS', hgr, ⟨L, hQ, l1, y1, z1⟩, q⟩ := X.specialBackS hx hn hown (mvT (s := s.setVm vm0) hZ w1) (mvT (s := s.setVm vm0) hZ w2) (mvT (s := s.setVm vm0) hZ w4) hy (own_backH (W := W) hC hZ w4 w3 hf hlo hEL H) (g := mkF m pc Ls stk) rfl hsize (Steps.refl _) (a := a) (argsL := argsL) (rest := rest) (lenOf pd hl) hstk (by show 2 * 0 + _ ≤ _; omega) hd (fun _ _ => ⟨rfl, eT, hce, hsl⟩)
  dsimp only [Pt.U, Pt.locs, Pt.cells, Pt.slots] at X' l1 y1 z1 q hQ hS' hgr
  subst l1 y1 z1
  exact own_via (fun _ => q.trans) (k T' v L X' (foldS hS hk0 hS' hgr) (State.Warmed39.trans (t := s.setVm vm0) hZ hS'.1) (by rw [hS'.1.alike.findClass]; exact hown) hQ)
theorem go_ldcH {vm0 : Vm} (X : Stand p l e R (s.setVm vm0) m args below meth c T locs cells slots) (hx : p.tables.exec = Jvm.exec) {k0 : Nat} (hS : s.Since vm0 k0) (hk0 : k0 ≤ T.heap.size) (hZ : Z.Warmed39 vm0) {EL : List (String × Nat)} {own : String} {index : Nat} (hown : vm0.findClass own = some m.cls) (w : (Jvm.Cond.stringLink own index "").before a0 Z = true) (wS : ∀ a ∈ Bundle.stringAtoms, a.before a0 Z = true) (hEL : EW Z a0 EL) (hmem : (own, index) ∈ EL) (H : CHv Z EL vm0 h) (eT : T.heap = h) (hc : cells + 2 ≤ R.cells) (hl : slots + 4 ≤ R.slots) (hd : Dec c.code pc (.ldc index) 2 pc') (k : ∀ T' h' a b k1, Stand p l e R (s.setVm T'.vm) m args below meth c T' locs (cells + 2) (slots + 4) → T'.heap = h' → Ext h h' → s.Since T'.vm k1 → k1 ≤ h'.size → Z.Warmed39 T'.vm → T'.vm.findClass own = some m.cls → Fld Z h' a "java/lang/String" "coder" "B" (.int 0) → Fld Z h' a "java/lang/String" "value" "[B" (.ref b) → Jvm.RoadKit.Lit (s.setVm T'.vm) own index a → Go p e below En (T'.setTop (mkF m pc' Ls (.ref a :: st)))) : Go p e below En (T.setTop (mkF m pc Ls st)) := by
  obtain ⟨hd, rfl⟩ := hd
  obtain ⟨a, T', h', k1, b, kk, X', e', E, hS', hk', hZ', ho', -, Fc, Fv, -, -, -, -, hL, -, q⟩ := ldcCH X hx hZ hown w wS eT hS (by rw [← eT]; exact hk0) hEL hmem H (vs := []) (z := 0) ⟨by simp, by simp⟩ (by decide) (by decide) (g := mkF m pc Ls st) rfl hd (n := 0) (by decide) (by decide) hc (by simpa using hl)
  exact own_via q (k T' h' a b k1 (by simpa using X') e' E hS' hk' hZ' ho' Fc Fv hL)
theorem go_ldcA {vm0 : Vm} (X : Stand p l e R (s.setVm vm0) m args below meth c T locs cells slots) (hx : p.tables.exec = Jvm.exec) (hZ : Z.Warmed39 vm0) {own text : String} {index : Nat} (hown : vm0.findClass own = some m.cls) (w : (Jvm.Cond.stringLink own index text).before a0 Z = true) {a : Addr} (L : Jvm.RoadKit.Lit (s.setVm vm0) own index a) (hd : Dec c.code pc (.ldc index) 2 pc') (k : Go p e below En (T.setTop (mkF m pc' Ls (.ref a :: st)))) : Go p e below En (T.setTop (mkF m pc Ls st)) := by
  obtain ⟨hd, rfl⟩ := hd
  exact own_via (ldcAgain X hx hZ hown w L (g := mkF m pc Ls st) rfl hd) k
theorem own_fitR {C : String} {v : Value} (h : v.isRef = true) : fits (.object C) v = true := by
  cases v <;> first | rfl | cases h
theorem go_aaload (X : Stand p l e R s m args below meth c T locs cells slots) (hx : p.tables.exec = Jvm.exec) (hZ : Z.Warmed39 s.vm) (eT : T.heap = h) {a : Addr} {cl : Cell} {ty : FieldType} (hty : ty.isReference = true) (A : Arr Z h a cl ty) {j : Int32} {v : Value} (hj : ¬ (j < 0 ∨ cl.slots.size ≤ j.toNatClampNeg)) (hv : cl.slots[j.toNatClampNeg]? = some v) (hd : Dec c.code pc .aaload 1 pc') (k : Go p e below En (T.setTop (mkF m pc' Ls (v :: st)))) : Go p e below En (T.setTop (mkF m pc Ls (.int j :: .ref a :: st))) := by
  obtain ⟨hd, rfl⟩ := hd
  exact own_via (fun t r => X.aaload hx (j := j) (v := v) (by rw [eT]; exact A.1) (State.isArrayOf_alike hZ.alike A.2.1) hty A.2.2 hj hv (g := mkF m pc Ls (.int j :: .ref a :: st)) rfl rfl hd _ r) k
end OwnGo

theorem own_strW {Z : State} {a0 : Array Value} (hw : ∀ d ∈ tables_1, d.before a0 Z = true) : ∀ d ∈ Bundle.stringAtoms, d.before a0 Z = true := fun d hd => by
  simp only [Bundle.stringAtoms, List.mem_cons, List.not_mem_nil, or_false] at hd
  rcases hd with rfl | rfl | rfl | rfl | rfl | rfl | rfl
  · exact (hw _ (List.mem_of_getElem? (i := 58) rfl))
  · exact (hw _ (List.mem_of_getElem? (i := 57) rfl))
  · exact (hw _ (List.mem_of_getElem? (i := 69) rfl))
  · exact (hw _ (List.mem_of_getElem? (i := 70) rfl))
  · exact (hw _ (List.mem_of_getElem? (i := 71) rfl))
  · exact (hw _ (List.mem_of_getElem? (i := 72) rfl))
  · exact (hw _ (List.mem_of_getElem? (i := 73) rfl))
theorem own_EW {Z : State} {a0 : Array Value} (hw : ∀ d ∈ tables_1, d.before a0 Z = true) : EW Z a0 [("java/lang/String", 7)] := EW.cons (hw _ (List.mem_of_getElem? (i := 68) rfl)) (by simp) EW.nil
theorem own_ch (x : Int32) : ¬ (255 : Int32) < (x &&& 255).toUInt32.toUInt16.toUInt32.toInt32 := by
  rw [i2c_mask, Int32.lt_iff_toInt_lt]
  have h1 := c_mask x 255 8 (by decide) (by decide)
  rw [h1, show (255 : Int32).toInt = 255 from rfl]; omega
theorem own_chN (x : Int32) : ¬ (255 : Int32) < nar .char (x &&& 255).toUInt32.toUInt16.toUInt32.toInt32 := by
  have h := own_narC (w := (x &&& 255).toUInt32.toUInt16.toUInt32.toInt32) (fits_nar_char (x &&& 255))
  rw [h]; exact own_ch x
theorem own_four (x : Int32) : x &&& 3 = 0 ∨ x &&& 3 = 1 ∨ x &&& 3 = 2 ∨ x &&& 3 = 3 := by
  have h1 := c_mask x 3 2 (by decide) (by decide)
  simp only [← Int32.toInt_inj, show (0 : Int32).toInt = 0 from rfl, show (1 : Int32).toInt = 1 from rfl, show (2 : Int32).toInt = 2 from rfl, show (3 : Int32).toInt = 3 from rfl]
  omega
def own_CL (Z : State) (h : Heap) (a : Addr) (K : String) : Prop := ∃ c : Cell, Arr Z h a c (.object K) ∧ ∀ j : Int32, ¬ j < 0 ∧ j < 256 → ¬ (j < 0 ∨ c.slots.size ≤ j.toNatClampNeg) ∧ ∃ b, c.slots[j.toNatClampNeg]? = some (.ref b)
theorem own_big {n : Nat} (h : n.toInt32 = 256) : 256 ≤ n := by
  by_cases q : n < 256
  · have h1 : (Int32.ofNat n).toInt = n := Int32.toInt_ofNat_small (by omega)
    have h2 : (Int32.ofNat n).toInt = 256 := by
      have h3 : (n.toInt32).toInt = 256 := by rw [h]; rfl
      exact h3
    omega
  · omega
theorem own_bx {s : State} {args : Array Value} {C n d K : String} {G : Jvm.Cond} (w1 : (Jvm.Cond.arrayOf (Term.static C n d) (.object K)).before args s = true) (w2 : (Jvm.Cond.eq (Term.length (Term.static C n d)) (Term.int 256)).before args s = true) (w3 : (Jvm.Cond.all (Term.static C n d) (.and (.exactly (.elem (.static C n d) (.index 0)) K) G)).before args s = true) : ∃ a, (Term.static C n d).eval args s none [] s = some (.ref a) ∧ own_CL s s.heap a K := by
  have h2 := eqv_i (F := Term.int 256) (y := 256) rfl (Cond.before_iff.mp w2)
  obtain ⟨a, cell, et, ha, hl⟩ := Term.length_spec h2
  obtain ⟨c, A⟩ := Arr.start et (Cond.before_iff.mp w1)
  have e1 := A.fin (Vm.Alike.refl _)
  obtain rfl : cell = c := Option.some.inj (ha.symm.trans e1)
  have hsz : 256 ≤ cell.slots.size := own_big (Value.int.inj hl).symm
  refine ⟨a, et, cell, A, fun j q => ?_⟩
  have hj : j.toNatClampNeg < cell.slots.size := by
    have q2 := q
    rw [Int32.lt_iff_toInt_lt, Int32.lt_iff_toInt_lt, show (0 : Int32).toInt = 0 from rfl, show (256 : Int32).toInt = 256 from rfl] at q2
    show j.toInt.toNat < _
    omega
  obtain ⟨u1, -⟩ := and_e (Cond.all_elim et e1 (Cond.before_iff.mp w3) j.toNatClampNeg hj)
  obtain ⟨b, eb⟩ := exa_v u1
  have et' : (Term.static C n d).eval args s none [j.toNatClampNeg] s = some (.ref a) := et
  refine ⟨fun r => ?_, b, (elem_f et' (idx_at q.1) e1 q.1).symm.trans eb⟩
  rcases r with r | r
  · exact q.1 r
  · omega
theorem own_i1 {x : Int32} (h1 : ¬ x < -128) (h2 : ¬ (127 : Int32) < x) : ¬ (x + 128) < 0 ∧ (x + 128) < 256 := by
  have h3 := c_iadd x 128; have h4 := rng32 (x + 128)
  rw [Int32.lt_iff_toInt_lt, show (-128 : Int32).toInt = -128 from rfl] at h1
  rw [Int32.lt_iff_toInt_lt, show (127 : Int32).toInt = 127 from rfl] at h2
  rw [show (128 : Int32).toInt = 128 from rfl] at h3
  rw [Int32.lt_iff_toInt_lt, Int32.lt_iff_toInt_lt, show (0 : Int32).toInt = 0 from rfl, show (256 : Int32).toInt = 256 from rfl]
  omega
theorem own_clt (x y : Int64) : XT.cmpL x y < 0 ↔ x.toInt < y.toInt := by
  unfold XT.cmpL
  rw [← Int64.lt_iff_toInt_lt]
  by_cases q : y < x
  · simp only [q, if_true]
    have r : ¬ x < y := by rw [Int64.lt_iff_toInt_lt] at *; omega
    simp only [r, iff_false]; decide
  · simp only [q, if_false]
    by_cases r : x = y
    · subst r; simp only [if_true]
      have r' : ¬ x < x := by rw [Int64.lt_iff_toInt_lt]; omega
      simp only [r', iff_false]; decide
    · simp only [r, if_false]
      have r' : x < y := by rw [Int64.lt_iff_toInt_lt] at *; rw [← Int64.toInt_inj] at r; omega
      simp only [r', iff_true]; decide
theorem own_cgt (x y : Int64) : 0 < XT.cmpL x y ↔ y.toInt < x.toInt := by
  unfold XT.cmpL
  rw [← Int64.lt_iff_toInt_lt]
  by_cases q : y < x
  · simp only [q, if_true]; decide
  · simp only [q, if_false, iff_false]
    by_cases r : x = y
    · simp only [r, if_true]; decide
    · simp only [r, if_false]; decide
theorem own_i2 {y : Int64} (h1 : ¬ XT.cmpL y (-128) < 0) (h2 : ¬ 0 < XT.cmpL y 127) : ¬ (y.toInt32 + 128) < 0 ∧ (y.toInt32 + 128) < 256 := by
  rw [own_clt, show (-128 : Int64).toInt = -128 from rfl] at h1
  rw [own_cgt, show (127 : Int64).toInt = 127 from rfl] at h2
  have a1 := c_l2i y; have a2 := rng32 y.toInt32
  have h3 := c_iadd y.toInt32 128; have h4 := rng32 (y.toInt32 + 128)
  rw [show (128 : Int32).toInt = 128 from rfl] at h3
  rw [Int32.lt_iff_toInt_lt, Int32.lt_iff_toInt_lt, show (0 : Int32).toInt = 0 from rfl, show (256 : Int32).toInt = 256 from rfl]
  omega

theorem d2_0 : Dec jdk_30_method_1_code 0 (.aload_n 0) 1 1 := ⟨by decide +kernel, rfl⟩
theorem d2_1 : Dec jdk_30_method_1_code 1 (.invokespecial 1) 3 4 := ⟨by decide +kernel, rfl⟩
theorem d2_4 : Dec jdk_30_method_1_code 4 (.return_) 1 5 := ⟨by decide +kernel, rfl⟩
theorem pn2 : plainFor (⟨"java/lang/Record", "<init>", "()V"⟩ : MethodName) = true := by first | exact plainFor_of_name (by first | (simp [plainName, overriddenIn]; done) | decide +kernel) | decide +kernel
theorem ef2 (x0 : Addr) (m : MethodId) : entryFrame m #[(.ref x0)] 1 = mkF m 0 #[.val (.ref x0)] [] := by first | (simp [entryFrame, mkF, argsToLocals, Value.category, maxLocals]; done) | rfl
set_option maxRecDepth 65536 in
set_option maxHeartbeats 40000000 in
theorem rm2 (l : Launch) (Z : State) (a0 : Array Value) (hw : ∀ d ∈ tables_1, d.before a0 Z = true) (ws : List Jvm.Cond) (a : Addr) (h0 : Heap)  : Ct l Z (⟨"java/lang/Record", "<init>", "()V"⟩ : MethodName) jdk_30_method_1_code 1 none ws ({ frames := 1, cells := 0, slots := 0, locals := 12 } : Room) #[(.ref a)] h0 (QV h0) := by
  refine Ct.of (pn2) _ (ef2 a) ?_
  intro p e s m below meth c T0 hx hby hml hZ hown hnm hret hk e0 X0
  show Go p e below _ (T0.setTop (mkF m 0 #[.val (.ref a)] []))
  refine go_aloadn X0 hx (dc hby d2_0) (v := (.ref a)) rfl rfl ?_
  refine go_initO X0 hx hZ hown (hw _ (List.mem_of_getElem? (i := 11) rfl)) (hw _ (List.mem_of_getElem? (i := 12) rfl)) (hw _ (List.mem_of_getElem? (i := 13) rfl)) e0 (by rw [hml]; rfl) (dc hby d2_1) (by decide) 0 (Nat.le_of_eq rfl) (by decide) (fun T1 X1 e1 => ?_)
  exact go_retV X1 hx hret (dc hby d2_4) hk (by decide) (by decide) ⟨rfl, e1, rfl⟩
theorem pd2 : parseMethodDescriptor "()V" = some ⟨[], none⟩ := by decide +kernel
theorem d8_0 : Dec jdk_18_method_1_code 0 (.aload_n 0) 1 1 := ⟨by decide +kernel, rfl⟩
theorem d8_1 : Dec jdk_18_method_1_code 1 (.invokespecial 1) 3 4 := ⟨by decide +kernel, rfl⟩
theorem d8_4 : Dec jdk_18_method_1_code 4 (.return_) 1 5 := ⟨by decide +kernel, rfl⟩
theorem pn8 : plainFor (⟨"java/lang/Number", "<init>", "()V"⟩ : MethodName) = true := by first | exact plainFor_of_name (by first | (simp [plainName, overriddenIn]; done) | decide +kernel) | decide +kernel
theorem ef8 (x0 : Addr) (m : MethodId) : entryFrame m #[(.ref x0)] 1 = mkF m 0 #[.val (.ref x0)] [] := by first | (simp [entryFrame, mkF, argsToLocals, Value.category, maxLocals]; done) | rfl
set_option maxRecDepth 65536 in
set_option maxHeartbeats 40000000 in
theorem rm8 (l : Launch) (Z : State) (a0 : Array Value) (hw : ∀ d ∈ tables_1, d.before a0 Z = true) (ws : List Jvm.Cond) (a : Addr) (h0 : Heap)  : Ct l Z (⟨"java/lang/Number", "<init>", "()V"⟩ : MethodName) jdk_18_method_1_code 1 none ws ({ frames := 1, cells := 0, slots := 0, locals := 12 } : Room) #[(.ref a)] h0 (QV h0) := by
  refine Ct.of (pn8) _ (ef8 a) ?_
  intro p e s m below meth c T0 hx hby hml hZ hown hnm hret hk e0 X0
  show Go p e below _ (T0.setTop (mkF m 0 #[.val (.ref a)] []))
  refine go_aloadn X0 hx (dc hby d8_0) (v := (.ref a)) rfl rfl ?_
  refine go_initO X0 hx hZ hown (hw _ (List.mem_of_getElem? (i := 46) rfl)) (hw _ (List.mem_of_getElem? (i := 12) rfl)) (hw _ (List.mem_of_getElem? (i := 13) rfl)) e0 (by rw [hml]; rfl) (dc hby d8_1) (by decide) 0 (Nat.le_of_eq rfl) (by decide) (fun T1 X1 e1 => ?_)
  exact go_retV X1 hx hret (dc hby d8_4) hk (by decide) (by decide) ⟨rfl, e1, rfl⟩
theorem pd8 : parseMethodDescriptor "()V" = some ⟨[], none⟩ := by decide +kernel
theorem d1_0 : Dec prog_28_method_1_code 0 (.aload_n 0) 1 1 := ⟨by decide +kernel, rfl⟩
theorem d1_1 : Dec prog_28_method_1_code 1 (.invokespecial 1) 3 4 := ⟨by decide +kernel, rfl⟩
theorem d1_4 : Dec prog_28_method_1_code 4 (.aload_n 0) 1 5 := ⟨by decide +kernel, rfl⟩
theorem d1_5 : Dec prog_28_method_1_code 5 (.aload_n 1) 1 6 := ⟨by decide +kernel, rfl⟩
theorem d1_6 : Dec prog_28_method_1_code 6 (.putfield 7) 3 9 := ⟨by decide +kernel, rfl⟩
theorem d1_9 : Dec prog_28_method_1_code 9 (.return_) 1 10 := ⟨by decide +kernel, rfl⟩
theorem pn1 : plainFor (⟨"dev/marblebench/stream/Signal$OnNext", "<init>", "(Ljava/lang/Object;)V"⟩ : MethodName) = true := by first | exact plainFor_of_name (by first | (simp [plainName, overriddenIn]; done) | decide +kernel) | decide +kernel
theorem ef1 (x0 : Addr) (x1 : Value) (h1 : x1.isRef = true) (m : MethodId) : entryFrame m #[(.ref x0), x1] 2 = mkF m 0 #[.val (.ref x0), .val x1] [] := by rcases ref_cases h1 with rfl | ⟨_, rfl⟩ <;> first | (simp [entryFrame, mkF, argsToLocals, Value.category, maxLocals]; done) | rfl
set_option maxRecDepth 65536 in
set_option maxHeartbeats 40000000 in
theorem rm1 (l : Launch) (Z : State) (a0 : Array Value) (hw : ∀ d ∈ tables_1, d.before a0 Z = true) (ws : List Jvm.Cond) (a : Addr) (tv : Value) (h0 : Heap) (ht : tv.isRef = true) (E : Exa Z h0 a "dev/marblebench/stream/Signal$OnNext") (FT : Fld Z h0 a "dev/marblebench/stream/Signal$OnNext" "value" "Ljava/lang/Object;" .null) : Ct l Z (⟨"dev/marblebench/stream/Signal$OnNext", "<init>", "(Ljava/lang/Object;)V"⟩ : MethodName) prog_28_method_1_code 2 none ws ({ frames := 2, cells := 0, slots := 0, locals := 24 } : Room) #[(.ref a), tv] h0 (fun v h L => v = none ∧ (∀ y ∈ L, y.base = a) ∧ Keep h0 h [a] ∧ Exa Z h a "dev/marblebench/stream/Signal$OnNext" ∧ Fld Z h a "dev/marblebench/stream/Signal$OnNext" "value" "Ljava/lang/Object;" tv) := by
  refine Ct.of (pn1) _ (ef1 a tv ht) ?_
  intro p e s m below meth c T0 hx hby hml hZ hown hnm hret hk e0 X0
  show Go p e below _ (T0.setTop (mkF m 0 #[.val (.ref a), .val tv] []))
  refine go_aloadn X0 hx (dc hby d1_0) (v := (.ref a)) rfl rfl ?_
  refine go_specialP X0 hx hZ rfl hown (hw _ (List.mem_of_getElem? (i := 6) rfl)) (hw _ (List.mem_of_getElem? (i := 7) rfl)) (hw _ (List.mem_of_getElem? (i := 9) rfl)) (hw _ (List.mem_of_getElem? (i := 10) rfl)) (by decide) e0 (a := a) [] [] (rm2 l Z a0 hw [] a h0) pd2 rfl (by rw [hml]; rfl) rfl 0 (Nat.le_of_eq rfl) (by decide) (by decide) rfl rfl (by decide) (by decide) (dc hby d1_1) (fun T1 X1 e1 => ?_)
  refine go_aloadn X1 hx (dc hby d1_4) (v := (.ref a)) rfl rfl ?_
  refine go_aloadn X1 hx (dc hby d1_5) (v := tv) rfl ht ?_
  refine go_putF X1 hx hZ (host := "") hown (Or.inl (hw _ (List.mem_of_getElem? (i := 14) rfl))) Via.refl e1 FT E (Or.inr ⟨(hw _ (List.mem_of_getElem? (i := 15) rfl)), rfl, hnm⟩) (hw _ (List.mem_of_getElem? (i := 1) rfl)) (ty := .object "java/lang/Object") (by decide) rfl (own_fitR ht) (dc hby d1_6) (fun T2 h2 X2 e2 W2 => ?_)
  subst e2
  exact go_retV X2 hx hret (dc hby d1_9) hk (by decide) (by decide) ⟨rfl, fun y hy => by simp at hy; rw [hy], (Keep.refl _ _).wr W2 (Or.inl (by simp)), E.wr W2, FT.same W2⟩
theorem pd1 : parseMethodDescriptor "(Ljava/lang/Object;)V" = some ⟨[(.object "java/lang/Object")], none⟩ := by decide +kernel
theorem d7_0 : Dec jdk_35_method_26_code 0 (.aload_n 0) 1 1 := ⟨by decide +kernel, rfl⟩
theorem d7_1 : Dec jdk_35_method_26_code 1 (.invokespecial 270) 3 4 := ⟨by decide +kernel, rfl⟩
theorem d7_4 : Dec jdk_35_method_26_code 4 (.aload_n 0) 1 5 := ⟨by decide +kernel, rfl⟩
theorem d7_5 : Dec jdk_35_method_26_code 5 (.lload_n 1) 1 6 := ⟨by decide +kernel, rfl⟩
theorem d7_6 : Dec jdk_35_method_26_code 6 (.putfield 273) 3 9 := ⟨by decide +kernel, rfl⟩
theorem d7_9 : Dec jdk_35_method_26_code 9 (.return_) 1 10 := ⟨by decide +kernel, rfl⟩
theorem pn7 : plainFor (⟨"java/lang/Long", "<init>", "(J)V"⟩ : MethodName) = true := by first | exact plainFor_of_name (by first | (simp [plainName, overriddenIn]; done) | decide +kernel) | decide +kernel
theorem ef7 (x0 : Addr) (x1 : Int64) (m : MethodId) : entryFrame m #[(.ref x0), (.long x1)] 3 = mkF m 0 #[.val (.ref x0), .val (.long x1), .second] [] := by first | (simp [entryFrame, mkF, argsToLocals, Value.category, maxLocals]; done) | rfl
set_option maxRecDepth 65536 in
set_option maxHeartbeats 40000000 in
theorem rm7 (l : Launch) (Z : State) (a0 : Array Value) (hw : ∀ d ∈ tables_1, d.before a0 Z = true) (ws : List Jvm.Cond) (a : Addr) (y : Int64) (h0 : Heap) (E : Exa Z h0 a "java/lang/Long") (F : Fld Z h0 a "java/lang/Long" "value" "J" (.long 0)) : Ct l Z (⟨"java/lang/Long", "<init>", "(J)V"⟩ : MethodName) jdk_35_method_26_code 3 none ws ({ frames := 2, cells := 0, slots := 0, locals := 24 } : Room) #[(.ref a), (.long y)] h0 (fun v h L => v = none ∧ (∀ y ∈ L, y.base = a) ∧ Keep h0 h [a]) := by
  refine Ct.of (pn7) _ (ef7 a y) ?_
  intro p e s m below meth c T0 hx hby hml hZ hown hnm hret hk e0 X0
  show Go p e below _ (T0.setTop (mkF m 0 #[.val (.ref a), .val (.long y), .second] []))
  refine go_aloadn X0 hx (dc hby d7_0) (v := (.ref a)) rfl rfl ?_
  refine go_specialP X0 hx hZ rfl hown (hw _ (List.mem_of_getElem? (i := 40) rfl)) (hw _ (List.mem_of_getElem? (i := 41) rfl)) (hw _ (List.mem_of_getElem? (i := 44) rfl)) (hw _ (List.mem_of_getElem? (i := 45) rfl)) (by decide) e0 (a := a) [] [] (rm8 l Z a0 hw [] a h0) pd8 rfl (by rw [hml]; rfl) rfl 0 (Nat.le_of_eq rfl) (by decide) (by decide) rfl rfl (by decide) (by decide) (dc hby d7_1) (fun T1 X1 e1 => ?_)
  refine go_aloadn X1 hx (dc hby d7_4) (v := (.ref a)) rfl rfl ?_
  refine go_lloadn X1 hx (dc hby d7_5) (v := y) rfl ?_
  refine go_putF X1 hx hZ (host := "") hown (Or.inl (hw _ (List.mem_of_getElem? (i := 47) rfl))) Via.refl e1 F E (Or.inr ⟨(hw _ (List.mem_of_getElem? (i := 48) rfl)), rfl, hnm⟩) (hw _ (List.mem_of_getElem? (i := 35) rfl)) (ty := .long) (by decide) rfl rfl (dc hby d7_6) (fun T2 h2 X2 e2 W2 => ?_)
  subst e2
  exact go_retV X2 hx hret (dc hby d7_9) hk (by decide) (by decide) ⟨rfl, fun y hy => by simp at hy; rw [hy], (Keep.refl _ _).wr W2 (Or.inl (by simp))⟩
theorem pd7 : parseMethodDescriptor "(J)V" = some ⟨[.long], none⟩ := by decide +kernel
theorem d12_0 : Dec jdk_33_method_23_code 0 (.aload_n 0) 1 1 := ⟨by decide +kernel, rfl⟩
theorem d12_1 : Dec jdk_33_method_23_code 1 (.invokespecial 202) 3 4 := ⟨by decide +kernel, rfl⟩
theorem d12_4 : Dec jdk_33_method_23_code 4 (.aload_n 0) 1 5 := ⟨by decide +kernel, rfl⟩
theorem d12_5 : Dec jdk_33_method_23_code 5 (.iload_n 1) 1 6 := ⟨by decide +kernel, rfl⟩
theorem d12_6 : Dec jdk_33_method_23_code 6 (.putfield 205) 3 9 := ⟨by decide +kernel, rfl⟩
theorem d12_9 : Dec jdk_33_method_23_code 9 (.return_) 1 10 := ⟨by decide +kernel, rfl⟩
theorem pn12 : plainFor (⟨"java/lang/Integer", "<init>", "(I)V"⟩ : MethodName) = true := by first | exact plainFor_of_name (by first | (simp [plainName, overriddenIn]; done) | decide +kernel) | decide +kernel
theorem ef12 (x0 : Addr) (x1 : Int32) (m : MethodId) : entryFrame m #[(.ref x0), (.int x1)] 2 = mkF m 0 #[.val (.ref x0), .val (.int x1)] [] := by first | (simp [entryFrame, mkF, argsToLocals, Value.category, maxLocals]; done) | rfl
set_option maxRecDepth 65536 in
set_option maxHeartbeats 40000000 in
theorem rm12 (l : Launch) (Z : State) (a0 : Array Value) (hw : ∀ d ∈ tables_1, d.before a0 Z = true) (ws : List Jvm.Cond) (a : Addr) (y : Int32) (h0 : Heap) (E : Exa Z h0 a "java/lang/Integer") (F : Fld Z h0 a "java/lang/Integer" "value" "I" (.int 0)) : Ct l Z (⟨"java/lang/Integer", "<init>", "(I)V"⟩ : MethodName) jdk_33_method_23_code 2 none ws ({ frames := 2, cells := 0, slots := 0, locals := 24 } : Room) #[(.ref a), (.int y)] h0 (fun v h L => v = none ∧ (∀ y ∈ L, y.base = a) ∧ Keep h0 h [a]) := by
  refine Ct.of (pn12) _ (ef12 a y) ?_
  intro p e s m below meth c T0 hx hby hml hZ hown hnm hret hk e0 X0
  show Go p e below _ (T0.setTop (mkF m 0 #[.val (.ref a), .val (.int y)] []))
  refine go_aloadn X0 hx (dc hby d12_0) (v := (.ref a)) rfl rfl ?_
  refine go_specialP X0 hx hZ rfl hown (hw _ (List.mem_of_getElem? (i := 82) rfl)) (hw _ (List.mem_of_getElem? (i := 41) rfl)) (hw _ (List.mem_of_getElem? (i := 44) rfl)) (hw _ (List.mem_of_getElem? (i := 45) rfl)) (by decide) e0 (a := a) [] [] (rm8 l Z a0 hw [] a h0) pd8 rfl (by rw [hml]; rfl) rfl 0 (Nat.le_of_eq rfl) (by decide) (by decide) rfl rfl (by decide) (by decide) (dc hby d12_1) (fun T1 X1 e1 => ?_)
  refine go_aloadn X1 hx (dc hby d12_4) (v := (.ref a)) rfl rfl ?_
  refine go_iloadn X1 hx (dc hby d12_5) (v := y) rfl ?_
  refine go_putF X1 hx hZ (host := "") hown (Or.inl (hw _ (List.mem_of_getElem? (i := 84) rfl))) Via.refl e1 F E (Or.inr ⟨(hw _ (List.mem_of_getElem? (i := 85) rfl)), rfl, hnm⟩) (hw _ (List.mem_of_getElem? (i := 77) rfl)) (ty := .int) (by decide) rfl rfl (dc hby d12_6) (fun T2 h2 X2 e2 W2 => ?_)
  subst e2
  exact go_retV X2 hx hret (dc hby d12_9) hk (by decide) (by decide) ⟨rfl, fun y hy => by simp at hy; rw [hy], (Keep.refl _ _).wr W2 (Or.inl (by simp))⟩
theorem pd12 : parseMethodDescriptor "(I)V" = some ⟨[.int], none⟩ := by decide +kernel
theorem d4_0 : Dec prog_28_method_3_code 0 (.aload_n 0) 1 1 := ⟨by decide +kernel, rfl⟩
theorem d4_1 : Dec prog_28_method_3_code 1 (.getfield 7) 3 4 := ⟨by decide +kernel, rfl⟩
theorem d4_4 : DecB prog_28_method_3_code 4 (.ifnonnull 7) (7) 7 11 := ⟨by decide +kernel, rfl, by decide, by decide⟩
theorem d4_7 : Dec prog_28_method_3_code 7 (.iconst 1) 1 8 := ⟨by decide +kernel, rfl⟩
theorem d4_8 : DecB prog_28_method_3_code 8 (.goto 4) (4) 11 12 := ⟨by decide +kernel, rfl, by decide, by decide⟩
theorem d4_11 : Dec prog_28_method_3_code 11 (.iconst 0) 1 12 := ⟨by decide +kernel, rfl⟩
theorem d4_12 : Dec prog_28_method_3_code 12 (.ireturn) 1 13 := ⟨by decide +kernel, rfl⟩
theorem pn4 : plainFor (⟨"dev/marblebench/stream/Signal$OnNext", "carriesNull", "()Z"⟩ : MethodName) = true := by first | exact plainFor_of_name (by first | (simp [plainName, overriddenIn]; done) | decide +kernel) | decide +kernel
theorem ef4 (x0 : Addr) (m : MethodId) : entryFrame m #[(.ref x0)] 1 = mkF m 0 #[.val (.ref x0)] [] := by first | (simp [entryFrame, mkF, argsToLocals, Value.category, maxLocals]; done) | rfl
set_option maxRecDepth 65536 in
set_option maxHeartbeats 40000000 in
theorem rm4r (l : Launch) (Z : State) (a0 : Array Value) (hw : ∀ d ∈ tables_1, d.before a0 Z = true) (ws : List Jvm.Cond) (a t : Addr) (h0 : Heap) (F : Fld Z h0 a "dev/marblebench/stream/Signal$OnNext" "value" "Ljava/lang/Object;" (.ref t)) : Ct l Z (⟨"dev/marblebench/stream/Signal$OnNext", "carriesNull", "()Z"⟩ : MethodName) prog_28_method_3_code 1 (some .boolean) ws ({ frames := 0, cells := 0, slots := 0, locals := 0 } : Room) #[(.ref a)] h0 (QP (.int 0) h0) := by
  refine Ct.of (pn4) _ (ef4 a) ?_
  intro p e s m below meth c T0 hx hby hml hZ hown hnm hret hk e0 X0
  show Go p e below _ (T0.setTop (mkF m 0 #[.val (.ref a)] []))
  refine go_aloadn X0 hx (dc hby d4_0) (v := (.ref a)) rfl rfl ?_
  refine go_getF X0 hx hZ (host := "") hown (Or.inl (hw _ (List.mem_of_getElem? (i := 14) rfl))) Via.refl e0 F (dc hby d4_1) (fun T1 X1 e1 => ?_)
  refine go_ifnonnullY X1 hx (db hby d4_4) ?_
  refine go_iconst X1 hx (0) (dc hby d4_11) rfl ?_
  exact go_retN X1 hx hret (by simp) (dc hby d4_12) hk (by decide) (by decide) ⟨rfl, e1, rfl⟩
theorem pd4 : parseMethodDescriptor "()Z" = some ⟨[], some .boolean⟩ := by decide +kernel
set_option maxRecDepth 65536 in
set_option maxHeartbeats 40000000 in
theorem rm4n (l : Launch) (Z : State) (a0 : Array Value) (hw : ∀ d ∈ tables_1, d.before a0 Z = true) (ws : List Jvm.Cond) (a : Addr) (h0 : Heap) (F : Fld Z h0 a "dev/marblebench/stream/Signal$OnNext" "value" "Ljava/lang/Object;" .null) : Ct l Z (⟨"dev/marblebench/stream/Signal$OnNext", "carriesNull", "()Z"⟩ : MethodName) prog_28_method_3_code 1 (some .boolean) ws ({ frames := 0, cells := 0, slots := 0, locals := 0 } : Room) #[(.ref a)] h0 (QP (.int 1) h0) := by
  refine Ct.of (pn4) _ (ef4 a) ?_
  intro p e s m below meth c T0 hx hby hml hZ hown hnm hret hk e0 X0
  show Go p e below _ (T0.setTop (mkF m 0 #[.val (.ref a)] []))
  refine go_aloadn X0 hx (dc hby d4_0) (v := (.ref a)) rfl rfl ?_
  refine go_getF X0 hx hZ (host := "") hown (Or.inl (hw _ (List.mem_of_getElem? (i := 14) rfl))) Via.refl e0 F (dc hby d4_1) (fun T1 X1 e1 => ?_)
  refine go_ifnonnullN X1 hx (db hby d4_4) ?_
  refine go_iconst X1 hx (1) (dc hby d4_7) rfl ?_
  refine go_goto X1 hx (db hby d4_8) ?_
  exact go_retN X1 hx hret (by simp) (dc hby d4_12) hk (by decide) (by decide) ⟨rfl, e1, rfl⟩
theorem d5_0 : Dec prog_28_method_8_code 0 (.aload_n 0) 1 1 := ⟨by decide +kernel, rfl⟩
theorem d5_1 : Dec prog_28_method_8_code 1 (.getfield 7) 3 4 := ⟨by decide +kernel, rfl⟩
theorem d5_4 : Dec prog_28_method_8_code 4 (.areturn) 1 5 := ⟨by decide +kernel, rfl⟩
theorem pn5 : plainFor (⟨"dev/marblebench/stream/Signal$OnNext", "value", "()Ljava/lang/Object;"⟩ : MethodName) = true := by first | exact plainFor_of_name (by first | (simp [plainName, overriddenIn]; done) | decide +kernel) | decide +kernel
theorem ef5 (x0 : Addr) (m : MethodId) : entryFrame m #[(.ref x0)] 1 = mkF m 0 #[.val (.ref x0)] [] := by first | (simp [entryFrame, mkF, argsToLocals, Value.category, maxLocals]; done) | rfl
set_option maxRecDepth 65536 in
set_option maxHeartbeats 40000000 in
theorem rm5 (l : Launch) (Z : State) (a0 : Array Value) (hw : ∀ d ∈ tables_1, d.before a0 Z = true) (ws : List Jvm.Cond) (a : Addr) (tv : Value) (h0 : Heap) (ht : tv.isRef = true) (F : Fld Z h0 a "dev/marblebench/stream/Signal$OnNext" "value" "Ljava/lang/Object;" tv) : Ct l Z (⟨"dev/marblebench/stream/Signal$OnNext", "value", "()Ljava/lang/Object;"⟩ : MethodName) prog_28_method_8_code 1 (some (.object "java/lang/Object")) ws ({ frames := 0, cells := 0, slots := 0, locals := 0 } : Room) #[(.ref a)] h0 (QP tv h0) := by
  refine Ct.of (pn5) _ (ef5 a) ?_
  intro p e s m below meth c T0 hx hby hml hZ hown hnm hret hk e0 X0
  show Go p e below _ (T0.setTop (mkF m 0 #[.val (.ref a)] []))
  refine go_aloadn X0 hx (dc hby d5_0) (v := (.ref a)) rfl rfl ?_
  refine go_getF X0 hx hZ (host := "") hown (Or.inl (hw _ (List.mem_of_getElem? (i := 14) rfl))) Via.refl e0 F (dc hby d5_1) (fun T1 X1 e1 => ?_)
  exact go_retA X1 hx hret rfl ht (dc hby d5_4) hk (by decide) (by decide) ⟨rfl, e1, rfl⟩
theorem pd5 : parseMethodDescriptor "()Ljava/lang/Object;" = some ⟨[], some (.object "java/lang/Object")⟩ := by decide +kernel
theorem d6_0 : Dec jdk_35_method_24_code 0 (.sipush 128) 3 3 := ⟨by decide +kernel, rfl⟩
theorem d6_3 : Dec jdk_35_method_24_code 3 (.istore_n 2) 1 4 := ⟨by decide +kernel, rfl⟩
theorem d6_4 : Dec jdk_35_method_24_code 4 (.lload_n 0) 1 5 := ⟨by decide +kernel, rfl⟩
theorem d6_5 : Dec jdk_35_method_24_code 5 (.ldc2_w 230) 3 8 := ⟨by decide +kernel, rfl⟩
theorem d6_8 : Dec jdk_35_method_24_code 8 (.lcmp) 1 9 := ⟨by decide +kernel, rfl⟩
theorem d6_9 : DecB jdk_35_method_24_code 9 (.ifCond .lt 22) (22) 12 31 := ⟨by decide +kernel, rfl, by decide, by decide⟩
theorem d6_12 : Dec jdk_35_method_24_code 12 (.lload_n 0) 1 13 := ⟨by decide +kernel, rfl⟩
theorem d6_13 : Dec jdk_35_method_24_code 13 (.ldc2_w 232) 3 16 := ⟨by decide +kernel, rfl⟩
theorem d6_16 : Dec jdk_35_method_24_code 16 (.lcmp) 1 17 := ⟨by decide +kernel, rfl⟩
theorem d6_17 : DecB jdk_35_method_24_code 17 (.ifCond .gt 14) (14) 20 31 := ⟨by decide +kernel, rfl, by decide, by decide⟩
theorem d6_20 : Dec jdk_35_method_24_code 20 (.getstatic 234) 3 23 := ⟨by decide +kernel, rfl⟩
theorem d6_23 : Dec jdk_35_method_24_code 23 (.lload_n 0) 1 24 := ⟨by decide +kernel, rfl⟩
theorem d6_24 : Dec jdk_35_method_24_code 24 (.l2i) 1 25 := ⟨by decide +kernel, rfl⟩
theorem d6_25 : Dec jdk_35_method_24_code 25 (.sipush 128) 3 28 := ⟨by decide +kernel, rfl⟩
theorem d6_28 : Dec jdk_35_method_24_code 28 (.iadd) 1 29 := ⟨by decide +kernel, rfl⟩
theorem d6_29 : Dec jdk_35_method_24_code 29 (.aaload) 1 30 := ⟨by decide +kernel, rfl⟩
theorem d6_30 : Dec jdk_35_method_24_code 30 (.areturn) 1 31 := ⟨by decide +kernel, rfl⟩
theorem d6_31 : Dec jdk_35_method_24_code 31 (.new 1) 3 34 := ⟨by decide +kernel, rfl⟩
theorem d6_34 : Dec jdk_35_method_24_code 34 (.dup) 1 35 := ⟨by decide +kernel, rfl⟩
theorem d6_35 : Dec jdk_35_method_24_code 35 (.lload_n 0) 1 36 := ⟨by decide +kernel, rfl⟩
theorem d6_36 : Dec jdk_35_method_24_code 36 (.invokespecial 240) 3 39 := ⟨by decide +kernel, rfl⟩
theorem d6_39 : Dec jdk_35_method_24_code 39 (.areturn) 1 40 := ⟨by decide +kernel, rfl⟩
theorem pn6 : plainFor (⟨"java/lang/Long", "valueOf", "(J)Ljava/lang/Long;"⟩ : MethodName) = true := by first | exact plainFor_of_name (by first | (simp [plainName, overriddenIn]; done) | decide +kernel) | decide +kernel
theorem ef6 (x0 : Int64) (m : MethodId) : entryFrame m #[(.long x0)] 3 = mkF m 0 #[.val (.long x0), .second, .unset] [] := by first | (simp [entryFrame, mkF, argsToLocals, Value.category, maxLocals]; done) | rfl
set_option maxRecDepth 65536 in
set_option maxHeartbeats 40000000 in
theorem rm6 (l : Launch) (Z : State) (a0 : Array Value) (hw : ∀ d ∈ tables_1, d.before a0 Z = true) (ws : List Jvm.Cond) (y : Int64) (ca : Addr) (h0 : Heap) (SQ : Sta Z h0 "java/lang/Long$LongCache" "cache" "[Ljava/lang/Long;" (.ref ca)) (CQ : own_CL Z h0 ca "java/lang/Long") : Ct l Z (⟨"java/lang/Long", "valueOf", "(J)Ljava/lang/Long;"⟩ : MethodName) jdk_35_method_24_code 3 (some (.object "java/lang/Long")) ws ({ frames := 3, cells := 1, slots := 1, locals := 39 } : Room) #[(.long y)] h0 (fun v h L => ∃ b, v = some (.ref b) ∧ Keep h0 h [] ∧ Fr h0.size L) := by
  refine Ct.of (pn6) _ (ef6 y) ?_
  intro p e s m below meth c T0 hx hby hml hZ hown hnm hret hk e0 X0
  show Go p e below _ (T0.setTop (mkF m 0 #[.val (.long y), .second, .unset] []))
  refine go_sipush X0 hx (128) (dc hby d6_0) rfl ?_
  refine go_istoren X0 hx #[.val (.long y), .second, .val (.int (128 : Int32))] (dc hby d6_3) rfl ?_
  refine go_lloadn X0 hx (dc hby d6_4) (v := y) rfl ?_
  refine go_ldc2 X0 hx hZ hown (hw _ (List.mem_of_getElem? (i := 30) rfl)) (dc hby d6_5) ?_
  refine go_lcmp X0 hx (dc hby d6_8) ?_
  refine go_ifc_lt X0 hx (db hby d6_9) (fun c9 => ?_) (fun c9 => ?_)
  · refine go_newO X0 hx hZ hown (hw _ (List.mem_of_getElem? (i := 34) rfl)) (hw _ (List.mem_of_getElem? (i := 35) rfl)) (hw _ (List.mem_of_getElem? (i := 28) rfl)) e0 (dc hby d6_31) (by decide) (by decide) (fun T1 h1 sa g1 X1 e1 E1 A1 D1 => ?_)
    refine go_dup X1 hx (dc hby d6_34) rfl ?_
    refine go_lloadn X1 hx (dc hby d6_35) (v := y) rfl ?_
    refine go_special X1 hx hZ rfl hown (hw _ (List.mem_of_getElem? (i := 36) rfl)) (hw _ (List.mem_of_getElem? (i := 37) rfl)) (hw _ (List.mem_of_getElem? (i := 28) rfl)) (hw _ (List.mem_of_getElem? (i := 39) rfl)) (by decide) e1 (a := sa) [(.long y)] [(.ref sa)] (rm7 l Z a0 hw [] sa y h1 A1 (D1 (Or.inr (hw _ (List.mem_of_getElem? (i := 48) rfl))) (ty := .long) (by decide))) pd7 rfl (by rw [hml]; rfl) rfl 1 (Nat.le_of_eq rfl) (by decide) (by decide) (by decide) (by decide) (dc hby d6_36) (fun T2 v2 L2 X2 hQ2 => ?_)
    obtain ⟨rfl, N2, K2⟩ := hQ2
    show Go p e below _ (T2.setTop (mkF m 39 #[.val (.long y), .second, .val (.int (128 : Int32))] [(.ref sa)]))
    have gs : h0.size ≤ sa := Nat.le_of_eq g1.symm
    exact go_retA X2 hx hret rfl rfl (dc hby d6_39) hk (by decide) (by decide) ⟨sa, rfl, ((Keep.refl _ _).ext E1).trans K2 (fun x hx => Or.inr (by simp at hx; rw [hx]; exact gs)), fun y hy => by
          rw [N2 y (by simpa using hy)]; exact gs⟩
  · refine go_lloadn X0 hx (dc hby d6_12) (v := y) rfl ?_
    refine go_ldc2 X0 hx hZ hown (hw _ (List.mem_of_getElem? (i := 31) rfl)) (dc hby d6_13) ?_
    refine go_lcmp X0 hx (dc hby d6_16) ?_
    refine go_ifc_gt X0 hx (db hby d6_17) (fun c17 => ?_) (fun c17 => ?_)
    · refine go_newO X0 hx hZ hown (hw _ (List.mem_of_getElem? (i := 34) rfl)) (hw _ (List.mem_of_getElem? (i := 35) rfl)) (hw _ (List.mem_of_getElem? (i := 28) rfl)) e0 (dc hby d6_31) (by decide) (by decide) (fun T3 h3 sa g3 X3 e3 E3 A3 D3 => ?_)
      refine go_dup X3 hx (dc hby d6_34) rfl ?_
      refine go_lloadn X3 hx (dc hby d6_35) (v := y) rfl ?_
      refine go_special X3 hx hZ rfl hown (hw _ (List.mem_of_getElem? (i := 36) rfl)) (hw _ (List.mem_of_getElem? (i := 37) rfl)) (hw _ (List.mem_of_getElem? (i := 28) rfl)) (hw _ (List.mem_of_getElem? (i := 39) rfl)) (by decide) e3 (a := sa) [(.long y)] [(.ref sa)] (rm7 l Z a0 hw [] sa y h3 A3 (D3 (Or.inr (hw _ (List.mem_of_getElem? (i := 48) rfl))) (ty := .long) (by decide))) pd7 rfl (by rw [hml]; rfl) rfl 1 (Nat.le_of_eq rfl) (by decide) (by decide) (by decide) (by decide) (dc hby d6_36) (fun T4 v4 L4 X4 hQ4 => ?_)
      obtain ⟨rfl, N4, K4⟩ := hQ4
      show Go p e below _ (T4.setTop (mkF m 39 #[.val (.long y), .second, .val (.int (128 : Int32))] [(.ref sa)]))
      have gs : h0.size ≤ sa := Nat.le_of_eq g3.symm
      exact go_retA X4 hx hret rfl rfl (dc hby d6_39) hk (by decide) (by decide) ⟨sa, rfl, ((Keep.refl _ _).ext E3).trans K4 (fun x hx => Or.inr (by simp at hx; rw [hx]; exact gs)), fun y hy => by
            rw [N4 y (by simpa using hy)]; exact gs⟩
    · refine go_getS X0 hx hZ (host := "") hown (hw _ (List.mem_of_getElem? (i := 32) rfl)) Via.refl e0 SQ (dc hby d6_20) (fun T5 X5 e5 => ?_)
      refine go_lloadn X5 hx (dc hby d6_23) (v := y) rfl ?_
      refine go_l2i X5 hx (dc hby d6_24) ?_
      refine go_sipush X5 hx (128) (dc hby d6_25) rfl ?_
      refine go_iadd X5 hx (dc hby d6_28) ?_
      obtain ⟨cq, AQ, FQ⟩ := CQ
      obtain ⟨jq, b, bq⟩ := FQ _ (own_i2 c9 c17)
      refine go_aaload X5 hx hZ e5 rfl AQ jq bq (dc hby d6_29) ?_
      exact go_retA X5 hx hret rfl rfl (dc hby d6_30) hk (by decide) (by decide) ⟨b, rfl, by rw [e5]; exact Keep.refl _ _, Fr.nil _⟩
theorem pd6 : parseMethodDescriptor "(J)Ljava/lang/Long;" = some ⟨[.long], some (.object "java/lang/Long")⟩ := by decide +kernel
theorem d9_0 : Dec jdk_33_method_22_code 0 (.iload_n 0) 1 1 := ⟨by decide +kernel, rfl⟩
theorem d9_1 : Dec jdk_33_method_22_code 1 (.bipush (-128)) 2 3 := ⟨by decide +kernel, rfl⟩
theorem d9_3 : DecB jdk_33_method_22_code 3 (.if_icmp .lt 20) (20) 6 23 := ⟨by decide +kernel, rfl, by decide, by decide⟩
theorem d9_6 : Dec jdk_33_method_22_code 6 (.iload_n 0) 1 7 := ⟨by decide +kernel, rfl⟩
theorem d9_7 : Dec jdk_33_method_22_code 7 (.getstatic 191) 3 10 := ⟨by decide +kernel, rfl⟩
theorem d9_10 : DecB jdk_33_method_22_code 10 (.if_icmp .gt 13) (13) 13 23 := ⟨by decide +kernel, rfl, by decide, by decide⟩
theorem d9_13 : Dec jdk_33_method_22_code 13 (.getstatic 195) 3 16 := ⟨by decide +kernel, rfl⟩
theorem d9_16 : Dec jdk_33_method_22_code 16 (.iload_n 0) 1 17 := ⟨by decide +kernel, rfl⟩
theorem d9_17 : Dec jdk_33_method_22_code 17 (.sipush 128) 3 20 := ⟨by decide +kernel, rfl⟩
theorem d9_20 : Dec jdk_33_method_22_code 20 (.iadd) 1 21 := ⟨by decide +kernel, rfl⟩
theorem d9_21 : Dec jdk_33_method_22_code 21 (.aaload) 1 22 := ⟨by decide +kernel, rfl⟩
theorem d9_22 : Dec jdk_33_method_22_code 22 (.areturn) 1 23 := ⟨by decide +kernel, rfl⟩
theorem d9_23 : Dec jdk_33_method_22_code 23 (.new 1) 3 26 := ⟨by decide +kernel, rfl⟩
theorem d9_26 : Dec jdk_33_method_22_code 26 (.dup) 1 27 := ⟨by decide +kernel, rfl⟩
theorem d9_27 : Dec jdk_33_method_22_code 27 (.iload_n 0) 1 28 := ⟨by decide +kernel, rfl⟩
theorem d9_28 : Dec jdk_33_method_22_code 28 (.invokespecial 199) 3 31 := ⟨by decide +kernel, rfl⟩
theorem d9_31 : Dec jdk_33_method_22_code 31 (.areturn) 1 32 := ⟨by decide +kernel, rfl⟩
theorem pn9 : plainFor (⟨"java/lang/Integer", "valueOf", "(I)Ljava/lang/Integer;"⟩ : MethodName) = true := by first | exact plainFor_of_name (by first | (simp [plainName, overriddenIn]; done) | decide +kernel) | decide +kernel
theorem ef9 (x0 : Int32) (m : MethodId) : entryFrame m #[(.int x0)] 1 = mkF m 0 #[.val (.int x0)] [] := by first | (simp [entryFrame, mkF, argsToLocals, Value.category, maxLocals]; done) | rfl
set_option maxRecDepth 65536 in
set_option maxHeartbeats 40000000 in
theorem rm9 (l : Launch) (Z : State) (a0 : Array Value) (hw : ∀ d ∈ tables_1, d.before a0 Z = true) (ws : List Jvm.Cond) (y : Int32) (ca : Addr) (h0 : Heap) (SH : Sta Z h0 "java/lang/Integer$IntegerCache" "high" "I" (.int 127)) (SQ : Sta Z h0 "java/lang/Integer$IntegerCache" "cache" "[Ljava/lang/Integer;" (.ref ca)) (CQ : own_CL Z h0 ca "java/lang/Integer") : Ct l Z (⟨"java/lang/Integer", "valueOf", "(I)Ljava/lang/Integer;"⟩ : MethodName) jdk_33_method_22_code 1 (some (.object "java/lang/Integer")) ws ({ frames := 3, cells := 1, slots := 1, locals := 38 } : Room) #[(.int y)] h0 (fun v h L => ∃ b, v = some (.ref b) ∧ Keep h0 h [] ∧ Fr h0.size L) := by
  refine Ct.of (pn9) _ (ef9 y) ?_
  intro p e s m below meth c T0 hx hby hml hZ hown hnm hret hk e0 X0
  show Go p e below _ (T0.setTop (mkF m 0 #[.val (.int y)] []))
  refine go_iloadn X0 hx (dc hby d9_0) (v := y) rfl ?_
  refine go_bipush X0 hx (-128) (dc hby d9_1) rfl ?_
  refine go_icmp_lt X0 hx (db hby d9_3) (fun c3 => ?_) (fun c3 => ?_)
  · refine go_newO X0 hx hZ hown (hw _ (List.mem_of_getElem? (i := 76) rfl)) (hw _ (List.mem_of_getElem? (i := 77) rfl)) (hw _ (List.mem_of_getElem? (i := 51) rfl)) e0 (dc hby d9_23) (by decide) (by decide) (fun T1 h1 sa g1 X1 e1 E1 A1 D1 => ?_)
    refine go_dup X1 hx (dc hby d9_26) rfl ?_
    refine go_iloadn X1 hx (dc hby d9_27) (v := y) rfl ?_
    refine go_special X1 hx hZ rfl hown (hw _ (List.mem_of_getElem? (i := 78) rfl)) (hw _ (List.mem_of_getElem? (i := 79) rfl)) (hw _ (List.mem_of_getElem? (i := 51) rfl)) (hw _ (List.mem_of_getElem? (i := 81) rfl)) (by decide) e1 (a := sa) [(.int y)] [(.ref sa)] (rm12 l Z a0 hw [] sa y h1 A1 (D1 (Or.inr (hw _ (List.mem_of_getElem? (i := 85) rfl))) (ty := .int) (by decide))) pd12 rfl (by rw [hml]; rfl) rfl 1 (Nat.le_of_eq rfl) (by decide) (by decide) (by decide) (by decide) (dc hby d9_28) (fun T2 v2 L2 X2 hQ2 => ?_)
    obtain ⟨rfl, N2, K2⟩ := hQ2
    show Go p e below _ (T2.setTop (mkF m 31 #[.val (.int y)] [(.ref sa)]))
    have gs : h0.size ≤ sa := Nat.le_of_eq g1.symm
    exact go_retA X2 hx hret rfl rfl (dc hby d9_31) hk (by decide) (by decide) ⟨sa, rfl, ((Keep.refl _ _).ext E1).trans K2 (fun x hx => Or.inr (by simp at hx; rw [hx]; exact gs)), fun y hy => by
          rw [N2 y (by simpa using hy)]; exact gs⟩
  · refine go_iloadn X0 hx (dc hby d9_6) (v := y) rfl ?_
    refine go_getS X0 hx hZ (host := "") hown (hw _ (List.mem_of_getElem? (i := 53) rfl)) Via.refl e0 SH (dc hby d9_7) (fun T3 X3 e3 => ?_)
    refine go_icmp_gt X3 hx (db hby d9_10) (fun c10 => ?_) (fun c10 => ?_)
    · refine go_newO X3 hx hZ hown (hw _ (List.mem_of_getElem? (i := 76) rfl)) (hw _ (List.mem_of_getElem? (i := 77) rfl)) (hw _ (List.mem_of_getElem? (i := 51) rfl)) e3 (dc hby d9_23) (by decide) (by decide) (fun T4 h4 sa g4 X4 e4 E4 A4 D4 => ?_)
      refine go_dup X4 hx (dc hby d9_26) rfl ?_
      refine go_iloadn X4 hx (dc hby d9_27) (v := y) rfl ?_
      refine go_special X4 hx hZ rfl hown (hw _ (List.mem_of_getElem? (i := 78) rfl)) (hw _ (List.mem_of_getElem? (i := 79) rfl)) (hw _ (List.mem_of_getElem? (i := 51) rfl)) (hw _ (List.mem_of_getElem? (i := 81) rfl)) (by decide) e4 (a := sa) [(.int y)] [(.ref sa)] (rm12 l Z a0 hw [] sa y h4 A4 (D4 (Or.inr (hw _ (List.mem_of_getElem? (i := 85) rfl))) (ty := .int) (by decide))) pd12 rfl (by rw [hml]; rfl) rfl 1 (Nat.le_of_eq rfl) (by decide) (by decide) (by decide) (by decide) (dc hby d9_28) (fun T5 v5 L5 X5 hQ5 => ?_)
      obtain ⟨rfl, N5, K5⟩ := hQ5
      show Go p e below _ (T5.setTop (mkF m 31 #[.val (.int y)] [(.ref sa)]))
      have gs : h0.size ≤ sa := Nat.le_of_eq g4.symm
      exact go_retA X5 hx hret rfl rfl (dc hby d9_31) hk (by decide) (by decide) ⟨sa, rfl, ((Keep.refl _ _).ext E4).trans K5 (fun x hx => Or.inr (by simp at hx; rw [hx]; exact gs)), fun y hy => by
            rw [N5 y (by simpa using hy)]; exact gs⟩
    · refine go_getS X3 hx hZ (host := "") hown (hw _ (List.mem_of_getElem? (i := 55) rfl)) Via.refl e3 SQ (dc hby d9_13) (fun T6 X6 e6 => ?_)
      refine go_iloadn X6 hx (dc hby d9_16) (v := y) rfl ?_
      refine go_sipush X6 hx (128) (dc hby d9_17) rfl ?_
      refine go_iadd X6 hx (dc hby d9_20) ?_
      obtain ⟨cq, AQ, FQ⟩ := CQ
      obtain ⟨jq, b, bq⟩ := FQ _ (own_i1 c3 c10)
      refine go_aaload X6 hx hZ e6 rfl AQ jq bq (dc hby d9_21) ?_
      exact go_retA X6 hx hret rfl rfl (dc hby d9_22) hk (by decide) (by decide) ⟨b, rfl, by rw [e6]; exact Keep.refl _ _, Fr.nil _⟩
theorem pd9 : parseMethodDescriptor "(I)Ljava/lang/Integer;" = some ⟨[.int], some (.object "java/lang/Integer")⟩ := by decide +kernel
theorem d14_0 : Dec jdk_52_method_21_code 0 (.iconst 0) 1 1 := ⟨by decide +kernel, rfl⟩
theorem d14_1 : Dec jdk_52_method_21_code 1 (.istore 5) 2 3 := ⟨by decide +kernel, rfl⟩
theorem d14_3 : Dec jdk_52_method_21_code 3 (.iload 5) 2 5 := ⟨by decide +kernel, rfl⟩
theorem d14_5 : Dec jdk_52_method_21_code 5 (.iload 4) 2 7 := ⟨by decide +kernel, rfl⟩
theorem d14_7 : DecB jdk_52_method_21_code 7 (.if_icmp .ge 37) (37) 10 44 := ⟨by decide +kernel, rfl, by decide, by decide⟩
theorem d14_10 : Dec jdk_52_method_21_code 10 (.aload_n 0) 1 11 := ⟨by decide +kernel, rfl⟩
theorem d14_11 : Dec jdk_52_method_21_code 11 (.iload_n 1) 1 12 := ⟨by decide +kernel, rfl⟩
theorem d14_12 : Dec jdk_52_method_21_code 12 (.caload) 1 13 := ⟨by decide +kernel, rfl⟩
theorem d14_13 : Dec jdk_52_method_21_code 13 (.istore 6) 2 15 := ⟨by decide +kernel, rfl⟩
theorem d14_15 : Dec jdk_52_method_21_code 15 (.iload 6) 2 17 := ⟨by decide +kernel, rfl⟩
theorem d14_17 : Dec jdk_52_method_21_code 17 (.sipush 255) 3 20 := ⟨by decide +kernel, rfl⟩
theorem d14_20 : DecB jdk_52_method_21_code 20 (.if_icmp .le 6) (6) 23 26 := ⟨by decide +kernel, rfl, by decide, by decide⟩
theorem d14_26 : Dec jdk_52_method_21_code 26 (.aload_n 2) 1 27 := ⟨by decide +kernel, rfl⟩
theorem d14_27 : Dec jdk_52_method_21_code 27 (.iload_n 3) 1 28 := ⟨by decide +kernel, rfl⟩
theorem d14_28 : Dec jdk_52_method_21_code 28 (.iload 6) 2 30 := ⟨by decide +kernel, rfl⟩
theorem d14_30 : Dec jdk_52_method_21_code 30 (.i2b) 1 31 := ⟨by decide +kernel, rfl⟩
theorem d14_31 : Dec jdk_52_method_21_code 31 (.bastore) 1 32 := ⟨by decide +kernel, rfl⟩
theorem d14_32 : Dec jdk_52_method_21_code 32 (.iinc 1 1) 3 35 := ⟨by decide +kernel, rfl⟩
theorem d14_35 : Dec jdk_52_method_21_code 35 (.iinc 3 1) 3 38 := ⟨by decide +kernel, rfl⟩
theorem d14_38 : Dec jdk_52_method_21_code 38 (.iinc 5 1) 3 41 := ⟨by decide +kernel, rfl⟩
theorem d14_41 : DecB jdk_52_method_21_code 41 (.goto (-38)) (-38) 44 3 := ⟨by decide +kernel, rfl, by decide, by decide⟩
theorem d14_44 : Dec jdk_52_method_21_code 44 (.iload 4) 2 46 := ⟨by decide +kernel, rfl⟩
theorem d14_46 : Dec jdk_52_method_21_code 46 (.ireturn) 1 47 := ⟨by decide +kernel, rfl⟩
theorem pn14 : plainFor (⟨"java/lang/StringUTF16", "compress", "([CI[BII)I"⟩ : MethodName) = true := by first | exact plainFor_of_name (by first | (simp [plainName, overriddenIn]; done) | decide +kernel) | decide +kernel
theorem ef14 (x0 : Addr) (x1 : Int32) (x2 : Addr) (x3 : Int32) (x4 : Int32) (m : MethodId) : entryFrame m #[(.ref x0), (.int x1), (.ref x2), (.int x3), (.int x4)] 7 = mkF m 0 #[.val (.ref x0), .val (.int x1), .val (.ref x2), .val (.int x3), .val (.int x4), .unset, .unset] [] := by first | (simp [entryFrame, mkF, argsToLocals, Value.category, maxLocals]; done) | rfl
set_option maxRecDepth 65536 in
set_option maxHeartbeats 40000000 in
theorem rm14 (l : Launch) (Z : State) (a0 : Array Value) (hw : ∀ d ∈ tables_1, d.before a0 Z = true) (ws : List Jvm.Cond) (t b : Addr) (x : Int32) (kC kb : ClassId) (h0 : Heap) (VX : Arv Z h0 t kC .char 1 [.int x] (.int 0)) (hx1 : ¬ (255 : Int32) < x) (VB : Arv Z h0 b kb .byte 1 [.int 0] (.int 0)) : Ct l Z (⟨"java/lang/StringUTF16", "compress", "([CI[BII)I"⟩ : MethodName) jdk_52_method_21_code 7 (some .int) ws ({ frames := 0, cells := 0, slots := 0, locals := 0 } : Room) #[(.ref t), (.int (0 : Int32)), (.ref b), (.int (0 : Int32)), (.int (1 : Int32))] h0 (fun v h L => v = some (.int 1) ∧ (∀ y ∈ L, y.base = b) ∧ Keep h0 h [b] ∧ ∃ vs, Arv Z h b kb .byte 1 vs (.int 0)) := by
  refine Ct.of (pn14) _ (ef14 t ((0 : Int32)) b ((0 : Int32)) ((1 : Int32))) ?_
  intro p e s m below meth c T0 hx hby hml hZ hown hnm hret hk e0 X0
  show Go p e below _ (T0.setTop (mkF m 0 #[.val (.ref t), .val (.int (0 : Int32)), .val (.ref b), .val (.int (0 : Int32)), .val (.int (1 : Int32)), .unset, .unset] []))
  refine go_iconst X0 hx (0) (dc hby d14_0) rfl ?_
  refine go_istore X0 hx #[.val (.ref t), .val (.int (0 : Int32)), .val (.ref b), .val (.int (0 : Int32)), .val (.int (1 : Int32)), .val (.int (0 : Int32)), .unset] (dc hby d14_1) rfl ?_
  refine go_iload X0 hx (dc hby d14_3) (v := (0 : Int32)) rfl ?_
  refine go_iload X0 hx (dc hby d14_5) (v := (1 : Int32)) rfl ?_
  refine go_icmp_ge X0 hx (db hby d14_7) (fun c7 => absurd c7 (by decide)) (fun c7 => ?_)
  refine go_aloadn X0 hx (dc hby d14_10) (v := (.ref t)) rfl rfl ?_
  refine go_iloadn X0 hx (dc hby d14_11) (v := (0 : Int32)) rfl ?_
  refine go_caloadV X0 hx hZ e0 VX (by decide) (w := x) rfl (dc hby d14_12) ?_
  refine go_istore X0 hx #[.val (.ref t), .val (.int (0 : Int32)), .val (.ref b), .val (.int (0 : Int32)), .val (.int (1 : Int32)), .val (.int (0 : Int32)), .val (.int x)] (dc hby d14_13) rfl ?_
  refine go_iload X0 hx (dc hby d14_15) (v := x) rfl ?_
  refine go_sipush X0 hx (255) (dc hby d14_17) rfl ?_
  refine go_icmp_le X0 hx (db hby d14_20) (fun c20 => ?_) (fun c20 => absurd c20 hx1)
  refine go_aloadn X0 hx (dc hby d14_26) (v := (.ref b)) rfl rfl ?_
  refine go_iloadn X0 hx (dc hby d14_27) (v := (0 : Int32)) rfl ?_
  refine go_iload X0 hx (dc hby d14_28) (v := x) rfl ?_
  refine go_i2b X0 hx (dc hby d14_30) ?_
  refine go_bastoreV X0 hx hZ e0 VB (by decide) 0 rfl (by simp) (dc hby d14_31) (fun T1 h1 X1 e1 W1 V1 => ?_)
  refine go_iinc X1 hx (x := (0 : Int32)) #[.val (.ref t), .val (.int ((0 : Int32) + (1 : Int32))), .val (.ref b), .val (.int (0 : Int32)), .val (.int (1 : Int32)), .val (.int (0 : Int32)), .val (.int x)] (dc hby d14_32) rfl rfl ?_
  refine go_iinc X1 hx (x := (0 : Int32)) #[.val (.ref t), .val (.int ((0 : Int32) + (1 : Int32))), .val (.ref b), .val (.int ((0 : Int32) + (1 : Int32))), .val (.int (1 : Int32)), .val (.int (0 : Int32)), .val (.int x)] (dc hby d14_35) rfl rfl ?_
  refine go_iinc X1 hx (x := (0 : Int32)) #[.val (.ref t), .val (.int ((0 : Int32) + (1 : Int32))), .val (.ref b), .val (.int ((0 : Int32) + (1 : Int32))), .val (.int (1 : Int32)), .val (.int ((0 : Int32) + (1 : Int32))), .val (.int x)] (dc hby d14_38) rfl rfl ?_
  refine go_goto X1 hx (db hby d14_41) ?_
  show Go p e below _ (T1.setTop (mkF m 3 #[.val (.ref t), .val (.int (1 : Int32)), .val (.ref b), .val (.int (1 : Int32)), .val (.int (1 : Int32)), .val (.int (1 : Int32)), .val (.int x)] []))
  refine go_iload X1 hx (dc hby d14_3) (v := (1 : Int32)) rfl ?_
  refine go_iload X1 hx (dc hby d14_5) (v := (1 : Int32)) rfl ?_
  refine go_icmp_ge X1 hx (db hby d14_7) (fun c7 => ?_) (fun c7 => absurd c7 (by decide))
  refine go_iload X1 hx (dc hby d14_44) (v := (1 : Int32)) rfl ?_
  subst e1
  exact go_retI X1 hx hret (dc hby d14_46) hk (by decide) (by decide) ⟨rfl, fun y hy => by simp at hy; rw [hy], (Keep.refl _ _).wr W1 (Or.inl (by simp)), _, V1⟩
theorem pd14 : parseMethodDescriptor "([CI[BII)I" = some ⟨[(.array .char), .int, (.array .byte), .int, .int], some .int⟩ := by decide +kernel
theorem d13_0 : Dec jdk_52_method_16_code 0 (.iload_n 2) 1 1 := ⟨by decide +kernel, rfl⟩
theorem d13_1 : Dec jdk_52_method_16_code 1 (.newarray .byte) 2 3 := ⟨by decide +kernel, rfl⟩
theorem d13_3 : Dec jdk_52_method_16_code 3 (.astore_n 3) 1 4 := ⟨by decide +kernel, rfl⟩
theorem d13_4 : Dec jdk_52_method_16_code 4 (.aload_n 0) 1 5 := ⟨by decide +kernel, rfl⟩
theorem d13_5 : Dec jdk_52_method_16_code 5 (.iload_n 1) 1 6 := ⟨by decide +kernel, rfl⟩
theorem d13_6 : Dec jdk_52_method_16_code 6 (.aload_n 3) 1 7 := ⟨by decide +kernel, rfl⟩
theorem d13_7 : Dec jdk_52_method_16_code 7 (.iconst 0) 1 8 := ⟨by decide +kernel, rfl⟩
theorem d13_8 : Dec jdk_52_method_16_code 8 (.iload_n 2) 1 9 := ⟨by decide +kernel, rfl⟩
theorem d13_9 : Dec jdk_52_method_16_code 9 (.invokestatic 115) 3 12 := ⟨by decide +kernel, rfl⟩
theorem d13_12 : Dec jdk_52_method_16_code 12 (.istore 4) 2 14 := ⟨by decide +kernel, rfl⟩
theorem d13_14 : Dec jdk_52_method_16_code 14 (.iload 4) 2 16 := ⟨by decide +kernel, rfl⟩
theorem d13_16 : Dec jdk_52_method_16_code 16 (.iload_n 2) 1 17 := ⟨by decide +kernel, rfl⟩
theorem d13_17 : DecB jdk_52_method_16_code 17 (.if_icmp .eq 40) (40) 20 57 := ⟨by decide +kernel, rfl, by decide, by decide⟩
theorem d13_57 : Dec jdk_52_method_16_code 57 (.aload_n 3) 1 58 := ⟨by decide +kernel, rfl⟩
theorem d13_58 : Dec jdk_52_method_16_code 58 (.areturn) 1 59 := ⟨by decide +kernel, rfl⟩
theorem pn13 : plainFor (⟨"java/lang/StringUTF16", "compress", "([CII)[B"⟩ : MethodName) = true := by first | exact plainFor_of_name (by first | (simp [plainName, overriddenIn]; done) | decide +kernel) | decide +kernel
theorem ef13 (x0 : Addr) (x1 : Int32) (x2 : Int32) (m : MethodId) : entryFrame m #[(.ref x0), (.int x1), (.int x2)] 6 = mkF m 0 #[.val (.ref x0), .val (.int x1), .val (.int x2), .unset, .unset, .unset] [] := by first | (simp [entryFrame, mkF, argsToLocals, Value.category, maxLocals]; done) | rfl
set_option maxRecDepth 65536 in
set_option maxHeartbeats 40000000 in
theorem rm13 (l : Launch) (Z : State) (a0 : Array Value) (hw : ∀ d ∈ tables_1, d.before a0 Z = true) (ws : List Jvm.Cond) (t : Addr) (x : Int32) (kC : ClassId) (h0 : Heap) (VX : Arv Z h0 t kC .char 1 [.int x] (.int 0)) (hx1 : ¬ (255 : Int32) < x) : Ct l Z (⟨"java/lang/StringUTF16", "compress", "([CII)[B"⟩ : MethodName) jdk_52_method_16_code 6 (some (.array .byte)) ws ({ frames := 1, cells := 1, slots := 1, locals := 18 } : Room) #[(.ref t), (.int (0 : Int32)), (.int (1 : Int32))] h0 (fun v h L => ∃ b kb vs, v = some (.ref b) ∧ h0.size ≤ b ∧ (∀ y ∈ L, y.base = b) ∧ Keep h0 h [] ∧ Arv Z h b kb .byte 1 vs (.int 0)) := by
  refine Ct.of (pn13) _ (ef13 t ((0 : Int32)) ((1 : Int32))) ?_
  intro p e s m below meth c T0 hx hby hml hZ hown hnm hret hk e0 X0
  show Go p e below _ (T0.setTop (mkF m 0 #[.val (.ref t), .val (.int (0 : Int32)), .val (.int (1 : Int32)), .unset, .unset, .unset] []))
  refine go_iloadn X0 hx (dc hby d13_0) (v := (1 : Int32)) rfl ?_
  refine go_newP X0 hx hZ (hw _ (List.mem_of_getElem? (i := 69) rfl)) e0 (dc hby d13_1) (by decide) 1 (by decide) (by decide) (by decide) (by decide) (fun T1 h1 kb b g1 X1 e1 E1 A1 => ?_)
  refine go_astoren X1 hx #[.val (.ref t), .val (.int (0 : Int32)), .val (.int (1 : Int32)), .val (.ref b), .unset, .unset] (dc hby d13_3) rfl rfl ?_
  refine go_aloadn X1 hx (dc hby d13_4) (v := (.ref t)) rfl rfl ?_
  refine go_iloadn X1 hx (dc hby d13_5) (v := (0 : Int32)) rfl ?_
  refine go_aloadn X1 hx (dc hby d13_6) (v := (.ref b)) rfl rfl ?_
  refine go_iconst X1 hx (0) (dc hby d13_7) rfl ?_
  refine go_iloadn X1 hx (dc hby d13_8) (v := (1 : Int32)) rfl ?_
  have gb : h0.size ≤ b := Nat.le_of_eq g1.symm
  have VB : Arv Z h1 b kb .byte 1 [.int 0] (.int 0) := (Arv.new A1 (by decide)).pad (own_rep (n := 1))
  refine go_static X1 hx hZ hown (hw _ (List.mem_of_getElem? (i := 91) rfl)) (hw _ (List.mem_of_getElem? (i := 92) rfl)) (hw _ (List.mem_of_getElem? (i := 89) rfl)) (hw _ (List.mem_of_getElem? (i := 93) rfl)) (by decide) e1 [(.ref t), (.int (0 : Int32)), (.ref b), (.int (0 : Int32)), (.int (1 : Int32))] [] (rm14 l Z a0 hw [] t b x kC kb h1 (VX.ext E1) hx1 VB) pd14 rfl (by rw [hml]; rfl) rfl 0 (Nat.le_of_eq rfl) (by decide) (by decide) (by decide) (by decide) (dc hby d13_9) (fun T2 v2 L2 X2 hQ2 => ?_)
  obtain ⟨rfl, N2, K2, vs, VV⟩ := hQ2
  show Go p e below _ (T2.setTop (mkF m 12 #[.val (.ref t), .val (.int (0 : Int32)), .val (.int (1 : Int32)), .val (.ref b), .unset, .unset] [(.int (1 : Int32))]))
  refine go_istore X2 hx #[.val (.ref t), .val (.int (0 : Int32)), .val (.int (1 : Int32)), .val (.ref b), .val (.int (1 : Int32)), .unset] (dc hby d13_12) rfl ?_
  refine go_iload X2 hx (dc hby d13_14) (v := (1 : Int32)) rfl ?_
  refine go_iloadn X2 hx (dc hby d13_16) (v := (1 : Int32)) rfl ?_
  refine go_icmp_eq X2 hx (db hby d13_17) (fun c17 => ?_) (fun c17 => absurd c17 (by decide))
  refine go_aloadn X2 hx (dc hby d13_57) (v := (.ref b)) rfl rfl ?_
  exact go_retA X2 hx hret rfl rfl (dc hby d13_58) hk (by decide) (by decide) ⟨b, kb, vs, rfl, gb, fun y hy => N2 y (by simpa using hy), ((Keep.refl _ _).ext E1).trans K2 (fun x hx => Or.inr (by simp at hx; rw [hx]; exact gb)), VV⟩
theorem pd13 : parseMethodDescriptor "([CII)[B" = some ⟨[(.array .char), .int, .int], some (.array .byte)⟩ := by decide +kernel
theorem d15_0 : Dec jdk_52_method_15_code 0 (.iload_n 1) 1 1 := ⟨by decide +kernel, rfl⟩
theorem d15_1 : Dec jdk_52_method_15_code 1 (.aload_n 0) 1 2 := ⟨by decide +kernel, rfl⟩
theorem d15_2 : Dec jdk_52_method_15_code 2 (.arraylength) 1 3 := ⟨by decide +kernel, rfl⟩
theorem d15_3 : Dec jdk_52_method_15_code 3 (.isub) 1 4 := ⟨by decide +kernel, rfl⟩
theorem d15_4 : Dec jdk_52_method_15_code 4 (.bipush 31) 2 6 := ⟨by decide +kernel, rfl⟩
theorem d15_6 : Dec jdk_52_method_15_code 6 (.iushr) 1 7 := ⟨by decide +kernel, rfl⟩
theorem d15_7 : Dec jdk_52_method_15_code 7 (.i2b) 1 8 := ⟨by decide +kernel, rfl⟩
theorem d15_8 : Dec jdk_52_method_15_code 8 (.ireturn) 1 9 := ⟨by decide +kernel, rfl⟩
theorem pn15 : plainFor (⟨"java/lang/StringUTF16", "coderFromArrayLen", "([BI)B"⟩ : MethodName) = true := by first | exact plainFor_of_name (by first | (simp [plainName, overriddenIn]; done) | decide +kernel) | decide +kernel
theorem ef15 (x0 : Addr) (x1 : Int32) (m : MethodId) : entryFrame m #[(.ref x0), (.int x1)] 2 = mkF m 0 #[.val (.ref x0), .val (.int x1)] [] := by first | (simp [entryFrame, mkF, argsToLocals, Value.category, maxLocals]; done) | rfl
set_option maxRecDepth 65536 in
set_option maxHeartbeats 40000000 in
theorem rm15 (l : Launch) (Z : State) (a0 : Array Value) (hw : ∀ d ∈ tables_1, d.before a0 Z = true) (ws : List Jvm.Cond) (b : Addr) (kb : ClassId) (vs : List Value) (h0 : Heap) (VB : Arv Z h0 b kb .byte 1 vs (.int 0)) : Ct l Z (⟨"java/lang/StringUTF16", "coderFromArrayLen", "([BI)B"⟩ : MethodName) jdk_52_method_15_code 2 (some .byte) ws ({ frames := 0, cells := 0, slots := 0, locals := 0 } : Room) #[(.ref b), (.int (1 : Int32))] h0 (QP (.int 0) h0) := by
  refine Ct.of (pn15) _ (ef15 b ((1 : Int32))) ?_
  intro p e s m below meth c T0 hx hby hml hZ hown hnm hret hk e0 X0
  show Go p e below _ (T0.setTop (mkF m 0 #[.val (.ref b), .val (.int (1 : Int32))] []))
  refine go_iloadn X0 hx (dc hby d15_0) (v := (1 : Int32)) rfl ?_
  refine go_aloadn X0 hx (dc hby d15_1) (v := (.ref b)) rfl rfl ?_
  have VQ1 := VB
  obtain ⟨cQ1, AQ1, _, SQ1, zQ1, _, _⟩ := VQ1
  refine go_alen X0 hx hZ e0 AQ1 SQ1 zQ1 (dc hby d15_2) ?_
  refine go_isub X0 hx (dc hby d15_3) ?_
  refine go_bipush X0 hx (31) (dc hby d15_4) rfl ?_
  refine go_iushr X0 hx (dc hby d15_6) ?_
  refine go_i2b X0 hx (dc hby d15_7) ?_
  exact go_retN X0 hx hret (by simp) (dc hby d15_8) hk (by decide) (by decide) ⟨rfl, e0, rfl⟩
theorem pd15 : parseMethodDescriptor "([BI)B" = some ⟨[(.array .byte), .int], some .byte⟩ := by decide +kernel
theorem d11_0 : Dec jdk_42_method_149_code 0 (.aload_n 0) 1 1 := ⟨by decide +kernel, rfl⟩
theorem d11_1 : Dec jdk_42_method_149_code 1 (.invokespecial 1) 3 4 := ⟨by decide +kernel, rfl⟩
theorem d11_4 : Dec jdk_42_method_149_code 4 (.iload_n 3) 1 5 := ⟨by decide +kernel, rfl⟩
theorem d11_5 : DecB jdk_42_method_149_code 5 (.ifCond .ne 22) (22) 8 27 := ⟨by decide +kernel, rfl, by decide, by decide⟩
theorem d11_8 : Dec jdk_42_method_149_code 8 (.aload_n 0) 1 9 := ⟨by decide +kernel, rfl⟩
theorem d11_9 : Dec jdk_42_method_149_code 9 (.ldc 7) 2 11 := ⟨by decide +kernel, rfl⟩
theorem d11_11 : Dec jdk_42_method_149_code 11 (.getfield 9) 3 14 := ⟨by decide +kernel, rfl⟩
theorem d11_14 : Dec jdk_42_method_149_code 14 (.putfield 9) 3 17 := ⟨by decide +kernel, rfl⟩
theorem d11_17 : Dec jdk_42_method_149_code 17 (.aload_n 0) 1 18 := ⟨by decide +kernel, rfl⟩
theorem d11_18 : Dec jdk_42_method_149_code 18 (.ldc 7) 2 20 := ⟨by decide +kernel, rfl⟩
theorem d11_20 : Dec jdk_42_method_149_code 20 (.getfield 15) 3 23 := ⟨by decide +kernel, rfl⟩
theorem d11_23 : Dec jdk_42_method_149_code 23 (.putfield 15) 3 26 := ⟨by decide +kernel, rfl⟩
theorem d11_26 : Dec jdk_42_method_149_code 26 (.return_) 1 27 := ⟨by decide +kernel, rfl⟩
theorem d11_27 : Dec jdk_42_method_149_code 27 (.getstatic 38) 3 30 := ⟨by decide +kernel, rfl⟩
theorem d11_30 : DecB jdk_42_method_149_code 30 (.ifCond .eq 28) (28) 33 58 := ⟨by decide +kernel, rfl, by decide, by decide⟩
theorem d11_33 : Dec jdk_42_method_149_code 33 (.aload_n 1) 1 34 := ⟨by decide +kernel, rfl⟩
theorem d11_34 : Dec jdk_42_method_149_code 34 (.iload_n 2) 1 35 := ⟨by decide +kernel, rfl⟩
theorem d11_35 : Dec jdk_42_method_149_code 35 (.iload_n 3) 1 36 := ⟨by decide +kernel, rfl⟩
theorem d11_36 : Dec jdk_42_method_149_code 36 (.invokestatic 177) 3 39 := ⟨by decide +kernel, rfl⟩
theorem d11_39 : Dec jdk_42_method_149_code 39 (.astore 5) 2 41 := ⟨by decide +kernel, rfl⟩
theorem d11_41 : Dec jdk_42_method_149_code 41 (.aload_n 0) 1 42 := ⟨by decide +kernel, rfl⟩
theorem d11_42 : Dec jdk_42_method_149_code 42 (.aload 5) 2 44 := ⟨by decide +kernel, rfl⟩
theorem d11_44 : Dec jdk_42_method_149_code 44 (.iload_n 3) 1 45 := ⟨by decide +kernel, rfl⟩
theorem d11_45 : Dec jdk_42_method_149_code 45 (.invokestatic 47) 3 48 := ⟨by decide +kernel, rfl⟩
theorem d11_48 : Dec jdk_42_method_149_code 48 (.putfield 15) 3 51 := ⟨by decide +kernel, rfl⟩
theorem d11_51 : Dec jdk_42_method_149_code 51 (.aload_n 0) 1 52 := ⟨by decide +kernel, rfl⟩
theorem d11_52 : Dec jdk_42_method_149_code 52 (.aload 5) 2 54 := ⟨by decide +kernel, rfl⟩
theorem d11_54 : Dec jdk_42_method_149_code 54 (.putfield 9) 3 57 := ⟨by decide +kernel, rfl⟩
theorem d11_57 : Dec jdk_42_method_149_code 57 (.return_) 1 58 := ⟨by decide +kernel, rfl⟩
theorem pn11 : plainFor (⟨"java/lang/String", "<init>", "([CIILjava/lang/Void;)V"⟩ : MethodName) = true := by first | exact plainFor_of_name (by first | (simp [plainName, overriddenIn]; done) | decide +kernel) | decide +kernel
theorem ef11 (x0 : Addr) (x1 : Addr) (x2 : Int32) (x3 : Int32) (m : MethodId) : entryFrame m #[(.ref x0), (.ref x1), (.int x2), (.int x3), .null] 6 = mkF m 0 #[.val (.ref x0), .val (.ref x1), .val (.int x2), .val (.int x3), .val .null, .unset] [] := by first | (simp [entryFrame, mkF, argsToLocals, Value.category, maxLocals]; done) | rfl
set_option maxRecDepth 65536 in
set_option maxHeartbeats 40000000 in
theorem rm11 (l : Launch) (Z : State) (a0 : Array Value) (hw : ∀ d ∈ tables_1, d.before a0 Z = true) (ws : List Jvm.Cond) (a ca : Addr) (h0 : Heap) (E : Exa Z h0 a "java/lang/String") (F : Fld Z h0 a "java/lang/String" "value" "[B" .null) (G : Fld Z h0 a "java/lang/String" "coder" "B" (.int 0)) : CtH l Z [("java/lang/String", 7)] (⟨"java/lang/String", "<init>", "([CIILjava/lang/Void;)V"⟩ : MethodName) jdk_42_method_149_code 6 none ws ({ frames := 1, cells := 2, slots := 4, locals := 13 } : Room) #[(.ref a), (.ref ca), (.int (0 : Int32)), (.int (0 : Int32)), .null] h0 (fun v h L => v = none ∧ (∀ y ∈ L, y.base = a) ∧ Keep h0 h [a]) := by
  refine CtH.of (pn11) _ (ef11 a ca ((0 : Int32)) ((0 : Int32))) ?_
  intro p e s m below meth c T0 hx hby hml hZ hown hnm hret hk e0 X0 hS0 H0
  show Go p e below _ (T0.setTop (mkF m 0 #[.val (.ref a), .val (.ref ca), .val (.int (0 : Int32)), .val (.int (0 : Int32)), .val .null, .unset] []))
  refine go_aloadn X0 hx (dc hby d11_0) (v := (.ref a)) rfl rfl ?_
  refine go_initO X0 hx hZ hown (hw _ (List.mem_of_getElem? (i := 67) rfl)) (hw _ (List.mem_of_getElem? (i := 12) rfl)) (hw _ (List.mem_of_getElem? (i := 13) rfl)) e0 (by rw [hml]; rfl) (dc hby d11_1) (by decide) 0 (Nat.le_of_eq rfl) (by decide) (fun T1 X1 e1 => ?_)
  refine go_iloadn X1 hx (dc hby d11_4) (v := (0 : Int32)) rfl ?_
  refine go_ifc_ne X1 hx (db hby d11_5) (fun c5 => absurd c5 (by decide)) (fun c5 => ?_)
  refine go_aloadn X1 hx (dc hby d11_8) (v := (.ref a)) rfl rfl ?_
  refine go_ldcH X1 hx hS0 (Nat.zero_le _) hZ hown (hw _ (List.mem_of_getElem? (i := 68) rfl)) (own_strW hw) (own_EW hw) (by simp) H0 e1 (by decide) (by decide) (dc hby d11_9) (fun T2 h2 la lb q2 X2 e2 E2 hS2 hk2 hZ2 ho2 FC2 FV2 LI2 => ?_)
  have hla : la ≠ a := Fld.ne FV2 (F.ext E2) (fun q => by cases q)
  refine go_getF X2 hx hZ2 (host := "") ho2 (Or.inl (hw _ (List.mem_of_getElem? (i := 74) rfl))) Via.refl e2 FV2 (dc hby d11_11) (fun T3 X3 e3 => ?_)
  refine go_putF X3 hx hZ2 (host := "") ho2 (Or.inl (hw _ (List.mem_of_getElem? (i := 74) rfl))) Via.refl e3 (F.ext E2) (E.ext E2) (Or.inr ⟨(hw _ (List.mem_of_getElem? (i := 70) rfl)), rfl, hnm⟩) (hw _ (List.mem_of_getElem? (i := 57) rfl)) (ty := .array .byte) (by decide) rfl rfl (dc hby d11_14) (fun T4 h4 X4 e4 W4 => ?_)
  refine go_aloadn X4 hx (dc hby d11_17) (v := (.ref a)) rfl rfl ?_
  have FC1 := FC2.other W4 (Or.inl hla)
  have E1 := (E.ext E2).wr W4
  have G1 : Fld Z h4 a "java/lang/String" "coder" "B" (.int 0) := (G.ext E2).other W4 (Or.inr (slot_ne (C := "java/lang/String") (Or.inr (hw _ (List.mem_of_getElem? (i := 71) rfl))) (Or.inr (hw _ (List.mem_of_getElem? (i := 70) rfl))) (by decide) (t := .byte) (by decide) (t' := .array .byte) (by decide)))
  refine go_ldcA X4 hx hZ2 ho2 (hw _ (List.mem_of_getElem? (i := 68) rfl)) LI2 (dc hby d11_18) ?_
  refine go_getF X4 hx hZ2 (host := "") ho2 (Or.inl (hw _ (List.mem_of_getElem? (i := 75) rfl))) Via.refl e4 FC1 (dc hby d11_20) (fun T5 X5 e5 => ?_)
  refine go_putF X5 hx hZ2 (host := "") ho2 (Or.inl (hw _ (List.mem_of_getElem? (i := 75) rfl))) Via.refl e5 G1 E1 (Or.inr ⟨(hw _ (List.mem_of_getElem? (i := 71) rfl)), rfl, hnm⟩) (hw _ (List.mem_of_getElem? (i := 57) rfl)) (ty := .byte) (by decide) rfl rfl (dc hby d11_23) (fun T6 h6 X6 e6 W6 => ?_)
  have hkZ : q2 ≤ T6.heap.size := by rw [e6, W6.size, W4.size]; exact hk2
  subst e6
  exact go_retVW X6 hx hS2 hkZ hret (dc hby d11_26) hk (by decide) (by decide) ⟨rfl, fun y hy => by simp at hy; rcases hy with rfl | rfl <;> rfl, (((Keep.refl _ _).ext E2).wr W4 (Or.inl (by simp))).wr W6 (Or.inl (by simp))⟩
theorem pd11 : parseMethodDescriptor "([CIILjava/lang/Void;)V" = some ⟨[(.array .char), .int, .int, (.object "java/lang/Void")], none⟩ := by decide +kernel
theorem ef11n (a t : Addr) (m : MethodId) : entryFrame m #[(.ref a), (.ref t), (.int 0), (.int 1), .null] 6 = mkF m 0 #[.val (.ref a), .val (.ref t), .val (.int 0), .val (.int 1), .val .null, .unset] [] := by first | (simp [entryFrame, mkF, argsToLocals, Value.category, maxLocals]; done) | rfl
set_option maxRecDepth 65536 in
set_option maxHeartbeats 40000000 in
theorem rm11n (l : Launch) (Z : State) (a0 : Array Value) (hw : ∀ d ∈ tables_1, d.before a0 Z = true) (ws : List Jvm.Cond) (a t : Addr) (x : Int32) (kC : ClassId) (cs : Int32) (h0 : Heap) (E : Exa Z h0 a "java/lang/String") (F : Fld Z h0 a "java/lang/String" "value" "[B" .null) (G : Fld Z h0 a "java/lang/String" "coder" "B" (.int 0)) (VX : Arv Z h0 t kC .char 1 [.int x] (.int 0)) (hx1 : ¬ (255 : Int32) < x) (hcs : ¬ cs = 0) (SC : Sta Z h0 "java/lang/String" "COMPACT_STRINGS" "Z" (.int cs)) : Ct l Z (⟨"java/lang/String", "<init>", "([CIILjava/lang/Void;)V"⟩ : MethodName) jdk_42_method_149_code 6 none ws ({ frames := 2, cells := 1, slots := 1, locals := 35 } : Room) #[(.ref a), (.ref t), (.int (0 : Int32)), (.int (1 : Int32)), .null] h0 (fun v h L => v = none ∧ (∀ y ∈ L, y.base = a ∨ h0.size ≤ y.base) ∧ Keep h0 h [a]) := by
  refine Ct.of (pn11) _ (ef11n a t) ?_
  intro p e s m below meth c T0 hx hby hml hZ hown hnm hret hk e0 X0
  show Go p e below _ (T0.setTop (mkF m 0 #[.val (.ref a), .val (.ref t), .val (.int (0 : Int32)), .val (.int (1 : Int32)), .val .null, .unset] []))
  refine go_aloadn X0 hx (dc hby d11_0) (v := (.ref a)) rfl rfl ?_
  refine go_initO X0 hx hZ hown (hw _ (List.mem_of_getElem? (i := 67) rfl)) (hw _ (List.mem_of_getElem? (i := 12) rfl)) (hw _ (List.mem_of_getElem? (i := 13) rfl)) e0 (by rw [hml]; rfl) (dc hby d11_1) (by decide) 0 (Nat.le_of_eq rfl) (by decide) (fun T1 X1 e1 => ?_)
  refine go_iloadn X1 hx (dc hby d11_4) (v := (1 : Int32)) rfl ?_
  refine go_ifc_ne X1 hx (db hby d11_5) (fun c5 => ?_) (fun c5 => absurd c5 (by decide))
  refine go_getS X1 hx hZ (host := "") hown (hw _ (List.mem_of_getElem? (i := 86) rfl)) Via.refl e1 SC (dc hby d11_27) (fun T2 X2 e2 => ?_)
  refine go_ifc_eq X2 hx (db hby d11_30) (fun c30 => absurd c30 hcs) (fun c30 => ?_)
  refine go_aloadn X2 hx (dc hby d11_33) (v := (.ref t)) rfl rfl ?_
  refine go_iloadn X2 hx (dc hby d11_34) (v := (0 : Int32)) rfl ?_
  refine go_iloadn X2 hx (dc hby d11_35) (v := (1 : Int32)) rfl ?_
  refine go_static X2 hx hZ hown (hw _ (List.mem_of_getElem? (i := 87) rfl)) (hw _ (List.mem_of_getElem? (i := 88) rfl)) (hw _ (List.mem_of_getElem? (i := 89) rfl)) (hw _ (List.mem_of_getElem? (i := 90) rfl)) (by decide) e2 [(.ref t), (.int (0 : Int32)), (.int (1 : Int32))] [] (rm13 l Z a0 hw [] t x kC h0 VX hx1) pd13 rfl (by rw [hml]; rfl) rfl 0 (Nat.le_of_eq rfl) (by decide) (by decide) (by decide) (by decide) (dc hby d11_36) (fun T3 v3 L3 X3 hQ3 => ?_)
  obtain ⟨b, kb, vs, rfl, gb, N3, K3, VV⟩ := hQ3
  show Go p e below _ (T3.setTop (mkF m 39 #[.val (.ref a), .val (.ref t), .val (.int (0 : Int32)), .val (.int (1 : Int32)), .val .null, .unset] [(.ref b)]))
  refine go_astore X3 hx #[.val (.ref a), .val (.ref t), .val (.int (0 : Int32)), .val (.int (1 : Int32)), .val .null, .val (.ref b)] (dc hby d11_39) rfl rfl ?_
  refine go_aloadn X3 hx (dc hby d11_41) (v := (.ref a)) rfl rfl ?_
  refine go_aload X3 hx (dc hby d11_42) (v := (.ref b)) rfl rfl ?_
  refine go_iloadn X3 hx (dc hby d11_44) (v := (1 : Int32)) rfl ?_
  have E1 := E.keep K3
  have F1 := F.keep K3 (by simp)
  have G1 := G.keep K3 (by simp)
  refine go_staticP X3 hx hZ hown (hw _ (List.mem_of_getElem? (i := 94) rfl)) (hw _ (List.mem_of_getElem? (i := 95) rfl)) (hw _ (List.mem_of_getElem? (i := 89) rfl)) (hw _ (List.mem_of_getElem? (i := 96) rfl)) (by decide) rfl [(.ref b), (.int (1 : Int32))] [(.ref a)] (r := (.int (0 : Int32))) (rm15 l Z a0 hw [] b kb vs T3.heap VV) pd15 rfl (by rw [hml]; rfl) rfl 1 (Nat.le_of_eq rfl) (by decide) (by decide) rfl rfl (by decide) (by decide) (dc hby d11_45) (fun T4 X4 e4 => ?_)
  refine go_putF X4 hx hZ (host := "") hown (Or.inl (hw _ (List.mem_of_getElem? (i := 75) rfl))) Via.refl e4 G1 E1 (Or.inr ⟨(hw _ (List.mem_of_getElem? (i := 71) rfl)), rfl, hnm⟩) (hw _ (List.mem_of_getElem? (i := 57) rfl)) (ty := .byte) (by decide) rfl rfl (dc hby d11_48) (fun T5 h5 X5 e5 W5 => ?_)
  refine go_aloadn X5 hx (dc hby d11_51) (v := (.ref a)) rfl rfl ?_
  refine go_aload X5 hx (dc hby d11_52) (v := (.ref b)) rfl rfl ?_
  have E2 := E1.wr W5
  have F2 := F1.other W5 (Or.inr (slot_ne (C := "java/lang/String") (Or.inr (hw _ (List.mem_of_getElem? (i := 71) rfl))) (Or.inr (hw _ (List.mem_of_getElem? (i := 70) rfl))) (by decide) (t := .byte) (by decide) (t' := .array .byte) (by decide)).symm)
  refine go_putF X5 hx hZ (host := "") hown (Or.inl (hw _ (List.mem_of_getElem? (i := 74) rfl))) Via.refl e5 F2 E2 (Or.inr ⟨(hw _ (List.mem_of_getElem? (i := 70) rfl)), rfl, hnm⟩) (hw _ (List.mem_of_getElem? (i := 57) rfl)) (ty := .array .byte) (by decide) rfl rfl (dc hby d11_54) (fun T6 h6 X6 e6 W6 => ?_)
  subst e6
  exact go_retV X6 hx hret (dc hby d11_57) hk (by decide) (by decide) ⟨rfl, fun y hy => by
      simp only [List.nil_append, List.mem_append, List.mem_singleton] at hy
      rcases hy with (hy | rfl) | rfl
      · exact Or.inr (by rw [N3 y hy]; exact gb)
      · exact Or.inl rfl
      · exact Or.inl rfl, (((Keep.refl h0 [a]).trans K3 (by simp)).wr W5 (Or.inl (by simp))).wr W6 (Or.inl (by simp))⟩
theorem d10_0 : Dec jdk_42_method_3_code 0 (.aload_n 0) 1 1 := ⟨by decide +kernel, rfl⟩
theorem d10_1 : Dec jdk_42_method_3_code 1 (.aload_n 1) 1 2 := ⟨by decide +kernel, rfl⟩
theorem d10_2 : Dec jdk_42_method_3_code 2 (.iconst 0) 1 3 := ⟨by decide +kernel, rfl⟩
theorem d10_3 : Dec jdk_42_method_3_code 3 (.aload_n 1) 1 4 := ⟨by decide +kernel, rfl⟩
theorem d10_4 : Dec jdk_42_method_3_code 4 (.arraylength) 1 5 := ⟨by decide +kernel, rfl⟩
theorem d10_5 : Dec jdk_42_method_3_code 5 (.aconst_null) 1 6 := ⟨by decide +kernel, rfl⟩
theorem d10_6 : Dec jdk_42_method_3_code 6 (.invokespecial 27) 3 9 := ⟨by decide +kernel, rfl⟩
theorem d10_9 : Dec jdk_42_method_3_code 9 (.return_) 1 10 := ⟨by decide +kernel, rfl⟩
theorem pn10 : plainFor (⟨"java/lang/String", "<init>", "([C)V"⟩ : MethodName) = true := by first | exact plainFor_of_name (by first | (simp [plainName, overriddenIn]; done) | decide +kernel) | decide +kernel
theorem ef10 (x0 : Addr) (x1 : Addr) (m : MethodId) : entryFrame m #[(.ref x0), (.ref x1)] 2 = mkF m 0 #[.val (.ref x0), .val (.ref x1)] [] := by first | (simp [entryFrame, mkF, argsToLocals, Value.category, maxLocals]; done) | rfl
set_option maxRecDepth 65536 in
set_option maxHeartbeats 40000000 in
theorem rm10 (l : Launch) (Z : State) (a0 : Array Value) (hw : ∀ d ∈ tables_1, d.before a0 Z = true) (ws : List Jvm.Cond) (a ca : Addr) (kC : ClassId) (h0 : Heap) (E : Exa Z h0 a "java/lang/String") (F : Fld Z h0 a "java/lang/String" "value" "[B" .null) (G : Fld Z h0 a "java/lang/String" "coder" "B" (.int 0)) (A : Arr Z h0 ca (newA kC .char 0) .char) : CtH l Z [("java/lang/String", 7)] (⟨"java/lang/String", "<init>", "([C)V"⟩ : MethodName) jdk_42_method_3_code 2 none ws ({ frames := 2, cells := 2, slots := 4, locals := 30 } : Room) #[(.ref a), (.ref ca)] h0 (fun v h L => v = none ∧ (∀ y ∈ L, y.base = a) ∧ Keep h0 h [a]) := by
  refine CtH.of (pn10) _ (ef10 a ca) ?_
  intro p e s m below meth c T0 hx hby hml hZ hown hnm hret hk e0 X0 hS0 H0
  show Go p e below _ (T0.setTop (mkF m 0 #[.val (.ref a), .val (.ref ca)] []))
  refine go_aloadn X0 hx (dc hby d10_0) (v := (.ref a)) rfl rfl ?_
  refine go_aloadn X0 hx (dc hby d10_1) (v := (.ref ca)) rfl rfl ?_
  refine go_iconst X0 hx (0) (dc hby d10_2) rfl ?_
  refine go_aloadn X0 hx (dc hby d10_3) (v := (.ref ca)) rfl rfl ?_
  refine go_alen X0 hx hZ e0 A (sz_new _ _ _) (by decide) (dc hby d10_4) ?_
  refine go_aconstnull X0 hx (dc hby d10_5) ?_
  refine go_specialH X0 hx hS0 (Nat.zero_le _) hZ rfl hown (hw _ (List.mem_of_getElem? (i := 63) rfl)) (hw _ (List.mem_of_getElem? (i := 64) rfl)) (hw _ (List.mem_of_getElem? (i := 58) rfl)) (hw _ (List.mem_of_getElem? (i := 66) rfl)) (by decide) (own_EW hw) H0 e0 (a := a) [(.ref ca), (.int (0 : Int32)), (.int (0 : Int32)), .null] [] (rm11 l Z a0 hw [] a ca h0 E F G) pd11 rfl (by rw [hml]; rfl) rfl 0 (Nat.le_of_eq rfl) (by decide) (by decide) (by decide) (by decide) (dc hby d10_6) (fun T1 v1 L1 X1 hS1 hZ1 ho1 hQ1 => ?_)
  obtain ⟨rfl, N1, K1⟩ := hQ1
  show Go p e below _ (T1.setTop (mkF m 9 #[.val (.ref a), .val (.ref ca)] []))
  exact go_retVW X1 hx hS1 (Nat.le_refl _) hret (dc hby d10_9) hk (by decide) (by decide) ⟨rfl, fun y hy => N1 y (by simpa using hy), K1⟩
theorem pd10 : parseMethodDescriptor "([C)V" = some ⟨[(.array .char)], none⟩ := by decide +kernel
set_option maxRecDepth 65536 in
set_option maxHeartbeats 40000000 in
theorem rm10n (l : Launch) (Z : State) (a0 : Array Value) (hw : ∀ d ∈ tables_1, d.before a0 Z = true) (ws : List Jvm.Cond) (a t : Addr) (x : Int32) (kC : ClassId) (cs : Int32) (h0 : Heap) (E : Exa Z h0 a "java/lang/String") (F : Fld Z h0 a "java/lang/String" "value" "[B" .null) (G : Fld Z h0 a "java/lang/String" "coder" "B" (.int 0)) (VX : Arv Z h0 t kC .char 1 [.int x] (.int 0)) (hx1 : ¬ (255 : Int32) < x) (hcs : ¬ cs = 0) (SC : Sta Z h0 "java/lang/String" "COMPACT_STRINGS" "Z" (.int cs)) : Ct l Z (⟨"java/lang/String", "<init>", "([C)V"⟩ : MethodName) jdk_42_method_3_code 2 none ws ({ frames := 3, cells := 1, slots := 1, locals := 52 } : Room) #[(.ref a), (.ref t)] h0 (fun v h L => v = none ∧ (∀ y ∈ L, y.base = a ∨ h0.size ≤ y.base) ∧ Keep h0 h [a]) := by
  refine Ct.of (pn10) _ (ef10 a t) ?_
  intro p e s m below meth c T0 hx hby hml hZ hown hnm hret hk e0 X0
  show Go p e below _ (T0.setTop (mkF m 0 #[.val (.ref a), .val (.ref t)] []))
  refine go_aloadn X0 hx (dc hby d10_0) (v := (.ref a)) rfl rfl ?_
  refine go_aloadn X0 hx (dc hby d10_1) (v := (.ref t)) rfl rfl ?_
  refine go_iconst X0 hx (0) (dc hby d10_2) rfl ?_
  refine go_aloadn X0 hx (dc hby d10_3) (v := (.ref t)) rfl rfl ?_
  have VQ1 := VX
  obtain ⟨cQ1, AQ1, _, SQ1, zQ1, _, _⟩ := VQ1
  refine go_alen X0 hx hZ e0 AQ1 SQ1 zQ1 (dc hby d10_4) ?_
  refine go_aconstnull X0 hx (dc hby d10_5) ?_
  refine go_special X0 hx hZ rfl hown (hw _ (List.mem_of_getElem? (i := 63) rfl)) (hw _ (List.mem_of_getElem? (i := 64) rfl)) (hw _ (List.mem_of_getElem? (i := 58) rfl)) (hw _ (List.mem_of_getElem? (i := 66) rfl)) (by decide) e0 (a := a) [(.ref t), (.int (0 : Int32)), (.int (1 : Int32)), .null] [] (rm11n l Z a0 hw [] a t x kC cs h0 E F G VX hx1 hcs SC) pd11 rfl (by rw [hml]; rfl) rfl 0 (Nat.le_of_eq rfl) (by decide) (by decide) (by decide) (by decide) (dc hby d10_6) (fun T2 v2 L2 X2 hQ2 => ?_)
  obtain ⟨rfl, N2, K2⟩ := hQ2
  show Go p e below _ (T2.setTop (mkF m 9 #[.val (.ref a), .val (.ref t)] []))
  exact go_retV X2 hx hret (dc hby d10_9) hk (by decide) (by decide) ⟨rfl, fun y hy => N2 y (by simpa using hy), K2⟩
theorem d0_0 : Dec code 0 (.iload_n 0) 1 1 := ⟨at_0, rfl⟩
theorem d0_1 : Dec code 1 (.iconst 3) 1 2 := ⟨at_1, rfl⟩
theorem d0_2 : Dec code 2 (.iand) 1 3 := ⟨at_2, rfl⟩
theorem d0_3 : Dec code 3 (.istore 5) 2 5 := ⟨at_3, rfl⟩
theorem d0_5 : Dec code 5 (.iload_n 0) 1 6 := ⟨at_5, rfl⟩
theorem d0_6 : Dec code 6 (.iconst 2) 1 7 := ⟨at_6, rfl⟩
theorem d0_7 : Dec code 7 (.iushr) 1 8 := ⟨at_7, rfl⟩
theorem d0_8 : Dec code 8 (.iconst 1) 1 9 := ⟨at_8, rfl⟩
theorem d0_9 : Dec code 9 (.iand) 1 10 := ⟨at_9, rfl⟩
theorem d0_10 : DecB code 10 (.ifCond .eq 7) (7) 13 17 := ⟨at_10, rfl, by decide, by decide⟩
theorem d0_13 : Dec code 13 (.iconst 1) 1 14 := ⟨at_13, rfl⟩
theorem d0_14 : DecB code 14 (.goto 4) (4) 17 18 := ⟨at_14, rfl, by decide, by decide⟩
theorem d0_17 : Dec code 17 (.iconst 0) 1 18 := ⟨at_17, rfl⟩
theorem d0_18 : Dec code 18 (.istore 6) 2 20 := ⟨at_18, rfl⟩
theorem d0_20 : Dec code 20 (.iload 5) 2 22 := ⟨at_20, rfl⟩
theorem d0_22 : DecB code 22 (.ifCond .ne 9) (9) 25 31 := ⟨at_22, rfl, by decide, by decide⟩
theorem d0_25 : Dec code 25 (.aconst_null) 1 26 := ⟨at_25, rfl⟩
theorem d0_26 : Dec code 26 (.astore 7) 2 28 := ⟨at_26, rfl⟩
theorem d0_28 : DecB code 28 (.goto 75) (75) 31 103 := ⟨at_28, rfl, by decide, by decide⟩
theorem d0_31 : Dec code 31 (.iload 5) 2 33 := ⟨at_31, rfl⟩
theorem d0_33 : Dec code 33 (.iconst 1) 1 34 := ⟨at_33, rfl⟩
theorem d0_34 : DecB code 34 (.if_icmp .ne 12) (12) 37 46 := ⟨at_34, rfl, by decide, by decide⟩
theorem d0_37 : Dec code 37 (.iload_n 1) 1 38 := ⟨at_37, rfl⟩
theorem d0_38 : Dec code 38 (.invokestatic 7) 3 41 := ⟨at_38, rfl⟩
theorem d0_41 : Dec code 41 (.astore 7) 2 43 := ⟨at_41, rfl⟩
theorem d0_43 : DecB code 43 (.goto 60) (60) 46 103 := ⟨at_43, rfl, by decide, by decide⟩
theorem d0_46 : Dec code 46 (.iload 5) 2 48 := ⟨at_46, rfl⟩
theorem d0_48 : Dec code 48 (.iconst 2) 1 49 := ⟨at_48, rfl⟩
theorem d0_49 : DecB code 49 (.if_icmp .ne 48) (48) 52 97 := ⟨at_49, rfl, by decide, by decide⟩
theorem d0_52 : Dec code 52 (.iload 6) 2 54 := ⟨at_52, rfl⟩
theorem d0_54 : DecB code 54 (.ifCond .eq 28) (28) 57 82 := ⟨at_54, rfl, by decide, by decide⟩
theorem d0_57 : Dec code 57 (.new 13) 3 60 := ⟨at_57, rfl⟩
theorem d0_60 : Dec code 60 (.dup) 1 61 := ⟨at_60, rfl⟩
theorem d0_61 : Dec code 61 (.iconst 1) 1 62 := ⟨at_61, rfl⟩
theorem d0_62 : Dec code 62 (.newarray .char) 2 64 := ⟨at_62, rfl⟩
theorem d0_64 : Dec code 64 (.dup) 1 65 := ⟨at_64, rfl⟩
theorem d0_65 : Dec code 65 (.iconst 0) 1 66 := ⟨at_65, rfl⟩
theorem d0_66 : Dec code 66 (.iload 4) 2 68 := ⟨at_66, rfl⟩
theorem d0_68 : Dec code 68 (.sipush 255) 3 71 := ⟨at_68, rfl⟩
theorem d0_71 : Dec code 71 (.iand) 1 72 := ⟨at_71, rfl⟩
theorem d0_72 : Dec code 72 (.i2c) 1 73 := ⟨at_72, rfl⟩
theorem d0_73 : Dec code 73 (.castore) 1 74 := ⟨at_73, rfl⟩
theorem d0_74 : Dec code 74 (.invokespecial 15) 3 77 := ⟨at_74, rfl⟩
theorem d0_77 : Dec code 77 (.astore 7) 2 79 := ⟨at_77, rfl⟩
theorem d0_79 : DecB code 79 (.goto 24) (24) 82 103 := ⟨at_79, rfl, by decide, by decide⟩
theorem d0_82 : Dec code 82 (.new 13) 3 85 := ⟨at_82, rfl⟩
theorem d0_85 : Dec code 85 (.dup) 1 86 := ⟨at_85, rfl⟩
theorem d0_86 : Dec code 86 (.iconst 0) 1 87 := ⟨at_86, rfl⟩
theorem d0_87 : Dec code 87 (.newarray .char) 2 89 := ⟨at_87, rfl⟩
theorem d0_89 : Dec code 89 (.invokespecial 15) 3 92 := ⟨at_89, rfl⟩
theorem d0_92 : Dec code 92 (.astore 7) 2 94 := ⟨at_92, rfl⟩
theorem d0_94 : DecB code 94 (.goto 9) (9) 97 103 := ⟨at_94, rfl, by decide, by decide⟩
theorem d0_97 : Dec code 97 (.lload_n 2) 1 98 := ⟨at_97, rfl⟩
theorem d0_98 : Dec code 98 (.invokestatic 18) 3 101 := ⟨at_98, rfl⟩
theorem d0_101 : Dec code 101 (.astore 7) 2 103 := ⟨at_101, rfl⟩
theorem d0_103 : Dec code 103 (.new 23) 3 106 := ⟨at_103, rfl⟩
theorem d0_106 : Dec code 106 (.dup) 1 107 := ⟨at_106, rfl⟩
theorem d0_107 : Dec code 107 (.aload 7) 2 109 := ⟨at_107, rfl⟩
theorem d0_109 : Dec code 109 (.invokespecial 25) 3 112 := ⟨at_109, rfl⟩
theorem d0_112 : Dec code 112 (.astore 8) 2 114 := ⟨at_112, rfl⟩
theorem d0_114 : Dec code 114 (.iload 5) 2 116 := ⟨at_114, rfl⟩
theorem d0_116 : DecB code 116 (.ifCond .ne 7) (7) 119 123 := ⟨at_116, rfl, by decide, by decide⟩
theorem d0_119 : Dec code 119 (.iconst 1) 1 120 := ⟨at_119, rfl⟩
theorem d0_120 : DecB code 120 (.goto 4) (4) 123 124 := ⟨at_120, rfl, by decide, by decide⟩
theorem d0_123 : Dec code 123 (.iconst 0) 1 124 := ⟨at_123, rfl⟩
theorem d0_124 : Dec code 124 (.istore 9) 2 126 := ⟨at_124, rfl⟩
theorem d0_126 : Dec code 126 (.aload 8) 2 128 := ⟨at_126, rfl⟩
theorem d0_128 : Dec code 128 (.invokevirtual 28) 3 131 := ⟨at_128, rfl⟩
theorem d0_131 : Dec code 131 (.iload 9) 2 133 := ⟨at_131, rfl⟩
theorem d0_133 : DecB code 133 (.if_icmp .ne 17) (17) 136 150 := ⟨at_133, rfl, by decide, by decide⟩
theorem d0_136 : Dec code 136 (.aload 8) 2 138 := ⟨at_136, rfl⟩
theorem d0_138 : Dec code 138 (.invokevirtual 32) 3 141 := ⟨at_138, rfl⟩
theorem d0_141 : Dec code 141 (.aload 7) 2 143 := ⟨at_141, rfl⟩
theorem d0_143 : DecB code 143 (.if_acmp .ne 7) (7) 146 150 := ⟨at_143, rfl, by decide, by decide⟩
theorem d0_146 : Dec code 146 (.iconst 1) 1 147 := ⟨at_146, rfl⟩
theorem d0_147 : DecB code 147 (.goto 4) (4) 150 151 := ⟨at_147, rfl, by decide, by decide⟩
theorem d0_151 : Dec code 151 (.ireturn) 1 152 := ⟨at_151, rfl⟩
theorem pn0 : plainFor (⟨"dev/marblebench/stream/OnNextCarriesNullPinLaw", "law", "(IIJI)Z"⟩ : MethodName) = true := by first | exact plainFor_of_name (by first | (simp [plainName, overriddenIn]; done) | decide +kernel) | decide +kernel
theorem ef0 (x0 : Int32) (x1 : Int32) (x2 : Int64) (x3 : Int32) (m : MethodId) : entryFrame m #[(.int x0), (.int x1), (.long x2), (.int x3)] maxLocals = mkF m 0 #[.val (.int x0), .val (.int x1), .val (.long x2), .second, .val (.int x3), .unset, .unset, .unset, .unset, .unset] [] := by first | (simp [entryFrame, mkF, argsToLocals, Value.category, maxLocals]; done) | rfl
set_option maxRecDepth 65536 in
set_option maxHeartbeats 40000000 in
theorem rm0 (l : Launch) (Z : State) (a0 : Array Value) (hw : ∀ d ∈ tables_1, d.before a0 Z = true) (ws : List Jvm.Cond) (p1 p2 : Int32) (p3 : Int64) (p4 cs : Int32) (ci cl : Addr) (h0 : Heap) (hcs : ¬ cs = 0) (SC : Sta Z h0 "java/lang/String" "COMPACT_STRINGS" "Z" (.int cs)) (SH : Sta Z h0 "java/lang/Integer$IntegerCache" "high" "I" (.int 127)) (SI : Sta Z h0 "java/lang/Integer$IntegerCache" "cache" "[Ljava/lang/Integer;" (.ref ci)) (CI : own_CL Z h0 ci "java/lang/Integer") (SL : Sta Z h0 "java/lang/Long$LongCache" "cache" "[Ljava/lang/Long;" (.ref cl)) (CL : own_CL Z h0 cl "java/lang/Long") : CtH l Z [("java/lang/String", 7)] x code maxLocals ret ws room_1 #[(.int p1), (.int p2), (.long p3), (.int p4)] h0 (fun v h L => v = some (.int 1) ∧ Fr h0.size L) := by
  refine CtH.of (pn0) _ (ef0 p1 p2 p3 p4) ?_
  intro p e s m below meth c T0 hx hby hml hZ hown hnm hret hk e0 X0 hS0 H0
  have K0 := Keep.refl h0 []
  have N0 := Fr.nil h0.size
  show Go p e below _ (T0.setTop (mkF m 0 #[.val (.int p1), .val (.int p2), .val (.long p3), .second, .val (.int p4), .unset, .unset, .unset, .unset, .unset] []))
  refine go_iloadn X0 hx (dc hby d0_0) (v := p1) rfl ?_
  refine go_iconst X0 hx (3) (dc hby d0_1) rfl ?_
  refine go_iand X0 hx (dc hby d0_2) ?_
  show Go p e below _ (T0.setTop (mkF m 3 #[.val (.int p1), .val (.int p2), .val (.long p3), .second, .val (.int p4), .unset, .unset, .unset, .unset, .unset] [(.int (p1 &&& (3 : Int32)))]))
  have h4 := own_four p1
  generalize p1 &&& 3 = kk at h4 ⊢
  show Go p e below _ (T0.setTop (mkF m 3 #[.val (.int p1), .val (.int p2), .val (.long p3), .second, .val (.int p4), .unset, .unset, .unset, .unset, .unset] [(.int kk)]))
  rcases h4 with rfl | rfl | rfl | rfl
  · show Go p e below _ (T0.setTop (mkF m 3 #[.val (.int p1), .val (.int p2), .val (.long p3), .second, .val (.int p4), .unset, .unset, .unset, .unset, .unset] [(.int (0 : Int32))]))
    refine go_istore X0 hx #[.val (.int p1), .val (.int p2), .val (.long p3), .second, .val (.int p4), .val (.int (0 : Int32)), .unset, .unset, .unset, .unset] (dc hby d0_3) rfl ?_
    refine go_iloadn X0 hx (dc hby d0_5) (v := p1) rfl ?_
    refine go_iconst X0 hx (2) (dc hby d0_6) rfl ?_
    refine go_iushr X0 hx (dc hby d0_7) ?_
    refine go_iconst X0 hx (1) (dc hby d0_8) rfl ?_
    refine go_iand X0 hx (dc hby d0_9) ?_
    refine go_ifc_eq X0 hx (db hby d0_10) (fun c10 => ?_) (fun c10 => ?_)
    · refine go_iconst X0 hx (0) (dc hby d0_17) rfl ?_
      refine go_istore X0 hx #[.val (.int p1), .val (.int p2), .val (.long p3), .second, .val (.int p4), .val (.int (0 : Int32)), .val (.int (0 : Int32)), .unset, .unset, .unset] (dc hby d0_18) rfl ?_
      refine go_iload X0 hx (dc hby d0_20) (v := (0 : Int32)) rfl ?_
      refine go_ifc_ne X0 hx (db hby d0_22) (fun c22 => absurd c22 (by decide)) (fun c22 => ?_)
      refine go_aconstnull X0 hx (dc hby d0_25) ?_
      refine go_astore X0 hx #[.val (.int p1), .val (.int p2), .val (.long p3), .second, .val (.int p4), .val (.int (0 : Int32)), .val (.int (0 : Int32)), .val .null, .unset, .unset] (dc hby d0_26) rfl rfl ?_
      refine go_goto X0 hx (db hby d0_28) ?_
      refine go_newO X0 hx hZ hown (hw _ (List.mem_of_getElem? (i := 0) rfl)) (hw _ (List.mem_of_getElem? (i := 1) rfl)) (hw _ (List.mem_of_getElem? (i := 2) rfl)) e0 (dc hby d0_103) (by decide) (by decide) (fun T1 h1 na g1 X1 e1 E1 A1 D1 => ?_)
      have K1_ := K0.ext E1
      refine go_dup X1 hx (dc hby d0_106) rfl ?_
      refine go_aload X1 hx (dc hby d0_107) (v := .null) rfl rfl ?_
      have gna : h0.size ≤ na := Nat.le_trans K0.1 (Nat.le_of_eq g1.symm)
      refine go_special X1 hx hZ rfl hown (hw _ (List.mem_of_getElem? (i := 3) rfl)) (hw _ (List.mem_of_getElem? (i := 4) rfl)) (hw _ (List.mem_of_getElem? (i := 2) rfl)) (hw _ (List.mem_of_getElem? (i := 5) rfl)) (by decide) e1 (a := na) [.null] [(.ref na)] (rm1 l Z a0 hw [] na .null h1 rfl A1 (D1 (Or.inr (hw _ (List.mem_of_getElem? (i := 15) rfl))) (ty := .object "java/lang/Object") (by decide))) pd1 rfl (by rw [hml]; rfl) rfl 1 (Nat.le_of_eq rfl) (by decide) (by decide) (by decide) (by decide) (dc hby d0_109) (fun T2 v2 L2 X2 hQ2 => ?_)
      obtain ⟨rfl, N2, K2, EN, FN⟩ := hQ2
      show Go p e below _ (T2.setTop (mkF m 112 #[.val (.int p1), .val (.int p2), .val (.long p3), .second, .val (.int p4), .val (.int (0 : Int32)), .val (.int (0 : Int32)), .val .null, .unset, .unset] [(.ref na)]))
      have K2_ := K1_.trans K2 (fun x hx => Or.inr (by simp at hx; rw [hx]; exact gna))
      have N3_ := Fr.app N0 (L' := L2) (fun y hy => by rw [N2 y hy]; exact gna)
      refine go_astore X2 hx #[.val (.int p1), .val (.int p2), .val (.long p3), .second, .val (.int p4), .val (.int (0 : Int32)), .val (.int (0 : Int32)), .val .null, .val (.ref na), .unset] (dc hby d0_112) rfl rfl ?_
      refine go_iload X2 hx (dc hby d0_114) (v := (0 : Int32)) rfl ?_
      refine go_ifc_ne X2 hx (db hby d0_116) (fun c116 => absurd c116 (by decide)) (fun c116 => ?_)
      refine go_iconst X2 hx (1) (dc hby d0_119) rfl ?_
      refine go_goto X2 hx (db hby d0_120) ?_
      refine go_istore X2 hx #[.val (.int p1), .val (.int p2), .val (.long p3), .second, .val (.int p4), .val (.int (0 : Int32)), .val (.int (0 : Int32)), .val .null, .val (.ref na), .val (.int (1 : Int32))] (dc hby d0_124) rfl ?_
      refine go_aload X2 hx (dc hby d0_126) (v := (.ref na)) rfl rfl ?_
      refine go_virtualP X2 hx hZ hown (hw _ (List.mem_of_getElem? (i := 16) rfl)) (hw _ (List.mem_of_getElem? (i := 17) rfl)) (hw _ (List.mem_of_getElem? (i := 19) rfl)) (hw _ (List.mem_of_getElem? (i := 18) rfl)) (hw _ (List.mem_of_getElem? (i := 2) rfl)) (hw _ (List.mem_of_getElem? (i := 20) rfl)) (by decide) rfl (a := na) EN [] [] (r := (.int (1 : Int32))) (rm4n l Z a0 hw [] na T2.heap FN) pd4 rfl (by rw [hml]; rfl) rfl 0 (Nat.le_of_eq rfl) (by decide) (by decide) rfl rfl (by decide) (by decide) (dc hby d0_128) (fun T3 X3 e3 => ?_)
      refine go_iload X3 hx (dc hby d0_131) (v := (1 : Int32)) rfl ?_
      refine go_icmp_ne X3 hx (db hby d0_133) (fun c133 => absurd c133 (by decide)) (fun c133 => ?_)
      refine go_aload X3 hx (dc hby d0_136) (v := (.ref na)) rfl rfl ?_
      refine go_virtualP X3 hx hZ hown (hw _ (List.mem_of_getElem? (i := 21) rfl)) (hw _ (List.mem_of_getElem? (i := 22) rfl)) (hw _ (List.mem_of_getElem? (i := 24) rfl)) (hw _ (List.mem_of_getElem? (i := 23) rfl)) (hw _ (List.mem_of_getElem? (i := 2) rfl)) (hw _ (List.mem_of_getElem? (i := 25) rfl)) (by decide) e3 (a := na) EN [] [] (r := .null) (rm5 l Z a0 hw [] na .null T2.heap rfl FN) pd5 rfl (by rw [hml]; rfl) rfl 0 (Nat.le_of_eq rfl) (by decide) (by decide) rfl rfl (by decide) (by decide) (dc hby d0_138) (fun T4 X4 e4 => ?_)
      refine go_aload X4 hx (dc hby d0_141) (v := .null) rfl rfl ?_
      refine go_acmp_ne X4 hx rfl rfl (db hby d0_143) (fun c143 => absurd rfl c143) (fun c143 => ?_)
      refine go_iconst X4 hx (1) (dc hby d0_146) rfl ?_
      refine go_goto X4 hx (db hby d0_147) ?_
      exact go_retNW X4 hx hS0 (by rw [e4]; exact (Nat.le_trans (Nat.le_trans (Nat.zero_le _) E1.1) K2.1)) hret (by simp) (dc hby d0_151) hk (by decide) (by decide) ⟨rfl, N3_⟩
    · refine go_iconst X0 hx (1) (dc hby d0_13) rfl ?_
      refine go_goto X0 hx (db hby d0_14) ?_
      refine go_istore X0 hx #[.val (.int p1), .val (.int p2), .val (.long p3), .second, .val (.int p4), .val (.int (0 : Int32)), .val (.int (1 : Int32)), .unset, .unset, .unset] (dc hby d0_18) rfl ?_
      refine go_iload X0 hx (dc hby d0_20) (v := (0 : Int32)) rfl ?_
      refine go_ifc_ne X0 hx (db hby d0_22) (fun c22 => absurd c22 (by decide)) (fun c22 => ?_)
      refine go_aconstnull X0 hx (dc hby d0_25) ?_
      refine go_astore X0 hx #[.val (.int p1), .val (.int p2), .val (.long p3), .second, .val (.int p4), .val (.int (0 : Int32)), .val (.int (1 : Int32)), .val .null, .unset, .unset] (dc hby d0_26) rfl rfl ?_
      refine go_goto X0 hx (db hby d0_28) ?_
      refine go_newO X0 hx hZ hown (hw _ (List.mem_of_getElem? (i := 0) rfl)) (hw _ (List.mem_of_getElem? (i := 1) rfl)) (hw _ (List.mem_of_getElem? (i := 2) rfl)) e0 (dc hby d0_103) (by decide) (by decide) (fun T5 h5 na g5 X5 e5 E5 A5 D5 => ?_)
      have K4_ := K0.ext E5
      refine go_dup X5 hx (dc hby d0_106) rfl ?_
      refine go_aload X5 hx (dc hby d0_107) (v := .null) rfl rfl ?_
      have gna : h0.size ≤ na := Nat.le_trans K0.1 (Nat.le_of_eq g5.symm)
      refine go_special X5 hx hZ rfl hown (hw _ (List.mem_of_getElem? (i := 3) rfl)) (hw _ (List.mem_of_getElem? (i := 4) rfl)) (hw _ (List.mem_of_getElem? (i := 2) rfl)) (hw _ (List.mem_of_getElem? (i := 5) rfl)) (by decide) e5 (a := na) [.null] [(.ref na)] (rm1 l Z a0 hw [] na .null h5 rfl A5 (D5 (Or.inr (hw _ (List.mem_of_getElem? (i := 15) rfl))) (ty := .object "java/lang/Object") (by decide))) pd1 rfl (by rw [hml]; rfl) rfl 1 (Nat.le_of_eq rfl) (by decide) (by decide) (by decide) (by decide) (dc hby d0_109) (fun T6 v6 L6 X6 hQ6 => ?_)
      obtain ⟨rfl, N6, K6, EN, FN⟩ := hQ6
      show Go p e below _ (T6.setTop (mkF m 112 #[.val (.int p1), .val (.int p2), .val (.long p3), .second, .val (.int p4), .val (.int (0 : Int32)), .val (.int (1 : Int32)), .val .null, .unset, .unset] [(.ref na)]))
      have K5_ := K4_.trans K6 (fun x hx => Or.inr (by simp at hx; rw [hx]; exact gna))
      have N6_ := Fr.app N0 (L' := L6) (fun y hy => by rw [N6 y hy]; exact gna)
      refine go_astore X6 hx #[.val (.int p1), .val (.int p2), .val (.long p3), .second, .val (.int p4), .val (.int (0 : Int32)), .val (.int (1 : Int32)), .val .null, .val (.ref na), .unset] (dc hby d0_112) rfl rfl ?_
      refine go_iload X6 hx (dc hby d0_114) (v := (0 : Int32)) rfl ?_
      refine go_ifc_ne X6 hx (db hby d0_116) (fun c116 => absurd c116 (by decide)) (fun c116 => ?_)
      refine go_iconst X6 hx (1) (dc hby d0_119) rfl ?_
      refine go_goto X6 hx (db hby d0_120) ?_
      refine go_istore X6 hx #[.val (.int p1), .val (.int p2), .val (.long p3), .second, .val (.int p4), .val (.int (0 : Int32)), .val (.int (1 : Int32)), .val .null, .val (.ref na), .val (.int (1 : Int32))] (dc hby d0_124) rfl ?_
      refine go_aload X6 hx (dc hby d0_126) (v := (.ref na)) rfl rfl ?_
      refine go_virtualP X6 hx hZ hown (hw _ (List.mem_of_getElem? (i := 16) rfl)) (hw _ (List.mem_of_getElem? (i := 17) rfl)) (hw _ (List.mem_of_getElem? (i := 19) rfl)) (hw _ (List.mem_of_getElem? (i := 18) rfl)) (hw _ (List.mem_of_getElem? (i := 2) rfl)) (hw _ (List.mem_of_getElem? (i := 20) rfl)) (by decide) rfl (a := na) EN [] [] (r := (.int (1 : Int32))) (rm4n l Z a0 hw [] na T6.heap FN) pd4 rfl (by rw [hml]; rfl) rfl 0 (Nat.le_of_eq rfl) (by decide) (by decide) rfl rfl (by decide) (by decide) (dc hby d0_128) (fun T7 X7 e7 => ?_)
      refine go_iload X7 hx (dc hby d0_131) (v := (1 : Int32)) rfl ?_
      refine go_icmp_ne X7 hx (db hby d0_133) (fun c133 => absurd c133 (by decide)) (fun c133 => ?_)
      refine go_aload X7 hx (dc hby d0_136) (v := (.ref na)) rfl rfl ?_
      refine go_virtualP X7 hx hZ hown (hw _ (List.mem_of_getElem? (i := 21) rfl)) (hw _ (List.mem_of_getElem? (i := 22) rfl)) (hw _ (List.mem_of_getElem? (i := 24) rfl)) (hw _ (List.mem_of_getElem? (i := 23) rfl)) (hw _ (List.mem_of_getElem? (i := 2) rfl)) (hw _ (List.mem_of_getElem? (i := 25) rfl)) (by decide) e7 (a := na) EN [] [] (r := .null) (rm5 l Z a0 hw [] na .null T6.heap rfl FN) pd5 rfl (by rw [hml]; rfl) rfl 0 (Nat.le_of_eq rfl) (by decide) (by decide) rfl rfl (by decide) (by decide) (dc hby d0_138) (fun T8 X8 e8 => ?_)
      refine go_aload X8 hx (dc hby d0_141) (v := .null) rfl rfl ?_
      refine go_acmp_ne X8 hx rfl rfl (db hby d0_143) (fun c143 => absurd rfl c143) (fun c143 => ?_)
      refine go_iconst X8 hx (1) (dc hby d0_146) rfl ?_
      refine go_goto X8 hx (db hby d0_147) ?_
      exact go_retNW X8 hx hS0 (by rw [e8]; exact (Nat.le_trans (Nat.le_trans (Nat.zero_le _) E5.1) K6.1)) hret (by simp) (dc hby d0_151) hk (by decide) (by decide) ⟨rfl, N6_⟩
  · show Go p e below _ (T0.setTop (mkF m 3 #[.val (.int p1), .val (.int p2), .val (.long p3), .second, .val (.int p4), .unset, .unset, .unset, .unset, .unset] [(.int (1 : Int32))]))
    refine go_istore X0 hx #[.val (.int p1), .val (.int p2), .val (.long p3), .second, .val (.int p4), .val (.int (1 : Int32)), .unset, .unset, .unset, .unset] (dc hby d0_3) rfl ?_
    refine go_iloadn X0 hx (dc hby d0_5) (v := p1) rfl ?_
    refine go_iconst X0 hx (2) (dc hby d0_6) rfl ?_
    refine go_iushr X0 hx (dc hby d0_7) ?_
    refine go_iconst X0 hx (1) (dc hby d0_8) rfl ?_
    refine go_iand X0 hx (dc hby d0_9) ?_
    refine go_ifc_eq X0 hx (db hby d0_10) (fun c10 => ?_) (fun c10 => ?_)
    · refine go_iconst X0 hx (0) (dc hby d0_17) rfl ?_
      refine go_istore X0 hx #[.val (.int p1), .val (.int p2), .val (.long p3), .second, .val (.int p4), .val (.int (1 : Int32)), .val (.int (0 : Int32)), .unset, .unset, .unset] (dc hby d0_18) rfl ?_
      refine go_iload X0 hx (dc hby d0_20) (v := (1 : Int32)) rfl ?_
      refine go_ifc_ne X0 hx (db hby d0_22) (fun c22 => ?_) (fun c22 => absurd c22 (by decide))
      refine go_iload X0 hx (dc hby d0_31) (v := (1 : Int32)) rfl ?_
      refine go_iconst X0 hx (1) (dc hby d0_33) rfl ?_
      refine go_icmp_ne X0 hx (db hby d0_34) (fun c34 => absurd c34 (by decide)) (fun c34 => ?_)
      refine go_iloadn X0 hx (dc hby d0_37) (v := p2) rfl ?_
      refine go_static X0 hx hZ hown (hw _ (List.mem_of_getElem? (i := 49) rfl)) (hw _ (List.mem_of_getElem? (i := 50) rfl)) (hw _ (List.mem_of_getElem? (i := 51) rfl)) (hw _ (List.mem_of_getElem? (i := 52) rfl)) (by decide) e0 [(.int p2)] [] (rm9 l Z a0 hw [] p2 ci h0 SH SI CI) pd9 rfl (by rw [hml]; rfl) rfl 0 (Nat.le_of_eq rfl) (by decide) (by decide) (by decide) (by decide) (dc hby d0_38) (fun T9 v9 L9 X9 hQ9 => ?_)
      obtain ⟨b7_, rfl, K9, N9⟩ := hQ9
      show Go p e below _ (T9.setTop (mkF m 41 #[.val (.int p1), .val (.int p2), .val (.long p3), .second, .val (.int p4), .val (.int (1 : Int32)), .val (.int (0 : Int32)), .unset, .unset, .unset] [(.ref b7_)]))
      have N8_ := Fr.app N0 (L' := L9) N9
      have K9_ := K0.trans K9 (by simp)
      refine go_astore X9 hx #[.val (.int p1), .val (.int p2), .val (.long p3), .second, .val (.int p4), .val (.int (1 : Int32)), .val (.int (0 : Int32)), .val (.ref b7_), .unset, .unset] (dc hby d0_41) rfl rfl ?_
      refine go_goto X9 hx (db hby d0_43) ?_
      refine go_newO X9 hx hZ hown (hw _ (List.mem_of_getElem? (i := 0) rfl)) (hw _ (List.mem_of_getElem? (i := 1) rfl)) (hw _ (List.mem_of_getElem? (i := 2) rfl)) rfl (dc hby d0_103) (by decide) (by decide) (fun T10 h10 na g10 X10 e10 E10 A10 D10 => ?_)
      have K10_ := K9_.ext E10
      refine go_dup X10 hx (dc hby d0_106) rfl ?_
      refine go_aload X10 hx (dc hby d0_107) (v := (.ref b7_)) rfl rfl ?_
      have gna : h0.size ≤ na := Nat.le_trans K9_.1 (Nat.le_of_eq g10.symm)
      refine go_special X10 hx hZ rfl hown (hw _ (List.mem_of_getElem? (i := 3) rfl)) (hw _ (List.mem_of_getElem? (i := 4) rfl)) (hw _ (List.mem_of_getElem? (i := 2) rfl)) (hw _ (List.mem_of_getElem? (i := 5) rfl)) (by decide) e10 (a := na) [(.ref b7_)] [(.ref na)] (rm1 l Z a0 hw [] na (.ref b7_) h10 rfl A10 (D10 (Or.inr (hw _ (List.mem_of_getElem? (i := 15) rfl))) (ty := .object "java/lang/Object") (by decide))) pd1 rfl (by rw [hml]; rfl) rfl 1 (Nat.le_of_eq rfl) (by decide) (by decide) (by decide) (by decide) (dc hby d0_109) (fun T11 v11 L11 X11 hQ11 => ?_)
      obtain ⟨rfl, N11, K11, EN, FN⟩ := hQ11
      show Go p e below _ (T11.setTop (mkF m 112 #[.val (.int p1), .val (.int p2), .val (.long p3), .second, .val (.int p4), .val (.int (1 : Int32)), .val (.int (0 : Int32)), .val (.ref b7_), .unset, .unset] [(.ref na)]))
      have K11_ := K10_.trans K11 (fun x hx => Or.inr (by simp at hx; rw [hx]; exact gna))
      have N12_ := Fr.app N8_ (L' := L11) (fun y hy => by rw [N11 y hy]; exact gna)
      refine go_astore X11 hx #[.val (.int p1), .val (.int p2), .val (.long p3), .second, .val (.int p4), .val (.int (1 : Int32)), .val (.int (0 : Int32)), .val (.ref b7_), .val (.ref na), .unset] (dc hby d0_112) rfl rfl ?_
      refine go_iload X11 hx (dc hby d0_114) (v := (1 : Int32)) rfl ?_
      refine go_ifc_ne X11 hx (db hby d0_116) (fun c116 => ?_) (fun c116 => absurd c116 (by decide))
      refine go_iconst X11 hx (0) (dc hby d0_123) rfl ?_
      refine go_istore X11 hx #[.val (.int p1), .val (.int p2), .val (.long p3), .second, .val (.int p4), .val (.int (1 : Int32)), .val (.int (0 : Int32)), .val (.ref b7_), .val (.ref na), .val (.int (0 : Int32))] (dc hby d0_124) rfl ?_
      refine go_aload X11 hx (dc hby d0_126) (v := (.ref na)) rfl rfl ?_
      refine go_virtualP X11 hx hZ hown (hw _ (List.mem_of_getElem? (i := 16) rfl)) (hw _ (List.mem_of_getElem? (i := 17) rfl)) (hw _ (List.mem_of_getElem? (i := 19) rfl)) (hw _ (List.mem_of_getElem? (i := 18) rfl)) (hw _ (List.mem_of_getElem? (i := 2) rfl)) (hw _ (List.mem_of_getElem? (i := 20) rfl)) (by decide) rfl (a := na) EN [] [] (r := (.int (0 : Int32))) (rm4r l Z a0 hw [] na b7_ T11.heap FN) pd4 rfl (by rw [hml]; rfl) rfl 0 (Nat.le_of_eq rfl) (by decide) (by decide) rfl rfl (by decide) (by decide) (dc hby d0_128) (fun T12 X12 e12 => ?_)
      refine go_iload X12 hx (dc hby d0_131) (v := (0 : Int32)) rfl ?_
      refine go_icmp_ne X12 hx (db hby d0_133) (fun c133 => absurd c133 (by decide)) (fun c133 => ?_)
      refine go_aload X12 hx (dc hby d0_136) (v := (.ref na)) rfl rfl ?_
      refine go_virtualP X12 hx hZ hown (hw _ (List.mem_of_getElem? (i := 21) rfl)) (hw _ (List.mem_of_getElem? (i := 22) rfl)) (hw _ (List.mem_of_getElem? (i := 24) rfl)) (hw _ (List.mem_of_getElem? (i := 23) rfl)) (hw _ (List.mem_of_getElem? (i := 2) rfl)) (hw _ (List.mem_of_getElem? (i := 25) rfl)) (by decide) e12 (a := na) EN [] [] (r := (.ref b7_)) (rm5 l Z a0 hw [] na (.ref b7_) T11.heap rfl FN) pd5 rfl (by rw [hml]; rfl) rfl 0 (Nat.le_of_eq rfl) (by decide) (by decide) rfl rfl (by decide) (by decide) (dc hby d0_138) (fun T13 X13 e13 => ?_)
      refine go_aload X13 hx (dc hby d0_141) (v := (.ref b7_)) rfl rfl ?_
      refine go_acmp_ne X13 hx rfl rfl (db hby d0_143) (fun c143 => absurd rfl c143) (fun c143 => ?_)
      refine go_iconst X13 hx (1) (dc hby d0_146) rfl ?_
      refine go_goto X13 hx (db hby d0_147) ?_
      exact go_retNW X13 hx hS0 (by rw [e13]; exact (Nat.le_trans (Nat.le_trans (Nat.le_trans (Nat.zero_le _) K9.1) E10.1) K11.1)) hret (by simp) (dc hby d0_151) hk (by decide) (by decide) ⟨rfl, N12_⟩
    · refine go_iconst X0 hx (1) (dc hby d0_13) rfl ?_
      refine go_goto X0 hx (db hby d0_14) ?_
      refine go_istore X0 hx #[.val (.int p1), .val (.int p2), .val (.long p3), .second, .val (.int p4), .val (.int (1 : Int32)), .val (.int (1 : Int32)), .unset, .unset, .unset] (dc hby d0_18) rfl ?_
      refine go_iload X0 hx (dc hby d0_20) (v := (1 : Int32)) rfl ?_
      refine go_ifc_ne X0 hx (db hby d0_22) (fun c22 => ?_) (fun c22 => absurd c22 (by decide))
      refine go_iload X0 hx (dc hby d0_31) (v := (1 : Int32)) rfl ?_
      refine go_iconst X0 hx (1) (dc hby d0_33) rfl ?_
      refine go_icmp_ne X0 hx (db hby d0_34) (fun c34 => absurd c34 (by decide)) (fun c34 => ?_)
      refine go_iloadn X0 hx (dc hby d0_37) (v := p2) rfl ?_
      refine go_static X0 hx hZ hown (hw _ (List.mem_of_getElem? (i := 49) rfl)) (hw _ (List.mem_of_getElem? (i := 50) rfl)) (hw _ (List.mem_of_getElem? (i := 51) rfl)) (hw _ (List.mem_of_getElem? (i := 52) rfl)) (by decide) e0 [(.int p2)] [] (rm9 l Z a0 hw [] p2 ci h0 SH SI CI) pd9 rfl (by rw [hml]; rfl) rfl 0 (Nat.le_of_eq rfl) (by decide) (by decide) (by decide) (by decide) (dc hby d0_38) (fun T14 v14 L14 X14 hQ14 => ?_)
      obtain ⟨b13_, rfl, K14, N14⟩ := hQ14
      show Go p e below _ (T14.setTop (mkF m 41 #[.val (.int p1), .val (.int p2), .val (.long p3), .second, .val (.int p4), .val (.int (1 : Int32)), .val (.int (1 : Int32)), .unset, .unset, .unset] [(.ref b13_)]))
      have N14_ := Fr.app N0 (L' := L14) N14
      have K15_ := K0.trans K14 (by simp)
      refine go_astore X14 hx #[.val (.int p1), .val (.int p2), .val (.long p3), .second, .val (.int p4), .val (.int (1 : Int32)), .val (.int (1 : Int32)), .val (.ref b13_), .unset, .unset] (dc hby d0_41) rfl rfl ?_
      refine go_goto X14 hx (db hby d0_43) ?_
      refine go_newO X14 hx hZ hown (hw _ (List.mem_of_getElem? (i := 0) rfl)) (hw _ (List.mem_of_getElem? (i := 1) rfl)) (hw _ (List.mem_of_getElem? (i := 2) rfl)) rfl (dc hby d0_103) (by decide) (by decide) (fun T15 h15 na g15 X15 e15 E15 A15 D15 => ?_)
      have K16_ := K15_.ext E15
      refine go_dup X15 hx (dc hby d0_106) rfl ?_
      refine go_aload X15 hx (dc hby d0_107) (v := (.ref b13_)) rfl rfl ?_
      have gna : h0.size ≤ na := Nat.le_trans K15_.1 (Nat.le_of_eq g15.symm)
      refine go_special X15 hx hZ rfl hown (hw _ (List.mem_of_getElem? (i := 3) rfl)) (hw _ (List.mem_of_getElem? (i := 4) rfl)) (hw _ (List.mem_of_getElem? (i := 2) rfl)) (hw _ (List.mem_of_getElem? (i := 5) rfl)) (by decide) e15 (a := na) [(.ref b13_)] [(.ref na)] (rm1 l Z a0 hw [] na (.ref b13_) h15 rfl A15 (D15 (Or.inr (hw _ (List.mem_of_getElem? (i := 15) rfl))) (ty := .object "java/lang/Object") (by decide))) pd1 rfl (by rw [hml]; rfl) rfl 1 (Nat.le_of_eq rfl) (by decide) (by decide) (by decide) (by decide) (dc hby d0_109) (fun T16 v16 L16 X16 hQ16 => ?_)
      obtain ⟨rfl, N16, K16, EN, FN⟩ := hQ16
      show Go p e below _ (T16.setTop (mkF m 112 #[.val (.int p1), .val (.int p2), .val (.long p3), .second, .val (.int p4), .val (.int (1 : Int32)), .val (.int (1 : Int32)), .val (.ref b13_), .unset, .unset] [(.ref na)]))
      have K17_ := K16_.trans K16 (fun x hx => Or.inr (by simp at hx; rw [hx]; exact gna))
      have N18_ := Fr.app N14_ (L' := L16) (fun y hy => by rw [N16 y hy]; exact gna)
      refine go_astore X16 hx #[.val (.int p1), .val (.int p2), .val (.long p3), .second, .val (.int p4), .val (.int (1 : Int32)), .val (.int (1 : Int32)), .val (.ref b13_), .val (.ref na), .unset] (dc hby d0_112) rfl rfl ?_
      refine go_iload X16 hx (dc hby d0_114) (v := (1 : Int32)) rfl ?_
      refine go_ifc_ne X16 hx (db hby d0_116) (fun c116 => ?_) (fun c116 => absurd c116 (by decide))
      refine go_iconst X16 hx (0) (dc hby d0_123) rfl ?_
      refine go_istore X16 hx #[.val (.int p1), .val (.int p2), .val (.long p3), .second, .val (.int p4), .val (.int (1 : Int32)), .val (.int (1 : Int32)), .val (.ref b13_), .val (.ref na), .val (.int (0 : Int32))] (dc hby d0_124) rfl ?_
      refine go_aload X16 hx (dc hby d0_126) (v := (.ref na)) rfl rfl ?_
      refine go_virtualP X16 hx hZ hown (hw _ (List.mem_of_getElem? (i := 16) rfl)) (hw _ (List.mem_of_getElem? (i := 17) rfl)) (hw _ (List.mem_of_getElem? (i := 19) rfl)) (hw _ (List.mem_of_getElem? (i := 18) rfl)) (hw _ (List.mem_of_getElem? (i := 2) rfl)) (hw _ (List.mem_of_getElem? (i := 20) rfl)) (by decide) rfl (a := na) EN [] [] (r := (.int (0 : Int32))) (rm4r l Z a0 hw [] na b13_ T16.heap FN) pd4 rfl (by rw [hml]; rfl) rfl 0 (Nat.le_of_eq rfl) (by decide) (by decide) rfl rfl (by decide) (by decide) (dc hby d0_128) (fun T17 X17 e17 => ?_)
      refine go_iload X17 hx (dc hby d0_131) (v := (0 : Int32)) rfl ?_
      refine go_icmp_ne X17 hx (db hby d0_133) (fun c133 => absurd c133 (by decide)) (fun c133 => ?_)
      refine go_aload X17 hx (dc hby d0_136) (v := (.ref na)) rfl rfl ?_
      refine go_virtualP X17 hx hZ hown (hw _ (List.mem_of_getElem? (i := 21) rfl)) (hw _ (List.mem_of_getElem? (i := 22) rfl)) (hw _ (List.mem_of_getElem? (i := 24) rfl)) (hw _ (List.mem_of_getElem? (i := 23) rfl)) (hw _ (List.mem_of_getElem? (i := 2) rfl)) (hw _ (List.mem_of_getElem? (i := 25) rfl)) (by decide) e17 (a := na) EN [] [] (r := (.ref b13_)) (rm5 l Z a0 hw [] na (.ref b13_) T16.heap rfl FN) pd5 rfl (by rw [hml]; rfl) rfl 0 (Nat.le_of_eq rfl) (by decide) (by decide) rfl rfl (by decide) (by decide) (dc hby d0_138) (fun T18 X18 e18 => ?_)
      refine go_aload X18 hx (dc hby d0_141) (v := (.ref b13_)) rfl rfl ?_
      refine go_acmp_ne X18 hx rfl rfl (db hby d0_143) (fun c143 => absurd rfl c143) (fun c143 => ?_)
      refine go_iconst X18 hx (1) (dc hby d0_146) rfl ?_
      refine go_goto X18 hx (db hby d0_147) ?_
      exact go_retNW X18 hx hS0 (by rw [e18]; exact (Nat.le_trans (Nat.le_trans (Nat.le_trans (Nat.zero_le _) K14.1) E15.1) K16.1)) hret (by simp) (dc hby d0_151) hk (by decide) (by decide) ⟨rfl, N18_⟩
  · show Go p e below _ (T0.setTop (mkF m 3 #[.val (.int p1), .val (.int p2), .val (.long p3), .second, .val (.int p4), .unset, .unset, .unset, .unset, .unset] [(.int (2 : Int32))]))
    refine go_istore X0 hx #[.val (.int p1), .val (.int p2), .val (.long p3), .second, .val (.int p4), .val (.int (2 : Int32)), .unset, .unset, .unset, .unset] (dc hby d0_3) rfl ?_
    refine go_iloadn X0 hx (dc hby d0_5) (v := p1) rfl ?_
    refine go_iconst X0 hx (2) (dc hby d0_6) rfl ?_
    refine go_iushr X0 hx (dc hby d0_7) ?_
    refine go_iconst X0 hx (1) (dc hby d0_8) rfl ?_
    refine go_iand X0 hx (dc hby d0_9) ?_
    refine go_ifc_eq X0 hx (db hby d0_10) (fun c10 => ?_) (fun c10 => ?_)
    · refine go_iconst X0 hx (0) (dc hby d0_17) rfl ?_
      refine go_istore X0 hx #[.val (.int p1), .val (.int p2), .val (.long p3), .second, .val (.int p4), .val (.int (2 : Int32)), .val (.int (0 : Int32)), .unset, .unset, .unset] (dc hby d0_18) rfl ?_
      refine go_iload X0 hx (dc hby d0_20) (v := (2 : Int32)) rfl ?_
      refine go_ifc_ne X0 hx (db hby d0_22) (fun c22 => ?_) (fun c22 => absurd c22 (by decide))
      refine go_iload X0 hx (dc hby d0_31) (v := (2 : Int32)) rfl ?_
      refine go_iconst X0 hx (1) (dc hby d0_33) rfl ?_
      refine go_icmp_ne X0 hx (db hby d0_34) (fun c34 => ?_) (fun c34 => absurd c34 (by decide))
      refine go_iload X0 hx (dc hby d0_46) (v := (2 : Int32)) rfl ?_
      refine go_iconst X0 hx (2) (dc hby d0_48) rfl ?_
      refine go_icmp_ne X0 hx (db hby d0_49) (fun c49 => absurd c49 (by decide)) (fun c49 => ?_)
      refine go_iload X0 hx (dc hby d0_52) (v := (0 : Int32)) rfl ?_
      refine go_ifc_eq X0 hx (db hby d0_54) (fun c54 => ?_) (fun c54 => absurd c54 (by decide))
      refine go_newO X0 hx hZ hown (hw _ (List.mem_of_getElem? (i := 56) rfl)) (hw _ (List.mem_of_getElem? (i := 57) rfl)) (hw _ (List.mem_of_getElem? (i := 58) rfl)) e0 (dc hby d0_82) (by decide) (by decide) (fun T19 h19 sa g19 X19 e19 E19 A19 D19 => ?_)
      have K19_ := K0.ext E19
      have gsa : h0.size ≤ sa := Nat.le_of_eq g19.symm
      refine go_dup X19 hx (dc hby d0_85) rfl ?_
      refine go_iconst X19 hx (0) (dc hby d0_86) rfl ?_
      refine go_newP X19 hx hZ (hw _ (List.mem_of_getElem? (i := 59) rfl)) e19 (dc hby d0_87) (by decide) 0 (by decide) (by decide) (by decide) (by decide) (fun T20 h20 kC ca g20 X20 e20 E20 A20 => ?_)
      have gca : h0.size ≤ ca := by rw [g20]; exact K19_.1
      have lsc : sa < ca := by rw [g20]; exact A19.lt
      have K20_ := K19_.ext E20
      refine go_specialH X20 hx hS0 (by rw [e20]; exact (Nat.le_trans (Nat.le_trans (Nat.zero_le _) E19.1) E20.1)) hZ rfl hown (hw _ (List.mem_of_getElem? (i := 60) rfl)) (hw _ (List.mem_of_getElem? (i := 61) rfl)) (hw _ (List.mem_of_getElem? (i := 58) rfl)) (hw _ (List.mem_of_getElem? (i := 62) rfl)) (by decide) (own_EW hw) ((H0.ext E19).ext E20) e20 (a := sa) [(.ref ca)] [(.ref sa)] (rm10 l Z a0 hw [] sa ca kC h20 (A19.ext E20) ((D19 (Or.inr (hw _ (List.mem_of_getElem? (i := 70) rfl))) (ty := .array .byte) (by decide)).ext E20) ((D19 (Or.inr (hw _ (List.mem_of_getElem? (i := 71) rfl))) (ty := .byte) (by decide)).ext E20) A20) pd10 rfl (by rw [hml]; rfl) rfl 1 (Nat.le_of_eq rfl) (by decide) (by decide) (by decide) (by decide) (dc hby d0_89) (fun T21 v21 L21 X21 hS21 hZ21 ho21 hQ21 => ?_)
      obtain ⟨rfl, N21, K21⟩ := hQ21
      show Go p e below _ (T21.setTop (mkF m 92 #[.val (.int p1), .val (.int p2), .val (.long p3), .second, .val (.int p4), .val (.int (2 : Int32)), .val (.int (0 : Int32)), .unset, .unset, .unset] [(.ref sa)]))
      have K21_ := K20_.trans K21 (fun x hx => Or.inr (by simp at hx; rw [hx]; exact gsa))
      have N22_ := Fr.app N0 (L' := L21) (fun y hy => by rw [N21 y hy]; exact gsa)
      refine go_astore X21 hx #[.val (.int p1), .val (.int p2), .val (.long p3), .second, .val (.int p4), .val (.int (2 : Int32)), .val (.int (0 : Int32)), .val (.ref sa), .unset, .unset] (dc hby d0_92) rfl rfl ?_
      refine go_goto X21 hx (db hby d0_94) ?_
      refine go_newO X21 hx hZ21 ho21 (hw _ (List.mem_of_getElem? (i := 0) rfl)) (hw _ (List.mem_of_getElem? (i := 1) rfl)) (hw _ (List.mem_of_getElem? (i := 2) rfl)) rfl (dc hby d0_103) (by decide) (by decide) (fun T22 h22 na g22 X22 e22 E22 A22 D22 => ?_)
      have K23_ := K21_.ext E22
      refine go_dup X22 hx (dc hby d0_106) rfl ?_
      refine go_aload X22 hx (dc hby d0_107) (v := (.ref sa)) rfl rfl ?_
      have gna : h0.size ≤ na := Nat.le_trans K21_.1 (Nat.le_of_eq g22.symm)
      refine go_special X22 hx hZ21 rfl ho21 (hw _ (List.mem_of_getElem? (i := 3) rfl)) (hw _ (List.mem_of_getElem? (i := 4) rfl)) (hw _ (List.mem_of_getElem? (i := 2) rfl)) (hw _ (List.mem_of_getElem? (i := 5) rfl)) (by decide) e22 (a := na) [(.ref sa)] [(.ref na)] (rm1 l Z a0 hw [] na (.ref sa) h22 rfl A22 (D22 (Or.inr (hw _ (List.mem_of_getElem? (i := 15) rfl))) (ty := .object "java/lang/Object") (by decide))) pd1 rfl (by rw [hml]; rfl) rfl 1 (Nat.le_of_eq rfl) (by decide) (by decide) (by decide) (by decide) (dc hby d0_109) (fun T23 v23 L23 X23 hQ23 => ?_)
      obtain ⟨rfl, N23, K23, EN, FN⟩ := hQ23
      show Go p e below _ (T23.setTop (mkF m 112 #[.val (.int p1), .val (.int p2), .val (.long p3), .second, .val (.int p4), .val (.int (2 : Int32)), .val (.int (0 : Int32)), .val (.ref sa), .unset, .unset] [(.ref na)]))
      have K24_ := K23_.trans K23 (fun x hx => Or.inr (by simp at hx; rw [hx]; exact gna))
      have N25_ := Fr.app N22_ (L' := L23) (fun y hy => by rw [N23 y hy]; exact gna)
      refine go_astore X23 hx #[.val (.int p1), .val (.int p2), .val (.long p3), .second, .val (.int p4), .val (.int (2 : Int32)), .val (.int (0 : Int32)), .val (.ref sa), .val (.ref na), .unset] (dc hby d0_112) rfl rfl ?_
      refine go_iload X23 hx (dc hby d0_114) (v := (2 : Int32)) rfl ?_
      refine go_ifc_ne X23 hx (db hby d0_116) (fun c116 => ?_) (fun c116 => absurd c116 (by decide))
      refine go_iconst X23 hx (0) (dc hby d0_123) rfl ?_
      refine go_istore X23 hx #[.val (.int p1), .val (.int p2), .val (.long p3), .second, .val (.int p4), .val (.int (2 : Int32)), .val (.int (0 : Int32)), .val (.ref sa), .val (.ref na), .val (.int (0 : Int32))] (dc hby d0_124) rfl ?_
      refine go_aload X23 hx (dc hby d0_126) (v := (.ref na)) rfl rfl ?_
      refine go_virtualP X23 hx hZ21 ho21 (hw _ (List.mem_of_getElem? (i := 16) rfl)) (hw _ (List.mem_of_getElem? (i := 17) rfl)) (hw _ (List.mem_of_getElem? (i := 19) rfl)) (hw _ (List.mem_of_getElem? (i := 18) rfl)) (hw _ (List.mem_of_getElem? (i := 2) rfl)) (hw _ (List.mem_of_getElem? (i := 20) rfl)) (by decide) rfl (a := na) EN [] [] (r := (.int (0 : Int32))) (rm4r l Z a0 hw [] na sa T23.heap FN) pd4 rfl (by rw [hml]; rfl) rfl 0 (Nat.le_of_eq rfl) (by decide) (by decide) rfl rfl (by decide) (by decide) (dc hby d0_128) (fun T24 X24 e24 => ?_)
      refine go_iload X24 hx (dc hby d0_131) (v := (0 : Int32)) rfl ?_
      refine go_icmp_ne X24 hx (db hby d0_133) (fun c133 => absurd c133 (by decide)) (fun c133 => ?_)
      refine go_aload X24 hx (dc hby d0_136) (v := (.ref na)) rfl rfl ?_
      refine go_virtualP X24 hx hZ21 ho21 (hw _ (List.mem_of_getElem? (i := 21) rfl)) (hw _ (List.mem_of_getElem? (i := 22) rfl)) (hw _ (List.mem_of_getElem? (i := 24) rfl)) (hw _ (List.mem_of_getElem? (i := 23) rfl)) (hw _ (List.mem_of_getElem? (i := 2) rfl)) (hw _ (List.mem_of_getElem? (i := 25) rfl)) (by decide) e24 (a := na) EN [] [] (r := (.ref sa)) (rm5 l Z a0 hw [] na (.ref sa) T23.heap rfl FN) pd5 rfl (by rw [hml]; rfl) rfl 0 (Nat.le_of_eq rfl) (by decide) (by decide) rfl rfl (by decide) (by decide) (dc hby d0_138) (fun T25 X25 e25 => ?_)
      refine go_aload X25 hx (dc hby d0_141) (v := (.ref sa)) rfl rfl ?_
      refine go_acmp_ne X25 hx rfl rfl (db hby d0_143) (fun c143 => absurd rfl c143) (fun c143 => ?_)
      refine go_iconst X25 hx (1) (dc hby d0_146) rfl ?_
      refine go_goto X25 hx (db hby d0_147) ?_
      exact go_retNW X25 hx hS21 (by rw [e25]; exact (Nat.le_trans (Nat.le_trans (Nat.le_refl _) E22.1) K23.1)) hret (by simp) (dc hby d0_151) hk (by decide) (by decide) ⟨rfl, N25_⟩
    · refine go_iconst X0 hx (1) (dc hby d0_13) rfl ?_
      refine go_goto X0 hx (db hby d0_14) ?_
      refine go_istore X0 hx #[.val (.int p1), .val (.int p2), .val (.long p3), .second, .val (.int p4), .val (.int (2 : Int32)), .val (.int (1 : Int32)), .unset, .unset, .unset] (dc hby d0_18) rfl ?_
      refine go_iload X0 hx (dc hby d0_20) (v := (2 : Int32)) rfl ?_
      refine go_ifc_ne X0 hx (db hby d0_22) (fun c22 => ?_) (fun c22 => absurd c22 (by decide))
      refine go_iload X0 hx (dc hby d0_31) (v := (2 : Int32)) rfl ?_
      refine go_iconst X0 hx (1) (dc hby d0_33) rfl ?_
      refine go_icmp_ne X0 hx (db hby d0_34) (fun c34 => ?_) (fun c34 => absurd c34 (by decide))
      refine go_iload X0 hx (dc hby d0_46) (v := (2 : Int32)) rfl ?_
      refine go_iconst X0 hx (2) (dc hby d0_48) rfl ?_
      refine go_icmp_ne X0 hx (db hby d0_49) (fun c49 => absurd c49 (by decide)) (fun c49 => ?_)
      refine go_iload X0 hx (dc hby d0_52) (v := (1 : Int32)) rfl ?_
      refine go_ifc_eq X0 hx (db hby d0_54) (fun c54 => absurd c54 (by decide)) (fun c54 => ?_)
      refine go_newO X0 hx hZ hown (hw _ (List.mem_of_getElem? (i := 56) rfl)) (hw _ (List.mem_of_getElem? (i := 57) rfl)) (hw _ (List.mem_of_getElem? (i := 58) rfl)) e0 (dc hby d0_57) (by decide) (by decide) (fun T26 h26 sa g26 X26 e26 E26 A26 D26 => ?_)
      have K26_ := K0.ext E26
      have gsa : h0.size ≤ sa := Nat.le_of_eq g26.symm
      refine go_dup X26 hx (dc hby d0_60) rfl ?_
      refine go_iconst X26 hx (1) (dc hby d0_61) rfl ?_
      refine go_newP X26 hx hZ (hw _ (List.mem_of_getElem? (i := 59) rfl)) e26 (dc hby d0_62) (by decide) 1 (by decide) (by decide) (by decide) (by decide) (fun T27 h27 kC ca g27 X27 e27 E27 A27 => ?_)
      have gca : h0.size ≤ ca := by rw [g27]; exact K26_.1
      have lsc : sa < ca := by rw [g27]; exact A26.lt
      have K27_ := K26_.ext E27
      refine go_dup X27 hx (dc hby d0_64) rfl ?_
      refine go_iconst X27 hx (0) (dc hby d0_65) rfl ?_
      refine go_iload X27 hx (dc hby d0_66) (v := p4) rfl ?_
      refine go_sipush X27 hx (255) (dc hby d0_68) rfl ?_
      refine go_iand X27 hx (dc hby d0_71) ?_
      refine go_i2c X27 hx (dc hby d0_72) ?_
      have VC : Arv Z h27 ca kC .char 1 [.int 0] (.int 0) := (Arv.new A27 (by decide)).pad (own_rep (n := 1))
      refine go_castoreV X27 hx hZ e27 VC (by decide) 0 rfl (by simp) (dc hby d0_73) (fun T28 h28 X28 e28 W28 V28 => ?_)
      have VC1 : Arv Z h28 ca kC .char 1 [.int (nar .char ((p4 &&& (255 : Int32))).toUInt32.toUInt16.toUInt32.toInt32)] (.int 0) := V28
      have K28_ := K27_.wr W28 (Or.inr gca)
      have N29_ := Fr.snoc X28 N0 gca
      refine go_special X28 hx hZ rfl hown (hw _ (List.mem_of_getElem? (i := 60) rfl)) (hw _ (List.mem_of_getElem? (i := 61) rfl)) (hw _ (List.mem_of_getElem? (i := 58) rfl)) (hw _ (List.mem_of_getElem? (i := 62) rfl)) (by decide) e28 (a := sa) [(.ref ca)] [(.ref sa)] (rm10n l Z a0 hw [] sa ca _ kC cs h28 ((A26.ext E27).wr W28) (((D26 (Or.inr (hw _ (List.mem_of_getElem? (i := 70) rfl))) (ty := .array .byte) (by decide)).ext E27).other W28 (Or.inl (Nat.ne_of_lt lsc))) (((D26 (Or.inr (hw _ (List.mem_of_getElem? (i := 71) rfl))) (ty := .byte) (by decide)).ext E27).other W28 (Or.inl (Nat.ne_of_lt lsc))) VC1 (own_chN p4) hcs (own_staK SC K28_)) pd10 rfl (by rw [hml]; rfl) rfl 1 (Nat.le_of_eq rfl) (by decide) (by decide) (by decide) (by decide) (dc hby d0_74) (fun T29 v29 L29 X29 hQ29 => ?_)
      obtain ⟨rfl, N29, K29⟩ := hQ29
      show Go p e below _ (T29.setTop (mkF m 77 #[.val (.int p1), .val (.int p2), .val (.long p3), .second, .val (.int p4), .val (.int (2 : Int32)), .val (.int (1 : Int32)), .unset, .unset, .unset] [(.ref sa)]))
      have K30_ := K28_.trans K29 (fun x hx => Or.inr (by simp at hx; rw [hx]; exact gsa))
      have N31_ := Fr.app N29_ (L' := L29) (fun y hy => by
        rcases N29 y hy with q | q
        · rw [q]; exact gsa
        · exact Nat.le_trans K28_.1 q)
      refine go_astore X29 hx #[.val (.int p1), .val (.int p2), .val (.long p3), .second, .val (.int p4), .val (.int (2 : Int32)), .val (.int (1 : Int32)), .val (.ref sa), .unset, .unset] (dc hby d0_77) rfl rfl ?_
      refine go_goto X29 hx (db hby d0_79) ?_
      refine go_newO X29 hx hZ hown (hw _ (List.mem_of_getElem? (i := 0) rfl)) (hw _ (List.mem_of_getElem? (i := 1) rfl)) (hw _ (List.mem_of_getElem? (i := 2) rfl)) rfl (dc hby d0_103) (by decide) (by decide) (fun T30 h30 na g30 X30 e30 E30 A30 D30 => ?_)
      have K32_ := K30_.ext E30
      refine go_dup X30 hx (dc hby d0_106) rfl ?_
      refine go_aload X30 hx (dc hby d0_107) (v := (.ref sa)) rfl rfl ?_
      have gna : h0.size ≤ na := Nat.le_trans K30_.1 (Nat.le_of_eq g30.symm)
      refine go_special X30 hx hZ rfl hown (hw _ (List.mem_of_getElem? (i := 3) rfl)) (hw _ (List.mem_of_getElem? (i := 4) rfl)) (hw _ (List.mem_of_getElem? (i := 2) rfl)) (hw _ (List.mem_of_getElem? (i := 5) rfl)) (by decide) e30 (a := na) [(.ref sa)] [(.ref na)] (rm1 l Z a0 hw [] na (.ref sa) h30 rfl A30 (D30 (Or.inr (hw _ (List.mem_of_getElem? (i := 15) rfl))) (ty := .object "java/lang/Object") (by decide))) pd1 rfl (by rw [hml]; rfl) rfl 1 (Nat.le_of_eq rfl) (by decide) (by decide) (by decide) (by decide) (dc hby d0_109) (fun T31 v31 L31 X31 hQ31 => ?_)
      obtain ⟨rfl, N31, K31, EN, FN⟩ := hQ31
      show Go p e below _ (T31.setTop (mkF m 112 #[.val (.int p1), .val (.int p2), .val (.long p3), .second, .val (.int p4), .val (.int (2 : Int32)), .val (.int (1 : Int32)), .val (.ref sa), .unset, .unset] [(.ref na)]))
      have K33_ := K32_.trans K31 (fun x hx => Or.inr (by simp at hx; rw [hx]; exact gna))
      have N34_ := Fr.app N31_ (L' := L31) (fun y hy => by rw [N31 y hy]; exact gna)
      refine go_astore X31 hx #[.val (.int p1), .val (.int p2), .val (.long p3), .second, .val (.int p4), .val (.int (2 : Int32)), .val (.int (1 : Int32)), .val (.ref sa), .val (.ref na), .unset] (dc hby d0_112) rfl rfl ?_
      refine go_iload X31 hx (dc hby d0_114) (v := (2 : Int32)) rfl ?_
      refine go_ifc_ne X31 hx (db hby d0_116) (fun c116 => ?_) (fun c116 => absurd c116 (by decide))
      refine go_iconst X31 hx (0) (dc hby d0_123) rfl ?_
      refine go_istore X31 hx #[.val (.int p1), .val (.int p2), .val (.long p3), .second, .val (.int p4), .val (.int (2 : Int32)), .val (.int (1 : Int32)), .val (.ref sa), .val (.ref na), .val (.int (0 : Int32))] (dc hby d0_124) rfl ?_
      refine go_aload X31 hx (dc hby d0_126) (v := (.ref na)) rfl rfl ?_
      refine go_virtualP X31 hx hZ hown (hw _ (List.mem_of_getElem? (i := 16) rfl)) (hw _ (List.mem_of_getElem? (i := 17) rfl)) (hw _ (List.mem_of_getElem? (i := 19) rfl)) (hw _ (List.mem_of_getElem? (i := 18) rfl)) (hw _ (List.mem_of_getElem? (i := 2) rfl)) (hw _ (List.mem_of_getElem? (i := 20) rfl)) (by decide) rfl (a := na) EN [] [] (r := (.int (0 : Int32))) (rm4r l Z a0 hw [] na sa T31.heap FN) pd4 rfl (by rw [hml]; rfl) rfl 0 (Nat.le_of_eq rfl) (by decide) (by decide) rfl rfl (by decide) (by decide) (dc hby d0_128) (fun T32 X32 e32 => ?_)
      refine go_iload X32 hx (dc hby d0_131) (v := (0 : Int32)) rfl ?_
      refine go_icmp_ne X32 hx (db hby d0_133) (fun c133 => absurd c133 (by decide)) (fun c133 => ?_)
      refine go_aload X32 hx (dc hby d0_136) (v := (.ref na)) rfl rfl ?_
      refine go_virtualP X32 hx hZ hown (hw _ (List.mem_of_getElem? (i := 21) rfl)) (hw _ (List.mem_of_getElem? (i := 22) rfl)) (hw _ (List.mem_of_getElem? (i := 24) rfl)) (hw _ (List.mem_of_getElem? (i := 23) rfl)) (hw _ (List.mem_of_getElem? (i := 2) rfl)) (hw _ (List.mem_of_getElem? (i := 25) rfl)) (by decide) e32 (a := na) EN [] [] (r := (.ref sa)) (rm5 l Z a0 hw [] na (.ref sa) T31.heap rfl FN) pd5 rfl (by rw [hml]; rfl) rfl 0 (Nat.le_of_eq rfl) (by decide) (by decide) rfl rfl (by decide) (by decide) (dc hby d0_138) (fun T33 X33 e33 => ?_)
      refine go_aload X33 hx (dc hby d0_141) (v := (.ref sa)) rfl rfl ?_
      refine go_acmp_ne X33 hx rfl rfl (db hby d0_143) (fun c143 => absurd rfl c143) (fun c143 => ?_)
      refine go_iconst X33 hx (1) (dc hby d0_146) rfl ?_
      refine go_goto X33 hx (db hby d0_147) ?_
      exact go_retNW X33 hx hS0 (by rw [e33]; exact (Nat.le_trans (Nat.le_trans (Nat.zero_le _) E30.1) K31.1)) hret (by simp) (dc hby d0_151) hk (by decide) (by decide) ⟨rfl, N34_⟩
  · show Go p e below _ (T0.setTop (mkF m 3 #[.val (.int p1), .val (.int p2), .val (.long p3), .second, .val (.int p4), .unset, .unset, .unset, .unset, .unset] [(.int (3 : Int32))]))
    refine go_istore X0 hx #[.val (.int p1), .val (.int p2), .val (.long p3), .second, .val (.int p4), .val (.int (3 : Int32)), .unset, .unset, .unset, .unset] (dc hby d0_3) rfl ?_
    refine go_iloadn X0 hx (dc hby d0_5) (v := p1) rfl ?_
    refine go_iconst X0 hx (2) (dc hby d0_6) rfl ?_
    refine go_iushr X0 hx (dc hby d0_7) ?_
    refine go_iconst X0 hx (1) (dc hby d0_8) rfl ?_
    refine go_iand X0 hx (dc hby d0_9) ?_
    refine go_ifc_eq X0 hx (db hby d0_10) (fun c10 => ?_) (fun c10 => ?_)
    · refine go_iconst X0 hx (0) (dc hby d0_17) rfl ?_
      refine go_istore X0 hx #[.val (.int p1), .val (.int p2), .val (.long p3), .second, .val (.int p4), .val (.int (3 : Int32)), .val (.int (0 : Int32)), .unset, .unset, .unset] (dc hby d0_18) rfl ?_
      refine go_iload X0 hx (dc hby d0_20) (v := (3 : Int32)) rfl ?_
      refine go_ifc_ne X0 hx (db hby d0_22) (fun c22 => ?_) (fun c22 => absurd c22 (by decide))
      refine go_iload X0 hx (dc hby d0_31) (v := (3 : Int32)) rfl ?_
      refine go_iconst X0 hx (1) (dc hby d0_33) rfl ?_
      refine go_icmp_ne X0 hx (db hby d0_34) (fun c34 => ?_) (fun c34 => absurd c34 (by decide))
      refine go_iload X0 hx (dc hby d0_46) (v := (3 : Int32)) rfl ?_
      refine go_iconst X0 hx (2) (dc hby d0_48) rfl ?_
      refine go_icmp_ne X0 hx (db hby d0_49) (fun c49 => ?_) (fun c49 => absurd c49 (by decide))
      refine go_lloadn X0 hx (dc hby d0_97) (v := p3) rfl ?_
      refine go_static X0 hx hZ hown (hw _ (List.mem_of_getElem? (i := 26) rfl)) (hw _ (List.mem_of_getElem? (i := 27) rfl)) (hw _ (List.mem_of_getElem? (i := 28) rfl)) (hw _ (List.mem_of_getElem? (i := 29) rfl)) (by decide) e0 [(.long p3)] [] (rm6 l Z a0 hw [] p3 cl h0 SL CL) pd6 rfl (by rw [hml]; rfl) rfl 0 (Nat.le_of_eq rfl) (by decide) (by decide) (by decide) (by decide) (dc hby d0_98) (fun T34 v34 L34 X34 hQ34 => ?_)
      obtain ⟨b35_, rfl, K34, N34⟩ := hQ34
      show Go p e below _ (T34.setTop (mkF m 101 #[.val (.int p1), .val (.int p2), .val (.long p3), .second, .val (.int p4), .val (.int (3 : Int32)), .val (.int (0 : Int32)), .unset, .unset, .unset] [(.ref b35_)]))
      have N36_ := Fr.app N0 (L' := L34) N34
      have K37_ := K0.trans K34 (by simp)
      refine go_astore X34 hx #[.val (.int p1), .val (.int p2), .val (.long p3), .second, .val (.int p4), .val (.int (3 : Int32)), .val (.int (0 : Int32)), .val (.ref b35_), .unset, .unset] (dc hby d0_101) rfl rfl ?_
      refine go_newO X34 hx hZ hown (hw _ (List.mem_of_getElem? (i := 0) rfl)) (hw _ (List.mem_of_getElem? (i := 1) rfl)) (hw _ (List.mem_of_getElem? (i := 2) rfl)) rfl (dc hby d0_103) (by decide) (by decide) (fun T35 h35 na g35 X35 e35 E35 A35 D35 => ?_)
      have K38_ := K37_.ext E35
      refine go_dup X35 hx (dc hby d0_106) rfl ?_
      refine go_aload X35 hx (dc hby d0_107) (v := (.ref b35_)) rfl rfl ?_
      have gna : h0.size ≤ na := Nat.le_trans K37_.1 (Nat.le_of_eq g35.symm)
      refine go_special X35 hx hZ rfl hown (hw _ (List.mem_of_getElem? (i := 3) rfl)) (hw _ (List.mem_of_getElem? (i := 4) rfl)) (hw _ (List.mem_of_getElem? (i := 2) rfl)) (hw _ (List.mem_of_getElem? (i := 5) rfl)) (by decide) e35 (a := na) [(.ref b35_)] [(.ref na)] (rm1 l Z a0 hw [] na (.ref b35_) h35 rfl A35 (D35 (Or.inr (hw _ (List.mem_of_getElem? (i := 15) rfl))) (ty := .object "java/lang/Object") (by decide))) pd1 rfl (by rw [hml]; rfl) rfl 1 (Nat.le_of_eq rfl) (by decide) (by decide) (by decide) (by decide) (dc hby d0_109) (fun T36 v36 L36 X36 hQ36 => ?_)
      obtain ⟨rfl, N36, K36, EN, FN⟩ := hQ36
      show Go p e below _ (T36.setTop (mkF m 112 #[.val (.int p1), .val (.int p2), .val (.long p3), .second, .val (.int p4), .val (.int (3 : Int32)), .val (.int (0 : Int32)), .val (.ref b35_), .unset, .unset] [(.ref na)]))
      have K39_ := K38_.trans K36 (fun x hx => Or.inr (by simp at hx; rw [hx]; exact gna))
      have N40_ := Fr.app N36_ (L' := L36) (fun y hy => by rw [N36 y hy]; exact gna)
      refine go_astore X36 hx #[.val (.int p1), .val (.int p2), .val (.long p3), .second, .val (.int p4), .val (.int (3 : Int32)), .val (.int (0 : Int32)), .val (.ref b35_), .val (.ref na), .unset] (dc hby d0_112) rfl rfl ?_
      refine go_iload X36 hx (dc hby d0_114) (v := (3 : Int32)) rfl ?_
      refine go_ifc_ne X36 hx (db hby d0_116) (fun c116 => ?_) (fun c116 => absurd c116 (by decide))
      refine go_iconst X36 hx (0) (dc hby d0_123) rfl ?_
      refine go_istore X36 hx #[.val (.int p1), .val (.int p2), .val (.long p3), .second, .val (.int p4), .val (.int (3 : Int32)), .val (.int (0 : Int32)), .val (.ref b35_), .val (.ref na), .val (.int (0 : Int32))] (dc hby d0_124) rfl ?_
      refine go_aload X36 hx (dc hby d0_126) (v := (.ref na)) rfl rfl ?_
      refine go_virtualP X36 hx hZ hown (hw _ (List.mem_of_getElem? (i := 16) rfl)) (hw _ (List.mem_of_getElem? (i := 17) rfl)) (hw _ (List.mem_of_getElem? (i := 19) rfl)) (hw _ (List.mem_of_getElem? (i := 18) rfl)) (hw _ (List.mem_of_getElem? (i := 2) rfl)) (hw _ (List.mem_of_getElem? (i := 20) rfl)) (by decide) rfl (a := na) EN [] [] (r := (.int (0 : Int32))) (rm4r l Z a0 hw [] na b35_ T36.heap FN) pd4 rfl (by rw [hml]; rfl) rfl 0 (Nat.le_of_eq rfl) (by decide) (by decide) rfl rfl (by decide) (by decide) (dc hby d0_128) (fun T37 X37 e37 => ?_)
      refine go_iload X37 hx (dc hby d0_131) (v := (0 : Int32)) rfl ?_
      refine go_icmp_ne X37 hx (db hby d0_133) (fun c133 => absurd c133 (by decide)) (fun c133 => ?_)
      refine go_aload X37 hx (dc hby d0_136) (v := (.ref na)) rfl rfl ?_
      refine go_virtualP X37 hx hZ hown (hw _ (List.mem_of_getElem? (i := 21) rfl)) (hw _ (List.mem_of_getElem? (i := 22) rfl)) (hw _ (List.mem_of_getElem? (i := 24) rfl)) (hw _ (List.mem_of_getElem? (i := 23) rfl)) (hw _ (List.mem_of_getElem? (i := 2) rfl)) (hw _ (List.mem_of_getElem? (i := 25) rfl)) (by decide) e37 (a := na) EN [] [] (r := (.ref b35_)) (rm5 l Z a0 hw [] na (.ref b35_) T36.heap rfl FN) pd5 rfl (by rw [hml]; rfl) rfl 0 (Nat.le_of_eq rfl) (by decide) (by decide) rfl rfl (by decide) (by decide) (dc hby d0_138) (fun T38 X38 e38 => ?_)
      refine go_aload X38 hx (dc hby d0_141) (v := (.ref b35_)) rfl rfl ?_
      refine go_acmp_ne X38 hx rfl rfl (db hby d0_143) (fun c143 => absurd rfl c143) (fun c143 => ?_)
      refine go_iconst X38 hx (1) (dc hby d0_146) rfl ?_
      refine go_goto X38 hx (db hby d0_147) ?_
      exact go_retNW X38 hx hS0 (by rw [e38]; exact (Nat.le_trans (Nat.le_trans (Nat.le_trans (Nat.zero_le _) K34.1) E35.1) K36.1)) hret (by simp) (dc hby d0_151) hk (by decide) (by decide) ⟨rfl, N40_⟩
    · refine go_iconst X0 hx (1) (dc hby d0_13) rfl ?_
      refine go_goto X0 hx (db hby d0_14) ?_
      refine go_istore X0 hx #[.val (.int p1), .val (.int p2), .val (.long p3), .second, .val (.int p4), .val (.int (3 : Int32)), .val (.int (1 : Int32)), .unset, .unset, .unset] (dc hby d0_18) rfl ?_
      refine go_iload X0 hx (dc hby d0_20) (v := (3 : Int32)) rfl ?_
      refine go_ifc_ne X0 hx (db hby d0_22) (fun c22 => ?_) (fun c22 => absurd c22 (by decide))
      refine go_iload X0 hx (dc hby d0_31) (v := (3 : Int32)) rfl ?_
      refine go_iconst X0 hx (1) (dc hby d0_33) rfl ?_
      refine go_icmp_ne X0 hx (db hby d0_34) (fun c34 => ?_) (fun c34 => absurd c34 (by decide))
      refine go_iload X0 hx (dc hby d0_46) (v := (3 : Int32)) rfl ?_
      refine go_iconst X0 hx (2) (dc hby d0_48) rfl ?_
      refine go_icmp_ne X0 hx (db hby d0_49) (fun c49 => ?_) (fun c49 => absurd c49 (by decide))
      refine go_lloadn X0 hx (dc hby d0_97) (v := p3) rfl ?_
      refine go_static X0 hx hZ hown (hw _ (List.mem_of_getElem? (i := 26) rfl)) (hw _ (List.mem_of_getElem? (i := 27) rfl)) (hw _ (List.mem_of_getElem? (i := 28) rfl)) (hw _ (List.mem_of_getElem? (i := 29) rfl)) (by decide) e0 [(.long p3)] [] (rm6 l Z a0 hw [] p3 cl h0 SL CL) pd6 rfl (by rw [hml]; rfl) rfl 0 (Nat.le_of_eq rfl) (by decide) (by decide) (by decide) (by decide) (dc hby d0_98) (fun T39 v39 L39 X39 hQ39 => ?_)
      obtain ⟨b41_, rfl, K39, N39⟩ := hQ39
      show Go p e below _ (T39.setTop (mkF m 101 #[.val (.int p1), .val (.int p2), .val (.long p3), .second, .val (.int p4), .val (.int (3 : Int32)), .val (.int (1 : Int32)), .unset, .unset, .unset] [(.ref b41_)]))
      have N42_ := Fr.app N0 (L' := L39) N39
      have K43_ := K0.trans K39 (by simp)
      refine go_astore X39 hx #[.val (.int p1), .val (.int p2), .val (.long p3), .second, .val (.int p4), .val (.int (3 : Int32)), .val (.int (1 : Int32)), .val (.ref b41_), .unset, .unset] (dc hby d0_101) rfl rfl ?_
      refine go_newO X39 hx hZ hown (hw _ (List.mem_of_getElem? (i := 0) rfl)) (hw _ (List.mem_of_getElem? (i := 1) rfl)) (hw _ (List.mem_of_getElem? (i := 2) rfl)) rfl (dc hby d0_103) (by decide) (by decide) (fun T40 h40 na g40 X40 e40 E40 A40 D40 => ?_)
      have K44_ := K43_.ext E40
      refine go_dup X40 hx (dc hby d0_106) rfl ?_
      refine go_aload X40 hx (dc hby d0_107) (v := (.ref b41_)) rfl rfl ?_
      have gna : h0.size ≤ na := Nat.le_trans K43_.1 (Nat.le_of_eq g40.symm)
      refine go_special X40 hx hZ rfl hown (hw _ (List.mem_of_getElem? (i := 3) rfl)) (hw _ (List.mem_of_getElem? (i := 4) rfl)) (hw _ (List.mem_of_getElem? (i := 2) rfl)) (hw _ (List.mem_of_getElem? (i := 5) rfl)) (by decide) e40 (a := na) [(.ref b41_)] [(.ref na)] (rm1 l Z a0 hw [] na (.ref b41_) h40 rfl A40 (D40 (Or.inr (hw _ (List.mem_of_getElem? (i := 15) rfl))) (ty := .object "java/lang/Object") (by decide))) pd1 rfl (by rw [hml]; rfl) rfl 1 (Nat.le_of_eq rfl) (by decide) (by decide) (by decide) (by decide) (dc hby d0_109) (fun T41 v41 L41 X41 hQ41 => ?_)
      obtain ⟨rfl, N41, K41, EN, FN⟩ := hQ41
      show Go p e below _ (T41.setTop (mkF m 112 #[.val (.int p1), .val (.int p2), .val (.long p3), .second, .val (.int p4), .val (.int (3 : Int32)), .val (.int (1 : Int32)), .val (.ref b41_), .unset, .unset] [(.ref na)]))
      have K45_ := K44_.trans K41 (fun x hx => Or.inr (by simp at hx; rw [hx]; exact gna))
      have N46_ := Fr.app N42_ (L' := L41) (fun y hy => by rw [N41 y hy]; exact gna)
      refine go_astore X41 hx #[.val (.int p1), .val (.int p2), .val (.long p3), .second, .val (.int p4), .val (.int (3 : Int32)), .val (.int (1 : Int32)), .val (.ref b41_), .val (.ref na), .unset] (dc hby d0_112) rfl rfl ?_
      refine go_iload X41 hx (dc hby d0_114) (v := (3 : Int32)) rfl ?_
      refine go_ifc_ne X41 hx (db hby d0_116) (fun c116 => ?_) (fun c116 => absurd c116 (by decide))
      refine go_iconst X41 hx (0) (dc hby d0_123) rfl ?_
      refine go_istore X41 hx #[.val (.int p1), .val (.int p2), .val (.long p3), .second, .val (.int p4), .val (.int (3 : Int32)), .val (.int (1 : Int32)), .val (.ref b41_), .val (.ref na), .val (.int (0 : Int32))] (dc hby d0_124) rfl ?_
      refine go_aload X41 hx (dc hby d0_126) (v := (.ref na)) rfl rfl ?_
      refine go_virtualP X41 hx hZ hown (hw _ (List.mem_of_getElem? (i := 16) rfl)) (hw _ (List.mem_of_getElem? (i := 17) rfl)) (hw _ (List.mem_of_getElem? (i := 19) rfl)) (hw _ (List.mem_of_getElem? (i := 18) rfl)) (hw _ (List.mem_of_getElem? (i := 2) rfl)) (hw _ (List.mem_of_getElem? (i := 20) rfl)) (by decide) rfl (a := na) EN [] [] (r := (.int (0 : Int32))) (rm4r l Z a0 hw [] na b41_ T41.heap FN) pd4 rfl (by rw [hml]; rfl) rfl 0 (Nat.le_of_eq rfl) (by decide) (by decide) rfl rfl (by decide) (by decide) (dc hby d0_128) (fun T42 X42 e42 => ?_)
      refine go_iload X42 hx (dc hby d0_131) (v := (0 : Int32)) rfl ?_
      refine go_icmp_ne X42 hx (db hby d0_133) (fun c133 => absurd c133 (by decide)) (fun c133 => ?_)
      refine go_aload X42 hx (dc hby d0_136) (v := (.ref na)) rfl rfl ?_
      refine go_virtualP X42 hx hZ hown (hw _ (List.mem_of_getElem? (i := 21) rfl)) (hw _ (List.mem_of_getElem? (i := 22) rfl)) (hw _ (List.mem_of_getElem? (i := 24) rfl)) (hw _ (List.mem_of_getElem? (i := 23) rfl)) (hw _ (List.mem_of_getElem? (i := 2) rfl)) (hw _ (List.mem_of_getElem? (i := 25) rfl)) (by decide) e42 (a := na) EN [] [] (r := (.ref b41_)) (rm5 l Z a0 hw [] na (.ref b41_) T41.heap rfl FN) pd5 rfl (by rw [hml]; rfl) rfl 0 (Nat.le_of_eq rfl) (by decide) (by decide) rfl rfl (by decide) (by decide) (dc hby d0_138) (fun T43 X43 e43 => ?_)
      refine go_aload X43 hx (dc hby d0_141) (v := (.ref b41_)) rfl rfl ?_
      refine go_acmp_ne X43 hx rfl rfl (db hby d0_143) (fun c143 => absurd rfl c143) (fun c143 => ?_)
      refine go_iconst X43 hx (1) (dc hby d0_146) rfl ?_
      refine go_goto X43 hx (db hby d0_147) ?_
      exact go_retNW X43 hx hS0 (by rw [e43]; exact (Nat.le_trans (Nat.le_trans (Nat.le_trans (Nat.zero_le _) K39.1) E40.1) K41.1)) hret (by simp) (dc hby d0_151) hk (by decide) (by decide) ⟨rfl, N46_⟩
theorem pd0 : parseMethodDescriptor "(IIJI)Z" = some ⟨[.int, .int, .long, .int], some .boolean⟩ := by decide +kernel
set_option maxRecDepth 65536 in
set_option maxHeartbeats 40000000 in
theorem comes_1 {Post : Tables → Env → Array Value → State → Outcome → State → Prop} (hpost : ∀ tb e args s v u, (limb_1_1.after args s (.returned v) u = true ∧ limb_1_2.after args s (.returned v) u = true ∧ True) → ReturnedEndW s (.returned v) u (Jvm.fieldLocs frame_1_writes args s ++ Jvm.arrayLocs frame_1_arrays args s ++ Jvm.staticLocs frame_1_statics s) 24 1152 → Post tb e args s (.returned v) u) :
    ArmFor flags0 classFile x code maxLocals ret World_1 tables_1 room_1 Calls_1 rest_1 Pre_1 Post := by
  intro l hfl _ _ p e ha hc hk s m args below hf hA hF happ hP
  obtain ⟨hcalls, hrest, hpre⟩ := hP
  obtain ⟨-, -, -, hnamed, -, -, -, hat⟩ := (Spec.applies_iff hf).mp happ
  obtain ⟨hg, hn⟩ := and_e (Cond.before_iff.mp (show (Jvm.Cond.and given_1 narrow_1).before args s = true from hpre))
  obtain ⟨g1, g2⟩ := and_e hg
  obtain ⟨w0, w1, w2, w3, rfl⟩ : ∃ w0 w1 w2 w3 : Value, args = #[w0, w1, w2, w3] := by
    have hs : args.size = 4 := by simpa [Cond.value, given_1] using g1
    obtain ⟨L⟩ := args
    match L, hs with
    | [w0, w1, w2, w3], _ => exact ⟨w0, w1, w2, w3, rfl⟩
  have hw := fun d (hd : d ∈ tables_1) => atoms_spec (ws := Jvm.Cond.code x code maxLocals ret :: tables_1) hat d (List.mem_cons_of_mem _ hd)
  have hfit : Fit s := fun {y c} hc i hi => by
    obtain ⟨ha, rfl⟩ := Array.getElem?_eq_some_iff.mp hc
    have q := List.all_eq_true.mp ((Array.all_eq_true_iff_forall_mem.mp hF) _ (Array.getElem_mem ha)) i (List.mem_range.mpr hi)
    simpa [Array.getElem?_eq_getElem hi] using q
  obtain ⟨u0, r0⟩ := and_e g2
  obtain ⟨i0, j0⟩ := is_v u0
  obtain rfl : w0 = (.int i0) := Option.some.inj j0
  obtain ⟨u1, r1⟩ := and_e r0
  obtain ⟨i1, j1⟩ := is_v u1
  obtain rfl : w1 = (.int i1) := Option.some.inj j1
  obtain ⟨u2, r2⟩ := and_e r1
  obtain ⟨i2, j2⟩ := isL_v u2
  obtain rfl : w2 = (.long i2) := Option.some.inj j2
  obtain ⟨i3, j3⟩ := is_v r2
  obtain rfl : w3 = (.int i3) := Option.some.inj j3
  have hJ := (atoms_of jdkStatics_1 (by rw [← rest_1_c_eq]; exact hrest)).1
  obtain ⟨cs, vcs⟩ := is_v (Cond.before_iff.mp (hJ _ (List.mem_of_getElem? (i := 15) rfl)))
  have SC := Sta.start vcs (Or.inl (hJ _ (List.mem_of_getElem? (i := 14) rfl)))
  have hcs : ¬ cs = 0 := fun q => by
    have h2 := not_v (Cond.before_iff.mp (hJ _ (List.mem_of_getElem? (i := 16) rfl)))
    rw [q] at vcs
    rw [eq_i vcs (Term.int_eval 0) rfl] at h2
    exact absurd h2 (by decide)
  have hh : ∀ p ∈ ([("java/lang/String", 7)] : List (String × Nat)), Jvm.Lit.constHeld s p.1 p.2 := fun p hp => hcalls.1 p hp
  have HS := CHv.start (own_EW hw) hh (hJ _ (List.mem_of_getElem? (i := 16) rfl)) (hw _ (List.mem_of_getElem? (i := 69) rfl)) (hw _ (List.mem_of_getElem? (i := 57) rfl))
  obtain ⟨cl, vl, CL⟩ := own_bx (hJ _ (List.mem_of_getElem? (i := 2) rfl)) (hJ _ (List.mem_of_getElem? (i := 4) rfl)) (hJ _ (List.mem_of_getElem? (i := 5) rfl))
  have SL := Sta.start vl (Or.inl (hJ _ (List.mem_of_getElem? (i := 1) rfl)))
  obtain ⟨ci, vi, CI⟩ := own_bx (hJ _ (List.mem_of_getElem? (i := 10) rfl)) (hJ _ (List.mem_of_getElem? (i := 12) rfl)) (hJ _ (List.mem_of_getElem? (i := 13) rfl))
  have SI := Sta.start vi (Or.inr ⟨hw _ (List.mem_of_getElem? (i := 54) rfl), (hJ _ (List.mem_of_getElem? (i := 8) rfl))⟩)
  have SH := Sta.start (eqv_i (F := Term.int 127) (y := 127) rfl (Cond.before_iff.mp (hJ _ (List.mem_of_getElem? (i := 9) rfl)))) (Or.inl (hJ _ (List.mem_of_getElem? (i := 7) rfl)))
  obtain ⟨n, o, h1, h2, h3, _, L, rfl, ⟨rfl, N⟩, hq⟩ := rm0 l s _ hw tables_1 i0 i1 i2 i3 cs ci cl s.heap hcs SC SH SI CI SL CL p e ha hc hk s m _ below hf ((Spec.applies_iff_loose hf).mp happ).1 ⟨rfl, State.Warmed39.refl s, rfl, HS⟩ trivial
  refine ⟨n, _, h1, h2, h3, hpost _ _ _ _ _ _ ⟨Cond.after_iff.mpr rfl, Cond.after_iff.mpr (eq_i res_at (Term.int_eval (1)) rfl), trivial⟩ ⟨hq.1, hq.2.1, hq.2.2.1, (hq.2.2.2.sift fun y hy => Or.inr (N y hy)).mono (by decide) (by decide)⟩⟩
theorem main_1_1 : Claimed_1_1 := comes_1 fun _ _ _ _ _ _ h hF => ⟨h.1, hF⟩
theorem main_1_2 : Claimed_1_2 := comes_1 fun _ _ _ _ _ _ h hF => ⟨h.2.1, hF⟩
end Jvm.Pilot.@@N@@
namespace Jvm.Pilot.@@N@@
open Jvm Jvm.ClassFile Sem Op Lib Jvm.Free Jvm.Stand Jvm.Pilot.@@N@@.Jvm.D
/-! MADE BY PROGRAM (witnessworld.py) out of the Statement's table words and the real class files: 29 classes; the members and pool entries that the words name. The judged class is class 1, her method 1. -/
namespace start1
open Jvm.ClassFile
def u (s : String) : CpInfo := .utf8 (stringToUtf16 s)
/-- a pool by its gaps: so many unusable entries, then the entry; so many at the end -/
def gap : Nat → List CpInfo → List CpInfo
  | 0, r => r
  | n + 1, r => .unusable :: gap n r
def poolList (es : List (Nat × CpInfo)) (last : Nat) : List CpInfo := es.foldr (fun e r => gap e.1 (e.2 :: r)) (gap last [])
def pool (es : List (Nat × CpInfo)) (last : Nat) : Array CpInfo := ⟨poolList es last⟩
def fileOf (pool : Array CpInfo) (this : Nat) (attrs : Array Attribute := #[]) (ms : Array MethodInfo := #[]) (fl : Nat := 33) (sup : Nat := 0) (ifs : Array Nat := #[]) (fds : Array FieldInfo := #[]) : ClassFile where
  minorVersion := 0
  majorVersion := 65
  constantPool := pool
  accessFlags := fl
  thisClass := this
  superClass := sup
  interfaces := ifs
  fields := fds
  methods := ms
  attributes := attrs
def plain (name : String) (sup : Option ClassId) : Class where
  name := name
  kind := .ordinary
  loader := none
  accessFlags := 33
  super := sup
  interfaces := #[]
  cf := none
  fields := #[]
  methods := #[]
  instanceTypes := #[]
  staticTypes := #[]
  resolved := #[]
  callSites := []
  init := .initialized
  statics := none
  mirror := none

def pool0 : Array CpInfo := pool [(5, u "<init>"), (0, u "()V"), (1, .class_ 10), (1, u "java/lang/Object")] 113

def k0c0 : Code := { maxStack := 0, maxLocals := 1, code := object_method_1_code, exceptionTable := #[], attributes := #[] }
def k0m0 : Method := { name := "<init>", desc := "()V", sig := { parameters := [], returnType := none }, accessFlags := 1, code := some k0c0 }
/-- java/lang/Object -/
def k0 : Class := { plain "java/lang/Object" none with
  accessFlags := 33
  interfaces := #[]
  cf := some (fileOf pool0 8 #[] #[{ accessFlags := 1, nameIndex := 5, descriptorIndex := 6, attributes := #[] }] 33 0 #[] #[])
  fields := #[]
  methods := #[k0m0]
  instanceTypes := #[]
  staticTypes := #[]
  resolved := Array.replicate 124 none
  statics := none }

def pool1 : Array CpInfo := pool [(2, .class_ 4), (1, u "java/lang/Object"), (0, u "<init>"), (0, u "()V"), (0, .methodref 8 9), (0, .class_ 10), (0, .nameAndType 11 12), (0, u "java/lang/Integer"), (0, u "valueOf"), (0, u "(I)Ljava/lang/Integer;"), (0, .class_ 14), (0, u "java/lang/String"), (0, .methodref 13 16), (0, .nameAndType 5 17), (0, u "([C)V"), (0, .methodref 19 20), (0, .class_ 21), (0, .nameAndType 11 22), (0, u "java/lang/Long"), (0, u "(J)Ljava/lang/Long;"), (0, .class_ 24), (0, u "dev/marblebench/stream/Signal$OnNext"), (0, .methodref 23 26), (0, .nameAndType 5 27), (0, u "(Ljava/lang/Object;)V"), (0, .methodref 23 29), (0, .nameAndType 30 31), (0, u "carriesNull"), (0, u "()Z"), (0, .methodref 23 33), (0, .nameAndType 34 35), (0, u "value"), (0, u "()Ljava/lang/Object;"), (0, .class_ 37), (0, u "dev/marblebench/stream/OnNextCarriesNullPinLaw"), (2, u "law"), (0, u "(IIJI)Z")] 7

def k1m0 : Method := { name := "<init>", desc := "()V", sig := { parameters := [], returnType := none }, accessFlags := 1, code := none }
def k1c1 : Code := { maxStack := 7, maxLocals := 10, code := code, exceptionTable := #[], attributes := #[] }
def k1m1 : Method := { name := "law", desc := "(IIJI)Z", sig := { parameters := [.int, .int, .long, .int], returnType := some .boolean }, accessFlags := 9, code := some k1c1 }
/-- dev/marblebench/stream/OnNextCarriesNullPinLaw -/
def k1 : Class := { plain "dev/marblebench/stream/OnNextCarriesNullPinLaw" (some 0) with
  accessFlags := 49
  interfaces := #[]
  cf := some (fileOf pool1 36 #[] #[{ accessFlags := 1, nameIndex := 5, descriptorIndex := 6, attributes := #[] }, { accessFlags := 9, nameIndex := 40, descriptorIndex := 41, attributes := #[] }] 49 2 #[] #[])
  fields := #[]
  methods := #[k1m0, k1m1]
  instanceTypes := #[]
  staticTypes := #[]
  resolved := Array.replicate 49 none
  statics := none }

def pool2 : Array CpInfo := pool [(1, .methodref 2 3), (0, .class_ 4), (0, .nameAndType 5 6), (0, u "java/lang/Object"), (0, u "<init>"), (0, u "()V"), (0, .class_ 8), (0, u "java/lang/Record")] 13

def k2c0 : Code := { maxStack := 1, maxLocals := 1, code := jdk_30_method_1_code, exceptionTable := #[], attributes := #[] }
def k2m0 : Method := { name := "<init>", desc := "()V", sig := { parameters := [], returnType := none }, accessFlags := 4, code := some k2c0 }
/-- java/lang/Record -/
def k2 : Class := { plain "java/lang/Record" (some 0) with
  accessFlags := 1057
  interfaces := #[]
  cf := some (fileOf pool2 7 #[] #[{ accessFlags := 4, nameIndex := 5, descriptorIndex := 6, attributes := #[] }] 1057 2 #[] #[])
  fields := #[]
  methods := #[k2m0]
  instanceTypes := #[]
  staticTypes := #[]
  resolved := Array.replicate 22 none
  statics := none }

def pool3 : Array CpInfo := pool [(1, .class_ 2), (0, u "dev/marblebench/stream/Signal$OnNext"), (4, .class_ 8), (0, u "dev/marblebench/stream/Signal$OnError"), (3, .class_ 13), (0, u "dev/marblebench/stream/Signal$OnComplete"), (3, .class_ 18), (0, u "dev/marblebench/stream/Signal"), (0, .class_ 20), (0, u "java/lang/Object")] 32

/-- dev/marblebench/stream/Signal -/
def k3 : Class := { plain "dev/marblebench/stream/Signal" (some 0) with
  accessFlags := 1537
  interfaces := #[]
  cf := some (fileOf pool3 17 #[.nestMembers #[12, 7, 1]] #[] 1537 19 #[] #[])
  fields := #[]
  methods := #[]
  instanceTypes := #[]
  staticTypes := #[]
  resolved := Array.replicate 53 none
  statics := none }

def pool4 : Array CpInfo := pool [(1, .methodref 2 3), (0, .class_ 4), (0, .nameAndType 5 6), (0, u "java/lang/Record"), (0, u "<init>"), (0, u "()V"), (0, .fieldref 8 9), (0, .class_ 10), (0, .nameAndType 11 12), (0, u "dev/marblebench/stream/Signal$OnNext"), (0, u "value"), (0, u "Ljava/lang/Object;"), (5, u "(Ljava/lang/Object;)V"), (20, .class_ 40), (0, u "dev/marblebench/stream/Signal"), (7, u "()Z"), (0, u "carriesNull"), (8, u "()Ljava/lang/Object;")] 34

def k4c0 : Code := { maxStack := 2, maxLocals := 2, code := prog_28_method_1_code, exceptionTable := #[], attributes := #[] }
def k4m0 : Method := { name := "<init>", desc := "(Ljava/lang/Object;)V", sig := { parameters := [(.object "java/lang/Object")], returnType := none }, accessFlags := 1, code := some k4c0 }
def k4c1 : Code := { maxStack := 1, maxLocals := 1, code := prog_28_method_3_code, exceptionTable := #[], attributes := #[] }
def k4m1 : Method := { name := "carriesNull", desc := "()Z", sig := { parameters := [], returnType := some .boolean }, accessFlags := 1, code := some k4c1 }
def k4c2 : Code := { maxStack := 1, maxLocals := 1, code := prog_28_method_8_code, exceptionTable := #[], attributes := #[] }
def k4m2 : Method := { name := "value", desc := "()Ljava/lang/Object;", sig := { parameters := [], returnType := some (.object "java/lang/Object") }, accessFlags := 1, code := some k4c2 }
/-- dev/marblebench/stream/Signal$OnNext -/
def k4 : Class := { plain "dev/marblebench/stream/Signal$OnNext" (some 2) with
  accessFlags := 49
  interfaces := #[3]
  cf := some (fileOf pool4 8 #[.nestHost 39] #[{ accessFlags := 1, nameIndex := 5, descriptorIndex := 18, attributes := #[] }, { accessFlags := 1, nameIndex := 49, descriptorIndex := 48, attributes := #[] }, { accessFlags := 1, nameIndex := 11, descriptorIndex := 58, attributes := #[] }] 49 2 #[39] #[{ accessFlags := 18, nameIndex := 11, descriptorIndex := 12, attributes := #[] }])
  fields := #[{ name := "value", type := (.object "java/lang/Object"), accessFlags := 18, slot := 0, constantValue := 0 }]
  methods := #[k4m0, k4m1, k4m2]
  instanceTypes := #[(.object "java/lang/Object")]
  staticTypes := #[]
  resolved := Array.replicate 93 none
  statics := none }

def pool5 : Array CpInfo := pool [(1, .class_ 2), (0, u "java/io/Serializable"), (0, .class_ 4), (0, u "java/lang/Object")] 2

/-- java/io/Serializable -/
def k5 : Class := { plain "java/io/Serializable" (some 0) with
  accessFlags := 1537
  interfaces := #[]
  cf := some (fileOf pool5 1 #[] #[] 1537 3 #[] #[])
  fields := #[]
  methods := #[]
  instanceTypes := #[]
  staticTypes := #[]
  resolved := Array.replicate 7 none
  statics := none }

def pool6 : Array CpInfo := pool [(1, .methodref 2 3), (0, .class_ 4), (0, .nameAndType 5 6), (0, u "java/lang/Object"), (0, u "<init>"), (0, u "()V"), (1, .class_ 10), (1, u "java/lang/Number"), (2, .class_ 14), (0, u "java/io/Serializable"), (0, u "serialVersionUID"), (0, u "J")] 20

def k6c0 : Code := { maxStack := 1, maxLocals := 1, code := jdk_18_method_1_code, exceptionTable := #[], attributes := #[] }
def k6m0 : Method := { name := "<init>", desc := "()V", sig := { parameters := [], returnType := none }, accessFlags := 1, code := some k6c0 }
/-- java/lang/Number -/
def k6 : Class := { plain "java/lang/Number" (some 0) with
  accessFlags := 1057
  interfaces := #[5]
  cf := some (fileOf pool6 8 #[] #[{ accessFlags := 1, nameIndex := 5, descriptorIndex := 6, attributes := #[] }] 1057 2 #[13] #[{ accessFlags := 26, nameIndex := 15, descriptorIndex := 16, attributes := #[] }])
  fields := #[{ name := "serialVersionUID", type := .long, accessFlags := 26, slot := 0, constantValue := 0 }]
  methods := #[k6m0]
  instanceTypes := #[]
  staticTypes := #[.long]
  resolved := Array.replicate 37 none
  statics := none }

def pool7 : Array CpInfo := pool [(1, .class_ 2), (0, u "java/lang/Comparable"), (0, .class_ 4), (0, u "java/lang/Object")] 7

/-- java/lang/Comparable -/
def k7 : Class := { plain "java/lang/Comparable" (some 0) with
  accessFlags := 1537
  interfaces := #[]
  cf := some (fileOf pool7 1 #[] #[] 1537 3 #[] #[])
  fields := #[]
  methods := #[]
  instanceTypes := #[]
  staticTypes := #[]
  resolved := Array.replicate 12 none
  statics := none }

def pool8 : Array CpInfo := pool [(1, .class_ 2), (0, u "java/lang/constant/Constable"), (0, .class_ 4), (0, u "java/lang/Object")] 6

/-- java/lang/constant/Constable -/
def k8 : Class := { plain "java/lang/constant/Constable" (some 0) with
  accessFlags := 1537
  interfaces := #[]
  cf := some (fileOf pool8 1 #[] #[] 1537 3 #[] #[])
  fields := #[]
  methods := #[]
  instanceTypes := #[]
  staticTypes := #[]
  resolved := Array.replicate 11 none
  statics := none }

def pool9 : Array CpInfo := pool [(1, .class_ 2), (0, u "java/lang/constant/ConstantDesc"), (0, .class_ 4), (0, u "java/lang/Object")] 32

/-- java/lang/constant/ConstantDesc -/
def k9 : Class := { plain "java/lang/constant/ConstantDesc" (some 0) with
  accessFlags := 1537
  interfaces := #[]
  cf := some (fileOf pool9 1 #[] #[] 1537 3 #[] #[])
  fields := #[]
  methods := #[]
  instanceTypes := #[]
  staticTypes := #[]
  resolved := Array.replicate 37 none
  statics := none }

def pool10 : Array CpInfo := pool [(1, .class_ 2), (0, u "java/lang/Long"), (55, .nameAndType 59 60), (0, u "<init>"), (0, u "()V"), (24, u "valueOf"), (143, u "(J)Ljava/lang/Long;"), (0, .long 18446744073709551488), (1, .long 127), (1, .fieldref 235 236), (0, .class_ 237), (0, .nameAndType 238 239), (0, u "java/lang/Long$LongCache"), (0, u "cache"), (0, u "[Ljava/lang/Long;"), (0, .methodref 1 241), (0, .nameAndType 59 242), (0, u "(J)V"), (27, .methodref 271 58), (0, .class_ 272), (0, u "java/lang/Number"), (0, .fieldref 1 274), (0, .nameAndType 275 276), (0, u "value"), (0, u "J"), (84, u "TYPE"), (0, u "Ljava/lang/Class;"), (0, .class_ 364), (0, u "java/lang/Comparable"), (0, .class_ 366), (0, u "java/lang/constant/Constable"), (0, .class_ 368), (0, u "java/lang/constant/ConstantDesc"), (0, u "MIN_VALUE"), (1, u "MAX_VALUE"), (4, u "SIZE"), (0, u "I"), (1, u "BYTES"), (1, u "serialVersionUID")] 142

def k10c0 : Code := { maxStack := 4, maxLocals := 3, code := jdk_35_method_24_code, exceptionTable := #[], attributes := #[] }
def k10m0 : Method := { name := "valueOf", desc := "(J)Ljava/lang/Long;", sig := { parameters := [.long], returnType := some (.object "java/lang/Long") }, accessFlags := 9, code := some k10c0 }
def k10c1 : Code := { maxStack := 3, maxLocals := 3, code := jdk_35_method_26_code, exceptionTable := #[], attributes := #[] }
def k10m1 : Method := { name := "<init>", desc := "(J)V", sig := { parameters := [.long], returnType := none }, accessFlags := 1, code := some k10c1 }
/-- java/lang/Long -/
def k10 : Class := { plain "java/lang/Long" (some 6) with
  accessFlags := 49
  interfaces := #[7, 8, 9]
  cf := some (fileOf pool10 1 #[.nestMembers #[235]] #[{ accessFlags := 9, nameIndex := 85, descriptorIndex := 229, attributes := #[] }, { accessFlags := 1, nameIndex := 59, descriptorIndex := 242, attributes := #[] }] 49 271 #[363, 365, 367] #[{ accessFlags := 25, nameIndex := 369, descriptorIndex := 276, attributes := #[] }, { accessFlags := 25, nameIndex := 371, descriptorIndex := 276, attributes := #[] }, { accessFlags := 25, nameIndex := 361, descriptorIndex := 362, attributes := #[] }, { accessFlags := 18, nameIndex := 275, descriptorIndex := 276, attributes := #[] }, { accessFlags := 25, nameIndex := 376, descriptorIndex := 377, attributes := #[] }, { accessFlags := 25, nameIndex := 379, descriptorIndex := 377, attributes := #[] }, { accessFlags := 26, nameIndex := 381, descriptorIndex := 276, attributes := #[] }])
  fields := #[{ name := "MIN_VALUE", type := .long, accessFlags := 25, slot := 0, constantValue := 0 }, { name := "MAX_VALUE", type := .long, accessFlags := 25, slot := 1, constantValue := 0 }, { name := "TYPE", type := (.object "java/lang/Class"), accessFlags := 25, slot := 2, constantValue := 0 }, { name := "value", type := .long, accessFlags := 18, slot := 0, constantValue := 0 }, { name := "SIZE", type := .int, accessFlags := 25, slot := 3, constantValue := 0 }, { name := "BYTES", type := .int, accessFlags := 25, slot := 4, constantValue := 0 }, { name := "serialVersionUID", type := .long, accessFlags := 26, slot := 5, constantValue := 0 }]
  methods := #[k10m0, k10m1]
  instanceTypes := #[.long]
  staticTypes := #[.long, .long, (.object "java/lang/Class"), .int, .int, .long]
  resolved := Array.replicate 524 none
  statics := none }

def pool11 : Array CpInfo := pool [(2, .class_ 4), (1, u "java/lang/Object"), (0, u "<init>"), (0, u "()V"), (0, .class_ 8), (0, u "java/lang/Long"), (7, .class_ 18), (1, u "java/lang/Long$LongCache"), (0, u "$assertionsDisabled"), (0, u "Z"), (8, u "archivedCache"), (0, u "[Ljava/lang/Long;"), (7, u "cache")] 24

def k11m0 : Method := { name := "<init>", desc := "()V", sig := { parameters := [], returnType := none }, accessFlags := 2, code := none }
/-- java/lang/Long$LongCache -/
def k11 : Class := { plain "java/lang/Long$LongCache" (some 0) with
  accessFlags := 48
  interfaces := #[]
  cf := some (fileOf pool11 16 #[.nestHost 7] #[{ accessFlags := 2, nameIndex := 5, descriptorIndex := 6, attributes := #[] }] 48 2 #[] #[{ accessFlags := 24, nameIndex := 38, descriptorIndex := 30, attributes := #[] }, { accessFlags := 8, nameIndex := 29, descriptorIndex := 30, attributes := #[] }, { accessFlags := 4120, nameIndex := 19, descriptorIndex := 20, attributes := #[] }])
  fields := #[{ name := "cache", type := (.array (.object "java/lang/Long")), accessFlags := 24, slot := 0, constantValue := 0 }, { name := "archivedCache", type := (.array (.object "java/lang/Long")), accessFlags := 8, slot := 1, constantValue := 0 }, { name := "$assertionsDisabled", type := .boolean, accessFlags := 4120, slot := 2, constantValue := 0 }]
  methods := #[k11m0]
  instanceTypes := #[]
  staticTypes := #[(.array (.object "java/lang/Long")), (.array (.object "java/lang/Long")), .boolean]
  resolved := Array.replicate 63 none
  statics := some 0 }

def pool12 : Array CpInfo := pool [(1, .class_ 2), (0, u "java/lang/Integer"), (16, u "digits"), (0, u "[C"), (46, u "<init>"), (17, u "DigitOnes"), (0, u "[B"), (2, u "DigitTens"), (10, .nameAndType 67 101), (0, u "()V"), (85, u "valueOf"), (0, u "(I)Ljava/lang/Integer;"), (0, .class_ 190), (0, u "java/lang/Integer$IntegerCache"), (0, .fieldref 189 192), (0, .nameAndType 193 194), (0, u "high"), (0, u "I"), (0, .fieldref 189 196), (0, .nameAndType 197 198), (0, u "cache"), (0, u "[Ljava/lang/Integer;"), (0, .methodref 1 200), (0, .nameAndType 67 201), (0, u "(I)V"), (0, .methodref 203 100), (0, .class_ 204), (0, u "java/lang/Number"), (0, .fieldref 1 206), (0, .nameAndType 207 194), (0, u "value"), (94, u "TYPE"), (0, u "Ljava/lang/Class;"), (0, .class_ 305), (0, u "java/lang/Comparable"), (0, .class_ 307), (0, u "java/lang/constant/Constable"), (0, .class_ 309), (0, u "java/lang/constant/ConstantDesc"), (0, u "MIN_VALUE"), (1, u "MAX_VALUE"), (3, u "SIZE"), (1, u "BYTES"), (1, u "serialVersionUID"), (0, u "J")] 131

def k12c0 : Code := { maxStack := 3, maxLocals := 1, code := jdk_33_method_22_code, exceptionTable := #[], attributes := #[] }
def k12m0 : Method := { name := "valueOf", desc := "(I)Ljava/lang/Integer;", sig := { parameters := [.int], returnType := some (.object "java/lang/Integer") }, accessFlags := 9, code := some k12c0 }
def k12c1 : Code := { maxStack := 2, maxLocals := 2, code := jdk_33_method_23_code, exceptionTable := #[], attributes := #[] }
def k12m1 : Method := { name := "<init>", desc := "(I)V", sig := { parameters := [.int], returnType := none }, accessFlags := 1, code := some k12c1 }
/-- java/lang/Integer -/
def k12 : Class := { plain "java/lang/Integer" (some 6) with
  accessFlags := 49
  interfaces := #[7, 8, 9]
  cf := some (fileOf pool12 1 #[.nestMembers #[189]] #[{ accessFlags := 9, nameIndex := 187, descriptorIndex := 188, attributes := #[] }, { accessFlags := 1, nameIndex := 67, descriptorIndex := 201, attributes := #[] }] 49 203 #[304, 306, 308] #[{ accessFlags := 25, nameIndex := 310, descriptorIndex := 194, attributes := #[] }, { accessFlags := 25, nameIndex := 312, descriptorIndex := 194, attributes := #[] }, { accessFlags := 25, nameIndex := 302, descriptorIndex := 303, attributes := #[] }, { accessFlags := 24, nameIndex := 19, descriptorIndex := 20, attributes := #[] }, { accessFlags := 24, nameIndex := 89, descriptorIndex := 86, attributes := #[] }, { accessFlags := 24, nameIndex := 85, descriptorIndex := 86, attributes := #[] }, { accessFlags := 18, nameIndex := 207, descriptorIndex := 194, attributes := #[] }, { accessFlags := 25, nameIndex := 316, descriptorIndex := 194, attributes := #[] }, { accessFlags := 25, nameIndex := 318, descriptorIndex := 194, attributes := #[] }, { accessFlags := 26, nameIndex := 320, descriptorIndex := 321, attributes := #[] }])
  fields := #[{ name := "MIN_VALUE", type := .int, accessFlags := 25, slot := 0, constantValue := 0 }, { name := "MAX_VALUE", type := .int, accessFlags := 25, slot := 1, constantValue := 0 }, { name := "TYPE", type := (.object "java/lang/Class"), accessFlags := 25, slot := 2, constantValue := 0 }, { name := "digits", type := (.array .char), accessFlags := 24, slot := 3, constantValue := 0 }, { name := "DigitTens", type := (.array .byte), accessFlags := 24, slot := 4, constantValue := 0 }, { name := "DigitOnes", type := (.array .byte), accessFlags := 24, slot := 5, constantValue := 0 }, { name := "value", type := .int, accessFlags := 18, slot := 0, constantValue := 0 }, { name := "SIZE", type := .int, accessFlags := 25, slot := 6, constantValue := 0 }, { name := "BYTES", type := .int, accessFlags := 25, slot := 7, constantValue := 0 }, { name := "serialVersionUID", type := .long, accessFlags := 26, slot := 8, constantValue := 0 }]
  methods := #[k12m0, k12m1]
  instanceTypes := #[.int]
  staticTypes := #[.int, .int, (.object "java/lang/Class"), (.array .char), (.array .byte), (.array .byte), .int, .int, .long]
  resolved := Array.replicate 453 none
  statics := none }

def pool13 : Array CpInfo := pool [(2, .class_ 4), (1, u "java/lang/Object"), (0, u "<init>"), (0, u "()V"), (0, .class_ 8), (0, u "java/lang/Integer"), (7, .class_ 18), (1, u "java/lang/Integer$IntegerCache"), (0, u "$assertionsDisabled"), (0, u "Z"), (26, u "high"), (0, u "I"), (8, u "archivedCache"), (0, u "[Ljava/lang/Integer;"), (12, u "cache"), (0, u "low")] 27

def k13m0 : Method := { name := "<init>", desc := "()V", sig := { parameters := [], returnType := none }, accessFlags := 2, code := none }
/-- java/lang/Integer$IntegerCache -/
def k13 : Class := { plain "java/lang/Integer$IntegerCache" (some 0) with
  accessFlags := 48
  interfaces := #[]
  cf := some (fileOf pool13 16 #[.nestHost 7] #[{ accessFlags := 2, nameIndex := 5, descriptorIndex := 6, attributes := #[] }] 48 2 #[] #[{ accessFlags := 24, nameIndex := 72, descriptorIndex := 48, attributes := #[] }, { accessFlags := 24, nameIndex := 47, descriptorIndex := 48, attributes := #[] }, { accessFlags := 24, nameIndex := 71, descriptorIndex := 58, attributes := #[] }, { accessFlags := 8, nameIndex := 57, descriptorIndex := 58, attributes := #[] }, { accessFlags := 4120, nameIndex := 19, descriptorIndex := 20, attributes := #[] }])
  fields := #[{ name := "low", type := .int, accessFlags := 24, slot := 0, constantValue := 0 }, { name := "high", type := .int, accessFlags := 24, slot := 1, constantValue := 0 }, { name := "cache", type := (.array (.object "java/lang/Integer")), accessFlags := 24, slot := 2, constantValue := 0 }, { name := "archivedCache", type := (.array (.object "java/lang/Integer")), accessFlags := 8, slot := 3, constantValue := 0 }, { name := "$assertionsDisabled", type := .boolean, accessFlags := 4120, slot := 4, constantValue := 0 }]
  methods := #[k13m0]
  instanceTypes := #[]
  staticTypes := #[.int, .int, (.array (.object "java/lang/Integer")), (.array (.object "java/lang/Integer")), .boolean]
  resolved := Array.replicate 100 none
  statics := some 1 }

def pool14 : Array CpInfo := pool [(2, .class_ 4), (1, u "java/lang/CharSequence"), (42, .class_ 48), (0, u "java/lang/CharSequence$1CodePointIterator"), (10, .class_ 60), (0, u "java/lang/CharSequence$1CharIterator"), (5, .class_ 67), (0, u "java/lang/Object")] 63

/-- java/lang/CharSequence -/
def k14 : Class := { plain "java/lang/CharSequence" (some 0) with
  accessFlags := 1537
  interfaces := #[]
  cf := some (fileOf pool14 2 #[.nestMembers #[47, 59]] #[] 1537 66 #[] #[])
  fields := #[]
  methods := #[]
  instanceTypes := #[]
  staticTypes := #[]
  resolved := Array.replicate 131 none
  statics := none }

def pool15 : Array CpInfo := pool [(1, .methodref 2 3), (0, .class_ 4), (0, .nameAndType 5 6), (0, u "java/lang/Object"), (0, u "<init>"), (0, u "()V"), (0, .string 8), (0, u ""), (0, .fieldref 10 11), (0, .class_ 12), (0, .nameAndType 13 14), (0, u "java/lang/String"), (0, u "value"), (0, u "[B"), (0, .fieldref 10 16), (0, .nameAndType 17 18), (0, u "coder"), (0, u "B"), (2, u "hash"), (0, u "I"), (2, u "hashIsZero"), (0, u "Z"), (0, .methodref 10 28), (0, .nameAndType 5 29), (0, u "([CIILjava/lang/Void;)V"), (8, .fieldref 10 39), (0, .nameAndType 40 26), (0, u "COMPACT_STRINGS"), (1, .class_ 44), (1, u "java/lang/StringUTF16"), (0, u "compress"), (1, .methodref 42 48), (0, .nameAndType 49 50), (0, u "coderFromArrayLen"), (0, u "([BI)B"), (126, .methodref 42 178), (0, .nameAndType 45 179), (0, u "([CII)[B"), (395, .class_ 576), (0, u "java/lang/CharSequence"), (22, u "CASE_INSENSITIVE_ORDER"), (0, u "Ljava/util/Comparator;"), (409, u "([C)V"), (90, u "serialPersistentFields"), (0, u "[Ljava/io/ObjectStreamField;"), (0, .class_ 1104), (0, u "java/lang/String$CaseInsensitiveComparator"), (1, .class_ 1107), (0, u "java/io/Serializable"), (0, .class_ 1109), (0, u "java/lang/Comparable"), (0, .class_ 1111), (0, u "java/lang/constant/Constable"), (0, .class_ 1113), (0, u "java/lang/constant/ConstantDesc"), (2, u "serialVersionUID"), (0, u "J"), (3, u "REPL"), (0, u "C"), (2, u "LATIN1"), (1, u "UTF16")] 323

def k15m0 : Method := { name := "<init>", desc := "()V", sig := { parameters := [], returnType := none }, accessFlags := 1, code := none }
def k15c1 : Code := { maxStack := 5, maxLocals := 2, code := jdk_42_method_3_code, exceptionTable := #[], attributes := #[] }
def k15m1 : Method := { name := "<init>", desc := "([C)V", sig := { parameters := [(.array .char)], returnType := none }, accessFlags := 1, code := some k15c1 }
def k15c2 : Code := { maxStack := 4, maxLocals := 6, code := jdk_42_method_149_code, exceptionTable := #[], attributes := #[] }
def k15m2 : Method := { name := "<init>", desc := "([CIILjava/lang/Void;)V", sig := { parameters := [(.array .char), .int, .int, (.object "java/lang/Void")], returnType := none }, accessFlags := 2, code := some k15c2 }
/-- java/lang/String -/
def k15 : Class := { plain "java/lang/String" (some 0) with
  accessFlags := 49
  interfaces := #[5, 7, 14, 8, 9]
  cf := some (fileOf pool15 10 #[.nestMembers #[1103]] #[{ accessFlags := 1, nameIndex := 5, descriptorIndex := 6, attributes := #[] }, { accessFlags := 1, nameIndex := 5, descriptorIndex := 1010, attributes := #[] }, { accessFlags := 2, nameIndex := 5, descriptorIndex := 29, attributes := #[] }] 49 2 #[1106, 1108, 575, 1110, 1112] #[{ accessFlags := 18, nameIndex := 13, descriptorIndex := 14, attributes := #[] }, { accessFlags := 18, nameIndex := 17, descriptorIndex := 18, attributes := #[] }, { accessFlags := 2, nameIndex := 21, descriptorIndex := 22, attributes := #[] }, { accessFlags := 2, nameIndex := 25, descriptorIndex := 26, attributes := #[] }, { accessFlags := 26, nameIndex := 1116, descriptorIndex := 1117, attributes := #[] }, { accessFlags := 24, nameIndex := 40, descriptorIndex := 26, attributes := #[] }, { accessFlags := 26, nameIndex := 1101, descriptorIndex := 1102, attributes := #[] }, { accessFlags := 26, nameIndex := 1121, descriptorIndex := 1122, attributes := #[] }, { accessFlags := 25, nameIndex := 599, descriptorIndex := 600, attributes := #[] }, { accessFlags := 24, nameIndex := 1125, descriptorIndex := 18, attributes := #[] }, { accessFlags := 24, nameIndex := 1127, descriptorIndex := 18, attributes := #[] }])
  fields := #[{ name := "value", type := (.array .byte), accessFlags := 18, slot := 0, constantValue := 0 }, { name := "coder", type := .byte, accessFlags := 18, slot := 1, constantValue := 0 }, { name := "hash", type := .int, accessFlags := 2, slot := 2, constantValue := 0 }, { name := "hashIsZero", type := .boolean, accessFlags := 2, slot := 3, constantValue := 0 }, { name := "serialVersionUID", type := .long, accessFlags := 26, slot := 0, constantValue := 0 }, { name := "COMPACT_STRINGS", type := .boolean, accessFlags := 24, slot := 1, constantValue := 0 }, { name := "serialPersistentFields", type := (.array (.object "java/io/ObjectStreamField")), accessFlags := 26, slot := 2, constantValue := 0 }, { name := "REPL", type := .char, accessFlags := 26, slot := 3, constantValue := 0 }, { name := "CASE_INSENSITIVE_ORDER", type := (.object "java/util/Comparator"), accessFlags := 25, slot := 4, constantValue := 0 }, { name := "LATIN1", type := .byte, accessFlags := 24, slot := 5, constantValue := 0 }, { name := "UTF16", type := .byte, accessFlags := 24, slot := 6, constantValue := 0 }]
  methods := #[k15m0, k15m1, k15m2]
  instanceTypes := #[(.array .byte), .byte, .int, .boolean]
  staticTypes := #[.long, .boolean, (.array (.object "java/io/ObjectStreamField")), .char, (.object "java/util/Comparator"), .byte, .byte]
  resolved := Array.replicate 1451 none
  statics := some 2 }

def pool16 : Array CpInfo := pool [(6, .class_ 8), (1, u "java/lang/Object"), (0, u "<init>"), (0, u "()V"), (1, .class_ 14), (1, u "java/lang/StringUTF16"), (31, u "$assertionsDisabled"), (0, u "Z"), (13, u "HI_BYTE_SHIFT"), (0, u "I"), (2, u "LO_BYTE_SHIFT"), (49, .methodref 12 116), (0, .nameAndType 117 118), (0, u "compress"), (0, u "([CI[BII)I"), (3, u "([CII)[B"), (138, u "coderFromArrayLen"), (0, u "([BI)B"), (106, .class_ 371), (1, u "java/lang/StringUTF16$LinesSpliterator"), (58, u "MAX_LENGTH"), (196, .class_ 628), (0, u "java/lang/StringUTF16$CodePointsSpliterator"), (0, .class_ 630), (0, u "java/lang/StringUTF16$CharsSpliterator")] 4

def k16m0 : Method := { name := "<init>", desc := "()V", sig := { parameters := [], returnType := none }, accessFlags := 0, code := none }
def k16c1 : Code := { maxStack := 2, maxLocals := 2, code := jdk_52_method_15_code, exceptionTable := #[], attributes := #[] }
def k16m1 : Method := { name := "coderFromArrayLen", desc := "([BI)B", sig := { parameters := [(.array .byte), .int], returnType := some .byte }, accessFlags := 8, code := some k16c1 }
def k16c2 : Code := { maxStack := 5, maxLocals := 6, code := jdk_52_method_16_code, exceptionTable := #[], attributes := #[] }
def k16m2 : Method := { name := "compress", desc := "([CII)[B", sig := { parameters := [(.array .char), .int, .int], returnType := some (.array .byte) }, accessFlags := 9, code := some k16c2 }
def k16c3 : Code := { maxStack := 3, maxLocals := 7, code := jdk_52_method_21_code, exceptionTable := #[], attributes := #[] }
def k16m3 : Method := { name := "compress", desc := "([CI[BII)I", sig := { parameters := [(.array .char), .int, (.array .byte), .int, .int], returnType := some .int }, accessFlags := 9, code := some k16c3 }
/-- java/lang/StringUTF16 -/
def k16 : Class := { plain "java/lang/StringUTF16" (some 0) with
  accessFlags := 48
  interfaces := #[]
  cf := some (fileOf pool16 12 #[.nestMembers #[627, 629, 369]] #[{ accessFlags := 0, nameIndex := 9, descriptorIndex := 10, attributes := #[] }, { accessFlags := 8, nameIndex := 261, descriptorIndex := 262, attributes := #[] }, { accessFlags := 9, nameIndex := 117, descriptorIndex := 122, attributes := #[] }, { accessFlags := 9, nameIndex := 117, descriptorIndex := 118, attributes := #[] }] 48 6 #[] #[{ accessFlags := 26, nameIndex := 61, descriptorIndex := 62, attributes := #[] }, { accessFlags := 26, nameIndex := 65, descriptorIndex := 62, attributes := #[] }, { accessFlags := 24, nameIndex := 430, descriptorIndex := 62, attributes := #[] }, { accessFlags := 4120, nameIndex := 46, descriptorIndex := 47, attributes := #[] }])
  fields := #[{ name := "HI_BYTE_SHIFT", type := .int, accessFlags := 26, slot := 0, constantValue := 0 }, { name := "LO_BYTE_SHIFT", type := .int, accessFlags := 26, slot := 1, constantValue := 0 }, { name := "MAX_LENGTH", type := .int, accessFlags := 24, slot := 2, constantValue := 0 }, { name := "$assertionsDisabled", type := .boolean, accessFlags := 4120, slot := 3, constantValue := 0 }]
  methods := #[k16m0, k16m1, k16m2, k16m3]
  instanceTypes := #[]
  staticTypes := #[.int, .int, .int, .boolean]
  resolved := Array.replicate 635 none
  statics := none }

def pool17 : Array CpInfo := pool [(4, .class_ 6), (1, u "java/lang/Object"), (0, u "<init>"), (0, u "()V"), (5, .class_ 16), (1, u "java/lang/StringLatin1"), (104, u "$assertionsDisabled"), (0, u "Z"), (98, .class_ 223), (1, u "java/lang/StringLatin1$LinesSpliterator"), (166, .class_ 391), (0, u "java/lang/StringLatin1$CharsSpliterator")] 3

def k17m0 : Method := { name := "<init>", desc := "()V", sig := { parameters := [], returnType := none }, accessFlags := 0, code := none }
/-- java/lang/StringLatin1 -/
def k17 : Class := { plain "java/lang/StringLatin1" (some 0) with
  accessFlags := 48
  interfaces := #[]
  cf := some (fileOf pool17 14 #[.nestMembers #[390, 221]] #[{ accessFlags := 0, nameIndex := 7, descriptorIndex := 8, attributes := #[] }] 48 4 #[] #[{ accessFlags := 4120, nameIndex := 121, descriptorIndex := 122, attributes := #[] }])
  fields := #[{ name := "$assertionsDisabled", type := .boolean, accessFlags := 4120, slot := 0, constantValue := 0 }]
  methods := #[k17m0]
  instanceTypes := #[]
  staticTypes := #[.boolean]
  resolved := Array.replicate 395 none
  statics := none }

def pool18 : Array CpInfo := pool [(2, .class_ 4), (1, u "java/lang/Object"), (0, u "<init>"), (0, u "()V"), (17, .class_ 26), (1, u "jdk/internal/util/Preconditions"), (28, .class_ 56), (0, u "jdk/internal/util/Preconditions$4"), (57, .class_ 115), (0, u "jdk/internal/util/Preconditions$1"), (7, u "SIOOBE_FORMATTER"), (0, u "Ljava/util/function/BiFunction;"), (0, .class_ 126), (0, u "jdk/internal/util/Preconditions$2"), (3, u "AIOOBE_FORMATTER"), (0, .class_ 132), (0, u "jdk/internal/util/Preconditions$3"), (3, u "IOOBE_FORMATTER")] 57

def k18m0 : Method := { name := "<init>", desc := "()V", sig := { parameters := [], returnType := none }, accessFlags := 1, code := none }
/-- jdk/internal/util/Preconditions -/
def k18 : Class := { plain "jdk/internal/util/Preconditions" (some 0) with
  accessFlags := 33
  interfaces := #[]
  cf := some (fileOf pool18 24 #[.nestMembers #[55, 131, 125, 114]] #[{ accessFlags := 1, nameIndex := 5, descriptorIndex := 6, attributes := #[] }] 33 2 #[] #[{ accessFlags := 25, nameIndex := 123, descriptorIndex := 124, attributes := #[] }, { accessFlags := 25, nameIndex := 130, descriptorIndex := 124, attributes := #[] }, { accessFlags := 25, nameIndex := 136, descriptorIndex := 124, attributes := #[] }])
  fields := #[{ name := "SIOOBE_FORMATTER", type := (.object "java/util/function/BiFunction"), accessFlags := 25, slot := 0, constantValue := 0 }, { name := "AIOOBE_FORMATTER", type := (.object "java/util/function/BiFunction"), accessFlags := 25, slot := 1, constantValue := 0 }, { name := "IOOBE_FORMATTER", type := (.object "java/util/function/BiFunction"), accessFlags := 25, slot := 2, constantValue := 0 }]
  methods := #[k18m0]
  instanceTypes := #[]
  staticTypes := #[(.object "java/util/function/BiFunction"), (.object "java/util/function/BiFunction"), (.object "java/util/function/BiFunction")]
  resolved := Array.replicate 194 none
  statics := some 3 }

def pool19 : Array CpInfo := pool [(9, u "<init>"), (6, .class_ 18), (1, u "java/lang/Object"), (0, u "()V"), (1, .class_ 23), (1, u "jdk/internal/util/ArraysSupport"), (0, u "LOG2_ARRAY_LONG_INDEX_SCALE"), (0, u "I"), (2, u "U"), (0, u "Ljdk/internal/misc/Unsafe;"), (8, u "BIG_ENDIAN"), (0, u "Z"), (8, u "LOG2_BYTE_BIT_SIZE"), (4, u "LOG2_ARRAY_INT_INDEX_SCALE"), (54, u "JLA"), (0, u "Ljdk/internal/access/JavaLangAccess;"), (11, u "LOG2_ARRAY_BOOLEAN_INDEX_SCALE"), (9, u "LOG2_ARRAY_BYTE_INDEX_SCALE"), (5, u "LOG2_ARRAY_CHAR_INDEX_SCALE"), (5, u "LOG2_ARRAY_SHORT_INDEX_SCALE"), (18, u "LOG2_ARRAY_FLOAT_INDEX_SCALE"), (24, u "LOG2_ARRAY_DOUBLE_INDEX_SCALE"), (89, u "T_BOOLEAN"), (2, u "T_CHAR"), (1, u "T_FLOAT"), (1, u "T_DOUBLE"), (1, u "T_BYTE"), (1, u "T_SHORT"), (1, u "T_INT"), (1, u "T_LONG"), (1, u "SOFT_MAX_ARRAY_LENGTH")] 83

def k19m0 : Method := { name := "<init>", desc := "()V", sig := { parameters := [], returnType := none }, accessFlags := 2, code := none }
/-- jdk/internal/util/ArraysSupport -/
def k19 : Class := { plain "jdk/internal/util/ArraysSupport" (some 0) with
  accessFlags := 33
  interfaces := #[]
  cf := some (fileOf pool19 21 #[] #[{ accessFlags := 2, nameIndex := 9, descriptorIndex := 19, attributes := #[] }] 33 16 #[] #[{ accessFlags := 24, nameIndex := 28, descriptorIndex := 29, attributes := #[] }, { accessFlags := 26, nameIndex := 38, descriptorIndex := 39, attributes := #[] }, { accessFlags := 25, nameIndex := 121, descriptorIndex := 25, attributes := #[] }, { accessFlags := 25, nameIndex := 131, descriptorIndex := 25, attributes := #[] }, { accessFlags := 25, nameIndex := 137, descriptorIndex := 25, attributes := #[] }, { accessFlags := 25, nameIndex := 143, descriptorIndex := 25, attributes := #[] }, { accessFlags := 25, nameIndex := 53, descriptorIndex := 25, attributes := #[] }, { accessFlags := 25, nameIndex := 24, descriptorIndex := 25, attributes := #[] }, { accessFlags := 25, nameIndex := 162, descriptorIndex := 25, attributes := #[] }, { accessFlags := 25, nameIndex := 187, descriptorIndex := 25, attributes := #[] }, { accessFlags := 26, nameIndex := 48, descriptorIndex := 25, attributes := #[] }, { accessFlags := 25, nameIndex := 277, descriptorIndex := 25, attributes := #[] }, { accessFlags := 25, nameIndex := 280, descriptorIndex := 25, attributes := #[] }, { accessFlags := 25, nameIndex := 282, descriptorIndex := 25, attributes := #[] }, { accessFlags := 25, nameIndex := 284, descriptorIndex := 25, attributes := #[] }, { accessFlags := 25, nameIndex := 286, descriptorIndex := 25, attributes := #[] }, { accessFlags := 25, nameIndex := 288, descriptorIndex := 25, attributes := #[] }, { accessFlags := 25, nameIndex := 290, descriptorIndex := 25, attributes := #[] }, { accessFlags := 25, nameIndex := 292, descriptorIndex := 25, attributes := #[] }, { accessFlags := 26, nameIndex := 108, descriptorIndex := 109, attributes := #[] }, { accessFlags := 25, nameIndex := 294, descriptorIndex := 25, attributes := #[] }])
  fields := #[{ name := "U", type := (.object "jdk/internal/misc/Unsafe"), accessFlags := 24, slot := 0, constantValue := 0 }, { name := "BIG_ENDIAN", type := .boolean, accessFlags := 26, slot := 1, constantValue := 0 }, { name := "LOG2_ARRAY_BOOLEAN_INDEX_SCALE", type := .int, accessFlags := 25, slot := 2, constantValue := 0 }, { name := "LOG2_ARRAY_BYTE_INDEX_SCALE", type := .int, accessFlags := 25, slot := 3, constantValue := 0 }, { name := "LOG2_ARRAY_CHAR_INDEX_SCALE", type := .int, accessFlags := 25, slot := 4, constantValue := 0 }, { name := "LOG2_ARRAY_SHORT_INDEX_SCALE", type := .int, accessFlags := 25, slot := 5, constantValue := 0 }, { name := "LOG2_ARRAY_INT_INDEX_SCALE", type := .int, accessFlags := 25, slot := 6, constantValue := 0 }, { name := "LOG2_ARRAY_LONG_INDEX_SCALE", type := .int, accessFlags := 25, slot := 7, constantValue := 0 }, { name := "LOG2_ARRAY_FLOAT_INDEX_SCALE", type := .int, accessFlags := 25, slot := 8, constantValue := 0 }, { name := "LOG2_ARRAY_DOUBLE_INDEX_SCALE", type := .int, accessFlags := 25, slot := 9, constantValue := 0 }, { name := "LOG2_BYTE_BIT_SIZE", type := .int, accessFlags := 26, slot := 10, constantValue := 0 }, { name := "T_BOOLEAN", type := .int, accessFlags := 25, slot := 11, constantValue := 0 }, { name := "T_CHAR", type := .int, accessFlags := 25, slot := 12, constantValue := 0 }, { name := "T_FLOAT", type := .int, accessFlags := 25, slot := 13, constantValue := 0 }, { name := "T_DOUBLE", type := .int, accessFlags := 25, slot := 14, constantValue := 0 }, { name := "T_BYTE", type := .int, accessFlags := 25, slot := 15, constantValue := 0 }, { name := "T_SHORT", type := .int, accessFlags := 25, slot := 16, constantValue := 0 }, { name := "T_INT", type := .int, accessFlags := 25, slot := 17, constantValue := 0 }, { name := "T_LONG", type := .int, accessFlags := 25, slot := 18, constantValue := 0 }, { name := "JLA", type := (.object "jdk/internal/access/JavaLangAccess"), accessFlags := 26, slot := 19, constantValue := 0 }, { name := "SOFT_MAX_ARRAY_LENGTH", type := .int, accessFlags := 25, slot := 20, constantValue := 0 }]
  methods := #[k19m0]
  instanceTypes := #[]
  staticTypes := #[(.object "jdk/internal/misc/Unsafe"), .boolean, .int, .int, .int, .int, .int, .int, .int, .int, .int, .int, .int, .int, .int, .int, .int, .int, .int, (.object "jdk/internal/access/JavaLangAccess"), .int]
  resolved := Array.replicate 378 none
  statics := none }

def pool20 : Array CpInfo := pool [(1, u "java/lang/Cloneable"), (0, .class_ 1), (0, u "java/lang/Object"), (0, .class_ 3)] 3

/-- java/lang/Cloneable -/
def k20 : Class := { plain "java/lang/Cloneable" (some 0) with
  accessFlags := 1537
  interfaces := #[]
  cf := some (fileOf pool20 2 #[] #[] 1537 4 #[] #[])
  fields := #[]
  methods := #[]
  instanceTypes := #[]
  staticTypes := #[]
  resolved := Array.replicate 8 none
  statics := none }

/-- the primitive byte -/
def k21 : Class := { plain "byte" none with kind := .primitive 'B', accessFlags := 0x411 }
/-- [B -/
def k22 : Class := { plain "[B" (some 0) with kind := .array 21 .byte, interfaces := #[20, 5], accessFlags := 1041 }

/-- the primitive char -/
def k23 : Class := { plain "char" none with kind := .primitive 'C', accessFlags := 0x411 }
/-- [C -/
def k24 : Class := { plain "[C" (some 0) with kind := .array 23 .char, interfaces := #[20, 5], accessFlags := 1041 }

/-- the primitive int -/
def k25 : Class := { plain "int" none with kind := .primitive 'I', accessFlags := 0x411 }
/-- [I -/
def k26 : Class := { plain "[I" (some 0) with kind := .array 25 .int, interfaces := #[20, 5], accessFlags := 1041 }

/-- [Ljava/lang/Integer; -/
def k27 : Class := { plain "[Ljava/lang/Integer;" (some 0) with kind := .array 12 (.object "java/lang/Integer"), interfaces := #[20, 5], accessFlags := 1041 }

/-- [Ljava/lang/Long; -/
def k28 : Class := { plain "[Ljava/lang/Long;" (some 0) with kind := .array 10 (.object "java/lang/Long"), interfaces := #[20, 5], accessFlags := 1041 }

def heap : Heap := #[{ cls := 11, slots := #[.ref 4, .null, .int 0], vm := .statics 11 },
  { cls := 13, slots := #[.int 0, .int 127, .ref 5, .null, .int 0], vm := .statics 13 },
  { cls := 15, slots := #[.long 0, .int 1, .null, .int 0, .null, .int 0, .int 0], vm := .statics 15 },
  { cls := 18, slots := #[.null, .null, .null], vm := .statics 18 },
  { cls := 28, slots := #[.ref 6, .ref 7, .ref 8, .ref 9, .ref 10, .ref 11, .ref 12, .ref 13, .ref 14, .ref 15, .ref 16, .ref 17, .ref 18, .ref 19, .ref 20, .ref 21, .ref 22, .ref 23, .ref 24, .ref 25, .ref 26, .ref 27, .ref 28, .ref 29, .ref 30, .ref 31, .ref 32, .ref 33, .ref 34, .ref 35, .ref 36, .ref 37, .ref 38, .ref 39, .ref 40, .ref 41, .ref 42, .ref 43, .ref 44, .ref 45, .ref 46, .ref 47, .ref 48, .ref 49, .ref 50, .ref 51, .ref 52, .ref 53, .ref 54, .ref 55, .ref 56, .ref 57, .ref 58, .ref 59, .ref 60, .ref 61, .ref 62, .ref 63, .ref 64, .ref 65, .ref 66, .ref 67, .ref 68, .ref 69, .ref 70, .ref 71, .ref 72, .ref 73, .ref 74, .ref 75, .ref 76, .ref 77, .ref 78, .ref 79, .ref 80, .ref 81, .ref 82, .ref 83, .ref 84, .ref 85, .ref 86, .ref 87, .ref 88, .ref 89, .ref 90, .ref 91, .ref 92, .ref 93, .ref 94, .ref 95, .ref 96, .ref 97, .ref 98, .ref 99, .ref 100, .ref 101, .ref 102, .ref 103, .ref 104, .ref 105, .ref 106, .ref 107, .ref 108, .ref 109, .ref 110, .ref 111, .ref 112, .ref 113, .ref 114, .ref 115, .ref 116, .ref 117, .ref 118, .ref 119, .ref 120, .ref 121, .ref 122, .ref 123, .ref 124, .ref 125, .ref 126, .ref 127, .ref 128, .ref 129, .ref 130, .ref 131, .ref 132, .ref 133, .ref 134, .ref 135, .ref 136, .ref 137, .ref 138, .ref 139, .ref 140, .ref 141, .ref 142, .ref 143, .ref 144, .ref 145, .ref 146, .ref 147, .ref 148, .ref 149, .ref 150, .ref 151, .ref 152, .ref 153, .ref 154, .ref 155, .ref 156, .ref 157, .ref 158, .ref 159, .ref 160, .ref 161, .ref 162, .ref 163, .ref 164, .ref 165, .ref 166, .ref 167, .ref 168, .ref 169, .ref 170, .ref 171, .ref 172, .ref 173, .ref 174, .ref 175, .ref 176, .ref 177, .ref 178, .ref 179, .ref 180, .ref 181, .ref 182, .ref 183, .ref 184, .ref 185, .ref 186, .ref 187, .ref 188, .ref 189, .ref 190, .ref 191, .ref 192, .ref 193, .ref 194, .ref 195, .ref 196, .ref 197, .ref 198, .ref 199, .ref 200, .ref 201, .ref 202, .ref 203, .ref 204, .ref 205, .ref 206, .ref 207, .ref 208, .ref 209, .ref 210, .ref 211, .ref 212, .ref 213, .ref 214, .ref 215, .ref 216, .ref 217, .ref 218, .ref 219, .ref 220, .ref 221, .ref 222, .ref 223, .ref 224, .ref 225, .ref 226, .ref 227, .ref 228, .ref 229, .ref 230, .ref 231, .ref 232, .ref 233, .ref 234, .ref 235, .ref 236, .ref 237, .ref 238, .ref 239, .ref 240, .ref 241, .ref 242, .ref 243, .ref 244, .ref 245, .ref 246, .ref 247, .ref 248, .ref 249, .ref 250, .ref 251, .ref 252, .ref 253, .ref 254, .ref 255, .ref 256, .ref 257, .ref 258, .ref 259, .ref 260, .ref 261], vm := .none },
  { cls := 27, slots := #[.ref 262, .ref 263, .ref 264, .ref 265, .ref 266, .ref 267, .ref 268, .ref 269, .ref 270, .ref 271, .ref 272, .ref 273, .ref 274, .ref 275, .ref 276, .ref 277, .ref 278, .ref 279, .ref 280, .ref 281, .ref 282, .ref 283, .ref 284, .ref 285, .ref 286, .ref 287, .ref 288, .ref 289, .ref 290, .ref 291, .ref 292, .ref 293, .ref 294, .ref 295, .ref 296, .ref 297, .ref 298, .ref 299, .ref 300, .ref 301, .ref 302, .ref 303, .ref 304, .ref 305, .ref 306, .ref 307, .ref 308, .ref 309, .ref 310, .ref 311, .ref 312, .ref 313, .ref 314, .ref 315, .ref 316, .ref 317, .ref 318, .ref 319, .ref 320, .ref 321, .ref 322, .ref 323, .ref 324, .ref 325, .ref 326, .ref 327, .ref 328, .ref 329, .ref 330, .ref 331, .ref 332, .ref 333, .ref 334, .ref 335, .ref 336, .ref 337, .ref 338, .ref 339, .ref 340, .ref 341, .ref 342, .ref 343, .ref 344, .ref 345, .ref 346, .ref 347, .ref 348, .ref 349, .ref 350, .ref 351, .ref 352, .ref 353, .ref 354, .ref 355, .ref 356, .ref 357, .ref 358, .ref 359, .ref 360, .ref 361, .ref 362, .ref 363, .ref 364, .ref 365, .ref 366, .ref 367, .ref 368, .ref 369, .ref 370, .ref 371, .ref 372, .ref 373, .ref 374, .ref 375, .ref 376, .ref 377, .ref 378, .ref 379, .ref 380, .ref 381, .ref 382, .ref 383, .ref 384, .ref 385, .ref 386, .ref 387, .ref 388, .ref 389, .ref 390, .ref 391, .ref 392, .ref 393, .ref 394, .ref 395, .ref 396, .ref 397, .ref 398, .ref 399, .ref 400, .ref 401, .ref 402, .ref 403, .ref 404, .ref 405, .ref 406, .ref 407, .ref 408, .ref 409, .ref 410, .ref 411, .ref 412, .ref 413, .ref 414, .ref 415, .ref 416, .ref 417, .ref 418, .ref 419, .ref 420, .ref 421, .ref 422, .ref 423, .ref 424, .ref 425, .ref 426, .ref 427, .ref 428, .ref 429, .ref 430, .ref 431, .ref 432, .ref 433, .ref 434, .ref 435, .ref 436, .ref 437, .ref 438, .ref 439, .ref 440, .ref 441, .ref 442, .ref 443, .ref 444, .ref 445, .ref 446, .ref 447, .ref 448, .ref 449, .ref 450, .ref 451, .ref 452, .ref 453, .ref 454, .ref 455, .ref 456, .ref 457, .ref 458, .ref 459, .ref 460, .ref 461, .ref 462, .ref 463, .ref 464, .ref 465, .ref 466, .ref 467, .ref 468, .ref 469, .ref 470, .ref 471, .ref 472, .ref 473, .ref 474, .ref 475, .ref 476, .ref 477, .ref 478, .ref 479, .ref 480, .ref 481, .ref 482, .ref 483, .ref 484, .ref 485, .ref 486, .ref 487, .ref 488, .ref 489, .ref 490, .ref 491, .ref 492, .ref 493, .ref 494, .ref 495, .ref 496, .ref 497, .ref 498, .ref 499, .ref 500, .ref 501, .ref 502, .ref 503, .ref 504, .ref 505, .ref 506, .ref 507, .ref 508, .ref 509, .ref 510, .ref 511, .ref 512, .ref 513, .ref 514, .ref 515, .ref 516, .ref 517], vm := .none },
  { cls := 10, slots := #[.long (-128)], vm := .none },
  { cls := 10, slots := #[.long (-127)], vm := .none },
  { cls := 10, slots := #[.long (-126)], vm := .none },
  { cls := 10, slots := #[.long (-125)], vm := .none },
  { cls := 10, slots := #[.long (-124)], vm := .none },
  { cls := 10, slots := #[.long (-123)], vm := .none },
  { cls := 10, slots := #[.long (-122)], vm := .none },
  { cls := 10, slots := #[.long (-121)], vm := .none },
  { cls := 10, slots := #[.long (-120)], vm := .none },
  { cls := 10, slots := #[.long (-119)], vm := .none },
  { cls := 10, slots := #[.long (-118)], vm := .none },
  { cls := 10, slots := #[.long (-117)], vm := .none },
  { cls := 10, slots := #[.long (-116)], vm := .none },
  { cls := 10, slots := #[.long (-115)], vm := .none },
  { cls := 10, slots := #[.long (-114)], vm := .none },
  { cls := 10, slots := #[.long (-113)], vm := .none },
  { cls := 10, slots := #[.long (-112)], vm := .none },
  { cls := 10, slots := #[.long (-111)], vm := .none },
  { cls := 10, slots := #[.long (-110)], vm := .none },
  { cls := 10, slots := #[.long (-109)], vm := .none },
  { cls := 10, slots := #[.long (-108)], vm := .none },
  { cls := 10, slots := #[.long (-107)], vm := .none },
  { cls := 10, slots := #[.long (-106)], vm := .none },
  { cls := 10, slots := #[.long (-105)], vm := .none },
  { cls := 10, slots := #[.long (-104)], vm := .none },
  { cls := 10, slots := #[.long (-103)], vm := .none },
  { cls := 10, slots := #[.long (-102)], vm := .none },
  { cls := 10, slots := #[.long (-101)], vm := .none },
  { cls := 10, slots := #[.long (-100)], vm := .none },
  { cls := 10, slots := #[.long (-99)], vm := .none },
  { cls := 10, slots := #[.long (-98)], vm := .none },
  { cls := 10, slots := #[.long (-97)], vm := .none },
  { cls := 10, slots := #[.long (-96)], vm := .none },
  { cls := 10, slots := #[.long (-95)], vm := .none },
  { cls := 10, slots := #[.long (-94)], vm := .none },
  { cls := 10, slots := #[.long (-93)], vm := .none },
  { cls := 10, slots := #[.long (-92)], vm := .none },
  { cls := 10, slots := #[.long (-91)], vm := .none },
  { cls := 10, slots := #[.long (-90)], vm := .none },
  { cls := 10, slots := #[.long (-89)], vm := .none },
  { cls := 10, slots := #[.long (-88)], vm := .none },
  { cls := 10, slots := #[.long (-87)], vm := .none },
  { cls := 10, slots := #[.long (-86)], vm := .none },
  { cls := 10, slots := #[.long (-85)], vm := .none },
  { cls := 10, slots := #[.long (-84)], vm := .none },
  { cls := 10, slots := #[.long (-83)], vm := .none },
  { cls := 10, slots := #[.long (-82)], vm := .none },
  { cls := 10, slots := #[.long (-81)], vm := .none },
  { cls := 10, slots := #[.long (-80)], vm := .none },
  { cls := 10, slots := #[.long (-79)], vm := .none },
  { cls := 10, slots := #[.long (-78)], vm := .none },
  { cls := 10, slots := #[.long (-77)], vm := .none },
  { cls := 10, slots := #[.long (-76)], vm := .none },
  { cls := 10, slots := #[.long (-75)], vm := .none },
  { cls := 10, slots := #[.long (-74)], vm := .none },
  { cls := 10, slots := #[.long (-73)], vm := .none },
  { cls := 10, slots := #[.long (-72)], vm := .none },
  { cls := 10, slots := #[.long (-71)], vm := .none },
  { cls := 10, slots := #[.long (-70)], vm := .none },
  { cls := 10, slots := #[.long (-69)], vm := .none },
  { cls := 10, slots := #[.long (-68)], vm := .none },
  { cls := 10, slots := #[.long (-67)], vm := .none },
  { cls := 10, slots := #[.long (-66)], vm := .none },
  { cls := 10, slots := #[.long (-65)], vm := .none },
  { cls := 10, slots := #[.long (-64)], vm := .none },
  { cls := 10, slots := #[.long (-63)], vm := .none },
  { cls := 10, slots := #[.long (-62)], vm := .none },
  { cls := 10, slots := #[.long (-61)], vm := .none },
  { cls := 10, slots := #[.long (-60)], vm := .none },
  { cls := 10, slots := #[.long (-59)], vm := .none },
  { cls := 10, slots := #[.long (-58)], vm := .none },
  { cls := 10, slots := #[.long (-57)], vm := .none },
  { cls := 10, slots := #[.long (-56)], vm := .none },
  { cls := 10, slots := #[.long (-55)], vm := .none },
  { cls := 10, slots := #[.long (-54)], vm := .none },
  { cls := 10, slots := #[.long (-53)], vm := .none },
  { cls := 10, slots := #[.long (-52)], vm := .none },
  { cls := 10, slots := #[.long (-51)], vm := .none },
  { cls := 10, slots := #[.long (-50)], vm := .none },
  { cls := 10, slots := #[.long (-49)], vm := .none },
  { cls := 10, slots := #[.long (-48)], vm := .none },
  { cls := 10, slots := #[.long (-47)], vm := .none },
  { cls := 10, slots := #[.long (-46)], vm := .none },
  { cls := 10, slots := #[.long (-45)], vm := .none },
  { cls := 10, slots := #[.long (-44)], vm := .none },
  { cls := 10, slots := #[.long (-43)], vm := .none },
  { cls := 10, slots := #[.long (-42)], vm := .none },
  { cls := 10, slots := #[.long (-41)], vm := .none },
  { cls := 10, slots := #[.long (-40)], vm := .none },
  { cls := 10, slots := #[.long (-39)], vm := .none },
  { cls := 10, slots := #[.long (-38)], vm := .none },
  { cls := 10, slots := #[.long (-37)], vm := .none },
  { cls := 10, slots := #[.long (-36)], vm := .none },
  { cls := 10, slots := #[.long (-35)], vm := .none },
  { cls := 10, slots := #[.long (-34)], vm := .none },
  { cls := 10, slots := #[.long (-33)], vm := .none },
  { cls := 10, slots := #[.long (-32)], vm := .none },
  { cls := 10, slots := #[.long (-31)], vm := .none },
  { cls := 10, slots := #[.long (-30)], vm := .none },
  { cls := 10, slots := #[.long (-29)], vm := .none },
  { cls := 10, slots := #[.long (-28)], vm := .none },
  { cls := 10, slots := #[.long (-27)], vm := .none },
  { cls := 10, slots := #[.long (-26)], vm := .none },
  { cls := 10, slots := #[.long (-25)], vm := .none },
  { cls := 10, slots := #[.long (-24)], vm := .none },
  { cls := 10, slots := #[.long (-23)], vm := .none },
  { cls := 10, slots := #[.long (-22)], vm := .none },
  { cls := 10, slots := #[.long (-21)], vm := .none },
  { cls := 10, slots := #[.long (-20)], vm := .none },
  { cls := 10, slots := #[.long (-19)], vm := .none },
  { cls := 10, slots := #[.long (-18)], vm := .none },
  { cls := 10, slots := #[.long (-17)], vm := .none },
  { cls := 10, slots := #[.long (-16)], vm := .none },
  { cls := 10, slots := #[.long (-15)], vm := .none },
  { cls := 10, slots := #[.long (-14)], vm := .none },
  { cls := 10, slots := #[.long (-13)], vm := .none },
  { cls := 10, slots := #[.long (-12)], vm := .none },
  { cls := 10, slots := #[.long (-11)], vm := .none },
  { cls := 10, slots := #[.long (-10)], vm := .none },
  { cls := 10, slots := #[.long (-9)], vm := .none },
  { cls := 10, slots := #[.long (-8)], vm := .none },
  { cls := 10, slots := #[.long (-7)], vm := .none },
  { cls := 10, slots := #[.long (-6)], vm := .none },
  { cls := 10, slots := #[.long (-5)], vm := .none },
  { cls := 10, slots := #[.long (-4)], vm := .none },
  { cls := 10, slots := #[.long (-3)], vm := .none },
  { cls := 10, slots := #[.long (-2)], vm := .none },
  { cls := 10, slots := #[.long (-1)], vm := .none },
  { cls := 10, slots := #[.long 0], vm := .none },
  { cls := 10, slots := #[.long 1], vm := .none },
  { cls := 10, slots := #[.long 2], vm := .none },
  { cls := 10, slots := #[.long 3], vm := .none },
  { cls := 10, slots := #[.long 4], vm := .none },
  { cls := 10, slots := #[.long 5], vm := .none },
  { cls := 10, slots := #[.long 6], vm := .none },
  { cls := 10, slots := #[.long 7], vm := .none },
  { cls := 10, slots := #[.long 8], vm := .none },
  { cls := 10, slots := #[.long 9], vm := .none },
  { cls := 10, slots := #[.long 10], vm := .none },
  { cls := 10, slots := #[.long 11], vm := .none },
  { cls := 10, slots := #[.long 12], vm := .none },
  { cls := 10, slots := #[.long 13], vm := .none },
  { cls := 10, slots := #[.long 14], vm := .none },
  { cls := 10, slots := #[.long 15], vm := .none },
  { cls := 10, slots := #[.long 16], vm := .none },
  { cls := 10, slots := #[.long 17], vm := .none },
  { cls := 10, slots := #[.long 18], vm := .none },
  { cls := 10, slots := #[.long 19], vm := .none },
  { cls := 10, slots := #[.long 20], vm := .none },
  { cls := 10, slots := #[.long 21], vm := .none },
  { cls := 10, slots := #[.long 22], vm := .none },
  { cls := 10, slots := #[.long 23], vm := .none },
  { cls := 10, slots := #[.long 24], vm := .none },
  { cls := 10, slots := #[.long 25], vm := .none },
  { cls := 10, slots := #[.long 26], vm := .none },
  { cls := 10, slots := #[.long 27], vm := .none },
  { cls := 10, slots := #[.long 28], vm := .none },
  { cls := 10, slots := #[.long 29], vm := .none },
  { cls := 10, slots := #[.long 30], vm := .none },
  { cls := 10, slots := #[.long 31], vm := .none },
  { cls := 10, slots := #[.long 32], vm := .none },
  { cls := 10, slots := #[.long 33], vm := .none },
  { cls := 10, slots := #[.long 34], vm := .none },
  { cls := 10, slots := #[.long 35], vm := .none },
  { cls := 10, slots := #[.long 36], vm := .none },
  { cls := 10, slots := #[.long 37], vm := .none },
  { cls := 10, slots := #[.long 38], vm := .none },
  { cls := 10, slots := #[.long 39], vm := .none },
  { cls := 10, slots := #[.long 40], vm := .none },
  { cls := 10, slots := #[.long 41], vm := .none },
  { cls := 10, slots := #[.long 42], vm := .none },
  { cls := 10, slots := #[.long 43], vm := .none },
  { cls := 10, slots := #[.long 44], vm := .none },
  { cls := 10, slots := #[.long 45], vm := .none },
  { cls := 10, slots := #[.long 46], vm := .none },
  { cls := 10, slots := #[.long 47], vm := .none },
  { cls := 10, slots := #[.long 48], vm := .none },
  { cls := 10, slots := #[.long 49], vm := .none },
  { cls := 10, slots := #[.long 50], vm := .none },
  { cls := 10, slots := #[.long 51], vm := .none },
  { cls := 10, slots := #[.long 52], vm := .none },
  { cls := 10, slots := #[.long 53], vm := .none },
  { cls := 10, slots := #[.long 54], vm := .none },
  { cls := 10, slots := #[.long 55], vm := .none },
  { cls := 10, slots := #[.long 56], vm := .none },
  { cls := 10, slots := #[.long 57], vm := .none },
  { cls := 10, slots := #[.long 58], vm := .none },
  { cls := 10, slots := #[.long 59], vm := .none },
  { cls := 10, slots := #[.long 60], vm := .none },
  { cls := 10, slots := #[.long 61], vm := .none },
  { cls := 10, slots := #[.long 62], vm := .none },
  { cls := 10, slots := #[.long 63], vm := .none },
  { cls := 10, slots := #[.long 64], vm := .none },
  { cls := 10, slots := #[.long 65], vm := .none },
  { cls := 10, slots := #[.long 66], vm := .none },
  { cls := 10, slots := #[.long 67], vm := .none },
  { cls := 10, slots := #[.long 68], vm := .none },
  { cls := 10, slots := #[.long 69], vm := .none },
  { cls := 10, slots := #[.long 70], vm := .none },
  { cls := 10, slots := #[.long 71], vm := .none },
  { cls := 10, slots := #[.long 72], vm := .none },
  { cls := 10, slots := #[.long 73], vm := .none },
  { cls := 10, slots := #[.long 74], vm := .none },
  { cls := 10, slots := #[.long 75], vm := .none },
  { cls := 10, slots := #[.long 76], vm := .none },
  { cls := 10, slots := #[.long 77], vm := .none },
  { cls := 10, slots := #[.long 78], vm := .none },
  { cls := 10, slots := #[.long 79], vm := .none },
  { cls := 10, slots := #[.long 80], vm := .none },
  { cls := 10, slots := #[.long 81], vm := .none },
  { cls := 10, slots := #[.long 82], vm := .none },
  { cls := 10, slots := #[.long 83], vm := .none },
  { cls := 10, slots := #[.long 84], vm := .none },
  { cls := 10, slots := #[.long 85], vm := .none },
  { cls := 10, slots := #[.long 86], vm := .none },
  { cls := 10, slots := #[.long 87], vm := .none },
  { cls := 10, slots := #[.long 88], vm := .none },
  { cls := 10, slots := #[.long 89], vm := .none },
  { cls := 10, slots := #[.long 90], vm := .none },
  { cls := 10, slots := #[.long 91], vm := .none },
  { cls := 10, slots := #[.long 92], vm := .none },
  { cls := 10, slots := #[.long 93], vm := .none },
  { cls := 10, slots := #[.long 94], vm := .none },
  { cls := 10, slots := #[.long 95], vm := .none },
  { cls := 10, slots := #[.long 96], vm := .none },
  { cls := 10, slots := #[.long 97], vm := .none },
  { cls := 10, slots := #[.long 98], vm := .none },
  { cls := 10, slots := #[.long 99], vm := .none },
  { cls := 10, slots := #[.long 100], vm := .none },
  { cls := 10, slots := #[.long 101], vm := .none },
  { cls := 10, slots := #[.long 102], vm := .none },
  { cls := 10, slots := #[.long 103], vm := .none },
  { cls := 10, slots := #[.long 104], vm := .none },
  { cls := 10, slots := #[.long 105], vm := .none },
  { cls := 10, slots := #[.long 106], vm := .none },
  { cls := 10, slots := #[.long 107], vm := .none },
  { cls := 10, slots := #[.long 108], vm := .none },
  { cls := 10, slots := #[.long 109], vm := .none },
  { cls := 10, slots := #[.long 110], vm := .none },
  { cls := 10, slots := #[.long 111], vm := .none },
  { cls := 10, slots := #[.long 112], vm := .none },
  { cls := 10, slots := #[.long 113], vm := .none },
  { cls := 10, slots := #[.long 114], vm := .none },
  { cls := 10, slots := #[.long 115], vm := .none },
  { cls := 10, slots := #[.long 116], vm := .none },
  { cls := 10, slots := #[.long 117], vm := .none },
  { cls := 10, slots := #[.long 118], vm := .none },
  { cls := 10, slots := #[.long 119], vm := .none },
  { cls := 10, slots := #[.long 120], vm := .none },
  { cls := 10, slots := #[.long 121], vm := .none },
  { cls := 10, slots := #[.long 122], vm := .none },
  { cls := 10, slots := #[.long 123], vm := .none },
  { cls := 10, slots := #[.long 124], vm := .none },
  { cls := 10, slots := #[.long 125], vm := .none },
  { cls := 10, slots := #[.long 126], vm := .none },
  { cls := 10, slots := #[.long 127], vm := .none },
  { cls := 12, slots := #[.int (-128)], vm := .none },
  { cls := 12, slots := #[.int (-127)], vm := .none },
  { cls := 12, slots := #[.int (-126)], vm := .none },
  { cls := 12, slots := #[.int (-125)], vm := .none },
  { cls := 12, slots := #[.int (-124)], vm := .none },
  { cls := 12, slots := #[.int (-123)], vm := .none },
  { cls := 12, slots := #[.int (-122)], vm := .none },
  { cls := 12, slots := #[.int (-121)], vm := .none },
  { cls := 12, slots := #[.int (-120)], vm := .none },
  { cls := 12, slots := #[.int (-119)], vm := .none },
  { cls := 12, slots := #[.int (-118)], vm := .none },
  { cls := 12, slots := #[.int (-117)], vm := .none },
  { cls := 12, slots := #[.int (-116)], vm := .none },
  { cls := 12, slots := #[.int (-115)], vm := .none },
  { cls := 12, slots := #[.int (-114)], vm := .none },
  { cls := 12, slots := #[.int (-113)], vm := .none },
  { cls := 12, slots := #[.int (-112)], vm := .none },
  { cls := 12, slots := #[.int (-111)], vm := .none },
  { cls := 12, slots := #[.int (-110)], vm := .none },
  { cls := 12, slots := #[.int (-109)], vm := .none },
  { cls := 12, slots := #[.int (-108)], vm := .none },
  { cls := 12, slots := #[.int (-107)], vm := .none },
  { cls := 12, slots := #[.int (-106)], vm := .none },
  { cls := 12, slots := #[.int (-105)], vm := .none },
  { cls := 12, slots := #[.int (-104)], vm := .none },
  { cls := 12, slots := #[.int (-103)], vm := .none },
  { cls := 12, slots := #[.int (-102)], vm := .none },
  { cls := 12, slots := #[.int (-101)], vm := .none },
  { cls := 12, slots := #[.int (-100)], vm := .none },
  { cls := 12, slots := #[.int (-99)], vm := .none },
  { cls := 12, slots := #[.int (-98)], vm := .none },
  { cls := 12, slots := #[.int (-97)], vm := .none },
  { cls := 12, slots := #[.int (-96)], vm := .none },
  { cls := 12, slots := #[.int (-95)], vm := .none },
  { cls := 12, slots := #[.int (-94)], vm := .none },
  { cls := 12, slots := #[.int (-93)], vm := .none },
  { cls := 12, slots := #[.int (-92)], vm := .none },
  { cls := 12, slots := #[.int (-91)], vm := .none },
  { cls := 12, slots := #[.int (-90)], vm := .none },
  { cls := 12, slots := #[.int (-89)], vm := .none },
  { cls := 12, slots := #[.int (-88)], vm := .none },
  { cls := 12, slots := #[.int (-87)], vm := .none },
  { cls := 12, slots := #[.int (-86)], vm := .none },
  { cls := 12, slots := #[.int (-85)], vm := .none },
  { cls := 12, slots := #[.int (-84)], vm := .none },
  { cls := 12, slots := #[.int (-83)], vm := .none },
  { cls := 12, slots := #[.int (-82)], vm := .none },
  { cls := 12, slots := #[.int (-81)], vm := .none },
  { cls := 12, slots := #[.int (-80)], vm := .none },
  { cls := 12, slots := #[.int (-79)], vm := .none },
  { cls := 12, slots := #[.int (-78)], vm := .none },
  { cls := 12, slots := #[.int (-77)], vm := .none },
  { cls := 12, slots := #[.int (-76)], vm := .none },
  { cls := 12, slots := #[.int (-75)], vm := .none },
  { cls := 12, slots := #[.int (-74)], vm := .none },
  { cls := 12, slots := #[.int (-73)], vm := .none },
  { cls := 12, slots := #[.int (-72)], vm := .none },
  { cls := 12, slots := #[.int (-71)], vm := .none },
  { cls := 12, slots := #[.int (-70)], vm := .none },
  { cls := 12, slots := #[.int (-69)], vm := .none },
  { cls := 12, slots := #[.int (-68)], vm := .none },
  { cls := 12, slots := #[.int (-67)], vm := .none },
  { cls := 12, slots := #[.int (-66)], vm := .none },
  { cls := 12, slots := #[.int (-65)], vm := .none },
  { cls := 12, slots := #[.int (-64)], vm := .none },
  { cls := 12, slots := #[.int (-63)], vm := .none },
  { cls := 12, slots := #[.int (-62)], vm := .none },
  { cls := 12, slots := #[.int (-61)], vm := .none },
  { cls := 12, slots := #[.int (-60)], vm := .none },
  { cls := 12, slots := #[.int (-59)], vm := .none },
  { cls := 12, slots := #[.int (-58)], vm := .none },
  { cls := 12, slots := #[.int (-57)], vm := .none },
  { cls := 12, slots := #[.int (-56)], vm := .none },
  { cls := 12, slots := #[.int (-55)], vm := .none },
  { cls := 12, slots := #[.int (-54)], vm := .none },
  { cls := 12, slots := #[.int (-53)], vm := .none },
  { cls := 12, slots := #[.int (-52)], vm := .none },
  { cls := 12, slots := #[.int (-51)], vm := .none },
  { cls := 12, slots := #[.int (-50)], vm := .none },
  { cls := 12, slots := #[.int (-49)], vm := .none },
  { cls := 12, slots := #[.int (-48)], vm := .none },
  { cls := 12, slots := #[.int (-47)], vm := .none },
  { cls := 12, slots := #[.int (-46)], vm := .none },
  { cls := 12, slots := #[.int (-45)], vm := .none },
  { cls := 12, slots := #[.int (-44)], vm := .none },
  { cls := 12, slots := #[.int (-43)], vm := .none },
  { cls := 12, slots := #[.int (-42)], vm := .none },
  { cls := 12, slots := #[.int (-41)], vm := .none },
  { cls := 12, slots := #[.int (-40)], vm := .none },
  { cls := 12, slots := #[.int (-39)], vm := .none },
  { cls := 12, slots := #[.int (-38)], vm := .none },
  { cls := 12, slots := #[.int (-37)], vm := .none },
  { cls := 12, slots := #[.int (-36)], vm := .none },
  { cls := 12, slots := #[.int (-35)], vm := .none },
  { cls := 12, slots := #[.int (-34)], vm := .none },
  { cls := 12, slots := #[.int (-33)], vm := .none },
  { cls := 12, slots := #[.int (-32)], vm := .none },
  { cls := 12, slots := #[.int (-31)], vm := .none },
  { cls := 12, slots := #[.int (-30)], vm := .none },
  { cls := 12, slots := #[.int (-29)], vm := .none },
  { cls := 12, slots := #[.int (-28)], vm := .none },
  { cls := 12, slots := #[.int (-27)], vm := .none },
  { cls := 12, slots := #[.int (-26)], vm := .none },
  { cls := 12, slots := #[.int (-25)], vm := .none },
  { cls := 12, slots := #[.int (-24)], vm := .none },
  { cls := 12, slots := #[.int (-23)], vm := .none },
  { cls := 12, slots := #[.int (-22)], vm := .none },
  { cls := 12, slots := #[.int (-21)], vm := .none },
  { cls := 12, slots := #[.int (-20)], vm := .none },
  { cls := 12, slots := #[.int (-19)], vm := .none },
  { cls := 12, slots := #[.int (-18)], vm := .none },
  { cls := 12, slots := #[.int (-17)], vm := .none },
  { cls := 12, slots := #[.int (-16)], vm := .none },
  { cls := 12, slots := #[.int (-15)], vm := .none },
  { cls := 12, slots := #[.int (-14)], vm := .none },
  { cls := 12, slots := #[.int (-13)], vm := .none },
  { cls := 12, slots := #[.int (-12)], vm := .none },
  { cls := 12, slots := #[.int (-11)], vm := .none },
  { cls := 12, slots := #[.int (-10)], vm := .none },
  { cls := 12, slots := #[.int (-9)], vm := .none },
  { cls := 12, slots := #[.int (-8)], vm := .none },
  { cls := 12, slots := #[.int (-7)], vm := .none },
  { cls := 12, slots := #[.int (-6)], vm := .none },
  { cls := 12, slots := #[.int (-5)], vm := .none },
  { cls := 12, slots := #[.int (-4)], vm := .none },
  { cls := 12, slots := #[.int (-3)], vm := .none },
  { cls := 12, slots := #[.int (-2)], vm := .none },
  { cls := 12, slots := #[.int (-1)], vm := .none },
  { cls := 12, slots := #[.int 0], vm := .none },
  { cls := 12, slots := #[.int 1], vm := .none },
  { cls := 12, slots := #[.int 2], vm := .none },
  { cls := 12, slots := #[.int 3], vm := .none },
  { cls := 12, slots := #[.int 4], vm := .none },
  { cls := 12, slots := #[.int 5], vm := .none },
  { cls := 12, slots := #[.int 6], vm := .none },
  { cls := 12, slots := #[.int 7], vm := .none },
  { cls := 12, slots := #[.int 8], vm := .none },
  { cls := 12, slots := #[.int 9], vm := .none },
  { cls := 12, slots := #[.int 10], vm := .none },
  { cls := 12, slots := #[.int 11], vm := .none },
  { cls := 12, slots := #[.int 12], vm := .none },
  { cls := 12, slots := #[.int 13], vm := .none },
  { cls := 12, slots := #[.int 14], vm := .none },
  { cls := 12, slots := #[.int 15], vm := .none },
  { cls := 12, slots := #[.int 16], vm := .none },
  { cls := 12, slots := #[.int 17], vm := .none },
  { cls := 12, slots := #[.int 18], vm := .none },
  { cls := 12, slots := #[.int 19], vm := .none },
  { cls := 12, slots := #[.int 20], vm := .none },
  { cls := 12, slots := #[.int 21], vm := .none },
  { cls := 12, slots := #[.int 22], vm := .none },
  { cls := 12, slots := #[.int 23], vm := .none },
  { cls := 12, slots := #[.int 24], vm := .none },
  { cls := 12, slots := #[.int 25], vm := .none },
  { cls := 12, slots := #[.int 26], vm := .none },
  { cls := 12, slots := #[.int 27], vm := .none },
  { cls := 12, slots := #[.int 28], vm := .none },
  { cls := 12, slots := #[.int 29], vm := .none },
  { cls := 12, slots := #[.int 30], vm := .none },
  { cls := 12, slots := #[.int 31], vm := .none },
  { cls := 12, slots := #[.int 32], vm := .none },
  { cls := 12, slots := #[.int 33], vm := .none },
  { cls := 12, slots := #[.int 34], vm := .none },
  { cls := 12, slots := #[.int 35], vm := .none },
  { cls := 12, slots := #[.int 36], vm := .none },
  { cls := 12, slots := #[.int 37], vm := .none },
  { cls := 12, slots := #[.int 38], vm := .none },
  { cls := 12, slots := #[.int 39], vm := .none },
  { cls := 12, slots := #[.int 40], vm := .none },
  { cls := 12, slots := #[.int 41], vm := .none },
  { cls := 12, slots := #[.int 42], vm := .none },
  { cls := 12, slots := #[.int 43], vm := .none },
  { cls := 12, slots := #[.int 44], vm := .none },
  { cls := 12, slots := #[.int 45], vm := .none },
  { cls := 12, slots := #[.int 46], vm := .none },
  { cls := 12, slots := #[.int 47], vm := .none },
  { cls := 12, slots := #[.int 48], vm := .none },
  { cls := 12, slots := #[.int 49], vm := .none },
  { cls := 12, slots := #[.int 50], vm := .none },
  { cls := 12, slots := #[.int 51], vm := .none },
  { cls := 12, slots := #[.int 52], vm := .none },
  { cls := 12, slots := #[.int 53], vm := .none },
  { cls := 12, slots := #[.int 54], vm := .none },
  { cls := 12, slots := #[.int 55], vm := .none },
  { cls := 12, slots := #[.int 56], vm := .none },
  { cls := 12, slots := #[.int 57], vm := .none },
  { cls := 12, slots := #[.int 58], vm := .none },
  { cls := 12, slots := #[.int 59], vm := .none },
  { cls := 12, slots := #[.int 60], vm := .none },
  { cls := 12, slots := #[.int 61], vm := .none },
  { cls := 12, slots := #[.int 62], vm := .none },
  { cls := 12, slots := #[.int 63], vm := .none },
  { cls := 12, slots := #[.int 64], vm := .none },
  { cls := 12, slots := #[.int 65], vm := .none },
  { cls := 12, slots := #[.int 66], vm := .none },
  { cls := 12, slots := #[.int 67], vm := .none },
  { cls := 12, slots := #[.int 68], vm := .none },
  { cls := 12, slots := #[.int 69], vm := .none },
  { cls := 12, slots := #[.int 70], vm := .none },
  { cls := 12, slots := #[.int 71], vm := .none },
  { cls := 12, slots := #[.int 72], vm := .none },
  { cls := 12, slots := #[.int 73], vm := .none },
  { cls := 12, slots := #[.int 74], vm := .none },
  { cls := 12, slots := #[.int 75], vm := .none },
  { cls := 12, slots := #[.int 76], vm := .none },
  { cls := 12, slots := #[.int 77], vm := .none },
  { cls := 12, slots := #[.int 78], vm := .none },
  { cls := 12, slots := #[.int 79], vm := .none },
  { cls := 12, slots := #[.int 80], vm := .none },
  { cls := 12, slots := #[.int 81], vm := .none },
  { cls := 12, slots := #[.int 82], vm := .none },
  { cls := 12, slots := #[.int 83], vm := .none },
  { cls := 12, slots := #[.int 84], vm := .none },
  { cls := 12, slots := #[.int 85], vm := .none },
  { cls := 12, slots := #[.int 86], vm := .none },
  { cls := 12, slots := #[.int 87], vm := .none },
  { cls := 12, slots := #[.int 88], vm := .none },
  { cls := 12, slots := #[.int 89], vm := .none },
  { cls := 12, slots := #[.int 90], vm := .none },
  { cls := 12, slots := #[.int 91], vm := .none },
  { cls := 12, slots := #[.int 92], vm := .none },
  { cls := 12, slots := #[.int 93], vm := .none },
  { cls := 12, slots := #[.int 94], vm := .none },
  { cls := 12, slots := #[.int 95], vm := .none },
  { cls := 12, slots := #[.int 96], vm := .none },
  { cls := 12, slots := #[.int 97], vm := .none },
  { cls := 12, slots := #[.int 98], vm := .none },
  { cls := 12, slots := #[.int 99], vm := .none },
  { cls := 12, slots := #[.int 100], vm := .none },
  { cls := 12, slots := #[.int 101], vm := .none },
  { cls := 12, slots := #[.int 102], vm := .none },
  { cls := 12, slots := #[.int 103], vm := .none },
  { cls := 12, slots := #[.int 104], vm := .none },
  { cls := 12, slots := #[.int 105], vm := .none },
  { cls := 12, slots := #[.int 106], vm := .none },
  { cls := 12, slots := #[.int 107], vm := .none },
  { cls := 12, slots := #[.int 108], vm := .none },
  { cls := 12, slots := #[.int 109], vm := .none },
  { cls := 12, slots := #[.int 110], vm := .none },
  { cls := 12, slots := #[.int 111], vm := .none },
  { cls := 12, slots := #[.int 112], vm := .none },
  { cls := 12, slots := #[.int 113], vm := .none },
  { cls := 12, slots := #[.int 114], vm := .none },
  { cls := 12, slots := #[.int 115], vm := .none },
  { cls := 12, slots := #[.int 116], vm := .none },
  { cls := 12, slots := #[.int 117], vm := .none },
  { cls := 12, slots := #[.int 118], vm := .none },
  { cls := 12, slots := #[.int 119], vm := .none },
  { cls := 12, slots := #[.int 120], vm := .none },
  { cls := 12, slots := #[.int 121], vm := .none },
  { cls := 12, slots := #[.int 122], vm := .none },
  { cls := 12, slots := #[.int 123], vm := .none },
  { cls := 12, slots := #[.int 124], vm := .none },
  { cls := 12, slots := #[.int 125], vm := .none },
  { cls := 12, slots := #[.int 126], vm := .none },
  { cls := 12, slots := #[.int 127], vm := .none }]
def classes : Array Class := #[k0, k1, k2, k3, k4, k5, k6, k7, k8, k9, k10, k11, k12, k13, k14, k15, k16, k17, k18, k19, k20, k21, k22, k23, k24, k25, k26, k27, k28]
def interned : List (Array UInt16 × Addr) := []
def slotsUsed : Nat := 1042
def theMethod : MethodId := ⟨1, 1⟩
def args0 : Array Value := #[.int 2, .int 5, .long 9, .int 65]
def aboutOver (below : List Frame) : State where
  vm := { classes := classes, interned := interned.toArray }
  heap := heap
  slotsUsed := slotsUsed
  threads := #[{ frames := .invoking theMethod args0 :: below }]
def below0 : List Frame := [.native { method := ⟨0, 0⟩, args := #[] }]
def about1 : State := aboutOver below0
def p0 : Program := .bare "" "" ""
def e0 : Env := launch0.env 0 0 0
theorem w_frames : about1.frames = Frame.invoking theMethod args0 :: below0 := rfl
set_option maxRecDepth 65536 in
theorem w_args : argsFit about1.vm theMethod args0 = true := by decide +kernel
set_option maxRecDepth 65536 in
theorem w_heap : heapFits about1 = true := by decide +kernel
set_option maxRecDepth 65536 in
theorem w_runnable : about1.curStatus? = some .runnable := by decide +kernel
set_option maxRecDepth 65536 in
theorem w_alone : about1.alone = true := by decide +kernel
set_option maxRecDepth 65536 in
theorem w_named : about1.methodNamed? x = some theMethod := by decide +kernel
set_option maxRecDepth 65536 in
theorem w_hears : about1.hears theMethod below0 = true := by decide +kernel
set_option maxRecDepth 65536 in
theorem w_ripe : about1.ripe theMethod args0 below0 = true := by decide +kernel
theorem w_running : about1.status = .running := rfl
set_option maxRecDepth 65536 in
theorem w_room : about1.hasRoom e0.platform room_1 = true :=
  launch0.hasRoom_least _ room_1 (by decide +kernel) (by decide +kernel) (by decide +kernel) (by decide +kernel) (by decide +kernel) (by decide +kernel)
theorem allAtoms_all (ts : List Jvm.Cond) (a : Array Jvm.Value) (st : Jvm.State) : (allAtoms ts).before a st = ts.all (fun c => c.before a st) := by
  induction ts with
  | nil => rfl
  | cons c t ih =>
    show (Jvm.Cond.and c (allAtoms t)).before a st = _
    rw [Jvm.Cond.before_and, ih, List.all_cons]
def words1 : List Jvm.Cond := Jvm.Cond.code x code maxLocals ret :: tables_1
/-- a 'code' word, met by the world's own term for the bytes: nothing is compared byte by byte -/
theorem code_word {y : MethodName} {bytes : ByteArray} {mx : Nat} {rt : Option FieldType} {a : Array Value} {s : State} {m : MethodId} {meth : Method} {c : Code} (h1 : s.methodNamed? y = some m) (h2 : s.vm.method? m = some meth) (h3 : meth.code = some c) (h4 : c.code = bytes)
    (h5 : (c.maxLocals == mx && c.exceptionTable.isEmpty && decide (c.maxStack ≤ mostOperands) && decide (meth.sig.returnType = rt) && !meth.locks && decide (parseMethodDescriptor y.desc = some meth.sig)) = true) : (Jvm.Cond.code y bytes mx rt).before a s = true := by
  simp only [Bool.and_eq_true, beq_iff_eq, Bool.not_eq_true', decide_eq_true_eq] at h5
  obtain ⟨⟨⟨⟨⟨g1, g2⟩, g3⟩, g4⟩, g5⟩, g6⟩ := h5
  simp [Cond.before, Cond.holds, Cond.value, h1, h2, h3, h4, g1, g2, g3, g4, g5, g6]
def isCode : Jvm.Cond → Bool
  | .code _ _ _ _ => true
  | _ => false
theorem all_split {L : List Jvm.Cond} {P : Jvm.Cond → Bool} (h1 : L.all (fun c => isCode c || P c) = true) (h2 : ∀ c ∈ L.filter isCode, P c = true) : L.all P = true := by
  refine List.all_eq_true.mpr fun c hc => ?_
  have h := List.all_eq_true.mp h1 c hc
  rcases Bool.eq_false_or_eq_true (isCode c) with hi | hi
  · exact h2 c (List.mem_filter.mpr ⟨hc, hi⟩)
  · simpa [hi] using h
set_option maxRecDepth 65536 in
theorem w_c0 : (Jvm.Cond.code x code maxLocals ret).before args0 about1 = true := code_word (m := ⟨1, 1⟩) (meth := k1m1) (c := k1c1) (by decide +kernel) rfl rfl rfl (by decide +kernel)
set_option maxRecDepth 65536 in
theorem w_c1 : (Jvm.Cond.code ({ cls := "dev/marblebench/stream/Signal$OnNext", name := "<init>", desc := "(Ljava/lang/Object;)V" } : Jvm.MethodName) prog_28_method_1_code (2 : Nat) (Option.none : Option Jvm.ClassFile.FieldType)).before args0 about1 = true := code_word (m := ⟨4, 0⟩) (meth := k4m0) (c := k4c0) (by decide +kernel) rfl rfl rfl (by decide +kernel)
set_option maxRecDepth 65536 in
theorem w_c2 : (Jvm.Cond.code ({ cls := "java/lang/Record", name := "<init>", desc := "()V" } : Jvm.MethodName) jdk_30_method_1_code (1 : Nat) (Option.none : Option Jvm.ClassFile.FieldType)).before args0 about1 = true := code_word (m := ⟨2, 0⟩) (meth := k2m0) (c := k2c0) (by decide +kernel) rfl rfl rfl (by decide +kernel)
set_option maxRecDepth 65536 in
theorem w_c3 : (Jvm.Cond.code ({ cls := "java/lang/Object", name := "<init>", desc := "()V" } : Jvm.MethodName) object_method_1_code (1 : Nat) (Option.none : Option Jvm.ClassFile.FieldType)).before args0 about1 = true := code_word (m := ⟨0, 0⟩) (meth := k0m0) (c := k0c0) (by decide +kernel) rfl rfl rfl (by decide +kernel)
set_option maxRecDepth 65536 in
theorem w_c4 : (Jvm.Cond.code ({ cls := "dev/marblebench/stream/Signal$OnNext", name := "carriesNull", desc := "()Z" } : Jvm.MethodName) prog_28_method_3_code (1 : Nat) (Option.some Jvm.ClassFile.FieldType.boolean)).before args0 about1 = true := code_word (m := ⟨4, 1⟩) (meth := k4m1) (c := k4c1) (by decide +kernel) rfl rfl rfl (by decide +kernel)
set_option maxRecDepth 65536 in
theorem w_c5 : (Jvm.Cond.code ({ cls := "dev/marblebench/stream/Signal$OnNext", name := "value", desc := "()Ljava/lang/Object;" } : Jvm.MethodName) prog_28_method_8_code (1 : Nat) (Option.some (Jvm.ClassFile.FieldType.object "java/lang/Object"))).before args0 about1 = true := code_word (m := ⟨4, 2⟩) (meth := k4m2) (c := k4c2) (by decide +kernel) rfl rfl rfl (by decide +kernel)
set_option maxRecDepth 65536 in
theorem w_c6 : (Jvm.Cond.code ({ cls := "java/lang/Long", name := "valueOf", desc := "(J)Ljava/lang/Long;" } : Jvm.MethodName) jdk_35_method_24_code (3 : Nat) (Option.some (Jvm.ClassFile.FieldType.object "java/lang/Long"))).before args0 about1 = true := code_word (m := ⟨10, 0⟩) (meth := k10m0) (c := k10c0) (by decide +kernel) rfl rfl rfl (by decide +kernel)
set_option maxRecDepth 65536 in
theorem w_c7 : (Jvm.Cond.code ({ cls := "java/lang/Long", name := "<init>", desc := "(J)V" } : Jvm.MethodName) jdk_35_method_26_code (3 : Nat) (Option.none : Option Jvm.ClassFile.FieldType)).before args0 about1 = true := code_word (m := ⟨10, 1⟩) (meth := k10m1) (c := k10c1) (by decide +kernel) rfl rfl rfl (by decide +kernel)
set_option maxRecDepth 65536 in
theorem w_c8 : (Jvm.Cond.code ({ cls := "java/lang/Number", name := "<init>", desc := "()V" } : Jvm.MethodName) jdk_18_method_1_code (1 : Nat) (Option.none : Option Jvm.ClassFile.FieldType)).before args0 about1 = true := code_word (m := ⟨6, 0⟩) (meth := k6m0) (c := k6c0) (by decide +kernel) rfl rfl rfl (by decide +kernel)
set_option maxRecDepth 65536 in
theorem w_c9 : (Jvm.Cond.code ({ cls := "java/lang/Integer", name := "valueOf", desc := "(I)Ljava/lang/Integer;" } : Jvm.MethodName) jdk_33_method_22_code (1 : Nat) (Option.some (Jvm.ClassFile.FieldType.object "java/lang/Integer"))).before args0 about1 = true := code_word (m := ⟨12, 0⟩) (meth := k12m0) (c := k12c0) (by decide +kernel) rfl rfl rfl (by decide +kernel)
set_option maxRecDepth 65536 in
theorem w_c10 : (Jvm.Cond.code ({ cls := "java/lang/String", name := "<init>", desc := "([C)V" } : Jvm.MethodName) jdk_42_method_3_code (2 : Nat) (Option.none : Option Jvm.ClassFile.FieldType)).before args0 about1 = true := code_word (m := ⟨15, 1⟩) (meth := k15m1) (c := k15c1) (by decide +kernel) rfl rfl rfl (by decide +kernel)
set_option maxRecDepth 65536 in
theorem w_c11 : (Jvm.Cond.code ({ cls := "java/lang/String", name := "<init>", desc := "([CIILjava/lang/Void;)V" } : Jvm.MethodName) jdk_42_method_149_code (6 : Nat) (Option.none : Option Jvm.ClassFile.FieldType)).before args0 about1 = true := code_word (m := ⟨15, 2⟩) (meth := k15m2) (c := k15c2) (by decide +kernel) rfl rfl rfl (by decide +kernel)
set_option maxRecDepth 65536 in
theorem w_c12 : (Jvm.Cond.code ({ cls := "java/lang/Integer", name := "<init>", desc := "(I)V" } : Jvm.MethodName) jdk_33_method_23_code (2 : Nat) (Option.none : Option Jvm.ClassFile.FieldType)).before args0 about1 = true := code_word (m := ⟨12, 1⟩) (meth := k12m1) (c := k12c1) (by decide +kernel) rfl rfl rfl (by decide +kernel)
set_option maxRecDepth 65536 in
theorem w_c13 : (Jvm.Cond.code ({ cls := "java/lang/StringUTF16", name := "compress", desc := "([CII)[B" } : Jvm.MethodName) jdk_52_method_16_code (6 : Nat) (Option.some (Jvm.ClassFile.FieldType.array Jvm.ClassFile.FieldType.byte))).before args0 about1 = true := code_word (m := ⟨16, 2⟩) (meth := k16m2) (c := k16c2) (by decide +kernel) rfl rfl rfl (by decide +kernel)
set_option maxRecDepth 65536 in
theorem w_c14 : (Jvm.Cond.code ({ cls := "java/lang/StringUTF16", name := "compress", desc := "([CI[BII)I" } : Jvm.MethodName) jdk_52_method_21_code (7 : Nat) (Option.some Jvm.ClassFile.FieldType.int)).before args0 about1 = true := code_word (m := ⟨16, 3⟩) (meth := k16m3) (c := k16c3) (by decide +kernel) rfl rfl rfl (by decide +kernel)
set_option maxRecDepth 65536 in
theorem w_c15 : (Jvm.Cond.code ({ cls := "java/lang/StringUTF16", name := "coderFromArrayLen", desc := "([BI)B" } : Jvm.MethodName) jdk_52_method_15_code (2 : Nat) (Option.some Jvm.ClassFile.FieldType.byte)).before args0 about1 = true := code_word (m := ⟨16, 1⟩) (meth := k16m1) (c := k16c1) (by decide +kernel) rfl rfl rfl (by decide +kernel)
def codes1 : List Jvm.Cond := [Jvm.Cond.code x code maxLocals ret, Jvm.Cond.code ({ cls := "dev/marblebench/stream/Signal$OnNext", name := "<init>", desc := "(Ljava/lang/Object;)V" } : Jvm.MethodName) prog_28_method_1_code (2 : Nat) (Option.none : Option Jvm.ClassFile.FieldType), Jvm.Cond.code ({ cls := "java/lang/Record", name := "<init>", desc := "()V" } : Jvm.MethodName) jdk_30_method_1_code (1 : Nat) (Option.none : Option Jvm.ClassFile.FieldType), Jvm.Cond.code ({ cls := "java/lang/Object", name := "<init>", desc := "()V" } : Jvm.MethodName) object_method_1_code (1 : Nat) (Option.none : Option Jvm.ClassFile.FieldType), Jvm.Cond.code ({ cls := "dev/marblebench/stream/Signal$OnNext", name := "carriesNull", desc := "()Z" } : Jvm.MethodName) prog_28_method_3_code (1 : Nat) (Option.some Jvm.ClassFile.FieldType.boolean), Jvm.Cond.code ({ cls := "dev/marblebench/stream/Signal$OnNext", name := "value", desc := "()Ljava/lang/Object;" } : Jvm.MethodName) prog_28_method_8_code (1 : Nat) (Option.some (Jvm.ClassFile.FieldType.object "java/lang/Object")), Jvm.Cond.code ({ cls := "java/lang/Long", name := "valueOf", desc := "(J)Ljava/lang/Long;" } : Jvm.MethodName) jdk_35_method_24_code (3 : Nat) (Option.some (Jvm.ClassFile.FieldType.object "java/lang/Long")), Jvm.Cond.code ({ cls := "java/lang/Long", name := "<init>", desc := "(J)V" } : Jvm.MethodName) jdk_35_method_26_code (3 : Nat) (Option.none : Option Jvm.ClassFile.FieldType), Jvm.Cond.code ({ cls := "java/lang/Number", name := "<init>", desc := "()V" } : Jvm.MethodName) jdk_18_method_1_code (1 : Nat) (Option.none : Option Jvm.ClassFile.FieldType), Jvm.Cond.code ({ cls := "java/lang/Integer", name := "valueOf", desc := "(I)Ljava/lang/Integer;" } : Jvm.MethodName) jdk_33_method_22_code (1 : Nat) (Option.some (Jvm.ClassFile.FieldType.object "java/lang/Integer")), Jvm.Cond.code ({ cls := "java/lang/String", name := "<init>", desc := "([C)V" } : Jvm.MethodName) jdk_42_method_3_code (2 : Nat) (Option.none : Option Jvm.ClassFile.FieldType), Jvm.Cond.code ({ cls := "java/lang/String", name := "<init>", desc := "([CIILjava/lang/Void;)V" } : Jvm.MethodName) jdk_42_method_149_code (6 : Nat) (Option.none : Option Jvm.ClassFile.FieldType), Jvm.Cond.code ({ cls := "java/lang/Integer", name := "<init>", desc := "(I)V" } : Jvm.MethodName) jdk_33_method_23_code (2 : Nat) (Option.none : Option Jvm.ClassFile.FieldType), Jvm.Cond.code ({ cls := "java/lang/StringUTF16", name := "compress", desc := "([CII)[B" } : Jvm.MethodName) jdk_52_method_16_code (6 : Nat) (Option.some (Jvm.ClassFile.FieldType.array Jvm.ClassFile.FieldType.byte)), Jvm.Cond.code ({ cls := "java/lang/StringUTF16", name := "compress", desc := "([CI[BII)I" } : Jvm.MethodName) jdk_52_method_21_code (7 : Nat) (Option.some Jvm.ClassFile.FieldType.int), Jvm.Cond.code ({ cls := "java/lang/StringUTF16", name := "coderFromArrayLen", desc := "([BI)B" } : Jvm.MethodName) jdk_52_method_15_code (2 : Nat) (Option.some Jvm.ClassFile.FieldType.byte)]
set_option maxRecDepth 65536 in
theorem codes_eq : words1.filter isCode = codes1 := rfl
theorem w_codes : ∀ c ∈ words1.filter isCode, c.before args0 about1 = true := by
  rw [codes_eq]
  intro c hc
  simp only [codes1, List.mem_cons, List.not_mem_nil, or_false] at hc
  rcases hc with rfl | rfl | rfl | rfl | rfl | rfl | rfl | rfl | rfl | rfl | rfl | rfl | rfl | rfl | rfl | rfl
  · exact w_c0
  · exact w_c1
  · exact w_c2
  · exact w_c3
  · exact w_c4
  · exact w_c5
  · exact w_c6
  · exact w_c7
  · exact w_c8
  · exact w_c9
  · exact w_c10
  · exact w_c11
  · exact w_c12
  · exact w_c13
  · exact w_c14
  · exact w_c15
set_option maxRecDepth 65536 in
theorem w_t1 : (words1.take 24).all (fun c => isCode c || c.before args0 about1) = true := by decide +kernel
set_option maxRecDepth 65536 in
theorem w_t2 : ((words1.drop 24).take 24).all (fun c => isCode c || c.before args0 about1) = true := by decide +kernel
set_option maxRecDepth 65536 in
theorem w_t3 : (((words1.drop 24).drop 24).take 24).all (fun c => isCode c || c.before args0 about1) = true := by decide +kernel
set_option maxRecDepth 65536 in
theorem w_t4 : ((((words1.drop 24).drop 24).drop 24).take 24).all (fun c => isCode c || c.before args0 about1) = true := by decide +kernel
set_option maxRecDepth 65536 in
theorem w_t5 : ((((words1.drop 24).drop 24).drop 24).drop 24).all (fun c => isCode c || c.before args0 about1) = true := by decide +kernel
theorem w_tables : (allAtoms (Jvm.Cond.code x code maxLocals ret :: tables_1)).before args0 about1 = true := by
  rw [allAtoms_all]
  show words1.all (fun c => c.before args0 about1) = true
  refine all_split ?_ w_codes
  rw [← List.take_append_drop 24 words1, List.all_append, w_t1, ← List.take_append_drop 24 (words1.drop 24), List.all_append, w_t2, ← List.take_append_drop 24 ((words1.drop 24).drop 24), List.all_append, w_t3, ← List.take_append_drop 24 (((words1.drop 24).drop 24).drop 24), List.all_append, w_t4, w_t5]
  rfl
set_option maxRecDepth 65536 in
theorem w_rest : rest_1_c.before args0 about1 = true := by decide +kernel
set_option maxRecDepth 65536 in
theorem w_case : (Jvm.Cond.and given_1 narrow_1).before args0 about1 = true := by decide +kernel
set_option maxRecDepth 65536 in
theorem w_consts : constsHeld consts_1 about1 := Jvm.Lit.constsHeldB_iff.mp (by decide +kernel)
theorem w_applies : (headSpec (Jvm.Cond.code x code maxLocals ret :: tables_1) room_1).applies x e0.platform about1 = true :=
  (Spec.applies_iff w_frames).mpr ⟨w_running, w_runnable, w_alone, w_named, w_hears, w_ripe, w_room, w_tables⟩
theorem atStart : AtStart classFile x code maxLocals ret World_1 tables_1 room_1 Calls_1 rest_1 Pre_1 launch0 p0 e0 about1 theMethod args0 below0 :=
  ⟨lists_1, trivial, launch0.admits_env _ _ _, launch0.least_env, fairChoices_fair.cas, fairChoices_fair.clock, w_frames, w_args, w_heap, w_applies, ⟨w_consts, trivial⟩, w_rest, w_case⟩
end start1
theorem witness_1 : WitnessClaimed_1 := ⟨start1.p0, start1.e0, start1.about1, start1.theMethod, start1.args0, start1.below0, start1.atStart⟩
end Jvm.Pilot.@@N@@
