import JvmDerived
import JvmDerived.Pilot.@@N@@Statement
import JvmDerived.Pilot.@@N@@Code
set_option linter.unusedVariables false
set_option linter.unusedSimpArgs false
namespace Jvm.Pilot.@@N@@
open Jvm Jvm.ClassFile Sem Op Lib Jvm.Free Jvm.Stand Jvm.LawKit Jvm.RoadKit Bundle Jvm.Pilot.@@N@@.Jvm.D
section OwnGo
variable {p : Program} {l : Launch} {e : Env} {R : Room} {s : State} {m : MethodId} {args : Array Value} {below : List Frame} {meth : Method} {c : Code} {T : State} {locs : List Loc} {cells slots : Nat} {Q : Option Value → Heap → List Loc → Prop} {rc rs : Nat} {Ls : Array Slot} {st : List Value} {pc pc' pt : Nat} {Z : State} {a0 : Array Value} {h : Heap} {En : Outcome → State → Prop}
def Go (p : Program) (e : Env) (below : List Frame) (En : Outcome → State → Prop) (S : State) : Prop := ∃ s₂ o, Steps p.tables e below S s₂ ∧ s₂.status = .running ∧ Ended s₂ below o ∧ En o s₂
def EndN (s : State) (Q : Option Value → Heap → List Loc → Prop) (rc rs : Nat) (o : Outcome) (s₂ : State) : Prop := ∃ v L, o = .returned v ∧ Q v s₂.heap L ∧ FrameEnd s o s₂ L rc rs
def EndW (s : State) (Q : Option Value → Heap → List Loc → Prop) (rc rs : Nat) (o : Outcome) (s₂ : State) : Prop := ∃ v L, o = .returned v ∧ Q v s₂.heap L ∧ ReturnedEndW s o s₂ L rc rs
theorem own_via {S S' : State} (q : ∀ t, Steps p.tables e below S' t → Steps p.tables e below S t) (k : Go p e below En S') : Go p e below En S := by
  obtain ⟨t, o, h1, h2⟩ := k
  exact ⟨t, o, q _ h1, h2⟩
def Dec (b : ByteArray) (pc : Nat) (i : Instr) (n pc' : Nat) : Prop := decode b pc = .ok (i, n) ∧ pc + n = pc'
def DecB (b : ByteArray) (pc : Nat) (i : Instr) (o : Int) (pF pT : Nat) : Prop := decode b pc = .ok (i, 3) ∧ pc + 3 = pF ∧ 0 ≤ (pc : Int) + o ∧ ((pc : Int) + o).toNat = pT
theorem dc {b : ByteArray} {i : Instr} {n : Nat} (q : c.code = b) (k : Dec b pc i n pc') : Dec c.code pc i n pc' := q ▸ k
theorem db {b : ByteArray} {i : Instr} {o : Int} (q : c.code = b) (k : DecB b pc i o pc' pt) : DecB c.code pc i o pc' pt := q ▸ k
theorem go_iadd (X : Stand p l e R s m args below meth c T locs cells slots) (hx : p.tables.exec = Jvm.exec) {x y : Int32} (hd : Dec c.code pc (.iadd) 1 pc') (k : Go p e below En (T.setTop (mkF m pc' Ls (.int (x + y) :: st)))) : Go p e below En (T.setTop (mkF m pc Ls (.int y :: .int x :: st))) := by
  obtain ⟨hd, rfl⟩ := hd
  exact own_via (fun t => XS.iadd X.here hx rfl hd rfl) k
theorem go_isub (X : Stand p l e R s m args below meth c T locs cells slots) (hx : p.tables.exec = Jvm.exec) {x y : Int32} (hd : Dec c.code pc (.isub) 1 pc') (k : Go p e below En (T.setTop (mkF m pc' Ls (.int (x - y) :: st)))) : Go p e below En (T.setTop (mkF m pc Ls (.int y :: .int x :: st))) := by
  obtain ⟨hd, rfl⟩ := hd
  exact own_via (fun t => XS.isub X.here hx rfl hd rfl) k
theorem go_imul (X : Stand p l e R s m args below meth c T locs cells slots) (hx : p.tables.exec = Jvm.exec) {x y : Int32} (hd : Dec c.code pc (.imul) 1 pc') (k : Go p e below En (T.setTop (mkF m pc' Ls (.int (x * y) :: st)))) : Go p e below En (T.setTop (mkF m pc Ls (.int y :: .int x :: st))) := by
  obtain ⟨hd, rfl⟩ := hd
  exact own_via (fun t => XS.imul X.here hx rfl hd rfl) k
theorem go_iand (X : Stand p l e R s m args below meth c T locs cells slots) (hx : p.tables.exec = Jvm.exec) {x y : Int32} (hd : Dec c.code pc (.iand) 1 pc') (k : Go p e below En (T.setTop (mkF m pc' Ls (.int (x &&& y) :: st)))) : Go p e below En (T.setTop (mkF m pc Ls (.int y :: .int x :: st))) := by
  obtain ⟨hd, rfl⟩ := hd
  exact own_via (fun t => XS.iand X.here hx rfl hd rfl) k
theorem go_ior (X : Stand p l e R s m args below meth c T locs cells slots) (hx : p.tables.exec = Jvm.exec) {x y : Int32} (hd : Dec c.code pc (.ior) 1 pc') (k : Go p e below En (T.setTop (mkF m pc' Ls (.int (x ||| y) :: st)))) : Go p e below En (T.setTop (mkF m pc Ls (.int y :: .int x :: st))) := by
  obtain ⟨hd, rfl⟩ := hd
  exact own_via (fun t => XT.ior X.here hx rfl hd rfl) k
theorem go_ixor (X : Stand p l e R s m args below meth c T locs cells slots) (hx : p.tables.exec = Jvm.exec) {x y : Int32} (hd : Dec c.code pc (.ixor) 1 pc') (k : Go p e below En (T.setTop (mkF m pc' Ls (.int (x ^^^ y) :: st)))) : Go p e below En (T.setTop (mkF m pc Ls (.int y :: .int x :: st))) := by
  obtain ⟨hd, rfl⟩ := hd
  exact own_via (fun t => XT.ixor X.here hx rfl hd rfl) k
theorem go_ishl (X : Stand p l e R s m args below meth c T locs cells slots) (hx : p.tables.exec = Jvm.exec) {x y : Int32} (hd : Dec c.code pc (.ishl) 1 pc') (k : Go p e below En (T.setTop (mkF m pc' Ls (.int (x <<< (y &&& 31)) :: st)))) : Go p e below En (T.setTop (mkF m pc Ls (.int y :: .int x :: st))) := by
  obtain ⟨hd, rfl⟩ := hd
  exact own_via (fun t => XT.ishl X.here hx rfl hd rfl) k
theorem go_ishr (X : Stand p l e R s m args below meth c T locs cells slots) (hx : p.tables.exec = Jvm.exec) {x y : Int32} (hd : Dec c.code pc (.ishr) 1 pc') (k : Go p e below En (T.setTop (mkF m pc' Ls (.int (x >>> (y &&& 31)) :: st)))) : Go p e below En (T.setTop (mkF m pc Ls (.int y :: .int x :: st))) := by
  obtain ⟨hd, rfl⟩ := hd
  exact own_via (fun t => XT.ishr X.here hx rfl hd rfl) k
theorem go_iushr (X : Stand p l e R s m args below meth c T locs cells slots) (hx : p.tables.exec = Jvm.exec) {x y : Int32} (hd : Dec c.code pc (.iushr) 1 pc') (k : Go p e below En (T.setTop (mkF m pc' Ls (.int (XT.ushr x y) :: st)))) : Go p e below En (T.setTop (mkF m pc Ls (.int y :: .int x :: st))) := by
  obtain ⟨hd, rfl⟩ := hd
  exact own_via (fun t => XT.iushr X.here hx rfl hd rfl) k
theorem go_idiv (X : Stand p l e R s m args below meth c T locs cells slots) (hx : p.tables.exec = Jvm.exec) {x y : Int32} (hd : Dec c.code pc (.idiv) 1 pc') (hy : y ≠ 0) (k : Go p e below En (T.setTop (mkF m pc' Ls (.int (x / y) :: st)))) : Go p e below En (T.setTop (mkF m pc Ls (.int y :: .int x :: st))) := by
  obtain ⟨hd, rfl⟩ := hd
  exact own_via (fun t => XS.idiv X.here hx rfl hd rfl hy) k
theorem go_irem (X : Stand p l e R s m args below meth c T locs cells slots) (hx : p.tables.exec = Jvm.exec) {x y : Int32} (hd : Dec c.code pc (.irem) 1 pc') (hy : y ≠ 0) (k : Go p e below En (T.setTop (mkF m pc' Ls (.int (x % y) :: st)))) : Go p e below En (T.setTop (mkF m pc Ls (.int y :: .int x :: st))) := by
  obtain ⟨hd, rfl⟩ := hd
  exact own_via (fun t => iremM X hx rfl hd rfl hy) k
theorem go_ineg (X : Stand p l e R s m args below meth c T locs cells slots) (hx : p.tables.exec = Jvm.exec) {x : Int32} (hd : Dec c.code pc (.ineg) 1 pc') (k : Go p e below En (T.setTop (mkF m pc' Ls (.int (-x) :: st)))) : Go p e below En (T.setTop (mkF m pc Ls (.int x :: st))) := by
  obtain ⟨hd, rfl⟩ := hd
  exact own_via (fun t => XS.ineg X.here hx rfl hd rfl) k
theorem go_ladd (X : Stand p l e R s m args below meth c T locs cells slots) (hx : p.tables.exec = Jvm.exec) {x y : Int64} (hd : Dec c.code pc (.ladd) 1 pc') (k : Go p e below En (T.setTop (mkF m pc' Ls (.long (x + y) :: st)))) : Go p e below En (T.setTop (mkF m pc Ls (.long y :: .long x :: st))) := by
  obtain ⟨hd, rfl⟩ := hd
  exact own_via (fun t => XT.ladd X.here hx rfl hd rfl) k
theorem go_lsub (X : Stand p l e R s m args below meth c T locs cells slots) (hx : p.tables.exec = Jvm.exec) {x y : Int64} (hd : Dec c.code pc (.lsub) 1 pc') (k : Go p e below En (T.setTop (mkF m pc' Ls (.long (x - y) :: st)))) : Go p e below En (T.setTop (mkF m pc Ls (.long y :: .long x :: st))) := by
  obtain ⟨hd, rfl⟩ := hd
  exact own_via (fun t => XT.lsub X.here hx rfl hd rfl) k
theorem go_lmul (X : Stand p l e R s m args below meth c T locs cells slots) (hx : p.tables.exec = Jvm.exec) {x y : Int64} (hd : Dec c.code pc (.lmul) 1 pc') (k : Go p e below En (T.setTop (mkF m pc' Ls (.long (x * y) :: st)))) : Go p e below En (T.setTop (mkF m pc Ls (.long y :: .long x :: st))) := by
  obtain ⟨hd, rfl⟩ := hd
  exact own_via (fun t => XT.lmul X.here hx rfl hd rfl) k
theorem go_land (X : Stand p l e R s m args below meth c T locs cells slots) (hx : p.tables.exec = Jvm.exec) {x y : Int64} (hd : Dec c.code pc (.land) 1 pc') (k : Go p e below En (T.setTop (mkF m pc' Ls (.long (x &&& y) :: st)))) : Go p e below En (T.setTop (mkF m pc Ls (.long y :: .long x :: st))) := by
  obtain ⟨hd, rfl⟩ := hd
  exact own_via (fun t => XT.land X.here hx rfl hd rfl) k
theorem go_lor (X : Stand p l e R s m args below meth c T locs cells slots) (hx : p.tables.exec = Jvm.exec) {x y : Int64} (hd : Dec c.code pc (.lor) 1 pc') (k : Go p e below En (T.setTop (mkF m pc' Ls (.long (x ||| y) :: st)))) : Go p e below En (T.setTop (mkF m pc Ls (.long y :: .long x :: st))) := by
  obtain ⟨hd, rfl⟩ := hd
  exact own_via (fun t => XT.lor X.here hx rfl hd rfl) k
theorem go_lxor (X : Stand p l e R s m args below meth c T locs cells slots) (hx : p.tables.exec = Jvm.exec) {x y : Int64} (hd : Dec c.code pc (.lxor) 1 pc') (k : Go p e below En (T.setTop (mkF m pc' Ls (.long (x ^^^ y) :: st)))) : Go p e below En (T.setTop (mkF m pc Ls (.long y :: .long x :: st))) := by
  obtain ⟨hd, rfl⟩ := hd
  exact own_via (fun t => XT.lxor X.here hx rfl hd rfl) k
theorem go_lshl (X : Stand p l e R s m args below meth c T locs cells slots) (hx : p.tables.exec = Jvm.exec) {x : Int64} {y : Int32} (hd : Dec c.code pc (.lshl) 1 pc') (k : Go p e below En (T.setTop (mkF m pc' Ls (.long (x <<< (y.toInt64 &&& 63)) :: st)))) : Go p e below En (T.setTop (mkF m pc Ls (.int y :: .long x :: st))) := by
  obtain ⟨hd, rfl⟩ := hd
  exact own_via (fun t => XT.lshl X.here hx rfl hd rfl) k
theorem go_lshr (X : Stand p l e R s m args below meth c T locs cells slots) (hx : p.tables.exec = Jvm.exec) {x : Int64} {y : Int32} (hd : Dec c.code pc (.lshr) 1 pc') (k : Go p e below En (T.setTop (mkF m pc' Ls (.long (x >>> (y.toInt64 &&& 63)) :: st)))) : Go p e below En (T.setTop (mkF m pc Ls (.int y :: .long x :: st))) := by
  obtain ⟨hd, rfl⟩ := hd
  exact own_via (fun t => XT.lshr X.here hx rfl hd rfl) k
theorem go_lushr (X : Stand p l e R s m args below meth c T locs cells slots) (hx : p.tables.exec = Jvm.exec) {x : Int64} {y : Int32} (hd : Dec c.code pc (.lushr) 1 pc') (k : Go p e below En (T.setTop (mkF m pc' Ls (.long (XT.ushrL x y) :: st)))) : Go p e below En (T.setTop (mkF m pc Ls (.int y :: .long x :: st))) := by
  obtain ⟨hd, rfl⟩ := hd
  exact own_via (fun t => XT.lushr X.here hx rfl hd rfl) k
theorem go_ldiv (X : Stand p l e R s m args below meth c T locs cells slots) (hx : p.tables.exec = Jvm.exec) {x y : Int64} (hd : Dec c.code pc (.ldiv) 1 pc') (hy : y ≠ 0) (k : Go p e below En (T.setTop (mkF m pc' Ls (.long (x / y) :: st)))) : Go p e below En (T.setTop (mkF m pc Ls (.long y :: .long x :: st))) := by
  obtain ⟨hd, rfl⟩ := hd
  exact own_via (fun t => XT.ldiv X.here hx rfl hd rfl hy) k
theorem go_lrem (X : Stand p l e R s m args below meth c T locs cells slots) (hx : p.tables.exec = Jvm.exec) {x y : Int64} (hd : Dec c.code pc (.lrem) 1 pc') (hy : y ≠ 0) (k : Go p e below En (T.setTop (mkF m pc' Ls (.long (x - (x / y) * y) :: st)))) : Go p e below En (T.setTop (mkF m pc Ls (.long y :: .long x :: st))) := by
  obtain ⟨hd, rfl⟩ := hd
  exact own_via (fun t => XT.lrem X.here hx rfl hd rfl hy) k
theorem go_lneg (X : Stand p l e R s m args below meth c T locs cells slots) (hx : p.tables.exec = Jvm.exec) {x : Int64} (hd : Dec c.code pc (.lneg) 1 pc') (k : Go p e below En (T.setTop (mkF m pc' Ls (.long (-x) :: st)))) : Go p e below En (T.setTop (mkF m pc Ls (.long x :: st))) := by
  obtain ⟨hd, rfl⟩ := hd
  exact own_via (fun t => XT.lneg X.here hx rfl hd rfl) k
theorem go_lcmp (X : Stand p l e R s m args below meth c T locs cells slots) (hx : p.tables.exec = Jvm.exec) {x y : Int64} (hd : Dec c.code pc (.lcmp) 1 pc') (k : Go p e below En (T.setTop (mkF m pc' Ls (.int (XT.cmpL x y) :: st)))) : Go p e below En (T.setTop (mkF m pc Ls (.long y :: .long x :: st))) := by
  obtain ⟨hd, rfl⟩ := hd
  exact own_via (fun t => XT.lcmp X.here hx rfl hd rfl) k
theorem go_i2l (X : Stand p l e R s m args below meth c T locs cells slots) (hx : p.tables.exec = Jvm.exec) {x : Int32} (hd : Dec c.code pc (.i2l) 1 pc') (k : Go p e below En (T.setTop (mkF m pc' Ls (.long x.toInt64 :: st)))) : Go p e below En (T.setTop (mkF m pc Ls (.int x :: st))) := by
  obtain ⟨hd, rfl⟩ := hd
  exact own_via (fun t => XT.i2l X.here hx rfl hd rfl) k
theorem go_l2i (X : Stand p l e R s m args below meth c T locs cells slots) (hx : p.tables.exec = Jvm.exec) {x : Int64} (hd : Dec c.code pc (.l2i) 1 pc') (k : Go p e below En (T.setTop (mkF m pc' Ls (.int x.toInt32 :: st)))) : Go p e below En (T.setTop (mkF m pc Ls (.long x :: st))) := by
  obtain ⟨hd, rfl⟩ := hd
  exact own_via (fun t => XT.l2i X.here hx rfl hd rfl) k
theorem go_i2b (X : Stand p l e R s m args below meth c T locs cells slots) (hx : p.tables.exec = Jvm.exec) {x : Int32} (hd : Dec c.code pc (.i2b) 1 pc') (k : Go p e below En (T.setTop (mkF m pc' Ls (.int x.toInt8.toInt32 :: st)))) : Go p e below En (T.setTop (mkF m pc Ls (.int x :: st))) := by
  obtain ⟨hd, rfl⟩ := hd
  exact own_via (fun t => XT.i2b X.here hx rfl hd rfl) k
theorem go_i2c (X : Stand p l e R s m args below meth c T locs cells slots) (hx : p.tables.exec = Jvm.exec) {x : Int32} (hd : Dec c.code pc (.i2c) 1 pc') (k : Go p e below En (T.setTop (mkF m pc' Ls (.int x.toUInt32.toUInt16.toUInt32.toInt32 :: st)))) : Go p e below En (T.setTop (mkF m pc Ls (.int x :: st))) := by
  obtain ⟨hd, rfl⟩ := hd
  exact own_via (fun t => XT.i2c X.here hx rfl hd rfl) k
theorem go_i2s (X : Stand p l e R s m args below meth c T locs cells slots) (hx : p.tables.exec = Jvm.exec) {x : Int32} (hd : Dec c.code pc (.i2s) 1 pc') (k : Go p e below En (T.setTop (mkF m pc' Ls (.int x.toInt16.toInt32 :: st)))) : Go p e below En (T.setTop (mkF m pc Ls (.int x :: st))) := by
  obtain ⟨hd, rfl⟩ := hd
  exact own_via (fun t => XT.i2s X.here hx rfl hd rfl) k
theorem go_iloadn (X : Stand p l e R s m args below meth c T locs cells slots) (hx : p.tables.exec = Jvm.exec) {k : Fin 4} {v : Int32} (hd : Dec c.code pc (.iload_n k) 1 pc') (hl : Ls[k.val]? = some (.val (.int v))) (k : Go p e below En (T.setTop (mkF m pc' Ls (.int v :: st)))) : Go p e below En (T.setTop (mkF m pc Ls st)) := by
  obtain ⟨hd, rfl⟩ := hd
  exact own_via (fun t => XS.iloadN X.here hx rfl hd hl) k
theorem go_iload (X : Stand p l e R s m args below meth c T locs cells slots) (hx : p.tables.exec = Jvm.exec) {k : Nat} {v : Int32} (hd : Dec c.code pc (.iload k) 2 pc') (hl : Ls[k]? = some (.val (.int v))) (k : Go p e below En (T.setTop (mkF m pc' Ls (.int v :: st)))) : Go p e below En (T.setTop (mkF m pc Ls st)) := by
  obtain ⟨hd, rfl⟩ := hd
  exact own_via (fun t => XS.iload X.here hx rfl hd hl) k
theorem go_lloadn (X : Stand p l e R s m args below meth c T locs cells slots) (hx : p.tables.exec = Jvm.exec) {k : Fin 4} {v : Int64} (hd : Dec c.code pc (.lload_n k) 1 pc') (hl : Ls[k.val]? = some (.val (.long v))) (k : Go p e below En (T.setTop (mkF m pc' Ls (.long v :: st)))) : Go p e below En (T.setTop (mkF m pc Ls st)) := by
  obtain ⟨hd, rfl⟩ := hd
  exact own_via (fun t => XT.lloadN X.here hx rfl hd hl) k
theorem go_lload (X : Stand p l e R s m args below meth c T locs cells slots) (hx : p.tables.exec = Jvm.exec) {k : Nat} {v : Int64} (hd : Dec c.code pc (.lload k) 2 pc') (hl : Ls[k]? = some (.val (.long v))) (k : Go p e below En (T.setTop (mkF m pc' Ls (.long v :: st)))) : Go p e below En (T.setTop (mkF m pc Ls st)) := by
  obtain ⟨hd, rfl⟩ := hd
  exact own_via (fun t => XT.lload X.here hx rfl hd hl) k
theorem go_aloadn (X : Stand p l e R s m args below meth c T locs cells slots) (hx : p.tables.exec = Jvm.exec) {k : Fin 4} {v : Value} (hd : Dec c.code pc (.aload_n k) 1 pc') (hl : Ls[k.val]? = some (.val v)) (hv : v.isRef = true) (k : Go p e below En (T.setTop (mkF m pc' Ls (v :: st)))) : Go p e below En (T.setTop (mkF m pc Ls st)) := by
  obtain ⟨hd, rfl⟩ := hd
  exact own_via (fun t => XS.aloadN X.here hx rfl hd hl hv) k
theorem go_aload (X : Stand p l e R s m args below meth c T locs cells slots) (hx : p.tables.exec = Jvm.exec) {k : Nat} {v : Value} (hd : Dec c.code pc (.aload k) 2 pc') (hl : Ls[k]? = some (.val v)) (hv : v.isRef = true) (k : Go p e below En (T.setTop (mkF m pc' Ls (v :: st)))) : Go p e below En (T.setTop (mkF m pc Ls st)) := by
  obtain ⟨hd, rfl⟩ := hd
  exact own_via (fun t => XS.aload X.here hx rfl hd hl hv) k
theorem go_istoren (X : Stand p l e R s m args below meth c T locs cells slots) (hx : p.tables.exec = Jvm.exec) {k : Fin 4} {x : Int32} (Ls' : Array Slot) (hd : Dec c.code pc (.istore_n k) 1 pc') (hl : storeLocals Ls k.val (.int x) = some Ls') (k : Go p e below En (T.setTop (mkF m pc' Ls' st))) : Go p e below En (T.setTop (mkF m pc Ls (.int x :: st))) := by
  obtain ⟨hd, rfl⟩ := hd
  exact own_via (fun t => XS.istoreN X.here hx rfl hd rfl hl) k
theorem go_istore (X : Stand p l e R s m args below meth c T locs cells slots) (hx : p.tables.exec = Jvm.exec) {k : Nat} {x : Int32} (Ls' : Array Slot) (hd : Dec c.code pc (.istore k) 2 pc') (hl : storeLocals Ls k (.int x) = some Ls') (k : Go p e below En (T.setTop (mkF m pc' Ls' st))) : Go p e below En (T.setTop (mkF m pc Ls (.int x :: st))) := by
  obtain ⟨hd, rfl⟩ := hd
  exact own_via (fun t => XS.istore X.here hx rfl hd rfl hl) k
theorem go_lstoren (X : Stand p l e R s m args below meth c T locs cells slots) (hx : p.tables.exec = Jvm.exec) {k : Fin 4} {x : Int64} (Ls' : Array Slot) (hd : Dec c.code pc (.lstore_n k) 1 pc') (hl : storeLocals Ls k.val (.long x) = some Ls') (k : Go p e below En (T.setTop (mkF m pc' Ls' st))) : Go p e below En (T.setTop (mkF m pc Ls (.long x :: st))) := by
  obtain ⟨hd, rfl⟩ := hd
  exact own_via (fun t => XT.lstoreN X.here hx rfl hd rfl hl) k
theorem go_lstore (X : Stand p l e R s m args below meth c T locs cells slots) (hx : p.tables.exec = Jvm.exec) {k : Nat} {x : Int64} (Ls' : Array Slot) (hd : Dec c.code pc (.lstore k) 2 pc') (hl : storeLocals Ls k (.long x) = some Ls') (k : Go p e below En (T.setTop (mkF m pc' Ls' st))) : Go p e below En (T.setTop (mkF m pc Ls (.long x :: st))) := by
  obtain ⟨hd, rfl⟩ := hd
  exact own_via (fun t => XT.lstore X.here hx rfl hd rfl hl) k
theorem go_astoren (X : Stand p l e R s m args below meth c T locs cells slots) (hx : p.tables.exec = Jvm.exec) {k : Fin 4} {x : Value} (Ls' : Array Slot) (hd : Dec c.code pc (.astore_n k) 1 pc') (hv : x.isRef = true) (hl : storeLocals Ls k.val (x) = some Ls') (k : Go p e below En (T.setTop (mkF m pc' Ls' st))) : Go p e below En (T.setTop (mkF m pc Ls (x :: st))) := by
  obtain ⟨hd, rfl⟩ := hd
  exact own_via (fun t => XS.astoreN X.here hx rfl hd rfl hv hl) k
theorem go_astore (X : Stand p l e R s m args below meth c T locs cells slots) (hx : p.tables.exec = Jvm.exec) {k : Nat} {x : Value} (Ls' : Array Slot) (hd : Dec c.code pc (.astore k) 2 pc') (hv : x.isRef = true) (hl : storeLocals Ls k (x) = some Ls') (k : Go p e below En (T.setTop (mkF m pc' Ls' st))) : Go p e below En (T.setTop (mkF m pc Ls (x :: st))) := by
  obtain ⟨hd, rfl⟩ := hd
  exact own_via (fun t => XS.astore X.here hx rfl hd rfl hv hl) k
theorem go_iconst (X : Stand p l e R s m args below meth c T locs cells slots) (hx : p.tables.exec = Jvm.exec) {i : Int} (v : Int32) (hd : Dec c.code pc (.iconst i) 1 pc') (hv : Int32.ofInt i = v) (k : Go p e below En (T.setTop (mkF m pc' Ls (.int v :: st)))) : Go p e below En (T.setTop (mkF m pc Ls st)) := by
  obtain ⟨hd, rfl⟩ := hd
  exact own_via (fun t => (fun q => XS.iconst X.here hx rfl hd (by rw [hv]; exact q))) k
theorem go_bipush (X : Stand p l e R s m args below meth c T locs cells slots) (hx : p.tables.exec = Jvm.exec) {i : Int} (v : Int32) (hd : Dec c.code pc (.bipush i) 2 pc') (hv : (Int8.ofInt i).toInt32 = v) (k : Go p e below En (T.setTop (mkF m pc' Ls (.int v :: st)))) : Go p e below En (T.setTop (mkF m pc Ls st)) := by
  obtain ⟨hd, rfl⟩ := hd
  exact own_via (fun t => (fun q => XS.bipush X.here hx rfl hd (by rw [hv]; exact q))) k
theorem go_sipush (X : Stand p l e R s m args below meth c T locs cells slots) (hx : p.tables.exec = Jvm.exec) {i : Int} (v : Int32) (hd : Dec c.code pc (.sipush i) 3 pc') (hv : (Int16.ofInt i).toInt32 = v) (k : Go p e below En (T.setTop (mkF m pc' Ls (.int v :: st)))) : Go p e below En (T.setTop (mkF m pc Ls st)) := by
  obtain ⟨hd, rfl⟩ := hd
  exact own_via (fun t => (fun q => XS.sipush X.here hx rfl hd (by rw [hv]; exact q))) k
theorem go_lconst (X : Stand p l e R s m args below meth c T locs cells slots) (hx : p.tables.exec = Jvm.exec) {k : Fin 2} (v : Int64) (hd : Dec c.code pc (.lconst k) 1 pc') (hv : Int64.ofNat k = v) (k : Go p e below En (T.setTop (mkF m pc' Ls (.long v :: st)))) : Go p e below En (T.setTop (mkF m pc Ls st)) := by
  obtain ⟨hd, rfl⟩ := hd
  exact own_via (fun t => (fun q => XT.lconst X.here hx rfl hd (by rw [hv]; exact q))) k
theorem go_aconstnull (X : Stand p l e R s m args below meth c T locs cells slots) (hx : p.tables.exec = Jvm.exec)  (hd : Dec c.code pc (.aconst_null) 1 pc') (k : Go p e below En (T.setTop (mkF m pc' Ls (.null :: st)))) : Go p e below En (T.setTop (mkF m pc Ls st)) := by
  obtain ⟨hd, rfl⟩ := hd
  exact own_via (fun t => XS.aconstNull X.here hx rfl hd) k
theorem go_ldc (X : Stand p l e R s m args below meth c T locs cells slots) (hx : p.tables.exec = Jvm.exec) (hZ : Z.Warmed39 s.vm) {own : String} {index : Nat} {v : Int32} (hown : s.vm.findClass own = some m.cls) (w : (Jvm.Cond.constant own index v).before a0 Z = true) (hd : Dec c.code pc (.ldc index) 2 pc') (k : Go p e below En (T.setTop (mkF m pc' Ls (.int v :: st)))) : Go p e below En (T.setTop (mkF m pc Ls st)) := by
  obtain ⟨hd, rfl⟩ := hd
  exact own_via (fun t => X.ldcInt hx hown (mv hZ w) (g := mkF m pc Ls st) rfl hd t) k
theorem go_ldc2 (X : Stand p l e R s m args below meth c T locs cells slots) (hx : p.tables.exec = Jvm.exec) (hZ : Z.Warmed39 s.vm) {own : String} {index : Nat} {v : Int64} (hown : s.vm.findClass own = some m.cls) (w : (Jvm.Cond.constantLong own index v).before a0 Z = true) (hd : Dec c.code pc (.ldc2_w index) 3 pc') (k : Go p e below En (T.setTop (mkF m pc' Ls (.long v :: st)))) : Go p e below En (T.setTop (mkF m pc Ls st)) := by
  obtain ⟨hd, rfl⟩ := hd
  exact own_via (fun t => X.ldc2Long hx hown (mv hZ w) (g := mkF m pc Ls st) rfl hd t) k
theorem go_dup (X : Stand p l e R s m args below meth c T locs cells slots) (hx : p.tables.exec = Jvm.exec) {v : Value} (hd : Dec c.code pc (.dup) 1 pc') (hc : v.category = 1) (k : Go p e below En (T.setTop (mkF m pc' Ls (v :: v :: st)))) : Go p e below En (T.setTop (mkF m pc Ls (v :: st))) := by
  obtain ⟨hd, rfl⟩ := hd
  exact own_via (fun t => XS.dup X.here hx rfl hd rfl hc) k
theorem go_pop (X : Stand p l e R s m args below meth c T locs cells slots) (hx : p.tables.exec = Jvm.exec) {v : Value} (hd : Dec c.code pc (.pop) 1 pc') (hc : v.category = 1) (k : Go p e below En (T.setTop (mkF m pc' Ls st))) : Go p e below En (T.setTop (mkF m pc Ls (v :: st))) := by
  obtain ⟨hd, rfl⟩ := hd
  exact own_via (fun t => XT.pop X.here hx rfl hd rfl hc) k
theorem go_dupx1 (X : Stand p l e R s m args below meth c T locs cells slots) (hx : p.tables.exec = Jvm.exec) {v v' : Value} (hd : Dec c.code pc (.dup_x1) 1 pc') (hc : v.category = 1) (hc' : v'.category = 1) (k : Go p e below En (T.setTop (mkF m pc' Ls (v :: v' :: v :: st)))) : Go p e below En (T.setTop (mkF m pc Ls (v :: v' :: st))) := by
  obtain ⟨hd, rfl⟩ := hd
  exact own_via (fun t => XT.dupX1 X.here hx rfl hd rfl hc hc') k
theorem go_dup2L (X : Stand p l e R s m args below meth c T locs cells slots) (hx : p.tables.exec = Jvm.exec) {x : Int64} (hd : Dec c.code pc (.dup2) 1 pc') (k : Go p e below En (T.setTop (mkF m pc' Ls (.long x :: .long x :: st)))) : Go p e below En (T.setTop (mkF m pc Ls (.long x :: st))) := by
  obtain ⟨hd, rfl⟩ := hd
  exact own_via (fun t => XT.dup2L X.here hx rfl hd rfl) k
theorem go_dup2 (X : Stand p l e R s m args below meth c T locs cells slots) (hx : p.tables.exec = Jvm.exec) {v v' : Value} (hd : Dec c.code pc (.dup2) 1 pc') (hc : v.category = 1) (hc' : v'.category = 1) (k : Go p e below En (T.setTop (mkF m pc' Ls (v :: v' :: v :: v' :: st)))) : Go p e below En (T.setTop (mkF m pc Ls (v :: v' :: st))) := by
  obtain ⟨hd, rfl⟩ := hd
  exact own_via (fun t => XT.dup2 X.here hx rfl hd rfl hc hc') k
theorem go_iinc (X : Stand p l e R s m args below meth c T locs cells slots) (hx : p.tables.exec = Jvm.exec) {k : Nat} {cst : Int} {x : Int32} (Ls' : Array Slot) (hd : Dec c.code pc (.iinc k cst) 3 pc') (hl : Ls[k]? = some (.val (.int x))) (hl' : storeLocals Ls k (.int (x + Int32.ofInt cst)) = some Ls') (k : Go p e below En (T.setTop (mkF m pc' Ls' st))) : Go p e below En (T.setTop (mkF m pc Ls st)) := by
  obtain ⟨hd, rfl⟩ := hd
  exact own_via (fun t => XS.iinc X.here hx rfl hd hl hl') k
theorem go_goto (X : Stand p l e R s m args below meth c T locs cells slots) (hx : p.tables.exec = Jvm.exec) {o : Int} (hd : DecB c.code pc (.goto o) o pc' pt) (k : Go p e below En (T.setTop (mkF m pt Ls st))) : Go p e below En (T.setTop (mkF m pc Ls st)) := own_via (fun t => XS.goto X.here hx rfl rfl hd.1 hd.2.2.1 hd.2.2.2) k
theorem go_icmp (X : Stand p l e R s m args below meth c T locs cells slots) (hx : p.tables.exec = Jvm.exec) {cd : ClassFile.Cond} {x y : Int32} {o : Int} (hd : DecB c.code pc (.if_icmp cd o) o pc' pt) (kT : if_icmp.holds cd x y = true → Go p e below En (T.setTop (mkF m pt Ls st))) (kF : if_icmp.holds cd x y = false → Go p e below En (T.setTop (mkF m pc' Ls st))) : Go p e below En (T.setTop (mkF m pc Ls (.int y :: .int x :: st))) := by
  obtain ⟨h1, rfl, h3, h4⟩ := hd
  cases q : if_icmp.holds cd x y
  · exact own_via (fun t => XS.icmpNo X.here hx rfl h1 rfl q) (kF q)
  · exact own_via (fun t => XS.icmpYes X.here hx rfl rfl h1 rfl q h3 h4) (kT q)
theorem go_ifc (X : Stand p l e R s m args below meth c T locs cells slots) (hx : p.tables.exec = Jvm.exec) {cd : ClassFile.Cond} {x : Int32} {o : Int} (hd : DecB c.code pc (.ifCond cd o) o pc' pt) (kT : if_icmp.holds cd x 0 = true → Go p e below En (T.setTop (mkF m pt Ls st))) (kF : if_icmp.holds cd x 0 = false → Go p e below En (T.setTop (mkF m pc' Ls st))) : Go p e below En (T.setTop (mkF m pc Ls (.int x :: st))) := by
  obtain ⟨h1, rfl, h3, h4⟩ := hd
  cases q : if_icmp.holds cd x 0
  · exact own_via (fun t => XS.ifNo X.here hx rfl h1 rfl ((if0 cd x).trans q)) (kF q)
  · exact own_via (fun t => XS.ifYes X.here hx rfl rfl h1 rfl ((if0 cd x).trans q) h3 h4) (kT q)
theorem go_icmp_eq (X : Stand p l e R s m args below meth c T locs cells slots) (hx : p.tables.exec = Jvm.exec) {x y : Int32} {o : Int} (hd : DecB c.code pc (.if_icmp .eq o) o pc' pt) (kT : x = y → Go p e below En (T.setTop (mkF m pt Ls st))) (kF : ¬ x = y → Go p e below En (T.setTop (mkF m pc' Ls st))) : Go p e below En (T.setTop (mkF m pc Ls (.int y :: .int x :: st))) := by
  by_cases q : x = y
  · exact go_icmp X hx hd (fun _ => kT q) (fun r => absurd r (by rw [(teq q).1]; decide))
  · exact go_icmp X hx hd (fun r => absurd r (by rw [(feq q).1]; decide)) (fun _ => kF q)
theorem go_ifc_eq (X : Stand p l e R s m args below meth c T locs cells slots) (hx : p.tables.exec = Jvm.exec) {x : Int32} {o : Int} (hd : DecB c.code pc (.ifCond .eq o) o pc' pt) (kT : x = 0 → Go p e below En (T.setTop (mkF m pt Ls st))) (kF : ¬ x = 0 → Go p e below En (T.setTop (mkF m pc' Ls st))) : Go p e below En (T.setTop (mkF m pc Ls (.int x :: st))) := by
  by_cases q : x = 0
  · exact go_ifc X hx hd (fun _ => kT q) (fun r => absurd r (by rw [(teq q).1]; decide))
  · exact go_ifc X hx hd (fun r => absurd r (by rw [(feq q).1]; decide)) (fun _ => kF q)
theorem go_icmp_ne (X : Stand p l e R s m args below meth c T locs cells slots) (hx : p.tables.exec = Jvm.exec) {x y : Int32} {o : Int} (hd : DecB c.code pc (.if_icmp .ne o) o pc' pt) (kT : ¬ x = y → Go p e below En (T.setTop (mkF m pt Ls st))) (kF : x = y → Go p e below En (T.setTop (mkF m pc' Ls st))) : Go p e below En (T.setTop (mkF m pc Ls (.int y :: .int x :: st))) := by
  by_cases q : x = y
  · exact go_icmp X hx hd (fun r => absurd r (by rw [(teq q).2]; decide)) (fun _ => kF q)
  · exact go_icmp X hx hd (fun _ => kT q) (fun r => absurd r (by rw [(feq q).2]; decide))
theorem go_ifc_ne (X : Stand p l e R s m args below meth c T locs cells slots) (hx : p.tables.exec = Jvm.exec) {x : Int32} {o : Int} (hd : DecB c.code pc (.ifCond .ne o) o pc' pt) (kT : ¬ x = 0 → Go p e below En (T.setTop (mkF m pt Ls st))) (kF : x = 0 → Go p e below En (T.setTop (mkF m pc' Ls st))) : Go p e below En (T.setTop (mkF m pc Ls (.int x :: st))) := by
  by_cases q : x = 0
  · exact go_ifc X hx hd (fun r => absurd r (by rw [(teq q).2]; decide)) (fun _ => kF q)
  · exact go_ifc X hx hd (fun _ => kT q) (fun r => absurd r (by rw [(feq q).2]; decide))
theorem go_icmp_lt (X : Stand p l e R s m args below meth c T locs cells slots) (hx : p.tables.exec = Jvm.exec) {x y : Int32} {o : Int} (hd : DecB c.code pc (.if_icmp .lt o) o pc' pt) (kT : x < y → Go p e below En (T.setTop (mkF m pt Ls st))) (kF : ¬ x < y → Go p e below En (T.setTop (mkF m pc' Ls st))) : Go p e below En (T.setTop (mkF m pc Ls (.int y :: .int x :: st))) := by
  by_cases q : x < y
  · exact go_icmp X hx hd (fun _ => kT q) (fun r => absurd r (by rw [(tlt q).1]; decide))
  · exact go_icmp X hx hd (fun r => absurd r (by rw [(flt q).1]; decide)) (fun _ => kF q)
theorem go_ifc_lt (X : Stand p l e R s m args below meth c T locs cells slots) (hx : p.tables.exec = Jvm.exec) {x : Int32} {o : Int} (hd : DecB c.code pc (.ifCond .lt o) o pc' pt) (kT : x < 0 → Go p e below En (T.setTop (mkF m pt Ls st))) (kF : ¬ x < 0 → Go p e below En (T.setTop (mkF m pc' Ls st))) : Go p e below En (T.setTop (mkF m pc Ls (.int x :: st))) := by
  by_cases q : x < 0
  · exact go_ifc X hx hd (fun _ => kT q) (fun r => absurd r (by rw [(tlt q).1]; decide))
  · exact go_ifc X hx hd (fun r => absurd r (by rw [(flt q).1]; decide)) (fun _ => kF q)
theorem go_icmp_ge (X : Stand p l e R s m args below meth c T locs cells slots) (hx : p.tables.exec = Jvm.exec) {x y : Int32} {o : Int} (hd : DecB c.code pc (.if_icmp .ge o) o pc' pt) (kT : ¬ x < y → Go p e below En (T.setTop (mkF m pt Ls st))) (kF : x < y → Go p e below En (T.setTop (mkF m pc' Ls st))) : Go p e below En (T.setTop (mkF m pc Ls (.int y :: .int x :: st))) := by
  by_cases q : x < y
  · exact go_icmp X hx hd (fun r => absurd r (by rw [(tlt q).2.1]; decide)) (fun _ => kF q)
  · exact go_icmp X hx hd (fun _ => kT q) (fun r => absurd r (by rw [(flt q).2.1]; decide))
theorem go_ifc_ge (X : Stand p l e R s m args below meth c T locs cells slots) (hx : p.tables.exec = Jvm.exec) {x : Int32} {o : Int} (hd : DecB c.code pc (.ifCond .ge o) o pc' pt) (kT : ¬ x < 0 → Go p e below En (T.setTop (mkF m pt Ls st))) (kF : x < 0 → Go p e below En (T.setTop (mkF m pc' Ls st))) : Go p e below En (T.setTop (mkF m pc Ls (.int x :: st))) := by
  by_cases q : x < 0
  · exact go_ifc X hx hd (fun r => absurd r (by rw [(tlt q).2.1]; decide)) (fun _ => kF q)
  · exact go_ifc X hx hd (fun _ => kT q) (fun r => absurd r (by rw [(flt q).2.1]; decide))
theorem go_icmp_gt (X : Stand p l e R s m args below meth c T locs cells slots) (hx : p.tables.exec = Jvm.exec) {x y : Int32} {o : Int} (hd : DecB c.code pc (.if_icmp .gt o) o pc' pt) (kT : y < x → Go p e below En (T.setTop (mkF m pt Ls st))) (kF : ¬ y < x → Go p e below En (T.setTop (mkF m pc' Ls st))) : Go p e below En (T.setTop (mkF m pc Ls (.int y :: .int x :: st))) := by
  by_cases q : y < x
  · exact go_icmp X hx hd (fun _ => kT q) (fun r => absurd r (by rw [(tlt q).2.2.1]; decide))
  · exact go_icmp X hx hd (fun r => absurd r (by rw [(flt q).2.2.1]; decide)) (fun _ => kF q)
theorem go_ifc_gt (X : Stand p l e R s m args below meth c T locs cells slots) (hx : p.tables.exec = Jvm.exec) {x : Int32} {o : Int} (hd : DecB c.code pc (.ifCond .gt o) o pc' pt) (kT : 0 < x → Go p e below En (T.setTop (mkF m pt Ls st))) (kF : ¬ 0 < x → Go p e below En (T.setTop (mkF m pc' Ls st))) : Go p e below En (T.setTop (mkF m pc Ls (.int x :: st))) := by
  by_cases q : 0 < x
  · exact go_ifc X hx hd (fun _ => kT q) (fun r => absurd r (by rw [(tlt q).2.2.1]; decide))
  · exact go_ifc X hx hd (fun r => absurd r (by rw [(flt q).2.2.1]; decide)) (fun _ => kF q)
theorem go_icmp_le (X : Stand p l e R s m args below meth c T locs cells slots) (hx : p.tables.exec = Jvm.exec) {x y : Int32} {o : Int} (hd : DecB c.code pc (.if_icmp .le o) o pc' pt) (kT : ¬ y < x → Go p e below En (T.setTop (mkF m pt Ls st))) (kF : y < x → Go p e below En (T.setTop (mkF m pc' Ls st))) : Go p e below En (T.setTop (mkF m pc Ls (.int y :: .int x :: st))) := by
  by_cases q : y < x
  · exact go_icmp X hx hd (fun r => absurd r (by rw [(tlt q).2.2.2]; decide)) (fun _ => kF q)
  · exact go_icmp X hx hd (fun _ => kT q) (fun r => absurd r (by rw [(flt q).2.2.2]; decide))
theorem go_ifc_le (X : Stand p l e R s m args below meth c T locs cells slots) (hx : p.tables.exec = Jvm.exec) {x : Int32} {o : Int} (hd : DecB c.code pc (.ifCond .le o) o pc' pt) (kT : ¬ 0 < x → Go p e below En (T.setTop (mkF m pt Ls st))) (kF : 0 < x → Go p e below En (T.setTop (mkF m pc' Ls st))) : Go p e below En (T.setTop (mkF m pc Ls (.int x :: st))) := by
  by_cases q : 0 < x
  · exact go_ifc X hx hd (fun r => absurd r (by rw [(tlt q).2.2.2]; decide)) (fun _ => kF q)
  · exact go_ifc X hx hd (fun _ => kT q) (fun r => absurd r (by rw [(flt q).2.2.2]; decide))
theorem go_ifnullY (X : Stand p l e R s m args below meth c T locs cells slots) (hx : p.tables.exec = Jvm.exec) {o : Int} (hd : DecB c.code pc (.ifnull o) o pc' pt) (k : Go p e below En (T.setTop (mkF m pt Ls st))) : Go p e below En (T.setTop (mkF m pc Ls (.null :: st))) := own_via (fun t => XS.ifnullYes X.here hx rfl rfl hd.1 rfl hd.2.2.1 hd.2.2.2) k
theorem go_ifnullN (X : Stand p l e R s m args below meth c T locs cells slots) (hx : p.tables.exec = Jvm.exec) {o : Int} {a : Addr} (hd : DecB c.code pc (.ifnull o) o pc' pt) (k : Go p e below En (T.setTop (mkF m pc' Ls st))) : Go p e below En (T.setTop (mkF m pc Ls (.ref a :: st))) := by
  obtain ⟨h1, rfl, h3, h4⟩ := hd
  exact own_via (fun t => XS.ifnullNo X.here hx rfl h1 rfl) k
theorem go_ifnonnullY (X : Stand p l e R s m args below meth c T locs cells slots) (hx : p.tables.exec = Jvm.exec) {o : Int} {a : Addr} (hd : DecB c.code pc (.ifnonnull o) o pc' pt) (k : Go p e below En (T.setTop (mkF m pt Ls st))) : Go p e below En (T.setTop (mkF m pc Ls (.ref a :: st))) := own_via (fun t => XT.ifnonnullYes X.here hx rfl rfl hd.1 rfl hd.2.2.1 hd.2.2.2) k
theorem go_ifnonnullN (X : Stand p l e R s m args below meth c T locs cells slots) (hx : p.tables.exec = Jvm.exec) {o : Int} (hd : DecB c.code pc (.ifnonnull o) o pc' pt) (k : Go p e below En (T.setTop (mkF m pc' Ls st))) : Go p e below En (T.setTop (mkF m pc Ls (.null :: st))) := by
  obtain ⟨h1, rfl, h3, h4⟩ := hd
  exact own_via (fun t => XT.ifnonnullNo X.here hx rfl h1 rfl) k
theorem go_acmp_eq (X : Stand p l e R s m args below meth c T locs cells slots) (hx : p.tables.exec = Jvm.exec) {x y : Value} (hx' : x.isRef = true) (hy' : y.isRef = true) {o : Int} (hd : DecB c.code pc (.if_acmp .eq o) o pc' pt) (kT : x = y → Go p e below En (T.setTop (mkF m pt Ls st))) (kF : ¬ x = y → Go p e below En (T.setTop (mkF m pc' Ls st))) : Go p e below En (T.setTop (mkF m pc Ls (y :: x :: st))) := by
  obtain ⟨h1, rfl, h3, h4⟩ := hd
  by_cases q : x = y
  · exact own_via (fun t => XT.acmpYes X.here hx rfl rfl h1 rfl hx' hy' (by simp [XT.acmp, q]) h3 h4) (kT q)
  · exact own_via (fun t => XT.acmpNo X.here hx rfl h1 rfl hx' hy' (by simp [XT.acmp, q])) (kF q)
theorem go_acmp_ne (X : Stand p l e R s m args below meth c T locs cells slots) (hx : p.tables.exec = Jvm.exec) {x y : Value} (hx' : x.isRef = true) (hy' : y.isRef = true) {o : Int} (hd : DecB c.code pc (.if_acmp .ne o) o pc' pt) (kT : ¬ x = y → Go p e below En (T.setTop (mkF m pt Ls st))) (kF : x = y → Go p e below En (T.setTop (mkF m pc' Ls st))) : Go p e below En (T.setTop (mkF m pc Ls (y :: x :: st))) := by
  obtain ⟨h1, rfl, h3, h4⟩ := hd
  by_cases q : x = y
  · exact own_via (fun t => XT.acmpNo X.here hx rfl h1 rfl hx' hy' (by simp [XT.acmp, q])) (kF q)
  · exact own_via (fun t => XT.acmpYes X.here hx rfl rfl h1 rfl hx' hy' (by simp [XT.acmp, q]) h3 h4) (kT q)
theorem go_retN (X : Stand p l e R s m args below meth c T locs cells slots) (hx : p.tables.exec = Jvm.exec) {z : Int32} {t : FieldType} (hret : meth.sig.returnType = some t) (ht : t = .boolean ∨ t = .byte ∨ t = .char ∨ t = .short) (hd : Dec c.code pc .ireturn 1 pc') (hk : meth.locks = false) (hc : cells ≤ rc) (hs : slots ≤ rs) (hQ : Q (some (.int (nar t z))) T.heap locs) : Go p e below (EndN s Q rc rs) (T.setTop (mkF m pc Ls (.int z :: st))) := by
  obtain ⟨fs, hr, hrun, hended, hW, hsame⟩ := X.leave (v := (some (.int (nar t z)))) (fun q => by first | rfl | (rw [hret] at q; cases q)) hk
  exact ⟨_, _, retN X hx hret ht hd.1 hr, hrun, hended, _, _, rfl, hQ, ⟨_, rfl⟩, hW, hsame.mono hc hs⟩
theorem go_retI (X : Stand p l e R s m args below meth c T locs cells slots) (hx : p.tables.exec = Jvm.exec) {z : Int32} (hret : meth.sig.returnType = some .int) (hd : Dec c.code pc .ireturn 1 pc') (hk : meth.locks = false) (hc : cells ≤ rc) (hs : slots ≤ rs) (hQ : Q (some (.int z)) T.heap locs) : Go p e below (EndN s Q rc rs) (T.setTop (mkF m pc Ls (.int z :: st))) := by
  obtain ⟨fs, hr, hrun, hended, hW, hsame⟩ := X.leave (v := (some (.int z))) (fun q => by first | rfl | (rw [hret] at q; cases q)) hk
  exact ⟨_, _, retOut X hx hret rfl (Or.inl ⟨rfl, Or.inl rfl, _, rfl⟩) hd.1 hr, hrun, hended, _, _, rfl, hQ, ⟨_, rfl⟩, hW, hsame.mono hc hs⟩
theorem go_retJ (X : Stand p l e R s m args below meth c T locs cells slots) (hx : p.tables.exec = Jvm.exec) {z : Int64} (hret : meth.sig.returnType = some .long) (hd : Dec c.code pc .lreturn 1 pc') (hk : meth.locks = false) (hc : cells ≤ rc) (hs : slots ≤ rs) (hQ : Q (some (.long z)) T.heap locs) : Go p e below (EndN s Q rc rs) (T.setTop (mkF m pc Ls (.long z :: st))) := by
  obtain ⟨fs, hr, hrun, hended, hW, hsame⟩ := X.leave (v := (some (.long z))) (fun q => by first | rfl | (rw [hret] at q; cases q)) hk
  exact ⟨_, _, retOut X hx hret rfl (Or.inr (Or.inl ⟨rfl, rfl, _, rfl⟩)) hd.1 hr, hrun, hended, _, _, rfl, hQ, ⟨_, rfl⟩, hW, hsame.mono hc hs⟩
theorem go_retA (X : Stand p l e R s m args below meth c T locs cells slots) (hx : p.tables.exec = Jvm.exec) {v : Value} {t : FieldType} (hret : meth.sig.returnType = some t) (ht : t.isReference = true) (hv : v.isRef = true) (hd : Dec c.code pc .areturn 1 pc') (hk : meth.locks = false) (hc : cells ≤ rc) (hs : slots ≤ rs) (hQ : Q (some v) T.heap locs) : Go p e below (EndN s Q rc rs) (T.setTop (mkF m pc Ls (v :: st))) := by
  obtain ⟨fs, hr, hrun, hended, hW, hsame⟩ := X.leave (v := (some v)) (fun q => by first | rfl | (rw [hret] at q; cases q)) hk
  exact ⟨_, _, retOut X hx hret (by cases t <;> first | rfl | cases ht) (Or.inr (Or.inr (Or.inr (Or.inr ⟨rfl, ht, hv⟩)))) hd.1 hr, hrun, hended, _, _, rfl, hQ, ⟨_, rfl⟩, hW, hsame.mono hc hs⟩
theorem go_retV (X : Stand p l e R s m args below meth c T locs cells slots) (hx : p.tables.exec = Jvm.exec)  (hret : meth.sig.returnType = none) (hd : Dec c.code pc .return_ 1 pc') (hk : meth.locks = false) (hc : cells ≤ rc) (hs : slots ≤ rs) (hQ : Q none T.heap locs) : Go p e below (EndN s Q rc rs) (T.setTop (mkF m pc Ls [])) := by
  obtain ⟨fs, hr, hrun, hended, hW, hsame⟩ := X.leave (v := none) (fun q => by first | rfl | (rw [hret] at q; cases q)) hk
  exact ⟨_, _, X.returnOut hx hret hd.1 hr, hrun, hended, _, _, rfl, hQ, ⟨_, rfl⟩, hW, hsame.mono hc hs⟩
theorem go_getF (X : Stand p l e R s m args below meth c T locs cells slots) (hx : p.tables.exec = Jvm.exec) (hZ : Z.Warmed39 s.vm) {own R0 O n d host : String} {index : Nat} (hown : s.vm.findClass own = some m.cls) (w : (Jvm.Cond.fieldLink own index R0 n d).before a0 Z = true ∨ (Jvm.Cond.fieldLinkNest own index R0 n d host).before a0 Z = true) (via : Via Z R0 O n d) (eT : T.heap = h) {a : Addr} {v : Value} (F : Fld Z h a O n d v) (hd : Dec c.code pc (.getfield index) 3 pc') (k : ∀ T', Stand p l e R s m args below meth c T' locs cells slots → T'.heap = h → Go p e below En (T'.setTop (mkF m pc' Ls (v :: st)))) : Go p e below En (T.setTop (mkF m pc Ls (.ref a :: st))) := by
  obtain ⟨hd, rfl⟩ := hd
  obtain ⟨T', X', e', q⟩ := getF X hx hZ hown w via eT F (g := mkF m pc Ls (.ref a :: st)) rfl rfl hd
  exact own_via q (k T' X' e')
theorem go_putF (X : Stand p l e R s m args below meth c T locs cells slots) (hx : p.tables.exec = Jvm.exec) (hZ : Z.Warmed39 s.vm) {own R0 O n d host C : String} {index kk : Nat} {ty : FieldType} (hown : s.vm.findClass own = some m.cls) (w : (Jvm.Cond.fieldLink own index R0 n d).before a0 Z = true ∨ (Jvm.Cond.fieldLinkNest own index R0 n d host).before a0 Z = true) (via : Via Z R0 O n d) (eT : T.heap = h) {a : Addr} {v old : Value} (F : Fld Z h a O n d old) (E : Exa Z h a C) (L : (Jvm.Cond.lays C O n d).before a0 Z = true ∨ ((Jvm.Cond.laysFinal C O n d).before a0 Z = true ∧ own = O ∧ meth.name = "<init>")) (wi : (Jvm.Cond.instantiable C kk).before a0 Z = true) (hty : parseFieldDescriptor d = some ty) (hn : narrow ty v = v) (hf : fits ty v = true) (hd : Dec c.code pc (.putfield index) 3 pc') (k : ∀ T' h', Stand p l e R s m args below meth c T' (locs ++ [⟨a, Jvm.RoadKit.slotOf Z O n d⟩]) cells slots → T'.heap = h' → Wr h h' a (Jvm.RoadKit.slotOf Z O n d) v → Go p e below En (T'.setTop (mkF m pc' Ls st))) : Go p e below En (T.setTop (mkF m pc Ls (v :: .ref a :: st))) := by
  obtain ⟨hd, rfl⟩ := hd
  obtain ⟨T', h', X', e', W, q⟩ := putF X hx hZ hown w via eT F E L wi hty hn hf (g := mkF m pc Ls (v :: .ref a :: st)) rfl rfl hd
  exact own_via q (k T' h' X' e' W)
theorem go_getS (X : Stand p l e R s m args below meth c T locs cells slots) (hx : p.tables.exec = Jvm.exec) (hZ : Z.Warmed39 s.vm) {own R0 O n d host : String} {index : Nat} (hown : s.vm.findClass own = some m.cls) (w : (Jvm.Cond.fieldLink own index R0 n d).before a0 Z = true) (via : Via Z R0 O n d) (eT : T.heap = h) {v : Value} (F : Sta Z h O n d v) (hd : Dec c.code pc (.getstatic index) 3 pc') (k : ∀ T', Stand p l e R s m args below meth c T' locs cells slots → T'.heap = h → Go p e below En (T'.setTop (mkF m pc' Ls (v :: st)))) : Go p e below En (T.setTop (mkF m pc Ls st)) := by
  obtain ⟨hd, rfl⟩ := hd
  obtain ⟨T', X', e', q⟩ := getS (host := "") X hx hZ hown w via eT F (g := mkF m pc Ls st) rfl hd
  exact own_via q (k T' X' e')
theorem go_newO (X : Stand p l e R s m args below meth c T locs cells slots) (hx : p.tables.exec = Jvm.exec) (hZ : Z.Warmed39 s.vm) {own C : String} {index n : Nat} (hown : s.vm.findClass own = some m.cls) (w : (Jvm.Cond.classLink own index C).before a0 Z = true) (wi : (Jvm.Cond.instantiable C n).before a0 Z = true) (wz : (Jvm.Cond.initialized C).before a0 Z = true) (eT : T.heap = h) (hd : Dec c.code pc (.new index) 3 pc') (hc : cells + 1 ≤ R.cells) (hl : slots + n ≤ R.slots) (k : ∀ T' h' (a : Addr), a = h.size → Stand p l e R s m args below meth c T' locs (cells + 1) (slots + n) → T'.heap = h' → Ext h h' → Exa Z h' a C → (∀ {O nm d : String} {ty : FieldType}, Laid Z a0 C O nm d → parseFieldDescriptor d = some ty → Fld Z h' a O nm d (defaultValue ty)) → Go p e below En (T'.setTop (mkF m pc' Ls (.ref a :: st)))) : Go p e below En (T.setTop (mkF m pc Ls st)) := by
  obtain ⟨hd, rfl⟩ := hd
  obtain ⟨T', h', X', e', E, A, D, -, q⟩ := newO X hx hZ hown w wi wz eT (g := mkF m pc Ls st) rfl hd hc hl
  exact own_via q (k T' h' _ rfl X' e' E A D)
theorem go_newP (X : Stand p l e R s m args below meth c T locs cells slots) (hx : p.tables.exec = Jvm.exec) (hZ : Z.Warmed39 s.vm) {aty : ArrayType} (w : (Jvm.Cond.arrayClass (newarray.typeOf aty)).before a0 Z = true) (eT : T.heap = h) (hd : Dec c.code pc (.newarray aty) 2 pc') {n : Int32} (hn : ¬ n < 0) (cap : Nat) (hcap : n.toNatClampNeg ≤ cap) (hb : cap * 8 ≤ 536870912) (hc : cells + 1 ≤ R.cells) (hl : slots + cap ≤ R.slots) (k : ∀ T' h' cA (a : Addr), a = h.size → Stand p l e R s m args below meth c T' locs (cells + 1) (slots + cap) → T'.heap = h' → Ext h h' → Arr Z h' a (newA cA (newarray.typeOf aty) n) (newarray.typeOf aty) → Go p e below En (T'.setTop (mkF m pc' Ls (.ref a :: st)))) : Go p e below En (T.setTop (mkF m pc Ls (.int n :: st))) := by
  obtain ⟨hd, rfl⟩ := hd
  obtain ⟨T', h', cA, X', e', E, A, q⟩ := newP X hx hZ w eT (g := mkF m pc Ls (.int n :: st)) rfl hd rfl hn hcap hb hc hl
  exact own_via q (k T' h' cA _ rfl X' e' E A)
def Ct (l : Launch) (Z : State) (y : MethodName) (bytes : ByteArray) (maxL : Nat) (ret : Option FieldType) (ws : List Jvm.Cond) (rm : Room) (as' : Array Value) (h0 : Heap) (Q : Option Value → Heap → List Loc → Prop) : Prop := MetFree l y (head1 (Jvm.Cond.code y bytes maxL ret :: ws) rm) (fun a U => a = as' ∧ Z.Warmed39 U.vm ∧ U.heap = h0) (fun _ _ _ _ _ => True) (fun _ U o U' => ∃ v L, o = .returned v ∧ Q v U'.heap L ∧ FrameEnd U o U' L rm.cells rm.slots)
theorem Ct.of {y : MethodName} {bytes : ByteArray} {maxL : Nat} {ret : Option FieldType} {ws : List Jvm.Cond} {rm : Room} {as' : Array Value} {h0 : Heap} (pn : plainName y.cls = true) (F0 : Array Slot) (ef : ∀ m, entryFrame m as' maxL = mkF m 0 F0 []) (body : ∀ (p : Program) (e : Env) (s : State) (m : MethodId) (below : List Frame) (meth : Method) (c : Code) (T : State), p.tables.exec = Jvm.exec → c.code = bytes → c.maxLocals = maxL → Z.Warmed39 s.vm → s.vm.findClass y.cls = some m.cls → meth.name = y.name → meth.sig.returnType = ret → meth.locks = false → T.heap = h0 → Stand p l e rm s m as' below meth c T [] 0 0 → Go p e below (EndN s Q rm.cells rm.slots) (T.setTop (mkF m 0 F0 []))) : Ct l Z y bytes maxL ret ws rm as' h0 Q := by
  refine MetFree.of_bodySF (plainFor_of_name pn) hisR ?_
  intro p e s m args below meth c s₁ Bd hml0 hP hK
  obtain ⟨rfl, hZ, hh⟩ := hP
  have G := body p e s m below meth c s₁ Bd.exec Bd.bytes hml0 hZ (findClass_of_methodNamed Bd.named) (name_of_methodNamed Bd.named Bd.method).1 Bd.returns Bd.notSynchronized (by rw [← hh, Bd.state]; rfl) (Stand.of_body Bd)
  rw [← ef m] at G
  exact G
theorem go_static (X : Stand p l e R s m args below meth c T locs cells slots) (hx : p.tables.exec = Jvm.exec) (hZ : Z.Warmed39 s.vm) {own : String} {index : Nat} {y : MethodName} {bytes : ByteArray} {maxL : Nat} {ret : Option FieldType} (hown : s.vm.findClass own = some m.cls) (w1 : (Jvm.Cond.methodLink own index y).before a0 Z = true) (w2 : (Jvm.Cond.static y).before a0 Z = true) (w3 : (Jvm.Cond.initialized y.cls).before a0 Z = true) (w4 : (Jvm.Cond.code y bytes maxL ret).before a0 Z = true) (hy : y.cls ≠ "java/lang/invoke/MethodHandle" ∧ y.cls ≠ "java/lang/invoke/VarHandle") (eT : T.heap = h) {rm : Room} (argsL rest : List Value) {Qc : Option Value → Heap → List Loc → Prop} (hC : Ct l Z y bytes maxL ret [] rm argsL.toArray h Qc) {ps : List FieldType} {rt : Option FieldType} (pd : parseMethodDescriptor y.desc = some ⟨ps, rt⟩) (hl : argsL.length = ps.length) (hsize : Ls.size = c.maxLocals) {stk : List Value} (hstk : stk = argsL.reverse ++ rest) (W : Nat) (hW : (rest.map fun v => v.category).sum ≤ W) (hf : rm.frames + 1 ≤ R.frames) (hlo : W + (maxL + 11) + rm.locals ≤ R.locals) (hce : cells + rm.cells ≤ R.cells) (hsl : slots + rm.slots ≤ R.slots) (hd : Dec c.code pc (.invokestatic index) 3 pc') (k : ∀ T' v L, Stand p l e R s m args below meth c T' (locs ++ L) (cells + rm.cells) (slots + rm.slots) → Qc v T'.heap L → Go p e below En (T'.setTop (mkF m pc' Ls (v.toList ++ rest)))) : Go p e below En (T.setTop (mkF m pc Ls stk)) := by
  obtain ⟨hd, rfl⟩ := hd
  obtain ⟨v, _, ⟨T', L', k', n'⟩, -, X', ⟨L, hQ, l1, y1, z1⟩, q⟩ := Jvm.LawKit.callS X hx hown (mvT hZ w1) (mvT hZ w2) (mvT hZ w3) (mvT hZ w4) hy (backOf (W := W) hC hZ w4 w3 hf hlo) (g := mkF m pc Ls stk) rfl hsize (argsL := argsL) (rest := rest) (lenOf pd hl) hstk (by show 2 * 0 + _ ≤ _; omega) hd (fun _ _ => ⟨rfl, eT, hce, hsl⟩)
  dsimp only [Pt.U, Pt.locs, Pt.cells, Pt.slots] at X' l1 y1 z1 q hQ
  subst l1 y1 z1
  exact own_via q (k T' v L X' hQ)
theorem go_special (X : Stand p l e R s m args below meth c T locs cells slots) (hx : p.tables.exec = Jvm.exec) (hZ : Z.Warmed39 s.vm) {own : String} {index : Nat} {y : MethodName} (hn : y.name = "<init>") {bytes : ByteArray} {maxL : Nat} (hown : s.vm.findClass own = some m.cls) (w1 : (Jvm.Cond.methodLink own index y).before a0 Z = true) (w2 : (Jvm.Cond.instanceMethod y).before a0 Z = true) (w3 : (Jvm.Cond.initialized y.cls).before a0 Z = true) (w4 : (Jvm.Cond.code y bytes maxL none).before a0 Z = true) (hy : y.cls ≠ "java/lang/invoke/MethodHandle" ∧ y.cls ≠ "java/lang/invoke/VarHandle") (eT : T.heap = h) {rm : Room} {a : Addr} (argsL rest : List Value) {Qc : Option Value → Heap → List Loc → Prop} (hC : Ct l Z y bytes maxL none [] rm (.ref a :: argsL).toArray h Qc) {ps : List FieldType} {rt : Option FieldType} (pd : parseMethodDescriptor y.desc = some ⟨ps, rt⟩) (hl : argsL.length = ps.length) (hsize : Ls.size = c.maxLocals) {stk : List Value} (hstk : stk = argsL.reverse ++ .ref a :: rest) (W : Nat) (hW : (rest.map fun v => v.category).sum ≤ W) (hf : rm.frames + 1 ≤ R.frames) (hlo : W + (maxL + 11) + rm.locals ≤ R.locals) (hce : cells + rm.cells ≤ R.cells) (hsl : slots + rm.slots ≤ R.slots) (hd : Dec c.code pc (.invokespecial index) 3 pc') (k : ∀ T' v L, Stand p l e R s m args below meth c T' (locs ++ L) (cells + rm.cells) (slots + rm.slots) → Qc v T'.heap L → Go p e below En (T'.setTop (mkF m pc' Ls (v.toList ++ rest)))) : Go p e below En (T.setTop (mkF m pc Ls stk)) := by
  obtain ⟨hd, rfl⟩ := hd
  obtain ⟨v, _, ⟨T', L', k', n'⟩, -, X', ⟨L, hQ, l1, y1, z1⟩, q⟩ := X.specialBack hx hn hown (mvT hZ w1) (mvT hZ w2) (mvT hZ w4) hy (backOf (W := W) hC hZ w4 w3 hf hlo) (g := mkF m pc Ls stk) rfl hsize (Steps.refl _) (a := a) (argsL := argsL) (rest := rest) (lenOf pd hl) hstk (by show 2 * 0 + _ ≤ _; omega) hd (fun _ _ => ⟨rfl, eT, hce, hsl⟩)
  dsimp only [Pt.U, Pt.locs, Pt.cells, Pt.slots] at X' l1 y1 z1 q hQ
  subst l1 y1 z1
  exact own_via (fun _ => q.trans) (k T' v L X' hQ)
theorem go_virtual (X : Stand p l e R s m args below meth c T locs cells slots) (hx : p.tables.exec = Jvm.exec) (hZ : Z.Warmed39 s.vm) {own C : String} {index : Nat} {y : MethodName} {bytes : ByteArray} {maxL : Nat} {ret : Option FieldType} (hown : s.vm.findClass own = some m.cls) (w1 : (Jvm.Cond.methodLink own index y).before a0 Z = true) (w2 : (Jvm.Cond.declares y).before a0 Z = true) (w5 : (Jvm.Cond.selects C y y).before a0 Z = true) (w6 : (Jvm.Cond.instanceMethod y).before a0 Z = true) (w3 : (Jvm.Cond.initialized y.cls).before a0 Z = true) (w4 : (Jvm.Cond.code y bytes maxL ret).before a0 Z = true) (hy : y.cls ≠ "java/lang/invoke/MethodHandle" ∧ y.cls ≠ "java/lang/invoke/VarHandle") (eT : T.heap = h) {rm : Room} {a : Addr} (E : Exa Z h a C) (argsL rest : List Value) {Qc : Option Value → Heap → List Loc → Prop} (hC : Ct l Z y bytes maxL ret [] rm (.ref a :: argsL).toArray h Qc) {ps : List FieldType} {rt : Option FieldType} (pd : parseMethodDescriptor y.desc = some ⟨ps, rt⟩) (hl : argsL.length = ps.length) (hsize : Ls.size = c.maxLocals) {stk : List Value} (hstk : stk = argsL.reverse ++ .ref a :: rest) (W : Nat) (hW : (rest.map fun v => v.category).sum ≤ W) (hf : rm.frames + 1 ≤ R.frames) (hlo : W + (maxL + 11) + rm.locals ≤ R.locals) (hce : cells + rm.cells ≤ R.cells) (hsl : slots + rm.slots ≤ R.slots) (hd : Dec c.code pc (.invokevirtual index) 3 pc') (k : ∀ T' v L, Stand p l e R s m args below meth c T' (locs ++ L) (cells + rm.cells) (slots + rm.slots) → Qc v T'.heap L → Go p e below En (T'.setTop (mkF m pc' Ls (v.toList ++ rest)))) : Go p e below En (T.setTop (mkF m pc Ls stk)) := by
  obtain ⟨hd, rfl⟩ := hd
  obtain ⟨cq, kq, qa, qb, qc⟩ := isOf hZ eT E
  obtain ⟨v, _, ⟨T', L', k', n'⟩, -, X', ⟨L, hQ, l1, y1, z1⟩, q⟩ := X.virtualBack hx hown (mvT hZ w1) (mvT hZ w2) (notFace_of_selects (args := #[]) (mvT hZ w5)) (mvT hZ w5) (mvT hZ w6) hy (backOf (W := W) hC hZ w4 w3 hf hlo) qa qc (g := mkF m pc Ls stk) rfl hsize (Steps.refl _) (argsL := argsL) (rest := rest) (lenOf pd hl) hstk (by show 2 * 0 + _ ≤ _; omega) hd (fun _ _ => ⟨rfl, eT, hce, hsl⟩)
  dsimp only [Pt.U, Pt.locs, Pt.cells, Pt.slots] at X' l1 y1 z1 q hQ
  subst l1 y1 z1
  exact own_via (fun _ => q.trans) (k T' v L X' hQ)
abbrev QP (r : Value) (h0 : Heap) : Option Value → Heap → List Loc → Prop := fun v h L => v = some r ∧ h = h0 ∧ L = []
theorem go_staticP (X : Stand p l e R s m args below meth c T locs cells slots) (hx : p.tables.exec = Jvm.exec) (hZ : Z.Warmed39 s.vm) {own : String} {index : Nat} {y : MethodName} {bytes : ByteArray} {maxL : Nat} {ret : Option FieldType} (hown : s.vm.findClass own = some m.cls) (w1 : (Jvm.Cond.methodLink own index y).before a0 Z = true) (w2 : (Jvm.Cond.static y).before a0 Z = true) (w3 : (Jvm.Cond.initialized y.cls).before a0 Z = true) (w4 : (Jvm.Cond.code y bytes maxL ret).before a0 Z = true) (hy : y.cls ≠ "java/lang/invoke/MethodHandle" ∧ y.cls ≠ "java/lang/invoke/VarHandle") (eT : T.heap = h) {rm : Room} (argsL rest : List Value) {r : Value} (hC : Ct l Z y bytes maxL ret [] rm argsL.toArray h (QP r h)) {ps : List FieldType} {rt : Option FieldType} (pd : parseMethodDescriptor y.desc = some ⟨ps, rt⟩) (hl : argsL.length = ps.length) (hsize : Ls.size = c.maxLocals) {stk : List Value} (hstk : stk = argsL.reverse ++ rest) (W : Nat) (hW : (rest.map fun v => v.category).sum ≤ W) (hf : rm.frames + 1 ≤ R.frames) (hlo : W + (maxL + 11) + rm.locals ≤ R.locals) (hce : rm.cells = 0) (hsl : rm.slots = 0) (hrc : cells ≤ R.cells) (hrs : slots ≤ R.slots) (hd : Dec c.code pc (.invokestatic index) 3 pc') (k : ∀ T', Stand p l e R s m args below meth c T' locs cells slots → T'.heap = h → Go p e below En (T'.setTop (mkF m pc' Ls (r :: rest)))) : Go p e below En (T.setTop (mkF m pc Ls stk)) :=
  go_static X hx hZ hown w1 w2 w3 w4 hy eT argsL rest hC pd hl hsize hstk W hW hf hlo (by rw [hce]; exact hrc) (by rw [hsl]; exact hrs) hd (fun T' v L X' hQ => by
    obtain ⟨rfl, e', rfl⟩ := hQ
    rw [hce, hsl, List.append_nil, Nat.add_zero, Nat.add_zero] at X'
    exact k T' X' e')
theorem go_virtualP (X : Stand p l e R s m args below meth c T locs cells slots) (hx : p.tables.exec = Jvm.exec) (hZ : Z.Warmed39 s.vm) {own C : String} {index : Nat} {y : MethodName} {bytes : ByteArray} {maxL : Nat} {ret : Option FieldType} (hown : s.vm.findClass own = some m.cls) (w1 : (Jvm.Cond.methodLink own index y).before a0 Z = true) (w2 : (Jvm.Cond.declares y).before a0 Z = true) (w5 : (Jvm.Cond.selects C y y).before a0 Z = true) (w6 : (Jvm.Cond.instanceMethod y).before a0 Z = true) (w3 : (Jvm.Cond.initialized y.cls).before a0 Z = true) (w4 : (Jvm.Cond.code y bytes maxL ret).before a0 Z = true) (hy : y.cls ≠ "java/lang/invoke/MethodHandle" ∧ y.cls ≠ "java/lang/invoke/VarHandle") (eT : T.heap = h) {rm : Room} {a : Addr} (E : Exa Z h a C) (argsL rest : List Value) {r : Value} (hC : Ct l Z y bytes maxL ret [] rm (.ref a :: argsL).toArray h (QP r h)) {ps : List FieldType} {rt : Option FieldType} (pd : parseMethodDescriptor y.desc = some ⟨ps, rt⟩) (hl : argsL.length = ps.length) (hsize : Ls.size = c.maxLocals) {stk : List Value} (hstk : stk = argsL.reverse ++ .ref a :: rest) (W : Nat) (hW : (rest.map fun v => v.category).sum ≤ W) (hf : rm.frames + 1 ≤ R.frames) (hlo : W + (maxL + 11) + rm.locals ≤ R.locals) (hce : rm.cells = 0) (hsl : rm.slots = 0) (hrc : cells ≤ R.cells) (hrs : slots ≤ R.slots) (hd : Dec c.code pc (.invokevirtual index) 3 pc') (k : ∀ T', Stand p l e R s m args below meth c T' locs cells slots → T'.heap = h → Go p e below En (T'.setTop (mkF m pc' Ls (r :: rest)))) : Go p e below En (T.setTop (mkF m pc Ls stk)) :=
  go_virtual X hx hZ hown w1 w2 w5 w6 w3 w4 hy eT E argsL rest hC pd hl hsize hstk W hW hf hlo (by rw [hce]; exact hrc) (by rw [hsl]; exact hrs) hd (fun T' v L X' hQ => by
    obtain ⟨rfl, e', rfl⟩ := hQ
    rw [hce, hsl, List.append_nil, Nat.add_zero, Nat.add_zero] at X'
    exact k T' X' e')
theorem own_lsw {tb : Tables} [Ours tb] {target : State} {g : JFrame} (q : At T m c below) (hx : tb.exec = Jvm.exec) (hg : g.method = m) {dflt : Int} {ps : Array (Int × Int)} {len : Nat} {o : Int} {pc0 : Nat} (hpc : g.pc = pc0) (hd : decode c.code g.pc = .ok (.lookupswitch dflt ps, len)) {i : Int32} {rest : List Value} (hs : g.stack = .int i :: rest)
    (hsort : (ps.toList.zip (ps.toList.drop 1)).all (fun (a, next) => a.1 < next.1) = true) (hoff : lookupswitch.offset ps.toList dflt i.toInt = o) (ho : 0 ≤ (pc0 : Int) + o) (hp : ((pc0 : Int) + o).toNat = pc')
    (hr : Steps tb e below (T.setTop { g with pc := pc', stack := rest }) target) : Steps tb e below (T.setTop g) target := by
  subst hg hpc hp hoff
  jvm_step q [q.top, hx, hd, hs, ho, lookupswitch.wp_chain]
  exact ⟨by simpa using hsort, hr⟩
theorem go_lsw (X : Stand p l e R s m args below meth c T locs cells slots) (hx : p.tables.exec = Jvm.exec) {dflt : Int} {ps : Array (Int × Int)} {len : Nat} {x : Int32} {o : Int} (hd : decode c.code pc = .ok (.lookupswitch dflt ps, len)) (hsort : (ps.toList.zip (ps.toList.drop 1)).all (fun (a, next) => a.1 < next.1) = true) (hoff : lookupswitch.offset ps.toList dflt x.toInt = o) (ho : 0 ≤ (pc : Int) + o) (hp : ((pc : Int) + o).toNat = pt) (k : Go p e below En (T.setTop (mkF m pt Ls st))) : Go p e below En (T.setTop (mkF m pc Ls (.int x :: st))) := own_via (fun t => own_lsw (g := mkF m pc Ls (.int x :: st)) X.here hx rfl rfl hd rfl hsort hoff ho hp) k
theorem go_alen (X : Stand p l e R s m args below meth c T locs cells slots) (hx : p.tables.exec = Jvm.exec) (hZ : Z.Warmed39 s.vm) (eT : T.heap = h) {a : Addr} {cl : Cell} {ty : FieldType} (A : Arr Z h a cl ty) {z : Int32} (S : cl.slots.size = z.toNatClampNeg) (hz : ¬ z < 0) (hd : Dec c.code pc .arraylength 1 pc') (k : Go p e below En (T.setTop (mkF m pc' Ls (.int z :: st)))) : Go p e below En (T.setTop (mkF m pc Ls (.ref a :: st))) := by
  obtain ⟨hd, rfl⟩ := hd
  refine own_via (fun t q => X.arraylength hx (cell := cl) (by rw [eT]; exact A.1) (State.isArrayOf_alike hZ.alike A.2.1) (g := mkF m pc Ls (.ref a :: st)) rfl (rest := st) rfl hd _ ?_) k
  rw [len_of S hz]
  exact q
theorem go_iaload (X : Stand p l e R s m args below meth c T locs cells slots) (hx : p.tables.exec = Jvm.exec) (hZ : Z.Warmed39 s.vm) (eT : T.heap = h) {a : Addr} {cl : Cell} (A : Arr Z h a cl .int) {j : Int32} {w : Int32} (hj : ¬ (j < 0 ∨ cl.slots.size ≤ j.toNatClampNeg)) (hv : cl.slots[j.toNatClampNeg]? = some (.int w)) (hd : Dec c.code pc .iaload 1 pc') (k : Go p e below En (T.setTop (mkF m pc' Ls (.int w :: st)))) : Go p e below En (T.setTop (mkF m pc Ls (.int j :: .ref a :: st))) := by
  obtain ⟨hd, rfl⟩ := hd
  exact own_via (fun t q => X.iaload hx (j := j) (v := (.int w)) (by rw [eT]; exact A.1) (State.isArrayOf_alike hZ.alike A.2.1) A.2.2 hj hv (g := mkF m pc Ls (.int j :: .ref a :: st)) rfl rfl hd _ q) k
theorem go_laload (X : Stand p l e R s m args below meth c T locs cells slots) (hx : p.tables.exec = Jvm.exec) (hZ : Z.Warmed39 s.vm) (eT : T.heap = h) {a : Addr} {cl : Cell} (A : Arr Z h a cl .long) {j : Int32} {w : Int64} (hj : ¬ (j < 0 ∨ cl.slots.size ≤ j.toNatClampNeg)) (hv : cl.slots[j.toNatClampNeg]? = some (.long w)) (hd : Dec c.code pc .laload 1 pc') (k : Go p e below En (T.setTop (mkF m pc' Ls (.long w :: st)))) : Go p e below En (T.setTop (mkF m pc Ls (.int j :: .ref a :: st))) := by
  obtain ⟨hd, rfl⟩ := hd
  exact own_via (fun t q => X.laload hx (j := j) (v := (.long w)) (by rw [eT]; exact A.1) (State.isArrayOf_alike hZ.alike A.2.1) A.2.2 hj hv (g := mkF m pc Ls (.int j :: .ref a :: st)) rfl rfl hd _ q) k
theorem go_iastore (X : Stand p l e R s m args below meth c T locs cells slots) (hx : p.tables.exec = Jvm.exec) (hZ : Z.Warmed39 s.vm) (eT : T.heap = h) {a : Addr} {cl : Cell} (A : Arr Z h a cl .int) {j : Int32} {x : Int32} (hj : ¬ (j < 0 ∨ cl.slots.size ≤ j.toNatClampNeg)) (hd : Dec c.code pc .iastore 1 pc') (k : ∀ T' h', Stand p l e R s m args below meth c T' (locs ++ [⟨a, j.toNatClampNeg⟩]) cells slots → T'.heap = h' → Wr h h' a j.toNatClampNeg (.int x) → Go p e below En (T'.setTop (mkF m pc' Ls st))) : Go p e below En (T.setTop (mkF m pc Ls (.int x :: .int j :: .ref a :: st))) := by
  obtain ⟨hd, rfl⟩ := hd
  obtain ⟨T', h', X', e', W, q⟩ := stI X hx hZ eT A hj (g := mkF m pc Ls (.int x :: .int j :: .ref a :: st)) rfl rfl hd
  exact own_via q (k T' h' X' e' W)
theorem go_lastore (X : Stand p l e R s m args below meth c T locs cells slots) (hx : p.tables.exec = Jvm.exec) (hZ : Z.Warmed39 s.vm) (eT : T.heap = h) {a : Addr} {cl : Cell} (A : Arr Z h a cl .long) {j : Int32} {x : Int64} (hj : ¬ (j < 0 ∨ cl.slots.size ≤ j.toNatClampNeg)) (hd : Dec c.code pc .lastore 1 pc') (k : ∀ T' h', Stand p l e R s m args below meth c T' (locs ++ [⟨a, j.toNatClampNeg⟩]) cells slots → T'.heap = h' → Wr h h' a j.toNatClampNeg (.long x) → Go p e below En (T'.setTop (mkF m pc' Ls st))) : Go p e below En (T.setTop (mkF m pc Ls (.long x :: .int j :: .ref a :: st))) := by
  obtain ⟨hd, rfl⟩ := hd
  obtain ⟨T', h', X', e', W, q⟩ := stJ X hx hZ eT A hj (g := mkF m pc Ls (.long x :: .int j :: .ref a :: st)) rfl rfl hd
  exact own_via q (k T' h' X' e' W)
theorem go_castore (X : Stand p l e R s m args below meth c T locs cells slots) (hx : p.tables.exec = Jvm.exec) (hZ : Z.Warmed39 s.vm) (eT : T.heap = h) {a : Addr} {cl : Cell} (A : Arr Z h a cl .char) {j : Int32} {x : Int32} (hj : ¬ (j < 0 ∨ cl.slots.size ≤ j.toNatClampNeg)) (hd : Dec c.code pc .castore 1 pc') (k : ∀ T' h', Stand p l e R s m args below meth c T' (locs ++ [⟨a, j.toNatClampNeg⟩]) cells slots → T'.heap = h' → Wr h h' a j.toNatClampNeg (.int (nar .char x)) → Go p e below En (T'.setTop (mkF m pc' Ls st))) : Go p e below En (T.setTop (mkF m pc Ls (.int x :: .int j :: .ref a :: st))) := by
  obtain ⟨hd, rfl⟩ := hd
  obtain ⟨T', h', X', e', W, q⟩ := stC X hx hZ eT A hj (g := mkF m pc Ls (.int x :: .int j :: .ref a :: st)) rfl rfl hd
  exact own_via q (k T' h' X' e' W)
theorem go_bastore (X : Stand p l e R s m args below meth c T locs cells slots) (hx : p.tables.exec = Jvm.exec) (hZ : Z.Warmed39 s.vm) (eT : T.heap = h) {a : Addr} {cl : Cell} (A : Arr Z h a cl .byte) {j : Int32} {x : Int32} (hj : ¬ (j < 0 ∨ cl.slots.size ≤ j.toNatClampNeg)) (hd : Dec c.code pc .bastore 1 pc') (k : ∀ T' h', Stand p l e R s m args below meth c T' (locs ++ [⟨a, j.toNatClampNeg⟩]) cells slots → T'.heap = h' → Wr h h' a j.toNatClampNeg (.int (nar .byte x)) → Go p e below En (T'.setTop (mkF m pc' Ls st))) : Go p e below En (T.setTop (mkF m pc Ls (.int x :: .int j :: .ref a :: st))) := by
  obtain ⟨hd, rfl⟩ := hd
  obtain ⟨T', h', X', e', W, q⟩ := stB X hx hZ eT A hj (g := mkF m pc Ls (.int x :: .int j :: .ref a :: st)) rfl rfl hd
  exact own_via q (k T' h' X' e' W)
theorem go_zastore (X : Stand p l e R s m args below meth c T locs cells slots) (hx : p.tables.exec = Jvm.exec) (hZ : Z.Warmed39 s.vm) (eT : T.heap = h) {a : Addr} {cl : Cell} (A : Arr Z h a cl .boolean) {j : Int32} {x : Int32} (hj : ¬ (j < 0 ∨ cl.slots.size ≤ j.toNatClampNeg)) (hd : Dec c.code pc .bastore 1 pc') (k : ∀ T' h', Stand p l e R s m args below meth c T' (locs ++ [⟨a, j.toNatClampNeg⟩]) cells slots → T'.heap = h' → Wr h h' a j.toNatClampNeg (.int (nar .boolean x)) → Go p e below En (T'.setTop (mkF m pc' Ls st))) : Go p e below En (T.setTop (mkF m pc Ls (.int x :: .int j :: .ref a :: st))) := by
  obtain ⟨hd, rfl⟩ := hd
  obtain ⟨T', h', X', e', W, q⟩ := stZ X hx hZ eT A hj (g := mkF m pc Ls (.int x :: .int j :: .ref a :: st)) rfl rfl hd
  exact own_via q (k T' h' X' e' W)
abbrev QV (h0 : Heap) : Option Value → Heap → List Loc → Prop := fun v h L => v = none ∧ h = h0 ∧ L = []
theorem go_specialP (X : Stand p l e R s m args below meth c T locs cells slots) (hx : p.tables.exec = Jvm.exec) (hZ : Z.Warmed39 s.vm) {own : String} {index : Nat} {y : MethodName} (hn : y.name = "<init>") {bytes : ByteArray} {maxL : Nat} (hown : s.vm.findClass own = some m.cls) (w1 : (Jvm.Cond.methodLink own index y).before a0 Z = true) (w2 : (Jvm.Cond.instanceMethod y).before a0 Z = true) (w3 : (Jvm.Cond.initialized y.cls).before a0 Z = true) (w4 : (Jvm.Cond.code y bytes maxL none).before a0 Z = true) (hy : y.cls ≠ "java/lang/invoke/MethodHandle" ∧ y.cls ≠ "java/lang/invoke/VarHandle") (eT : T.heap = h) {rm : Room} {a : Addr} (argsL rest : List Value) (hC : Ct l Z y bytes maxL none [] rm (.ref a :: argsL).toArray h (QV h)) {ps : List FieldType} {rt : Option FieldType} (pd : parseMethodDescriptor y.desc = some ⟨ps, rt⟩) (hl : argsL.length = ps.length) (hsize : Ls.size = c.maxLocals) {stk : List Value} (hstk : stk = argsL.reverse ++ .ref a :: rest) (W : Nat) (hW : (rest.map fun v => v.category).sum ≤ W) (hf : rm.frames + 1 ≤ R.frames) (hlo : W + (maxL + 11) + rm.locals ≤ R.locals) (hce : rm.cells = 0) (hsl : rm.slots = 0) (hrc : cells ≤ R.cells) (hrs : slots ≤ R.slots) (hd : Dec c.code pc (.invokespecial index) 3 pc') (k : ∀ T', Stand p l e R s m args below meth c T' locs cells slots → T'.heap = h → Go p e below En (T'.setTop (mkF m pc' Ls rest))) : Go p e below En (T.setTop (mkF m pc Ls stk)) :=
  go_special X hx hZ hn hown w1 w2 w3 w4 hy eT argsL rest hC pd hl hsize hstk W hW hf hlo (by rw [hce]; exact hrc) (by rw [hsl]; exact hrs) hd (fun T' v L X' hQ => by
    obtain ⟨rfl, e', rfl⟩ := hQ
    rw [hce, hsl, List.append_nil, Nat.add_zero, Nat.add_zero] at X'
    exact k T' X' e')
theorem go_virtualUp (X : Stand p l e R s m args below meth c T locs cells slots) (hx : p.tables.exec = Jvm.exec) (hZ : Z.Warmed39 s.vm) {own C owner : String} {index : Nat} {x y : MethodName} {bytes : ByteArray} {maxL : Nat} {ret : Option FieldType} (hown : s.vm.findClass own = some m.cls) (w1 : (Jvm.Cond.methodLink own index x).before a0 Z = true) (w2 : (Jvm.Cond.sameMethod x.cls owner x.name x.desc).before a0 Z = true) (w7 : (Jvm.Cond.declares ⟨owner, x.name, x.desc⟩).before a0 Z = true) (w5 : (Jvm.Cond.selects C x y).before a0 Z = true) (w6 : (Jvm.Cond.instanceMethod y).before a0 Z = true) (w3 : (Jvm.Cond.initialized y.cls).before a0 Z = true) (w4 : (Jvm.Cond.code y bytes maxL ret).before a0 Z = true) (hy : owner ≠ "java/lang/invoke/MethodHandle" ∧ owner ≠ "java/lang/invoke/VarHandle") (eT : T.heap = h) {rm : Room} {a : Addr} (E : Exa Z h a C) (argsL rest : List Value) {Qc : Option Value → Heap → List Loc → Prop} (hC : Ct l Z y bytes maxL ret [] rm (.ref a :: argsL).toArray h Qc) {ps : List FieldType} {rt : Option FieldType} (pd : parseMethodDescriptor x.desc = some ⟨ps, rt⟩) (hl : argsL.length = ps.length) (hsize : Ls.size = c.maxLocals) {stk : List Value} (hstk : stk = argsL.reverse ++ .ref a :: rest) (W : Nat) (hW : (rest.map fun v => v.category).sum ≤ W) (hf : rm.frames + 1 ≤ R.frames) (hlo : W + (maxL + 11) + rm.locals ≤ R.locals) (hce : cells + rm.cells ≤ R.cells) (hsl : slots + rm.slots ≤ R.slots) (hd : Dec c.code pc (.invokevirtual index) 3 pc') (k : ∀ T' v L, Stand p l e R s m args below meth c T' (locs ++ L) (cells + rm.cells) (slots + rm.slots) → Qc v T'.heap L → Go p e below En (T'.setTop (mkF m pc' Ls (v.toList ++ rest)))) : Go p e below En (T.setTop (mkF m pc Ls stk)) := by
  obtain ⟨hd, rfl⟩ := hd
  obtain ⟨cq, kq, qa, qb, qc⟩ := isOf hZ eT E
  obtain ⟨v, _, ⟨T', L', k', n'⟩, -, X', ⟨L, hQ, l1, y1, z1⟩, q⟩ := X.virtualBackUp hx hown (mvT hZ w1) (mvT hZ w2) (mvT hZ w7) hy (mvT hZ w5) (mvT hZ w6) (backOf (W := W) hC hZ w4 w3 hf hlo) qa qc (g := mkF m pc Ls stk) rfl hsize (Steps.refl _) (argsL := argsL) (rest := rest) (lenOf pd hl) hstk (by show 2 * 0 + _ ≤ _; omega) hd (fun _ _ => ⟨rfl, eT, hce, hsl⟩)
  dsimp only [Pt.U, Pt.locs, Pt.cells, Pt.slots] at X' l1 y1 z1 q hQ
  subst l1 y1 z1
  exact own_via (fun _ => q.trans) (k T' v L X' hQ)
def PutOk (Z : State) (a0 : Array Value) (h : Heap) (a : Addr) (O n d : String) : Prop := ∃ C kk, Exa Z h a C ∧ (Jvm.Cond.lays C O n d).before a0 Z = true ∧ (Jvm.Cond.instantiable C kk).before a0 Z = true
theorem go_putN (X : Stand p l e R s m args below meth c T locs cells slots) (hx : p.tables.exec = Jvm.exec) (hZ : Z.Warmed39 s.vm) {own R0 O n d host : String} {index : Nat} {ty : FieldType} (hown : s.vm.findClass own = some m.cls) (w : (Jvm.Cond.fieldLink own index R0 n d).before a0 Z = true ∨ (Jvm.Cond.fieldLinkNest own index R0 n d host).before a0 Z = true) (via : Via Z R0 O n d) (eT : T.heap = h) {a : Addr} {v old : Value} (F : Fld Z h a O n d old) (P : PutOk Z a0 h a O n d) (hty : parseFieldDescriptor d = some ty) (hn : narrow ty v = v) (hf : fits ty v = true) (hd : Dec c.code pc (.putfield index) 3 pc') (k : ∀ T' h', Stand p l e R s m args below meth c T' (locs ++ [⟨a, Jvm.RoadKit.slotOf Z O n d⟩]) cells slots → T'.heap = h' → Wr h h' a (Jvm.RoadKit.slotOf Z O n d) v → Go p e below En (T'.setTop (mkF m pc' Ls st))) : Go p e below En (T.setTop (mkF m pc Ls (v :: .ref a :: st))) := by
  obtain ⟨C, kk, E, L, wi⟩ := P
  exact go_putF X hx hZ hown w via eT F E (Or.inl L) wi hty hn hf hd k
theorem own_staK {C n d : String} {v : Value} {h' : Heap} (F : Sta Z h C n d v) (K : Keep h h' []) : Sta Z h' C n d v := by
  obtain ⟨cf, i, k, f, st, cell, h1, h2, h3, h4, h5, r⟩ := F
  exact ⟨cf, i, k, f, st, cell, h1, h2, h3, h4, K.2.1 _ _ h5 (by simp), r⟩
theorem own_ldcW (X : Stand p l e R s m args below meth c T locs cells slots) (hexec : p.tables.exec = Jvm.exec) {own : String} {index : Nat} {v : Int32} (hown : s.vm.findClass own = some m.cls) (hconst : (Jvm.Cond.constant own index v).before args s = true) {g : JFrame} (hg : g.method = m) (hdg : decode c.code g.pc = .ok (.ldc_w index, 3)) :
    ∀ target, Steps p.tables e below (T.setTop { g with pc := g.pc + 3, stack := .int v :: g.stack }) target → Steps p.tables e below (T.setTop g) target := by
  obtain ⟨k, cf, bytes, hk, hcf, hcp, hb⟩ := Cond.constant_spec hown hconst
  obtain ⟨k', hk', he⟩ := X.warmed.alike.2.2 _ _ hk
  intro target hrest
  subst hg
  jvm_step X.here [hexec, hdg, ldc_w.wp_int (s := T) (f := g) X.here.top hk' (by rw [he]; exact hcf) hcp, hb]
  exact hrest
theorem go_ldcw (X : Stand p l e R s m args below meth c T locs cells slots) (hx : p.tables.exec = Jvm.exec) (hZ : Z.Warmed39 s.vm) {own : String} {index : Nat} {v : Int32} (hown : s.vm.findClass own = some m.cls) (w : (Jvm.Cond.constant own index v).before a0 Z = true) (hd : Dec c.code pc (.ldc_w index) 3 pc') (k : Go p e below En (T.setTop (mkF m pc' Ls (.int v :: st)))) : Go p e below En (T.setTop (mkF m pc Ls st)) := by
  obtain ⟨hd, rfl⟩ := hd
  exact own_via (fun t => own_ldcW X hx hown (mv hZ w) (g := mkF m pc Ls st) rfl hd t) k
theorem go_baload (X : Stand p l e R s m args below meth c T locs cells slots) (hx : p.tables.exec = Jvm.exec) (hZ : Z.Warmed39 s.vm) (eT : T.heap = h) {a : Addr} {cl : Cell} (A : Arr Z h a cl .byte) {j w : Int32} (hj : ¬ (j < 0 ∨ cl.slots.size ≤ j.toNatClampNeg)) (hv : cl.slots[j.toNatClampNeg]? = some (.int w)) (hd : Dec c.code pc .baload 1 pc') (k : Go p e below En (T.setTop (mkF m pc' Ls (.int w :: st)))) : Go p e below En (T.setTop (mkF m pc Ls (.int j :: .ref a :: st))) := by
  obtain ⟨hd, rfl⟩ := hd
  exact own_via (fun t q => X.baloadBytes hx (j := j) (v := (.int w)) (by rw [eT]; exact A.1) (State.isArrayOf_alike hZ.alike A.2.1) A.2.2 hj hv (g := mkF m pc Ls (.int j :: .ref a :: st)) rfl rfl hd _ q) k
theorem own_rep {n : Nat} {d : Value} : ∀ i, (List.replicate n d).getD i d = ([] : List Value).getD i d := fun i => by
  simp only [List.getD_eq_getElem?_getD, List.getElem?_replicate, List.getElem?_nil, Option.getD_none]
  split <;> rfl
theorem go_iastoreV (X : Stand p l e R s m args below meth c T locs cells slots) (hx : p.tables.exec = Jvm.exec) (hZ : Z.Warmed39 s.vm) (eT : T.heap = h) {a : Addr} {kc : ClassId} {z : Int32} {vs : List Value} {d : Value} (F : Arv Z h a kc .int z vs d) {j : Int32} {x : Int32} (q : ¬ j < 0 ∧ j < z) (i : Nat) (hj : j.toNatClampNeg = i) (hl : i < vs.length) (hd : Dec c.code pc .iastore 1 pc') (k : ∀ T' h', Stand p l e R s m args below meth c T' (locs ++ [⟨a, j.toNatClampNeg⟩]) cells slots → T'.heap = h' → Wr h h' a j.toNatClampNeg (.int x) → Arv Z h' a kc .int z (vs.set i (.int x)) d → Go p e below En (T'.setTop (mkF m pc' Ls st))) : Go p e below En (T.setTop (mkF m pc Ls (.int x :: .int j :: .ref a :: st))) := by
  obtain ⟨c1, A, q1, S, q3, H, G⟩ := F
  exact go_iastore X hx hZ eT A (inb_of S q) hd (fun T' h' X' e' W => k T' h' X' e' W (Arv.set A q1 S q3 H G rfl W i hj hl))
theorem go_lastoreV (X : Stand p l e R s m args below meth c T locs cells slots) (hx : p.tables.exec = Jvm.exec) (hZ : Z.Warmed39 s.vm) (eT : T.heap = h) {a : Addr} {kc : ClassId} {z : Int32} {vs : List Value} {d : Value} (F : Arv Z h a kc .long z vs d) {j : Int32} {x : Int64} (q : ¬ j < 0 ∧ j < z) (i : Nat) (hj : j.toNatClampNeg = i) (hl : i < vs.length) (hd : Dec c.code pc .lastore 1 pc') (k : ∀ T' h', Stand p l e R s m args below meth c T' (locs ++ [⟨a, j.toNatClampNeg⟩]) cells slots → T'.heap = h' → Wr h h' a j.toNatClampNeg (.long x) → Arv Z h' a kc .long z (vs.set i (.long x)) d → Go p e below En (T'.setTop (mkF m pc' Ls st))) : Go p e below En (T.setTop (mkF m pc Ls (.long x :: .int j :: .ref a :: st))) := by
  obtain ⟨c1, A, q1, S, q3, H, G⟩ := F
  exact go_lastore X hx hZ eT A (inb_of S q) hd (fun T' h' X' e' W => k T' h' X' e' W (Arv.set A q1 S q3 H G rfl W i hj hl))
theorem go_bastoreV (X : Stand p l e R s m args below meth c T locs cells slots) (hx : p.tables.exec = Jvm.exec) (hZ : Z.Warmed39 s.vm) (eT : T.heap = h) {a : Addr} {kc : ClassId} {z : Int32} {vs : List Value} {d : Value} (F : Arv Z h a kc .byte z vs d) {j : Int32} {x : Int32} (q : ¬ j < 0 ∧ j < z) (i : Nat) (hj : j.toNatClampNeg = i) (hl : i < vs.length) (hd : Dec c.code pc .bastore 1 pc') (k : ∀ T' h', Stand p l e R s m args below meth c T' (locs ++ [⟨a, j.toNatClampNeg⟩]) cells slots → T'.heap = h' → Wr h h' a j.toNatClampNeg (.int (nar .byte x)) → Arv Z h' a kc .byte z (vs.set i (.int (nar .byte x))) d → Go p e below En (T'.setTop (mkF m pc' Ls st))) : Go p e below En (T.setTop (mkF m pc Ls (.int x :: .int j :: .ref a :: st))) := by
  obtain ⟨c1, A, q1, S, q3, H, G⟩ := F
  exact go_bastore X hx hZ eT A (inb_of S q) hd (fun T' h' X' e' W => k T' h' X' e' W (Arv.set A q1 S q3 H G (fits_nar_byte _) W i hj hl))
theorem go_castoreV (X : Stand p l e R s m args below meth c T locs cells slots) (hx : p.tables.exec = Jvm.exec) (hZ : Z.Warmed39 s.vm) (eT : T.heap = h) {a : Addr} {kc : ClassId} {z : Int32} {vs : List Value} {d : Value} (F : Arv Z h a kc .char z vs d) {j : Int32} {x : Int32} (q : ¬ j < 0 ∧ j < z) (i : Nat) (hj : j.toNatClampNeg = i) (hl : i < vs.length) (hd : Dec c.code pc .castore 1 pc') (k : ∀ T' h', Stand p l e R s m args below meth c T' (locs ++ [⟨a, j.toNatClampNeg⟩]) cells slots → T'.heap = h' → Wr h h' a j.toNatClampNeg (.int (nar .char x)) → Arv Z h' a kc .char z (vs.set i (.int (nar .char x))) d → Go p e below En (T'.setTop (mkF m pc' Ls st))) : Go p e below En (T.setTop (mkF m pc Ls (.int x :: .int j :: .ref a :: st))) := by
  obtain ⟨c1, A, q1, S, q3, H, G⟩ := F
  exact go_castore X hx hZ eT A (inb_of S q) hd (fun T' h' X' e' W => k T' h' X' e' W (Arv.set A q1 S q3 H G (fits_nar_char _) W i hj hl))
theorem go_aastoreV (X : Stand p l e R s m args below meth c T locs cells slots) (hx : p.tables.exec = Jvm.exec) (hZ : Z.Warmed39 s.vm) (eT : T.heap = h) {a y : Addr} {C : String} {kc : ClassId} {z : Int32} {vs : List Value} {d : Value} (F : Arv Z h a kc (.object C) z vs d) (O : Ovr Z kc C) (I : Ins Z h y C true) {j : Int32} (q : ¬ j < 0 ∧ j < z) (i : Nat) (hj : j.toNatClampNeg = i) (hl : i < vs.length) (hd : Dec c.code pc .aastore 1 pc') (k : ∀ T' h', Stand p l e R s m args below meth c T' (locs ++ [⟨a, j.toNatClampNeg⟩]) cells slots → T'.heap = h' → Wr h h' a j.toNatClampNeg (.ref y) → Arv Z h' a kc (.object C) z (vs.set i (.ref y)) d → Go p e below En (T'.setTop (mkF m pc' Ls st))) : Go p e below En (T.setTop (mkF m pc Ls (.ref y :: .int j :: .ref a :: st))) := by
  obtain ⟨hd, rfl⟩ := hd
  obtain ⟨c1, A, q1, S, q3, H, G⟩ := F
  obtain ⟨T', h', X', e', W, r⟩ := stR X hx hZ eT A (inb_of S q) rfl (Sto.of A (by rw [q1]; exact O) I) (g := mkF m pc Ls (.ref y :: .int j :: .ref a :: st)) rfl rfl hd
  exact own_via r (k T' h' X' e' W (Arv.set A q1 S q3 H G rfl W i hj hl))
theorem go_newR (X : Stand p l e R s m args below meth c T locs cells slots) (hx : p.tables.exec = Jvm.exec) (hZ : Z.Warmed39 s.vm) {own C : String} {index : Nat} (hown : s.vm.findClass own = some m.cls) (w1 : (Jvm.Cond.classLink own index C).before a0 Z = true) (w2 : (Jvm.Cond.arrayOver (.object C)).before a0 Z = true) (eT : T.heap = h) (hd : Dec c.code pc (.anewarray index) 3 pc') {n : Int32} (hn : ¬ n < 0) (cap : Nat) (hcap : n.toNatClampNeg ≤ cap) (hb : cap * 8 ≤ 536870912) (hc : cells + 1 ≤ R.cells) (hl : slots + cap ≤ R.slots) (k : ∀ T' h' cA (a : Addr), a = h.size → Stand p l e R s m args below meth c T' locs (cells + 1) (slots + cap) → T'.heap = h' → Ext h h' → Arr Z h' a (newA cA (.object C) n) (.object C) → Ovr Z cA C → Go p e below En (T'.setTop (mkF m pc' Ls (.ref a :: st)))) : Go p e below En (T.setTop (mkF m pc Ls (.int n :: st))) := by
  obtain ⟨hd, rfl⟩ := hd
  obtain ⟨T', h', cA, X', e', E, A, O, q⟩ := newR X hx hZ hown w1 w2 eT (g := mkF m pc Ls (.int n :: st)) rfl hd rfl hn hcap hb hc hl
  exact own_via q (k T' h' cA _ rfl X' e' E A O)
theorem go_ialoadV (X : Stand p l e R s m args below meth c T locs cells slots) (hx : p.tables.exec = Jvm.exec) (hZ : Z.Warmed39 s.vm) (eT : T.heap = h) {a : Addr} {kc : ClassId} {z : Int32} {vs : List Value} {d : Value} (F : Arv Z h a kc .int z vs d) {j : Int32} {w : Int32} (q : ¬ j < 0 ∧ j < z) (hv : vs.getD j.toNatClampNeg d = .int w) (hd : Dec c.code pc .iaload 1 pc') (k : Go p e below En (T.setTop (mkF m pc' Ls (.int w :: st)))) : Go p e below En (T.setTop (mkF m pc Ls (.int j :: .ref a :: st))) := by
  obtain ⟨c1, A, q1, S, q3, H, G⟩ := F
  have hin := inb_of S q
  exact go_iaload X hx hZ eT A hin (by rw [H _ (Nat.lt_of_not_le fun r => hin (Or.inr r)), hv]) hd k
theorem go_laloadV (X : Stand p l e R s m args below meth c T locs cells slots) (hx : p.tables.exec = Jvm.exec) (hZ : Z.Warmed39 s.vm) (eT : T.heap = h) {a : Addr} {kc : ClassId} {z : Int32} {vs : List Value} {d : Value} (F : Arv Z h a kc .long z vs d) {j : Int32} {w : Int64} (q : ¬ j < 0 ∧ j < z) (hv : vs.getD j.toNatClampNeg d = .long w) (hd : Dec c.code pc .laload 1 pc') (k : Go p e below En (T.setTop (mkF m pc' Ls (.long w :: st)))) : Go p e below En (T.setTop (mkF m pc Ls (.int j :: .ref a :: st))) := by
  obtain ⟨c1, A, q1, S, q3, H, G⟩ := F
  have hin := inb_of S q
  exact go_laload X hx hZ eT A hin (by rw [H _ (Nat.lt_of_not_le fun r => hin (Or.inr r)), hv]) hd k
theorem go_baloadV (X : Stand p l e R s m args below meth c T locs cells slots) (hx : p.tables.exec = Jvm.exec) (hZ : Z.Warmed39 s.vm) (eT : T.heap = h) {a : Addr} {kc : ClassId} {z : Int32} {vs : List Value} {d : Value} (F : Arv Z h a kc .byte z vs d) {j : Int32} {w : Int32} (q : ¬ j < 0 ∧ j < z) (hv : vs.getD j.toNatClampNeg d = .int w) (hd : Dec c.code pc .baload 1 pc') (k : Go p e below En (T.setTop (mkF m pc' Ls (.int w :: st)))) : Go p e below En (T.setTop (mkF m pc Ls (.int j :: .ref a :: st))) := by
  obtain ⟨c1, A, q1, S, q3, H, G⟩ := F
  have hin := inb_of S q
  exact go_baload X hx hZ eT A hin (by rw [H _ (Nat.lt_of_not_le fun r => hin (Or.inr r)), hv]) hd k
theorem go_aaloadV (X : Stand p l e R s m args below meth c T locs cells slots) (hx : p.tables.exec = Jvm.exec) (hZ : Z.Warmed39 s.vm) (eT : T.heap = h) {a : Addr} {kc : ClassId} {ty : FieldType} (hty : ty.isReference = true) {z : Int32} {vs : List Value} {d : Value} (F : Arv Z h a kc ty z vs d) {j : Int32} {v : Value} (q : ¬ j < 0 ∧ j < z) (hv : vs.getD j.toNatClampNeg d = v) (hd : Dec c.code pc .aaload 1 pc') (k : Go p e below En (T.setTop (mkF m pc' Ls (v :: st)))) : Go p e below En (T.setTop (mkF m pc Ls (.int j :: .ref a :: st))) := by
  obtain ⟨hd, rfl⟩ := hd
  obtain ⟨c1, A, q1, S, q3, H, G⟩ := F
  have hin := inb_of S q
  exact own_via (fun t r => X.aaload hx (j := j) (v := v) (by rw [eT]; exact A.1) (State.isArrayOf_alike hZ.alike A.2.1) hty A.2.2 hin (by rw [H _ (Nat.lt_of_not_le fun r => hin (Or.inr r)), hv]) (g := mkF m pc Ls (.int j :: .ref a :: st)) rfl rfl hd _ r) k
end OwnGo
def own_byte (B : Nat → Int32) (j : Nat) : Int32 := if j < 6 then B j &&& 255 else 0
theorem own_toInt {n : Nat} (h : n < 2 ^ 31) : (Int32.ofNat n).toInt = n := Int32.toInt_ofNat_small h
theorem own_clamp {n : Nat} (h : n < 2 ^ 31) : (Int32.ofNat n).toNatClampNeg = n := by
  show (Int32.ofNat n).toInt.toNat = n
  rw [own_toInt h]; rfl
theorem own_addN (n k : Nat) : Int32.ofNat n + Int32.ofNat k = Int32.ofNat (n + k) := by rw [Int32.ofNat_add]
theorem own_lt6 {n : Nat} (h : n < 100) : Int32.ofNat n < (6 : Int32) ↔ n < 6 := by
  rw [Int32.lt_iff_toInt_lt, own_toInt (by omega), show (6 : Int32).toInt = 6 from rfl]; omega
theorem own_inB {c : Cell} (s : c.slots.size = 6) {q : Nat} (hq : q < 6) : ¬ (Int32.ofNat q < 0 ∨ c.slots.size ≤ (Int32.ofNat q).toNatClampNeg) := by
  rw [own_clamp (by omega), s, Int32.lt_iff_toInt_lt, own_toInt (by omega), show (0 : Int32).toInt = 0 from rfl]; omega
theorem own_first (x : Int32) : ∃ f : Nat, f ≤ 48 ∧ (x &&& 2147483647) % 49 = Int32.ofNat f := by
  have h1 := c_mask x 2147483647 31 (by decide) (by decide)
  have h2 := (c_iremV (x &&& 2147483647) 49).1 (by rw [h1]; omega) (by decide)
  have h3 : (49 : Int32).toInt = 49 := rfl
  refine ⟨((x &&& 2147483647) % 49).toInt.toNat, by omega, ?_⟩
  rw [← Int32.toInt_inj, own_toInt (by omega)]; omega
theorem own_count (x : Int32) : ∃ k : Nat, 1 ≤ k ∧ k ≤ 16 ∧ (x &&& 2147483647) % 16 + 1 = Int32.ofNat k := by
  have h1 := c_mask x 2147483647 31 (by decide) (by decide)
  have h2 := (c_iremV (x &&& 2147483647) 16).1 (by rw [h1]; omega) (by decide)
  have h3 : (16 : Int32).toInt = 16 := rfl
  have h4 := c_iadd ((x &&& 2147483647) % 16) 1
  have h5 : (1 : Int32).toInt = 1 := rfl
  have h6 := rng32 ((x &&& 2147483647) % 16 + 1)
  refine ⟨((x &&& 2147483647) % 16 + 1).toInt.toNat, by omega, by omega, ?_⟩
  rw [← Int32.toInt_inj, own_toInt (by omega)]; omega
theorem own_i2l : ∀ f : Fin 49, (Int32.ofNat f.val).toInt64 = Int64.ofNat f.val := by decide +kernel
theorem own_at : ∀ f : Fin 49, (Int64.ofNat f.val / (8 : Int64)).toInt32 = Int32.ofNat (f.val / 8) := by decide +kernel
/-- the shift of the callee's last step, and the masks -/
theorem own_sh1 : ∀ f : Fin 49, ∀ k : Fin 17, 1 ≤ k.val → (24 : Int32) - ((Int64.ofNat f.val) - (Int64.ofNat f.val / 8) * 8).toInt32 - Int32.ofNat k.val = Int32.ofNat (24 - f.val % 8 - k.val) := by decide +kernel
theorem own_sh2 : ∀ f : Fin 49, ∀ k : Fin 17, 1 ≤ k.val → (64 : Int32) - (Int64.ofNat f.val).toInt32 - Int32.ofNat k.val = Int32.ofNat (64 - f.val - k.val) := by decide +kernel
theorem own_m1 : ∀ k : Fin 17, (((1 : Int32) <<< (Int32.ofNat k.val &&& 31)) - 1).toBitVec.toNat = 2 ^ k.val - 1 := by decide +kernel
theorem own_m2 : ∀ k : Fin 17, (((1 : Int64) <<< ((Int32.ofNat k.val).toInt64 &&& 63)) - 1).toBitVec.toNat = 2 ^ k.val - 1 := by decide +kernel
theorem own_s1 : ∀ t : Fin 24, ((Int32.ofNat t.val) &&& 31).toUInt32.toNat = t.val := by decide +kernel
theorem own_s2 : ∀ t : Fin 64, ((Int32.ofNat t.val).toInt64.toUInt64 &&& Int64.toUInt64 63).toNat = t.val := by decide +kernel
theorem own_ushr (x : Int32) {t : Nat} (ht : t < 24) : (XT.ushr x (Int32.ofNat t)).toBitVec.toNat = x.toBitVec.toNat / 2 ^ t := by
  have e : (XT.ushr x (Int32.ofNat t)).toBitVec.toNat = x.toBitVec.toNat >>> (((Int32.ofNat t) &&& 31).toUInt32.toNat % 32) := rfl
  rw [e, own_s1 ⟨t, ht⟩, Nat.mod_eq_of_lt (show t < 32 by omega), Nat.shiftRight_eq_div_pow]
theorem own_ushrL (x : Int64) {t : Nat} (ht : t < 64) : (XT.ushrL x (Int32.ofNat t)).toBitVec.toNat = x.toBitVec.toNat / 2 ^ t := by
  have e : (XT.ushrL x (Int32.ofNat t)).toBitVec.toNat = x.toBitVec.toNat >>> (((Int32.ofNat t).toInt64.toUInt64 &&& Int64.toUInt64 63).toNat % 64) := rfl
  rw [e, own_s2 ⟨t, ht⟩, Nat.mod_eq_of_lt ht, Nat.shiftRight_eq_div_pow]
theorem own_and (x m : Int32) {k : Nat} (hm : m.toBitVec.toNat = 2 ^ k - 1) : (x &&& m).toBitVec.toNat = x.toBitVec.toNat % 2 ^ k := by
  have e : (x &&& m).toBitVec.toNat = x.toBitVec.toNat &&& m.toBitVec.toNat := by
    rw [Int32.toBitVec_and, BitVec.toNat_and]
  rw [e, hm, Nat.and_two_pow_sub_one_eq_mod]
theorem own_andL (x m : Int64) {k : Nat} (hm : m.toBitVec.toNat = 2 ^ k - 1) : (x &&& m).toBitVec.toNat = x.toBitVec.toNat % 2 ^ k := by
  have e : (x &&& m).toBitVec.toNat = x.toBitVec.toNat &&& m.toBitVec.toNat := by
    rw [Int64.toBitVec_and, BitVec.toNat_and]
  rw [e, hm, Nat.and_two_pow_sub_one_eq_mod]
/-- a byte of the word -/
theorem own_bt (x : Int64) {t : Nat} (ht : t < 64) : ((nar .byte ((XT.ushrL x (Int32.ofNat t)).toInt32.toInt8.toInt32)) &&& 255).toBitVec.toNat = x.toBitVec.toNat / 2 ^ t % 256 := by
  rw [own_and _ 255 (k := 8) (by decide)]
  have e : ∀ z : Int64, (nar .byte (z.toInt32.toInt8.toInt32)).toBitVec.toNat % 2 ^ 8 = z.toBitVec.toNat % 256 := by
    intro z
    have e1 : (nar .byte (z.toInt32.toInt8.toInt32)) = z.toInt32.toInt8.toInt32.toInt8.toInt32 := rfl
    rw [e1]
    have e2 : ∀ y : Int8, y.toInt32.toBitVec.toNat % 2 ^ 8 = y.toBitVec.toNat := by
      intro y
      have : ∀ b : BitVec 8, (b.signExtend 32).toNat % 2 ^ 8 = b.toNat := by decide +kernel
      exact this y.toBitVec
    rw [e2]
    have e3 : ∀ y : Int32, y.toInt8.toBitVec.toNat = y.toBitVec.toNat % 2 ^ 8 := by
      intro y
      show (y.toBitVec.signExtend 8).toNat = _
      rw [BitVec.signExtend_eq_setWidth_of_le _ (by decide), BitVec.toNat_setWidth]
    rw [e3, e2, e3]
    have e4 : z.toInt32.toBitVec.toNat = z.toBitVec.toNat % 2 ^ 32 := by
      show (z.toBitVec.signExtend 32).toNat = _
      rw [BitVec.signExtend_eq_setWidth_of_le _ (by decide), BitVec.toNat_setWidth]
    rw [e4]
    omega
  rw [e, own_ushrL x ht]
/-- joining bytes -/
theorem own_join {v b : Int32} (hv : v.toBitVec.toNat < 65536) (hb : b.toBitVec.toNat < 256) : ((v <<< ((8 : Int32) &&& 31)) ||| b).toBitVec.toNat = v.toBitVec.toNat * 256 + b.toBitVec.toNat := by
  have e1 : (v <<< ((8 : Int32) &&& 31)).toBitVec = v.toBitVec <<< 8 := rfl
  rw [Int32.toBitVec_or, e1, BitVec.toNat_or, BitVec.toNat_shiftLeft]
  rw [Nat.shiftLeft_eq]
  have e2 : v.toBitVec.toNat * 2 ^ 8 % 2 ^ 32 = v.toBitVec.toNat * 2 ^ 8 := Nat.mod_eq_of_lt (by omega)
  rw [e2, Nat.mul_comm, ← Nat.two_pow_add_eq_or_of_lt (i := 8) (by omega)]
theorem own_kept (x : Int64) : (x &&& (-65536 : Int64)).toBitVec.toNat = x.toBitVec.toNat / 65536 * 65536 := by
  have e : (x &&& (-65536 : Int64)).toBitVec.toNat = x.toBitVec.toNat &&& 18446744073709486080 := by
    rw [Int64.toBitVec_and, BitVec.toNat_and]; rfl
  have hx := x.toBitVec.isLt
  rw [e]
  generalize x.toBitVec.toNat = N at *
  have e1 : N / 65536 * 65536 = (N >>> 16) <<< 16 := by rw [Nat.shiftRight_eq_div_pow, Nat.shiftLeft_eq]
  have e2 : 18446744073709486080 = (2 ^ 48 - 1) <<< 16 := by decide
  rw [e1, e2]
  apply Nat.eq_of_testBit_eq
  intro i
  rw [Nat.testBit_and, Nat.testBit_shiftLeft, Nat.testBit_shiftLeft, Nat.testBit_shiftRight, Nat.testBit_two_pow_sub_one]
  by_cases q : i ≥ 16
  · have q2 : 16 + (i - 16) = i := by omega
    rw [q2]
    by_cases r : i - 16 < 48
    · simp [q, r]
    · have : N.testBit i = false := Nat.testBit_lt_two_pow (Nat.lt_of_lt_of_le hx (Nat.pow_le_pow_right (by decide) (by omega)))
      simp [this]
  · simp [q]
theorem own_cut (X t k : Nat) (h : t + k ≤ 24) : X / 2 ^ t % 2 ^ k = X % 2 ^ 24 / 2 ^ t % 2 ^ k := by
  have e : 2 ^ 24 = 2 ^ t * 2 ^ (24 - t) := by rw [← Nat.pow_add]; congr 1; omega
  rw [e, Nat.mod_mul_right_div_self, Nat.mod_mod_of_dvd _ (Nat.pow_dvd_pow 2 (by omega))]
theorem own_zero (M t k : Nat) (h : t + k ≤ 16) : M * 65536 / 2 ^ t % 2 ^ k = 0 := by
  have e : 65536 = 2 ^ t * (2 ^ k * 2 ^ (16 - t - k)) := by
    rw [← Nat.pow_add, ← Nat.pow_add]
    have : t + (k + (16 - t - k)) = 16 := by omega
    rw [this]
  rw [e, show M * (2 ^ t * (2 ^ k * 2 ^ (16 - t - k))) = 2 ^ t * (2 ^ k * (M * 2 ^ (16 - t - k))) by simp only [Nat.mul_left_comm], Nat.mul_div_cancel_left _ (Nat.two_pow_pos t), Nat.mul_mod_right]
abbrev own_B (x : Int64) (j : Nat) : Int32 := nar .byte ((XT.ushrL x (Int32.ofNat (56 - 8 * j))).toInt32.toInt8.toInt32)
theorem own_byteN (x : Int64) (j : Nat) : (own_byte (own_B x) j).toBitVec.toNat = if j < 6 then x.toBitVec.toNat / 2 ^ (56 - 8 * j) % 256 else 0 := by
  unfold own_byte
  by_cases q : j < 6
  · simp only [q, if_true]; exact own_bt x (by omega)
  · simp only [q, if_false]; rfl
def own_w (x : Int64) (q : Nat) : Int32 := ((((((0 : Int32) <<< ((8 : Int32) &&& 31)) ||| own_byte (own_B x) q) <<< ((8 : Int32) &&& 31)) ||| own_byte (own_B x) (q + 1)) <<< ((8 : Int32) &&& 31)) ||| own_byte (own_B x) (q + 2)
theorem own_wN (x : Int64) (q : Nat) (hq : q ≤ 6) : (own_w x q).toBitVec.toNat = (own_byte (own_B x) q).toBitVec.toNat * 65536 + (own_byte (own_B x) (q + 1)).toBitVec.toNat * 256 + (own_byte (own_B x) (q + 2)).toBitVec.toNat ∧ (own_w x q).toBitVec.toNat < 2 ^ 24 := by
  have b0 : (own_byte (own_B x) q).toBitVec.toNat < 256 := by rw [own_byteN]; split <;> omega
  have b1 : (own_byte (own_B x) (q + 1)).toBitVec.toNat < 256 := by rw [own_byteN]; split <;> omega
  have b2 : (own_byte (own_B x) (q + 2)).toBitVec.toNat < 256 := by rw [own_byteN]; split <;> omega
  have z : (0 : Int32).toBitVec.toNat = 0 := rfl
  have j0 := own_join (v := 0) (b := own_byte (own_B x) q) (by rw [z]; decide) b0
  have j1 := own_join (v := ((0 : Int32) <<< ((8 : Int32) &&& 31)) ||| own_byte (own_B x) q) (b := own_byte (own_B x) (q + 1)) (by rw [j0, z]; omega) b1
  unfold own_w
  have e2 : ∀ v b : Int32, v.toBitVec.toNat < 65536 → b.toBitVec.toNat < 256 → ((v <<< ((8 : Int32) &&& 31)) ||| b).toBitVec.toNat = v.toBitVec.toNat * 256 + b.toBitVec.toNat := fun v b h1 h2 => own_join h1 h2
  rw [e2 _ _ (by rw [j1, j0, z]; omega) b2, j1, j0, z]
  omega
theorem own_win (N q : Nat) (hq : q ≤ 5) : (if q < 6 then N / 2 ^ (56 - 8 * q) % 256 else 0) * 65536 + (if q + 1 < 6 then N / 2 ^ (56 - 8 * (q + 1)) % 256 else 0) * 256 + (if q + 2 < 6 then N / 2 ^ (56 - 8 * (q + 2)) % 256 else 0) = N / 65536 * 65536 / 2 ^ (40 - 8 * q) % 2 ^ 24 := by
  have : q = 0 ∨ q = 1 ∨ q = 2 ∨ q = 3 ∨ q = 4 ∨ q = 5 := by omega
  rcases this with rfl | rfl | rfl | rfl | rfl | rfl <;> simp <;> omega
/-- THE LAW, plain -/
theorem own_main (x : Int64) {f k : Nat} (hf : f ≤ 48) (h1 : 1 ≤ k) (hk : k ≤ 16) :
    (XT.ushr (own_w x (f / 8)) ((24 : Int32) - ((Int64.ofNat f) - (Int64.ofNat f / 8) * 8).toInt32 - Int32.ofNat k)) &&& (((1 : Int32) <<< (Int32.ofNat k &&& 31)) - 1) =
      ((XT.ushrL (x &&& (-65536 : Int64)) ((64 : Int32) - (Int64.ofNat f).toInt32 - Int32.ofNat k)) &&& (((1 : Int64) <<< ((Int32.ofNat k).toInt64 &&& 63)) - 1)).toInt32 := by
  rw [own_sh1 ⟨f, by omega⟩ ⟨k, by omega⟩ h1, own_sh2 ⟨f, by omega⟩ ⟨k, by omega⟩ h1]
  apply Int32.toBitVec_inj.mp
  apply BitVec.eq_of_toNat_eq
  have l1 : 24 - f % 8 - k < 24 := by omega
  have l2 : 64 - f - k < 64 := by omega
  rw [own_and _ _ (own_m1 ⟨k, by omega⟩), own_ushr _ l1]
  have e4 : ∀ z : Int64, z.toInt32.toBitVec.toNat = z.toBitVec.toNat % 2 ^ 32 := by
    intro z
    show (z.toBitVec.signExtend 32).toNat = _
    rw [BitVec.signExtend_eq_setWidth_of_le _ (by decide), BitVec.toNat_setWidth]
  rw [e4, own_andL _ _ (own_m2 ⟨k, by omega⟩), own_ushrL _ l2, own_kept]
  obtain ⟨w1, w2⟩ := own_wN x (f / 8) (by omega)
  simp only
  generalize hN : x.toBitVec.toNat = N at *
  have hm : ∀ Y, Y % 2 ^ k % 2 ^ 32 = Y % 2 ^ k := fun Y => Nat.mod_eq_of_lt (Nat.lt_of_lt_of_le (Nat.mod_lt _ (Nat.two_pow_pos k)) (Nat.pow_le_pow_right (by decide) (by omega)))
  rw [hm]
  by_cases q : f / 8 ≤ 5
  · have hs : 64 - f - k = (40 - 8 * (f / 8)) + (24 - f % 8 - k) := by omega
    rw [hs, Nat.pow_add, ← Nat.div_div_eq_div_mul, own_cut (N / 65536 * 65536 / 2 ^ (40 - 8 * (f / 8))) _ _ (by omega), ← own_win N (f / 8) q]
    rw [w1, own_byteN, own_byteN, own_byteN, hN]
  · have hq : f / 8 = 6 := by omega
    have hf8 : f = 48 := by omega
    rw [own_zero _ _ _ (by omega)]
    have : (own_w x (f / 8)).toBitVec.toNat = 0 := by
      rw [w1, own_byteN, own_byteN, own_byteN, hq]; simp
    rw [this]; simp

theorem d1_0 : Dec prog_115_method_14_code 0 (.lload_n 1) 1 1 := ⟨by decide +kernel, rfl⟩
theorem d1_1 : Dec prog_115_method_14_code 1 (.ldc2_w 171) 3 4 := ⟨by decide +kernel, rfl⟩
theorem d1_4 : Dec prog_115_method_14_code 4 (.ldiv) 1 5 := ⟨by decide +kernel, rfl⟩
theorem d1_5 : Dec prog_115_method_14_code 5 (.l2i) 1 6 := ⟨by decide +kernel, rfl⟩
theorem d1_6 : Dec prog_115_method_14_code 6 (.istore 4) 2 8 := ⟨by decide +kernel, rfl⟩
theorem d1_8 : Dec prog_115_method_14_code 8 (.iconst 0) 1 9 := ⟨by decide +kernel, rfl⟩
theorem d1_9 : Dec prog_115_method_14_code 9 (.istore 5) 2 11 := ⟨by decide +kernel, rfl⟩
theorem d1_11 : Dec prog_115_method_14_code 11 (.iconst 0) 1 12 := ⟨by decide +kernel, rfl⟩
theorem d1_12 : Dec prog_115_method_14_code 12 (.istore 6) 2 14 := ⟨by decide +kernel, rfl⟩
theorem d1_14 : Dec prog_115_method_14_code 14 (.iload 6) 2 16 := ⟨by decide +kernel, rfl⟩
theorem d1_16 : Dec prog_115_method_14_code 16 (.iconst 3) 1 17 := ⟨by decide +kernel, rfl⟩
theorem d1_17 : DecB prog_115_method_14_code 17 (.if_icmp .ge 42) (42) 20 59 := ⟨by decide +kernel, rfl, by decide, by decide⟩
theorem d1_20 : Dec prog_115_method_14_code 20 (.iload 5) 2 22 := ⟨by decide +kernel, rfl⟩
theorem d1_22 : Dec prog_115_method_14_code 22 (.bipush 8) 2 24 := ⟨by decide +kernel, rfl⟩
theorem d1_24 : Dec prog_115_method_14_code 24 (.ishl) 1 25 := ⟨by decide +kernel, rfl⟩
theorem d1_25 : Dec prog_115_method_14_code 25 (.iload 4) 2 27 := ⟨by decide +kernel, rfl⟩
theorem d1_27 : Dec prog_115_method_14_code 27 (.iload 6) 2 29 := ⟨by decide +kernel, rfl⟩
theorem d1_29 : Dec prog_115_method_14_code 29 (.iadd) 1 30 := ⟨by decide +kernel, rfl⟩
theorem d1_30 : Dec prog_115_method_14_code 30 (.aload_n 0) 1 31 := ⟨by decide +kernel, rfl⟩
theorem d1_31 : Dec prog_115_method_14_code 31 (.arraylength) 1 32 := ⟨by decide +kernel, rfl⟩
theorem d1_32 : DecB prog_115_method_14_code 32 (.if_icmp .ge 17) (17) 35 49 := ⟨by decide +kernel, rfl, by decide, by decide⟩
theorem d1_35 : Dec prog_115_method_14_code 35 (.aload_n 0) 1 36 := ⟨by decide +kernel, rfl⟩
theorem d1_36 : Dec prog_115_method_14_code 36 (.iload 4) 2 38 := ⟨by decide +kernel, rfl⟩
theorem d1_38 : Dec prog_115_method_14_code 38 (.iload 6) 2 40 := ⟨by decide +kernel, rfl⟩
theorem d1_40 : Dec prog_115_method_14_code 40 (.iadd) 1 41 := ⟨by decide +kernel, rfl⟩
theorem d1_41 : Dec prog_115_method_14_code 41 (.baload) 1 42 := ⟨by decide +kernel, rfl⟩
theorem d1_42 : Dec prog_115_method_14_code 42 (.sipush 255) 3 45 := ⟨by decide +kernel, rfl⟩
theorem d1_45 : Dec prog_115_method_14_code 45 (.iand) 1 46 := ⟨by decide +kernel, rfl⟩
theorem d1_46 : DecB prog_115_method_14_code 46 (.goto 4) (4) 49 50 := ⟨by decide +kernel, rfl, by decide, by decide⟩
theorem d1_49 : Dec prog_115_method_14_code 49 (.iconst 0) 1 50 := ⟨by decide +kernel, rfl⟩
theorem d1_50 : Dec prog_115_method_14_code 50 (.ior) 1 51 := ⟨by decide +kernel, rfl⟩
theorem d1_51 : Dec prog_115_method_14_code 51 (.istore 5) 2 53 := ⟨by decide +kernel, rfl⟩
theorem d1_53 : Dec prog_115_method_14_code 53 (.iinc 6 1) 3 56 := ⟨by decide +kernel, rfl⟩
theorem d1_56 : DecB prog_115_method_14_code 56 (.goto (-42)) (-42) 59 14 := ⟨by decide +kernel, rfl, by decide, by decide⟩
theorem d1_59 : Dec prog_115_method_14_code 59 (.iload 5) 2 61 := ⟨by decide +kernel, rfl⟩
theorem d1_61 : Dec prog_115_method_14_code 61 (.bipush 24) 2 63 := ⟨by decide +kernel, rfl⟩
theorem d1_63 : Dec prog_115_method_14_code 63 (.lload_n 1) 1 64 := ⟨by decide +kernel, rfl⟩
theorem d1_64 : Dec prog_115_method_14_code 64 (.ldc2_w 171) 3 67 := ⟨by decide +kernel, rfl⟩
theorem d1_67 : Dec prog_115_method_14_code 67 (.lrem) 1 68 := ⟨by decide +kernel, rfl⟩
theorem d1_68 : Dec prog_115_method_14_code 68 (.l2i) 1 69 := ⟨by decide +kernel, rfl⟩
theorem d1_69 : Dec prog_115_method_14_code 69 (.isub) 1 70 := ⟨by decide +kernel, rfl⟩
theorem d1_70 : Dec prog_115_method_14_code 70 (.iload_n 3) 1 71 := ⟨by decide +kernel, rfl⟩
theorem d1_71 : Dec prog_115_method_14_code 71 (.isub) 1 72 := ⟨by decide +kernel, rfl⟩
theorem d1_72 : Dec prog_115_method_14_code 72 (.iushr) 1 73 := ⟨by decide +kernel, rfl⟩
theorem d1_73 : Dec prog_115_method_14_code 73 (.iconst 1) 1 74 := ⟨by decide +kernel, rfl⟩
theorem d1_74 : Dec prog_115_method_14_code 74 (.iload_n 3) 1 75 := ⟨by decide +kernel, rfl⟩
theorem d1_75 : Dec prog_115_method_14_code 75 (.ishl) 1 76 := ⟨by decide +kernel, rfl⟩
theorem d1_76 : Dec prog_115_method_14_code 76 (.iconst 1) 1 77 := ⟨by decide +kernel, rfl⟩
theorem d1_77 : Dec prog_115_method_14_code 77 (.isub) 1 78 := ⟨by decide +kernel, rfl⟩
theorem d1_78 : Dec prog_115_method_14_code 78 (.iand) 1 79 := ⟨by decide +kernel, rfl⟩
theorem d1_79 : Dec prog_115_method_14_code 79 (.ireturn) 1 80 := ⟨by decide +kernel, rfl⟩
theorem pn1 : plainName "com/example/filum/filum/image/StoredPage" = true := by first | (simp [plainName, overriddenIn]; done) | decide +kernel
theorem ef1 (x0 : Addr) (x1 : Int64) (x2 : Int32) (m : MethodId) : entryFrame m #[(.ref x0), (.long x1), (.int x2)] 7 = mkF m 0 #[.val (.ref x0), .val (.long x1), .second, .val (.int x2), .unset, .unset, .unset] [] := by first | (simp [entryFrame, mkF, argsToLocals, Value.category, maxLocals]; done) | rfl
set_option maxRecDepth 65536 in
set_option maxHeartbeats 40000000 in
theorem rm1 (l : Launch) (Z : State) (a0 : Array Value) (hw : ∀ d ∈ tables_1, d.before a0 Z = true) (ws : List Jvm.Cond) (a : Addr) (x : Int64) (f k : Nat) (h0 : Heap) (hf : f ≤ 48) (h1 : 1 ≤ k) (hk1 : k ≤ 16) (F : ∃ cl : Cell, Arr Z h0 a cl .byte ∧ cl.slots.size = 6 ∧ ∀ j, j < 6 → cl.slots[j]? = some (.int (own_B x j))) : Ct l Z (⟨"com/example/filum/filum/image/StoredPage", "bitsAt", "([BJI)I"⟩ : MethodName) prog_115_method_14_code 7 (some .int) ws ({ frames := 0, cells := 0, slots := 0, locals := 0 } : Room) #[(.ref a), (.long (Int64.ofNat f)), (.int (Int32.ofNat k))] h0 (QP (.int ((XT.ushr (own_w x (f / 8)) ((24 : Int32) - ((Int64.ofNat f) - (Int64.ofNat f / 8) * 8).toInt32 - Int32.ofNat k)) &&& (((1 : Int32) <<< (Int32.ofNat k &&& 31)) - 1))) h0) := by
  refine Ct.of (pn1) _ (ef1 a ((Int64.ofNat f)) ((Int32.ofNat k))) ?_
  intro p e s m below meth c T0 hx hby hml hZ hown hnm hret hk e0 X0
  show Go p e below _ (T0.setTop (mkF m 0 #[.val (.ref a), .val (.long (Int64.ofNat f)), .second, .val (.int (Int32.ofNat k)), .unset, .unset, .unset] []))
  obtain ⟨cl, A, S, V⟩ := F
  refine go_lloadn X0 hx (dc hby d1_0) (v := (Int64.ofNat f)) rfl ?_
  refine go_ldc2 X0 hx hZ hown (hw _ (List.mem_of_getElem? (i := 7) rfl)) (dc hby d1_1) ?_
  refine go_ldiv X0 hx (dc hby d1_4) (by decide) ?_
  refine go_l2i X0 hx (dc hby d1_5) ?_
  show Go p e below _ (T0.setTop (mkF m 6 #[.val (.ref a), .val (.long (Int64.ofNat f)), .second, .val (.int (Int32.ofNat k)), .unset, .unset, .unset] [(.int (((Int64.ofNat f) / (8 : Int64))).toInt32)]))
  rw [own_at ⟨f, by omega⟩]
  show Go p e below _ (T0.setTop (mkF m 6 #[.val (.ref a), .val (.long (Int64.ofNat f)), .second, .val (.int (Int32.ofNat k)), .unset, .unset, .unset] [(.int (Int32.ofNat (f / 8)))]))
  refine go_istore X0 hx #[.val (.ref a), .val (.long (Int64.ofNat f)), .second, .val (.int (Int32.ofNat k)), .val (.int (Int32.ofNat (f / 8))), .unset, .unset] (dc hby d1_6) rfl ?_
  refine go_iconst X0 hx (0) (dc hby d1_8) rfl ?_
  refine go_istore X0 hx #[.val (.ref a), .val (.long (Int64.ofNat f)), .second, .val (.int (Int32.ofNat k)), .val (.int (Int32.ofNat (f / 8))), .val (.int (0 : Int32)), .unset] (dc hby d1_9) rfl ?_
  refine go_iconst X0 hx (0) (dc hby d1_11) rfl ?_
  refine go_istore X0 hx #[.val (.ref a), .val (.long (Int64.ofNat f)), .second, .val (.int (Int32.ofNat k)), .val (.int (Int32.ofNat (f / 8))), .val (.int (0 : Int32)), .val (.int (0 : Int32))] (dc hby d1_12) rfl ?_
  refine go_iload X0 hx (dc hby d1_14) (v := (0 : Int32)) rfl ?_
  refine go_iconst X0 hx (3) (dc hby d1_16) rfl ?_
  refine go_icmp_ge X0 hx (db hby d1_17) (fun c17 => absurd c17 (by decide)) (fun c17 => ?_)
  refine go_iload X0 hx (dc hby d1_20) (v := (0 : Int32)) rfl ?_
  refine go_bipush X0 hx (8) (dc hby d1_22) rfl ?_
  refine go_ishl X0 hx (dc hby d1_24) ?_
  refine go_iload X0 hx (dc hby d1_25) (v := (Int32.ofNat (f / 8))) rfl ?_
  refine go_iload X0 hx (dc hby d1_27) (v := (0 : Int32)) rfl ?_
  refine go_iadd X0 hx (dc hby d1_29) ?_
  refine go_aloadn X0 hx (dc hby d1_30) (v := (.ref a)) rfl rfl ?_
  show Go p e below _ (T0.setTop (mkF m 31 #[.val (.ref a), .val (.long (Int64.ofNat f)), .second, .val (.int (Int32.ofNat k)), .val (.int (Int32.ofNat (f / 8))), .val (.int (0 : Int32)), .val (.int (0 : Int32))] [(.ref a), (.int ((Int32.ofNat (f / 8)) + (0 : Int32))), (.int ((0 : Int32) <<< ((8 : Int32) &&& 31)))]))
  have hix : ((Int32.ofNat (f / 8)) + (0 : Int32)) = Int32.ofNat (f / 8 + 0) := by rw [show ((0 : Int32)) = Int32.ofNat 0 from rfl, own_addN]
  rw [hix]
  show Go p e below _ (T0.setTop (mkF m 31 #[.val (.ref a), .val (.long (Int64.ofNat f)), .second, .val (.int (Int32.ofNat k)), .val (.int (Int32.ofNat (f / 8))), .val (.int (0 : Int32)), .val (.int (0 : Int32))] [(.ref a), (.int (Int32.ofNat (f / 8 + 0))), (.int ((0 : Int32) <<< ((8 : Int32) &&& 31)))]))
  refine go_alen X0 hx hZ e0 A (z := 6) S (by decide) (dc hby d1_31) ?_
  have J1 : ∀ (TJ1 : State) (z : Int32), Stand p l e ({ frames := 0, cells := 0, slots := 0, locals := 0 } : Room) s m #[(.ref a), (.long (Int64.ofNat f)), (.int (Int32.ofNat k))] below meth c TJ1 [] 0 0 → TJ1.heap = h0 → z = (own_byte (own_B x) (f / 8 + 0)) → Go p e below (EndN s (QP (.int ((XT.ushr (own_w x (f / 8)) ((24 : Int32) - ((Int64.ofNat f) - (Int64.ofNat f / 8) * 8).toInt32 - Int32.ofNat k)) &&& (((1 : Int32) <<< (Int32.ofNat k &&& 31)) - 1))) h0) ({ frames := 0, cells := 0, slots := 0, locals := 0 } : Room).cells ({ frames := 0, cells := 0, slots := 0, locals := 0 } : Room).slots) (TJ1.setTop (mkF m 50 #[.val (.ref a), .val (.long (Int64.ofNat f)), .second, .val (.int (Int32.ofNat k)), .val (.int (Int32.ofNat (f / 8))), .val (.int (0 : Int32)), .val (.int (0 : Int32))] [(.int z), (.int ((0 : Int32) <<< ((8 : Int32) &&& 31)))])) := by
    intro TJ1 z XJ1 eJ1 hz
    subst hz
    show Go p e below _ (TJ1.setTop (mkF m 50 #[.val (.ref a), .val (.long (Int64.ofNat f)), .second, .val (.int (Int32.ofNat k)), .val (.int (Int32.ofNat (f / 8))), .val (.int (0 : Int32)), .val (.int (0 : Int32))] [(.int (own_byte (own_B x) (f / 8 + 0))), (.int ((0 : Int32) <<< ((8 : Int32) &&& 31)))]))
    refine go_ior XJ1 hx (dc hby d1_50) ?_
    refine go_istore XJ1 hx #[.val (.ref a), .val (.long (Int64.ofNat f)), .second, .val (.int (Int32.ofNat k)), .val (.int (Int32.ofNat (f / 8))), .val (.int (((0 : Int32) <<< ((8 : Int32) &&& 31)) ||| (own_byte (own_B x) (f / 8 + 0)))), .val (.int (0 : Int32))] (dc hby d1_51) rfl ?_
    refine go_iinc XJ1 hx (x := (0 : Int32)) #[.val (.ref a), .val (.long (Int64.ofNat f)), .second, .val (.int (Int32.ofNat k)), .val (.int (Int32.ofNat (f / 8))), .val (.int (((0 : Int32) <<< ((8 : Int32) &&& 31)) ||| (own_byte (own_B x) (f / 8 + 0)))), .val (.int ((0 : Int32) + (1 : Int32)))] (dc hby d1_53) rfl rfl ?_
    refine go_goto XJ1 hx (db hby d1_56) ?_
    refine go_iload XJ1 hx (dc hby d1_14) (v := ((0 : Int32) + (1 : Int32))) rfl ?_
    refine go_iconst XJ1 hx (3) (dc hby d1_16) rfl ?_
    refine go_icmp_ge XJ1 hx (db hby d1_17) (fun c17 => absurd c17 (by decide)) (fun c17 => ?_)
    refine go_iload XJ1 hx (dc hby d1_20) (v := (((0 : Int32) <<< ((8 : Int32) &&& 31)) ||| (own_byte (own_B x) (f / 8 + 0)))) rfl ?_
    refine go_bipush XJ1 hx (8) (dc hby d1_22) rfl ?_
    refine go_ishl XJ1 hx (dc hby d1_24) ?_
    refine go_iload XJ1 hx (dc hby d1_25) (v := (Int32.ofNat (f / 8))) rfl ?_
    refine go_iload XJ1 hx (dc hby d1_27) (v := ((0 : Int32) + (1 : Int32))) rfl ?_
    refine go_iadd XJ1 hx (dc hby d1_29) ?_
    refine go_aloadn XJ1 hx (dc hby d1_30) (v := (.ref a)) rfl rfl ?_
    show Go p e below _ (TJ1.setTop (mkF m 31 #[.val (.ref a), .val (.long (Int64.ofNat f)), .second, .val (.int (Int32.ofNat k)), .val (.int (Int32.ofNat (f / 8))), .val (.int (((0 : Int32) <<< ((8 : Int32) &&& 31)) ||| (own_byte (own_B x) (f / 8 + 0)))), .val (.int ((0 : Int32) + (1 : Int32)))] [(.ref a), (.int ((Int32.ofNat (f / 8)) + ((0 : Int32) + (1 : Int32)))), (.int ((((0 : Int32) <<< ((8 : Int32) &&& 31)) ||| (own_byte (own_B x) (f / 8 + 0))) <<< ((8 : Int32) &&& 31)))]))
    have hix : ((Int32.ofNat (f / 8)) + ((0 : Int32) + (1 : Int32))) = Int32.ofNat (f / 8 + 1) := by rw [show (((0 : Int32) + (1 : Int32)) : Int32) = Int32.ofNat 1 from rfl, own_addN]
    rw [hix]
    show Go p e below _ (TJ1.setTop (mkF m 31 #[.val (.ref a), .val (.long (Int64.ofNat f)), .second, .val (.int (Int32.ofNat k)), .val (.int (Int32.ofNat (f / 8))), .val (.int (((0 : Int32) <<< ((8 : Int32) &&& 31)) ||| (own_byte (own_B x) (f / 8 + 0)))), .val (.int ((0 : Int32) + (1 : Int32)))] [(.ref a), (.int (Int32.ofNat (f / 8 + 1))), (.int ((((0 : Int32) <<< ((8 : Int32) &&& 31)) ||| (own_byte (own_B x) (f / 8 + 0))) <<< ((8 : Int32) &&& 31)))]))
    refine go_alen XJ1 hx hZ eJ1 A (z := 6) S (by decide) (dc hby d1_31) ?_
    have J2 : ∀ (TJ2 : State) (z : Int32), Stand p l e ({ frames := 0, cells := 0, slots := 0, locals := 0 } : Room) s m #[(.ref a), (.long (Int64.ofNat f)), (.int (Int32.ofNat k))] below meth c TJ2 [] 0 0 → TJ2.heap = h0 → z = (own_byte (own_B x) (f / 8 + 1)) → Go p e below (EndN s (QP (.int ((XT.ushr (own_w x (f / 8)) ((24 : Int32) - ((Int64.ofNat f) - (Int64.ofNat f / 8) * 8).toInt32 - Int32.ofNat k)) &&& (((1 : Int32) <<< (Int32.ofNat k &&& 31)) - 1))) h0) ({ frames := 0, cells := 0, slots := 0, locals := 0 } : Room).cells ({ frames := 0, cells := 0, slots := 0, locals := 0 } : Room).slots) (TJ2.setTop (mkF m 50 #[.val (.ref a), .val (.long (Int64.ofNat f)), .second, .val (.int (Int32.ofNat k)), .val (.int (Int32.ofNat (f / 8))), .val (.int (((0 : Int32) <<< ((8 : Int32) &&& 31)) ||| (own_byte (own_B x) (f / 8 + 0)))), .val (.int ((0 : Int32) + (1 : Int32)))] [(.int z), (.int ((((0 : Int32) <<< ((8 : Int32) &&& 31)) ||| (own_byte (own_B x) (f / 8 + 0))) <<< ((8 : Int32) &&& 31)))])) := by
      intro TJ2 z XJ2 eJ2 hz
      subst hz
      show Go p e below _ (TJ2.setTop (mkF m 50 #[.val (.ref a), .val (.long (Int64.ofNat f)), .second, .val (.int (Int32.ofNat k)), .val (.int (Int32.ofNat (f / 8))), .val (.int (((0 : Int32) <<< ((8 : Int32) &&& 31)) ||| (own_byte (own_B x) (f / 8 + 0)))), .val (.int ((0 : Int32) + (1 : Int32)))] [(.int (own_byte (own_B x) (f / 8 + 1))), (.int ((((0 : Int32) <<< ((8 : Int32) &&& 31)) ||| (own_byte (own_B x) (f / 8 + 0))) <<< ((8 : Int32) &&& 31)))]))
      refine go_ior XJ2 hx (dc hby d1_50) ?_
      refine go_istore XJ2 hx #[.val (.ref a), .val (.long (Int64.ofNat f)), .second, .val (.int (Int32.ofNat k)), .val (.int (Int32.ofNat (f / 8))), .val (.int (((((0 : Int32) <<< ((8 : Int32) &&& 31)) ||| (own_byte (own_B x) (f / 8 + 0))) <<< ((8 : Int32) &&& 31)) ||| (own_byte (own_B x) (f / 8 + 1)))), .val (.int ((0 : Int32) + (1 : Int32)))] (dc hby d1_51) rfl ?_
      refine go_iinc XJ2 hx (x := ((0 : Int32) + (1 : Int32))) #[.val (.ref a), .val (.long (Int64.ofNat f)), .second, .val (.int (Int32.ofNat k)), .val (.int (Int32.ofNat (f / 8))), .val (.int (((((0 : Int32) <<< ((8 : Int32) &&& 31)) ||| (own_byte (own_B x) (f / 8 + 0))) <<< ((8 : Int32) &&& 31)) ||| (own_byte (own_B x) (f / 8 + 1)))), .val (.int (((0 : Int32) + (1 : Int32)) + (1 : Int32)))] (dc hby d1_53) rfl rfl ?_
      refine go_goto XJ2 hx (db hby d1_56) ?_
      refine go_iload XJ2 hx (dc hby d1_14) (v := (((0 : Int32) + (1 : Int32)) + (1 : Int32))) rfl ?_
      refine go_iconst XJ2 hx (3) (dc hby d1_16) rfl ?_
      refine go_icmp_ge XJ2 hx (db hby d1_17) (fun c17 => absurd c17 (by decide)) (fun c17 => ?_)
      refine go_iload XJ2 hx (dc hby d1_20) (v := (((((0 : Int32) <<< ((8 : Int32) &&& 31)) ||| (own_byte (own_B x) (f / 8 + 0))) <<< ((8 : Int32) &&& 31)) ||| (own_byte (own_B x) (f / 8 + 1)))) rfl ?_
      refine go_bipush XJ2 hx (8) (dc hby d1_22) rfl ?_
      refine go_ishl XJ2 hx (dc hby d1_24) ?_
      refine go_iload XJ2 hx (dc hby d1_25) (v := (Int32.ofNat (f / 8))) rfl ?_
      refine go_iload XJ2 hx (dc hby d1_27) (v := (((0 : Int32) + (1 : Int32)) + (1 : Int32))) rfl ?_
      refine go_iadd XJ2 hx (dc hby d1_29) ?_
      refine go_aloadn XJ2 hx (dc hby d1_30) (v := (.ref a)) rfl rfl ?_
      show Go p e below _ (TJ2.setTop (mkF m 31 #[.val (.ref a), .val (.long (Int64.ofNat f)), .second, .val (.int (Int32.ofNat k)), .val (.int (Int32.ofNat (f / 8))), .val (.int (((((0 : Int32) <<< ((8 : Int32) &&& 31)) ||| (own_byte (own_B x) (f / 8 + 0))) <<< ((8 : Int32) &&& 31)) ||| (own_byte (own_B x) (f / 8 + 1)))), .val (.int (((0 : Int32) + (1 : Int32)) + (1 : Int32)))] [(.ref a), (.int ((Int32.ofNat (f / 8)) + (((0 : Int32) + (1 : Int32)) + (1 : Int32)))), (.int ((((((0 : Int32) <<< ((8 : Int32) &&& 31)) ||| (own_byte (own_B x) (f / 8 + 0))) <<< ((8 : Int32) &&& 31)) ||| (own_byte (own_B x) (f / 8 + 1))) <<< ((8 : Int32) &&& 31)))]))
      have hix : ((Int32.ofNat (f / 8)) + (((0 : Int32) + (1 : Int32)) + (1 : Int32))) = Int32.ofNat (f / 8 + 2) := by rw [show ((((0 : Int32) + (1 : Int32)) + (1 : Int32)) : Int32) = Int32.ofNat 2 from rfl, own_addN]
      rw [hix]
      show Go p e below _ (TJ2.setTop (mkF m 31 #[.val (.ref a), .val (.long (Int64.ofNat f)), .second, .val (.int (Int32.ofNat k)), .val (.int (Int32.ofNat (f / 8))), .val (.int (((((0 : Int32) <<< ((8 : Int32) &&& 31)) ||| (own_byte (own_B x) (f / 8 + 0))) <<< ((8 : Int32) &&& 31)) ||| (own_byte (own_B x) (f / 8 + 1)))), .val (.int (((0 : Int32) + (1 : Int32)) + (1 : Int32)))] [(.ref a), (.int (Int32.ofNat (f / 8 + 2))), (.int ((((((0 : Int32) <<< ((8 : Int32) &&& 31)) ||| (own_byte (own_B x) (f / 8 + 0))) <<< ((8 : Int32) &&& 31)) ||| (own_byte (own_B x) (f / 8 + 1))) <<< ((8 : Int32) &&& 31)))]))
      refine go_alen XJ2 hx hZ eJ2 A (z := 6) S (by decide) (dc hby d1_31) ?_
      have J3 : ∀ (TJ3 : State) (z : Int32), Stand p l e ({ frames := 0, cells := 0, slots := 0, locals := 0 } : Room) s m #[(.ref a), (.long (Int64.ofNat f)), (.int (Int32.ofNat k))] below meth c TJ3 [] 0 0 → TJ3.heap = h0 → z = (own_byte (own_B x) (f / 8 + 2)) → Go p e below (EndN s (QP (.int ((XT.ushr (own_w x (f / 8)) ((24 : Int32) - ((Int64.ofNat f) - (Int64.ofNat f / 8) * 8).toInt32 - Int32.ofNat k)) &&& (((1 : Int32) <<< (Int32.ofNat k &&& 31)) - 1))) h0) ({ frames := 0, cells := 0, slots := 0, locals := 0 } : Room).cells ({ frames := 0, cells := 0, slots := 0, locals := 0 } : Room).slots) (TJ3.setTop (mkF m 50 #[.val (.ref a), .val (.long (Int64.ofNat f)), .second, .val (.int (Int32.ofNat k)), .val (.int (Int32.ofNat (f / 8))), .val (.int (((((0 : Int32) <<< ((8 : Int32) &&& 31)) ||| (own_byte (own_B x) (f / 8 + 0))) <<< ((8 : Int32) &&& 31)) ||| (own_byte (own_B x) (f / 8 + 1)))), .val (.int (((0 : Int32) + (1 : Int32)) + (1 : Int32)))] [(.int z), (.int ((((((0 : Int32) <<< ((8 : Int32) &&& 31)) ||| (own_byte (own_B x) (f / 8 + 0))) <<< ((8 : Int32) &&& 31)) ||| (own_byte (own_B x) (f / 8 + 1))) <<< ((8 : Int32) &&& 31)))])) := by
        intro TJ3 z XJ3 eJ3 hz
        subst hz
        show Go p e below _ (TJ3.setTop (mkF m 50 #[.val (.ref a), .val (.long (Int64.ofNat f)), .second, .val (.int (Int32.ofNat k)), .val (.int (Int32.ofNat (f / 8))), .val (.int (((((0 : Int32) <<< ((8 : Int32) &&& 31)) ||| (own_byte (own_B x) (f / 8 + 0))) <<< ((8 : Int32) &&& 31)) ||| (own_byte (own_B x) (f / 8 + 1)))), .val (.int (((0 : Int32) + (1 : Int32)) + (1 : Int32)))] [(.int (own_byte (own_B x) (f / 8 + 2))), (.int ((((((0 : Int32) <<< ((8 : Int32) &&& 31)) ||| (own_byte (own_B x) (f / 8 + 0))) <<< ((8 : Int32) &&& 31)) ||| (own_byte (own_B x) (f / 8 + 1))) <<< ((8 : Int32) &&& 31)))]))
        refine go_ior XJ3 hx (dc hby d1_50) ?_
        refine go_istore XJ3 hx #[.val (.ref a), .val (.long (Int64.ofNat f)), .second, .val (.int (Int32.ofNat k)), .val (.int (Int32.ofNat (f / 8))), .val (.int (((((((0 : Int32) <<< ((8 : Int32) &&& 31)) ||| (own_byte (own_B x) (f / 8 + 0))) <<< ((8 : Int32) &&& 31)) ||| (own_byte (own_B x) (f / 8 + 1))) <<< ((8 : Int32) &&& 31)) ||| (own_byte (own_B x) (f / 8 + 2)))), .val (.int (((0 : Int32) + (1 : Int32)) + (1 : Int32)))] (dc hby d1_51) rfl ?_
        refine go_iinc XJ3 hx (x := (((0 : Int32) + (1 : Int32)) + (1 : Int32))) #[.val (.ref a), .val (.long (Int64.ofNat f)), .second, .val (.int (Int32.ofNat k)), .val (.int (Int32.ofNat (f / 8))), .val (.int (((((((0 : Int32) <<< ((8 : Int32) &&& 31)) ||| (own_byte (own_B x) (f / 8 + 0))) <<< ((8 : Int32) &&& 31)) ||| (own_byte (own_B x) (f / 8 + 1))) <<< ((8 : Int32) &&& 31)) ||| (own_byte (own_B x) (f / 8 + 2)))), .val (.int ((((0 : Int32) + (1 : Int32)) + (1 : Int32)) + (1 : Int32)))] (dc hby d1_53) rfl rfl ?_
        refine go_goto XJ3 hx (db hby d1_56) ?_
        refine go_iload XJ3 hx (dc hby d1_14) (v := ((((0 : Int32) + (1 : Int32)) + (1 : Int32)) + (1 : Int32))) rfl ?_
        refine go_iconst XJ3 hx (3) (dc hby d1_16) rfl ?_
        refine go_icmp_ge XJ3 hx (db hby d1_17) (fun c17 => ?_) (fun c17 => absurd c17 (by decide))
        refine go_iload XJ3 hx (dc hby d1_59) (v := (((((((0 : Int32) <<< ((8 : Int32) &&& 31)) ||| (own_byte (own_B x) (f / 8 + 0))) <<< ((8 : Int32) &&& 31)) ||| (own_byte (own_B x) (f / 8 + 1))) <<< ((8 : Int32) &&& 31)) ||| (own_byte (own_B x) (f / 8 + 2)))) rfl ?_
        refine go_bipush XJ3 hx (24) (dc hby d1_61) rfl ?_
        refine go_lloadn XJ3 hx (dc hby d1_63) (v := (Int64.ofNat f)) rfl ?_
        refine go_ldc2 XJ3 hx hZ hown (hw _ (List.mem_of_getElem? (i := 7) rfl)) (dc hby d1_64) ?_
        refine go_lrem XJ3 hx (dc hby d1_67) (by decide) ?_
        refine go_l2i XJ3 hx (dc hby d1_68) ?_
        refine go_isub XJ3 hx (dc hby d1_69) ?_
        refine go_iloadn XJ3 hx (dc hby d1_70) (v := (Int32.ofNat k)) rfl ?_
        refine go_isub XJ3 hx (dc hby d1_71) ?_
        refine go_iushr XJ3 hx (dc hby d1_72) ?_
        refine go_iconst XJ3 hx (1) (dc hby d1_73) rfl ?_
        refine go_iloadn XJ3 hx (dc hby d1_74) (v := (Int32.ofNat k)) rfl ?_
        refine go_ishl XJ3 hx (dc hby d1_75) ?_
        refine go_iconst XJ3 hx (1) (dc hby d1_76) rfl ?_
        refine go_isub XJ3 hx (dc hby d1_77) ?_
        refine go_iand XJ3 hx (dc hby d1_78) ?_
        exact go_retI XJ3 hx hret (dc hby d1_79) hk (by decide) (by decide) ⟨rfl, eJ3, rfl⟩
      refine go_icmp_ge XJ2 hx (db hby d1_32) (fun c32 => ?_) (fun c32 => ?_)
      · refine go_iconst XJ2 hx (0) (dc hby d1_49) rfl ?_
        exact J3 TJ2 _ XJ2 eJ2 (by unfold own_byte; rw [own_lt6 (by omega)] at c32; simp only [c32, if_true, if_false])
      · refine go_aloadn XJ2 hx (dc hby d1_35) (v := (.ref a)) rfl rfl ?_
        refine go_iload XJ2 hx (dc hby d1_36) (v := (Int32.ofNat (f / 8))) rfl ?_
        refine go_iload XJ2 hx (dc hby d1_38) (v := (((0 : Int32) + (1 : Int32)) + (1 : Int32))) rfl ?_
        refine go_iadd XJ2 hx (dc hby d1_40) ?_
        show Go p e below _ (TJ2.setTop (mkF m 41 #[.val (.ref a), .val (.long (Int64.ofNat f)), .second, .val (.int (Int32.ofNat k)), .val (.int (Int32.ofNat (f / 8))), .val (.int (((((0 : Int32) <<< ((8 : Int32) &&& 31)) ||| (own_byte (own_B x) (f / 8 + 0))) <<< ((8 : Int32) &&& 31)) ||| (own_byte (own_B x) (f / 8 + 1)))), .val (.int (((0 : Int32) + (1 : Int32)) + (1 : Int32)))] [(.int ((Int32.ofNat (f / 8)) + (((0 : Int32) + (1 : Int32)) + (1 : Int32)))), (.ref a), (.int ((((((0 : Int32) <<< ((8 : Int32) &&& 31)) ||| (own_byte (own_B x) (f / 8 + 0))) <<< ((8 : Int32) &&& 31)) ||| (own_byte (own_B x) (f / 8 + 1))) <<< ((8 : Int32) &&& 31)))]))
        rw [hix]
        show Go p e below _ (TJ2.setTop (mkF m 41 #[.val (.ref a), .val (.long (Int64.ofNat f)), .second, .val (.int (Int32.ofNat k)), .val (.int (Int32.ofNat (f / 8))), .val (.int (((((0 : Int32) <<< ((8 : Int32) &&& 31)) ||| (own_byte (own_B x) (f / 8 + 0))) <<< ((8 : Int32) &&& 31)) ||| (own_byte (own_B x) (f / 8 + 1)))), .val (.int (((0 : Int32) + (1 : Int32)) + (1 : Int32)))] [(.int (Int32.ofNat (f / 8 + 2))), (.ref a), (.int ((((((0 : Int32) <<< ((8 : Int32) &&& 31)) ||| (own_byte (own_B x) (f / 8 + 0))) <<< ((8 : Int32) &&& 31)) ||| (own_byte (own_B x) (f / 8 + 1))) <<< ((8 : Int32) &&& 31)))]))
        have hlt : f / 8 + 2 < 6 := (own_lt6 (by omega)).mp c32
        refine go_baload XJ2 hx hZ eJ2 A (w := (own_B x (f / 8 + 2))) (own_inB S hlt) (by rw [own_clamp (by omega)]; exact V _ hlt) (dc hby d1_41) ?_
        refine go_sipush XJ2 hx (255) (dc hby d1_42) rfl ?_
        refine go_iand XJ2 hx (dc hby d1_45) ?_
        refine go_goto XJ2 hx (db hby d1_46) ?_
        exact J3 TJ2 _ XJ2 eJ2 (by unfold own_byte; rw [own_lt6 (by omega)] at c32; simp only [c32, if_true, if_false])
    refine go_icmp_ge XJ1 hx (db hby d1_32) (fun c32 => ?_) (fun c32 => ?_)
    · refine go_iconst XJ1 hx (0) (dc hby d1_49) rfl ?_
      exact J2 TJ1 _ XJ1 eJ1 (by unfold own_byte; rw [own_lt6 (by omega)] at c32; simp only [c32, if_true, if_false])
    · refine go_aloadn XJ1 hx (dc hby d1_35) (v := (.ref a)) rfl rfl ?_
      refine go_iload XJ1 hx (dc hby d1_36) (v := (Int32.ofNat (f / 8))) rfl ?_
      refine go_iload XJ1 hx (dc hby d1_38) (v := ((0 : Int32) + (1 : Int32))) rfl ?_
      refine go_iadd XJ1 hx (dc hby d1_40) ?_
      show Go p e below _ (TJ1.setTop (mkF m 41 #[.val (.ref a), .val (.long (Int64.ofNat f)), .second, .val (.int (Int32.ofNat k)), .val (.int (Int32.ofNat (f / 8))), .val (.int (((0 : Int32) <<< ((8 : Int32) &&& 31)) ||| (own_byte (own_B x) (f / 8 + 0)))), .val (.int ((0 : Int32) + (1 : Int32)))] [(.int ((Int32.ofNat (f / 8)) + ((0 : Int32) + (1 : Int32)))), (.ref a), (.int ((((0 : Int32) <<< ((8 : Int32) &&& 31)) ||| (own_byte (own_B x) (f / 8 + 0))) <<< ((8 : Int32) &&& 31)))]))
      rw [hix]
      show Go p e below _ (TJ1.setTop (mkF m 41 #[.val (.ref a), .val (.long (Int64.ofNat f)), .second, .val (.int (Int32.ofNat k)), .val (.int (Int32.ofNat (f / 8))), .val (.int (((0 : Int32) <<< ((8 : Int32) &&& 31)) ||| (own_byte (own_B x) (f / 8 + 0)))), .val (.int ((0 : Int32) + (1 : Int32)))] [(.int (Int32.ofNat (f / 8 + 1))), (.ref a), (.int ((((0 : Int32) <<< ((8 : Int32) &&& 31)) ||| (own_byte (own_B x) (f / 8 + 0))) <<< ((8 : Int32) &&& 31)))]))
      have hlt : f / 8 + 1 < 6 := (own_lt6 (by omega)).mp c32
      refine go_baload XJ1 hx hZ eJ1 A (w := (own_B x (f / 8 + 1))) (own_inB S hlt) (by rw [own_clamp (by omega)]; exact V _ hlt) (dc hby d1_41) ?_
      refine go_sipush XJ1 hx (255) (dc hby d1_42) rfl ?_
      refine go_iand XJ1 hx (dc hby d1_45) ?_
      refine go_goto XJ1 hx (db hby d1_46) ?_
      exact J2 TJ1 _ XJ1 eJ1 (by unfold own_byte; rw [own_lt6 (by omega)] at c32; simp only [c32, if_true, if_false])
  refine go_icmp_ge X0 hx (db hby d1_32) (fun c32 => ?_) (fun c32 => ?_)
  · refine go_iconst X0 hx (0) (dc hby d1_49) rfl ?_
    exact J1 T0 _ X0 e0 (by unfold own_byte; rw [own_lt6 (by omega)] at c32; simp only [c32, if_true, if_false])
  · refine go_aloadn X0 hx (dc hby d1_35) (v := (.ref a)) rfl rfl ?_
    refine go_iload X0 hx (dc hby d1_36) (v := (Int32.ofNat (f / 8))) rfl ?_
    refine go_iload X0 hx (dc hby d1_38) (v := (0 : Int32)) rfl ?_
    refine go_iadd X0 hx (dc hby d1_40) ?_
    show Go p e below _ (T0.setTop (mkF m 41 #[.val (.ref a), .val (.long (Int64.ofNat f)), .second, .val (.int (Int32.ofNat k)), .val (.int (Int32.ofNat (f / 8))), .val (.int (0 : Int32)), .val (.int (0 : Int32))] [(.int ((Int32.ofNat (f / 8)) + (0 : Int32))), (.ref a), (.int ((0 : Int32) <<< ((8 : Int32) &&& 31)))]))
    rw [hix]
    show Go p e below _ (T0.setTop (mkF m 41 #[.val (.ref a), .val (.long (Int64.ofNat f)), .second, .val (.int (Int32.ofNat k)), .val (.int (Int32.ofNat (f / 8))), .val (.int (0 : Int32)), .val (.int (0 : Int32))] [(.int (Int32.ofNat (f / 8 + 0))), (.ref a), (.int ((0 : Int32) <<< ((8 : Int32) &&& 31)))]))
    have hlt : f / 8 + 0 < 6 := (own_lt6 (by omega)).mp c32
    refine go_baload X0 hx hZ e0 A (w := (own_B x (f / 8 + 0))) (own_inB S hlt) (by rw [own_clamp (by omega)]; exact V _ hlt) (dc hby d1_41) ?_
    refine go_sipush X0 hx (255) (dc hby d1_42) rfl ?_
    refine go_iand X0 hx (dc hby d1_45) ?_
    refine go_goto X0 hx (db hby d1_46) ?_
    exact J1 T0 _ X0 e0 (by unfold own_byte; rw [own_lt6 (by omega)] at c32; simp only [c32, if_true, if_false])
theorem pd1 : parseMethodDescriptor "([BJI)I" = some ⟨[(.array .byte), .long, .int], some .int⟩ := by decide +kernel
theorem d0_0 : Dec code 0 (.iload_n 2) 1 1 := ⟨at_0, rfl⟩
theorem d0_1 : Dec code 1 (.ldc 7) 2 3 := ⟨at_1, rfl⟩
theorem d0_3 : Dec code 3 (.iand) 1 4 := ⟨at_3, rfl⟩
theorem d0_4 : Dec code 4 (.bipush 49) 2 6 := ⟨at_4, rfl⟩
theorem d0_6 : Dec code 6 (.irem) 1 7 := ⟨at_6, rfl⟩
theorem d0_7 : Dec code 7 (.i2l) 1 8 := ⟨at_7, rfl⟩
theorem d0_8 : Dec code 8 (.lstore 4) 2 10 := ⟨at_8, rfl⟩
theorem d0_10 : Dec code 10 (.iload_n 3) 1 11 := ⟨at_10, rfl⟩
theorem d0_11 : Dec code 11 (.ldc 7) 2 13 := ⟨at_11, rfl⟩
theorem d0_13 : Dec code 13 (.iand) 1 14 := ⟨at_13, rfl⟩
theorem d0_14 : Dec code 14 (.bipush 16) 2 16 := ⟨at_14, rfl⟩
theorem d0_16 : Dec code 16 (.irem) 1 17 := ⟨at_16, rfl⟩
theorem d0_17 : Dec code 17 (.iconst 1) 1 18 := ⟨at_17, rfl⟩
theorem d0_18 : Dec code 18 (.iadd) 1 19 := ⟨at_18, rfl⟩
theorem d0_19 : Dec code 19 (.istore 6) 2 21 := ⟨at_19, rfl⟩
theorem d0_21 : Dec code 21 (.bipush 6) 2 23 := ⟨at_21, rfl⟩
theorem d0_23 : Dec code 23 (.newarray .byte) 2 25 := ⟨at_23, rfl⟩
theorem d0_25 : Dec code 25 (.astore 7) 2 27 := ⟨at_25, rfl⟩
theorem d0_27 : Dec code 27 (.aload 7) 2 29 := ⟨at_27, rfl⟩
theorem d0_29 : Dec code 29 (.iconst 0) 1 30 := ⟨at_29, rfl⟩
theorem d0_30 : Dec code 30 (.lload_n 0) 1 31 := ⟨at_30, rfl⟩
theorem d0_31 : Dec code 31 (.bipush 56) 2 33 := ⟨at_31, rfl⟩
theorem d0_33 : Dec code 33 (.lushr) 1 34 := ⟨at_33, rfl⟩
theorem d0_34 : Dec code 34 (.l2i) 1 35 := ⟨at_34, rfl⟩
theorem d0_35 : Dec code 35 (.i2b) 1 36 := ⟨at_35, rfl⟩
theorem d0_36 : Dec code 36 (.bastore) 1 37 := ⟨at_36, rfl⟩
theorem d0_37 : Dec code 37 (.aload 7) 2 39 := ⟨at_37, rfl⟩
theorem d0_39 : Dec code 39 (.iconst 1) 1 40 := ⟨at_39, rfl⟩
theorem d0_40 : Dec code 40 (.lload_n 0) 1 41 := ⟨at_40, rfl⟩
theorem d0_41 : Dec code 41 (.bipush 48) 2 43 := ⟨at_41, rfl⟩
theorem d0_43 : Dec code 43 (.lushr) 1 44 := ⟨at_43, rfl⟩
theorem d0_44 : Dec code 44 (.l2i) 1 45 := ⟨at_44, rfl⟩
theorem d0_45 : Dec code 45 (.i2b) 1 46 := ⟨at_45, rfl⟩
theorem d0_46 : Dec code 46 (.bastore) 1 47 := ⟨at_46, rfl⟩
theorem d0_47 : Dec code 47 (.aload 7) 2 49 := ⟨at_47, rfl⟩
theorem d0_49 : Dec code 49 (.iconst 2) 1 50 := ⟨at_49, rfl⟩
theorem d0_50 : Dec code 50 (.lload_n 0) 1 51 := ⟨at_50, rfl⟩
theorem d0_51 : Dec code 51 (.bipush 40) 2 53 := ⟨at_51, rfl⟩
theorem d0_53 : Dec code 53 (.lushr) 1 54 := ⟨at_53, rfl⟩
theorem d0_54 : Dec code 54 (.l2i) 1 55 := ⟨at_54, rfl⟩
theorem d0_55 : Dec code 55 (.i2b) 1 56 := ⟨at_55, rfl⟩
theorem d0_56 : Dec code 56 (.bastore) 1 57 := ⟨at_56, rfl⟩
theorem d0_57 : Dec code 57 (.aload 7) 2 59 := ⟨at_57, rfl⟩
theorem d0_59 : Dec code 59 (.iconst 3) 1 60 := ⟨at_59, rfl⟩
theorem d0_60 : Dec code 60 (.lload_n 0) 1 61 := ⟨at_60, rfl⟩
theorem d0_61 : Dec code 61 (.bipush 32) 2 63 := ⟨at_61, rfl⟩
theorem d0_63 : Dec code 63 (.lushr) 1 64 := ⟨at_63, rfl⟩
theorem d0_64 : Dec code 64 (.l2i) 1 65 := ⟨at_64, rfl⟩
theorem d0_65 : Dec code 65 (.i2b) 1 66 := ⟨at_65, rfl⟩
theorem d0_66 : Dec code 66 (.bastore) 1 67 := ⟨at_66, rfl⟩
theorem d0_67 : Dec code 67 (.aload 7) 2 69 := ⟨at_67, rfl⟩
theorem d0_69 : Dec code 69 (.iconst 4) 1 70 := ⟨at_69, rfl⟩
theorem d0_70 : Dec code 70 (.lload_n 0) 1 71 := ⟨at_70, rfl⟩
theorem d0_71 : Dec code 71 (.bipush 24) 2 73 := ⟨at_71, rfl⟩
theorem d0_73 : Dec code 73 (.lushr) 1 74 := ⟨at_73, rfl⟩
theorem d0_74 : Dec code 74 (.l2i) 1 75 := ⟨at_74, rfl⟩
theorem d0_75 : Dec code 75 (.i2b) 1 76 := ⟨at_75, rfl⟩
theorem d0_76 : Dec code 76 (.bastore) 1 77 := ⟨at_76, rfl⟩
theorem d0_77 : Dec code 77 (.aload 7) 2 79 := ⟨at_77, rfl⟩
theorem d0_79 : Dec code 79 (.iconst 5) 1 80 := ⟨at_79, rfl⟩
theorem d0_80 : Dec code 80 (.lload_n 0) 1 81 := ⟨at_80, rfl⟩
theorem d0_81 : Dec code 81 (.bipush 16) 2 83 := ⟨at_81, rfl⟩
theorem d0_83 : Dec code 83 (.lushr) 1 84 := ⟨at_83, rfl⟩
theorem d0_84 : Dec code 84 (.l2i) 1 85 := ⟨at_84, rfl⟩
theorem d0_85 : Dec code 85 (.i2b) 1 86 := ⟨at_85, rfl⟩
theorem d0_86 : Dec code 86 (.bastore) 1 87 := ⟨at_86, rfl⟩
theorem d0_87 : Dec code 87 (.lload_n 0) 1 88 := ⟨at_87, rfl⟩
theorem d0_88 : Dec code 88 (.ldc2_w 8) 3 91 := ⟨at_88, rfl⟩
theorem d0_91 : Dec code 91 (.land) 1 92 := ⟨at_91, rfl⟩
theorem d0_92 : Dec code 92 (.lstore 8) 2 94 := ⟨at_92, rfl⟩
theorem d0_94 : Dec code 94 (.lload 8) 2 96 := ⟨at_94, rfl⟩
theorem d0_96 : Dec code 96 (.bipush 64) 2 98 := ⟨at_96, rfl⟩
theorem d0_98 : Dec code 98 (.lload 4) 2 100 := ⟨at_98, rfl⟩
theorem d0_100 : Dec code 100 (.l2i) 1 101 := ⟨at_100, rfl⟩
theorem d0_101 : Dec code 101 (.isub) 1 102 := ⟨at_101, rfl⟩
theorem d0_102 : Dec code 102 (.iload 6) 2 104 := ⟨at_102, rfl⟩
theorem d0_104 : Dec code 104 (.isub) 1 105 := ⟨at_104, rfl⟩
theorem d0_105 : Dec code 105 (.lushr) 1 106 := ⟨at_105, rfl⟩
theorem d0_106 : Dec code 106 (.lconst 1) 1 107 := ⟨at_106, rfl⟩
theorem d0_107 : Dec code 107 (.iload 6) 2 109 := ⟨at_107, rfl⟩
theorem d0_109 : Dec code 109 (.lshl) 1 110 := ⟨at_109, rfl⟩
theorem d0_110 : Dec code 110 (.lconst 1) 1 111 := ⟨at_110, rfl⟩
theorem d0_111 : Dec code 111 (.lsub) 1 112 := ⟨at_111, rfl⟩
theorem d0_112 : Dec code 112 (.land) 1 113 := ⟨at_112, rfl⟩
theorem d0_113 : Dec code 113 (.lstore 10) 2 115 := ⟨at_113, rfl⟩
theorem d0_115 : Dec code 115 (.aload 7) 2 117 := ⟨at_115, rfl⟩
theorem d0_117 : Dec code 117 (.lload 4) 2 119 := ⟨at_117, rfl⟩
theorem d0_119 : Dec code 119 (.iload 6) 2 121 := ⟨at_119, rfl⟩
theorem d0_121 : Dec code 121 (.invokestatic 10) 3 124 := ⟨at_121, rfl⟩
theorem d0_124 : Dec code 124 (.lload 10) 2 126 := ⟨at_124, rfl⟩
theorem d0_126 : Dec code 126 (.l2i) 1 127 := ⟨at_126, rfl⟩
theorem d0_127 : DecB code 127 (.if_icmp .ne 7) (7) 130 134 := ⟨at_127, rfl, by decide, by decide⟩
theorem d0_130 : Dec code 130 (.iconst 1) 1 131 := ⟨at_130, rfl⟩
theorem d0_131 : DecB code 131 (.goto 4) (4) 134 135 := ⟨at_131, rfl, by decide, by decide⟩
theorem d0_135 : Dec code 135 (.ireturn) 1 136 := ⟨at_135, rfl⟩
theorem pn0 : plainName "com/example/filum/filum/image/StoredPageBitsAtPinLaw" = true := by first | (simp [plainName, overriddenIn]; done) | decide +kernel
theorem ef0 (x0 : Int64) (x1 : Int32) (x2 : Int32) (m : MethodId) : entryFrame m #[(.long x0), (.int x1), (.int x2)] maxLocals = mkF m 0 #[.val (.long x0), .second, .val (.int x1), .val (.int x2), .unset, .unset, .unset, .unset, .unset, .unset, .unset, .unset] [] := by first | (simp [entryFrame, mkF, argsToLocals, Value.category, maxLocals]; done) | rfl
set_option maxRecDepth 65536 in
set_option maxHeartbeats 40000000 in
theorem rm0 (l : Launch) (Z : State) (a0 : Array Value) (hw : ∀ d ∈ tables_1, d.before a0 Z = true) (ws : List Jvm.Cond) (p0 : Int64) (p1 p2 : Int32) (h0 : Heap)  : Ct l Z x code maxLocals ret ws room_1 #[(.long p0), (.int p1), (.int p2)] h0 (fun v h L => v = some (.int 1) ∧ Fr h0.size L) := by
  refine Ct.of (pn0) _ (ef0 p0 p1 p2) ?_
  intro p e s m below meth c T0 hx hby hml hZ hown hnm hret hk e0 X0
  obtain ⟨f, hf, ef⟩ := own_first p1
  obtain ⟨k, hk1, hk2, ek⟩ := own_count p2
  show Go p e below _ (T0.setTop (mkF m 0 #[.val (.long p0), .second, .val (.int p1), .val (.int p2), .unset, .unset, .unset, .unset, .unset, .unset, .unset, .unset] []))
  refine go_iloadn X0 hx (dc hby d0_0) (v := p1) rfl ?_
  refine go_ldc X0 hx hZ hown (hw _ (List.mem_of_getElem? (i := 0) rfl)) (dc hby d0_1) ?_
  refine go_iand X0 hx (dc hby d0_3) ?_
  refine go_bipush X0 hx (49) (dc hby d0_4) rfl ?_
  refine go_irem X0 hx (dc hby d0_6) (by decide) ?_
  show Go p e below _ (T0.setTop (mkF m 7 #[.val (.long p0), .second, .val (.int p1), .val (.int p2), .unset, .unset, .unset, .unset, .unset, .unset, .unset, .unset] [(.int ((p1 &&& (2147483647 : Int32)) % (49 : Int32)))]))
  rw [ef]
  show Go p e below _ (T0.setTop (mkF m 7 #[.val (.long p0), .second, .val (.int p1), .val (.int p2), .unset, .unset, .unset, .unset, .unset, .unset, .unset, .unset] [(.int (Int32.ofNat f))]))
  refine go_i2l X0 hx (dc hby d0_7) ?_
  show Go p e below _ (T0.setTop (mkF m 8 #[.val (.long p0), .second, .val (.int p1), .val (.int p2), .unset, .unset, .unset, .unset, .unset, .unset, .unset, .unset] [(.long ((Int32.ofNat f)).toInt64)]))
  rw [own_i2l ⟨f, by omega⟩]
  show Go p e below _ (T0.setTop (mkF m 8 #[.val (.long p0), .second, .val (.int p1), .val (.int p2), .unset, .unset, .unset, .unset, .unset, .unset, .unset, .unset] [(.long (Int64.ofNat f))]))
  refine go_lstore X0 hx #[.val (.long p0), .second, .val (.int p1), .val (.int p2), .val (.long (Int64.ofNat f)), .second, .unset, .unset, .unset, .unset, .unset, .unset] (dc hby d0_8) rfl ?_
  refine go_iloadn X0 hx (dc hby d0_10) (v := p2) rfl ?_
  refine go_ldc X0 hx hZ hown (hw _ (List.mem_of_getElem? (i := 0) rfl)) (dc hby d0_11) ?_
  refine go_iand X0 hx (dc hby d0_13) ?_
  refine go_bipush X0 hx (16) (dc hby d0_14) rfl ?_
  refine go_irem X0 hx (dc hby d0_16) (by decide) ?_
  refine go_iconst X0 hx (1) (dc hby d0_17) rfl ?_
  refine go_iadd X0 hx (dc hby d0_18) ?_
  show Go p e below _ (T0.setTop (mkF m 19 #[.val (.long p0), .second, .val (.int p1), .val (.int p2), .val (.long (Int64.ofNat f)), .second, .unset, .unset, .unset, .unset, .unset, .unset] [(.int (((p2 &&& (2147483647 : Int32)) % (16 : Int32)) + (1 : Int32)))]))
  rw [ek]
  show Go p e below _ (T0.setTop (mkF m 19 #[.val (.long p0), .second, .val (.int p1), .val (.int p2), .val (.long (Int64.ofNat f)), .second, .unset, .unset, .unset, .unset, .unset, .unset] [(.int (Int32.ofNat k))]))
  refine go_istore X0 hx #[.val (.long p0), .second, .val (.int p1), .val (.int p2), .val (.long (Int64.ofNat f)), .second, .val (.int (Int32.ofNat k)), .unset, .unset, .unset, .unset, .unset] (dc hby d0_19) rfl ?_
  refine go_bipush X0 hx (6) (dc hby d0_21) rfl ?_
  refine go_newP X0 hx hZ (hw _ (List.mem_of_getElem? (i := 1) rfl)) e0 (dc hby d0_23) (by decide) 6 (by decide) (by decide) (by decide) (by decide) (fun T1 h1 cA a ga X1 e1 E1 A0 => ?_)
  have ha : h0.size ≤ a := Nat.le_of_eq ga.symm
  have S0 : (newA cA (newarray.typeOf .byte) 6).slots.size = 6 := by rw [sz_new]; rfl
  refine go_astore X1 hx #[.val (.long p0), .second, .val (.int p1), .val (.int p2), .val (.long (Int64.ofNat f)), .second, .val (.int (Int32.ofNat k)), .val (.ref a), .unset, .unset, .unset, .unset] (dc hby d0_25) rfl rfl ?_
  refine go_aload X1 hx (dc hby d0_27) (v := (.ref a)) rfl rfl ?_
  refine go_iconst X1 hx (0) (dc hby d0_29) rfl ?_
  refine go_lloadn X1 hx (dc hby d0_30) (v := p0) rfl ?_
  refine go_bipush X1 hx (56) (dc hby d0_31) rfl ?_
  refine go_lushr X1 hx (dc hby d0_33) ?_
  refine go_l2i X1 hx (dc hby d0_34) ?_
  refine go_i2b X1 hx (dc hby d0_35) ?_
  refine go_bastore X1 hx hZ e1 A0 (by rw [S0]; decide) (dc hby d0_36) (fun T2 h2 X2 e2 W0 => ?_)
  have A1 := A0.same W0
  have S1 : ((newA cA (newarray.typeOf .byte) 6).setSlot (Int32.toNatClampNeg 0) (.int (nar .byte (((XT.ushrL p0 (56 : Int32))).toInt32).toInt8.toInt32))).slots.size = 6 := (sz_set _ _ _).trans S0
  refine go_aload X2 hx (dc hby d0_37) (v := (.ref a)) rfl rfl ?_
  refine go_iconst X2 hx (1) (dc hby d0_39) rfl ?_
  refine go_lloadn X2 hx (dc hby d0_40) (v := p0) rfl ?_
  refine go_bipush X2 hx (48) (dc hby d0_41) rfl ?_
  refine go_lushr X2 hx (dc hby d0_43) ?_
  refine go_l2i X2 hx (dc hby d0_44) ?_
  refine go_i2b X2 hx (dc hby d0_45) ?_
  refine go_bastore X2 hx hZ e2 A1 (by rw [S1]; decide) (dc hby d0_46) (fun T3 h3 X3 e3 W1 => ?_)
  have A2 := A1.same W1
  have S2 : (((newA cA (newarray.typeOf .byte) 6).setSlot (Int32.toNatClampNeg 0) (.int (nar .byte (((XT.ushrL p0 (56 : Int32))).toInt32).toInt8.toInt32))).setSlot (Int32.toNatClampNeg 1) (.int (nar .byte (((XT.ushrL p0 (48 : Int32))).toInt32).toInt8.toInt32))).slots.size = 6 := (sz_set _ _ _).trans S1
  refine go_aload X3 hx (dc hby d0_47) (v := (.ref a)) rfl rfl ?_
  refine go_iconst X3 hx (2) (dc hby d0_49) rfl ?_
  refine go_lloadn X3 hx (dc hby d0_50) (v := p0) rfl ?_
  refine go_bipush X3 hx (40) (dc hby d0_51) rfl ?_
  refine go_lushr X3 hx (dc hby d0_53) ?_
  refine go_l2i X3 hx (dc hby d0_54) ?_
  refine go_i2b X3 hx (dc hby d0_55) ?_
  refine go_bastore X3 hx hZ e3 A2 (by rw [S2]; decide) (dc hby d0_56) (fun T4 h4 X4 e4 W2 => ?_)
  have A3 := A2.same W2
  have S3 : ((((newA cA (newarray.typeOf .byte) 6).setSlot (Int32.toNatClampNeg 0) (.int (nar .byte (((XT.ushrL p0 (56 : Int32))).toInt32).toInt8.toInt32))).setSlot (Int32.toNatClampNeg 1) (.int (nar .byte (((XT.ushrL p0 (48 : Int32))).toInt32).toInt8.toInt32))).setSlot (Int32.toNatClampNeg 2) (.int (nar .byte (((XT.ushrL p0 (40 : Int32))).toInt32).toInt8.toInt32))).slots.size = 6 := (sz_set _ _ _).trans S2
  refine go_aload X4 hx (dc hby d0_57) (v := (.ref a)) rfl rfl ?_
  refine go_iconst X4 hx (3) (dc hby d0_59) rfl ?_
  refine go_lloadn X4 hx (dc hby d0_60) (v := p0) rfl ?_
  refine go_bipush X4 hx (32) (dc hby d0_61) rfl ?_
  refine go_lushr X4 hx (dc hby d0_63) ?_
  refine go_l2i X4 hx (dc hby d0_64) ?_
  refine go_i2b X4 hx (dc hby d0_65) ?_
  refine go_bastore X4 hx hZ e4 A3 (by rw [S3]; decide) (dc hby d0_66) (fun T5 h5 X5 e5 W3 => ?_)
  have A4 := A3.same W3
  have S4 : (((((newA cA (newarray.typeOf .byte) 6).setSlot (Int32.toNatClampNeg 0) (.int (nar .byte (((XT.ushrL p0 (56 : Int32))).toInt32).toInt8.toInt32))).setSlot (Int32.toNatClampNeg 1) (.int (nar .byte (((XT.ushrL p0 (48 : Int32))).toInt32).toInt8.toInt32))).setSlot (Int32.toNatClampNeg 2) (.int (nar .byte (((XT.ushrL p0 (40 : Int32))).toInt32).toInt8.toInt32))).setSlot (Int32.toNatClampNeg 3) (.int (nar .byte (((XT.ushrL p0 (32 : Int32))).toInt32).toInt8.toInt32))).slots.size = 6 := (sz_set _ _ _).trans S3
  refine go_aload X5 hx (dc hby d0_67) (v := (.ref a)) rfl rfl ?_
  refine go_iconst X5 hx (4) (dc hby d0_69) rfl ?_
  refine go_lloadn X5 hx (dc hby d0_70) (v := p0) rfl ?_
  refine go_bipush X5 hx (24) (dc hby d0_71) rfl ?_
  refine go_lushr X5 hx (dc hby d0_73) ?_
  refine go_l2i X5 hx (dc hby d0_74) ?_
  refine go_i2b X5 hx (dc hby d0_75) ?_
  refine go_bastore X5 hx hZ e5 A4 (by rw [S4]; decide) (dc hby d0_76) (fun T6 h6 X6 e6 W4 => ?_)
  have A5 := A4.same W4
  have S5 : ((((((newA cA (newarray.typeOf .byte) 6).setSlot (Int32.toNatClampNeg 0) (.int (nar .byte (((XT.ushrL p0 (56 : Int32))).toInt32).toInt8.toInt32))).setSlot (Int32.toNatClampNeg 1) (.int (nar .byte (((XT.ushrL p0 (48 : Int32))).toInt32).toInt8.toInt32))).setSlot (Int32.toNatClampNeg 2) (.int (nar .byte (((XT.ushrL p0 (40 : Int32))).toInt32).toInt8.toInt32))).setSlot (Int32.toNatClampNeg 3) (.int (nar .byte (((XT.ushrL p0 (32 : Int32))).toInt32).toInt8.toInt32))).setSlot (Int32.toNatClampNeg 4) (.int (nar .byte (((XT.ushrL p0 (24 : Int32))).toInt32).toInt8.toInt32))).slots.size = 6 := (sz_set _ _ _).trans S4
  refine go_aload X6 hx (dc hby d0_77) (v := (.ref a)) rfl rfl ?_
  refine go_iconst X6 hx (5) (dc hby d0_79) rfl ?_
  refine go_lloadn X6 hx (dc hby d0_80) (v := p0) rfl ?_
  refine go_bipush X6 hx (16) (dc hby d0_81) rfl ?_
  refine go_lushr X6 hx (dc hby d0_83) ?_
  refine go_l2i X6 hx (dc hby d0_84) ?_
  refine go_i2b X6 hx (dc hby d0_85) ?_
  refine go_bastore X6 hx hZ e6 A5 (by rw [S5]; decide) (dc hby d0_86) (fun T7 h7 X7 e7 W5 => ?_)
  have A6 := A5.same W5
  have S6 : (((((((newA cA (newarray.typeOf .byte) 6).setSlot (Int32.toNatClampNeg 0) (.int (nar .byte (((XT.ushrL p0 (56 : Int32))).toInt32).toInt8.toInt32))).setSlot (Int32.toNatClampNeg 1) (.int (nar .byte (((XT.ushrL p0 (48 : Int32))).toInt32).toInt8.toInt32))).setSlot (Int32.toNatClampNeg 2) (.int (nar .byte (((XT.ushrL p0 (40 : Int32))).toInt32).toInt8.toInt32))).setSlot (Int32.toNatClampNeg 3) (.int (nar .byte (((XT.ushrL p0 (32 : Int32))).toInt32).toInt8.toInt32))).setSlot (Int32.toNatClampNeg 4) (.int (nar .byte (((XT.ushrL p0 (24 : Int32))).toInt32).toInt8.toInt32))).setSlot (Int32.toNatClampNeg 5) (.int (nar .byte (((XT.ushrL p0 (16 : Int32))).toInt32).toInt8.toInt32))).slots.size = 6 := (sz_set _ _ _).trans S5
  refine go_lloadn X7 hx (dc hby d0_87) (v := p0) rfl ?_
  refine go_ldc2 X7 hx hZ hown (hw _ (List.mem_of_getElem? (i := 2) rfl)) (dc hby d0_88) ?_
  refine go_land X7 hx (dc hby d0_91) ?_
  refine go_lstore X7 hx #[.val (.long p0), .second, .val (.int p1), .val (.int p2), .val (.long (Int64.ofNat f)), .second, .val (.int (Int32.ofNat k)), .val (.ref a), .val (.long (p0 &&& (-65536 : Int64))), .second, .unset, .unset] (dc hby d0_92) rfl ?_
  refine go_lload X7 hx (dc hby d0_94) (v := (p0 &&& (-65536 : Int64))) rfl ?_
  refine go_bipush X7 hx (64) (dc hby d0_96) rfl ?_
  refine go_lload X7 hx (dc hby d0_98) (v := (Int64.ofNat f)) rfl ?_
  refine go_l2i X7 hx (dc hby d0_100) ?_
  refine go_isub X7 hx (dc hby d0_101) ?_
  refine go_iload X7 hx (dc hby d0_102) (v := (Int32.ofNat k)) rfl ?_
  refine go_isub X7 hx (dc hby d0_104) ?_
  refine go_lushr X7 hx (dc hby d0_105) ?_
  refine go_lconst X7 hx (1) (dc hby d0_106) rfl ?_
  refine go_iload X7 hx (dc hby d0_107) (v := (Int32.ofNat k)) rfl ?_
  refine go_lshl X7 hx (dc hby d0_109) ?_
  refine go_lconst X7 hx (1) (dc hby d0_110) rfl ?_
  refine go_lsub X7 hx (dc hby d0_111) ?_
  refine go_land X7 hx (dc hby d0_112) ?_
  refine go_lstore X7 hx #[.val (.long p0), .second, .val (.int p1), .val (.int p2), .val (.long (Int64.ofNat f)), .second, .val (.int (Int32.ofNat k)), .val (.ref a), .val (.long (p0 &&& (-65536 : Int64))), .second, .val (.long ((XT.ushrL (p0 &&& (-65536 : Int64)) (((64 : Int32) - ((Int64.ofNat f)).toInt32) - (Int32.ofNat k))) &&& (((1 : Int64) <<< (((Int32.ofNat k)).toInt64 &&& 63)) - (1 : Int64)))), .second] (dc hby d0_113) rfl ?_
  refine go_aload X7 hx (dc hby d0_115) (v := (.ref a)) rfl rfl ?_
  refine go_lload X7 hx (dc hby d0_117) (v := (Int64.ofNat f)) rfl ?_
  refine go_iload X7 hx (dc hby d0_119) (v := (Int32.ofNat k)) rfl ?_
  have F : ∃ cl : Cell, Arr Z h7 a cl .byte ∧ cl.slots.size = 6 ∧ ∀ j, j < 6 → cl.slots[j]? = some (.int (own_B p0 j)) := by
    refine ⟨_, A6, S6, fun j hj => ?_⟩
    have st : ∀ (c : Cell) (i : Nat) (v : Value) (j : Nat), i < c.slots.size → (c.setSlot i v).slots[j]? = if j = i then some v else c.slots[j]? := by
      intro c i v j hi
      simp only [Cell.setSlot, Array.getElem?_setIfInBounds]
      by_cases q : i = j
      · subst q; simp [hi]
      · have q' : ¬ j = i := fun r => q r.symm
        simp [q, q']
    have z : j = 0 ∨ j = 1 ∨ j = 2 ∨ j = 3 ∨ j = 4 ∨ j = 5 := by omega
    rw [st _ _ _ _ (by rw [S5]; decide), st _ _ _ _ (by rw [S4]; decide), st _ _ _ _ (by rw [S3]; decide), st _ _ _ _ (by rw [S2]; decide), st _ _ _ _ (by rw [S1]; decide), st _ _ _ _ (by rw [S0]; decide)]
    rcases z with rfl | rfl | rfl | rfl | rfl | rfl <;> rfl
  show Go p e below _ (T7.setTop (mkF m 121 #[.val (.long p0), .second, .val (.int p1), .val (.int p2), .val (.long (Int64.ofNat f)), .second, .val (.int (Int32.ofNat k)), .val (.ref a), .val (.long (p0 &&& (-65536 : Int64))), .second, .val (.long ((XT.ushrL (p0 &&& (-65536 : Int64)) (((64 : Int32) - ((Int64.ofNat f)).toInt32) - (Int32.ofNat k))) &&& (((1 : Int64) <<< (((Int32.ofNat k)).toInt64 &&& 63)) - (1 : Int64)))), .second] [(.int (Int32.ofNat k)), (.long (Int64.ofNat f)), (.ref a)]))
  refine go_staticP X7 hx hZ hown (hw _ (List.mem_of_getElem? (i := 3) rfl)) (hw _ (List.mem_of_getElem? (i := 4) rfl)) (hw _ (List.mem_of_getElem? (i := 5) rfl)) (hw _ (List.mem_of_getElem? (i := 6) rfl)) (by decide) e7 [(.ref a), (.long (Int64.ofNat f)), (.int (Int32.ofNat k))] [] (r := (.int ((XT.ushr (own_w p0 (f / 8)) ((24 : Int32) - ((Int64.ofNat f) - (Int64.ofNat f / 8) * 8).toInt32 - Int32.ofNat k)) &&& (((1 : Int32) <<< (Int32.ofNat k &&& 31)) - 1)))) (rm1 l Z a0 hw [] a p0 f k h7 hf hk1 hk2 F) pd1 rfl (by rw [hml]; rfl) rfl 0 (Nat.le_of_eq rfl) (by decide) (by decide) rfl rfl (by decide) (by decide) (dc hby d0_121) (fun T8 X8 e8 => ?_)
  refine go_lload X8 hx (dc hby d0_124) (v := ((XT.ushrL (p0 &&& (-65536 : Int64)) (((64 : Int32) - ((Int64.ofNat f)).toInt32) - (Int32.ofNat k))) &&& (((1 : Int64) <<< (((Int32.ofNat k)).toInt64 &&& 63)) - (1 : Int64)))) rfl ?_
  refine go_l2i X8 hx (dc hby d0_126) ?_
  refine go_icmp_ne X8 hx (db hby d0_127) (fun c127 => ?_) (fun c127 => ?_)
  · exact absurd (own_main p0 hf hk1 hk2) c127
  · refine go_iconst X8 hx (1) (dc hby d0_130) rfl ?_
    refine go_goto X8 hx (db hby d0_131) ?_
    exact go_retN X8 hx hret (by simp) (dc hby d0_135) hk (by decide) (by decide) ⟨rfl, fun y hy => by
      simp at hy
      rcases hy with rfl | rfl | rfl | rfl | rfl | rfl <;> exact ha⟩
theorem pd0 : parseMethodDescriptor "(JII)Z" = some ⟨[.long, .int, .int], some .boolean⟩ := by decide +kernel
set_option maxRecDepth 65536 in
set_option maxHeartbeats 40000000 in
theorem comes_1 {Post : Tables → Env → Array Value → State → Outcome → State → Prop} (hpost : ∀ tb e args s v u, (limb_1_1.after args s (.returned v) u = true ∧ limb_1_2.after args s (.returned v) u = true ∧ True) → FrameEnd s (.returned v) u (Jvm.fieldLocs frame_1_writes args s ++ Jvm.arrayLocs frame_1_arrays args s ++ Jvm.staticLocs frame_1_statics s) 16 128 → Post tb e args s (.returned v) u) :
    ArmFor flags0 classFile x code maxLocals ret World_1 tables_1 room_1 Calls_1 rest_1 Pre_1 Post := by
  intro l hfl _ _ p e ha hc hk s m args below hf hA hF happ hP
  obtain ⟨hcalls, hrest, hpre⟩ := hP
  obtain ⟨-, -, -, hnamed, -, -, -, hat⟩ := (Spec.applies_iff hf).mp happ
  obtain ⟨hg, hn⟩ := and_e (Cond.before_iff.mp (show (Jvm.Cond.and given_1 narrow_1).before args s = true from hpre))
  obtain ⟨g1, g2⟩ := and_e hg
  obtain ⟨w0, w1, w2, rfl⟩ : ∃ w0 w1 w2 : Value, args = #[w0, w1, w2] := by
    have hs : args.size = 3 := by simpa [Cond.value, given_1] using g1
    obtain ⟨L⟩ := args
    match L, hs with
    | [w0, w1, w2], _ => exact ⟨w0, w1, w2, rfl⟩
  have hw := fun d (hd : d ∈ tables_1) => atoms_spec (ws := Jvm.Cond.code x code maxLocals ret :: tables_1) hat d (List.mem_cons_of_mem _ hd)
  have hfit : Fit s := fun {y c} hc i hi => by
    obtain ⟨ha, rfl⟩ := Array.getElem?_eq_some_iff.mp hc
    have q := List.all_eq_true.mp ((Array.all_eq_true_iff_forall_mem.mp hF) _ (Array.getElem_mem ha)) i (List.mem_range.mpr hi)
    simpa [Array.getElem?_eq_getElem hi] using q
  obtain ⟨u0, r0⟩ := and_e g2
  obtain ⟨i0, j0⟩ := isL_v u0
  obtain rfl : w0 = (.long i0) := Option.some.inj j0
  obtain ⟨u1, r1⟩ := and_e r0
  obtain ⟨i1, j1⟩ := is_v u1
  obtain rfl : w1 = (.int i1) := Option.some.inj j1
  obtain ⟨i2, j2⟩ := is_v r1
  obtain rfl : w2 = (.int i2) := Option.some.inj j2
  obtain ⟨n, o, h1, h2, h3, _, L, rfl, ⟨rfl, N⟩, hq⟩ := rm0 l s _ hw tables_1 i0 i1 i2  s.heap  p e ha hc hk s m _ below hf ((Spec.applies_iff_loose hf).mp happ).1 ⟨rfl, State.Warmed39.refl s, rfl⟩ trivial
  refine ⟨n, _, h1, h2, h3, hpost _ _ _ _ _ _ ⟨Cond.after_iff.mpr rfl, Cond.after_iff.mpr (eq_i res_at (Term.int_eval (1)) rfl), trivial⟩ ⟨hq.1, hq.2.1, (hq.2.2.sift fun y hy => Or.inr (N y hy)).mono (by decide) (by decide)⟩⟩
theorem main_1_1 : Claimed_1_1 := comes_1 fun _ _ _ _ _ _ h hF => ⟨h.1, hF⟩
theorem main_1_2 : Claimed_1_2 := comes_1 fun _ _ _ _ _ _ h hF => ⟨h.2.1, hF⟩
end Jvm.Pilot.@@N@@
namespace Jvm.Pilot.@@N@@
open Jvm Jvm.ClassFile Sem Op Lib Jvm.Free Jvm.Stand Jvm.Pilot.@@N@@.Jvm.D
/-! MADE BY PROGRAM (witnessworld.py) out of the Statement's table words and the real class files: 9 classes; the members and pool entries that the words name. The judged class is class 1, her method 1. -/
namespace start1
open Jvm.ClassFile
def u (s : String) : CpInfo := .utf8 (stringToUtf16 s)
/-- a pool by its gaps: so many unusable entries, then the entry; so many at the end -/
def gap : Nat → List CpInfo → List CpInfo
  | 0, r => r
  | n + 1, r => .unusable :: gap n r
def poolList (es : List (Nat × CpInfo)) (last : Nat) : List CpInfo := es.foldr (fun e r => gap e.1 (e.2 :: r)) (gap last [])
def pool (es : List (Nat × CpInfo)) (last : Nat) : Array CpInfo := ⟨poolList es last⟩
def fileOf (pool : Array CpInfo) (this : Nat) (attrs : Array Attribute := #[]) (ms : Array MethodInfo := #[]) (fl : Nat := 33) (sup : Nat := 0) (ifs : Array Nat := #[]) (fds : Array FieldInfo := #[]) : ClassFile where
  minorVersion := 0
  majorVersion := 65
  constantPool := pool
  accessFlags := fl
  thisClass := this
  superClass := sup
  interfaces := ifs
  fields := fds
  methods := ms
  attributes := attrs
def plain (name : String) (sup : Option ClassId) : Class where
  name := name
  kind := .ordinary
  loader := none
  accessFlags := 33
  super := sup
  interfaces := #[]
  cf := none
  fields := #[]
  methods := #[]
  instanceTypes := #[]
  staticTypes := #[]
  resolved := #[]
  callSites := []
  init := .initialized
  statics := none
  mirror := none

def pool0 : Array CpInfo := pool [(5, u "<init>"), (0, u "()V"), (1, .class_ 10), (1, u "java/lang/Object")] 113

def k0m0 : Method := { name := "<init>", desc := "()V", sig := { parameters := [], returnType := none }, accessFlags := 1, code := none }
/-- java/lang/Object -/
def k0 : Class := { plain "java/lang/Object" none with
  accessFlags := 33
  interfaces := #[]
  cf := some (fileOf pool0 8 #[] #[{ accessFlags := 1, nameIndex := 5, descriptorIndex := 6, attributes := #[] }] 33 0 #[] #[])
  fields := #[]
  methods := #[k0m0]
  instanceTypes := #[]
  staticTypes := #[]
  resolved := Array.replicate 124 none
  statics := none }

def pool1 : Array CpInfo := pool [(2, .class_ 4), (1, u "java/lang/Object"), (0, u "<init>"), (0, u "()V"), (0, .integer 2147483647), (0, .long 18446744073709486080), (1, .methodref 11 12), (0, .class_ 13), (0, .nameAndType 14 15), (0, u "com/example/filum/filum/image/StoredPage"), (0, u "bitsAt"), (0, u "([BJI)I"), (0, .class_ 17), (0, u "com/example/filum/filum/image/StoredPageBitsAtPinLaw"), (2, u "law"), (0, u "(JII)Z")] 5

def k1m0 : Method := { name := "<init>", desc := "()V", sig := { parameters := [], returnType := none }, accessFlags := 1, code := none }
def k1c1 : Code := { maxStack := 6, maxLocals := 12, code := code, exceptionTable := #[], attributes := #[] }
def k1m1 : Method := { name := "law", desc := "(JII)Z", sig := { parameters := [.long, .int, .int], returnType := some .boolean }, accessFlags := 9, code := some k1c1 }
/-- com/example/filum/filum/image/StoredPageBitsAtPinLaw -/
def k1 : Class := { plain "com/example/filum/filum/image/StoredPageBitsAtPinLaw" (some 0) with
  accessFlags := 49
  interfaces := #[]
  cf := some (fileOf pool1 16 #[] #[{ accessFlags := 1, nameIndex := 5, descriptorIndex := 6, attributes := #[] }, { accessFlags := 9, nameIndex := 20, descriptorIndex := 21, attributes := #[] }] 49 2 #[] #[])
  fields := #[]
  methods := #[k1m0, k1m1]
  instanceTypes := #[]
  staticTypes := #[]
  resolved := Array.replicate 27 none
  statics := none }

def pool2 : Array CpInfo := pool [(4, .class_ 6), (1, u "java/lang/Object"), (3, .class_ 12), (1, u "com/example/filum/filum/image/StoredPage"), (0, u "page"), (0, u "I"), (2, u "width"), (2, u "height"), (2, u "bitDepth"), (2, u "compression"), (0, u "Lcom/example/filum/filum/image/StoredPage$Compression;"), (2, u "differenced"), (0, u "Z"), (2, u "blockWidth"), (2, u "blockHeight"), (2, u "tiled"), (2, u "offsets"), (0, u "[J"), (2, u "lengths"), (10, .class_ 60), (1, u "com/example/filum/filum/image/StoredPage$Compression"), (110, .long 8), (61, .class_ 235), (1, u "com/example/filum/filum/image/StoredPage$Rows"), (43, u "bitsAt"), (0, u "([BJI)I"), (18, u "BYTE"), (2, u "SHORT"), (1, u "NONE"), (1, u "DIFFERENCES"), (1, u "GREATEST_TILE_SIDE")] 71

def k2c0 : Code := { maxStack := 6, maxLocals := 7, code := prog_115_method_14_code, exceptionTable := #[], attributes := #[] }
def k2m0 : Method := { name := "bitsAt", desc := "([BJI)I", sig := { parameters := [(.array .byte), .long, .int], returnType := some .int }, accessFlags := 8, code := some k2c0 }
/-- com/example/filum/filum/image/StoredPage -/
def k2 : Class := { plain "com/example/filum/filum/image/StoredPage" (some 0) with
  accessFlags := 32
  interfaces := #[]
  cf := some (fileOf pool2 10 #[.nestMembers #[233, 58]] #[{ accessFlags := 8, nameIndex := 279, descriptorIndex := 280, attributes := #[] }] 32 4 #[] #[{ accessFlags := 26, nameIndex := 299, descriptorIndex := 14, attributes := #[] }, { accessFlags := 26, nameIndex := 302, descriptorIndex := 14, attributes := #[] }, { accessFlags := 26, nameIndex := 304, descriptorIndex := 14, attributes := #[] }, { accessFlags := 26, nameIndex := 306, descriptorIndex := 14, attributes := #[] }, { accessFlags := 26, nameIndex := 308, descriptorIndex := 14, attributes := #[] }, { accessFlags := 18, nameIndex := 13, descriptorIndex := 14, attributes := #[] }, { accessFlags := 18, nameIndex := 17, descriptorIndex := 14, attributes := #[] }, { accessFlags := 18, nameIndex := 20, descriptorIndex := 14, attributes := #[] }, { accessFlags := 18, nameIndex := 23, descriptorIndex := 14, attributes := #[] }, { accessFlags := 18, nameIndex := 26, descriptorIndex := 27, attributes := #[] }, { accessFlags := 18, nameIndex := 30, descriptorIndex := 31, attributes := #[] }, { accessFlags := 18, nameIndex := 34, descriptorIndex := 14, attributes := #[] }, { accessFlags := 18, nameIndex := 37, descriptorIndex := 14, attributes := #[] }, { accessFlags := 18, nameIndex := 40, descriptorIndex := 31, attributes := #[] }, { accessFlags := 18, nameIndex := 43, descriptorIndex := 44, attributes := #[] }, { accessFlags := 18, nameIndex := 47, descriptorIndex := 44, attributes := #[] }])
  fields := #[{ name := "BYTE", type := .int, accessFlags := 26, slot := 0, constantValue := 0 }, { name := "SHORT", type := .int, accessFlags := 26, slot := 1, constantValue := 0 }, { name := "NONE", type := .int, accessFlags := 26, slot := 2, constantValue := 0 }, { name := "DIFFERENCES", type := .int, accessFlags := 26, slot := 3, constantValue := 0 }, { name := "GREATEST_TILE_SIDE", type := .int, accessFlags := 26, slot := 4, constantValue := 0 }, { name := "page", type := .int, accessFlags := 18, slot := 0, constantValue := 0 }, { name := "width", type := .int, accessFlags := 18, slot := 1, constantValue := 0 }, { name := "height", type := .int, accessFlags := 18, slot := 2, constantValue := 0 }, { name := "bitDepth", type := .int, accessFlags := 18, slot := 3, constantValue := 0 }, { name := "compression", type := (.object "com/example/filum/filum/image/StoredPage$Compression"), accessFlags := 18, slot := 4, constantValue := 0 }, { name := "differenced", type := .boolean, accessFlags := 18, slot := 5, constantValue := 0 }, { name := "blockWidth", type := .int, accessFlags := 18, slot := 6, constantValue := 0 }, { name := "blockHeight", type := .int, accessFlags := 18, slot := 7, constantValue := 0 }, { name := "tiled", type := .boolean, accessFlags := 18, slot := 8, constantValue := 0 }, { name := "offsets", type := (.array .long), accessFlags := 18, slot := 9, constantValue := 0 }, { name := "lengths", type := (.array .long), accessFlags := 18, slot := 10, constantValue := 0 }]
  methods := #[k2m0]
  instanceTypes := #[.int, .int, .int, .int, (.object "com/example/filum/filum/image/StoredPage$Compression"), .boolean, .int, .int, .boolean, (.array .long), (.array .long)]
  staticTypes := #[.int, .int, .int, .int, .int]
  resolved := Array.replicate 380 none
  statics := none }

def pool3 : Array CpInfo := pool [(1, u "java/lang/Cloneable"), (0, .class_ 1), (0, u "java/lang/Object"), (0, .class_ 3)] 3

/-- java/lang/Cloneable -/
def k3 : Class := { plain "java/lang/Cloneable" (some 0) with
  accessFlags := 1537
  interfaces := #[]
  cf := some (fileOf pool3 2 #[] #[] 1537 4 #[] #[])
  fields := #[]
  methods := #[]
  instanceTypes := #[]
  staticTypes := #[]
  resolved := Array.replicate 8 none
  statics := none }

def pool4 : Array CpInfo := pool [(1, u "java/io/Serializable"), (0, .class_ 1), (0, u "java/lang/Object"), (0, .class_ 3)] 3

/-- java/io/Serializable -/
def k4 : Class := { plain "java/io/Serializable" (some 0) with
  accessFlags := 1537
  interfaces := #[]
  cf := some (fileOf pool4 2 #[] #[] 1537 4 #[] #[])
  fields := #[]
  methods := #[]
  instanceTypes := #[]
  staticTypes := #[]
  resolved := Array.replicate 8 none
  statics := none }

/-- the primitive byte -/
def k5 : Class := { plain "byte" none with kind := .primitive 'B', accessFlags := 0x411 }
/-- [B -/
def k6 : Class := { plain "[B" (some 0) with kind := .array 5 .byte, interfaces := #[3, 4], accessFlags := 1041 }

/-- the primitive int -/
def k7 : Class := { plain "int" none with kind := .primitive 'I', accessFlags := 0x411 }
/-- [I -/
def k8 : Class := { plain "[I" (some 0) with kind := .array 7 .int, interfaces := #[3, 4], accessFlags := 1041 }

def heap : Heap := #[]
def classes : Array Class := #[k0, k1, k2, k3, k4, k5, k6, k7, k8]
def interned : List (Array UInt16 × Addr) := []
def slotsUsed : Nat := 0
def theMethod : MethodId := ⟨1, 1⟩
def args0 : Array Value := #[.long 81985529216486895, .int 5, .int 9]
def aboutOver (below : List Frame) : State where
  vm := { classes := classes, interned := interned.toArray }
  heap := heap
  slotsUsed := slotsUsed
  threads := #[{ frames := .invoking theMethod args0 :: below }]
def below0 : List Frame := [.native { method := ⟨0, 0⟩, args := #[] }]
def about1 : State := aboutOver below0
def p0 : Program := .bare "" "" ""
def e0 : Env := launch0.env 0 0 0
theorem w_frames : about1.frames = Frame.invoking theMethod args0 :: below0 := rfl
set_option maxRecDepth 65536 in
theorem w_args : argsFit about1.vm theMethod args0 = true := by decide +kernel
set_option maxRecDepth 65536 in
theorem w_heap : heapFits about1 = true := by decide +kernel
set_option maxRecDepth 65536 in
theorem w_runnable : about1.curStatus? = some .runnable := by decide +kernel
set_option maxRecDepth 65536 in
theorem w_alone : about1.alone = true := by decide +kernel
set_option maxRecDepth 65536 in
theorem w_named : about1.methodNamed? x = some theMethod := by decide +kernel
set_option maxRecDepth 65536 in
theorem w_hears : about1.hears theMethod below0 = true := by decide +kernel
set_option maxRecDepth 65536 in
theorem w_ripe : about1.ripe theMethod args0 below0 = true := by decide +kernel
theorem w_running : about1.status = .running := rfl
set_option maxRecDepth 65536 in
theorem w_room : about1.hasRoom e0.platform room_1 = true :=
  launch0.hasRoom_least _ room_1 (by decide +kernel) (by decide +kernel) (by decide +kernel) (by decide +kernel) (by decide +kernel) (by decide +kernel)
theorem allAtoms_all (ts : List Jvm.Cond) (a : Array Jvm.Value) (st : Jvm.State) : (allAtoms ts).before a st = ts.all (fun c => c.before a st) := by
  induction ts with
  | nil => rfl
  | cons c t ih =>
    show (Jvm.Cond.and c (allAtoms t)).before a st = _
    rw [Jvm.Cond.before_and, ih, List.all_cons]
def words1 : List Jvm.Cond := Jvm.Cond.code x code maxLocals ret :: tables_1
/-- a 'code' word, met by the world's own term for the bytes: nothing is compared byte by byte -/
theorem code_word {y : MethodName} {bytes : ByteArray} {mx : Nat} {rt : Option FieldType} {a : Array Value} {s : State} {m : MethodId} {meth : Method} {c : Code} (h1 : s.methodNamed? y = some m) (h2 : s.vm.method? m = some meth) (h3 : meth.code = some c) (h4 : c.code = bytes)
    (h5 : (c.maxLocals == mx && c.exceptionTable.isEmpty && decide (c.maxStack ≤ mostOperands) && decide (meth.sig.returnType = rt) && !meth.locks && decide (parseMethodDescriptor y.desc = some meth.sig)) = true) : (Jvm.Cond.code y bytes mx rt).before a s = true := by
  simp only [Bool.and_eq_true, beq_iff_eq, Bool.not_eq_true', decide_eq_true_eq] at h5
  obtain ⟨⟨⟨⟨⟨g1, g2⟩, g3⟩, g4⟩, g5⟩, g6⟩ := h5
  simp [Cond.before, Cond.holds, Cond.value, h1, h2, h3, h4, g1, g2, g3, g4, g5, g6]
def isCode : Jvm.Cond → Bool
  | .code _ _ _ _ => true
  | _ => false
theorem all_split {L : List Jvm.Cond} {P : Jvm.Cond → Bool} (h1 : L.all (fun c => isCode c || P c) = true) (h2 : ∀ c ∈ L.filter isCode, P c = true) : L.all P = true := by
  refine List.all_eq_true.mpr fun c hc => ?_
  have h := List.all_eq_true.mp h1 c hc
  rcases Bool.eq_false_or_eq_true (isCode c) with hi | hi
  · exact h2 c (List.mem_filter.mpr ⟨hc, hi⟩)
  · simpa [hi] using h
set_option maxRecDepth 65536 in
theorem w_c0 : (Jvm.Cond.code x code maxLocals ret).before args0 about1 = true := code_word (m := ⟨1, 1⟩) (meth := k1m1) (c := k1c1) (by decide +kernel) rfl rfl rfl (by decide +kernel)
set_option maxRecDepth 65536 in
theorem w_c1 : (Jvm.Cond.code ({ cls := "com/example/filum/filum/image/StoredPage", name := "bitsAt", desc := "([BJI)I" } : Jvm.MethodName) prog_115_method_14_code (7 : Nat) (Option.some Jvm.ClassFile.FieldType.int)).before args0 about1 = true := code_word (m := ⟨2, 0⟩) (meth := k2m0) (c := k2c0) (by decide +kernel) rfl rfl rfl (by decide +kernel)
def codes1 : List Jvm.Cond := [Jvm.Cond.code x code maxLocals ret, Jvm.Cond.code ({ cls := "com/example/filum/filum/image/StoredPage", name := "bitsAt", desc := "([BJI)I" } : Jvm.MethodName) prog_115_method_14_code (7 : Nat) (Option.some Jvm.ClassFile.FieldType.int)]
set_option maxRecDepth 65536 in
theorem codes_eq : words1.filter isCode = codes1 := rfl
theorem w_codes : ∀ c ∈ words1.filter isCode, c.before args0 about1 = true := by
  rw [codes_eq]
  intro c hc
  simp only [codes1, List.mem_cons, List.not_mem_nil, or_false] at hc
  rcases hc with rfl | rfl
  · exact w_c0
  · exact w_c1
set_option maxRecDepth 65536 in
theorem w_t1 : words1.all (fun c => isCode c || c.before args0 about1) = true := by decide +kernel
theorem w_tables : (allAtoms (Jvm.Cond.code x code maxLocals ret :: tables_1)).before args0 about1 = true := by
  rw [allAtoms_all]
  show words1.all (fun c => c.before args0 about1) = true
  refine all_split ?_ w_codes
  rw [w_t1]
set_option maxRecDepth 65536 in
theorem w_case : (Jvm.Cond.and given_1 narrow_1).before args0 about1 = true := by decide +kernel
theorem w_applies : (headSpec (Jvm.Cond.code x code maxLocals ret :: tables_1) room_1).applies x e0.platform about1 = true :=
  (Spec.applies_iff w_frames).mpr ⟨w_running, w_runnable, w_alone, w_named, w_hears, w_ripe, w_room, w_tables⟩
theorem atStart : AtStart classFile x code maxLocals ret World_1 tables_1 room_1 Calls_1 rest_1 Pre_1 launch0 p0 e0 about1 theMethod args0 below0 :=
  ⟨lists_1, trivial, launch0.admits_env _ _ _, launch0.least_env, fairChoices_fair.cas, fairChoices_fair.clock, w_frames, w_args, w_heap, w_applies, trivial, trivial, w_case⟩
end start1
theorem witness_1 : WitnessClaimed_1 := ⟨start1.p0, start1.e0, start1.about1, start1.theMethod, start1.args0, start1.below0, start1.atStart⟩
end Jvm.Pilot.@@N@@
