import JvmDerived
import JvmDerived.Pilot.@@N@@Statement
import JvmDerived.Pilot.@@N@@Code
set_option linter.unusedVariables false
set_option linter.unusedSimpArgs false
namespace Jvm.Pilot.@@N@@
open Jvm Jvm.ClassFile Sem Op Lib Jvm.Free Jvm.Stand Jvm.LawKit Jvm.RoadKit Bundle Jvm.Pilot.@@N@@.Jvm.D
section OwnGo
variable {p : Program} {l : Launch} {e : Env} {R : Room} {s : State} {m : MethodId} {args : Array Value} {below : List Frame} {meth : Method} {c : Code} {T : State} {locs : List Loc} {cells slots : Nat} {Q : Option Value → Heap → List Loc → Prop} {rc rs : Nat} {Ls : Array Slot} {st : List Value} {pc pc' pt : Nat} {Z : State} {a0 : Array Value} {h : Heap} {En : Outcome → State → Prop}
def Go (p : Program) (e : Env) (below : List Frame) (En : Outcome → State → Prop) (S : State) : Prop := ∃ s₂ o, Steps p.tables e below S s₂ ∧ s₂.status = .running ∧ Ended s₂ below o ∧ En o s₂
def EndN (s : State) (Q : Option Value → Heap → List Loc → Prop) (rc rs : Nat) (o : Outcome) (s₂ : State) : Prop := ∃ v L, o = .returned v ∧ Q v s₂.heap L ∧ FrameEnd s o s₂ L rc rs
def EndW (s : State) (Q : Option Value → Heap → List Loc → Prop) (rc rs : Nat) (o : Outcome) (s₂ : State) : Prop := ∃ v L, o = .returned v ∧ Q v s₂.heap L ∧ ReturnedEndW s o s₂ L rc rs
theorem own_via {S S' : State} (q : ∀ t, Steps p.tables e below S' t → Steps p.tables e below S t) (k : Go p e below En S') : Go p e below En S := by
  obtain ⟨t, o, h1, h2⟩ := k
  exact ⟨t, o, q _ h1, h2⟩
def Dec (b : ByteArray) (pc : Nat) (i : Instr) (n pc' : Nat) : Prop := decode b pc = .ok (i, n) ∧ pc + n = pc'
def DecB (b : ByteArray) (pc : Nat) (i : Instr) (o : Int) (pF pT : Nat) : Prop := decode b pc = .ok (i, 3) ∧ pc + 3 = pF ∧ 0 ≤ (pc : Int) + o ∧ ((pc : Int) + o).toNat = pT
theorem dc {b : ByteArray} {i : Instr} {n : Nat} (q : c.code = b) (k : Dec b pc i n pc') : Dec c.code pc i n pc' := q ▸ k
theorem db {b : ByteArray} {i : Instr} {o : Int} (q : c.code = b) (k : DecB b pc i o pc' pt) : DecB c.code pc i o pc' pt := q ▸ k
theorem go_iadd (X : Stand p l e R s m args below meth c T locs cells slots) (hx : p.tables.exec = Jvm.exec) {x y : Int32} (hd : Dec c.code pc (.iadd) 1 pc') (k : Go p e below En (T.setTop (mkF m pc' Ls (.int (x + y) :: st)))) : Go p e below En (T.setTop (mkF m pc Ls (.int y :: .int x :: st))) := by
  obtain ⟨hd, rfl⟩ := hd
  exact own_via (fun t => XS.iadd X.here hx rfl hd rfl) k
theorem go_isub (X : Stand p l e R s m args below meth c T locs cells slots) (hx : p.tables.exec = Jvm.exec) {x y : Int32} (hd : Dec c.code pc (.isub) 1 pc') (k : Go p e below En (T.setTop (mkF m pc' Ls (.int (x - y) :: st)))) : Go p e below En (T.setTop (mkF m pc Ls (.int y :: .int x :: st))) := by
  obtain ⟨hd, rfl⟩ := hd
  exact own_via (fun t => XS.isub X.here hx rfl hd rfl) k
theorem go_imul (X : Stand p l e R s m args below meth c T locs cells slots) (hx : p.tables.exec = Jvm.exec) {x y : Int32} (hd : Dec c.code pc (.imul) 1 pc') (k : Go p e below En (T.setTop (mkF m pc' Ls (.int (x * y) :: st)))) : Go p e below En (T.setTop (mkF m pc Ls (.int y :: .int x :: st))) := by
  obtain ⟨hd, rfl⟩ := hd
  exact own_via (fun t => XS.imul X.here hx rfl hd rfl) k
theorem go_iand (X : Stand p l e R s m args below meth c T locs cells slots) (hx : p.tables.exec = Jvm.exec) {x y : Int32} (hd : Dec c.code pc (.iand) 1 pc') (k : Go p e below En (T.setTop (mkF m pc' Ls (.int (x &&& y) :: st)))) : Go p e below En (T.setTop (mkF m pc Ls (.int y :: .int x :: st))) := by
  obtain ⟨hd, rfl⟩ := hd
  exact own_via (fun t => XS.iand X.here hx rfl hd rfl) k
theorem go_ior (X : Stand p l e R s m args below meth c T locs cells slots) (hx : p.tables.exec = Jvm.exec) {x y : Int32} (hd : Dec c.code pc (.ior) 1 pc') (k : Go p e below En (T.setTop (mkF m pc' Ls (.int (x ||| y) :: st)))) : Go p e below En (T.setTop (mkF m pc Ls (.int y :: .int x :: st))) := by
  obtain ⟨hd, rfl⟩ := hd
  exact own_via (fun t => XT.ior X.here hx rfl hd rfl) k
theorem go_ixor (X : Stand p l e R s m args below meth c T locs cells slots) (hx : p.tables.exec = Jvm.exec) {x y : Int32} (hd : Dec c.code pc (.ixor) 1 pc') (k : Go p e below En (T.setTop (mkF m pc' Ls (.int (x ^^^ y) :: st)))) : Go p e below En (T.setTop (mkF m pc Ls (.int y :: .int x :: st))) := by
  obtain ⟨hd, rfl⟩ := hd
  exact own_via (fun t => XT.ixor X.here hx rfl hd rfl) k
theorem go_ishl (X : Stand p l e R s m args below meth c T locs cells slots) (hx : p.tables.exec = Jvm.exec) {x y : Int32} (hd : Dec c.code pc (.ishl) 1 pc') (k : Go p e below En (T.setTop (mkF m pc' Ls (.int (x <<< (y &&& 31)) :: st)))) : Go p e below En (T.setTop (mkF m pc Ls (.int y :: .int x :: st))) := by
  obtain ⟨hd, rfl⟩ := hd
  exact own_via (fun t => XT.ishl X.here hx rfl hd rfl) k
theorem go_ishr (X : Stand p l e R s m args below meth c T locs cells slots) (hx : p.tables.exec = Jvm.exec) {x y : Int32} (hd : Dec c.code pc (.ishr) 1 pc') (k : Go p e below En (T.setTop (mkF m pc' Ls (.int (x >>> (y &&& 31)) :: st)))) : Go p e below En (T.setTop (mkF m pc Ls (.int y :: .int x :: st))) := by
  obtain ⟨hd, rfl⟩ := hd
  exact own_via (fun t => XT.ishr X.here hx rfl hd rfl) k
theorem go_iushr (X : Stand p l e R s m args below meth c T locs cells slots) (hx : p.tables.exec = Jvm.exec) {x y : Int32} (hd : Dec c.code pc (.iushr) 1 pc') (k : Go p e below En (T.setTop (mkF m pc' Ls (.int (XT.ushr x y) :: st)))) : Go p e below En (T.setTop (mkF m pc Ls (.int y :: .int x :: st))) := by
  obtain ⟨hd, rfl⟩ := hd
  exact own_via (fun t => XT.iushr X.here hx rfl hd rfl) k
theorem go_idiv (X : Stand p l e R s m args below meth c T locs cells slots) (hx : p.tables.exec = Jvm.exec) {x y : Int32} (hd : Dec c.code pc (.idiv) 1 pc') (hy : y ≠ 0) (k : Go p e below En (T.setTop (mkF m pc' Ls (.int (x / y) :: st)))) : Go p e below En (T.setTop (mkF m pc Ls (.int y :: .int x :: st))) := by
  obtain ⟨hd, rfl⟩ := hd
  exact own_via (fun t => XS.idiv X.here hx rfl hd rfl hy) k
theorem go_irem (X : Stand p l e R s m args below meth c T locs cells slots) (hx : p.tables.exec = Jvm.exec) {x y : Int32} (hd : Dec c.code pc (.irem) 1 pc') (hy : y ≠ 0) (k : Go p e below En (T.setTop (mkF m pc' Ls (.int (x % y) :: st)))) : Go p e below En (T.setTop (mkF m pc Ls (.int y :: .int x :: st))) := by
  obtain ⟨hd, rfl⟩ := hd
  exact own_via (fun t => iremM X hx rfl hd rfl hy) k
theorem go_ineg (X : Stand p l e R s m args below meth c T locs cells slots) (hx : p.tables.exec = Jvm.exec) {x : Int32} (hd : Dec c.code pc (.ineg) 1 pc') (k : Go p e below En (T.setTop (mkF m pc' Ls (.int (-x) :: st)))) : Go p e below En (T.setTop (mkF m pc Ls (.int x :: st))) := by
  obtain ⟨hd, rfl⟩ := hd
  exact own_via (fun t => XS.ineg X.here hx rfl hd rfl) k
theorem go_ladd (X : Stand p l e R s m args below meth c T locs cells slots) (hx : p.tables.exec = Jvm.exec) {x y : Int64} (hd : Dec c.code pc (.ladd) 1 pc') (k : Go p e below En (T.setTop (mkF m pc' Ls (.long (x + y) :: st)))) : Go p e below En (T.setTop (mkF m pc Ls (.long y :: .long x :: st))) := by
  obtain ⟨hd, rfl⟩ := hd
  exact own_via (fun t => XT.ladd X.here hx rfl hd rfl) k
theorem go_lsub (X : Stand p l e R s m args below meth c T locs cells slots) (hx : p.tables.exec = Jvm.exec) {x y : Int64} (hd : Dec c.code pc (.lsub) 1 pc') (k : Go p e below En (T.setTop (mkF m pc' Ls (.long (x - y) :: st)))) : Go p e below En (T.setTop (mkF m pc Ls (.long y :: .long x :: st))) := by
  obtain ⟨hd, rfl⟩ := hd
  exact own_via (fun t => XT.lsub X.here hx rfl hd rfl) k
theorem go_lmul (X : Stand p l e R s m args below meth c T locs cells slots) (hx : p.tables.exec = Jvm.exec) {x y : Int64} (hd : Dec c.code pc (.lmul) 1 pc') (k : Go p e below En (T.setTop (mkF m pc' Ls (.long (x * y) :: st)))) : Go p e below En (T.setTop (mkF m pc Ls (.long y :: .long x :: st))) := by
  obtain ⟨hd, rfl⟩ := hd
  exact own_via (fun t => XT.lmul X.here hx rfl hd rfl) k
theorem go_land (X : Stand p l e R s m args below meth c T locs cells slots) (hx : p.tables.exec = Jvm.exec) {x y : Int64} (hd : Dec c.code pc (.land) 1 pc') (k : Go p e below En (T.setTop (mkF m pc' Ls (.long (x &&& y) :: st)))) : Go p e below En (T.setTop (mkF m pc Ls (.long y :: .long x :: st))) := by
  obtain ⟨hd, rfl⟩ := hd
  exact own_via (fun t => XT.land X.here hx rfl hd rfl) k
theorem go_lor (X : Stand p l e R s m args below meth c T locs cells slots) (hx : p.tables.exec = Jvm.exec) {x y : Int64} (hd : Dec c.code pc (.lor) 1 pc') (k : Go p e below En (T.setTop (mkF m pc' Ls (.long (x ||| y) :: st)))) : Go p e below En (T.setTop (mkF m pc Ls (.long y :: .long x :: st))) := by
  obtain ⟨hd, rfl⟩ := hd
  exact own_via (fun t => XT.lor X.here hx rfl hd rfl) k
theorem go_lxor (X : Stand p l e R s m args below meth c T locs cells slots) (hx : p.tables.exec = Jvm.exec) {x y : Int64} (hd : Dec c.code pc (.lxor) 1 pc') (k : Go p e below En (T.setTop (mkF m pc' Ls (.long (x ^^^ y) :: st)))) : Go p e below En (T.setTop (mkF m pc Ls (.long y :: .long x :: st))) := by
  obtain ⟨hd, rfl⟩ := hd
  exact own_via (fun t => XT.lxor X.here hx rfl hd rfl) k
theorem go_lshl (X : Stand p l e R s m args below meth c T locs cells slots) (hx : p.tables.exec = Jvm.exec) {x : Int64} {y : Int32} (hd : Dec c.code pc (.lshl) 1 pc') (k : Go p e below En (T.setTop (mkF m pc' Ls (.long (x <<< (y.toInt64 &&& 63)) :: st)))) : Go p e below En (T.setTop (mkF m pc Ls (.int y :: .long x :: st))) := by
  obtain ⟨hd, rfl⟩ := hd
  exact own_via (fun t => XT.lshl X.here hx rfl hd rfl) k
theorem go_lshr (X : Stand p l e R s m args below meth c T locs cells slots) (hx : p.tables.exec = Jvm.exec) {x : Int64} {y : Int32} (hd : Dec c.code pc (.lshr) 1 pc') (k : Go p e below En (T.setTop (mkF m pc' Ls (.long (x >>> (y.toInt64 &&& 63)) :: st)))) : Go p e below En (T.setTop (mkF m pc Ls (.int y :: .long x :: st))) := by
  obtain ⟨hd, rfl⟩ := hd
  exact own_via (fun t => XT.lshr X.here hx rfl hd rfl) k
theorem go_lushr (X : Stand p l e R s m args below meth c T locs cells slots) (hx : p.tables.exec = Jvm.exec) {x : Int64} {y : Int32} (hd : Dec c.code pc (.lushr) 1 pc') (k : Go p e below En (T.setTop (mkF m pc' Ls (.long (XT.ushrL x y) :: st)))) : Go p e below En (T.setTop (mkF m pc Ls (.int y :: .long x :: st))) := by
  obtain ⟨hd, rfl⟩ := hd
  exact own_via (fun t => XT.lushr X.here hx rfl hd rfl) k
theorem go_ldiv (X : Stand p l e R s m args below meth c T locs cells slots) (hx : p.tables.exec = Jvm.exec) {x y : Int64} (hd : Dec c.code pc (.ldiv) 1 pc') (hy : y ≠ 0) (k : Go p e below En (T.setTop (mkF m pc' Ls (.long (x / y) :: st)))) : Go p e below En (T.setTop (mkF m pc Ls (.long y :: .long x :: st))) := by
  obtain ⟨hd, rfl⟩ := hd
  exact own_via (fun t => XT.ldiv X.here hx rfl hd rfl hy) k
theorem go_lrem (X : Stand p l e R s m args below meth c T locs cells slots) (hx : p.tables.exec = Jvm.exec) {x y : Int64} (hd : Dec c.code pc (.lrem) 1 pc') (hy : y ≠ 0) (k : Go p e below En (T.setTop (mkF m pc' Ls (.long (x - (x / y) * y) :: st)))) : Go p e below En (T.setTop (mkF m pc Ls (.long y :: .long x :: st))) := by
  obtain ⟨hd, rfl⟩ := hd
  exact own_via (fun t => XT.lrem X.here hx rfl hd rfl hy) k
theorem go_lneg (X : Stand p l e R s m args below meth c T locs cells slots) (hx : p.tables.exec = Jvm.exec) {x : Int64} (hd : Dec c.code pc (.lneg) 1 pc') (k : Go p e below En (T.setTop (mkF m pc' Ls (.long (-x) :: st)))) : Go p e below En (T.setTop (mkF m pc Ls (.long x :: st))) := by
  obtain ⟨hd, rfl⟩ := hd
  exact own_via (fun t => XT.lneg X.here hx rfl hd rfl) k
theorem go_lcmp (X : Stand p l e R s m args below meth c T locs cells slots) (hx : p.tables.exec = Jvm.exec) {x y : Int64} (hd : Dec c.code pc (.lcmp) 1 pc') (k : Go p e below En (T.setTop (mkF m pc' Ls (.int (XT.cmpL x y) :: st)))) : Go p e below En (T.setTop (mkF m pc Ls (.long y :: .long x :: st))) := by
  obtain ⟨hd, rfl⟩ := hd
  exact own_via (fun t => XT.lcmp X.here hx rfl hd rfl) k
theorem go_i2l (X : Stand p l e R s m args below meth c T locs cells slots) (hx : p.tables.exec = Jvm.exec) {x : Int32} (hd : Dec c.code pc (.i2l) 1 pc') (k : Go p e below En (T.setTop (mkF m pc' Ls (.long x.toInt64 :: st)))) : Go p e below En (T.setTop (mkF m pc Ls (.int x :: st))) := by
  obtain ⟨hd, rfl⟩ := hd
  exact own_via (fun t => XT.i2l X.here hx rfl hd rfl) k
theorem go_l2i (X : Stand p l e R s m args below meth c T locs cells slots) (hx : p.tables.exec = Jvm.exec) {x : Int64} (hd : Dec c.code pc (.l2i) 1 pc') (k : Go p e below En (T.setTop (mkF m pc' Ls (.int x.toInt32 :: st)))) : Go p e below En (T.setTop (mkF m pc Ls (.long x :: st))) := by
  obtain ⟨hd, rfl⟩ := hd
  exact own_via (fun t => XT.l2i X.here hx rfl hd rfl) k
theorem go_i2b (X : Stand p l e R s m args below meth c T locs cells slots) (hx : p.tables.exec = Jvm.exec) {x : Int32} (hd : Dec c.code pc (.i2b) 1 pc') (k : Go p e below En (T.setTop (mkF m pc' Ls (.int x.toInt8.toInt32 :: st)))) : Go p e below En (T.setTop (mkF m pc Ls (.int x :: st))) := by
  obtain ⟨hd, rfl⟩ := hd
  exact own_via (fun t => XT.i2b X.here hx rfl hd rfl) k
theorem go_i2c (X : Stand p l e R s m args below meth c T locs cells slots) (hx : p.tables.exec = Jvm.exec) {x : Int32} (hd : Dec c.code pc (.i2c) 1 pc') (k : Go p e below En (T.setTop (mkF m pc' Ls (.int x.toUInt32.toUInt16.toUInt32.toInt32 :: st)))) : Go p e below En (T.setTop (mkF m pc Ls (.int x :: st))) := by
  obtain ⟨hd, rfl⟩ := hd
  exact own_via (fun t => XT.i2c X.here hx rfl hd rfl) k
theorem go_i2s (X : Stand p l e R s m args below meth c T locs cells slots) (hx : p.tables.exec = Jvm.exec) {x : Int32} (hd : Dec c.code pc (.i2s) 1 pc') (k : Go p e below En (T.setTop (mkF m pc' Ls (.int x.toInt16.toInt32 :: st)))) : Go p e below En (T.setTop (mkF m pc Ls (.int x :: st))) := by
  obtain ⟨hd, rfl⟩ := hd
  exact own_via (fun t => XT.i2s X.here hx rfl hd rfl) k
theorem go_iloadn (X : Stand p l e R s m args below meth c T locs cells slots) (hx : p.tables.exec = Jvm.exec) {k : Fin 4} {v : Int32} (hd : Dec c.code pc (.iload_n k) 1 pc') (hl : Ls[k.val]? = some (.val (.int v))) (k : Go p e below En (T.setTop (mkF m pc' Ls (.int v :: st)))) : Go p e below En (T.setTop (mkF m pc Ls st)) := by
  obtain ⟨hd, rfl⟩ := hd
  exact own_via (fun t => XS.iloadN X.here hx rfl hd hl) k
theorem go_iload (X : Stand p l e R s m args below meth c T locs cells slots) (hx : p.tables.exec = Jvm.exec) {k : Nat} {v : Int32} (hd : Dec c.code pc (.iload k) 2 pc') (hl : Ls[k]? = some (.val (.int v))) (k : Go p e below En (T.setTop (mkF m pc' Ls (.int v :: st)))) : Go p e below En (T.setTop (mkF m pc Ls st)) := by
  obtain ⟨hd, rfl⟩ := hd
  exact own_via (fun t => XS.iload X.here hx rfl hd hl) k
theorem go_lloadn (X : Stand p l e R s m args below meth c T locs cells slots) (hx : p.tables.exec = Jvm.exec) {k : Fin 4} {v : Int64} (hd : Dec c.code pc (.lload_n k) 1 pc') (hl : Ls[k.val]? = some (.val (.long v))) (k : Go p e below En (T.setTop (mkF m pc' Ls (.long v :: st)))) : Go p e below En (T.setTop (mkF m pc Ls st)) := by
  obtain ⟨hd, rfl⟩ := hd
  exact own_via (fun t => XT.lloadN X.here hx rfl hd hl) k
theorem go_lload (X : Stand p l e R s m args below meth c T locs cells slots) (hx : p.tables.exec = Jvm.exec) {k : Nat} {v : Int64} (hd : Dec c.code pc (.lload k) 2 pc') (hl : Ls[k]? = some (.val (.long v))) (k : Go p e below En (T.setTop (mkF m pc' Ls (.long v :: st)))) : Go p e below En (T.setTop (mkF m pc Ls st)) := by
  obtain ⟨hd, rfl⟩ := hd
  exact own_via (fun t => XT.lload X.here hx rfl hd hl) k
theorem go_aloadn (X : Stand p l e R s m args below meth c T locs cells slots) (hx : p.tables.exec = Jvm.exec) {k : Fin 4} {v : Value} (hd : Dec c.code pc (.aload_n k) 1 pc') (hl : Ls[k.val]? = some (.val v)) (hv : v.isRef = true) (k : Go p e below En (T.setTop (mkF m pc' Ls (v :: st)))) : Go p e below En (T.setTop (mkF m pc Ls st)) := by
  obtain ⟨hd, rfl⟩ := hd
  exact own_via (fun t => XS.aloadN X.here hx rfl hd hl hv) k
theorem go_aload (X : Stand p l e R s m args below meth c T locs cells slots) (hx : p.tables.exec = Jvm.exec) {k : Nat} {v : Value} (hd : Dec c.code pc (.aload k) 2 pc') (hl : Ls[k]? = some (.val v)) (hv : v.isRef = true) (k : Go p e below En (T.setTop (mkF m pc' Ls (v :: st)))) : Go p e below En (T.setTop (mkF m pc Ls st)) := by
  obtain ⟨hd, rfl⟩ := hd
  exact own_via (fun t => XS.aload X.here hx rfl hd hl hv) k
theorem go_istoren (X : Stand p l e R s m args below meth c T locs cells slots) (hx : p.tables.exec = Jvm.exec) {k : Fin 4} {x : Int32} (Ls' : Array Slot) (hd : Dec c.code pc (.istore_n k) 1 pc') (hl : storeLocals Ls k.val (.int x) = some Ls') (k : Go p e below En (T.setTop (mkF m pc' Ls' st))) : Go p e below En (T.setTop (mkF m pc Ls (.int x :: st))) := by
  obtain ⟨hd, rfl⟩ := hd
  exact own_via (fun t => XS.istoreN X.here hx rfl hd rfl hl) k
theorem go_istore (X : Stand p l e R s m args below meth c T locs cells slots) (hx : p.tables.exec = Jvm.exec) {k : Nat} {x : Int32} (Ls' : Array Slot) (hd : Dec c.code pc (.istore k) 2 pc') (hl : storeLocals Ls k (.int x) = some Ls') (k : Go p e below En (T.setTop (mkF m pc' Ls' st))) : Go p e below En (T.setTop (mkF m pc Ls (.int x :: st))) := by
  obtain ⟨hd, rfl⟩ := hd
  exact own_via (fun t => XS.istore X.here hx rfl hd rfl hl) k
theorem go_lstoren (X : Stand p l e R s m args below meth c T locs cells slots) (hx : p.tables.exec = Jvm.exec) {k : Fin 4} {x : Int64} (Ls' : Array Slot) (hd : Dec c.code pc (.lstore_n k) 1 pc') (hl : storeLocals Ls k.val (.long x) = some Ls') (k : Go p e below En (T.setTop (mkF m pc' Ls' st))) : Go p e below En (T.setTop (mkF m pc Ls (.long x :: st))) := by
  obtain ⟨hd, rfl⟩ := hd
  exact own_via (fun t => XT.lstoreN X.here hx rfl hd rfl hl) k
theorem go_lstore (X : Stand p l e R s m args below meth c T locs cells slots) (hx : p.tables.exec = Jvm.exec) {k : Nat} {x : Int64} (Ls' : Array Slot) (hd : Dec c.code pc (.lstore k) 2 pc') (hl : storeLocals Ls k (.long x) = some Ls') (k : Go p e below En (T.setTop (mkF m pc' Ls' st))) : Go p e below En (T.setTop (mkF m pc Ls (.long x :: st))) := by
  obtain ⟨hd, rfl⟩ := hd
  exact own_via (fun t => XT.lstore X.here hx rfl hd rfl hl) k
theorem go_astoren (X : Stand p l e R s m args below meth c T locs cells slots) (hx : p.tables.exec = Jvm.exec) {k : Fin 4} {x : Value} (Ls' : Array Slot) (hd : Dec c.code pc (.astore_n k) 1 pc') (hv : x.isRef = true) (hl : storeLocals Ls k.val (x) = some Ls') (k : Go p e below En (T.setTop (mkF m pc' Ls' st))) : Go p e below En (T.setTop (mkF m pc Ls (x :: st))) := by
  obtain ⟨hd, rfl⟩ := hd
  exact own_via (fun t => XS.astoreN X.here hx rfl hd rfl hv hl) k
theorem go_astore (X : Stand p l e R s m args below meth c T locs cells slots) (hx : p.tables.exec = Jvm.exec) {k : Nat} {x : Value} (Ls' : Array Slot) (hd : Dec c.code pc (.astore k) 2 pc') (hv : x.isRef = true) (hl : storeLocals Ls k (x) = some Ls') (k : Go p e below En (T.setTop (mkF m pc' Ls' st))) : Go p e below En (T.setTop (mkF m pc Ls (x :: st))) := by
  obtain ⟨hd, rfl⟩ := hd
  exact own_via (fun t => XS.astore X.here hx rfl hd rfl hv hl) k
theorem go_iconst (X : Stand p l e R s m args below meth c T locs cells slots) (hx : p.tables.exec = Jvm.exec) {i : Int} (v : Int32) (hd : Dec c.code pc (.iconst i) 1 pc') (hv : Int32.ofInt i = v) (k : Go p e below En (T.setTop (mkF m pc' Ls (.int v :: st)))) : Go p e below En (T.setTop (mkF m pc Ls st)) := by
  obtain ⟨hd, rfl⟩ := hd
  exact own_via (fun t => (fun q => XS.iconst X.here hx rfl hd (by rw [hv]; exact q))) k
theorem go_bipush (X : Stand p l e R s m args below meth c T locs cells slots) (hx : p.tables.exec = Jvm.exec) {i : Int} (v : Int32) (hd : Dec c.code pc (.bipush i) 2 pc') (hv : (Int8.ofInt i).toInt32 = v) (k : Go p e below En (T.setTop (mkF m pc' Ls (.int v :: st)))) : Go p e below En (T.setTop (mkF m pc Ls st)) := by
  obtain ⟨hd, rfl⟩ := hd
  exact own_via (fun t => (fun q => XS.bipush X.here hx rfl hd (by rw [hv]; exact q))) k
theorem go_sipush (X : Stand p l e R s m args below meth c T locs cells slots) (hx : p.tables.exec = Jvm.exec) {i : Int} (v : Int32) (hd : Dec c.code pc (.sipush i) 3 pc') (hv : (Int16.ofInt i).toInt32 = v) (k : Go p e below En (T.setTop (mkF m pc' Ls (.int v :: st)))) : Go p e below En (T.setTop (mkF m pc Ls st)) := by
  obtain ⟨hd, rfl⟩ := hd
  exact own_via (fun t => (fun q => XS.sipush X.here hx rfl hd (by rw [hv]; exact q))) k
theorem go_lconst (X : Stand p l e R s m args below meth c T locs cells slots) (hx : p.tables.exec = Jvm.exec) {k : Fin 2} (v : Int64) (hd : Dec c.code pc (.lconst k) 1 pc') (hv : Int64.ofNat k = v) (k : Go p e below En (T.setTop (mkF m pc' Ls (.long v :: st)))) : Go p e below En (T.setTop (mkF m pc Ls st)) := by
  obtain ⟨hd, rfl⟩ := hd
  exact own_via (fun t => (fun q => XT.lconst X.here hx rfl hd (by rw [hv]; exact q))) k
theorem go_aconstnull (X : Stand p l e R s m args below meth c T locs cells slots) (hx : p.tables.exec = Jvm.exec)  (hd : Dec c.code pc (.aconst_null) 1 pc') (k : Go p e below En (T.setTop (mkF m pc' Ls (.null :: st)))) : Go p e below En (T.setTop (mkF m pc Ls st)) := by
  obtain ⟨hd, rfl⟩ := hd
  exact own_via (fun t => XS.aconstNull X.here hx rfl hd) k
theorem go_ldc (X : Stand p l e R s m args below meth c T locs cells slots) (hx : p.tables.exec = Jvm.exec) (hZ : Z.Warmed39 s.vm) {own : String} {index : Nat} {v : Int32} (hown : s.vm.findClass own = some m.cls) (w : (Jvm.Cond.constant own index v).before a0 Z = true) (hd : Dec c.code pc (.ldc index) 2 pc') (k : Go p e below En (T.setTop (mkF m pc' Ls (.int v :: st)))) : Go p e below En (T.setTop (mkF m pc Ls st)) := by
  obtain ⟨hd, rfl⟩ := hd
  exact own_via (fun t => X.ldcInt hx hown (mv hZ w) (g := mkF m pc Ls st) rfl hd t) k
theorem go_ldc2 (X : Stand p l e R s m args below meth c T locs cells slots) (hx : p.tables.exec = Jvm.exec) (hZ : Z.Warmed39 s.vm) {own : String} {index : Nat} {v : Int64} (hown : s.vm.findClass own = some m.cls) (w : (Jvm.Cond.constantLong own index v).before a0 Z = true) (hd : Dec c.code pc (.ldc2_w index) 3 pc') (k : Go p e below En (T.setTop (mkF m pc' Ls (.long v :: st)))) : Go p e below En (T.setTop (mkF m pc Ls st)) := by
  obtain ⟨hd, rfl⟩ := hd
  exact own_via (fun t => X.ldc2Long hx hown (mv hZ w) (g := mkF m pc Ls st) rfl hd t) k
theorem go_dup (X : Stand p l e R s m args below meth c T locs cells slots) (hx : p.tables.exec = Jvm.exec) {v : Value} (hd : Dec c.code pc (.dup) 1 pc') (hc : v.category = 1) (k : Go p e below En (T.setTop (mkF m pc' Ls (v :: v :: st)))) : Go p e below En (T.setTop (mkF m pc Ls (v :: st))) := by
  obtain ⟨hd, rfl⟩ := hd
  exact own_via (fun t => XS.dup X.here hx rfl hd rfl hc) k
theorem go_pop (X : Stand p l e R s m args below meth c T locs cells slots) (hx : p.tables.exec = Jvm.exec) {v : Value} (hd : Dec c.code pc (.pop) 1 pc') (hc : v.category = 1) (k : Go p e below En (T.setTop (mkF m pc' Ls st))) : Go p e below En (T.setTop (mkF m pc Ls (v :: st))) := by
  obtain ⟨hd, rfl⟩ := hd
  exact own_via (fun t => XT.pop X.here hx rfl hd rfl hc) k
theorem go_dupx1 (X : Stand p l e R s m args below meth c T locs cells slots) (hx : p.tables.exec = Jvm.exec) {v v' : Value} (hd : Dec c.code pc (.dup_x1) 1 pc') (hc : v.category = 1) (hc' : v'.category = 1) (k : Go p e below En (T.setTop (mkF m pc' Ls (v :: v' :: v :: st)))) : Go p e below En (T.setTop (mkF m pc Ls (v :: v' :: st))) := by
  obtain ⟨hd, rfl⟩ := hd
  exact own_via (fun t => XT.dupX1 X.here hx rfl hd rfl hc hc') k
theorem go_dup2L (X : Stand p l e R s m args below meth c T locs cells slots) (hx : p.tables.exec = Jvm.exec) {x : Int64} (hd : Dec c.code pc (.dup2) 1 pc') (k : Go p e below En (T.setTop (mkF m pc' Ls (.long x :: .long x :: st)))) : Go p e below En (T.setTop (mkF m pc Ls (.long x :: st))) := by
  obtain ⟨hd, rfl⟩ := hd
  exact own_via (fun t => XT.dup2L X.here hx rfl hd rfl) k
theorem go_dup2 (X : Stand p l e R s m args below meth c T locs cells slots) (hx : p.tables.exec = Jvm.exec) {v v' : Value} (hd : Dec c.code pc (.dup2) 1 pc') (hc : v.category = 1) (hc' : v'.category = 1) (k : Go p e below En (T.setTop (mkF m pc' Ls (v :: v' :: v :: v' :: st)))) : Go p e below En (T.setTop (mkF m pc Ls (v :: v' :: st))) := by
  obtain ⟨hd, rfl⟩ := hd
  exact own_via (fun t => XT.dup2 X.here hx rfl hd rfl hc hc') k
theorem go_iinc (X : Stand p l e R s m args below meth c T locs cells slots) (hx : p.tables.exec = Jvm.exec) {k : Nat} {cst : Int} {x : Int32} (Ls' : Array Slot) (hd : Dec c.code pc (.iinc k cst) 3 pc') (hl : Ls[k]? = some (.val (.int x))) (hl' : storeLocals Ls k (.int (x + Int32.ofInt cst)) = some Ls') (k : Go p e below En (T.setTop (mkF m pc' Ls' st))) : Go p e below En (T.setTop (mkF m pc Ls st)) := by
  obtain ⟨hd, rfl⟩ := hd
  exact own_via (fun t => XS.iinc X.here hx rfl hd hl hl') k
theorem go_goto (X : Stand p l e R s m args below meth c T locs cells slots) (hx : p.tables.exec = Jvm.exec) {o : Int} (hd : DecB c.code pc (.goto o) o pc' pt) (k : Go p e below En (T.setTop (mkF m pt Ls st))) : Go p e below En (T.setTop (mkF m pc Ls st)) := own_via (fun t => XS.goto X.here hx rfl rfl hd.1 hd.2.2.1 hd.2.2.2) k
theorem go_icmp (X : Stand p l e R s m args below meth c T locs cells slots) (hx : p.tables.exec = Jvm.exec) {cd : ClassFile.Cond} {x y : Int32} {o : Int} (hd : DecB c.code pc (.if_icmp cd o) o pc' pt) (kT : if_icmp.holds cd x y = true → Go p e below En (T.setTop (mkF m pt Ls st))) (kF : if_icmp.holds cd x y = false → Go p e below En (T.setTop (mkF m pc' Ls st))) : Go p e below En (T.setTop (mkF m pc Ls (.int y :: .int x :: st))) := by
  obtain ⟨h1, rfl, h3, h4⟩ := hd
  cases q : if_icmp.holds cd x y
  · exact own_via (fun t => XS.icmpNo X.here hx rfl h1 rfl q) (kF q)
  · exact own_via (fun t => XS.icmpYes X.here hx rfl rfl h1 rfl q h3 h4) (kT q)
theorem go_ifc (X : Stand p l e R s m args below meth c T locs cells slots) (hx : p.tables.exec = Jvm.exec) {cd : ClassFile.Cond} {x : Int32} {o : Int} (hd : DecB c.code pc (.ifCond cd o) o pc' pt) (kT : if_icmp.holds cd x 0 = true → Go p e below En (T.setTop (mkF m pt Ls st))) (kF : if_icmp.holds cd x 0 = false → Go p e below En (T.setTop (mkF m pc' Ls st))) : Go p e below En (T.setTop (mkF m pc Ls (.int x :: st))) := by
  obtain ⟨h1, rfl, h3, h4⟩ := hd
  cases q : if_icmp.holds cd x 0
  · exact own_via (fun t => XS.ifNo X.here hx rfl h1 rfl ((if0 cd x).trans q)) (kF q)
  · exact own_via (fun t => XS.ifYes X.here hx rfl rfl h1 rfl ((if0 cd x).trans q) h3 h4) (kT q)
theorem go_icmp_eq (X : Stand p l e R s m args below meth c T locs cells slots) (hx : p.tables.exec = Jvm.exec) {x y : Int32} {o : Int} (hd : DecB c.code pc (.if_icmp .eq o) o pc' pt) (kT : x = y → Go p e below En (T.setTop (mkF m pt Ls st))) (kF : ¬ x = y → Go p e below En (T.setTop (mkF m pc' Ls st))) : Go p e below En (T.setTop (mkF m pc Ls (.int y :: .int x :: st))) := by
  by_cases q : x = y
  · exact go_icmp X hx hd (fun _ => kT q) (fun r => absurd r (by rw [(teq q).1]; decide))
  · exact go_icmp X hx hd (fun r => absurd r (by rw [(feq q).1]; decide)) (fun _ => kF q)
theorem go_ifc_eq (X : Stand p l e R s m args below meth c T locs cells slots) (hx : p.tables.exec = Jvm.exec) {x : Int32} {o : Int} (hd : DecB c.code pc (.ifCond .eq o) o pc' pt) (kT : x = 0 → Go p e below En (T.setTop (mkF m pt Ls st))) (kF : ¬ x = 0 → Go p e below En (T.setTop (mkF m pc' Ls st))) : Go p e below En (T.setTop (mkF m pc Ls (.int x :: st))) := by
  by_cases q : x = 0
  · exact go_ifc X hx hd (fun _ => kT q) (fun r => absurd r (by rw [(teq q).1]; decide))
  · exact go_ifc X hx hd (fun r => absurd r (by rw [(feq q).1]; decide)) (fun _ => kF q)
theorem go_icmp_ne (X : Stand p l e R s m args below meth c T locs cells slots) (hx : p.tables.exec = Jvm.exec) {x y : Int32} {o : Int} (hd : DecB c.code pc (.if_icmp .ne o) o pc' pt) (kT : ¬ x = y → Go p e below En (T.setTop (mkF m pt Ls st))) (kF : x = y → Go p e below En (T.setTop (mkF m pc' Ls st))) : Go p e below En (T.setTop (mkF m pc Ls (.int y :: .int x :: st))) := by
  by_cases q : x = y
  · exact go_icmp X hx hd (fun r => absurd r (by rw [(teq q).2]; decide)) (fun _ => kF q)
  · exact go_icmp X hx hd (fun _ => kT q) (fun r => absurd r (by rw [(feq q).2]; decide))
theorem go_ifc_ne (X : Stand p l e R s m args below meth c T locs cells slots) (hx : p.tables.exec = Jvm.exec) {x : Int32} {o : Int} (hd : DecB c.code pc (.ifCond .ne o) o pc' pt) (kT : ¬ x = 0 → Go p e below En (T.setTop (mkF m pt Ls st))) (kF : x = 0 → Go p e below En (T.setTop (mkF m pc' Ls st))) : Go p e below En (T.setTop (mkF m pc Ls (.int x :: st))) := by
  by_cases q : x = 0
  · exact go_ifc X hx hd (fun r => absurd r (by rw [(teq q).2]; decide)) (fun _ => kF q)
  · exact go_ifc X hx hd (fun _ => kT q) (fun r => absurd r (by rw [(feq q).2]; decide))
theorem go_icmp_lt (X : Stand p l e R s m args below meth c T locs cells slots) (hx : p.tables.exec = Jvm.exec) {x y : Int32} {o : Int} (hd : DecB c.code pc (.if_icmp .lt o) o pc' pt) (kT : x < y → Go p e below En (T.setTop (mkF m pt Ls st))) (kF : ¬ x < y → Go p e below En (T.setTop (mkF m pc' Ls st))) : Go p e below En (T.setTop (mkF m pc Ls (.int y :: .int x :: st))) := by
  by_cases q : x < y
  · exact go_icmp X hx hd (fun _ => kT q) (fun r => absurd r (by rw [(tlt q).1]; decide))
  · exact go_icmp X hx hd (fun r => absurd r (by rw [(flt q).1]; decide)) (fun _ => kF q)
theorem go_ifc_lt (X : Stand p l e R s m args below meth c T locs cells slots) (hx : p.tables.exec = Jvm.exec) {x : Int32} {o : Int} (hd : DecB c.code pc (.ifCond .lt o) o pc' pt) (kT : x < 0 → Go p e below En (T.setTop (mkF m pt Ls st))) (kF : ¬ x < 0 → Go p e below En (T.setTop (mkF m pc' Ls st))) : Go p e below En (T.setTop (mkF m pc Ls (.int x :: st))) := by
  by_cases q : x < 0
  · exact go_ifc X hx hd (fun _ => kT q) (fun r => absurd r (by rw [(tlt q).1]; decide))
  · exact go_ifc X hx hd (fun r => absurd r (by rw [(flt q).1]; decide)) (fun _ => kF q)
theorem go_icmp_ge (X : Stand p l e R s m args below meth c T locs cells slots) (hx : p.tables.exec = Jvm.exec) {x y : Int32} {o : Int} (hd : DecB c.code pc (.if_icmp .ge o) o pc' pt) (kT : ¬ x < y → Go p e below En (T.setTop (mkF m pt Ls st))) (kF : x < y → Go p e below En (T.setTop (mkF m pc' Ls st))) : Go p e below En (T.setTop (mkF m pc Ls (.int y :: .int x :: st))) := by
  by_cases q : x < y
  · exact go_icmp X hx hd (fun r => absurd r (by rw [(tlt q).2.1]; decide)) (fun _ => kF q)
  · exact go_icmp X hx hd (fun _ => kT q) (fun r => absurd r (by rw [(flt q).2.1]; decide))
theorem go_ifc_ge (X : Stand p l e R s m args below meth c T locs cells slots) (hx : p.tables.exec = Jvm.exec) {x : Int32} {o : Int} (hd : DecB c.code pc (.ifCond .ge o) o pc' pt) (kT : ¬ x < 0 → Go p e below En (T.setTop (mkF m pt Ls st))) (kF : x < 0 → Go p e below En (T.setTop (mkF m pc' Ls st))) : Go p e below En (T.setTop (mkF m pc Ls (.int x :: st))) := by
  by_cases q : x < 0
  · exact go_ifc X hx hd (fun r => absurd r (by rw [(tlt q).2.1]; decide)) (fun _ => kF q)
  · exact go_ifc X hx hd (fun _ => kT q) (fun r => absurd r (by rw [(flt q).2.1]; decide))
theorem go_icmp_gt (X : Stand p l e R s m args below meth c T locs cells slots) (hx : p.tables.exec = Jvm.exec) {x y : Int32} {o : Int} (hd : DecB c.code pc (.if_icmp .gt o) o pc' pt) (kT : y < x → Go p e below En (T.setTop (mkF m pt Ls st))) (kF : ¬ y < x → Go p e below En (T.setTop (mkF m pc' Ls st))) : Go p e below En (T.setTop (mkF m pc Ls (.int y :: .int x :: st))) := by
  by_cases q : y < x
  · exact go_icmp X hx hd (fun _ => kT q) (fun r => absurd r (by rw [(tlt q).2.2.1]; decide))
  · exact go_icmp X hx hd (fun r => absurd r (by rw [(flt q).2.2.1]; decide)) (fun _ => kF q)
theorem go_ifc_gt (X : Stand p l e R s m args below meth c T locs cells slots) (hx : p.tables.exec = Jvm.exec) {x : Int32} {o : Int} (hd : DecB c.code pc (.ifCond .gt o) o pc' pt) (kT : 0 < x → Go p e below En (T.setTop (mkF m pt Ls st))) (kF : ¬ 0 < x → Go p e below En (T.setTop (mkF m pc' Ls st))) : Go p e below En (T.setTop (mkF m pc Ls (.int x :: st))) := by
  by_cases q : 0 < x
  · exact go_ifc X hx hd (fun _ => kT q) (fun r => absurd r (by rw [(tlt q).2.2.1]; decide))
  · exact go_ifc X hx hd (fun r => absurd r (by rw [(flt q).2.2.1]; decide)) (fun _ => kF q)
theorem go_icmp_le (X : Stand p l e R s m args below meth c T locs cells slots) (hx : p.tables.exec = Jvm.exec) {x y : Int32} {o : Int} (hd : DecB c.code pc (.if_icmp .le o) o pc' pt) (kT : ¬ y < x → Go p e below En (T.setTop (mkF m pt Ls st))) (kF : y < x → Go p e below En (T.setTop (mkF m pc' Ls st))) : Go p e below En (T.setTop (mkF m pc Ls (.int y :: .int x :: st))) := by
  by_cases q : y < x
  · exact go_icmp X hx hd (fun r => absurd r (by rw [(tlt q).2.2.2]; decide)) (fun _ => kF q)
  · exact go_icmp X hx hd (fun _ => kT q) (fun r => absurd r (by rw [(flt q).2.2.2]; decide))
theorem go_ifc_le (X : Stand p l e R s m args below meth c T locs cells slots) (hx : p.tables.exec = Jvm.exec) {x : Int32} {o : Int} (hd : DecB c.code pc (.ifCond .le o) o pc' pt) (kT : ¬ 0 < x → Go p e below En (T.setTop (mkF m pt Ls st))) (kF : 0 < x → Go p e below En (T.setTop (mkF m pc' Ls st))) : Go p e below En (T.setTop (mkF m pc Ls (.int x :: st))) := by
  by_cases q : 0 < x
  · exact go_ifc X hx hd (fun r => absurd r (by rw [(tlt q).2.2.2]; decide)) (fun _ => kF q)
  · exact go_ifc X hx hd (fun _ => kT q) (fun r => absurd r (by rw [(flt q).2.2.2]; decide))
theorem go_ifnullY (X : Stand p l e R s m args below meth c T locs cells slots) (hx : p.tables.exec = Jvm.exec) {o : Int} (hd : DecB c.code pc (.ifnull o) o pc' pt) (k : Go p e below En (T.setTop (mkF m pt Ls st))) : Go p e below En (T.setTop (mkF m pc Ls (.null :: st))) := own_via (fun t => XS.ifnullYes X.here hx rfl rfl hd.1 rfl hd.2.2.1 hd.2.2.2) k
theorem go_ifnullN (X : Stand p l e R s m args below meth c T locs cells slots) (hx : p.tables.exec = Jvm.exec) {o : Int} {a : Addr} (hd : DecB c.code pc (.ifnull o) o pc' pt) (k : Go p e below En (T.setTop (mkF m pc' Ls st))) : Go p e below En (T.setTop (mkF m pc Ls (.ref a :: st))) := by
  obtain ⟨h1, rfl, h3, h4⟩ := hd
  exact own_via (fun t => XS.ifnullNo X.here hx rfl h1 rfl) k
theorem go_ifnonnullY (X : Stand p l e R s m args below meth c T locs cells slots) (hx : p.tables.exec = Jvm.exec) {o : Int} {a : Addr} (hd : DecB c.code pc (.ifnonnull o) o pc' pt) (k : Go p e below En (T.setTop (mkF m pt Ls st))) : Go p e below En (T.setTop (mkF m pc Ls (.ref a :: st))) := own_via (fun t => XT.ifnonnullYes X.here hx rfl rfl hd.1 rfl hd.2.2.1 hd.2.2.2) k
theorem go_ifnonnullN (X : Stand p l e R s m args below meth c T locs cells slots) (hx : p.tables.exec = Jvm.exec) {o : Int} (hd : DecB c.code pc (.ifnonnull o) o pc' pt) (k : Go p e below En (T.setTop (mkF m pc' Ls st))) : Go p e below En (T.setTop (mkF m pc Ls (.null :: st))) := by
  obtain ⟨h1, rfl, h3, h4⟩ := hd
  exact own_via (fun t => XT.ifnonnullNo X.here hx rfl h1 rfl) k
theorem go_acmp_eq (X : Stand p l e R s m args below meth c T locs cells slots) (hx : p.tables.exec = Jvm.exec) {x y : Value} (hx' : x.isRef = true) (hy' : y.isRef = true) {o : Int} (hd : DecB c.code pc (.if_acmp .eq o) o pc' pt) (kT : x = y → Go p e below En (T.setTop (mkF m pt Ls st))) (kF : ¬ x = y → Go p e below En (T.setTop (mkF m pc' Ls st))) : Go p e below En (T.setTop (mkF m pc Ls (y :: x :: st))) := by
  obtain ⟨h1, rfl, h3, h4⟩ := hd
  by_cases q : x = y
  · exact own_via (fun t => XT.acmpYes X.here hx rfl rfl h1 rfl hx' hy' (by simp [XT.acmp, q]) h3 h4) (kT q)
  · exact own_via (fun t => XT.acmpNo X.here hx rfl h1 rfl hx' hy' (by simp [XT.acmp, q])) (kF q)
theorem go_acmp_ne (X : Stand p l e R s m args below meth c T locs cells slots) (hx : p.tables.exec = Jvm.exec) {x y : Value} (hx' : x.isRef = true) (hy' : y.isRef = true) {o : Int} (hd : DecB c.code pc (.if_acmp .ne o) o pc' pt) (kT : ¬ x = y → Go p e below En (T.setTop (mkF m pt Ls st))) (kF : x = y → Go p e below En (T.setTop (mkF m pc' Ls st))) : Go p e below En (T.setTop (mkF m pc Ls (y :: x :: st))) := by
  obtain ⟨h1, rfl, h3, h4⟩ := hd
  by_cases q : x = y
  · exact own_via (fun t => XT.acmpNo X.here hx rfl h1 rfl hx' hy' (by simp [XT.acmp, q])) (kF q)
  · exact own_via (fun t => XT.acmpYes X.here hx rfl rfl h1 rfl hx' hy' (by simp [XT.acmp, q]) h3 h4) (kT q)
theorem go_retN (X : Stand p l e R s m args below meth c T locs cells slots) (hx : p.tables.exec = Jvm.exec) {z : Int32} {t : FieldType} (hret : meth.sig.returnType = some t) (ht : t = .boolean ∨ t = .byte ∨ t = .char ∨ t = .short) (hd : Dec c.code pc .ireturn 1 pc') (hk : meth.locks = false) (hc : cells ≤ rc) (hs : slots ≤ rs) (hQ : Q (some (.int (nar t z))) T.heap locs) : Go p e below (EndN s Q rc rs) (T.setTop (mkF m pc Ls (.int z :: st))) := by
  obtain ⟨fs, hr, hrun, hended, hW, hsame⟩ := X.leave (v := (some (.int (nar t z)))) (fun q => by first | rfl | (rw [hret] at q; cases q)) hk
  exact ⟨_, _, retN X hx hret ht hd.1 hr, hrun, hended, _, _, rfl, hQ, ⟨_, rfl⟩, hW, hsame.mono hc hs⟩
theorem go_retI (X : Stand p l e R s m args below meth c T locs cells slots) (hx : p.tables.exec = Jvm.exec) {z : Int32} (hret : meth.sig.returnType = some .int) (hd : Dec c.code pc .ireturn 1 pc') (hk : meth.locks = false) (hc : cells ≤ rc) (hs : slots ≤ rs) (hQ : Q (some (.int z)) T.heap locs) : Go p e below (EndN s Q rc rs) (T.setTop (mkF m pc Ls (.int z :: st))) := by
  obtain ⟨fs, hr, hrun, hended, hW, hsame⟩ := X.leave (v := (some (.int z))) (fun q => by first | rfl | (rw [hret] at q; cases q)) hk
  exact ⟨_, _, retOut X hx hret rfl (Or.inl ⟨rfl, Or.inl rfl, _, rfl⟩) hd.1 hr, hrun, hended, _, _, rfl, hQ, ⟨_, rfl⟩, hW, hsame.mono hc hs⟩
theorem go_retJ (X : Stand p l e R s m args below meth c T locs cells slots) (hx : p.tables.exec = Jvm.exec) {z : Int64} (hret : meth.sig.returnType = some .long) (hd : Dec c.code pc .lreturn 1 pc') (hk : meth.locks = false) (hc : cells ≤ rc) (hs : slots ≤ rs) (hQ : Q (some (.long z)) T.heap locs) : Go p e below (EndN s Q rc rs) (T.setTop (mkF m pc Ls (.long z :: st))) := by
  obtain ⟨fs, hr, hrun, hended, hW, hsame⟩ := X.leave (v := (some (.long z))) (fun q => by first | rfl | (rw [hret] at q; cases q)) hk
  exact ⟨_, _, retOut X hx hret rfl (Or.inr (Or.inl ⟨rfl, rfl, _, rfl⟩)) hd.1 hr, hrun, hended, _, _, rfl, hQ, ⟨_, rfl⟩, hW, hsame.mono hc hs⟩
theorem go_retA (X : Stand p l e R s m args below meth c T locs cells slots) (hx : p.tables.exec = Jvm.exec) {v : Value} {t : FieldType} (hret : meth.sig.returnType = some t) (ht : t.isReference = true) (hv : v.isRef = true) (hd : Dec c.code pc .areturn 1 pc') (hk : meth.locks = false) (hc : cells ≤ rc) (hs : slots ≤ rs) (hQ : Q (some v) T.heap locs) : Go p e below (EndN s Q rc rs) (T.setTop (mkF m pc Ls (v :: st))) := by
  obtain ⟨fs, hr, hrun, hended, hW, hsame⟩ := X.leave (v := (some v)) (fun q => by first | rfl | (rw [hret] at q; cases q)) hk
  exact ⟨_, _, retOut X hx hret (by cases t <;> first | rfl | cases ht) (Or.inr (Or.inr (Or.inr (Or.inr ⟨rfl, ht, hv⟩)))) hd.1 hr, hrun, hended, _, _, rfl, hQ, ⟨_, rfl⟩, hW, hsame.mono hc hs⟩
theorem go_retV (X : Stand p l e R s m args below meth c T locs cells slots) (hx : p.tables.exec = Jvm.exec)  (hret : meth.sig.returnType = none) (hd : Dec c.code pc .return_ 1 pc') (hk : meth.locks = false) (hc : cells ≤ rc) (hs : slots ≤ rs) (hQ : Q none T.heap locs) : Go p e below (EndN s Q rc rs) (T.setTop (mkF m pc Ls [])) := by
  obtain ⟨fs, hr, hrun, hended, hW, hsame⟩ := X.leave (v := none) (fun q => by first | rfl | (rw [hret] at q; cases q)) hk
  exact ⟨_, _, X.returnOut hx hret hd.1 hr, hrun, hended, _, _, rfl, hQ, ⟨_, rfl⟩, hW, hsame.mono hc hs⟩
theorem go_getF (X : Stand p l e R s m args below meth c T locs cells slots) (hx : p.tables.exec = Jvm.exec) (hZ : Z.Warmed39 s.vm) {own R0 O n d host : String} {index : Nat} (hown : s.vm.findClass own = some m.cls) (w : (Jvm.Cond.fieldLink own index R0 n d).before a0 Z = true ∨ (Jvm.Cond.fieldLinkNest own index R0 n d host).before a0 Z = true) (via : Via Z R0 O n d) (eT : T.heap = h) {a : Addr} {v : Value} (F : Fld Z h a O n d v) (hd : Dec c.code pc (.getfield index) 3 pc') (k : ∀ T', Stand p l e R s m args below meth c T' locs cells slots → T'.heap = h → Go p e below En (T'.setTop (mkF m pc' Ls (v :: st)))) : Go p e below En (T.setTop (mkF m pc Ls (.ref a :: st))) := by
  obtain ⟨hd, rfl⟩ := hd
  obtain ⟨T', X', e', q⟩ := getF X hx hZ hown w via eT F (g := mkF m pc Ls (.ref a :: st)) rfl rfl hd
  exact own_via q (k T' X' e')
theorem go_putF (X : Stand p l e R s m args below meth c T locs cells slots) (hx : p.tables.exec = Jvm.exec) (hZ : Z.Warmed39 s.vm) {own R0 O n d host C : String} {index kk : Nat} {ty : FieldType} (hown : s.vm.findClass own = some m.cls) (w : (Jvm.Cond.fieldLink own index R0 n d).before a0 Z = true ∨ (Jvm.Cond.fieldLinkNest own index R0 n d host).before a0 Z = true) (via : Via Z R0 O n d) (eT : T.heap = h) {a : Addr} {v old : Value} (F : Fld Z h a O n d old) (E : Exa Z h a C) (L : (Jvm.Cond.lays C O n d).before a0 Z = true ∨ ((Jvm.Cond.laysFinal C O n d).before a0 Z = true ∧ own = O ∧ meth.name = "<init>")) (wi : (Jvm.Cond.instantiable C kk).before a0 Z = true) (hty : parseFieldDescriptor d = some ty) (hn : narrow ty v = v) (hf : fits ty v = true) (hd : Dec c.code pc (.putfield index) 3 pc') (k : ∀ T' h', Stand p l e R s m args below meth c T' (locs ++ [⟨a, Jvm.RoadKit.slotOf Z O n d⟩]) cells slots → T'.heap = h' → Wr h h' a (Jvm.RoadKit.slotOf Z O n d) v → Go p e below En (T'.setTop (mkF m pc' Ls st))) : Go p e below En (T.setTop (mkF m pc Ls (v :: .ref a :: st))) := by
  obtain ⟨hd, rfl⟩ := hd
  obtain ⟨T', h', X', e', W, q⟩ := putF X hx hZ hown w via eT F E L wi hty hn hf (g := mkF m pc Ls (v :: .ref a :: st)) rfl rfl hd
  exact own_via q (k T' h' X' e' W)
theorem go_getS (X : Stand p l e R s m args below meth c T locs cells slots) (hx : p.tables.exec = Jvm.exec) (hZ : Z.Warmed39 s.vm) {own R0 O n d host : String} {index : Nat} (hown : s.vm.findClass own = some m.cls) (w : (Jvm.Cond.fieldLink own index R0 n d).before a0 Z = true) (via : Via Z R0 O n d) (eT : T.heap = h) {v : Value} (F : Sta Z h O n d v) (hd : Dec c.code pc (.getstatic index) 3 pc') (k : ∀ T', Stand p l e R s m args below meth c T' locs cells slots → T'.heap = h → Go p e below En (T'.setTop (mkF m pc' Ls (v :: st)))) : Go p e below En (T.setTop (mkF m pc Ls st)) := by
  obtain ⟨hd, rfl⟩ := hd
  obtain ⟨T', X', e', q⟩ := getS (host := "") X hx hZ hown w via eT F (g := mkF m pc Ls st) rfl hd
  exact own_via q (k T' X' e')
theorem go_newO (X : Stand p l e R s m args below meth c T locs cells slots) (hx : p.tables.exec = Jvm.exec) (hZ : Z.Warmed39 s.vm) {own C : String} {index n : Nat} (hown : s.vm.findClass own = some m.cls) (w : (Jvm.Cond.classLink own index C).before a0 Z = true) (wi : (Jvm.Cond.instantiable C n).before a0 Z = true) (wz : (Jvm.Cond.initialized C).before a0 Z = true) (eT : T.heap = h) (hd : Dec c.code pc (.new index) 3 pc') (hc : cells + 1 ≤ R.cells) (hl : slots + n ≤ R.slots) (k : ∀ T' h' (a : Addr), a = h.size → Stand p l e R s m args below meth c T' locs (cells + 1) (slots + n) → T'.heap = h' → Ext h h' → Exa Z h' a C → (∀ {O nm d : String} {ty : FieldType}, Laid Z a0 C O nm d → parseFieldDescriptor d = some ty → Fld Z h' a O nm d (defaultValue ty)) → Go p e below En (T'.setTop (mkF m pc' Ls (.ref a :: st)))) : Go p e below En (T.setTop (mkF m pc Ls st)) := by
  obtain ⟨hd, rfl⟩ := hd
  obtain ⟨T', h', X', e', E, A, D, -, q⟩ := newO X hx hZ hown w wi wz eT (g := mkF m pc Ls st) rfl hd hc hl
  exact own_via q (k T' h' _ rfl X' e' E A D)
theorem go_newP (X : Stand p l e R s m args below meth c T locs cells slots) (hx : p.tables.exec = Jvm.exec) (hZ : Z.Warmed39 s.vm) {aty : ArrayType} (w : (Jvm.Cond.arrayClass (newarray.typeOf aty)).before a0 Z = true) (eT : T.heap = h) (hd : Dec c.code pc (.newarray aty) 2 pc') {n : Int32} (hn : ¬ n < 0) (cap : Nat) (hcap : n.toNatClampNeg ≤ cap) (hb : cap * 8 ≤ 536870912) (hc : cells + 1 ≤ R.cells) (hl : slots + cap ≤ R.slots) (k : ∀ T' h' cA (a : Addr), a = h.size → Stand p l e R s m args below meth c T' locs (cells + 1) (slots + cap) → T'.heap = h' → Ext h h' → Arr Z h' a (newA cA (newarray.typeOf aty) n) (newarray.typeOf aty) → Go p e below En (T'.setTop (mkF m pc' Ls (.ref a :: st)))) : Go p e below En (T.setTop (mkF m pc Ls (.int n :: st))) := by
  obtain ⟨hd, rfl⟩ := hd
  obtain ⟨T', h', cA, X', e', E, A, q⟩ := newP X hx hZ w eT (g := mkF m pc Ls (.int n :: st)) rfl hd rfl hn hcap hb hc hl
  exact own_via q (k T' h' cA _ rfl X' e' E A)
def Ct (l : Launch) (Z : State) (y : MethodName) (bytes : ByteArray) (maxL : Nat) (ret : Option FieldType) (ws : List Jvm.Cond) (rm : Room) (as' : Array Value) (h0 : Heap) (Q : Option Value → Heap → List Loc → Prop) : Prop := MetFree l y (head1 (Jvm.Cond.code y bytes maxL ret :: ws) rm) (fun a U => a = as' ∧ Z.Warmed39 U.vm ∧ U.heap = h0) (fun _ _ _ _ _ => True) (fun _ U o U' => ∃ v L, o = .returned v ∧ Q v U'.heap L ∧ FrameEnd U o U' L rm.cells rm.slots)
theorem Ct.of {y : MethodName} {bytes : ByteArray} {maxL : Nat} {ret : Option FieldType} {ws : List Jvm.Cond} {rm : Room} {as' : Array Value} {h0 : Heap} (pn : plainName y.cls = true) (F0 : Array Slot) (ef : ∀ m, entryFrame m as' maxL = mkF m 0 F0 []) (body : ∀ (p : Program) (e : Env) (s : State) (m : MethodId) (below : List Frame) (meth : Method) (c : Code) (T : State), p.tables.exec = Jvm.exec → c.code = bytes → c.maxLocals = maxL → Z.Warmed39 s.vm → s.vm.findClass y.cls = some m.cls → meth.name = y.name → meth.sig.returnType = ret → meth.locks = false → T.heap = h0 → Stand p l e rm s m as' below meth c T [] 0 0 → Go p e below (EndN s Q rm.cells rm.slots) (T.setTop (mkF m 0 F0 []))) : Ct l Z y bytes maxL ret ws rm as' h0 Q := by
  refine MetFree.of_bodySF (plainFor_of_name pn) hisR ?_
  intro p e s m args below meth c s₁ Bd hml0 hP hK
  obtain ⟨rfl, hZ, hh⟩ := hP
  have G := body p e s m below meth c s₁ Bd.exec Bd.bytes hml0 hZ (findClass_of_methodNamed Bd.named) (name_of_methodNamed Bd.named Bd.method).1 Bd.returns Bd.notSynchronized (by rw [← hh, Bd.state]; rfl) (Stand.of_body Bd)
  rw [← ef m] at G
  exact G
theorem go_static (X : Stand p l e R s m args below meth c T locs cells slots) (hx : p.tables.exec = Jvm.exec) (hZ : Z.Warmed39 s.vm) {own : String} {index : Nat} {y : MethodName} {bytes : ByteArray} {maxL : Nat} {ret : Option FieldType} (hown : s.vm.findClass own = some m.cls) (w1 : (Jvm.Cond.methodLink own index y).before a0 Z = true) (w2 : (Jvm.Cond.static y).before a0 Z = true) (w3 : (Jvm.Cond.initialized y.cls).before a0 Z = true) (w4 : (Jvm.Cond.code y bytes maxL ret).before a0 Z = true) (hy : y.cls ≠ "java/lang/invoke/MethodHandle" ∧ y.cls ≠ "java/lang/invoke/VarHandle") (eT : T.heap = h) {rm : Room} (argsL rest : List Value) {Qc : Option Value → Heap → List Loc → Prop} (hC : Ct l Z y bytes maxL ret [] rm argsL.toArray h Qc) {ps : List FieldType} {rt : Option FieldType} (pd : parseMethodDescriptor y.desc = some ⟨ps, rt⟩) (hl : argsL.length = ps.length) (hsize : Ls.size = c.maxLocals) {stk : List Value} (hstk : stk = argsL.reverse ++ rest) (W : Nat) (hW : (rest.map fun v => v.category).sum ≤ W) (hf : rm.frames + 1 ≤ R.frames) (hlo : W + (maxL + 11) + rm.locals ≤ R.locals) (hce : cells + rm.cells ≤ R.cells) (hsl : slots + rm.slots ≤ R.slots) (hd : Dec c.code pc (.invokestatic index) 3 pc') (k : ∀ T' v L, Stand p l e R s m args below meth c T' (locs ++ L) (cells + rm.cells) (slots + rm.slots) → Qc v T'.heap L → Go p e below En (T'.setTop (mkF m pc' Ls (v.toList ++ rest)))) : Go p e below En (T.setTop (mkF m pc Ls stk)) := by
  obtain ⟨hd, rfl⟩ := hd
  obtain ⟨v, _, ⟨T', L', k', n'⟩, -, X', ⟨L, hQ, l1, y1, z1⟩, q⟩ := Jvm.LawKit.callS X hx hown (mvT hZ w1) (mvT hZ w2) (mvT hZ w3) (mvT hZ w4) hy (backOf (W := W) hC hZ w4 w3 hf hlo) (g := mkF m pc Ls stk) rfl hsize (argsL := argsL) (rest := rest) (lenOf pd hl) hstk (by show 2 * 0 + _ ≤ _; omega) hd (fun _ _ => ⟨rfl, eT, hce, hsl⟩)
  dsimp only [Pt.U, Pt.locs, Pt.cells, Pt.slots] at X' l1 y1 z1 q hQ
  subst l1 y1 z1
  exact own_via q (k T' v L X' hQ)
theorem go_special (X : Stand p l e R s m args below meth c T locs cells slots) (hx : p.tables.exec = Jvm.exec) (hZ : Z.Warmed39 s.vm) {own : String} {index : Nat} {y : MethodName} (hn : y.name = "<init>") {bytes : ByteArray} {maxL : Nat} (hown : s.vm.findClass own = some m.cls) (w1 : (Jvm.Cond.methodLink own index y).before a0 Z = true) (w2 : (Jvm.Cond.instanceMethod y).before a0 Z = true) (w3 : (Jvm.Cond.initialized y.cls).before a0 Z = true) (w4 : (Jvm.Cond.code y bytes maxL none).before a0 Z = true) (hy : y.cls ≠ "java/lang/invoke/MethodHandle" ∧ y.cls ≠ "java/lang/invoke/VarHandle") (eT : T.heap = h) {rm : Room} {a : Addr} (argsL rest : List Value) {Qc : Option Value → Heap → List Loc → Prop} (hC : Ct l Z y bytes maxL none [] rm (.ref a :: argsL).toArray h Qc) {ps : List FieldType} {rt : Option FieldType} (pd : parseMethodDescriptor y.desc = some ⟨ps, rt⟩) (hl : argsL.length = ps.length) (hsize : Ls.size = c.maxLocals) {stk : List Value} (hstk : stk = argsL.reverse ++ .ref a :: rest) (W : Nat) (hW : (rest.map fun v => v.category).sum ≤ W) (hf : rm.frames + 1 ≤ R.frames) (hlo : W + (maxL + 11) + rm.locals ≤ R.locals) (hce : cells + rm.cells ≤ R.cells) (hsl : slots + rm.slots ≤ R.slots) (hd : Dec c.code pc (.invokespecial index) 3 pc') (k : ∀ T' v L, Stand p l e R s m args below meth c T' (locs ++ L) (cells + rm.cells) (slots + rm.slots) → Qc v T'.heap L → Go p e below En (T'.setTop (mkF m pc' Ls (v.toList ++ rest)))) : Go p e below En (T.setTop (mkF m pc Ls stk)) := by
  obtain ⟨hd, rfl⟩ := hd
  obtain ⟨v, _, ⟨T', L', k', n'⟩, -, X', ⟨L, hQ, l1, y1, z1⟩, q⟩ := X.specialBack hx hn hown (mvT hZ w1) (mvT hZ w2) (mvT hZ w4) hy (backOf (W := W) hC hZ w4 w3 hf hlo) (g := mkF m pc Ls stk) rfl hsize (Steps.refl _) (a := a) (argsL := argsL) (rest := rest) (lenOf pd hl) hstk (by show 2 * 0 + _ ≤ _; omega) hd (fun _ _ => ⟨rfl, eT, hce, hsl⟩)
  dsimp only [Pt.U, Pt.locs, Pt.cells, Pt.slots] at X' l1 y1 z1 q hQ
  subst l1 y1 z1
  exact own_via (fun _ => q.trans) (k T' v L X' hQ)
theorem go_virtual (X : Stand p l e R s m args below meth c T locs cells slots) (hx : p.tables.exec = Jvm.exec) (hZ : Z.Warmed39 s.vm) {own C : String} {index : Nat} {y : MethodName} {bytes : ByteArray} {maxL : Nat} {ret : Option FieldType} (hown : s.vm.findClass own = some m.cls) (w1 : (Jvm.Cond.methodLink own index y).before a0 Z = true) (w2 : (Jvm.Cond.declares y).before a0 Z = true) (w5 : (Jvm.Cond.selects C y y).before a0 Z = true) (w6 : (Jvm.Cond.instanceMethod y).before a0 Z = true) (w3 : (Jvm.Cond.initialized y.cls).before a0 Z = true) (w4 : (Jvm.Cond.code y bytes maxL ret).before a0 Z = true) (hy : y.cls ≠ "java/lang/invoke/MethodHandle" ∧ y.cls ≠ "java/lang/invoke/VarHandle") (eT : T.heap = h) {rm : Room} {a : Addr} (E : Exa Z h a C) (argsL rest : List Value) {Qc : Option Value → Heap → List Loc → Prop} (hC : Ct l Z y bytes maxL ret [] rm (.ref a :: argsL).toArray h Qc) {ps : List FieldType} {rt : Option FieldType} (pd : parseMethodDescriptor y.desc = some ⟨ps, rt⟩) (hl : argsL.length = ps.length) (hsize : Ls.size = c.maxLocals) {stk : List Value} (hstk : stk = argsL.reverse ++ .ref a :: rest) (W : Nat) (hW : (rest.map fun v => v.category).sum ≤ W) (hf : rm.frames + 1 ≤ R.frames) (hlo : W + (maxL + 11) + rm.locals ≤ R.locals) (hce : cells + rm.cells ≤ R.cells) (hsl : slots + rm.slots ≤ R.slots) (hd : Dec c.code pc (.invokevirtual index) 3 pc') (k : ∀ T' v L, Stand p l e R s m args below meth c T' (locs ++ L) (cells + rm.cells) (slots + rm.slots) → Qc v T'.heap L → Go p e below En (T'.setTop (mkF m pc' Ls (v.toList ++ rest)))) : Go p e below En (T.setTop (mkF m pc Ls stk)) := by
  obtain ⟨hd, rfl⟩ := hd
  obtain ⟨cq, kq, qa, qb, qc⟩ := isOf hZ eT E
  obtain ⟨v, _, ⟨T', L', k', n'⟩, -, X', ⟨L, hQ, l1, y1, z1⟩, q⟩ := X.virtualBack hx hown (mvT hZ w1) (mvT hZ w2) (notFace_of_selects (args := #[]) (mvT hZ w5)) (mvT hZ w5) (mvT hZ w6) hy (backOf (W := W) hC hZ w4 w3 hf hlo) qa qc (g := mkF m pc Ls stk) rfl hsize (Steps.refl _) (argsL := argsL) (rest := rest) (lenOf pd hl) hstk (by show 2 * 0 + _ ≤ _; omega) hd (fun _ _ => ⟨rfl, eT, hce, hsl⟩)
  dsimp only [Pt.U, Pt.locs, Pt.cells, Pt.slots] at X' l1 y1 z1 q hQ
  subst l1 y1 z1
  exact own_via (fun _ => q.trans) (k T' v L X' hQ)
abbrev QP (r : Value) (h0 : Heap) : Option Value → Heap → List Loc → Prop := fun v h L => v = some r ∧ h = h0 ∧ L = []
theorem go_staticP (X : Stand p l e R s m args below meth c T locs cells slots) (hx : p.tables.exec = Jvm.exec) (hZ : Z.Warmed39 s.vm) {own : String} {index : Nat} {y : MethodName} {bytes : ByteArray} {maxL : Nat} {ret : Option FieldType} (hown : s.vm.findClass own = some m.cls) (w1 : (Jvm.Cond.methodLink own index y).before a0 Z = true) (w2 : (Jvm.Cond.static y).before a0 Z = true) (w3 : (Jvm.Cond.initialized y.cls).before a0 Z = true) (w4 : (Jvm.Cond.code y bytes maxL ret).before a0 Z = true) (hy : y.cls ≠ "java/lang/invoke/MethodHandle" ∧ y.cls ≠ "java/lang/invoke/VarHandle") (eT : T.heap = h) {rm : Room} (argsL rest : List Value) {r : Value} (hC : Ct l Z y bytes maxL ret [] rm argsL.toArray h (QP r h)) {ps : List FieldType} {rt : Option FieldType} (pd : parseMethodDescriptor y.desc = some ⟨ps, rt⟩) (hl : argsL.length = ps.length) (hsize : Ls.size = c.maxLocals) {stk : List Value} (hstk : stk = argsL.reverse ++ rest) (W : Nat) (hW : (rest.map fun v => v.category).sum ≤ W) (hf : rm.frames + 1 ≤ R.frames) (hlo : W + (maxL + 11) + rm.locals ≤ R.locals) (hce : rm.cells = 0) (hsl : rm.slots = 0) (hrc : cells ≤ R.cells) (hrs : slots ≤ R.slots) (hd : Dec c.code pc (.invokestatic index) 3 pc') (k : ∀ T', Stand p l e R s m args below meth c T' locs cells slots → T'.heap = h → Go p e below En (T'.setTop (mkF m pc' Ls (r :: rest)))) : Go p e below En (T.setTop (mkF m pc Ls stk)) :=
  go_static X hx hZ hown w1 w2 w3 w4 hy eT argsL rest hC pd hl hsize hstk W hW hf hlo (by rw [hce]; exact hrc) (by rw [hsl]; exact hrs) hd (fun T' v L X' hQ => by
    obtain ⟨rfl, e', rfl⟩ := hQ
    rw [hce, hsl, List.append_nil, Nat.add_zero, Nat.add_zero] at X'
    exact k T' X' e')
theorem go_virtualP (X : Stand p l e R s m args below meth c T locs cells slots) (hx : p.tables.exec = Jvm.exec) (hZ : Z.Warmed39 s.vm) {own C : String} {index : Nat} {y : MethodName} {bytes : ByteArray} {maxL : Nat} {ret : Option FieldType} (hown : s.vm.findClass own = some m.cls) (w1 : (Jvm.Cond.methodLink own index y).before a0 Z = true) (w2 : (Jvm.Cond.declares y).before a0 Z = true) (w5 : (Jvm.Cond.selects C y y).before a0 Z = true) (w6 : (Jvm.Cond.instanceMethod y).before a0 Z = true) (w3 : (Jvm.Cond.initialized y.cls).before a0 Z = true) (w4 : (Jvm.Cond.code y bytes maxL ret).before a0 Z = true) (hy : y.cls ≠ "java/lang/invoke/MethodHandle" ∧ y.cls ≠ "java/lang/invoke/VarHandle") (eT : T.heap = h) {rm : Room} {a : Addr} (E : Exa Z h a C) (argsL rest : List Value) {r : Value} (hC : Ct l Z y bytes maxL ret [] rm (.ref a :: argsL).toArray h (QP r h)) {ps : List FieldType} {rt : Option FieldType} (pd : parseMethodDescriptor y.desc = some ⟨ps, rt⟩) (hl : argsL.length = ps.length) (hsize : Ls.size = c.maxLocals) {stk : List Value} (hstk : stk = argsL.reverse ++ .ref a :: rest) (W : Nat) (hW : (rest.map fun v => v.category).sum ≤ W) (hf : rm.frames + 1 ≤ R.frames) (hlo : W + (maxL + 11) + rm.locals ≤ R.locals) (hce : rm.cells = 0) (hsl : rm.slots = 0) (hrc : cells ≤ R.cells) (hrs : slots ≤ R.slots) (hd : Dec c.code pc (.invokevirtual index) 3 pc') (k : ∀ T', Stand p l e R s m args below meth c T' locs cells slots → T'.heap = h → Go p e below En (T'.setTop (mkF m pc' Ls (r :: rest)))) : Go p e below En (T.setTop (mkF m pc Ls stk)) :=
  go_virtual X hx hZ hown w1 w2 w5 w6 w3 w4 hy eT E argsL rest hC pd hl hsize hstk W hW hf hlo (by rw [hce]; exact hrc) (by rw [hsl]; exact hrs) hd (fun T' v L X' hQ => by
    obtain ⟨rfl, e', rfl⟩ := hQ
    rw [hce, hsl, List.append_nil, Nat.add_zero, Nat.add_zero] at X'
    exact k T' X' e')
theorem own_lsw {tb : Tables} [Ours tb] {target : State} {g : JFrame} (q : At T m c below) (hx : tb.exec = Jvm.exec) (hg : g.method = m) {dflt : Int} {ps : Array (Int × Int)} {len : Nat} {o : Int} {pc0 : Nat} (hpc : g.pc = pc0) (hd : decode c.code g.pc = .ok (.lookupswitch dflt ps, len)) {i : Int32} {rest : List Value} (hs : g.stack = .int i :: rest)
    (hsort : (ps.toList.zip (ps.toList.drop 1)).all (fun (a, next) => a.1 < next.1) = true) (hoff : lookupswitch.offset ps.toList dflt i.toInt = o) (ho : 0 ≤ (pc0 : Int) + o) (hp : ((pc0 : Int) + o).toNat = pc')
    (hr : Steps tb e below (T.setTop { g with pc := pc', stack := rest }) target) : Steps tb e below (T.setTop g) target := by
  subst hg hpc hp hoff
  jvm_step q [q.top, hx, hd, hs, ho, lookupswitch.wp_chain]
  exact ⟨by simpa using hsort, hr⟩
theorem go_lsw (X : Stand p l e R s m args below meth c T locs cells slots) (hx : p.tables.exec = Jvm.exec) {dflt : Int} {ps : Array (Int × Int)} {len : Nat} {x : Int32} {o : Int} (hd : decode c.code pc = .ok (.lookupswitch dflt ps, len)) (hsort : (ps.toList.zip (ps.toList.drop 1)).all (fun (a, next) => a.1 < next.1) = true) (hoff : lookupswitch.offset ps.toList dflt x.toInt = o) (ho : 0 ≤ (pc : Int) + o) (hp : ((pc : Int) + o).toNat = pt) (k : Go p e below En (T.setTop (mkF m pt Ls st))) : Go p e below En (T.setTop (mkF m pc Ls (.int x :: st))) := own_via (fun t => own_lsw (g := mkF m pc Ls (.int x :: st)) X.here hx rfl rfl hd rfl hsort hoff ho hp) k
theorem go_alen (X : Stand p l e R s m args below meth c T locs cells slots) (hx : p.tables.exec = Jvm.exec) (hZ : Z.Warmed39 s.vm) (eT : T.heap = h) {a : Addr} {cl : Cell} {ty : FieldType} (A : Arr Z h a cl ty) {z : Int32} (S : cl.slots.size = z.toNatClampNeg) (hz : ¬ z < 0) (hd : Dec c.code pc .arraylength 1 pc') (k : Go p e below En (T.setTop (mkF m pc' Ls (.int z :: st)))) : Go p e below En (T.setTop (mkF m pc Ls (.ref a :: st))) := by
  obtain ⟨hd, rfl⟩ := hd
  refine own_via (fun t q => X.arraylength hx (cell := cl) (by rw [eT]; exact A.1) (State.isArrayOf_alike hZ.alike A.2.1) (g := mkF m pc Ls (.ref a :: st)) rfl (rest := st) rfl hd _ ?_) k
  rw [len_of S hz]
  exact q
theorem go_iaload (X : Stand p l e R s m args below meth c T locs cells slots) (hx : p.tables.exec = Jvm.exec) (hZ : Z.Warmed39 s.vm) (eT : T.heap = h) {a : Addr} {cl : Cell} (A : Arr Z h a cl .int) {j : Int32} {w : Int32} (hj : ¬ (j < 0 ∨ cl.slots.size ≤ j.toNatClampNeg)) (hv : cl.slots[j.toNatClampNeg]? = some (.int w)) (hd : Dec c.code pc .iaload 1 pc') (k : Go p e below En (T.setTop (mkF m pc' Ls (.int w :: st)))) : Go p e below En (T.setTop (mkF m pc Ls (.int j :: .ref a :: st))) := by
  obtain ⟨hd, rfl⟩ := hd
  exact own_via (fun t q => X.iaload hx (j := j) (v := (.int w)) (by rw [eT]; exact A.1) (State.isArrayOf_alike hZ.alike A.2.1) A.2.2 hj hv (g := mkF m pc Ls (.int j :: .ref a :: st)) rfl rfl hd _ q) k
theorem go_laload (X : Stand p l e R s m args below meth c T locs cells slots) (hx : p.tables.exec = Jvm.exec) (hZ : Z.Warmed39 s.vm) (eT : T.heap = h) {a : Addr} {cl : Cell} (A : Arr Z h a cl .long) {j : Int32} {w : Int64} (hj : ¬ (j < 0 ∨ cl.slots.size ≤ j.toNatClampNeg)) (hv : cl.slots[j.toNatClampNeg]? = some (.long w)) (hd : Dec c.code pc .laload 1 pc') (k : Go p e below En (T.setTop (mkF m pc' Ls (.long w :: st)))) : Go p e below En (T.setTop (mkF m pc Ls (.int j :: .ref a :: st))) := by
  obtain ⟨hd, rfl⟩ := hd
  exact own_via (fun t q => X.laload hx (j := j) (v := (.long w)) (by rw [eT]; exact A.1) (State.isArrayOf_alike hZ.alike A.2.1) A.2.2 hj hv (g := mkF m pc Ls (.int j :: .ref a :: st)) rfl rfl hd _ q) k
theorem go_iastore (X : Stand p l e R s m args below meth c T locs cells slots) (hx : p.tables.exec = Jvm.exec) (hZ : Z.Warmed39 s.vm) (eT : T.heap = h) {a : Addr} {cl : Cell} (A : Arr Z h a cl .int) {j : Int32} {x : Int32} (hj : ¬ (j < 0 ∨ cl.slots.size ≤ j.toNatClampNeg)) (hd : Dec c.code pc .iastore 1 pc') (k : ∀ T' h', Stand p l e R s m args below meth c T' (locs ++ [⟨a, j.toNatClampNeg⟩]) cells slots → T'.heap = h' → Wr h h' a j.toNatClampNeg (.int x) → Go p e below En (T'.setTop (mkF m pc' Ls st))) : Go p e below En (T.setTop (mkF m pc Ls (.int x :: .int j :: .ref a :: st))) := by
  obtain ⟨hd, rfl⟩ := hd
  obtain ⟨T', h', X', e', W, q⟩ := stI X hx hZ eT A hj (g := mkF m pc Ls (.int x :: .int j :: .ref a :: st)) rfl rfl hd
  exact own_via q (k T' h' X' e' W)
theorem go_lastore (X : Stand p l e R s m args below meth c T locs cells slots) (hx : p.tables.exec = Jvm.exec) (hZ : Z.Warmed39 s.vm) (eT : T.heap = h) {a : Addr} {cl : Cell} (A : Arr Z h a cl .long) {j : Int32} {x : Int64} (hj : ¬ (j < 0 ∨ cl.slots.size ≤ j.toNatClampNeg)) (hd : Dec c.code pc .lastore 1 pc') (k : ∀ T' h', Stand p l e R s m args below meth c T' (locs ++ [⟨a, j.toNatClampNeg⟩]) cells slots → T'.heap = h' → Wr h h' a j.toNatClampNeg (.long x) → Go p e below En (T'.setTop (mkF m pc' Ls st))) : Go p e below En (T.setTop (mkF m pc Ls (.long x :: .int j :: .ref a :: st))) := by
  obtain ⟨hd, rfl⟩ := hd
  obtain ⟨T', h', X', e', W, q⟩ := stJ X hx hZ eT A hj (g := mkF m pc Ls (.long x :: .int j :: .ref a :: st)) rfl rfl hd
  exact own_via q (k T' h' X' e' W)
theorem go_castore (X : Stand p l e R s m args below meth c T locs cells slots) (hx : p.tables.exec = Jvm.exec) (hZ : Z.Warmed39 s.vm) (eT : T.heap = h) {a : Addr} {cl : Cell} (A : Arr Z h a cl .char) {j : Int32} {x : Int32} (hj : ¬ (j < 0 ∨ cl.slots.size ≤ j.toNatClampNeg)) (hd : Dec c.code pc .castore 1 pc') (k : ∀ T' h', Stand p l e R s m args below meth c T' (locs ++ [⟨a, j.toNatClampNeg⟩]) cells slots → T'.heap = h' → Wr h h' a j.toNatClampNeg (.int (nar .char x)) → Go p e below En (T'.setTop (mkF m pc' Ls st))) : Go p e below En (T.setTop (mkF m pc Ls (.int x :: .int j :: .ref a :: st))) := by
  obtain ⟨hd, rfl⟩ := hd
  obtain ⟨T', h', X', e', W, q⟩ := stC X hx hZ eT A hj (g := mkF m pc Ls (.int x :: .int j :: .ref a :: st)) rfl rfl hd
  exact own_via q (k T' h' X' e' W)
theorem go_bastore (X : Stand p l e R s m args below meth c T locs cells slots) (hx : p.tables.exec = Jvm.exec) (hZ : Z.Warmed39 s.vm) (eT : T.heap = h) {a : Addr} {cl : Cell} (A : Arr Z h a cl .byte) {j : Int32} {x : Int32} (hj : ¬ (j < 0 ∨ cl.slots.size ≤ j.toNatClampNeg)) (hd : Dec c.code pc .bastore 1 pc') (k : ∀ T' h', Stand p l e R s m args below meth c T' (locs ++ [⟨a, j.toNatClampNeg⟩]) cells slots → T'.heap = h' → Wr h h' a j.toNatClampNeg (.int (nar .byte x)) → Go p e below En (T'.setTop (mkF m pc' Ls st))) : Go p e below En (T.setTop (mkF m pc Ls (.int x :: .int j :: .ref a :: st))) := by
  obtain ⟨hd, rfl⟩ := hd
  obtain ⟨T', h', X', e', W, q⟩ := stB X hx hZ eT A hj (g := mkF m pc Ls (.int x :: .int j :: .ref a :: st)) rfl rfl hd
  exact own_via q (k T' h' X' e' W)
theorem go_zastore (X : Stand p l e R s m args below meth c T locs cells slots) (hx : p.tables.exec = Jvm.exec) (hZ : Z.Warmed39 s.vm) (eT : T.heap = h) {a : Addr} {cl : Cell} (A : Arr Z h a cl .boolean) {j : Int32} {x : Int32} (hj : ¬ (j < 0 ∨ cl.slots.size ≤ j.toNatClampNeg)) (hd : Dec c.code pc .bastore 1 pc') (k : ∀ T' h', Stand p l e R s m args below meth c T' (locs ++ [⟨a, j.toNatClampNeg⟩]) cells slots → T'.heap = h' → Wr h h' a j.toNatClampNeg (.int (nar .boolean x)) → Go p e below En (T'.setTop (mkF m pc' Ls st))) : Go p e below En (T.setTop (mkF m pc Ls (.int x :: .int j :: .ref a :: st))) := by
  obtain ⟨hd, rfl⟩ := hd
  obtain ⟨T', h', X', e', W, q⟩ := stZ X hx hZ eT A hj (g := mkF m pc Ls (.int x :: .int j :: .ref a :: st)) rfl rfl hd
  exact own_via q (k T' h' X' e' W)
abbrev QV (h0 : Heap) : Option Value → Heap → List Loc → Prop := fun v h L => v = none ∧ h = h0 ∧ L = []
theorem go_specialP (X : Stand p l e R s m args below meth c T locs cells slots) (hx : p.tables.exec = Jvm.exec) (hZ : Z.Warmed39 s.vm) {own : String} {index : Nat} {y : MethodName} (hn : y.name = "<init>") {bytes : ByteArray} {maxL : Nat} (hown : s.vm.findClass own = some m.cls) (w1 : (Jvm.Cond.methodLink own index y).before a0 Z = true) (w2 : (Jvm.Cond.instanceMethod y).before a0 Z = true) (w3 : (Jvm.Cond.initialized y.cls).before a0 Z = true) (w4 : (Jvm.Cond.code y bytes maxL none).before a0 Z = true) (hy : y.cls ≠ "java/lang/invoke/MethodHandle" ∧ y.cls ≠ "java/lang/invoke/VarHandle") (eT : T.heap = h) {rm : Room} {a : Addr} (argsL rest : List Value) (hC : Ct l Z y bytes maxL none [] rm (.ref a :: argsL).toArray h (QV h)) {ps : List FieldType} {rt : Option FieldType} (pd : parseMethodDescriptor y.desc = some ⟨ps, rt⟩) (hl : argsL.length = ps.length) (hsize : Ls.size = c.maxLocals) {stk : List Value} (hstk : stk = argsL.reverse ++ .ref a :: rest) (W : Nat) (hW : (rest.map fun v => v.category).sum ≤ W) (hf : rm.frames + 1 ≤ R.frames) (hlo : W + (maxL + 11) + rm.locals ≤ R.locals) (hce : rm.cells = 0) (hsl : rm.slots = 0) (hrc : cells ≤ R.cells) (hrs : slots ≤ R.slots) (hd : Dec c.code pc (.invokespecial index) 3 pc') (k : ∀ T', Stand p l e R s m args below meth c T' locs cells slots → T'.heap = h → Go p e below En (T'.setTop (mkF m pc' Ls rest))) : Go p e below En (T.setTop (mkF m pc Ls stk)) :=
  go_special X hx hZ hn hown w1 w2 w3 w4 hy eT argsL rest hC pd hl hsize hstk W hW hf hlo (by rw [hce]; exact hrc) (by rw [hsl]; exact hrs) hd (fun T' v L X' hQ => by
    obtain ⟨rfl, e', rfl⟩ := hQ
    rw [hce, hsl, List.append_nil, Nat.add_zero, Nat.add_zero] at X'
    exact k T' X' e')
theorem go_virtualUp (X : Stand p l e R s m args below meth c T locs cells slots) (hx : p.tables.exec = Jvm.exec) (hZ : Z.Warmed39 s.vm) {own C owner : String} {index : Nat} {x y : MethodName} {bytes : ByteArray} {maxL : Nat} {ret : Option FieldType} (hown : s.vm.findClass own = some m.cls) (w1 : (Jvm.Cond.methodLink own index x).before a0 Z = true) (w2 : (Jvm.Cond.sameMethod x.cls owner x.name x.desc).before a0 Z = true) (w7 : (Jvm.Cond.declares ⟨owner, x.name, x.desc⟩).before a0 Z = true) (w5 : (Jvm.Cond.selects C x y).before a0 Z = true) (w6 : (Jvm.Cond.instanceMethod y).before a0 Z = true) (w3 : (Jvm.Cond.initialized y.cls).before a0 Z = true) (w4 : (Jvm.Cond.code y bytes maxL ret).before a0 Z = true) (hy : owner ≠ "java/lang/invoke/MethodHandle" ∧ owner ≠ "java/lang/invoke/VarHandle") (eT : T.heap = h) {rm : Room} {a : Addr} (E : Exa Z h a C) (argsL rest : List Value) {Qc : Option Value → Heap → List Loc → Prop} (hC : Ct l Z y bytes maxL ret [] rm (.ref a :: argsL).toArray h Qc) {ps : List FieldType} {rt : Option FieldType} (pd : parseMethodDescriptor x.desc = some ⟨ps, rt⟩) (hl : argsL.length = ps.length) (hsize : Ls.size = c.maxLocals) {stk : List Value} (hstk : stk = argsL.reverse ++ .ref a :: rest) (W : Nat) (hW : (rest.map fun v => v.category).sum ≤ W) (hf : rm.frames + 1 ≤ R.frames) (hlo : W + (maxL + 11) + rm.locals ≤ R.locals) (hce : cells + rm.cells ≤ R.cells) (hsl : slots + rm.slots ≤ R.slots) (hd : Dec c.code pc (.invokevirtual index) 3 pc') (k : ∀ T' v L, Stand p l e R s m args below meth c T' (locs ++ L) (cells + rm.cells) (slots + rm.slots) → Qc v T'.heap L → Go p e below En (T'.setTop (mkF m pc' Ls (v.toList ++ rest)))) : Go p e below En (T.setTop (mkF m pc Ls stk)) := by
  obtain ⟨hd, rfl⟩ := hd
  obtain ⟨cq, kq, qa, qb, qc⟩ := isOf hZ eT E
  obtain ⟨v, _, ⟨T', L', k', n'⟩, -, X', ⟨L, hQ, l1, y1, z1⟩, q⟩ := X.virtualBackUp hx hown (mvT hZ w1) (mvT hZ w2) (mvT hZ w7) hy (mvT hZ w5) (mvT hZ w6) (backOf (W := W) hC hZ w4 w3 hf hlo) qa qc (g := mkF m pc Ls stk) rfl hsize (Steps.refl _) (argsL := argsL) (rest := rest) (lenOf pd hl) hstk (by show 2 * 0 + _ ≤ _; omega) hd (fun _ _ => ⟨rfl, eT, hce, hsl⟩)
  dsimp only [Pt.U, Pt.locs, Pt.cells, Pt.slots] at X' l1 y1 z1 q hQ
  subst l1 y1 z1
  exact own_via (fun _ => q.trans) (k T' v L X' hQ)
def PutOk (Z : State) (a0 : Array Value) (h : Heap) (a : Addr) (O n d : String) : Prop := ∃ C kk, Exa Z h a C ∧ (Jvm.Cond.lays C O n d).before a0 Z = true ∧ (Jvm.Cond.instantiable C kk).before a0 Z = true
theorem go_putN (X : Stand p l e R s m args below meth c T locs cells slots) (hx : p.tables.exec = Jvm.exec) (hZ : Z.Warmed39 s.vm) {own R0 O n d host : String} {index : Nat} {ty : FieldType} (hown : s.vm.findClass own = some m.cls) (w : (Jvm.Cond.fieldLink own index R0 n d).before a0 Z = true ∨ (Jvm.Cond.fieldLinkNest own index R0 n d host).before a0 Z = true) (via : Via Z R0 O n d) (eT : T.heap = h) {a : Addr} {v old : Value} (F : Fld Z h a O n d old) (P : PutOk Z a0 h a O n d) (hty : parseFieldDescriptor d = some ty) (hn : narrow ty v = v) (hf : fits ty v = true) (hd : Dec c.code pc (.putfield index) 3 pc') (k : ∀ T' h', Stand p l e R s m args below meth c T' (locs ++ [⟨a, Jvm.RoadKit.slotOf Z O n d⟩]) cells slots → T'.heap = h' → Wr h h' a (Jvm.RoadKit.slotOf Z O n d) v → Go p e below En (T'.setTop (mkF m pc' Ls st))) : Go p e below En (T.setTop (mkF m pc Ls (v :: .ref a :: st))) := by
  obtain ⟨C, kk, E, L, wi⟩ := P
  exact go_putF X hx hZ hown w via eT F E (Or.inl L) wi hty hn hf hd k
theorem own_staK {C n d : String} {v : Value} {h' : Heap} (F : Sta Z h C n d v) (K : Keep h h' []) : Sta Z h' C n d v := by
  obtain ⟨cf, i, k, f, st, cell, h1, h2, h3, h4, h5, r⟩ := F
  exact ⟨cf, i, k, f, st, cell, h1, h2, h3, h4, K.2.1 _ _ h5 (by simp), r⟩
theorem own_ldcW (X : Stand p l e R s m args below meth c T locs cells slots) (hexec : p.tables.exec = Jvm.exec) {own : String} {index : Nat} {v : Int32} (hown : s.vm.findClass own = some m.cls) (hconst : (Jvm.Cond.constant own index v).before args s = true) {g : JFrame} (hg : g.method = m) (hdg : decode c.code g.pc = .ok (.ldc_w index, 3)) :
    ∀ target, Steps p.tables e below (T.setTop { g with pc := g.pc + 3, stack := .int v :: g.stack }) target → Steps p.tables e below (T.setTop g) target := by
  obtain ⟨k, cf, bytes, hk, hcf, hcp, hb⟩ := Cond.constant_spec hown hconst
  obtain ⟨k', hk', he⟩ := X.warmed.alike.2.2 _ _ hk
  intro target hrest
  subst hg
  jvm_step X.here [hexec, hdg, ldc_w.wp_int (s := T) (f := g) X.here.top hk' (by rw [he]; exact hcf) hcp, hb]
  exact hrest
theorem go_ldcw (X : Stand p l e R s m args below meth c T locs cells slots) (hx : p.tables.exec = Jvm.exec) (hZ : Z.Warmed39 s.vm) {own : String} {index : Nat} {v : Int32} (hown : s.vm.findClass own = some m.cls) (w : (Jvm.Cond.constant own index v).before a0 Z = true) (hd : Dec c.code pc (.ldc_w index) 3 pc') (k : Go p e below En (T.setTop (mkF m pc' Ls (.int v :: st)))) : Go p e below En (T.setTop (mkF m pc Ls st)) := by
  obtain ⟨hd, rfl⟩ := hd
  exact own_via (fun t => own_ldcW X hx hown (mv hZ w) (g := mkF m pc Ls st) rfl hd t) k
theorem go_baload (X : Stand p l e R s m args below meth c T locs cells slots) (hx : p.tables.exec = Jvm.exec) (hZ : Z.Warmed39 s.vm) (eT : T.heap = h) {a : Addr} {cl : Cell} (A : Arr Z h a cl .byte) {j w : Int32} (hj : ¬ (j < 0 ∨ cl.slots.size ≤ j.toNatClampNeg)) (hv : cl.slots[j.toNatClampNeg]? = some (.int w)) (hd : Dec c.code pc .baload 1 pc') (k : Go p e below En (T.setTop (mkF m pc' Ls (.int w :: st)))) : Go p e below En (T.setTop (mkF m pc Ls (.int j :: .ref a :: st))) := by
  obtain ⟨hd, rfl⟩ := hd
  exact own_via (fun t q => X.baloadBytes hx (j := j) (v := (.int w)) (by rw [eT]; exact A.1) (State.isArrayOf_alike hZ.alike A.2.1) A.2.2 hj hv (g := mkF m pc Ls (.int j :: .ref a :: st)) rfl rfl hd _ q) k
theorem own_rep {n : Nat} {d : Value} : ∀ i, (List.replicate n d).getD i d = ([] : List Value).getD i d := fun i => by
  simp only [List.getD_eq_getElem?_getD, List.getElem?_replicate, List.getElem?_nil, Option.getD_none]
  split <;> rfl
theorem go_iastoreV (X : Stand p l e R s m args below meth c T locs cells slots) (hx : p.tables.exec = Jvm.exec) (hZ : Z.Warmed39 s.vm) (eT : T.heap = h) {a : Addr} {kc : ClassId} {z : Int32} {vs : List Value} {d : Value} (F : Arv Z h a kc .int z vs d) {j : Int32} {x : Int32} (q : ¬ j < 0 ∧ j < z) (i : Nat) (hj : j.toNatClampNeg = i) (hl : i < vs.length) (hd : Dec c.code pc .iastore 1 pc') (k : ∀ T' h', Stand p l e R s m args below meth c T' (locs ++ [⟨a, j.toNatClampNeg⟩]) cells slots → T'.heap = h' → Wr h h' a j.toNatClampNeg (.int x) → Arv Z h' a kc .int z (vs.set i (.int x)) d → Go p e below En (T'.setTop (mkF m pc' Ls st))) : Go p e below En (T.setTop (mkF m pc Ls (.int x :: .int j :: .ref a :: st))) := by
  obtain ⟨c1, A, q1, S, q3, H, G⟩ := F
  exact go_iastore X hx hZ eT A (inb_of S q) hd (fun T' h' X' e' W => k T' h' X' e' W (Arv.set A q1 S q3 H G rfl W i hj hl))
theorem go_lastoreV (X : Stand p l e R s m args below meth c T locs cells slots) (hx : p.tables.exec = Jvm.exec) (hZ : Z.Warmed39 s.vm) (eT : T.heap = h) {a : Addr} {kc : ClassId} {z : Int32} {vs : List Value} {d : Value} (F : Arv Z h a kc .long z vs d) {j : Int32} {x : Int64} (q : ¬ j < 0 ∧ j < z) (i : Nat) (hj : j.toNatClampNeg = i) (hl : i < vs.length) (hd : Dec c.code pc .lastore 1 pc') (k : ∀ T' h', Stand p l e R s m args below meth c T' (locs ++ [⟨a, j.toNatClampNeg⟩]) cells slots → T'.heap = h' → Wr h h' a j.toNatClampNeg (.long x) → Arv Z h' a kc .long z (vs.set i (.long x)) d → Go p e below En (T'.setTop (mkF m pc' Ls st))) : Go p e below En (T.setTop (mkF m pc Ls (.long x :: .int j :: .ref a :: st))) := by
  obtain ⟨c1, A, q1, S, q3, H, G⟩ := F
  exact go_lastore X hx hZ eT A (inb_of S q) hd (fun T' h' X' e' W => k T' h' X' e' W (Arv.set A q1 S q3 H G rfl W i hj hl))
theorem go_bastoreV (X : Stand p l e R s m args below meth c T locs cells slots) (hx : p.tables.exec = Jvm.exec) (hZ : Z.Warmed39 s.vm) (eT : T.heap = h) {a : Addr} {kc : ClassId} {z : Int32} {vs : List Value} {d : Value} (F : Arv Z h a kc .byte z vs d) {j : Int32} {x : Int32} (q : ¬ j < 0 ∧ j < z) (i : Nat) (hj : j.toNatClampNeg = i) (hl : i < vs.length) (hd : Dec c.code pc .bastore 1 pc') (k : ∀ T' h', Stand p l e R s m args below meth c T' (locs ++ [⟨a, j.toNatClampNeg⟩]) cells slots → T'.heap = h' → Wr h h' a j.toNatClampNeg (.int (nar .byte x)) → Arv Z h' a kc .byte z (vs.set i (.int (nar .byte x))) d → Go p e below En (T'.setTop (mkF m pc' Ls st))) : Go p e below En (T.setTop (mkF m pc Ls (.int x :: .int j :: .ref a :: st))) := by
  obtain ⟨c1, A, q1, S, q3, H, G⟩ := F
  exact go_bastore X hx hZ eT A (inb_of S q) hd (fun T' h' X' e' W => k T' h' X' e' W (Arv.set A q1 S q3 H G (fits_nar_byte _) W i hj hl))
theorem go_castoreV (X : Stand p l e R s m args below meth c T locs cells slots) (hx : p.tables.exec = Jvm.exec) (hZ : Z.Warmed39 s.vm) (eT : T.heap = h) {a : Addr} {kc : ClassId} {z : Int32} {vs : List Value} {d : Value} (F : Arv Z h a kc .char z vs d) {j : Int32} {x : Int32} (q : ¬ j < 0 ∧ j < z) (i : Nat) (hj : j.toNatClampNeg = i) (hl : i < vs.length) (hd : Dec c.code pc .castore 1 pc') (k : ∀ T' h', Stand p l e R s m args below meth c T' (locs ++ [⟨a, j.toNatClampNeg⟩]) cells slots → T'.heap = h' → Wr h h' a j.toNatClampNeg (.int (nar .char x)) → Arv Z h' a kc .char z (vs.set i (.int (nar .char x))) d → Go p e below En (T'.setTop (mkF m pc' Ls st))) : Go p e below En (T.setTop (mkF m pc Ls (.int x :: .int j :: .ref a :: st))) := by
  obtain ⟨c1, A, q1, S, q3, H, G⟩ := F
  exact go_castore X hx hZ eT A (inb_of S q) hd (fun T' h' X' e' W => k T' h' X' e' W (Arv.set A q1 S q3 H G (fits_nar_char _) W i hj hl))
theorem go_aastoreV (X : Stand p l e R s m args below meth c T locs cells slots) (hx : p.tables.exec = Jvm.exec) (hZ : Z.Warmed39 s.vm) (eT : T.heap = h) {a y : Addr} {C : String} {kc : ClassId} {z : Int32} {vs : List Value} {d : Value} (F : Arv Z h a kc (.object C) z vs d) (O : Ovr Z kc C) (I : Ins Z h y C true) {j : Int32} (q : ¬ j < 0 ∧ j < z) (i : Nat) (hj : j.toNatClampNeg = i) (hl : i < vs.length) (hd : Dec c.code pc .aastore 1 pc') (k : ∀ T' h', Stand p l e R s m args below meth c T' (locs ++ [⟨a, j.toNatClampNeg⟩]) cells slots → T'.heap = h' → Wr h h' a j.toNatClampNeg (.ref y) → Arv Z h' a kc (.object C) z (vs.set i (.ref y)) d → Go p e below En (T'.setTop (mkF m pc' Ls st))) : Go p e below En (T.setTop (mkF m pc Ls (.ref y :: .int j :: .ref a :: st))) := by
  obtain ⟨hd, rfl⟩ := hd
  obtain ⟨c1, A, q1, S, q3, H, G⟩ := F
  obtain ⟨T', h', X', e', W, r⟩ := stR X hx hZ eT A (inb_of S q) rfl (Sto.of A (by rw [q1]; exact O) I) (g := mkF m pc Ls (.ref y :: .int j :: .ref a :: st)) rfl rfl hd
  exact own_via r (k T' h' X' e' W (Arv.set A q1 S q3 H G rfl W i hj hl))
theorem go_newR (X : Stand p l e R s m args below meth c T locs cells slots) (hx : p.tables.exec = Jvm.exec) (hZ : Z.Warmed39 s.vm) {own C : String} {index : Nat} (hown : s.vm.findClass own = some m.cls) (w1 : (Jvm.Cond.classLink own index C).before a0 Z = true) (w2 : (Jvm.Cond.arrayOver (.object C)).before a0 Z = true) (eT : T.heap = h) (hd : Dec c.code pc (.anewarray index) 3 pc') {n : Int32} (hn : ¬ n < 0) (cap : Nat) (hcap : n.toNatClampNeg ≤ cap) (hb : cap * 8 ≤ 536870912) (hc : cells + 1 ≤ R.cells) (hl : slots + cap ≤ R.slots) (k : ∀ T' h' cA (a : Addr), a = h.size → Stand p l e R s m args below meth c T' locs (cells + 1) (slots + cap) → T'.heap = h' → Ext h h' → Arr Z h' a (newA cA (.object C) n) (.object C) → Ovr Z cA C → Go p e below En (T'.setTop (mkF m pc' Ls (.ref a :: st)))) : Go p e below En (T.setTop (mkF m pc Ls (.int n :: st))) := by
  obtain ⟨hd, rfl⟩ := hd
  obtain ⟨T', h', cA, X', e', E, A, O, q⟩ := newR X hx hZ hown w1 w2 eT (g := mkF m pc Ls (.int n :: st)) rfl hd rfl hn hcap hb hc hl
  exact own_via q (k T' h' cA _ rfl X' e' E A O)
theorem go_ialoadV (X : Stand p l e R s m args below meth c T locs cells slots) (hx : p.tables.exec = Jvm.exec) (hZ : Z.Warmed39 s.vm) (eT : T.heap = h) {a : Addr} {kc : ClassId} {z : Int32} {vs : List Value} {d : Value} (F : Arv Z h a kc .int z vs d) {j : Int32} {w : Int32} (q : ¬ j < 0 ∧ j < z) (hv : vs.getD j.toNatClampNeg d = .int w) (hd : Dec c.code pc .iaload 1 pc') (k : Go p e below En (T.setTop (mkF m pc' Ls (.int w :: st)))) : Go p e below En (T.setTop (mkF m pc Ls (.int j :: .ref a :: st))) := by
  obtain ⟨c1, A, q1, S, q3, H, G⟩ := F
  have hin := inb_of S q
  exact go_iaload X hx hZ eT A hin (by rw [H _ (Nat.lt_of_not_le fun r => hin (Or.inr r)), hv]) hd k
theorem go_laloadV (X : Stand p l e R s m args below meth c T locs cells slots) (hx : p.tables.exec = Jvm.exec) (hZ : Z.Warmed39 s.vm) (eT : T.heap = h) {a : Addr} {kc : ClassId} {z : Int32} {vs : List Value} {d : Value} (F : Arv Z h a kc .long z vs d) {j : Int32} {w : Int64} (q : ¬ j < 0 ∧ j < z) (hv : vs.getD j.toNatClampNeg d = .long w) (hd : Dec c.code pc .laload 1 pc') (k : Go p e below En (T.setTop (mkF m pc' Ls (.long w :: st)))) : Go p e below En (T.setTop (mkF m pc Ls (.int j :: .ref a :: st))) := by
  obtain ⟨c1, A, q1, S, q3, H, G⟩ := F
  have hin := inb_of S q
  exact go_laload X hx hZ eT A hin (by rw [H _ (Nat.lt_of_not_le fun r => hin (Or.inr r)), hv]) hd k
theorem go_baloadV (X : Stand p l e R s m args below meth c T locs cells slots) (hx : p.tables.exec = Jvm.exec) (hZ : Z.Warmed39 s.vm) (eT : T.heap = h) {a : Addr} {kc : ClassId} {z : Int32} {vs : List Value} {d : Value} (F : Arv Z h a kc .byte z vs d) {j : Int32} {w : Int32} (q : ¬ j < 0 ∧ j < z) (hv : vs.getD j.toNatClampNeg d = .int w) (hd : Dec c.code pc .baload 1 pc') (k : Go p e below En (T.setTop (mkF m pc' Ls (.int w :: st)))) : Go p e below En (T.setTop (mkF m pc Ls (.int j :: .ref a :: st))) := by
  obtain ⟨c1, A, q1, S, q3, H, G⟩ := F
  have hin := inb_of S q
  exact go_baload X hx hZ eT A hin (by rw [H _ (Nat.lt_of_not_le fun r => hin (Or.inr r)), hv]) hd k
theorem go_aaloadV (X : Stand p l e R s m args below meth c T locs cells slots) (hx : p.tables.exec = Jvm.exec) (hZ : Z.Warmed39 s.vm) (eT : T.heap = h) {a : Addr} {kc : ClassId} {ty : FieldType} (hty : ty.isReference = true) {z : Int32} {vs : List Value} {d : Value} (F : Arv Z h a kc ty z vs d) {j : Int32} {v : Value} (q : ¬ j < 0 ∧ j < z) (hv : vs.getD j.toNatClampNeg d = v) (hd : Dec c.code pc .aaload 1 pc') (k : Go p e below En (T.setTop (mkF m pc' Ls (v :: st)))) : Go p e below En (T.setTop (mkF m pc Ls (.int j :: .ref a :: st))) := by
  obtain ⟨hd, rfl⟩ := hd
  obtain ⟨c1, A, q1, S, q3, H, G⟩ := F
  have hin := inb_of S q
  exact own_via (fun t r => X.aaload hx (j := j) (v := v) (by rw [eT]; exact A.1) (State.isArrayOf_alike hZ.alike A.2.1) hty A.2.2 hin (by rw [H _ (Nat.lt_of_not_le fun r => hin (Or.inr r)), hv]) (g := mkF m pc Ls (.int j :: .ref a :: st)) rfl rfl hd _ r) k
end OwnGo
def own_b (P : Prop) [Decidable P] : Int32 := if P then 1 else 0
theorem own_b0 {P : Prop} [Decidable P] : own_b P = 0 ↔ ¬ P := by unfold own_b; by_cases h : P <;> simp [h]
theorem own_bT {P : Prop} [Decidable P] (h : P) : own_b P = 1 := by unfold own_b; simp [h]
theorem own_bF {P : Prop} [Decidable P] (h : ¬ P) : own_b P = 0 := by unfold own_b; simp [h]
theorem own_bC {P Q : Prop} [Decidable P] [Decidable Q] (h : P ↔ Q) : own_b P = own_b Q := by unfold own_b; by_cases q : P <;> simp [q, h.symm] <;> simp [← h, q]

theorem own_ord {args : Array Value} {s : State} {t : Term} {C n d : String} {k : Int32} {a : Addr} (ht : t.eval args s none [] s = some (.ref a)) (hq : (Jvm.Cond.eq (Term.field t C n d) (Term.int k)).value args s none s [] = some true) : s.fieldOf? a C n d = some (.int k) := by
  have e1 := fld_at (C := C) (n := n) (dd := d) ht
  have e2 : (Term.int k).eval args s none [] s = some (.int k) := rfl
  cases hv : s.fieldOf? a C n d with
  | none => rw [hv] at e1; simp [Cond.value, e1, e2] at hq
  | some v =>
    rw [hv] at e1
    simp only [Cond.value, e1, e2] at hq
    cases v <;> simp at hq ⊢ <;> exact hq


abbrev own_H (b c : Int32) : Prop := c = 9 ∨ c = 10 ∨ c = 13 ∨ (¬ c < 32 ∧ ¬ (55295 : Int32) < c) ∨ (¬ c < 57344 ∧ ¬ (65533 : Int32) < c) ∨ ¬ c < 65536 ∨ (¬ b = 0 ∧ ¬ c < 1 ∧ ¬ (31 : Int32) < c)
abbrev own_Lo (c : Int32) : Prop := (c < 32 ∧ ¬ c = 9 ∧ ¬ c = 10 ∧ ¬ c = 13) ∨ (¬ c < 127 ∧ ¬ (159 : Int32) < c)
abbrev own_X (b c : Int32) : Prop := ¬ b = 0 ∧ (c = 8232 ∨ (¬ c < 127 ∧ ¬ (159 : Int32) < c) ∨ (¬ c < 1 ∧ ¬ (31 : Int32) < c ∧ ¬ c = 9 ∧ ¬ c = 10 ∧ ¬ c = 13))
theorem own_fin {b c : Int32} {a a0 a1 : Addr} (hne : a0 ≠ a1) (ha : (b = 0 ∧ a = a0) ∨ (¬ b = 0 ∧ a = a1)) (hh : own_H b c) : (a = a1 ∧ (own_Lo c ∨ c = 8232)) ↔ own_X b c := by
  have e : (a = a1) ↔ ¬ b = 0 := by rcases ha with ⟨q, rfl⟩ | ⟨q, rfl⟩ <;> simp [q, hne]
  rw [e]
  simp only [own_H, own_Lo, own_X, Int32.lt_iff_toInt_lt, ← Int32.toInt_inj] at *
  generalize c.toInt = k at *
  generalize b.toInt = j at *
  simp only [show (0 : Int32).toInt = 0 from rfl, show (1 : Int32).toInt = 1 from rfl, show (9 : Int32).toInt = 9 from rfl, show (10 : Int32).toInt = 10 from rfl, show (13 : Int32).toInt = 13 from rfl, show (31 : Int32).toInt = 31 from rfl, show (32 : Int32).toInt = 32 from rfl, show (127 : Int32).toInt = 127 from rfl, show (159 : Int32).toInt = 159 from rfl, show (8232 : Int32).toInt = 8232 from rfl, show (55295 : Int32).toInt = 55295 from rfl, show (57344 : Int32).toInt = 57344 from rfl, show (65533 : Int32).toInt = 65533 from rfl, show (65536 : Int32).toInt = 65536 from rfl] at *
  omega

theorem d1_0 : Dec method_2_code 0 (.iload_n 1) 1 1 := ⟨by decide +kernel, rfl⟩
theorem d1_1 : Dec method_2_code 1 (.bipush 9) 2 3 := ⟨by decide +kernel, rfl⟩
theorem d1_3 : DecB method_2_code 3 (.if_icmp .eq 15) (15) 6 18 := ⟨by decide +kernel, rfl, by decide, by decide⟩
theorem d1_6 : Dec method_2_code 6 (.iload_n 1) 1 7 := ⟨by decide +kernel, rfl⟩
theorem d1_7 : Dec method_2_code 7 (.bipush 10) 2 9 := ⟨by decide +kernel, rfl⟩
theorem d1_9 : DecB method_2_code 9 (.if_icmp .eq 9) (9) 12 18 := ⟨by decide +kernel, rfl, by decide, by decide⟩
theorem d1_12 : Dec method_2_code 12 (.iload_n 1) 1 13 := ⟨by decide +kernel, rfl⟩
theorem d1_13 : Dec method_2_code 13 (.bipush 13) 2 15 := ⟨by decide +kernel, rfl⟩
theorem d1_15 : DecB method_2_code 15 (.if_icmp .ne 5) (5) 18 20 := ⟨by decide +kernel, rfl, by decide, by decide⟩
theorem d1_18 : Dec method_2_code 18 (.iconst 1) 1 19 := ⟨by decide +kernel, rfl⟩
theorem d1_19 : Dec method_2_code 19 (.ireturn) 1 20 := ⟨by decide +kernel, rfl⟩
theorem d1_20 : Dec method_2_code 20 (.iload_n 1) 1 21 := ⟨by decide +kernel, rfl⟩
theorem d1_21 : Dec method_2_code 21 (.bipush 32) 2 23 := ⟨by decide +kernel, rfl⟩
theorem d1_23 : DecB method_2_code 23 (.if_icmp .lt 11) (11) 26 34 := ⟨by decide +kernel, rfl, by decide, by decide⟩
theorem d1_26 : Dec method_2_code 26 (.iload_n 1) 1 27 := ⟨by decide +kernel, rfl⟩
theorem d1_27 : Dec method_2_code 27 (.ldc 7) 2 29 := ⟨by decide +kernel, rfl⟩
theorem d1_29 : DecB method_2_code 29 (.if_icmp .gt 5) (5) 32 34 := ⟨by decide +kernel, rfl, by decide, by decide⟩
theorem d1_32 : Dec method_2_code 32 (.iconst 1) 1 33 := ⟨by decide +kernel, rfl⟩
theorem d1_33 : Dec method_2_code 33 (.ireturn) 1 34 := ⟨by decide +kernel, rfl⟩
theorem d1_34 : Dec method_2_code 34 (.iload_n 1) 1 35 := ⟨by decide +kernel, rfl⟩
theorem d1_35 : Dec method_2_code 35 (.ldc 8) 2 37 := ⟨by decide +kernel, rfl⟩
theorem d1_37 : DecB method_2_code 37 (.if_icmp .lt 11) (11) 40 48 := ⟨by decide +kernel, rfl, by decide, by decide⟩
theorem d1_40 : Dec method_2_code 40 (.iload_n 1) 1 41 := ⟨by decide +kernel, rfl⟩
theorem d1_41 : Dec method_2_code 41 (.ldc 9) 2 43 := ⟨by decide +kernel, rfl⟩
theorem d1_43 : DecB method_2_code 43 (.if_icmp .gt 5) (5) 46 48 := ⟨by decide +kernel, rfl, by decide, by decide⟩
theorem d1_46 : Dec method_2_code 46 (.iconst 1) 1 47 := ⟨by decide +kernel, rfl⟩
theorem d1_47 : Dec method_2_code 47 (.ireturn) 1 48 := ⟨by decide +kernel, rfl⟩
theorem d1_48 : Dec method_2_code 48 (.iload_n 1) 1 49 := ⟨by decide +kernel, rfl⟩
theorem d1_49 : Dec method_2_code 49 (.ldc 10) 2 51 := ⟨by decide +kernel, rfl⟩
theorem d1_51 : DecB method_2_code 51 (.if_icmp .lt 5) (5) 54 56 := ⟨by decide +kernel, rfl, by decide, by decide⟩
theorem d1_54 : Dec method_2_code 54 (.iconst 1) 1 55 := ⟨by decide +kernel, rfl⟩
theorem d1_55 : Dec method_2_code 55 (.ireturn) 1 56 := ⟨by decide +kernel, rfl⟩
theorem d1_56 : Dec method_2_code 56 (.iload_n 0) 1 57 := ⟨by decide +kernel, rfl⟩
theorem d1_57 : DecB method_2_code 57 (.ifCond .eq 18) (18) 60 75 := ⟨by decide +kernel, rfl, by decide, by decide⟩
theorem d1_60 : Dec method_2_code 60 (.iload_n 1) 1 61 := ⟨by decide +kernel, rfl⟩
theorem d1_61 : Dec method_2_code 61 (.iconst 1) 1 62 := ⟨by decide +kernel, rfl⟩
theorem d1_62 : DecB method_2_code 62 (.if_icmp .lt 13) (13) 65 75 := ⟨by decide +kernel, rfl, by decide, by decide⟩
theorem d1_65 : Dec method_2_code 65 (.iload_n 1) 1 66 := ⟨by decide +kernel, rfl⟩
theorem d1_66 : Dec method_2_code 66 (.bipush 31) 2 68 := ⟨by decide +kernel, rfl⟩
theorem d1_68 : DecB method_2_code 68 (.if_icmp .gt 7) (7) 71 75 := ⟨by decide +kernel, rfl, by decide, by decide⟩
theorem d1_71 : Dec method_2_code 71 (.iconst 1) 1 72 := ⟨by decide +kernel, rfl⟩
theorem d1_72 : DecB method_2_code 72 (.goto 4) (4) 75 76 := ⟨by decide +kernel, rfl, by decide, by decide⟩
theorem d1_75 : Dec method_2_code 75 (.iconst 0) 1 76 := ⟨by decide +kernel, rfl⟩
theorem d1_76 : Dec method_2_code 76 (.ireturn) 1 77 := ⟨by decide +kernel, rfl⟩
theorem pn1 : plainName "com/example/filum/filum/format/XmlVersionNeedsReferencePinLaw" = true := by first | (simp [plainName, overriddenIn]; done) | decide +kernel
theorem ef1 (x0 : Int32) (x1 : Int32) (m : MethodId) : entryFrame m #[(.int x0), (.int x1)] 2 = mkF m 0 #[.val (.int x0), .val (.int x1)] [] := by first | (simp [entryFrame, mkF, argsToLocals, Value.category, maxLocals]; done) | rfl
set_option maxRecDepth 65536 in
set_option maxHeartbeats 40000000 in
theorem rm1 (l : Launch) (Z : State) (a0 : Array Value) (hw : ∀ d ∈ tables_1, d.before a0 Z = true) (ws : List Jvm.Cond) (p1 p2 : Int32) (h0 : Heap)  : Ct l Z (⟨"com/example/filum/filum/format/XmlVersionNeedsReferencePinLaw", "held", "(ZI)Z"⟩ : MethodName) method_2_code 2 (some .boolean) ws ({ frames := 0, cells := 0, slots := 0, locals := 0 } : Room) #[(.int p1), (.int p2)] h0 (QP (.int (own_b (own_H p1 p2))) h0) := by
  refine Ct.of (pn1) _ (ef1 p1 p2) ?_
  intro p e s m below meth c T0 hx hby hml hZ hown hnm hret hk e0 X0
  show Go p e below _ (T0.setTop (mkF m 0 #[.val (.int p1), .val (.int p2)] []))
  refine go_iloadn X0 hx (dc hby d1_0) (v := p2) rfl ?_
  refine go_bipush X0 hx (9) (dc hby d1_1) rfl ?_
  refine go_icmp_eq X0 hx (db hby d1_3) (fun c3 => ?_) (fun c3 => ?_)
  · refine go_iconst X0 hx (1) (dc hby d1_18) rfl ?_
    exact go_retN X0 hx hret (by simp) (dc hby d1_19) hk (by decide) (by decide) ⟨congrArg (fun z => some (Value.int z)) (by first | exact (own_bT (by first | (simp_all [own_b0, own_H, own_Lo, own_X]; done) | (try simp only [own_b0] at *) <;> grind)).symm | exact (own_bF (by first | (simp_all [own_b0, own_H, own_Lo, own_X]; done) | (try simp only [own_b0] at *) <;> grind)).symm), e0, rfl⟩
  · refine go_iloadn X0 hx (dc hby d1_6) (v := p2) rfl ?_
    refine go_bipush X0 hx (10) (dc hby d1_7) rfl ?_
    refine go_icmp_eq X0 hx (db hby d1_9) (fun c9 => ?_) (fun c9 => ?_)
    · refine go_iconst X0 hx (1) (dc hby d1_18) rfl ?_
      exact go_retN X0 hx hret (by simp) (dc hby d1_19) hk (by decide) (by decide) ⟨congrArg (fun z => some (Value.int z)) (by first | exact (own_bT (by first | (simp_all [own_b0, own_H, own_Lo, own_X]; done) | (try simp only [own_b0] at *) <;> grind)).symm | exact (own_bF (by first | (simp_all [own_b0, own_H, own_Lo, own_X]; done) | (try simp only [own_b0] at *) <;> grind)).symm), e0, rfl⟩
    · refine go_iloadn X0 hx (dc hby d1_12) (v := p2) rfl ?_
      refine go_bipush X0 hx (13) (dc hby d1_13) rfl ?_
      refine go_icmp_ne X0 hx (db hby d1_15) (fun c15 => ?_) (fun c15 => ?_)
      · refine go_iloadn X0 hx (dc hby d1_20) (v := p2) rfl ?_
        refine go_bipush X0 hx (32) (dc hby d1_21) rfl ?_
        refine go_icmp_lt X0 hx (db hby d1_23) (fun c23 => ?_) (fun c23 => ?_)
        · refine go_iloadn X0 hx (dc hby d1_34) (v := p2) rfl ?_
          refine go_ldc X0 hx hZ hown (hw _ (List.mem_of_getElem? (i := 7) rfl)) (dc hby d1_35) ?_
          refine go_icmp_lt X0 hx (db hby d1_37) (fun c37 => ?_) (fun c37 => ?_)
          · refine go_iloadn X0 hx (dc hby d1_48) (v := p2) rfl ?_
            refine go_ldc X0 hx hZ hown (hw _ (List.mem_of_getElem? (i := 8) rfl)) (dc hby d1_49) ?_
            refine go_icmp_lt X0 hx (db hby d1_51) (fun c51 => ?_) (fun c51 => ?_)
            · refine go_iloadn X0 hx (dc hby d1_56) (v := p1) rfl ?_
              refine go_ifc_eq X0 hx (db hby d1_57) (fun c57 => ?_) (fun c57 => ?_)
              · refine go_iconst X0 hx (0) (dc hby d1_75) rfl ?_
                exact go_retN X0 hx hret (by simp) (dc hby d1_76) hk (by decide) (by decide) ⟨congrArg (fun z => some (Value.int z)) (by first | exact (own_bT (by first | (simp_all [own_b0, own_H, own_Lo, own_X]; done) | (try simp only [own_b0] at *) <;> grind)).symm | exact (own_bF (by first | (simp_all [own_b0, own_H, own_Lo, own_X]; done) | (try simp only [own_b0] at *) <;> grind)).symm), e0, rfl⟩
              · refine go_iloadn X0 hx (dc hby d1_60) (v := p2) rfl ?_
                refine go_iconst X0 hx (1) (dc hby d1_61) rfl ?_
                refine go_icmp_lt X0 hx (db hby d1_62) (fun c62 => ?_) (fun c62 => ?_)
                · refine go_iconst X0 hx (0) (dc hby d1_75) rfl ?_
                  exact go_retN X0 hx hret (by simp) (dc hby d1_76) hk (by decide) (by decide) ⟨congrArg (fun z => some (Value.int z)) (by first | exact (own_bT (by first | (simp_all [own_b0, own_H, own_Lo, own_X]; done) | (try simp only [own_b0] at *) <;> grind)).symm | exact (own_bF (by first | (simp_all [own_b0, own_H, own_Lo, own_X]; done) | (try simp only [own_b0] at *) <;> grind)).symm), e0, rfl⟩
                · refine go_iloadn X0 hx (dc hby d1_65) (v := p2) rfl ?_
                  refine go_bipush X0 hx (31) (dc hby d1_66) rfl ?_
                  refine go_icmp_gt X0 hx (db hby d1_68) (fun c68 => ?_) (fun c68 => ?_)
                  · refine go_iconst X0 hx (0) (dc hby d1_75) rfl ?_
                    exact go_retN X0 hx hret (by simp) (dc hby d1_76) hk (by decide) (by decide) ⟨congrArg (fun z => some (Value.int z)) (by first | exact (own_bT (by first | (simp_all [own_b0, own_H, own_Lo, own_X]; done) | (try simp only [own_b0] at *) <;> grind)).symm | exact (own_bF (by first | (simp_all [own_b0, own_H, own_Lo, own_X]; done) | (try simp only [own_b0] at *) <;> grind)).symm), e0, rfl⟩
                  · refine go_iconst X0 hx (1) (dc hby d1_71) rfl ?_
                    refine go_goto X0 hx (db hby d1_72) ?_
                    exact go_retN X0 hx hret (by simp) (dc hby d1_76) hk (by decide) (by decide) ⟨congrArg (fun z => some (Value.int z)) (by first | exact (own_bT (by first | (simp_all [own_b0, own_H, own_Lo, own_X]; done) | (try simp only [own_b0] at *) <;> grind)).symm | exact (own_bF (by first | (simp_all [own_b0, own_H, own_Lo, own_X]; done) | (try simp only [own_b0] at *) <;> grind)).symm), e0, rfl⟩
            · refine go_iconst X0 hx (1) (dc hby d1_54) rfl ?_
              exact go_retN X0 hx hret (by simp) (dc hby d1_55) hk (by decide) (by decide) ⟨congrArg (fun z => some (Value.int z)) (by first | exact (own_bT (by first | (simp_all [own_b0, own_H, own_Lo, own_X]; done) | (try simp only [own_b0] at *) <;> grind)).symm | exact (own_bF (by first | (simp_all [own_b0, own_H, own_Lo, own_X]; done) | (try simp only [own_b0] at *) <;> grind)).symm), e0, rfl⟩
          · refine go_iloadn X0 hx (dc hby d1_40) (v := p2) rfl ?_
            refine go_ldc X0 hx hZ hown (hw _ (List.mem_of_getElem? (i := 22) rfl)) (dc hby d1_41) ?_
            refine go_icmp_gt X0 hx (db hby d1_43) (fun c43 => ?_) (fun c43 => ?_)
            · refine go_iloadn X0 hx (dc hby d1_48) (v := p2) rfl ?_
              refine go_ldc X0 hx hZ hown (hw _ (List.mem_of_getElem? (i := 8) rfl)) (dc hby d1_49) ?_
              refine go_icmp_lt X0 hx (db hby d1_51) (fun c51 => ?_) (fun c51 => ?_)
              · refine go_iloadn X0 hx (dc hby d1_56) (v := p1) rfl ?_
                refine go_ifc_eq X0 hx (db hby d1_57) (fun c57 => ?_) (fun c57 => ?_)
                · refine go_iconst X0 hx (0) (dc hby d1_75) rfl ?_
                  exact go_retN X0 hx hret (by simp) (dc hby d1_76) hk (by decide) (by decide) ⟨congrArg (fun z => some (Value.int z)) (by first | exact (own_bT (by first | (simp_all [own_b0, own_H, own_Lo, own_X]; done) | (try simp only [own_b0] at *) <;> grind)).symm | exact (own_bF (by first | (simp_all [own_b0, own_H, own_Lo, own_X]; done) | (try simp only [own_b0] at *) <;> grind)).symm), e0, rfl⟩
                · refine go_iloadn X0 hx (dc hby d1_60) (v := p2) rfl ?_
                  refine go_iconst X0 hx (1) (dc hby d1_61) rfl ?_
                  refine go_icmp_lt X0 hx (db hby d1_62) (fun c62 => ?_) (fun c62 => ?_)
                  · refine go_iconst X0 hx (0) (dc hby d1_75) rfl ?_
                    exact go_retN X0 hx hret (by simp) (dc hby d1_76) hk (by decide) (by decide) ⟨congrArg (fun z => some (Value.int z)) (by first | exact (own_bT (by first | (simp_all [own_b0, own_H, own_Lo, own_X]; done) | (try simp only [own_b0] at *) <;> grind)).symm | exact (own_bF (by first | (simp_all [own_b0, own_H, own_Lo, own_X]; done) | (try simp only [own_b0] at *) <;> grind)).symm), e0, rfl⟩
                  · refine go_iloadn X0 hx (dc hby d1_65) (v := p2) rfl ?_
                    refine go_bipush X0 hx (31) (dc hby d1_66) rfl ?_
                    refine go_icmp_gt X0 hx (db hby d1_68) (fun c68 => ?_) (fun c68 => ?_)
                    · refine go_iconst X0 hx (0) (dc hby d1_75) rfl ?_
                      exact go_retN X0 hx hret (by simp) (dc hby d1_76) hk (by decide) (by decide) ⟨congrArg (fun z => some (Value.int z)) (by first | exact (own_bT (by first | (simp_all [own_b0, own_H, own_Lo, own_X]; done) | (try simp only [own_b0] at *) <;> grind)).symm | exact (own_bF (by first | (simp_all [own_b0, own_H, own_Lo, own_X]; done) | (try simp only [own_b0] at *) <;> grind)).symm), e0, rfl⟩
                    · refine go_iconst X0 hx (1) (dc hby d1_71) rfl ?_
                      refine go_goto X0 hx (db hby d1_72) ?_
                      exact go_retN X0 hx hret (by simp) (dc hby d1_76) hk (by decide) (by decide) ⟨congrArg (fun z => some (Value.int z)) (by first | exact (own_bT (by first | (simp_all [own_b0, own_H, own_Lo, own_X]; done) | (try simp only [own_b0] at *) <;> grind)).symm | exact (own_bF (by first | (simp_all [own_b0, own_H, own_Lo, own_X]; done) | (try simp only [own_b0] at *) <;> grind)).symm), e0, rfl⟩
              · refine go_iconst X0 hx (1) (dc hby d1_54) rfl ?_
                exact go_retN X0 hx hret (by simp) (dc hby d1_55) hk (by decide) (by decide) ⟨congrArg (fun z => some (Value.int z)) (by first | exact (own_bT (by first | (simp_all [own_b0, own_H, own_Lo, own_X]; done) | (try simp only [own_b0] at *) <;> grind)).symm | exact (own_bF (by first | (simp_all [own_b0, own_H, own_Lo, own_X]; done) | (try simp only [own_b0] at *) <;> grind)).symm), e0, rfl⟩
            · refine go_iconst X0 hx (1) (dc hby d1_46) rfl ?_
              exact go_retN X0 hx hret (by simp) (dc hby d1_47) hk (by decide) (by decide) ⟨congrArg (fun z => some (Value.int z)) (by first | exact (own_bT (by first | (simp_all [own_b0, own_H, own_Lo, own_X]; done) | (try simp only [own_b0] at *) <;> grind)).symm | exact (own_bF (by first | (simp_all [own_b0, own_H, own_Lo, own_X]; done) | (try simp only [own_b0] at *) <;> grind)).symm), e0, rfl⟩
        · refine go_iloadn X0 hx (dc hby d1_26) (v := p2) rfl ?_
          refine go_ldc X0 hx hZ hown (hw _ (List.mem_of_getElem? (i := 10) rfl)) (dc hby d1_27) ?_
          refine go_icmp_gt X0 hx (db hby d1_29) (fun c29 => ?_) (fun c29 => ?_)
          · refine go_iloadn X0 hx (dc hby d1_34) (v := p2) rfl ?_
            refine go_ldc X0 hx hZ hown (hw _ (List.mem_of_getElem? (i := 7) rfl)) (dc hby d1_35) ?_
            refine go_icmp_lt X0 hx (db hby d1_37) (fun c37 => ?_) (fun c37 => ?_)
            · refine go_iloadn X0 hx (dc hby d1_48) (v := p2) rfl ?_
              refine go_ldc X0 hx hZ hown (hw _ (List.mem_of_getElem? (i := 8) rfl)) (dc hby d1_49) ?_
              refine go_icmp_lt X0 hx (db hby d1_51) (fun c51 => ?_) (fun c51 => ?_)
              · refine go_iloadn X0 hx (dc hby d1_56) (v := p1) rfl ?_
                refine go_ifc_eq X0 hx (db hby d1_57) (fun c57 => ?_) (fun c57 => ?_)
                · refine go_iconst X0 hx (0) (dc hby d1_75) rfl ?_
                  exact go_retN X0 hx hret (by simp) (dc hby d1_76) hk (by decide) (by decide) ⟨congrArg (fun z => some (Value.int z)) (by first | exact (own_bT (by first | (simp_all [own_b0, own_H, own_Lo, own_X]; done) | (try simp only [own_b0] at *) <;> grind)).symm | exact (own_bF (by first | (simp_all [own_b0, own_H, own_Lo, own_X]; done) | (try simp only [own_b0] at *) <;> grind)).symm), e0, rfl⟩
                · refine go_iloadn X0 hx (dc hby d1_60) (v := p2) rfl ?_
                  refine go_iconst X0 hx (1) (dc hby d1_61) rfl ?_
                  refine go_icmp_lt X0 hx (db hby d1_62) (fun c62 => ?_) (fun c62 => ?_)
                  · refine go_iconst X0 hx (0) (dc hby d1_75) rfl ?_
                    exact go_retN X0 hx hret (by simp) (dc hby d1_76) hk (by decide) (by decide) ⟨congrArg (fun z => some (Value.int z)) (by first | exact (own_bT (by first | (simp_all [own_b0, own_H, own_Lo, own_X]; done) | (try simp only [own_b0] at *) <;> grind)).symm | exact (own_bF (by first | (simp_all [own_b0, own_H, own_Lo, own_X]; done) | (try simp only [own_b0] at *) <;> grind)).symm), e0, rfl⟩
                  · refine go_iloadn X0 hx (dc hby d1_65) (v := p2) rfl ?_
                    refine go_bipush X0 hx (31) (dc hby d1_66) rfl ?_
                    refine go_icmp_gt X0 hx (db hby d1_68) (fun c68 => ?_) (fun c68 => ?_)
                    · refine go_iconst X0 hx (0) (dc hby d1_75) rfl ?_
                      exact go_retN X0 hx hret (by simp) (dc hby d1_76) hk (by decide) (by decide) ⟨congrArg (fun z => some (Value.int z)) (by first | exact (own_bT (by first | (simp_all [own_b0, own_H, own_Lo, own_X]; done) | (try simp only [own_b0] at *) <;> grind)).symm | exact (own_bF (by first | (simp_all [own_b0, own_H, own_Lo, own_X]; done) | (try simp only [own_b0] at *) <;> grind)).symm), e0, rfl⟩
                    · refine go_iconst X0 hx (1) (dc hby d1_71) rfl ?_
                      refine go_goto X0 hx (db hby d1_72) ?_
                      exact go_retN X0 hx hret (by simp) (dc hby d1_76) hk (by decide) (by decide) ⟨congrArg (fun z => some (Value.int z)) (by first | exact (own_bT (by first | (simp_all [own_b0, own_H, own_Lo, own_X]; done) | (try simp only [own_b0] at *) <;> grind)).symm | exact (own_bF (by first | (simp_all [own_b0, own_H, own_Lo, own_X]; done) | (try simp only [own_b0] at *) <;> grind)).symm), e0, rfl⟩
              · refine go_iconst X0 hx (1) (dc hby d1_54) rfl ?_
                exact go_retN X0 hx hret (by simp) (dc hby d1_55) hk (by decide) (by decide) ⟨congrArg (fun z => some (Value.int z)) (by first | exact (own_bT (by first | (simp_all [own_b0, own_H, own_Lo, own_X]; done) | (try simp only [own_b0] at *) <;> grind)).symm | exact (own_bF (by first | (simp_all [own_b0, own_H, own_Lo, own_X]; done) | (try simp only [own_b0] at *) <;> grind)).symm), e0, rfl⟩
            · refine go_iloadn X0 hx (dc hby d1_40) (v := p2) rfl ?_
              refine go_ldc X0 hx hZ hown (hw _ (List.mem_of_getElem? (i := 22) rfl)) (dc hby d1_41) ?_
              refine go_icmp_gt X0 hx (db hby d1_43) (fun c43 => ?_) (fun c43 => ?_)
              · refine go_iloadn X0 hx (dc hby d1_48) (v := p2) rfl ?_
                refine go_ldc X0 hx hZ hown (hw _ (List.mem_of_getElem? (i := 8) rfl)) (dc hby d1_49) ?_
                refine go_icmp_lt X0 hx (db hby d1_51) (fun c51 => ?_) (fun c51 => ?_)
                · refine go_iloadn X0 hx (dc hby d1_56) (v := p1) rfl ?_
                  refine go_ifc_eq X0 hx (db hby d1_57) (fun c57 => ?_) (fun c57 => ?_)
                  · refine go_iconst X0 hx (0) (dc hby d1_75) rfl ?_
                    exact go_retN X0 hx hret (by simp) (dc hby d1_76) hk (by decide) (by decide) ⟨congrArg (fun z => some (Value.int z)) (by first | exact (own_bT (by first | (simp_all [own_b0, own_H, own_Lo, own_X]; done) | (try simp only [own_b0] at *) <;> grind)).symm | exact (own_bF (by first | (simp_all [own_b0, own_H, own_Lo, own_X]; done) | (try simp only [own_b0] at *) <;> grind)).symm), e0, rfl⟩
                  · refine go_iloadn X0 hx (dc hby d1_60) (v := p2) rfl ?_
                    refine go_iconst X0 hx (1) (dc hby d1_61) rfl ?_
                    refine go_icmp_lt X0 hx (db hby d1_62) (fun c62 => ?_) (fun c62 => ?_)
                    · refine go_iconst X0 hx (0) (dc hby d1_75) rfl ?_
                      exact go_retN X0 hx hret (by simp) (dc hby d1_76) hk (by decide) (by decide) ⟨congrArg (fun z => some (Value.int z)) (by first | exact (own_bT (by first | (simp_all [own_b0, own_H, own_Lo, own_X]; done) | (try simp only [own_b0] at *) <;> grind)).symm | exact (own_bF (by first | (simp_all [own_b0, own_H, own_Lo, own_X]; done) | (try simp only [own_b0] at *) <;> grind)).symm), e0, rfl⟩
                    · refine go_iloadn X0 hx (dc hby d1_65) (v := p2) rfl ?_
                      refine go_bipush X0 hx (31) (dc hby d1_66) rfl ?_
                      refine go_icmp_gt X0 hx (db hby d1_68) (fun c68 => ?_) (fun c68 => ?_)
                      · refine go_iconst X0 hx (0) (dc hby d1_75) rfl ?_
                        exact go_retN X0 hx hret (by simp) (dc hby d1_76) hk (by decide) (by decide) ⟨congrArg (fun z => some (Value.int z)) (by first | exact (own_bT (by first | (simp_all [own_b0, own_H, own_Lo, own_X]; done) | (try simp only [own_b0] at *) <;> grind)).symm | exact (own_bF (by first | (simp_all [own_b0, own_H, own_Lo, own_X]; done) | (try simp only [own_b0] at *) <;> grind)).symm), e0, rfl⟩
                      · refine go_iconst X0 hx (1) (dc hby d1_71) rfl ?_
                        refine go_goto X0 hx (db hby d1_72) ?_
                        exact go_retN X0 hx hret (by simp) (dc hby d1_76) hk (by decide) (by decide) ⟨congrArg (fun z => some (Value.int z)) (by first | exact (own_bT (by first | (simp_all [own_b0, own_H, own_Lo, own_X]; done) | (try simp only [own_b0] at *) <;> grind)).symm | exact (own_bF (by first | (simp_all [own_b0, own_H, own_Lo, own_X]; done) | (try simp only [own_b0] at *) <;> grind)).symm), e0, rfl⟩
                · refine go_iconst X0 hx (1) (dc hby d1_54) rfl ?_
                  exact go_retN X0 hx hret (by simp) (dc hby d1_55) hk (by decide) (by decide) ⟨congrArg (fun z => some (Value.int z)) (by first | exact (own_bT (by first | (simp_all [own_b0, own_H, own_Lo, own_X]; done) | (try simp only [own_b0] at *) <;> grind)).symm | exact (own_bF (by first | (simp_all [own_b0, own_H, own_Lo, own_X]; done) | (try simp only [own_b0] at *) <;> grind)).symm), e0, rfl⟩
              · refine go_iconst X0 hx (1) (dc hby d1_46) rfl ?_
                exact go_retN X0 hx hret (by simp) (dc hby d1_47) hk (by decide) (by decide) ⟨congrArg (fun z => some (Value.int z)) (by first | exact (own_bT (by first | (simp_all [own_b0, own_H, own_Lo, own_X]; done) | (try simp only [own_b0] at *) <;> grind)).symm | exact (own_bF (by first | (simp_all [own_b0, own_H, own_Lo, own_X]; done) | (try simp only [own_b0] at *) <;> grind)).symm), e0, rfl⟩
          · refine go_iconst X0 hx (1) (dc hby d1_32) rfl ?_
            exact go_retN X0 hx hret (by simp) (dc hby d1_33) hk (by decide) (by decide) ⟨congrArg (fun z => some (Value.int z)) (by first | exact (own_bT (by first | (simp_all [own_b0, own_H, own_Lo, own_X]; done) | (try simp only [own_b0] at *) <;> grind)).symm | exact (own_bF (by first | (simp_all [own_b0, own_H, own_Lo, own_X]; done) | (try simp only [own_b0] at *) <;> grind)).symm), e0, rfl⟩
      · refine go_iconst X0 hx (1) (dc hby d1_18) rfl ?_
        exact go_retN X0 hx hret (by simp) (dc hby d1_19) hk (by decide) (by decide) ⟨congrArg (fun z => some (Value.int z)) (by first | exact (own_bT (by first | (simp_all [own_b0, own_H, own_Lo, own_X]; done) | (try simp only [own_b0] at *) <;> grind)).symm | exact (own_bF (by first | (simp_all [own_b0, own_H, own_Lo, own_X]; done) | (try simp only [own_b0] at *) <;> grind)).symm), e0, rfl⟩
theorem pd1 : parseMethodDescriptor "(ZI)Z" = some ⟨[.boolean, .int], some .boolean⟩ := by decide +kernel
theorem d2_0 : Dec prog_104_method_7_code 0 (.iload_n 1) 1 1 := ⟨by decide +kernel, rfl⟩
theorem d2_1 : Dec prog_104_method_7_code 1 (.bipush 32) 2 3 := ⟨by decide +kernel, rfl⟩
theorem d2_3 : DecB prog_104_method_7_code 3 (.if_icmp .ge 21) (21) 6 24 := ⟨by decide +kernel, rfl, by decide, by decide⟩
theorem d2_6 : Dec prog_104_method_7_code 6 (.iload_n 1) 1 7 := ⟨by decide +kernel, rfl⟩
theorem d2_7 : Dec prog_104_method_7_code 7 (.bipush 9) 2 9 := ⟨by decide +kernel, rfl⟩
theorem d2_9 : DecB prog_104_method_7_code 9 (.if_icmp .eq 15) (15) 12 24 := ⟨by decide +kernel, rfl, by decide, by decide⟩
theorem d2_12 : Dec prog_104_method_7_code 12 (.iload_n 1) 1 13 := ⟨by decide +kernel, rfl⟩
theorem d2_13 : Dec prog_104_method_7_code 13 (.bipush 10) 2 15 := ⟨by decide +kernel, rfl⟩
theorem d2_15 : DecB prog_104_method_7_code 15 (.if_icmp .eq 9) (9) 18 24 := ⟨by decide +kernel, rfl, by decide, by decide⟩
theorem d2_18 : Dec prog_104_method_7_code 18 (.iload_n 1) 1 19 := ⟨by decide +kernel, rfl⟩
theorem d2_19 : Dec prog_104_method_7_code 19 (.bipush 13) 2 21 := ⟨by decide +kernel, rfl⟩
theorem d2_21 : DecB prog_104_method_7_code 21 (.if_icmp .ne 16) (16) 24 37 := ⟨by decide +kernel, rfl, by decide, by decide⟩
theorem d2_24 : Dec prog_104_method_7_code 24 (.iload_n 1) 1 25 := ⟨by decide +kernel, rfl⟩
theorem d2_25 : Dec prog_104_method_7_code 25 (.bipush 127) 2 27 := ⟨by decide +kernel, rfl⟩
theorem d2_27 : DecB prog_104_method_7_code 27 (.if_icmp .lt 14) (14) 30 41 := ⟨by decide +kernel, rfl, by decide, by decide⟩
theorem d2_30 : Dec prog_104_method_7_code 30 (.iload_n 1) 1 31 := ⟨by decide +kernel, rfl⟩
theorem d2_31 : Dec prog_104_method_7_code 31 (.sipush 159) 3 34 := ⟨by decide +kernel, rfl⟩
theorem d2_34 : DecB prog_104_method_7_code 34 (.if_icmp .gt 7) (7) 37 41 := ⟨by decide +kernel, rfl, by decide, by decide⟩
theorem d2_37 : Dec prog_104_method_7_code 37 (.iconst 1) 1 38 := ⟨by decide +kernel, rfl⟩
theorem d2_38 : DecB prog_104_method_7_code 38 (.goto 4) (4) 41 42 := ⟨by decide +kernel, rfl, by decide, by decide⟩
theorem d2_41 : Dec prog_104_method_7_code 41 (.iconst 0) 1 42 := ⟨by decide +kernel, rfl⟩
theorem d2_42 : Dec prog_104_method_7_code 42 (.istore_n 2) 1 43 := ⟨by decide +kernel, rfl⟩
theorem d2_43 : Dec prog_104_method_7_code 43 (.aload_n 0) 1 44 := ⟨by decide +kernel, rfl⟩
theorem d2_44 : Dec prog_104_method_7_code 44 (.getstatic 7) 3 47 := ⟨by decide +kernel, rfl⟩
theorem d2_47 : DecB prog_104_method_7_code 47 (.if_acmp .ne 18) (18) 50 65 := ⟨by decide +kernel, rfl, by decide, by decide⟩
theorem d2_50 : Dec prog_104_method_7_code 50 (.iload_n 2) 1 51 := ⟨by decide +kernel, rfl⟩
theorem d2_51 : DecB prog_104_method_7_code 51 (.ifCond .ne 10) (10) 54 61 := ⟨by decide +kernel, rfl, by decide, by decide⟩
theorem d2_54 : Dec prog_104_method_7_code 54 (.iload_n 1) 1 55 := ⟨by decide +kernel, rfl⟩
theorem d2_55 : Dec prog_104_method_7_code 55 (.sipush 8232) 3 58 := ⟨by decide +kernel, rfl⟩
theorem d2_58 : DecB prog_104_method_7_code 58 (.if_icmp .ne 7) (7) 61 65 := ⟨by decide +kernel, rfl, by decide, by decide⟩
theorem d2_61 : Dec prog_104_method_7_code 61 (.iconst 1) 1 62 := ⟨by decide +kernel, rfl⟩
theorem d2_62 : DecB prog_104_method_7_code 62 (.goto 4) (4) 65 66 := ⟨by decide +kernel, rfl, by decide, by decide⟩
theorem d2_65 : Dec prog_104_method_7_code 65 (.iconst 0) 1 66 := ⟨by decide +kernel, rfl⟩
theorem d2_66 : Dec prog_104_method_7_code 66 (.ireturn) 1 67 := ⟨by decide +kernel, rfl⟩
theorem pn2 : plainName "com/example/filum/filum/format/XmlVersion" = true := by first | (simp [plainName, overriddenIn]; done) | decide +kernel
theorem ef2 (x0 : Addr) (x1 : Int32) (m : MethodId) : entryFrame m #[(.ref x0), (.int x1)] 3 = mkF m 0 #[.val (.ref x0), .val (.int x1), .unset] [] := by first | (simp [entryFrame, mkF, argsToLocals, Value.category, maxLocals]; done) | rfl
set_option maxRecDepth 65536 in
set_option maxHeartbeats 40000000 in
theorem rm2 (l : Launch) (Z : State) (a0 : Array Value) (hw : ∀ d ∈ tables_1, d.before a0 Z = true) (ws : List Jvm.Cond) (av a11 : Addr) (p2 : Int32) (h0 : Heap) (S11 : Sta Z h0 "com/example/filum/filum/format/XmlVersion" "XML_1_1" "Lcom/example/filum/filum/format/XmlVersion;" (.ref a11)) : Ct l Z (⟨"com/example/filum/filum/format/XmlVersion", "needsReference", "(I)Z"⟩ : MethodName) prog_104_method_7_code 3 (some .boolean) ws ({ frames := 0, cells := 0, slots := 0, locals := 0 } : Room) #[(.ref av), (.int p2)] h0 (QP (.int (own_b (av = a11 ∧ (own_Lo p2 ∨ p2 = 8232)))) h0) := by
  refine Ct.of (pn2) _ (ef2 av p2) ?_
  intro p e s m below meth c T0 hx hby hml hZ hown hnm hret hk e0 X0
  show Go p e below _ (T0.setTop (mkF m 0 #[.val (.ref av), .val (.int p2), .unset] []))
  refine go_iloadn X0 hx (dc hby d2_0) (v := p2) rfl ?_
  refine go_bipush X0 hx (32) (dc hby d2_1) rfl ?_
  have J1 : ∀ (TJ1 : State) (z : Int32), Stand p l e ({ frames := 0, cells := 0, slots := 0, locals := 0 } : Room) s m #[(.ref av), (.int p2)] below meth c TJ1 [] 0 0 → TJ1.heap = h0 → z = (own_b (own_Lo p2)) → Go p e below (EndN s (QP (.int (own_b (av = a11 ∧ (own_Lo p2 ∨ p2 = 8232)))) h0) ({ frames := 0, cells := 0, slots := 0, locals := 0 } : Room).cells ({ frames := 0, cells := 0, slots := 0, locals := 0 } : Room).slots) (TJ1.setTop (mkF m 42 #[.val (.ref av), .val (.int p2), .unset] [(.int z)])) := by
    intro TJ1 z XJ1 eJ1 hz
    subst hz
    show Go p e below _ (TJ1.setTop (mkF m 42 #[.val (.ref av), .val (.int p2), .unset] [(.int (own_b (own_Lo p2)))]))
    refine go_istoren XJ1 hx #[.val (.ref av), .val (.int p2), .val (.int (own_b (own_Lo p2)))] (dc hby d2_42) rfl ?_
    refine go_aloadn XJ1 hx (dc hby d2_43) (v := (.ref av)) rfl rfl ?_
    refine go_getS XJ1 hx hZ (host := "") hown (hw _ (List.mem_of_getElem? (i := 16) rfl)) Via.refl eJ1 S11 (dc hby d2_44) (fun T2 X2 e2 => ?_)
    refine go_acmp_ne X2 hx rfl rfl (db hby d2_47) (fun c47 => ?_) (fun c47 => ?_)
    · refine go_iconst X2 hx (0) (dc hby d2_65) rfl ?_
      exact go_retN X2 hx hret (by simp) (dc hby d2_66) hk (by decide) (by decide) ⟨congrArg (fun z => some (Value.int z)) (by first | exact (own_bT (by first | (simp_all [own_b0, own_H, own_Lo, own_X]; done) | (try simp only [own_b0] at *) <;> grind)).symm | exact (own_bF (by first | (simp_all [own_b0, own_H, own_Lo, own_X]; done) | (try simp only [own_b0] at *) <;> grind)).symm), e2, rfl⟩
    · refine go_iloadn X2 hx (dc hby d2_50) (v := (own_b (own_Lo p2))) rfl ?_
      refine go_ifc_ne X2 hx (db hby d2_51) (fun c51 => ?_) (fun c51 => ?_)
      · refine go_iconst X2 hx (1) (dc hby d2_61) rfl ?_
        refine go_goto X2 hx (db hby d2_62) ?_
        exact go_retN X2 hx hret (by simp) (dc hby d2_66) hk (by decide) (by decide) ⟨congrArg (fun z => some (Value.int z)) (by first | exact (own_bT (by first | (simp_all [own_b0, own_H, own_Lo, own_X]; done) | (try simp only [own_b0] at *) <;> grind)).symm | exact (own_bF (by first | (simp_all [own_b0, own_H, own_Lo, own_X]; done) | (try simp only [own_b0] at *) <;> grind)).symm), e2, rfl⟩
      · refine go_iloadn X2 hx (dc hby d2_54) (v := p2) rfl ?_
        refine go_sipush X2 hx (8232) (dc hby d2_55) rfl ?_
        refine go_icmp_ne X2 hx (db hby d2_58) (fun c58 => ?_) (fun c58 => ?_)
        · refine go_iconst X2 hx (0) (dc hby d2_65) rfl ?_
          exact go_retN X2 hx hret (by simp) (dc hby d2_66) hk (by decide) (by decide) ⟨congrArg (fun z => some (Value.int z)) (by first | exact (own_bT (by first | (simp_all [own_b0, own_H, own_Lo, own_X]; done) | (try simp only [own_b0] at *) <;> grind)).symm | exact (own_bF (by first | (simp_all [own_b0, own_H, own_Lo, own_X]; done) | (try simp only [own_b0] at *) <;> grind)).symm), e2, rfl⟩
        · refine go_iconst X2 hx (1) (dc hby d2_61) rfl ?_
          refine go_goto X2 hx (db hby d2_62) ?_
          exact go_retN X2 hx hret (by simp) (dc hby d2_66) hk (by decide) (by decide) ⟨congrArg (fun z => some (Value.int z)) (by first | exact (own_bT (by first | (simp_all [own_b0, own_H, own_Lo, own_X]; done) | (try simp only [own_b0] at *) <;> grind)).symm | exact (own_bF (by first | (simp_all [own_b0, own_H, own_Lo, own_X]; done) | (try simp only [own_b0] at *) <;> grind)).symm), e2, rfl⟩
  refine go_icmp_ge X0 hx (db hby d2_3) (fun c3 => ?_) (fun c3 => ?_)
  · refine go_iloadn X0 hx (dc hby d2_24) (v := p2) rfl ?_
    refine go_bipush X0 hx (127) (dc hby d2_25) rfl ?_
    refine go_icmp_lt X0 hx (db hby d2_27) (fun c27 => ?_) (fun c27 => ?_)
    · refine go_iconst X0 hx (0) (dc hby d2_41) rfl ?_
      exact J1 T0 _ X0 e0 (by first | exact (own_bT (by first | (simp_all [own_b0, own_H, own_Lo, own_X]; done) | (try simp only [own_b0] at *) <;> grind)).symm | exact (own_bF (by first | (simp_all [own_b0, own_H, own_Lo, own_X]; done) | (try simp only [own_b0] at *) <;> grind)).symm)
    · refine go_iloadn X0 hx (dc hby d2_30) (v := p2) rfl ?_
      refine go_sipush X0 hx (159) (dc hby d2_31) rfl ?_
      refine go_icmp_gt X0 hx (db hby d2_34) (fun c34 => ?_) (fun c34 => ?_)
      · refine go_iconst X0 hx (0) (dc hby d2_41) rfl ?_
        exact J1 T0 _ X0 e0 (by first | exact (own_bT (by first | (simp_all [own_b0, own_H, own_Lo, own_X]; done) | (try simp only [own_b0] at *) <;> grind)).symm | exact (own_bF (by first | (simp_all [own_b0, own_H, own_Lo, own_X]; done) | (try simp only [own_b0] at *) <;> grind)).symm)
      · refine go_iconst X0 hx (1) (dc hby d2_37) rfl ?_
        refine go_goto X0 hx (db hby d2_38) ?_
        exact J1 T0 _ X0 e0 (by first | exact (own_bT (by first | (simp_all [own_b0, own_H, own_Lo, own_X]; done) | (try simp only [own_b0] at *) <;> grind)).symm | exact (own_bF (by first | (simp_all [own_b0, own_H, own_Lo, own_X]; done) | (try simp only [own_b0] at *) <;> grind)).symm)
  · refine go_iloadn X0 hx (dc hby d2_6) (v := p2) rfl ?_
    refine go_bipush X0 hx (9) (dc hby d2_7) rfl ?_
    refine go_icmp_eq X0 hx (db hby d2_9) (fun c9 => ?_) (fun c9 => ?_)
    · refine go_iloadn X0 hx (dc hby d2_24) (v := p2) rfl ?_
      refine go_bipush X0 hx (127) (dc hby d2_25) rfl ?_
      refine go_icmp_lt X0 hx (db hby d2_27) (fun c27 => ?_) (fun c27 => ?_)
      · refine go_iconst X0 hx (0) (dc hby d2_41) rfl ?_
        exact J1 T0 _ X0 e0 (by first | exact (own_bT (by first | (simp_all [own_b0, own_H, own_Lo, own_X]; done) | (try simp only [own_b0] at *) <;> grind)).symm | exact (own_bF (by first | (simp_all [own_b0, own_H, own_Lo, own_X]; done) | (try simp only [own_b0] at *) <;> grind)).symm)
      · refine go_iloadn X0 hx (dc hby d2_30) (v := p2) rfl ?_
        refine go_sipush X0 hx (159) (dc hby d2_31) rfl ?_
        refine go_icmp_gt X0 hx (db hby d2_34) (fun c34 => ?_) (fun c34 => ?_)
        · refine go_iconst X0 hx (0) (dc hby d2_41) rfl ?_
          exact J1 T0 _ X0 e0 (by first | exact (own_bT (by first | (simp_all [own_b0, own_H, own_Lo, own_X]; done) | (try simp only [own_b0] at *) <;> grind)).symm | exact (own_bF (by first | (simp_all [own_b0, own_H, own_Lo, own_X]; done) | (try simp only [own_b0] at *) <;> grind)).symm)
        · refine go_iconst X0 hx (1) (dc hby d2_37) rfl ?_
          refine go_goto X0 hx (db hby d2_38) ?_
          exact J1 T0 _ X0 e0 (by first | exact (own_bT (by first | (simp_all [own_b0, own_H, own_Lo, own_X]; done) | (try simp only [own_b0] at *) <;> grind)).symm | exact (own_bF (by first | (simp_all [own_b0, own_H, own_Lo, own_X]; done) | (try simp only [own_b0] at *) <;> grind)).symm)
    · refine go_iloadn X0 hx (dc hby d2_12) (v := p2) rfl ?_
      refine go_bipush X0 hx (10) (dc hby d2_13) rfl ?_
      refine go_icmp_eq X0 hx (db hby d2_15) (fun c15 => ?_) (fun c15 => ?_)
      · refine go_iloadn X0 hx (dc hby d2_24) (v := p2) rfl ?_
        refine go_bipush X0 hx (127) (dc hby d2_25) rfl ?_
        refine go_icmp_lt X0 hx (db hby d2_27) (fun c27 => ?_) (fun c27 => ?_)
        · refine go_iconst X0 hx (0) (dc hby d2_41) rfl ?_
          exact J1 T0 _ X0 e0 (by first | exact (own_bT (by first | (simp_all [own_b0, own_H, own_Lo, own_X]; done) | (try simp only [own_b0] at *) <;> grind)).symm | exact (own_bF (by first | (simp_all [own_b0, own_H, own_Lo, own_X]; done) | (try simp only [own_b0] at *) <;> grind)).symm)
        · refine go_iloadn X0 hx (dc hby d2_30) (v := p2) rfl ?_
          refine go_sipush X0 hx (159) (dc hby d2_31) rfl ?_
          refine go_icmp_gt X0 hx (db hby d2_34) (fun c34 => ?_) (fun c34 => ?_)
          · refine go_iconst X0 hx (0) (dc hby d2_41) rfl ?_
            exact J1 T0 _ X0 e0 (by first | exact (own_bT (by first | (simp_all [own_b0, own_H, own_Lo, own_X]; done) | (try simp only [own_b0] at *) <;> grind)).symm | exact (own_bF (by first | (simp_all [own_b0, own_H, own_Lo, own_X]; done) | (try simp only [own_b0] at *) <;> grind)).symm)
          · refine go_iconst X0 hx (1) (dc hby d2_37) rfl ?_
            refine go_goto X0 hx (db hby d2_38) ?_
            exact J1 T0 _ X0 e0 (by first | exact (own_bT (by first | (simp_all [own_b0, own_H, own_Lo, own_X]; done) | (try simp only [own_b0] at *) <;> grind)).symm | exact (own_bF (by first | (simp_all [own_b0, own_H, own_Lo, own_X]; done) | (try simp only [own_b0] at *) <;> grind)).symm)
      · refine go_iloadn X0 hx (dc hby d2_18) (v := p2) rfl ?_
        refine go_bipush X0 hx (13) (dc hby d2_19) rfl ?_
        refine go_icmp_ne X0 hx (db hby d2_21) (fun c21 => ?_) (fun c21 => ?_)
        · refine go_iconst X0 hx (1) (dc hby d2_37) rfl ?_
          refine go_goto X0 hx (db hby d2_38) ?_
          exact J1 T0 _ X0 e0 (by first | exact (own_bT (by first | (simp_all [own_b0, own_H, own_Lo, own_X]; done) | (try simp only [own_b0] at *) <;> grind)).symm | exact (own_bF (by first | (simp_all [own_b0, own_H, own_Lo, own_X]; done) | (try simp only [own_b0] at *) <;> grind)).symm)
        · refine go_iloadn X0 hx (dc hby d2_24) (v := p2) rfl ?_
          refine go_bipush X0 hx (127) (dc hby d2_25) rfl ?_
          refine go_icmp_lt X0 hx (db hby d2_27) (fun c27 => ?_) (fun c27 => ?_)
          · refine go_iconst X0 hx (0) (dc hby d2_41) rfl ?_
            exact J1 T0 _ X0 e0 (by first | exact (own_bT (by first | (simp_all [own_b0, own_H, own_Lo, own_X]; done) | (try simp only [own_b0] at *) <;> grind)).symm | exact (own_bF (by first | (simp_all [own_b0, own_H, own_Lo, own_X]; done) | (try simp only [own_b0] at *) <;> grind)).symm)
          · refine go_iloadn X0 hx (dc hby d2_30) (v := p2) rfl ?_
            refine go_sipush X0 hx (159) (dc hby d2_31) rfl ?_
            refine go_icmp_gt X0 hx (db hby d2_34) (fun c34 => ?_) (fun c34 => ?_)
            · refine go_iconst X0 hx (0) (dc hby d2_41) rfl ?_
              exact J1 T0 _ X0 e0 (by first | exact (own_bT (by first | (simp_all [own_b0, own_H, own_Lo, own_X]; done) | (try simp only [own_b0] at *) <;> grind)).symm | exact (own_bF (by first | (simp_all [own_b0, own_H, own_Lo, own_X]; done) | (try simp only [own_b0] at *) <;> grind)).symm)
            · refine go_iconst X0 hx (1) (dc hby d2_37) rfl ?_
              refine go_goto X0 hx (db hby d2_38) ?_
              exact J1 T0 _ X0 e0 (by first | exact (own_bT (by first | (simp_all [own_b0, own_H, own_Lo, own_X]; done) | (try simp only [own_b0] at *) <;> grind)).symm | exact (own_bF (by first | (simp_all [own_b0, own_H, own_Lo, own_X]; done) | (try simp only [own_b0] at *) <;> grind)).symm)
theorem pd2 : parseMethodDescriptor "(I)Z" = some ⟨[.int], some .boolean⟩ := by decide +kernel
theorem d3_0 : Dec method_3_code 0 (.iload_n 0) 1 1 := ⟨by decide +kernel, rfl⟩
theorem d3_1 : DecB method_3_code 1 (.ifCond .ne 5) (5) 4 6 := ⟨by decide +kernel, rfl, by decide, by decide⟩
theorem d3_4 : Dec method_3_code 4 (.iconst 0) 1 5 := ⟨by decide +kernel, rfl⟩
theorem d3_5 : Dec method_3_code 5 (.ireturn) 1 6 := ⟨by decide +kernel, rfl⟩
theorem d3_6 : Dec method_3_code 6 (.iload_n 1) 1 7 := ⟨by decide +kernel, rfl⟩
theorem d3_7 : Dec method_3_code 7 (.sipush 8232) 3 10 := ⟨by decide +kernel, rfl⟩
theorem d3_10 : DecB method_3_code 10 (.if_icmp .ne 5) (5) 13 15 := ⟨by decide +kernel, rfl, by decide, by decide⟩
theorem d3_13 : Dec method_3_code 13 (.iconst 1) 1 14 := ⟨by decide +kernel, rfl⟩
theorem d3_14 : Dec method_3_code 14 (.ireturn) 1 15 := ⟨by decide +kernel, rfl⟩
theorem d3_15 : Dec method_3_code 15 (.iload_n 1) 1 16 := ⟨by decide +kernel, rfl⟩
theorem d3_16 : Dec method_3_code 16 (.bipush 127) 2 18 := ⟨by decide +kernel, rfl⟩
theorem d3_18 : DecB method_3_code 18 (.if_icmp .lt 12) (12) 21 30 := ⟨by decide +kernel, rfl, by decide, by decide⟩
theorem d3_21 : Dec method_3_code 21 (.iload_n 1) 1 22 := ⟨by decide +kernel, rfl⟩
theorem d3_22 : Dec method_3_code 22 (.sipush 159) 3 25 := ⟨by decide +kernel, rfl⟩
theorem d3_25 : DecB method_3_code 25 (.if_icmp .gt 5) (5) 28 30 := ⟨by decide +kernel, rfl, by decide, by decide⟩
theorem d3_28 : Dec method_3_code 28 (.iconst 1) 1 29 := ⟨by decide +kernel, rfl⟩
theorem d3_29 : Dec method_3_code 29 (.ireturn) 1 30 := ⟨by decide +kernel, rfl⟩
theorem d3_30 : Dec method_3_code 30 (.iload_n 1) 1 31 := ⟨by decide +kernel, rfl⟩
theorem d3_31 : Dec method_3_code 31 (.iconst 1) 1 32 := ⟨by decide +kernel, rfl⟩
theorem d3_32 : DecB method_3_code 32 (.if_icmp .lt 33) (33) 35 65 := ⟨by decide +kernel, rfl, by decide, by decide⟩
theorem d3_35 : Dec method_3_code 35 (.iload_n 1) 1 36 := ⟨by decide +kernel, rfl⟩
theorem d3_36 : Dec method_3_code 36 (.bipush 31) 2 38 := ⟨by decide +kernel, rfl⟩
theorem d3_38 : DecB method_3_code 38 (.if_icmp .gt 27) (27) 41 65 := ⟨by decide +kernel, rfl, by decide, by decide⟩
theorem d3_41 : Dec method_3_code 41 (.iload_n 1) 1 42 := ⟨by decide +kernel, rfl⟩
theorem d3_42 : Dec method_3_code 42 (.bipush 9) 2 44 := ⟨by decide +kernel, rfl⟩
theorem d3_44 : DecB method_3_code 44 (.if_icmp .eq 19) (19) 47 63 := ⟨by decide +kernel, rfl, by decide, by decide⟩
theorem d3_47 : Dec method_3_code 47 (.iload_n 1) 1 48 := ⟨by decide +kernel, rfl⟩
theorem d3_48 : Dec method_3_code 48 (.bipush 10) 2 50 := ⟨by decide +kernel, rfl⟩
theorem d3_50 : DecB method_3_code 50 (.if_icmp .eq 13) (13) 53 63 := ⟨by decide +kernel, rfl, by decide, by decide⟩
theorem d3_53 : Dec method_3_code 53 (.iload_n 1) 1 54 := ⟨by decide +kernel, rfl⟩
theorem d3_54 : Dec method_3_code 54 (.bipush 13) 2 56 := ⟨by decide +kernel, rfl⟩
theorem d3_56 : DecB method_3_code 56 (.if_icmp .eq 7) (7) 59 63 := ⟨by decide +kernel, rfl, by decide, by decide⟩
theorem d3_59 : Dec method_3_code 59 (.iconst 1) 1 60 := ⟨by decide +kernel, rfl⟩
theorem d3_60 : DecB method_3_code 60 (.goto 4) (4) 63 64 := ⟨by decide +kernel, rfl, by decide, by decide⟩
theorem d3_63 : Dec method_3_code 63 (.iconst 0) 1 64 := ⟨by decide +kernel, rfl⟩
theorem d3_64 : Dec method_3_code 64 (.ireturn) 1 65 := ⟨by decide +kernel, rfl⟩
theorem d3_65 : Dec method_3_code 65 (.iconst 0) 1 66 := ⟨by decide +kernel, rfl⟩
theorem d3_66 : Dec method_3_code 66 (.ireturn) 1 67 := ⟨by decide +kernel, rfl⟩
theorem pn3 : plainName "com/example/filum/filum/format/XmlVersionNeedsReferencePinLaw" = true := by first | (simp [plainName, overriddenIn]; done) | decide +kernel
theorem ef3 (x0 : Int32) (x1 : Int32) (m : MethodId) : entryFrame m #[(.int x0), (.int x1)] 2 = mkF m 0 #[.val (.int x0), .val (.int x1)] [] := by first | (simp [entryFrame, mkF, argsToLocals, Value.category, maxLocals]; done) | rfl
set_option maxRecDepth 65536 in
set_option maxHeartbeats 40000000 in
theorem rm3 (l : Launch) (Z : State) (a0 : Array Value) (hw : ∀ d ∈ tables_1, d.before a0 Z = true) (ws : List Jvm.Cond) (p1 p2 : Int32) (h0 : Heap)  : Ct l Z (⟨"com/example/filum/filum/format/XmlVersionNeedsReferencePinLaw", "expected", "(ZI)Z"⟩ : MethodName) method_3_code 2 (some .boolean) ws ({ frames := 0, cells := 0, slots := 0, locals := 0 } : Room) #[(.int p1), (.int p2)] h0 (QP (.int (own_b (own_X p1 p2))) h0) := by
  refine Ct.of (pn3) _ (ef3 p1 p2) ?_
  intro p e s m below meth c T0 hx hby hml hZ hown hnm hret hk e0 X0
  show Go p e below _ (T0.setTop (mkF m 0 #[.val (.int p1), .val (.int p2)] []))
  refine go_iloadn X0 hx (dc hby d3_0) (v := p1) rfl ?_
  refine go_ifc_ne X0 hx (db hby d3_1) (fun c1 => ?_) (fun c1 => ?_)
  · refine go_iloadn X0 hx (dc hby d3_6) (v := p2) rfl ?_
    refine go_sipush X0 hx (8232) (dc hby d3_7) rfl ?_
    refine go_icmp_ne X0 hx (db hby d3_10) (fun c10 => ?_) (fun c10 => ?_)
    · refine go_iloadn X0 hx (dc hby d3_15) (v := p2) rfl ?_
      refine go_bipush X0 hx (127) (dc hby d3_16) rfl ?_
      refine go_icmp_lt X0 hx (db hby d3_18) (fun c18 => ?_) (fun c18 => ?_)
      · refine go_iloadn X0 hx (dc hby d3_30) (v := p2) rfl ?_
        refine go_iconst X0 hx (1) (dc hby d3_31) rfl ?_
        refine go_icmp_lt X0 hx (db hby d3_32) (fun c32 => ?_) (fun c32 => ?_)
        · refine go_iconst X0 hx (0) (dc hby d3_65) rfl ?_
          exact go_retN X0 hx hret (by simp) (dc hby d3_66) hk (by decide) (by decide) ⟨congrArg (fun z => some (Value.int z)) (by first | exact (own_bT (by first | (simp_all [own_b0, own_H, own_Lo, own_X]; done) | (try simp only [own_b0] at *) <;> grind)).symm | exact (own_bF (by first | (simp_all [own_b0, own_H, own_Lo, own_X]; done) | (try simp only [own_b0] at *) <;> grind)).symm), e0, rfl⟩
        · refine go_iloadn X0 hx (dc hby d3_35) (v := p2) rfl ?_
          refine go_bipush X0 hx (31) (dc hby d3_36) rfl ?_
          refine go_icmp_gt X0 hx (db hby d3_38) (fun c38 => ?_) (fun c38 => ?_)
          · refine go_iconst X0 hx (0) (dc hby d3_65) rfl ?_
            exact go_retN X0 hx hret (by simp) (dc hby d3_66) hk (by decide) (by decide) ⟨congrArg (fun z => some (Value.int z)) (by first | exact (own_bT (by first | (simp_all [own_b0, own_H, own_Lo, own_X]; done) | (try simp only [own_b0] at *) <;> grind)).symm | exact (own_bF (by first | (simp_all [own_b0, own_H, own_Lo, own_X]; done) | (try simp only [own_b0] at *) <;> grind)).symm), e0, rfl⟩
          · refine go_iloadn X0 hx (dc hby d3_41) (v := p2) rfl ?_
            refine go_bipush X0 hx (9) (dc hby d3_42) rfl ?_
            refine go_icmp_eq X0 hx (db hby d3_44) (fun c44 => ?_) (fun c44 => ?_)
            · refine go_iconst X0 hx (0) (dc hby d3_63) rfl ?_
              exact go_retN X0 hx hret (by simp) (dc hby d3_64) hk (by decide) (by decide) ⟨congrArg (fun z => some (Value.int z)) (by first | exact (own_bT (by first | (simp_all [own_b0, own_H, own_Lo, own_X]; done) | (try simp only [own_b0] at *) <;> grind)).symm | exact (own_bF (by first | (simp_all [own_b0, own_H, own_Lo, own_X]; done) | (try simp only [own_b0] at *) <;> grind)).symm), e0, rfl⟩
            · refine go_iloadn X0 hx (dc hby d3_47) (v := p2) rfl ?_
              refine go_bipush X0 hx (10) (dc hby d3_48) rfl ?_
              refine go_icmp_eq X0 hx (db hby d3_50) (fun c50 => ?_) (fun c50 => ?_)
              · refine go_iconst X0 hx (0) (dc hby d3_63) rfl ?_
                exact go_retN X0 hx hret (by simp) (dc hby d3_64) hk (by decide) (by decide) ⟨congrArg (fun z => some (Value.int z)) (by first | exact (own_bT (by first | (simp_all [own_b0, own_H, own_Lo, own_X]; done) | (try simp only [own_b0] at *) <;> grind)).symm | exact (own_bF (by first | (simp_all [own_b0, own_H, own_Lo, own_X]; done) | (try simp only [own_b0] at *) <;> grind)).symm), e0, rfl⟩
              · refine go_iloadn X0 hx (dc hby d3_53) (v := p2) rfl ?_
                refine go_bipush X0 hx (13) (dc hby d3_54) rfl ?_
                refine go_icmp_eq X0 hx (db hby d3_56) (fun c56 => ?_) (fun c56 => ?_)
                · refine go_iconst X0 hx (0) (dc hby d3_63) rfl ?_
                  exact go_retN X0 hx hret (by simp) (dc hby d3_64) hk (by decide) (by decide) ⟨congrArg (fun z => some (Value.int z)) (by first | exact (own_bT (by first | (simp_all [own_b0, own_H, own_Lo, own_X]; done) | (try simp only [own_b0] at *) <;> grind)).symm | exact (own_bF (by first | (simp_all [own_b0, own_H, own_Lo, own_X]; done) | (try simp only [own_b0] at *) <;> grind)).symm), e0, rfl⟩
                · refine go_iconst X0 hx (1) (dc hby d3_59) rfl ?_
                  refine go_goto X0 hx (db hby d3_60) ?_
                  exact go_retN X0 hx hret (by simp) (dc hby d3_64) hk (by decide) (by decide) ⟨congrArg (fun z => some (Value.int z)) (by first | exact (own_bT (by first | (simp_all [own_b0, own_H, own_Lo, own_X]; done) | (try simp only [own_b0] at *) <;> grind)).symm | exact (own_bF (by first | (simp_all [own_b0, own_H, own_Lo, own_X]; done) | (try simp only [own_b0] at *) <;> grind)).symm), e0, rfl⟩
      · refine go_iloadn X0 hx (dc hby d3_21) (v := p2) rfl ?_
        refine go_sipush X0 hx (159) (dc hby d3_22) rfl ?_
        refine go_icmp_gt X0 hx (db hby d3_25) (fun c25 => ?_) (fun c25 => ?_)
        · refine go_iloadn X0 hx (dc hby d3_30) (v := p2) rfl ?_
          refine go_iconst X0 hx (1) (dc hby d3_31) rfl ?_
          refine go_icmp_lt X0 hx (db hby d3_32) (fun c32 => ?_) (fun c32 => ?_)
          · refine go_iconst X0 hx (0) (dc hby d3_65) rfl ?_
            exact go_retN X0 hx hret (by simp) (dc hby d3_66) hk (by decide) (by decide) ⟨congrArg (fun z => some (Value.int z)) (by first | exact (own_bT (by first | (simp_all [own_b0, own_H, own_Lo, own_X]; done) | (try simp only [own_b0] at *) <;> grind)).symm | exact (own_bF (by first | (simp_all [own_b0, own_H, own_Lo, own_X]; done) | (try simp only [own_b0] at *) <;> grind)).symm), e0, rfl⟩
          · refine go_iloadn X0 hx (dc hby d3_35) (v := p2) rfl ?_
            refine go_bipush X0 hx (31) (dc hby d3_36) rfl ?_
            refine go_icmp_gt X0 hx (db hby d3_38) (fun c38 => ?_) (fun c38 => ?_)
            · refine go_iconst X0 hx (0) (dc hby d3_65) rfl ?_
              exact go_retN X0 hx hret (by simp) (dc hby d3_66) hk (by decide) (by decide) ⟨congrArg (fun z => some (Value.int z)) (by first | exact (own_bT (by first | (simp_all [own_b0, own_H, own_Lo, own_X]; done) | (try simp only [own_b0] at *) <;> grind)).symm | exact (own_bF (by first | (simp_all [own_b0, own_H, own_Lo, own_X]; done) | (try simp only [own_b0] at *) <;> grind)).symm), e0, rfl⟩
            · refine go_iloadn X0 hx (dc hby d3_41) (v := p2) rfl ?_
              refine go_bipush X0 hx (9) (dc hby d3_42) rfl ?_
              refine go_icmp_eq X0 hx (db hby d3_44) (fun c44 => ?_) (fun c44 => ?_)
              · refine go_iconst X0 hx (0) (dc hby d3_63) rfl ?_
                exact go_retN X0 hx hret (by simp) (dc hby d3_64) hk (by decide) (by decide) ⟨congrArg (fun z => some (Value.int z)) (by first | exact (own_bT (by first | (simp_all [own_b0, own_H, own_Lo, own_X]; done) | (try simp only [own_b0] at *) <;> grind)).symm | exact (own_bF (by first | (simp_all [own_b0, own_H, own_Lo, own_X]; done) | (try simp only [own_b0] at *) <;> grind)).symm), e0, rfl⟩
              · refine go_iloadn X0 hx (dc hby d3_47) (v := p2) rfl ?_
                refine go_bipush X0 hx (10) (dc hby d3_48) rfl ?_
                refine go_icmp_eq X0 hx (db hby d3_50) (fun c50 => ?_) (fun c50 => ?_)
                · refine go_iconst X0 hx (0) (dc hby d3_63) rfl ?_
                  exact go_retN X0 hx hret (by simp) (dc hby d3_64) hk (by decide) (by decide) ⟨congrArg (fun z => some (Value.int z)) (by first | exact (own_bT (by first | (simp_all [own_b0, own_H, own_Lo, own_X]; done) | (try simp only [own_b0] at *) <;> grind)).symm | exact (own_bF (by first | (simp_all [own_b0, own_H, own_Lo, own_X]; done) | (try simp only [own_b0] at *) <;> grind)).symm), e0, rfl⟩
                · refine go_iloadn X0 hx (dc hby d3_53) (v := p2) rfl ?_
                  refine go_bipush X0 hx (13) (dc hby d3_54) rfl ?_
                  refine go_icmp_eq X0 hx (db hby d3_56) (fun c56 => ?_) (fun c56 => ?_)
                  · refine go_iconst X0 hx (0) (dc hby d3_63) rfl ?_
                    exact go_retN X0 hx hret (by simp) (dc hby d3_64) hk (by decide) (by decide) ⟨congrArg (fun z => some (Value.int z)) (by first | exact (own_bT (by first | (simp_all [own_b0, own_H, own_Lo, own_X]; done) | (try simp only [own_b0] at *) <;> grind)).symm | exact (own_bF (by first | (simp_all [own_b0, own_H, own_Lo, own_X]; done) | (try simp only [own_b0] at *) <;> grind)).symm), e0, rfl⟩
                  · refine go_iconst X0 hx (1) (dc hby d3_59) rfl ?_
                    refine go_goto X0 hx (db hby d3_60) ?_
                    exact go_retN X0 hx hret (by simp) (dc hby d3_64) hk (by decide) (by decide) ⟨congrArg (fun z => some (Value.int z)) (by first | exact (own_bT (by first | (simp_all [own_b0, own_H, own_Lo, own_X]; done) | (try simp only [own_b0] at *) <;> grind)).symm | exact (own_bF (by first | (simp_all [own_b0, own_H, own_Lo, own_X]; done) | (try simp only [own_b0] at *) <;> grind)).symm), e0, rfl⟩
        · refine go_iconst X0 hx (1) (dc hby d3_28) rfl ?_
          exact go_retN X0 hx hret (by simp) (dc hby d3_29) hk (by decide) (by decide) ⟨congrArg (fun z => some (Value.int z)) (by first | exact (own_bT (by first | (simp_all [own_b0, own_H, own_Lo, own_X]; done) | (try simp only [own_b0] at *) <;> grind)).symm | exact (own_bF (by first | (simp_all [own_b0, own_H, own_Lo, own_X]; done) | (try simp only [own_b0] at *) <;> grind)).symm), e0, rfl⟩
    · refine go_iconst X0 hx (1) (dc hby d3_13) rfl ?_
      exact go_retN X0 hx hret (by simp) (dc hby d3_14) hk (by decide) (by decide) ⟨congrArg (fun z => some (Value.int z)) (by first | exact (own_bT (by first | (simp_all [own_b0, own_H, own_Lo, own_X]; done) | (try simp only [own_b0] at *) <;> grind)).symm | exact (own_bF (by first | (simp_all [own_b0, own_H, own_Lo, own_X]; done) | (try simp only [own_b0] at *) <;> grind)).symm), e0, rfl⟩
  · refine go_iconst X0 hx (0) (dc hby d3_4) rfl ?_
    exact go_retN X0 hx hret (by simp) (dc hby d3_5) hk (by decide) (by decide) ⟨congrArg (fun z => some (Value.int z)) (by first | exact (own_bT (by first | (simp_all [own_b0, own_H, own_Lo, own_X]; done) | (try simp only [own_b0] at *) <;> grind)).symm | exact (own_bF (by first | (simp_all [own_b0, own_H, own_Lo, own_X]; done) | (try simp only [own_b0] at *) <;> grind)).symm), e0, rfl⟩
theorem pd3 : parseMethodDescriptor "(ZI)Z" = some ⟨[.boolean, .int], some .boolean⟩ := by decide +kernel
theorem d0_0 : Dec code 0 (.iload_n 0) 1 1 := ⟨at_0, rfl⟩
theorem d0_1 : Dec code 1 (.iconst 1) 1 2 := ⟨at_1, rfl⟩
theorem d0_2 : Dec code 2 (.iand) 1 3 := ⟨at_2, rfl⟩
theorem d0_3 : DecB code 3 (.ifCond .eq 7) (7) 6 10 := ⟨at_3, rfl, by decide, by decide⟩
theorem d0_6 : Dec code 6 (.iconst 1) 1 7 := ⟨at_6, rfl⟩
theorem d0_7 : DecB code 7 (.goto 4) (4) 10 11 := ⟨at_7, rfl, by decide, by decide⟩
theorem d0_10 : Dec code 10 (.iconst 0) 1 11 := ⟨at_10, rfl⟩
theorem d0_11 : Dec code 11 (.istore_n 2) 1 12 := ⟨at_11, rfl⟩
theorem d0_12 : Dec code 12 (.iload_n 0) 1 13 := ⟨at_12, rfl⟩
theorem d0_13 : Dec code 13 (.iconst 1) 1 14 := ⟨at_13, rfl⟩
theorem d0_14 : Dec code 14 (.iushr) 1 15 := ⟨at_14, rfl⟩
theorem d0_15 : Dec code 15 (.iconst 3) 1 16 := ⟨at_15, rfl⟩
theorem d0_16 : Dec code 16 (.iand) 1 17 := ⟨at_16, rfl⟩
theorem d0_17 : Dec code 17 (.istore_n 3) 1 18 := ⟨at_17, rfl⟩
theorem d0_18 : Dec code 18 (.iload_n 3) 1 19 := ⟨at_18, rfl⟩
theorem d0_19 : DecB code 19 (.ifCond .ne 9) (9) 22 28 := ⟨at_19, rfl, by decide, by decide⟩
theorem d0_22 : Dec code 22 (.iload_n 1) 1 23 := ⟨at_22, rfl⟩
theorem d0_23 : Dec code 23 (.istore 4) 2 25 := ⟨at_23, rfl⟩
theorem d0_25 : DecB code 25 (.goto 42) (42) 28 67 := ⟨at_25, rfl, by decide, by decide⟩
theorem d0_28 : Dec code 28 (.iload_n 3) 1 29 := ⟨at_28, rfl⟩
theorem d0_29 : Dec code 29 (.iconst 1) 1 30 := ⟨at_29, rfl⟩
theorem d0_30 : DecB code 30 (.if_icmp .ne 13) (13) 33 43 := ⟨at_30, rfl, by decide, by decide⟩
theorem d0_33 : Dec code 33 (.iload_n 1) 1 34 := ⟨at_33, rfl⟩
theorem d0_34 : Dec code 34 (.sipush 255) 3 37 := ⟨at_34, rfl⟩
theorem d0_37 : Dec code 37 (.iand) 1 38 := ⟨at_37, rfl⟩
theorem d0_38 : Dec code 38 (.istore 4) 2 40 := ⟨at_38, rfl⟩
theorem d0_40 : DecB code 40 (.goto 27) (27) 43 67 := ⟨at_40, rfl, by decide, by decide⟩
theorem d0_43 : Dec code 43 (.iload_n 3) 1 44 := ⟨at_43, rfl⟩
theorem d0_44 : Dec code 44 (.iconst 2) 1 45 := ⟨at_44, rfl⟩
theorem d0_45 : DecB code 45 (.if_icmp .ne 16) (16) 48 61 := ⟨at_45, rfl, by decide, by decide⟩
theorem d0_48 : Dec code 48 (.sipush 8224) 3 51 := ⟨at_48, rfl⟩
theorem d0_51 : Dec code 51 (.iload_n 1) 1 52 := ⟨at_51, rfl⟩
theorem d0_52 : Dec code 52 (.bipush 15) 2 54 := ⟨at_52, rfl⟩
theorem d0_54 : Dec code 54 (.iand) 1 55 := ⟨at_54, rfl⟩
theorem d0_55 : Dec code 55 (.iadd) 1 56 := ⟨at_55, rfl⟩
theorem d0_56 : Dec code 56 (.istore 4) 2 58 := ⟨at_56, rfl⟩
theorem d0_58 : DecB code 58 (.goto 9) (9) 61 67 := ⟨at_58, rfl, by decide, by decide⟩
theorem d0_61 : Dec code 61 (.iload_n 1) 1 62 := ⟨at_61, rfl⟩
theorem d0_62 : Dec code 62 (.ldc 11) 2 64 := ⟨at_62, rfl⟩
theorem d0_64 : Dec code 64 (.iand) 1 65 := ⟨at_64, rfl⟩
theorem d0_65 : Dec code 65 (.istore 4) 2 67 := ⟨at_65, rfl⟩
theorem d0_67 : Dec code 67 (.iload_n 2) 1 68 := ⟨at_67, rfl⟩
theorem d0_68 : DecB code 68 (.ifCond .eq 9) (9) 71 77 := ⟨at_68, rfl, by decide, by decide⟩
theorem d0_71 : Dec code 71 (.getstatic 12) 3 74 := ⟨at_71, rfl⟩
theorem d0_74 : DecB code 74 (.goto 6) (6) 77 80 := ⟨at_74, rfl, by decide, by decide⟩
theorem d0_77 : Dec code 77 (.getstatic 18) 3 80 := ⟨at_77, rfl⟩
theorem d0_80 : Dec code 80 (.astore 5) 2 82 := ⟨at_80, rfl⟩
theorem d0_82 : Dec code 82 (.iload_n 2) 1 83 := ⟨at_82, rfl⟩
theorem d0_83 : Dec code 83 (.iload 4) 2 85 := ⟨at_83, rfl⟩
theorem d0_85 : Dec code 85 (.invokestatic 21) 3 88 := ⟨at_85, rfl⟩
theorem d0_88 : DecB code 88 (.ifCond .ne 5) (5) 91 93 := ⟨at_88, rfl, by decide, by decide⟩
theorem d0_91 : Dec code 91 (.iconst 1) 1 92 := ⟨at_91, rfl⟩
theorem d0_92 : Dec code 92 (.ireturn) 1 93 := ⟨at_92, rfl⟩
theorem d0_93 : Dec code 93 (.aload 5) 2 95 := ⟨at_93, rfl⟩
theorem d0_95 : Dec code 95 (.iload 4) 2 97 := ⟨at_95, rfl⟩
theorem d0_97 : Dec code 97 (.invokevirtual 27) 3 100 := ⟨at_97, rfl⟩
theorem d0_100 : Dec code 100 (.iload_n 2) 1 101 := ⟨at_100, rfl⟩
theorem d0_101 : Dec code 101 (.iload 4) 2 103 := ⟨at_101, rfl⟩
theorem d0_103 : Dec code 103 (.invokestatic 31) 3 106 := ⟨at_103, rfl⟩
theorem d0_106 : DecB code 106 (.if_icmp .ne 7) (7) 109 113 := ⟨at_106, rfl, by decide, by decide⟩
theorem d0_109 : Dec code 109 (.iconst 1) 1 110 := ⟨at_109, rfl⟩
theorem d0_110 : DecB code 110 (.goto 4) (4) 113 114 := ⟨at_110, rfl, by decide, by decide⟩
theorem d0_114 : Dec code 114 (.ireturn) 1 115 := ⟨at_114, rfl⟩
theorem pn0 : plainName "com/example/filum/filum/format/XmlVersionNeedsReferencePinLaw" = true := by first | (simp [plainName, overriddenIn]; done) | decide +kernel
theorem ef0 (x0 : Int32) (x1 : Int32) (m : MethodId) : entryFrame m #[(.int x0), (.int x1)] maxLocals = mkF m 0 #[.val (.int x0), .val (.int x1), .unset, .unset, .unset, .unset] [] := by first | (simp [entryFrame, mkF, argsToLocals, Value.category, maxLocals]; done) | rfl
set_option maxRecDepth 65536 in
set_option maxHeartbeats 40000000 in
theorem rm0 (l : Launch) (Z : State) (a0 : Array Value) (hw : ∀ d ∈ tables_1, d.before a0 Z = true) (ws : List Jvm.Cond) (p1 p2 : Int32) (a10 a11 : Addr) (h0 : Heap) (S10 : Sta Z h0 "com/example/filum/filum/format/XmlVersion" "XML_1_0" "Lcom/example/filum/filum/format/XmlVersion;" (.ref a10)) (S11 : Sta Z h0 "com/example/filum/filum/format/XmlVersion" "XML_1_1" "Lcom/example/filum/filum/format/XmlVersion;" (.ref a11)) (E10 : Exa Z h0 a10 "com/example/filum/filum/format/XmlVersion") (E11 : Exa Z h0 a11 "com/example/filum/filum/format/XmlVersion") (hne : a10 ≠ a11) : Ct l Z x code maxLocals ret ws room_1 #[(.int p1), (.int p2)] h0 (fun v h L => v = some (.int 1) ∧ Fr h0.size L) := by
  refine Ct.of (pn0) _ (ef0 p1 p2) ?_
  intro p e s m below meth c T0 hx hby hml hZ hown hnm hret hk e0 X0
  show Go p e below _ (T0.setTop (mkF m 0 #[.val (.int p1), .val (.int p2), .unset, .unset, .unset, .unset] []))
  refine go_iloadn X0 hx (dc hby d0_0) (v := p1) rfl ?_
  refine go_iconst X0 hx (1) (dc hby d0_1) rfl ?_
  refine go_iand X0 hx (dc hby d0_2) ?_
  have J1 : ∀ (TJ1 : State) (z : Int32), Stand p l e room_1 s m #[(.int p1), (.int p2)] below meth c TJ1 [] 0 0 → TJ1.heap = h0 → z = (own_b (¬ p1 &&& 1 = 0)) → Go p e below (EndN s (fun v h L => v = some (.int 1) ∧ Fr h0.size L) room_1.cells room_1.slots) (TJ1.setTop (mkF m 11 #[.val (.int p1), .val (.int p2), .unset, .unset, .unset, .unset] [(.int z)])) := by
    intro TJ1 z XJ1 eJ1 hz
    subst hz
    show Go p e below _ (TJ1.setTop (mkF m 11 #[.val (.int p1), .val (.int p2), .unset, .unset, .unset, .unset] [(.int (own_b (¬ p1 &&& 1 = 0)))]))
    generalize own_b (¬ p1 &&& 1 = 0) = b
    show Go p e below _ (TJ1.setTop (mkF m 11 #[.val (.int p1), .val (.int p2), .unset, .unset, .unset, .unset] [(.int b)]))
    refine go_istoren XJ1 hx #[.val (.int p1), .val (.int p2), .val (.int b), .unset, .unset, .unset] (dc hby d0_11) rfl ?_
    refine go_iloadn XJ1 hx (dc hby d0_12) (v := p1) rfl ?_
    refine go_iconst XJ1 hx (1) (dc hby d0_13) rfl ?_
    refine go_iushr XJ1 hx (dc hby d0_14) ?_
    refine go_iconst XJ1 hx (3) (dc hby d0_15) rfl ?_
    refine go_iand XJ1 hx (dc hby d0_16) ?_
    refine go_istoren XJ1 hx #[.val (.int p1), .val (.int p2), .val (.int b), .val (.int ((XT.ushr p1 (1 : Int32)) &&& (3 : Int32))), .unset, .unset] (dc hby d0_17) rfl ?_
    refine go_iloadn XJ1 hx (dc hby d0_18) (v := ((XT.ushr p1 (1 : Int32)) &&& (3 : Int32))) rfl ?_
    have J2 : ∀ (TJ2 : State) (cc : Int32), Stand p l e room_1 s m #[(.int p1), (.int p2)] below meth c TJ2 [] 0 0 → TJ2.heap = h0 → True → Go p e below (EndN s (fun v h L => v = some (.int 1) ∧ Fr h0.size L) room_1.cells room_1.slots) (TJ2.setTop (mkF m 67 #[.val (.int p1), .val (.int p2), .val (.int b), .val (.int ((XT.ushr p1 (1 : Int32)) &&& (3 : Int32))), .val (.int cc), .unset] [])) := by
      intro TJ2 cc XJ2 eJ2 _
      show Go p e below _ (TJ2.setTop (mkF m 67 #[.val (.int p1), .val (.int p2), .val (.int b), .val (.int ((XT.ushr p1 (1 : Int32)) &&& (3 : Int32))), .val (.int cc), .unset] []))
      refine go_iloadn XJ2 hx (dc hby d0_67) (v := b) rfl ?_
      have JV : ∀ (TV : State) (av : Addr), Stand p l e room_1 s m #[(.int p1), (.int p2)] below meth c TV [] 0 0 → TV.heap = h0 → ((b = 0 ∧ av = a10) ∨ (¬ b = 0 ∧ av = a11)) → Go p e below (EndN s (fun v h L => v = some (.int 1) ∧ Fr h0.size L) room_1.cells room_1.slots) (TV.setTop (mkF m 80 #[.val (.int p1), .val (.int p2), .val (.int b), .val (.int ((XT.ushr p1 (1 : Int32)) &&& (3 : Int32))), .val (.int cc), .unset] [(.ref av)])) := by
        intro TV av XV eV hav
        have EA : Exa Z h0 av "com/example/filum/filum/format/XmlVersion" := by rcases hav with ⟨_, rfl⟩ | ⟨_, rfl⟩; exact E10; exact E11
        show Go p e below _ (TV.setTop (mkF m 80 #[.val (.int p1), .val (.int p2), .val (.int b), .val (.int ((XT.ushr p1 (1 : Int32)) &&& (3 : Int32))), .val (.int cc), .unset] [(.ref av)]))
        refine go_astore XV hx #[.val (.int p1), .val (.int p2), .val (.int b), .val (.int ((XT.ushr p1 (1 : Int32)) &&& (3 : Int32))), .val (.int cc), .val (.ref av)] (dc hby d0_80) rfl rfl ?_
        refine go_iloadn XV hx (dc hby d0_82) (v := b) rfl ?_
        refine go_iload XV hx (dc hby d0_83) (v := cc) rfl ?_
        refine go_staticP XV hx hZ hown (hw _ (List.mem_of_getElem? (i := 3) rfl)) (hw _ (List.mem_of_getElem? (i := 4) rfl)) (hw _ (List.mem_of_getElem? (i := 5) rfl)) (hw _ (List.mem_of_getElem? (i := 6) rfl)) (by decide) eV [(.int b), (.int cc)] [] (r := (.int (own_b (own_H b cc)))) (rm1 l Z a0 hw [] b cc h0) pd1 rfl (by rw [hml]; rfl) rfl 0 (Nat.le_of_eq rfl) (by decide) (by decide) rfl rfl (by decide) (by decide) (dc hby d0_85) (fun T3 X3 e3 => ?_)
        refine go_ifc_ne X3 hx (db hby d0_88) (fun c88 => ?_) (fun c88 => ?_)
        · refine go_aload X3 hx (dc hby d0_93) (v := (.ref av)) rfl rfl ?_
          refine go_iload X3 hx (dc hby d0_95) (v := cc) rfl ?_
          refine go_virtualP X3 hx hZ hown (hw _ (List.mem_of_getElem? (i := 11) rfl)) (hw _ (List.mem_of_getElem? (i := 12) rfl)) (hw _ (List.mem_of_getElem? (i := 14) rfl)) (hw _ (List.mem_of_getElem? (i := 13) rfl)) (hw _ (List.mem_of_getElem? (i := 1) rfl)) (hw _ (List.mem_of_getElem? (i := 15) rfl)) (by decide) e3 (a := av) EA [(.int cc)] [] (r := (.int (own_b (av = a11 ∧ (own_Lo cc ∨ cc = 8232))))) (rm2 l Z a0 hw [] av a11 cc h0 S11) pd2 rfl (by rw [hml]; rfl) rfl 0 (Nat.le_of_eq rfl) (by decide) (by decide) rfl rfl (by decide) (by decide) (dc hby d0_97) (fun T4 X4 e4 => ?_)
          refine go_iloadn X4 hx (dc hby d0_100) (v := b) rfl ?_
          refine go_iload X4 hx (dc hby d0_101) (v := cc) rfl ?_
          refine go_staticP X4 hx hZ hown (hw _ (List.mem_of_getElem? (i := 18) rfl)) (hw _ (List.mem_of_getElem? (i := 19) rfl)) (hw _ (List.mem_of_getElem? (i := 5) rfl)) (hw _ (List.mem_of_getElem? (i := 20) rfl)) (by decide) e4 [(.int b), (.int cc)] [(.int (own_b (av = a11 ∧ (own_Lo cc ∨ cc = 8232))))] (r := (.int (own_b (own_X b cc)))) (rm3 l Z a0 hw [] b cc h0) pd3 rfl (by rw [hml]; rfl) rfl 1 (Nat.le_of_eq rfl) (by decide) (by decide) rfl rfl (by decide) (by decide) (dc hby d0_103) (fun T5 X5 e5 => ?_)
          refine go_icmp_ne X5 hx (db hby d0_106) (fun c106 => ?_) (fun c106 => ?_)
          · exact absurd (own_bC (own_fin hne hav (Decidable.of_not_not (fun q => c88 (own_b0.mpr q))))) c106
          · refine go_iconst X5 hx (1) (dc hby d0_109) rfl ?_
            refine go_goto X5 hx (db hby d0_110) ?_
            exact go_retN X5 hx hret (by simp) (dc hby d0_114) hk (by decide) (by decide) ⟨rfl, fun y hy => by simp at hy⟩
        · refine go_iconst X3 hx (1) (dc hby d0_91) rfl ?_
          exact go_retN X3 hx hret (by simp) (dc hby d0_92) hk (by decide) (by decide) ⟨rfl, fun y hy => by simp at hy⟩
      refine go_ifc_eq XJ2 hx (db hby d0_68) (fun c68 => ?_) (fun c68 => ?_)
      · refine go_getS XJ2 hx hZ (host := "") hown (hw _ (List.mem_of_getElem? (i := 0) rfl)) Via.refl eJ2 S10 (dc hby d0_77) (fun T6 X6 e6 => ?_)
        exact JV T6 a10 X6 e6 (Or.inl ⟨c68, rfl⟩)
      · refine go_getS XJ2 hx hZ (host := "") hown (hw _ (List.mem_of_getElem? (i := 21) rfl)) Via.refl eJ2 S11 (dc hby d0_71) (fun T7 X7 e7 => ?_)
        refine go_goto X7 hx (db hby d0_74) ?_
        exact JV T7 a11 X7 e7 (Or.inr ⟨c68, rfl⟩)
    refine go_ifc_ne XJ1 hx (db hby d0_19) (fun c19 => ?_) (fun c19 => ?_)
    · refine go_iloadn XJ1 hx (dc hby d0_28) (v := ((XT.ushr p1 (1 : Int32)) &&& (3 : Int32))) rfl ?_
      refine go_iconst XJ1 hx (1) (dc hby d0_29) rfl ?_
      refine go_icmp_ne XJ1 hx (db hby d0_30) (fun c30 => ?_) (fun c30 => ?_)
      · refine go_iloadn XJ1 hx (dc hby d0_43) (v := ((XT.ushr p1 (1 : Int32)) &&& (3 : Int32))) rfl ?_
        refine go_iconst XJ1 hx (2) (dc hby d0_44) rfl ?_
        refine go_icmp_ne XJ1 hx (db hby d0_45) (fun c45 => ?_) (fun c45 => ?_)
        · refine go_iloadn XJ1 hx (dc hby d0_61) (v := p2) rfl ?_
          refine go_ldc XJ1 hx hZ hown (hw _ (List.mem_of_getElem? (i := 9) rfl)) (dc hby d0_62) ?_
          refine go_iand XJ1 hx (dc hby d0_64) ?_
          refine go_istore XJ1 hx #[.val (.int p1), .val (.int p2), .val (.int b), .val (.int ((XT.ushr p1 (1 : Int32)) &&& (3 : Int32))), .val (.int (p2 &&& (65535 : Int32))), .unset] (dc hby d0_65) rfl ?_
          exact J2 TJ1 _ XJ1 eJ1 (trivial)
        · refine go_sipush XJ1 hx (8224) (dc hby d0_48) rfl ?_
          refine go_iloadn XJ1 hx (dc hby d0_51) (v := p2) rfl ?_
          refine go_bipush XJ1 hx (15) (dc hby d0_52) rfl ?_
          refine go_iand XJ1 hx (dc hby d0_54) ?_
          refine go_iadd XJ1 hx (dc hby d0_55) ?_
          refine go_istore XJ1 hx #[.val (.int p1), .val (.int p2), .val (.int b), .val (.int ((XT.ushr p1 (1 : Int32)) &&& (3 : Int32))), .val (.int ((8224 : Int32) + (p2 &&& (15 : Int32)))), .unset] (dc hby d0_56) rfl ?_
          refine go_goto XJ1 hx (db hby d0_58) ?_
          exact J2 TJ1 _ XJ1 eJ1 (trivial)
      · refine go_iloadn XJ1 hx (dc hby d0_33) (v := p2) rfl ?_
        refine go_sipush XJ1 hx (255) (dc hby d0_34) rfl ?_
        refine go_iand XJ1 hx (dc hby d0_37) ?_
        refine go_istore XJ1 hx #[.val (.int p1), .val (.int p2), .val (.int b), .val (.int ((XT.ushr p1 (1 : Int32)) &&& (3 : Int32))), .val (.int (p2 &&& (255 : Int32))), .unset] (dc hby d0_38) rfl ?_
        refine go_goto XJ1 hx (db hby d0_40) ?_
        exact J2 TJ1 _ XJ1 eJ1 (trivial)
    · refine go_iloadn XJ1 hx (dc hby d0_22) (v := p2) rfl ?_
      refine go_istore XJ1 hx #[.val (.int p1), .val (.int p2), .val (.int b), .val (.int ((XT.ushr p1 (1 : Int32)) &&& (3 : Int32))), .val (.int p2), .unset] (dc hby d0_23) rfl ?_
      refine go_goto XJ1 hx (db hby d0_25) ?_
      exact J2 TJ1 _ XJ1 eJ1 (trivial)
  refine go_ifc_eq X0 hx (db hby d0_3) (fun c3 => ?_) (fun c3 => ?_)
  · refine go_iconst X0 hx (0) (dc hby d0_10) rfl ?_
    exact J1 T0 _ X0 e0 (by first | exact (own_bT (by first | (simp_all [own_b0, own_H, own_Lo, own_X]; done) | (try simp only [own_b0] at *) <;> grind)).symm | exact (own_bF (by first | (simp_all [own_b0, own_H, own_Lo, own_X]; done) | (try simp only [own_b0] at *) <;> grind)).symm)
  · refine go_iconst X0 hx (1) (dc hby d0_6) rfl ?_
    refine go_goto X0 hx (db hby d0_7) ?_
    exact J1 T0 _ X0 e0 (by first | exact (own_bT (by first | (simp_all [own_b0, own_H, own_Lo, own_X]; done) | (try simp only [own_b0] at *) <;> grind)).symm | exact (own_bF (by first | (simp_all [own_b0, own_H, own_Lo, own_X]; done) | (try simp only [own_b0] at *) <;> grind)).symm)
theorem pd0 : parseMethodDescriptor "(II)Z" = some ⟨[.int, .int], some .boolean⟩ := by decide +kernel
set_option maxRecDepth 65536 in
set_option maxHeartbeats 40000000 in
theorem comes_1 {Post : Tables → Env → Array Value → State → Outcome → State → Prop} (hpost : ∀ tb e args s v u, (limb_1_1.after args s (.returned v) u = true ∧ limb_1_2.after args s (.returned v) u = true ∧ True) → FrameEnd s (.returned v) u (Jvm.fieldLocs frame_1_writes args s ++ Jvm.arrayLocs frame_1_arrays args s ++ Jvm.staticLocs frame_1_statics s) 0 0 → Post tb e args s (.returned v) u) :
    ArmFor flags0 classFile x code maxLocals ret World_1 tables_1 room_1 Calls_1 rest_1 Pre_1 Post := by
  intro l hfl _ _ p e ha hc hk s m args below hf hA hF happ hP
  obtain ⟨hcalls, hrest, hpre⟩ := hP
  obtain ⟨-, -, -, hnamed, -, -, -, hat⟩ := (Spec.applies_iff hf).mp happ
  obtain ⟨hg, hn⟩ := and_e (Cond.before_iff.mp (show (Jvm.Cond.and given_1 narrow_1).before args s = true from hpre))
  obtain ⟨g1, g2⟩ := and_e hg
  obtain ⟨w0, w1, rfl⟩ : ∃ w0 w1 : Value, args = #[w0, w1] := by
    have hs : args.size = 2 := by simpa [Cond.value, given_1] using g1
    obtain ⟨L⟩ := args
    match L, hs with
    | [w0, w1], _ => exact ⟨w0, w1, rfl⟩
  have hw := fun d (hd : d ∈ tables_1) => atoms_spec (ws := Jvm.Cond.code x code maxLocals ret :: tables_1) hat d (List.mem_cons_of_mem _ hd)
  have hfit : Fit s := fun {y c} hc i hi => by
    obtain ⟨ha, rfl⟩ := Array.getElem?_eq_some_iff.mp hc
    have q := List.all_eq_true.mp ((Array.all_eq_true_iff_forall_mem.mp hF) _ (Array.getElem_mem ha)) i (List.mem_range.mpr hi)
    simpa [Array.getElem?_eq_getElem hi] using q
  obtain ⟨u0, r0⟩ := and_e g2
  obtain ⟨i0, j0⟩ := is_v u0
  obtain rfl : w0 = (.int i0) := Option.some.inj j0
  obtain ⟨i1, j1⟩ := is_v r0
  obtain rfl : w1 = (.int i1) := Option.some.inj j1
  obtain ⟨n1, m1⟩ := and_e hn
  obtain ⟨n2, m2⟩ := and_e m1
  obtain ⟨n3, n4⟩ := and_e m2
  obtain ⟨a10, v10⟩ := exa_v n1
  obtain ⟨a11, v11⟩ := exa_v n2
  have S10 := Sta.start v10 (Or.inr ⟨(hw _ (List.mem_of_getElem? (i := 1) rfl)), (hw _ (List.mem_of_getElem? (i := 2) rfl))⟩)
  have S11 := Sta.start v11 (Or.inr ⟨(hw _ (List.mem_of_getElem? (i := 1) rfl)), (hw _ (List.mem_of_getElem? (i := 17) rfl))⟩)
  have E10 := Exa.start v10 n1
  have E11 := Exa.start v11 n2
  have hne : a10 ≠ a11 := fun q => by
    have o0 := own_ord v10 n3
    have o1 := own_ord v11 n4
    rw [q, o1] at o0
    exact absurd o0 (by decide)
  obtain ⟨n, o, h1, h2, h3, _, L, rfl, ⟨rfl, N⟩, hq⟩ := rm0 l s _ hw tables_1 i0 i1 a10 a11 s.heap S10 S11 E10 E11 hne p e ha hc hk s m _ below hf ((Spec.applies_iff_loose hf).mp happ).1 ⟨rfl, State.Warmed39.refl s, rfl⟩ trivial
  refine ⟨n, _, h1, h2, h3, hpost _ _ _ _ _ _ ⟨Cond.after_iff.mpr rfl, Cond.after_iff.mpr (eq_i res_at (Term.int_eval (1)) rfl), trivial⟩ ⟨hq.1, hq.2.1, (hq.2.2.sift fun y hy => Or.inr (N y hy)).mono (by decide) (by decide)⟩⟩
theorem main_1_1 : Claimed_1_1 := comes_1 fun _ _ _ _ _ _ h hF => ⟨h.1, hF⟩
theorem main_1_2 : Claimed_1_2 := comes_1 fun _ _ _ _ _ _ h hF => ⟨h.2.1, hF⟩
end Jvm.Pilot.@@N@@
namespace Jvm.Pilot.@@N@@
open Jvm Jvm.ClassFile Sem Op Lib Jvm.Free Jvm.Stand Jvm.Pilot.@@N@@.Jvm.D
/-! MADE BY PROGRAM (witnessworld.py) out of the Statement's table words and the real class files: 12 classes; the members and pool entries that the words name. The judged class is class 1, her method 3. -/
namespace start1
open Jvm.ClassFile
def u (s : String) : CpInfo := .utf8 (stringToUtf16 s)
/-- a pool by its gaps: so many unusable entries, then the entry; so many at the end -/
def gap : Nat → List CpInfo → List CpInfo
  | 0, r => r
  | n + 1, r => .unusable :: gap n r
def poolList (es : List (Nat × CpInfo)) (last : Nat) : List CpInfo := es.foldr (fun e r => gap e.1 (e.2 :: r)) (gap last [])
def pool (es : List (Nat × CpInfo)) (last : Nat) : Array CpInfo := ⟨poolList es last⟩
def fileOf (pool : Array CpInfo) (this : Nat) (attrs : Array Attribute := #[]) (ms : Array MethodInfo := #[]) (fl : Nat := 33) (sup : Nat := 0) (ifs : Array Nat := #[]) (fds : Array FieldInfo := #[]) : ClassFile where
  minorVersion := 0
  majorVersion := 65
  constantPool := pool
  accessFlags := fl
  thisClass := this
  superClass := sup
  interfaces := ifs
  fields := fds
  methods := ms
  attributes := attrs
def plain (name : String) (sup : Option ClassId) : Class where
  name := name
  kind := .ordinary
  loader := none
  accessFlags := 33
  super := sup
  interfaces := #[]
  cf := none
  fields := #[]
  methods := #[]
  instanceTypes := #[]
  staticTypes := #[]
  resolved := #[]
  callSites := []
  init := .initialized
  statics := none
  mirror := none

def pool0 : Array CpInfo := pool [(5, u "<init>"), (0, u "()V"), (1, .class_ 10), (1, u "java/lang/Object")] 113

def k0m0 : Method := { name := "<init>", desc := "()V", sig := { parameters := [], returnType := none }, accessFlags := 1, code := none }
/-- java/lang/Object -/
def k0 : Class := { plain "java/lang/Object" none with
  accessFlags := 33
  interfaces := #[]
  cf := some (fileOf pool0 8 #[] #[{ accessFlags := 1, nameIndex := 5, descriptorIndex := 6, attributes := #[] }] 33 0 #[] #[])
  fields := #[]
  methods := #[k0m0]
  instanceTypes := #[]
  staticTypes := #[]
  resolved := Array.replicate 124 none
  statics := none }

def pool1 : Array CpInfo := pool [(2, .class_ 4), (1, u "java/lang/Object"), (0, u "<init>"), (0, u "()V"), (0, .integer 55295), (0, .integer 57344), (0, .integer 65533), (0, .integer 65536), (0, .integer 65535), (0, .fieldref 13 14), (0, .class_ 15), (0, .nameAndType 16 17), (0, u "com/example/filum/filum/format/XmlVersion"), (0, u "XML_1_1"), (0, u "Lcom/example/filum/filum/format/XmlVersion;"), (0, .fieldref 13 19), (0, .nameAndType 20 17), (0, u "XML_1_0"), (0, .methodref 22 23), (0, .class_ 24), (0, .nameAndType 25 26), (0, u "com/example/filum/filum/format/XmlVersionNeedsReferencePinLaw"), (0, u "held"), (0, u "(ZI)Z"), (0, .methodref 13 28), (0, .nameAndType 29 30), (0, u "needsReference"), (0, u "(I)Z"), (0, .methodref 22 32), (0, .nameAndType 33 26), (0, u "expected"), (3, u "law"), (0, u "(II)Z")] 2

def k1m0 : Method := { name := "<init>", desc := "()V", sig := { parameters := [], returnType := none }, accessFlags := 1, code := none }
def k1c1 : Code := { maxStack := 2, maxLocals := 2, code := method_2_code, exceptionTable := #[], attributes := #[] }
def k1m1 : Method := { name := "held", desc := "(ZI)Z", sig := { parameters := [.boolean, .int], returnType := some .boolean }, accessFlags := 10, code := some k1c1 }
def k1c2 : Code := { maxStack := 2, maxLocals := 2, code := method_3_code, exceptionTable := #[], attributes := #[] }
def k1m2 : Method := { name := "expected", desc := "(ZI)Z", sig := { parameters := [.boolean, .int], returnType := some .boolean }, accessFlags := 10, code := some k1c2 }
def k1c3 : Code := { maxStack := 3, maxLocals := 6, code := code, exceptionTable := #[], attributes := #[] }
def k1m3 : Method := { name := "law", desc := "(II)Z", sig := { parameters := [.int, .int], returnType := some .boolean }, accessFlags := 9, code := some k1c3 }
/-- com/example/filum/filum/format/XmlVersionNeedsReferencePinLaw -/
def k1 : Class := { plain "com/example/filum/filum/format/XmlVersionNeedsReferencePinLaw" (some 0) with
  accessFlags := 49
  interfaces := #[]
  cf := some (fileOf pool1 22 #[] #[{ accessFlags := 1, nameIndex := 5, descriptorIndex := 6, attributes := #[] }, { accessFlags := 10, nameIndex := 25, descriptorIndex := 26, attributes := #[] }, { accessFlags := 10, nameIndex := 33, descriptorIndex := 26, attributes := #[] }, { accessFlags := 9, nameIndex := 37, descriptorIndex := 38, attributes := #[] }] 49 2 #[] #[])
  fields := #[]
  methods := #[k1m0, k1m1, k1m2, k1m3]
  instanceTypes := #[]
  staticTypes := #[]
  resolved := Array.replicate 41 none
  statics := none }

def pool2 : Array CpInfo := pool [(1, .class_ 2), (0, u "java/lang/constant/Constable"), (0, .class_ 4), (0, u "java/lang/Object")] 6

/-- java/lang/constant/Constable -/
def k2 : Class := { plain "java/lang/constant/Constable" (some 0) with
  accessFlags := 1537
  interfaces := #[]
  cf := some (fileOf pool2 1 #[] #[] 1537 3 #[] #[])
  fields := #[]
  methods := #[]
  instanceTypes := #[]
  staticTypes := #[]
  resolved := Array.replicate 11 none
  statics := none }

def pool3 : Array CpInfo := pool [(1, .class_ 2), (0, u "java/lang/Comparable"), (0, .class_ 4), (0, u "java/lang/Object")] 7

/-- java/lang/Comparable -/
def k3 : Class := { plain "java/lang/Comparable" (some 0) with
  accessFlags := 1537
  interfaces := #[]
  cf := some (fileOf pool3 1 #[] #[] 1537 3 #[] #[])
  fields := #[]
  methods := #[]
  instanceTypes := #[]
  staticTypes := #[]
  resolved := Array.replicate 12 none
  statics := none }

def pool4 : Array CpInfo := pool [(1, .class_ 2), (0, u "java/io/Serializable"), (0, .class_ 4), (0, u "java/lang/Object")] 2

/-- java/io/Serializable -/
def k4 : Class := { plain "java/io/Serializable" (some 0) with
  accessFlags := 1537
  interfaces := #[]
  cf := some (fileOf pool4 1 #[] #[] 1537 3 #[] #[])
  fields := #[]
  methods := #[]
  instanceTypes := #[]
  staticTypes := #[]
  resolved := Array.replicate 7 none
  statics := none }

def pool5 : Array CpInfo := pool [(2, .class_ 4), (1, u "java/lang/Enum"), (0, u "name"), (0, u "Ljava/lang/String;"), (2, u "ordinal"), (0, u "I"), (1, .class_ 14), (1, u "java/lang/Object"), (4, u "hash"), (86, .class_ 108), (1, u "java/lang/Enum$EnumDesc"), (2, .class_ 112), (0, u "java/lang/constant/Constable"), (0, .class_ 114), (0, u "java/lang/Comparable"), (0, .class_ 116), (0, u "java/io/Serializable")] 87

/-- java/lang/Enum -/
def k5 : Class := { plain "java/lang/Enum" (some 0) with
  accessFlags := 1057
  interfaces := #[2, 3, 4]
  cf := some (fileOf pool5 2 #[.nestMembers #[106]] #[] 1057 12 #[111, 113, 115] #[{ accessFlags := 18, nameIndex := 5, descriptorIndex := 6, attributes := #[] }, { accessFlags := 18, nameIndex := 9, descriptorIndex := 10, attributes := #[] }, { accessFlags := 2, nameIndex := 19, descriptorIndex := 10, attributes := #[] }])
  fields := #[{ name := "name", type := (.object "java/lang/String"), accessFlags := 18, slot := 0, constantValue := 0 }, { name := "ordinal", type := .int, accessFlags := 18, slot := 1, constantValue := 0 }, { name := "hash", type := .int, accessFlags := 2, slot := 2, constantValue := 0 }]
  methods := #[]
  instanceTypes := #[(.object "java/lang/String"), .int, .int]
  staticTypes := #[]
  resolved := Array.replicate 204 none
  statics := none }

def pool6 : Array CpInfo := pool [(1, .class_ 2), (0, u "com/example/filum/filum/format/XmlVersion"), (2, u "XML_1_0"), (0, u "Lcom/example/filum/filum/format/XmlVersion;"), (0, .fieldref 1 8), (0, .nameAndType 9 6), (0, u "XML_1_1"), (2, u "$VALUES"), (0, u "[Lcom/example/filum/filum/format/XmlVersion;"), (6, .class_ 22), (1, u "java/lang/Enum"), (8, u "number"), (0, u "Ljava/lang/String;"), (34, u "(I)Z"), (0, u "needsReference")] 5

def k6c0 : Code := { maxStack := 2, maxLocals := 3, code := prog_104_method_7_code, exceptionTable := #[], attributes := #[] }
def k6m0 : Method := { name := "needsReference", desc := "(I)Z", sig := { parameters := [.int], returnType := some .boolean }, accessFlags := 0, code := some k6c0 }
/-- com/example/filum/filum/format/XmlVersion -/
def k6 : Class := { plain "com/example/filum/filum/format/XmlVersion" (some 5) with
  accessFlags := 16432
  interfaces := #[]
  cf := some (fileOf pool6 1 #[] #[{ accessFlags := 0, nameIndex := 68, descriptorIndex := 67, attributes := #[] }] 16432 20 #[] #[{ accessFlags := 16409, nameIndex := 5, descriptorIndex := 6, attributes := #[] }, { accessFlags := 16409, nameIndex := 9, descriptorIndex := 6, attributes := #[] }, { accessFlags := 18, nameIndex := 31, descriptorIndex := 32, attributes := #[] }, { accessFlags := 4122, nameIndex := 12, descriptorIndex := 13, attributes := #[] }])
  fields := #[{ name := "XML_1_0", type := (.object "com/example/filum/filum/format/XmlVersion"), accessFlags := 16409, slot := 0, constantValue := 0 }, { name := "XML_1_1", type := (.object "com/example/filum/filum/format/XmlVersion"), accessFlags := 16409, slot := 1, constantValue := 0 }, { name := "number", type := (.object "java/lang/String"), accessFlags := 18, slot := 3, constantValue := 0 }, { name := "$VALUES", type := (.array (.object "com/example/filum/filum/format/XmlVersion")), accessFlags := 4122, slot := 2, constantValue := 0 }]
  methods := #[k6m0]
  instanceTypes := #[(.object "java/lang/String"), .int, .int, (.object "java/lang/String")]
  staticTypes := #[(.object "com/example/filum/filum/format/XmlVersion"), (.object "com/example/filum/filum/format/XmlVersion"), (.array (.object "com/example/filum/filum/format/XmlVersion"))]
  resolved := Array.replicate 74 none
  statics := some 0 }

def pool7 : Array CpInfo := pool [(1, u "java/lang/Cloneable"), (0, .class_ 1), (0, u "java/lang/Object"), (0, .class_ 3)] 3

/-- java/lang/Cloneable -/
def k7 : Class := { plain "java/lang/Cloneable" (some 0) with
  accessFlags := 1537
  interfaces := #[]
  cf := some (fileOf pool7 2 #[] #[] 1537 4 #[] #[])
  fields := #[]
  methods := #[]
  instanceTypes := #[]
  staticTypes := #[]
  resolved := Array.replicate 8 none
  statics := none }

/-- the primitive byte -/
def k8 : Class := { plain "byte" none with kind := .primitive 'B', accessFlags := 0x411 }
/-- [B -/
def k9 : Class := { plain "[B" (some 0) with kind := .array 8 .byte, interfaces := #[7, 4], accessFlags := 1041 }

/-- the primitive int -/
def k10 : Class := { plain "int" none with kind := .primitive 'I', accessFlags := 0x411 }
/-- [I -/
def k11 : Class := { plain "[I" (some 0) with kind := .array 10 .int, interfaces := #[7, 4], accessFlags := 1041 }

def heap : Heap := #[{ cls := 6, slots := #[.ref 1, .ref 2, .null], vm := .statics 6 },
  { cls := 6, slots := #[.null, .int 0, .int 0, .null], vm := .none },
  { cls := 6, slots := #[.null, .int 1, .int 0, .null], vm := .none }]
def classes : Array Class := #[k0, k1, k2, k3, k4, k5, k6, k7, k8, k9, k10, k11]
def interned : List (Array UInt16 × Addr) := []
def slotsUsed : Nat := 11
def theMethod : MethodId := ⟨1, 3⟩
def args0 : Array Value := #[.int 1, .int 65]
def aboutOver (below : List Frame) : State where
  vm := { classes := classes, interned := interned.toArray }
  heap := heap
  slotsUsed := slotsUsed
  threads := #[{ frames := .invoking theMethod args0 :: below }]
def below0 : List Frame := [.native { method := ⟨0, 0⟩, args := #[] }]
def about1 : State := aboutOver below0
def p0 : Program := .bare "" "" ""
def e0 : Env := launch0.env 0 0 0
theorem w_frames : about1.frames = Frame.invoking theMethod args0 :: below0 := rfl
set_option maxRecDepth 65536 in
theorem w_args : argsFit about1.vm theMethod args0 = true := by decide +kernel
set_option maxRecDepth 65536 in
theorem w_heap : heapFits about1 = true := by decide +kernel
set_option maxRecDepth 65536 in
theorem w_runnable : about1.curStatus? = some .runnable := by decide +kernel
set_option maxRecDepth 65536 in
theorem w_alone : about1.alone = true := by decide +kernel
set_option maxRecDepth 65536 in
theorem w_named : about1.methodNamed? x = some theMethod := by decide +kernel
set_option maxRecDepth 65536 in
theorem w_hears : about1.hears theMethod below0 = true := by decide +kernel
set_option maxRecDepth 65536 in
theorem w_ripe : about1.ripe theMethod args0 below0 = true := by decide +kernel
theorem w_running : about1.status = .running := rfl
set_option maxRecDepth 65536 in
theorem w_room : about1.hasRoom e0.platform room_1 = true :=
  launch0.hasRoom_least _ room_1 (by decide +kernel) (by decide +kernel) (by decide +kernel) (by decide +kernel) (by decide +kernel) (by decide +kernel)
theorem allAtoms_all (ts : List Jvm.Cond) (a : Array Jvm.Value) (st : Jvm.State) : (allAtoms ts).before a st = ts.all (fun c => c.before a st) := by
  induction ts with
  | nil => rfl
  | cons c t ih =>
    show (Jvm.Cond.and c (allAtoms t)).before a st = _
    rw [Jvm.Cond.before_and, ih, List.all_cons]
def words1 : List Jvm.Cond := Jvm.Cond.code x code maxLocals ret :: tables_1
/-- a 'code' word, met by the world's own term for the bytes: nothing is compared byte by byte -/
theorem code_word {y : MethodName} {bytes : ByteArray} {mx : Nat} {rt : Option FieldType} {a : Array Value} {s : State} {m : MethodId} {meth : Method} {c : Code} (h1 : s.methodNamed? y = some m) (h2 : s.vm.method? m = some meth) (h3 : meth.code = some c) (h4 : c.code = bytes)
    (h5 : (c.maxLocals == mx && c.exceptionTable.isEmpty && decide (c.maxStack ≤ mostOperands) && decide (meth.sig.returnType = rt) && !meth.locks && decide (parseMethodDescriptor y.desc = some meth.sig)) = true) : (Jvm.Cond.code y bytes mx rt).before a s = true := by
  simp only [Bool.and_eq_true, beq_iff_eq, Bool.not_eq_true', decide_eq_true_eq] at h5
  obtain ⟨⟨⟨⟨⟨g1, g2⟩, g3⟩, g4⟩, g5⟩, g6⟩ := h5
  simp [Cond.before, Cond.holds, Cond.value, h1, h2, h3, h4, g1, g2, g3, g4, g5, g6]
def isCode : Jvm.Cond → Bool
  | .code _ _ _ _ => true
  | _ => false
theorem all_split {L : List Jvm.Cond} {P : Jvm.Cond → Bool} (h1 : L.all (fun c => isCode c || P c) = true) (h2 : ∀ c ∈ L.filter isCode, P c = true) : L.all P = true := by
  refine List.all_eq_true.mpr fun c hc => ?_
  have h := List.all_eq_true.mp h1 c hc
  rcases Bool.eq_false_or_eq_true (isCode c) with hi | hi
  · exact h2 c (List.mem_filter.mpr ⟨hc, hi⟩)
  · simpa [hi] using h
set_option maxRecDepth 65536 in
theorem w_c0 : (Jvm.Cond.code x code maxLocals ret).before args0 about1 = true := code_word (m := ⟨1, 3⟩) (meth := k1m3) (c := k1c3) (by decide +kernel) rfl rfl rfl (by decide +kernel)
set_option maxRecDepth 65536 in
theorem w_c1 : (Jvm.Cond.code ({ cls := "com/example/filum/filum/format/XmlVersionNeedsReferencePinLaw", name := "held", desc := "(ZI)Z" } : Jvm.MethodName) method_2_code (2 : Nat) (Option.some Jvm.ClassFile.FieldType.boolean)).before args0 about1 = true := code_word (m := ⟨1, 1⟩) (meth := k1m1) (c := k1c1) (by decide +kernel) rfl rfl rfl (by decide +kernel)
set_option maxRecDepth 65536 in
theorem w_c2 : (Jvm.Cond.code ({ cls := "com/example/filum/filum/format/XmlVersion", name := "needsReference", desc := "(I)Z" } : Jvm.MethodName) prog_104_method_7_code (3 : Nat) (Option.some Jvm.ClassFile.FieldType.boolean)).before args0 about1 = true := code_word (m := ⟨6, 0⟩) (meth := k6m0) (c := k6c0) (by decide +kernel) rfl rfl rfl (by decide +kernel)
set_option maxRecDepth 65536 in
theorem w_c3 : (Jvm.Cond.code ({ cls := "com/example/filum/filum/format/XmlVersionNeedsReferencePinLaw", name := "expected", desc := "(ZI)Z" } : Jvm.MethodName) method_3_code (2 : Nat) (Option.some Jvm.ClassFile.FieldType.boolean)).before args0 about1 = true := code_word (m := ⟨1, 2⟩) (meth := k1m2) (c := k1c2) (by decide +kernel) rfl rfl rfl (by decide +kernel)
def codes1 : List Jvm.Cond := [Jvm.Cond.code x code maxLocals ret, Jvm.Cond.code ({ cls := "com/example/filum/filum/format/XmlVersionNeedsReferencePinLaw", name := "held", desc := "(ZI)Z" } : Jvm.MethodName) method_2_code (2 : Nat) (Option.some Jvm.ClassFile.FieldType.boolean), Jvm.Cond.code ({ cls := "com/example/filum/filum/format/XmlVersion", name := "needsReference", desc := "(I)Z" } : Jvm.MethodName) prog_104_method_7_code (3 : Nat) (Option.some Jvm.ClassFile.FieldType.boolean), Jvm.Cond.code ({ cls := "com/example/filum/filum/format/XmlVersionNeedsReferencePinLaw", name := "expected", desc := "(ZI)Z" } : Jvm.MethodName) method_3_code (2 : Nat) (Option.some Jvm.ClassFile.FieldType.boolean)]
set_option maxRecDepth 65536 in
theorem codes_eq : words1.filter isCode = codes1 := rfl
theorem w_codes : ∀ c ∈ words1.filter isCode, c.before args0 about1 = true := by
  rw [codes_eq]
  intro c hc
  simp only [codes1, List.mem_cons, List.not_mem_nil, or_false] at hc
  rcases hc with rfl | rfl | rfl | rfl
  · exact w_c0
  · exact w_c1
  · exact w_c2
  · exact w_c3
set_option maxRecDepth 65536 in
theorem w_t1 : words1.all (fun c => isCode c || c.before args0 about1) = true := by decide +kernel
theorem w_tables : (allAtoms (Jvm.Cond.code x code maxLocals ret :: tables_1)).before args0 about1 = true := by
  rw [allAtoms_all]
  show words1.all (fun c => c.before args0 about1) = true
  refine all_split ?_ w_codes
  rw [w_t1]
set_option maxRecDepth 65536 in
theorem w_case : (Jvm.Cond.and given_1 narrow_1).before args0 about1 = true := by decide +kernel
theorem w_applies : (headSpec (Jvm.Cond.code x code maxLocals ret :: tables_1) room_1).applies x e0.platform about1 = true :=
  (Spec.applies_iff w_frames).mpr ⟨w_running, w_runnable, w_alone, w_named, w_hears, w_ripe, w_room, w_tables⟩
theorem atStart : AtStart classFile x code maxLocals ret World_1 tables_1 room_1 Calls_1 rest_1 Pre_1 launch0 p0 e0 about1 theMethod args0 below0 :=
  ⟨lists_1, trivial, launch0.admits_env _ _ _, launch0.least_env, fairChoices_fair.cas, fairChoices_fair.clock, w_frames, w_args, w_heap, w_applies, trivial, trivial, w_case⟩
end start1
theorem witness_1 : WitnessClaimed_1 := ⟨start1.p0, start1.e0, start1.about1, start1.theMethod, start1.args0, start1.below0, start1.atStart⟩
end Jvm.Pilot.@@N@@
