import JvmDerived
import JvmDerived.Pilot.@@N@@Statement
import JvmDerived.Pilot.@@N@@Code
set_option linter.unusedVariables false
set_option linter.unusedSimpArgs false
namespace Jvm.Pilot.@@N@@
open Jvm Jvm.ClassFile Sem Op Lib Jvm.Free Jvm.Stand Jvm.LawKit Jvm.RoadKit Bundle Jvm.Pilot.@@N@@.Jvm.D
section OwnGo
variable {p : Program} {l : Launch} {e : Env} {R : Room} {s : State} {m : MethodId} {args : Array Value} {below : List Frame} {meth : Method} {c : Code} {T : State} {locs : List Loc} {cells slots : Nat} {Q : Option Value → Heap → List Loc → Prop} {rc rs : Nat} {Ls : Array Slot} {st : List Value} {pc pc' pt : Nat} {Z : State} {a0 : Array Value} {h : Heap} {En : Outcome → State → Prop}
def Go (p : Program) (e : Env) (below : List Frame) (En : Outcome → State → Prop) (S : State) : Prop := ∃ s₂ o, Steps p.tables e below S s₂ ∧ s₂.status = .running ∧ Ended s₂ below o ∧ En o s₂
def EndN (s : State) (Q : Option Value → Heap → List Loc → Prop) (rc rs : Nat) (o : Outcome) (s₂ : State) : Prop := ∃ v L, o = .returned v ∧ Q v s₂.heap L ∧ FrameEnd s o s₂ L rc rs
def EndW (s : State) (Q : Option Value → Heap → List Loc → Prop) (rc rs : Nat) (o : Outcome) (s₂ : State) : Prop := ∃ v L, o = .returned v ∧ Q v s₂.heap L ∧ ReturnedEndW s o s₂ L rc rs
theorem own_via {S S' : State} (q : ∀ t, Steps p.tables e below S' t → Steps p.tables e below S t) (k : Go p e below En S') : Go p e below En S := by
  obtain ⟨t, o, h1, h2⟩ := k
  exact ⟨t, o, q _ h1, h2⟩
def Dec (b : ByteArray) (pc : Nat) (i : Instr) (n pc' : Nat) : Prop := decode b pc = .ok (i, n) ∧ pc + n = pc'
def DecB (b : ByteArray) (pc : Nat) (i : Instr) (o : Int) (pF pT : Nat) : Prop := decode b pc = .ok (i, 3) ∧ pc + 3 = pF ∧ 0 ≤ (pc : Int) + o ∧ ((pc : Int) + o).toNat = pT
theorem dc {b : ByteArray} {i : Instr} {n : Nat} (q : c.code = b) (k : Dec b pc i n pc') : Dec c.code pc i n pc' := q ▸ k
theorem db {b : ByteArray} {i : Instr} {o : Int} (q : c.code = b) (k : DecB b pc i o pc' pt) : DecB c.code pc i o pc' pt := q ▸ k
theorem go_iadd (X : Stand p l e R s m args below meth c T locs cells slots) (hx : p.tables.exec = Jvm.exec) {x y : Int32} (hd : Dec c.code pc (.iadd) 1 pc') (k : Go p e below En (T.setTop (mkF m pc' Ls (.int (x + y) :: st)))) : Go p e below En (T.setTop (mkF m pc Ls (.int y :: .int x :: st))) := by
  obtain ⟨hd, rfl⟩ := hd
  exact own_via (fun t => XS.iadd X.here hx rfl hd rfl) k
theorem go_isub (X : Stand p l e R s m args below meth c T locs cells slots) (hx : p.tables.exec = Jvm.exec) {x y : Int32} (hd : Dec c.code pc (.isub) 1 pc') (k : Go p e below En (T.setTop (mkF m pc' Ls (.int (x - y) :: st)))) : Go p e below En (T.setTop (mkF m pc Ls (.int y :: .int x :: st))) := by
  obtain ⟨hd, rfl⟩ := hd
  exact own_via (fun t => XS.isub X.here hx rfl hd rfl) k
theorem go_imul (X : Stand p l e R s m args below meth c T locs cells slots) (hx : p.tables.exec = Jvm.exec) {x y : Int32} (hd : Dec c.code pc (.imul) 1 pc') (k : Go p e below En (T.setTop (mkF m pc' Ls (.int (x * y) :: st)))) : Go p e below En (T.setTop (mkF m pc Ls (.int y :: .int x :: st))) := by
  obtain ⟨hd, rfl⟩ := hd
  exact own_via (fun t => XS.imul X.here hx rfl hd rfl) k
theorem go_iand (X : Stand p l e R s m args below meth c T locs cells slots) (hx : p.tables.exec = Jvm.exec) {x y : Int32} (hd : Dec c.code pc (.iand) 1 pc') (k : Go p e below En (T.setTop (mkF m pc' Ls (.int (x &&& y) :: st)))) : Go p e below En (T.setTop (mkF m pc Ls (.int y :: .int x :: st))) := by
  obtain ⟨hd, rfl⟩ := hd
  exact own_via (fun t => XS.iand X.here hx rfl hd rfl) k
theorem go_ior (X : Stand p l e R s m args below meth c T locs cells slots) (hx : p.tables.exec = Jvm.exec) {x y : Int32} (hd : Dec c.code pc (.ior) 1 pc') (k : Go p e below En (T.setTop (mkF m pc' Ls (.int (x ||| y) :: st)))) : Go p e below En (T.setTop (mkF m pc Ls (.int y :: .int x :: st))) := by
  obtain ⟨hd, rfl⟩ := hd
  exact own_via (fun t => XT.ior X.here hx rfl hd rfl) k
theorem go_ixor (X : Stand p l e R s m args below meth c T locs cells slots) (hx : p.tables.exec = Jvm.exec) {x y : Int32} (hd : Dec c.code pc (.ixor) 1 pc') (k : Go p e below En (T.setTop (mkF m pc' Ls (.int (x ^^^ y) :: st)))) : Go p e below En (T.setTop (mkF m pc Ls (.int y :: .int x :: st))) := by
  obtain ⟨hd, rfl⟩ := hd
  exact own_via (fun t => XT.ixor X.here hx rfl hd rfl) k
theorem go_ishl (X : Stand p l e R s m args below meth c T locs cells slots) (hx : p.tables.exec = Jvm.exec) {x y : Int32} (hd : Dec c.code pc (.ishl) 1 pc') (k : Go p e below En (T.setTop (mkF m pc' Ls (.int (x <<< (y &&& 31)) :: st)))) : Go p e below En (T.setTop (mkF m pc Ls (.int y :: .int x :: st))) := by
  obtain ⟨hd, rfl⟩ := hd
  exact own_via (fun t => XT.ishl X.here hx rfl hd rfl) k
theorem go_ishr (X : Stand p l e R s m args below meth c T locs cells slots) (hx : p.tables.exec = Jvm.exec) {x y : Int32} (hd : Dec c.code pc (.ishr) 1 pc') (k : Go p e below En (T.setTop (mkF m pc' Ls (.int (x >>> (y &&& 31)) :: st)))) : Go p e below En (T.setTop (mkF m pc Ls (.int y :: .int x :: st))) := by
  obtain ⟨hd, rfl⟩ := hd
  exact own_via (fun t => XT.ishr X.here hx rfl hd rfl) k
theorem go_iushr (X : Stand p l e R s m args below meth c T locs cells slots) (hx : p.tables.exec = Jvm.exec) {x y : Int32} (hd : Dec c.code pc (.iushr) 1 pc') (k : Go p e below En (T.setTop (mkF m pc' Ls (.int (XT.ushr x y) :: st)))) : Go p e below En (T.setTop (mkF m pc Ls (.int y :: .int x :: st))) := by
  obtain ⟨hd, rfl⟩ := hd
  exact own_via (fun t => XT.iushr X.here hx rfl hd rfl) k
theorem go_idiv (X : Stand p l e R s m args below meth c T locs cells slots) (hx : p.tables.exec = Jvm.exec) {x y : Int32} (hd : Dec c.code pc (.idiv) 1 pc') (hy : y ≠ 0) (k : Go p e below En (T.setTop (mkF m pc' Ls (.int (x / y) :: st)))) : Go p e below En (T.setTop (mkF m pc Ls (.int y :: .int x :: st))) := by
  obtain ⟨hd, rfl⟩ := hd
  exact own_via (fun t => XS.idiv X.here hx rfl hd rfl hy) k
theorem go_irem (X : Stand p l e R s m args below meth c T locs cells slots) (hx : p.tables.exec = Jvm.exec) {x y : Int32} (hd : Dec c.code pc (.irem) 1 pc') (hy : y ≠ 0) (k : Go p e below En (T.setTop (mkF m pc' Ls (.int (x % y) :: st)))) : Go p e below En (T.setTop (mkF m pc Ls (.int y :: .int x :: st))) := by
  obtain ⟨hd, rfl⟩ := hd
  exact own_via (fun t => iremM X hx rfl hd rfl hy) k
theorem go_ineg (X : Stand p l e R s m args below meth c T locs cells slots) (hx : p.tables.exec = Jvm.exec) {x : Int32} (hd : Dec c.code pc (.ineg) 1 pc') (k : Go p e below En (T.setTop (mkF m pc' Ls (.int (-x) :: st)))) : Go p e below En (T.setTop (mkF m pc Ls (.int x :: st))) := by
  obtain ⟨hd, rfl⟩ := hd
  exact own_via (fun t => XS.ineg X.here hx rfl hd rfl) k
theorem go_ladd (X : Stand p l e R s m args below meth c T locs cells slots) (hx : p.tables.exec = Jvm.exec) {x y : Int64} (hd : Dec c.code pc (.ladd) 1 pc') (k : Go p e below En (T.setTop (mkF m pc' Ls (.long (x + y) :: st)))) : Go p e below En (T.setTop (mkF m pc Ls (.long y :: .long x :: st))) := by
  obtain ⟨hd, rfl⟩ := hd
  exact own_via (fun t => XT.ladd X.here hx rfl hd rfl) k
theorem go_lsub (X : Stand p l e R s m args below meth c T locs cells slots) (hx : p.tables.exec = Jvm.exec) {x y : Int64} (hd : Dec c.code pc (.lsub) 1 pc') (k : Go p e below En (T.setTop (mkF m pc' Ls (.long (x - y) :: st)))) : Go p e below En (T.setTop (mkF m pc Ls (.long y :: .long x :: st))) := by
  obtain ⟨hd, rfl⟩ := hd
  exact own_via (fun t => XT.lsub X.here hx rfl hd rfl) k
theorem go_lmul (X : Stand p l e R s m args below meth c T locs cells slots) (hx : p.tables.exec = Jvm.exec) {x y : Int64} (hd : Dec c.code pc (.lmul) 1 pc') (k : Go p e below En (T.setTop (mkF m pc' Ls (.long (x * y) :: st)))) : Go p e below En (T.setTop (mkF m pc Ls (.long y :: .long x :: st))) := by
  obtain ⟨hd, rfl⟩ := hd
  exact own_via (fun t => XT.lmul X.here hx rfl hd rfl) k
theorem go_land (X : Stand p l e R s m args below meth c T locs cells slots) (hx : p.tables.exec = Jvm.exec) {x y : Int64} (hd : Dec c.code pc (.land) 1 pc') (k : Go p e below En (T.setTop (mkF m pc' Ls (.long (x &&& y) :: st)))) : Go p e below En (T.setTop (mkF m pc Ls (.long y :: .long x :: st))) := by
  obtain ⟨hd, rfl⟩ := hd
  exact own_via (fun t => XT.land X.here hx rfl hd rfl) k
theorem go_lor (X : Stand p l e R s m args below meth c T locs cells slots) (hx : p.tables.exec = Jvm.exec) {x y : Int64} (hd : Dec c.code pc (.lor) 1 pc') (k : Go p e below En (T.setTop (mkF m pc' Ls (.long (x ||| y) :: st)))) : Go p e below En (T.setTop (mkF m pc Ls (.long y :: .long x :: st))) := by
  obtain ⟨hd, rfl⟩ := hd
  exact own_via (fun t => XT.lor X.here hx rfl hd rfl) k
theorem go_lxor (X : Stand p l e R s m args below meth c T locs cells slots) (hx : p.tables.exec = Jvm.exec) {x y : Int64} (hd : Dec c.code pc (.lxor) 1 pc') (k : Go p e below En (T.setTop (mkF m pc' Ls (.long (x ^^^ y) :: st)))) : Go p e below En (T.setTop (mkF m pc Ls (.long y :: .long x :: st))) := by
  obtain ⟨hd, rfl⟩ := hd
  exact own_via (fun t => XT.lxor X.here hx rfl hd rfl) k
theorem go_lshl (X : Stand p l e R s m args below meth c T locs cells slots) (hx : p.tables.exec = Jvm.exec) {x : Int64} {y : Int32} (hd : Dec c.code pc (.lshl) 1 pc') (k : Go p e below En (T.setTop (mkF m pc' Ls (.long (x <<< (y.toInt64 &&& 63)) :: st)))) : Go p e below En (T.setTop (mkF m pc Ls (.int y :: .long x :: st))) := by
  obtain ⟨hd, rfl⟩ := hd
  exact own_via (fun t => XT.lshl X.here hx rfl hd rfl) k
theorem go_lshr (X : Stand p l e R s m args below meth c T locs cells slots) (hx : p.tables.exec = Jvm.exec) {x : Int64} {y : Int32} (hd : Dec c.code pc (.lshr) 1 pc') (k : Go p e below En (T.setTop (mkF m pc' Ls (.long (x >>> (y.toInt64 &&& 63)) :: st)))) : Go p e below En (T.setTop (mkF m pc Ls (.int y :: .long x :: st))) := by
  obtain ⟨hd, rfl⟩ := hd
  exact own_via (fun t => XT.lshr X.here hx rfl hd rfl) k
theorem go_lushr (X : Stand p l e R s m args below meth c T locs cells slots) (hx : p.tables.exec = Jvm.exec) {x : Int64} {y : Int32} (hd : Dec c.code pc (.lushr) 1 pc') (k : Go p e below En (T.setTop (mkF m pc' Ls (.long (XT.ushrL x y) :: st)))) : Go p e below En (T.setTop (mkF m pc Ls (.int y :: .long x :: st))) := by
  obtain ⟨hd, rfl⟩ := hd
  exact own_via (fun t => XT.lushr X.here hx rfl hd rfl) k
theorem go_ldiv (X : Stand p l e R s m args below meth c T locs cells slots) (hx : p.tables.exec = Jvm.exec) {x y : Int64} (hd : Dec c.code pc (.ldiv) 1 pc') (hy : y ≠ 0) (k : Go p e below En (T.setTop (mkF m pc' Ls (.long (x / y) :: st)))) : Go p e below En (T.setTop (mkF m pc Ls (.long y :: .long x :: st))) := by
  obtain ⟨hd, rfl⟩ := hd
  exact own_via (fun t => XT.ldiv X.here hx rfl hd rfl hy) k
theorem go_lrem (X : Stand p l e R s m args below meth c T locs cells slots) (hx : p.tables.exec = Jvm.exec) {x y : Int64} (hd : Dec c.code pc (.lrem) 1 pc') (hy : y ≠ 0) (k : Go p e below En (T.setTop (mkF m pc' Ls (.long (x - (x / y) * y) :: st)))) : Go p e below En (T.setTop (mkF m pc Ls (.long y :: .long x :: st))) := by
  obtain ⟨hd, rfl⟩ := hd
  exact own_via (fun t => XT.lrem X.here hx rfl hd rfl hy) k
theorem go_lneg (X : Stand p l e R s m args below meth c T locs cells slots) (hx : p.tables.exec = Jvm.exec) {x : Int64} (hd : Dec c.code pc (.lneg) 1 pc') (k : Go p e below En (T.setTop (mkF m pc' Ls (.long (-x) :: st)))) : Go p e below En (T.setTop (mkF m pc Ls (.long x :: st))) := by
  obtain ⟨hd, rfl⟩ := hd
  exact own_via (fun t => XT.lneg X.here hx rfl hd rfl) k
theorem go_lcmp (X : Stand p l e R s m args below meth c T locs cells slots) (hx : p.tables.exec = Jvm.exec) {x y : Int64} (hd : Dec c.code pc (.lcmp) 1 pc') (k : Go p e below En (T.setTop (mkF m pc' Ls (.int (XT.cmpL x y) :: st)))) : Go p e below En (T.setTop (mkF m pc Ls (.long y :: .long x :: st))) := by
  obtain ⟨hd, rfl⟩ := hd
  exact own_via (fun t => XT.lcmp X.here hx rfl hd rfl) k
theorem go_i2l (X : Stand p l e R s m args below meth c T locs cells slots) (hx : p.tables.exec = Jvm.exec) {x : Int32} (hd : Dec c.code pc (.i2l) 1 pc') (k : Go p e below En (T.setTop (mkF m pc' Ls (.long x.toInt64 :: st)))) : Go p e below En (T.setTop (mkF m pc Ls (.int x :: st))) := by
  obtain ⟨hd, rfl⟩ := hd
  exact own_via (fun t => XT.i2l X.here hx rfl hd rfl) k
theorem go_l2i (X : Stand p l e R s m args below meth c T locs cells slots) (hx : p.tables.exec = Jvm.exec) {x : Int64} (hd : Dec c.code pc (.l2i) 1 pc') (k : Go p e below En (T.setTop (mkF m pc' Ls (.int x.toInt32 :: st)))) : Go p e below En (T.setTop (mkF m pc Ls (.long x :: st))) := by
  obtain ⟨hd, rfl⟩ := hd
  exact own_via (fun t => XT.l2i X.here hx rfl hd rfl) k
theorem go_i2b (X : Stand p l e R s m args below meth c T locs cells slots) (hx : p.tables.exec = Jvm.exec) {x : Int32} (hd : Dec c.code pc (.i2b) 1 pc') (k : Go p e below En (T.setTop (mkF m pc' Ls (.int x.toInt8.toInt32 :: st)))) : Go p e below En (T.setTop (mkF m pc Ls (.int x :: st))) := by
  obtain ⟨hd, rfl⟩ := hd
  exact own_via (fun t => XT.i2b X.here hx rfl hd rfl) k
theorem go_i2c (X : Stand p l e R s m args below meth c T locs cells slots) (hx : p.tables.exec = Jvm.exec) {x : Int32} (hd : Dec c.code pc (.i2c) 1 pc') (k : Go p e below En (T.setTop (mkF m pc' Ls (.int x.toUInt32.toUInt16.toUInt32.toInt32 :: st)))) : Go p e below En (T.setTop (mkF m pc Ls (.int x :: st))) := by
  obtain ⟨hd, rfl⟩ := hd
  exact own_via (fun t => XT.i2c X.here hx rfl hd rfl) k
theorem go_i2s (X : Stand p l e R s m args below meth c T locs cells slots) (hx : p.tables.exec = Jvm.exec) {x : Int32} (hd : Dec c.code pc (.i2s) 1 pc') (k : Go p e below En (T.setTop (mkF m pc' Ls (.int x.toInt16.toInt32 :: st)))) : Go p e below En (T.setTop (mkF m pc Ls (.int x :: st))) := by
  obtain ⟨hd, rfl⟩ := hd
  exact own_via (fun t => XT.i2s X.here hx rfl hd rfl) k
theorem go_iloadn (X : Stand p l e R s m args below meth c T locs cells slots) (hx : p.tables.exec = Jvm.exec) {k : Fin 4} {v : Int32} (hd : Dec c.code pc (.iload_n k) 1 pc') (hl : Ls[k.val]? = some (.val (.int v))) (k : Go p e below En (T.setTop (mkF m pc' Ls (.int v :: st)))) : Go p e below En (T.setTop (mkF m pc Ls st)) := by
  obtain ⟨hd, rfl⟩ := hd
  exact own_via (fun t => XS.iloadN X.here hx rfl hd hl) k
theorem go_iload (X : Stand p l e R s m args below meth c T locs cells slots) (hx : p.tables.exec = Jvm.exec) {k : Nat} {v : Int32} (hd : Dec c.code pc (.iload k) 2 pc') (hl : Ls[k]? = some (.val (.int v))) (k : Go p e below En (T.setTop (mkF m pc' Ls (.int v :: st)))) : Go p e below En (T.setTop (mkF m pc Ls st)) := by
  obtain ⟨hd, rfl⟩ := hd
  exact own_via (fun t => XS.iload X.here hx rfl hd hl) k
theorem go_lloadn (X : Stand p l e R s m args below meth c T locs cells slots) (hx : p.tables.exec = Jvm.exec) {k : Fin 4} {v : Int64} (hd : Dec c.code pc (.lload_n k) 1 pc') (hl : Ls[k.val]? = some (.val (.long v))) (k : Go p e below En (T.setTop (mkF m pc' Ls (.long v :: st)))) : Go p e below En (T.setTop (mkF m pc Ls st)) := by
  obtain ⟨hd, rfl⟩ := hd
  exact own_via (fun t => XT.lloadN X.here hx rfl hd hl) k
theorem go_lload (X : Stand p l e R s m args below meth c T locs cells slots) (hx : p.tables.exec = Jvm.exec) {k : Nat} {v : Int64} (hd : Dec c.code pc (.lload k) 2 pc') (hl : Ls[k]? = some (.val (.long v))) (k : Go p e below En (T.setTop (mkF m pc' Ls (.long v :: st)))) : Go p e below En (T.setTop (mkF m pc Ls st)) := by
  obtain ⟨hd, rfl⟩ := hd
  exact own_via (fun t => XT.lload X.here hx rfl hd hl) k
theorem go_aloadn (X : Stand p l e R s m args below meth c T locs cells slots) (hx : p.tables.exec = Jvm.exec) {k : Fin 4} {v : Value} (hd : Dec c.code pc (.aload_n k) 1 pc') (hl : Ls[k.val]? = some (.val v)) (hv : v.isRef = true) (k : Go p e below En (T.setTop (mkF m pc' Ls (v :: st)))) : Go p e below En (T.setTop (mkF m pc Ls st)) := by
  obtain ⟨hd, rfl⟩ := hd
  exact own_via (fun t => XS.aloadN X.here hx rfl hd hl hv) k
theorem go_aload (X : Stand p l e R s m args below meth c T locs cells slots) (hx : p.tables.exec = Jvm.exec) {k : Nat} {v : Value} (hd : Dec c.code pc (.aload k) 2 pc') (hl : Ls[k]? = some (.val v)) (hv : v.isRef = true) (k : Go p e below En (T.setTop (mkF m pc' Ls (v :: st)))) : Go p e below En (T.setTop (mkF m pc Ls st)) := by
  obtain ⟨hd, rfl⟩ := hd
  exact own_via (fun t => XS.aload X.here hx rfl hd hl hv) k
theorem go_istoren (X : Stand p l e R s m args below meth c T locs cells slots) (hx : p.tables.exec = Jvm.exec) {k : Fin 4} {x : Int32} (Ls' : Array Slot) (hd : Dec c.code pc (.istore_n k) 1 pc') (hl : storeLocals Ls k.val (.int x) = some Ls') (k : Go p e below En (T.setTop (mkF m pc' Ls' st))) : Go p e below En (T.setTop (mkF m pc Ls (.int x :: st))) := by
  obtain ⟨hd, rfl⟩ := hd
  exact own_via (fun t => XS.istoreN X.here hx rfl hd rfl hl) k
theorem go_istore (X : Stand p l e R s m args below meth c T locs cells slots) (hx : p.tables.exec = Jvm.exec) {k : Nat} {x : Int32} (Ls' : Array Slot) (hd : Dec c.code pc (.istore k) 2 pc') (hl : storeLocals Ls k (.int x) = some Ls') (k : Go p e below En (T.setTop (mkF m pc' Ls' st))) : Go p e below En (T.setTop (mkF m pc Ls (.int x :: st))) := by
  obtain ⟨hd, rfl⟩ := hd
  exact own_via (fun t => XS.istore X.here hx rfl hd rfl hl) k
theorem go_lstoren (X : Stand p l e R s m args below meth c T locs cells slots) (hx : p.tables.exec = Jvm.exec) {k : Fin 4} {x : Int64} (Ls' : Array Slot) (hd : Dec c.code pc (.lstore_n k) 1 pc') (hl : storeLocals Ls k.val (.long x) = some Ls') (k : Go p e below En (T.setTop (mkF m pc' Ls' st))) : Go p e below En (T.setTop (mkF m pc Ls (.long x :: st))) := by
  obtain ⟨hd, rfl⟩ := hd
  exact own_via (fun t => XT.lstoreN X.here hx rfl hd rfl hl) k
theorem go_lstore (X : Stand p l e R s m args below meth c T locs cells slots) (hx : p.tables.exec = Jvm.exec) {k : Nat} {x : Int64} (Ls' : Array Slot) (hd : Dec c.code pc (.lstore k) 2 pc') (hl : storeLocals Ls k (.long x) = some Ls') (k : Go p e below En (T.setTop (mkF m pc' Ls' st))) : Go p e below En (T.setTop (mkF m pc Ls (.long x :: st))) := by
  obtain ⟨hd, rfl⟩ := hd
  exact own_via (fun t => XT.lstore X.here hx rfl hd rfl hl) k
theorem go_astoren (X : Stand p l e R s m args below meth c T locs cells slots) (hx : p.tables.exec = Jvm.exec) {k : Fin 4} {x : Value} (Ls' : Array Slot) (hd : Dec c.code pc (.astore_n k) 1 pc') (hv : x.isRef = true) (hl : storeLocals Ls k.val (x) = some Ls') (k : Go p e below En (T.setTop (mkF m pc' Ls' st))) : Go p e below En (T.setTop (mkF m pc Ls (x :: st))) := by
  obtain ⟨hd, rfl⟩ := hd
  exact own_via (fun t => XS.astoreN X.here hx rfl hd rfl hv hl) k
theorem go_astore (X : Stand p l e R s m args below meth c T locs cells slots) (hx : p.tables.exec = Jvm.exec) {k : Nat} {x : Value} (Ls' : Array Slot) (hd : Dec c.code pc (.astore k) 2 pc') (hv : x.isRef = true) (hl : storeLocals Ls k (x) = some Ls') (k : Go p e below En (T.setTop (mkF m pc' Ls' st))) : Go p e below En (T.setTop (mkF m pc Ls (x :: st))) := by
  obtain ⟨hd, rfl⟩ := hd
  exact own_via (fun t => XS.astore X.here hx rfl hd rfl hv hl) k
theorem go_iconst (X : Stand p l e R s m args below meth c T locs cells slots) (hx : p.tables.exec = Jvm.exec) {i : Int} (v : Int32) (hd : Dec c.code pc (.iconst i) 1 pc') (hv : Int32.ofInt i = v) (k : Go p e below En (T.setTop (mkF m pc' Ls (.int v :: st)))) : Go p e below En (T.setTop (mkF m pc Ls st)) := by
  obtain ⟨hd, rfl⟩ := hd
  exact own_via (fun t => (fun q => XS.iconst X.here hx rfl hd (by rw [hv]; exact q))) k
theorem go_bipush (X : Stand p l e R s m args below meth c T locs cells slots) (hx : p.tables.exec = Jvm.exec) {i : Int} (v : Int32) (hd : Dec c.code pc (.bipush i) 2 pc') (hv : (Int8.ofInt i).toInt32 = v) (k : Go p e below En (T.setTop (mkF m pc' Ls (.int v :: st)))) : Go p e below En (T.setTop (mkF m pc Ls st)) := by
  obtain ⟨hd, rfl⟩ := hd
  exact own_via (fun t => (fun q => XS.bipush X.here hx rfl hd (by rw [hv]; exact q))) k
theorem go_sipush (X : Stand p l e R s m args below meth c T locs cells slots) (hx : p.tables.exec = Jvm.exec) {i : Int} (v : Int32) (hd : Dec c.code pc (.sipush i) 3 pc') (hv : (Int16.ofInt i).toInt32 = v) (k : Go p e below En (T.setTop (mkF m pc' Ls (.int v :: st)))) : Go p e below En (T.setTop (mkF m pc Ls st)) := by
  obtain ⟨hd, rfl⟩ := hd
  exact own_via (fun t => (fun q => XS.sipush X.here hx rfl hd (by rw [hv]; exact q))) k
theorem go_lconst (X : Stand p l e R s m args below meth c T locs cells slots) (hx : p.tables.exec = Jvm.exec) {k : Fin 2} (v : Int64) (hd : Dec c.code pc (.lconst k) 1 pc') (hv : Int64.ofNat k = v) (k : Go p e below En (T.setTop (mkF m pc' Ls (.long v :: st)))) : Go p e below En (T.setTop (mkF m pc Ls st)) := by
  obtain ⟨hd, rfl⟩ := hd
  exact own_via (fun t => (fun q => XT.lconst X.here hx rfl hd (by rw [hv]; exact q))) k
theorem go_aconstnull (X : Stand p l e R s m args below meth c T locs cells slots) (hx : p.tables.exec = Jvm.exec)  (hd : Dec c.code pc (.aconst_null) 1 pc') (k : Go p e below En (T.setTop (mkF m pc' Ls (.null :: st)))) : Go p e below En (T.setTop (mkF m pc Ls st)) := by
  obtain ⟨hd, rfl⟩ := hd
  exact own_via (fun t => XS.aconstNull X.here hx rfl hd) k
theorem go_ldc (X : Stand p l e R s m args below meth c T locs cells slots) (hx : p.tables.exec = Jvm.exec) (hZ : Z.Warmed39 s.vm) {own : String} {index : Nat} {v : Int32} (hown : s.vm.findClass own = some m.cls) (w : (Jvm.Cond.constant own index v).before a0 Z = true) (hd : Dec c.code pc (.ldc index) 2 pc') (k : Go p e below En (T.setTop (mkF m pc' Ls (.int v :: st)))) : Go p e below En (T.setTop (mkF m pc Ls st)) := by
  obtain ⟨hd, rfl⟩ := hd
  exact own_via (fun t => X.ldcInt hx hown (mv hZ w) (g := mkF m pc Ls st) rfl hd t) k
theorem go_ldc2 (X : Stand p l e R s m args below meth c T locs cells slots) (hx : p.tables.exec = Jvm.exec) (hZ : Z.Warmed39 s.vm) {own : String} {index : Nat} {v : Int64} (hown : s.vm.findClass own = some m.cls) (w : (Jvm.Cond.constantLong own index v).before a0 Z = true) (hd : Dec c.code pc (.ldc2_w index) 3 pc') (k : Go p e below En (T.setTop (mkF m pc' Ls (.long v :: st)))) : Go p e below En (T.setTop (mkF m pc Ls st)) := by
  obtain ⟨hd, rfl⟩ := hd
  exact own_via (fun t => X.ldc2Long hx hown (mv hZ w) (g := mkF m pc Ls st) rfl hd t) k
theorem go_dup (X : Stand p l e R s m args below meth c T locs cells slots) (hx : p.tables.exec = Jvm.exec) {v : Value} (hd : Dec c.code pc (.dup) 1 pc') (hc : v.category = 1) (k : Go p e below En (T.setTop (mkF m pc' Ls (v :: v :: st)))) : Go p e below En (T.setTop (mkF m pc Ls (v :: st))) := by
  obtain ⟨hd, rfl⟩ := hd
  exact own_via (fun t => XS.dup X.here hx rfl hd rfl hc) k
theorem go_pop (X : Stand p l e R s m args below meth c T locs cells slots) (hx : p.tables.exec = Jvm.exec) {v : Value} (hd : Dec c.code pc (.pop) 1 pc') (hc : v.category = 1) (k : Go p e below En (T.setTop (mkF m pc' Ls st))) : Go p e below En (T.setTop (mkF m pc Ls (v :: st))) := by
  obtain ⟨hd, rfl⟩ := hd
  exact own_via (fun t => XT.pop X.here hx rfl hd rfl hc) k
theorem go_dupx1 (X : Stand p l e R s m args below meth c T locs cells slots) (hx : p.tables.exec = Jvm.exec) {v v' : Value} (hd : Dec c.code pc (.dup_x1) 1 pc') (hc : v.category = 1) (hc' : v'.category = 1) (k : Go p e below En (T.setTop (mkF m pc' Ls (v :: v' :: v :: st)))) : Go p e below En (T.setTop (mkF m pc Ls (v :: v' :: st))) := by
  obtain ⟨hd, rfl⟩ := hd
  exact own_via (fun t => XT.dupX1 X.here hx rfl hd rfl hc hc') k
theorem go_dup2L (X : Stand p l e R s m args below meth c T locs cells slots) (hx : p.tables.exec = Jvm.exec) {x : Int64} (hd : Dec c.code pc (.dup2) 1 pc') (k : Go p e below En (T.setTop (mkF m pc' Ls (.long x :: .long x :: st)))) : Go p e below En (T.setTop (mkF m pc Ls (.long x :: st))) := by
  obtain ⟨hd, rfl⟩ := hd
  exact own_via (fun t => XT.dup2L X.here hx rfl hd rfl) k
theorem go_dup2 (X : Stand p l e R s m args below meth c T locs cells slots) (hx : p.tables.exec = Jvm.exec) {v v' : Value} (hd : Dec c.code pc (.dup2) 1 pc') (hc : v.category = 1) (hc' : v'.category = 1) (k : Go p e below En (T.setTop (mkF m pc' Ls (v :: v' :: v :: v' :: st)))) : Go p e below En (T.setTop (mkF m pc Ls (v :: v' :: st))) := by
  obtain ⟨hd, rfl⟩ := hd
  exact own_via (fun t => XT.dup2 X.here hx rfl hd rfl hc hc') k
theorem go_iinc (X : Stand p l e R s m args below meth c T locs cells slots) (hx : p.tables.exec = Jvm.exec) {k : Nat} {cst : Int} {x : Int32} (Ls' : Array Slot) (hd : Dec c.code pc (.iinc k cst) 3 pc') (hl : Ls[k]? = some (.val (.int x))) (hl' : storeLocals Ls k (.int (x + Int32.ofInt cst)) = some Ls') (k : Go p e below En (T.setTop (mkF m pc' Ls' st))) : Go p e below En (T.setTop (mkF m pc Ls st)) := by
  obtain ⟨hd, rfl⟩ := hd
  exact own_via (fun t => XS.iinc X.here hx rfl hd hl hl') k
theorem go_goto (X : Stand p l e R s m args below meth c T locs cells slots) (hx : p.tables.exec = Jvm.exec) {o : Int} (hd : DecB c.code pc (.goto o) o pc' pt) (k : Go p e below En (T.setTop (mkF m pt Ls st))) : Go p e below En (T.setTop (mkF m pc Ls st)) := own_via (fun t => XS.goto X.here hx rfl rfl hd.1 hd.2.2.1 hd.2.2.2) k
theorem go_icmp (X : Stand p l e R s m args below meth c T locs cells slots) (hx : p.tables.exec = Jvm.exec) {cd : ClassFile.Cond} {x y : Int32} {o : Int} (hd : DecB c.code pc (.if_icmp cd o) o pc' pt) (kT : if_icmp.holds cd x y = true → Go p e below En (T.setTop (mkF m pt Ls st))) (kF : if_icmp.holds cd x y = false → Go p e below En (T.setTop (mkF m pc' Ls st))) : Go p e below En (T.setTop (mkF m pc Ls (.int y :: .int x :: st))) := by
  obtain ⟨h1, rfl, h3, h4⟩ := hd
  cases q : if_icmp.holds cd x y
  · exact own_via (fun t => XS.icmpNo X.here hx rfl h1 rfl q) (kF q)
  · exact own_via (fun t => XS.icmpYes X.here hx rfl rfl h1 rfl q h3 h4) (kT q)
theorem go_ifc (X : Stand p l e R s m args below meth c T locs cells slots) (hx : p.tables.exec = Jvm.exec) {cd : ClassFile.Cond} {x : Int32} {o : Int} (hd : DecB c.code pc (.ifCond cd o) o pc' pt) (kT : if_icmp.holds cd x 0 = true → Go p e below En (T.setTop (mkF m pt Ls st))) (kF : if_icmp.holds cd x 0 = false → Go p e below En (T.setTop (mkF m pc' Ls st))) : Go p e below En (T.setTop (mkF m pc Ls (.int x :: st))) := by
  obtain ⟨h1, rfl, h3, h4⟩ := hd
  cases q : if_icmp.holds cd x 0
  · exact own_via (fun t => XS.ifNo X.here hx rfl h1 rfl ((if0 cd x).trans q)) (kF q)
  · exact own_via (fun t => XS.ifYes X.here hx rfl rfl h1 rfl ((if0 cd x).trans q) h3 h4) (kT q)
theorem go_icmp_eq (X : Stand p l e R s m args below meth c T locs cells slots) (hx : p.tables.exec = Jvm.exec) {x y : Int32} {o : Int} (hd : DecB c.code pc (.if_icmp .eq o) o pc' pt) (kT : x = y → Go p e below En (T.setTop (mkF m pt Ls st))) (kF : ¬ x = y → Go p e below En (T.setTop (mkF m pc' Ls st))) : Go p e below En (T.setTop (mkF m pc Ls (.int y :: .int x :: st))) := by
  by_cases q : x = y
  · exact go_icmp X hx hd (fun _ => kT q) (fun r => absurd r (by rw [(teq q).1]; decide))
  · exact go_icmp X hx hd (fun r => absurd r (by rw [(feq q).1]; decide)) (fun _ => kF q)
theorem go_ifc_eq (X : Stand p l e R s m args below meth c T locs cells slots) (hx : p.tables.exec = Jvm.exec) {x : Int32} {o : Int} (hd : DecB c.code pc (.ifCond .eq o) o pc' pt) (kT : x = 0 → Go p e below En (T.setTop (mkF m pt Ls st))) (kF : ¬ x = 0 → Go p e below En (T.setTop (mkF m pc' Ls st))) : Go p e below En (T.setTop (mkF m pc Ls (.int x :: st))) := by
  by_cases q : x = 0
  · exact go_ifc X hx hd (fun _ => kT q) (fun r => absurd r (by rw [(teq q).1]; decide))
  · exact go_ifc X hx hd (fun r => absurd r (by rw [(feq q).1]; decide)) (fun _ => kF q)
theorem go_icmp_ne (X : Stand p l e R s m args below meth c T locs cells slots) (hx : p.tables.exec = Jvm.exec) {x y : Int32} {o : Int} (hd : DecB c.code pc (.if_icmp .ne o) o pc' pt) (kT : ¬ x = y → Go p e below En (T.setTop (mkF m pt Ls st))) (kF : x = y → Go p e below En (T.setTop (mkF m pc' Ls st))) : Go p e below En (T.setTop (mkF m pc Ls (.int y :: .int x :: st))) := by
  by_cases q : x = y
  · exact go_icmp X hx hd (fun r => absurd r (by rw [(teq q).2]; decide)) (fun _ => kF q)
  · exact go_icmp X hx hd (fun _ => kT q) (fun r => absurd r (by rw [(feq q).2]; decide))
theorem go_ifc_ne (X : Stand p l e R s m args below meth c T locs cells slots) (hx : p.tables.exec = Jvm.exec) {x : Int32} {o : Int} (hd : DecB c.code pc (.ifCond .ne o) o pc' pt) (kT : ¬ x = 0 → Go p e below En (T.setTop (mkF m pt Ls st))) (kF : x = 0 → Go p e below En (T.setTop (mkF m pc' Ls st))) : Go p e below En (T.setTop (mkF m pc Ls (.int x :: st))) := by
  by_cases q : x = 0
  · exact go_ifc X hx hd (fun r => absurd r (by rw [(teq q).2]; decide)) (fun _ => kF q)
  · exact go_ifc X hx hd (fun _ => kT q) (fun r => absurd r (by rw [(feq q).2]; decide))
theorem go_icmp_lt (X : Stand p l e R s m args below meth c T locs cells slots) (hx : p.tables.exec = Jvm.exec) {x y : Int32} {o : Int} (hd : DecB c.code pc (.if_icmp .lt o) o pc' pt) (kT : x < y → Go p e below En (T.setTop (mkF m pt Ls st))) (kF : ¬ x < y → Go p e below En (T.setTop (mkF m pc' Ls st))) : Go p e below En (T.setTop (mkF m pc Ls (.int y :: .int x :: st))) := by
  by_cases q : x < y
  · exact go_icmp X hx hd (fun _ => kT q) (fun r => absurd r (by rw [(tlt q).1]; decide))
  · exact go_icmp X hx hd (fun r => absurd r (by rw [(flt q).1]; decide)) (fun _ => kF q)
theorem go_ifc_lt (X : Stand p l e R s m args below meth c T locs cells slots) (hx : p.tables.exec = Jvm.exec) {x : Int32} {o : Int} (hd : DecB c.code pc (.ifCond .lt o) o pc' pt) (kT : x < 0 → Go p e below En (T.setTop (mkF m pt Ls st))) (kF : ¬ x < 0 → Go p e below En (T.setTop (mkF m pc' Ls st))) : Go p e below En (T.setTop (mkF m pc Ls (.int x :: st))) := by
  by_cases q : x < 0
  · exact go_ifc X hx hd (fun _ => kT q) (fun r => absurd r (by rw [(tlt q).1]; decide))
  · exact go_ifc X hx hd (fun r => absurd r (by rw [(flt q).1]; decide)) (fun _ => kF q)
theorem go_icmp_ge (X : Stand p l e R s m args below meth c T locs cells slots) (hx : p.tables.exec = Jvm.exec) {x y : Int32} {o : Int} (hd : DecB c.code pc (.if_icmp .ge o) o pc' pt) (kT : ¬ x < y → Go p e below En (T.setTop (mkF m pt Ls st))) (kF : x < y → Go p e below En (T.setTop (mkF m pc' Ls st))) : Go p e below En (T.setTop (mkF m pc Ls (.int y :: .int x :: st))) := by
  by_cases q : x < y
  · exact go_icmp X hx hd (fun r => absurd r (by rw [(tlt q).2.1]; decide)) (fun _ => kF q)
  · exact go_icmp X hx hd (fun _ => kT q) (fun r => absurd r (by rw [(flt q).2.1]; decide))
theorem go_ifc_ge (X : Stand p l e R s m args below meth c T locs cells slots) (hx : p.tables.exec = Jvm.exec) {x : Int32} {o : Int} (hd : DecB c.code pc (.ifCond .ge o) o pc' pt) (kT : ¬ x < 0 → Go p e below En (T.setTop (mkF m pt Ls st))) (kF : x < 0 → Go p e below En (T.setTop (mkF m pc' Ls st))) : Go p e below En (T.setTop (mkF m pc Ls (.int x :: st))) := by
  by_cases q : x < 0
  · exact go_ifc X hx hd (fun r => absurd r (by rw [(tlt q).2.1]; decide)) (fun _ => kF q)
  · exact go_ifc X hx hd (fun _ => kT q) (fun r => absurd r (by rw [(flt q).2.1]; decide))
theorem go_icmp_gt (X : Stand p l e R s m args below meth c T locs cells slots) (hx : p.tables.exec = Jvm.exec) {x y : Int32} {o : Int} (hd : DecB c.code pc (.if_icmp .gt o) o pc' pt) (kT : y < x → Go p e below En (T.setTop (mkF m pt Ls st))) (kF : ¬ y < x → Go p e below En (T.setTop (mkF m pc' Ls st))) : Go p e below En (T.setTop (mkF m pc Ls (.int y :: .int x :: st))) := by
  by_cases q : y < x
  · exact go_icmp X hx hd (fun _ => kT q) (fun r => absurd r (by rw [(tlt q).2.2.1]; decide))
  · exact go_icmp X hx hd (fun r => absurd r (by rw [(flt q).2.2.1]; decide)) (fun _ => kF q)
theorem go_ifc_gt (X : Stand p l e R s m args below meth c T locs cells slots) (hx : p.tables.exec = Jvm.exec) {x : Int32} {o : Int} (hd : DecB c.code pc (.ifCond .gt o) o pc' pt) (kT : 0 < x → Go p e below En (T.setTop (mkF m pt Ls st))) (kF : ¬ 0 < x → Go p e below En (T.setTop (mkF m pc' Ls st))) : Go p e below En (T.setTop (mkF m pc Ls (.int x :: st))) := by
  by_cases q : 0 < x
  · exact go_ifc X hx hd (fun _ => kT q) (fun r => absurd r (by rw [(tlt q).2.2.1]; decide))
  · exact go_ifc X hx hd (fun r => absurd r (by rw [(flt q).2.2.1]; decide)) (fun _ => kF q)
theorem go_icmp_le (X : Stand p l e R s m args below meth c T locs cells slots) (hx : p.tables.exec = Jvm.exec) {x y : Int32} {o : Int} (hd : DecB c.code pc (.if_icmp .le o) o pc' pt) (kT : ¬ y < x → Go p e below En (T.setTop (mkF m pt Ls st))) (kF : y < x → Go p e below En (T.setTop (mkF m pc' Ls st))) : Go p e below En (T.setTop (mkF m pc Ls (.int y :: .int x :: st))) := by
  by_cases q : y < x
  · exact go_icmp X hx hd (fun r => absurd r (by rw [(tlt q).2.2.2]; decide)) (fun _ => kF q)
  · exact go_icmp X hx hd (fun _ => kT q) (fun r => absurd r (by rw [(flt q).2.2.2]; decide))
theorem go_ifc_le (X : Stand p l e R s m args below meth c T locs cells slots) (hx : p.tables.exec = Jvm.exec) {x : Int32} {o : Int} (hd : DecB c.code pc (.ifCond .le o) o pc' pt) (kT : ¬ 0 < x → Go p e below En (T.setTop (mkF m pt Ls st))) (kF : 0 < x → Go p e below En (T.setTop (mkF m pc' Ls st))) : Go p e below En (T.setTop (mkF m pc Ls (.int x :: st))) := by
  by_cases q : 0 < x
  · exact go_ifc X hx hd (fun r => absurd r (by rw [(tlt q).2.2.2]; decide)) (fun _ => kF q)
  · exact go_ifc X hx hd (fun _ => kT q) (fun r => absurd r (by rw [(flt q).2.2.2]; decide))
theorem go_ifnullY (X : Stand p l e R s m args below meth c T locs cells slots) (hx : p.tables.exec = Jvm.exec) {o : Int} (hd : DecB c.code pc (.ifnull o) o pc' pt) (k : Go p e below En (T.setTop (mkF m pt Ls st))) : Go p e below En (T.setTop (mkF m pc Ls (.null :: st))) := own_via (fun t => XS.ifnullYes X.here hx rfl rfl hd.1 rfl hd.2.2.1 hd.2.2.2) k
theorem go_ifnullN (X : Stand p l e R s m args below meth c T locs cells slots) (hx : p.tables.exec = Jvm.exec) {o : Int} {a : Addr} (hd : DecB c.code pc (.ifnull o) o pc' pt) (k : Go p e below En (T.setTop (mkF m pc' Ls st))) : Go p e below En (T.setTop (mkF m pc Ls (.ref a :: st))) := by
  obtain ⟨h1, rfl, h3, h4⟩ := hd
  exact own_via (fun t => XS.ifnullNo X.here hx rfl h1 rfl) k
theorem go_ifnonnullY (X : Stand p l e R s m args below meth c T locs cells slots) (hx : p.tables.exec = Jvm.exec) {o : Int} {a : Addr} (hd : DecB c.code pc (.ifnonnull o) o pc' pt) (k : Go p e below En (T.setTop (mkF m pt Ls st))) : Go p e below En (T.setTop (mkF m pc Ls (.ref a :: st))) := own_via (fun t => XT.ifnonnullYes X.here hx rfl rfl hd.1 rfl hd.2.2.1 hd.2.2.2) k
theorem go_ifnonnullN (X : Stand p l e R s m args below meth c T locs cells slots) (hx : p.tables.exec = Jvm.exec) {o : Int} (hd : DecB c.code pc (.ifnonnull o) o pc' pt) (k : Go p e below En (T.setTop (mkF m pc' Ls st))) : Go p e below En (T.setTop (mkF m pc Ls (.null :: st))) := by
  obtain ⟨h1, rfl, h3, h4⟩ := hd
  exact own_via (fun t => XT.ifnonnullNo X.here hx rfl h1 rfl) k
theorem go_acmp_eq (X : Stand p l e R s m args below meth c T locs cells slots) (hx : p.tables.exec = Jvm.exec) {x y : Value} (hx' : x.isRef = true) (hy' : y.isRef = true) {o : Int} (hd : DecB c.code pc (.if_acmp .eq o) o pc' pt) (kT : x = y → Go p e below En (T.setTop (mkF m pt Ls st))) (kF : ¬ x = y → Go p e below En (T.setTop (mkF m pc' Ls st))) : Go p e below En (T.setTop (mkF m pc Ls (y :: x :: st))) := by
  obtain ⟨h1, rfl, h3, h4⟩ := hd
  by_cases q : x = y
  · exact own_via (fun t => XT.acmpYes X.here hx rfl rfl h1 rfl hx' hy' (by simp [XT.acmp, q]) h3 h4) (kT q)
  · exact own_via (fun t => XT.acmpNo X.here hx rfl h1 rfl hx' hy' (by simp [XT.acmp, q])) (kF q)
theorem go_acmp_ne (X : Stand p l e R s m args below meth c T locs cells slots) (hx : p.tables.exec = Jvm.exec) {x y : Value} (hx' : x.isRef = true) (hy' : y.isRef = true) {o : Int} (hd : DecB c.code pc (.if_acmp .ne o) o pc' pt) (kT : ¬ x = y → Go p e below En (T.setTop (mkF m pt Ls st))) (kF : x = y → Go p e below En (T.setTop (mkF m pc' Ls st))) : Go p e below En (T.setTop (mkF m pc Ls (y :: x :: st))) := by
  obtain ⟨h1, rfl, h3, h4⟩ := hd
  by_cases q : x = y
  · exact own_via (fun t => XT.acmpNo X.here hx rfl h1 rfl hx' hy' (by simp [XT.acmp, q])) (kF q)
  · exact own_via (fun t => XT.acmpYes X.here hx rfl rfl h1 rfl hx' hy' (by simp [XT.acmp, q]) h3 h4) (kT q)
theorem go_retN (X : Stand p l e R s m args below meth c T locs cells slots) (hx : p.tables.exec = Jvm.exec) {z : Int32} {t : FieldType} (hret : meth.sig.returnType = some t) (ht : t = .boolean ∨ t = .byte ∨ t = .char ∨ t = .short) (hd : Dec c.code pc .ireturn 1 pc') (hk : meth.locks = false) (hc : cells ≤ rc) (hs : slots ≤ rs) (hQ : Q (some (.int (nar t z))) T.heap locs) : Go p e below (EndN s Q rc rs) (T.setTop (mkF m pc Ls (.int z :: st))) := by
  obtain ⟨fs, hr, hrun, hended, hW, hsame⟩ := X.leave (v := (some (.int (nar t z)))) (fun q => by first | rfl | (rw [hret] at q; cases q)) hk
  exact ⟨_, _, retN X hx hret ht hd.1 hr, hrun, hended, _, _, rfl, hQ, ⟨_, rfl⟩, hW, hsame.mono hc hs⟩
theorem go_retI (X : Stand p l e R s m args below meth c T locs cells slots) (hx : p.tables.exec = Jvm.exec) {z : Int32} (hret : meth.sig.returnType = some .int) (hd : Dec c.code pc .ireturn 1 pc') (hk : meth.locks = false) (hc : cells ≤ rc) (hs : slots ≤ rs) (hQ : Q (some (.int z)) T.heap locs) : Go p e below (EndN s Q rc rs) (T.setTop (mkF m pc Ls (.int z :: st))) := by
  obtain ⟨fs, hr, hrun, hended, hW, hsame⟩ := X.leave (v := (some (.int z))) (fun q => by first | rfl | (rw [hret] at q; cases q)) hk
  exact ⟨_, _, retOut X hx hret rfl (Or.inl ⟨rfl, Or.inl rfl, _, rfl⟩) hd.1 hr, hrun, hended, _, _, rfl, hQ, ⟨_, rfl⟩, hW, hsame.mono hc hs⟩
theorem go_retJ (X : Stand p l e R s m args below meth c T locs cells slots) (hx : p.tables.exec = Jvm.exec) {z : Int64} (hret : meth.sig.returnType = some .long) (hd : Dec c.code pc .lreturn 1 pc') (hk : meth.locks = false) (hc : cells ≤ rc) (hs : slots ≤ rs) (hQ : Q (some (.long z)) T.heap locs) : Go p e below (EndN s Q rc rs) (T.setTop (mkF m pc Ls (.long z :: st))) := by
  obtain ⟨fs, hr, hrun, hended, hW, hsame⟩ := X.leave (v := (some (.long z))) (fun q => by first | rfl | (rw [hret] at q; cases q)) hk
  exact ⟨_, _, retOut X hx hret rfl (Or.inr (Or.inl ⟨rfl, rfl, _, rfl⟩)) hd.1 hr, hrun, hended, _, _, rfl, hQ, ⟨_, rfl⟩, hW, hsame.mono hc hs⟩
theorem go_retA (X : Stand p l e R s m args below meth c T locs cells slots) (hx : p.tables.exec = Jvm.exec) {v : Value} {t : FieldType} (hret : meth.sig.returnType = some t) (ht : t.isReference = true) (hv : v.isRef = true) (hd : Dec c.code pc .areturn 1 pc') (hk : meth.locks = false) (hc : cells ≤ rc) (hs : slots ≤ rs) (hQ : Q (some v) T.heap locs) : Go p e below (EndN s Q rc rs) (T.setTop (mkF m pc Ls (v :: st))) := by
  obtain ⟨fs, hr, hrun, hended, hW, hsame⟩ := X.leave (v := (some v)) (fun q => by first | rfl | (rw [hret] at q; cases q)) hk
  exact ⟨_, _, retOut X hx hret (by cases t <;> first | rfl | cases ht) (Or.inr (Or.inr (Or.inr (Or.inr ⟨rfl, ht, hv⟩)))) hd.1 hr, hrun, hended, _, _, rfl, hQ, ⟨_, rfl⟩, hW, hsame.mono hc hs⟩
theorem go_retV (X : Stand p l e R s m args below meth c T locs cells slots) (hx : p.tables.exec = Jvm.exec)  (hret : meth.sig.returnType = none) (hd : Dec c.code pc .return_ 1 pc') (hk : meth.locks = false) (hc : cells ≤ rc) (hs : slots ≤ rs) (hQ : Q none T.heap locs) : Go p e below (EndN s Q rc rs) (T.setTop (mkF m pc Ls [])) := by
  obtain ⟨fs, hr, hrun, hended, hW, hsame⟩ := X.leave (v := none) (fun q => by first | rfl | (rw [hret] at q; cases q)) hk
  exact ⟨_, _, X.returnOut hx hret hd.1 hr, hrun, hended, _, _, rfl, hQ, ⟨_, rfl⟩, hW, hsame.mono hc hs⟩
theorem go_getF (X : Stand p l e R s m args below meth c T locs cells slots) (hx : p.tables.exec = Jvm.exec) (hZ : Z.Warmed39 s.vm) {own R0 O n d host : String} {index : Nat} (hown : s.vm.findClass own = some m.cls) (w : (Jvm.Cond.fieldLink own index R0 n d).before a0 Z = true ∨ (Jvm.Cond.fieldLinkNest own index R0 n d host).before a0 Z = true) (via : Via Z R0 O n d) (eT : T.heap = h) {a : Addr} {v : Value} (F : Fld Z h a O n d v) (hd : Dec c.code pc (.getfield index) 3 pc') (k : ∀ T', Stand p l e R s m args below meth c T' locs cells slots → T'.heap = h → Go p e below En (T'.setTop (mkF m pc' Ls (v :: st)))) : Go p e below En (T.setTop (mkF m pc Ls (.ref a :: st))) := by
  obtain ⟨hd, rfl⟩ := hd
  obtain ⟨T', X', e', q⟩ := getF X hx hZ hown w via eT F (g := mkF m pc Ls (.ref a :: st)) rfl rfl hd
  exact own_via q (k T' X' e')
theorem go_putF (X : Stand p l e R s m args below meth c T locs cells slots) (hx : p.tables.exec = Jvm.exec) (hZ : Z.Warmed39 s.vm) {own R0 O n d host C : String} {index kk : Nat} {ty : FieldType} (hown : s.vm.findClass own = some m.cls) (w : (Jvm.Cond.fieldLink own index R0 n d).before a0 Z = true ∨ (Jvm.Cond.fieldLinkNest own index R0 n d host).before a0 Z = true) (via : Via Z R0 O n d) (eT : T.heap = h) {a : Addr} {v old : Value} (F : Fld Z h a O n d old) (E : Exa Z h a C) (L : (Jvm.Cond.lays C O n d).before a0 Z = true ∨ ((Jvm.Cond.laysFinal C O n d).before a0 Z = true ∧ own = O ∧ meth.name = "<init>")) (wi : (Jvm.Cond.instantiable C kk).before a0 Z = true) (hty : parseFieldDescriptor d = some ty) (hn : narrow ty v = v) (hf : fits ty v = true) (hd : Dec c.code pc (.putfield index) 3 pc') (k : ∀ T' h', Stand p l e R s m args below meth c T' (locs ++ [⟨a, Jvm.RoadKit.slotOf Z O n d⟩]) cells slots → T'.heap = h' → Wr h h' a (Jvm.RoadKit.slotOf Z O n d) v → Go p e below En (T'.setTop (mkF m pc' Ls st))) : Go p e below En (T.setTop (mkF m pc Ls (v :: .ref a :: st))) := by
  obtain ⟨hd, rfl⟩ := hd
  obtain ⟨T', h', X', e', W, q⟩ := putF X hx hZ hown w via eT F E L wi hty hn hf (g := mkF m pc Ls (v :: .ref a :: st)) rfl rfl hd
  exact own_via q (k T' h' X' e' W)
theorem go_getS (X : Stand p l e R s m args below meth c T locs cells slots) (hx : p.tables.exec = Jvm.exec) (hZ : Z.Warmed39 s.vm) {own R0 O n d host : String} {index : Nat} (hown : s.vm.findClass own = some m.cls) (w : (Jvm.Cond.fieldLink own index R0 n d).before a0 Z = true) (via : Via Z R0 O n d) (eT : T.heap = h) {v : Value} (F : Sta Z h O n d v) (hd : Dec c.code pc (.getstatic index) 3 pc') (k : ∀ T', Stand p l e R s m args below meth c T' locs cells slots → T'.heap = h → Go p e below En (T'.setTop (mkF m pc' Ls (v :: st)))) : Go p e below En (T.setTop (mkF m pc Ls st)) := by
  obtain ⟨hd, rfl⟩ := hd
  obtain ⟨T', X', e', q⟩ := getS (host := "") X hx hZ hown w via eT F (g := mkF m pc Ls st) rfl hd
  exact own_via q (k T' X' e')
theorem go_newO (X : Stand p l e R s m args below meth c T locs cells slots) (hx : p.tables.exec = Jvm.exec) (hZ : Z.Warmed39 s.vm) {own C : String} {index n : Nat} (hown : s.vm.findClass own = some m.cls) (w : (Jvm.Cond.classLink own index C).before a0 Z = true) (wi : (Jvm.Cond.instantiable C n).before a0 Z = true) (wz : (Jvm.Cond.initialized C).before a0 Z = true) (eT : T.heap = h) (hd : Dec c.code pc (.new index) 3 pc') (hc : cells + 1 ≤ R.cells) (hl : slots + n ≤ R.slots) (k : ∀ T' h' (a : Addr), a = h.size → Stand p l e R s m args below meth c T' locs (cells + 1) (slots + n) → T'.heap = h' → Ext h h' → Exa Z h' a C → (∀ {O nm d : String} {ty : FieldType}, Laid Z a0 C O nm d → parseFieldDescriptor d = some ty → Fld Z h' a O nm d (defaultValue ty)) → Go p e below En (T'.setTop (mkF m pc' Ls (.ref a :: st)))) : Go p e below En (T.setTop (mkF m pc Ls st)) := by
  obtain ⟨hd, rfl⟩ := hd
  obtain ⟨T', h', X', e', E, A, D, -, q⟩ := newO X hx hZ hown w wi wz eT (g := mkF m pc Ls st) rfl hd hc hl
  exact own_via q (k T' h' _ rfl X' e' E A D)
theorem go_newP (X : Stand p l e R s m args below meth c T locs cells slots) (hx : p.tables.exec = Jvm.exec) (hZ : Z.Warmed39 s.vm) {aty : ArrayType} (w : (Jvm.Cond.arrayClass (newarray.typeOf aty)).before a0 Z = true) (eT : T.heap = h) (hd : Dec c.code pc (.newarray aty) 2 pc') {n : Int32} (hn : ¬ n < 0) (cap : Nat) (hcap : n.toNatClampNeg ≤ cap) (hb : cap * 8 ≤ 536870912) (hc : cells + 1 ≤ R.cells) (hl : slots + cap ≤ R.slots) (k : ∀ T' h' cA (a : Addr), a = h.size → Stand p l e R s m args below meth c T' locs (cells + 1) (slots + cap) → T'.heap = h' → Ext h h' → Arr Z h' a (newA cA (newarray.typeOf aty) n) (newarray.typeOf aty) → Go p e below En (T'.setTop (mkF m pc' Ls (.ref a :: st)))) : Go p e below En (T.setTop (mkF m pc Ls (.int n :: st))) := by
  obtain ⟨hd, rfl⟩ := hd
  obtain ⟨T', h', cA, X', e', E, A, q⟩ := newP X hx hZ w eT (g := mkF m pc Ls (.int n :: st)) rfl hd rfl hn hcap hb hc hl
  exact own_via q (k T' h' cA _ rfl X' e' E A)
theorem go_initO (X : Stand p l e R s m args below meth c T locs cells slots) (hx : p.tables.exec = Jvm.exec) (hZ : Z.Warmed39 s.vm) {own : String} {idx : Nat} (hown : s.vm.findClass own = some m.cls) (w1 : (Jvm.Cond.methodLink own idx Lib.objectInit).before a0 Z = true) (w2 : (Jvm.Cond.instanceMethod Lib.objectInit).before a0 Z = true) (w3 : (Jvm.Cond.code Lib.objectInit object_method_1_code 1 none).before a0 Z = true) (eT : T.heap = h) (hsize : Ls.size = c.maxLocals) {a : Addr} (hd : Dec c.code pc (.invokespecial idx) 3 pc') (hf : 1 ≤ R.frames) (W : Nat) (hW : (st.map fun v => v.category).sum ≤ W) (hl : W + 12 ≤ R.locals) (k : ∀ T', Stand p l e R s m args below meth c T' locs cells slots → T'.heap = h → Go p e below En (T'.setTop (mkF m pc' Ls st))) : Go p e below En (T.setTop (mkF m pc Ls (.ref a :: st))) := by
  obtain ⟨hd, rfl⟩ := hd
  obtain ⟨T', X', e', q⟩ := initO X hx hZ hown w1 w2 w3 eT (g := mkF m pc Ls (.ref a :: st)) rfl hsize rfl hd hf (W := W) (by show 2 * 0 + _ ≤ _; omega) hl
  exact own_via q (k T' X' e')
def Ct (l : Launch) (Z : State) (y : MethodName) (bytes : ByteArray) (maxL : Nat) (ret : Option FieldType) (ws : List Jvm.Cond) (rm : Room) (as' : Array Value) (h0 : Heap) (Q : Option Value → Heap → List Loc → Prop) : Prop := MetFree l y (head1 (Jvm.Cond.code y bytes maxL ret :: ws) rm) (fun a U => a = as' ∧ Z.Warmed39 U.vm ∧ U.heap = h0) (fun _ _ _ _ _ => True) (fun _ U o U' => ∃ v L, o = .returned v ∧ Q v U'.heap L ∧ FrameEnd U o U' L rm.cells rm.slots)
theorem Ct.of {y : MethodName} {bytes : ByteArray} {maxL : Nat} {ret : Option FieldType} {ws : List Jvm.Cond} {rm : Room} {as' : Array Value} {h0 : Heap} (pn : plainFor y = true) (F0 : Array Slot) (ef : ∀ m, entryFrame m as' maxL = mkF m 0 F0 []) (body : ∀ (p : Program) (e : Env) (s : State) (m : MethodId) (below : List Frame) (meth : Method) (c : Code) (T : State), p.tables.exec = Jvm.exec → c.code = bytes → c.maxLocals = maxL → Z.Warmed39 s.vm → s.vm.findClass y.cls = some m.cls → meth.name = y.name → meth.sig.returnType = ret → meth.locks = false → T.heap = h0 → Stand p l e rm s m as' below meth c T [] 0 0 → Go p e below (EndN s Q rm.cells rm.slots) (T.setTop (mkF m 0 F0 []))) : Ct l Z y bytes maxL ret ws rm as' h0 Q := by
  refine MetFree.of_bodySF pn hisR ?_
  intro p e s m args below meth c s₁ Bd hml0 hP hK
  obtain ⟨rfl, hZ, hh⟩ := hP
  have G := body p e s m below meth c s₁ Bd.exec Bd.bytes hml0 hZ (findClass_of_methodNamed Bd.named) (name_of_methodNamed Bd.named Bd.method).1 Bd.returns Bd.notSynchronized (by rw [← hh, Bd.state]; rfl) (Stand.of_body Bd)
  rw [← ef m] at G
  exact G
theorem go_static (X : Stand p l e R s m args below meth c T locs cells slots) (hx : p.tables.exec = Jvm.exec) (hZ : Z.Warmed39 s.vm) {own : String} {index : Nat} {y : MethodName} {bytes : ByteArray} {maxL : Nat} {ret : Option FieldType} (hown : s.vm.findClass own = some m.cls) (w1 : (Jvm.Cond.methodLink own index y).before a0 Z = true) (w2 : (Jvm.Cond.static y).before a0 Z = true) (w3 : (Jvm.Cond.initialized y.cls).before a0 Z = true) (w4 : (Jvm.Cond.code y bytes maxL ret).before a0 Z = true) (hy : y.cls ≠ "java/lang/invoke/MethodHandle" ∧ y.cls ≠ "java/lang/invoke/VarHandle") (eT : T.heap = h) {rm : Room} (argsL rest : List Value) {Qc : Option Value → Heap → List Loc → Prop} (hC : Ct l Z y bytes maxL ret [] rm argsL.toArray h Qc) {ps : List FieldType} {rt : Option FieldType} (pd : parseMethodDescriptor y.desc = some ⟨ps, rt⟩) (hl : argsL.length = ps.length) (hsize : Ls.size = c.maxLocals) {stk : List Value} (hstk : stk = argsL.reverse ++ rest) (W : Nat) (hW : (rest.map fun v => v.category).sum ≤ W) (hf : rm.frames + 1 ≤ R.frames) (hlo : W + (maxL + 11) + rm.locals ≤ R.locals) (hce : cells + rm.cells ≤ R.cells) (hsl : slots + rm.slots ≤ R.slots) (hd : Dec c.code pc (.invokestatic index) 3 pc') (k : ∀ T' v L, Stand p l e R s m args below meth c T' (locs ++ L) (cells + rm.cells) (slots + rm.slots) → Qc v T'.heap L → Go p e below En (T'.setTop (mkF m pc' Ls (v.toList ++ rest)))) : Go p e below En (T.setTop (mkF m pc Ls stk)) := by
  obtain ⟨hd, rfl⟩ := hd
  obtain ⟨v, _, ⟨T', L', k', n'⟩, -, X', ⟨L, hQ, l1, y1, z1⟩, q⟩ := Jvm.LawKit.callS X hx hown (mvT hZ w1) (mvT hZ w2) (mvT hZ w3) (mvT hZ w4) hy (backOf (W := W) hC hZ w4 w3 hf hlo) (g := mkF m pc Ls stk) rfl hsize (argsL := argsL) (rest := rest) (lenOf pd hl) hstk (by show 2 * 0 + _ ≤ _; omega) hd (fun _ _ => ⟨rfl, eT, hce, hsl⟩)
  dsimp only [Pt.U, Pt.locs, Pt.cells, Pt.slots] at X' l1 y1 z1 q hQ
  subst l1 y1 z1
  exact own_via q (k T' v L X' hQ)
theorem go_special (X : Stand p l e R s m args below meth c T locs cells slots) (hx : p.tables.exec = Jvm.exec) (hZ : Z.Warmed39 s.vm) {own : String} {index : Nat} {y : MethodName} (hn : y.name = "<init>") {bytes : ByteArray} {maxL : Nat} (hown : s.vm.findClass own = some m.cls) (w1 : (Jvm.Cond.methodLink own index y).before a0 Z = true) (w2 : (Jvm.Cond.instanceMethod y).before a0 Z = true) (w3 : (Jvm.Cond.initialized y.cls).before a0 Z = true) (w4 : (Jvm.Cond.code y bytes maxL none).before a0 Z = true) (hy : y.cls ≠ "java/lang/invoke/MethodHandle" ∧ y.cls ≠ "java/lang/invoke/VarHandle") (eT : T.heap = h) {rm : Room} {a : Addr} (argsL rest : List Value) {Qc : Option Value → Heap → List Loc → Prop} (hC : Ct l Z y bytes maxL none [] rm (.ref a :: argsL).toArray h Qc) {ps : List FieldType} {rt : Option FieldType} (pd : parseMethodDescriptor y.desc = some ⟨ps, rt⟩) (hl : argsL.length = ps.length) (hsize : Ls.size = c.maxLocals) {stk : List Value} (hstk : stk = argsL.reverse ++ .ref a :: rest) (W : Nat) (hW : (rest.map fun v => v.category).sum ≤ W) (hf : rm.frames + 1 ≤ R.frames) (hlo : W + (maxL + 11) + rm.locals ≤ R.locals) (hce : cells + rm.cells ≤ R.cells) (hsl : slots + rm.slots ≤ R.slots) (hd : Dec c.code pc (.invokespecial index) 3 pc') (k : ∀ T' v L, Stand p l e R s m args below meth c T' (locs ++ L) (cells + rm.cells) (slots + rm.slots) → Qc v T'.heap L → Go p e below En (T'.setTop (mkF m pc' Ls (v.toList ++ rest)))) : Go p e below En (T.setTop (mkF m pc Ls stk)) := by
  obtain ⟨hd, rfl⟩ := hd
  obtain ⟨v, _, ⟨T', L', k', n'⟩, -, X', ⟨L, hQ, l1, y1, z1⟩, q⟩ := X.specialBack hx hn hown (mvT hZ w1) (mvT hZ w2) (mvT hZ w4) hy (backOf (W := W) hC hZ w4 w3 hf hlo) (g := mkF m pc Ls stk) rfl hsize (Steps.refl _) (a := a) (argsL := argsL) (rest := rest) (lenOf pd hl) hstk (by show 2 * 0 + _ ≤ _; omega) hd (fun _ _ => ⟨rfl, eT, hce, hsl⟩)
  dsimp only [Pt.U, Pt.locs, Pt.cells, Pt.slots] at X' l1 y1 z1 q hQ
  subst l1 y1 z1
  exact own_via (fun _ => q.trans) (k T' v L X' hQ)
theorem go_virtual (X : Stand p l e R s m args below meth c T locs cells slots) (hx : p.tables.exec = Jvm.exec) (hZ : Z.Warmed39 s.vm) {own C : String} {index : Nat} {y : MethodName} {bytes : ByteArray} {maxL : Nat} {ret : Option FieldType} (hown : s.vm.findClass own = some m.cls) (w1 : (Jvm.Cond.methodLink own index y).before a0 Z = true) (w2 : (Jvm.Cond.declares y).before a0 Z = true) (w5 : (Jvm.Cond.selects C y y).before a0 Z = true) (w6 : (Jvm.Cond.instanceMethod y).before a0 Z = true) (w3 : (Jvm.Cond.initialized y.cls).before a0 Z = true) (w4 : (Jvm.Cond.code y bytes maxL ret).before a0 Z = true) (hy : y.cls ≠ "java/lang/invoke/MethodHandle" ∧ y.cls ≠ "java/lang/invoke/VarHandle") (eT : T.heap = h) {rm : Room} {a : Addr} (E : Exa Z h a C) (argsL rest : List Value) {Qc : Option Value → Heap → List Loc → Prop} (hC : Ct l Z y bytes maxL ret [] rm (.ref a :: argsL).toArray h Qc) {ps : List FieldType} {rt : Option FieldType} (pd : parseMethodDescriptor y.desc = some ⟨ps, rt⟩) (hl : argsL.length = ps.length) (hsize : Ls.size = c.maxLocals) {stk : List Value} (hstk : stk = argsL.reverse ++ .ref a :: rest) (W : Nat) (hW : (rest.map fun v => v.category).sum ≤ W) (hf : rm.frames + 1 ≤ R.frames) (hlo : W + (maxL + 11) + rm.locals ≤ R.locals) (hce : cells + rm.cells ≤ R.cells) (hsl : slots + rm.slots ≤ R.slots) (hd : Dec c.code pc (.invokevirtual index) 3 pc') (k : ∀ T' v L, Stand p l e R s m args below meth c T' (locs ++ L) (cells + rm.cells) (slots + rm.slots) → Qc v T'.heap L → Go p e below En (T'.setTop (mkF m pc' Ls (v.toList ++ rest)))) : Go p e below En (T.setTop (mkF m pc Ls stk)) := by
  obtain ⟨hd, rfl⟩ := hd
  obtain ⟨cq, kq, qa, qb, qc⟩ := isOf hZ eT E
  obtain ⟨v, _, ⟨T', L', k', n'⟩, -, X', ⟨L, hQ, l1, y1, z1⟩, q⟩ := X.virtualBack hx hown (mvT hZ w1) (mvT hZ w2) (notFace_of_selects (args := #[]) (mvT hZ w5)) (mvT hZ w5) (mvT hZ w6) hy (backOf (W := W) hC hZ w4 w3 hf hlo) qa qc (g := mkF m pc Ls stk) rfl hsize (Steps.refl _) (argsL := argsL) (rest := rest) (lenOf pd hl) hstk (by show 2 * 0 + _ ≤ _; omega) hd (fun _ _ => ⟨rfl, eT, hce, hsl⟩)
  dsimp only [Pt.U, Pt.locs, Pt.cells, Pt.slots] at X' l1 y1 z1 q hQ
  subst l1 y1 z1
  exact own_via (fun _ => q.trans) (k T' v L X' hQ)
abbrev QP (r : Value) (h0 : Heap) : Option Value → Heap → List Loc → Prop := fun v h L => v = some r ∧ h = h0 ∧ L = []
theorem go_staticP (X : Stand p l e R s m args below meth c T locs cells slots) (hx : p.tables.exec = Jvm.exec) (hZ : Z.Warmed39 s.vm) {own : String} {index : Nat} {y : MethodName} {bytes : ByteArray} {maxL : Nat} {ret : Option FieldType} (hown : s.vm.findClass own = some m.cls) (w1 : (Jvm.Cond.methodLink own index y).before a0 Z = true) (w2 : (Jvm.Cond.static y).before a0 Z = true) (w3 : (Jvm.Cond.initialized y.cls).before a0 Z = true) (w4 : (Jvm.Cond.code y bytes maxL ret).before a0 Z = true) (hy : y.cls ≠ "java/lang/invoke/MethodHandle" ∧ y.cls ≠ "java/lang/invoke/VarHandle") (eT : T.heap = h) {rm : Room} (argsL rest : List Value) {r : Value} (hC : Ct l Z y bytes maxL ret [] rm argsL.toArray h (QP r h)) {ps : List FieldType} {rt : Option FieldType} (pd : parseMethodDescriptor y.desc = some ⟨ps, rt⟩) (hl : argsL.length = ps.length) (hsize : Ls.size = c.maxLocals) {stk : List Value} (hstk : stk = argsL.reverse ++ rest) (W : Nat) (hW : (rest.map fun v => v.category).sum ≤ W) (hf : rm.frames + 1 ≤ R.frames) (hlo : W + (maxL + 11) + rm.locals ≤ R.locals) (hce : rm.cells = 0) (hsl : rm.slots = 0) (hrc : cells ≤ R.cells) (hrs : slots ≤ R.slots) (hd : Dec c.code pc (.invokestatic index) 3 pc') (k : ∀ T', Stand p l e R s m args below meth c T' locs cells slots → T'.heap = h → Go p e below En (T'.setTop (mkF m pc' Ls (r :: rest)))) : Go p e below En (T.setTop (mkF m pc Ls stk)) :=
  go_static X hx hZ hown w1 w2 w3 w4 hy eT argsL rest hC pd hl hsize hstk W hW hf hlo (by rw [hce]; exact hrc) (by rw [hsl]; exact hrs) hd (fun T' v L X' hQ => by
    obtain ⟨rfl, e', rfl⟩ := hQ
    rw [hce, hsl, List.append_nil, Nat.add_zero, Nat.add_zero] at X'
    exact k T' X' e')
theorem go_virtualP (X : Stand p l e R s m args below meth c T locs cells slots) (hx : p.tables.exec = Jvm.exec) (hZ : Z.Warmed39 s.vm) {own C : String} {index : Nat} {y : MethodName} {bytes : ByteArray} {maxL : Nat} {ret : Option FieldType} (hown : s.vm.findClass own = some m.cls) (w1 : (Jvm.Cond.methodLink own index y).before a0 Z = true) (w2 : (Jvm.Cond.declares y).before a0 Z = true) (w5 : (Jvm.Cond.selects C y y).before a0 Z = true) (w6 : (Jvm.Cond.instanceMethod y).before a0 Z = true) (w3 : (Jvm.Cond.initialized y.cls).before a0 Z = true) (w4 : (Jvm.Cond.code y bytes maxL ret).before a0 Z = true) (hy : y.cls ≠ "java/lang/invoke/MethodHandle" ∧ y.cls ≠ "java/lang/invoke/VarHandle") (eT : T.heap = h) {rm : Room} {a : Addr} (E : Exa Z h a C) (argsL rest : List Value) {r : Value} (hC : Ct l Z y bytes maxL ret [] rm (.ref a :: argsL).toArray h (QP r h)) {ps : List FieldType} {rt : Option FieldType} (pd : parseMethodDescriptor y.desc = some ⟨ps, rt⟩) (hl : argsL.length = ps.length) (hsize : Ls.size = c.maxLocals) {stk : List Value} (hstk : stk = argsL.reverse ++ .ref a :: rest) (W : Nat) (hW : (rest.map fun v => v.category).sum ≤ W) (hf : rm.frames + 1 ≤ R.frames) (hlo : W + (maxL + 11) + rm.locals ≤ R.locals) (hce : rm.cells = 0) (hsl : rm.slots = 0) (hrc : cells ≤ R.cells) (hrs : slots ≤ R.slots) (hd : Dec c.code pc (.invokevirtual index) 3 pc') (k : ∀ T', Stand p l e R s m args below meth c T' locs cells slots → T'.heap = h → Go p e below En (T'.setTop (mkF m pc' Ls (r :: rest)))) : Go p e below En (T.setTop (mkF m pc Ls stk)) :=
  go_virtual X hx hZ hown w1 w2 w5 w6 w3 w4 hy eT E argsL rest hC pd hl hsize hstk W hW hf hlo (by rw [hce]; exact hrc) (by rw [hsl]; exact hrs) hd (fun T' v L X' hQ => by
    obtain ⟨rfl, e', rfl⟩ := hQ
    rw [hce, hsl, List.append_nil, Nat.add_zero, Nat.add_zero] at X'
    exact k T' X' e')
theorem own_lsw {tb : Tables} [Ours tb] {target : State} {g : JFrame} (q : At T m c below) (hx : tb.exec = Jvm.exec) (hg : g.method = m) {dflt : Int} {ps : Array (Int × Int)} {len : Nat} {o : Int} {pc0 : Nat} (hpc : g.pc = pc0) (hd : decode c.code g.pc = .ok (.lookupswitch dflt ps, len)) {i : Int32} {rest : List Value} (hs : g.stack = .int i :: rest)
    (hsort : (ps.toList.zip (ps.toList.drop 1)).all (fun (a, next) => a.1 < next.1) = true) (hoff : lookupswitch.offset ps.toList dflt i.toInt = o) (ho : 0 ≤ (pc0 : Int) + o) (hp : ((pc0 : Int) + o).toNat = pc')
    (hr : Steps tb e below (T.setTop { g with pc := pc', stack := rest }) target) : Steps tb e below (T.setTop g) target := by
  subst hg hpc hp hoff
  jvm_step q [q.top, hx, hd, hs, ho, lookupswitch.wp_chain]
  exact ⟨by simpa using hsort, hr⟩
theorem go_lsw (X : Stand p l e R s m args below meth c T locs cells slots) (hx : p.tables.exec = Jvm.exec) {dflt : Int} {ps : Array (Int × Int)} {len : Nat} {x : Int32} {o : Int} (hd : decode c.code pc = .ok (.lookupswitch dflt ps, len)) (hsort : (ps.toList.zip (ps.toList.drop 1)).all (fun (a, next) => a.1 < next.1) = true) (hoff : lookupswitch.offset ps.toList dflt x.toInt = o) (ho : 0 ≤ (pc : Int) + o) (hp : ((pc : Int) + o).toNat = pt) (k : Go p e below En (T.setTop (mkF m pt Ls st))) : Go p e below En (T.setTop (mkF m pc Ls (.int x :: st))) := own_via (fun t => own_lsw (g := mkF m pc Ls (.int x :: st)) X.here hx rfl rfl hd rfl hsort hoff ho hp) k
theorem go_alen (X : Stand p l e R s m args below meth c T locs cells slots) (hx : p.tables.exec = Jvm.exec) (hZ : Z.Warmed39 s.vm) (eT : T.heap = h) {a : Addr} {cl : Cell} {ty : FieldType} (A : Arr Z h a cl ty) {z : Int32} (S : cl.slots.size = z.toNatClampNeg) (hz : ¬ z < 0) (hd : Dec c.code pc .arraylength 1 pc') (k : Go p e below En (T.setTop (mkF m pc' Ls (.int z :: st)))) : Go p e below En (T.setTop (mkF m pc Ls (.ref a :: st))) := by
  obtain ⟨hd, rfl⟩ := hd
  refine own_via (fun t q => X.arraylength hx (cell := cl) (by rw [eT]; exact A.1) (State.isArrayOf_alike hZ.alike A.2.1) (g := mkF m pc Ls (.ref a :: st)) rfl (rest := st) rfl hd _ ?_) k
  rw [len_of S hz]
  exact q
theorem go_iaload (X : Stand p l e R s m args below meth c T locs cells slots) (hx : p.tables.exec = Jvm.exec) (hZ : Z.Warmed39 s.vm) (eT : T.heap = h) {a : Addr} {cl : Cell} (A : Arr Z h a cl .int) {j : Int32} {w : Int32} (hj : ¬ (j < 0 ∨ cl.slots.size ≤ j.toNatClampNeg)) (hv : cl.slots[j.toNatClampNeg]? = some (.int w)) (hd : Dec c.code pc .iaload 1 pc') (k : Go p e below En (T.setTop (mkF m pc' Ls (.int w :: st)))) : Go p e below En (T.setTop (mkF m pc Ls (.int j :: .ref a :: st))) := by
  obtain ⟨hd, rfl⟩ := hd
  exact own_via (fun t q => X.iaload hx (j := j) (v := (.int w)) (by rw [eT]; exact A.1) (State.isArrayOf_alike hZ.alike A.2.1) A.2.2 hj hv (g := mkF m pc Ls (.int j :: .ref a :: st)) rfl rfl hd _ q) k
theorem go_laload (X : Stand p l e R s m args below meth c T locs cells slots) (hx : p.tables.exec = Jvm.exec) (hZ : Z.Warmed39 s.vm) (eT : T.heap = h) {a : Addr} {cl : Cell} (A : Arr Z h a cl .long) {j : Int32} {w : Int64} (hj : ¬ (j < 0 ∨ cl.slots.size ≤ j.toNatClampNeg)) (hv : cl.slots[j.toNatClampNeg]? = some (.long w)) (hd : Dec c.code pc .laload 1 pc') (k : Go p e below En (T.setTop (mkF m pc' Ls (.long w :: st)))) : Go p e below En (T.setTop (mkF m pc Ls (.int j :: .ref a :: st))) := by
  obtain ⟨hd, rfl⟩ := hd
  exact own_via (fun t q => X.laload hx (j := j) (v := (.long w)) (by rw [eT]; exact A.1) (State.isArrayOf_alike hZ.alike A.2.1) A.2.2 hj hv (g := mkF m pc Ls (.int j :: .ref a :: st)) rfl rfl hd _ q) k
theorem go_iastore (X : Stand p l e R s m args below meth c T locs cells slots) (hx : p.tables.exec = Jvm.exec) (hZ : Z.Warmed39 s.vm) (eT : T.heap = h) {a : Addr} {cl : Cell} (A : Arr Z h a cl .int) {j : Int32} {x : Int32} (hj : ¬ (j < 0 ∨ cl.slots.size ≤ j.toNatClampNeg)) (hd : Dec c.code pc .iastore 1 pc') (k : ∀ T' h', Stand p l e R s m args below meth c T' (locs ++ [⟨a, j.toNatClampNeg⟩]) cells slots → T'.heap = h' → Wr h h' a j.toNatClampNeg (.int x) → Go p e below En (T'.setTop (mkF m pc' Ls st))) : Go p e below En (T.setTop (mkF m pc Ls (.int x :: .int j :: .ref a :: st))) := by
  obtain ⟨hd, rfl⟩ := hd
  obtain ⟨T', h', X', e', W, q⟩ := stI X hx hZ eT A hj (g := mkF m pc Ls (.int x :: .int j :: .ref a :: st)) rfl rfl hd
  exact own_via q (k T' h' X' e' W)
theorem go_lastore (X : Stand p l e R s m args below meth c T locs cells slots) (hx : p.tables.exec = Jvm.exec) (hZ : Z.Warmed39 s.vm) (eT : T.heap = h) {a : Addr} {cl : Cell} (A : Arr Z h a cl .long) {j : Int32} {x : Int64} (hj : ¬ (j < 0 ∨ cl.slots.size ≤ j.toNatClampNeg)) (hd : Dec c.code pc .lastore 1 pc') (k : ∀ T' h', Stand p l e R s m args below meth c T' (locs ++ [⟨a, j.toNatClampNeg⟩]) cells slots → T'.heap = h' → Wr h h' a j.toNatClampNeg (.long x) → Go p e below En (T'.setTop (mkF m pc' Ls st))) : Go p e below En (T.setTop (mkF m pc Ls (.long x :: .int j :: .ref a :: st))) := by
  obtain ⟨hd, rfl⟩ := hd
  obtain ⟨T', h', X', e', W, q⟩ := stJ X hx hZ eT A hj (g := mkF m pc Ls (.long x :: .int j :: .ref a :: st)) rfl rfl hd
  exact own_via q (k T' h' X' e' W)
theorem go_castore (X : Stand p l e R s m args below meth c T locs cells slots) (hx : p.tables.exec = Jvm.exec) (hZ : Z.Warmed39 s.vm) (eT : T.heap = h) {a : Addr} {cl : Cell} (A : Arr Z h a cl .char) {j : Int32} {x : Int32} (hj : ¬ (j < 0 ∨ cl.slots.size ≤ j.toNatClampNeg)) (hd : Dec c.code pc .castore 1 pc') (k : ∀ T' h', Stand p l e R s m args below meth c T' (locs ++ [⟨a, j.toNatClampNeg⟩]) cells slots → T'.heap = h' → Wr h h' a j.toNatClampNeg (.int (nar .char x)) → Go p e below En (T'.setTop (mkF m pc' Ls st))) : Go p e below En (T.setTop (mkF m pc Ls (.int x :: .int j :: .ref a :: st))) := by
  obtain ⟨hd, rfl⟩ := hd
  obtain ⟨T', h', X', e', W, q⟩ := stC X hx hZ eT A hj (g := mkF m pc Ls (.int x :: .int j :: .ref a :: st)) rfl rfl hd
  exact own_via q (k T' h' X' e' W)
theorem go_bastore (X : Stand p l e R s m args below meth c T locs cells slots) (hx : p.tables.exec = Jvm.exec) (hZ : Z.Warmed39 s.vm) (eT : T.heap = h) {a : Addr} {cl : Cell} (A : Arr Z h a cl .byte) {j : Int32} {x : Int32} (hj : ¬ (j < 0 ∨ cl.slots.size ≤ j.toNatClampNeg)) (hd : Dec c.code pc .bastore 1 pc') (k : ∀ T' h', Stand p l e R s m args below meth c T' (locs ++ [⟨a, j.toNatClampNeg⟩]) cells slots → T'.heap = h' → Wr h h' a j.toNatClampNeg (.int (nar .byte x)) → Go p e below En (T'.setTop (mkF m pc' Ls st))) : Go p e below En (T.setTop (mkF m pc Ls (.int x :: .int j :: .ref a :: st))) := by
  obtain ⟨hd, rfl⟩ := hd
  obtain ⟨T', h', X', e', W, q⟩ := stB X hx hZ eT A hj (g := mkF m pc Ls (.int x :: .int j :: .ref a :: st)) rfl rfl hd
  exact own_via q (k T' h' X' e' W)
theorem go_zastore (X : Stand p l e R s m args below meth c T locs cells slots) (hx : p.tables.exec = Jvm.exec) (hZ : Z.Warmed39 s.vm) (eT : T.heap = h) {a : Addr} {cl : Cell} (A : Arr Z h a cl .boolean) {j : Int32} {x : Int32} (hj : ¬ (j < 0 ∨ cl.slots.size ≤ j.toNatClampNeg)) (hd : Dec c.code pc .bastore 1 pc') (k : ∀ T' h', Stand p l e R s m args below meth c T' (locs ++ [⟨a, j.toNatClampNeg⟩]) cells slots → T'.heap = h' → Wr h h' a j.toNatClampNeg (.int (nar .boolean x)) → Go p e below En (T'.setTop (mkF m pc' Ls st))) : Go p e below En (T.setTop (mkF m pc Ls (.int x :: .int j :: .ref a :: st))) := by
  obtain ⟨hd, rfl⟩ := hd
  obtain ⟨T', h', X', e', W, q⟩ := stZ X hx hZ eT A hj (g := mkF m pc Ls (.int x :: .int j :: .ref a :: st)) rfl rfl hd
  exact own_via q (k T' h' X' e' W)
abbrev QV (h0 : Heap) : Option Value → Heap → List Loc → Prop := fun v h L => v = none ∧ h = h0 ∧ L = []
theorem go_specialP (X : Stand p l e R s m args below meth c T locs cells slots) (hx : p.tables.exec = Jvm.exec) (hZ : Z.Warmed39 s.vm) {own : String} {index : Nat} {y : MethodName} (hn : y.name = "<init>") {bytes : ByteArray} {maxL : Nat} (hown : s.vm.findClass own = some m.cls) (w1 : (Jvm.Cond.methodLink own index y).before a0 Z = true) (w2 : (Jvm.Cond.instanceMethod y).before a0 Z = true) (w3 : (Jvm.Cond.initialized y.cls).before a0 Z = true) (w4 : (Jvm.Cond.code y bytes maxL none).before a0 Z = true) (hy : y.cls ≠ "java/lang/invoke/MethodHandle" ∧ y.cls ≠ "java/lang/invoke/VarHandle") (eT : T.heap = h) {rm : Room} {a : Addr} (argsL rest : List Value) (hC : Ct l Z y bytes maxL none [] rm (.ref a :: argsL).toArray h (QV h)) {ps : List FieldType} {rt : Option FieldType} (pd : parseMethodDescriptor y.desc = some ⟨ps, rt⟩) (hl : argsL.length = ps.length) (hsize : Ls.size = c.maxLocals) {stk : List Value} (hstk : stk = argsL.reverse ++ .ref a :: rest) (W : Nat) (hW : (rest.map fun v => v.category).sum ≤ W) (hf : rm.frames + 1 ≤ R.frames) (hlo : W + (maxL + 11) + rm.locals ≤ R.locals) (hce : rm.cells = 0) (hsl : rm.slots = 0) (hrc : cells ≤ R.cells) (hrs : slots ≤ R.slots) (hd : Dec c.code pc (.invokespecial index) 3 pc') (k : ∀ T', Stand p l e R s m args below meth c T' locs cells slots → T'.heap = h → Go p e below En (T'.setTop (mkF m pc' Ls rest))) : Go p e below En (T.setTop (mkF m pc Ls stk)) :=
  go_special X hx hZ hn hown w1 w2 w3 w4 hy eT argsL rest hC pd hl hsize hstk W hW hf hlo (by rw [hce]; exact hrc) (by rw [hsl]; exact hrs) hd (fun T' v L X' hQ => by
    obtain ⟨rfl, e', rfl⟩ := hQ
    rw [hce, hsl, List.append_nil, Nat.add_zero, Nat.add_zero] at X'
    exact k T' X' e')
theorem go_virtualUp (X : Stand p l e R s m args below meth c T locs cells slots) (hx : p.tables.exec = Jvm.exec) (hZ : Z.Warmed39 s.vm) {own C owner : String} {index : Nat} {x y : MethodName} {bytes : ByteArray} {maxL : Nat} {ret : Option FieldType} (hown : s.vm.findClass own = some m.cls) (w1 : (Jvm.Cond.methodLink own index x).before a0 Z = true) (w2 : (Jvm.Cond.sameMethod x.cls owner x.name x.desc).before a0 Z = true) (w7 : (Jvm.Cond.declares ⟨owner, x.name, x.desc⟩).before a0 Z = true) (w5 : (Jvm.Cond.selects C x y).before a0 Z = true) (w6 : (Jvm.Cond.instanceMethod y).before a0 Z = true) (w3 : (Jvm.Cond.initialized y.cls).before a0 Z = true) (w4 : (Jvm.Cond.code y bytes maxL ret).before a0 Z = true) (hy : owner ≠ "java/lang/invoke/MethodHandle" ∧ owner ≠ "java/lang/invoke/VarHandle") (eT : T.heap = h) {rm : Room} {a : Addr} (E : Exa Z h a C) (argsL rest : List Value) {Qc : Option Value → Heap → List Loc → Prop} (hC : Ct l Z y bytes maxL ret [] rm (.ref a :: argsL).toArray h Qc) {ps : List FieldType} {rt : Option FieldType} (pd : parseMethodDescriptor x.desc = some ⟨ps, rt⟩) (hl : argsL.length = ps.length) (hsize : Ls.size = c.maxLocals) {stk : List Value} (hstk : stk = argsL.reverse ++ .ref a :: rest) (W : Nat) (hW : (rest.map fun v => v.category).sum ≤ W) (hf : rm.frames + 1 ≤ R.frames) (hlo : W + (maxL + 11) + rm.locals ≤ R.locals) (hce : cells + rm.cells ≤ R.cells) (hsl : slots + rm.slots ≤ R.slots) (hd : Dec c.code pc (.invokevirtual index) 3 pc') (k : ∀ T' v L, Stand p l e R s m args below meth c T' (locs ++ L) (cells + rm.cells) (slots + rm.slots) → Qc v T'.heap L → Go p e below En (T'.setTop (mkF m pc' Ls (v.toList ++ rest)))) : Go p e below En (T.setTop (mkF m pc Ls stk)) := by
  obtain ⟨hd, rfl⟩ := hd
  obtain ⟨cq, kq, qa, qb, qc⟩ := isOf hZ eT E
  obtain ⟨v, _, ⟨T', L', k', n'⟩, -, X', ⟨L, hQ, l1, y1, z1⟩, q⟩ := X.virtualBackUp hx hown (mvT hZ w1) (mvT hZ w2) (mvT hZ w7) hy (mvT hZ w5) (mvT hZ w6) (backOf (W := W) hC hZ w4 w3 hf hlo) qa qc (g := mkF m pc Ls stk) rfl hsize (Steps.refl _) (argsL := argsL) (rest := rest) (lenOf pd hl) hstk (by show 2 * 0 + _ ≤ _; omega) hd (fun _ _ => ⟨rfl, eT, hce, hsl⟩)
  dsimp only [Pt.U, Pt.locs, Pt.cells, Pt.slots] at X' l1 y1 z1 q hQ
  subst l1 y1 z1
  exact own_via (fun _ => q.trans) (k T' v L X' hQ)
def PutOk (Z : State) (a0 : Array Value) (h : Heap) (a : Addr) (O n d : String) : Prop := ∃ C kk, Exa Z h a C ∧ (Jvm.Cond.lays C O n d).before a0 Z = true ∧ (Jvm.Cond.instantiable C kk).before a0 Z = true
theorem go_putN (X : Stand p l e R s m args below meth c T locs cells slots) (hx : p.tables.exec = Jvm.exec) (hZ : Z.Warmed39 s.vm) {own R0 O n d host : String} {index : Nat} {ty : FieldType} (hown : s.vm.findClass own = some m.cls) (w : (Jvm.Cond.fieldLink own index R0 n d).before a0 Z = true ∨ (Jvm.Cond.fieldLinkNest own index R0 n d host).before a0 Z = true) (via : Via Z R0 O n d) (eT : T.heap = h) {a : Addr} {v old : Value} (F : Fld Z h a O n d old) (P : PutOk Z a0 h a O n d) (hty : parseFieldDescriptor d = some ty) (hn : narrow ty v = v) (hf : fits ty v = true) (hd : Dec c.code pc (.putfield index) 3 pc') (k : ∀ T' h', Stand p l e R s m args below meth c T' (locs ++ [⟨a, Jvm.RoadKit.slotOf Z O n d⟩]) cells slots → T'.heap = h' → Wr h h' a (Jvm.RoadKit.slotOf Z O n d) v → Go p e below En (T'.setTop (mkF m pc' Ls st))) : Go p e below En (T.setTop (mkF m pc Ls (v :: .ref a :: st))) := by
  obtain ⟨C, kk, E, L, wi⟩ := P
  exact go_putF X hx hZ hown w via eT F E (Or.inl L) wi hty hn hf hd k
theorem own_staK {C n d : String} {v : Value} {h' : Heap} (F : Sta Z h C n d v) (K : Keep h h' []) : Sta Z h' C n d v := by
  obtain ⟨cf, i, k, f, st, cell, h1, h2, h3, h4, h5, r⟩ := F
  exact ⟨cf, i, k, f, st, cell, h1, h2, h3, h4, K.2.1 _ _ h5 (by simp), r⟩
theorem own_ldcW (X : Stand p l e R s m args below meth c T locs cells slots) (hexec : p.tables.exec = Jvm.exec) {own : String} {index : Nat} {v : Int32} (hown : s.vm.findClass own = some m.cls) (hconst : (Jvm.Cond.constant own index v).before args s = true) {g : JFrame} (hg : g.method = m) (hdg : decode c.code g.pc = .ok (.ldc_w index, 3)) :
    ∀ target, Steps p.tables e below (T.setTop { g with pc := g.pc + 3, stack := .int v :: g.stack }) target → Steps p.tables e below (T.setTop g) target := by
  obtain ⟨k, cf, bytes, hk, hcf, hcp, hb⟩ := Cond.constant_spec hown hconst
  obtain ⟨k', hk', he⟩ := X.warmed.alike.2.2 _ _ hk
  intro target hrest
  subst hg
  jvm_step X.here [hexec, hdg, ldc_w.wp_int (s := T) (f := g) X.here.top hk' (by rw [he]; exact hcf) hcp, hb]
  exact hrest
theorem go_ldcw (X : Stand p l e R s m args below meth c T locs cells slots) (hx : p.tables.exec = Jvm.exec) (hZ : Z.Warmed39 s.vm) {own : String} {index : Nat} {v : Int32} (hown : s.vm.findClass own = some m.cls) (w : (Jvm.Cond.constant own index v).before a0 Z = true) (hd : Dec c.code pc (.ldc_w index) 3 pc') (k : Go p e below En (T.setTop (mkF m pc' Ls (.int v :: st)))) : Go p e below En (T.setTop (mkF m pc Ls st)) := by
  obtain ⟨hd, rfl⟩ := hd
  exact own_via (fun t => own_ldcW X hx hown (mv hZ w) (g := mkF m pc Ls st) rfl hd t) k
theorem go_baload (X : Stand p l e R s m args below meth c T locs cells slots) (hx : p.tables.exec = Jvm.exec) (hZ : Z.Warmed39 s.vm) (eT : T.heap = h) {a : Addr} {cl : Cell} (A : Arr Z h a cl .byte) {j w : Int32} (hj : ¬ (j < 0 ∨ cl.slots.size ≤ j.toNatClampNeg)) (hv : cl.slots[j.toNatClampNeg]? = some (.int w)) (hd : Dec c.code pc .baload 1 pc') (k : Go p e below En (T.setTop (mkF m pc' Ls (.int w :: st)))) : Go p e below En (T.setTop (mkF m pc Ls (.int j :: .ref a :: st))) := by
  obtain ⟨hd, rfl⟩ := hd
  exact own_via (fun t q => X.baloadBytes hx (j := j) (v := (.int w)) (by rw [eT]; exact A.1) (State.isArrayOf_alike hZ.alike A.2.1) A.2.2 hj hv (g := mkF m pc Ls (.int j :: .ref a :: st)) rfl rfl hd _ q) k
theorem own_rep {n : Nat} {d : Value} : ∀ i, (List.replicate n d).getD i d = ([] : List Value).getD i d := fun i => by
  simp only [List.getD_eq_getElem?_getD, List.getElem?_replicate, List.getElem?_nil, Option.getD_none]
  split <;> rfl
theorem go_iastoreV (X : Stand p l e R s m args below meth c T locs cells slots) (hx : p.tables.exec = Jvm.exec) (hZ : Z.Warmed39 s.vm) (eT : T.heap = h) {a : Addr} {kc : ClassId} {z : Int32} {vs : List Value} {d : Value} (F : Arv Z h a kc .int z vs d) {j : Int32} {x : Int32} (q : ¬ j < 0 ∧ j < z) (i : Nat) (hj : j.toNatClampNeg = i) (hl : i < vs.length) (hd : Dec c.code pc .iastore 1 pc') (k : ∀ T' h', Stand p l e R s m args below meth c T' (locs ++ [⟨a, j.toNatClampNeg⟩]) cells slots → T'.heap = h' → Wr h h' a j.toNatClampNeg (.int x) → Arv Z h' a kc .int z (vs.set i (.int x)) d → Go p e below En (T'.setTop (mkF m pc' Ls st))) : Go p e below En (T.setTop (mkF m pc Ls (.int x :: .int j :: .ref a :: st))) := by
  obtain ⟨c1, A, q1, S, q3, H, G⟩ := F
  exact go_iastore X hx hZ eT A (inb_of S q) hd (fun T' h' X' e' W => k T' h' X' e' W (Arv.set A q1 S q3 H G rfl W i hj hl))
theorem go_lastoreV (X : Stand p l e R s m args below meth c T locs cells slots) (hx : p.tables.exec = Jvm.exec) (hZ : Z.Warmed39 s.vm) (eT : T.heap = h) {a : Addr} {kc : ClassId} {z : Int32} {vs : List Value} {d : Value} (F : Arv Z h a kc .long z vs d) {j : Int32} {x : Int64} (q : ¬ j < 0 ∧ j < z) (i : Nat) (hj : j.toNatClampNeg = i) (hl : i < vs.length) (hd : Dec c.code pc .lastore 1 pc') (k : ∀ T' h', Stand p l e R s m args below meth c T' (locs ++ [⟨a, j.toNatClampNeg⟩]) cells slots → T'.heap = h' → Wr h h' a j.toNatClampNeg (.long x) → Arv Z h' a kc .long z (vs.set i (.long x)) d → Go p e below En (T'.setTop (mkF m pc' Ls st))) : Go p e below En (T.setTop (mkF m pc Ls (.long x :: .int j :: .ref a :: st))) := by
  obtain ⟨c1, A, q1, S, q3, H, G⟩ := F
  exact go_lastore X hx hZ eT A (inb_of S q) hd (fun T' h' X' e' W => k T' h' X' e' W (Arv.set A q1 S q3 H G rfl W i hj hl))
theorem go_bastoreV (X : Stand p l e R s m args below meth c T locs cells slots) (hx : p.tables.exec = Jvm.exec) (hZ : Z.Warmed39 s.vm) (eT : T.heap = h) {a : Addr} {kc : ClassId} {z : Int32} {vs : List Value} {d : Value} (F : Arv Z h a kc .byte z vs d) {j : Int32} {x : Int32} (q : ¬ j < 0 ∧ j < z) (i : Nat) (hj : j.toNatClampNeg = i) (hl : i < vs.length) (hd : Dec c.code pc .bastore 1 pc') (k : ∀ T' h', Stand p l e R s m args below meth c T' (locs ++ [⟨a, j.toNatClampNeg⟩]) cells slots → T'.heap = h' → Wr h h' a j.toNatClampNeg (.int (nar .byte x)) → Arv Z h' a kc .byte z (vs.set i (.int (nar .byte x))) d → Go p e below En (T'.setTop (mkF m pc' Ls st))) : Go p e below En (T.setTop (mkF m pc Ls (.int x :: .int j :: .ref a :: st))) := by
  obtain ⟨c1, A, q1, S, q3, H, G⟩ := F
  exact go_bastore X hx hZ eT A (inb_of S q) hd (fun T' h' X' e' W => k T' h' X' e' W (Arv.set A q1 S q3 H G (fits_nar_byte _) W i hj hl))
theorem go_castoreV (X : Stand p l e R s m args below meth c T locs cells slots) (hx : p.tables.exec = Jvm.exec) (hZ : Z.Warmed39 s.vm) (eT : T.heap = h) {a : Addr} {kc : ClassId} {z : Int32} {vs : List Value} {d : Value} (F : Arv Z h a kc .char z vs d) {j : Int32} {x : Int32} (q : ¬ j < 0 ∧ j < z) (i : Nat) (hj : j.toNatClampNeg = i) (hl : i < vs.length) (hd : Dec c.code pc .castore 1 pc') (k : ∀ T' h', Stand p l e R s m args below meth c T' (locs ++ [⟨a, j.toNatClampNeg⟩]) cells slots → T'.heap = h' → Wr h h' a j.toNatClampNeg (.int (nar .char x)) → Arv Z h' a kc .char z (vs.set i (.int (nar .char x))) d → Go p e below En (T'.setTop (mkF m pc' Ls st))) : Go p e below En (T.setTop (mkF m pc Ls (.int x :: .int j :: .ref a :: st))) := by
  obtain ⟨c1, A, q1, S, q3, H, G⟩ := F
  exact go_castore X hx hZ eT A (inb_of S q) hd (fun T' h' X' e' W => k T' h' X' e' W (Arv.set A q1 S q3 H G (fits_nar_char _) W i hj hl))
theorem go_aastoreV (X : Stand p l e R s m args below meth c T locs cells slots) (hx : p.tables.exec = Jvm.exec) (hZ : Z.Warmed39 s.vm) (eT : T.heap = h) {a y : Addr} {C : String} {kc : ClassId} {z : Int32} {vs : List Value} {d : Value} (F : Arv Z h a kc (.object C) z vs d) (O : Ovr Z kc C) (I : Ins Z h y C true) {j : Int32} (q : ¬ j < 0 ∧ j < z) (i : Nat) (hj : j.toNatClampNeg = i) (hl : i < vs.length) (hd : Dec c.code pc .aastore 1 pc') (k : ∀ T' h', Stand p l e R s m args below meth c T' (locs ++ [⟨a, j.toNatClampNeg⟩]) cells slots → T'.heap = h' → Wr h h' a j.toNatClampNeg (.ref y) → Arv Z h' a kc (.object C) z (vs.set i (.ref y)) d → Go p e below En (T'.setTop (mkF m pc' Ls st))) : Go p e below En (T.setTop (mkF m pc Ls (.ref y :: .int j :: .ref a :: st))) := by
  obtain ⟨hd, rfl⟩ := hd
  obtain ⟨c1, A, q1, S, q3, H, G⟩ := F
  obtain ⟨T', h', X', e', W, r⟩ := stR X hx hZ eT A (inb_of S q) rfl (Sto.of A (by rw [q1]; exact O) I) (g := mkF m pc Ls (.ref y :: .int j :: .ref a :: st)) rfl rfl hd
  exact own_via r (k T' h' X' e' W (Arv.set A q1 S q3 H G rfl W i hj hl))
theorem go_newR (X : Stand p l e R s m args below meth c T locs cells slots) (hx : p.tables.exec = Jvm.exec) (hZ : Z.Warmed39 s.vm) {own C : String} {index : Nat} (hown : s.vm.findClass own = some m.cls) (w1 : (Jvm.Cond.classLink own index C).before a0 Z = true) (w2 : (Jvm.Cond.arrayOver (.object C)).before a0 Z = true) (eT : T.heap = h) (hd : Dec c.code pc (.anewarray index) 3 pc') {n : Int32} (hn : ¬ n < 0) (cap : Nat) (hcap : n.toNatClampNeg ≤ cap) (hb : cap * 8 ≤ 536870912) (hc : cells + 1 ≤ R.cells) (hl : slots + cap ≤ R.slots) (k : ∀ T' h' cA (a : Addr), a = h.size → Stand p l e R s m args below meth c T' locs (cells + 1) (slots + cap) → T'.heap = h' → Ext h h' → Arr Z h' a (newA cA (.object C) n) (.object C) → Ovr Z cA C → Go p e below En (T'.setTop (mkF m pc' Ls (.ref a :: st)))) : Go p e below En (T.setTop (mkF m pc Ls (.int n :: st))) := by
  obtain ⟨hd, rfl⟩ := hd
  obtain ⟨T', h', cA, X', e', E, A, O, q⟩ := newR X hx hZ hown w1 w2 eT (g := mkF m pc Ls (.int n :: st)) rfl hd rfl hn hcap hb hc hl
  exact own_via q (k T' h' cA _ rfl X' e' E A O)
theorem go_ialoadV (X : Stand p l e R s m args below meth c T locs cells slots) (hx : p.tables.exec = Jvm.exec) (hZ : Z.Warmed39 s.vm) (eT : T.heap = h) {a : Addr} {kc : ClassId} {z : Int32} {vs : List Value} {d : Value} (F : Arv Z h a kc .int z vs d) {j : Int32} {w : Int32} (q : ¬ j < 0 ∧ j < z) (hv : vs.getD j.toNatClampNeg d = .int w) (hd : Dec c.code pc .iaload 1 pc') (k : Go p e below En (T.setTop (mkF m pc' Ls (.int w :: st)))) : Go p e below En (T.setTop (mkF m pc Ls (.int j :: .ref a :: st))) := by
  obtain ⟨c1, A, q1, S, q3, H, G⟩ := F
  have hin := inb_of S q
  exact go_iaload X hx hZ eT A hin (by rw [H _ (Nat.lt_of_not_le fun r => hin (Or.inr r)), hv]) hd k
theorem go_laloadV (X : Stand p l e R s m args below meth c T locs cells slots) (hx : p.tables.exec = Jvm.exec) (hZ : Z.Warmed39 s.vm) (eT : T.heap = h) {a : Addr} {kc : ClassId} {z : Int32} {vs : List Value} {d : Value} (F : Arv Z h a kc .long z vs d) {j : Int32} {w : Int64} (q : ¬ j < 0 ∧ j < z) (hv : vs.getD j.toNatClampNeg d = .long w) (hd : Dec c.code pc .laload 1 pc') (k : Go p e below En (T.setTop (mkF m pc' Ls (.long w :: st)))) : Go p e below En (T.setTop (mkF m pc Ls (.int j :: .ref a :: st))) := by
  obtain ⟨c1, A, q1, S, q3, H, G⟩ := F
  have hin := inb_of S q
  exact go_laload X hx hZ eT A hin (by rw [H _ (Nat.lt_of_not_le fun r => hin (Or.inr r)), hv]) hd k
theorem go_baloadV (X : Stand p l e R s m args below meth c T locs cells slots) (hx : p.tables.exec = Jvm.exec) (hZ : Z.Warmed39 s.vm) (eT : T.heap = h) {a : Addr} {kc : ClassId} {z : Int32} {vs : List Value} {d : Value} (F : Arv Z h a kc .byte z vs d) {j : Int32} {w : Int32} (q : ¬ j < 0 ∧ j < z) (hv : vs.getD j.toNatClampNeg d = .int w) (hd : Dec c.code pc .baload 1 pc') (k : Go p e below En (T.setTop (mkF m pc' Ls (.int w :: st)))) : Go p e below En (T.setTop (mkF m pc Ls (.int j :: .ref a :: st))) := by
  obtain ⟨c1, A, q1, S, q3, H, G⟩ := F
  have hin := inb_of S q
  exact go_baload X hx hZ eT A hin (by rw [H _ (Nat.lt_of_not_le fun r => hin (Or.inr r)), hv]) hd k
theorem go_aaloadV (X : Stand p l e R s m args below meth c T locs cells slots) (hx : p.tables.exec = Jvm.exec) (hZ : Z.Warmed39 s.vm) (eT : T.heap = h) {a : Addr} {kc : ClassId} {ty : FieldType} (hty : ty.isReference = true) {z : Int32} {vs : List Value} {d : Value} (F : Arv Z h a kc ty z vs d) {j : Int32} {v : Value} (q : ¬ j < 0 ∧ j < z) (hv : vs.getD j.toNatClampNeg d = v) (hd : Dec c.code pc .aaload 1 pc') (k : Go p e below En (T.setTop (mkF m pc' Ls (v :: st)))) : Go p e below En (T.setTop (mkF m pc Ls (.int j :: .ref a :: st))) := by
  obtain ⟨hd, rfl⟩ := hd
  obtain ⟨c1, A, q1, S, q3, H, G⟩ := F
  have hin := inb_of S q
  exact own_via (fun t r => X.aaload hx (j := j) (v := v) (by rw [eT]; exact A.1) (State.isArrayOf_alike hZ.alike A.2.1) hty A.2.2 hin (by rw [H _ (Nat.lt_of_not_le fun r => hin (Or.inr r)), hv]) (g := mkF m pc Ls (.int j :: .ref a :: st)) rfl rfl hd _ r) k
theorem go_caload (X : Stand p l e R s m args below meth c T locs cells slots) (hx : p.tables.exec = Jvm.exec) (hZ : Z.Warmed39 s.vm) (eT : T.heap = h) {a : Addr} {cl : Cell} (A : Arr Z h a cl .char) {j w : Int32} (hj : ¬ (j < 0 ∨ cl.slots.size ≤ j.toNatClampNeg)) (hv : cl.slots[j.toNatClampNeg]? = some (.int w)) (hd : Dec c.code pc .caload 1 pc') (k : Go p e below En (T.setTop (mkF m pc' Ls (.int w :: st)))) : Go p e below En (T.setTop (mkF m pc Ls (.int j :: .ref a :: st))) := by
  obtain ⟨hd, rfl⟩ := hd
  exact own_via (fun t q => X.caload hx (j := j) (v := (.int w)) (by rw [eT]; exact A.1) (State.isArrayOf_alike hZ.alike A.2.1) A.2.2 hj hv (g := mkF m pc Ls (.int j :: .ref a :: st)) rfl rfl hd _ q) k
theorem go_caloadV (X : Stand p l e R s m args below meth c T locs cells slots) (hx : p.tables.exec = Jvm.exec) (hZ : Z.Warmed39 s.vm) (eT : T.heap = h) {a : Addr} {kc : ClassId} {z : Int32} {vs : List Value} {d : Value} (F : Arv Z h a kc .char z vs d) {j : Int32} {w : Int32} (q : ¬ j < 0 ∧ j < z) (hv : vs.getD j.toNatClampNeg d = .int w) (hd : Dec c.code pc .caload 1 pc') (k : Go p e below En (T.setTop (mkF m pc' Ls (.int w :: st)))) : Go p e below En (T.setTop (mkF m pc Ls (.int j :: .ref a :: st))) := by
  obtain ⟨c1, A, q1, S, q3, H, G⟩ := F
  have hin := inb_of S q
  exact go_caload X hx hZ eT A hin (by rw [H _ (Nat.lt_of_not_le fun r => hin (Or.inr r)), hv]) hd k
theorem own_narC {w : Int32} (h : fits .char (.int w) = true) : nar .char w = w := by
  have h1 := c_i2c w
  change (decide ((0 : Int32) ≤ w) && decide (w ≤ (65535 : Int32))) = true at h
  simp only [Bool.and_eq_true, decide_eq_true_eq] at h
  rw [Int32.le_iff_toInt_le, Int32.le_iff_toInt_le, show (0 : Int32).toInt = 0 from rfl, show (65535 : Int32).toInt = 65535 from rfl] at h
  have h3 : (nar .char w).toInt = w.toInt := by
    show w.toUInt32.toUInt16.toUInt32.toInt32.toInt = w.toInt
    omega
  exact Int32.toInt_inj.mp h3
end OwnGo
def own_b (P : Prop) [Decidable P] : Int32 := if P then 1 else 0
theorem own_b0 {P : Prop} [Decidable P] : own_b P = 0 ↔ ¬ P := by unfold own_b; by_cases h : P <;> simp [h]
theorem own_bT {P : Prop} [Decidable P] (h : P) : own_b P = 1 := by unfold own_b; simp [h]
theorem own_bF {P : Prop} [Decidable P] (h : ¬ P) : own_b P = 0 := by unfold own_b; simp [h]
theorem own_bC {P Q : Prop} [Decidable P] [Decidable Q] (h : P ↔ Q) : own_b P = own_b Q := by unfold own_b; by_cases q : P <;> simp [q, h.symm] <;> simp [← h, q]


def own_R (Z : State) (h : Heap) (a t st en tk : Addr) (kS kE kT : ClassId) (n : Int32) (vs ve vt : List Value) : Prop := Exa Z h a "com/example/strict_tariff/stricttariff/io/CsvRow" ∧ Fld Z h a "com/example/strict_tariff/stricttariff/io/CsvRow" "text" "[C" (.ref t) ∧ Fld Z h a "com/example/strict_tariff/stricttariff/io/CsvRow" "starts" "[I" (.ref st) ∧ Fld Z h a "com/example/strict_tariff/stricttariff/io/CsvRow" "ends" "[I" (.ref en) ∧ Fld Z h a "com/example/strict_tariff/stricttariff/io/CsvRow" "taken" "[Ljava/lang/String;" (.ref tk) ∧ Fld Z h a "com/example/strict_tariff/stricttariff/io/CsvRow" "size" "I" (.int n) ∧ Arv Z h st kS .int 16 vs (.int 0) ∧ Arv Z h en kE .int 16 ve (.int 0) ∧ Arv Z h tk kT (.object "java/lang/String") 16 vt .null ∧ Ovr Z kT "java/lang/String" ∧ a ≠ st ∧ a ≠ en ∧ a ≠ tk ∧ en ≠ st ∧ tk ≠ st ∧ tk ≠ en
def own_S (Z : State) (h : Heap) (c : Addr) (z w : Int32) : Prop := Exa Z h c "java/lang/String" ∧ Fld Z h c "java/lang/String" "coder" "B" (.int 0) ∧ ∃ b kb vs, Fld Z h c "java/lang/String" "value" "[B" (.ref b) ∧ Arv Z h b kb .byte z vs (.int 0) ∧ vs.getD 0 (.int 0) = .int w
theorem own_R.keep {Z : State} {h h' : Heap} {a t st en tk : Addr} {kS kE kT : ClassId} {n : Int32} {vs ve vt : List Value} (F : own_R Z h a t st en tk kS kE kT n vs ve vt) (K : Keep h h' []) : own_R Z h' a t st en tk kS kE kT n vs ve vt := by
  obtain ⟨E, F1, F2, F3, F4, F5, V1, V2, V3, O, q⟩ := F
  exact ⟨E.keep K, F1.keep K (by simp), F2.keep K (by simp), F3.keep K (by simp), F4.keep K (by simp), F5.keep K (by simp), V1.keep K (by simp), V2.keep K (by simp), V3.keep K (by simp), O, q⟩
theorem own_S.wr {Z : State} {h h' : Heap} {c : Addr} {z w : Int32} {tk : Addr} {sl : Nat} {v : Value} {kT : ClassId} {y : Int32} {vt : List Value} {d : Value} {C : String} (F : own_S Z h c z w) (W : Wr h h' tk sl v) (q : c ≠ tk) (T : Arv Z h tk kT (.object C) y vt d) : own_S Z h' c z w := by
  obtain ⟨E, F1, b, kb, vs, F2, A, g⟩ := F
  have hb : b ≠ tk := fun r => by
    subst r
    obtain ⟨c1, A1, -⟩ := A
    obtain ⟨c2, A2, -⟩ := T
    have e := Option.some.inj (A1.1.symm.trans A2.1)
    subst e
    obtain ⟨-, k1, p1, m1, p2⟩ := A1.2.1
    obtain ⟨-, k2, p3, m2, p4⟩ := A2.2.1
    have e2 := Option.some.inj (p1.symm.trans p3)
    subst e2
    rw [p2] at p4
    cases p4
  exact ⟨E.wr W, F1.other W (Or.inl q), b, kb, vs, F2.other W (Or.inl q), A.other W hb, g⟩
theorem own_sub1 (x y : Int32) : x + y - x = y := by
  have h1 := c_iadd x y; have h2 := c_isub (x + y) x; have h3 := rng32 (x + y - x); have h4 := rng32 y
  exact Int32.toInt_inj.mp (by omega)
theorem own_ss (x : Int32) : x - x = 0 := by
  have h2 := c_isub x x; have h3 := rng32 (x - x); have h4 := rng32 x
  exact Int32.toInt_inj.mp (by rw [show (0 : Int32).toInt = 0 from rfl]; omega)
theorem own_c2 (x a b : Int32) : x + a + b - a - b = x := by
  have h1 := c_iadd x a; have h2 := c_iadd (x + a) b; have h3 := c_isub (x + a + b) a; have h4 := c_isub (x + a + b - a) b
  have h5 := rng32 (x + a + b - a - b); have h6 := rng32 x
  exact Int32.toInt_inj.mp (by omega)
theorem own_c1 (x b : Int32) : x + b - b = x := by
  have h2 := c_iadd x b; have h4 := c_isub (x + b) b
  have h5 := rng32 (x + b - b); have h6 := rng32 x
  exact Int32.toInt_inj.mp (by omega)
theorem own_shr0 (x : Int32) : x >>> ((0 : Int32) &&& 31) = x := by
  have h := c_ishr x 0 0 (by decide)
  exact Int32.toInt_inj.mp (by rw [h]; simp)
theorem own_a3 (x : Int32) : 0 ≤ (x &&& 3).toInt ∧ (x &&& 3).toInt ≤ 3 := by
  have h1 := c_mask x 3 2 (by decide) (by decide)
  omega
theorem own_l4 (x : Int32) : 1 ≤ (1 + (x &&& 3)).toInt ∧ (1 + (x &&& 3)).toInt ≤ 4 := by
  have h1 := c_mask x 3 2 (by decide) (by decide)
  have h2 := c_iadd 1 (x &&& 3)
  have h3 := rng32 (1 + (x &&& 3))
  rw [show (1 : Int32).toInt = 1 from rfl] at h2
  omega
theorem own_four {x : Int32} (h : 0 ≤ x.toInt ∧ x.toInt ≤ 3) : x = 0 ∨ x = 1 ∨ x = 2 ∨ x = 3 := by
  simp only [← Int32.toInt_inj, show (0 : Int32).toInt = 0 from rfl, show (1 : Int32).toInt = 1 from rfl, show (2 : Int32).toInt = 2 from rfl, show (3 : Int32).toInt = 3 from rfl]
  omega
theorem own_q1 {x : Int32} (h : 0 ≤ x.toInt ∧ x.toInt ≤ 3) : nar .char ((nar .byte ((97 : Int32) + x).toInt8.toInt32) &&& 255).toUInt32.toUInt16.toUInt32.toInt32 = ((97 : Int32) + x).toUInt32.toUInt16.toUInt32.toInt32 := by
  rcases own_four h with rfl | rfl | rfl | rfl <;> decide
theorem own_q2 {x : Int32} (h : 0 ≤ x.toInt ∧ x.toInt ≤ 3) : nar .char ((97 : Int32) + x).toUInt32.toUInt16.toUInt32.toInt32 = ((97 : Int32) + x).toUInt32.toUInt16.toUInt32.toInt32 := by
  rcases own_four h with rfl | rfl | rfl | rfl <;> decide
theorem own_nxt {x : Int32} {k : Int} (h : 0 ≤ x.toInt ∧ x.toInt ≤ k) (hk : k ≤ 100) : 0 ≤ (x + 1).toInt ∧ (x + 1).toInt ≤ k + 1 := by
  have h1 := c_iadd x 1; have h2 := rng32 (x + 1)
  rw [show (1 : Int32).toInt = 1 from rfl] at h1
  omega
theorem own_in {x z : Int32} {k n : Int} (h : 0 ≤ x.toInt ∧ x.toInt ≤ k) (hz : z.toInt = n) (hk : k < n) : ¬ x < 0 ∧ x < z := by
  rw [Int32.lt_iff_toInt_lt, Int32.lt_iff_toInt_lt, show (0 : Int32).toInt = 0 from rfl, hz]; omega
theorem own_txt {x : Int32} (h : 0 ≤ x.toInt ∧ x.toInt ≤ 7) : ([.int 97, .int 98, .int 99, .int 100, .int 101, .int 102, .int 103, .int 104] : List Value).getD x.toNatClampNeg (.int 0) = .int (97 + x) := by
  have z : x = 0 ∨ x = 1 ∨ x = 2 ∨ x = 3 ∨ x = 4 ∨ x = 5 ∨ x = 6 ∨ x = 7 := by
    simp only [← Int32.toInt_inj, show (0 : Int32).toInt = 0 from rfl, show (1 : Int32).toInt = 1 from rfl, show (2 : Int32).toInt = 2 from rfl, show (3 : Int32).toInt = 3 from rfl, show (4 : Int32).toInt = 4 from rfl, show (5 : Int32).toInt = 5 from rfl, show (6 : Int32).toInt = 6 from rfl, show (7 : Int32).toInt = 7 from rfl]
    omega
  rcases z with rfl | rfl | rfl | rfl | rfl | rfl | rfl | rfl <;> rfl
theorem own_le255 {x : Int32} {k : Int} (h : 0 ≤ x.toInt ∧ x.toInt ≤ k) (hk : k ≤ 100) : ¬ (255 : Int32) < 97 + x := by
  have h1 := c_iadd 97 x; have h2 := rng32 (97 + x)
  rw [show (97 : Int32).toInt = 97 from rfl] at h1
  rw [Int32.lt_iff_toInt_lt, show (255 : Int32).toInt = 255 from rfl]
  omega
theorem own_nat {x : Int32} {k : Nat} (h : x.toInt ≤ k) : x.toNatClampNeg ≤ k := by
  show x.toInt.toNat ≤ k
  omega
theorem own_or {x y : Int32} (hx : 0 ≤ x.toInt) (hy : 0 ≤ y.toInt) : ¬ ((8 : Int32) ||| x ||| y) < 0 := by
  have h1 := (c_orS 8 x).1 (by decide) hx
  have h2 := (c_orS (8 ||| x) y).1 h1 hy
  rw [Int32.lt_iff_toInt_lt, show (0 : Int32).toInt = 0 from rfl]; omega
theorem own_8 {x y : Int32} (hx : 0 ≤ x.toInt ∧ x.toInt ≤ 3) (hy : 1 ≤ y.toInt ∧ y.toInt ≤ 4) : ¬ (8 : Int32) - x < y := by
  have h1 := c_isub 8 x; have h2 := rng32 (8 - x)
  rw [show (8 : Int32).toInt = 8 from rfl] at h1
  rw [Int32.lt_iff_toInt_lt]; omega
theorem own_ne0 {y : Int32} (hy : 1 ≤ y.toInt) : ¬ y = 0 := fun q => by rw [q, show (0 : Int32).toInt = 0 from rfl] at hy; omega
theorem own_pos {y : Int32} (hy : 1 ≤ y.toInt) : ¬ y < 0 := by rw [Int32.lt_iff_toInt_lt, show (0 : Int32).toInt = 0 from rfl]; omega
theorem own_gt0 {y : Int32} (hy : 1 ≤ y.toInt) : (0 : Int32) < y := by rw [Int32.lt_iff_toInt_lt, show (0 : Int32).toInt = 0 from rfl]; omega
theorem own_n4 {y : Int32} (hy : y.toInt ≤ 4) : ¬ (4 : Int32) < y := by rw [Int32.lt_iff_toInt_lt, show (4 : Int32).toInt = 4 from rfl]; omega

theorem own_sl_text_starts {Z : State} {a0 : Array Value} (hw : ∀ d ∈ tables_1, d.before a0 Z = true) : Jvm.RoadKit.slotOf Z "com/example/strict_tariff/stricttariff/io/CsvRow" "text" "[C" ≠ Jvm.RoadKit.slotOf Z "com/example/strict_tariff/stricttariff/io/CsvRow" "starts" "[I" := slot_ne (C := "com/example/strict_tariff/stricttariff/io/CsvRow") (Or.inl (hw _ (List.mem_of_getElem? (i := 11) rfl))) (Or.inl (hw _ (List.mem_of_getElem? (i := 14) rfl))) (by decide) (t := .array .char) (by decide) (t' := .array .int) (by decide)
theorem own_sl_text_ends {Z : State} {a0 : Array Value} (hw : ∀ d ∈ tables_1, d.before a0 Z = true) : Jvm.RoadKit.slotOf Z "com/example/strict_tariff/stricttariff/io/CsvRow" "text" "[C" ≠ Jvm.RoadKit.slotOf Z "com/example/strict_tariff/stricttariff/io/CsvRow" "ends" "[I" := slot_ne (C := "com/example/strict_tariff/stricttariff/io/CsvRow") (Or.inl (hw _ (List.mem_of_getElem? (i := 11) rfl))) (Or.inl (hw _ (List.mem_of_getElem? (i := 16) rfl))) (by decide) (t := .array .char) (by decide) (t' := .array .int) (by decide)
theorem own_sl_text_taken {Z : State} {a0 : Array Value} (hw : ∀ d ∈ tables_1, d.before a0 Z = true) : Jvm.RoadKit.slotOf Z "com/example/strict_tariff/stricttariff/io/CsvRow" "text" "[C" ≠ Jvm.RoadKit.slotOf Z "com/example/strict_tariff/stricttariff/io/CsvRow" "taken" "[Ljava/lang/String;" := slot_ne (C := "com/example/strict_tariff/stricttariff/io/CsvRow") (Or.inl (hw _ (List.mem_of_getElem? (i := 11) rfl))) (Or.inl (hw _ (List.mem_of_getElem? (i := 20) rfl))) (by decide) (t := .array .char) (by decide) (t' := .array (.object "java/lang/String")) (by decide)
theorem own_sl_text_size {Z : State} {a0 : Array Value} (hw : ∀ d ∈ tables_1, d.before a0 Z = true) : Jvm.RoadKit.slotOf Z "com/example/strict_tariff/stricttariff/io/CsvRow" "text" "[C" ≠ Jvm.RoadKit.slotOf Z "com/example/strict_tariff/stricttariff/io/CsvRow" "size" "I" := slot_ne (C := "com/example/strict_tariff/stricttariff/io/CsvRow") (Or.inl (hw _ (List.mem_of_getElem? (i := 11) rfl))) (Or.inl (hw _ (List.mem_of_getElem? (i := 27) rfl))) (by decide) (t := .array .char) (by decide) (t' := .int) (by decide)
theorem own_sl_starts_text {Z : State} {a0 : Array Value} (hw : ∀ d ∈ tables_1, d.before a0 Z = true) : Jvm.RoadKit.slotOf Z "com/example/strict_tariff/stricttariff/io/CsvRow" "starts" "[I" ≠ Jvm.RoadKit.slotOf Z "com/example/strict_tariff/stricttariff/io/CsvRow" "text" "[C" := slot_ne (C := "com/example/strict_tariff/stricttariff/io/CsvRow") (Or.inl (hw _ (List.mem_of_getElem? (i := 14) rfl))) (Or.inl (hw _ (List.mem_of_getElem? (i := 11) rfl))) (by decide) (t := .array .int) (by decide) (t' := .array .char) (by decide)
theorem own_sl_starts_ends {Z : State} {a0 : Array Value} (hw : ∀ d ∈ tables_1, d.before a0 Z = true) : Jvm.RoadKit.slotOf Z "com/example/strict_tariff/stricttariff/io/CsvRow" "starts" "[I" ≠ Jvm.RoadKit.slotOf Z "com/example/strict_tariff/stricttariff/io/CsvRow" "ends" "[I" := slot_ne (C := "com/example/strict_tariff/stricttariff/io/CsvRow") (Or.inl (hw _ (List.mem_of_getElem? (i := 14) rfl))) (Or.inl (hw _ (List.mem_of_getElem? (i := 16) rfl))) (by decide) (t := .array .int) (by decide) (t' := .array .int) (by decide)
theorem own_sl_starts_taken {Z : State} {a0 : Array Value} (hw : ∀ d ∈ tables_1, d.before a0 Z = true) : Jvm.RoadKit.slotOf Z "com/example/strict_tariff/stricttariff/io/CsvRow" "starts" "[I" ≠ Jvm.RoadKit.slotOf Z "com/example/strict_tariff/stricttariff/io/CsvRow" "taken" "[Ljava/lang/String;" := slot_ne (C := "com/example/strict_tariff/stricttariff/io/CsvRow") (Or.inl (hw _ (List.mem_of_getElem? (i := 14) rfl))) (Or.inl (hw _ (List.mem_of_getElem? (i := 20) rfl))) (by decide) (t := .array .int) (by decide) (t' := .array (.object "java/lang/String")) (by decide)
theorem own_sl_starts_size {Z : State} {a0 : Array Value} (hw : ∀ d ∈ tables_1, d.before a0 Z = true) : Jvm.RoadKit.slotOf Z "com/example/strict_tariff/stricttariff/io/CsvRow" "starts" "[I" ≠ Jvm.RoadKit.slotOf Z "com/example/strict_tariff/stricttariff/io/CsvRow" "size" "I" := slot_ne (C := "com/example/strict_tariff/stricttariff/io/CsvRow") (Or.inl (hw _ (List.mem_of_getElem? (i := 14) rfl))) (Or.inl (hw _ (List.mem_of_getElem? (i := 27) rfl))) (by decide) (t := .array .int) (by decide) (t' := .int) (by decide)
theorem own_sl_ends_text {Z : State} {a0 : Array Value} (hw : ∀ d ∈ tables_1, d.before a0 Z = true) : Jvm.RoadKit.slotOf Z "com/example/strict_tariff/stricttariff/io/CsvRow" "ends" "[I" ≠ Jvm.RoadKit.slotOf Z "com/example/strict_tariff/stricttariff/io/CsvRow" "text" "[C" := slot_ne (C := "com/example/strict_tariff/stricttariff/io/CsvRow") (Or.inl (hw _ (List.mem_of_getElem? (i := 16) rfl))) (Or.inl (hw _ (List.mem_of_getElem? (i := 11) rfl))) (by decide) (t := .array .int) (by decide) (t' := .array .char) (by decide)
theorem own_sl_ends_starts {Z : State} {a0 : Array Value} (hw : ∀ d ∈ tables_1, d.before a0 Z = true) : Jvm.RoadKit.slotOf Z "com/example/strict_tariff/stricttariff/io/CsvRow" "ends" "[I" ≠ Jvm.RoadKit.slotOf Z "com/example/strict_tariff/stricttariff/io/CsvRow" "starts" "[I" := slot_ne (C := "com/example/strict_tariff/stricttariff/io/CsvRow") (Or.inl (hw _ (List.mem_of_getElem? (i := 16) rfl))) (Or.inl (hw _ (List.mem_of_getElem? (i := 14) rfl))) (by decide) (t := .array .int) (by decide) (t' := .array .int) (by decide)
theorem own_sl_ends_taken {Z : State} {a0 : Array Value} (hw : ∀ d ∈ tables_1, d.before a0 Z = true) : Jvm.RoadKit.slotOf Z "com/example/strict_tariff/stricttariff/io/CsvRow" "ends" "[I" ≠ Jvm.RoadKit.slotOf Z "com/example/strict_tariff/stricttariff/io/CsvRow" "taken" "[Ljava/lang/String;" := slot_ne (C := "com/example/strict_tariff/stricttariff/io/CsvRow") (Or.inl (hw _ (List.mem_of_getElem? (i := 16) rfl))) (Or.inl (hw _ (List.mem_of_getElem? (i := 20) rfl))) (by decide) (t := .array .int) (by decide) (t' := .array (.object "java/lang/String")) (by decide)
theorem own_sl_ends_size {Z : State} {a0 : Array Value} (hw : ∀ d ∈ tables_1, d.before a0 Z = true) : Jvm.RoadKit.slotOf Z "com/example/strict_tariff/stricttariff/io/CsvRow" "ends" "[I" ≠ Jvm.RoadKit.slotOf Z "com/example/strict_tariff/stricttariff/io/CsvRow" "size" "I" := slot_ne (C := "com/example/strict_tariff/stricttariff/io/CsvRow") (Or.inl (hw _ (List.mem_of_getElem? (i := 16) rfl))) (Or.inl (hw _ (List.mem_of_getElem? (i := 27) rfl))) (by decide) (t := .array .int) (by decide) (t' := .int) (by decide)
theorem own_sl_taken_text {Z : State} {a0 : Array Value} (hw : ∀ d ∈ tables_1, d.before a0 Z = true) : Jvm.RoadKit.slotOf Z "com/example/strict_tariff/stricttariff/io/CsvRow" "taken" "[Ljava/lang/String;" ≠ Jvm.RoadKit.slotOf Z "com/example/strict_tariff/stricttariff/io/CsvRow" "text" "[C" := slot_ne (C := "com/example/strict_tariff/stricttariff/io/CsvRow") (Or.inl (hw _ (List.mem_of_getElem? (i := 20) rfl))) (Or.inl (hw _ (List.mem_of_getElem? (i := 11) rfl))) (by decide) (t := .array (.object "java/lang/String")) (by decide) (t' := .array .char) (by decide)
theorem own_sl_taken_starts {Z : State} {a0 : Array Value} (hw : ∀ d ∈ tables_1, d.before a0 Z = true) : Jvm.RoadKit.slotOf Z "com/example/strict_tariff/stricttariff/io/CsvRow" "taken" "[Ljava/lang/String;" ≠ Jvm.RoadKit.slotOf Z "com/example/strict_tariff/stricttariff/io/CsvRow" "starts" "[I" := slot_ne (C := "com/example/strict_tariff/stricttariff/io/CsvRow") (Or.inl (hw _ (List.mem_of_getElem? (i := 20) rfl))) (Or.inl (hw _ (List.mem_of_getElem? (i := 14) rfl))) (by decide) (t := .array (.object "java/lang/String")) (by decide) (t' := .array .int) (by decide)
theorem own_sl_taken_ends {Z : State} {a0 : Array Value} (hw : ∀ d ∈ tables_1, d.before a0 Z = true) : Jvm.RoadKit.slotOf Z "com/example/strict_tariff/stricttariff/io/CsvRow" "taken" "[Ljava/lang/String;" ≠ Jvm.RoadKit.slotOf Z "com/example/strict_tariff/stricttariff/io/CsvRow" "ends" "[I" := slot_ne (C := "com/example/strict_tariff/stricttariff/io/CsvRow") (Or.inl (hw _ (List.mem_of_getElem? (i := 20) rfl))) (Or.inl (hw _ (List.mem_of_getElem? (i := 16) rfl))) (by decide) (t := .array (.object "java/lang/String")) (by decide) (t' := .array .int) (by decide)
theorem own_sl_taken_size {Z : State} {a0 : Array Value} (hw : ∀ d ∈ tables_1, d.before a0 Z = true) : Jvm.RoadKit.slotOf Z "com/example/strict_tariff/stricttariff/io/CsvRow" "taken" "[Ljava/lang/String;" ≠ Jvm.RoadKit.slotOf Z "com/example/strict_tariff/stricttariff/io/CsvRow" "size" "I" := slot_ne (C := "com/example/strict_tariff/stricttariff/io/CsvRow") (Or.inl (hw _ (List.mem_of_getElem? (i := 20) rfl))) (Or.inl (hw _ (List.mem_of_getElem? (i := 27) rfl))) (by decide) (t := .array (.object "java/lang/String")) (by decide) (t' := .int) (by decide)
theorem own_sl_size_text {Z : State} {a0 : Array Value} (hw : ∀ d ∈ tables_1, d.before a0 Z = true) : Jvm.RoadKit.slotOf Z "com/example/strict_tariff/stricttariff/io/CsvRow" "size" "I" ≠ Jvm.RoadKit.slotOf Z "com/example/strict_tariff/stricttariff/io/CsvRow" "text" "[C" := slot_ne (C := "com/example/strict_tariff/stricttariff/io/CsvRow") (Or.inl (hw _ (List.mem_of_getElem? (i := 27) rfl))) (Or.inl (hw _ (List.mem_of_getElem? (i := 11) rfl))) (by decide) (t := .int) (by decide) (t' := .array .char) (by decide)
theorem own_sl_size_starts {Z : State} {a0 : Array Value} (hw : ∀ d ∈ tables_1, d.before a0 Z = true) : Jvm.RoadKit.slotOf Z "com/example/strict_tariff/stricttariff/io/CsvRow" "size" "I" ≠ Jvm.RoadKit.slotOf Z "com/example/strict_tariff/stricttariff/io/CsvRow" "starts" "[I" := slot_ne (C := "com/example/strict_tariff/stricttariff/io/CsvRow") (Or.inl (hw _ (List.mem_of_getElem? (i := 27) rfl))) (Or.inl (hw _ (List.mem_of_getElem? (i := 14) rfl))) (by decide) (t := .int) (by decide) (t' := .array .int) (by decide)
theorem own_sl_size_ends {Z : State} {a0 : Array Value} (hw : ∀ d ∈ tables_1, d.before a0 Z = true) : Jvm.RoadKit.slotOf Z "com/example/strict_tariff/stricttariff/io/CsvRow" "size" "I" ≠ Jvm.RoadKit.slotOf Z "com/example/strict_tariff/stricttariff/io/CsvRow" "ends" "[I" := slot_ne (C := "com/example/strict_tariff/stricttariff/io/CsvRow") (Or.inl (hw _ (List.mem_of_getElem? (i := 27) rfl))) (Or.inl (hw _ (List.mem_of_getElem? (i := 16) rfl))) (by decide) (t := .int) (by decide) (t' := .array .int) (by decide)
theorem own_sl_size_taken {Z : State} {a0 : Array Value} (hw : ∀ d ∈ tables_1, d.before a0 Z = true) : Jvm.RoadKit.slotOf Z "com/example/strict_tariff/stricttariff/io/CsvRow" "size" "I" ≠ Jvm.RoadKit.slotOf Z "com/example/strict_tariff/stricttariff/io/CsvRow" "taken" "[Ljava/lang/String;" := slot_ne (C := "com/example/strict_tariff/stricttariff/io/CsvRow") (Or.inl (hw _ (List.mem_of_getElem? (i := 27) rfl))) (Or.inl (hw _ (List.mem_of_getElem? (i := 20) rfl))) (by decide) (t := .int) (by decide) (t' := .array (.object "java/lang/String")) (by decide)
theorem own_ss_value_coder {Z : State} {a0 : Array Value} (hw : ∀ d ∈ tables_1, d.before a0 Z = true) : Jvm.RoadKit.slotOf Z "java/lang/String" "value" "[B" ≠ Jvm.RoadKit.slotOf Z "java/lang/String" "coder" "B" := slot_ne (C := "java/lang/String") (Or.inr (hw _ (List.mem_of_getElem? (i := 86) rfl))) (Or.inr (hw _ (List.mem_of_getElem? (i := 84) rfl))) (by decide) (t := .array .byte) (by decide) (t' := .byte) (by decide)
theorem own_ss_coder_value {Z : State} {a0 : Array Value} (hw : ∀ d ∈ tables_1, d.before a0 Z = true) : Jvm.RoadKit.slotOf Z "java/lang/String" "coder" "B" ≠ Jvm.RoadKit.slotOf Z "java/lang/String" "value" "[B" := slot_ne (C := "java/lang/String") (Or.inr (hw _ (List.mem_of_getElem? (i := 84) rfl))) (Or.inr (hw _ (List.mem_of_getElem? (i := 86) rfl))) (by decide) (t := .byte) (by decide) (t' := .array .byte) (by decide)
theorem d1_0 : Dec prog_57_method_1_code 0 (.aload_n 0) 1 1 := ⟨by decide +kernel, rfl⟩
theorem d1_1 : Dec prog_57_method_1_code 1 (.invokespecial 1) 3 4 := ⟨by decide +kernel, rfl⟩
theorem d1_4 : Dec prog_57_method_1_code 4 (.aload_n 0) 1 5 := ⟨by decide +kernel, rfl⟩
theorem d1_5 : Dec prog_57_method_1_code 5 (.iconst 0) 1 6 := ⟨by decide +kernel, rfl⟩
theorem d1_6 : Dec prog_57_method_1_code 6 (.newarray .char) 2 8 := ⟨by decide +kernel, rfl⟩
theorem d1_8 : Dec prog_57_method_1_code 8 (.putfield 7) 3 11 := ⟨by decide +kernel, rfl⟩
theorem d1_11 : Dec prog_57_method_1_code 11 (.aload_n 0) 1 12 := ⟨by decide +kernel, rfl⟩
theorem d1_12 : Dec prog_57_method_1_code 12 (.bipush 16) 2 14 := ⟨by decide +kernel, rfl⟩
theorem d1_14 : Dec prog_57_method_1_code 14 (.newarray .int) 2 16 := ⟨by decide +kernel, rfl⟩
theorem d1_16 : Dec prog_57_method_1_code 16 (.putfield 13) 3 19 := ⟨by decide +kernel, rfl⟩
theorem d1_19 : Dec prog_57_method_1_code 19 (.aload_n 0) 1 20 := ⟨by decide +kernel, rfl⟩
theorem d1_20 : Dec prog_57_method_1_code 20 (.bipush 16) 2 22 := ⟨by decide +kernel, rfl⟩
theorem d1_22 : Dec prog_57_method_1_code 22 (.newarray .int) 2 24 := ⟨by decide +kernel, rfl⟩
theorem d1_24 : Dec prog_57_method_1_code 24 (.putfield 17) 3 27 := ⟨by decide +kernel, rfl⟩
theorem d1_27 : Dec prog_57_method_1_code 27 (.aload_n 0) 1 28 := ⟨by decide +kernel, rfl⟩
theorem d1_28 : Dec prog_57_method_1_code 28 (.bipush 16) 2 30 := ⟨by decide +kernel, rfl⟩
theorem d1_30 : Dec prog_57_method_1_code 30 (.anewarray 20) 3 33 := ⟨by decide +kernel, rfl⟩
theorem d1_33 : Dec prog_57_method_1_code 33 (.putfield 22) 3 36 := ⟨by decide +kernel, rfl⟩
theorem d1_36 : Dec prog_57_method_1_code 36 (.return_) 1 37 := ⟨by decide +kernel, rfl⟩
theorem pn1 : plainFor (⟨"com/example/strict_tariff/stricttariff/io/CsvRow", "<init>", "()V"⟩ : MethodName) = true := by first | exact plainFor_of_name (by first | (simp [plainName, overriddenIn]; done) | decide +kernel) | decide +kernel
theorem ef1 (x0 : Addr) (m : MethodId) : entryFrame m #[(.ref x0)] 1 = mkF m 0 #[.val (.ref x0)] [] := by first | (simp [entryFrame, mkF, argsToLocals, Value.category, maxLocals]; done) | rfl
set_option maxRecDepth 65536 in
set_option maxHeartbeats 40000000 in
theorem rm1 (l : Launch) (Z : State) (a0 : Array Value) (hw : ∀ d ∈ tables_1, d.before a0 Z = true) (ws : List Jvm.Cond) (a : Addr) (h0 : Heap) (E : Exa Z h0 a "com/example/strict_tariff/stricttariff/io/CsvRow") (Ftext : Fld Z h0 a "com/example/strict_tariff/stricttariff/io/CsvRow" "text" "[C" .null) (Fstarts : Fld Z h0 a "com/example/strict_tariff/stricttariff/io/CsvRow" "starts" "[I" .null) (Fends : Fld Z h0 a "com/example/strict_tariff/stricttariff/io/CsvRow" "ends" "[I" .null) (Ftaken : Fld Z h0 a "com/example/strict_tariff/stricttariff/io/CsvRow" "taken" "[Ljava/lang/String;" .null) (Fsize : Fld Z h0 a "com/example/strict_tariff/stricttariff/io/CsvRow" "size" "I" (.int 0)) : Ct l Z (⟨"com/example/strict_tariff/stricttariff/io/CsvRow", "<init>", "()V"⟩ : MethodName) prog_57_method_1_code 1 none ws ({ frames := 1, cells := 4, slots := 48, locals := 12 } : Room) #[(.ref a)] h0 (fun v h L => v = none ∧ (∀ y ∈ L, y.base = a) ∧ Keep h0 h [a] ∧ ∃ t st en tk kS kE kT, own_R Z h a t st en tk kS kE kT 0 [.int 0, .int 0, .int 0] [.int 0, .int 0, .int 0] [.null, .null, .null] ∧ h0.size ≤ st ∧ h0.size ≤ en ∧ h0.size ≤ tk) := by
  refine Ct.of (pn1) _ (ef1 a) ?_
  intro p e s m below meth c T0 hx hby hml hZ hown hnm hret hk e0 X0
  show Go p e below _ (T0.setTop (mkF m 0 #[.val (.ref a)] []))
  refine go_aloadn X0 hx (dc hby d1_0) (v := (.ref a)) rfl rfl ?_
  refine go_initO X0 hx hZ hown (hw _ (List.mem_of_getElem? (i := 7) rfl)) (hw _ (List.mem_of_getElem? (i := 8) rfl)) (hw _ (List.mem_of_getElem? (i := 9) rfl)) e0 (by rw [hml]; rfl) (dc hby d1_1) (by decide) 0 (Nat.le_of_eq rfl) (by decide) (fun T1 X1 e1 => ?_)
  refine go_aloadn X1 hx (dc hby d1_4) (v := (.ref a)) rfl rfl ?_
  refine go_iconst X1 hx (0) (dc hby d1_5) rfl ?_
  have KP := Keep.refl h0 [a]
  refine go_newP X1 hx hZ (hw _ (List.mem_of_getElem? (i := 0) rfl)) e1 (dc hby d1_6) (by decide) 0 (by decide) (by decide) (by decide) (by decide) (fun T2 h2 ktA tA g2 X2 e2 E2 A2 => ?_)
  have lt_a_tA : a < tA := by rw [g2]; exact E.lt
  have ne_a_tA := Nat.ne_of_lt lt_a_tA
  have ne_tA_a := Nat.ne_of_gt lt_a_tA
  have hs_tA : h0.size ≤ tA := by rw [g2]; exact KP.1
  have z1 := E.ext E2
  have z2 := Ftext.ext E2
  have z3 := Fstarts.ext E2
  have z4 := Fends.ext E2
  have z5 := Ftaken.ext E2
  have z6 := Fsize.ext E2
  have KE2 := KP.ext E2
  have VtA : Arv Z h2 tA ktA .char 0 [] (.int 0) := Arv.new A2 (by decide)
  refine go_putF X2 hx hZ (host := "") hown (Or.inl (hw _ (List.mem_of_getElem? (i := 10) rfl))) Via.refl e2 z2 z1 (Or.inl (hw _ (List.mem_of_getElem? (i := 11) rfl))) (hw _ (List.mem_of_getElem? (i := 2) rfl)) (ty := .array .char) (by decide) rfl rfl (dc hby d1_8) (fun T3 h3 X3 e3 W3 => ?_)
  have z7 := z1.wr W3
  have z8 := z2.same W3
  have z9 := z3.other W3 (Or.inr (own_sl_starts_text hw))
  have z10 := z4.other W3 (Or.inr (own_sl_ends_text hw))
  have z11 := z5.other W3 (Or.inr (own_sl_taken_text hw))
  have z12 := z6.other W3 (Or.inr (own_sl_size_text hw))
  have z13 := VtA.other W3 ne_tA_a
  have KW3 := KE2.wr W3 (Or.inl (by simp))
  refine go_aloadn X3 hx (dc hby d1_11) (v := (.ref a)) rfl rfl ?_
  refine go_bipush X3 hx (16) (dc hby d1_12) rfl ?_
  refine go_newP X3 hx hZ (hw _ (List.mem_of_getElem? (i := 12) rfl)) e3 (dc hby d1_14) (by decide) 16 (by decide) (by decide) (by decide) (by decide) (fun T4 h4 kst st g4 X4 e4 E4 A4 => ?_)
  have lt_a_st : a < st := by rw [g4]; exact z7.lt
  have ne_a_st := Nat.ne_of_lt lt_a_st
  have ne_st_a := Nat.ne_of_gt lt_a_st
  have lt_tA_st : tA < st := by rw [g4]; exact z13.lt
  have ne_tA_st := Nat.ne_of_lt lt_tA_st
  have ne_st_tA := Nat.ne_of_gt lt_tA_st
  have hs_st : h0.size ≤ st := by rw [g4]; exact KW3.1
  have z14 := z7.ext E4
  have z15 := z8.ext E4
  have z16 := z9.ext E4
  have z17 := z10.ext E4
  have z18 := z11.ext E4
  have z19 := z12.ext E4
  have z20 := z13.ext E4
  have KE4 := KW3.ext E4
  have Vst : Arv Z h4 st kst .int 16 [.int 0, .int 0, .int 0] (.int 0) := (Arv.new A4 (by decide)).pad (own_rep (n := 3))
  refine go_putF X4 hx hZ (host := "") hown (Or.inl (hw _ (List.mem_of_getElem? (i := 13) rfl))) Via.refl e4 z16 z14 (Or.inl (hw _ (List.mem_of_getElem? (i := 14) rfl))) (hw _ (List.mem_of_getElem? (i := 2) rfl)) (ty := .array .int) (by decide) rfl rfl (dc hby d1_16) (fun T5 h5 X5 e5 W5 => ?_)
  have z21 := z14.wr W5
  have z22 := z15.other W5 (Or.inr (own_sl_text_starts hw))
  have z23 := z16.same W5
  have z24 := z17.other W5 (Or.inr (own_sl_ends_starts hw))
  have z25 := z18.other W5 (Or.inr (own_sl_taken_starts hw))
  have z26 := z19.other W5 (Or.inr (own_sl_size_starts hw))
  have z27 := z20.other W5 ne_tA_a
  have z28 := Vst.other W5 ne_st_a
  have KW5 := KE4.wr W5 (Or.inl (by simp))
  refine go_aloadn X5 hx (dc hby d1_19) (v := (.ref a)) rfl rfl ?_
  refine go_bipush X5 hx (16) (dc hby d1_20) rfl ?_
  refine go_newP X5 hx hZ (hw _ (List.mem_of_getElem? (i := 12) rfl)) e5 (dc hby d1_22) (by decide) 16 (by decide) (by decide) (by decide) (by decide) (fun T6 h6 ken en g6 X6 e6 E6 A6 => ?_)
  have lt_a_en : a < en := by rw [g6]; exact z21.lt
  have ne_a_en := Nat.ne_of_lt lt_a_en
  have ne_en_a := Nat.ne_of_gt lt_a_en
  have lt_tA_en : tA < en := by rw [g6]; exact z27.lt
  have ne_tA_en := Nat.ne_of_lt lt_tA_en
  have ne_en_tA := Nat.ne_of_gt lt_tA_en
  have lt_st_en : st < en := by rw [g6]; exact z28.lt
  have ne_st_en := Nat.ne_of_lt lt_st_en
  have ne_en_st := Nat.ne_of_gt lt_st_en
  have hs_en : h0.size ≤ en := by rw [g6]; exact KW5.1
  have z29 := z21.ext E6
  have z30 := z22.ext E6
  have z31 := z23.ext E6
  have z32 := z24.ext E6
  have z33 := z25.ext E6
  have z34 := z26.ext E6
  have z35 := z27.ext E6
  have z36 := z28.ext E6
  have KE6 := KW5.ext E6
  have Ven : Arv Z h6 en ken .int 16 [.int 0, .int 0, .int 0] (.int 0) := (Arv.new A6 (by decide)).pad (own_rep (n := 3))
  refine go_putF X6 hx hZ (host := "") hown (Or.inl (hw _ (List.mem_of_getElem? (i := 15) rfl))) Via.refl e6 z32 z29 (Or.inl (hw _ (List.mem_of_getElem? (i := 16) rfl))) (hw _ (List.mem_of_getElem? (i := 2) rfl)) (ty := .array .int) (by decide) rfl rfl (dc hby d1_24) (fun T7 h7 X7 e7 W7 => ?_)
  have z37 := z29.wr W7
  have z38 := z30.other W7 (Or.inr (own_sl_text_ends hw))
  have z39 := z31.other W7 (Or.inr (own_sl_starts_ends hw))
  have z40 := z32.same W7
  have z41 := z33.other W7 (Or.inr (own_sl_taken_ends hw))
  have z42 := z34.other W7 (Or.inr (own_sl_size_ends hw))
  have z43 := z35.other W7 ne_tA_a
  have z44 := z36.other W7 ne_st_a
  have z45 := Ven.other W7 ne_en_a
  have KW7 := KE6.wr W7 (Or.inl (by simp))
  refine go_aloadn X7 hx (dc hby d1_27) (v := (.ref a)) rfl rfl ?_
  refine go_bipush X7 hx (16) (dc hby d1_28) rfl ?_
  refine go_newR X7 hx hZ hown (hw _ (List.mem_of_getElem? (i := 17) rfl)) (hw _ (List.mem_of_getElem? (i := 18) rfl)) e7 (dc hby d1_30) (by decide) 16 (by decide) (by decide) (by decide) (by decide) (fun T8 h8 ktk tk g8 X8 e8 E8 A8 OT => ?_)
  have lt_a_tk : a < tk := by rw [g8]; exact z37.lt
  have ne_a_tk := Nat.ne_of_lt lt_a_tk
  have ne_tk_a := Nat.ne_of_gt lt_a_tk
  have lt_tA_tk : tA < tk := by rw [g8]; exact z43.lt
  have ne_tA_tk := Nat.ne_of_lt lt_tA_tk
  have ne_tk_tA := Nat.ne_of_gt lt_tA_tk
  have lt_st_tk : st < tk := by rw [g8]; exact z44.lt
  have ne_st_tk := Nat.ne_of_lt lt_st_tk
  have ne_tk_st := Nat.ne_of_gt lt_st_tk
  have lt_en_tk : en < tk := by rw [g8]; exact z45.lt
  have ne_en_tk := Nat.ne_of_lt lt_en_tk
  have ne_tk_en := Nat.ne_of_gt lt_en_tk
  have hs_tk : h0.size ≤ tk := by rw [g8]; exact KW7.1
  have z46 := z37.ext E8
  have z47 := z38.ext E8
  have z48 := z39.ext E8
  have z49 := z40.ext E8
  have z50 := z41.ext E8
  have z51 := z42.ext E8
  have z52 := z43.ext E8
  have z53 := z44.ext E8
  have z54 := z45.ext E8
  have KE8 := KW7.ext E8
  have Vtk : Arv Z h8 tk ktk (.object "java/lang/String") 16 [.null, .null, .null] .null := (Arv.new A8 (by decide)).pad (own_rep (n := 3))
  refine go_putF X8 hx hZ (host := "") hown (Or.inl (hw _ (List.mem_of_getElem? (i := 19) rfl))) Via.refl e8 z50 z46 (Or.inl (hw _ (List.mem_of_getElem? (i := 20) rfl))) (hw _ (List.mem_of_getElem? (i := 2) rfl)) (ty := .array (.object "java/lang/String")) (by decide) rfl rfl (dc hby d1_33) (fun T9 h9 X9 e9 W9 => ?_)
  have z55 := z46.wr W9
  have z56 := z47.other W9 (Or.inr (own_sl_text_taken hw))
  have z57 := z48.other W9 (Or.inr (own_sl_starts_taken hw))
  have z58 := z49.other W9 (Or.inr (own_sl_ends_taken hw))
  have z59 := z50.same W9
  have z60 := z51.other W9 (Or.inr (own_sl_size_taken hw))
  have z61 := z52.other W9 ne_tA_a
  have z62 := z53.other W9 ne_st_a
  have z63 := z54.other W9 ne_en_a
  have z64 := Vtk.other W9 ne_tk_a
  have KW9 := KE8.wr W9 (Or.inl (by simp))
  subst e9
  exact go_retV X9 hx hret (dc hby d1_36) hk (by decide) (by decide) ⟨rfl, fun y hy => by simp at hy; rcases hy with rfl | rfl | rfl | rfl <;> rfl, KW9, tA, st, en, tk, kst, ken, ktk, ⟨z55, z56, z57, z58, z59, z60, z62, z63, z64, OT, ne_a_st, ne_a_en, ne_a_tk, ne_en_st, ne_tk_st, ne_tk_en⟩, hs_st, hs_en, hs_tk⟩
theorem pd1 : parseMethodDescriptor "()V" = some ⟨[], none⟩ := by decide +kernel
theorem d5_0 : Dec prog_57_method_10_code 0 (.aload_n 0) 1 1 := ⟨by decide +kernel, rfl⟩
theorem d5_1 : Dec prog_57_method_10_code 1 (.aload_n 1) 1 2 := ⟨by decide +kernel, rfl⟩
theorem d5_2 : Dec prog_57_method_10_code 2 (.putfield 7) 3 5 := ⟨by decide +kernel, rfl⟩
theorem d5_5 : Dec prog_57_method_10_code 5 (.return_) 1 6 := ⟨by decide +kernel, rfl⟩
theorem pn5 : plainFor (⟨"com/example/strict_tariff/stricttariff/io/CsvRow", "setText", "([C)V"⟩ : MethodName) = true := by first | exact plainFor_of_name (by first | (simp [plainName, overriddenIn]; done) | decide +kernel) | decide +kernel
theorem ef5 (x0 : Addr) (x1 : Addr) (m : MethodId) : entryFrame m #[(.ref x0), (.ref x1)] 2 = mkF m 0 #[.val (.ref x0), .val (.ref x1)] [] := by first | (simp [entryFrame, mkF, argsToLocals, Value.category, maxLocals]; done) | rfl
set_option maxRecDepth 65536 in
set_option maxHeartbeats 40000000 in
theorem rm5 (l : Launch) (Z : State) (a0 : Array Value) (hw : ∀ d ∈ tables_1, d.before a0 Z = true) (ws : List Jvm.Cond) (a b : Addr) (t st en tk : Addr) (kS kE kT : ClassId) (n : Int32) (vs ve vt : List Value) (h0 : Heap) (FR : own_R Z h0 a t st en tk kS kE kT n vs ve vt) : Ct l Z (⟨"com/example/strict_tariff/stricttariff/io/CsvRow", "setText", "([C)V"⟩ : MethodName) prog_57_method_10_code 2 none ws ({ frames := 0, cells := 0, slots := 0, locals := 0 } : Room) #[(.ref a), (.ref b)] h0 (fun v h L => v = none ∧ (∀ y ∈ L, y.base = a) ∧ Keep h0 h [a] ∧ own_R Z h a b st en tk kS kE kT n vs ve vt) := by
  refine Ct.of (pn5) _ (ef5 a b) ?_
  intro p e s m below meth c T0 hx hby hml hZ hown hnm hret hk e0 X0
  obtain ⟨E, Ft, Fs, Fe, Fk, Fz, VS, VE, VT, OT, q1, q2, q3, q4, q5, q6⟩ := FR
  show Go p e below _ (T0.setTop (mkF m 0 #[.val (.ref a), .val (.ref b)] []))
  refine go_aloadn X0 hx (dc hby d5_0) (v := (.ref a)) rfl rfl ?_
  refine go_aloadn X0 hx (dc hby d5_1) (v := (.ref b)) rfl rfl ?_
  refine go_putF X0 hx hZ (host := "") hown (Or.inl (hw _ (List.mem_of_getElem? (i := 10) rfl))) Via.refl e0 Ft E (Or.inl (hw _ (List.mem_of_getElem? (i := 11) rfl))) (hw _ (List.mem_of_getElem? (i := 2) rfl)) (ty := .array .char) (by decide) rfl rfl (dc hby d5_2) (fun T1 h1 X1 e1 W1 => ?_)
  have z1 := E.wr W1
  have z2 := Ft.same W1
  have z3 := Fs.other W1 (Or.inr (own_sl_starts_text hw))
  have z4 := Fe.other W1 (Or.inr (own_sl_ends_text hw))
  have z5 := Fk.other W1 (Or.inr (own_sl_taken_text hw))
  have z6 := Fz.other W1 (Or.inr (own_sl_size_text hw))
  have z7 := VS.other W1 q1.symm
  have z8 := VE.other W1 q2.symm
  have z9 := VT.other W1 q3.symm
  subst e1
  exact go_retV X1 hx hret (dc hby d5_5) hk (by decide) (by decide) ⟨rfl, fun y hy => by simp at hy; rw [hy], (Keep.refl _ _).wr W1 (Or.inl (by simp)), ⟨z1, z2, z3, z4, z5, z6, z7, z8, z9, OT, q1, q2, q3, q4, q5, q6⟩⟩
theorem pd5 : parseMethodDescriptor "([C)V" = some ⟨[(.array .char)], none⟩ := by decide +kernel
theorem d3_0 : Dec prog_57_method_8_code 0 (.aload_n 0) 1 1 := ⟨by decide +kernel, rfl⟩
theorem d3_1 : Dec prog_57_method_8_code 1 (.getfield 26) 3 4 := ⟨by decide +kernel, rfl⟩
theorem d3_4 : Dec prog_57_method_8_code 4 (.aload_n 0) 1 5 := ⟨by decide +kernel, rfl⟩
theorem d3_5 : Dec prog_57_method_8_code 5 (.getfield 13) 3 8 := ⟨by decide +kernel, rfl⟩
theorem d3_8 : Dec prog_57_method_8_code 8 (.arraylength) 1 9 := ⟨by decide +kernel, rfl⟩
theorem d3_9 : DecB prog_57_method_8_code 9 (.if_icmp .ne 57) (57) 12 66 := ⟨by decide +kernel, rfl, by decide, by decide⟩
theorem d3_66 : Dec prog_57_method_8_code 66 (.aload_n 0) 1 67 := ⟨by decide +kernel, rfl⟩
theorem d3_67 : Dec prog_57_method_8_code 67 (.getfield 13) 3 70 := ⟨by decide +kernel, rfl⟩
theorem d3_70 : Dec prog_57_method_8_code 70 (.aload_n 0) 1 71 := ⟨by decide +kernel, rfl⟩
theorem d3_71 : Dec prog_57_method_8_code 71 (.getfield 26) 3 74 := ⟨by decide +kernel, rfl⟩
theorem d3_74 : Dec prog_57_method_8_code 74 (.iload_n 1) 1 75 := ⟨by decide +kernel, rfl⟩
theorem d3_75 : Dec prog_57_method_8_code 75 (.iastore) 1 76 := ⟨by decide +kernel, rfl⟩
theorem d3_76 : Dec prog_57_method_8_code 76 (.aload_n 0) 1 77 := ⟨by decide +kernel, rfl⟩
theorem d3_77 : Dec prog_57_method_8_code 77 (.getfield 17) 3 80 := ⟨by decide +kernel, rfl⟩
theorem d3_80 : Dec prog_57_method_8_code 80 (.aload_n 0) 1 81 := ⟨by decide +kernel, rfl⟩
theorem d3_81 : Dec prog_57_method_8_code 81 (.getfield 26) 3 84 := ⟨by decide +kernel, rfl⟩
theorem d3_84 : Dec prog_57_method_8_code 84 (.iload_n 2) 1 85 := ⟨by decide +kernel, rfl⟩
theorem d3_85 : Dec prog_57_method_8_code 85 (.iastore) 1 86 := ⟨by decide +kernel, rfl⟩
theorem d3_86 : Dec prog_57_method_8_code 86 (.aload_n 0) 1 87 := ⟨by decide +kernel, rfl⟩
theorem d3_87 : Dec prog_57_method_8_code 87 (.dup) 1 88 := ⟨by decide +kernel, rfl⟩
theorem d3_88 : Dec prog_57_method_8_code 88 (.getfield 26) 3 91 := ⟨by decide +kernel, rfl⟩
theorem d3_91 : Dec prog_57_method_8_code 91 (.iconst 1) 1 92 := ⟨by decide +kernel, rfl⟩
theorem d3_92 : Dec prog_57_method_8_code 92 (.iadd) 1 93 := ⟨by decide +kernel, rfl⟩
theorem d3_93 : Dec prog_57_method_8_code 93 (.putfield 26) 3 96 := ⟨by decide +kernel, rfl⟩
theorem d3_96 : Dec prog_57_method_8_code 96 (.return_) 1 97 := ⟨by decide +kernel, rfl⟩
theorem pn3 : plainFor (⟨"com/example/strict_tariff/stricttariff/io/CsvRow", "add", "(II)V"⟩ : MethodName) = true := by first | exact plainFor_of_name (by first | (simp [plainName, overriddenIn]; done) | decide +kernel) | decide +kernel
theorem ef3 (x0 : Addr) (x1 : Int32) (x2 : Int32) (m : MethodId) : entryFrame m #[(.ref x0), (.int x1), (.int x2)] 3 = mkF m 0 #[.val (.ref x0), .val (.int x1), .val (.int x2)] [] := by first | (simp [entryFrame, mkF, argsToLocals, Value.category, maxLocals]; done) | rfl
set_option maxRecDepth 65536 in
set_option maxHeartbeats 40000000 in
theorem rm3 (l : Launch) (Z : State) (a0 : Array Value) (hw : ∀ d ∈ tables_1, d.before a0 Z = true) (ws : List Jvm.Cond) (a : Addr) (x y : Int32) (t st en tk : Addr) (kS kE kT : ClassId) (n n1 : Int32) (i : Nat) (vs ve vt : List Value) (h0 : Heap) (FR : own_R Z h0 a t st en tk kS kE kT n vs ve vt) (hn : ¬ n < 0 ∧ n < 16) (h16 : ¬ n = 16) (h1 : n + 1 = n1) (hi : n.toNatClampNeg = i) (hls : i < vs.length) (hle : i < ve.length) : Ct l Z (⟨"com/example/strict_tariff/stricttariff/io/CsvRow", "add", "(II)V"⟩ : MethodName) prog_57_method_8_code 3 none ws ({ frames := 0, cells := 0, slots := 0, locals := 0 } : Room) #[(.ref a), (.int x), (.int y)] h0 (fun v h L => v = none ∧ (∀ y ∈ L, y.base = a ∨ y.base = st ∨ y.base = en) ∧ Keep h0 h [a, st, en] ∧ own_R Z h a t st en tk kS kE kT n1 (vs.set i (.int x)) (ve.set i (.int y)) vt) := by
  refine Ct.of (pn3) _ (ef3 a x y) ?_
  intro p e s m below meth c T0 hx hby hml hZ hown hnm hret hk e0 X0
  obtain ⟨E, Ft, Fs, Fe, Fk, Fz, VS, VE, VT, OT, q1, q2, q3, q4, q5, q6⟩ := FR
  show Go p e below _ (T0.setTop (mkF m 0 #[.val (.ref a), .val (.int x), .val (.int y)] []))
  refine go_aloadn X0 hx (dc hby d3_0) (v := (.ref a)) rfl rfl ?_
  refine go_getF X0 hx hZ (host := "") hown (Or.inl (hw _ (List.mem_of_getElem? (i := 26) rfl))) Via.refl e0 Fz (dc hby d3_1) (fun T1 X1 e1 => ?_)
  refine go_aloadn X1 hx (dc hby d3_4) (v := (.ref a)) rfl rfl ?_
  refine go_getF X1 hx hZ (host := "") hown (Or.inl (hw _ (List.mem_of_getElem? (i := 13) rfl))) Via.refl e1 Fs (dc hby d3_5) (fun T2 X2 e2 => ?_)
  have VS' := VS
  obtain ⟨cS, AS, _, SS, zS, _, _⟩ := VS'
  refine go_alen X2 hx hZ e2 AS SS zS (dc hby d3_8) ?_
  refine go_icmp_ne X2 hx (db hby d3_9) (fun c9 => ?_) (fun c9 => absurd c9 h16)
  refine go_aloadn X2 hx (dc hby d3_66) (v := (.ref a)) rfl rfl ?_
  refine go_getF X2 hx hZ (host := "") hown (Or.inl (hw _ (List.mem_of_getElem? (i := 13) rfl))) Via.refl e2 Fs (dc hby d3_67) (fun T3 X3 e3 => ?_)
  refine go_aloadn X3 hx (dc hby d3_70) (v := (.ref a)) rfl rfl ?_
  refine go_getF X3 hx hZ (host := "") hown (Or.inl (hw _ (List.mem_of_getElem? (i := 26) rfl))) Via.refl e3 Fz (dc hby d3_71) (fun T4 X4 e4 => ?_)
  refine go_iloadn X4 hx (dc hby d3_74) (v := x) rfl ?_
  refine go_iastoreV X4 hx hZ e4 VS hn i hi hls (dc hby d3_75) (fun T5 h5 X5 e5 W5 V5 => ?_)
  have z1 := E.wr W5
  have z2 := Ft.other W5 (Or.inl q1)
  have z3 := Fs.other W5 (Or.inl q1)
  have z4 := Fe.other W5 (Or.inl q1)
  have z5 := Fk.other W5 (Or.inl q1)
  have z6 := Fz.other W5 (Or.inl q1)
  have z7 := VE.other W5 q4
  have z8 := VT.other W5 q5
  refine go_aloadn X5 hx (dc hby d3_76) (v := (.ref a)) rfl rfl ?_
  refine go_getF X5 hx hZ (host := "") hown (Or.inl (hw _ (List.mem_of_getElem? (i := 15) rfl))) Via.refl e5 z4 (dc hby d3_77) (fun T6 X6 e6 => ?_)
  refine go_aloadn X6 hx (dc hby d3_80) (v := (.ref a)) rfl rfl ?_
  refine go_getF X6 hx hZ (host := "") hown (Or.inl (hw _ (List.mem_of_getElem? (i := 26) rfl))) Via.refl e6 z6 (dc hby d3_81) (fun T7 X7 e7 => ?_)
  refine go_iloadn X7 hx (dc hby d3_84) (v := y) rfl ?_
  refine go_iastoreV X7 hx hZ e7 z7 hn i hi hle (dc hby d3_85) (fun T8 h8 X8 e8 W8 V8 => ?_)
  have z9 := z1.wr W8
  have z10 := z2.other W8 (Or.inl q2)
  have z11 := z3.other W8 (Or.inl q2)
  have z12 := z4.other W8 (Or.inl q2)
  have z13 := z5.other W8 (Or.inl q2)
  have z14 := z6.other W8 (Or.inl q2)
  have z15 := V5.other W8 q4.symm
  have z16 := z8.other W8 q6
  refine go_aloadn X8 hx (dc hby d3_86) (v := (.ref a)) rfl rfl ?_
  refine go_dup X8 hx (dc hby d3_87) rfl ?_
  refine go_getF X8 hx hZ (host := "") hown (Or.inl (hw _ (List.mem_of_getElem? (i := 26) rfl))) Via.refl e8 z14 (dc hby d3_88) (fun T9 X9 e9 => ?_)
  refine go_iconst X9 hx (1) (dc hby d3_91) rfl ?_
  refine go_iadd X9 hx (dc hby d3_92) ?_
  rw [h1]
  show Go p e below _ (T9.setTop (mkF m 93 #[.val (.ref a), .val (.int x), .val (.int y)] [(.int n1), (.ref a)]))
  refine go_putF X9 hx hZ (host := "") hown (Or.inl (hw _ (List.mem_of_getElem? (i := 26) rfl))) Via.refl e9 z14 z9 (Or.inl (hw _ (List.mem_of_getElem? (i := 27) rfl))) (hw _ (List.mem_of_getElem? (i := 2) rfl)) (ty := .int) (by decide) rfl rfl (dc hby d3_93) (fun T10 h10 X10 e10 W10 => ?_)
  have z17 := z9.wr W10
  have z18 := z10.other W10 (Or.inr (own_sl_text_size hw))
  have z19 := z11.other W10 (Or.inr (own_sl_starts_size hw))
  have z20 := z12.other W10 (Or.inr (own_sl_ends_size hw))
  have z21 := z13.other W10 (Or.inr (own_sl_taken_size hw))
  have z22 := z14.same W10
  have z23 := z15.other W10 q1.symm
  have z24 := V8.other W10 q2.symm
  have z25 := z16.other W10 q3.symm
  subst e10
  exact go_retV X10 hx hret (dc hby d3_96) hk (by decide) (by decide) ⟨rfl, fun y hy => by simp at hy; rcases hy with rfl | rfl | rfl <;> simp, (((Keep.refl _ _).wr W5 (Or.inl (by simp))).wr W8 (Or.inl (by simp))).wr W10 (Or.inl (by simp)), ⟨z17, z18, z19, z20, z21, z22, z23, z24, z25, OT, q1, q2, q3, q4, q5, q6⟩⟩
theorem pd3 : parseMethodDescriptor "(II)V" = some ⟨[.int, .int], none⟩ := by decide +kernel
theorem d4_0 : Dec prog_57_method_9_code 0 (.iconst 0) 1 1 := ⟨by decide +kernel, rfl⟩
theorem d4_1 : Dec prog_57_method_9_code 1 (.istore_n 2) 1 2 := ⟨by decide +kernel, rfl⟩
theorem d4_2 : Dec prog_57_method_9_code 2 (.iload_n 2) 1 3 := ⟨by decide +kernel, rfl⟩
theorem d4_3 : Dec prog_57_method_9_code 3 (.aload_n 0) 1 4 := ⟨by decide +kernel, rfl⟩
theorem d4_4 : Dec prog_57_method_9_code 4 (.getfield 26) 3 7 := ⟨by decide +kernel, rfl⟩
theorem d4_7 : DecB prog_57_method_9_code 7 (.if_icmp .ge 29) (29) 10 36 := ⟨by decide +kernel, rfl, by decide, by decide⟩
theorem d4_10 : Dec prog_57_method_9_code 10 (.aload_n 0) 1 11 := ⟨by decide +kernel, rfl⟩
theorem d4_11 : Dec prog_57_method_9_code 11 (.getfield 13) 3 14 := ⟨by decide +kernel, rfl⟩
theorem d4_14 : Dec prog_57_method_9_code 14 (.iload_n 2) 1 15 := ⟨by decide +kernel, rfl⟩
theorem d4_15 : Dec prog_57_method_9_code 15 (.dup2) 1 16 := ⟨by decide +kernel, rfl⟩
theorem d4_16 : Dec prog_57_method_9_code 16 (.iaload) 1 17 := ⟨by decide +kernel, rfl⟩
theorem d4_17 : Dec prog_57_method_9_code 17 (.iload_n 1) 1 18 := ⟨by decide +kernel, rfl⟩
theorem d4_18 : Dec prog_57_method_9_code 18 (.isub) 1 19 := ⟨by decide +kernel, rfl⟩
theorem d4_19 : Dec prog_57_method_9_code 19 (.iastore) 1 20 := ⟨by decide +kernel, rfl⟩
theorem d4_20 : Dec prog_57_method_9_code 20 (.aload_n 0) 1 21 := ⟨by decide +kernel, rfl⟩
theorem d4_21 : Dec prog_57_method_9_code 21 (.getfield 17) 3 24 := ⟨by decide +kernel, rfl⟩
theorem d4_24 : Dec prog_57_method_9_code 24 (.iload_n 2) 1 25 := ⟨by decide +kernel, rfl⟩
theorem d4_25 : Dec prog_57_method_9_code 25 (.dup2) 1 26 := ⟨by decide +kernel, rfl⟩
theorem d4_26 : Dec prog_57_method_9_code 26 (.iaload) 1 27 := ⟨by decide +kernel, rfl⟩
theorem d4_27 : Dec prog_57_method_9_code 27 (.iload_n 1) 1 28 := ⟨by decide +kernel, rfl⟩
theorem d4_28 : Dec prog_57_method_9_code 28 (.isub) 1 29 := ⟨by decide +kernel, rfl⟩
theorem d4_29 : Dec prog_57_method_9_code 29 (.iastore) 1 30 := ⟨by decide +kernel, rfl⟩
theorem d4_30 : Dec prog_57_method_9_code 30 (.iinc 2 1) 3 33 := ⟨by decide +kernel, rfl⟩
theorem d4_33 : DecB prog_57_method_9_code 33 (.goto (-31)) (-31) 36 2 := ⟨by decide +kernel, rfl, by decide, by decide⟩
theorem d4_36 : Dec prog_57_method_9_code 36 (.return_) 1 37 := ⟨by decide +kernel, rfl⟩
theorem pn4 : plainFor (⟨"com/example/strict_tariff/stricttariff/io/CsvRow", "moveBack", "(I)V"⟩ : MethodName) = true := by first | exact plainFor_of_name (by first | (simp [plainName, overriddenIn]; done) | decide +kernel) | decide +kernel
theorem ef4 (x0 : Addr) (x1 : Int32) (m : MethodId) : entryFrame m #[(.ref x0), (.int x1)] 3 = mkF m 0 #[.val (.ref x0), .val (.int x1), .unset] [] := by first | (simp [entryFrame, mkF, argsToLocals, Value.category, maxLocals]; done) | rfl
set_option maxRecDepth 65536 in
set_option maxHeartbeats 40000000 in
theorem rm4c (l : Launch) (Z : State) (a0 : Array Value) (hw : ∀ d ∈ tables_1, d.before a0 Z = true) (ws : List Jvm.Cond) (a : Addr) (by_ : Int32) (t st en tk : Addr) (kS kE kT : ClassId) (x0 x1 x2 y0 y1 y2 : Int32) (vt : List Value) (h0 : Heap) (FR : own_R Z h0 a t st en tk kS kE kT 3 [.int x0, .int x1, .int x2] [.int y0, .int y1, .int y2] vt) : Ct l Z (⟨"com/example/strict_tariff/stricttariff/io/CsvRow", "moveBack", "(I)V"⟩ : MethodName) prog_57_method_9_code 3 none ws ({ frames := 0, cells := 0, slots := 0, locals := 0 } : Room) #[(.ref a), (.int by_)] h0 (fun v h L => v = none ∧ (∀ y ∈ L, y.base = st ∨ y.base = en) ∧ Keep h0 h [st, en] ∧ own_R Z h a t st en tk kS kE kT 3 [.int (x0 - by_), .int (x1 - by_), .int (x2 - by_)] [.int (y0 - by_), .int (y1 - by_), .int (y2 - by_)] vt) := by
  refine Ct.of (pn4) _ (ef4 a by_) ?_
  intro p e s m below meth c T0 hx hby hml hZ hown hnm hret hk e0 X0
  obtain ⟨E, Ft, Fs, Fe, Fk, Fz, VS, VE, VT, OT, q1, q2, q3, q4, q5, q6⟩ := FR
  have KP := Keep.refl h0 [st, en]
  show Go p e below _ (T0.setTop (mkF m 0 #[.val (.ref a), .val (.int by_), .unset] []))
  refine go_iconst X0 hx (0) (dc hby d4_0) rfl ?_
  refine go_istoren X0 hx #[.val (.ref a), .val (.int by_), .val (.int (0 : Int32))] (dc hby d4_1) rfl ?_
  refine go_iloadn X0 hx (dc hby d4_2) (v := (0 : Int32)) rfl ?_
  refine go_aloadn X0 hx (dc hby d4_3) (v := (.ref a)) rfl rfl ?_
  refine go_getF X0 hx hZ (host := "") hown (Or.inl (hw _ (List.mem_of_getElem? (i := 26) rfl))) Via.refl e0 Fz (dc hby d4_4) (fun T1 X1 e1 => ?_)
  refine go_icmp_ge X1 hx (db hby d4_7) (fun c7 => absurd c7 (by decide)) (fun c7 => ?_)
  refine go_aloadn X1 hx (dc hby d4_10) (v := (.ref a)) rfl rfl ?_
  refine go_getF X1 hx hZ (host := "") hown (Or.inl (hw _ (List.mem_of_getElem? (i := 13) rfl))) Via.refl e1 Fs (dc hby d4_11) (fun T2 X2 e2 => ?_)
  refine go_iloadn X2 hx (dc hby d4_14) (v := (0 : Int32)) rfl ?_
  refine go_dup2 X2 hx (dc hby d4_15) rfl rfl ?_
  refine go_ialoadV X2 hx hZ e2 VS (by decide) (w := x0) rfl (dc hby d4_16) ?_
  refine go_iloadn X2 hx (dc hby d4_17) (v := by_) rfl ?_
  refine go_isub X2 hx (dc hby d4_18) ?_
  refine go_iastoreV X2 hx hZ e2 VS (by decide) 0 rfl (by simp) (dc hby d4_19) (fun T3 h3 X3 e3 W3 V3 => ?_)
  have V3' : Arv Z h3 st kS .int 16 [.int (x0 - by_), .int x1, .int x2] (.int 0) := V3
  have z1 := E.wr W3
  have z2 := Ft.other W3 (Or.inl q1)
  have z3 := Fs.other W3 (Or.inl q1)
  have z4 := Fe.other W3 (Or.inl q1)
  have z5 := Fk.other W3 (Or.inl q1)
  have z6 := Fz.other W3 (Or.inl q1)
  have z7 := VE.other W3 q4
  have z8 := VT.other W3 q5
  have KW3 := KP.wr W3 (Or.inl (by simp))
  refine go_aloadn X3 hx (dc hby d4_20) (v := (.ref a)) rfl rfl ?_
  refine go_getF X3 hx hZ (host := "") hown (Or.inl (hw _ (List.mem_of_getElem? (i := 15) rfl))) Via.refl e3 z4 (dc hby d4_21) (fun T4 X4 e4 => ?_)
  refine go_iloadn X4 hx (dc hby d4_24) (v := (0 : Int32)) rfl ?_
  refine go_dup2 X4 hx (dc hby d4_25) rfl rfl ?_
  refine go_ialoadV X4 hx hZ e4 z7 (by decide) (w := y0) rfl (dc hby d4_26) ?_
  refine go_iloadn X4 hx (dc hby d4_27) (v := by_) rfl ?_
  refine go_isub X4 hx (dc hby d4_28) ?_
  refine go_iastoreV X4 hx hZ e4 z7 (by decide) 0 rfl (by simp) (dc hby d4_29) (fun T5 h5 X5 e5 W5 V5 => ?_)
  have V5' : Arv Z h5 en kE .int 16 [.int (y0 - by_), .int y1, .int y2] (.int 0) := V5
  have z9 := z1.wr W5
  have z10 := z2.other W5 (Or.inl q2)
  have z11 := z3.other W5 (Or.inl q2)
  have z12 := z4.other W5 (Or.inl q2)
  have z13 := z5.other W5 (Or.inl q2)
  have z14 := z6.other W5 (Or.inl q2)
  have z15 := V3'.other W5 q4.symm
  have z16 := z8.other W5 q6
  have KW5 := KW3.wr W5 (Or.inl (by simp))
  refine go_iinc X5 hx (x := (0 : Int32)) #[.val (.ref a), .val (.int by_), .val (.int ((0 : Int32) + (1 : Int32)))] (dc hby d4_30) rfl rfl ?_
  refine go_goto X5 hx (db hby d4_33) ?_
  show Go p e below _ (T5.setTop (mkF m 2 #[.val (.ref a), .val (.int by_), .val (.int (1 : Int32))] []))
  refine go_iloadn X5 hx (dc hby d4_2) (v := (1 : Int32)) rfl ?_
  refine go_aloadn X5 hx (dc hby d4_3) (v := (.ref a)) rfl rfl ?_
  refine go_getF X5 hx hZ (host := "") hown (Or.inl (hw _ (List.mem_of_getElem? (i := 26) rfl))) Via.refl e5 z14 (dc hby d4_4) (fun T6 X6 e6 => ?_)
  refine go_icmp_ge X6 hx (db hby d4_7) (fun c7 => absurd c7 (by decide)) (fun c7 => ?_)
  refine go_aloadn X6 hx (dc hby d4_10) (v := (.ref a)) rfl rfl ?_
  refine go_getF X6 hx hZ (host := "") hown (Or.inl (hw _ (List.mem_of_getElem? (i := 13) rfl))) Via.refl e6 z11 (dc hby d4_11) (fun T7 X7 e7 => ?_)
  refine go_iloadn X7 hx (dc hby d4_14) (v := (1 : Int32)) rfl ?_
  refine go_dup2 X7 hx (dc hby d4_15) rfl rfl ?_
  refine go_ialoadV X7 hx hZ e7 z15 (by decide) (w := x1) rfl (dc hby d4_16) ?_
  refine go_iloadn X7 hx (dc hby d4_17) (v := by_) rfl ?_
  refine go_isub X7 hx (dc hby d4_18) ?_
  refine go_iastoreV X7 hx hZ e7 z15 (by decide) 1 rfl (by simp) (dc hby d4_19) (fun T8 h8 X8 e8 W8 V8 => ?_)
  have V8' : Arv Z h8 st kS .int 16 [.int (x0 - by_), .int (x1 - by_), .int x2] (.int 0) := V8
  have z17 := z9.wr W8
  have z18 := z10.other W8 (Or.inl q1)
  have z19 := z11.other W8 (Or.inl q1)
  have z20 := z12.other W8 (Or.inl q1)
  have z21 := z13.other W8 (Or.inl q1)
  have z22 := z14.other W8 (Or.inl q1)
  have z23 := V5'.other W8 q4
  have z24 := z16.other W8 q5
  have KW8 := KW5.wr W8 (Or.inl (by simp))
  refine go_aloadn X8 hx (dc hby d4_20) (v := (.ref a)) rfl rfl ?_
  refine go_getF X8 hx hZ (host := "") hown (Or.inl (hw _ (List.mem_of_getElem? (i := 15) rfl))) Via.refl e8 z20 (dc hby d4_21) (fun T9 X9 e9 => ?_)
  refine go_iloadn X9 hx (dc hby d4_24) (v := (1 : Int32)) rfl ?_
  refine go_dup2 X9 hx (dc hby d4_25) rfl rfl ?_
  refine go_ialoadV X9 hx hZ e9 z23 (by decide) (w := y1) rfl (dc hby d4_26) ?_
  refine go_iloadn X9 hx (dc hby d4_27) (v := by_) rfl ?_
  refine go_isub X9 hx (dc hby d4_28) ?_
  refine go_iastoreV X9 hx hZ e9 z23 (by decide) 1 rfl (by simp) (dc hby d4_29) (fun T10 h10 X10 e10 W10 V10 => ?_)
  have V10' : Arv Z h10 en kE .int 16 [.int (y0 - by_), .int (y1 - by_), .int y2] (.int 0) := V10
  have z25 := z17.wr W10
  have z26 := z18.other W10 (Or.inl q2)
  have z27 := z19.other W10 (Or.inl q2)
  have z28 := z20.other W10 (Or.inl q2)
  have z29 := z21.other W10 (Or.inl q2)
  have z30 := z22.other W10 (Or.inl q2)
  have z31 := V8'.other W10 q4.symm
  have z32 := z24.other W10 q6
  have KW10 := KW8.wr W10 (Or.inl (by simp))
  refine go_iinc X10 hx (x := (1 : Int32)) #[.val (.ref a), .val (.int by_), .val (.int ((1 : Int32) + (1 : Int32)))] (dc hby d4_30) rfl rfl ?_
  refine go_goto X10 hx (db hby d4_33) ?_
  show Go p e below _ (T10.setTop (mkF m 2 #[.val (.ref a), .val (.int by_), .val (.int (2 : Int32))] []))
  refine go_iloadn X10 hx (dc hby d4_2) (v := (2 : Int32)) rfl ?_
  refine go_aloadn X10 hx (dc hby d4_3) (v := (.ref a)) rfl rfl ?_
  refine go_getF X10 hx hZ (host := "") hown (Or.inl (hw _ (List.mem_of_getElem? (i := 26) rfl))) Via.refl e10 z30 (dc hby d4_4) (fun T11 X11 e11 => ?_)
  refine go_icmp_ge X11 hx (db hby d4_7) (fun c7 => absurd c7 (by decide)) (fun c7 => ?_)
  refine go_aloadn X11 hx (dc hby d4_10) (v := (.ref a)) rfl rfl ?_
  refine go_getF X11 hx hZ (host := "") hown (Or.inl (hw _ (List.mem_of_getElem? (i := 13) rfl))) Via.refl e11 z27 (dc hby d4_11) (fun T12 X12 e12 => ?_)
  refine go_iloadn X12 hx (dc hby d4_14) (v := (2 : Int32)) rfl ?_
  refine go_dup2 X12 hx (dc hby d4_15) rfl rfl ?_
  refine go_ialoadV X12 hx hZ e12 z31 (by decide) (w := x2) rfl (dc hby d4_16) ?_
  refine go_iloadn X12 hx (dc hby d4_17) (v := by_) rfl ?_
  refine go_isub X12 hx (dc hby d4_18) ?_
  refine go_iastoreV X12 hx hZ e12 z31 (by decide) 2 rfl (by simp) (dc hby d4_19) (fun T13 h13 X13 e13 W13 V13 => ?_)
  have V13' : Arv Z h13 st kS .int 16 [.int (x0 - by_), .int (x1 - by_), .int (x2 - by_)] (.int 0) := V13
  have z33 := z25.wr W13
  have z34 := z26.other W13 (Or.inl q1)
  have z35 := z27.other W13 (Or.inl q1)
  have z36 := z28.other W13 (Or.inl q1)
  have z37 := z29.other W13 (Or.inl q1)
  have z38 := z30.other W13 (Or.inl q1)
  have z39 := V10'.other W13 q4
  have z40 := z32.other W13 q5
  have KW13 := KW10.wr W13 (Or.inl (by simp))
  refine go_aloadn X13 hx (dc hby d4_20) (v := (.ref a)) rfl rfl ?_
  refine go_getF X13 hx hZ (host := "") hown (Or.inl (hw _ (List.mem_of_getElem? (i := 15) rfl))) Via.refl e13 z36 (dc hby d4_21) (fun T14 X14 e14 => ?_)
  refine go_iloadn X14 hx (dc hby d4_24) (v := (2 : Int32)) rfl ?_
  refine go_dup2 X14 hx (dc hby d4_25) rfl rfl ?_
  refine go_ialoadV X14 hx hZ e14 z39 (by decide) (w := y2) rfl (dc hby d4_26) ?_
  refine go_iloadn X14 hx (dc hby d4_27) (v := by_) rfl ?_
  refine go_isub X14 hx (dc hby d4_28) ?_
  refine go_iastoreV X14 hx hZ e14 z39 (by decide) 2 rfl (by simp) (dc hby d4_29) (fun T15 h15 X15 e15 W15 V15 => ?_)
  have V15' : Arv Z h15 en kE .int 16 [.int (y0 - by_), .int (y1 - by_), .int (y2 - by_)] (.int 0) := V15
  have z41 := z33.wr W15
  have z42 := z34.other W15 (Or.inl q2)
  have z43 := z35.other W15 (Or.inl q2)
  have z44 := z36.other W15 (Or.inl q2)
  have z45 := z37.other W15 (Or.inl q2)
  have z46 := z38.other W15 (Or.inl q2)
  have z47 := V13'.other W15 q4.symm
  have z48 := z40.other W15 q6
  have KW15 := KW13.wr W15 (Or.inl (by simp))
  refine go_iinc X15 hx (x := (2 : Int32)) #[.val (.ref a), .val (.int by_), .val (.int ((2 : Int32) + (1 : Int32)))] (dc hby d4_30) rfl rfl ?_
  refine go_goto X15 hx (db hby d4_33) ?_
  show Go p e below _ (T15.setTop (mkF m 2 #[.val (.ref a), .val (.int by_), .val (.int (3 : Int32))] []))
  refine go_iloadn X15 hx (dc hby d4_2) (v := (3 : Int32)) rfl ?_
  refine go_aloadn X15 hx (dc hby d4_3) (v := (.ref a)) rfl rfl ?_
  refine go_getF X15 hx hZ (host := "") hown (Or.inl (hw _ (List.mem_of_getElem? (i := 26) rfl))) Via.refl e15 z46 (dc hby d4_4) (fun T16 X16 e16 => ?_)
  refine go_icmp_ge X16 hx (db hby d4_7) (fun c7 => ?_) (fun c7 => absurd c7 (by decide))
  subst e16
  exact go_retV X16 hx hret (dc hby d4_36) hk (by decide) (by decide) ⟨rfl, fun y hy => by simp at hy; rcases hy with rfl | rfl | rfl | rfl | rfl | rfl <;> simp, KW15, ⟨z41, z42, z43, z44, z45, z46, z47, V15', z48, OT, q1, q2, q3, q4, q5, q6⟩⟩
theorem pd4 : parseMethodDescriptor "(I)V" = some ⟨[.int], none⟩ := by decide +kernel
set_option maxRecDepth 65536 in
set_option maxHeartbeats 40000000 in
theorem rm4b (l : Launch) (Z : State) (a0 : Array Value) (hw : ∀ d ∈ tables_1, d.before a0 Z = true) (ws : List Jvm.Cond) (a : Addr) (by_ : Int32) (t st en tk : Addr) (kS kE kT : ClassId) (x0 x1 x2 y0 y1 y2 : Int32) (vt : List Value) (h0 : Heap) (FR : own_R Z h0 a t st en tk kS kE kT 2 [.int x0, .int x1, .int x2] [.int y0, .int y1, .int y2] vt) : Ct l Z (⟨"com/example/strict_tariff/stricttariff/io/CsvRow", "moveBack", "(I)V"⟩ : MethodName) prog_57_method_9_code 3 none ws ({ frames := 0, cells := 0, slots := 0, locals := 0 } : Room) #[(.ref a), (.int by_)] h0 (fun v h L => v = none ∧ (∀ y ∈ L, y.base = st ∨ y.base = en) ∧ Keep h0 h [st, en] ∧ own_R Z h a t st en tk kS kE kT 2 [.int (x0 - by_), .int (x1 - by_), .int x2] [.int (y0 - by_), .int (y1 - by_), .int y2] vt) := by
  refine Ct.of (pn4) _ (ef4 a by_) ?_
  intro p e s m below meth c T0 hx hby hml hZ hown hnm hret hk e0 X0
  obtain ⟨E, Ft, Fs, Fe, Fk, Fz, VS, VE, VT, OT, q1, q2, q3, q4, q5, q6⟩ := FR
  have KP := Keep.refl h0 [st, en]
  show Go p e below _ (T0.setTop (mkF m 0 #[.val (.ref a), .val (.int by_), .unset] []))
  refine go_iconst X0 hx (0) (dc hby d4_0) rfl ?_
  refine go_istoren X0 hx #[.val (.ref a), .val (.int by_), .val (.int (0 : Int32))] (dc hby d4_1) rfl ?_
  refine go_iloadn X0 hx (dc hby d4_2) (v := (0 : Int32)) rfl ?_
  refine go_aloadn X0 hx (dc hby d4_3) (v := (.ref a)) rfl rfl ?_
  refine go_getF X0 hx hZ (host := "") hown (Or.inl (hw _ (List.mem_of_getElem? (i := 26) rfl))) Via.refl e0 Fz (dc hby d4_4) (fun T1 X1 e1 => ?_)
  refine go_icmp_ge X1 hx (db hby d4_7) (fun c7 => absurd c7 (by decide)) (fun c7 => ?_)
  refine go_aloadn X1 hx (dc hby d4_10) (v := (.ref a)) rfl rfl ?_
  refine go_getF X1 hx hZ (host := "") hown (Or.inl (hw _ (List.mem_of_getElem? (i := 13) rfl))) Via.refl e1 Fs (dc hby d4_11) (fun T2 X2 e2 => ?_)
  refine go_iloadn X2 hx (dc hby d4_14) (v := (0 : Int32)) rfl ?_
  refine go_dup2 X2 hx (dc hby d4_15) rfl rfl ?_
  refine go_ialoadV X2 hx hZ e2 VS (by decide) (w := x0) rfl (dc hby d4_16) ?_
  refine go_iloadn X2 hx (dc hby d4_17) (v := by_) rfl ?_
  refine go_isub X2 hx (dc hby d4_18) ?_
  refine go_iastoreV X2 hx hZ e2 VS (by decide) 0 rfl (by simp) (dc hby d4_19) (fun T3 h3 X3 e3 W3 V3 => ?_)
  have V3' : Arv Z h3 st kS .int 16 [.int (x0 - by_), .int x1, .int x2] (.int 0) := V3
  have z1 := E.wr W3
  have z2 := Ft.other W3 (Or.inl q1)
  have z3 := Fs.other W3 (Or.inl q1)
  have z4 := Fe.other W3 (Or.inl q1)
  have z5 := Fk.other W3 (Or.inl q1)
  have z6 := Fz.other W3 (Or.inl q1)
  have z7 := VE.other W3 q4
  have z8 := VT.other W3 q5
  have KW3 := KP.wr W3 (Or.inl (by simp))
  refine go_aloadn X3 hx (dc hby d4_20) (v := (.ref a)) rfl rfl ?_
  refine go_getF X3 hx hZ (host := "") hown (Or.inl (hw _ (List.mem_of_getElem? (i := 15) rfl))) Via.refl e3 z4 (dc hby d4_21) (fun T4 X4 e4 => ?_)
  refine go_iloadn X4 hx (dc hby d4_24) (v := (0 : Int32)) rfl ?_
  refine go_dup2 X4 hx (dc hby d4_25) rfl rfl ?_
  refine go_ialoadV X4 hx hZ e4 z7 (by decide) (w := y0) rfl (dc hby d4_26) ?_
  refine go_iloadn X4 hx (dc hby d4_27) (v := by_) rfl ?_
  refine go_isub X4 hx (dc hby d4_28) ?_
  refine go_iastoreV X4 hx hZ e4 z7 (by decide) 0 rfl (by simp) (dc hby d4_29) (fun T5 h5 X5 e5 W5 V5 => ?_)
  have V5' : Arv Z h5 en kE .int 16 [.int (y0 - by_), .int y1, .int y2] (.int 0) := V5
  have z9 := z1.wr W5
  have z10 := z2.other W5 (Or.inl q2)
  have z11 := z3.other W5 (Or.inl q2)
  have z12 := z4.other W5 (Or.inl q2)
  have z13 := z5.other W5 (Or.inl q2)
  have z14 := z6.other W5 (Or.inl q2)
  have z15 := V3'.other W5 q4.symm
  have z16 := z8.other W5 q6
  have KW5 := KW3.wr W5 (Or.inl (by simp))
  refine go_iinc X5 hx (x := (0 : Int32)) #[.val (.ref a), .val (.int by_), .val (.int ((0 : Int32) + (1 : Int32)))] (dc hby d4_30) rfl rfl ?_
  refine go_goto X5 hx (db hby d4_33) ?_
  show Go p e below _ (T5.setTop (mkF m 2 #[.val (.ref a), .val (.int by_), .val (.int (1 : Int32))] []))
  refine go_iloadn X5 hx (dc hby d4_2) (v := (1 : Int32)) rfl ?_
  refine go_aloadn X5 hx (dc hby d4_3) (v := (.ref a)) rfl rfl ?_
  refine go_getF X5 hx hZ (host := "") hown (Or.inl (hw _ (List.mem_of_getElem? (i := 26) rfl))) Via.refl e5 z14 (dc hby d4_4) (fun T6 X6 e6 => ?_)
  refine go_icmp_ge X6 hx (db hby d4_7) (fun c7 => absurd c7 (by decide)) (fun c7 => ?_)
  refine go_aloadn X6 hx (dc hby d4_10) (v := (.ref a)) rfl rfl ?_
  refine go_getF X6 hx hZ (host := "") hown (Or.inl (hw _ (List.mem_of_getElem? (i := 13) rfl))) Via.refl e6 z11 (dc hby d4_11) (fun T7 X7 e7 => ?_)
  refine go_iloadn X7 hx (dc hby d4_14) (v := (1 : Int32)) rfl ?_
  refine go_dup2 X7 hx (dc hby d4_15) rfl rfl ?_
  refine go_ialoadV X7 hx hZ e7 z15 (by decide) (w := x1) rfl (dc hby d4_16) ?_
  refine go_iloadn X7 hx (dc hby d4_17) (v := by_) rfl ?_
  refine go_isub X7 hx (dc hby d4_18) ?_
  refine go_iastoreV X7 hx hZ e7 z15 (by decide) 1 rfl (by simp) (dc hby d4_19) (fun T8 h8 X8 e8 W8 V8 => ?_)
  have V8' : Arv Z h8 st kS .int 16 [.int (x0 - by_), .int (x1 - by_), .int x2] (.int 0) := V8
  have z17 := z9.wr W8
  have z18 := z10.other W8 (Or.inl q1)
  have z19 := z11.other W8 (Or.inl q1)
  have z20 := z12.other W8 (Or.inl q1)
  have z21 := z13.other W8 (Or.inl q1)
  have z22 := z14.other W8 (Or.inl q1)
  have z23 := V5'.other W8 q4
  have z24 := z16.other W8 q5
  have KW8 := KW5.wr W8 (Or.inl (by simp))
  refine go_aloadn X8 hx (dc hby d4_20) (v := (.ref a)) rfl rfl ?_
  refine go_getF X8 hx hZ (host := "") hown (Or.inl (hw _ (List.mem_of_getElem? (i := 15) rfl))) Via.refl e8 z20 (dc hby d4_21) (fun T9 X9 e9 => ?_)
  refine go_iloadn X9 hx (dc hby d4_24) (v := (1 : Int32)) rfl ?_
  refine go_dup2 X9 hx (dc hby d4_25) rfl rfl ?_
  refine go_ialoadV X9 hx hZ e9 z23 (by decide) (w := y1) rfl (dc hby d4_26) ?_
  refine go_iloadn X9 hx (dc hby d4_27) (v := by_) rfl ?_
  refine go_isub X9 hx (dc hby d4_28) ?_
  refine go_iastoreV X9 hx hZ e9 z23 (by decide) 1 rfl (by simp) (dc hby d4_29) (fun T10 h10 X10 e10 W10 V10 => ?_)
  have V10' : Arv Z h10 en kE .int 16 [.int (y0 - by_), .int (y1 - by_), .int y2] (.int 0) := V10
  have z25 := z17.wr W10
  have z26 := z18.other W10 (Or.inl q2)
  have z27 := z19.other W10 (Or.inl q2)
  have z28 := z20.other W10 (Or.inl q2)
  have z29 := z21.other W10 (Or.inl q2)
  have z30 := z22.other W10 (Or.inl q2)
  have z31 := V8'.other W10 q4.symm
  have z32 := z24.other W10 q6
  have KW10 := KW8.wr W10 (Or.inl (by simp))
  refine go_iinc X10 hx (x := (1 : Int32)) #[.val (.ref a), .val (.int by_), .val (.int ((1 : Int32) + (1 : Int32)))] (dc hby d4_30) rfl rfl ?_
  refine go_goto X10 hx (db hby d4_33) ?_
  show Go p e below _ (T10.setTop (mkF m 2 #[.val (.ref a), .val (.int by_), .val (.int (2 : Int32))] []))
  refine go_iloadn X10 hx (dc hby d4_2) (v := (2 : Int32)) rfl ?_
  refine go_aloadn X10 hx (dc hby d4_3) (v := (.ref a)) rfl rfl ?_
  refine go_getF X10 hx hZ (host := "") hown (Or.inl (hw _ (List.mem_of_getElem? (i := 26) rfl))) Via.refl e10 z30 (dc hby d4_4) (fun T11 X11 e11 => ?_)
  refine go_icmp_ge X11 hx (db hby d4_7) (fun c7 => ?_) (fun c7 => absurd c7 (by decide))
  subst e11
  exact go_retV X11 hx hret (dc hby d4_36) hk (by decide) (by decide) ⟨rfl, fun y hy => by simp at hy; rcases hy with rfl | rfl | rfl | rfl <;> simp, KW10, ⟨z25, z26, z27, z28, z29, z30, z31, V10', z32, OT, q1, q2, q3, q4, q5, q6⟩⟩
theorem d8_0 : Dec jdk_41_method_11_code 0 (.iload_n 0) 1 1 := ⟨by decide +kernel, rfl⟩
theorem d8_1 : DecB jdk_41_method_11_code 1 (.ifCond .lt 8) (8) 4 9 := ⟨by decide +kernel, rfl, by decide, by decide⟩
theorem d8_4 : Dec jdk_41_method_11_code 4 (.iload_n 0) 1 5 := ⟨by decide +kernel, rfl⟩
theorem d8_5 : Dec jdk_41_method_11_code 5 (.iload_n 1) 1 6 := ⟨by decide +kernel, rfl⟩
theorem d8_6 : DecB jdk_41_method_11_code 6 (.if_icmp .lt 10) (10) 9 16 := ⟨by decide +kernel, rfl, by decide, by decide⟩
theorem d8_16 : Dec jdk_41_method_11_code 16 (.iload_n 0) 1 17 := ⟨by decide +kernel, rfl⟩
theorem d8_17 : Dec jdk_41_method_11_code 17 (.ireturn) 1 18 := ⟨by decide +kernel, rfl⟩
theorem pn8 : plainFor (⟨"jdk/internal/util/Preconditions", "checkIndex", "(IILjava/util/function/BiFunction;)I"⟩ : MethodName) = true := by first | exact plainFor_of_name (by first | (simp [plainName, overriddenIn]; done) | decide +kernel) | decide +kernel
theorem ef8 (x0 : Int32) (x1 : Int32) (x2 : Value) (h2 : x2.isRef = true) (m : MethodId) : entryFrame m #[(.int x0), (.int x1), x2] 3 = mkF m 0 #[.val (.int x0), .val (.int x1), .val x2] [] := by rcases ref_cases h2 with rfl | ⟨_, rfl⟩ <;> first | (simp [entryFrame, mkF, argsToLocals, Value.category, maxLocals]; done) | rfl
set_option maxRecDepth 65536 in
set_option maxHeartbeats 40000000 in
theorem rm8 (l : Launch) (Z : State) (a0 : Array Value) (hw : ∀ d ∈ tables_1, d.before a0 Z = true) (ws : List Jvm.Cond) (i n : Int32) (fm : Value) (h0 : Heap) (hfm : fm.isRef = true) (h1 : ¬ i < 0) (h2 : i < n) : Ct l Z (⟨"jdk/internal/util/Preconditions", "checkIndex", "(IILjava/util/function/BiFunction;)I"⟩ : MethodName) jdk_41_method_11_code 3 (some .int) ws ({ frames := 0, cells := 0, slots := 0, locals := 0 } : Room) #[(.int i), (.int n), fm] h0 (QP (.int i) h0) := by
  refine Ct.of (pn8) _ (ef8 i n fm hfm) ?_
  intro p e s m below meth c T0 hx hby hml hZ hown hnm hret hk e0 X0
  show Go p e below _ (T0.setTop (mkF m 0 #[.val (.int i), .val (.int n), .val fm] []))
  refine go_iloadn X0 hx (dc hby d8_0) (v := i) rfl ?_
  refine go_ifc_lt X0 hx (db hby d8_1) (fun c1 => absurd c1 h1) (fun c1 => ?_)
  refine go_iloadn X0 hx (dc hby d8_4) (v := i) rfl ?_
  refine go_iloadn X0 hx (dc hby d8_5) (v := n) rfl ?_
  refine go_icmp_lt X0 hx (db hby d8_6) (fun c6 => ?_) (fun c6 => absurd h2 c6)
  refine go_iloadn X0 hx (dc hby d8_16) (v := i) rfl ?_
  exact go_retI X0 hx hret (dc hby d8_17) hk (by decide) (by decide) ⟨rfl, e0, rfl⟩
theorem pd8 : parseMethodDescriptor "(IILjava/util/function/BiFunction;)I" = some ⟨[.int, .int, (.object "java/util/function/BiFunction")], some .int⟩ := by decide +kernel
theorem d7_0 : Dec jdk_31_method_17_code 0 (.iload_n 0) 1 1 := ⟨by decide +kernel, rfl⟩
theorem d7_1 : Dec jdk_31_method_17_code 1 (.iload_n 1) 1 2 := ⟨by decide +kernel, rfl⟩
theorem d7_2 : Dec jdk_31_method_17_code 2 (.aconst_null) 1 3 := ⟨by decide +kernel, rfl⟩
theorem d7_3 : Dec jdk_31_method_17_code 3 (.invokestatic 105) 3 6 := ⟨by decide +kernel, rfl⟩
theorem d7_6 : Dec jdk_31_method_17_code 6 (.ireturn) 1 7 := ⟨by decide +kernel, rfl⟩
theorem pn7 : plainFor (⟨"java/util/Objects", "checkIndex", "(II)I"⟩ : MethodName) = true := by first | exact plainFor_of_name (by first | (simp [plainName, overriddenIn]; done) | decide +kernel) | decide +kernel
theorem ef7 (x0 : Int32) (x1 : Int32) (m : MethodId) : entryFrame m #[(.int x0), (.int x1)] 2 = mkF m 0 #[.val (.int x0), .val (.int x1)] [] := by first | (simp [entryFrame, mkF, argsToLocals, Value.category, maxLocals]; done) | rfl
set_option maxRecDepth 65536 in
set_option maxHeartbeats 40000000 in
theorem rm7 (l : Launch) (Z : State) (a0 : Array Value) (hw : ∀ d ∈ tables_1, d.before a0 Z = true) (ws : List Jvm.Cond) (i n : Int32) (h0 : Heap) (h1 : ¬ i < 0) (h2 : i < n) : Ct l Z (⟨"java/util/Objects", "checkIndex", "(II)I"⟩ : MethodName) jdk_31_method_17_code 2 (some .int) ws ({ frames := 1, cells := 0, slots := 0, locals := 14 } : Room) #[(.int i), (.int n)] h0 (QP (.int i) h0) := by
  refine Ct.of (pn7) _ (ef7 i n) ?_
  intro p e s m below meth c T0 hx hby hml hZ hown hnm hret hk e0 X0
  show Go p e below _ (T0.setTop (mkF m 0 #[.val (.int i), .val (.int n)] []))
  refine go_iloadn X0 hx (dc hby d7_0) (v := i) rfl ?_
  refine go_iloadn X0 hx (dc hby d7_1) (v := n) rfl ?_
  refine go_aconstnull X0 hx (dc hby d7_2) ?_
  refine go_staticP X0 hx hZ hown (hw _ (List.mem_of_getElem? (i := 47) rfl)) (hw _ (List.mem_of_getElem? (i := 48) rfl)) (hw _ (List.mem_of_getElem? (i := 49) rfl)) (hw _ (List.mem_of_getElem? (i := 50) rfl)) (by decide) e0 [(.int i), (.int n), .null] [] (r := (.int i)) (rm8 l Z a0 hw [] i n .null h0 rfl h1 h2) pd8 rfl (by rw [hml]; rfl) rfl 0 (Nat.le_of_eq rfl) (by decide) (by decide) rfl rfl (by decide) (by decide) (dc hby d7_3) (fun T1 X1 e1 => ?_)
  exact go_retI X1 hx hret (dc hby d7_6) hk (by decide) (by decide) ⟨rfl, e1, rfl⟩
theorem pd7 : parseMethodDescriptor "(II)I" = some ⟨[.int, .int], some .int⟩ := by decide +kernel
theorem d23_0 : Dec jdk_42_method_155_code 0 (.iload_n 0) 1 1 := ⟨by decide +kernel, rfl⟩
theorem d23_1 : Dec jdk_42_method_155_code 1 (.iload_n 1) 1 2 := ⟨by decide +kernel, rfl⟩
theorem d23_2 : Dec jdk_42_method_155_code 2 (.getstatic 1053) 3 5 := ⟨by decide +kernel, rfl⟩
theorem d23_5 : Dec jdk_42_method_155_code 5 (.invokestatic 1059) 3 8 := ⟨by decide +kernel, rfl⟩
theorem d23_8 : Dec jdk_42_method_155_code 8 (.pop) 1 9 := ⟨by decide +kernel, rfl⟩
theorem d23_9 : Dec jdk_42_method_155_code 9 (.return_) 1 10 := ⟨by decide +kernel, rfl⟩
theorem pn23 : plainFor (⟨"java/lang/String", "checkIndex", "(II)V"⟩ : MethodName) = true := by first | exact plainFor_of_name (by first | (simp [plainName, overriddenIn]; done) | decide +kernel) | decide +kernel
theorem ef23 (x0 : Int32) (x1 : Int32) (m : MethodId) : entryFrame m #[(.int x0), (.int x1)] 2 = mkF m 0 #[.val (.int x0), .val (.int x1)] [] := by first | (simp [entryFrame, mkF, argsToLocals, Value.category, maxLocals]; done) | rfl
set_option maxRecDepth 65536 in
set_option maxHeartbeats 40000000 in
theorem rm23 (l : Launch) (Z : State) (a0 : Array Value) (hw : ∀ d ∈ tables_1, d.before a0 Z = true) (ws : List Jvm.Cond) (i n : Int32) (fm : Value) (h0 : Heap) (h1 : ¬ i < 0) (h2 : i < n) (hfm : fm.isRef = true) (SF : Sta Z h0 "jdk/internal/util/Preconditions" "SIOOBE_FORMATTER" "Ljava/util/function/BiFunction;" fm) : Ct l Z (⟨"java/lang/String", "checkIndex", "(II)V"⟩ : MethodName) jdk_42_method_155_code 2 none ws ({ frames := 1, cells := 0, slots := 0, locals := 14 } : Room) #[(.int i), (.int n)] h0 (QV h0) := by
  refine Ct.of (pn23) _ (ef23 i n) ?_
  intro p e s m below meth c T0 hx hby hml hZ hown hnm hret hk e0 X0
  show Go p e below _ (T0.setTop (mkF m 0 #[.val (.int i), .val (.int n)] []))
  refine go_iloadn X0 hx (dc hby d23_0) (v := i) rfl ?_
  refine go_iloadn X0 hx (dc hby d23_1) (v := n) rfl ?_
  refine go_getS X0 hx hZ (host := "") hown (hw _ (List.mem_of_getElem? (i := 62) rfl)) Via.refl e0 SF (dc hby d23_2) (fun T1 X1 e1 => ?_)
  refine go_staticP X1 hx hZ hown (hw _ (List.mem_of_getElem? (i := 118) rfl)) (hw _ (List.mem_of_getElem? (i := 48) rfl)) (hw _ (List.mem_of_getElem? (i := 49) rfl)) (hw _ (List.mem_of_getElem? (i := 50) rfl)) (by decide) e1 [(.int i), (.int n), fm] [] (r := (.int i)) (rm8 l Z a0 hw [] i n fm h0 hfm h1 h2) pd8 rfl (by rw [hml]; rfl) rfl 0 (Nat.le_of_eq rfl) (by decide) (by decide) rfl rfl (by decide) (by decide) (dc hby d23_5) (fun T2 X2 e2 => ?_)
  refine go_pop X2 hx (dc hby d23_8) rfl ?_
  exact go_retV X2 hx hret (dc hby d23_9) hk (by decide) (by decide) ⟨rfl, e2, rfl⟩
theorem pd23 : parseMethodDescriptor "(II)V" = some ⟨[.int, .int], none⟩ := by decide +kernel
theorem d12_0 : Dec jdk_41_method_13_code 0 (.iload_n 2) 1 1 := ⟨by decide +kernel, rfl⟩
theorem d12_1 : Dec jdk_41_method_13_code 1 (.iload_n 0) 1 2 := ⟨by decide +kernel, rfl⟩
theorem d12_2 : Dec jdk_41_method_13_code 2 (.ior) 1 3 := ⟨by decide +kernel, rfl⟩
theorem d12_3 : Dec jdk_41_method_13_code 3 (.iload_n 1) 1 4 := ⟨by decide +kernel, rfl⟩
theorem d12_4 : Dec jdk_41_method_13_code 4 (.ior) 1 5 := ⟨by decide +kernel, rfl⟩
theorem d12_5 : DecB jdk_41_method_13_code 5 (.ifCond .lt 10) (10) 8 15 := ⟨by decide +kernel, rfl, by decide, by decide⟩
theorem d12_8 : Dec jdk_41_method_13_code 8 (.iload_n 1) 1 9 := ⟨by decide +kernel, rfl⟩
theorem d12_9 : Dec jdk_41_method_13_code 9 (.iload_n 2) 1 10 := ⟨by decide +kernel, rfl⟩
theorem d12_10 : Dec jdk_41_method_13_code 10 (.iload_n 0) 1 11 := ⟨by decide +kernel, rfl⟩
theorem d12_11 : Dec jdk_41_method_13_code 11 (.isub) 1 12 := ⟨by decide +kernel, rfl⟩
theorem d12_12 : DecB jdk_41_method_13_code 12 (.if_icmp .le 11) (11) 15 23 := ⟨by decide +kernel, rfl, by decide, by decide⟩
theorem d12_23 : Dec jdk_41_method_13_code 23 (.iload_n 0) 1 24 := ⟨by decide +kernel, rfl⟩
theorem d12_24 : Dec jdk_41_method_13_code 24 (.ireturn) 1 25 := ⟨by decide +kernel, rfl⟩
theorem pn12 : plainFor (⟨"jdk/internal/util/Preconditions", "checkFromIndexSize", "(IIILjava/util/function/BiFunction;)I"⟩ : MethodName) = true := by first | exact plainFor_of_name (by first | (simp [plainName, overriddenIn]; done) | decide +kernel) | decide +kernel
theorem ef12 (x0 : Int32) (x1 : Int32) (x2 : Int32) (x3 : Value) (h3 : x3.isRef = true) (m : MethodId) : entryFrame m #[(.int x0), (.int x1), (.int x2), x3] 4 = mkF m 0 #[.val (.int x0), .val (.int x1), .val (.int x2), .val x3] [] := by rcases ref_cases h3 with rfl | ⟨_, rfl⟩ <;> first | (simp [entryFrame, mkF, argsToLocals, Value.category, maxLocals]; done) | rfl
set_option maxRecDepth 65536 in
set_option maxHeartbeats 40000000 in
theorem rm12 (l : Launch) (Z : State) (a0 : Array Value) (hw : ∀ d ∈ tables_1, d.before a0 Z = true) (ws : List Jvm.Cond) (x y : Int32) (fm : Value) (h0 : Heap) (hfm : fm.isRef = true) (hs : 0 ≤ x.toInt ∧ x.toInt ≤ 3) (hl : 1 ≤ y.toInt ∧ y.toInt ≤ 4) : Ct l Z (⟨"jdk/internal/util/Preconditions", "checkFromIndexSize", "(IIILjava/util/function/BiFunction;)I"⟩ : MethodName) jdk_41_method_13_code 4 (some .int) ws ({ frames := 0, cells := 0, slots := 0, locals := 0 } : Room) #[(.int x), (.int y), (.int (8 : Int32)), fm] h0 (QP (.int x) h0) := by
  refine Ct.of (pn12) _ (ef12 x y ((8 : Int32)) fm hfm) ?_
  intro p e s m below meth c T0 hx hby hml hZ hown hnm hret hk e0 X0
  show Go p e below _ (T0.setTop (mkF m 0 #[.val (.int x), .val (.int y), .val (.int (8 : Int32)), .val fm] []))
  refine go_iloadn X0 hx (dc hby d12_0) (v := (8 : Int32)) rfl ?_
  refine go_iloadn X0 hx (dc hby d12_1) (v := x) rfl ?_
  refine go_ior X0 hx (dc hby d12_2) ?_
  refine go_iloadn X0 hx (dc hby d12_3) (v := y) rfl ?_
  refine go_ior X0 hx (dc hby d12_4) ?_
  refine go_ifc_lt X0 hx (db hby d12_5) (fun c5 => absurd c5 (own_or hs.1 (by omega))) (fun c5 => ?_)
  refine go_iloadn X0 hx (dc hby d12_8) (v := y) rfl ?_
  refine go_iloadn X0 hx (dc hby d12_9) (v := (8 : Int32)) rfl ?_
  refine go_iloadn X0 hx (dc hby d12_10) (v := x) rfl ?_
  refine go_isub X0 hx (dc hby d12_11) ?_
  refine go_icmp_le X0 hx (db hby d12_12) (fun c12 => ?_) (fun c12 => absurd c12 (own_8 hs hl))
  refine go_iloadn X0 hx (dc hby d12_23) (v := x) rfl ?_
  exact go_retI X0 hx hret (dc hby d12_24) hk (by decide) (by decide) ⟨rfl, e0, rfl⟩
theorem pd12 : parseMethodDescriptor "(IIILjava/util/function/BiFunction;)I" = some ⟨[.int, .int, .int, (.object "java/util/function/BiFunction")], some .int⟩ := by decide +kernel
theorem d11_0 : Dec jdk_42_method_157_code 0 (.iload_n 0) 1 1 := ⟨by decide +kernel, rfl⟩
theorem d11_1 : Dec jdk_42_method_157_code 1 (.iload_n 1) 1 2 := ⟨by decide +kernel, rfl⟩
theorem d11_2 : Dec jdk_42_method_157_code 2 (.iload_n 2) 1 3 := ⟨by decide +kernel, rfl⟩
theorem d11_3 : Dec jdk_42_method_157_code 3 (.getstatic 1053) 3 6 := ⟨by decide +kernel, rfl⟩
theorem d11_6 : Dec jdk_42_method_157_code 6 (.invokestatic 1065) 3 9 := ⟨by decide +kernel, rfl⟩
theorem d11_9 : Dec jdk_42_method_157_code 9 (.ireturn) 1 10 := ⟨by decide +kernel, rfl⟩
theorem pn11 : plainFor (⟨"java/lang/String", "checkBoundsOffCount", "(III)I"⟩ : MethodName) = true := by first | exact plainFor_of_name (by first | (simp [plainName, overriddenIn]; done) | decide +kernel) | decide +kernel
theorem ef11 (x0 : Int32) (x1 : Int32) (x2 : Int32) (m : MethodId) : entryFrame m #[(.int x0), (.int x1), (.int x2)] 3 = mkF m 0 #[.val (.int x0), .val (.int x1), .val (.int x2)] [] := by first | (simp [entryFrame, mkF, argsToLocals, Value.category, maxLocals]; done) | rfl
set_option maxRecDepth 65536 in
set_option maxHeartbeats 40000000 in
theorem rm11 (l : Launch) (Z : State) (a0 : Array Value) (hw : ∀ d ∈ tables_1, d.before a0 Z = true) (ws : List Jvm.Cond) (x y : Int32) (fm : Value) (h0 : Heap) (hs : 0 ≤ x.toInt ∧ x.toInt ≤ 3) (hl : 1 ≤ y.toInt ∧ y.toInt ≤ 4) (hfm : fm.isRef = true) (SF : Sta Z h0 "jdk/internal/util/Preconditions" "SIOOBE_FORMATTER" "Ljava/util/function/BiFunction;" fm) : Ct l Z (⟨"java/lang/String", "checkBoundsOffCount", "(III)I"⟩ : MethodName) jdk_42_method_157_code 3 (some .int) ws ({ frames := 1, cells := 0, slots := 0, locals := 15 } : Room) #[(.int x), (.int y), (.int (8 : Int32))] h0 (QP (.int x) h0) := by
  refine Ct.of (pn11) _ (ef11 x y ((8 : Int32))) ?_
  intro p e s m below meth c T0 hx hby hml hZ hown hnm hret hk e0 X0
  show Go p e below _ (T0.setTop (mkF m 0 #[.val (.int x), .val (.int y), .val (.int (8 : Int32))] []))
  refine go_iloadn X0 hx (dc hby d11_0) (v := x) rfl ?_
  refine go_iloadn X0 hx (dc hby d11_1) (v := y) rfl ?_
  refine go_iloadn X0 hx (dc hby d11_2) (v := (8 : Int32)) rfl ?_
  refine go_getS X0 hx hZ (host := "") hown (hw _ (List.mem_of_getElem? (i := 62) rfl)) Via.refl e0 SF (dc hby d11_3) (fun T1 X1 e1 => ?_)
  refine go_staticP X1 hx hZ hown (hw _ (List.mem_of_getElem? (i := 63) rfl)) (hw _ (List.mem_of_getElem? (i := 64) rfl)) (hw _ (List.mem_of_getElem? (i := 49) rfl)) (hw _ (List.mem_of_getElem? (i := 65) rfl)) (by decide) e1 [(.int x), (.int y), (.int (8 : Int32)), fm] [] (r := (.int x)) (rm12 l Z a0 hw [] x y fm h0 hfm hs hl) pd12 rfl (by rw [hml]; rfl) rfl 0 (Nat.le_of_eq rfl) (by decide) (by decide) rfl rfl (by decide) (by decide) (dc hby d11_6) (fun T2 X2 e2 => ?_)
  exact go_retI X2 hx hret (dc hby d11_9) hk (by decide) (by decide) ⟨rfl, e2, rfl⟩
theorem pd11 : parseMethodDescriptor "(III)I" = some ⟨[.int, .int, .int], some .int⟩ := by decide +kernel
theorem d10_0 : Dec jdk_42_method_5_code 0 (.iload_n 1) 1 1 := ⟨by decide +kernel, rfl⟩
theorem d10_1 : Dec jdk_42_method_5_code 1 (.iload_n 2) 1 2 := ⟨by decide +kernel, rfl⟩
theorem d10_2 : Dec jdk_42_method_5_code 2 (.aload_n 0) 1 3 := ⟨by decide +kernel, rfl⟩
theorem d10_3 : Dec jdk_42_method_5_code 3 (.arraylength) 1 4 := ⟨by decide +kernel, rfl⟩
theorem d10_4 : Dec jdk_42_method_5_code 4 (.invokestatic 34) 3 7 := ⟨by decide +kernel, rfl⟩
theorem d10_7 : Dec jdk_42_method_5_code 7 (.pop) 1 8 := ⟨by decide +kernel, rfl⟩
theorem d10_8 : Dec jdk_42_method_5_code 8 (.aconst_null) 1 9 := ⟨by decide +kernel, rfl⟩
theorem d10_9 : Dec jdk_42_method_5_code 9 (.areturn) 1 10 := ⟨by decide +kernel, rfl⟩
theorem pn10 : plainFor (⟨"java/lang/String", "rangeCheck", "([CII)Ljava/lang/Void;"⟩ : MethodName) = true := by first | exact plainFor_of_name (by first | (simp [plainName, overriddenIn]; done) | decide +kernel) | decide +kernel
theorem ef10 (x0 : Addr) (x1 : Int32) (x2 : Int32) (m : MethodId) : entryFrame m #[(.ref x0), (.int x1), (.int x2)] 3 = mkF m 0 #[.val (.ref x0), .val (.int x1), .val (.int x2)] [] := by first | (simp [entryFrame, mkF, argsToLocals, Value.category, maxLocals]; done) | rfl
set_option maxRecDepth 65536 in
set_option maxHeartbeats 40000000 in
theorem rm10 (l : Launch) (Z : State) (a0 : Array Value) (hw : ∀ d ∈ tables_1, d.before a0 Z = true) (ws : List Jvm.Cond) (t : Addr) (x y : Int32) (kC : ClassId) (fm : Value) (h0 : Heap) (VX : Arv Z h0 t kC .char 8 [.int 97, .int 98, .int 99, .int 100, .int 101, .int 102, .int 103, .int 104] (.int 0)) (hs : 0 ≤ x.toInt ∧ x.toInt ≤ 3) (hl : 1 ≤ y.toInt ∧ y.toInt ≤ 4) (hfm : fm.isRef = true) (SF : Sta Z h0 "jdk/internal/util/Preconditions" "SIOOBE_FORMATTER" "Ljava/util/function/BiFunction;" fm) : Ct l Z (⟨"java/lang/String", "rangeCheck", "([CII)Ljava/lang/Void;"⟩ : MethodName) jdk_42_method_5_code 3 (some (.object "java/lang/Void")) ws ({ frames := 2, cells := 0, slots := 0, locals := 29 } : Room) #[(.ref t), (.int x), (.int y)] h0 (QP .null h0) := by
  refine Ct.of (pn10) _ (ef10 t x y) ?_
  intro p e s m below meth c T0 hx hby hml hZ hown hnm hret hk e0 X0
  show Go p e below _ (T0.setTop (mkF m 0 #[.val (.ref t), .val (.int x), .val (.int y)] []))
  refine go_iloadn X0 hx (dc hby d10_0) (v := x) rfl ?_
  refine go_iloadn X0 hx (dc hby d10_1) (v := y) rfl ?_
  refine go_aloadn X0 hx (dc hby d10_2) (v := (.ref t)) rfl rfl ?_
  have VQ1 := VX
  obtain ⟨cQ1, AQ1, _, SQ1, zQ1, _, _⟩ := VQ1
  refine go_alen X0 hx hZ e0 AQ1 SQ1 zQ1 (dc hby d10_3) ?_
  refine go_staticP X0 hx hZ hown (hw _ (List.mem_of_getElem? (i := 59) rfl)) (hw _ (List.mem_of_getElem? (i := 60) rfl)) (hw _ (List.mem_of_getElem? (i := 52) rfl)) (hw _ (List.mem_of_getElem? (i := 61) rfl)) (by decide) e0 [(.int x), (.int y), (.int (8 : Int32))] [] (r := (.int x)) (rm11 l Z a0 hw [] x y fm h0 hs hl hfm SF) pd11 rfl (by rw [hml]; rfl) rfl 0 (Nat.le_of_eq rfl) (by decide) (by decide) rfl rfl (by decide) (by decide) (dc hby d10_4) (fun T2 X2 e2 => ?_)
  refine go_pop X2 hx (dc hby d10_7) rfl ?_
  refine go_aconstnull X2 hx (dc hby d10_8) ?_
  exact go_retA X2 hx hret rfl rfl (dc hby d10_9) hk (by decide) (by decide) ⟨rfl, e2, rfl⟩
theorem pd10 : parseMethodDescriptor "([CII)Ljava/lang/Void;" = some ⟨[(.array .char), .int, .int], some (.object "java/lang/Void")⟩ := by decide +kernel
theorem d15_0 : Dec jdk_52_method_21_code 0 (.iconst 0) 1 1 := ⟨by decide +kernel, rfl⟩
theorem d15_1 : Dec jdk_52_method_21_code 1 (.istore 5) 2 3 := ⟨by decide +kernel, rfl⟩
theorem d15_3 : Dec jdk_52_method_21_code 3 (.iload 5) 2 5 := ⟨by decide +kernel, rfl⟩
theorem d15_5 : Dec jdk_52_method_21_code 5 (.iload 4) 2 7 := ⟨by decide +kernel, rfl⟩
theorem d15_7 : DecB jdk_52_method_21_code 7 (.if_icmp .ge 37) (37) 10 44 := ⟨by decide +kernel, rfl, by decide, by decide⟩
theorem d15_10 : Dec jdk_52_method_21_code 10 (.aload_n 0) 1 11 := ⟨by decide +kernel, rfl⟩
theorem d15_11 : Dec jdk_52_method_21_code 11 (.iload_n 1) 1 12 := ⟨by decide +kernel, rfl⟩
theorem d15_12 : Dec jdk_52_method_21_code 12 (.caload) 1 13 := ⟨by decide +kernel, rfl⟩
theorem d15_13 : Dec jdk_52_method_21_code 13 (.istore 6) 2 15 := ⟨by decide +kernel, rfl⟩
theorem d15_15 : Dec jdk_52_method_21_code 15 (.iload 6) 2 17 := ⟨by decide +kernel, rfl⟩
theorem d15_17 : Dec jdk_52_method_21_code 17 (.sipush 255) 3 20 := ⟨by decide +kernel, rfl⟩
theorem d15_20 : DecB jdk_52_method_21_code 20 (.if_icmp .le 6) (6) 23 26 := ⟨by decide +kernel, rfl, by decide, by decide⟩
theorem d15_26 : Dec jdk_52_method_21_code 26 (.aload_n 2) 1 27 := ⟨by decide +kernel, rfl⟩
theorem d15_27 : Dec jdk_52_method_21_code 27 (.iload_n 3) 1 28 := ⟨by decide +kernel, rfl⟩
theorem d15_28 : Dec jdk_52_method_21_code 28 (.iload 6) 2 30 := ⟨by decide +kernel, rfl⟩
theorem d15_30 : Dec jdk_52_method_21_code 30 (.i2b) 1 31 := ⟨by decide +kernel, rfl⟩
theorem d15_31 : Dec jdk_52_method_21_code 31 (.bastore) 1 32 := ⟨by decide +kernel, rfl⟩
theorem d15_32 : Dec jdk_52_method_21_code 32 (.iinc 1 1) 3 35 := ⟨by decide +kernel, rfl⟩
theorem d15_35 : Dec jdk_52_method_21_code 35 (.iinc 3 1) 3 38 := ⟨by decide +kernel, rfl⟩
theorem d15_38 : Dec jdk_52_method_21_code 38 (.iinc 5 1) 3 41 := ⟨by decide +kernel, rfl⟩
theorem d15_41 : DecB jdk_52_method_21_code 41 (.goto (-38)) (-38) 44 3 := ⟨by decide +kernel, rfl, by decide, by decide⟩
theorem d15_44 : Dec jdk_52_method_21_code 44 (.iload 4) 2 46 := ⟨by decide +kernel, rfl⟩
theorem d15_46 : Dec jdk_52_method_21_code 46 (.ireturn) 1 47 := ⟨by decide +kernel, rfl⟩
theorem pn15 : plainFor (⟨"java/lang/StringUTF16", "compress", "([CI[BII)I"⟩ : MethodName) = true := by first | exact plainFor_of_name (by first | (simp [plainName, overriddenIn]; done) | decide +kernel) | decide +kernel
theorem ef15 (x0 : Addr) (x1 : Int32) (x2 : Addr) (x3 : Int32) (x4 : Int32) (m : MethodId) : entryFrame m #[(.ref x0), (.int x1), (.ref x2), (.int x3), (.int x4)] 7 = mkF m 0 #[.val (.ref x0), .val (.int x1), .val (.ref x2), .val (.int x3), .val (.int x4), .unset, .unset] [] := by first | (simp [entryFrame, mkF, argsToLocals, Value.category, maxLocals]; done) | rfl
set_option maxRecDepth 65536 in
set_option maxHeartbeats 40000000 in
theorem rm15 (l : Launch) (Z : State) (a0 : Array Value) (hw : ∀ d ∈ tables_1, d.before a0 Z = true) (ws : List Jvm.Cond) (t : Addr) (x : Int32) (b : Addr) (y : Int32) (kC kb : ClassId) (h0 : Heap) (VX : Arv Z h0 t kC .char 8 [.int 97, .int 98, .int 99, .int 100, .int 101, .int 102, .int 103, .int 104] (.int 0)) (VB : Arv Z h0 b kb .byte y [.int 0, .int 0, .int 0, .int 0] (.int 0)) (htb : t ≠ b) (hs : 0 ≤ x.toInt ∧ x.toInt ≤ 3) (hl : 1 ≤ y.toInt ∧ y.toInt ≤ 4) : Ct l Z (⟨"java/lang/StringUTF16", "compress", "([CI[BII)I"⟩ : MethodName) jdk_52_method_21_code 7 (some .int) ws ({ frames := 0, cells := 0, slots := 0, locals := 0 } : Room) #[(.ref t), (.int x), (.ref b), (.int (0 : Int32)), (.int y)] h0 (fun v h L => v = some (.int y) ∧ (∀ y ∈ L, y.base = b) ∧ Keep h0 h [b] ∧ ∃ vs, Arv Z h b kb .byte y vs (.int 0) ∧ vs.getD 0 (.int 0) = .int (nar .byte ((97 : Int32) + x).toInt8.toInt32)) := by
  refine Ct.of (pn15) _ (ef15 t x b ((0 : Int32)) y) ?_
  intro p e s m below meth c T0 hx hby hml hZ hown hnm hret hk e0 X0
  have VB0 := VB
  have VX0 := VX
  have KP := Keep.refl h0 [b]
  have b0 : 0 ≤ x.toInt ∧ x.toInt ≤ 3 := hs
  have b1 := own_nxt b0 (by decide)
  have b2 := own_nxt b1 (by decide)
  have b3 := own_nxt b2 (by decide)
  show Go p e below _ (T0.setTop (mkF m 0 #[.val (.ref t), .val (.int x), .val (.ref b), .val (.int (0 : Int32)), .val (.int y), .unset, .unset] []))
  refine go_iconst X0 hx (0) (dc hby d15_0) rfl ?_
  refine go_istore X0 hx #[.val (.ref t), .val (.int x), .val (.ref b), .val (.int (0 : Int32)), .val (.int y), .val (.int (0 : Int32)), .unset] (dc hby d15_1) rfl ?_
  show Go p e below _ (T0.setTop (mkF m 3 #[.val (.ref t), .val (.int x), .val (.ref b), .val (.int (0 : Int32)), .val (.int y), .val (.int (0 : Int32)), .unset] []))
  refine go_iload X0 hx (dc hby d15_3) (v := (0 : Int32)) rfl ?_
  refine go_iload X0 hx (dc hby d15_5) (v := y) rfl ?_
  refine go_icmp_ge X0 hx (db hby d15_7) (fun c7 => absurd (own_gt0 hl.1) c7) (fun c7 => ?_)
  refine go_aloadn X0 hx (dc hby d15_10) (v := (.ref t)) rfl rfl ?_
  refine go_iloadn X0 hx (dc hby d15_11) (v := x) rfl ?_
  refine go_caloadV X0 hx hZ e0 VX0 (own_in b0 (show (8 : Int32).toInt = 8 from rfl) (by decide)) (own_txt ⟨b0.1, Int.le_trans b0.2 (by decide)⟩) (dc hby d15_12) ?_
  refine go_istore X0 hx #[.val (.ref t), .val (.int x), .val (.ref b), .val (.int (0 : Int32)), .val (.int y), .val (.int (0 : Int32)), .val (.int ((97 : Int32) + x))] (dc hby d15_13) rfl ?_
  refine go_iload X0 hx (dc hby d15_15) (v := ((97 : Int32) + x)) rfl ?_
  refine go_sipush X0 hx (255) (dc hby d15_17) rfl ?_
  refine go_icmp_le X0 hx (db hby d15_20) (fun c20 => ?_) (fun c20 => absurd c20 (own_le255 b0 (by decide)))
  refine go_aloadn X0 hx (dc hby d15_26) (v := (.ref b)) rfl rfl ?_
  refine go_iloadn X0 hx (dc hby d15_27) (v := (0 : Int32)) rfl ?_
  refine go_iload X0 hx (dc hby d15_28) (v := ((97 : Int32) + x)) rfl ?_
  refine go_i2b X0 hx (dc hby d15_30) ?_
  refine go_bastoreV X0 hx hZ e0 VB0 ⟨by decide, own_gt0 hl.1⟩ 0 rfl (by simp) (dc hby d15_31) (fun T1 h1 X1 e1 W1 V1 => ?_)
  have VB1 : Arv Z h1 b kb .byte y [.int (nar .byte (((97 : Int32) + x)).toInt8.toInt32), .int 0, .int 0, .int 0] (.int 0) := V1
  have VX1 := VX0.other W1 htb
  have KW0 := KP.wr W1 (Or.inl (by simp))
  refine go_iinc X1 hx (x := x) #[.val (.ref t), .val (.int (x + (1 : Int32))), .val (.ref b), .val (.int (0 : Int32)), .val (.int y), .val (.int (0 : Int32)), .val (.int ((97 : Int32) + x))] (dc hby d15_32) rfl rfl ?_
  refine go_iinc X1 hx (x := (0 : Int32)) #[.val (.ref t), .val (.int (x + (1 : Int32))), .val (.ref b), .val (.int ((0 : Int32) + (1 : Int32))), .val (.int y), .val (.int (0 : Int32)), .val (.int ((97 : Int32) + x))] (dc hby d15_35) rfl rfl ?_
  refine go_iinc X1 hx (x := (0 : Int32)) #[.val (.ref t), .val (.int (x + (1 : Int32))), .val (.ref b), .val (.int ((0 : Int32) + (1 : Int32))), .val (.int y), .val (.int ((0 : Int32) + (1 : Int32))), .val (.int ((97 : Int32) + x))] (dc hby d15_38) rfl rfl ?_
  refine go_goto X1 hx (db hby d15_41) ?_
  show Go p e below _ (T1.setTop (mkF m 3 #[.val (.ref t), .val (.int (x + (1 : Int32))), .val (.ref b), .val (.int (1 : Int32)), .val (.int y), .val (.int (1 : Int32)), .val (.int ((97 : Int32) + x))] []))
  refine go_iload X1 hx (dc hby d15_3) (v := (1 : Int32)) rfl ?_
  refine go_iload X1 hx (dc hby d15_5) (v := y) rfl ?_
  refine go_icmp_ge X1 hx (db hby d15_7) (fun cc1 => ?_) (fun cc1 => ?_)
  · refine go_iload X1 hx (dc hby d15_44) (v := y) rfl ?_
    subst e1
    exact go_retI X1 hx hret (dc hby d15_46) hk (by decide) (by decide) ⟨rfl, fun y hy => by simp at hy; rw [hy], KW0, _, VB1, rfl⟩
  · refine go_aloadn X1 hx (dc hby d15_10) (v := (.ref t)) rfl rfl ?_
    refine go_iloadn X1 hx (dc hby d15_11) (v := (x + (1 : Int32))) rfl ?_
    refine go_caloadV X1 hx hZ e1 VX1 (own_in b1 (show (8 : Int32).toInt = 8 from rfl) (by decide)) (own_txt ⟨b1.1, Int.le_trans b1.2 (by decide)⟩) (dc hby d15_12) ?_
    refine go_istore X1 hx #[.val (.ref t), .val (.int (x + (1 : Int32))), .val (.ref b), .val (.int (1 : Int32)), .val (.int y), .val (.int (1 : Int32)), .val (.int ((97 : Int32) + (x + (1 : Int32))))] (dc hby d15_13) rfl ?_
    refine go_iload X1 hx (dc hby d15_15) (v := ((97 : Int32) + (x + (1 : Int32)))) rfl ?_
    refine go_sipush X1 hx (255) (dc hby d15_17) rfl ?_
    refine go_icmp_le X1 hx (db hby d15_20) (fun c20 => ?_) (fun c20 => absurd c20 (own_le255 b1 (by decide)))
    refine go_aloadn X1 hx (dc hby d15_26) (v := (.ref b)) rfl rfl ?_
    refine go_iloadn X1 hx (dc hby d15_27) (v := (1 : Int32)) rfl ?_
    refine go_iload X1 hx (dc hby d15_28) (v := ((97 : Int32) + (x + (1 : Int32)))) rfl ?_
    refine go_i2b X1 hx (dc hby d15_30) ?_
    refine go_bastoreV X1 hx hZ e1 VB1 ⟨by decide, cc1⟩ 1 rfl (by simp) (dc hby d15_31) (fun T2 h2 X2 e2 W2 V2 => ?_)
    have VB2 : Arv Z h2 b kb .byte y [.int (nar .byte (((97 : Int32) + x)).toInt8.toInt32), .int (nar .byte (((97 : Int32) + (x + (1 : Int32)))).toInt8.toInt32), .int 0, .int 0] (.int 0) := V2
    have VX2 := VX1.other W2 htb
    have KW1 := KW0.wr W2 (Or.inl (by simp))
    refine go_iinc X2 hx (x := (x + (1 : Int32))) #[.val (.ref t), .val (.int ((x + (1 : Int32)) + (1 : Int32))), .val (.ref b), .val (.int (1 : Int32)), .val (.int y), .val (.int (1 : Int32)), .val (.int ((97 : Int32) + (x + (1 : Int32))))] (dc hby d15_32) rfl rfl ?_
    refine go_iinc X2 hx (x := (1 : Int32)) #[.val (.ref t), .val (.int ((x + (1 : Int32)) + (1 : Int32))), .val (.ref b), .val (.int ((1 : Int32) + (1 : Int32))), .val (.int y), .val (.int (1 : Int32)), .val (.int ((97 : Int32) + (x + (1 : Int32))))] (dc hby d15_35) rfl rfl ?_
    refine go_iinc X2 hx (x := (1 : Int32)) #[.val (.ref t), .val (.int ((x + (1 : Int32)) + (1 : Int32))), .val (.ref b), .val (.int ((1 : Int32) + (1 : Int32))), .val (.int y), .val (.int ((1 : Int32) + (1 : Int32))), .val (.int ((97 : Int32) + (x + (1 : Int32))))] (dc hby d15_38) rfl rfl ?_
    refine go_goto X2 hx (db hby d15_41) ?_
    show Go p e below _ (T2.setTop (mkF m 3 #[.val (.ref t), .val (.int ((x + (1 : Int32)) + (1 : Int32))), .val (.ref b), .val (.int (2 : Int32)), .val (.int y), .val (.int (2 : Int32)), .val (.int ((97 : Int32) + (x + (1 : Int32))))] []))
    refine go_iload X2 hx (dc hby d15_3) (v := (2 : Int32)) rfl ?_
    refine go_iload X2 hx (dc hby d15_5) (v := y) rfl ?_
    refine go_icmp_ge X2 hx (db hby d15_7) (fun cc2 => ?_) (fun cc2 => ?_)
    · refine go_iload X2 hx (dc hby d15_44) (v := y) rfl ?_
      subst e2
      exact go_retI X2 hx hret (dc hby d15_46) hk (by decide) (by decide) ⟨rfl, fun y hy => by simp at hy; rcases hy with rfl | rfl <;> rfl, KW1, _, VB2, rfl⟩
    · refine go_aloadn X2 hx (dc hby d15_10) (v := (.ref t)) rfl rfl ?_
      refine go_iloadn X2 hx (dc hby d15_11) (v := ((x + (1 : Int32)) + (1 : Int32))) rfl ?_
      refine go_caloadV X2 hx hZ e2 VX2 (own_in b2 (show (8 : Int32).toInt = 8 from rfl) (by decide)) (own_txt ⟨b2.1, Int.le_trans b2.2 (by decide)⟩) (dc hby d15_12) ?_
      refine go_istore X2 hx #[.val (.ref t), .val (.int ((x + (1 : Int32)) + (1 : Int32))), .val (.ref b), .val (.int (2 : Int32)), .val (.int y), .val (.int (2 : Int32)), .val (.int ((97 : Int32) + ((x + (1 : Int32)) + (1 : Int32))))] (dc hby d15_13) rfl ?_
      refine go_iload X2 hx (dc hby d15_15) (v := ((97 : Int32) + ((x + (1 : Int32)) + (1 : Int32)))) rfl ?_
      refine go_sipush X2 hx (255) (dc hby d15_17) rfl ?_
      refine go_icmp_le X2 hx (db hby d15_20) (fun c20 => ?_) (fun c20 => absurd c20 (own_le255 b2 (by decide)))
      refine go_aloadn X2 hx (dc hby d15_26) (v := (.ref b)) rfl rfl ?_
      refine go_iloadn X2 hx (dc hby d15_27) (v := (2 : Int32)) rfl ?_
      refine go_iload X2 hx (dc hby d15_28) (v := ((97 : Int32) + ((x + (1 : Int32)) + (1 : Int32)))) rfl ?_
      refine go_i2b X2 hx (dc hby d15_30) ?_
      refine go_bastoreV X2 hx hZ e2 VB2 ⟨by decide, cc2⟩ 2 rfl (by simp) (dc hby d15_31) (fun T3 h3 X3 e3 W3 V3 => ?_)
      have VB3 : Arv Z h3 b kb .byte y [.int (nar .byte (((97 : Int32) + x)).toInt8.toInt32), .int (nar .byte (((97 : Int32) + (x + (1 : Int32)))).toInt8.toInt32), .int (nar .byte (((97 : Int32) + ((x + (1 : Int32)) + (1 : Int32)))).toInt8.toInt32), .int 0] (.int 0) := V3
      have VX3 := VX2.other W3 htb
      have KW2 := KW1.wr W3 (Or.inl (by simp))
      refine go_iinc X3 hx (x := ((x + (1 : Int32)) + (1 : Int32))) #[.val (.ref t), .val (.int (((x + (1 : Int32)) + (1 : Int32)) + (1 : Int32))), .val (.ref b), .val (.int (2 : Int32)), .val (.int y), .val (.int (2 : Int32)), .val (.int ((97 : Int32) + ((x + (1 : Int32)) + (1 : Int32))))] (dc hby d15_32) rfl rfl ?_
      refine go_iinc X3 hx (x := (2 : Int32)) #[.val (.ref t), .val (.int (((x + (1 : Int32)) + (1 : Int32)) + (1 : Int32))), .val (.ref b), .val (.int ((2 : Int32) + (1 : Int32))), .val (.int y), .val (.int (2 : Int32)), .val (.int ((97 : Int32) + ((x + (1 : Int32)) + (1 : Int32))))] (dc hby d15_35) rfl rfl ?_
      refine go_iinc X3 hx (x := (2 : Int32)) #[.val (.ref t), .val (.int (((x + (1 : Int32)) + (1 : Int32)) + (1 : Int32))), .val (.ref b), .val (.int ((2 : Int32) + (1 : Int32))), .val (.int y), .val (.int ((2 : Int32) + (1 : Int32))), .val (.int ((97 : Int32) + ((x + (1 : Int32)) + (1 : Int32))))] (dc hby d15_38) rfl rfl ?_
      refine go_goto X3 hx (db hby d15_41) ?_
      show Go p e below _ (T3.setTop (mkF m 3 #[.val (.ref t), .val (.int (((x + (1 : Int32)) + (1 : Int32)) + (1 : Int32))), .val (.ref b), .val (.int (3 : Int32)), .val (.int y), .val (.int (3 : Int32)), .val (.int ((97 : Int32) + ((x + (1 : Int32)) + (1 : Int32))))] []))
      refine go_iload X3 hx (dc hby d15_3) (v := (3 : Int32)) rfl ?_
      refine go_iload X3 hx (dc hby d15_5) (v := y) rfl ?_
      refine go_icmp_ge X3 hx (db hby d15_7) (fun cc3 => ?_) (fun cc3 => ?_)
      · refine go_iload X3 hx (dc hby d15_44) (v := y) rfl ?_
        subst e3
        exact go_retI X3 hx hret (dc hby d15_46) hk (by decide) (by decide) ⟨rfl, fun y hy => by simp at hy; rcases hy with rfl | rfl | rfl <;> rfl, KW2, _, VB3, rfl⟩
      · refine go_aloadn X3 hx (dc hby d15_10) (v := (.ref t)) rfl rfl ?_
        refine go_iloadn X3 hx (dc hby d15_11) (v := (((x + (1 : Int32)) + (1 : Int32)) + (1 : Int32))) rfl ?_
        refine go_caloadV X3 hx hZ e3 VX3 (own_in b3 (show (8 : Int32).toInt = 8 from rfl) (by decide)) (own_txt ⟨b3.1, Int.le_trans b3.2 (by decide)⟩) (dc hby d15_12) ?_
        refine go_istore X3 hx #[.val (.ref t), .val (.int (((x + (1 : Int32)) + (1 : Int32)) + (1 : Int32))), .val (.ref b), .val (.int (3 : Int32)), .val (.int y), .val (.int (3 : Int32)), .val (.int ((97 : Int32) + (((x + (1 : Int32)) + (1 : Int32)) + (1 : Int32))))] (dc hby d15_13) rfl ?_
        refine go_iload X3 hx (dc hby d15_15) (v := ((97 : Int32) + (((x + (1 : Int32)) + (1 : Int32)) + (1 : Int32)))) rfl ?_
        refine go_sipush X3 hx (255) (dc hby d15_17) rfl ?_
        refine go_icmp_le X3 hx (db hby d15_20) (fun c20 => ?_) (fun c20 => absurd c20 (own_le255 b3 (by decide)))
        refine go_aloadn X3 hx (dc hby d15_26) (v := (.ref b)) rfl rfl ?_
        refine go_iloadn X3 hx (dc hby d15_27) (v := (3 : Int32)) rfl ?_
        refine go_iload X3 hx (dc hby d15_28) (v := ((97 : Int32) + (((x + (1 : Int32)) + (1 : Int32)) + (1 : Int32)))) rfl ?_
        refine go_i2b X3 hx (dc hby d15_30) ?_
        refine go_bastoreV X3 hx hZ e3 VB3 ⟨by decide, cc3⟩ 3 rfl (by simp) (dc hby d15_31) (fun T4 h4 X4 e4 W4 V4 => ?_)
        have VB4 : Arv Z h4 b kb .byte y [.int (nar .byte (((97 : Int32) + x)).toInt8.toInt32), .int (nar .byte (((97 : Int32) + (x + (1 : Int32)))).toInt8.toInt32), .int (nar .byte (((97 : Int32) + ((x + (1 : Int32)) + (1 : Int32)))).toInt8.toInt32), .int (nar .byte (((97 : Int32) + (((x + (1 : Int32)) + (1 : Int32)) + (1 : Int32)))).toInt8.toInt32)] (.int 0) := V4
        have VX4 := VX3.other W4 htb
        have KW3 := KW2.wr W4 (Or.inl (by simp))
        refine go_iinc X4 hx (x := (((x + (1 : Int32)) + (1 : Int32)) + (1 : Int32))) #[.val (.ref t), .val (.int ((((x + (1 : Int32)) + (1 : Int32)) + (1 : Int32)) + (1 : Int32))), .val (.ref b), .val (.int (3 : Int32)), .val (.int y), .val (.int (3 : Int32)), .val (.int ((97 : Int32) + (((x + (1 : Int32)) + (1 : Int32)) + (1 : Int32))))] (dc hby d15_32) rfl rfl ?_
        refine go_iinc X4 hx (x := (3 : Int32)) #[.val (.ref t), .val (.int ((((x + (1 : Int32)) + (1 : Int32)) + (1 : Int32)) + (1 : Int32))), .val (.ref b), .val (.int ((3 : Int32) + (1 : Int32))), .val (.int y), .val (.int (3 : Int32)), .val (.int ((97 : Int32) + (((x + (1 : Int32)) + (1 : Int32)) + (1 : Int32))))] (dc hby d15_35) rfl rfl ?_
        refine go_iinc X4 hx (x := (3 : Int32)) #[.val (.ref t), .val (.int ((((x + (1 : Int32)) + (1 : Int32)) + (1 : Int32)) + (1 : Int32))), .val (.ref b), .val (.int ((3 : Int32) + (1 : Int32))), .val (.int y), .val (.int ((3 : Int32) + (1 : Int32))), .val (.int ((97 : Int32) + (((x + (1 : Int32)) + (1 : Int32)) + (1 : Int32))))] (dc hby d15_38) rfl rfl ?_
        refine go_goto X4 hx (db hby d15_41) ?_
        show Go p e below _ (T4.setTop (mkF m 3 #[.val (.ref t), .val (.int ((((x + (1 : Int32)) + (1 : Int32)) + (1 : Int32)) + (1 : Int32))), .val (.ref b), .val (.int (4 : Int32)), .val (.int y), .val (.int (4 : Int32)), .val (.int ((97 : Int32) + (((x + (1 : Int32)) + (1 : Int32)) + (1 : Int32))))] []))
        refine go_iload X4 hx (dc hby d15_3) (v := (4 : Int32)) rfl ?_
        refine go_iload X4 hx (dc hby d15_5) (v := y) rfl ?_
        refine go_icmp_ge X4 hx (db hby d15_7) (fun c7 => ?_) (fun c7 => absurd c7 (own_n4 hl.2))
        refine go_iload X4 hx (dc hby d15_44) (v := y) rfl ?_
        subst e4
        exact go_retI X4 hx hret (dc hby d15_46) hk (by decide) (by decide) ⟨rfl, fun y hy => by simp at hy; rcases hy with rfl | rfl | rfl | rfl <;> rfl, KW3, _, VB4, rfl⟩
theorem pd15 : parseMethodDescriptor "([CI[BII)I" = some ⟨[(.array .char), .int, (.array .byte), .int, .int], some .int⟩ := by decide +kernel
theorem d14_0 : Dec jdk_52_method_16_code 0 (.iload_n 2) 1 1 := ⟨by decide +kernel, rfl⟩
theorem d14_1 : Dec jdk_52_method_16_code 1 (.newarray .byte) 2 3 := ⟨by decide +kernel, rfl⟩
theorem d14_3 : Dec jdk_52_method_16_code 3 (.astore_n 3) 1 4 := ⟨by decide +kernel, rfl⟩
theorem d14_4 : Dec jdk_52_method_16_code 4 (.aload_n 0) 1 5 := ⟨by decide +kernel, rfl⟩
theorem d14_5 : Dec jdk_52_method_16_code 5 (.iload_n 1) 1 6 := ⟨by decide +kernel, rfl⟩
theorem d14_6 : Dec jdk_52_method_16_code 6 (.aload_n 3) 1 7 := ⟨by decide +kernel, rfl⟩
theorem d14_7 : Dec jdk_52_method_16_code 7 (.iconst 0) 1 8 := ⟨by decide +kernel, rfl⟩
theorem d14_8 : Dec jdk_52_method_16_code 8 (.iload_n 2) 1 9 := ⟨by decide +kernel, rfl⟩
theorem d14_9 : Dec jdk_52_method_16_code 9 (.invokestatic 115) 3 12 := ⟨by decide +kernel, rfl⟩
theorem d14_12 : Dec jdk_52_method_16_code 12 (.istore 4) 2 14 := ⟨by decide +kernel, rfl⟩
theorem d14_14 : Dec jdk_52_method_16_code 14 (.iload 4) 2 16 := ⟨by decide +kernel, rfl⟩
theorem d14_16 : Dec jdk_52_method_16_code 16 (.iload_n 2) 1 17 := ⟨by decide +kernel, rfl⟩
theorem d14_17 : DecB jdk_52_method_16_code 17 (.if_icmp .eq 40) (40) 20 57 := ⟨by decide +kernel, rfl, by decide, by decide⟩
theorem d14_57 : Dec jdk_52_method_16_code 57 (.aload_n 3) 1 58 := ⟨by decide +kernel, rfl⟩
theorem d14_58 : Dec jdk_52_method_16_code 58 (.areturn) 1 59 := ⟨by decide +kernel, rfl⟩
theorem pn14 : plainFor (⟨"java/lang/StringUTF16", "compress", "([CII)[B"⟩ : MethodName) = true := by first | exact plainFor_of_name (by first | (simp [plainName, overriddenIn]; done) | decide +kernel) | decide +kernel
theorem ef14 (x0 : Addr) (x1 : Int32) (x2 : Int32) (m : MethodId) : entryFrame m #[(.ref x0), (.int x1), (.int x2)] 6 = mkF m 0 #[.val (.ref x0), .val (.int x1), .val (.int x2), .unset, .unset, .unset] [] := by first | (simp [entryFrame, mkF, argsToLocals, Value.category, maxLocals]; done) | rfl
set_option maxRecDepth 65536 in
set_option maxHeartbeats 40000000 in
theorem rm14 (l : Launch) (Z : State) (a0 : Array Value) (hw : ∀ d ∈ tables_1, d.before a0 Z = true) (ws : List Jvm.Cond) (t : Addr) (x y : Int32) (kC : ClassId) (h0 : Heap) (VX : Arv Z h0 t kC .char 8 [.int 97, .int 98, .int 99, .int 100, .int 101, .int 102, .int 103, .int 104] (.int 0)) (hs : 0 ≤ x.toInt ∧ x.toInt ≤ 3) (hl : 1 ≤ y.toInt ∧ y.toInt ≤ 4) : Ct l Z (⟨"java/lang/StringUTF16", "compress", "([CII)[B"⟩ : MethodName) jdk_52_method_16_code 6 (some (.array .byte)) ws ({ frames := 1, cells := 1, slots := 4, locals := 18 } : Room) #[(.ref t), (.int x), (.int y)] h0 (fun v h L => ∃ b kb vs, v = some (.ref b) ∧ h0.size ≤ b ∧ (∀ y ∈ L, y.base = b) ∧ Keep h0 h [] ∧ Arv Z h b kb .byte y vs (.int 0) ∧ vs.getD 0 (.int 0) = .int (nar .byte ((97 : Int32) + x).toInt8.toInt32)) := by
  refine Ct.of (pn14) _ (ef14 t x y) ?_
  intro p e s m below meth c T0 hx hby hml hZ hown hnm hret hk e0 X0
  show Go p e below _ (T0.setTop (mkF m 0 #[.val (.ref t), .val (.int x), .val (.int y), .unset, .unset, .unset] []))
  refine go_iloadn X0 hx (dc hby d14_0) (v := y) rfl ?_
  refine go_newP X0 hx hZ (hw _ (List.mem_of_getElem? (i := 76) rfl)) e0 (dc hby d14_1) (own_pos hl.1) 4 (own_nat hl.2) (by decide) (by decide) (by decide) (fun T1 h1 kb b g1 X1 e1 E1 A1 => ?_)
  refine go_astoren X1 hx #[.val (.ref t), .val (.int x), .val (.int y), .val (.ref b), .unset, .unset] (dc hby d14_3) rfl rfl ?_
  refine go_aloadn X1 hx (dc hby d14_4) (v := (.ref t)) rfl rfl ?_
  refine go_iloadn X1 hx (dc hby d14_5) (v := x) rfl ?_
  refine go_aloadn X1 hx (dc hby d14_6) (v := (.ref b)) rfl rfl ?_
  refine go_iconst X1 hx (0) (dc hby d14_7) rfl ?_
  refine go_iloadn X1 hx (dc hby d14_8) (v := y) rfl ?_
  have gb : h0.size ≤ b := Nat.le_of_eq g1.symm
  have htb : t ≠ b := Nat.ne_of_lt (by rw [g1]; exact VX.lt)
  have VB : Arv Z h1 b kb .byte y [.int 0, .int 0, .int 0, .int 0] (.int 0) := (Arv.new A1 (own_pos hl.1)).pad (own_rep (n := 4))
  refine go_static X1 hx hZ hown (hw _ (List.mem_of_getElem? (i := 77) rfl)) (hw _ (List.mem_of_getElem? (i := 78) rfl)) (hw _ (List.mem_of_getElem? (i := 74) rfl)) (hw _ (List.mem_of_getElem? (i := 79) rfl)) (by decide) e1 [(.ref t), (.int x), (.ref b), (.int (0 : Int32)), (.int y)] [] (rm15 l Z a0 hw [] t x b y kC kb h1 (VX.ext E1) VB htb hs hl) pd15 rfl (by rw [hml]; rfl) rfl 0 (Nat.le_of_eq rfl) (by decide) (by decide) (by decide) (by decide) (dc hby d14_9) (fun T2 v2 L2 X2 hQ2 => ?_)
  obtain ⟨rfl, N2, K2, vs, VV, gv⟩ := hQ2
  show Go p e below _ (T2.setTop (mkF m 12 #[.val (.ref t), .val (.int x), .val (.int y), .val (.ref b), .unset, .unset] [(.int y)]))
  refine go_istore X2 hx #[.val (.ref t), .val (.int x), .val (.int y), .val (.ref b), .val (.int y), .unset] (dc hby d14_12) rfl ?_
  refine go_iload X2 hx (dc hby d14_14) (v := y) rfl ?_
  refine go_iloadn X2 hx (dc hby d14_16) (v := y) rfl ?_
  refine go_icmp_eq X2 hx (db hby d14_17) (fun c17 => ?_) (fun c17 => absurd rfl c17)
  refine go_aloadn X2 hx (dc hby d14_57) (v := (.ref b)) rfl rfl ?_
  exact go_retA X2 hx hret rfl rfl (dc hby d14_58) hk (by decide) (by decide) ⟨b, kb, vs, rfl, gb, fun y hy => N2 y (by simpa using hy), ((Keep.refl _ _).ext E1).trans K2 (fun x hx => Or.inr (by simp at hx; rw [hx]; exact gb)), VV, gv⟩
theorem pd14 : parseMethodDescriptor "([CII)[B" = some ⟨[(.array .char), .int, .int], some (.array .byte)⟩ := by decide +kernel
theorem d16_0 : Dec jdk_52_method_15_code 0 (.iload_n 1) 1 1 := ⟨by decide +kernel, rfl⟩
theorem d16_1 : Dec jdk_52_method_15_code 1 (.aload_n 0) 1 2 := ⟨by decide +kernel, rfl⟩
theorem d16_2 : Dec jdk_52_method_15_code 2 (.arraylength) 1 3 := ⟨by decide +kernel, rfl⟩
theorem d16_3 : Dec jdk_52_method_15_code 3 (.isub) 1 4 := ⟨by decide +kernel, rfl⟩
theorem d16_4 : Dec jdk_52_method_15_code 4 (.bipush 31) 2 6 := ⟨by decide +kernel, rfl⟩
theorem d16_6 : Dec jdk_52_method_15_code 6 (.iushr) 1 7 := ⟨by decide +kernel, rfl⟩
theorem d16_7 : Dec jdk_52_method_15_code 7 (.i2b) 1 8 := ⟨by decide +kernel, rfl⟩
theorem d16_8 : Dec jdk_52_method_15_code 8 (.ireturn) 1 9 := ⟨by decide +kernel, rfl⟩
theorem pn16 : plainFor (⟨"java/lang/StringUTF16", "coderFromArrayLen", "([BI)B"⟩ : MethodName) = true := by first | exact plainFor_of_name (by first | (simp [plainName, overriddenIn]; done) | decide +kernel) | decide +kernel
theorem ef16 (x0 : Addr) (x1 : Int32) (m : MethodId) : entryFrame m #[(.ref x0), (.int x1)] 2 = mkF m 0 #[.val (.ref x0), .val (.int x1)] [] := by first | (simp [entryFrame, mkF, argsToLocals, Value.category, maxLocals]; done) | rfl
set_option maxRecDepth 65536 in
set_option maxHeartbeats 40000000 in
theorem rm16 (l : Launch) (Z : State) (a0 : Array Value) (hw : ∀ d ∈ tables_1, d.before a0 Z = true) (ws : List Jvm.Cond) (b : Addr) (y : Int32) (kb : ClassId) (vs : List Value) (h0 : Heap) (VB : Arv Z h0 b kb .byte y vs (.int 0)) : Ct l Z (⟨"java/lang/StringUTF16", "coderFromArrayLen", "([BI)B"⟩ : MethodName) jdk_52_method_15_code 2 (some .byte) ws ({ frames := 0, cells := 0, slots := 0, locals := 0 } : Room) #[(.ref b), (.int y)] h0 (QP (.int 0) h0) := by
  refine Ct.of (pn16) _ (ef16 b y) ?_
  intro p e s m below meth c T0 hx hby hml hZ hown hnm hret hk e0 X0
  show Go p e below _ (T0.setTop (mkF m 0 #[.val (.ref b), .val (.int y)] []))
  refine go_iloadn X0 hx (dc hby d16_0) (v := y) rfl ?_
  refine go_aloadn X0 hx (dc hby d16_1) (v := (.ref b)) rfl rfl ?_
  have VQ1 := VB
  obtain ⟨cQ1, AQ1, _, SQ1, zQ1, _, _⟩ := VQ1
  refine go_alen X0 hx hZ e0 AQ1 SQ1 zQ1 (dc hby d16_2) ?_
  refine go_isub X0 hx (dc hby d16_3) ?_
  rw [own_ss]
  show Go p e below _ (T0.setTop (mkF m 4 #[.val (.ref b), .val (.int y)] [(.int (0 : Int32))]))
  refine go_bipush X0 hx (31) (dc hby d16_4) rfl ?_
  refine go_iushr X0 hx (dc hby d16_6) ?_
  refine go_i2b X0 hx (dc hby d16_7) ?_
  exact go_retN X0 hx hret (by simp) (dc hby d16_8) hk (by decide) (by decide) ⟨rfl, e0, rfl⟩
theorem pd16 : parseMethodDescriptor "([BI)B" = some ⟨[(.array .byte), .int], some .byte⟩ := by decide +kernel
theorem d13_0 : Dec jdk_42_method_149_code 0 (.aload_n 0) 1 1 := ⟨by decide +kernel, rfl⟩
theorem d13_1 : Dec jdk_42_method_149_code 1 (.invokespecial 1) 3 4 := ⟨by decide +kernel, rfl⟩
theorem d13_4 : Dec jdk_42_method_149_code 4 (.iload_n 3) 1 5 := ⟨by decide +kernel, rfl⟩
theorem d13_5 : DecB jdk_42_method_149_code 5 (.ifCond .ne 22) (22) 8 27 := ⟨by decide +kernel, rfl, by decide, by decide⟩
theorem d13_27 : Dec jdk_42_method_149_code 27 (.getstatic 38) 3 30 := ⟨by decide +kernel, rfl⟩
theorem d13_30 : DecB jdk_42_method_149_code 30 (.ifCond .eq 28) (28) 33 58 := ⟨by decide +kernel, rfl, by decide, by decide⟩
theorem d13_33 : Dec jdk_42_method_149_code 33 (.aload_n 1) 1 34 := ⟨by decide +kernel, rfl⟩
theorem d13_34 : Dec jdk_42_method_149_code 34 (.iload_n 2) 1 35 := ⟨by decide +kernel, rfl⟩
theorem d13_35 : Dec jdk_42_method_149_code 35 (.iload_n 3) 1 36 := ⟨by decide +kernel, rfl⟩
theorem d13_36 : Dec jdk_42_method_149_code 36 (.invokestatic 177) 3 39 := ⟨by decide +kernel, rfl⟩
theorem d13_39 : Dec jdk_42_method_149_code 39 (.astore 5) 2 41 := ⟨by decide +kernel, rfl⟩
theorem d13_41 : Dec jdk_42_method_149_code 41 (.aload_n 0) 1 42 := ⟨by decide +kernel, rfl⟩
theorem d13_42 : Dec jdk_42_method_149_code 42 (.aload 5) 2 44 := ⟨by decide +kernel, rfl⟩
theorem d13_44 : Dec jdk_42_method_149_code 44 (.iload_n 3) 1 45 := ⟨by decide +kernel, rfl⟩
theorem d13_45 : Dec jdk_42_method_149_code 45 (.invokestatic 47) 3 48 := ⟨by decide +kernel, rfl⟩
theorem d13_48 : Dec jdk_42_method_149_code 48 (.putfield 15) 3 51 := ⟨by decide +kernel, rfl⟩
theorem d13_51 : Dec jdk_42_method_149_code 51 (.aload_n 0) 1 52 := ⟨by decide +kernel, rfl⟩
theorem d13_52 : Dec jdk_42_method_149_code 52 (.aload 5) 2 54 := ⟨by decide +kernel, rfl⟩
theorem d13_54 : Dec jdk_42_method_149_code 54 (.putfield 9) 3 57 := ⟨by decide +kernel, rfl⟩
theorem d13_57 : Dec jdk_42_method_149_code 57 (.return_) 1 58 := ⟨by decide +kernel, rfl⟩
theorem pn13 : plainFor (⟨"java/lang/String", "<init>", "([CIILjava/lang/Void;)V"⟩ : MethodName) = true := by first | exact plainFor_of_name (by first | (simp [plainName, overriddenIn]; done) | decide +kernel) | decide +kernel
theorem ef13 (x0 : Addr) (x1 : Addr) (x2 : Int32) (x3 : Int32) (m : MethodId) : entryFrame m #[(.ref x0), (.ref x1), (.int x2), (.int x3), .null] 6 = mkF m 0 #[.val (.ref x0), .val (.ref x1), .val (.int x2), .val (.int x3), .val .null, .unset] [] := by first | (simp [entryFrame, mkF, argsToLocals, Value.category, maxLocals]; done) | rfl
set_option maxRecDepth 65536 in
set_option maxHeartbeats 40000000 in
theorem rm13 (l : Launch) (Z : State) (a0 : Array Value) (hw : ∀ d ∈ tables_1, d.before a0 Z = true) (ws : List Jvm.Cond) (u t : Addr) (x y : Int32) (kC : ClassId) (cs : Int32) (h0 : Heap) (E : Exa Z h0 u "java/lang/String") (Fv : Fld Z h0 u "java/lang/String" "value" "[B" .null) (Fc : Fld Z h0 u "java/lang/String" "coder" "B" (.int 0)) (VX : Arv Z h0 t kC .char 8 [.int 97, .int 98, .int 99, .int 100, .int 101, .int 102, .int 103, .int 104] (.int 0)) (hs : 0 ≤ x.toInt ∧ x.toInt ≤ 3) (hl : 1 ≤ y.toInt ∧ y.toInt ≤ 4) (hcs : ¬ cs = 0) (SC : Sta Z h0 "java/lang/String" "COMPACT_STRINGS" "Z" (.int cs)) : Ct l Z (⟨"java/lang/String", "<init>", "([CIILjava/lang/Void;)V"⟩ : MethodName) jdk_42_method_149_code 6 none ws ({ frames := 2, cells := 1, slots := 4, locals := 35 } : Room) #[(.ref u), (.ref t), (.int x), (.int y), .null] h0 (fun v h L => v = none ∧ (∀ y ∈ L, y.base = u ∨ h0.size ≤ y.base) ∧ Keep h0 h [u] ∧ own_S Z h u y (nar .byte ((97 : Int32) + x).toInt8.toInt32)) := by
  refine Ct.of (pn13) _ (ef13 u t x y) ?_
  intro p e s m below meth c T0 hx hby hml hZ hown hnm hret hk e0 X0
  show Go p e below _ (T0.setTop (mkF m 0 #[.val (.ref u), .val (.ref t), .val (.int x), .val (.int y), .val .null, .unset] []))
  refine go_aloadn X0 hx (dc hby d13_0) (v := (.ref u)) rfl rfl ?_
  refine go_initO X0 hx hZ hown (hw _ (List.mem_of_getElem? (i := 70) rfl)) (hw _ (List.mem_of_getElem? (i := 8) rfl)) (hw _ (List.mem_of_getElem? (i := 9) rfl)) e0 (by rw [hml]; rfl) (dc hby d13_1) (by decide) 0 (Nat.le_of_eq rfl) (by decide) (fun T1 X1 e1 => ?_)
  refine go_iloadn X1 hx (dc hby d13_4) (v := y) rfl ?_
  refine go_ifc_ne X1 hx (db hby d13_5) (fun c5 => ?_) (fun c5 => absurd c5 (own_ne0 hl.1))
  refine go_getS X1 hx hZ (host := "") hown (hw _ (List.mem_of_getElem? (i := 71) rfl)) Via.refl e1 SC (dc hby d13_27) (fun T2 X2 e2 => ?_)
  refine go_ifc_eq X2 hx (db hby d13_30) (fun c30 => absurd c30 hcs) (fun c30 => ?_)
  refine go_aloadn X2 hx (dc hby d13_33) (v := (.ref t)) rfl rfl ?_
  refine go_iloadn X2 hx (dc hby d13_34) (v := x) rfl ?_
  refine go_iloadn X2 hx (dc hby d13_35) (v := y) rfl ?_
  refine go_static X2 hx hZ hown (hw _ (List.mem_of_getElem? (i := 72) rfl)) (hw _ (List.mem_of_getElem? (i := 73) rfl)) (hw _ (List.mem_of_getElem? (i := 74) rfl)) (hw _ (List.mem_of_getElem? (i := 75) rfl)) (by decide) e2 [(.ref t), (.int x), (.int y)] [] (rm14 l Z a0 hw [] t x y kC h0 VX hs hl) pd14 rfl (by rw [hml]; rfl) rfl 0 (Nat.le_of_eq rfl) (by decide) (by decide) (by decide) (by decide) (dc hby d13_36) (fun T3 v3 L3 X3 hQ3 => ?_)
  obtain ⟨b, kb, vs, rfl, gb, N3, K3, VV, gv⟩ := hQ3
  show Go p e below _ (T3.setTop (mkF m 39 #[.val (.ref u), .val (.ref t), .val (.int x), .val (.int y), .val .null, .unset] [(.ref b)]))
  refine go_astore X3 hx #[.val (.ref u), .val (.ref t), .val (.int x), .val (.int y), .val .null, .val (.ref b)] (dc hby d13_39) rfl rfl ?_
  refine go_aloadn X3 hx (dc hby d13_41) (v := (.ref u)) rfl rfl ?_
  refine go_aload X3 hx (dc hby d13_42) (v := (.ref b)) rfl rfl ?_
  refine go_iloadn X3 hx (dc hby d13_44) (v := y) rfl ?_
  have hcb : u ≠ b := Nat.ne_of_lt (Nat.lt_of_lt_of_le E.lt gb)
  have E1 := E.keep K3
  have Fv1 := Fv.keep K3 (by simp)
  have Fc1 := Fc.keep K3 (by simp)
  refine go_staticP X3 hx hZ hown (hw _ (List.mem_of_getElem? (i := 80) rfl)) (hw _ (List.mem_of_getElem? (i := 81) rfl)) (hw _ (List.mem_of_getElem? (i := 74) rfl)) (hw _ (List.mem_of_getElem? (i := 82) rfl)) (by decide) rfl [(.ref b), (.int y)] [(.ref u)] (r := (.int (0 : Int32))) (rm16 l Z a0 hw [] b y kb vs T3.heap VV) pd16 rfl (by rw [hml]; rfl) rfl 1 (Nat.le_of_eq rfl) (by decide) (by decide) rfl rfl (by decide) (by decide) (dc hby d13_45) (fun T4 X4 e4 => ?_)
  refine go_putF X4 hx hZ (host := "") hown (Or.inl (hw _ (List.mem_of_getElem? (i := 83) rfl))) Via.refl e4 Fc1 E1 (Or.inr ⟨(hw _ (List.mem_of_getElem? (i := 84) rfl)), rfl, hnm⟩) (hw _ (List.mem_of_getElem? (i := 51) rfl)) (ty := .byte) (by decide) rfl rfl (dc hby d13_48) (fun T5 h5 X5 e5 W5 => ?_)
  refine go_aloadn X5 hx (dc hby d13_51) (v := (.ref u)) rfl rfl ?_
  refine go_aload X5 hx (dc hby d13_52) (v := (.ref b)) rfl rfl ?_
  have Fc2 := Fc1.same W5
  have E2 := E1.wr W5
  have Fv2 := Fv1.other W5 (Or.inr (own_ss_value_coder hw))
  have VV2 := VV.other W5 hcb.symm
  refine go_putF X5 hx hZ (host := "") hown (Or.inl (hw _ (List.mem_of_getElem? (i := 85) rfl))) Via.refl e5 Fv2 E2 (Or.inr ⟨(hw _ (List.mem_of_getElem? (i := 86) rfl)), rfl, hnm⟩) (hw _ (List.mem_of_getElem? (i := 51) rfl)) (ty := .array .byte) (by decide) rfl rfl (dc hby d13_54) (fun T6 h6 X6 e6 W6 => ?_)
  subst e6
  exact go_retV X6 hx hret (dc hby d13_57) hk (by decide) (by decide) ⟨rfl, fun y hy => by
      simp only [List.nil_append, List.mem_append, List.mem_singleton] at hy
      rcases hy with (hy | rfl) | rfl
      · exact Or.inr (by rw [N3 y hy]; exact gb)
      · exact Or.inl rfl
      · exact Or.inl rfl, (((Keep.refl h0 [u]).trans K3 (by simp)).wr W5 (Or.inl (by simp))).wr W6 (Or.inl (by simp)), E2.wr W6, Fc2.other W6 (Or.inr (own_ss_coder_value hw)), b, kb, vs, Fv2.same W6, VV2.other W6 hcb.symm, gv⟩
theorem pd13 : parseMethodDescriptor "([CIILjava/lang/Void;)V" = some ⟨[(.array .char), .int, .int, (.object "java/lang/Void")], none⟩ := by decide +kernel
theorem d9_0 : Dec jdk_42_method_4_code 0 (.aload_n 0) 1 1 := ⟨by decide +kernel, rfl⟩
theorem d9_1 : Dec jdk_42_method_4_code 1 (.aload_n 1) 1 2 := ⟨by decide +kernel, rfl⟩
theorem d9_2 : Dec jdk_42_method_4_code 2 (.iload_n 2) 1 3 := ⟨by decide +kernel, rfl⟩
theorem d9_3 : Dec jdk_42_method_4_code 3 (.iload_n 3) 1 4 := ⟨by decide +kernel, rfl⟩
theorem d9_4 : Dec jdk_42_method_4_code 4 (.aload_n 1) 1 5 := ⟨by decide +kernel, rfl⟩
theorem d9_5 : Dec jdk_42_method_4_code 5 (.iload_n 2) 1 6 := ⟨by decide +kernel, rfl⟩
theorem d9_6 : Dec jdk_42_method_4_code 6 (.iload_n 3) 1 7 := ⟨by decide +kernel, rfl⟩
theorem d9_7 : Dec jdk_42_method_4_code 7 (.invokestatic 30) 3 10 := ⟨by decide +kernel, rfl⟩
theorem d9_10 : Dec jdk_42_method_4_code 10 (.invokespecial 27) 3 13 := ⟨by decide +kernel, rfl⟩
theorem d9_13 : Dec jdk_42_method_4_code 13 (.return_) 1 14 := ⟨by decide +kernel, rfl⟩
theorem pn9 : plainFor (⟨"java/lang/String", "<init>", "([CII)V"⟩ : MethodName) = true := by first | exact plainFor_of_name (by first | (simp [plainName, overriddenIn]; done) | decide +kernel) | decide +kernel
theorem ef9 (x0 : Addr) (x1 : Addr) (x2 : Int32) (x3 : Int32) (m : MethodId) : entryFrame m #[(.ref x0), (.ref x1), (.int x2), (.int x3)] 4 = mkF m 0 #[.val (.ref x0), .val (.ref x1), .val (.int x2), .val (.int x3)] [] := by first | (simp [entryFrame, mkF, argsToLocals, Value.category, maxLocals]; done) | rfl
set_option maxRecDepth 65536 in
set_option maxHeartbeats 40000000 in
theorem rm9 (l : Launch) (Z : State) (a0 : Array Value) (hw : ∀ d ∈ tables_1, d.before a0 Z = true) (ws : List Jvm.Cond) (u t : Addr) (x y : Int32) (kC : ClassId) (cs : Int32) (fm : Value) (h0 : Heap) (E : Exa Z h0 u "java/lang/String") (Fv : Fld Z h0 u "java/lang/String" "value" "[B" .null) (Fc : Fld Z h0 u "java/lang/String" "coder" "B" (.int 0)) (VX : Arv Z h0 t kC .char 8 [.int 97, .int 98, .int 99, .int 100, .int 101, .int 102, .int 103, .int 104] (.int 0)) (hs : 0 ≤ x.toInt ∧ x.toInt ≤ 3) (hl : 1 ≤ y.toInt ∧ y.toInt ≤ 4) (hcs : ¬ cs = 0) (SC : Sta Z h0 "java/lang/String" "COMPACT_STRINGS" "Z" (.int cs)) (hfm : fm.isRef = true) (SF : Sta Z h0 "jdk/internal/util/Preconditions" "SIOOBE_FORMATTER" "Ljava/util/function/BiFunction;" fm) : Ct l Z (⟨"java/lang/String", "<init>", "([CII)V"⟩ : MethodName) jdk_42_method_4_code 4 none ws ({ frames := 3, cells := 1, slots := 4, locals := 52 } : Room) #[(.ref u), (.ref t), (.int x), (.int y)] h0 (fun v h L => v = none ∧ (∀ y ∈ L, y.base = u ∨ h0.size ≤ y.base) ∧ Keep h0 h [u] ∧ own_S Z h u y (nar .byte ((97 : Int32) + x).toInt8.toInt32)) := by
  refine Ct.of (pn9) _ (ef9 u t x y) ?_
  intro p e s m below meth c T0 hx hby hml hZ hown hnm hret hk e0 X0
  show Go p e below _ (T0.setTop (mkF m 0 #[.val (.ref u), .val (.ref t), .val (.int x), .val (.int y)] []))
  refine go_aloadn X0 hx (dc hby d9_0) (v := (.ref u)) rfl rfl ?_
  refine go_aloadn X0 hx (dc hby d9_1) (v := (.ref t)) rfl rfl ?_
  refine go_iloadn X0 hx (dc hby d9_2) (v := x) rfl ?_
  refine go_iloadn X0 hx (dc hby d9_3) (v := y) rfl ?_
  refine go_aloadn X0 hx (dc hby d9_4) (v := (.ref t)) rfl rfl ?_
  refine go_iloadn X0 hx (dc hby d9_5) (v := x) rfl ?_
  refine go_iloadn X0 hx (dc hby d9_6) (v := y) rfl ?_
  refine go_staticP X0 hx hZ hown (hw _ (List.mem_of_getElem? (i := 56) rfl)) (hw _ (List.mem_of_getElem? (i := 57) rfl)) (hw _ (List.mem_of_getElem? (i := 52) rfl)) (hw _ (List.mem_of_getElem? (i := 58) rfl)) (by decide) e0 [(.ref t), (.int x), (.int y)] [(.int y), (.int x), (.ref t), (.ref u)] (r := .null) (rm10 l Z a0 hw [] t x y kC fm h0 VX hs hl hfm SF) pd10 rfl (by rw [hml]; rfl) rfl 4 (Nat.le_of_eq rfl) (by decide) (by decide) rfl rfl (by decide) (by decide) (dc hby d9_7) (fun T1 X1 e1 => ?_)
  refine go_special X1 hx hZ rfl hown (hw _ (List.mem_of_getElem? (i := 66) rfl)) (hw _ (List.mem_of_getElem? (i := 67) rfl)) (hw _ (List.mem_of_getElem? (i := 52) rfl)) (hw _ (List.mem_of_getElem? (i := 69) rfl)) (by decide) e1 (a := u) [(.ref t), (.int x), (.int y), .null] [] (rm13 l Z a0 hw [] u t x y kC cs h0 E Fv Fc VX hs hl hcs SC) pd13 rfl (by rw [hml]; rfl) rfl 0 (Nat.le_of_eq rfl) (by decide) (by decide) (by decide) (by decide) (dc hby d9_10) (fun T2 v2 L2 X2 hQ2 => ?_)
  obtain ⟨rfl, N2, K2, SS⟩ := hQ2
  show Go p e below _ (T2.setTop (mkF m 13 #[.val (.ref u), .val (.ref t), .val (.int x), .val (.int y)] []))
  exact go_retV X2 hx hret (dc hby d9_13) hk (by decide) (by decide) ⟨rfl, fun y hy => N2 y (by simpa using hy), K2, SS⟩
theorem pd9 : parseMethodDescriptor "([CII)V" = some ⟨[(.array .char), .int, .int], none⟩ := by decide +kernel
theorem d6_0 : Dec prog_57_method_3_code 0 (.iload_n 1) 1 1 := ⟨by decide +kernel, rfl⟩
theorem d6_1 : Dec prog_57_method_3_code 1 (.aload_n 0) 1 2 := ⟨by decide +kernel, rfl⟩
theorem d6_2 : Dec prog_57_method_3_code 2 (.getfield 26) 3 5 := ⟨by decide +kernel, rfl⟩
theorem d6_5 : Dec prog_57_method_3_code 5 (.invokestatic 30) 3 8 := ⟨by decide +kernel, rfl⟩
theorem d6_8 : Dec prog_57_method_3_code 8 (.pop) 1 9 := ⟨by decide +kernel, rfl⟩
theorem d6_9 : Dec prog_57_method_3_code 9 (.aload_n 0) 1 10 := ⟨by decide +kernel, rfl⟩
theorem d6_10 : Dec prog_57_method_3_code 10 (.getfield 22) 3 13 := ⟨by decide +kernel, rfl⟩
theorem d6_13 : Dec prog_57_method_3_code 13 (.iload_n 1) 1 14 := ⟨by decide +kernel, rfl⟩
theorem d6_14 : Dec prog_57_method_3_code 14 (.aaload) 1 15 := ⟨by decide +kernel, rfl⟩
theorem d6_15 : Dec prog_57_method_3_code 15 (.astore_n 2) 1 16 := ⟨by decide +kernel, rfl⟩
theorem d6_16 : Dec prog_57_method_3_code 16 (.aload_n 2) 1 17 := ⟨by decide +kernel, rfl⟩
theorem d6_17 : DecB prog_57_method_3_code 17 (.ifnull 14) (14) 20 31 := ⟨by decide +kernel, rfl, by decide, by decide⟩
theorem d6_31 : Dec prog_57_method_3_code 31 (.new 20) 3 34 := ⟨by decide +kernel, rfl⟩
theorem d6_34 : Dec prog_57_method_3_code 34 (.dup) 1 35 := ⟨by decide +kernel, rfl⟩
theorem d6_35 : Dec prog_57_method_3_code 35 (.aload_n 0) 1 36 := ⟨by decide +kernel, rfl⟩
theorem d6_36 : Dec prog_57_method_3_code 36 (.getfield 7) 3 39 := ⟨by decide +kernel, rfl⟩
theorem d6_39 : Dec prog_57_method_3_code 39 (.aload_n 0) 1 40 := ⟨by decide +kernel, rfl⟩
theorem d6_40 : Dec prog_57_method_3_code 40 (.getfield 13) 3 43 := ⟨by decide +kernel, rfl⟩
theorem d6_43 : Dec prog_57_method_3_code 43 (.iload_n 1) 1 44 := ⟨by decide +kernel, rfl⟩
theorem d6_44 : Dec prog_57_method_3_code 44 (.iaload) 1 45 := ⟨by decide +kernel, rfl⟩
theorem d6_45 : Dec prog_57_method_3_code 45 (.aload_n 0) 1 46 := ⟨by decide +kernel, rfl⟩
theorem d6_46 : Dec prog_57_method_3_code 46 (.getfield 17) 3 49 := ⟨by decide +kernel, rfl⟩
theorem d6_49 : Dec prog_57_method_3_code 49 (.iload_n 1) 1 50 := ⟨by decide +kernel, rfl⟩
theorem d6_50 : Dec prog_57_method_3_code 50 (.iaload) 1 51 := ⟨by decide +kernel, rfl⟩
theorem d6_51 : Dec prog_57_method_3_code 51 (.aload_n 0) 1 52 := ⟨by decide +kernel, rfl⟩
theorem d6_52 : Dec prog_57_method_3_code 52 (.getfield 13) 3 55 := ⟨by decide +kernel, rfl⟩
theorem d6_55 : Dec prog_57_method_3_code 55 (.iload_n 1) 1 56 := ⟨by decide +kernel, rfl⟩
theorem d6_56 : Dec prog_57_method_3_code 56 (.iaload) 1 57 := ⟨by decide +kernel, rfl⟩
theorem d6_57 : Dec prog_57_method_3_code 57 (.isub) 1 58 := ⟨by decide +kernel, rfl⟩
theorem d6_58 : Dec prog_57_method_3_code 58 (.invokespecial 40) 3 61 := ⟨by decide +kernel, rfl⟩
theorem d6_61 : Dec prog_57_method_3_code 61 (.astore_n 3) 1 62 := ⟨by decide +kernel, rfl⟩
theorem d6_62 : Dec prog_57_method_3_code 62 (.aload_n 0) 1 63 := ⟨by decide +kernel, rfl⟩
theorem d6_63 : Dec prog_57_method_3_code 63 (.getfield 22) 3 66 := ⟨by decide +kernel, rfl⟩
theorem d6_66 : Dec prog_57_method_3_code 66 (.iload_n 1) 1 67 := ⟨by decide +kernel, rfl⟩
theorem d6_67 : Dec prog_57_method_3_code 67 (.aload_n 3) 1 68 := ⟨by decide +kernel, rfl⟩
theorem d6_68 : Dec prog_57_method_3_code 68 (.aastore) 1 69 := ⟨by decide +kernel, rfl⟩
theorem d6_69 : Dec prog_57_method_3_code 69 (.aload_n 3) 1 70 := ⟨by decide +kernel, rfl⟩
theorem d6_70 : Dec prog_57_method_3_code 70 (.areturn) 1 71 := ⟨by decide +kernel, rfl⟩
theorem pn6 : plainFor (⟨"com/example/strict_tariff/stricttariff/io/CsvRow", "get", "(I)Ljava/lang/String;"⟩ : MethodName) = true := by first | exact plainFor_of_name (by first | (simp [plainName, overriddenIn]; done) | decide +kernel) | decide +kernel
theorem ef6 (x0 : Addr) (x1 : Int32) (m : MethodId) : entryFrame m #[(.ref x0), (.int x1)] 4 = mkF m 0 #[.val (.ref x0), .val (.int x1), .unset, .unset] [] := by first | (simp [entryFrame, mkF, argsToLocals, Value.category, maxLocals]; done) | rfl
set_option maxRecDepth 65536 in
set_option maxHeartbeats 40000000 in
theorem rm6 (l : Launch) (Z : State) (a0 : Array Value) (hw : ∀ d ∈ tables_1, d.before a0 Z = true) (ws : List Jvm.Cond) (a : Addr) (i : Int32) (t st en tk : Addr) (kS kE kT : ClassId) (n x y : Int32) (j : Nat) (vs ve vt : List Value) (kC : ClassId) (cs : Int32) (fm : Value) (h0 : Heap) (FR : own_R Z h0 a t st en tk kS kE kT n vs ve vt) (hf : ¬ i < 0 ∧ i < 16) (hfn : i < n) (hj : i.toNatClampNeg = j) (hlt : j < vt.length) (hvt : vt.getD i.toNatClampNeg .null = .null) (hvs : vs.getD i.toNatClampNeg (.int 0) = .int x) (hve : ve.getD i.toNatClampNeg (.int 0) = .int (x + y)) (VX : Arv Z h0 t kC .char 8 [.int 97, .int 98, .int 99, .int 100, .int 101, .int 102, .int 103, .int 104] (.int 0)) (hs : 0 ≤ x.toInt ∧ x.toInt ≤ 3) (hl : 1 ≤ y.toInt ∧ y.toInt ≤ 4) (hcs : ¬ cs = 0) (SC : Sta Z h0 "java/lang/String" "COMPACT_STRINGS" "Z" (.int cs)) (hfm : fm.isRef = true) (SF : Sta Z h0 "jdk/internal/util/Preconditions" "SIOOBE_FORMATTER" "Ljava/util/function/BiFunction;" fm) : Ct l Z (⟨"com/example/strict_tariff/stricttariff/io/CsvRow", "get", "(I)Ljava/lang/String;"⟩ : MethodName) prog_57_method_3_code 4 (some (.object "java/lang/String")) ws ({ frames := 4, cells := 2, slots := 8, locals := 68 } : Room) #[(.ref a), (.int i)] h0 (fun v h L => ∃ c, v = some (.ref c) ∧ (∀ y ∈ L, y.base = tk ∨ h0.size ≤ y.base) ∧ Keep h0 h [tk] ∧ own_S Z h c y (nar .byte ((97 : Int32) + x).toInt8.toInt32) ∧ own_R Z h a t st en tk kS kE kT n vs ve (vt.set j (.ref c))) := by
  refine Ct.of (pn6) _ (ef6 a i) ?_
  intro p e s m below meth c T0 hx hby hml hZ hown hnm hret hk e0 X0
  obtain ⟨E, Ft, Fs, Fe, Fk, Fz, VS, VE, VT, OT, q1, q2, q3, q4, q5, q6⟩ := FR
  show Go p e below _ (T0.setTop (mkF m 0 #[.val (.ref a), .val (.int i), .unset, .unset] []))
  refine go_iloadn X0 hx (dc hby d6_0) (v := i) rfl ?_
  refine go_aloadn X0 hx (dc hby d6_1) (v := (.ref a)) rfl rfl ?_
  refine go_getF X0 hx hZ (host := "") hown (Or.inl (hw _ (List.mem_of_getElem? (i := 26) rfl))) Via.refl e0 Fz (dc hby d6_2) (fun T1 X1 e1 => ?_)
  refine go_staticP X1 hx hZ hown (hw _ (List.mem_of_getElem? (i := 43) rfl)) (hw _ (List.mem_of_getElem? (i := 44) rfl)) (hw _ (List.mem_of_getElem? (i := 45) rfl)) (hw _ (List.mem_of_getElem? (i := 46) rfl)) (by decide) e1 [(.int i), (.int n)] [] (r := (.int i)) (rm7 l Z a0 hw [] i n h0 hf.1 hfn) pd7 rfl (by rw [hml]; rfl) rfl 0 (Nat.le_of_eq rfl) (by decide) (by decide) rfl rfl (by decide) (by decide) (dc hby d6_5) (fun T2 X2 e2 => ?_)
  refine go_pop X2 hx (dc hby d6_8) rfl ?_
  refine go_aloadn X2 hx (dc hby d6_9) (v := (.ref a)) rfl rfl ?_
  refine go_getF X2 hx hZ (host := "") hown (Or.inl (hw _ (List.mem_of_getElem? (i := 19) rfl))) Via.refl e2 Fk (dc hby d6_10) (fun T3 X3 e3 => ?_)
  refine go_iloadn X3 hx (dc hby d6_13) (v := i) rfl ?_
  refine go_aaloadV X3 hx hZ e3 rfl VT hf hvt (dc hby d6_14) ?_
  refine go_astoren X3 hx #[.val (.ref a), .val (.int i), .val .null, .unset] (dc hby d6_15) rfl rfl ?_
  refine go_aloadn X3 hx (dc hby d6_16) (v := .null) rfl rfl ?_
  refine go_ifnullY X3 hx (db hby d6_17) ?_
  refine go_newO X3 hx hZ hown (hw _ (List.mem_of_getElem? (i := 17) rfl)) (hw _ (List.mem_of_getElem? (i := 51) rfl)) (hw _ (List.mem_of_getElem? (i := 52) rfl)) e3 (dc hby d6_31) (by decide) (by decide) (fun T4 h4 c g4 X4 e4 E4 A4 D4 => ?_)
  have z1 := E.ext E4
  have z2 := Ft.ext E4
  have z3 := Fs.ext E4
  have z4 := Fe.ext E4
  have z5 := Fk.ext E4
  have z6 := Fz.ext E4
  have z7 := VS.ext E4
  have z8 := VE.ext E4
  have z9 := VT.ext E4
  have VX1 := VX.ext E4
  refine go_dup X4 hx (dc hby d6_34) rfl ?_
  refine go_aloadn X4 hx (dc hby d6_35) (v := (.ref a)) rfl rfl ?_
  refine go_getF X4 hx hZ (host := "") hown (Or.inl (hw _ (List.mem_of_getElem? (i := 10) rfl))) Via.refl e4 z2 (dc hby d6_36) (fun T5 X5 e5 => ?_)
  refine go_aloadn X5 hx (dc hby d6_39) (v := (.ref a)) rfl rfl ?_
  refine go_getF X5 hx hZ (host := "") hown (Or.inl (hw _ (List.mem_of_getElem? (i := 13) rfl))) Via.refl e5 z3 (dc hby d6_40) (fun T6 X6 e6 => ?_)
  refine go_iloadn X6 hx (dc hby d6_43) (v := i) rfl ?_
  refine go_ialoadV X6 hx hZ e6 z7 hf hvs (dc hby d6_44) ?_
  refine go_aloadn X6 hx (dc hby d6_45) (v := (.ref a)) rfl rfl ?_
  refine go_getF X6 hx hZ (host := "") hown (Or.inl (hw _ (List.mem_of_getElem? (i := 15) rfl))) Via.refl e6 z4 (dc hby d6_46) (fun T7 X7 e7 => ?_)
  refine go_iloadn X7 hx (dc hby d6_49) (v := i) rfl ?_
  refine go_ialoadV X7 hx hZ e7 z8 hf hve (dc hby d6_50) ?_
  refine go_aloadn X7 hx (dc hby d6_51) (v := (.ref a)) rfl rfl ?_
  refine go_getF X7 hx hZ (host := "") hown (Or.inl (hw _ (List.mem_of_getElem? (i := 13) rfl))) Via.refl e7 z3 (dc hby d6_52) (fun T8 X8 e8 => ?_)
  refine go_iloadn X8 hx (dc hby d6_55) (v := i) rfl ?_
  refine go_ialoadV X8 hx hZ e8 z7 hf hvs (dc hby d6_56) ?_
  refine go_isub X8 hx (dc hby d6_57) ?_
  rw [own_sub1]
  show Go p e below _ (T8.setTop (mkF m 58 #[.val (.ref a), .val (.int i), .val .null, .unset] [(.int y), (.int x), (.ref t), (.ref c), (.ref c)]))
  refine go_special X8 hx hZ rfl hown (hw _ (List.mem_of_getElem? (i := 53) rfl)) (hw _ (List.mem_of_getElem? (i := 54) rfl)) (hw _ (List.mem_of_getElem? (i := 52) rfl)) (hw _ (List.mem_of_getElem? (i := 55) rfl)) (by decide) e8 (a := c) [(.ref t), (.int x), (.int y)] [(.ref c)] (rm9 l Z a0 hw [] c t x y kC cs fm h4 A4 (D4 (Or.inr (hw _ (List.mem_of_getElem? (i := 86) rfl))) (ty := .array .byte) (by decide)) (D4 (Or.inr (hw _ (List.mem_of_getElem? (i := 84) rfl))) (ty := .byte) (by decide)) VX1 hs hl hcs (SC.ext E4) hfm (SF.ext E4)) pd9 rfl (by rw [hml]; rfl) rfl 1 (Nat.le_of_eq rfl) (by decide) (by decide) (by decide) (by decide) (dc hby d6_58) (fun T9 v9 L9 X9 hQ9 => ?_)
  obtain ⟨rfl, N9, K9, SS⟩ := hQ9
  show Go p e below _ (T9.setTop (mkF m 61 #[.val (.ref a), .val (.int i), .val .null, .unset] [(.ref c)]))
  have gc : h0.size ≤ c := Nat.le_of_eq g4.symm
  have z10 := z1.keep K9
  have z11 := z2.keep K9 (by simp; exact Nat.ne_of_lt (Nat.lt_of_lt_of_le E.lt gc))
  have z12 := z3.keep K9 (by simp; exact Nat.ne_of_lt (Nat.lt_of_lt_of_le E.lt gc))
  have z13 := z4.keep K9 (by simp; exact Nat.ne_of_lt (Nat.lt_of_lt_of_le E.lt gc))
  have z14 := z5.keep K9 (by simp; exact Nat.ne_of_lt (Nat.lt_of_lt_of_le E.lt gc))
  have z15 := z6.keep K9 (by simp; exact Nat.ne_of_lt (Nat.lt_of_lt_of_le E.lt gc))
  have z16 := z7.keep K9 (by simp; exact Nat.ne_of_lt (Nat.lt_of_lt_of_le VS.lt gc))
  have z17 := z8.keep K9 (by simp; exact Nat.ne_of_lt (Nat.lt_of_lt_of_le VE.lt gc))
  have z18 := z9.keep K9 (by simp; exact Nat.ne_of_lt (Nat.lt_of_lt_of_le VT.lt gc))
  refine go_astoren X9 hx #[.val (.ref a), .val (.int i), .val .null, .val (.ref c)] (dc hby d6_61) rfl rfl ?_
  refine go_aloadn X9 hx (dc hby d6_62) (v := (.ref a)) rfl rfl ?_
  refine go_getF X9 hx hZ (host := "") hown (Or.inl (hw _ (List.mem_of_getElem? (i := 19) rfl))) Via.refl rfl z14 (dc hby d6_63) (fun T10 X10 e10 => ?_)
  refine go_iloadn X10 hx (dc hby d6_66) (v := i) rfl ?_
  refine go_aloadn X10 hx (dc hby d6_67) (v := (.ref c)) rfl rfl ?_
  have ctk : c ≠ tk := Nat.ne_of_gt (Nat.lt_of_lt_of_le VT.lt gc)
  refine go_aastoreV X10 hx hZ e10 z18 OT (Ins.of_exa SS.1 (hw _ (List.mem_of_getElem? (i := 68) rfl))) hf j hj hlt (dc hby d6_68) (fun T11 h11 X11 e11 W11 V11 => ?_)
  have z19 := z10.wr W11
  have z20 := z11.other W11 (Or.inl q3)
  have z21 := z12.other W11 (Or.inl q3)
  have z22 := z13.other W11 (Or.inl q3)
  have z23 := z14.other W11 (Or.inl q3)
  have z24 := z15.other W11 (Or.inl q3)
  have z25 := z16.other W11 q5.symm
  have z26 := z17.other W11 q6.symm
  have SS2 := SS.wr W11 ctk z18
  refine go_aloadn X11 hx (dc hby d6_69) (v := (.ref c)) rfl rfl ?_
  subst e11
  exact go_retA X11 hx hret rfl rfl (dc hby d6_70) hk (by decide) (by decide) ⟨c, rfl, fun y hy => by
      simp only [List.nil_append, List.mem_append, List.mem_singleton] at hy
      rcases hy with hy | rfl
      · rcases N9 y hy with q | q
        · exact Or.inr (by rw [q]; exact gc)
        · exact Or.inr (Nat.le_trans E4.1 q)
      · exact Or.inl rfl, (((Keep.refl h0 [tk]).ext E4).trans K9 (fun x hx => Or.inr (by simp at hx; rw [hx]; exact gc))).wr W11 (Or.inl (by simp)), SS2, ⟨z19, z20, z21, z22, z23, z24, z25, z26, V11, OT, q1, q2, q3, q4, q5, q6⟩⟩
theorem pd6 : parseMethodDescriptor "(I)Ljava/lang/String;" = some ⟨[.int], some (.object "java/lang/String")⟩ := by decide +kernel
theorem d19_0 : Dec jdk_42_method_152_code 0 (.getstatic 38) 3 3 := ⟨by decide +kernel, rfl⟩
theorem d19_3 : DecB jdk_42_method_152_code 3 (.ifCond .eq 10) (10) 6 13 := ⟨by decide +kernel, rfl, by decide, by decide⟩
theorem d19_6 : Dec jdk_42_method_152_code 6 (.aload_n 0) 1 7 := ⟨by decide +kernel, rfl⟩
theorem d19_7 : Dec jdk_42_method_152_code 7 (.getfield 15) 3 10 := ⟨by decide +kernel, rfl⟩
theorem d19_10 : DecB jdk_42_method_152_code 10 (.goto 4) (4) 13 14 := ⟨by decide +kernel, rfl, by decide, by decide⟩
theorem d19_14 : Dec jdk_42_method_152_code 14 (.ireturn) 1 15 := ⟨by decide +kernel, rfl⟩
theorem pn19 : plainFor (⟨"java/lang/String", "coder", "()B"⟩ : MethodName) = true := by first | exact plainFor_of_name (by first | (simp [plainName, overriddenIn]; done) | decide +kernel) | decide +kernel
theorem ef19 (x0 : Addr) (m : MethodId) : entryFrame m #[(.ref x0)] 1 = mkF m 0 #[.val (.ref x0)] [] := by first | (simp [entryFrame, mkF, argsToLocals, Value.category, maxLocals]; done) | rfl
set_option maxRecDepth 65536 in
set_option maxHeartbeats 40000000 in
theorem rm19 (l : Launch) (Z : State) (a0 : Array Value) (hw : ∀ d ∈ tables_1, d.before a0 Z = true) (ws : List Jvm.Cond) (u : Addr) (y z cs : Int32) (h0 : Heap) (SS : own_S Z h0 u y z) (hcs : ¬ cs = 0) (SC : Sta Z h0 "java/lang/String" "COMPACT_STRINGS" "Z" (.int cs)) : Ct l Z (⟨"java/lang/String", "coder", "()B"⟩ : MethodName) jdk_42_method_152_code 1 (some .byte) ws ({ frames := 0, cells := 0, slots := 0, locals := 0 } : Room) #[(.ref u)] h0 (QP (.int 0) h0) := by
  refine Ct.of (pn19) _ (ef19 u) ?_
  intro p e s m below meth c T0 hx hby hml hZ hown hnm hret hk e0 X0
  show Go p e below _ (T0.setTop (mkF m 0 #[.val (.ref u)] []))
  refine go_getS X0 hx hZ (host := "") hown (hw _ (List.mem_of_getElem? (i := 71) rfl)) Via.refl e0 SC (dc hby d19_0) (fun T1 X1 e1 => ?_)
  refine go_ifc_eq X1 hx (db hby d19_3) (fun c3 => absurd c3 hcs) (fun c3 => ?_)
  refine go_aloadn X1 hx (dc hby d19_6) (v := (.ref u)) rfl rfl ?_
  refine go_getF X1 hx hZ (host := "") hown (Or.inl (hw _ (List.mem_of_getElem? (i := 83) rfl))) Via.refl e1 SS.2.1 (dc hby d19_7) (fun T2 X2 e2 => ?_)
  refine go_goto X2 hx (db hby d19_10) ?_
  exact go_retN X2 hx hret (by simp) (dc hby d19_14) hk (by decide) (by decide) ⟨rfl, e2, rfl⟩
theorem pd19 : parseMethodDescriptor "()B" = some ⟨[], some .byte⟩ := by decide +kernel
theorem d18_0 : Dec jdk_42_method_54_code 0 (.aload_n 0) 1 1 := ⟨by decide +kernel, rfl⟩
theorem d18_1 : Dec jdk_42_method_54_code 1 (.getfield 9) 3 4 := ⟨by decide +kernel, rfl⟩
theorem d18_4 : Dec jdk_42_method_54_code 4 (.arraylength) 1 5 := ⟨by decide +kernel, rfl⟩
theorem d18_5 : Dec jdk_42_method_54_code 5 (.aload_n 0) 1 6 := ⟨by decide +kernel, rfl⟩
theorem d18_6 : Dec jdk_42_method_54_code 6 (.invokevirtual 335) 3 9 := ⟨by decide +kernel, rfl⟩
theorem d18_9 : Dec jdk_42_method_54_code 9 (.ishr) 1 10 := ⟨by decide +kernel, rfl⟩
theorem d18_10 : Dec jdk_42_method_54_code 10 (.ireturn) 1 11 := ⟨by decide +kernel, rfl⟩
theorem pn18 : plainFor (⟨"java/lang/String", "length", "()I"⟩ : MethodName) = true := by first | exact plainFor_of_name (by first | (simp [plainName, overriddenIn]; done) | decide +kernel) | decide +kernel
theorem ef18 (x0 : Addr) (m : MethodId) : entryFrame m #[(.ref x0)] 1 = mkF m 0 #[.val (.ref x0)] [] := by first | (simp [entryFrame, mkF, argsToLocals, Value.category, maxLocals]; done) | rfl
set_option maxRecDepth 65536 in
set_option maxHeartbeats 40000000 in
theorem rm18 (l : Launch) (Z : State) (a0 : Array Value) (hw : ∀ d ∈ tables_1, d.before a0 Z = true) (ws : List Jvm.Cond) (u : Addr) (y z cs : Int32) (h0 : Heap) (SS : own_S Z h0 u y z) (hcs : ¬ cs = 0) (SC : Sta Z h0 "java/lang/String" "COMPACT_STRINGS" "Z" (.int cs)) : Ct l Z (⟨"java/lang/String", "length", "()I"⟩ : MethodName) jdk_42_method_54_code 1 (some .int) ws ({ frames := 1, cells := 0, slots := 0, locals := 13 } : Room) #[(.ref u)] h0 (QP (.int y) h0) := by
  refine Ct.of (pn18) _ (ef18 u) ?_
  intro p e s m below meth c T0 hx hby hml hZ hown hnm hret hk e0 X0
  have SS0 := SS
  obtain ⟨E, Fc, b, kb, vs, Fv, VB, gv⟩ := SS0
  show Go p e below _ (T0.setTop (mkF m 0 #[.val (.ref u)] []))
  refine go_aloadn X0 hx (dc hby d18_0) (v := (.ref u)) rfl rfl ?_
  refine go_getF X0 hx hZ (host := "") hown (Or.inl (hw _ (List.mem_of_getElem? (i := 85) rfl))) Via.refl e0 Fv (dc hby d18_1) (fun T1 X1 e1 => ?_)
  have VQ2 := VB
  obtain ⟨cQ2, AQ2, _, SQ2, zQ2, _, _⟩ := VQ2
  refine go_alen X1 hx hZ e1 AQ2 SQ2 zQ2 (dc hby d18_4) ?_
  refine go_aloadn X1 hx (dc hby d18_5) (v := (.ref u)) rfl rfl ?_
  refine go_virtualP X1 hx hZ hown (hw _ (List.mem_of_getElem? (i := 96) rfl)) (hw _ (List.mem_of_getElem? (i := 97) rfl)) (hw _ (List.mem_of_getElem? (i := 99) rfl)) (hw _ (List.mem_of_getElem? (i := 98) rfl)) (hw _ (List.mem_of_getElem? (i := 52) rfl)) (hw _ (List.mem_of_getElem? (i := 100) rfl)) (by decide) e1 (a := u) E [] [(.int y)] (r := (.int (0 : Int32))) (rm19 l Z a0 hw [] u y z cs h0 SS hcs SC) pd19 rfl (by rw [hml]; rfl) rfl 1 (Nat.le_of_eq rfl) (by decide) (by decide) rfl rfl (by decide) (by decide) (dc hby d18_6) (fun T3 X3 e3 => ?_)
  refine go_ishr X3 hx (dc hby d18_9) ?_
  rw [own_shr0]
  show Go p e below _ (T3.setTop (mkF m 10 #[.val (.ref u)] [(.int y)]))
  exact go_retI X3 hx hret (dc hby d18_10) hk (by decide) (by decide) ⟨rfl, e3, rfl⟩
theorem pd18 : parseMethodDescriptor "()I" = some ⟨[], some .int⟩ := by decide +kernel
theorem d21_0 : Dec jdk_42_method_154_code 0 (.getstatic 38) 3 3 := ⟨by decide +kernel, rfl⟩
theorem d21_3 : DecB jdk_42_method_154_code 3 (.ifCond .eq 14) (14) 6 17 := ⟨by decide +kernel, rfl, by decide, by decide⟩
theorem d21_6 : Dec jdk_42_method_154_code 6 (.aload_n 0) 1 7 := ⟨by decide +kernel, rfl⟩
theorem d21_7 : Dec jdk_42_method_154_code 7 (.getfield 15) 3 10 := ⟨by decide +kernel, rfl⟩
theorem d21_10 : DecB jdk_42_method_154_code 10 (.ifCond .ne 7) (7) 13 17 := ⟨by decide +kernel, rfl, by decide, by decide⟩
theorem d21_13 : Dec jdk_42_method_154_code 13 (.iconst 1) 1 14 := ⟨by decide +kernel, rfl⟩
theorem d21_14 : DecB jdk_42_method_154_code 14 (.goto 4) (4) 17 18 := ⟨by decide +kernel, rfl, by decide, by decide⟩
theorem d21_18 : Dec jdk_42_method_154_code 18 (.ireturn) 1 19 := ⟨by decide +kernel, rfl⟩
theorem pn21 : plainFor (⟨"java/lang/String", "isLatin1", "()Z"⟩ : MethodName) = true := by first | exact plainFor_of_name (by first | (simp [plainName, overriddenIn]; done) | decide +kernel) | decide +kernel
theorem ef21 (x0 : Addr) (m : MethodId) : entryFrame m #[(.ref x0)] 1 = mkF m 0 #[.val (.ref x0)] [] := by first | (simp [entryFrame, mkF, argsToLocals, Value.category, maxLocals]; done) | rfl
set_option maxRecDepth 65536 in
set_option maxHeartbeats 40000000 in
theorem rm21 (l : Launch) (Z : State) (a0 : Array Value) (hw : ∀ d ∈ tables_1, d.before a0 Z = true) (ws : List Jvm.Cond) (u : Addr) (y z cs : Int32) (h0 : Heap) (SS : own_S Z h0 u y z) (hcs : ¬ cs = 0) (SC : Sta Z h0 "java/lang/String" "COMPACT_STRINGS" "Z" (.int cs)) : Ct l Z (⟨"java/lang/String", "isLatin1", "()Z"⟩ : MethodName) jdk_42_method_154_code 1 (some .boolean) ws ({ frames := 0, cells := 0, slots := 0, locals := 0 } : Room) #[(.ref u)] h0 (QP (.int 1) h0) := by
  refine Ct.of (pn21) _ (ef21 u) ?_
  intro p e s m below meth c T0 hx hby hml hZ hown hnm hret hk e0 X0
  show Go p e below _ (T0.setTop (mkF m 0 #[.val (.ref u)] []))
  refine go_getS X0 hx hZ (host := "") hown (hw _ (List.mem_of_getElem? (i := 71) rfl)) Via.refl e0 SC (dc hby d21_0) (fun T1 X1 e1 => ?_)
  refine go_ifc_eq X1 hx (db hby d21_3) (fun c3 => absurd c3 hcs) (fun c3 => ?_)
  refine go_aloadn X1 hx (dc hby d21_6) (v := (.ref u)) rfl rfl ?_
  refine go_getF X1 hx hZ (host := "") hown (Or.inl (hw _ (List.mem_of_getElem? (i := 83) rfl))) Via.refl e1 SS.2.1 (dc hby d21_7) (fun T2 X2 e2 => ?_)
  refine go_ifc_ne X2 hx (db hby d21_10) (fun c10 => absurd c10 (by decide)) (fun c10 => ?_)
  refine go_iconst X2 hx (1) (dc hby d21_13) rfl ?_
  refine go_goto X2 hx (db hby d21_14) ?_
  exact go_retN X2 hx hret (by simp) (dc hby d21_18) hk (by decide) (by decide) ⟨rfl, e2, rfl⟩
theorem pd21 : parseMethodDescriptor "()Z" = some ⟨[], some .boolean⟩ := by decide +kernel
theorem d22_0 : Dec jdk_43_method_2_code 0 (.iload_n 1) 1 1 := ⟨by decide +kernel, rfl⟩
theorem d22_1 : Dec jdk_43_method_2_code 1 (.aload_n 0) 1 2 := ⟨by decide +kernel, rfl⟩
theorem d22_2 : Dec jdk_43_method_2_code 2 (.arraylength) 1 3 := ⟨by decide +kernel, rfl⟩
theorem d22_3 : Dec jdk_43_method_2_code 3 (.invokestatic 9) 3 6 := ⟨by decide +kernel, rfl⟩
theorem d22_6 : Dec jdk_43_method_2_code 6 (.aload_n 0) 1 7 := ⟨by decide +kernel, rfl⟩
theorem d22_7 : Dec jdk_43_method_2_code 7 (.iload_n 1) 1 8 := ⟨by decide +kernel, rfl⟩
theorem d22_8 : Dec jdk_43_method_2_code 8 (.baload) 1 9 := ⟨by decide +kernel, rfl⟩
theorem d22_9 : Dec jdk_43_method_2_code 9 (.sipush 255) 3 12 := ⟨by decide +kernel, rfl⟩
theorem d22_12 : Dec jdk_43_method_2_code 12 (.iand) 1 13 := ⟨by decide +kernel, rfl⟩
theorem d22_13 : Dec jdk_43_method_2_code 13 (.i2c) 1 14 := ⟨by decide +kernel, rfl⟩
theorem d22_14 : Dec jdk_43_method_2_code 14 (.ireturn) 1 15 := ⟨by decide +kernel, rfl⟩
theorem pn22 : plainFor (⟨"java/lang/StringLatin1", "charAt", "([BI)C"⟩ : MethodName) = true := by first | exact plainFor_of_name (by first | (simp [plainName, overriddenIn]; done) | decide +kernel) | decide +kernel
theorem ef22 (x0 : Addr) (x1 : Int32) (m : MethodId) : entryFrame m #[(.ref x0), (.int x1)] 2 = mkF m 0 #[.val (.ref x0), .val (.int x1)] [] := by first | (simp [entryFrame, mkF, argsToLocals, Value.category, maxLocals]; done) | rfl
set_option maxRecDepth 65536 in
set_option maxHeartbeats 40000000 in
theorem rm22 (l : Launch) (Z : State) (a0 : Array Value) (hw : ∀ d ∈ tables_1, d.before a0 Z = true) (ws : List Jvm.Cond) (b : Addr) (kb : ClassId) (y z : Int32) (vs : List Value) (fm : Value) (h0 : Heap) (VB : Arv Z h0 b kb .byte y vs (.int 0)) (gv : vs.getD 0 (.int 0) = .int z) (hy : (0 : Int32) < y) (hfm : fm.isRef = true) (SF : Sta Z h0 "jdk/internal/util/Preconditions" "SIOOBE_FORMATTER" "Ljava/util/function/BiFunction;" fm) : Ct l Z (⟨"java/lang/StringLatin1", "charAt", "([BI)C"⟩ : MethodName) jdk_43_method_2_code 2 (some .char) ws ({ frames := 2, cells := 0, slots := 0, locals := 27 } : Room) #[(.ref b), (.int (0 : Int32))] h0 (QP (.int (nar .char (z &&& 255).toUInt32.toUInt16.toUInt32.toInt32)) h0) := by
  refine Ct.of (pn22) _ (ef22 b ((0 : Int32))) ?_
  intro p e s m below meth c T0 hx hby hml hZ hown hnm hret hk e0 X0
  show Go p e below _ (T0.setTop (mkF m 0 #[.val (.ref b), .val (.int (0 : Int32))] []))
  refine go_iloadn X0 hx (dc hby d22_0) (v := (0 : Int32)) rfl ?_
  refine go_aloadn X0 hx (dc hby d22_1) (v := (.ref b)) rfl rfl ?_
  have VQ1 := VB
  obtain ⟨cQ1, AQ1, _, SQ1, zQ1, _, _⟩ := VQ1
  refine go_alen X0 hx hZ e0 AQ1 SQ1 zQ1 (dc hby d22_2) ?_
  refine go_static X0 hx hZ hown (hw _ (List.mem_of_getElem? (i := 115) rfl)) (hw _ (List.mem_of_getElem? (i := 116) rfl)) (hw _ (List.mem_of_getElem? (i := 52) rfl)) (hw _ (List.mem_of_getElem? (i := 117) rfl)) (by decide) e0 [(.int (0 : Int32)), (.int y)] [] (rm23 l Z a0 hw [] 0 y fm h0 (by decide) hy hfm SF) pd23 rfl (by rw [hml]; rfl) rfl 0 (Nat.le_of_eq rfl) (by decide) (by decide) (by decide) (by decide) (dc hby d22_3) (fun T2 v2 L2 X2 hQ2 => ?_)
  obtain ⟨rfl, e2, rfl⟩ := hQ2
  show Go p e below _ (T2.setTop (mkF m 6 #[.val (.ref b), .val (.int (0 : Int32))] []))
  refine go_aloadn X2 hx (dc hby d22_6) (v := (.ref b)) rfl rfl ?_
  refine go_iloadn X2 hx (dc hby d22_7) (v := (0 : Int32)) rfl ?_
  refine go_baloadV X2 hx hZ e2 VB ⟨by decide, hy⟩ gv (dc hby d22_8) ?_
  refine go_sipush X2 hx (255) (dc hby d22_9) rfl ?_
  refine go_iand X2 hx (dc hby d22_12) ?_
  refine go_i2c X2 hx (dc hby d22_13) ?_
  exact go_retN X2 hx hret (by simp) (dc hby d22_14) hk (by decide) (by decide) ⟨rfl, e2, by simp⟩
theorem pd22 : parseMethodDescriptor "([BI)C" = some ⟨[(.array .byte), .int], some .char⟩ := by decide +kernel
theorem d20_0 : Dec jdk_42_method_56_code 0 (.aload_n 0) 1 1 := ⟨by decide +kernel, rfl⟩
theorem d20_1 : Dec jdk_42_method_56_code 1 (.invokevirtual 492) 3 4 := ⟨by decide +kernel, rfl⟩
theorem d20_4 : DecB jdk_42_method_56_code 4 (.ifCond .eq 12) (12) 7 16 := ⟨by decide +kernel, rfl, by decide, by decide⟩
theorem d20_7 : Dec jdk_42_method_56_code 7 (.aload_n 0) 1 8 := ⟨by decide +kernel, rfl⟩
theorem d20_8 : Dec jdk_42_method_56_code 8 (.getfield 9) 3 11 := ⟨by decide +kernel, rfl⟩
theorem d20_11 : Dec jdk_42_method_56_code 11 (.iload_n 1) 1 12 := ⟨by decide +kernel, rfl⟩
theorem d20_12 : Dec jdk_42_method_56_code 12 (.invokestatic 495) 3 15 := ⟨by decide +kernel, rfl⟩
theorem d20_15 : Dec jdk_42_method_56_code 15 (.ireturn) 1 16 := ⟨by decide +kernel, rfl⟩
theorem pn20 : plainFor (⟨"java/lang/String", "charAt", "(I)C"⟩ : MethodName) = true := by first | exact plainFor_of_name (by first | (simp [plainName, overriddenIn]; done) | decide +kernel) | decide +kernel
theorem ef20 (x0 : Addr) (x1 : Int32) (m : MethodId) : entryFrame m #[(.ref x0), (.int x1)] 2 = mkF m 0 #[.val (.ref x0), .val (.int x1)] [] := by first | (simp [entryFrame, mkF, argsToLocals, Value.category, maxLocals]; done) | rfl
set_option maxRecDepth 65536 in
set_option maxHeartbeats 40000000 in
theorem rm20 (l : Launch) (Z : State) (a0 : Array Value) (hw : ∀ d ∈ tables_1, d.before a0 Z = true) (ws : List Jvm.Cond) (u : Addr) (y z r cs : Int32) (fm : Value) (h0 : Heap) (SS : own_S Z h0 u y z) (hy : (0 : Int32) < y) (h1 : nar .char (z &&& 255).toUInt32.toUInt16.toUInt32.toInt32 = r) (h2 : nar .char r = r) (hcs : ¬ cs = 0) (SC : Sta Z h0 "java/lang/String" "COMPACT_STRINGS" "Z" (.int cs)) (hfm : fm.isRef = true) (SF : Sta Z h0 "jdk/internal/util/Preconditions" "SIOOBE_FORMATTER" "Ljava/util/function/BiFunction;" fm) : Ct l Z (⟨"java/lang/String", "charAt", "(I)C"⟩ : MethodName) jdk_42_method_56_code 2 (some .char) ws ({ frames := 3, cells := 0, slots := 0, locals := 40 } : Room) #[(.ref u), (.int (0 : Int32))] h0 (QP (.int r) h0) := by
  refine Ct.of (pn20) _ (ef20 u ((0 : Int32))) ?_
  intro p e s m below meth c T0 hx hby hml hZ hown hnm hret hk e0 X0
  have SS0 := SS
  obtain ⟨E, Fc, b, kb, vs, Fv, VB, gv⟩ := SS0
  show Go p e below _ (T0.setTop (mkF m 0 #[.val (.ref u), .val (.int (0 : Int32))] []))
  refine go_aloadn X0 hx (dc hby d20_0) (v := (.ref u)) rfl rfl ?_
  refine go_virtualP X0 hx hZ hown (hw _ (List.mem_of_getElem? (i := 106) rfl)) (hw _ (List.mem_of_getElem? (i := 107) rfl)) (hw _ (List.mem_of_getElem? (i := 109) rfl)) (hw _ (List.mem_of_getElem? (i := 108) rfl)) (hw _ (List.mem_of_getElem? (i := 52) rfl)) (hw _ (List.mem_of_getElem? (i := 110) rfl)) (by decide) e0 (a := u) E [] [] (r := (.int (1 : Int32))) (rm21 l Z a0 hw [] u y z cs h0 SS hcs SC) pd21 rfl (by rw [hml]; rfl) rfl 0 (Nat.le_of_eq rfl) (by decide) (by decide) rfl rfl (by decide) (by decide) (dc hby d20_1) (fun T1 X1 e1 => ?_)
  refine go_ifc_eq X1 hx (db hby d20_4) (fun c4 => absurd c4 (by decide)) (fun c4 => ?_)
  refine go_aloadn X1 hx (dc hby d20_7) (v := (.ref u)) rfl rfl ?_
  refine go_getF X1 hx hZ (host := "") hown (Or.inl (hw _ (List.mem_of_getElem? (i := 85) rfl))) Via.refl e1 Fv (dc hby d20_8) (fun T2 X2 e2 => ?_)
  refine go_iloadn X2 hx (dc hby d20_11) (v := (0 : Int32)) rfl ?_
  refine go_staticP X2 hx hZ hown (hw _ (List.mem_of_getElem? (i := 111) rfl)) (hw _ (List.mem_of_getElem? (i := 112) rfl)) (hw _ (List.mem_of_getElem? (i := 113) rfl)) (hw _ (List.mem_of_getElem? (i := 114) rfl)) (by decide) e2 [(.ref b), (.int (0 : Int32))] [] (r := (.int (nar .char (z &&& 255).toUInt32.toUInt16.toUInt32.toInt32))) (rm22 l Z a0 hw [] b kb y z vs fm h0 VB gv hy hfm SF) pd22 rfl (by rw [hml]; rfl) rfl 0 (Nat.le_of_eq rfl) (by decide) (by decide) rfl rfl (by decide) (by decide) (dc hby d20_12) (fun T3 X3 e3 => ?_)
  exact go_retN X3 hx hret (by simp) (dc hby d20_15) hk (by decide) (by decide) ⟨congrArg (fun q => some (Value.int q)) (by rw [h1, h2]), e3, rfl⟩
theorem pd20 : parseMethodDescriptor "(I)C" = some ⟨[.int], some .char⟩ := by decide +kernel
theorem d17_0 : Dec method_3_code 0 (.aload_n 0) 1 1 := ⟨by decide +kernel, rfl⟩
theorem d17_1 : Dec method_3_code 1 (.invokevirtual 32) 3 4 := ⟨by decide +kernel, rfl⟩
theorem d17_4 : Dec method_3_code 4 (.iload_n 2) 1 5 := ⟨by decide +kernel, rfl⟩
theorem d17_5 : DecB method_3_code 5 (.if_icmp .ne 20) (20) 8 25 := ⟨by decide +kernel, rfl, by decide, by decide⟩
theorem d17_8 : Dec method_3_code 8 (.aload_n 0) 1 9 := ⟨by decide +kernel, rfl⟩
theorem d17_9 : Dec method_3_code 9 (.iconst 0) 1 10 := ⟨by decide +kernel, rfl⟩
theorem d17_10 : Dec method_3_code 10 (.invokevirtual 38) 3 13 := ⟨by decide +kernel, rfl⟩
theorem d17_13 : Dec method_3_code 13 (.bipush 97) 2 15 := ⟨by decide +kernel, rfl⟩
theorem d17_15 : Dec method_3_code 15 (.iload_n 1) 1 16 := ⟨by decide +kernel, rfl⟩
theorem d17_16 : Dec method_3_code 16 (.iadd) 1 17 := ⟨by decide +kernel, rfl⟩
theorem d17_17 : Dec method_3_code 17 (.i2c) 1 18 := ⟨by decide +kernel, rfl⟩
theorem d17_18 : DecB method_3_code 18 (.if_icmp .ne 7) (7) 21 25 := ⟨by decide +kernel, rfl, by decide, by decide⟩
theorem d17_21 : Dec method_3_code 21 (.iconst 1) 1 22 := ⟨by decide +kernel, rfl⟩
theorem d17_22 : DecB method_3_code 22 (.goto 4) (4) 25 26 := ⟨by decide +kernel, rfl, by decide, by decide⟩
theorem d17_26 : Dec method_3_code 26 (.ireturn) 1 27 := ⟨by decide +kernel, rfl⟩
theorem pn17 : plainFor (⟨"com/example/strict_tariff/stricttariff/io/CsvRowMoveBackPinLaw", "field", "(Ljava/lang/String;II)Z"⟩ : MethodName) = true := by first | exact plainFor_of_name (by first | (simp [plainName, overriddenIn]; done) | decide +kernel) | decide +kernel
theorem ef17 (x0 : Addr) (x1 : Int32) (x2 : Int32) (m : MethodId) : entryFrame m #[(.ref x0), (.int x1), (.int x2)] 3 = mkF m 0 #[.val (.ref x0), .val (.int x1), .val (.int x2)] [] := by first | (simp [entryFrame, mkF, argsToLocals, Value.category, maxLocals]; done) | rfl
set_option maxRecDepth 65536 in
set_option maxHeartbeats 40000000 in
theorem rm17 (l : Launch) (Z : State) (a0 : Array Value) (hw : ∀ d ∈ tables_1, d.before a0 Z = true) (ws : List Jvm.Cond) (u : Addr) (x y cs : Int32) (fm : Value) (h0 : Heap) (SS : own_S Z h0 u y (nar .byte ((97 : Int32) + x).toInt8.toInt32)) (hs : 0 ≤ x.toInt ∧ x.toInt ≤ 3) (hl : 1 ≤ y.toInt ∧ y.toInt ≤ 4) (hcs : ¬ cs = 0) (SC : Sta Z h0 "java/lang/String" "COMPACT_STRINGS" "Z" (.int cs)) (hfm : fm.isRef = true) (SF : Sta Z h0 "jdk/internal/util/Preconditions" "SIOOBE_FORMATTER" "Ljava/util/function/BiFunction;" fm) : Ct l Z (⟨"com/example/strict_tariff/stricttariff/io/CsvRowMoveBackPinLaw", "field", "(Ljava/lang/String;II)Z"⟩ : MethodName) method_3_code 3 (some .boolean) ws ({ frames := 4, cells := 0, slots := 0, locals := 53 } : Room) #[(.ref u), (.int x), (.int y)] h0 (QP (.int 1) h0) := by
  refine Ct.of (pn17) _ (ef17 u x y) ?_
  intro p e s m below meth c T0 hx hby hml hZ hown hnm hret hk e0 X0
  show Go p e below _ (T0.setTop (mkF m 0 #[.val (.ref u), .val (.int x), .val (.int y)] []))
  refine go_aloadn X0 hx (dc hby d17_0) (v := (.ref u)) rfl rfl ?_
  refine go_virtualP X0 hx hZ hown (hw _ (List.mem_of_getElem? (i := 91) rfl)) (hw _ (List.mem_of_getElem? (i := 92) rfl)) (hw _ (List.mem_of_getElem? (i := 94) rfl)) (hw _ (List.mem_of_getElem? (i := 93) rfl)) (hw _ (List.mem_of_getElem? (i := 52) rfl)) (hw _ (List.mem_of_getElem? (i := 95) rfl)) (by decide) e0 (a := u) SS.1 [] [] (r := (.int y)) (rm18 l Z a0 hw [] u y (nar .byte ((97 : Int32) + x).toInt8.toInt32) cs h0 SS hcs SC) pd18 rfl (by rw [hml]; rfl) rfl 0 (Nat.le_of_eq rfl) (by decide) (by decide) rfl rfl (by decide) (by decide) (dc hby d17_1) (fun T1 X1 e1 => ?_)
  refine go_iloadn X1 hx (dc hby d17_4) (v := y) rfl ?_
  refine go_icmp_ne X1 hx (db hby d17_5) (fun c5 => absurd rfl c5) (fun c5 => ?_)
  refine go_aloadn X1 hx (dc hby d17_8) (v := (.ref u)) rfl rfl ?_
  refine go_iconst X1 hx (0) (dc hby d17_9) rfl ?_
  refine go_virtualP X1 hx hZ hown (hw _ (List.mem_of_getElem? (i := 101) rfl)) (hw _ (List.mem_of_getElem? (i := 102) rfl)) (hw _ (List.mem_of_getElem? (i := 104) rfl)) (hw _ (List.mem_of_getElem? (i := 103) rfl)) (hw _ (List.mem_of_getElem? (i := 52) rfl)) (hw _ (List.mem_of_getElem? (i := 105) rfl)) (by decide) e1 (a := u) SS.1 [(.int (0 : Int32))] [] (r := (.int (((97 : Int32) + x).toUInt32.toUInt16.toUInt32.toInt32))) (rm20 l Z a0 hw [] u y (nar .byte ((97 : Int32) + x).toInt8.toInt32) (((97 : Int32) + x).toUInt32.toUInt16.toUInt32.toInt32) cs fm h0 SS (own_gt0 hl.1) (own_q1 hs) (own_q2 hs) hcs SC hfm SF) pd20 rfl (by rw [hml]; rfl) rfl 0 (Nat.le_of_eq rfl) (by decide) (by decide) rfl rfl (by decide) (by decide) (dc hby d17_10) (fun T2 X2 e2 => ?_)
  refine go_bipush X2 hx (97) (dc hby d17_13) rfl ?_
  refine go_iloadn X2 hx (dc hby d17_15) (v := x) rfl ?_
  refine go_iadd X2 hx (dc hby d17_16) ?_
  refine go_i2c X2 hx (dc hby d17_17) ?_
  refine go_icmp_ne X2 hx (db hby d17_18) (fun c18 => absurd rfl c18) (fun c18 => ?_)
  refine go_iconst X2 hx (1) (dc hby d17_21) rfl ?_
  refine go_goto X2 hx (db hby d17_22) ?_
  exact go_retN X2 hx hret (by simp) (dc hby d17_26) hk (by decide) (by decide) ⟨rfl, e2, rfl⟩
theorem pd17 : parseMethodDescriptor "(Ljava/lang/String;II)Z" = some ⟨[(.object "java/lang/String"), .int, .int], some .boolean⟩ := by decide +kernel
theorem d0_0 : Dec code 0 (.iload_n 2) 1 1 := ⟨at_0, rfl⟩
theorem d0_1 : Dec code 1 (.iconst 3) 1 2 := ⟨at_1, rfl⟩
theorem d0_2 : Dec code 2 (.iand) 1 3 := ⟨at_2, rfl⟩
theorem d0_3 : Dec code 3 (.istore_n 3) 1 4 := ⟨at_3, rfl⟩
theorem d0_4 : Dec code 4 (.iconst 1) 1 5 := ⟨at_4, rfl⟩
theorem d0_5 : Dec code 5 (.iload_n 2) 1 6 := ⟨at_5, rfl⟩
theorem d0_6 : Dec code 6 (.iconst 2) 1 7 := ⟨at_6, rfl⟩
theorem d0_7 : Dec code 7 (.iushr) 1 8 := ⟨at_7, rfl⟩
theorem d0_8 : Dec code 8 (.iconst 3) 1 9 := ⟨at_8, rfl⟩
theorem d0_9 : Dec code 9 (.iand) 1 10 := ⟨at_9, rfl⟩
theorem d0_10 : Dec code 10 (.iadd) 1 11 := ⟨at_10, rfl⟩
theorem d0_11 : Dec code 11 (.istore 4) 2 13 := ⟨at_11, rfl⟩
theorem d0_13 : Dec code 13 (.iload_n 2) 1 14 := ⟨at_13, rfl⟩
theorem d0_14 : Dec code 14 (.iconst 4) 1 15 := ⟨at_14, rfl⟩
theorem d0_15 : Dec code 15 (.iushr) 1 16 := ⟨at_15, rfl⟩
theorem d0_16 : Dec code 16 (.iconst 3) 1 17 := ⟨at_16, rfl⟩
theorem d0_17 : Dec code 17 (.iand) 1 18 := ⟨at_17, rfl⟩
theorem d0_18 : Dec code 18 (.istore 5) 2 20 := ⟨at_18, rfl⟩
theorem d0_20 : Dec code 20 (.iconst 1) 1 21 := ⟨at_20, rfl⟩
theorem d0_21 : Dec code 21 (.iload_n 2) 1 22 := ⟨at_21, rfl⟩
theorem d0_22 : Dec code 22 (.bipush 6) 2 24 := ⟨at_22, rfl⟩
theorem d0_24 : Dec code 24 (.iushr) 1 25 := ⟨at_24, rfl⟩
theorem d0_25 : Dec code 25 (.iconst 3) 1 26 := ⟨at_25, rfl⟩
theorem d0_26 : Dec code 26 (.iand) 1 27 := ⟨at_26, rfl⟩
theorem d0_27 : Dec code 27 (.iadd) 1 28 := ⟨at_27, rfl⟩
theorem d0_28 : Dec code 28 (.istore 6) 2 30 := ⟨at_28, rfl⟩
theorem d0_30 : Dec code 30 (.iload_n 2) 1 31 := ⟨at_30, rfl⟩
theorem d0_31 : Dec code 31 (.bipush 8) 2 33 := ⟨at_31, rfl⟩
theorem d0_33 : Dec code 33 (.iushr) 1 34 := ⟨at_33, rfl⟩
theorem d0_34 : Dec code 34 (.iconst 3) 1 35 := ⟨at_34, rfl⟩
theorem d0_35 : Dec code 35 (.iand) 1 36 := ⟨at_35, rfl⟩
theorem d0_36 : Dec code 36 (.istore 7) 2 38 := ⟨at_36, rfl⟩
theorem d0_38 : Dec code 38 (.iconst 1) 1 39 := ⟨at_38, rfl⟩
theorem d0_39 : Dec code 39 (.iload_n 2) 1 40 := ⟨at_39, rfl⟩
theorem d0_40 : Dec code 40 (.bipush 10) 2 42 := ⟨at_40, rfl⟩
theorem d0_42 : Dec code 42 (.iushr) 1 43 := ⟨at_42, rfl⟩
theorem d0_43 : Dec code 43 (.iconst 3) 1 44 := ⟨at_43, rfl⟩
theorem d0_44 : Dec code 44 (.iand) 1 45 := ⟨at_44, rfl⟩
theorem d0_45 : Dec code 45 (.iadd) 1 46 := ⟨at_45, rfl⟩
theorem d0_46 : Dec code 46 (.istore 8) 2 48 := ⟨at_46, rfl⟩
theorem d0_48 : Dec code 48 (.bipush 8) 2 50 := ⟨at_48, rfl⟩
theorem d0_50 : Dec code 50 (.newarray .char) 2 52 := ⟨at_50, rfl⟩
theorem d0_52 : Dec code 52 (.dup) 1 53 := ⟨at_52, rfl⟩
theorem d0_53 : Dec code 53 (.iconst 0) 1 54 := ⟨at_53, rfl⟩
theorem d0_54 : Dec code 54 (.bipush 97) 2 56 := ⟨at_54, rfl⟩
theorem d0_56 : Dec code 56 (.castore) 1 57 := ⟨at_56, rfl⟩
theorem d0_57 : Dec code 57 (.dup) 1 58 := ⟨at_57, rfl⟩
theorem d0_58 : Dec code 58 (.iconst 1) 1 59 := ⟨at_58, rfl⟩
theorem d0_59 : Dec code 59 (.bipush 98) 2 61 := ⟨at_59, rfl⟩
theorem d0_61 : Dec code 61 (.castore) 1 62 := ⟨at_61, rfl⟩
theorem d0_62 : Dec code 62 (.dup) 1 63 := ⟨at_62, rfl⟩
theorem d0_63 : Dec code 63 (.iconst 2) 1 64 := ⟨at_63, rfl⟩
theorem d0_64 : Dec code 64 (.bipush 99) 2 66 := ⟨at_64, rfl⟩
theorem d0_66 : Dec code 66 (.castore) 1 67 := ⟨at_66, rfl⟩
theorem d0_67 : Dec code 67 (.dup) 1 68 := ⟨at_67, rfl⟩
theorem d0_68 : Dec code 68 (.iconst 3) 1 69 := ⟨at_68, rfl⟩
theorem d0_69 : Dec code 69 (.bipush 100) 2 71 := ⟨at_69, rfl⟩
theorem d0_71 : Dec code 71 (.castore) 1 72 := ⟨at_71, rfl⟩
theorem d0_72 : Dec code 72 (.dup) 1 73 := ⟨at_72, rfl⟩
theorem d0_73 : Dec code 73 (.iconst 4) 1 74 := ⟨at_73, rfl⟩
theorem d0_74 : Dec code 74 (.bipush 101) 2 76 := ⟨at_74, rfl⟩
theorem d0_76 : Dec code 76 (.castore) 1 77 := ⟨at_76, rfl⟩
theorem d0_77 : Dec code 77 (.dup) 1 78 := ⟨at_77, rfl⟩
theorem d0_78 : Dec code 78 (.iconst 5) 1 79 := ⟨at_78, rfl⟩
theorem d0_79 : Dec code 79 (.bipush 102) 2 81 := ⟨at_79, rfl⟩
theorem d0_81 : Dec code 81 (.castore) 1 82 := ⟨at_81, rfl⟩
theorem d0_82 : Dec code 82 (.dup) 1 83 := ⟨at_82, rfl⟩
theorem d0_83 : Dec code 83 (.bipush 6) 2 85 := ⟨at_83, rfl⟩
theorem d0_85 : Dec code 85 (.bipush 103) 2 87 := ⟨at_85, rfl⟩
theorem d0_87 : Dec code 87 (.castore) 1 88 := ⟨at_87, rfl⟩
theorem d0_88 : Dec code 88 (.dup) 1 89 := ⟨at_88, rfl⟩
theorem d0_89 : Dec code 89 (.bipush 7) 2 91 := ⟨at_89, rfl⟩
theorem d0_91 : Dec code 91 (.bipush 104) 2 93 := ⟨at_91, rfl⟩
theorem d0_93 : Dec code 93 (.castore) 1 94 := ⟨at_93, rfl⟩
theorem d0_94 : Dec code 94 (.astore 9) 2 96 := ⟨at_94, rfl⟩
theorem d0_96 : Dec code 96 (.new 7) 3 99 := ⟨at_96, rfl⟩
theorem d0_99 : Dec code 99 (.dup) 1 100 := ⟨at_99, rfl⟩
theorem d0_100 : Dec code 100 (.invokespecial 9) 3 103 := ⟨at_100, rfl⟩
theorem d0_103 : Dec code 103 (.astore 10) 2 105 := ⟨at_103, rfl⟩
theorem d0_105 : Dec code 105 (.aload 10) 2 107 := ⟨at_105, rfl⟩
theorem d0_107 : Dec code 107 (.iload_n 3) 1 108 := ⟨at_107, rfl⟩
theorem d0_108 : Dec code 108 (.iload_n 0) 1 109 := ⟨at_108, rfl⟩
theorem d0_109 : Dec code 109 (.iadd) 1 110 := ⟨at_109, rfl⟩
theorem d0_110 : Dec code 110 (.iload_n 1) 1 111 := ⟨at_110, rfl⟩
theorem d0_111 : Dec code 111 (.iadd) 1 112 := ⟨at_111, rfl⟩
theorem d0_112 : Dec code 112 (.iload_n 3) 1 113 := ⟨at_112, rfl⟩
theorem d0_113 : Dec code 113 (.iload 4) 2 115 := ⟨at_113, rfl⟩
theorem d0_115 : Dec code 115 (.iadd) 1 116 := ⟨at_115, rfl⟩
theorem d0_116 : Dec code 116 (.iload_n 0) 1 117 := ⟨at_116, rfl⟩
theorem d0_117 : Dec code 117 (.iadd) 1 118 := ⟨at_117, rfl⟩
theorem d0_118 : Dec code 118 (.iload_n 1) 1 119 := ⟨at_118, rfl⟩
theorem d0_119 : Dec code 119 (.iadd) 1 120 := ⟨at_119, rfl⟩
theorem d0_120 : Dec code 120 (.invokevirtual 10) 3 123 := ⟨at_120, rfl⟩
theorem d0_123 : Dec code 123 (.aload 10) 2 125 := ⟨at_123, rfl⟩
theorem d0_125 : Dec code 125 (.iload 5) 2 127 := ⟨at_125, rfl⟩
theorem d0_127 : Dec code 127 (.iload_n 0) 1 128 := ⟨at_127, rfl⟩
theorem d0_128 : Dec code 128 (.iadd) 1 129 := ⟨at_128, rfl⟩
theorem d0_129 : Dec code 129 (.iload_n 1) 1 130 := ⟨at_129, rfl⟩
theorem d0_130 : Dec code 130 (.iadd) 1 131 := ⟨at_130, rfl⟩
theorem d0_131 : Dec code 131 (.iload 5) 2 133 := ⟨at_131, rfl⟩
theorem d0_133 : Dec code 133 (.iload 6) 2 135 := ⟨at_133, rfl⟩
theorem d0_135 : Dec code 135 (.iadd) 1 136 := ⟨at_135, rfl⟩
theorem d0_136 : Dec code 136 (.iload_n 0) 1 137 := ⟨at_136, rfl⟩
theorem d0_137 : Dec code 137 (.iadd) 1 138 := ⟨at_137, rfl⟩
theorem d0_138 : Dec code 138 (.iload_n 1) 1 139 := ⟨at_138, rfl⟩
theorem d0_139 : Dec code 139 (.iadd) 1 140 := ⟨at_139, rfl⟩
theorem d0_140 : Dec code 140 (.invokevirtual 10) 3 143 := ⟨at_140, rfl⟩
theorem d0_143 : Dec code 143 (.aload 10) 2 145 := ⟨at_143, rfl⟩
theorem d0_145 : Dec code 145 (.iload_n 0) 1 146 := ⟨at_145, rfl⟩
theorem d0_146 : Dec code 146 (.invokevirtual 14) 3 149 := ⟨at_146, rfl⟩
theorem d0_149 : Dec code 149 (.aload 10) 2 151 := ⟨at_149, rfl⟩
theorem d0_151 : Dec code 151 (.iload 7) 2 153 := ⟨at_151, rfl⟩
theorem d0_153 : Dec code 153 (.iload_n 1) 1 154 := ⟨at_153, rfl⟩
theorem d0_154 : Dec code 154 (.iadd) 1 155 := ⟨at_154, rfl⟩
theorem d0_155 : Dec code 155 (.iload 7) 2 157 := ⟨at_155, rfl⟩
theorem d0_157 : Dec code 157 (.iload 8) 2 159 := ⟨at_157, rfl⟩
theorem d0_159 : Dec code 159 (.iadd) 1 160 := ⟨at_159, rfl⟩
theorem d0_160 : Dec code 160 (.iload_n 1) 1 161 := ⟨at_160, rfl⟩
theorem d0_161 : Dec code 161 (.iadd) 1 162 := ⟨at_161, rfl⟩
theorem d0_162 : Dec code 162 (.invokevirtual 10) 3 165 := ⟨at_162, rfl⟩
theorem d0_165 : Dec code 165 (.aload 10) 2 167 := ⟨at_165, rfl⟩
theorem d0_167 : Dec code 167 (.iload_n 1) 1 168 := ⟨at_167, rfl⟩
theorem d0_168 : Dec code 168 (.invokevirtual 14) 3 171 := ⟨at_168, rfl⟩
theorem d0_171 : Dec code 171 (.aload 10) 2 173 := ⟨at_171, rfl⟩
theorem d0_173 : Dec code 173 (.aload 9) 2 175 := ⟨at_173, rfl⟩
theorem d0_175 : Dec code 175 (.invokevirtual 18) 3 178 := ⟨at_175, rfl⟩
theorem d0_178 : Dec code 178 (.aload 10) 2 180 := ⟨at_178, rfl⟩
theorem d0_180 : Dec code 180 (.iconst 0) 1 181 := ⟨at_180, rfl⟩
theorem d0_181 : Dec code 181 (.invokevirtual 22) 3 184 := ⟨at_181, rfl⟩
theorem d0_184 : Dec code 184 (.iload_n 3) 1 185 := ⟨at_184, rfl⟩
theorem d0_185 : Dec code 185 (.iload 4) 2 187 := ⟨at_185, rfl⟩
theorem d0_187 : Dec code 187 (.invokestatic 26) 3 190 := ⟨at_187, rfl⟩
theorem d0_190 : DecB code 190 (.ifCond .eq 39) (39) 193 229 := ⟨at_190, rfl, by decide, by decide⟩
theorem d0_193 : Dec code 193 (.aload 10) 2 195 := ⟨at_193, rfl⟩
theorem d0_195 : Dec code 195 (.iconst 1) 1 196 := ⟨at_195, rfl⟩
theorem d0_196 : Dec code 196 (.invokevirtual 22) 3 199 := ⟨at_196, rfl⟩
theorem d0_199 : Dec code 199 (.iload 5) 2 201 := ⟨at_199, rfl⟩
theorem d0_201 : Dec code 201 (.iload 6) 2 203 := ⟨at_201, rfl⟩
theorem d0_203 : Dec code 203 (.invokestatic 26) 3 206 := ⟨at_203, rfl⟩
theorem d0_206 : DecB code 206 (.ifCond .eq 23) (23) 209 229 := ⟨at_206, rfl, by decide, by decide⟩
theorem d0_209 : Dec code 209 (.aload 10) 2 211 := ⟨at_209, rfl⟩
theorem d0_211 : Dec code 211 (.iconst 2) 1 212 := ⟨at_211, rfl⟩
theorem d0_212 : Dec code 212 (.invokevirtual 22) 3 215 := ⟨at_212, rfl⟩
theorem d0_215 : Dec code 215 (.iload 7) 2 217 := ⟨at_215, rfl⟩
theorem d0_217 : Dec code 217 (.iload 8) 2 219 := ⟨at_217, rfl⟩
theorem d0_219 : Dec code 219 (.invokestatic 26) 3 222 := ⟨at_219, rfl⟩
theorem d0_222 : DecB code 222 (.ifCond .eq 7) (7) 225 229 := ⟨at_222, rfl, by decide, by decide⟩
theorem d0_225 : Dec code 225 (.iconst 1) 1 226 := ⟨at_225, rfl⟩
theorem d0_226 : DecB code 226 (.goto 4) (4) 229 230 := ⟨at_226, rfl, by decide, by decide⟩
theorem d0_230 : Dec code 230 (.ireturn) 1 231 := ⟨at_230, rfl⟩
theorem pn0 : plainFor (⟨"com/example/strict_tariff/stricttariff/io/CsvRowMoveBackPinLaw", "law", "(III)Z"⟩ : MethodName) = true := by first | exact plainFor_of_name (by first | (simp [plainName, overriddenIn]; done) | decide +kernel) | decide +kernel
theorem ef0 (x0 : Int32) (x1 : Int32) (x2 : Int32) (m : MethodId) : entryFrame m #[(.int x0), (.int x1), (.int x2)] maxLocals = mkF m 0 #[.val (.int x0), .val (.int x1), .val (.int x2), .unset, .unset, .unset, .unset, .unset, .unset, .unset, .unset] [] := by first | (simp [entryFrame, mkF, argsToLocals, Value.category, maxLocals]; done) | rfl
set_option maxRecDepth 65536 in
set_option maxHeartbeats 40000000 in
theorem rm0 (l : Launch) (Z : State) (a0 : Array Value) (hw : ∀ d ∈ tables_1, d.before a0 Z = true) (ws : List Jvm.Cond) (p1 p2 p3 cs : Int32) (fm : Value) (h0 : Heap) (hcs : ¬ cs = 0) (SC : Sta Z h0 "java/lang/String" "COMPACT_STRINGS" "Z" (.int cs)) (hfm : fm.isRef = true) (SF : Sta Z h0 "jdk/internal/util/Preconditions" "SIOOBE_FORMATTER" "Ljava/util/function/BiFunction;" fm) : Ct l Z x code maxLocals ret ws room_1 #[(.int p1), (.int p2), (.int p3)] h0 (fun v h L => v = some (.int 1) ∧ Fr h0.size L) := by
  refine Ct.of (pn0) _ (ef0 p1 p2 p3) ?_
  intro p e s m below meth c T0 hx hby hml hZ hown hnm hret hk e0 X0
  show Go p e below _ (T0.setTop (mkF m 0 #[.val (.int p1), .val (.int p2), .val (.int p3), .unset, .unset, .unset, .unset, .unset, .unset, .unset, .unset] []))
  refine go_iloadn X0 hx (dc hby d0_0) (v := p3) rfl ?_
  refine go_iconst X0 hx (3) (dc hby d0_1) rfl ?_
  refine go_iand X0 hx (dc hby d0_2) ?_
  refine go_istoren X0 hx #[.val (.int p1), .val (.int p2), .val (.int p3), .val (.int (p3 &&& (3 : Int32))), .unset, .unset, .unset, .unset, .unset, .unset, .unset] (dc hby d0_3) rfl ?_
  refine go_iconst X0 hx (1) (dc hby d0_4) rfl ?_
  refine go_iloadn X0 hx (dc hby d0_5) (v := p3) rfl ?_
  refine go_iconst X0 hx (2) (dc hby d0_6) rfl ?_
  refine go_iushr X0 hx (dc hby d0_7) ?_
  refine go_iconst X0 hx (3) (dc hby d0_8) rfl ?_
  refine go_iand X0 hx (dc hby d0_9) ?_
  refine go_iadd X0 hx (dc hby d0_10) ?_
  refine go_istore X0 hx #[.val (.int p1), .val (.int p2), .val (.int p3), .val (.int (p3 &&& (3 : Int32))), .val (.int ((1 : Int32) + ((XT.ushr p3 (2 : Int32)) &&& (3 : Int32)))), .unset, .unset, .unset, .unset, .unset, .unset] (dc hby d0_11) rfl ?_
  refine go_iloadn X0 hx (dc hby d0_13) (v := p3) rfl ?_
  refine go_iconst X0 hx (4) (dc hby d0_14) rfl ?_
  refine go_iushr X0 hx (dc hby d0_15) ?_
  refine go_iconst X0 hx (3) (dc hby d0_16) rfl ?_
  refine go_iand X0 hx (dc hby d0_17) ?_
  refine go_istore X0 hx #[.val (.int p1), .val (.int p2), .val (.int p3), .val (.int (p3 &&& (3 : Int32))), .val (.int ((1 : Int32) + ((XT.ushr p3 (2 : Int32)) &&& (3 : Int32)))), .val (.int ((XT.ushr p3 (4 : Int32)) &&& (3 : Int32))), .unset, .unset, .unset, .unset, .unset] (dc hby d0_18) rfl ?_
  refine go_iconst X0 hx (1) (dc hby d0_20) rfl ?_
  refine go_iloadn X0 hx (dc hby d0_21) (v := p3) rfl ?_
  refine go_bipush X0 hx (6) (dc hby d0_22) rfl ?_
  refine go_iushr X0 hx (dc hby d0_24) ?_
  refine go_iconst X0 hx (3) (dc hby d0_25) rfl ?_
  refine go_iand X0 hx (dc hby d0_26) ?_
  refine go_iadd X0 hx (dc hby d0_27) ?_
  refine go_istore X0 hx #[.val (.int p1), .val (.int p2), .val (.int p3), .val (.int (p3 &&& (3 : Int32))), .val (.int ((1 : Int32) + ((XT.ushr p3 (2 : Int32)) &&& (3 : Int32)))), .val (.int ((XT.ushr p3 (4 : Int32)) &&& (3 : Int32))), .val (.int ((1 : Int32) + ((XT.ushr p3 (6 : Int32)) &&& (3 : Int32)))), .unset, .unset, .unset, .unset] (dc hby d0_28) rfl ?_
  refine go_iloadn X0 hx (dc hby d0_30) (v := p3) rfl ?_
  refine go_bipush X0 hx (8) (dc hby d0_31) rfl ?_
  refine go_iushr X0 hx (dc hby d0_33) ?_
  refine go_iconst X0 hx (3) (dc hby d0_34) rfl ?_
  refine go_iand X0 hx (dc hby d0_35) ?_
  refine go_istore X0 hx #[.val (.int p1), .val (.int p2), .val (.int p3), .val (.int (p3 &&& (3 : Int32))), .val (.int ((1 : Int32) + ((XT.ushr p3 (2 : Int32)) &&& (3 : Int32)))), .val (.int ((XT.ushr p3 (4 : Int32)) &&& (3 : Int32))), .val (.int ((1 : Int32) + ((XT.ushr p3 (6 : Int32)) &&& (3 : Int32)))), .val (.int ((XT.ushr p3 (8 : Int32)) &&& (3 : Int32))), .unset, .unset, .unset] (dc hby d0_36) rfl ?_
  refine go_iconst X0 hx (1) (dc hby d0_38) rfl ?_
  refine go_iloadn X0 hx (dc hby d0_39) (v := p3) rfl ?_
  refine go_bipush X0 hx (10) (dc hby d0_40) rfl ?_
  refine go_iushr X0 hx (dc hby d0_42) ?_
  refine go_iconst X0 hx (3) (dc hby d0_43) rfl ?_
  refine go_iand X0 hx (dc hby d0_44) ?_
  refine go_iadd X0 hx (dc hby d0_45) ?_
  refine go_istore X0 hx #[.val (.int p1), .val (.int p2), .val (.int p3), .val (.int (p3 &&& (3 : Int32))), .val (.int ((1 : Int32) + ((XT.ushr p3 (2 : Int32)) &&& (3 : Int32)))), .val (.int ((XT.ushr p3 (4 : Int32)) &&& (3 : Int32))), .val (.int ((1 : Int32) + ((XT.ushr p3 (6 : Int32)) &&& (3 : Int32)))), .val (.int ((XT.ushr p3 (8 : Int32)) &&& (3 : Int32))), .val (.int ((1 : Int32) + ((XT.ushr p3 (10 : Int32)) &&& (3 : Int32)))), .unset, .unset] (dc hby d0_46) rfl ?_
  show Go p e below _ (T0.setTop (mkF m 48 #[.val (.int p1), .val (.int p2), .val (.int p3), .val (.int (p3 &&& (3 : Int32))), .val (.int ((1 : Int32) + ((XT.ushr p3 (2 : Int32)) &&& (3 : Int32)))), .val (.int ((XT.ushr p3 (4 : Int32)) &&& (3 : Int32))), .val (.int ((1 : Int32) + ((XT.ushr p3 (6 : Int32)) &&& (3 : Int32)))), .val (.int ((XT.ushr p3 (8 : Int32)) &&& (3 : Int32))), .val (.int ((1 : Int32) + ((XT.ushr p3 (10 : Int32)) &&& (3 : Int32)))), .unset, .unset] []))
  have Bsa := own_a3 p3
  generalize (p3 &&& 3) = sa at Bsa ⊢
  have Bla := own_l4 (XT.ushr p3 2)
  generalize (1 + (XT.ushr p3 2 &&& 3)) = la at Bla ⊢
  have Bsb := own_a3 (XT.ushr p3 4)
  generalize (XT.ushr p3 4 &&& 3) = sb at Bsb ⊢
  have Blb := own_l4 (XT.ushr p3 6)
  generalize (1 + (XT.ushr p3 6 &&& 3)) = lb at Blb ⊢
  have Bsc := own_a3 (XT.ushr p3 8)
  generalize (XT.ushr p3 8 &&& 3) = sc at Bsc ⊢
  have Blc := own_l4 (XT.ushr p3 10)
  generalize (1 + (XT.ushr p3 10 &&& 3)) = lc at Blc ⊢
  show Go p e below _ (T0.setTop (mkF m 48 #[.val (.int p1), .val (.int p2), .val (.int p3), .val (.int sa), .val (.int la), .val (.int sb), .val (.int lb), .val (.int sc), .val (.int lc), .unset, .unset] []))
  refine go_bipush X0 hx (8) (dc hby d0_48) rfl ?_
  refine go_newP X0 hx hZ (hw _ (List.mem_of_getElem? (i := 0) rfl)) e0 (dc hby d0_50) (by decide) 8 (by decide) (by decide) (by decide) (by decide) (fun T1 h1 ktx tx g1 X1 e1 E1 A1 => ?_)
  have htx : h0.size ≤ tx := Nat.le_of_eq g1.symm
  have N0 := Fr.nil h0.size
  have K0 : Keep h0 h1 [] := (Keep.refl _ _).ext E1
  have X0_ : Arv Z h1 tx ktx .char 8 [.int 0, .int 0, .int 0, .int 0, .int 0, .int 0, .int 0, .int 0] (.int 0) := (Arv.new A1 (by decide)).pad (own_rep (n := 8))
  refine go_dup X1 hx (dc hby d0_52) rfl ?_
  refine go_iconst X1 hx (0) (dc hby d0_53) rfl ?_
  refine go_bipush X1 hx (97) (dc hby d0_54) rfl ?_
  refine go_castoreV X1 hx hZ e1 X0_ (by decide) 0 rfl (by simp) (dc hby d0_56) (fun T2 h2 X2 e2 W2 V2 => ?_)
  have X1_ : Arv Z h2 tx ktx .char 8 [.int 97, .int 0, .int 0, .int 0, .int 0, .int 0, .int 0, .int 0] (.int 0) := V2
  have NF2 := Fr.snoc X2 N0 htx
  have KX2 := K0.wr W2 (Or.inr htx)
  clear V2 W2
  refine go_dup X2 hx (dc hby d0_57) rfl ?_
  refine go_iconst X2 hx (1) (dc hby d0_58) rfl ?_
  refine go_bipush X2 hx (98) (dc hby d0_59) rfl ?_
  refine go_castoreV X2 hx hZ e2 X1_ (by decide) 1 rfl (by simp) (dc hby d0_61) (fun T3 h3 X3 e3 W3 V3 => ?_)
  have X2_ : Arv Z h3 tx ktx .char 8 [.int 97, .int 98, .int 0, .int 0, .int 0, .int 0, .int 0, .int 0] (.int 0) := V3
  have NF3 := Fr.snoc X3 NF2 htx
  have KX3 := KX2.wr W3 (Or.inr htx)
  clear V3 W3
  refine go_dup X3 hx (dc hby d0_62) rfl ?_
  refine go_iconst X3 hx (2) (dc hby d0_63) rfl ?_
  refine go_bipush X3 hx (99) (dc hby d0_64) rfl ?_
  refine go_castoreV X3 hx hZ e3 X2_ (by decide) 2 rfl (by simp) (dc hby d0_66) (fun T4 h4 X4 e4 W4 V4 => ?_)
  have X3_ : Arv Z h4 tx ktx .char 8 [.int 97, .int 98, .int 99, .int 0, .int 0, .int 0, .int 0, .int 0] (.int 0) := V4
  have NF4 := Fr.snoc X4 NF3 htx
  have KX4 := KX3.wr W4 (Or.inr htx)
  clear V4 W4
  refine go_dup X4 hx (dc hby d0_67) rfl ?_
  refine go_iconst X4 hx (3) (dc hby d0_68) rfl ?_
  refine go_bipush X4 hx (100) (dc hby d0_69) rfl ?_
  refine go_castoreV X4 hx hZ e4 X3_ (by decide) 3 rfl (by simp) (dc hby d0_71) (fun T5 h5 X5 e5 W5 V5 => ?_)
  have X4_ : Arv Z h5 tx ktx .char 8 [.int 97, .int 98, .int 99, .int 100, .int 0, .int 0, .int 0, .int 0] (.int 0) := V5
  have NF5 := Fr.snoc X5 NF4 htx
  have KX5 := KX4.wr W5 (Or.inr htx)
  clear V5 W5
  refine go_dup X5 hx (dc hby d0_72) rfl ?_
  refine go_iconst X5 hx (4) (dc hby d0_73) rfl ?_
  refine go_bipush X5 hx (101) (dc hby d0_74) rfl ?_
  refine go_castoreV X5 hx hZ e5 X4_ (by decide) 4 rfl (by simp) (dc hby d0_76) (fun T6 h6 X6 e6 W6 V6 => ?_)
  have X5_ : Arv Z h6 tx ktx .char 8 [.int 97, .int 98, .int 99, .int 100, .int 101, .int 0, .int 0, .int 0] (.int 0) := V6
  have NF6 := Fr.snoc X6 NF5 htx
  have KX6 := KX5.wr W6 (Or.inr htx)
  clear V6 W6
  refine go_dup X6 hx (dc hby d0_77) rfl ?_
  refine go_iconst X6 hx (5) (dc hby d0_78) rfl ?_
  refine go_bipush X6 hx (102) (dc hby d0_79) rfl ?_
  refine go_castoreV X6 hx hZ e6 X5_ (by decide) 5 rfl (by simp) (dc hby d0_81) (fun T7 h7 X7 e7 W7 V7 => ?_)
  have X6_ : Arv Z h7 tx ktx .char 8 [.int 97, .int 98, .int 99, .int 100, .int 101, .int 102, .int 0, .int 0] (.int 0) := V7
  have NF7 := Fr.snoc X7 NF6 htx
  have KX7 := KX6.wr W7 (Or.inr htx)
  clear V7 W7
  refine go_dup X7 hx (dc hby d0_82) rfl ?_
  refine go_bipush X7 hx (6) (dc hby d0_83) rfl ?_
  refine go_bipush X7 hx (103) (dc hby d0_85) rfl ?_
  refine go_castoreV X7 hx hZ e7 X6_ (by decide) 6 rfl (by simp) (dc hby d0_87) (fun T8 h8 X8 e8 W8 V8 => ?_)
  have X7_ : Arv Z h8 tx ktx .char 8 [.int 97, .int 98, .int 99, .int 100, .int 101, .int 102, .int 103, .int 0] (.int 0) := V8
  have NF8 := Fr.snoc X8 NF7 htx
  have KX8 := KX7.wr W8 (Or.inr htx)
  clear V8 W8
  refine go_dup X8 hx (dc hby d0_88) rfl ?_
  refine go_bipush X8 hx (7) (dc hby d0_89) rfl ?_
  refine go_bipush X8 hx (104) (dc hby d0_91) rfl ?_
  refine go_castoreV X8 hx hZ e8 X7_ (by decide) 7 rfl (by simp) (dc hby d0_93) (fun T9 h9 X9 e9 W9 V9 => ?_)
  have X8_ : Arv Z h9 tx ktx .char 8 [.int 97, .int 98, .int 99, .int 100, .int 101, .int 102, .int 103, .int 104] (.int 0) := V9
  have NF9 := Fr.snoc X9 NF8 htx
  have KX9 := KX8.wr W9 (Or.inr htx)
  clear V9 W9
  refine go_astore X9 hx #[.val (.int p1), .val (.int p2), .val (.int p3), .val (.int sa), .val (.int la), .val (.int sb), .val (.int lb), .val (.int sc), .val (.int lc), .val (.ref tx), .unset] (dc hby d0_94) rfl rfl ?_
  refine go_newO X9 hx hZ hown (hw _ (List.mem_of_getElem? (i := 1) rfl)) (hw _ (List.mem_of_getElem? (i := 2) rfl)) (hw _ (List.mem_of_getElem? (i := 3) rfl)) e9 (dc hby d0_96) (by decide) (by decide) (fun T10 h10 a g10 X10 e10 E10 A10 D10 => ?_)
  refine go_dup X10 hx (dc hby d0_99) rfl ?_
  have hta : tx < a := by rw [g10]; exact X8_.lt
  have ha : h0.size ≤ a := Nat.le_trans htx (Nat.le_of_lt hta)
  have VC := X8_.ext E10
  have KY := KX9.ext E10
  refine go_special X10 hx hZ rfl hown (hw _ (List.mem_of_getElem? (i := 4) rfl)) (hw _ (List.mem_of_getElem? (i := 5) rfl)) (hw _ (List.mem_of_getElem? (i := 3) rfl)) (hw _ (List.mem_of_getElem? (i := 6) rfl)) (by decide) e10 (a := a) [] [(.ref a)] (rm1 l Z a0 hw [] a h10 A10 (D10 (Or.inl (hw _ (List.mem_of_getElem? (i := 11) rfl))) (ty := .array .char) (by decide)) (D10 (Or.inl (hw _ (List.mem_of_getElem? (i := 14) rfl))) (ty := .array .int) (by decide)) (D10 (Or.inl (hw _ (List.mem_of_getElem? (i := 16) rfl))) (ty := .array .int) (by decide)) (D10 (Or.inl (hw _ (List.mem_of_getElem? (i := 20) rfl))) (ty := .array (.object "java/lang/String")) (by decide)) (D10 (Or.inl (hw _ (List.mem_of_getElem? (i := 27) rfl))) (ty := .int) (by decide))) pd1 rfl (by rw [hml]; rfl) rfl 1 (Nat.le_of_eq rfl) (by decide) (by decide) (by decide) (by decide) (dc hby d0_100) (fun T11 v11 L11 X11 hQ11 => ?_)
  obtain ⟨rfl, N11, K11, t0, st, en, tk, kS, kE, kT, R0, hst, hen, htk⟩ := hQ11
  show Go p e below _ (T11.setTop (mkF m 103 #[.val (.int p1), .val (.int p2), .val (.int p3), .val (.int sa), .val (.int la), .val (.int sb), .val (.int lb), .val (.int sc), .val (.int lc), .val (.ref tx), .unset] [(.ref a)]))
  refine go_astore X11 hx #[.val (.int p1), .val (.int p2), .val (.int p3), .val (.int sa), .val (.int la), .val (.int sb), .val (.int lb), .val (.int sc), .val (.int lc), .val (.ref tx), .val (.ref a)] (dc hby d0_103) rfl rfl ?_
  refine go_aload X11 hx (dc hby d0_105) (v := (.ref a)) rfl rfl ?_
  refine go_iloadn X11 hx (dc hby d0_107) (v := sa) rfl ?_
  refine go_iloadn X11 hx (dc hby d0_108) (v := p1) rfl ?_
  refine go_iadd X11 hx (dc hby d0_109) ?_
  refine go_iloadn X11 hx (dc hby d0_110) (v := p2) rfl ?_
  refine go_iadd X11 hx (dc hby d0_111) ?_
  refine go_iloadn X11 hx (dc hby d0_112) (v := sa) rfl ?_
  refine go_iload X11 hx (dc hby d0_113) (v := la) rfl ?_
  refine go_iadd X11 hx (dc hby d0_115) ?_
  refine go_iloadn X11 hx (dc hby d0_116) (v := p1) rfl ?_
  refine go_iadd X11 hx (dc hby d0_117) ?_
  refine go_iloadn X11 hx (dc hby d0_118) (v := p2) rfl ?_
  refine go_iadd X11 hx (dc hby d0_119) ?_
  have ht_st : tx < st := Nat.lt_of_lt_of_le (Nat.lt_trans hta A10.lt) hst
  have hst0 := Nat.le_trans htx (Nat.le_of_lt ht_st)
  have ht_en : tx < en := Nat.lt_of_lt_of_le (Nat.lt_trans hta A10.lt) hen
  have hen0 := Nat.le_trans htx (Nat.le_of_lt ht_en)
  have ht_tk : tx < tk := Nat.lt_of_lt_of_le (Nat.lt_trans hta A10.lt) htk
  have htk0 := Nat.le_trans htx (Nat.le_of_lt ht_tk)
  have VC1 := VC.keep K11 (by simp; exact Nat.ne_of_lt hta)
  have KZ1 := KY.trans K11 (fun x hx => Or.inr (by
    simp at hx
    rcases hx with rfl
    · exact ha))
  have NG1 := Fr.app NF9 (L' := L11) (fun y hy => by rw [N11 y hy]; exact ha)
  refine go_virtual X11 hx hZ hown (hw _ (List.mem_of_getElem? (i := 21) rfl)) (hw _ (List.mem_of_getElem? (i := 22) rfl)) (hw _ (List.mem_of_getElem? (i := 24) rfl)) (hw _ (List.mem_of_getElem? (i := 23) rfl)) (hw _ (List.mem_of_getElem? (i := 3) rfl)) (hw _ (List.mem_of_getElem? (i := 25) rfl)) (by decide) rfl (a := a) R0.1 [(.int ((sa + p1) + p2)), (.int (((sa + la) + p1) + p2))] [] (rm3 l Z a0 hw [] a (sa + p1 + p2) (sa + la + p1 + p2) t0 st en tk kS kE kT 0 1 0 [.int 0, .int 0, .int 0] [.int 0, .int 0, .int 0] [.null, .null, .null] T11.heap R0 (by decide) (by decide) rfl rfl (by simp) (by simp)) pd3 rfl (by rw [hml]; rfl) rfl 0 (Nat.le_of_eq rfl) (by decide) (by decide) (by decide) (by decide) (dc hby d0_120) (fun T12 v12 L12 X12 hQ12 => ?_)
  obtain ⟨rfl, N12, K12, R1⟩ := hQ12
  show Go p e below _ (T12.setTop (mkF m 123 #[.val (.int p1), .val (.int p2), .val (.int p3), .val (.int sa), .val (.int la), .val (.int sb), .val (.int lb), .val (.int sc), .val (.int lc), .val (.ref tx), .val (.ref a)] []))
  refine go_aload X12 hx (dc hby d0_123) (v := (.ref a)) rfl rfl ?_
  refine go_iload X12 hx (dc hby d0_125) (v := sb) rfl ?_
  refine go_iloadn X12 hx (dc hby d0_127) (v := p1) rfl ?_
  refine go_iadd X12 hx (dc hby d0_128) ?_
  refine go_iloadn X12 hx (dc hby d0_129) (v := p2) rfl ?_
  refine go_iadd X12 hx (dc hby d0_130) ?_
  refine go_iload X12 hx (dc hby d0_131) (v := sb) rfl ?_
  refine go_iload X12 hx (dc hby d0_133) (v := lb) rfl ?_
  refine go_iadd X12 hx (dc hby d0_135) ?_
  refine go_iloadn X12 hx (dc hby d0_136) (v := p1) rfl ?_
  refine go_iadd X12 hx (dc hby d0_137) ?_
  refine go_iloadn X12 hx (dc hby d0_138) (v := p2) rfl ?_
  refine go_iadd X12 hx (dc hby d0_139) ?_
  have VC2 := VC1.keep K12 (by simp; exact ⟨Nat.ne_of_lt hta, Nat.ne_of_lt ht_st, Nat.ne_of_lt ht_en⟩)
  have KZ2 := KZ1.trans K12 (fun x hx => Or.inr (by
    simp at hx
    rcases hx with rfl | rfl | rfl
    · exact ha
    · exact hst0
    · exact hen0))
  have NG2 := Fr.app NG1 (L' := L12) (fun y hy => by
    rcases N12 y hy with q | q | q
    · rw [q]; exact ha
    · rw [q]; exact hst0
    · rw [q]; exact hen0)
  refine go_virtual X12 hx hZ hown (hw _ (List.mem_of_getElem? (i := 21) rfl)) (hw _ (List.mem_of_getElem? (i := 22) rfl)) (hw _ (List.mem_of_getElem? (i := 24) rfl)) (hw _ (List.mem_of_getElem? (i := 23) rfl)) (hw _ (List.mem_of_getElem? (i := 3) rfl)) (hw _ (List.mem_of_getElem? (i := 25) rfl)) (by decide) rfl (a := a) R1.1 [(.int ((sb + p1) + p2)), (.int (((sb + lb) + p1) + p2))] [] (rm3 l Z a0 hw [] a (sb + p1 + p2) (sb + lb + p1 + p2) t0 st en tk kS kE kT 1 2 1 [.int (sa + p1 + p2), .int 0, .int 0] [.int (sa + la + p1 + p2), .int 0, .int 0] [.null, .null, .null] T12.heap R1 (by decide) (by decide) rfl rfl (by simp) (by simp)) pd3 rfl (by rw [hml]; rfl) rfl 0 (Nat.le_of_eq rfl) (by decide) (by decide) (by decide) (by decide) (dc hby d0_140) (fun T13 v13 L13 X13 hQ13 => ?_)
  obtain ⟨rfl, N13, K13, R2⟩ := hQ13
  show Go p e below _ (T13.setTop (mkF m 143 #[.val (.int p1), .val (.int p2), .val (.int p3), .val (.int sa), .val (.int la), .val (.int sb), .val (.int lb), .val (.int sc), .val (.int lc), .val (.ref tx), .val (.ref a)] []))
  refine go_aload X13 hx (dc hby d0_143) (v := (.ref a)) rfl rfl ?_
  refine go_iloadn X13 hx (dc hby d0_145) (v := p1) rfl ?_
  have VC3 := VC2.keep K13 (by simp; exact ⟨Nat.ne_of_lt hta, Nat.ne_of_lt ht_st, Nat.ne_of_lt ht_en⟩)
  have KZ3 := KZ2.trans K13 (fun x hx => Or.inr (by
    simp at hx
    rcases hx with rfl | rfl | rfl
    · exact ha
    · exact hst0
    · exact hen0))
  have NG3 := Fr.app NG2 (L' := L13) (fun y hy => by
    rcases N13 y hy with q | q | q
    · rw [q]; exact ha
    · rw [q]; exact hst0
    · rw [q]; exact hen0)
  refine go_virtual X13 hx hZ hown (hw _ (List.mem_of_getElem? (i := 28) rfl)) (hw _ (List.mem_of_getElem? (i := 29) rfl)) (hw _ (List.mem_of_getElem? (i := 31) rfl)) (hw _ (List.mem_of_getElem? (i := 30) rfl)) (hw _ (List.mem_of_getElem? (i := 3) rfl)) (hw _ (List.mem_of_getElem? (i := 32) rfl)) (by decide) rfl (a := a) R2.1 [(.int p1)] [] (rm4b l Z a0 hw [] a p1 t0 st en tk kS kE kT (sa + p1 + p2) (sb + p1 + p2) 0 (sa + la + p1 + p2) (sb + lb + p1 + p2) 0 [.null, .null, .null] T13.heap R2) pd4 rfl (by rw [hml]; rfl) rfl 0 (Nat.le_of_eq rfl) (by decide) (by decide) (by decide) (by decide) (dc hby d0_146) (fun T14 v14 L14 X14 hQ14 => ?_)
  obtain ⟨rfl, N14, K14, R3⟩ := hQ14
  show Go p e below _ (T14.setTop (mkF m 149 #[.val (.int p1), .val (.int p2), .val (.int p3), .val (.int sa), .val (.int la), .val (.int sb), .val (.int lb), .val (.int sc), .val (.int lc), .val (.ref tx), .val (.ref a)] []))
  refine go_aload X14 hx (dc hby d0_149) (v := (.ref a)) rfl rfl ?_
  refine go_iload X14 hx (dc hby d0_151) (v := sc) rfl ?_
  refine go_iloadn X14 hx (dc hby d0_153) (v := p2) rfl ?_
  refine go_iadd X14 hx (dc hby d0_154) ?_
  refine go_iload X14 hx (dc hby d0_155) (v := sc) rfl ?_
  refine go_iload X14 hx (dc hby d0_157) (v := lc) rfl ?_
  refine go_iadd X14 hx (dc hby d0_159) ?_
  refine go_iloadn X14 hx (dc hby d0_160) (v := p2) rfl ?_
  refine go_iadd X14 hx (dc hby d0_161) ?_
  have VC4 := VC3.keep K14 (by simp; exact ⟨Nat.ne_of_lt ht_st, Nat.ne_of_lt ht_en⟩)
  have KZ4 := KZ3.trans K14 (fun x hx => Or.inr (by
    simp at hx
    rcases hx with rfl | rfl
    · exact hst0
    · exact hen0))
  have NG4 := Fr.app NG3 (L' := L14) (fun y hy => by
    rcases N14 y hy with q | q
    · rw [q]; exact hst0
    · rw [q]; exact hen0)
  refine go_virtual X14 hx hZ hown (hw _ (List.mem_of_getElem? (i := 21) rfl)) (hw _ (List.mem_of_getElem? (i := 22) rfl)) (hw _ (List.mem_of_getElem? (i := 24) rfl)) (hw _ (List.mem_of_getElem? (i := 23) rfl)) (hw _ (List.mem_of_getElem? (i := 3) rfl)) (hw _ (List.mem_of_getElem? (i := 25) rfl)) (by decide) rfl (a := a) R3.1 [(.int (sc + p2)), (.int ((sc + lc) + p2))] [] (rm3 l Z a0 hw [] a (sc + p2) (sc + lc + p2) t0 st en tk kS kE kT 2 3 2 [.int ((sa + p1 + p2) - p1), .int ((sb + p1 + p2) - p1), .int 0] [.int ((sa + la + p1 + p2) - p1), .int ((sb + lb + p1 + p2) - p1), .int 0] [.null, .null, .null] T14.heap R3 (by decide) (by decide) rfl rfl (by simp) (by simp)) pd3 rfl (by rw [hml]; rfl) rfl 0 (Nat.le_of_eq rfl) (by decide) (by decide) (by decide) (by decide) (dc hby d0_162) (fun T15 v15 L15 X15 hQ15 => ?_)
  obtain ⟨rfl, N15, K15, R4⟩ := hQ15
  show Go p e below _ (T15.setTop (mkF m 165 #[.val (.int p1), .val (.int p2), .val (.int p3), .val (.int sa), .val (.int la), .val (.int sb), .val (.int lb), .val (.int sc), .val (.int lc), .val (.ref tx), .val (.ref a)] []))
  refine go_aload X15 hx (dc hby d0_165) (v := (.ref a)) rfl rfl ?_
  refine go_iloadn X15 hx (dc hby d0_167) (v := p2) rfl ?_
  have VC5 := VC4.keep K15 (by simp; exact ⟨Nat.ne_of_lt hta, Nat.ne_of_lt ht_st, Nat.ne_of_lt ht_en⟩)
  have KZ5 := KZ4.trans K15 (fun x hx => Or.inr (by
    simp at hx
    rcases hx with rfl | rfl | rfl
    · exact ha
    · exact hst0
    · exact hen0))
  have NG5 := Fr.app NG4 (L' := L15) (fun y hy => by
    rcases N15 y hy with q | q | q
    · rw [q]; exact ha
    · rw [q]; exact hst0
    · rw [q]; exact hen0)
  refine go_virtual X15 hx hZ hown (hw _ (List.mem_of_getElem? (i := 28) rfl)) (hw _ (List.mem_of_getElem? (i := 29) rfl)) (hw _ (List.mem_of_getElem? (i := 31) rfl)) (hw _ (List.mem_of_getElem? (i := 30) rfl)) (hw _ (List.mem_of_getElem? (i := 3) rfl)) (hw _ (List.mem_of_getElem? (i := 32) rfl)) (by decide) rfl (a := a) R4.1 [(.int p2)] [] (rm4c l Z a0 hw [] a p2 t0 st en tk kS kE kT ((sa + p1 + p2) - p1) ((sb + p1 + p2) - p1) (sc + p2) ((sa + la + p1 + p2) - p1) ((sb + lb + p1 + p2) - p1) (sc + lc + p2) [.null, .null, .null] T15.heap R4) pd4 rfl (by rw [hml]; rfl) rfl 0 (Nat.le_of_eq rfl) (by decide) (by decide) (by decide) (by decide) (dc hby d0_168) (fun T16 v16 L16 X16 hQ16 => ?_)
  obtain ⟨rfl, N16, K16, R5⟩ := hQ16
  show Go p e below _ (T16.setTop (mkF m 171 #[.val (.int p1), .val (.int p2), .val (.int p3), .val (.int sa), .val (.int la), .val (.int sb), .val (.int lb), .val (.int sc), .val (.int lc), .val (.ref tx), .val (.ref a)] []))
  refine go_aload X16 hx (dc hby d0_171) (v := (.ref a)) rfl rfl ?_
  refine go_aload X16 hx (dc hby d0_173) (v := (.ref tx)) rfl rfl ?_
  have VC6 := VC5.keep K16 (by simp; exact ⟨Nat.ne_of_lt ht_st, Nat.ne_of_lt ht_en⟩)
  have KZ6 := KZ5.trans K16 (fun x hx => Or.inr (by
    simp at hx
    rcases hx with rfl | rfl
    · exact hst0
    · exact hen0))
  have NG6 := Fr.app NG5 (L' := L16) (fun y hy => by
    rcases N16 y hy with q | q
    · rw [q]; exact hst0
    · rw [q]; exact hen0)
  refine go_virtual X16 hx hZ hown (hw _ (List.mem_of_getElem? (i := 33) rfl)) (hw _ (List.mem_of_getElem? (i := 34) rfl)) (hw _ (List.mem_of_getElem? (i := 36) rfl)) (hw _ (List.mem_of_getElem? (i := 35) rfl)) (hw _ (List.mem_of_getElem? (i := 3) rfl)) (hw _ (List.mem_of_getElem? (i := 37) rfl)) (by decide) rfl (a := a) R5.1 [(.ref tx)] [] (rm5 l Z a0 hw [] a tx t0 st en tk kS kE kT 3 [.int (((sa + p1 + p2) - p1) - p2), .int (((sb + p1 + p2) - p1) - p2), .int ((sc + p2) - p2)] [.int (((sa + la + p1 + p2) - p1) - p2), .int (((sb + lb + p1 + p2) - p1) - p2), .int ((sc + lc + p2) - p2)] [.null, .null, .null] T16.heap R5) pd5 rfl (by rw [hml]; rfl) rfl 0 (Nat.le_of_eq rfl) (by decide) (by decide) (by decide) (by decide) (dc hby d0_175) (fun T17 v17 L17 X17 hQ17 => ?_)
  obtain ⟨rfl, N17, K17, R6⟩ := hQ17
  show Go p e below _ (T17.setTop (mkF m 178 #[.val (.int p1), .val (.int p2), .val (.int p3), .val (.int sa), .val (.int la), .val (.int sb), .val (.int lb), .val (.int sc), .val (.int lc), .val (.ref tx), .val (.ref a)] []))
  refine go_aload X17 hx (dc hby d0_178) (v := (.ref a)) rfl rfl ?_
  refine go_iconst X17 hx (0) (dc hby d0_180) rfl ?_
  have VC7 := VC6.keep K17 (by simp; exact Nat.ne_of_lt hta)
  have KZ7 := KZ6.trans K17 (fun x hx => Or.inr (by
    simp at hx
    rcases hx with rfl
    · exact ha))
  have NG7 := Fr.app NG6 (L' := L17) (fun y hy => by rw [N17 y hy]; exact ha)
  refine go_virtual X17 hx hZ hown (hw _ (List.mem_of_getElem? (i := 38) rfl)) (hw _ (List.mem_of_getElem? (i := 39) rfl)) (hw _ (List.mem_of_getElem? (i := 41) rfl)) (hw _ (List.mem_of_getElem? (i := 40) rfl)) (hw _ (List.mem_of_getElem? (i := 3) rfl)) (hw _ (List.mem_of_getElem? (i := 42) rfl)) (by decide) rfl (a := a) R6.1 [(.int (0 : Int32))] [] (rm6 l Z a0 hw [] a 0 tx st en tk kS kE kT 3 sa la 0 [.int (((sa + p1 + p2) - p1) - p2), .int (((sb + p1 + p2) - p1) - p2), .int ((sc + p2) - p2)] [.int (((sa + la + p1 + p2) - p1) - p2), .int (((sb + lb + p1 + p2) - p1) - p2), .int ((sc + lc + p2) - p2)] [.null, .null, .null] ktx cs fm T17.heap R6 (by decide) (by decide) rfl (by simp) rfl (congrArg Value.int (own_c2 sa p1 p2)) (congrArg Value.int (own_c2 (sa + la) p1 p2)) VC7 Bsa Bla hcs (own_staK SC KZ7) hfm (own_staK SF KZ7)) pd6 rfl (by rw [hml]; rfl) rfl 0 (Nat.le_of_eq rfl) (by decide) (by decide) (by decide) (by decide) (dc hby d0_181) (fun T18 v18 L18 X18 hQ18 => ?_)
  obtain ⟨c0, rfl, N18, K18, SS0, RR0⟩ := hQ18
  show Go p e below _ (T18.setTop (mkF m 184 #[.val (.int p1), .val (.int p2), .val (.int p3), .val (.int sa), .val (.int la), .val (.int sb), .val (.int lb), .val (.int sc), .val (.int lc), .val (.ref tx), .val (.ref a)] [(.ref c0)]))
  refine go_iloadn X18 hx (dc hby d0_184) (v := sa) rfl ?_
  refine go_iload X18 hx (dc hby d0_185) (v := la) rfl ?_
  have VC8 := VC7.keep K18 (by simp; exact Nat.ne_of_lt ht_tk)
  have KZ8 := KZ7.trans K18 (fun x hx => Or.inr (by
    simp at hx
    rcases hx with rfl
    · exact htk0))
  have NG8 := Fr.app NG7 (L' := L18) (fun y hy => by
    rcases N18 y hy with q | q
    · rw [q]; exact htk0
    · exact Nat.le_trans htx (Nat.le_trans (Nat.le_of_lt VC7.lt) q))
  refine go_staticP X18 hx hZ hown (hw _ (List.mem_of_getElem? (i := 87) rfl)) (hw _ (List.mem_of_getElem? (i := 88) rfl)) (hw _ (List.mem_of_getElem? (i := 89) rfl)) (hw _ (List.mem_of_getElem? (i := 90) rfl)) (by decide) rfl [(.ref c0), (.int sa), (.int la)] [] (r := (.int (1 : Int32))) (rm17 l Z a0 hw [] c0 sa la cs fm T18.heap SS0 Bsa Bla hcs (own_staK SC KZ8) hfm (own_staK SF KZ8)) pd17 rfl (by rw [hml]; rfl) rfl 0 (Nat.le_of_eq rfl) (by decide) (by decide) rfl rfl (by decide) (by decide) (dc hby d0_187) (fun T19 X19 e19 => ?_)
  refine go_ifc_eq X19 hx (db hby d0_190) (fun c190 => absurd c190 (by decide)) (fun c190 => ?_)
  refine go_aload X19 hx (dc hby d0_193) (v := (.ref a)) rfl rfl ?_
  refine go_iconst X19 hx (1) (dc hby d0_195) rfl ?_
  refine go_virtual X19 hx hZ hown (hw _ (List.mem_of_getElem? (i := 38) rfl)) (hw _ (List.mem_of_getElem? (i := 39) rfl)) (hw _ (List.mem_of_getElem? (i := 41) rfl)) (hw _ (List.mem_of_getElem? (i := 40) rfl)) (hw _ (List.mem_of_getElem? (i := 3) rfl)) (hw _ (List.mem_of_getElem? (i := 42) rfl)) (by decide) e19 (a := a) RR0.1 [(.int (1 : Int32))] [] (rm6 l Z a0 hw [] a 1 tx st en tk kS kE kT 3 sb lb 1 [.int (((sa + p1 + p2) - p1) - p2), .int (((sb + p1 + p2) - p1) - p2), .int ((sc + p2) - p2)] [.int (((sa + la + p1 + p2) - p1) - p2), .int (((sb + lb + p1 + p2) - p1) - p2), .int ((sc + lc + p2) - p2)] [.ref c0, .null, .null] ktx cs fm T18.heap RR0 (by decide) (by decide) rfl (by simp) rfl (congrArg Value.int (own_c2 sb p1 p2)) (congrArg Value.int (own_c2 (sb + lb) p1 p2)) VC8 Bsb Blb hcs (own_staK SC KZ8) hfm (own_staK SF KZ8)) pd6 rfl (by rw [hml]; rfl) rfl 0 (Nat.le_of_eq rfl) (by decide) (by decide) (by decide) (by decide) (dc hby d0_196) (fun T20 v20 L20 X20 hQ20 => ?_)
  obtain ⟨c1, rfl, N20, K20, SS1, RR1⟩ := hQ20
  show Go p e below _ (T20.setTop (mkF m 199 #[.val (.int p1), .val (.int p2), .val (.int p3), .val (.int sa), .val (.int la), .val (.int sb), .val (.int lb), .val (.int sc), .val (.int lc), .val (.ref tx), .val (.ref a)] [(.ref c1)]))
  refine go_iload X20 hx (dc hby d0_199) (v := sb) rfl ?_
  refine go_iload X20 hx (dc hby d0_201) (v := lb) rfl ?_
  have VC9 := VC8.keep K20 (by simp; exact Nat.ne_of_lt ht_tk)
  have KZ9 := KZ8.trans K20 (fun x hx => Or.inr (by
    simp at hx
    rcases hx with rfl
    · exact htk0))
  have NG9 := Fr.app NG8 (L' := L20) (fun y hy => by
    rcases N20 y hy with q | q
    · rw [q]; exact htk0
    · exact Nat.le_trans htx (Nat.le_trans (Nat.le_of_lt VC8.lt) q))
  refine go_staticP X20 hx hZ hown (hw _ (List.mem_of_getElem? (i := 87) rfl)) (hw _ (List.mem_of_getElem? (i := 88) rfl)) (hw _ (List.mem_of_getElem? (i := 89) rfl)) (hw _ (List.mem_of_getElem? (i := 90) rfl)) (by decide) rfl [(.ref c1), (.int sb), (.int lb)] [] (r := (.int (1 : Int32))) (rm17 l Z a0 hw [] c1 sb lb cs fm T20.heap SS1 Bsb Blb hcs (own_staK SC KZ9) hfm (own_staK SF KZ9)) pd17 rfl (by rw [hml]; rfl) rfl 0 (Nat.le_of_eq rfl) (by decide) (by decide) rfl rfl (by decide) (by decide) (dc hby d0_203) (fun T21 X21 e21 => ?_)
  refine go_ifc_eq X21 hx (db hby d0_206) (fun c206 => absurd c206 (by decide)) (fun c206 => ?_)
  refine go_aload X21 hx (dc hby d0_209) (v := (.ref a)) rfl rfl ?_
  refine go_iconst X21 hx (2) (dc hby d0_211) rfl ?_
  refine go_virtual X21 hx hZ hown (hw _ (List.mem_of_getElem? (i := 38) rfl)) (hw _ (List.mem_of_getElem? (i := 39) rfl)) (hw _ (List.mem_of_getElem? (i := 41) rfl)) (hw _ (List.mem_of_getElem? (i := 40) rfl)) (hw _ (List.mem_of_getElem? (i := 3) rfl)) (hw _ (List.mem_of_getElem? (i := 42) rfl)) (by decide) e21 (a := a) RR1.1 [(.int (2 : Int32))] [] (rm6 l Z a0 hw [] a 2 tx st en tk kS kE kT 3 sc lc 2 [.int (((sa + p1 + p2) - p1) - p2), .int (((sb + p1 + p2) - p1) - p2), .int ((sc + p2) - p2)] [.int (((sa + la + p1 + p2) - p1) - p2), .int (((sb + lb + p1 + p2) - p1) - p2), .int ((sc + lc + p2) - p2)] [.ref c0, .ref c1, .null] ktx cs fm T20.heap RR1 (by decide) (by decide) rfl (by simp) rfl (congrArg Value.int (own_c1 sc p2)) (congrArg Value.int (own_c1 (sc + lc) p2)) VC9 Bsc Blc hcs (own_staK SC KZ9) hfm (own_staK SF KZ9)) pd6 rfl (by rw [hml]; rfl) rfl 0 (Nat.le_of_eq rfl) (by decide) (by decide) (by decide) (by decide) (dc hby d0_212) (fun T22 v22 L22 X22 hQ22 => ?_)
  obtain ⟨c2, rfl, N22, K22, SS2, RR2⟩ := hQ22
  show Go p e below _ (T22.setTop (mkF m 215 #[.val (.int p1), .val (.int p2), .val (.int p3), .val (.int sa), .val (.int la), .val (.int sb), .val (.int lb), .val (.int sc), .val (.int lc), .val (.ref tx), .val (.ref a)] [(.ref c2)]))
  refine go_iload X22 hx (dc hby d0_215) (v := sc) rfl ?_
  refine go_iload X22 hx (dc hby d0_217) (v := lc) rfl ?_
  have VC10 := VC9.keep K22 (by simp; exact Nat.ne_of_lt ht_tk)
  have KZ10 := KZ9.trans K22 (fun x hx => Or.inr (by
    simp at hx
    rcases hx with rfl
    · exact htk0))
  have NG10 := Fr.app NG9 (L' := L22) (fun y hy => by
    rcases N22 y hy with q | q
    · rw [q]; exact htk0
    · exact Nat.le_trans htx (Nat.le_trans (Nat.le_of_lt VC9.lt) q))
  refine go_staticP X22 hx hZ hown (hw _ (List.mem_of_getElem? (i := 87) rfl)) (hw _ (List.mem_of_getElem? (i := 88) rfl)) (hw _ (List.mem_of_getElem? (i := 89) rfl)) (hw _ (List.mem_of_getElem? (i := 90) rfl)) (by decide) rfl [(.ref c2), (.int sc), (.int lc)] [] (r := (.int (1 : Int32))) (rm17 l Z a0 hw [] c2 sc lc cs fm T22.heap SS2 Bsc Blc hcs (own_staK SC KZ10) hfm (own_staK SF KZ10)) pd17 rfl (by rw [hml]; rfl) rfl 0 (Nat.le_of_eq rfl) (by decide) (by decide) rfl rfl (by decide) (by decide) (dc hby d0_219) (fun T23 X23 e23 => ?_)
  refine go_ifc_eq X23 hx (db hby d0_222) (fun c222 => absurd c222 (by decide)) (fun c222 => ?_)
  refine go_iconst X23 hx (1) (dc hby d0_225) rfl ?_
  refine go_goto X23 hx (db hby d0_226) ?_
  exact go_retN X23 hx hret (by simp) (dc hby d0_230) hk (by decide) (by decide) ⟨rfl, NG10⟩
theorem pd0 : parseMethodDescriptor "(III)Z" = some ⟨[.int, .int, .int], some .boolean⟩ := by decide +kernel
set_option maxRecDepth 65536 in
set_option maxHeartbeats 40000000 in
theorem comes_1 {Post : Tables → Env → Array Value → State → Outcome → State → Prop} (hpost : ∀ tb e args s v u, (limb_1_1.after args s (.returned v) u = true ∧ limb_1_2.after args s (.returned v) u = true ∧ True) → FrameEnd s (.returned v) u (Jvm.fieldLocs frame_1_writes args s ++ Jvm.arrayLocs frame_1_arrays args s ++ Jvm.staticLocs frame_1_statics s) 32 256 → Post tb e args s (.returned v) u) :
    ArmFor flags0 classFile x code maxLocals ret World_1 tables_1 room_1 Calls_1 rest_1 Pre_1 Post := by
  intro l hfl _ _ p e ha hc hk s m args below hf hA hF happ hP
  obtain ⟨hcalls, hrest, hpre⟩ := hP
  obtain ⟨-, -, -, hnamed, -, -, -, hat⟩ := (Spec.applies_iff hf).mp happ
  obtain ⟨hg, hn⟩ := and_e (Cond.before_iff.mp (show (Jvm.Cond.and given_1 narrow_1).before args s = true from hpre))
  obtain ⟨g1, g2⟩ := and_e hg
  obtain ⟨w0, w1, w2, rfl⟩ : ∃ w0 w1 w2 : Value, args = #[w0, w1, w2] := by
    have hs : args.size = 3 := by simpa [Cond.value, given_1] using g1
    obtain ⟨L⟩ := args
    match L, hs with
    | [w0, w1, w2], _ => exact ⟨w0, w1, w2, rfl⟩
  have hw := fun d (hd : d ∈ tables_1) => atoms_spec (ws := Jvm.Cond.code x code maxLocals ret :: tables_1) hat d (List.mem_cons_of_mem _ hd)
  have hfit : Fit s := fun {y c} hc i hi => by
    obtain ⟨ha, rfl⟩ := Array.getElem?_eq_some_iff.mp hc
    have q := List.all_eq_true.mp ((Array.all_eq_true_iff_forall_mem.mp hF) _ (Array.getElem_mem ha)) i (List.mem_range.mpr hi)
    simpa [Array.getElem?_eq_getElem hi] using q
  obtain ⟨u0, r0⟩ := and_e g2
  obtain ⟨i0, j0⟩ := is_v u0
  obtain rfl : w0 = (.int i0) := Option.some.inj j0
  obtain ⟨u1, r1⟩ := and_e r0
  obtain ⟨i1, j1⟩ := is_v u1
  obtain rfl : w1 = (.int i1) := Option.some.inj j1
  obtain ⟨i2, j2⟩ := is_v r1
  obtain rfl : w2 = (.int i2) := Option.some.inj j2
  have hJ := (atoms_of jdkStatics_1 (by rw [← rest_1_c_eq]; exact hrest)).1
  obtain ⟨cs, vcs⟩ := is_v (Cond.before_iff.mp (hJ _ (List.mem_of_getElem? (i := 1) rfl)))
  have SC := Sta.start vcs (Or.inl (hJ _ (List.mem_of_getElem? (i := 0) rfl)))
  have hcs : ¬ cs = 0 := fun q => by
    have h2 := not_v (Cond.before_iff.mp (hJ _ (List.mem_of_getElem? (i := 2) rfl)))
    rw [q] at vcs
    rw [eq_i vcs (Term.int_eval 0) rfl] at h2
    exact absurd h2 (by decide)
  obtain ⟨fm, vfm, hfm⟩ := isR_v (Cond.before_iff.mp (hJ _ (List.mem_of_getElem? (i := 8) rfl)))
  have SF := Sta.start vfm (Or.inl (hJ _ (List.mem_of_getElem? (i := 7) rfl)))
  obtain ⟨n, o, h1, h2, h3, _, L, rfl, ⟨rfl, N⟩, hq⟩ := rm0 l s _ hw tables_1 i0 i1 i2 cs fm s.heap hcs SC hfm SF p e ha hc hk s m _ below hf ((Spec.applies_iff_loose hf).mp happ).1 ⟨rfl, State.Warmed39.refl s, rfl⟩ trivial
  refine ⟨n, _, h1, h2, h3, hpost _ _ _ _ _ _ ⟨Cond.after_iff.mpr rfl, Cond.after_iff.mpr (eq_i res_at (Term.int_eval (1)) rfl), trivial⟩ ⟨hq.1, hq.2.1, (hq.2.2.sift fun y hy => Or.inr (N y hy)).mono (by decide) (by decide)⟩⟩
theorem main_1_1 : Claimed_1_1 := comes_1 fun _ _ _ _ _ _ h hF => ⟨h.1, hF⟩
theorem main_1_2 : Claimed_1_2 := comes_1 fun _ _ _ _ _ _ h hF => ⟨h.2.1, hF⟩
end Jvm.Pilot.@@N@@
namespace Jvm.Pilot.@@N@@
open Jvm Jvm.ClassFile Sem Op Lib Jvm.Free Jvm.Stand Jvm.Pilot.@@N@@.Jvm.D
/-! MADE BY PROGRAM (witnessworld.py) out of the Statement's table words and the real class files: 22 classes; the members and pool entries that the words name. The judged class is class 1, her method 1. -/
namespace start1
open Jvm.ClassFile
def u (s : String) : CpInfo := .utf8 (stringToUtf16 s)
/-- a pool by its gaps: so many unusable entries, then the entry; so many at the end -/
def gap : Nat → List CpInfo → List CpInfo
  | 0, r => r
  | n + 1, r => .unusable :: gap n r
def poolList (es : List (Nat × CpInfo)) (last : Nat) : List CpInfo := es.foldr (fun e r => gap e.1 (e.2 :: r)) (gap last [])
def pool (es : List (Nat × CpInfo)) (last : Nat) : Array CpInfo := ⟨poolList es last⟩
def fileOf (pool : Array CpInfo) (this : Nat) (attrs : Array Attribute := #[]) (ms : Array MethodInfo := #[]) (fl : Nat := 33) (sup : Nat := 0) (ifs : Array Nat := #[]) (fds : Array FieldInfo := #[]) : ClassFile where
  minorVersion := 0
  majorVersion := 65
  constantPool := pool
  accessFlags := fl
  thisClass := this
  superClass := sup
  interfaces := ifs
  fields := fds
  methods := ms
  attributes := attrs
def plain (name : String) (sup : Option ClassId) : Class where
  name := name
  kind := .ordinary
  loader := none
  accessFlags := 33
  super := sup
  interfaces := #[]
  cf := none
  fields := #[]
  methods := #[]
  instanceTypes := #[]
  staticTypes := #[]
  resolved := #[]
  callSites := []
  init := .initialized
  statics := none
  mirror := none

def pool0 : Array CpInfo := pool [(5, u "<init>"), (0, u "()V"), (1, .class_ 10), (1, u "java/lang/Object")] 113

def k0c0 : Code := { maxStack := 0, maxLocals := 1, code := object_method_1_code, exceptionTable := #[], attributes := #[] }
def k0m0 : Method := { name := "<init>", desc := "()V", sig := { parameters := [], returnType := none }, accessFlags := 1, code := some k0c0 }
/-- java/lang/Object -/
def k0 : Class := { plain "java/lang/Object" none with
  accessFlags := 33
  interfaces := #[]
  cf := some (fileOf pool0 8 #[] #[{ accessFlags := 1, nameIndex := 5, descriptorIndex := 6, attributes := #[] }] 33 0 #[] #[])
  fields := #[]
  methods := #[k0m0]
  instanceTypes := #[]
  staticTypes := #[]
  resolved := Array.replicate 124 none
  statics := none }

def pool1 : Array CpInfo := pool [(2, .class_ 4), (0, .nameAndType 5 6), (0, u "java/lang/Object"), (0, u "<init>"), (0, u "()V"), (0, .class_ 8), (0, u "com/example/strict_tariff/stricttariff/io/CsvRow"), (0, .methodref 7 3), (0, .methodref 7 11), (0, .nameAndType 12 13), (0, u "add"), (0, u "(II)V"), (0, .methodref 7 15), (0, .nameAndType 16 17), (0, u "moveBack"), (0, u "(I)V"), (0, .methodref 7 19), (0, .nameAndType 20 21), (0, u "setText"), (0, u "([C)V"), (0, .methodref 7 23), (0, .nameAndType 24 25), (0, u "get"), (0, u "(I)Ljava/lang/String;"), (0, .methodref 27 28), (0, .class_ 29), (0, .nameAndType 30 31), (0, u "com/example/strict_tariff/stricttariff/io/CsvRowMoveBackPinLaw"), (0, u "field"), (0, u "(Ljava/lang/String;II)Z"), (0, .methodref 33 34), (0, .class_ 35), (0, .nameAndType 36 37), (0, u "java/lang/String"), (0, u "length"), (0, u "()I"), (0, .methodref 33 39), (0, .nameAndType 40 41), (0, u "charAt"), (0, u "(I)C"), (2, u "law"), (0, u "(III)Z")] 5

def k1m0 : Method := { name := "<init>", desc := "()V", sig := { parameters := [], returnType := none }, accessFlags := 1, code := none }
def k1c1 : Code := { maxStack := 4, maxLocals := 11, code := code, exceptionTable := #[], attributes := #[] }
def k1m1 : Method := { name := "law", desc := "(III)Z", sig := { parameters := [.int, .int, .int], returnType := some .boolean }, accessFlags := 9, code := some k1c1 }
def k1c2 : Code := { maxStack := 3, maxLocals := 3, code := method_3_code, exceptionTable := #[], attributes := #[] }
def k1m2 : Method := { name := "field", desc := "(Ljava/lang/String;II)Z", sig := { parameters := [(.object "java/lang/String"), .int, .int], returnType := some .boolean }, accessFlags := 10, code := some k1c2 }
/-- com/example/strict_tariff/stricttariff/io/CsvRowMoveBackPinLaw -/
def k1 : Class := { plain "com/example/strict_tariff/stricttariff/io/CsvRowMoveBackPinLaw" (some 0) with
  accessFlags := 49
  interfaces := #[]
  cf := some (fileOf pool1 27 #[] #[{ accessFlags := 1, nameIndex := 5, descriptorIndex := 6, attributes := #[] }, { accessFlags := 9, nameIndex := 44, descriptorIndex := 45, attributes := #[] }, { accessFlags := 10, nameIndex := 30, descriptorIndex := 31, attributes := #[] }] 49 2 #[] #[])
  fields := #[]
  methods := #[k1m0, k1m1, k1m2]
  instanceTypes := #[]
  staticTypes := #[]
  resolved := Array.replicate 51 none
  statics := none }

def pool2 : Array CpInfo := pool [(1, .methodref 2 3), (0, .class_ 4), (0, .nameAndType 5 6), (0, u "java/lang/Object"), (0, u "<init>"), (0, u "()V"), (0, .fieldref 8 9), (0, .class_ 10), (0, .nameAndType 11 12), (0, u "com/example/strict_tariff/stricttariff/io/CsvRow"), (0, u "text"), (0, u "[C"), (0, .fieldref 8 14), (0, .nameAndType 15 16), (0, u "starts"), (0, u "[I"), (0, .fieldref 8 18), (0, .nameAndType 19 16), (0, u "ends"), (0, .class_ 21), (0, u "java/lang/String"), (0, .fieldref 8 23), (0, .nameAndType 24 25), (0, u "taken"), (0, u "[Ljava/lang/String;"), (0, .fieldref 8 27), (0, .nameAndType 28 29), (0, u "size"), (0, u "I"), (0, .methodref 31 32), (0, .class_ 33), (0, .nameAndType 34 35), (0, u "java/util/Objects"), (0, u "checkIndex"), (0, u "(II)I"), (4, .methodref 20 41), (0, .nameAndType 5 42), (0, u "([CII)V"), (0, .class_ 44), (0, u "com/example/strict_tariff/stricttariff/io/CsvRow$Text"), (5, u "(I)V"), (2, u "get"), (0, u "(I)Ljava/lang/String;"), (4, u "add"), (28, u "(II)V"), (0, u "moveBack"), (0, u "setText"), (0, u "([C)V")] 5

def k2c0 : Code := { maxStack := 2, maxLocals := 1, code := prog_57_method_1_code, exceptionTable := #[], attributes := #[] }
def k2m0 : Method := { name := "<init>", desc := "()V", sig := { parameters := [], returnType := none }, accessFlags := 0, code := some k2c0 }
def k2c1 : Code := { maxStack := 7, maxLocals := 4, code := prog_57_method_3_code, exceptionTable := #[], attributes := #[] }
def k2m1 : Method := { name := "get", desc := "(I)Ljava/lang/String;", sig := { parameters := [.int], returnType := some (.object "java/lang/String") }, accessFlags := 0, code := some k2c1 }
def k2c2 : Code := { maxStack := 4, maxLocals := 3, code := prog_57_method_8_code, exceptionTable := #[], attributes := #[] }
def k2m2 : Method := { name := "add", desc := "(II)V", sig := { parameters := [.int, .int], returnType := none }, accessFlags := 0, code := some k2c2 }
def k2c3 : Code := { maxStack := 4, maxLocals := 3, code := prog_57_method_9_code, exceptionTable := #[], attributes := #[] }
def k2m3 : Method := { name := "moveBack", desc := "(I)V", sig := { parameters := [.int], returnType := none }, accessFlags := 0, code := some k2c3 }
def k2c4 : Code := { maxStack := 2, maxLocals := 2, code := prog_57_method_10_code, exceptionTable := #[], attributes := #[] }
def k2m4 : Method := { name := "setText", desc := "([C)V", sig := { parameters := [(.array .char)], returnType := none }, accessFlags := 0, code := some k2c4 }
/-- com/example/strict_tariff/stricttariff/io/CsvRow -/
def k2 : Class := { plain "com/example/strict_tariff/stricttariff/io/CsvRow" (some 0) with
  accessFlags := 32
  interfaces := #[]
  cf := some (fileOf pool2 8 #[.nestMembers #[43]] #[{ accessFlags := 0, nameIndex := 5, descriptorIndex := 6, attributes := #[] }, { accessFlags := 0, nameIndex := 53, descriptorIndex := 54, attributes := #[] }, { accessFlags := 0, nameIndex := 59, descriptorIndex := 88, attributes := #[] }, { accessFlags := 0, nameIndex := 89, descriptorIndex := 50, attributes := #[] }, { accessFlags := 0, nameIndex := 90, descriptorIndex := 91, attributes := #[] }] 32 2 #[] #[{ accessFlags := 2, nameIndex := 11, descriptorIndex := 12, attributes := #[] }, { accessFlags := 2, nameIndex := 15, descriptorIndex := 16, attributes := #[] }, { accessFlags := 2, nameIndex := 19, descriptorIndex := 16, attributes := #[] }, { accessFlags := 2, nameIndex := 28, descriptorIndex := 29, attributes := #[] }, { accessFlags := 2, nameIndex := 24, descriptorIndex := 25, attributes := #[] }])
  fields := #[{ name := "text", type := (.array .char), accessFlags := 2, slot := 0, constantValue := 0 }, { name := "starts", type := (.array .int), accessFlags := 2, slot := 1, constantValue := 0 }, { name := "ends", type := (.array .int), accessFlags := 2, slot := 2, constantValue := 0 }, { name := "size", type := .int, accessFlags := 2, slot := 3, constantValue := 0 }, { name := "taken", type := (.array (.object "java/lang/String")), accessFlags := 2, slot := 4, constantValue := 0 }]
  methods := #[k2m0, k2m1, k2m2, k2m3, k2m4]
  instanceTypes := #[(.array .char), (.array .int), (.array .int), .int, (.array (.object "java/lang/String"))]
  staticTypes := #[]
  resolved := Array.replicate 97 none
  statics := none }

def pool3 : Array CpInfo := pool [(1, .class_ 2), (0, u "java/io/Serializable"), (0, .class_ 4), (0, u "java/lang/Object")] 2

/-- java/io/Serializable -/
def k3 : Class := { plain "java/io/Serializable" (some 0) with
  accessFlags := 1537
  interfaces := #[]
  cf := some (fileOf pool3 1 #[] #[] 1537 3 #[] #[])
  fields := #[]
  methods := #[]
  instanceTypes := #[]
  staticTypes := #[]
  resolved := Array.replicate 7 none
  statics := none }

def pool4 : Array CpInfo := pool [(1, .class_ 2), (0, u "java/lang/Comparable"), (0, .class_ 4), (0, u "java/lang/Object")] 7

/-- java/lang/Comparable -/
def k4 : Class := { plain "java/lang/Comparable" (some 0) with
  accessFlags := 1537
  interfaces := #[]
  cf := some (fileOf pool4 1 #[] #[] 1537 3 #[] #[])
  fields := #[]
  methods := #[]
  instanceTypes := #[]
  staticTypes := #[]
  resolved := Array.replicate 12 none
  statics := none }

def pool5 : Array CpInfo := pool [(2, .class_ 4), (1, u "java/lang/CharSequence"), (42, .class_ 48), (0, u "java/lang/CharSequence$1CodePointIterator"), (10, .class_ 60), (0, u "java/lang/CharSequence$1CharIterator"), (5, .class_ 67), (0, u "java/lang/Object")] 63

/-- java/lang/CharSequence -/
def k5 : Class := { plain "java/lang/CharSequence" (some 0) with
  accessFlags := 1537
  interfaces := #[]
  cf := some (fileOf pool5 2 #[.nestMembers #[47, 59]] #[] 1537 66 #[] #[])
  fields := #[]
  methods := #[]
  instanceTypes := #[]
  staticTypes := #[]
  resolved := Array.replicate 131 none
  statics := none }

def pool6 : Array CpInfo := pool [(1, .class_ 2), (0, u "java/lang/constant/Constable"), (0, .class_ 4), (0, u "java/lang/Object")] 6

/-- java/lang/constant/Constable -/
def k6 : Class := { plain "java/lang/constant/Constable" (some 0) with
  accessFlags := 1537
  interfaces := #[]
  cf := some (fileOf pool6 1 #[] #[] 1537 3 #[] #[])
  fields := #[]
  methods := #[]
  instanceTypes := #[]
  staticTypes := #[]
  resolved := Array.replicate 11 none
  statics := none }

def pool7 : Array CpInfo := pool [(1, .class_ 2), (0, u "java/lang/constant/ConstantDesc"), (0, .class_ 4), (0, u "java/lang/Object")] 32

/-- java/lang/constant/ConstantDesc -/
def k7 : Class := { plain "java/lang/constant/ConstantDesc" (some 0) with
  accessFlags := 1537
  interfaces := #[]
  cf := some (fileOf pool7 1 #[] #[] 1537 3 #[] #[])
  fields := #[]
  methods := #[]
  instanceTypes := #[]
  staticTypes := #[]
  resolved := Array.replicate 37 none
  statics := none }

def pool8 : Array CpInfo := pool [(1, .methodref 2 3), (0, .class_ 4), (0, .nameAndType 5 6), (0, u "java/lang/Object"), (0, u "<init>"), (0, u "()V"), (2, .fieldref 10 11), (0, .class_ 12), (0, .nameAndType 13 14), (0, u "java/lang/String"), (0, u "value"), (0, u "[B"), (0, .fieldref 10 16), (0, .nameAndType 17 18), (0, u "coder"), (0, u "B"), (2, u "hash"), (0, u "I"), (2, u "hashIsZero"), (0, u "Z"), (0, .methodref 10 28), (0, .nameAndType 5 29), (0, u "([CIILjava/lang/Void;)V"), (0, .methodref 10 31), (0, .nameAndType 32 33), (0, u "rangeCheck"), (0, u "([CII)Ljava/lang/Void;"), (0, .methodref 10 35), (0, .nameAndType 36 37), (0, u "checkBoundsOffCount"), (0, u "(III)I"), (0, .fieldref 10 39), (0, .nameAndType 40 26), (0, u "COMPACT_STRINGS"), (1, .class_ 44), (1, u "java/lang/StringUTF16"), (0, u "compress"), (1, .methodref 42 48), (0, .nameAndType 49 50), (0, u "coderFromArrayLen"), (0, u "([BI)B"), (56, .class_ 109), (1, u "java/lang/StringLatin1"), (32, u "()Z"), (34, .methodref 42 178), (0, .nameAndType 45 179), (0, u "([CII)[B"), (154, u "()I"), (0, .methodref 10 336), (0, .nameAndType 17 337), (0, u "()B"), (25, u "([BI)C"), (27, u "(II)V"), (35, u "(I)C"), (64, .methodref 10 493), (0, .nameAndType 494 142), (0, u "isLatin1"), (0, .methodref 107 496), (0, .nameAndType 497 363), (0, u "charAt"), (3, u "checkIndex"), (5, u "length"), (67, .class_ 576), (0, u "java/lang/CharSequence"), (22, u "CASE_INSENSITIVE_ORDER"), (0, u "Ljava/util/Comparator;"), (371, u "([CII)V"), (80, .fieldref 1054 1055), (0, .class_ 1056), (0, .nameAndType 1057 1058), (0, u "jdk/internal/util/Preconditions"), (0, u "SIOOBE_FORMATTER"), (0, u "Ljava/util/function/BiFunction;"), (0, .methodref 1054 1060), (0, .nameAndType 501 1061), (0, u "(IILjava/util/function/BiFunction;)I"), (2, u "(IIILjava/util/function/BiFunction;)I"), (0, .methodref 1054 1066), (0, .nameAndType 1067 1064), (0, u "checkFromIndexSize"), (33, u "serialPersistentFields"), (0, u "[Ljava/io/ObjectStreamField;"), (0, .class_ 1104), (0, u "java/lang/String$CaseInsensitiveComparator"), (1, .class_ 1107), (0, u "java/io/Serializable"), (0, .class_ 1109), (0, u "java/lang/Comparable"), (0, .class_ 1111), (0, u "java/lang/constant/Constable"), (0, .class_ 1113), (0, u "java/lang/constant/ConstantDesc"), (2, u "serialVersionUID"), (0, u "J"), (3, u "REPL"), (0, u "C"), (2, u "LATIN1"), (1, u "UTF16")] 323

def k8m0 : Method := { name := "<init>", desc := "()V", sig := { parameters := [], returnType := none }, accessFlags := 1, code := none }
def k8c1 : Code := { maxStack := 7, maxLocals := 4, code := jdk_42_method_4_code, exceptionTable := #[], attributes := #[] }
def k8m1 : Method := { name := "<init>", desc := "([CII)V", sig := { parameters := [(.array .char), .int, .int], returnType := none }, accessFlags := 1, code := some k8c1 }
def k8c2 : Code := { maxStack := 3, maxLocals := 3, code := jdk_42_method_5_code, exceptionTable := #[], attributes := #[] }
def k8m2 : Method := { name := "rangeCheck", desc := "([CII)Ljava/lang/Void;", sig := { parameters := [(.array .char), .int, .int], returnType := some (.object "java/lang/Void") }, accessFlags := 10, code := some k8c2 }
def k8c3 : Code := { maxStack := 2, maxLocals := 1, code := jdk_42_method_54_code, exceptionTable := #[], attributes := #[] }
def k8m3 : Method := { name := "length", desc := "()I", sig := { parameters := [], returnType := some .int }, accessFlags := 1, code := some k8c3 }
def k8c4 : Code := { maxStack := 2, maxLocals := 2, code := jdk_42_method_56_code, exceptionTable := #[], attributes := #[] }
def k8m4 : Method := { name := "charAt", desc := "(I)C", sig := { parameters := [.int], returnType := some .char }, accessFlags := 1, code := some k8c4 }
def k8c5 : Code := { maxStack := 4, maxLocals := 6, code := jdk_42_method_149_code, exceptionTable := #[], attributes := #[] }
def k8m5 : Method := { name := "<init>", desc := "([CIILjava/lang/Void;)V", sig := { parameters := [(.array .char), .int, .int, (.object "java/lang/Void")], returnType := none }, accessFlags := 2, code := some k8c5 }
def k8c6 : Code := { maxStack := 1, maxLocals := 1, code := jdk_42_method_152_code, exceptionTable := #[], attributes := #[] }
def k8m6 : Method := { name := "coder", desc := "()B", sig := { parameters := [], returnType := some .byte }, accessFlags := 0, code := some k8c6 }
def k8c7 : Code := { maxStack := 1, maxLocals := 1, code := jdk_42_method_154_code, exceptionTable := #[], attributes := #[] }
def k8m7 : Method := { name := "isLatin1", desc := "()Z", sig := { parameters := [], returnType := some .boolean }, accessFlags := 0, code := some k8c7 }
def k8c8 : Code := { maxStack := 3, maxLocals := 2, code := jdk_42_method_155_code, exceptionTable := #[], attributes := #[] }
def k8m8 : Method := { name := "checkIndex", desc := "(II)V", sig := { parameters := [.int, .int], returnType := none }, accessFlags := 8, code := some k8c8 }
def k8c9 : Code := { maxStack := 4, maxLocals := 3, code := jdk_42_method_157_code, exceptionTable := #[], attributes := #[] }
def k8m9 : Method := { name := "checkBoundsOffCount", desc := "(III)I", sig := { parameters := [.int, .int, .int], returnType := some .int }, accessFlags := 8, code := some k8c9 }
/-- java/lang/String -/
def k8 : Class := { plain "java/lang/String" (some 0) with
  accessFlags := 49
  interfaces := #[3, 4, 5, 6, 7]
  cf := some (fileOf pool8 10 #[.nestMembers #[1103]] #[{ accessFlags := 1, nameIndex := 5, descriptorIndex := 6, attributes := #[] }, { accessFlags := 1, nameIndex := 5, descriptorIndex := 972, attributes := #[] }, { accessFlags := 10, nameIndex := 32, descriptorIndex := 33, attributes := #[] }, { accessFlags := 1, nameIndex := 507, descriptorIndex := 334, attributes := #[] }, { accessFlags := 1, nameIndex := 497, descriptorIndex := 427, attributes := #[] }, { accessFlags := 2, nameIndex := 5, descriptorIndex := 29, attributes := #[] }, { accessFlags := 0, nameIndex := 17, descriptorIndex := 337, attributes := #[] }, { accessFlags := 0, nameIndex := 494, descriptorIndex := 142, attributes := #[] }, { accessFlags := 8, nameIndex := 501, descriptorIndex := 391, attributes := #[] }, { accessFlags := 8, nameIndex := 36, descriptorIndex := 37, attributes := #[] }] 49 2 #[1106, 1108, 575, 1110, 1112] #[{ accessFlags := 18, nameIndex := 13, descriptorIndex := 14, attributes := #[] }, { accessFlags := 18, nameIndex := 17, descriptorIndex := 18, attributes := #[] }, { accessFlags := 2, nameIndex := 21, descriptorIndex := 22, attributes := #[] }, { accessFlags := 2, nameIndex := 25, descriptorIndex := 26, attributes := #[] }, { accessFlags := 26, nameIndex := 1116, descriptorIndex := 1117, attributes := #[] }, { accessFlags := 24, nameIndex := 40, descriptorIndex := 26, attributes := #[] }, { accessFlags := 26, nameIndex := 1101, descriptorIndex := 1102, attributes := #[] }, { accessFlags := 26, nameIndex := 1121, descriptorIndex := 1122, attributes := #[] }, { accessFlags := 25, nameIndex := 599, descriptorIndex := 600, attributes := #[] }, { accessFlags := 24, nameIndex := 1125, descriptorIndex := 18, attributes := #[] }, { accessFlags := 24, nameIndex := 1127, descriptorIndex := 18, attributes := #[] }])
  fields := #[{ name := "value", type := (.array .byte), accessFlags := 18, slot := 0, constantValue := 0 }, { name := "coder", type := .byte, accessFlags := 18, slot := 1, constantValue := 0 }, { name := "hash", type := .int, accessFlags := 2, slot := 2, constantValue := 0 }, { name := "hashIsZero", type := .boolean, accessFlags := 2, slot := 3, constantValue := 0 }, { name := "serialVersionUID", type := .long, accessFlags := 26, slot := 0, constantValue := 0 }, { name := "COMPACT_STRINGS", type := .boolean, accessFlags := 24, slot := 1, constantValue := 0 }, { name := "serialPersistentFields", type := (.array (.object "java/io/ObjectStreamField")), accessFlags := 26, slot := 2, constantValue := 0 }, { name := "REPL", type := .char, accessFlags := 26, slot := 3, constantValue := 0 }, { name := "CASE_INSENSITIVE_ORDER", type := (.object "java/util/Comparator"), accessFlags := 25, slot := 4, constantValue := 0 }, { name := "LATIN1", type := .byte, accessFlags := 24, slot := 5, constantValue := 0 }, { name := "UTF16", type := .byte, accessFlags := 24, slot := 6, constantValue := 0 }]
  methods := #[k8m0, k8m1, k8m2, k8m3, k8m4, k8m5, k8m6, k8m7, k8m8, k8m9]
  instanceTypes := #[(.array .byte), .byte, .int, .boolean]
  staticTypes := #[.long, .boolean, (.array (.object "java/io/ObjectStreamField")), .char, (.object "java/util/Comparator"), .byte, .byte]
  resolved := Array.replicate 1451 none
  statics := some 0 }

def pool9 : Array CpInfo := pool [(2, .class_ 4), (1, u "java/lang/Object"), (0, u "<init>"), (0, u "()V"), (35, .class_ 44), (1, u "java/util/Objects"), (60, .methodref 106 107), (0, .class_ 108), (0, .nameAndType 109 110), (0, u "jdk/internal/util/Preconditions"), (0, u "checkIndex"), (0, u "(IILjava/util/function/BiFunction;)I"), (60, u "(II)I")] 12

def k9m0 : Method := { name := "<init>", desc := "()V", sig := { parameters := [], returnType := none }, accessFlags := 2, code := none }
def k9c1 : Code := { maxStack := 3, maxLocals := 2, code := jdk_31_method_17_code, exceptionTable := #[], attributes := #[] }
def k9m1 : Method := { name := "checkIndex", desc := "(II)I", sig := { parameters := [.int, .int], returnType := some .int }, accessFlags := 9, code := some k9c1 }
/-- java/util/Objects -/
def k9 : Class := { plain "java/util/Objects" (some 0) with
  accessFlags := 49
  interfaces := #[]
  cf := some (fileOf pool9 42 #[] #[{ accessFlags := 2, nameIndex := 5, descriptorIndex := 6, attributes := #[] }, { accessFlags := 9, nameIndex := 109, descriptorIndex := 171, attributes := #[] }] 49 2 #[] #[])
  fields := #[]
  methods := #[k9m0, k9m1]
  instanceTypes := #[]
  staticTypes := #[]
  resolved := Array.replicate 184 none
  statics := none }

def pool10 : Array CpInfo := pool [(2, .class_ 4), (1, u "java/lang/Object"), (0, u "<init>"), (0, u "()V"), (17, .class_ 26), (1, u "jdk/internal/util/Preconditions"), (6, u "checkIndex"), (15, u "checkFromIndexSize"), (5, .class_ 56), (0, u "jdk/internal/util/Preconditions$4"), (57, .class_ 115), (0, u "jdk/internal/util/Preconditions$1"), (7, u "SIOOBE_FORMATTER"), (0, u "Ljava/util/function/BiFunction;"), (0, .class_ 126), (0, u "jdk/internal/util/Preconditions$2"), (3, u "AIOOBE_FORMATTER"), (0, .class_ 132), (0, u "jdk/internal/util/Preconditions$3"), (3, u "IOOBE_FORMATTER"), (41, u "(IILjava/util/function/BiFunction;)I"), (4, u "(IIILjava/util/function/BiFunction;)I")] 10

def k10m0 : Method := { name := "<init>", desc := "()V", sig := { parameters := [], returnType := none }, accessFlags := 1, code := none }
def k10c1 : Code := { maxStack := 3, maxLocals := 3, code := jdk_41_method_11_code, exceptionTable := #[], attributes := #[] }
def k10m1 : Method := { name := "checkIndex", desc := "(IILjava/util/function/BiFunction;)I", sig := { parameters := [.int, .int, (.object "java/util/function/BiFunction")], returnType := some .int }, accessFlags := 9, code := some k10c1 }
def k10c2 : Code := { maxStack := 4, maxLocals := 4, code := jdk_41_method_13_code, exceptionTable := #[], attributes := #[] }
def k10m2 : Method := { name := "checkFromIndexSize", desc := "(IIILjava/util/function/BiFunction;)I", sig := { parameters := [.int, .int, .int, (.object "java/util/function/BiFunction")], returnType := some .int }, accessFlags := 9, code := some k10c2 }
/-- jdk/internal/util/Preconditions -/
def k10 : Class := { plain "jdk/internal/util/Preconditions" (some 0) with
  accessFlags := 33
  interfaces := #[]
  cf := some (fileOf pool10 24 #[.nestMembers #[55, 131, 125, 114]] #[{ accessFlags := 1, nameIndex := 5, descriptorIndex := 6, attributes := #[] }, { accessFlags := 9, nameIndex := 33, descriptorIndex := 178, attributes := #[] }, { accessFlags := 9, nameIndex := 49, descriptorIndex := 183, attributes := #[] }] 33 2 #[] #[{ accessFlags := 25, nameIndex := 123, descriptorIndex := 124, attributes := #[] }, { accessFlags := 25, nameIndex := 130, descriptorIndex := 124, attributes := #[] }, { accessFlags := 25, nameIndex := 136, descriptorIndex := 124, attributes := #[] }])
  fields := #[{ name := "SIOOBE_FORMATTER", type := (.object "java/util/function/BiFunction"), accessFlags := 25, slot := 0, constantValue := 0 }, { name := "AIOOBE_FORMATTER", type := (.object "java/util/function/BiFunction"), accessFlags := 25, slot := 1, constantValue := 0 }, { name := "IOOBE_FORMATTER", type := (.object "java/util/function/BiFunction"), accessFlags := 25, slot := 2, constantValue := 0 }]
  methods := #[k10m0, k10m1, k10m2]
  instanceTypes := #[]
  staticTypes := #[(.object "java/util/function/BiFunction"), (.object "java/util/function/BiFunction"), (.object "java/util/function/BiFunction")]
  resolved := Array.replicate 194 none
  statics := some 1 }

def pool11 : Array CpInfo := pool [(6, .class_ 8), (1, u "java/lang/Object"), (0, u "<init>"), (0, u "()V"), (1, .class_ 14), (1, u "java/lang/StringUTF16"), (31, u "$assertionsDisabled"), (0, u "Z"), (13, u "HI_BYTE_SHIFT"), (0, u "I"), (2, u "LO_BYTE_SHIFT"), (49, .methodref 12 116), (0, .nameAndType 117 118), (0, u "compress"), (0, u "([CI[BII)I"), (3, u "([CII)[B"), (138, u "coderFromArrayLen"), (0, u "([BI)B"), (106, .class_ 371), (1, u "java/lang/StringUTF16$LinesSpliterator"), (58, u "MAX_LENGTH"), (196, .class_ 628), (0, u "java/lang/StringUTF16$CodePointsSpliterator"), (0, .class_ 630), (0, u "java/lang/StringUTF16$CharsSpliterator")] 4

def k11m0 : Method := { name := "<init>", desc := "()V", sig := { parameters := [], returnType := none }, accessFlags := 0, code := none }
def k11c1 : Code := { maxStack := 2, maxLocals := 2, code := jdk_52_method_15_code, exceptionTable := #[], attributes := #[] }
def k11m1 : Method := { name := "coderFromArrayLen", desc := "([BI)B", sig := { parameters := [(.array .byte), .int], returnType := some .byte }, accessFlags := 8, code := some k11c1 }
def k11c2 : Code := { maxStack := 5, maxLocals := 6, code := jdk_52_method_16_code, exceptionTable := #[], attributes := #[] }
def k11m2 : Method := { name := "compress", desc := "([CII)[B", sig := { parameters := [(.array .char), .int, .int], returnType := some (.array .byte) }, accessFlags := 9, code := some k11c2 }
def k11c3 : Code := { maxStack := 3, maxLocals := 7, code := jdk_52_method_21_code, exceptionTable := #[], attributes := #[] }
def k11m3 : Method := { name := "compress", desc := "([CI[BII)I", sig := { parameters := [(.array .char), .int, (.array .byte), .int, .int], returnType := some .int }, accessFlags := 9, code := some k11c3 }
/-- java/lang/StringUTF16 -/
def k11 : Class := { plain "java/lang/StringUTF16" (some 0) with
  accessFlags := 48
  interfaces := #[]
  cf := some (fileOf pool11 12 #[.nestMembers #[627, 629, 369]] #[{ accessFlags := 0, nameIndex := 9, descriptorIndex := 10, attributes := #[] }, { accessFlags := 8, nameIndex := 261, descriptorIndex := 262, attributes := #[] }, { accessFlags := 9, nameIndex := 117, descriptorIndex := 122, attributes := #[] }, { accessFlags := 9, nameIndex := 117, descriptorIndex := 118, attributes := #[] }] 48 6 #[] #[{ accessFlags := 26, nameIndex := 61, descriptorIndex := 62, attributes := #[] }, { accessFlags := 26, nameIndex := 65, descriptorIndex := 62, attributes := #[] }, { accessFlags := 24, nameIndex := 430, descriptorIndex := 62, attributes := #[] }, { accessFlags := 4120, nameIndex := 46, descriptorIndex := 47, attributes := #[] }])
  fields := #[{ name := "HI_BYTE_SHIFT", type := .int, accessFlags := 26, slot := 0, constantValue := 0 }, { name := "LO_BYTE_SHIFT", type := .int, accessFlags := 26, slot := 1, constantValue := 0 }, { name := "MAX_LENGTH", type := .int, accessFlags := 24, slot := 2, constantValue := 0 }, { name := "$assertionsDisabled", type := .boolean, accessFlags := 4120, slot := 3, constantValue := 0 }]
  methods := #[k11m0, k11m1, k11m2, k11m3]
  instanceTypes := #[]
  staticTypes := #[.int, .int, .int, .boolean]
  resolved := Array.replicate 635 none
  statics := none }

def pool12 : Array CpInfo := pool [(1, .class_ 2), (0, u "java/lang/String"), (1, .class_ 6), (1, u "java/lang/Object"), (0, u "<init>"), (0, u "()V"), (0, .methodref 1 10), (0, .nameAndType 11 12), (0, u "checkIndex"), (0, u "(II)V"), (1, .class_ 16), (1, u "java/lang/StringLatin1"), (36, u "([BI)C"), (67, u "$assertionsDisabled"), (0, u "Z"), (98, .class_ 223), (1, u "java/lang/StringLatin1$LinesSpliterator"), (28, u "charAt"), (137, .class_ 391), (0, u "java/lang/StringLatin1$CharsSpliterator")] 3

def k12m0 : Method := { name := "<init>", desc := "()V", sig := { parameters := [], returnType := none }, accessFlags := 0, code := none }
def k12c1 : Code := { maxStack := 2, maxLocals := 2, code := jdk_43_method_2_code, exceptionTable := #[], attributes := #[] }
def k12m1 : Method := { name := "charAt", desc := "([BI)C", sig := { parameters := [(.array .byte), .int], returnType := some .char }, accessFlags := 9, code := some k12c1 }
/-- java/lang/StringLatin1 -/
def k12 : Class := { plain "java/lang/StringLatin1" (some 0) with
  accessFlags := 48
  interfaces := #[]
  cf := some (fileOf pool12 14 #[.nestMembers #[390, 221]] #[{ accessFlags := 0, nameIndex := 7, descriptorIndex := 8, attributes := #[] }, { accessFlags := 9, nameIndex := 252, descriptorIndex := 53, attributes := #[] }] 48 4 #[] #[{ accessFlags := 4120, nameIndex := 121, descriptorIndex := 122, attributes := #[] }])
  fields := #[{ name := "$assertionsDisabled", type := .boolean, accessFlags := 4120, slot := 0, constantValue := 0 }]
  methods := #[k12m0, k12m1]
  instanceTypes := #[]
  staticTypes := #[.boolean]
  resolved := Array.replicate 395 none
  statics := none }

def pool13 : Array CpInfo := pool [(9, u "<init>"), (6, .class_ 18), (1, u "java/lang/Object"), (0, u "()V"), (1, .class_ 23), (1, u "jdk/internal/util/ArraysSupport"), (0, u "LOG2_ARRAY_LONG_INDEX_SCALE"), (0, u "I"), (2, u "U"), (0, u "Ljdk/internal/misc/Unsafe;"), (8, u "BIG_ENDIAN"), (0, u "Z"), (8, u "LOG2_BYTE_BIT_SIZE"), (4, u "LOG2_ARRAY_INT_INDEX_SCALE"), (54, u "JLA"), (0, u "Ljdk/internal/access/JavaLangAccess;"), (11, u "LOG2_ARRAY_BOOLEAN_INDEX_SCALE"), (9, u "LOG2_ARRAY_BYTE_INDEX_SCALE"), (5, u "LOG2_ARRAY_CHAR_INDEX_SCALE"), (5, u "LOG2_ARRAY_SHORT_INDEX_SCALE"), (18, u "LOG2_ARRAY_FLOAT_INDEX_SCALE"), (24, u "LOG2_ARRAY_DOUBLE_INDEX_SCALE"), (89, u "T_BOOLEAN"), (2, u "T_CHAR"), (1, u "T_FLOAT"), (1, u "T_DOUBLE"), (1, u "T_BYTE"), (1, u "T_SHORT"), (1, u "T_INT"), (1, u "T_LONG"), (1, u "SOFT_MAX_ARRAY_LENGTH")] 83

def k13m0 : Method := { name := "<init>", desc := "()V", sig := { parameters := [], returnType := none }, accessFlags := 2, code := none }
/-- jdk/internal/util/ArraysSupport -/
def k13 : Class := { plain "jdk/internal/util/ArraysSupport" (some 0) with
  accessFlags := 33
  interfaces := #[]
  cf := some (fileOf pool13 21 #[] #[{ accessFlags := 2, nameIndex := 9, descriptorIndex := 19, attributes := #[] }] 33 16 #[] #[{ accessFlags := 24, nameIndex := 28, descriptorIndex := 29, attributes := #[] }, { accessFlags := 26, nameIndex := 38, descriptorIndex := 39, attributes := #[] }, { accessFlags := 25, nameIndex := 121, descriptorIndex := 25, attributes := #[] }, { accessFlags := 25, nameIndex := 131, descriptorIndex := 25, attributes := #[] }, { accessFlags := 25, nameIndex := 137, descriptorIndex := 25, attributes := #[] }, { accessFlags := 25, nameIndex := 143, descriptorIndex := 25, attributes := #[] }, { accessFlags := 25, nameIndex := 53, descriptorIndex := 25, attributes := #[] }, { accessFlags := 25, nameIndex := 24, descriptorIndex := 25, attributes := #[] }, { accessFlags := 25, nameIndex := 162, descriptorIndex := 25, attributes := #[] }, { accessFlags := 25, nameIndex := 187, descriptorIndex := 25, attributes := #[] }, { accessFlags := 26, nameIndex := 48, descriptorIndex := 25, attributes := #[] }, { accessFlags := 25, nameIndex := 277, descriptorIndex := 25, attributes := #[] }, { accessFlags := 25, nameIndex := 280, descriptorIndex := 25, attributes := #[] }, { accessFlags := 25, nameIndex := 282, descriptorIndex := 25, attributes := #[] }, { accessFlags := 25, nameIndex := 284, descriptorIndex := 25, attributes := #[] }, { accessFlags := 25, nameIndex := 286, descriptorIndex := 25, attributes := #[] }, { accessFlags := 25, nameIndex := 288, descriptorIndex := 25, attributes := #[] }, { accessFlags := 25, nameIndex := 290, descriptorIndex := 25, attributes := #[] }, { accessFlags := 25, nameIndex := 292, descriptorIndex := 25, attributes := #[] }, { accessFlags := 26, nameIndex := 108, descriptorIndex := 109, attributes := #[] }, { accessFlags := 25, nameIndex := 294, descriptorIndex := 25, attributes := #[] }])
  fields := #[{ name := "U", type := (.object "jdk/internal/misc/Unsafe"), accessFlags := 24, slot := 0, constantValue := 0 }, { name := "BIG_ENDIAN", type := .boolean, accessFlags := 26, slot := 1, constantValue := 0 }, { name := "LOG2_ARRAY_BOOLEAN_INDEX_SCALE", type := .int, accessFlags := 25, slot := 2, constantValue := 0 }, { name := "LOG2_ARRAY_BYTE_INDEX_SCALE", type := .int, accessFlags := 25, slot := 3, constantValue := 0 }, { name := "LOG2_ARRAY_CHAR_INDEX_SCALE", type := .int, accessFlags := 25, slot := 4, constantValue := 0 }, { name := "LOG2_ARRAY_SHORT_INDEX_SCALE", type := .int, accessFlags := 25, slot := 5, constantValue := 0 }, { name := "LOG2_ARRAY_INT_INDEX_SCALE", type := .int, accessFlags := 25, slot := 6, constantValue := 0 }, { name := "LOG2_ARRAY_LONG_INDEX_SCALE", type := .int, accessFlags := 25, slot := 7, constantValue := 0 }, { name := "LOG2_ARRAY_FLOAT_INDEX_SCALE", type := .int, accessFlags := 25, slot := 8, constantValue := 0 }, { name := "LOG2_ARRAY_DOUBLE_INDEX_SCALE", type := .int, accessFlags := 25, slot := 9, constantValue := 0 }, { name := "LOG2_BYTE_BIT_SIZE", type := .int, accessFlags := 26, slot := 10, constantValue := 0 }, { name := "T_BOOLEAN", type := .int, accessFlags := 25, slot := 11, constantValue := 0 }, { name := "T_CHAR", type := .int, accessFlags := 25, slot := 12, constantValue := 0 }, { name := "T_FLOAT", type := .int, accessFlags := 25, slot := 13, constantValue := 0 }, { name := "T_DOUBLE", type := .int, accessFlags := 25, slot := 14, constantValue := 0 }, { name := "T_BYTE", type := .int, accessFlags := 25, slot := 15, constantValue := 0 }, { name := "T_SHORT", type := .int, accessFlags := 25, slot := 16, constantValue := 0 }, { name := "T_INT", type := .int, accessFlags := 25, slot := 17, constantValue := 0 }, { name := "T_LONG", type := .int, accessFlags := 25, slot := 18, constantValue := 0 }, { name := "JLA", type := (.object "jdk/internal/access/JavaLangAccess"), accessFlags := 26, slot := 19, constantValue := 0 }, { name := "SOFT_MAX_ARRAY_LENGTH", type := .int, accessFlags := 25, slot := 20, constantValue := 0 }]
  methods := #[k13m0]
  instanceTypes := #[]
  staticTypes := #[(.object "jdk/internal/misc/Unsafe"), .boolean, .int, .int, .int, .int, .int, .int, .int, .int, .int, .int, .int, .int, .int, .int, .int, .int, .int, (.object "jdk/internal/access/JavaLangAccess"), .int]
  resolved := Array.replicate 378 none
  statics := none }

def pool14 : Array CpInfo := pool [(1, u "java/lang/Cloneable"), (0, .class_ 1), (0, u "java/lang/Object"), (0, .class_ 3)] 3

/-- java/lang/Cloneable -/
def k14 : Class := { plain "java/lang/Cloneable" (some 0) with
  accessFlags := 1537
  interfaces := #[]
  cf := some (fileOf pool14 2 #[] #[] 1537 4 #[] #[])
  fields := #[]
  methods := #[]
  instanceTypes := #[]
  staticTypes := #[]
  resolved := Array.replicate 8 none
  statics := none }

/-- the primitive byte -/
def k15 : Class := { plain "byte" none with kind := .primitive 'B', accessFlags := 0x411 }
/-- [B -/
def k16 : Class := { plain "[B" (some 0) with kind := .array 15 .byte, interfaces := #[14, 3], accessFlags := 1041 }

/-- the primitive char -/
def k17 : Class := { plain "char" none with kind := .primitive 'C', accessFlags := 0x411 }
/-- [C -/
def k18 : Class := { plain "[C" (some 0) with kind := .array 17 .char, interfaces := #[14, 3], accessFlags := 1041 }

/-- the primitive int -/
def k19 : Class := { plain "int" none with kind := .primitive 'I', accessFlags := 0x411 }
/-- [I -/
def k20 : Class := { plain "[I" (some 0) with kind := .array 19 .int, interfaces := #[14, 3], accessFlags := 1041 }

/-- [Ljava/lang/String; -/
def k21 : Class := { plain "[Ljava/lang/String;" (some 0) with kind := .array 8 (.object "java/lang/String"), interfaces := #[14, 3], accessFlags := 1041 }

def heap : Heap := #[{ cls := 8, slots := #[.long 0, .int 1, .null, .int 0, .null, .int 0, .int 0], vm := .statics 8 },
  { cls := 10, slots := #[.null, .null, .null], vm := .statics 10 }]
def classes : Array Class := #[k0, k1, k2, k3, k4, k5, k6, k7, k8, k9, k10, k11, k12, k13, k14, k15, k16, k17, k18, k19, k20, k21]
def interned : List (Array UInt16 × Addr) := []
def slotsUsed : Nat := 10
def theMethod : MethodId := ⟨1, 1⟩
def args0 : Array Value := #[.int 3, .int 5, .int 77]
def aboutOver (below : List Frame) : State where
  vm := { classes := classes, interned := interned.toArray }
  heap := heap
  slotsUsed := slotsUsed
  threads := #[{ frames := .invoking theMethod args0 :: below }]
def below0 : List Frame := [.native { method := ⟨0, 0⟩, args := #[] }]
def about1 : State := aboutOver below0
def p0 : Program := .bare "" "" ""
def e0 : Env := launch0.env 0 0 0
theorem w_frames : about1.frames = Frame.invoking theMethod args0 :: below0 := rfl
set_option maxRecDepth 65536 in
theorem w_args : argsFit about1.vm theMethod args0 = true := by decide +kernel
set_option maxRecDepth 65536 in
theorem w_heap : heapFits about1 = true := by decide +kernel
set_option maxRecDepth 65536 in
theorem w_runnable : about1.curStatus? = some .runnable := by decide +kernel
set_option maxRecDepth 65536 in
theorem w_alone : about1.alone = true := by decide +kernel
set_option maxRecDepth 65536 in
theorem w_named : about1.methodNamed? x = some theMethod := by decide +kernel
set_option maxRecDepth 65536 in
theorem w_hears : about1.hears theMethod below0 = true := by decide +kernel
set_option maxRecDepth 65536 in
theorem w_ripe : about1.ripe theMethod args0 below0 = true := by decide +kernel
theorem w_running : about1.status = .running := rfl
set_option maxRecDepth 65536 in
theorem w_room : about1.hasRoom e0.platform room_1 = true :=
  launch0.hasRoom_least _ room_1 (by decide +kernel) (by decide +kernel) (by decide +kernel) (by decide +kernel) (by decide +kernel) (by decide +kernel)
theorem allAtoms_all (ts : List Jvm.Cond) (a : Array Jvm.Value) (st : Jvm.State) : (allAtoms ts).before a st = ts.all (fun c => c.before a st) := by
  induction ts with
  | nil => rfl
  | cons c t ih =>
    show (Jvm.Cond.and c (allAtoms t)).before a st = _
    rw [Jvm.Cond.before_and, ih, List.all_cons]
def words1 : List Jvm.Cond := Jvm.Cond.code x code maxLocals ret :: tables_1
/-- a 'code' word, met by the world's own term for the bytes: nothing is compared byte by byte -/
theorem code_word {y : MethodName} {bytes : ByteArray} {mx : Nat} {rt : Option FieldType} {a : Array Value} {s : State} {m : MethodId} {meth : Method} {c : Code} (h1 : s.methodNamed? y = some m) (h2 : s.vm.method? m = some meth) (h3 : meth.code = some c) (h4 : c.code = bytes)
    (h5 : (c.maxLocals == mx && c.exceptionTable.isEmpty && decide (c.maxStack ≤ mostOperands) && decide (meth.sig.returnType = rt) && !meth.locks && decide (parseMethodDescriptor y.desc = some meth.sig)) = true) : (Jvm.Cond.code y bytes mx rt).before a s = true := by
  simp only [Bool.and_eq_true, beq_iff_eq, Bool.not_eq_true', decide_eq_true_eq] at h5
  obtain ⟨⟨⟨⟨⟨g1, g2⟩, g3⟩, g4⟩, g5⟩, g6⟩ := h5
  simp [Cond.before, Cond.holds, Cond.value, h1, h2, h3, h4, g1, g2, g3, g4, g5, g6]
def isCode : Jvm.Cond → Bool
  | .code _ _ _ _ => true
  | _ => false
theorem all_split {L : List Jvm.Cond} {P : Jvm.Cond → Bool} (h1 : L.all (fun c => isCode c || P c) = true) (h2 : ∀ c ∈ L.filter isCode, P c = true) : L.all P = true := by
  refine List.all_eq_true.mpr fun c hc => ?_
  have h := List.all_eq_true.mp h1 c hc
  rcases Bool.eq_false_or_eq_true (isCode c) with hi | hi
  · exact h2 c (List.mem_filter.mpr ⟨hc, hi⟩)
  · simpa [hi] using h
set_option maxRecDepth 65536 in
theorem w_c0 : (Jvm.Cond.code x code maxLocals ret).before args0 about1 = true := code_word (m := ⟨1, 1⟩) (meth := k1m1) (c := k1c1) (by decide +kernel) rfl rfl rfl (by decide +kernel)
set_option maxRecDepth 65536 in
theorem w_c1 : (Jvm.Cond.code ({ cls := "com/example/strict_tariff/stricttariff/io/CsvRow", name := "<init>", desc := "()V" } : Jvm.MethodName) prog_57_method_1_code (1 : Nat) (Option.none : Option Jvm.ClassFile.FieldType)).before args0 about1 = true := code_word (m := ⟨2, 0⟩) (meth := k2m0) (c := k2c0) (by decide +kernel) rfl rfl rfl (by decide +kernel)
set_option maxRecDepth 65536 in
theorem w_c2 : (Jvm.Cond.code ({ cls := "java/lang/Object", name := "<init>", desc := "()V" } : Jvm.MethodName) object_method_1_code (1 : Nat) (Option.none : Option Jvm.ClassFile.FieldType)).before args0 about1 = true := code_word (m := ⟨0, 0⟩) (meth := k0m0) (c := k0c0) (by decide +kernel) rfl rfl rfl (by decide +kernel)
set_option maxRecDepth 65536 in
theorem w_c3 : (Jvm.Cond.code ({ cls := "com/example/strict_tariff/stricttariff/io/CsvRow", name := "add", desc := "(II)V" } : Jvm.MethodName) prog_57_method_8_code (3 : Nat) (Option.none : Option Jvm.ClassFile.FieldType)).before args0 about1 = true := code_word (m := ⟨2, 2⟩) (meth := k2m2) (c := k2c2) (by decide +kernel) rfl rfl rfl (by decide +kernel)
set_option maxRecDepth 65536 in
theorem w_c4 : (Jvm.Cond.code ({ cls := "com/example/strict_tariff/stricttariff/io/CsvRow", name := "moveBack", desc := "(I)V" } : Jvm.MethodName) prog_57_method_9_code (3 : Nat) (Option.none : Option Jvm.ClassFile.FieldType)).before args0 about1 = true := code_word (m := ⟨2, 3⟩) (meth := k2m3) (c := k2c3) (by decide +kernel) rfl rfl rfl (by decide +kernel)
set_option maxRecDepth 65536 in
theorem w_c5 : (Jvm.Cond.code ({ cls := "com/example/strict_tariff/stricttariff/io/CsvRow", name := "setText", desc := "([C)V" } : Jvm.MethodName) prog_57_method_10_code (2 : Nat) (Option.none : Option Jvm.ClassFile.FieldType)).before args0 about1 = true := code_word (m := ⟨2, 4⟩) (meth := k2m4) (c := k2c4) (by decide +kernel) rfl rfl rfl (by decide +kernel)
set_option maxRecDepth 65536 in
theorem w_c6 : (Jvm.Cond.code ({ cls := "com/example/strict_tariff/stricttariff/io/CsvRow", name := "get", desc := "(I)Ljava/lang/String;" } : Jvm.MethodName) prog_57_method_3_code (4 : Nat) (Option.some (Jvm.ClassFile.FieldType.object "java/lang/String"))).before args0 about1 = true := code_word (m := ⟨2, 1⟩) (meth := k2m1) (c := k2c1) (by decide +kernel) rfl rfl rfl (by decide +kernel)
set_option maxRecDepth 65536 in
theorem w_c7 : (Jvm.Cond.code ({ cls := "java/util/Objects", name := "checkIndex", desc := "(II)I" } : Jvm.MethodName) jdk_31_method_17_code (2 : Nat) (Option.some Jvm.ClassFile.FieldType.int)).before args0 about1 = true := code_word (m := ⟨9, 1⟩) (meth := k9m1) (c := k9c1) (by decide +kernel) rfl rfl rfl (by decide +kernel)
set_option maxRecDepth 65536 in
theorem w_c8 : (Jvm.Cond.code ({ cls := "jdk/internal/util/Preconditions", name := "checkIndex", desc := "(IILjava/util/function/BiFunction;)I" } : Jvm.MethodName) jdk_41_method_11_code (3 : Nat) (Option.some Jvm.ClassFile.FieldType.int)).before args0 about1 = true := code_word (m := ⟨10, 1⟩) (meth := k10m1) (c := k10c1) (by decide +kernel) rfl rfl rfl (by decide +kernel)
set_option maxRecDepth 65536 in
theorem w_c9 : (Jvm.Cond.code ({ cls := "java/lang/String", name := "<init>", desc := "([CII)V" } : Jvm.MethodName) jdk_42_method_4_code (4 : Nat) (Option.none : Option Jvm.ClassFile.FieldType)).before args0 about1 = true := code_word (m := ⟨8, 1⟩) (meth := k8m1) (c := k8c1) (by decide +kernel) rfl rfl rfl (by decide +kernel)
set_option maxRecDepth 65536 in
theorem w_c10 : (Jvm.Cond.code ({ cls := "java/lang/String", name := "rangeCheck", desc := "([CII)Ljava/lang/Void;" } : Jvm.MethodName) jdk_42_method_5_code (3 : Nat) (Option.some (Jvm.ClassFile.FieldType.object "java/lang/Void"))).before args0 about1 = true := code_word (m := ⟨8, 2⟩) (meth := k8m2) (c := k8c2) (by decide +kernel) rfl rfl rfl (by decide +kernel)
set_option maxRecDepth 65536 in
theorem w_c11 : (Jvm.Cond.code ({ cls := "java/lang/String", name := "checkBoundsOffCount", desc := "(III)I" } : Jvm.MethodName) jdk_42_method_157_code (3 : Nat) (Option.some Jvm.ClassFile.FieldType.int)).before args0 about1 = true := code_word (m := ⟨8, 9⟩) (meth := k8m9) (c := k8c9) (by decide +kernel) rfl rfl rfl (by decide +kernel)
set_option maxRecDepth 65536 in
theorem w_c12 : (Jvm.Cond.code ({ cls := "jdk/internal/util/Preconditions", name := "checkFromIndexSize", desc := "(IIILjava/util/function/BiFunction;)I" } : Jvm.MethodName) jdk_41_method_13_code (4 : Nat) (Option.some Jvm.ClassFile.FieldType.int)).before args0 about1 = true := code_word (m := ⟨10, 2⟩) (meth := k10m2) (c := k10c2) (by decide +kernel) rfl rfl rfl (by decide +kernel)
set_option maxRecDepth 65536 in
theorem w_c13 : (Jvm.Cond.code ({ cls := "java/lang/String", name := "<init>", desc := "([CIILjava/lang/Void;)V" } : Jvm.MethodName) jdk_42_method_149_code (6 : Nat) (Option.none : Option Jvm.ClassFile.FieldType)).before args0 about1 = true := code_word (m := ⟨8, 5⟩) (meth := k8m5) (c := k8c5) (by decide +kernel) rfl rfl rfl (by decide +kernel)
set_option maxRecDepth 65536 in
theorem w_c14 : (Jvm.Cond.code ({ cls := "java/lang/StringUTF16", name := "compress", desc := "([CII)[B" } : Jvm.MethodName) jdk_52_method_16_code (6 : Nat) (Option.some (Jvm.ClassFile.FieldType.array Jvm.ClassFile.FieldType.byte))).before args0 about1 = true := code_word (m := ⟨11, 2⟩) (meth := k11m2) (c := k11c2) (by decide +kernel) rfl rfl rfl (by decide +kernel)
set_option maxRecDepth 65536 in
theorem w_c15 : (Jvm.Cond.code ({ cls := "java/lang/StringUTF16", name := "compress", desc := "([CI[BII)I" } : Jvm.MethodName) jdk_52_method_21_code (7 : Nat) (Option.some Jvm.ClassFile.FieldType.int)).before args0 about1 = true := code_word (m := ⟨11, 3⟩) (meth := k11m3) (c := k11c3) (by decide +kernel) rfl rfl rfl (by decide +kernel)
set_option maxRecDepth 65536 in
theorem w_c16 : (Jvm.Cond.code ({ cls := "java/lang/StringUTF16", name := "coderFromArrayLen", desc := "([BI)B" } : Jvm.MethodName) jdk_52_method_15_code (2 : Nat) (Option.some Jvm.ClassFile.FieldType.byte)).before args0 about1 = true := code_word (m := ⟨11, 1⟩) (meth := k11m1) (c := k11c1) (by decide +kernel) rfl rfl rfl (by decide +kernel)
set_option maxRecDepth 65536 in
theorem w_c17 : (Jvm.Cond.code ({ cls := "com/example/strict_tariff/stricttariff/io/CsvRowMoveBackPinLaw", name := "field", desc := "(Ljava/lang/String;II)Z" } : Jvm.MethodName) method_3_code (3 : Nat) (Option.some Jvm.ClassFile.FieldType.boolean)).before args0 about1 = true := code_word (m := ⟨1, 2⟩) (meth := k1m2) (c := k1c2) (by decide +kernel) rfl rfl rfl (by decide +kernel)
set_option maxRecDepth 65536 in
theorem w_c18 : (Jvm.Cond.code ({ cls := "java/lang/String", name := "length", desc := "()I" } : Jvm.MethodName) jdk_42_method_54_code (1 : Nat) (Option.some Jvm.ClassFile.FieldType.int)).before args0 about1 = true := code_word (m := ⟨8, 3⟩) (meth := k8m3) (c := k8c3) (by decide +kernel) rfl rfl rfl (by decide +kernel)
set_option maxRecDepth 65536 in
theorem w_c19 : (Jvm.Cond.code ({ cls := "java/lang/String", name := "coder", desc := "()B" } : Jvm.MethodName) jdk_42_method_152_code (1 : Nat) (Option.some Jvm.ClassFile.FieldType.byte)).before args0 about1 = true := code_word (m := ⟨8, 6⟩) (meth := k8m6) (c := k8c6) (by decide +kernel) rfl rfl rfl (by decide +kernel)
set_option maxRecDepth 65536 in
theorem w_c20 : (Jvm.Cond.code ({ cls := "java/lang/String", name := "charAt", desc := "(I)C" } : Jvm.MethodName) jdk_42_method_56_code (2 : Nat) (Option.some Jvm.ClassFile.FieldType.char)).before args0 about1 = true := code_word (m := ⟨8, 4⟩) (meth := k8m4) (c := k8c4) (by decide +kernel) rfl rfl rfl (by decide +kernel)
set_option maxRecDepth 65536 in
theorem w_c21 : (Jvm.Cond.code ({ cls := "java/lang/String", name := "isLatin1", desc := "()Z" } : Jvm.MethodName) jdk_42_method_154_code (1 : Nat) (Option.some Jvm.ClassFile.FieldType.boolean)).before args0 about1 = true := code_word (m := ⟨8, 7⟩) (meth := k8m7) (c := k8c7) (by decide +kernel) rfl rfl rfl (by decide +kernel)
set_option maxRecDepth 65536 in
theorem w_c22 : (Jvm.Cond.code ({ cls := "java/lang/StringLatin1", name := "charAt", desc := "([BI)C" } : Jvm.MethodName) jdk_43_method_2_code (2 : Nat) (Option.some Jvm.ClassFile.FieldType.char)).before args0 about1 = true := code_word (m := ⟨12, 1⟩) (meth := k12m1) (c := k12c1) (by decide +kernel) rfl rfl rfl (by decide +kernel)
set_option maxRecDepth 65536 in
theorem w_c23 : (Jvm.Cond.code ({ cls := "java/lang/String", name := "checkIndex", desc := "(II)V" } : Jvm.MethodName) jdk_42_method_155_code (2 : Nat) (Option.none : Option Jvm.ClassFile.FieldType)).before args0 about1 = true := code_word (m := ⟨8, 8⟩) (meth := k8m8) (c := k8c8) (by decide +kernel) rfl rfl rfl (by decide +kernel)
def codes1 : List Jvm.Cond := [Jvm.Cond.code x code maxLocals ret, Jvm.Cond.code ({ cls := "com/example/strict_tariff/stricttariff/io/CsvRow", name := "<init>", desc := "()V" } : Jvm.MethodName) prog_57_method_1_code (1 : Nat) (Option.none : Option Jvm.ClassFile.FieldType), Jvm.Cond.code ({ cls := "java/lang/Object", name := "<init>", desc := "()V" } : Jvm.MethodName) object_method_1_code (1 : Nat) (Option.none : Option Jvm.ClassFile.FieldType), Jvm.Cond.code ({ cls := "com/example/strict_tariff/stricttariff/io/CsvRow", name := "add", desc := "(II)V" } : Jvm.MethodName) prog_57_method_8_code (3 : Nat) (Option.none : Option Jvm.ClassFile.FieldType), Jvm.Cond.code ({ cls := "com/example/strict_tariff/stricttariff/io/CsvRow", name := "moveBack", desc := "(I)V" } : Jvm.MethodName) prog_57_method_9_code (3 : Nat) (Option.none : Option Jvm.ClassFile.FieldType), Jvm.Cond.code ({ cls := "com/example/strict_tariff/stricttariff/io/CsvRow", name := "setText", desc := "([C)V" } : Jvm.MethodName) prog_57_method_10_code (2 : Nat) (Option.none : Option Jvm.ClassFile.FieldType), Jvm.Cond.code ({ cls := "com/example/strict_tariff/stricttariff/io/CsvRow", name := "get", desc := "(I)Ljava/lang/String;" } : Jvm.MethodName) prog_57_method_3_code (4 : Nat) (Option.some (Jvm.ClassFile.FieldType.object "java/lang/String")), Jvm.Cond.code ({ cls := "java/util/Objects", name := "checkIndex", desc := "(II)I" } : Jvm.MethodName) jdk_31_method_17_code (2 : Nat) (Option.some Jvm.ClassFile.FieldType.int), Jvm.Cond.code ({ cls := "jdk/internal/util/Preconditions", name := "checkIndex", desc := "(IILjava/util/function/BiFunction;)I" } : Jvm.MethodName) jdk_41_method_11_code (3 : Nat) (Option.some Jvm.ClassFile.FieldType.int), Jvm.Cond.code ({ cls := "java/lang/String", name := "<init>", desc := "([CII)V" } : Jvm.MethodName) jdk_42_method_4_code (4 : Nat) (Option.none : Option Jvm.ClassFile.FieldType), Jvm.Cond.code ({ cls := "java/lang/String", name := "rangeCheck", desc := "([CII)Ljava/lang/Void;" } : Jvm.MethodName) jdk_42_method_5_code (3 : Nat) (Option.some (Jvm.ClassFile.FieldType.object "java/lang/Void")), Jvm.Cond.code ({ cls := "java/lang/String", name := "checkBoundsOffCount", desc := "(III)I" } : Jvm.MethodName) jdk_42_method_157_code (3 : Nat) (Option.some Jvm.ClassFile.FieldType.int), Jvm.Cond.code ({ cls := "jdk/internal/util/Preconditions", name := "checkFromIndexSize", desc := "(IIILjava/util/function/BiFunction;)I" } : Jvm.MethodName) jdk_41_method_13_code (4 : Nat) (Option.some Jvm.ClassFile.FieldType.int), Jvm.Cond.code ({ cls := "java/lang/String", name := "<init>", desc := "([CIILjava/lang/Void;)V" } : Jvm.MethodName) jdk_42_method_149_code (6 : Nat) (Option.none : Option Jvm.ClassFile.FieldType), Jvm.Cond.code ({ cls := "java/lang/StringUTF16", name := "compress", desc := "([CII)[B" } : Jvm.MethodName) jdk_52_method_16_code (6 : Nat) (Option.some (Jvm.ClassFile.FieldType.array Jvm.ClassFile.FieldType.byte)), Jvm.Cond.code ({ cls := "java/lang/StringUTF16", name := "compress", desc := "([CI[BII)I" } : Jvm.MethodName) jdk_52_method_21_code (7 : Nat) (Option.some Jvm.ClassFile.FieldType.int), Jvm.Cond.code ({ cls := "java/lang/StringUTF16", name := "coderFromArrayLen", desc := "([BI)B" } : Jvm.MethodName) jdk_52_method_15_code (2 : Nat) (Option.some Jvm.ClassFile.FieldType.byte), Jvm.Cond.code ({ cls := "com/example/strict_tariff/stricttariff/io/CsvRowMoveBackPinLaw", name := "field", desc := "(Ljava/lang/String;II)Z" } : Jvm.MethodName) method_3_code (3 : Nat) (Option.some Jvm.ClassFile.FieldType.boolean), Jvm.Cond.code ({ cls := "java/lang/String", name := "length", desc := "()I" } : Jvm.MethodName) jdk_42_method_54_code (1 : Nat) (Option.some Jvm.ClassFile.FieldType.int), Jvm.Cond.code ({ cls := "java/lang/String", name := "coder", desc := "()B" } : Jvm.MethodName) jdk_42_method_152_code (1 : Nat) (Option.some Jvm.ClassFile.FieldType.byte), Jvm.Cond.code ({ cls := "java/lang/String", name := "charAt", desc := "(I)C" } : Jvm.MethodName) jdk_42_method_56_code (2 : Nat) (Option.some Jvm.ClassFile.FieldType.char), Jvm.Cond.code ({ cls := "java/lang/String", name := "isLatin1", desc := "()Z" } : Jvm.MethodName) jdk_42_method_154_code (1 : Nat) (Option.some Jvm.ClassFile.FieldType.boolean), Jvm.Cond.code ({ cls := "java/lang/StringLatin1", name := "charAt", desc := "([BI)C" } : Jvm.MethodName) jdk_43_method_2_code (2 : Nat) (Option.some Jvm.ClassFile.FieldType.char), Jvm.Cond.code ({ cls := "java/lang/String", name := "checkIndex", desc := "(II)V" } : Jvm.MethodName) jdk_42_method_155_code (2 : Nat) (Option.none : Option Jvm.ClassFile.FieldType)]
set_option maxRecDepth 65536 in
theorem codes_eq : words1.filter isCode = codes1 := rfl
theorem w_codes : ∀ c ∈ words1.filter isCode, c.before args0 about1 = true := by
  rw [codes_eq]
  intro c hc
  simp only [codes1, List.mem_cons, List.not_mem_nil, or_false] at hc
  rcases hc with rfl | rfl | rfl | rfl | rfl | rfl | rfl | rfl | rfl | rfl | rfl | rfl | rfl | rfl | rfl | rfl | rfl | rfl | rfl | rfl | rfl | rfl | rfl | rfl
  · exact w_c0
  · exact w_c1
  · exact w_c2
  · exact w_c3
  · exact w_c4
  · exact w_c5
  · exact w_c6
  · exact w_c7
  · exact w_c8
  · exact w_c9
  · exact w_c10
  · exact w_c11
  · exact w_c12
  · exact w_c13
  · exact w_c14
  · exact w_c15
  · exact w_c16
  · exact w_c17
  · exact w_c18
  · exact w_c19
  · exact w_c20
  · exact w_c21
  · exact w_c22
  · exact w_c23
set_option maxRecDepth 65536 in
theorem w_t1 : (words1.take 24).all (fun c => isCode c || c.before args0 about1) = true := by decide +kernel
set_option maxRecDepth 65536 in
theorem w_t2 : ((words1.drop 24).take 24).all (fun c => isCode c || c.before args0 about1) = true := by decide +kernel
set_option maxRecDepth 65536 in
theorem w_t3 : (((words1.drop 24).drop 24).take 24).all (fun c => isCode c || c.before args0 about1) = true := by decide +kernel
set_option maxRecDepth 65536 in
theorem w_t4 : ((((words1.drop 24).drop 24).drop 24).take 24).all (fun c => isCode c || c.before args0 about1) = true := by decide +kernel
set_option maxRecDepth 65536 in
theorem w_t5 : ((((words1.drop 24).drop 24).drop 24).drop 24).all (fun c => isCode c || c.before args0 about1) = true := by decide +kernel
theorem w_tables : (allAtoms (Jvm.Cond.code x code maxLocals ret :: tables_1)).before args0 about1 = true := by
  rw [allAtoms_all]
  show words1.all (fun c => c.before args0 about1) = true
  refine all_split ?_ w_codes
  rw [← List.take_append_drop 24 words1, List.all_append, w_t1, ← List.take_append_drop 24 (words1.drop 24), List.all_append, w_t2, ← List.take_append_drop 24 ((words1.drop 24).drop 24), List.all_append, w_t3, ← List.take_append_drop 24 (((words1.drop 24).drop 24).drop 24), List.all_append, w_t4, w_t5]
  rfl
set_option maxRecDepth 65536 in
theorem w_rest : rest_1_c.before args0 about1 = true := by decide +kernel
set_option maxRecDepth 65536 in
theorem w_case : (Jvm.Cond.and given_1 narrow_1).before args0 about1 = true := by decide +kernel
theorem w_applies : (headSpec (Jvm.Cond.code x code maxLocals ret :: tables_1) room_1).applies x e0.platform about1 = true :=
  (Spec.applies_iff w_frames).mpr ⟨w_running, w_runnable, w_alone, w_named, w_hears, w_ripe, w_room, w_tables⟩
theorem atStart : AtStart classFile x code maxLocals ret World_1 tables_1 room_1 Calls_1 rest_1 Pre_1 launch0 p0 e0 about1 theMethod args0 below0 :=
  ⟨lists_1, trivial, launch0.admits_env _ _ _, launch0.least_env, fairChoices_fair.cas, fairChoices_fair.clock, w_frames, w_args, w_heap, w_applies, trivial, w_rest, w_case⟩
end start1
theorem witness_1 : WitnessClaimed_1 := ⟨start1.p0, start1.e0, start1.about1, start1.theMethod, start1.args0, start1.below0, start1.atStart⟩
end Jvm.Pilot.@@N@@
