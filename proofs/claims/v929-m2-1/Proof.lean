import JvmDerived
import JvmDerived.Pilot.@@N@@Statement
import JvmDerived.Pilot.@@N@@Code
set_option linter.unusedVariables false
set_option linter.unusedSimpArgs false
namespace Jvm.Pilot.@@N@@
open Jvm Jvm.ClassFile Sem Op Lib Jvm.Free Jvm.Stand Jvm.LawKit Jvm.RoadKit Bundle Jvm.Pilot.@@N@@.Jvm.D
section OwnGo
variable {p : Program} {l : Launch} {e : Env} {R : Room} {s : State} {m : MethodId} {args : Array Value} {below : List Frame} {meth : Method} {c : Code} {T : State} {locs : List Loc} {cells slots : Nat} {Q : Option Value → Heap → List Loc → Prop} {rc rs : Nat} {Ls : Array Slot} {st : List Value} {pc pc' pt : Nat} {Z : State} {a0 : Array Value} {h : Heap} {En : Outcome → State → Prop}
def Go (p : Program) (e : Env) (below : List Frame) (En : Outcome → State → Prop) (S : State) : Prop := ∃ s₂ o, Steps p.tables e below S s₂ ∧ s₂.status = .running ∧ Ended s₂ below o ∧ En o s₂
def EndN (s : State) (Q : Option Value → Heap → List Loc → Prop) (rc rs : Nat) (o : Outcome) (s₂ : State) : Prop := ∃ v L, o = .returned v ∧ Q v s₂.heap L ∧ FrameEnd s o s₂ L rc rs
def EndW (s : State) (Q : Option Value → Heap → List Loc → Prop) (rc rs : Nat) (o : Outcome) (s₂ : State) : Prop := ∃ v L, o = .returned v ∧ Q v s₂.heap L ∧ ReturnedEndW s o s₂ L rc rs
theorem own_via {S S' : State} (q : ∀ t, Steps p.tables e below S' t → Steps p.tables e below S t) (k : Go p e below En S') : Go p e below En S := by
  obtain ⟨t, o, h1, h2⟩ := k
  exact ⟨t, o, q _ h1, h2⟩
def Dec (b : ByteArray) (pc : Nat) (i : Instr) (n pc' : Nat) : Prop := decode b pc = .ok (i, n) ∧ pc + n = pc'
def DecB (b : ByteArray) (pc : Nat) (i : Instr) (o : Int) (pF pT : Nat) : Prop := decode b pc = .ok (i, 3) ∧ pc + 3 = pF ∧ 0 ≤ (pc : Int) + o ∧ ((pc : Int) + o).toNat = pT
theorem dc {b : ByteArray} {i : Instr} {n : Nat} (q : c.code = b) (k : Dec b pc i n pc') : Dec c.code pc i n pc' := q ▸ k
theorem db {b : ByteArray} {i : Instr} {o : Int} (q : c.code = b) (k : DecB b pc i o pc' pt) : DecB c.code pc i o pc' pt := q ▸ k
theorem go_iadd (X : Stand p l e R s m args below meth c T locs cells slots) (hx : p.tables.exec = Jvm.exec) {x y : Int32} (hd : Dec c.code pc (.iadd) 1 pc') (k : Go p e below En (T.setTop (mkF m pc' Ls (.int (x + y) :: st)))) : Go p e below En (T.setTop (mkF m pc Ls (.int y :: .int x :: st))) := by
  obtain ⟨hd, rfl⟩ := hd
  exact own_via (fun t => XS.iadd X.here hx rfl hd rfl) k
theorem go_isub (X : Stand p l e R s m args below meth c T locs cells slots) (hx : p.tables.exec = Jvm.exec) {x y : Int32} (hd : Dec c.code pc (.isub) 1 pc') (k : Go p e below En (T.setTop (mkF m pc' Ls (.int (x - y) :: st)))) : Go p e below En (T.setTop (mkF m pc Ls (.int y :: .int x :: st))) := by
  obtain ⟨hd, rfl⟩ := hd
  exact own_via (fun t => XS.isub X.here hx rfl hd rfl) k
theorem go_imul (X : Stand p l e R s m args below meth c T locs cells slots) (hx : p.tables.exec = Jvm.exec) {x y : Int32} (hd : Dec c.code pc (.imul) 1 pc') (k : Go p e below En (T.setTop (mkF m pc' Ls (.int (x * y) :: st)))) : Go p e below En (T.setTop (mkF m pc Ls (.int y :: .int x :: st))) := by
  obtain ⟨hd, rfl⟩ := hd
  exact own_via (fun t => XS.imul X.here hx rfl hd rfl) k
theorem go_iand (X : Stand p l e R s m args below meth c T locs cells slots) (hx : p.tables.exec = Jvm.exec) {x y : Int32} (hd : Dec c.code pc (.iand) 1 pc') (k : Go p e below En (T.setTop (mkF m pc' Ls (.int (x &&& y) :: st)))) : Go p e below En (T.setTop (mkF m pc Ls (.int y :: .int x :: st))) := by
  obtain ⟨hd, rfl⟩ := hd
  exact own_via (fun t => XS.iand X.here hx rfl hd rfl) k
theorem go_ior (X : Stand p l e R s m args below meth c T locs cells slots) (hx : p.tables.exec = Jvm.exec) {x y : Int32} (hd : Dec c.code pc (.ior) 1 pc') (k : Go p e below En (T.setTop (mkF m pc' Ls (.int (x ||| y) :: st)))) : Go p e below En (T.setTop (mkF m pc Ls (.int y :: .int x :: st))) := by
  obtain ⟨hd, rfl⟩ := hd
  exact own_via (fun t => XT.ior X.here hx rfl hd rfl) k
theorem go_ixor (X : Stand p l e R s m args below meth c T locs cells slots) (hx : p.tables.exec = Jvm.exec) {x y : Int32} (hd : Dec c.code pc (.ixor) 1 pc') (k : Go p e below En (T.setTop (mkF m pc' Ls (.int (x ^^^ y) :: st)))) : Go p e below En (T.setTop (mkF m pc Ls (.int y :: .int x :: st))) := by
  obtain ⟨hd, rfl⟩ := hd
  exact own_via (fun t => XT.ixor X.here hx rfl hd rfl) k
theorem go_ishl (X : Stand p l e R s m args below meth c T locs cells slots) (hx : p.tables.exec = Jvm.exec) {x y : Int32} (hd : Dec c.code pc (.ishl) 1 pc') (k : Go p e below En (T.setTop (mkF m pc' Ls (.int (x <<< (y &&& 31)) :: st)))) : Go p e below En (T.setTop (mkF m pc Ls (.int y :: .int x :: st))) := by
  obtain ⟨hd, rfl⟩ := hd
  exact own_via (fun t => XT.ishl X.here hx rfl hd rfl) k
theorem go_ishr (X : Stand p l e R s m args below meth c T locs cells slots) (hx : p.tables.exec = Jvm.exec) {x y : Int32} (hd : Dec c.code pc (.ishr) 1 pc') (k : Go p e below En (T.setTop (mkF m pc' Ls (.int (x >>> (y &&& 31)) :: st)))) : Go p e below En (T.setTop (mkF m pc Ls (.int y :: .int x :: st))) := by
  obtain ⟨hd, rfl⟩ := hd
  exact own_via (fun t => XT.ishr X.here hx rfl hd rfl) k
theorem go_iushr (X : Stand p l e R s m args below meth c T locs cells slots) (hx : p.tables.exec = Jvm.exec) {x y : Int32} (hd : Dec c.code pc (.iushr) 1 pc') (k : Go p e below En (T.setTop (mkF m pc' Ls (.int (XT.ushr x y) :: st)))) : Go p e below En (T.setTop (mkF m pc Ls (.int y :: .int x :: st))) := by
  obtain ⟨hd, rfl⟩ := hd
  exact own_via (fun t => XT.iushr X.here hx rfl hd rfl) k
theorem go_idiv (X : Stand p l e R s m args below meth c T locs cells slots) (hx : p.tables.exec = Jvm.exec) {x y : Int32} (hd : Dec c.code pc (.idiv) 1 pc') (hy : y ≠ 0) (k : Go p e below En (T.setTop (mkF m pc' Ls (.int (x / y) :: st)))) : Go p e below En (T.setTop (mkF m pc Ls (.int y :: .int x :: st))) := by
  obtain ⟨hd, rfl⟩ := hd
  exact own_via (fun t => XS.idiv X.here hx rfl hd rfl hy) k
theorem go_irem (X : Stand p l e R s m args below meth c T locs cells slots) (hx : p.tables.exec = Jvm.exec) {x y : Int32} (hd : Dec c.code pc (.irem) 1 pc') (hy : y ≠ 0) (k : Go p e below En (T.setTop (mkF m pc' Ls (.int (x % y) :: st)))) : Go p e below En (T.setTop (mkF m pc Ls (.int y :: .int x :: st))) := by
  obtain ⟨hd, rfl⟩ := hd
  exact own_via (fun t => iremM X hx rfl hd rfl hy) k
theorem go_ineg (X : Stand p l e R s m args below meth c T locs cells slots) (hx : p.tables.exec = Jvm.exec) {x : Int32} (hd : Dec c.code pc (.ineg) 1 pc') (k : Go p e below En (T.setTop (mkF m pc' Ls (.int (-x) :: st)))) : Go p e below En (T.setTop (mkF m pc Ls (.int x :: st))) := by
  obtain ⟨hd, rfl⟩ := hd
  exact own_via (fun t => XS.ineg X.here hx rfl hd rfl) k
theorem go_ladd (X : Stand p l e R s m args below meth c T locs cells slots) (hx : p.tables.exec = Jvm.exec) {x y : Int64} (hd : Dec c.code pc (.ladd) 1 pc') (k : Go p e below En (T.setTop (mkF m pc' Ls (.long (x + y) :: st)))) : Go p e below En (T.setTop (mkF m pc Ls (.long y :: .long x :: st))) := by
  obtain ⟨hd, rfl⟩ := hd
  exact own_via (fun t => XT.ladd X.here hx rfl hd rfl) k
theorem go_lsub (X : Stand p l e R s m args below meth c T locs cells slots) (hx : p.tables.exec = Jvm.exec) {x y : Int64} (hd : Dec c.code pc (.lsub) 1 pc') (k : Go p e below En (T.setTop (mkF m pc' Ls (.long (x - y) :: st)))) : Go p e below En (T.setTop (mkF m pc Ls (.long y :: .long x :: st))) := by
  obtain ⟨hd, rfl⟩ := hd
  exact own_via (fun t => XT.lsub X.here hx rfl hd rfl) k
theorem go_lmul (X : Stand p l e R s m args below meth c T locs cells slots) (hx : p.tables.exec = Jvm.exec) {x y : Int64} (hd : Dec c.code pc (.lmul) 1 pc') (k : Go p e below En (T.setTop (mkF m pc' Ls (.long (x * y) :: st)))) : Go p e below En (T.setTop (mkF m pc Ls (.long y :: .long x :: st))) := by
  obtain ⟨hd, rfl⟩ := hd
  exact own_via (fun t => XT.lmul X.here hx rfl hd rfl) k
theorem go_land (X : Stand p l e R s m args below meth c T locs cells slots) (hx : p.tables.exec = Jvm.exec) {x y : Int64} (hd : Dec c.code pc (.land) 1 pc') (k : Go p e below En (T.setTop (mkF m pc' Ls (.long (x &&& y) :: st)))) : Go p e below En (T.setTop (mkF m pc Ls (.long y :: .long x :: st))) := by
  obtain ⟨hd, rfl⟩ := hd
  exact own_via (fun t => XT.land X.here hx rfl hd rfl) k
theorem go_lor (X : Stand p l e R s m args below meth c T locs cells slots) (hx : p.tables.exec = Jvm.exec) {x y : Int64} (hd : Dec c.code pc (.lor) 1 pc') (k : Go p e below En (T.setTop (mkF m pc' Ls (.long (x ||| y) :: st)))) : Go p e below En (T.setTop (mkF m pc Ls (.long y :: .long x :: st))) := by
  obtain ⟨hd, rfl⟩ := hd
  exact own_via (fun t => XT.lor X.here hx rfl hd rfl) k
theorem go_lxor (X : Stand p l e R s m args below meth c T locs cells slots) (hx : p.tables.exec = Jvm.exec) {x y : Int64} (hd : Dec c.code pc (.lxor) 1 pc') (k : Go p e below En (T.setTop (mkF m pc' Ls (.long (x ^^^ y) :: st)))) : Go p e below En (T.setTop (mkF m pc Ls (.long y :: .long x :: st))) := by
  obtain ⟨hd, rfl⟩ := hd
  exact own_via (fun t => XT.lxor X.here hx rfl hd rfl) k
theorem go_lshl (X : Stand p l e R s m args below meth c T locs cells slots) (hx : p.tables.exec = Jvm.exec) {x : Int64} {y : Int32} (hd : Dec c.code pc (.lshl) 1 pc') (k : Go p e below En (T.setTop (mkF m pc' Ls (.long (x <<< (y.toInt64 &&& 63)) :: st)))) : Go p e below En (T.setTop (mkF m pc Ls (.int y :: .long x :: st))) := by
  obtain ⟨hd, rfl⟩ := hd
  exact own_via (fun t => XT.lshl X.here hx rfl hd rfl) k
theorem go_lshr (X : Stand p l e R s m args below meth c T locs cells slots) (hx : p.tables.exec = Jvm.exec) {x : Int64} {y : Int32} (hd : Dec c.code pc (.lshr) 1 pc') (k : Go p e below En (T.setTop (mkF m pc' Ls (.long (x >>> (y.toInt64 &&& 63)) :: st)))) : Go p e below En (T.setTop (mkF m pc Ls (.int y :: .long x :: st))) := by
  obtain ⟨hd, rfl⟩ := hd
  exact own_via (fun t => XT.lshr X.here hx rfl hd rfl) k
theorem go_lushr (X : Stand p l e R s m args below meth c T locs cells slots) (hx : p.tables.exec = Jvm.exec) {x : Int64} {y : Int32} (hd : Dec c.code pc (.lushr) 1 pc') (k : Go p e below En (T.setTop (mkF m pc' Ls (.long (XT.ushrL x y) :: st)))) : Go p e below En (T.setTop (mkF m pc Ls (.int y :: .long x :: st))) := by
  obtain ⟨hd, rfl⟩ := hd
  exact own_via (fun t => XT.lushr X.here hx rfl hd rfl) k
theorem go_ldiv (X : Stand p l e R s m args below meth c T locs cells slots) (hx : p.tables.exec = Jvm.exec) {x y : Int64} (hd : Dec c.code pc (.ldiv) 1 pc') (hy : y ≠ 0) (k : Go p e below En (T.setTop (mkF m pc' Ls (.long (x / y) :: st)))) : Go p e below En (T.setTop (mkF m pc Ls (.long y :: .long x :: st))) := by
  obtain ⟨hd, rfl⟩ := hd
  exact own_via (fun t => XT.ldiv X.here hx rfl hd rfl hy) k
theorem go_lrem (X : Stand p l e R s m args below meth c T locs cells slots) (hx : p.tables.exec = Jvm.exec) {x y : Int64} (hd : Dec c.code pc (.lrem) 1 pc') (hy : y ≠ 0) (k : Go p e below En (T.setTop (mkF m pc' Ls (.long (x - (x / y) * y) :: st)))) : Go p e below En (T.setTop (mkF m pc Ls (.long y :: .long x :: st))) := by
  obtain ⟨hd, rfl⟩ := hd
  exact own_via (fun t => XT.lrem X.here hx rfl hd rfl hy) k
theorem go_lneg (X : Stand p l e R s m args below meth c T locs cells slots) (hx : p.tables.exec = Jvm.exec) {x : Int64} (hd : Dec c.code pc (.lneg) 1 pc') (k : Go p e below En (T.setTop (mkF m pc' Ls (.long (-x) :: st)))) : Go p e below En (T.setTop (mkF m pc Ls (.long x :: st))) := by
  obtain ⟨hd, rfl⟩ := hd
  exact own_via (fun t => XT.lneg X.here hx rfl hd rfl) k
theorem go_lcmp (X : Stand p l e R s m args below meth c T locs cells slots) (hx : p.tables.exec = Jvm.exec) {x y : Int64} (hd : Dec c.code pc (.lcmp) 1 pc') (k : Go p e below En (T.setTop (mkF m pc' Ls (.int (XT.cmpL x y) :: st)))) : Go p e below En (T.setTop (mkF m pc Ls (.long y :: .long x :: st))) := by
  obtain ⟨hd, rfl⟩ := hd
  exact own_via (fun t => XT.lcmp X.here hx rfl hd rfl) k
theorem go_i2l (X : Stand p l e R s m args below meth c T locs cells slots) (hx : p.tables.exec = Jvm.exec) {x : Int32} (hd : Dec c.code pc (.i2l) 1 pc') (k : Go p e below En (T.setTop (mkF m pc' Ls (.long x.toInt64 :: st)))) : Go p e below En (T.setTop (mkF m pc Ls (.int x :: st))) := by
  obtain ⟨hd, rfl⟩ := hd
  exact own_via (fun t => XT.i2l X.here hx rfl hd rfl) k
theorem go_l2i (X : Stand p l e R s m args below meth c T locs cells slots) (hx : p.tables.exec = Jvm.exec) {x : Int64} (hd : Dec c.code pc (.l2i) 1 pc') (k : Go p e below En (T.setTop (mkF m pc' Ls (.int x.toInt32 :: st)))) : Go p e below En (T.setTop (mkF m pc Ls (.long x :: st))) := by
  obtain ⟨hd, rfl⟩ := hd
  exact own_via (fun t => XT.l2i X.here hx rfl hd rfl) k
theorem go_i2b (X : Stand p l e R s m args below meth c T locs cells slots) (hx : p.tables.exec = Jvm.exec) {x : Int32} (hd : Dec c.code pc (.i2b) 1 pc') (k : Go p e below En (T.setTop (mkF m pc' Ls (.int x.toInt8.toInt32 :: st)))) : Go p e below En (T.setTop (mkF m pc Ls (.int x :: st))) := by
  obtain ⟨hd, rfl⟩ := hd
  exact own_via (fun t => XT.i2b X.here hx rfl hd rfl) k
theorem go_i2c (X : Stand p l e R s m args below meth c T locs cells slots) (hx : p.tables.exec = Jvm.exec) {x : Int32} (hd : Dec c.code pc (.i2c) 1 pc') (k : Go p e below En (T.setTop (mkF m pc' Ls (.int x.toUInt32.toUInt16.toUInt32.toInt32 :: st)))) : Go p e below En (T.setTop (mkF m pc Ls (.int x :: st))) := by
  obtain ⟨hd, rfl⟩ := hd
  exact own_via (fun t => XT.i2c X.here hx rfl hd rfl) k
theorem go_i2s (X : Stand p l e R s m args below meth c T locs cells slots) (hx : p.tables.exec = Jvm.exec) {x : Int32} (hd : Dec c.code pc (.i2s) 1 pc') (k : Go p e below En (T.setTop (mkF m pc' Ls (.int x.toInt16.toInt32 :: st)))) : Go p e below En (T.setTop (mkF m pc Ls (.int x :: st))) := by
  obtain ⟨hd, rfl⟩ := hd
  exact own_via (fun t => XT.i2s X.here hx rfl hd rfl) k
theorem go_iloadn (X : Stand p l e R s m args below meth c T locs cells slots) (hx : p.tables.exec = Jvm.exec) {k : Fin 4} {v : Int32} (hd : Dec c.code pc (.iload_n k) 1 pc') (hl : Ls[k.val]? = some (.val (.int v))) (k : Go p e below En (T.setTop (mkF m pc' Ls (.int v :: st)))) : Go p e below En (T.setTop (mkF m pc Ls st)) := by
  obtain ⟨hd, rfl⟩ := hd
  exact own_via (fun t => XS.iloadN X.here hx rfl hd hl) k
theorem go_iload (X : Stand p l e R s m args below meth c T locs cells slots) (hx : p.tables.exec = Jvm.exec) {k : Nat} {v : Int32} (hd : Dec c.code pc (.iload k) 2 pc') (hl : Ls[k]? = some (.val (.int v))) (k : Go p e below En (T.setTop (mkF m pc' Ls (.int v :: st)))) : Go p e below En (T.setTop (mkF m pc Ls st)) := by
  obtain ⟨hd, rfl⟩ := hd
  exact own_via (fun t => XS.iload X.here hx rfl hd hl) k
theorem go_lloadn (X : Stand p l e R s m args below meth c T locs cells slots) (hx : p.tables.exec = Jvm.exec) {k : Fin 4} {v : Int64} (hd : Dec c.code pc (.lload_n k) 1 pc') (hl : Ls[k.val]? = some (.val (.long v))) (k : Go p e below En (T.setTop (mkF m pc' Ls (.long v :: st)))) : Go p e below En (T.setTop (mkF m pc Ls st)) := by
  obtain ⟨hd, rfl⟩ := hd
  exact own_via (fun t => XT.lloadN X.here hx rfl hd hl) k
theorem go_lload (X : Stand p l e R s m args below meth c T locs cells slots) (hx : p.tables.exec = Jvm.exec) {k : Nat} {v : Int64} (hd : Dec c.code pc (.lload k) 2 pc') (hl : Ls[k]? = some (.val (.long v))) (k : Go p e below En (T.setTop (mkF m pc' Ls (.long v :: st)))) : Go p e below En (T.setTop (mkF m pc Ls st)) := by
  obtain ⟨hd, rfl⟩ := hd
  exact own_via (fun t => XT.lload X.here hx rfl hd hl) k
theorem go_aloadn (X : Stand p l e R s m args below meth c T locs cells slots) (hx : p.tables.exec = Jvm.exec) {k : Fin 4} {v : Value} (hd : Dec c.code pc (.aload_n k) 1 pc') (hl : Ls[k.val]? = some (.val v)) (hv : v.isRef = true) (k : Go p e below En (T.setTop (mkF m pc' Ls (v :: st)))) : Go p e below En (T.setTop (mkF m pc Ls st)) := by
  obtain ⟨hd, rfl⟩ := hd
  exact own_via (fun t => XS.aloadN X.here hx rfl hd hl hv) k
theorem go_aload (X : Stand p l e R s m args below meth c T locs cells slots) (hx : p.tables.exec = Jvm.exec) {k : Nat} {v : Value} (hd : Dec c.code pc (.aload k) 2 pc') (hl : Ls[k]? = some (.val v)) (hv : v.isRef = true) (k : Go p e below En (T.setTop (mkF m pc' Ls (v :: st)))) : Go p e below En (T.setTop (mkF m pc Ls st)) := by
  obtain ⟨hd, rfl⟩ := hd
  exact own_via (fun t => XS.aload X.here hx rfl hd hl hv) k
theorem go_istoren (X : Stand p l e R s m args below meth c T locs cells slots) (hx : p.tables.exec = Jvm.exec) {k : Fin 4} {x : Int32} (Ls' : Array Slot) (hd : Dec c.code pc (.istore_n k) 1 pc') (hl : storeLocals Ls k.val (.int x) = some Ls') (k : Go p e below En (T.setTop (mkF m pc' Ls' st))) : Go p e below En (T.setTop (mkF m pc Ls (.int x :: st))) := by
  obtain ⟨hd, rfl⟩ := hd
  exact own_via (fun t => XS.istoreN X.here hx rfl hd rfl hl) k
theorem go_istore (X : Stand p l e R s m args below meth c T locs cells slots) (hx : p.tables.exec = Jvm.exec) {k : Nat} {x : Int32} (Ls' : Array Slot) (hd : Dec c.code pc (.istore k) 2 pc') (hl : storeLocals Ls k (.int x) = some Ls') (k : Go p e below En (T.setTop (mkF m pc' Ls' st))) : Go p e below En (T.setTop (mkF m pc Ls (.int x :: st))) := by
  obtain ⟨hd, rfl⟩ := hd
  exact own_via (fun t => XS.istore X.here hx rfl hd rfl hl) k
theorem go_lstoren (X : Stand p l e R s m args below meth c T locs cells slots) (hx : p.tables.exec = Jvm.exec) {k : Fin 4} {x : Int64} (Ls' : Array Slot) (hd : Dec c.code pc (.lstore_n k) 1 pc') (hl : storeLocals Ls k.val (.long x) = some Ls') (k : Go p e below En (T.setTop (mkF m pc' Ls' st))) : Go p e below En (T.setTop (mkF m pc Ls (.long x :: st))) := by
  obtain ⟨hd, rfl⟩ := hd
  exact own_via (fun t => XT.lstoreN X.here hx rfl hd rfl hl) k
theorem go_lstore (X : Stand p l e R s m args below meth c T locs cells slots) (hx : p.tables.exec = Jvm.exec) {k : Nat} {x : Int64} (Ls' : Array Slot) (hd : Dec c.code pc (.lstore k) 2 pc') (hl : storeLocals Ls k (.long x) = some Ls') (k : Go p e below En (T.setTop (mkF m pc' Ls' st))) : Go p e below En (T.setTop (mkF m pc Ls (.long x :: st))) := by
  obtain ⟨hd, rfl⟩ := hd
  exact own_via (fun t => XT.lstore X.here hx rfl hd rfl hl) k
theorem go_astoren (X : Stand p l e R s m args below meth c T locs cells slots) (hx : p.tables.exec = Jvm.exec) {k : Fin 4} {x : Value} (Ls' : Array Slot) (hd : Dec c.code pc (.astore_n k) 1 pc') (hv : x.isRef = true) (hl : storeLocals Ls k.val (x) = some Ls') (k : Go p e below En (T.setTop (mkF m pc' Ls' st))) : Go p e below En (T.setTop (mkF m pc Ls (x :: st))) := by
  obtain ⟨hd, rfl⟩ := hd
  exact own_via (fun t => XS.astoreN X.here hx rfl hd rfl hv hl) k
theorem go_astore (X : Stand p l e R s m args below meth c T locs cells slots) (hx : p.tables.exec = Jvm.exec) {k : Nat} {x : Value} (Ls' : Array Slot) (hd : Dec c.code pc (.astore k) 2 pc') (hv : x.isRef = true) (hl : storeLocals Ls k (x) = some Ls') (k : Go p e below En (T.setTop (mkF m pc' Ls' st))) : Go p e below En (T.setTop (mkF m pc Ls (x :: st))) := by
  obtain ⟨hd, rfl⟩ := hd
  exact own_via (fun t => XS.astore X.here hx rfl hd rfl hv hl) k
theorem go_iconst (X : Stand p l e R s m args below meth c T locs cells slots) (hx : p.tables.exec = Jvm.exec) {i : Int} (v : Int32) (hd : Dec c.code pc (.iconst i) 1 pc') (hv : Int32.ofInt i = v) (k : Go p e below En (T.setTop (mkF m pc' Ls (.int v :: st)))) : Go p e below En (T.setTop (mkF m pc Ls st)) := by
  obtain ⟨hd, rfl⟩ := hd
  exact own_via (fun t => (fun q => XS.iconst X.here hx rfl hd (by rw [hv]; exact q))) k
theorem go_bipush (X : Stand p l e R s m args below meth c T locs cells slots) (hx : p.tables.exec = Jvm.exec) {i : Int} (v : Int32) (hd : Dec c.code pc (.bipush i) 2 pc') (hv : (Int8.ofInt i).toInt32 = v) (k : Go p e below En (T.setTop (mkF m pc' Ls (.int v :: st)))) : Go p e below En (T.setTop (mkF m pc Ls st)) := by
  obtain ⟨hd, rfl⟩ := hd
  exact own_via (fun t => (fun q => XS.bipush X.here hx rfl hd (by rw [hv]; exact q))) k
theorem go_sipush (X : Stand p l e R s m args below meth c T locs cells slots) (hx : p.tables.exec = Jvm.exec) {i : Int} (v : Int32) (hd : Dec c.code pc (.sipush i) 3 pc') (hv : (Int16.ofInt i).toInt32 = v) (k : Go p e below En (T.setTop (mkF m pc' Ls (.int v :: st)))) : Go p e below En (T.setTop (mkF m pc Ls st)) := by
  obtain ⟨hd, rfl⟩ := hd
  exact own_via (fun t => (fun q => XS.sipush X.here hx rfl hd (by rw [hv]; exact q))) k
theorem go_lconst (X : Stand p l e R s m args below meth c T locs cells slots) (hx : p.tables.exec = Jvm.exec) {k : Fin 2} (v : Int64) (hd : Dec c.code pc (.lconst k) 1 pc') (hv : Int64.ofNat k = v) (k : Go p e below En (T.setTop (mkF m pc' Ls (.long v :: st)))) : Go p e below En (T.setTop (mkF m pc Ls st)) := by
  obtain ⟨hd, rfl⟩ := hd
  exact own_via (fun t => (fun q => XT.lconst X.here hx rfl hd (by rw [hv]; exact q))) k
theorem go_aconstnull (X : Stand p l e R s m args below meth c T locs cells slots) (hx : p.tables.exec = Jvm.exec)  (hd : Dec c.code pc (.aconst_null) 1 pc') (k : Go p e below En (T.setTop (mkF m pc' Ls (.null :: st)))) : Go p e below En (T.setTop (mkF m pc Ls st)) := by
  obtain ⟨hd, rfl⟩ := hd
  exact own_via (fun t => XS.aconstNull X.here hx rfl hd) k
theorem go_ldc (X : Stand p l e R s m args below meth c T locs cells slots) (hx : p.tables.exec = Jvm.exec) (hZ : Z.Warmed39 s.vm) {own : String} {index : Nat} {v : Int32} (hown : s.vm.findClass own = some m.cls) (w : (Jvm.Cond.constant own index v).before a0 Z = true) (hd : Dec c.code pc (.ldc index) 2 pc') (k : Go p e below En (T.setTop (mkF m pc' Ls (.int v :: st)))) : Go p e below En (T.setTop (mkF m pc Ls st)) := by
  obtain ⟨hd, rfl⟩ := hd
  exact own_via (fun t => X.ldcInt hx hown (mv hZ w) (g := mkF m pc Ls st) rfl hd t) k
theorem go_ldc2 (X : Stand p l e R s m args below meth c T locs cells slots) (hx : p.tables.exec = Jvm.exec) (hZ : Z.Warmed39 s.vm) {own : String} {index : Nat} {v : Int64} (hown : s.vm.findClass own = some m.cls) (w : (Jvm.Cond.constantLong own index v).before a0 Z = true) (hd : Dec c.code pc (.ldc2_w index) 3 pc') (k : Go p e below En (T.setTop (mkF m pc' Ls (.long v :: st)))) : Go p e below En (T.setTop (mkF m pc Ls st)) := by
  obtain ⟨hd, rfl⟩ := hd
  exact own_via (fun t => X.ldc2Long hx hown (mv hZ w) (g := mkF m pc Ls st) rfl hd t) k
theorem go_dup (X : Stand p l e R s m args below meth c T locs cells slots) (hx : p.tables.exec = Jvm.exec) {v : Value} (hd : Dec c.code pc (.dup) 1 pc') (hc : v.category = 1) (k : Go p e below En (T.setTop (mkF m pc' Ls (v :: v :: st)))) : Go p e below En (T.setTop (mkF m pc Ls (v :: st))) := by
  obtain ⟨hd, rfl⟩ := hd
  exact own_via (fun t => XS.dup X.here hx rfl hd rfl hc) k
theorem go_pop (X : Stand p l e R s m args below meth c T locs cells slots) (hx : p.tables.exec = Jvm.exec) {v : Value} (hd : Dec c.code pc (.pop) 1 pc') (hc : v.category = 1) (k : Go p e below En (T.setTop (mkF m pc' Ls st))) : Go p e below En (T.setTop (mkF m pc Ls (v :: st))) := by
  obtain ⟨hd, rfl⟩ := hd
  exact own_via (fun t => XT.pop X.here hx rfl hd rfl hc) k
theorem go_dupx1 (X : Stand p l e R s m args below meth c T locs cells slots) (hx : p.tables.exec = Jvm.exec) {v v' : Value} (hd : Dec c.code pc (.dup_x1) 1 pc') (hc : v.category = 1) (hc' : v'.category = 1) (k : Go p e below En (T.setTop (mkF m pc' Ls (v :: v' :: v :: st)))) : Go p e below En (T.setTop (mkF m pc Ls (v :: v' :: st))) := by
  obtain ⟨hd, rfl⟩ := hd
  exact own_via (fun t => XT.dupX1 X.here hx rfl hd rfl hc hc') k
theorem go_dup2L (X : Stand p l e R s m args below meth c T locs cells slots) (hx : p.tables.exec = Jvm.exec) {x : Int64} (hd : Dec c.code pc (.dup2) 1 pc') (k : Go p e below En (T.setTop (mkF m pc' Ls (.long x :: .long x :: st)))) : Go p e below En (T.setTop (mkF m pc Ls (.long x :: st))) := by
  obtain ⟨hd, rfl⟩ := hd
  exact own_via (fun t => XT.dup2L X.here hx rfl hd rfl) k
theorem go_dup2 (X : Stand p l e R s m args below meth c T locs cells slots) (hx : p.tables.exec = Jvm.exec) {v v' : Value} (hd : Dec c.code pc (.dup2) 1 pc') (hc : v.category = 1) (hc' : v'.category = 1) (k : Go p e below En (T.setTop (mkF m pc' Ls (v :: v' :: v :: v' :: st)))) : Go p e below En (T.setTop (mkF m pc Ls (v :: v' :: st))) := by
  obtain ⟨hd, rfl⟩ := hd
  exact own_via (fun t => XT.dup2 X.here hx rfl hd rfl hc hc') k
theorem go_iinc (X : Stand p l e R s m args below meth c T locs cells slots) (hx : p.tables.exec = Jvm.exec) {k : Nat} {cst : Int} {x : Int32} (Ls' : Array Slot) (hd : Dec c.code pc (.iinc k cst) 3 pc') (hl : Ls[k]? = some (.val (.int x))) (hl' : storeLocals Ls k (.int (x + Int32.ofInt cst)) = some Ls') (k : Go p e below En (T.setTop (mkF m pc' Ls' st))) : Go p e below En (T.setTop (mkF m pc Ls st)) := by
  obtain ⟨hd, rfl⟩ := hd
  exact own_via (fun t => XS.iinc X.here hx rfl hd hl hl') k
theorem go_goto (X : Stand p l e R s m args below meth c T locs cells slots) (hx : p.tables.exec = Jvm.exec) {o : Int} (hd : DecB c.code pc (.goto o) o pc' pt) (k : Go p e below En (T.setTop (mkF m pt Ls st))) : Go p e below En (T.setTop (mkF m pc Ls st)) := own_via (fun t => XS.goto X.here hx rfl rfl hd.1 hd.2.2.1 hd.2.2.2) k
theorem go_icmp (X : Stand p l e R s m args below meth c T locs cells slots) (hx : p.tables.exec = Jvm.exec) {cd : ClassFile.Cond} {x y : Int32} {o : Int} (hd : DecB c.code pc (.if_icmp cd o) o pc' pt) (kT : if_icmp.holds cd x y = true → Go p e below En (T.setTop (mkF m pt Ls st))) (kF : if_icmp.holds cd x y = false → Go p e below En (T.setTop (mkF m pc' Ls st))) : Go p e below En (T.setTop (mkF m pc Ls (.int y :: .int x :: st))) := by
  obtain ⟨h1, rfl, h3, h4⟩ := hd
  cases q : if_icmp.holds cd x y
  · exact own_via (fun t => XS.icmpNo X.here hx rfl h1 rfl q) (kF q)
  · exact own_via (fun t => XS.icmpYes X.here hx rfl rfl h1 rfl q h3 h4) (kT q)
theorem go_ifc (X : Stand p l e R s m args below meth c T locs cells slots) (hx : p.tables.exec = Jvm.exec) {cd : ClassFile.Cond} {x : Int32} {o : Int} (hd : DecB c.code pc (.ifCond cd o) o pc' pt) (kT : if_icmp.holds cd x 0 = true → Go p e below En (T.setTop (mkF m pt Ls st))) (kF : if_icmp.holds cd x 0 = false → Go p e below En (T.setTop (mkF m pc' Ls st))) : Go p e below En (T.setTop (mkF m pc Ls (.int x :: st))) := by
  obtain ⟨h1, rfl, h3, h4⟩ := hd
  cases q : if_icmp.holds cd x 0
  · exact own_via (fun t => XS.ifNo X.here hx rfl h1 rfl ((if0 cd x).trans q)) (kF q)
  · exact own_via (fun t => XS.ifYes X.here hx rfl rfl h1 rfl ((if0 cd x).trans q) h3 h4) (kT q)
theorem go_icmp_eq (X : Stand p l e R s m args below meth c T locs cells slots) (hx : p.tables.exec = Jvm.exec) {x y : Int32} {o : Int} (hd : DecB c.code pc (.if_icmp .eq o) o pc' pt) (kT : x = y → Go p e below En (T.setTop (mkF m pt Ls st))) (kF : ¬ x = y → Go p e below En (T.setTop (mkF m pc' Ls st))) : Go p e below En (T.setTop (mkF m pc Ls (.int y :: .int x :: st))) := by
  by_cases q : x = y
  · exact go_icmp X hx hd (fun _ => kT q) (fun r => absurd r (by rw [(teq q).1]; decide))
  · exact go_icmp X hx hd (fun r => absurd r (by rw [(feq q).1]; decide)) (fun _ => kF q)
theorem go_ifc_eq (X : Stand p l e R s m args below meth c T locs cells slots) (hx : p.tables.exec = Jvm.exec) {x : Int32} {o : Int} (hd : DecB c.code pc (.ifCond .eq o) o pc' pt) (kT : x = 0 → Go p e below En (T.setTop (mkF m pt Ls st))) (kF : ¬ x = 0 → Go p e below En (T.setTop (mkF m pc' Ls st))) : Go p e below En (T.setTop (mkF m pc Ls (.int x :: st))) := by
  by_cases q : x = 0
  · exact go_ifc X hx hd (fun _ => kT q) (fun r => absurd r (by rw [(teq q).1]; decide))
  · exact go_ifc X hx hd (fun r => absurd r (by rw [(feq q).1]; decide)) (fun _ => kF q)
theorem go_icmp_ne (X : Stand p l e R s m args below meth c T locs cells slots) (hx : p.tables.exec = Jvm.exec) {x y : Int32} {o : Int} (hd : DecB c.code pc (.if_icmp .ne o) o pc' pt) (kT : ¬ x = y → Go p e below En (T.setTop (mkF m pt Ls st))) (kF : x = y → Go p e below En (T.setTop (mkF m pc' Ls st))) : Go p e below En (T.setTop (mkF m pc Ls (.int y :: .int x :: st))) := by
  by_cases q : x = y
  · exact go_icmp X hx hd (fun r => absurd r (by rw [(teq q).2]; decide)) (fun _ => kF q)
  · exact go_icmp X hx hd (fun _ => kT q) (fun r => absurd r (by rw [(feq q).2]; decide))
theorem go_ifc_ne (X : Stand p l e R s m args below meth c T locs cells slots) (hx : p.tables.exec = Jvm.exec) {x : Int32} {o : Int} (hd : DecB c.code pc (.ifCond .ne o) o pc' pt) (kT : ¬ x = 0 → Go p e below En (T.setTop (mkF m pt Ls st))) (kF : x = 0 → Go p e below En (T.setTop (mkF m pc' Ls st))) : Go p e below En (T.setTop (mkF m pc Ls (.int x :: st))) := by
  by_cases q : x = 0
  · exact go_ifc X hx hd (fun r => absurd r (by rw [(teq q).2]; decide)) (fun _ => kF q)
  · exact go_ifc X hx hd (fun _ => kT q) (fun r => absurd r (by rw [(feq q).2]; decide))
theorem go_icmp_lt (X : Stand p l e R s m args below meth c T locs cells slots) (hx : p.tables.exec = Jvm.exec) {x y : Int32} {o : Int} (hd : DecB c.code pc (.if_icmp .lt o) o pc' pt) (kT : x < y → Go p e below En (T.setTop (mkF m pt Ls st))) (kF : ¬ x < y → Go p e below En (T.setTop (mkF m pc' Ls st))) : Go p e below En (T.setTop (mkF m pc Ls (.int y :: .int x :: st))) := by
  by_cases q : x < y
  · exact go_icmp X hx hd (fun _ => kT q) (fun r => absurd r (by rw [(tlt q).1]; decide))
  · exact go_icmp X hx hd (fun r => absurd r (by rw [(flt q).1]; decide)) (fun _ => kF q)
theorem go_ifc_lt (X : Stand p l e R s m args below meth c T locs cells slots) (hx : p.tables.exec = Jvm.exec) {x : Int32} {o : Int} (hd : DecB c.code pc (.ifCond .lt o) o pc' pt) (kT : x < 0 → Go p e below En (T.setTop (mkF m pt Ls st))) (kF : ¬ x < 0 → Go p e below En (T.setTop (mkF m pc' Ls st))) : Go p e below En (T.setTop (mkF m pc Ls (.int x :: st))) := by
  by_cases q : x < 0
  · exact go_ifc X hx hd (fun _ => kT q) (fun r => absurd r (by rw [(tlt q).1]; decide))
  · exact go_ifc X hx hd (fun r => absurd r (by rw [(flt q).1]; decide)) (fun _ => kF q)
theorem go_icmp_ge (X : Stand p l e R s m args below meth c T locs cells slots) (hx : p.tables.exec = Jvm.exec) {x y : Int32} {o : Int} (hd : DecB c.code pc (.if_icmp .ge o) o pc' pt) (kT : ¬ x < y → Go p e below En (T.setTop (mkF m pt Ls st))) (kF : x < y → Go p e below En (T.setTop (mkF m pc' Ls st))) : Go p e below En (T.setTop (mkF m pc Ls (.int y :: .int x :: st))) := by
  by_cases q : x < y
  · exact go_icmp X hx hd (fun r => absurd r (by rw [(tlt q).2.1]; decide)) (fun _ => kF q)
  · exact go_icmp X hx hd (fun _ => kT q) (fun r => absurd r (by rw [(flt q).2.1]; decide))
theorem go_ifc_ge (X : Stand p l e R s m args below meth c T locs cells slots) (hx : p.tables.exec = Jvm.exec) {x : Int32} {o : Int} (hd : DecB c.code pc (.ifCond .ge o) o pc' pt) (kT : ¬ x < 0 → Go p e below En (T.setTop (mkF m pt Ls st))) (kF : x < 0 → Go p e below En (T.setTop (mkF m pc' Ls st))) : Go p e below En (T.setTop (mkF m pc Ls (.int x :: st))) := by
  by_cases q : x < 0
  · exact go_ifc X hx hd (fun r => absurd r (by rw [(tlt q).2.1]; decide)) (fun _ => kF q)
  · exact go_ifc X hx hd (fun _ => kT q) (fun r => absurd r (by rw [(flt q).2.1]; decide))
theorem go_icmp_gt (X : Stand p l e R s m args below meth c T locs cells slots) (hx : p.tables.exec = Jvm.exec) {x y : Int32} {o : Int} (hd : DecB c.code pc (.if_icmp .gt o) o pc' pt) (kT : y < x → Go p e below En (T.setTop (mkF m pt Ls st))) (kF : ¬ y < x → Go p e below En (T.setTop (mkF m pc' Ls st))) : Go p e below En (T.setTop (mkF m pc Ls (.int y :: .int x :: st))) := by
  by_cases q : y < x
  · exact go_icmp X hx hd (fun _ => kT q) (fun r => absurd r (by rw [(tlt q).2.2.1]; decide))
  · exact go_icmp X hx hd (fun r => absurd r (by rw [(flt q).2.2.1]; decide)) (fun _ => kF q)
theorem go_ifc_gt (X : Stand p l e R s m args below meth c T locs cells slots) (hx : p.tables.exec = Jvm.exec) {x : Int32} {o : Int} (hd : DecB c.code pc (.ifCond .gt o) o pc' pt) (kT : 0 < x → Go p e below En (T.setTop (mkF m pt Ls st))) (kF : ¬ 0 < x → Go p e below En (T.setTop (mkF m pc' Ls st))) : Go p e below En (T.setTop (mkF m pc Ls (.int x :: st))) := by
  by_cases q : 0 < x
  · exact go_ifc X hx hd (fun _ => kT q) (fun r => absurd r (by rw [(tlt q).2.2.1]; decide))
  · exact go_ifc X hx hd (fun r => absurd r (by rw [(flt q).2.2.1]; decide)) (fun _ => kF q)
theorem go_icmp_le (X : Stand p l e R s m args below meth c T locs cells slots) (hx : p.tables.exec = Jvm.exec) {x y : Int32} {o : Int} (hd : DecB c.code pc (.if_icmp .le o) o pc' pt) (kT : ¬ y < x → Go p e below En (T.setTop (mkF m pt Ls st))) (kF : y < x → Go p e below En (T.setTop (mkF m pc' Ls st))) : Go p e below En (T.setTop (mkF m pc Ls (.int y :: .int x :: st))) := by
  by_cases q : y < x
  · exact go_icmp X hx hd (fun r => absurd r (by rw [(tlt q).2.2.2]; decide)) (fun _ => kF q)
  · exact go_icmp X hx hd (fun _ => kT q) (fun r => absurd r (by rw [(flt q).2.2.2]; decide))
theorem go_ifc_le (X : Stand p l e R s m args below meth c T locs cells slots) (hx : p.tables.exec = Jvm.exec) {x : Int32} {o : Int} (hd : DecB c.code pc (.ifCond .le o) o pc' pt) (kT : ¬ 0 < x → Go p e below En (T.setTop (mkF m pt Ls st))) (kF : 0 < x → Go p e below En (T.setTop (mkF m pc' Ls st))) : Go p e below En (T.setTop (mkF m pc Ls (.int x :: st))) := by
  by_cases q : 0 < x
  · exact go_ifc X hx hd (fun r => absurd r (by rw [(tlt q).2.2.2]; decide)) (fun _ => kF q)
  · exact go_ifc X hx hd (fun _ => kT q) (fun r => absurd r (by rw [(flt q).2.2.2]; decide))
theorem go_ifnullY (X : Stand p l e R s m args below meth c T locs cells slots) (hx : p.tables.exec = Jvm.exec) {o : Int} (hd : DecB c.code pc (.ifnull o) o pc' pt) (k : Go p e below En (T.setTop (mkF m pt Ls st))) : Go p e below En (T.setTop (mkF m pc Ls (.null :: st))) := own_via (fun t => XS.ifnullYes X.here hx rfl rfl hd.1 rfl hd.2.2.1 hd.2.2.2) k
theorem go_ifnullN (X : Stand p l e R s m args below meth c T locs cells slots) (hx : p.tables.exec = Jvm.exec) {o : Int} {a : Addr} (hd : DecB c.code pc (.ifnull o) o pc' pt) (k : Go p e below En (T.setTop (mkF m pc' Ls st))) : Go p e below En (T.setTop (mkF m pc Ls (.ref a :: st))) := by
  obtain ⟨h1, rfl, h3, h4⟩ := hd
  exact own_via (fun t => XS.ifnullNo X.here hx rfl h1 rfl) k
theorem go_ifnonnullY (X : Stand p l e R s m args below meth c T locs cells slots) (hx : p.tables.exec = Jvm.exec) {o : Int} {a : Addr} (hd : DecB c.code pc (.ifnonnull o) o pc' pt) (k : Go p e below En (T.setTop (mkF m pt Ls st))) : Go p e below En (T.setTop (mkF m pc Ls (.ref a :: st))) := own_via (fun t => XT.ifnonnullYes X.here hx rfl rfl hd.1 rfl hd.2.2.1 hd.2.2.2) k
theorem go_ifnonnullN (X : Stand p l e R s m args below meth c T locs cells slots) (hx : p.tables.exec = Jvm.exec) {o : Int} (hd : DecB c.code pc (.ifnonnull o) o pc' pt) (k : Go p e below En (T.setTop (mkF m pc' Ls st))) : Go p e below En (T.setTop (mkF m pc Ls (.null :: st))) := by
  obtain ⟨h1, rfl, h3, h4⟩ := hd
  exact own_via (fun t => XT.ifnonnullNo X.here hx rfl h1 rfl) k
theorem go_acmp_eq (X : Stand p l e R s m args below meth c T locs cells slots) (hx : p.tables.exec = Jvm.exec) {x y : Value} (hx' : x.isRef = true) (hy' : y.isRef = true) {o : Int} (hd : DecB c.code pc (.if_acmp .eq o) o pc' pt) (kT : x = y → Go p e below En (T.setTop (mkF m pt Ls st))) (kF : ¬ x = y → Go p e below En (T.setTop (mkF m pc' Ls st))) : Go p e below En (T.setTop (mkF m pc Ls (y :: x :: st))) := by
  obtain ⟨h1, rfl, h3, h4⟩ := hd
  by_cases q : x = y
  · exact own_via (fun t => XT.acmpYes X.here hx rfl rfl h1 rfl hx' hy' (by simp [XT.acmp, q]) h3 h4) (kT q)
  · exact own_via (fun t => XT.acmpNo X.here hx rfl h1 rfl hx' hy' (by simp [XT.acmp, q])) (kF q)
theorem go_acmp_ne (X : Stand p l e R s m args below meth c T locs cells slots) (hx : p.tables.exec = Jvm.exec) {x y : Value} (hx' : x.isRef = true) (hy' : y.isRef = true) {o : Int} (hd : DecB c.code pc (.if_acmp .ne o) o pc' pt) (kT : ¬ x = y → Go p e below En (T.setTop (mkF m pt Ls st))) (kF : x = y → Go p e below En (T.setTop (mkF m pc' Ls st))) : Go p e below En (T.setTop (mkF m pc Ls (y :: x :: st))) := by
  obtain ⟨h1, rfl, h3, h4⟩ := hd
  by_cases q : x = y
  · exact own_via (fun t => XT.acmpNo X.here hx rfl h1 rfl hx' hy' (by simp [XT.acmp, q])) (kF q)
  · exact own_via (fun t => XT.acmpYes X.here hx rfl rfl h1 rfl hx' hy' (by simp [XT.acmp, q]) h3 h4) (kT q)
theorem go_retN (X : Stand p l e R s m args below meth c T locs cells slots) (hx : p.tables.exec = Jvm.exec) {z : Int32} {t : FieldType} (hret : meth.sig.returnType = some t) (ht : t = .boolean ∨ t = .byte ∨ t = .char ∨ t = .short) (hd : Dec c.code pc .ireturn 1 pc') (hk : meth.locks = false) (hc : cells ≤ rc) (hs : slots ≤ rs) (hQ : Q (some (.int (nar t z))) T.heap locs) : Go p e below (EndN s Q rc rs) (T.setTop (mkF m pc Ls (.int z :: st))) := by
  obtain ⟨fs, hr, hrun, hended, hW, hsame⟩ := X.leave (v := (some (.int (nar t z)))) (fun q => by first | rfl | (rw [hret] at q; cases q)) hk
  exact ⟨_, _, retN X hx hret ht hd.1 hr, hrun, hended, _, _, rfl, hQ, ⟨_, rfl⟩, hW, hsame.mono hc hs⟩
theorem go_retI (X : Stand p l e R s m args below meth c T locs cells slots) (hx : p.tables.exec = Jvm.exec) {z : Int32} (hret : meth.sig.returnType = some .int) (hd : Dec c.code pc .ireturn 1 pc') (hk : meth.locks = false) (hc : cells ≤ rc) (hs : slots ≤ rs) (hQ : Q (some (.int z)) T.heap locs) : Go p e below (EndN s Q rc rs) (T.setTop (mkF m pc Ls (.int z :: st))) := by
  obtain ⟨fs, hr, hrun, hended, hW, hsame⟩ := X.leave (v := (some (.int z))) (fun q => by first | rfl | (rw [hret] at q; cases q)) hk
  exact ⟨_, _, retOut X hx hret rfl (Or.inl ⟨rfl, Or.inl rfl, _, rfl⟩) hd.1 hr, hrun, hended, _, _, rfl, hQ, ⟨_, rfl⟩, hW, hsame.mono hc hs⟩
theorem go_retJ (X : Stand p l e R s m args below meth c T locs cells slots) (hx : p.tables.exec = Jvm.exec) {z : Int64} (hret : meth.sig.returnType = some .long) (hd : Dec c.code pc .lreturn 1 pc') (hk : meth.locks = false) (hc : cells ≤ rc) (hs : slots ≤ rs) (hQ : Q (some (.long z)) T.heap locs) : Go p e below (EndN s Q rc rs) (T.setTop (mkF m pc Ls (.long z :: st))) := by
  obtain ⟨fs, hr, hrun, hended, hW, hsame⟩ := X.leave (v := (some (.long z))) (fun q => by first | rfl | (rw [hret] at q; cases q)) hk
  exact ⟨_, _, retOut X hx hret rfl (Or.inr (Or.inl ⟨rfl, rfl, _, rfl⟩)) hd.1 hr, hrun, hended, _, _, rfl, hQ, ⟨_, rfl⟩, hW, hsame.mono hc hs⟩
theorem go_retA (X : Stand p l e R s m args below meth c T locs cells slots) (hx : p.tables.exec = Jvm.exec) {v : Value} {t : FieldType} (hret : meth.sig.returnType = some t) (ht : t.isReference = true) (hv : v.isRef = true) (hd : Dec c.code pc .areturn 1 pc') (hk : meth.locks = false) (hc : cells ≤ rc) (hs : slots ≤ rs) (hQ : Q (some v) T.heap locs) : Go p e below (EndN s Q rc rs) (T.setTop (mkF m pc Ls (v :: st))) := by
  obtain ⟨fs, hr, hrun, hended, hW, hsame⟩ := X.leave (v := (some v)) (fun q => by first | rfl | (rw [hret] at q; cases q)) hk
  exact ⟨_, _, retOut X hx hret (by cases t <;> first | rfl | cases ht) (Or.inr (Or.inr (Or.inr (Or.inr ⟨rfl, ht, hv⟩)))) hd.1 hr, hrun, hended, _, _, rfl, hQ, ⟨_, rfl⟩, hW, hsame.mono hc hs⟩
theorem go_retV (X : Stand p l e R s m args below meth c T locs cells slots) (hx : p.tables.exec = Jvm.exec)  (hret : meth.sig.returnType = none) (hd : Dec c.code pc .return_ 1 pc') (hk : meth.locks = false) (hc : cells ≤ rc) (hs : slots ≤ rs) (hQ : Q none T.heap locs) : Go p e below (EndN s Q rc rs) (T.setTop (mkF m pc Ls [])) := by
  obtain ⟨fs, hr, hrun, hended, hW, hsame⟩ := X.leave (v := none) (fun q => by first | rfl | (rw [hret] at q; cases q)) hk
  exact ⟨_, _, X.returnOut hx hret hd.1 hr, hrun, hended, _, _, rfl, hQ, ⟨_, rfl⟩, hW, hsame.mono hc hs⟩
theorem go_getF (X : Stand p l e R s m args below meth c T locs cells slots) (hx : p.tables.exec = Jvm.exec) (hZ : Z.Warmed39 s.vm) {own R0 O n d host : String} {index : Nat} (hown : s.vm.findClass own = some m.cls) (w : (Jvm.Cond.fieldLink own index R0 n d).before a0 Z = true ∨ (Jvm.Cond.fieldLinkNest own index R0 n d host).before a0 Z = true) (via : Via Z R0 O n d) (eT : T.heap = h) {a : Addr} {v : Value} (F : Fld Z h a O n d v) (hd : Dec c.code pc (.getfield index) 3 pc') (k : ∀ T', Stand p l e R s m args below meth c T' locs cells slots → T'.heap = h → Go p e below En (T'.setTop (mkF m pc' Ls (v :: st)))) : Go p e below En (T.setTop (mkF m pc Ls (.ref a :: st))) := by
  obtain ⟨hd, rfl⟩ := hd
  obtain ⟨T', X', e', q⟩ := getF X hx hZ hown w via eT F (g := mkF m pc Ls (.ref a :: st)) rfl rfl hd
  exact own_via q (k T' X' e')
theorem go_putF (X : Stand p l e R s m args below meth c T locs cells slots) (hx : p.tables.exec = Jvm.exec) (hZ : Z.Warmed39 s.vm) {own R0 O n d host C : String} {index kk : Nat} {ty : FieldType} (hown : s.vm.findClass own = some m.cls) (w : (Jvm.Cond.fieldLink own index R0 n d).before a0 Z = true ∨ (Jvm.Cond.fieldLinkNest own index R0 n d host).before a0 Z = true) (via : Via Z R0 O n d) (eT : T.heap = h) {a : Addr} {v old : Value} (F : Fld Z h a O n d old) (E : Exa Z h a C) (L : (Jvm.Cond.lays C O n d).before a0 Z = true ∨ ((Jvm.Cond.laysFinal C O n d).before a0 Z = true ∧ own = O ∧ meth.name = "<init>")) (wi : (Jvm.Cond.instantiable C kk).before a0 Z = true) (hty : parseFieldDescriptor d = some ty) (hn : narrow ty v = v) (hf : fits ty v = true) (hd : Dec c.code pc (.putfield index) 3 pc') (k : ∀ T' h', Stand p l e R s m args below meth c T' (locs ++ [⟨a, Jvm.RoadKit.slotOf Z O n d⟩]) cells slots → T'.heap = h' → Wr h h' a (Jvm.RoadKit.slotOf Z O n d) v → Go p e below En (T'.setTop (mkF m pc' Ls st))) : Go p e below En (T.setTop (mkF m pc Ls (v :: .ref a :: st))) := by
  obtain ⟨hd, rfl⟩ := hd
  obtain ⟨T', h', X', e', W, q⟩ := putF X hx hZ hown w via eT F E L wi hty hn hf (g := mkF m pc Ls (v :: .ref a :: st)) rfl rfl hd
  exact own_via q (k T' h' X' e' W)
theorem go_getS (X : Stand p l e R s m args below meth c T locs cells slots) (hx : p.tables.exec = Jvm.exec) (hZ : Z.Warmed39 s.vm) {own R0 O n d host : String} {index : Nat} (hown : s.vm.findClass own = some m.cls) (w : (Jvm.Cond.fieldLink own index R0 n d).before a0 Z = true) (via : Via Z R0 O n d) (eT : T.heap = h) {v : Value} (F : Sta Z h O n d v) (hd : Dec c.code pc (.getstatic index) 3 pc') (k : ∀ T', Stand p l e R s m args below meth c T' locs cells slots → T'.heap = h → Go p e below En (T'.setTop (mkF m pc' Ls (v :: st)))) : Go p e below En (T.setTop (mkF m pc Ls st)) := by
  obtain ⟨hd, rfl⟩ := hd
  obtain ⟨T', X', e', q⟩ := getS (host := "") X hx hZ hown w via eT F (g := mkF m pc Ls st) rfl hd
  exact own_via q (k T' X' e')
theorem go_newO (X : Stand p l e R s m args below meth c T locs cells slots) (hx : p.tables.exec = Jvm.exec) (hZ : Z.Warmed39 s.vm) {own C : String} {index n : Nat} (hown : s.vm.findClass own = some m.cls) (w : (Jvm.Cond.classLink own index C).before a0 Z = true) (wi : (Jvm.Cond.instantiable C n).before a0 Z = true) (wz : (Jvm.Cond.initialized C).before a0 Z = true) (eT : T.heap = h) (hd : Dec c.code pc (.new index) 3 pc') (hc : cells + 1 ≤ R.cells) (hl : slots + n ≤ R.slots) (k : ∀ T' h' (a : Addr), a = h.size → Stand p l e R s m args below meth c T' locs (cells + 1) (slots + n) → T'.heap = h' → Ext h h' → Exa Z h' a C → (∀ {O nm d : String} {ty : FieldType}, Laid Z a0 C O nm d → parseFieldDescriptor d = some ty → Fld Z h' a O nm d (defaultValue ty)) → Go p e below En (T'.setTop (mkF m pc' Ls (.ref a :: st)))) : Go p e below En (T.setTop (mkF m pc Ls st)) := by
  obtain ⟨hd, rfl⟩ := hd
  obtain ⟨T', h', X', e', E, A, D, -, q⟩ := newO X hx hZ hown w wi wz eT (g := mkF m pc Ls st) rfl hd hc hl
  exact own_via q (k T' h' _ rfl X' e' E A D)
theorem go_newP (X : Stand p l e R s m args below meth c T locs cells slots) (hx : p.tables.exec = Jvm.exec) (hZ : Z.Warmed39 s.vm) {aty : ArrayType} (w : (Jvm.Cond.arrayClass (newarray.typeOf aty)).before a0 Z = true) (eT : T.heap = h) (hd : Dec c.code pc (.newarray aty) 2 pc') {n : Int32} (hn : ¬ n < 0) (cap : Nat) (hcap : n.toNatClampNeg ≤ cap) (hb : cap * 8 ≤ 536870912) (hc : cells + 1 ≤ R.cells) (hl : slots + cap ≤ R.slots) (k : ∀ T' h' cA (a : Addr), a = h.size → Stand p l e R s m args below meth c T' locs (cells + 1) (slots + cap) → T'.heap = h' → Ext h h' → Arr Z h' a (newA cA (newarray.typeOf aty) n) (newarray.typeOf aty) → Go p e below En (T'.setTop (mkF m pc' Ls (.ref a :: st)))) : Go p e below En (T.setTop (mkF m pc Ls (.int n :: st))) := by
  obtain ⟨hd, rfl⟩ := hd
  obtain ⟨T', h', cA, X', e', E, A, q⟩ := newP X hx hZ w eT (g := mkF m pc Ls (.int n :: st)) rfl hd rfl hn hcap hb hc hl
  exact own_via q (k T' h' cA _ rfl X' e' E A)
theorem go_initO (X : Stand p l e R s m args below meth c T locs cells slots) (hx : p.tables.exec = Jvm.exec) (hZ : Z.Warmed39 s.vm) {own : String} {idx : Nat} (hown : s.vm.findClass own = some m.cls) (w1 : (Jvm.Cond.methodLink own idx Lib.objectInit).before a0 Z = true) (w2 : (Jvm.Cond.instanceMethod Lib.objectInit).before a0 Z = true) (w3 : (Jvm.Cond.code Lib.objectInit object_method_1_code 1 none).before a0 Z = true) (eT : T.heap = h) (hsize : Ls.size = c.maxLocals) {a : Addr} (hd : Dec c.code pc (.invokespecial idx) 3 pc') (hf : 1 ≤ R.frames) (W : Nat) (hW : (st.map fun v => v.category).sum ≤ W) (hl : W + 12 ≤ R.locals) (k : ∀ T', Stand p l e R s m args below meth c T' locs cells slots → T'.heap = h → Go p e below En (T'.setTop (mkF m pc' Ls st))) : Go p e below En (T.setTop (mkF m pc Ls (.ref a :: st))) := by
  obtain ⟨hd, rfl⟩ := hd
  obtain ⟨T', X', e', q⟩ := initO X hx hZ hown w1 w2 w3 eT (g := mkF m pc Ls (.ref a :: st)) rfl hsize rfl hd hf (W := W) (by show 2 * 0 + _ ≤ _; omega) hl
  exact own_via q (k T' X' e')
def Ct (l : Launch) (Z : State) (y : MethodName) (bytes : ByteArray) (maxL : Nat) (ret : Option FieldType) (ws : List Jvm.Cond) (rm : Room) (as' : Array Value) (h0 : Heap) (Q : Option Value → Heap → List Loc → Prop) : Prop := MetFree l y (head1 (Jvm.Cond.code y bytes maxL ret :: ws) rm) (fun a U => a = as' ∧ Z.Warmed39 U.vm ∧ U.heap = h0) (fun _ _ _ _ _ => True) (fun _ U o U' => ∃ v L, o = .returned v ∧ Q v U'.heap L ∧ FrameEnd U o U' L rm.cells rm.slots)
theorem Ct.of {y : MethodName} {bytes : ByteArray} {maxL : Nat} {ret : Option FieldType} {ws : List Jvm.Cond} {rm : Room} {as' : Array Value} {h0 : Heap} (pn : plainFor y = true) (F0 : Array Slot) (ef : ∀ m, entryFrame m as' maxL = mkF m 0 F0 []) (body : ∀ (p : Program) (e : Env) (s : State) (m : MethodId) (below : List Frame) (meth : Method) (c : Code) (T : State), p.tables.exec = Jvm.exec → c.code = bytes → c.maxLocals = maxL → Z.Warmed39 s.vm → s.vm.findClass y.cls = some m.cls → meth.name = y.name → meth.sig.returnType = ret → meth.locks = false → T.heap = h0 → Stand p l e rm s m as' below meth c T [] 0 0 → Go p e below (EndN s Q rm.cells rm.slots) (T.setTop (mkF m 0 F0 []))) : Ct l Z y bytes maxL ret ws rm as' h0 Q := by
  refine MetFree.of_bodySF pn hisR ?_
  intro p e s m args below meth c s₁ Bd hml0 hP hK
  obtain ⟨rfl, hZ, hh⟩ := hP
  have G := body p e s m below meth c s₁ Bd.exec Bd.bytes hml0 hZ (findClass_of_methodNamed Bd.named) (name_of_methodNamed Bd.named Bd.method).1 Bd.returns Bd.notSynchronized (by rw [← hh, Bd.state]; rfl) (Stand.of_body Bd)
  rw [← ef m] at G
  exact G
theorem go_static (X : Stand p l e R s m args below meth c T locs cells slots) (hx : p.tables.exec = Jvm.exec) (hZ : Z.Warmed39 s.vm) {own : String} {index : Nat} {y : MethodName} {bytes : ByteArray} {maxL : Nat} {ret : Option FieldType} (hown : s.vm.findClass own = some m.cls) (w1 : (Jvm.Cond.methodLink own index y).before a0 Z = true) (w2 : (Jvm.Cond.static y).before a0 Z = true) (w3 : (Jvm.Cond.initialized y.cls).before a0 Z = true) (w4 : (Jvm.Cond.code y bytes maxL ret).before a0 Z = true) (hy : y.cls ≠ "java/lang/invoke/MethodHandle" ∧ y.cls ≠ "java/lang/invoke/VarHandle") (eT : T.heap = h) {rm : Room} (argsL rest : List Value) {Qc : Option Value → Heap → List Loc → Prop} (hC : Ct l Z y bytes maxL ret [] rm argsL.toArray h Qc) {ps : List FieldType} {rt : Option FieldType} (pd : parseMethodDescriptor y.desc = some ⟨ps, rt⟩) (hl : argsL.length = ps.length) (hsize : Ls.size = c.maxLocals) {stk : List Value} (hstk : stk = argsL.reverse ++ rest) (W : Nat) (hW : (rest.map fun v => v.category).sum ≤ W) (hf : rm.frames + 1 ≤ R.frames) (hlo : W + (maxL + 11) + rm.locals ≤ R.locals) (hce : cells + rm.cells ≤ R.cells) (hsl : slots + rm.slots ≤ R.slots) (hd : Dec c.code pc (.invokestatic index) 3 pc') (k : ∀ T' v L, Stand p l e R s m args below meth c T' (locs ++ L) (cells + rm.cells) (slots + rm.slots) → Qc v T'.heap L → Go p e below En (T'.setTop (mkF m pc' Ls (v.toList ++ rest)))) : Go p e below En (T.setTop (mkF m pc Ls stk)) := by
  obtain ⟨hd, rfl⟩ := hd
  obtain ⟨v, _, ⟨T', L', k', n'⟩, -, X', ⟨L, hQ, l1, y1, z1⟩, q⟩ := Jvm.LawKit.callS X hx hown (mvT hZ w1) (mvT hZ w2) (mvT hZ w3) (mvT hZ w4) hy (backOf (W := W) hC hZ w4 w3 hf hlo) (g := mkF m pc Ls stk) rfl hsize (argsL := argsL) (rest := rest) (lenOf pd hl) hstk (by show 2 * 0 + _ ≤ _; omega) hd (fun _ _ => ⟨rfl, eT, hce, hsl⟩)
  dsimp only [Pt.U, Pt.locs, Pt.cells, Pt.slots] at X' l1 y1 z1 q hQ
  subst l1 y1 z1
  exact own_via q (k T' v L X' hQ)
theorem go_special (X : Stand p l e R s m args below meth c T locs cells slots) (hx : p.tables.exec = Jvm.exec) (hZ : Z.Warmed39 s.vm) {own : String} {index : Nat} {y : MethodName} (hn : y.name = "<init>") {bytes : ByteArray} {maxL : Nat} (hown : s.vm.findClass own = some m.cls) (w1 : (Jvm.Cond.methodLink own index y).before a0 Z = true) (w2 : (Jvm.Cond.instanceMethod y).before a0 Z = true) (w3 : (Jvm.Cond.initialized y.cls).before a0 Z = true) (w4 : (Jvm.Cond.code y bytes maxL none).before a0 Z = true) (hy : y.cls ≠ "java/lang/invoke/MethodHandle" ∧ y.cls ≠ "java/lang/invoke/VarHandle") (eT : T.heap = h) {rm : Room} {a : Addr} (argsL rest : List Value) {Qc : Option Value → Heap → List Loc → Prop} (hC : Ct l Z y bytes maxL none [] rm (.ref a :: argsL).toArray h Qc) {ps : List FieldType} {rt : Option FieldType} (pd : parseMethodDescriptor y.desc = some ⟨ps, rt⟩) (hl : argsL.length = ps.length) (hsize : Ls.size = c.maxLocals) {stk : List Value} (hstk : stk = argsL.reverse ++ .ref a :: rest) (W : Nat) (hW : (rest.map fun v => v.category).sum ≤ W) (hf : rm.frames + 1 ≤ R.frames) (hlo : W + (maxL + 11) + rm.locals ≤ R.locals) (hce : cells + rm.cells ≤ R.cells) (hsl : slots + rm.slots ≤ R.slots) (hd : Dec c.code pc (.invokespecial index) 3 pc') (k : ∀ T' v L, Stand p l e R s m args below meth c T' (locs ++ L) (cells + rm.cells) (slots + rm.slots) → Qc v T'.heap L → Go p e below En (T'.setTop (mkF m pc' Ls (v.toList ++ rest)))) : Go p e below En (T.setTop (mkF m pc Ls stk)) := by
  obtain ⟨hd, rfl⟩ := hd
  obtain ⟨v, _, ⟨T', L', k', n'⟩, -, X', ⟨L, hQ, l1, y1, z1⟩, q⟩ := X.specialBack hx hn hown (mvT hZ w1) (mvT hZ w2) (mvT hZ w4) hy (backOf (W := W) hC hZ w4 w3 hf hlo) (g := mkF m pc Ls stk) rfl hsize (Steps.refl _) (a := a) (argsL := argsL) (rest := rest) (lenOf pd hl) hstk (by show 2 * 0 + _ ≤ _; omega) hd (fun _ _ => ⟨rfl, eT, hce, hsl⟩)
  dsimp only [Pt.U, Pt.locs, Pt.cells, Pt.slots] at X' l1 y1 z1 q hQ
  subst l1 y1 z1
  exact own_via (fun _ => q.trans) (k T' v L X' hQ)
theorem go_virtual (X : Stand p l e R s m args below meth c T locs cells slots) (hx : p.tables.exec = Jvm.exec) (hZ : Z.Warmed39 s.vm) {own C : String} {index : Nat} {y : MethodName} {bytes : ByteArray} {maxL : Nat} {ret : Option FieldType} (hown : s.vm.findClass own = some m.cls) (w1 : (Jvm.Cond.methodLink own index y).before a0 Z = true) (w2 : (Jvm.Cond.declares y).before a0 Z = true) (w5 : (Jvm.Cond.selects C y y).before a0 Z = true) (w6 : (Jvm.Cond.instanceMethod y).before a0 Z = true) (w3 : (Jvm.Cond.initialized y.cls).before a0 Z = true) (w4 : (Jvm.Cond.code y bytes maxL ret).before a0 Z = true) (hy : y.cls ≠ "java/lang/invoke/MethodHandle" ∧ y.cls ≠ "java/lang/invoke/VarHandle") (eT : T.heap = h) {rm : Room} {a : Addr} (E : Exa Z h a C) (argsL rest : List Value) {Qc : Option Value → Heap → List Loc → Prop} (hC : Ct l Z y bytes maxL ret [] rm (.ref a :: argsL).toArray h Qc) {ps : List FieldType} {rt : Option FieldType} (pd : parseMethodDescriptor y.desc = some ⟨ps, rt⟩) (hl : argsL.length = ps.length) (hsize : Ls.size = c.maxLocals) {stk : List Value} (hstk : stk = argsL.reverse ++ .ref a :: rest) (W : Nat) (hW : (rest.map fun v => v.category).sum ≤ W) (hf : rm.frames + 1 ≤ R.frames) (hlo : W + (maxL + 11) + rm.locals ≤ R.locals) (hce : cells + rm.cells ≤ R.cells) (hsl : slots + rm.slots ≤ R.slots) (hd : Dec c.code pc (.invokevirtual index) 3 pc') (k : ∀ T' v L, Stand p l e R s m args below meth c T' (locs ++ L) (cells + rm.cells) (slots + rm.slots) → Qc v T'.heap L → Go p e below En (T'.setTop (mkF m pc' Ls (v.toList ++ rest)))) : Go p e below En (T.setTop (mkF m pc Ls stk)) := by
  obtain ⟨hd, rfl⟩ := hd
  obtain ⟨cq, kq, qa, qb, qc⟩ := isOf hZ eT E
  obtain ⟨v, _, ⟨T', L', k', n'⟩, -, X', ⟨L, hQ, l1, y1, z1⟩, q⟩ := X.virtualBack hx hown (mvT hZ w1) (mvT hZ w2) (notFace_of_selects (args := #[]) (mvT hZ w5)) (mvT hZ w5) (mvT hZ w6) hy (backOf (W := W) hC hZ w4 w3 hf hlo) qa qc (g := mkF m pc Ls stk) rfl hsize (Steps.refl _) (argsL := argsL) (rest := rest) (lenOf pd hl) hstk (by show 2 * 0 + _ ≤ _; omega) hd (fun _ _ => ⟨rfl, eT, hce, hsl⟩)
  dsimp only [Pt.U, Pt.locs, Pt.cells, Pt.slots] at X' l1 y1 z1 q hQ
  subst l1 y1 z1
  exact own_via (fun _ => q.trans) (k T' v L X' hQ)
abbrev QP (r : Value) (h0 : Heap) : Option Value → Heap → List Loc → Prop := fun v h L => v = some r ∧ h = h0 ∧ L = []
theorem go_staticP (X : Stand p l e R s m args below meth c T locs cells slots) (hx : p.tables.exec = Jvm.exec) (hZ : Z.Warmed39 s.vm) {own : String} {index : Nat} {y : MethodName} {bytes : ByteArray} {maxL : Nat} {ret : Option FieldType} (hown : s.vm.findClass own = some m.cls) (w1 : (Jvm.Cond.methodLink own index y).before a0 Z = true) (w2 : (Jvm.Cond.static y).before a0 Z = true) (w3 : (Jvm.Cond.initialized y.cls).before a0 Z = true) (w4 : (Jvm.Cond.code y bytes maxL ret).before a0 Z = true) (hy : y.cls ≠ "java/lang/invoke/MethodHandle" ∧ y.cls ≠ "java/lang/invoke/VarHandle") (eT : T.heap = h) {rm : Room} (argsL rest : List Value) {r : Value} (hC : Ct l Z y bytes maxL ret [] rm argsL.toArray h (QP r h)) {ps : List FieldType} {rt : Option FieldType} (pd : parseMethodDescriptor y.desc = some ⟨ps, rt⟩) (hl : argsL.length = ps.length) (hsize : Ls.size = c.maxLocals) {stk : List Value} (hstk : stk = argsL.reverse ++ rest) (W : Nat) (hW : (rest.map fun v => v.category).sum ≤ W) (hf : rm.frames + 1 ≤ R.frames) (hlo : W + (maxL + 11) + rm.locals ≤ R.locals) (hce : rm.cells = 0) (hsl : rm.slots = 0) (hrc : cells ≤ R.cells) (hrs : slots ≤ R.slots) (hd : Dec c.code pc (.invokestatic index) 3 pc') (k : ∀ T', Stand p l e R s m args below meth c T' locs cells slots → T'.heap = h → Go p e below En (T'.setTop (mkF m pc' Ls (r :: rest)))) : Go p e below En (T.setTop (mkF m pc Ls stk)) :=
  go_static X hx hZ hown w1 w2 w3 w4 hy eT argsL rest hC pd hl hsize hstk W hW hf hlo (by rw [hce]; exact hrc) (by rw [hsl]; exact hrs) hd (fun T' v L X' hQ => by
    obtain ⟨rfl, e', rfl⟩ := hQ
    rw [hce, hsl, List.append_nil, Nat.add_zero, Nat.add_zero] at X'
    exact k T' X' e')
theorem go_virtualP (X : Stand p l e R s m args below meth c T locs cells slots) (hx : p.tables.exec = Jvm.exec) (hZ : Z.Warmed39 s.vm) {own C : String} {index : Nat} {y : MethodName} {bytes : ByteArray} {maxL : Nat} {ret : Option FieldType} (hown : s.vm.findClass own = some m.cls) (w1 : (Jvm.Cond.methodLink own index y).before a0 Z = true) (w2 : (Jvm.Cond.declares y).before a0 Z = true) (w5 : (Jvm.Cond.selects C y y).before a0 Z = true) (w6 : (Jvm.Cond.instanceMethod y).before a0 Z = true) (w3 : (Jvm.Cond.initialized y.cls).before a0 Z = true) (w4 : (Jvm.Cond.code y bytes maxL ret).before a0 Z = true) (hy : y.cls ≠ "java/lang/invoke/MethodHandle" ∧ y.cls ≠ "java/lang/invoke/VarHandle") (eT : T.heap = h) {rm : Room} {a : Addr} (E : Exa Z h a C) (argsL rest : List Value) {r : Value} (hC : Ct l Z y bytes maxL ret [] rm (.ref a :: argsL).toArray h (QP r h)) {ps : List FieldType} {rt : Option FieldType} (pd : parseMethodDescriptor y.desc = some ⟨ps, rt⟩) (hl : argsL.length = ps.length) (hsize : Ls.size = c.maxLocals) {stk : List Value} (hstk : stk = argsL.reverse ++ .ref a :: rest) (W : Nat) (hW : (rest.map fun v => v.category).sum ≤ W) (hf : rm.frames + 1 ≤ R.frames) (hlo : W + (maxL + 11) + rm.locals ≤ R.locals) (hce : rm.cells = 0) (hsl : rm.slots = 0) (hrc : cells ≤ R.cells) (hrs : slots ≤ R.slots) (hd : Dec c.code pc (.invokevirtual index) 3 pc') (k : ∀ T', Stand p l e R s m args below meth c T' locs cells slots → T'.heap = h → Go p e below En (T'.setTop (mkF m pc' Ls (r :: rest)))) : Go p e below En (T.setTop (mkF m pc Ls stk)) :=
  go_virtual X hx hZ hown w1 w2 w5 w6 w3 w4 hy eT E argsL rest hC pd hl hsize hstk W hW hf hlo (by rw [hce]; exact hrc) (by rw [hsl]; exact hrs) hd (fun T' v L X' hQ => by
    obtain ⟨rfl, e', rfl⟩ := hQ
    rw [hce, hsl, List.append_nil, Nat.add_zero, Nat.add_zero] at X'
    exact k T' X' e')
theorem own_lsw {tb : Tables} [Ours tb] {target : State} {g : JFrame} (q : At T m c below) (hx : tb.exec = Jvm.exec) (hg : g.method = m) {dflt : Int} {ps : Array (Int × Int)} {len : Nat} {o : Int} {pc0 : Nat} (hpc : g.pc = pc0) (hd : decode c.code g.pc = .ok (.lookupswitch dflt ps, len)) {i : Int32} {rest : List Value} (hs : g.stack = .int i :: rest)
    (hsort : (ps.toList.zip (ps.toList.drop 1)).all (fun (a, next) => a.1 < next.1) = true) (hoff : lookupswitch.offset ps.toList dflt i.toInt = o) (ho : 0 ≤ (pc0 : Int) + o) (hp : ((pc0 : Int) + o).toNat = pc')
    (hr : Steps tb e below (T.setTop { g with pc := pc', stack := rest }) target) : Steps tb e below (T.setTop g) target := by
  subst hg hpc hp hoff
  jvm_step q [q.top, hx, hd, hs, ho, lookupswitch.wp_chain]
  exact ⟨by simpa using hsort, hr⟩
theorem go_lsw (X : Stand p l e R s m args below meth c T locs cells slots) (hx : p.tables.exec = Jvm.exec) {dflt : Int} {ps : Array (Int × Int)} {len : Nat} {x : Int32} {o : Int} (hd : decode c.code pc = .ok (.lookupswitch dflt ps, len)) (hsort : (ps.toList.zip (ps.toList.drop 1)).all (fun (a, next) => a.1 < next.1) = true) (hoff : lookupswitch.offset ps.toList dflt x.toInt = o) (ho : 0 ≤ (pc : Int) + o) (hp : ((pc : Int) + o).toNat = pt) (k : Go p e below En (T.setTop (mkF m pt Ls st))) : Go p e below En (T.setTop (mkF m pc Ls (.int x :: st))) := own_via (fun t => own_lsw (g := mkF m pc Ls (.int x :: st)) X.here hx rfl rfl hd rfl hsort hoff ho hp) k
theorem go_alen (X : Stand p l e R s m args below meth c T locs cells slots) (hx : p.tables.exec = Jvm.exec) (hZ : Z.Warmed39 s.vm) (eT : T.heap = h) {a : Addr} {cl : Cell} {ty : FieldType} (A : Arr Z h a cl ty) {z : Int32} (S : cl.slots.size = z.toNatClampNeg) (hz : ¬ z < 0) (hd : Dec c.code pc .arraylength 1 pc') (k : Go p e below En (T.setTop (mkF m pc' Ls (.int z :: st)))) : Go p e below En (T.setTop (mkF m pc Ls (.ref a :: st))) := by
  obtain ⟨hd, rfl⟩ := hd
  refine own_via (fun t q => X.arraylength hx (cell := cl) (by rw [eT]; exact A.1) (State.isArrayOf_alike hZ.alike A.2.1) (g := mkF m pc Ls (.ref a :: st)) rfl (rest := st) rfl hd _ ?_) k
  rw [len_of S hz]
  exact q
theorem go_iaload (X : Stand p l e R s m args below meth c T locs cells slots) (hx : p.tables.exec = Jvm.exec) (hZ : Z.Warmed39 s.vm) (eT : T.heap = h) {a : Addr} {cl : Cell} (A : Arr Z h a cl .int) {j : Int32} {w : Int32} (hj : ¬ (j < 0 ∨ cl.slots.size ≤ j.toNatClampNeg)) (hv : cl.slots[j.toNatClampNeg]? = some (.int w)) (hd : Dec c.code pc .iaload 1 pc') (k : Go p e below En (T.setTop (mkF m pc' Ls (.int w :: st)))) : Go p e below En (T.setTop (mkF m pc Ls (.int j :: .ref a :: st))) := by
  obtain ⟨hd, rfl⟩ := hd
  exact own_via (fun t q => X.iaload hx (j := j) (v := (.int w)) (by rw [eT]; exact A.1) (State.isArrayOf_alike hZ.alike A.2.1) A.2.2 hj hv (g := mkF m pc Ls (.int j :: .ref a :: st)) rfl rfl hd _ q) k
theorem go_laload (X : Stand p l e R s m args below meth c T locs cells slots) (hx : p.tables.exec = Jvm.exec) (hZ : Z.Warmed39 s.vm) (eT : T.heap = h) {a : Addr} {cl : Cell} (A : Arr Z h a cl .long) {j : Int32} {w : Int64} (hj : ¬ (j < 0 ∨ cl.slots.size ≤ j.toNatClampNeg)) (hv : cl.slots[j.toNatClampNeg]? = some (.long w)) (hd : Dec c.code pc .laload 1 pc') (k : Go p e below En (T.setTop (mkF m pc' Ls (.long w :: st)))) : Go p e below En (T.setTop (mkF m pc Ls (.int j :: .ref a :: st))) := by
  obtain ⟨hd, rfl⟩ := hd
  exact own_via (fun t q => X.laload hx (j := j) (v := (.long w)) (by rw [eT]; exact A.1) (State.isArrayOf_alike hZ.alike A.2.1) A.2.2 hj hv (g := mkF m pc Ls (.int j :: .ref a :: st)) rfl rfl hd _ q) k
theorem go_iastore (X : Stand p l e R s m args below meth c T locs cells slots) (hx : p.tables.exec = Jvm.exec) (hZ : Z.Warmed39 s.vm) (eT : T.heap = h) {a : Addr} {cl : Cell} (A : Arr Z h a cl .int) {j : Int32} {x : Int32} (hj : ¬ (j < 0 ∨ cl.slots.size ≤ j.toNatClampNeg)) (hd : Dec c.code pc .iastore 1 pc') (k : ∀ T' h', Stand p l e R s m args below meth c T' (locs ++ [⟨a, j.toNatClampNeg⟩]) cells slots → T'.heap = h' → Wr h h' a j.toNatClampNeg (.int x) → Go p e below En (T'.setTop (mkF m pc' Ls st))) : Go p e below En (T.setTop (mkF m pc Ls (.int x :: .int j :: .ref a :: st))) := by
  obtain ⟨hd, rfl⟩ := hd
  obtain ⟨T', h', X', e', W, q⟩ := stI X hx hZ eT A hj (g := mkF m pc Ls (.int x :: .int j :: .ref a :: st)) rfl rfl hd
  exact own_via q (k T' h' X' e' W)
theorem go_lastore (X : Stand p l e R s m args below meth c T locs cells slots) (hx : p.tables.exec = Jvm.exec) (hZ : Z.Warmed39 s.vm) (eT : T.heap = h) {a : Addr} {cl : Cell} (A : Arr Z h a cl .long) {j : Int32} {x : Int64} (hj : ¬ (j < 0 ∨ cl.slots.size ≤ j.toNatClampNeg)) (hd : Dec c.code pc .lastore 1 pc') (k : ∀ T' h', Stand p l e R s m args below meth c T' (locs ++ [⟨a, j.toNatClampNeg⟩]) cells slots → T'.heap = h' → Wr h h' a j.toNatClampNeg (.long x) → Go p e below En (T'.setTop (mkF m pc' Ls st))) : Go p e below En (T.setTop (mkF m pc Ls (.long x :: .int j :: .ref a :: st))) := by
  obtain ⟨hd, rfl⟩ := hd
  obtain ⟨T', h', X', e', W, q⟩ := stJ X hx hZ eT A hj (g := mkF m pc Ls (.long x :: .int j :: .ref a :: st)) rfl rfl hd
  exact own_via q (k T' h' X' e' W)
theorem go_castore (X : Stand p l e R s m args below meth c T locs cells slots) (hx : p.tables.exec = Jvm.exec) (hZ : Z.Warmed39 s.vm) (eT : T.heap = h) {a : Addr} {cl : Cell} (A : Arr Z h a cl .char) {j : Int32} {x : Int32} (hj : ¬ (j < 0 ∨ cl.slots.size ≤ j.toNatClampNeg)) (hd : Dec c.code pc .castore 1 pc') (k : ∀ T' h', Stand p l e R s m args below meth c T' (locs ++ [⟨a, j.toNatClampNeg⟩]) cells slots → T'.heap = h' → Wr h h' a j.toNatClampNeg (.int (nar .char x)) → Go p e below En (T'.setTop (mkF m pc' Ls st))) : Go p e below En (T.setTop (mkF m pc Ls (.int x :: .int j :: .ref a :: st))) := by
  obtain ⟨hd, rfl⟩ := hd
  obtain ⟨T', h', X', e', W, q⟩ := stC X hx hZ eT A hj (g := mkF m pc Ls (.int x :: .int j :: .ref a :: st)) rfl rfl hd
  exact own_via q (k T' h' X' e' W)
theorem go_bastore (X : Stand p l e R s m args below meth c T locs cells slots) (hx : p.tables.exec = Jvm.exec) (hZ : Z.Warmed39 s.vm) (eT : T.heap = h) {a : Addr} {cl : Cell} (A : Arr Z h a cl .byte) {j : Int32} {x : Int32} (hj : ¬ (j < 0 ∨ cl.slots.size ≤ j.toNatClampNeg)) (hd : Dec c.code pc .bastore 1 pc') (k : ∀ T' h', Stand p l e R s m args below meth c T' (locs ++ [⟨a, j.toNatClampNeg⟩]) cells slots → T'.heap = h' → Wr h h' a j.toNatClampNeg (.int (nar .byte x)) → Go p e below En (T'.setTop (mkF m pc' Ls st))) : Go p e below En (T.setTop (mkF m pc Ls (.int x :: .int j :: .ref a :: st))) := by
  obtain ⟨hd, rfl⟩ := hd
  obtain ⟨T', h', X', e', W, q⟩ := stB X hx hZ eT A hj (g := mkF m pc Ls (.int x :: .int j :: .ref a :: st)) rfl rfl hd
  exact own_via q (k T' h' X' e' W)
theorem go_zastore (X : Stand p l e R s m args below meth c T locs cells slots) (hx : p.tables.exec = Jvm.exec) (hZ : Z.Warmed39 s.vm) (eT : T.heap = h) {a : Addr} {cl : Cell} (A : Arr Z h a cl .boolean) {j : Int32} {x : Int32} (hj : ¬ (j < 0 ∨ cl.slots.size ≤ j.toNatClampNeg)) (hd : Dec c.code pc .bastore 1 pc') (k : ∀ T' h', Stand p l e R s m args below meth c T' (locs ++ [⟨a, j.toNatClampNeg⟩]) cells slots → T'.heap = h' → Wr h h' a j.toNatClampNeg (.int (nar .boolean x)) → Go p e below En (T'.setTop (mkF m pc' Ls st))) : Go p e below En (T.setTop (mkF m pc Ls (.int x :: .int j :: .ref a :: st))) := by
  obtain ⟨hd, rfl⟩ := hd
  obtain ⟨T', h', X', e', W, q⟩ := stZ X hx hZ eT A hj (g := mkF m pc Ls (.int x :: .int j :: .ref a :: st)) rfl rfl hd
  exact own_via q (k T' h' X' e' W)
abbrev QV (h0 : Heap) : Option Value → Heap → List Loc → Prop := fun v h L => v = none ∧ h = h0 ∧ L = []
theorem go_specialP (X : Stand p l e R s m args below meth c T locs cells slots) (hx : p.tables.exec = Jvm.exec) (hZ : Z.Warmed39 s.vm) {own : String} {index : Nat} {y : MethodName} (hn : y.name = "<init>") {bytes : ByteArray} {maxL : Nat} (hown : s.vm.findClass own = some m.cls) (w1 : (Jvm.Cond.methodLink own index y).before a0 Z = true) (w2 : (Jvm.Cond.instanceMethod y).before a0 Z = true) (w3 : (Jvm.Cond.initialized y.cls).before a0 Z = true) (w4 : (Jvm.Cond.code y bytes maxL none).before a0 Z = true) (hy : y.cls ≠ "java/lang/invoke/MethodHandle" ∧ y.cls ≠ "java/lang/invoke/VarHandle") (eT : T.heap = h) {rm : Room} {a : Addr} (argsL rest : List Value) (hC : Ct l Z y bytes maxL none [] rm (.ref a :: argsL).toArray h (QV h)) {ps : List FieldType} {rt : Option FieldType} (pd : parseMethodDescriptor y.desc = some ⟨ps, rt⟩) (hl : argsL.length = ps.length) (hsize : Ls.size = c.maxLocals) {stk : List Value} (hstk : stk = argsL.reverse ++ .ref a :: rest) (W : Nat) (hW : (rest.map fun v => v.category).sum ≤ W) (hf : rm.frames + 1 ≤ R.frames) (hlo : W + (maxL + 11) + rm.locals ≤ R.locals) (hce : rm.cells = 0) (hsl : rm.slots = 0) (hrc : cells ≤ R.cells) (hrs : slots ≤ R.slots) (hd : Dec c.code pc (.invokespecial index) 3 pc') (k : ∀ T', Stand p l e R s m args below meth c T' locs cells slots → T'.heap = h → Go p e below En (T'.setTop (mkF m pc' Ls rest))) : Go p e below En (T.setTop (mkF m pc Ls stk)) :=
  go_special X hx hZ hn hown w1 w2 w3 w4 hy eT argsL rest hC pd hl hsize hstk W hW hf hlo (by rw [hce]; exact hrc) (by rw [hsl]; exact hrs) hd (fun T' v L X' hQ => by
    obtain ⟨rfl, e', rfl⟩ := hQ
    rw [hce, hsl, List.append_nil, Nat.add_zero, Nat.add_zero] at X'
    exact k T' X' e')
theorem go_virtualUp (X : Stand p l e R s m args below meth c T locs cells slots) (hx : p.tables.exec = Jvm.exec) (hZ : Z.Warmed39 s.vm) {own C owner : String} {index : Nat} {x y : MethodName} {bytes : ByteArray} {maxL : Nat} {ret : Option FieldType} (hown : s.vm.findClass own = some m.cls) (w1 : (Jvm.Cond.methodLink own index x).before a0 Z = true) (w2 : (Jvm.Cond.sameMethod x.cls owner x.name x.desc).before a0 Z = true) (w7 : (Jvm.Cond.declares ⟨owner, x.name, x.desc⟩).before a0 Z = true) (w5 : (Jvm.Cond.selects C x y).before a0 Z = true) (w6 : (Jvm.Cond.instanceMethod y).before a0 Z = true) (w3 : (Jvm.Cond.initialized y.cls).before a0 Z = true) (w4 : (Jvm.Cond.code y bytes maxL ret).before a0 Z = true) (hy : owner ≠ "java/lang/invoke/MethodHandle" ∧ owner ≠ "java/lang/invoke/VarHandle") (eT : T.heap = h) {rm : Room} {a : Addr} (E : Exa Z h a C) (argsL rest : List Value) {Qc : Option Value → Heap → List Loc → Prop} (hC : Ct l Z y bytes maxL ret [] rm (.ref a :: argsL).toArray h Qc) {ps : List FieldType} {rt : Option FieldType} (pd : parseMethodDescriptor x.desc = some ⟨ps, rt⟩) (hl : argsL.length = ps.length) (hsize : Ls.size = c.maxLocals) {stk : List Value} (hstk : stk = argsL.reverse ++ .ref a :: rest) (W : Nat) (hW : (rest.map fun v => v.category).sum ≤ W) (hf : rm.frames + 1 ≤ R.frames) (hlo : W + (maxL + 11) + rm.locals ≤ R.locals) (hce : cells + rm.cells ≤ R.cells) (hsl : slots + rm.slots ≤ R.slots) (hd : Dec c.code pc (.invokevirtual index) 3 pc') (k : ∀ T' v L, Stand p l e R s m args below meth c T' (locs ++ L) (cells + rm.cells) (slots + rm.slots) → Qc v T'.heap L → Go p e below En (T'.setTop (mkF m pc' Ls (v.toList ++ rest)))) : Go p e below En (T.setTop (mkF m pc Ls stk)) := by
  obtain ⟨hd, rfl⟩ := hd
  obtain ⟨cq, kq, qa, qb, qc⟩ := isOf hZ eT E
  obtain ⟨v, _, ⟨T', L', k', n'⟩, -, X', ⟨L, hQ, l1, y1, z1⟩, q⟩ := X.virtualBackUp hx hown (mvT hZ w1) (mvT hZ w2) (mvT hZ w7) hy (mvT hZ w5) (mvT hZ w6) (backOf (W := W) hC hZ w4 w3 hf hlo) qa qc (g := mkF m pc Ls stk) rfl hsize (Steps.refl _) (argsL := argsL) (rest := rest) (lenOf pd hl) hstk (by show 2 * 0 + _ ≤ _; omega) hd (fun _ _ => ⟨rfl, eT, hce, hsl⟩)
  dsimp only [Pt.U, Pt.locs, Pt.cells, Pt.slots] at X' l1 y1 z1 q hQ
  subst l1 y1 z1
  exact own_via (fun _ => q.trans) (k T' v L X' hQ)
def PutOk (Z : State) (a0 : Array Value) (h : Heap) (a : Addr) (O n d : String) : Prop := ∃ C kk, Exa Z h a C ∧ (Jvm.Cond.lays C O n d).before a0 Z = true ∧ (Jvm.Cond.instantiable C kk).before a0 Z = true
theorem go_putN (X : Stand p l e R s m args below meth c T locs cells slots) (hx : p.tables.exec = Jvm.exec) (hZ : Z.Warmed39 s.vm) {own R0 O n d host : String} {index : Nat} {ty : FieldType} (hown : s.vm.findClass own = some m.cls) (w : (Jvm.Cond.fieldLink own index R0 n d).before a0 Z = true ∨ (Jvm.Cond.fieldLinkNest own index R0 n d host).before a0 Z = true) (via : Via Z R0 O n d) (eT : T.heap = h) {a : Addr} {v old : Value} (F : Fld Z h a O n d old) (P : PutOk Z a0 h a O n d) (hty : parseFieldDescriptor d = some ty) (hn : narrow ty v = v) (hf : fits ty v = true) (hd : Dec c.code pc (.putfield index) 3 pc') (k : ∀ T' h', Stand p l e R s m args below meth c T' (locs ++ [⟨a, Jvm.RoadKit.slotOf Z O n d⟩]) cells slots → T'.heap = h' → Wr h h' a (Jvm.RoadKit.slotOf Z O n d) v → Go p e below En (T'.setTop (mkF m pc' Ls st))) : Go p e below En (T.setTop (mkF m pc Ls (v :: .ref a :: st))) := by
  obtain ⟨C, kk, E, L, wi⟩ := P
  exact go_putF X hx hZ hown w via eT F E (Or.inl L) wi hty hn hf hd k
theorem own_staK {C n d : String} {v : Value} {h' : Heap} (F : Sta Z h C n d v) (K : Keep h h' []) : Sta Z h' C n d v := by
  obtain ⟨cf, i, k, f, st, cell, h1, h2, h3, h4, h5, r⟩ := F
  exact ⟨cf, i, k, f, st, cell, h1, h2, h3, h4, K.2.1 _ _ h5 (by simp), r⟩
theorem own_ldcW (X : Stand p l e R s m args below meth c T locs cells slots) (hexec : p.tables.exec = Jvm.exec) {own : String} {index : Nat} {v : Int32} (hown : s.vm.findClass own = some m.cls) (hconst : (Jvm.Cond.constant own index v).before args s = true) {g : JFrame} (hg : g.method = m) (hdg : decode c.code g.pc = .ok (.ldc_w index, 3)) :
    ∀ target, Steps p.tables e below (T.setTop { g with pc := g.pc + 3, stack := .int v :: g.stack }) target → Steps p.tables e below (T.setTop g) target := by
  obtain ⟨k, cf, bytes, hk, hcf, hcp, hb⟩ := Cond.constant_spec hown hconst
  obtain ⟨k', hk', he⟩ := X.warmed.alike.2.2 _ _ hk
  intro target hrest
  subst hg
  jvm_step X.here [hexec, hdg, ldc_w.wp_int (s := T) (f := g) X.here.top hk' (by rw [he]; exact hcf) hcp, hb]
  exact hrest
theorem go_ldcw (X : Stand p l e R s m args below meth c T locs cells slots) (hx : p.tables.exec = Jvm.exec) (hZ : Z.Warmed39 s.vm) {own : String} {index : Nat} {v : Int32} (hown : s.vm.findClass own = some m.cls) (w : (Jvm.Cond.constant own index v).before a0 Z = true) (hd : Dec c.code pc (.ldc_w index) 3 pc') (k : Go p e below En (T.setTop (mkF m pc' Ls (.int v :: st)))) : Go p e below En (T.setTop (mkF m pc Ls st)) := by
  obtain ⟨hd, rfl⟩ := hd
  exact own_via (fun t => own_ldcW X hx hown (mv hZ w) (g := mkF m pc Ls st) rfl hd t) k
theorem go_baload (X : Stand p l e R s m args below meth c T locs cells slots) (hx : p.tables.exec = Jvm.exec) (hZ : Z.Warmed39 s.vm) (eT : T.heap = h) {a : Addr} {cl : Cell} (A : Arr Z h a cl .byte) {j w : Int32} (hj : ¬ (j < 0 ∨ cl.slots.size ≤ j.toNatClampNeg)) (hv : cl.slots[j.toNatClampNeg]? = some (.int w)) (hd : Dec c.code pc .baload 1 pc') (k : Go p e below En (T.setTop (mkF m pc' Ls (.int w :: st)))) : Go p e below En (T.setTop (mkF m pc Ls (.int j :: .ref a :: st))) := by
  obtain ⟨hd, rfl⟩ := hd
  exact own_via (fun t q => X.baloadBytes hx (j := j) (v := (.int w)) (by rw [eT]; exact A.1) (State.isArrayOf_alike hZ.alike A.2.1) A.2.2 hj hv (g := mkF m pc Ls (.int j :: .ref a :: st)) rfl rfl hd _ q) k
theorem own_rep {n : Nat} {d : Value} : ∀ i, (List.replicate n d).getD i d = ([] : List Value).getD i d := fun i => by
  simp only [List.getD_eq_getElem?_getD, List.getElem?_replicate, List.getElem?_nil, Option.getD_none]
  split <;> rfl
theorem go_iastoreV (X : Stand p l e R s m args below meth c T locs cells slots) (hx : p.tables.exec = Jvm.exec) (hZ : Z.Warmed39 s.vm) (eT : T.heap = h) {a : Addr} {kc : ClassId} {z : Int32} {vs : List Value} {d : Value} (F : Arv Z h a kc .int z vs d) {j : Int32} {x : Int32} (q : ¬ j < 0 ∧ j < z) (i : Nat) (hj : j.toNatClampNeg = i) (hl : i < vs.length) (hd : Dec c.code pc .iastore 1 pc') (k : ∀ T' h', Stand p l e R s m args below meth c T' (locs ++ [⟨a, j.toNatClampNeg⟩]) cells slots → T'.heap = h' → Wr h h' a j.toNatClampNeg (.int x) → Arv Z h' a kc .int z (vs.set i (.int x)) d → Go p e below En (T'.setTop (mkF m pc' Ls st))) : Go p e below En (T.setTop (mkF m pc Ls (.int x :: .int j :: .ref a :: st))) := by
  obtain ⟨c1, A, q1, S, q3, H, G⟩ := F
  exact go_iastore X hx hZ eT A (inb_of S q) hd (fun T' h' X' e' W => k T' h' X' e' W (Arv.set A q1 S q3 H G rfl W i hj hl))
theorem go_lastoreV (X : Stand p l e R s m args below meth c T locs cells slots) (hx : p.tables.exec = Jvm.exec) (hZ : Z.Warmed39 s.vm) (eT : T.heap = h) {a : Addr} {kc : ClassId} {z : Int32} {vs : List Value} {d : Value} (F : Arv Z h a kc .long z vs d) {j : Int32} {x : Int64} (q : ¬ j < 0 ∧ j < z) (i : Nat) (hj : j.toNatClampNeg = i) (hl : i < vs.length) (hd : Dec c.code pc .lastore 1 pc') (k : ∀ T' h', Stand p l e R s m args below meth c T' (locs ++ [⟨a, j.toNatClampNeg⟩]) cells slots → T'.heap = h' → Wr h h' a j.toNatClampNeg (.long x) → Arv Z h' a kc .long z (vs.set i (.long x)) d → Go p e below En (T'.setTop (mkF m pc' Ls st))) : Go p e below En (T.setTop (mkF m pc Ls (.long x :: .int j :: .ref a :: st))) := by
  obtain ⟨c1, A, q1, S, q3, H, G⟩ := F
  exact go_lastore X hx hZ eT A (inb_of S q) hd (fun T' h' X' e' W => k T' h' X' e' W (Arv.set A q1 S q3 H G rfl W i hj hl))
theorem go_bastoreV (X : Stand p l e R s m args below meth c T locs cells slots) (hx : p.tables.exec = Jvm.exec) (hZ : Z.Warmed39 s.vm) (eT : T.heap = h) {a : Addr} {kc : ClassId} {z : Int32} {vs : List Value} {d : Value} (F : Arv Z h a kc .byte z vs d) {j : Int32} {x : Int32} (q : ¬ j < 0 ∧ j < z) (i : Nat) (hj : j.toNatClampNeg = i) (hl : i < vs.length) (hd : Dec c.code pc .bastore 1 pc') (k : ∀ T' h', Stand p l e R s m args below meth c T' (locs ++ [⟨a, j.toNatClampNeg⟩]) cells slots → T'.heap = h' → Wr h h' a j.toNatClampNeg (.int (nar .byte x)) → Arv Z h' a kc .byte z (vs.set i (.int (nar .byte x))) d → Go p e below En (T'.setTop (mkF m pc' Ls st))) : Go p e below En (T.setTop (mkF m pc Ls (.int x :: .int j :: .ref a :: st))) := by
  obtain ⟨c1, A, q1, S, q3, H, G⟩ := F
  exact go_bastore X hx hZ eT A (inb_of S q) hd (fun T' h' X' e' W => k T' h' X' e' W (Arv.set A q1 S q3 H G (fits_nar_byte _) W i hj hl))
theorem go_castoreV (X : Stand p l e R s m args below meth c T locs cells slots) (hx : p.tables.exec = Jvm.exec) (hZ : Z.Warmed39 s.vm) (eT : T.heap = h) {a : Addr} {kc : ClassId} {z : Int32} {vs : List Value} {d : Value} (F : Arv Z h a kc .char z vs d) {j : Int32} {x : Int32} (q : ¬ j < 0 ∧ j < z) (i : Nat) (hj : j.toNatClampNeg = i) (hl : i < vs.length) (hd : Dec c.code pc .castore 1 pc') (k : ∀ T' h', Stand p l e R s m args below meth c T' (locs ++ [⟨a, j.toNatClampNeg⟩]) cells slots → T'.heap = h' → Wr h h' a j.toNatClampNeg (.int (nar .char x)) → Arv Z h' a kc .char z (vs.set i (.int (nar .char x))) d → Go p e below En (T'.setTop (mkF m pc' Ls st))) : Go p e below En (T.setTop (mkF m pc Ls (.int x :: .int j :: .ref a :: st))) := by
  obtain ⟨c1, A, q1, S, q3, H, G⟩ := F
  exact go_castore X hx hZ eT A (inb_of S q) hd (fun T' h' X' e' W => k T' h' X' e' W (Arv.set A q1 S q3 H G (fits_nar_char _) W i hj hl))
theorem go_aastoreV (X : Stand p l e R s m args below meth c T locs cells slots) (hx : p.tables.exec = Jvm.exec) (hZ : Z.Warmed39 s.vm) (eT : T.heap = h) {a y : Addr} {C : String} {kc : ClassId} {z : Int32} {vs : List Value} {d : Value} (F : Arv Z h a kc (.object C) z vs d) (O : Ovr Z kc C) (I : Ins Z h y C true) {j : Int32} (q : ¬ j < 0 ∧ j < z) (i : Nat) (hj : j.toNatClampNeg = i) (hl : i < vs.length) (hd : Dec c.code pc .aastore 1 pc') (k : ∀ T' h', Stand p l e R s m args below meth c T' (locs ++ [⟨a, j.toNatClampNeg⟩]) cells slots → T'.heap = h' → Wr h h' a j.toNatClampNeg (.ref y) → Arv Z h' a kc (.object C) z (vs.set i (.ref y)) d → Go p e below En (T'.setTop (mkF m pc' Ls st))) : Go p e below En (T.setTop (mkF m pc Ls (.ref y :: .int j :: .ref a :: st))) := by
  obtain ⟨hd, rfl⟩ := hd
  obtain ⟨c1, A, q1, S, q3, H, G⟩ := F
  obtain ⟨T', h', X', e', W, r⟩ := stR X hx hZ eT A (inb_of S q) rfl (Sto.of A (by rw [q1]; exact O) I) (g := mkF m pc Ls (.ref y :: .int j :: .ref a :: st)) rfl rfl hd
  exact own_via r (k T' h' X' e' W (Arv.set A q1 S q3 H G rfl W i hj hl))
theorem go_newR (X : Stand p l e R s m args below meth c T locs cells slots) (hx : p.tables.exec = Jvm.exec) (hZ : Z.Warmed39 s.vm) {own C : String} {index : Nat} (hown : s.vm.findClass own = some m.cls) (w1 : (Jvm.Cond.classLink own index C).before a0 Z = true) (w2 : (Jvm.Cond.arrayOver (.object C)).before a0 Z = true) (eT : T.heap = h) (hd : Dec c.code pc (.anewarray index) 3 pc') {n : Int32} (hn : ¬ n < 0) (cap : Nat) (hcap : n.toNatClampNeg ≤ cap) (hb : cap * 8 ≤ 536870912) (hc : cells + 1 ≤ R.cells) (hl : slots + cap ≤ R.slots) (k : ∀ T' h' cA (a : Addr), a = h.size → Stand p l e R s m args below meth c T' locs (cells + 1) (slots + cap) → T'.heap = h' → Ext h h' → Arr Z h' a (newA cA (.object C) n) (.object C) → Ovr Z cA C → Go p e below En (T'.setTop (mkF m pc' Ls (.ref a :: st)))) : Go p e below En (T.setTop (mkF m pc Ls (.int n :: st))) := by
  obtain ⟨hd, rfl⟩ := hd
  obtain ⟨T', h', cA, X', e', E, A, O, q⟩ := newR X hx hZ hown w1 w2 eT (g := mkF m pc Ls (.int n :: st)) rfl hd rfl hn hcap hb hc hl
  exact own_via q (k T' h' cA _ rfl X' e' E A O)
theorem go_ialoadV (X : Stand p l e R s m args below meth c T locs cells slots) (hx : p.tables.exec = Jvm.exec) (hZ : Z.Warmed39 s.vm) (eT : T.heap = h) {a : Addr} {kc : ClassId} {z : Int32} {vs : List Value} {d : Value} (F : Arv Z h a kc .int z vs d) {j : Int32} {w : Int32} (q : ¬ j < 0 ∧ j < z) (hv : vs.getD j.toNatClampNeg d = .int w) (hd : Dec c.code pc .iaload 1 pc') (k : Go p e below En (T.setTop (mkF m pc' Ls (.int w :: st)))) : Go p e below En (T.setTop (mkF m pc Ls (.int j :: .ref a :: st))) := by
  obtain ⟨c1, A, q1, S, q3, H, G⟩ := F
  have hin := inb_of S q
  exact go_iaload X hx hZ eT A hin (by rw [H _ (Nat.lt_of_not_le fun r => hin (Or.inr r)), hv]) hd k
theorem go_laloadV (X : Stand p l e R s m args below meth c T locs cells slots) (hx : p.tables.exec = Jvm.exec) (hZ : Z.Warmed39 s.vm) (eT : T.heap = h) {a : Addr} {kc : ClassId} {z : Int32} {vs : List Value} {d : Value} (F : Arv Z h a kc .long z vs d) {j : Int32} {w : Int64} (q : ¬ j < 0 ∧ j < z) (hv : vs.getD j.toNatClampNeg d = .long w) (hd : Dec c.code pc .laload 1 pc') (k : Go p e below En (T.setTop (mkF m pc' Ls (.long w :: st)))) : Go p e below En (T.setTop (mkF m pc Ls (.int j :: .ref a :: st))) := by
  obtain ⟨c1, A, q1, S, q3, H, G⟩ := F
  have hin := inb_of S q
  exact go_laload X hx hZ eT A hin (by rw [H _ (Nat.lt_of_not_le fun r => hin (Or.inr r)), hv]) hd k
theorem go_baloadV (X : Stand p l e R s m args below meth c T locs cells slots) (hx : p.tables.exec = Jvm.exec) (hZ : Z.Warmed39 s.vm) (eT : T.heap = h) {a : Addr} {kc : ClassId} {z : Int32} {vs : List Value} {d : Value} (F : Arv Z h a kc .byte z vs d) {j : Int32} {w : Int32} (q : ¬ j < 0 ∧ j < z) (hv : vs.getD j.toNatClampNeg d = .int w) (hd : Dec c.code pc .baload 1 pc') (k : Go p e below En (T.setTop (mkF m pc' Ls (.int w :: st)))) : Go p e below En (T.setTop (mkF m pc Ls (.int j :: .ref a :: st))) := by
  obtain ⟨c1, A, q1, S, q3, H, G⟩ := F
  have hin := inb_of S q
  exact go_baload X hx hZ eT A hin (by rw [H _ (Nat.lt_of_not_le fun r => hin (Or.inr r)), hv]) hd k
theorem go_aaloadV (X : Stand p l e R s m args below meth c T locs cells slots) (hx : p.tables.exec = Jvm.exec) (hZ : Z.Warmed39 s.vm) (eT : T.heap = h) {a : Addr} {kc : ClassId} {ty : FieldType} (hty : ty.isReference = true) {z : Int32} {vs : List Value} {d : Value} (F : Arv Z h a kc ty z vs d) {j : Int32} {v : Value} (q : ¬ j < 0 ∧ j < z) (hv : vs.getD j.toNatClampNeg d = v) (hd : Dec c.code pc .aaload 1 pc') (k : Go p e below En (T.setTop (mkF m pc' Ls (v :: st)))) : Go p e below En (T.setTop (mkF m pc Ls (.int j :: .ref a :: st))) := by
  obtain ⟨hd, rfl⟩ := hd
  obtain ⟨c1, A, q1, S, q3, H, G⟩ := F
  have hin := inb_of S q
  exact own_via (fun t r => X.aaload hx (j := j) (v := v) (by rw [eT]; exact A.1) (State.isArrayOf_alike hZ.alike A.2.1) hty A.2.2 hin (by rw [H _ (Nat.lt_of_not_le fun r => hin (Or.inr r)), hv]) (g := mkF m pc Ls (.int j :: .ref a :: st)) rfl rfl hd _ r) k
theorem go_caload (X : Stand p l e R s m args below meth c T locs cells slots) (hx : p.tables.exec = Jvm.exec) (hZ : Z.Warmed39 s.vm) (eT : T.heap = h) {a : Addr} {cl : Cell} (A : Arr Z h a cl .char) {j w : Int32} (hj : ¬ (j < 0 ∨ cl.slots.size ≤ j.toNatClampNeg)) (hv : cl.slots[j.toNatClampNeg]? = some (.int w)) (hd : Dec c.code pc .caload 1 pc') (k : Go p e below En (T.setTop (mkF m pc' Ls (.int w :: st)))) : Go p e below En (T.setTop (mkF m pc Ls (.int j :: .ref a :: st))) := by
  obtain ⟨hd, rfl⟩ := hd
  exact own_via (fun t q => X.caload hx (j := j) (v := (.int w)) (by rw [eT]; exact A.1) (State.isArrayOf_alike hZ.alike A.2.1) A.2.2 hj hv (g := mkF m pc Ls (.int j :: .ref a :: st)) rfl rfl hd _ q) k
theorem go_caloadV (X : Stand p l e R s m args below meth c T locs cells slots) (hx : p.tables.exec = Jvm.exec) (hZ : Z.Warmed39 s.vm) (eT : T.heap = h) {a : Addr} {kc : ClassId} {z : Int32} {vs : List Value} {d : Value} (F : Arv Z h a kc .char z vs d) {j : Int32} {w : Int32} (q : ¬ j < 0 ∧ j < z) (hv : vs.getD j.toNatClampNeg d = .int w) (hd : Dec c.code pc .caload 1 pc') (k : Go p e below En (T.setTop (mkF m pc' Ls (.int w :: st)))) : Go p e below En (T.setTop (mkF m pc Ls (.int j :: .ref a :: st))) := by
  obtain ⟨c1, A, q1, S, q3, H, G⟩ := F
  have hin := inb_of S q
  exact go_caload X hx hZ eT A hin (by rw [H _ (Nat.lt_of_not_le fun r => hin (Or.inr r)), hv]) hd k
theorem own_narC {w : Int32} (h : fits .char (.int w) = true) : nar .char w = w := by
  have h1 := c_i2c w
  change (decide ((0 : Int32) ≤ w) && decide (w ≤ (65535 : Int32))) = true at h
  simp only [Bool.and_eq_true, decide_eq_true_eq] at h
  rw [Int32.le_iff_toInt_le, Int32.le_iff_toInt_le, show (0 : Int32).toInt = 0 from rfl, show (65535 : Int32).toInt = 65535 from rfl] at h
  have h3 : (nar .char w).toInt = w.toInt := by
    show w.toUInt32.toUInt16.toUInt32.toInt32.toInt = w.toInt
    omega
  exact Int32.toInt_inj.mp h3
theorem go_interface (X : Stand p l e R s m args below meth c T locs cells slots) (hx : p.tables.exec = Jvm.exec) (hZ : Z.Warmed39 s.vm) {own C : String} {index count : Nat} {x y : MethodName} {bytes : ByteArray} {maxL : Nat} {ret : Option FieldType} (hown : s.vm.findClass own = some m.cls) (w1 : (Jvm.Cond.methodLink own index x).before a0 Z = true) (w2 : (Jvm.Cond.declares x).before a0 Z = true) (w7 : (Jvm.Cond.interfaceMethod x.cls x.cls x.name x.desc).before a0 Z = true) (k7 : ((Jvm.Cond.interfaceMethod x.cls x.cls x.name x.desc).onTables && (Jvm.Cond.interfaceMethod x.cls x.cls x.name x.desc).keepsFace) = true) (w5 : (Jvm.Cond.selects C x y).before a0 Z = true) (w6 : (Jvm.Cond.instanceMethod y).before a0 Z = true) (w8 : (Jvm.Cond.publicMethod y).before a0 Z = true) (w9 : (Jvm.Cond.unhidden C x.name x.desc).before a0 Z = true) (w10 : (Jvm.Cond.castable C x.cls).before a0 Z = true) (w3 : (Jvm.Cond.initialized y.cls).before a0 Z = true) (w4 : (Jvm.Cond.code y bytes maxL ret).before a0 Z = true) (hy : x.cls ≠ "java/lang/invoke/MethodHandle" ∧ x.cls ≠ "java/lang/invoke/VarHandle") (eT : T.heap = h) {rm : Room} {a : Addr} (E : Exa Z h a C) (argsL rest : List Value) {Qc : Option Value → Heap → List Loc → Prop} (hC : Ct l Z y bytes maxL ret [] rm (.ref a :: argsL).toArray h Qc) {ps : List FieldType} {rt : Option FieldType} (pd : parseMethodDescriptor x.desc = some ⟨ps, rt⟩) (hl : argsL.length = ps.length) (hsize : Ls.size = c.maxLocals) {stk : List Value} (hstk : stk = argsL.reverse ++ .ref a :: rest) (W : Nat) (hW : (rest.map fun v => v.category).sum ≤ W) (hf : rm.frames + 1 ≤ R.frames) (hlo : W + (maxL + 11) + rm.locals ≤ R.locals) (hce : cells + rm.cells ≤ R.cells) (hsl : slots + rm.slots ≤ R.slots) (hd : Dec c.code pc (.invokeinterface index count) 5 pc') (k : ∀ T' v L, Stand p l e R s m args below meth c T' (locs ++ L) (cells + rm.cells) (slots + rm.slots) → Qc v T'.heap L → Go p e below En (T'.setTop (mkF m pc' Ls (v.toList ++ rest)))) : Go p e below En (T.setTop (mkF m pc Ls stk)) := by
  obtain ⟨hd, rfl⟩ := hd
  obtain ⟨cq, kq, qa, qb, qc⟩ := isOf hZ eT E
  obtain ⟨v, _, ⟨T', L', k', n'⟩, -, X', ⟨L, hQ, l1, y1, z1⟩, q⟩ := X.interfaceBack hx hown (mvT hZ w1) (mvT hZ w2) (mvT hZ w7 k7) (mvT hZ w5) (mvT hZ w6) (mvT hZ w8) (mvT hZ w9) (mvT hZ w10) hy (backOf (W := W) hC hZ w4 w3 hf hlo) qa qb qc (g := mkF m pc Ls stk) rfl hsize (Steps.refl _) (argsL := argsL) (rest := rest) (lenOf pd hl) hstk (by show 2 * 0 + _ ≤ _; omega) hd (fun _ _ => ⟨rfl, eT, hce, hsl⟩)
  dsimp only [Pt.U, Pt.locs, Pt.cells, Pt.slots] at X' l1 y1 z1 q hQ
  subst l1 y1 z1
  exact own_via (fun _ => q.trans) (k T' v L X' hQ)
theorem go_interfaceP (X : Stand p l e R s m args below meth c T locs cells slots) (hx : p.tables.exec = Jvm.exec) (hZ : Z.Warmed39 s.vm) {own C : String} {index count : Nat} {x y : MethodName} {bytes : ByteArray} {maxL : Nat} {ret : Option FieldType} (hown : s.vm.findClass own = some m.cls) (w1 : (Jvm.Cond.methodLink own index x).before a0 Z = true) (w2 : (Jvm.Cond.declares x).before a0 Z = true) (w7 : (Jvm.Cond.interfaceMethod x.cls x.cls x.name x.desc).before a0 Z = true) (k7 : ((Jvm.Cond.interfaceMethod x.cls x.cls x.name x.desc).onTables && (Jvm.Cond.interfaceMethod x.cls x.cls x.name x.desc).keepsFace) = true) (w5 : (Jvm.Cond.selects C x y).before a0 Z = true) (w6 : (Jvm.Cond.instanceMethod y).before a0 Z = true) (w8 : (Jvm.Cond.publicMethod y).before a0 Z = true) (w9 : (Jvm.Cond.unhidden C x.name x.desc).before a0 Z = true) (w10 : (Jvm.Cond.castable C x.cls).before a0 Z = true) (w3 : (Jvm.Cond.initialized y.cls).before a0 Z = true) (w4 : (Jvm.Cond.code y bytes maxL ret).before a0 Z = true) (hy : x.cls ≠ "java/lang/invoke/MethodHandle" ∧ x.cls ≠ "java/lang/invoke/VarHandle") (eT : T.heap = h) {rm : Room} {a : Addr} (E : Exa Z h a C) (argsL rest : List Value) {r : Value} (hC : Ct l Z y bytes maxL ret [] rm (.ref a :: argsL).toArray h (QP r h)) {ps : List FieldType} {rt : Option FieldType} (pd : parseMethodDescriptor x.desc = some ⟨ps, rt⟩) (hl : argsL.length = ps.length) (hsize : Ls.size = c.maxLocals) {stk : List Value} (hstk : stk = argsL.reverse ++ .ref a :: rest) (W : Nat) (hW : (rest.map fun v => v.category).sum ≤ W) (hf : rm.frames + 1 ≤ R.frames) (hlo : W + (maxL + 11) + rm.locals ≤ R.locals) (hce : rm.cells = 0) (hsl : rm.slots = 0) (hrc : cells ≤ R.cells) (hrs : slots ≤ R.slots) (hd : Dec c.code pc (.invokeinterface index count) 5 pc') (k : ∀ T', Stand p l e R s m args below meth c T' locs cells slots → T'.heap = h → Go p e below En (T'.setTop (mkF m pc' Ls (r :: rest)))) : Go p e below En (T.setTop (mkF m pc Ls stk)) :=
  go_interface X hx hZ hown w1 w2 w7 k7 w5 w6 w8 w9 w10 w3 w4 hy eT E argsL rest hC pd hl hsize hstk W hW hf hlo (by rw [hce]; exact hrc) (by rw [hsl]; exact hrs) hd (fun T' v L X' hQ => by
    obtain ⟨rfl, e', rfl⟩ := hQ
    rw [hce, hsl, List.append_nil, Nat.add_zero, Nat.add_zero] at X'
    exact k T' X' e')
theorem own_named {s : State} {e : Env} {args : Array Value} {cls : String} {index cur : Nat} {x : MethodName} (hcur : s.vm.findClass cls = some cur) (h : (Jvm.Cond.methodRef cls index x).before args s = true) : ∃ m c', s.methodFound? x.cls x.name x.desc = some m ∧ s.vm.methodReady cur index m ∧ s.vm.findClass x.cls = some c' ∧ namesResolved s.vm cur index c' := by
  obtain ⟨m, c', ci, b, h1, h2, h3, h4, h5⟩ := Cond.methodRef_spec (e := e) hcur h
  refine ⟨m, c', h1, h2, h3, ?_⟩
  simp only [Cond.before, Cond.holds, Cond.value, hcur, h1, beq_iff_eq, Option.some.injEq, Bool.and_eq_true, decide_eq_true_eq] at h
  obtain ⟨⟨hnames, -⟩, -⟩ := h
  obtain ⟨cp, hcp, hn⟩ := State.names_spec hnames
  obtain ⟨ci', nt, hentry, hnt, -⟩ := namesOf?_method hn
  obtain ⟨k, cf, hk, hcf, rfl⟩ := State.poolOf?_spec hcur hcp
  obtain ⟨b', hask⟩ := memberRef_ask' (e := e) hk hcf hentry hnt
  rw [h4] at hask
  injection hask with q
  obtain rfl : ci = ci' := congrArg Prod.fst q
  exact ⟨k, cf, ci, nt, hk, hcf, hentry, h5⟩
theorem own_initRef (X : Stand p l e R s m args below meth c T locs cells slots) (hx : p.tables.exec = Jvm.exec) (hZ : Z.Warmed39 s.vm) {own : String} {index : Nat} {y : MethodName} (hn : y.name = "<init>") {bytes : ByteArray} {maxL : Nat} (hown : s.vm.findClass own = some m.cls) (w1 : (Jvm.Cond.methodRef own index y).before a0 Z = true) (w2 : (Jvm.Cond.instanceMethod y).before a0 Z = true) (w4 : (Jvm.Cond.code y bytes maxL none).before a0 Z = true) (hy : y.cls ≠ "java/lang/invoke/MethodHandle" ∧ y.cls ≠ "java/lang/invoke/VarHandle") {g : JFrame} (hg : g.method = m) {a : Addr} {argsL rest : List Value} (hlen : ∀ sig, parseMethodDescriptor y.desc = some sig → argsL.length = sig.parameters.length) (hstack : g.stack = argsL.reverse ++ .ref a :: rest) (hd : decode c.code g.pc = .ok (.invokespecial index, 3)) : ∃ mk, s.methodNamed? y = some mk ∧ ∀ target, (∀ acts, Steps p.tables e below (doInvoke e (T.setTop { g with stack := rest }) acts mk (.ref a :: argsL).toArray).1 target) → Steps p.tables e below (T.setTop g) target := by
  subst hg
  have hU : Z.Warmed39 T.vm := wtrans hZ X.warmed
  obtain ⟨ob, _, hnZ, -⟩ := Cond.instanceMethod_spec w2
  have w1' := Cond.methodRef_warmed39 hU hnZ hy w1
  have w2' : (Jvm.Cond.instanceMethod y).before args s = true := mvT hZ w2
  have w4' : (Jvm.Cond.code y bytes maxL none).before args s = true := mvT hZ w4
  obtain ⟨obj, methO, hnO, hmO, hstO, habO⟩ := Cond.instanceMethod_spec w2'
  obtain ⟨methO', cO, hmO', hcO, hbO, hlO, -, hlockO, -, hsigO⟩ := Cond.code_spec hnO w4'
  cases hmO.symm.trans hmO'
  have hcurT : T.vm.findClass own = some g.method.cls := by rw [X.warmed.alike.findClass]; exact hown
  obtain ⟨m', c', h1, h2, h3, h5⟩ := own_named (s := Z.setVm T.vm) (e := e) hcurT w1'
  have hnT := X.named hnO
  have h1' : T.methodFound? y.cls y.name y.desc = some m' := h1
  cases h1'.symm.trans (State.methodFound?_of_named hnT hy)
  have h3' : T.vm.findClass y.cls = some c' := h3
  cases h3'.symm.trans (findClass_of_methodNamed hnT)
  obtain ⟨kO, hkO, hnameO⟩ := className_of_methodNamed hnO
  obtain ⟨hnameMO, hdescO⟩ := name_of_methodNamed hnO hmO
  obtain ⟨kT, hkT, heT⟩ := X.warmed.alike.2.2 _ _ hkO
  have hmT : T.vm.method? obj = some methO := by rw [X.warmed.alike.method?]; exact hmO
  have hfound : lookupSpecial T.vm obj.cls "<init>" methO.desc = .method obj := by
    rw [X.warmed.alike.lookupSpecial, hdescO, ← hn]; exact lookupSpecial_of_named hnO hmO hstO
  refine ⟨obj, hnO, fun target hrest => ?_⟩
  jvm_step X.here [hx, hd, invokespecial.wp_init (e := e) (s := T) (k := kT) (meth := methO) (m := obj) (a := a) (args := argsL) (rest := rest) (f := g) X.here.top h5 h2 hkT hmT (by rw [hnameMO]; exact hn) hstO habO hfound (hlen _ hsigO) hstack]
  exact hrest
theorem go_specialR (X : Stand p l e R s m args below meth c T locs cells slots) (hx : p.tables.exec = Jvm.exec) (hZ : Z.Warmed39 s.vm) {own : String} {index : Nat} {y : MethodName} (hn : y.name = "<init>") {bytes : ByteArray} {maxL : Nat} (hown : s.vm.findClass own = some m.cls) (w1 : (Jvm.Cond.methodRef own index y).before a0 Z = true) (w2 : (Jvm.Cond.instanceMethod y).before a0 Z = true) (w3 : (Jvm.Cond.initialized y.cls).before a0 Z = true) (w4 : (Jvm.Cond.code y bytes maxL none).before a0 Z = true) (hy : y.cls ≠ "java/lang/invoke/MethodHandle" ∧ y.cls ≠ "java/lang/invoke/VarHandle") (eT : T.heap = h) {rm : Room} {a : Addr} (argsL rest : List Value) {Qc : Option Value → Heap → List Loc → Prop} (hC : Ct l Z y bytes maxL none [] rm (.ref a :: argsL).toArray h Qc) {ps : List FieldType} {rt : Option FieldType} (pd : parseMethodDescriptor y.desc = some ⟨ps, rt⟩) (hl : argsL.length = ps.length) (hsize : Ls.size = c.maxLocals) {stk : List Value} (hstk : stk = argsL.reverse ++ .ref a :: rest) (W : Nat) (hW : (rest.map fun v => v.category).sum ≤ W) (hf : rm.frames + 1 ≤ R.frames) (hlo : W + (maxL + 11) + rm.locals ≤ R.locals) (hce : cells + rm.cells ≤ R.cells) (hsl : slots + rm.slots ≤ R.slots) (hd : Dec c.code pc (.invokespecial index) 3 pc') (k : ∀ T' v L, Stand p l e R s m args below meth c T' (locs ++ L) (cells + rm.cells) (slots + rm.slots) → Qc v T'.heap L → Go p e below En (T'.setTop (mkF m pc' Ls (v.toList ++ rest)))) : Go p e below En (T.setTop (mkF m pc Ls stk)) := by
  obtain ⟨hd, rfl⟩ := hd
  obtain ⟨mk, hnamed, hstep⟩ := own_initRef X hx hZ hn hown w1 w2 w4 hy (g := mkF m pc Ls stk) rfl (argsL := argsL) (rest := rest) (lenOf pd hl) hstk hd
  obtain ⟨v, ⟨T', L', k', n'⟩, X', ⟨L, hQ, l1, y1, z1⟩, q⟩ := X.back (backOf (W := W) hC hZ w4 w3 hf hlo) (g := mkF m pc Ls rest) rfl hsize (by show 2 * 0 + (rest.map fun v => v.category).sum ≤ W; omega) hd (X.named hnamed) ⟨rfl, eT, hce, hsl⟩ (hstep _ fun acts => by rw [doInvoke_state]; exact Steps.refl _)
  dsimp only [Pt.U, Pt.locs, Pt.cells, Pt.slots] at X' l1 y1 z1 q hQ
  subst l1 y1 z1
  exact own_via (fun _ => q.trans) (k T' v L X' hQ)
end OwnGo
def own_b (P : Prop) [Decidable P] : Int32 := if P then 1 else 0
theorem own_b0 {P : Prop} [Decidable P] : own_b P = 0 ↔ ¬ P := by unfold own_b; by_cases h : P <;> simp [h]
theorem own_bT {P : Prop} [Decidable P] (h : P) : own_b P = 1 := by unfold own_b; simp [h]
theorem own_bF {P : Prop} [Decidable P] (h : ¬ P) : own_b P = 0 := by unfold own_b; simp [h]
theorem own_bC {P Q : Prop} [Decidable P] [Decidable Q] (h : P ↔ Q) : own_b P = own_b Q := by unfold own_b; by_cases q : P <;> simp [q, h.symm] <;> simp [← h, q]


def own_R (Z : State) (h : Heap) (a t st en : Addr) (kS kE : ClassId) (n : Int32) (vs ve : List Value) : Prop := Exa Z h a "com/example/strict_tariff/stricttariff/io/CsvRow" ∧ Fld Z h a "com/example/strict_tariff/stricttariff/io/CsvRow" "text" "[C" (.ref t) ∧ Fld Z h a "com/example/strict_tariff/stricttariff/io/CsvRow" "starts" "[I" (.ref st) ∧ Fld Z h a "com/example/strict_tariff/stricttariff/io/CsvRow" "ends" "[I" (.ref en) ∧ Fld Z h a "com/example/strict_tariff/stricttariff/io/CsvRow" "size" "I" (.int n) ∧ Arv Z h st kS .int 16 vs (.int 0) ∧ Arv Z h en kE .int 16 ve (.int 0) ∧ a ≠ st ∧ a ≠ en ∧ en ≠ st
def own_T (Z : State) (h : Heap) (c t : Addr) (x y : Int32) : Prop := Exa Z h c "com/example/strict_tariff/stricttariff/io/CsvRow$Text" ∧ Fld Z h c "com/example/strict_tariff/stricttariff/io/CsvRow$Text" "buffer" "[C" (.ref t) ∧ Fld Z h c "com/example/strict_tariff/stricttariff/io/CsvRow$Text" "from" "I" (.int x) ∧ Fld Z h c "com/example/strict_tariff/stricttariff/io/CsvRow$Text" "to" "I" (.int y)
theorem own_T.wr {Z : State} {h h' : Heap} {c t b : Addr} {x y : Int32} {sl : Nat} {v : Value} (F : own_T Z h c t x y) (W : Wr h h' b sl v) (q : c ≠ b) : own_T Z h' c t x y := ⟨F.1.wr W, F.2.1.other W (Or.inl q), F.2.2.1.other W (Or.inl q), F.2.2.2.other W (Or.inl q)⟩
def own_min (x y : Int32) : Int32 := if y < x then y else x
def own_max (x y : Int32) : Int32 := if x < y then y else x
theorem own_m5 (x : Int32) : 0 ≤ ((x &&& 7) % 5).toInt ∧ ((x &&& 7) % 5).toInt ≤ 4 := by
  have h1 := c_mask x 7 3 (by decide) (by decide)
  have h2 := (c_iremV (x &&& 7) 5).1 (by rw [h1]; omega) (by decide)
  have h3 : (5 : Int32).toInt = 5 := rfl
  omega
theorem own_mm {x y : Int32} (hx : 0 ≤ x.toInt ∧ x.toInt ≤ 4) (hy : 0 ≤ y.toInt ∧ y.toInt ≤ 4) : 0 ≤ (own_min x y).toInt ∧ (own_min x y).toInt ≤ (own_max x y).toInt ∧ (own_max x y).toInt ≤ 4 := by
  unfold own_min own_max
  simp only [Int32.lt_iff_toInt_lt]
  by_cases q : x.toInt < y.toInt
  · have q' : ¬ y.toInt < x.toInt := by omega
    simp only [q, q', if_true, if_false]; omega
  · by_cases q' : y.toInt < x.toInt
    · simp only [q, q', if_true, if_false]; omega
    · simp only [q, q', if_false]; omega
theorem own_two (x : Int32) : x &&& 1 = 0 ∨ x &&& 1 = 1 := by
  have h1 := c_mask x 1 1 (by decide) (by decide)
  simp only [← Int32.toInt_inj, show (0 : Int32).toInt = 0 from rfl, show (1 : Int32).toInt = 1 from rfl]
  omega
theorem own_four (x : Int32) : ¬ (x &&& 3) < 0 ∧ (x &&& 3) < 4 := by
  have h1 := c_mask x 3 2 (by decide) (by decide)
  rw [Int32.lt_iff_toInt_lt, Int32.lt_iff_toInt_lt, show (0 : Int32).toInt = 0 from rfl, show (4 : Int32).toInt = 4 from rfl]
  omega
theorem own_nat4 {j : Int32} (h : ¬ j < 0 ∧ j < 4) : j.toNatClampNeg < 4 := by
  rw [Int32.lt_iff_toInt_lt, Int32.lt_iff_toInt_lt, show (0 : Int32).toInt = 0 from rfl, show (4 : Int32).toInt = 4 from rfl] at h
  show j.toInt.toNat < 4
  omega
theorem own_set4 (c0 c1 c2 c3 x : Int32) : ∀ j, j < 4 → ∃ d0 d1 d2 d3 : Int32, [Value.int c0, .int c1, .int c2, .int c3].set j (.int x) = [.int d0, .int d1, .int d2, .int d3]
  | 0, _ => ⟨x, c1, c2, c3, rfl⟩
  | 1, _ => ⟨c0, x, c2, c3, rfl⟩
  | 2, _ => ⟨c0, c1, x, c3, rfl⟩
  | 3, _ => ⟨c0, c1, c2, x, rfl⟩
  | k + 4, h => absurd h (by omega)
theorem own_get4 (c0 c1 c2 c3 : Int32) : ∀ j : Nat, ∃ w : Int32, [Value.int c0, .int c1, .int c2, .int c3].getD j (.int 0) = .int w
  | 0 => ⟨c0, rfl⟩
  | 1 => ⟨c1, rfl⟩
  | 2 => ⟨c2, rfl⟩
  | 3 => ⟨c3, rfl⟩
  | k + 4 => ⟨0, rfl⟩
theorem own_pick {Z : State} {h : Heap} {b : Addr} {kB : ClassId} {c0 c1 c2 c3 j : Int32} (F : Arv Z h b kB .char 4 [.int c0, .int c1, .int c2, .int c3] (.int 0)) (q : ¬ j < 0 ∧ j < 4) : ∃ w : Int32, [Value.int c0, .int c1, .int c2, .int c3].getD j.toNatClampNeg (.int 0) = .int w ∧ nar .char w = w := by
  obtain ⟨w, hw⟩ := own_get4 c0 c1 c2 c3 j.toNatClampNeg
  obtain ⟨c1, A, q1, S, q3, H, G⟩ := F
  have hin := inb_of S q
  have g := G _ (Nat.lt_of_not_le fun r => hin (Or.inr r))
  rw [hw] at g
  exact ⟨w, hw, own_narC g⟩
theorem own_ix {x y i : Int32} (hxy : 0 ≤ x.toInt ∧ x.toInt ≤ y.toInt ∧ y.toInt ≤ 4) (hi : ¬ i < 0) (hl : i < y - x) : ¬ (x + i) < 0 ∧ (x + i) < 4 := by
  have h1 := c_isub y x
  have h2 := c_iadd x i
  have b1 := (y - x).toInt_lt; have b2 := (y - x).le_toInt; have b3 := (x + i).toInt_lt; have b4 := (x + i).le_toInt; have b5 := i.toInt_lt; have b6 := i.le_toInt
  rw [Int32.lt_iff_toInt_lt, show (0 : Int32).toInt = 0 from rfl] at hi
  rw [Int32.lt_iff_toInt_lt] at hl
  rw [Int32.lt_iff_toInt_lt, Int32.lt_iff_toInt_lt, show (0 : Int32).toInt = 0 from rfl, show (4 : Int32).toInt = 4 from rfl]
  omega

theorem own_sl_text_starts {Z : State} {a0 : Array Value} (hw : ∀ d ∈ tables_1, d.before a0 Z = true) : Jvm.RoadKit.slotOf Z "com/example/strict_tariff/stricttariff/io/CsvRow" "text" "[C" ≠ Jvm.RoadKit.slotOf Z "com/example/strict_tariff/stricttariff/io/CsvRow" "starts" "[I" := slot_ne (C := "com/example/strict_tariff/stricttariff/io/CsvRow") (Or.inl (hw _ (List.mem_of_getElem? (i := 19) rfl))) (Or.inl (hw _ (List.mem_of_getElem? (i := 22) rfl))) (by decide) (t := .array .char) (by decide) (t' := .array .int) (by decide)
theorem own_sl_text_ends {Z : State} {a0 : Array Value} (hw : ∀ d ∈ tables_1, d.before a0 Z = true) : Jvm.RoadKit.slotOf Z "com/example/strict_tariff/stricttariff/io/CsvRow" "text" "[C" ≠ Jvm.RoadKit.slotOf Z "com/example/strict_tariff/stricttariff/io/CsvRow" "ends" "[I" := slot_ne (C := "com/example/strict_tariff/stricttariff/io/CsvRow") (Or.inl (hw _ (List.mem_of_getElem? (i := 19) rfl))) (Or.inl (hw _ (List.mem_of_getElem? (i := 24) rfl))) (by decide) (t := .array .char) (by decide) (t' := .array .int) (by decide)
theorem own_sl_text_taken {Z : State} {a0 : Array Value} (hw : ∀ d ∈ tables_1, d.before a0 Z = true) : Jvm.RoadKit.slotOf Z "com/example/strict_tariff/stricttariff/io/CsvRow" "text" "[C" ≠ Jvm.RoadKit.slotOf Z "com/example/strict_tariff/stricttariff/io/CsvRow" "taken" "[Ljava/lang/String;" := slot_ne (C := "com/example/strict_tariff/stricttariff/io/CsvRow") (Or.inl (hw _ (List.mem_of_getElem? (i := 19) rfl))) (Or.inl (hw _ (List.mem_of_getElem? (i := 28) rfl))) (by decide) (t := .array .char) (by decide) (t' := .array (.object "java/lang/String")) (by decide)
theorem own_sl_text_size {Z : State} {a0 : Array Value} (hw : ∀ d ∈ tables_1, d.before a0 Z = true) : Jvm.RoadKit.slotOf Z "com/example/strict_tariff/stricttariff/io/CsvRow" "text" "[C" ≠ Jvm.RoadKit.slotOf Z "com/example/strict_tariff/stricttariff/io/CsvRow" "size" "I" := slot_ne (C := "com/example/strict_tariff/stricttariff/io/CsvRow") (Or.inl (hw _ (List.mem_of_getElem? (i := 19) rfl))) (Or.inl (hw _ (List.mem_of_getElem? (i := 40) rfl))) (by decide) (t := .array .char) (by decide) (t' := .int) (by decide)
theorem own_sl_starts_text {Z : State} {a0 : Array Value} (hw : ∀ d ∈ tables_1, d.before a0 Z = true) : Jvm.RoadKit.slotOf Z "com/example/strict_tariff/stricttariff/io/CsvRow" "starts" "[I" ≠ Jvm.RoadKit.slotOf Z "com/example/strict_tariff/stricttariff/io/CsvRow" "text" "[C" := slot_ne (C := "com/example/strict_tariff/stricttariff/io/CsvRow") (Or.inl (hw _ (List.mem_of_getElem? (i := 22) rfl))) (Or.inl (hw _ (List.mem_of_getElem? (i := 19) rfl))) (by decide) (t := .array .int) (by decide) (t' := .array .char) (by decide)
theorem own_sl_starts_ends {Z : State} {a0 : Array Value} (hw : ∀ d ∈ tables_1, d.before a0 Z = true) : Jvm.RoadKit.slotOf Z "com/example/strict_tariff/stricttariff/io/CsvRow" "starts" "[I" ≠ Jvm.RoadKit.slotOf Z "com/example/strict_tariff/stricttariff/io/CsvRow" "ends" "[I" := slot_ne (C := "com/example/strict_tariff/stricttariff/io/CsvRow") (Or.inl (hw _ (List.mem_of_getElem? (i := 22) rfl))) (Or.inl (hw _ (List.mem_of_getElem? (i := 24) rfl))) (by decide) (t := .array .int) (by decide) (t' := .array .int) (by decide)
theorem own_sl_starts_taken {Z : State} {a0 : Array Value} (hw : ∀ d ∈ tables_1, d.before a0 Z = true) : Jvm.RoadKit.slotOf Z "com/example/strict_tariff/stricttariff/io/CsvRow" "starts" "[I" ≠ Jvm.RoadKit.slotOf Z "com/example/strict_tariff/stricttariff/io/CsvRow" "taken" "[Ljava/lang/String;" := slot_ne (C := "com/example/strict_tariff/stricttariff/io/CsvRow") (Or.inl (hw _ (List.mem_of_getElem? (i := 22) rfl))) (Or.inl (hw _ (List.mem_of_getElem? (i := 28) rfl))) (by decide) (t := .array .int) (by decide) (t' := .array (.object "java/lang/String")) (by decide)
theorem own_sl_starts_size {Z : State} {a0 : Array Value} (hw : ∀ d ∈ tables_1, d.before a0 Z = true) : Jvm.RoadKit.slotOf Z "com/example/strict_tariff/stricttariff/io/CsvRow" "starts" "[I" ≠ Jvm.RoadKit.slotOf Z "com/example/strict_tariff/stricttariff/io/CsvRow" "size" "I" := slot_ne (C := "com/example/strict_tariff/stricttariff/io/CsvRow") (Or.inl (hw _ (List.mem_of_getElem? (i := 22) rfl))) (Or.inl (hw _ (List.mem_of_getElem? (i := 40) rfl))) (by decide) (t := .array .int) (by decide) (t' := .int) (by decide)
theorem own_sl_ends_text {Z : State} {a0 : Array Value} (hw : ∀ d ∈ tables_1, d.before a0 Z = true) : Jvm.RoadKit.slotOf Z "com/example/strict_tariff/stricttariff/io/CsvRow" "ends" "[I" ≠ Jvm.RoadKit.slotOf Z "com/example/strict_tariff/stricttariff/io/CsvRow" "text" "[C" := slot_ne (C := "com/example/strict_tariff/stricttariff/io/CsvRow") (Or.inl (hw _ (List.mem_of_getElem? (i := 24) rfl))) (Or.inl (hw _ (List.mem_of_getElem? (i := 19) rfl))) (by decide) (t := .array .int) (by decide) (t' := .array .char) (by decide)
theorem own_sl_ends_starts {Z : State} {a0 : Array Value} (hw : ∀ d ∈ tables_1, d.before a0 Z = true) : Jvm.RoadKit.slotOf Z "com/example/strict_tariff/stricttariff/io/CsvRow" "ends" "[I" ≠ Jvm.RoadKit.slotOf Z "com/example/strict_tariff/stricttariff/io/CsvRow" "starts" "[I" := slot_ne (C := "com/example/strict_tariff/stricttariff/io/CsvRow") (Or.inl (hw _ (List.mem_of_getElem? (i := 24) rfl))) (Or.inl (hw _ (List.mem_of_getElem? (i := 22) rfl))) (by decide) (t := .array .int) (by decide) (t' := .array .int) (by decide)
theorem own_sl_ends_taken {Z : State} {a0 : Array Value} (hw : ∀ d ∈ tables_1, d.before a0 Z = true) : Jvm.RoadKit.slotOf Z "com/example/strict_tariff/stricttariff/io/CsvRow" "ends" "[I" ≠ Jvm.RoadKit.slotOf Z "com/example/strict_tariff/stricttariff/io/CsvRow" "taken" "[Ljava/lang/String;" := slot_ne (C := "com/example/strict_tariff/stricttariff/io/CsvRow") (Or.inl (hw _ (List.mem_of_getElem? (i := 24) rfl))) (Or.inl (hw _ (List.mem_of_getElem? (i := 28) rfl))) (by decide) (t := .array .int) (by decide) (t' := .array (.object "java/lang/String")) (by decide)
theorem own_sl_ends_size {Z : State} {a0 : Array Value} (hw : ∀ d ∈ tables_1, d.before a0 Z = true) : Jvm.RoadKit.slotOf Z "com/example/strict_tariff/stricttariff/io/CsvRow" "ends" "[I" ≠ Jvm.RoadKit.slotOf Z "com/example/strict_tariff/stricttariff/io/CsvRow" "size" "I" := slot_ne (C := "com/example/strict_tariff/stricttariff/io/CsvRow") (Or.inl (hw _ (List.mem_of_getElem? (i := 24) rfl))) (Or.inl (hw _ (List.mem_of_getElem? (i := 40) rfl))) (by decide) (t := .array .int) (by decide) (t' := .int) (by decide)
theorem own_sl_taken_text {Z : State} {a0 : Array Value} (hw : ∀ d ∈ tables_1, d.before a0 Z = true) : Jvm.RoadKit.slotOf Z "com/example/strict_tariff/stricttariff/io/CsvRow" "taken" "[Ljava/lang/String;" ≠ Jvm.RoadKit.slotOf Z "com/example/strict_tariff/stricttariff/io/CsvRow" "text" "[C" := slot_ne (C := "com/example/strict_tariff/stricttariff/io/CsvRow") (Or.inl (hw _ (List.mem_of_getElem? (i := 28) rfl))) (Or.inl (hw _ (List.mem_of_getElem? (i := 19) rfl))) (by decide) (t := .array (.object "java/lang/String")) (by decide) (t' := .array .char) (by decide)
theorem own_sl_taken_starts {Z : State} {a0 : Array Value} (hw : ∀ d ∈ tables_1, d.before a0 Z = true) : Jvm.RoadKit.slotOf Z "com/example/strict_tariff/stricttariff/io/CsvRow" "taken" "[Ljava/lang/String;" ≠ Jvm.RoadKit.slotOf Z "com/example/strict_tariff/stricttariff/io/CsvRow" "starts" "[I" := slot_ne (C := "com/example/strict_tariff/stricttariff/io/CsvRow") (Or.inl (hw _ (List.mem_of_getElem? (i := 28) rfl))) (Or.inl (hw _ (List.mem_of_getElem? (i := 22) rfl))) (by decide) (t := .array (.object "java/lang/String")) (by decide) (t' := .array .int) (by decide)
theorem own_sl_taken_ends {Z : State} {a0 : Array Value} (hw : ∀ d ∈ tables_1, d.before a0 Z = true) : Jvm.RoadKit.slotOf Z "com/example/strict_tariff/stricttariff/io/CsvRow" "taken" "[Ljava/lang/String;" ≠ Jvm.RoadKit.slotOf Z "com/example/strict_tariff/stricttariff/io/CsvRow" "ends" "[I" := slot_ne (C := "com/example/strict_tariff/stricttariff/io/CsvRow") (Or.inl (hw _ (List.mem_of_getElem? (i := 28) rfl))) (Or.inl (hw _ (List.mem_of_getElem? (i := 24) rfl))) (by decide) (t := .array (.object "java/lang/String")) (by decide) (t' := .array .int) (by decide)
theorem own_sl_taken_size {Z : State} {a0 : Array Value} (hw : ∀ d ∈ tables_1, d.before a0 Z = true) : Jvm.RoadKit.slotOf Z "com/example/strict_tariff/stricttariff/io/CsvRow" "taken" "[Ljava/lang/String;" ≠ Jvm.RoadKit.slotOf Z "com/example/strict_tariff/stricttariff/io/CsvRow" "size" "I" := slot_ne (C := "com/example/strict_tariff/stricttariff/io/CsvRow") (Or.inl (hw _ (List.mem_of_getElem? (i := 28) rfl))) (Or.inl (hw _ (List.mem_of_getElem? (i := 40) rfl))) (by decide) (t := .array (.object "java/lang/String")) (by decide) (t' := .int) (by decide)
theorem own_sl_size_text {Z : State} {a0 : Array Value} (hw : ∀ d ∈ tables_1, d.before a0 Z = true) : Jvm.RoadKit.slotOf Z "com/example/strict_tariff/stricttariff/io/CsvRow" "size" "I" ≠ Jvm.RoadKit.slotOf Z "com/example/strict_tariff/stricttariff/io/CsvRow" "text" "[C" := slot_ne (C := "com/example/strict_tariff/stricttariff/io/CsvRow") (Or.inl (hw _ (List.mem_of_getElem? (i := 40) rfl))) (Or.inl (hw _ (List.mem_of_getElem? (i := 19) rfl))) (by decide) (t := .int) (by decide) (t' := .array .char) (by decide)
theorem own_sl_size_starts {Z : State} {a0 : Array Value} (hw : ∀ d ∈ tables_1, d.before a0 Z = true) : Jvm.RoadKit.slotOf Z "com/example/strict_tariff/stricttariff/io/CsvRow" "size" "I" ≠ Jvm.RoadKit.slotOf Z "com/example/strict_tariff/stricttariff/io/CsvRow" "starts" "[I" := slot_ne (C := "com/example/strict_tariff/stricttariff/io/CsvRow") (Or.inl (hw _ (List.mem_of_getElem? (i := 40) rfl))) (Or.inl (hw _ (List.mem_of_getElem? (i := 22) rfl))) (by decide) (t := .int) (by decide) (t' := .array .int) (by decide)
theorem own_sl_size_ends {Z : State} {a0 : Array Value} (hw : ∀ d ∈ tables_1, d.before a0 Z = true) : Jvm.RoadKit.slotOf Z "com/example/strict_tariff/stricttariff/io/CsvRow" "size" "I" ≠ Jvm.RoadKit.slotOf Z "com/example/strict_tariff/stricttariff/io/CsvRow" "ends" "[I" := slot_ne (C := "com/example/strict_tariff/stricttariff/io/CsvRow") (Or.inl (hw _ (List.mem_of_getElem? (i := 40) rfl))) (Or.inl (hw _ (List.mem_of_getElem? (i := 24) rfl))) (by decide) (t := .int) (by decide) (t' := .array .int) (by decide)
theorem own_sl_size_taken {Z : State} {a0 : Array Value} (hw : ∀ d ∈ tables_1, d.before a0 Z = true) : Jvm.RoadKit.slotOf Z "com/example/strict_tariff/stricttariff/io/CsvRow" "size" "I" ≠ Jvm.RoadKit.slotOf Z "com/example/strict_tariff/stricttariff/io/CsvRow" "taken" "[Ljava/lang/String;" := slot_ne (C := "com/example/strict_tariff/stricttariff/io/CsvRow") (Or.inl (hw _ (List.mem_of_getElem? (i := 40) rfl))) (Or.inl (hw _ (List.mem_of_getElem? (i := 28) rfl))) (by decide) (t := .int) (by decide) (t' := .array (.object "java/lang/String")) (by decide)
theorem own_sx_buffer_from {Z : State} {a0 : Array Value} (hw : ∀ d ∈ tables_1, d.before a0 Z = true) : Jvm.RoadKit.slotOf Z "com/example/strict_tariff/stricttariff/io/CsvRow$Text" "buffer" "[C" ≠ Jvm.RoadKit.slotOf Z "com/example/strict_tariff/stricttariff/io/CsvRow$Text" "from" "I" := slot_ne (C := "com/example/strict_tariff/stricttariff/io/CsvRow$Text") (Or.inr (hw _ (List.mem_of_getElem? (i := 67) rfl))) (Or.inr (hw _ (List.mem_of_getElem? (i := 69) rfl))) (by decide) (t := .array .char) (by decide) (t' := .int) (by decide)
theorem own_sx_buffer_to {Z : State} {a0 : Array Value} (hw : ∀ d ∈ tables_1, d.before a0 Z = true) : Jvm.RoadKit.slotOf Z "com/example/strict_tariff/stricttariff/io/CsvRow$Text" "buffer" "[C" ≠ Jvm.RoadKit.slotOf Z "com/example/strict_tariff/stricttariff/io/CsvRow$Text" "to" "I" := slot_ne (C := "com/example/strict_tariff/stricttariff/io/CsvRow$Text") (Or.inr (hw _ (List.mem_of_getElem? (i := 67) rfl))) (Or.inr (hw _ (List.mem_of_getElem? (i := 71) rfl))) (by decide) (t := .array .char) (by decide) (t' := .int) (by decide)
theorem own_sx_from_buffer {Z : State} {a0 : Array Value} (hw : ∀ d ∈ tables_1, d.before a0 Z = true) : Jvm.RoadKit.slotOf Z "com/example/strict_tariff/stricttariff/io/CsvRow$Text" "from" "I" ≠ Jvm.RoadKit.slotOf Z "com/example/strict_tariff/stricttariff/io/CsvRow$Text" "buffer" "[C" := slot_ne (C := "com/example/strict_tariff/stricttariff/io/CsvRow$Text") (Or.inr (hw _ (List.mem_of_getElem? (i := 69) rfl))) (Or.inr (hw _ (List.mem_of_getElem? (i := 67) rfl))) (by decide) (t := .int) (by decide) (t' := .array .char) (by decide)
theorem own_sx_from_to {Z : State} {a0 : Array Value} (hw : ∀ d ∈ tables_1, d.before a0 Z = true) : Jvm.RoadKit.slotOf Z "com/example/strict_tariff/stricttariff/io/CsvRow$Text" "from" "I" ≠ Jvm.RoadKit.slotOf Z "com/example/strict_tariff/stricttariff/io/CsvRow$Text" "to" "I" := slot_ne (C := "com/example/strict_tariff/stricttariff/io/CsvRow$Text") (Or.inr (hw _ (List.mem_of_getElem? (i := 69) rfl))) (Or.inr (hw _ (List.mem_of_getElem? (i := 71) rfl))) (by decide) (t := .int) (by decide) (t' := .int) (by decide)
theorem own_sx_to_buffer {Z : State} {a0 : Array Value} (hw : ∀ d ∈ tables_1, d.before a0 Z = true) : Jvm.RoadKit.slotOf Z "com/example/strict_tariff/stricttariff/io/CsvRow$Text" "to" "I" ≠ Jvm.RoadKit.slotOf Z "com/example/strict_tariff/stricttariff/io/CsvRow$Text" "buffer" "[C" := slot_ne (C := "com/example/strict_tariff/stricttariff/io/CsvRow$Text") (Or.inr (hw _ (List.mem_of_getElem? (i := 71) rfl))) (Or.inr (hw _ (List.mem_of_getElem? (i := 67) rfl))) (by decide) (t := .int) (by decide) (t' := .array .char) (by decide)
theorem own_sx_to_from {Z : State} {a0 : Array Value} (hw : ∀ d ∈ tables_1, d.before a0 Z = true) : Jvm.RoadKit.slotOf Z "com/example/strict_tariff/stricttariff/io/CsvRow$Text" "to" "I" ≠ Jvm.RoadKit.slotOf Z "com/example/strict_tariff/stricttariff/io/CsvRow$Text" "from" "I" := slot_ne (C := "com/example/strict_tariff/stricttariff/io/CsvRow$Text") (Or.inr (hw _ (List.mem_of_getElem? (i := 71) rfl))) (Or.inr (hw _ (List.mem_of_getElem? (i := 69) rfl))) (by decide) (t := .int) (by decide) (t' := .int) (by decide)
theorem d1_0 : Dec jdk_29_method_69_code 0 (.iload_n 0) 1 1 := ⟨by decide +kernel, rfl⟩
theorem d1_1 : Dec jdk_29_method_69_code 1 (.iload_n 1) 1 2 := ⟨by decide +kernel, rfl⟩
theorem d1_2 : DecB jdk_29_method_69_code 2 (.if_icmp .gt 7) (7) 5 9 := ⟨by decide +kernel, rfl, by decide, by decide⟩
theorem d1_5 : Dec jdk_29_method_69_code 5 (.iload_n 0) 1 6 := ⟨by decide +kernel, rfl⟩
theorem d1_6 : DecB jdk_29_method_69_code 6 (.goto 4) (4) 9 10 := ⟨by decide +kernel, rfl, by decide, by decide⟩
theorem d1_9 : Dec jdk_29_method_69_code 9 (.iload_n 1) 1 10 := ⟨by decide +kernel, rfl⟩
theorem d1_10 : Dec jdk_29_method_69_code 10 (.ireturn) 1 11 := ⟨by decide +kernel, rfl⟩
theorem pn1 : plainFor (⟨"java/lang/Math", "min", "(II)I"⟩ : MethodName) = true := by first | exact plainFor_of_name (by first | (simp [plainName, overriddenIn]; done) | decide +kernel) | decide +kernel
theorem ef1 (x0 : Int32) (x1 : Int32) (m : MethodId) : entryFrame m #[(.int x0), (.int x1)] 2 = mkF m 0 #[.val (.int x0), .val (.int x1)] [] := by first | (simp [entryFrame, mkF, argsToLocals, Value.category, maxLocals]; done) | rfl
set_option maxRecDepth 65536 in
set_option maxHeartbeats 40000000 in
theorem rm1 (l : Launch) (Z : State) (a0 : Array Value) (hw : ∀ d ∈ tables_1, d.before a0 Z = true) (ws : List Jvm.Cond) (x y : Int32) (h0 : Heap)  : Ct l Z (⟨"java/lang/Math", "min", "(II)I"⟩ : MethodName) jdk_29_method_69_code 2 (some .int) ws ({ frames := 0, cells := 0, slots := 0, locals := 0 } : Room) #[(.int x), (.int y)] h0 (QP (.int (own_min x y)) h0) := by
  refine Ct.of (pn1) _ (ef1 x y) ?_
  intro p e s m below meth c T0 hx hby hml hZ hown hnm hret hk e0 X0
  show Go p e below _ (T0.setTop (mkF m 0 #[.val (.int x), .val (.int y)] []))
  refine go_iloadn X0 hx (dc hby d1_0) (v := x) rfl ?_
  refine go_iloadn X0 hx (dc hby d1_1) (v := y) rfl ?_
  refine go_icmp_gt X0 hx (db hby d1_2) (fun c2 => ?_) (fun c2 => ?_)
  · refine go_iloadn X0 hx (dc hby d1_9) (v := y) rfl ?_
    exact go_retI X0 hx hret (dc hby d1_10) hk (by decide) (by decide) ⟨congrArg (fun z => some (Value.int z)) (by simp [own_min, c2]), e0, rfl⟩
  · refine go_iloadn X0 hx (dc hby d1_5) (v := x) rfl ?_
    refine go_goto X0 hx (db hby d1_6) ?_
    exact go_retI X0 hx hret (dc hby d1_10) hk (by decide) (by decide) ⟨congrArg (fun z => some (Value.int z)) (by simp [own_min, c2]), e0, rfl⟩
theorem pd1 : parseMethodDescriptor "(II)I" = some ⟨[.int, .int], some .int⟩ := by decide +kernel
theorem d2_0 : Dec jdk_29_method_65_code 0 (.iload_n 0) 1 1 := ⟨by decide +kernel, rfl⟩
theorem d2_1 : Dec jdk_29_method_65_code 1 (.iload_n 1) 1 2 := ⟨by decide +kernel, rfl⟩
theorem d2_2 : DecB jdk_29_method_65_code 2 (.if_icmp .lt 7) (7) 5 9 := ⟨by decide +kernel, rfl, by decide, by decide⟩
theorem d2_5 : Dec jdk_29_method_65_code 5 (.iload_n 0) 1 6 := ⟨by decide +kernel, rfl⟩
theorem d2_6 : DecB jdk_29_method_65_code 6 (.goto 4) (4) 9 10 := ⟨by decide +kernel, rfl, by decide, by decide⟩
theorem d2_9 : Dec jdk_29_method_65_code 9 (.iload_n 1) 1 10 := ⟨by decide +kernel, rfl⟩
theorem d2_10 : Dec jdk_29_method_65_code 10 (.ireturn) 1 11 := ⟨by decide +kernel, rfl⟩
theorem pn2 : plainFor (⟨"java/lang/Math", "max", "(II)I"⟩ : MethodName) = true := by first | exact plainFor_of_name (by first | (simp [plainName, overriddenIn]; done) | decide +kernel) | decide +kernel
theorem ef2 (x0 : Int32) (x1 : Int32) (m : MethodId) : entryFrame m #[(.int x0), (.int x1)] 2 = mkF m 0 #[.val (.int x0), .val (.int x1)] [] := by first | (simp [entryFrame, mkF, argsToLocals, Value.category, maxLocals]; done) | rfl
set_option maxRecDepth 65536 in
set_option maxHeartbeats 40000000 in
theorem rm2 (l : Launch) (Z : State) (a0 : Array Value) (hw : ∀ d ∈ tables_1, d.before a0 Z = true) (ws : List Jvm.Cond) (x y : Int32) (h0 : Heap)  : Ct l Z (⟨"java/lang/Math", "max", "(II)I"⟩ : MethodName) jdk_29_method_65_code 2 (some .int) ws ({ frames := 0, cells := 0, slots := 0, locals := 0 } : Room) #[(.int x), (.int y)] h0 (QP (.int (own_max x y)) h0) := by
  refine Ct.of (pn2) _ (ef2 x y) ?_
  intro p e s m below meth c T0 hx hby hml hZ hown hnm hret hk e0 X0
  show Go p e below _ (T0.setTop (mkF m 0 #[.val (.int x), .val (.int y)] []))
  refine go_iloadn X0 hx (dc hby d2_0) (v := x) rfl ?_
  refine go_iloadn X0 hx (dc hby d2_1) (v := y) rfl ?_
  refine go_icmp_lt X0 hx (db hby d2_2) (fun c2 => ?_) (fun c2 => ?_)
  · refine go_iloadn X0 hx (dc hby d2_9) (v := y) rfl ?_
    exact go_retI X0 hx hret (dc hby d2_10) hk (by decide) (by decide) ⟨congrArg (fun z => some (Value.int z)) (by simp [own_max, c2]), e0, rfl⟩
  · refine go_iloadn X0 hx (dc hby d2_5) (v := x) rfl ?_
    refine go_goto X0 hx (db hby d2_6) ?_
    exact go_retI X0 hx hret (dc hby d2_10) hk (by decide) (by decide) ⟨congrArg (fun z => some (Value.int z)) (by simp [own_max, c2]), e0, rfl⟩
theorem pd2 : parseMethodDescriptor "(II)I" = some ⟨[.int, .int], some .int⟩ := by decide +kernel
theorem d3_0 : Dec prog_57_method_1_code 0 (.aload_n 0) 1 1 := ⟨by decide +kernel, rfl⟩
theorem d3_1 : Dec prog_57_method_1_code 1 (.invokespecial 1) 3 4 := ⟨by decide +kernel, rfl⟩
theorem d3_4 : Dec prog_57_method_1_code 4 (.aload_n 0) 1 5 := ⟨by decide +kernel, rfl⟩
theorem d3_5 : Dec prog_57_method_1_code 5 (.iconst 0) 1 6 := ⟨by decide +kernel, rfl⟩
theorem d3_6 : Dec prog_57_method_1_code 6 (.newarray .char) 2 8 := ⟨by decide +kernel, rfl⟩
theorem d3_8 : Dec prog_57_method_1_code 8 (.putfield 7) 3 11 := ⟨by decide +kernel, rfl⟩
theorem d3_11 : Dec prog_57_method_1_code 11 (.aload_n 0) 1 12 := ⟨by decide +kernel, rfl⟩
theorem d3_12 : Dec prog_57_method_1_code 12 (.bipush 16) 2 14 := ⟨by decide +kernel, rfl⟩
theorem d3_14 : Dec prog_57_method_1_code 14 (.newarray .int) 2 16 := ⟨by decide +kernel, rfl⟩
theorem d3_16 : Dec prog_57_method_1_code 16 (.putfield 13) 3 19 := ⟨by decide +kernel, rfl⟩
theorem d3_19 : Dec prog_57_method_1_code 19 (.aload_n 0) 1 20 := ⟨by decide +kernel, rfl⟩
theorem d3_20 : Dec prog_57_method_1_code 20 (.bipush 16) 2 22 := ⟨by decide +kernel, rfl⟩
theorem d3_22 : Dec prog_57_method_1_code 22 (.newarray .int) 2 24 := ⟨by decide +kernel, rfl⟩
theorem d3_24 : Dec prog_57_method_1_code 24 (.putfield 17) 3 27 := ⟨by decide +kernel, rfl⟩
theorem d3_27 : Dec prog_57_method_1_code 27 (.aload_n 0) 1 28 := ⟨by decide +kernel, rfl⟩
theorem d3_28 : Dec prog_57_method_1_code 28 (.bipush 16) 2 30 := ⟨by decide +kernel, rfl⟩
theorem d3_30 : Dec prog_57_method_1_code 30 (.anewarray 20) 3 33 := ⟨by decide +kernel, rfl⟩
theorem d3_33 : Dec prog_57_method_1_code 33 (.putfield 22) 3 36 := ⟨by decide +kernel, rfl⟩
theorem d3_36 : Dec prog_57_method_1_code 36 (.return_) 1 37 := ⟨by decide +kernel, rfl⟩
theorem pn3 : plainFor (⟨"com/example/strict_tariff/stricttariff/io/CsvRow", "<init>", "()V"⟩ : MethodName) = true := by first | exact plainFor_of_name (by first | (simp [plainName, overriddenIn]; done) | decide +kernel) | decide +kernel
theorem ef3 (x0 : Addr) (m : MethodId) : entryFrame m #[(.ref x0)] 1 = mkF m 0 #[.val (.ref x0)] [] := by first | (simp [entryFrame, mkF, argsToLocals, Value.category, maxLocals]; done) | rfl
set_option maxRecDepth 65536 in
set_option maxHeartbeats 40000000 in
theorem rm3 (l : Launch) (Z : State) (a0 : Array Value) (hw : ∀ d ∈ tables_1, d.before a0 Z = true) (ws : List Jvm.Cond) (a : Addr) (h0 : Heap) (E : Exa Z h0 a "com/example/strict_tariff/stricttariff/io/CsvRow") (Ftext : Fld Z h0 a "com/example/strict_tariff/stricttariff/io/CsvRow" "text" "[C" .null) (Fstarts : Fld Z h0 a "com/example/strict_tariff/stricttariff/io/CsvRow" "starts" "[I" .null) (Fends : Fld Z h0 a "com/example/strict_tariff/stricttariff/io/CsvRow" "ends" "[I" .null) (Ftaken : Fld Z h0 a "com/example/strict_tariff/stricttariff/io/CsvRow" "taken" "[Ljava/lang/String;" .null) (Fsize : Fld Z h0 a "com/example/strict_tariff/stricttariff/io/CsvRow" "size" "I" (.int 0)) : Ct l Z (⟨"com/example/strict_tariff/stricttariff/io/CsvRow", "<init>", "()V"⟩ : MethodName) prog_57_method_1_code 1 none ws ({ frames := 1, cells := 4, slots := 48, locals := 12 } : Room) #[(.ref a)] h0 (fun v h L => v = none ∧ (∀ y ∈ L, y.base = a) ∧ Keep h0 h [a] ∧ ∃ t st en kS kE, own_R Z h a t st en kS kE 0 [.int 0, .int 0] [.int 0, .int 0] ∧ h0.size ≤ st ∧ h0.size ≤ en) := by
  refine Ct.of (pn3) _ (ef3 a) ?_
  intro p e s m below meth c T0 hx hby hml hZ hown hnm hret hk e0 X0
  show Go p e below _ (T0.setTop (mkF m 0 #[.val (.ref a)] []))
  refine go_aloadn X0 hx (dc hby d3_0) (v := (.ref a)) rfl rfl ?_
  refine go_initO X0 hx hZ hown (hw _ (List.mem_of_getElem? (i := 15) rfl)) (hw _ (List.mem_of_getElem? (i := 16) rfl)) (hw _ (List.mem_of_getElem? (i := 17) rfl)) e0 (by rw [hml]; rfl) (dc hby d3_1) (by decide) 0 (Nat.le_of_eq rfl) (by decide) (fun T1 X1 e1 => ?_)
  refine go_aloadn X1 hx (dc hby d3_4) (v := (.ref a)) rfl rfl ?_
  refine go_iconst X1 hx (0) (dc hby d3_5) rfl ?_
  have KP := Keep.refl h0 [a]
  refine go_newP X1 hx hZ (hw _ (List.mem_of_getElem? (i := 0) rfl)) e1 (dc hby d3_6) (by decide) 0 (by decide) (by decide) (by decide) (by decide) (fun T2 h2 ktA tA g2 X2 e2 E2 A2 => ?_)
  have lt_a_tA : a < tA := by rw [g2]; exact E.lt
  have ne_a_tA := Nat.ne_of_lt lt_a_tA
  have ne_tA_a := Nat.ne_of_gt lt_a_tA
  have hs_tA : h0.size ≤ tA := by rw [g2]; exact KP.1
  have z1 := E.ext E2
  have z2 := Ftext.ext E2
  have z3 := Fstarts.ext E2
  have z4 := Fends.ext E2
  have z5 := Ftaken.ext E2
  have z6 := Fsize.ext E2
  have KE2 := KP.ext E2
  have VtA : Arv Z h2 tA ktA .char 0 [] (.int 0) := Arv.new A2 (by decide)
  refine go_putF X2 hx hZ (host := "") hown (Or.inl (hw _ (List.mem_of_getElem? (i := 18) rfl))) Via.refl e2 z2 z1 (Or.inl (hw _ (List.mem_of_getElem? (i := 19) rfl))) (hw _ (List.mem_of_getElem? (i := 10) rfl)) (ty := .array .char) (by decide) rfl rfl (dc hby d3_8) (fun T3 h3 X3 e3 W3 => ?_)
  have z7 := z1.wr W3
  have z8 := z2.same W3
  have z9 := z3.other W3 (Or.inr (own_sl_starts_text hw))
  have z10 := z4.other W3 (Or.inr (own_sl_ends_text hw))
  have z11 := z5.other W3 (Or.inr (own_sl_taken_text hw))
  have z12 := z6.other W3 (Or.inr (own_sl_size_text hw))
  have z13 := VtA.other W3 ne_tA_a
  have KW3 := KE2.wr W3 (Or.inl (by simp))
  refine go_aloadn X3 hx (dc hby d3_11) (v := (.ref a)) rfl rfl ?_
  refine go_bipush X3 hx (16) (dc hby d3_12) rfl ?_
  refine go_newP X3 hx hZ (hw _ (List.mem_of_getElem? (i := 20) rfl)) e3 (dc hby d3_14) (by decide) 16 (by decide) (by decide) (by decide) (by decide) (fun T4 h4 kst st g4 X4 e4 E4 A4 => ?_)
  have lt_a_st : a < st := by rw [g4]; exact z7.lt
  have ne_a_st := Nat.ne_of_lt lt_a_st
  have ne_st_a := Nat.ne_of_gt lt_a_st
  have lt_tA_st : tA < st := by rw [g4]; exact z13.lt
  have ne_tA_st := Nat.ne_of_lt lt_tA_st
  have ne_st_tA := Nat.ne_of_gt lt_tA_st
  have hs_st : h0.size ≤ st := by rw [g4]; exact KW3.1
  have z14 := z7.ext E4
  have z15 := z8.ext E4
  have z16 := z9.ext E4
  have z17 := z10.ext E4
  have z18 := z11.ext E4
  have z19 := z12.ext E4
  have z20 := z13.ext E4
  have KE4 := KW3.ext E4
  have Vst : Arv Z h4 st kst .int 16 [.int 0, .int 0] (.int 0) := (Arv.new A4 (by decide)).pad (own_rep (n := 2))
  refine go_putF X4 hx hZ (host := "") hown (Or.inl (hw _ (List.mem_of_getElem? (i := 21) rfl))) Via.refl e4 z16 z14 (Or.inl (hw _ (List.mem_of_getElem? (i := 22) rfl))) (hw _ (List.mem_of_getElem? (i := 10) rfl)) (ty := .array .int) (by decide) rfl rfl (dc hby d3_16) (fun T5 h5 X5 e5 W5 => ?_)
  have z21 := z14.wr W5
  have z22 := z15.other W5 (Or.inr (own_sl_text_starts hw))
  have z23 := z16.same W5
  have z24 := z17.other W5 (Or.inr (own_sl_ends_starts hw))
  have z25 := z18.other W5 (Or.inr (own_sl_taken_starts hw))
  have z26 := z19.other W5 (Or.inr (own_sl_size_starts hw))
  have z27 := z20.other W5 ne_tA_a
  have z28 := Vst.other W5 ne_st_a
  have KW5 := KE4.wr W5 (Or.inl (by simp))
  refine go_aloadn X5 hx (dc hby d3_19) (v := (.ref a)) rfl rfl ?_
  refine go_bipush X5 hx (16) (dc hby d3_20) rfl ?_
  refine go_newP X5 hx hZ (hw _ (List.mem_of_getElem? (i := 20) rfl)) e5 (dc hby d3_22) (by decide) 16 (by decide) (by decide) (by decide) (by decide) (fun T6 h6 ken en g6 X6 e6 E6 A6 => ?_)
  have lt_a_en : a < en := by rw [g6]; exact z21.lt
  have ne_a_en := Nat.ne_of_lt lt_a_en
  have ne_en_a := Nat.ne_of_gt lt_a_en
  have lt_tA_en : tA < en := by rw [g6]; exact z27.lt
  have ne_tA_en := Nat.ne_of_lt lt_tA_en
  have ne_en_tA := Nat.ne_of_gt lt_tA_en
  have lt_st_en : st < en := by rw [g6]; exact z28.lt
  have ne_st_en := Nat.ne_of_lt lt_st_en
  have ne_en_st := Nat.ne_of_gt lt_st_en
  have hs_en : h0.size ≤ en := by rw [g6]; exact KW5.1
  have z29 := z21.ext E6
  have z30 := z22.ext E6
  have z31 := z23.ext E6
  have z32 := z24.ext E6
  have z33 := z25.ext E6
  have z34 := z26.ext E6
  have z35 := z27.ext E6
  have z36 := z28.ext E6
  have KE6 := KW5.ext E6
  have Ven : Arv Z h6 en ken .int 16 [.int 0, .int 0] (.int 0) := (Arv.new A6 (by decide)).pad (own_rep (n := 2))
  refine go_putF X6 hx hZ (host := "") hown (Or.inl (hw _ (List.mem_of_getElem? (i := 23) rfl))) Via.refl e6 z32 z29 (Or.inl (hw _ (List.mem_of_getElem? (i := 24) rfl))) (hw _ (List.mem_of_getElem? (i := 10) rfl)) (ty := .array .int) (by decide) rfl rfl (dc hby d3_24) (fun T7 h7 X7 e7 W7 => ?_)
  have z37 := z29.wr W7
  have z38 := z30.other W7 (Or.inr (own_sl_text_ends hw))
  have z39 := z31.other W7 (Or.inr (own_sl_starts_ends hw))
  have z40 := z32.same W7
  have z41 := z33.other W7 (Or.inr (own_sl_taken_ends hw))
  have z42 := z34.other W7 (Or.inr (own_sl_size_ends hw))
  have z43 := z35.other W7 ne_tA_a
  have z44 := z36.other W7 ne_st_a
  have z45 := Ven.other W7 ne_en_a
  have KW7 := KE6.wr W7 (Or.inl (by simp))
  refine go_aloadn X7 hx (dc hby d3_27) (v := (.ref a)) rfl rfl ?_
  refine go_bipush X7 hx (16) (dc hby d3_28) rfl ?_
  refine go_newR X7 hx hZ hown (hw _ (List.mem_of_getElem? (i := 25) rfl)) (hw _ (List.mem_of_getElem? (i := 26) rfl)) e7 (dc hby d3_30) (by decide) 16 (by decide) (by decide) (by decide) (by decide) (fun T8 h8 ktk tk g8 X8 e8 E8 A8 O8 => ?_)
  have lt_a_tk : a < tk := by rw [g8]; exact z37.lt
  have ne_a_tk := Nat.ne_of_lt lt_a_tk
  have ne_tk_a := Nat.ne_of_gt lt_a_tk
  have lt_tA_tk : tA < tk := by rw [g8]; exact z43.lt
  have ne_tA_tk := Nat.ne_of_lt lt_tA_tk
  have ne_tk_tA := Nat.ne_of_gt lt_tA_tk
  have lt_st_tk : st < tk := by rw [g8]; exact z44.lt
  have ne_st_tk := Nat.ne_of_lt lt_st_tk
  have ne_tk_st := Nat.ne_of_gt lt_st_tk
  have lt_en_tk : en < tk := by rw [g8]; exact z45.lt
  have ne_en_tk := Nat.ne_of_lt lt_en_tk
  have ne_tk_en := Nat.ne_of_gt lt_en_tk
  have hs_tk : h0.size ≤ tk := by rw [g8]; exact KW7.1
  have z46 := z37.ext E8
  have z47 := z38.ext E8
  have z48 := z39.ext E8
  have z49 := z40.ext E8
  have z50 := z41.ext E8
  have z51 := z42.ext E8
  have z52 := z43.ext E8
  have z53 := z44.ext E8
  have z54 := z45.ext E8
  have KE8 := KW7.ext E8
  refine go_putF X8 hx hZ (host := "") hown (Or.inl (hw _ (List.mem_of_getElem? (i := 27) rfl))) Via.refl e8 z50 z46 (Or.inl (hw _ (List.mem_of_getElem? (i := 28) rfl))) (hw _ (List.mem_of_getElem? (i := 10) rfl)) (ty := .array (.object "java/lang/String")) (by decide) rfl rfl (dc hby d3_33) (fun T9 h9 X9 e9 W9 => ?_)
  have z55 := z46.wr W9
  have z56 := z47.other W9 (Or.inr (own_sl_text_taken hw))
  have z57 := z48.other W9 (Or.inr (own_sl_starts_taken hw))
  have z58 := z49.other W9 (Or.inr (own_sl_ends_taken hw))
  have z59 := z50.same W9
  have z60 := z51.other W9 (Or.inr (own_sl_size_taken hw))
  have z61 := z52.other W9 ne_tA_a
  have z62 := z53.other W9 ne_st_a
  have z63 := z54.other W9 ne_en_a
  have KW9 := KE8.wr W9 (Or.inl (by simp))
  subst e9
  exact go_retV X9 hx hret (dc hby d3_36) hk (by decide) (by decide) ⟨rfl, fun y hy => by simp at hy; rcases hy with rfl | rfl | rfl | rfl <;> rfl, KW9, tA, st, en, kst, ken, ⟨z55, z56, z57, z58, z60, z62, z63, ne_a_st, ne_a_en, ne_en_st⟩, hs_st, hs_en⟩
theorem pd3 : parseMethodDescriptor "()V" = some ⟨[], none⟩ := by decide +kernel
theorem d5_0 : Dec prog_57_method_10_code 0 (.aload_n 0) 1 1 := ⟨by decide +kernel, rfl⟩
theorem d5_1 : Dec prog_57_method_10_code 1 (.aload_n 1) 1 2 := ⟨by decide +kernel, rfl⟩
theorem d5_2 : Dec prog_57_method_10_code 2 (.putfield 7) 3 5 := ⟨by decide +kernel, rfl⟩
theorem d5_5 : Dec prog_57_method_10_code 5 (.return_) 1 6 := ⟨by decide +kernel, rfl⟩
theorem pn5 : plainFor (⟨"com/example/strict_tariff/stricttariff/io/CsvRow", "setText", "([C)V"⟩ : MethodName) = true := by first | exact plainFor_of_name (by first | (simp [plainName, overriddenIn]; done) | decide +kernel) | decide +kernel
theorem ef5 (x0 : Addr) (x1 : Addr) (m : MethodId) : entryFrame m #[(.ref x0), (.ref x1)] 2 = mkF m 0 #[.val (.ref x0), .val (.ref x1)] [] := by first | (simp [entryFrame, mkF, argsToLocals, Value.category, maxLocals]; done) | rfl
set_option maxRecDepth 65536 in
set_option maxHeartbeats 40000000 in
theorem rm5 (l : Launch) (Z : State) (a0 : Array Value) (hw : ∀ d ∈ tables_1, d.before a0 Z = true) (ws : List Jvm.Cond) (a b t st en : Addr) (kS kE : ClassId) (n : Int32) (vs ve : List Value) (h0 : Heap) (FR : own_R Z h0 a t st en kS kE n vs ve) : Ct l Z (⟨"com/example/strict_tariff/stricttariff/io/CsvRow", "setText", "([C)V"⟩ : MethodName) prog_57_method_10_code 2 none ws ({ frames := 0, cells := 0, slots := 0, locals := 0 } : Room) #[(.ref a), (.ref b)] h0 (fun v h L => v = none ∧ (∀ y ∈ L, y.base = a) ∧ Keep h0 h [a] ∧ own_R Z h a b st en kS kE n vs ve) := by
  refine Ct.of (pn5) _ (ef5 a b) ?_
  intro p e s m below meth c T0 hx hby hml hZ hown hnm hret hk e0 X0
  obtain ⟨E, Ft, Fs, Fe, Fz, VS, VE, q1, q2, q3⟩ := FR
  show Go p e below _ (T0.setTop (mkF m 0 #[.val (.ref a), .val (.ref b)] []))
  refine go_aloadn X0 hx (dc hby d5_0) (v := (.ref a)) rfl rfl ?_
  refine go_aloadn X0 hx (dc hby d5_1) (v := (.ref b)) rfl rfl ?_
  refine go_putF X0 hx hZ (host := "") hown (Or.inl (hw _ (List.mem_of_getElem? (i := 18) rfl))) Via.refl e0 Ft E (Or.inl (hw _ (List.mem_of_getElem? (i := 19) rfl))) (hw _ (List.mem_of_getElem? (i := 10) rfl)) (ty := .array .char) (by decide) rfl rfl (dc hby d5_2) (fun T1 h1 X1 e1 W1 => ?_)
  have z1 := E.wr W1
  have z2 := Ft.same W1
  have z3 := Fs.other W1 (Or.inr (own_sl_starts_text hw))
  have z4 := Fe.other W1 (Or.inr (own_sl_ends_text hw))
  have z5 := Fz.other W1 (Or.inr (own_sl_size_text hw))
  have z6 := VS.other W1 q1.symm
  have z7 := VE.other W1 q2.symm
  subst e1
  exact go_retV X1 hx hret (dc hby d5_5) hk (by decide) (by decide) ⟨rfl, fun y hy => by simp at hy; rw [hy], (Keep.refl _ _).wr W1 (Or.inl (by simp)), ⟨z1, z2, z3, z4, z5, z6, z7, q1, q2, q3⟩⟩
theorem pd5 : parseMethodDescriptor "([C)V" = some ⟨[(.array .char)], none⟩ := by decide +kernel
theorem d6_0 : Dec prog_57_method_8_code 0 (.aload_n 0) 1 1 := ⟨by decide +kernel, rfl⟩
theorem d6_1 : Dec prog_57_method_8_code 1 (.getfield 26) 3 4 := ⟨by decide +kernel, rfl⟩
theorem d6_4 : Dec prog_57_method_8_code 4 (.aload_n 0) 1 5 := ⟨by decide +kernel, rfl⟩
theorem d6_5 : Dec prog_57_method_8_code 5 (.getfield 13) 3 8 := ⟨by decide +kernel, rfl⟩
theorem d6_8 : Dec prog_57_method_8_code 8 (.arraylength) 1 9 := ⟨by decide +kernel, rfl⟩
theorem d6_9 : DecB prog_57_method_8_code 9 (.if_icmp .ne 57) (57) 12 66 := ⟨by decide +kernel, rfl, by decide, by decide⟩
theorem d6_66 : Dec prog_57_method_8_code 66 (.aload_n 0) 1 67 := ⟨by decide +kernel, rfl⟩
theorem d6_67 : Dec prog_57_method_8_code 67 (.getfield 13) 3 70 := ⟨by decide +kernel, rfl⟩
theorem d6_70 : Dec prog_57_method_8_code 70 (.aload_n 0) 1 71 := ⟨by decide +kernel, rfl⟩
theorem d6_71 : Dec prog_57_method_8_code 71 (.getfield 26) 3 74 := ⟨by decide +kernel, rfl⟩
theorem d6_74 : Dec prog_57_method_8_code 74 (.iload_n 1) 1 75 := ⟨by decide +kernel, rfl⟩
theorem d6_75 : Dec prog_57_method_8_code 75 (.iastore) 1 76 := ⟨by decide +kernel, rfl⟩
theorem d6_76 : Dec prog_57_method_8_code 76 (.aload_n 0) 1 77 := ⟨by decide +kernel, rfl⟩
theorem d6_77 : Dec prog_57_method_8_code 77 (.getfield 17) 3 80 := ⟨by decide +kernel, rfl⟩
theorem d6_80 : Dec prog_57_method_8_code 80 (.aload_n 0) 1 81 := ⟨by decide +kernel, rfl⟩
theorem d6_81 : Dec prog_57_method_8_code 81 (.getfield 26) 3 84 := ⟨by decide +kernel, rfl⟩
theorem d6_84 : Dec prog_57_method_8_code 84 (.iload_n 2) 1 85 := ⟨by decide +kernel, rfl⟩
theorem d6_85 : Dec prog_57_method_8_code 85 (.iastore) 1 86 := ⟨by decide +kernel, rfl⟩
theorem d6_86 : Dec prog_57_method_8_code 86 (.aload_n 0) 1 87 := ⟨by decide +kernel, rfl⟩
theorem d6_87 : Dec prog_57_method_8_code 87 (.dup) 1 88 := ⟨by decide +kernel, rfl⟩
theorem d6_88 : Dec prog_57_method_8_code 88 (.getfield 26) 3 91 := ⟨by decide +kernel, rfl⟩
theorem d6_91 : Dec prog_57_method_8_code 91 (.iconst 1) 1 92 := ⟨by decide +kernel, rfl⟩
theorem d6_92 : Dec prog_57_method_8_code 92 (.iadd) 1 93 := ⟨by decide +kernel, rfl⟩
theorem d6_93 : Dec prog_57_method_8_code 93 (.putfield 26) 3 96 := ⟨by decide +kernel, rfl⟩
theorem d6_96 : Dec prog_57_method_8_code 96 (.return_) 1 97 := ⟨by decide +kernel, rfl⟩
theorem pn6 : plainFor (⟨"com/example/strict_tariff/stricttariff/io/CsvRow", "add", "(II)V"⟩ : MethodName) = true := by first | exact plainFor_of_name (by first | (simp [plainName, overriddenIn]; done) | decide +kernel) | decide +kernel
theorem ef6 (x0 : Addr) (x1 : Int32) (x2 : Int32) (m : MethodId) : entryFrame m #[(.ref x0), (.int x1), (.int x2)] 3 = mkF m 0 #[.val (.ref x0), .val (.int x1), .val (.int x2)] [] := by first | (simp [entryFrame, mkF, argsToLocals, Value.category, maxLocals]; done) | rfl
set_option maxRecDepth 65536 in
set_option maxHeartbeats 40000000 in
theorem rm6 (l : Launch) (Z : State) (a0 : Array Value) (hw : ∀ d ∈ tables_1, d.before a0 Z = true) (ws : List Jvm.Cond) (a : Addr) (x y : Int32) (t st en : Addr) (kS kE : ClassId) (n n1 : Int32) (i : Nat) (vs ve : List Value) (h0 : Heap) (FR : own_R Z h0 a t st en kS kE n vs ve) (hn : ¬ n < 0 ∧ n < 16) (h16 : ¬ n = 16) (h1 : n + 1 = n1) (hi : n.toNatClampNeg = i) (hls : i < vs.length) (hle : i < ve.length) : Ct l Z (⟨"com/example/strict_tariff/stricttariff/io/CsvRow", "add", "(II)V"⟩ : MethodName) prog_57_method_8_code 3 none ws ({ frames := 0, cells := 0, slots := 0, locals := 0 } : Room) #[(.ref a), (.int x), (.int y)] h0 (fun v h L => v = none ∧ (∀ y ∈ L, y.base = a ∨ y.base = st ∨ y.base = en) ∧ Keep h0 h [a, st, en] ∧ own_R Z h a t st en kS kE n1 (vs.set i (.int x)) (ve.set i (.int y))) := by
  refine Ct.of (pn6) _ (ef6 a x y) ?_
  intro p e s m below meth c T0 hx hby hml hZ hown hnm hret hk e0 X0
  obtain ⟨E, Ft, Fs, Fe, Fz, VS, VE, q1, q2, q3⟩ := FR
  show Go p e below _ (T0.setTop (mkF m 0 #[.val (.ref a), .val (.int x), .val (.int y)] []))
  refine go_aloadn X0 hx (dc hby d6_0) (v := (.ref a)) rfl rfl ?_
  refine go_getF X0 hx hZ (host := "") hown (Or.inl (hw _ (List.mem_of_getElem? (i := 39) rfl))) Via.refl e0 Fz (dc hby d6_1) (fun T1 X1 e1 => ?_)
  refine go_aloadn X1 hx (dc hby d6_4) (v := (.ref a)) rfl rfl ?_
  refine go_getF X1 hx hZ (host := "") hown (Or.inl (hw _ (List.mem_of_getElem? (i := 21) rfl))) Via.refl e1 Fs (dc hby d6_5) (fun T2 X2 e2 => ?_)
  have VS' := VS
  obtain ⟨cS, AS, _, SS, zS, _, _⟩ := VS'
  refine go_alen X2 hx hZ e2 AS SS zS (dc hby d6_8) ?_
  refine go_icmp_ne X2 hx (db hby d6_9) (fun c9 => ?_) (fun c9 => absurd c9 h16)
  refine go_aloadn X2 hx (dc hby d6_66) (v := (.ref a)) rfl rfl ?_
  refine go_getF X2 hx hZ (host := "") hown (Or.inl (hw _ (List.mem_of_getElem? (i := 21) rfl))) Via.refl e2 Fs (dc hby d6_67) (fun T3 X3 e3 => ?_)
  refine go_aloadn X3 hx (dc hby d6_70) (v := (.ref a)) rfl rfl ?_
  refine go_getF X3 hx hZ (host := "") hown (Or.inl (hw _ (List.mem_of_getElem? (i := 39) rfl))) Via.refl e3 Fz (dc hby d6_71) (fun T4 X4 e4 => ?_)
  refine go_iloadn X4 hx (dc hby d6_74) (v := x) rfl ?_
  refine go_iastoreV X4 hx hZ e4 VS hn i hi hls (dc hby d6_75) (fun T5 h5 X5 e5 W5 V5 => ?_)
  have z1 := E.wr W5
  have z2 := Ft.other W5 (Or.inl q1)
  have z3 := Fs.other W5 (Or.inl q1)
  have z4 := Fe.other W5 (Or.inl q1)
  have z5 := Fz.other W5 (Or.inl q1)
  have z6 := VE.other W5 q3
  refine go_aloadn X5 hx (dc hby d6_76) (v := (.ref a)) rfl rfl ?_
  refine go_getF X5 hx hZ (host := "") hown (Or.inl (hw _ (List.mem_of_getElem? (i := 23) rfl))) Via.refl e5 z4 (dc hby d6_77) (fun T6 X6 e6 => ?_)
  refine go_aloadn X6 hx (dc hby d6_80) (v := (.ref a)) rfl rfl ?_
  refine go_getF X6 hx hZ (host := "") hown (Or.inl (hw _ (List.mem_of_getElem? (i := 39) rfl))) Via.refl e6 z5 (dc hby d6_81) (fun T7 X7 e7 => ?_)
  refine go_iloadn X7 hx (dc hby d6_84) (v := y) rfl ?_
  refine go_iastoreV X7 hx hZ e7 z6 hn i hi hle (dc hby d6_85) (fun T8 h8 X8 e8 W8 V8 => ?_)
  have z7 := z1.wr W8
  have z8 := z2.other W8 (Or.inl q2)
  have z9 := z3.other W8 (Or.inl q2)
  have z10 := z4.other W8 (Or.inl q2)
  have z11 := z5.other W8 (Or.inl q2)
  have z12 := V5.other W8 q3.symm
  refine go_aloadn X8 hx (dc hby d6_86) (v := (.ref a)) rfl rfl ?_
  refine go_dup X8 hx (dc hby d6_87) rfl ?_
  refine go_getF X8 hx hZ (host := "") hown (Or.inl (hw _ (List.mem_of_getElem? (i := 39) rfl))) Via.refl e8 z11 (dc hby d6_88) (fun T9 X9 e9 => ?_)
  refine go_iconst X9 hx (1) (dc hby d6_91) rfl ?_
  refine go_iadd X9 hx (dc hby d6_92) ?_
  have hn1 := h1
  rw [h1]
  show Go p e below _ (T9.setTop (mkF m 93 #[.val (.ref a), .val (.int x), .val (.int y)] [(.int n1), (.ref a)]))
  refine go_putF X9 hx hZ (host := "") hown (Or.inl (hw _ (List.mem_of_getElem? (i := 39) rfl))) Via.refl e9 z11 z7 (Or.inl (hw _ (List.mem_of_getElem? (i := 40) rfl))) (hw _ (List.mem_of_getElem? (i := 10) rfl)) (ty := .int) (by decide) rfl rfl (dc hby d6_93) (fun T10 h10 X10 e10 W10 => ?_)
  have z13 := z7.wr W10
  have z14 := z8.other W10 (Or.inr (own_sl_text_size hw))
  have z15 := z9.other W10 (Or.inr (own_sl_starts_size hw))
  have z16 := z10.other W10 (Or.inr (own_sl_ends_size hw))
  have z17 := z11.same W10
  have z18 := z12.other W10 q1.symm
  have z19 := V8.other W10 q2.symm
  subst e10
  exact go_retV X10 hx hret (dc hby d6_96) hk (by decide) (by decide) ⟨rfl, fun y hy => by simp at hy; rcases hy with rfl | rfl | rfl <;> simp, (((Keep.refl _ _).wr W5 (Or.inl (by simp))).wr W8 (Or.inl (by simp))).wr W10 (Or.inl (by simp)), ⟨z13, z14, z15, z16, z17, z18, z19, q1, q2, q3⟩⟩
theorem pd6 : parseMethodDescriptor "(II)V" = some ⟨[.int, .int], none⟩ := by decide +kernel
theorem d9_0 : Dec jdk_41_method_11_code 0 (.iload_n 0) 1 1 := ⟨by decide +kernel, rfl⟩
theorem d9_1 : DecB jdk_41_method_11_code 1 (.ifCond .lt 8) (8) 4 9 := ⟨by decide +kernel, rfl, by decide, by decide⟩
theorem d9_4 : Dec jdk_41_method_11_code 4 (.iload_n 0) 1 5 := ⟨by decide +kernel, rfl⟩
theorem d9_5 : Dec jdk_41_method_11_code 5 (.iload_n 1) 1 6 := ⟨by decide +kernel, rfl⟩
theorem d9_6 : DecB jdk_41_method_11_code 6 (.if_icmp .lt 10) (10) 9 16 := ⟨by decide +kernel, rfl, by decide, by decide⟩
theorem d9_16 : Dec jdk_41_method_11_code 16 (.iload_n 0) 1 17 := ⟨by decide +kernel, rfl⟩
theorem d9_17 : Dec jdk_41_method_11_code 17 (.ireturn) 1 18 := ⟨by decide +kernel, rfl⟩
theorem pn9 : plainFor (⟨"jdk/internal/util/Preconditions", "checkIndex", "(IILjava/util/function/BiFunction;)I"⟩ : MethodName) = true := by first | exact plainFor_of_name (by first | (simp [plainName, overriddenIn]; done) | decide +kernel) | decide +kernel
theorem ef9 (x0 : Int32) (x1 : Int32) (m : MethodId) : entryFrame m #[(.int x0), (.int x1), .null] 3 = mkF m 0 #[.val (.int x0), .val (.int x1), .val .null] [] := by first | (simp [entryFrame, mkF, argsToLocals, Value.category, maxLocals]; done) | rfl
set_option maxRecDepth 65536 in
set_option maxHeartbeats 40000000 in
theorem rm9 (l : Launch) (Z : State) (a0 : Array Value) (hw : ∀ d ∈ tables_1, d.before a0 Z = true) (ws : List Jvm.Cond) (i n : Int32) (h0 : Heap) (h1 : ¬ i < 0) (h2 : i < n) : Ct l Z (⟨"jdk/internal/util/Preconditions", "checkIndex", "(IILjava/util/function/BiFunction;)I"⟩ : MethodName) jdk_41_method_11_code 3 (some .int) ws ({ frames := 0, cells := 0, slots := 0, locals := 0 } : Room) #[(.int i), (.int n), .null] h0 (QP (.int i) h0) := by
  refine Ct.of (pn9) _ (ef9 i n) ?_
  intro p e s m below meth c T0 hx hby hml hZ hown hnm hret hk e0 X0
  show Go p e below _ (T0.setTop (mkF m 0 #[.val (.int i), .val (.int n), .val .null] []))
  refine go_iloadn X0 hx (dc hby d9_0) (v := i) rfl ?_
  refine go_ifc_lt X0 hx (db hby d9_1) (fun c1 => absurd c1 h1) (fun c1 => ?_)
  refine go_iloadn X0 hx (dc hby d9_4) (v := i) rfl ?_
  refine go_iloadn X0 hx (dc hby d9_5) (v := n) rfl ?_
  refine go_icmp_lt X0 hx (db hby d9_6) (fun c6 => ?_) (fun c6 => absurd h2 c6)
  refine go_iloadn X0 hx (dc hby d9_16) (v := i) rfl ?_
  exact go_retI X0 hx hret (dc hby d9_17) hk (by decide) (by decide) ⟨rfl, e0, rfl⟩
theorem pd9 : parseMethodDescriptor "(IILjava/util/function/BiFunction;)I" = some ⟨[.int, .int, (.object "java/util/function/BiFunction")], some .int⟩ := by decide +kernel
theorem d8_0 : Dec jdk_31_method_17_code 0 (.iload_n 0) 1 1 := ⟨by decide +kernel, rfl⟩
theorem d8_1 : Dec jdk_31_method_17_code 1 (.iload_n 1) 1 2 := ⟨by decide +kernel, rfl⟩
theorem d8_2 : Dec jdk_31_method_17_code 2 (.aconst_null) 1 3 := ⟨by decide +kernel, rfl⟩
theorem d8_3 : Dec jdk_31_method_17_code 3 (.invokestatic 105) 3 6 := ⟨by decide +kernel, rfl⟩
theorem d8_6 : Dec jdk_31_method_17_code 6 (.ireturn) 1 7 := ⟨by decide +kernel, rfl⟩
theorem pn8 : plainFor (⟨"java/util/Objects", "checkIndex", "(II)I"⟩ : MethodName) = true := by first | exact plainFor_of_name (by first | (simp [plainName, overriddenIn]; done) | decide +kernel) | decide +kernel
theorem ef8 (x0 : Int32) (x1 : Int32) (m : MethodId) : entryFrame m #[(.int x0), (.int x1)] 2 = mkF m 0 #[.val (.int x0), .val (.int x1)] [] := by first | (simp [entryFrame, mkF, argsToLocals, Value.category, maxLocals]; done) | rfl
set_option maxRecDepth 65536 in
set_option maxHeartbeats 40000000 in
theorem rm8 (l : Launch) (Z : State) (a0 : Array Value) (hw : ∀ d ∈ tables_1, d.before a0 Z = true) (ws : List Jvm.Cond) (i n : Int32) (h0 : Heap) (h1 : ¬ i < 0) (h2 : i < n) : Ct l Z (⟨"java/util/Objects", "checkIndex", "(II)I"⟩ : MethodName) jdk_31_method_17_code 2 (some .int) ws ({ frames := 1, cells := 0, slots := 0, locals := 14 } : Room) #[(.int i), (.int n)] h0 (QP (.int i) h0) := by
  refine Ct.of (pn8) _ (ef8 i n) ?_
  intro p e s m below meth c T0 hx hby hml hZ hown hnm hret hk e0 X0
  show Go p e below _ (T0.setTop (mkF m 0 #[.val (.int i), .val (.int n)] []))
  refine go_iloadn X0 hx (dc hby d8_0) (v := i) rfl ?_
  refine go_iloadn X0 hx (dc hby d8_1) (v := n) rfl ?_
  refine go_aconstnull X0 hx (dc hby d8_2) ?_
  refine go_staticP X0 hx hZ hown (hw _ (List.mem_of_getElem? (i := 50) rfl)) (hw _ (List.mem_of_getElem? (i := 51) rfl)) (hw _ (List.mem_of_getElem? (i := 52) rfl)) (hw _ (List.mem_of_getElem? (i := 53) rfl)) (by decide) e0 [(.int i), (.int n), .null] [] (r := (.int i)) (rm9 l Z a0 hw [] i n h0 h1 h2) pd9 rfl (by rw [hml]; rfl) rfl 0 (Nat.le_of_eq rfl) (by decide) (by decide) rfl rfl (by decide) (by decide) (dc hby d8_3) (fun T1 X1 e1 => ?_)
  exact go_retI X1 hx hret (dc hby d8_6) hk (by decide) (by decide) ⟨rfl, e1, rfl⟩
theorem pd8 : parseMethodDescriptor "(II)I" = some ⟨[.int, .int], some .int⟩ := by decide +kernel
theorem d11_0 : Dec jdk_30_method_1_code 0 (.aload_n 0) 1 1 := ⟨by decide +kernel, rfl⟩
theorem d11_1 : Dec jdk_30_method_1_code 1 (.invokespecial 1) 3 4 := ⟨by decide +kernel, rfl⟩
theorem d11_4 : Dec jdk_30_method_1_code 4 (.return_) 1 5 := ⟨by decide +kernel, rfl⟩
theorem pn11 : plainFor (⟨"java/lang/Record", "<init>", "()V"⟩ : MethodName) = true := by first | exact plainFor_of_name (by first | (simp [plainName, overriddenIn]; done) | decide +kernel) | decide +kernel
theorem ef11 (x0 : Addr) (m : MethodId) : entryFrame m #[(.ref x0)] 1 = mkF m 0 #[.val (.ref x0)] [] := by first | (simp [entryFrame, mkF, argsToLocals, Value.category, maxLocals]; done) | rfl
set_option maxRecDepth 65536 in
set_option maxHeartbeats 40000000 in
theorem rm11 (l : Launch) (Z : State) (a0 : Array Value) (hw : ∀ d ∈ tables_1, d.before a0 Z = true) (ws : List Jvm.Cond) (a : Addr) (h0 : Heap)  : Ct l Z (⟨"java/lang/Record", "<init>", "()V"⟩ : MethodName) jdk_30_method_1_code 1 none ws ({ frames := 1, cells := 0, slots := 0, locals := 12 } : Room) #[(.ref a)] h0 (QV h0) := by
  refine Ct.of (pn11) _ (ef11 a) ?_
  intro p e s m below meth c T0 hx hby hml hZ hown hnm hret hk e0 X0
  show Go p e below _ (T0.setTop (mkF m 0 #[.val (.ref a)] []))
  refine go_aloadn X0 hx (dc hby d11_0) (v := (.ref a)) rfl rfl ?_
  refine go_initO X0 hx hZ hown (hw _ (List.mem_of_getElem? (i := 65) rfl)) (hw _ (List.mem_of_getElem? (i := 16) rfl)) (hw _ (List.mem_of_getElem? (i := 17) rfl)) e0 (by rw [hml]; rfl) (dc hby d11_1) (by decide) 0 (Nat.le_of_eq rfl) (by decide) (fun T1 X1 e1 => ?_)
  exact go_retV X1 hx hret (dc hby d11_4) hk (by decide) (by decide) ⟨rfl, e1, rfl⟩
theorem pd11 : parseMethodDescriptor "()V" = some ⟨[], none⟩ := by decide +kernel
theorem d10_0 : Dec prog_58_method_1_code 0 (.aload_n 0) 1 1 := ⟨by decide +kernel, rfl⟩
theorem d10_1 : Dec prog_58_method_1_code 1 (.invokespecial 1) 3 4 := ⟨by decide +kernel, rfl⟩
theorem d10_4 : Dec prog_58_method_1_code 4 (.aload_n 0) 1 5 := ⟨by decide +kernel, rfl⟩
theorem d10_5 : Dec prog_58_method_1_code 5 (.aload_n 1) 1 6 := ⟨by decide +kernel, rfl⟩
theorem d10_6 : Dec prog_58_method_1_code 6 (.putfield 7) 3 9 := ⟨by decide +kernel, rfl⟩
theorem d10_9 : Dec prog_58_method_1_code 9 (.aload_n 0) 1 10 := ⟨by decide +kernel, rfl⟩
theorem d10_10 : Dec prog_58_method_1_code 10 (.iload_n 2) 1 11 := ⟨by decide +kernel, rfl⟩
theorem d10_11 : Dec prog_58_method_1_code 11 (.putfield 13) 3 14 := ⟨by decide +kernel, rfl⟩
theorem d10_14 : Dec prog_58_method_1_code 14 (.aload_n 0) 1 15 := ⟨by decide +kernel, rfl⟩
theorem d10_15 : Dec prog_58_method_1_code 15 (.iload_n 3) 1 16 := ⟨by decide +kernel, rfl⟩
theorem d10_16 : Dec prog_58_method_1_code 16 (.putfield 17) 3 19 := ⟨by decide +kernel, rfl⟩
theorem d10_19 : Dec prog_58_method_1_code 19 (.return_) 1 20 := ⟨by decide +kernel, rfl⟩
theorem pn10 : plainFor (⟨"com/example/strict_tariff/stricttariff/io/CsvRow$Text", "<init>", "([CII)V"⟩ : MethodName) = true := by first | exact plainFor_of_name (by first | (simp [plainName, overriddenIn]; done) | decide +kernel) | decide +kernel
theorem ef10 (x0 : Addr) (x1 : Addr) (x2 : Int32) (x3 : Int32) (m : MethodId) : entryFrame m #[(.ref x0), (.ref x1), (.int x2), (.int x3)] 4 = mkF m 0 #[.val (.ref x0), .val (.ref x1), .val (.int x2), .val (.int x3)] [] := by first | (simp [entryFrame, mkF, argsToLocals, Value.category, maxLocals]; done) | rfl
set_option maxRecDepth 65536 in
set_option maxHeartbeats 40000000 in
theorem rm10 (l : Launch) (Z : State) (a0 : Array Value) (hw : ∀ d ∈ tables_1, d.before a0 Z = true) (ws : List Jvm.Cond) (a t : Addr) (x y : Int32) (h0 : Heap) (E : Exa Z h0 a "com/example/strict_tariff/stricttariff/io/CsvRow$Text") (Fbuffer : Fld Z h0 a "com/example/strict_tariff/stricttariff/io/CsvRow$Text" "buffer" "[C" .null) (Ffrom : Fld Z h0 a "com/example/strict_tariff/stricttariff/io/CsvRow$Text" "from" "I" (.int 0)) (Fto : Fld Z h0 a "com/example/strict_tariff/stricttariff/io/CsvRow$Text" "to" "I" (.int 0)) : Ct l Z (⟨"com/example/strict_tariff/stricttariff/io/CsvRow$Text", "<init>", "([CII)V"⟩ : MethodName) prog_58_method_1_code 4 none ws ({ frames := 2, cells := 0, slots := 0, locals := 24 } : Room) #[(.ref a), (.ref t), (.int x), (.int y)] h0 (fun v h L => v = none ∧ (∀ y ∈ L, y.base = a) ∧ Keep h0 h [a] ∧ own_T Z h a t x y) := by
  refine Ct.of (pn10) _ (ef10 a t x y) ?_
  intro p e s m below meth c T0 hx hby hml hZ hown hnm hret hk e0 X0
  show Go p e below _ (T0.setTop (mkF m 0 #[.val (.ref a), .val (.ref t), .val (.int x), .val (.int y)] []))
  refine go_aloadn X0 hx (dc hby d10_0) (v := (.ref a)) rfl rfl ?_
  refine go_specialP X0 hx hZ rfl hown (hw _ (List.mem_of_getElem? (i := 60) rfl)) (hw _ (List.mem_of_getElem? (i := 61) rfl)) (hw _ (List.mem_of_getElem? (i := 63) rfl)) (hw _ (List.mem_of_getElem? (i := 64) rfl)) (by decide) e0 (a := a) [] [] (rm11 l Z a0 hw [] a h0) pd11 rfl (by rw [hml]; rfl) rfl 0 (Nat.le_of_eq rfl) (by decide) (by decide) rfl rfl (by decide) (by decide) (dc hby d10_1) (fun T1 X1 e1 => ?_)
  refine go_aloadn X1 hx (dc hby d10_4) (v := (.ref a)) rfl rfl ?_
  refine go_aloadn X1 hx (dc hby d10_5) (v := (.ref t)) rfl rfl ?_
  refine go_putF X1 hx hZ (host := "") hown (Or.inl (hw _ (List.mem_of_getElem? (i := 66) rfl))) Via.refl e1 Fbuffer E (Or.inr ⟨(hw _ (List.mem_of_getElem? (i := 67) rfl)), rfl, hnm⟩) (hw _ (List.mem_of_getElem? (i := 55) rfl)) (ty := .array .char) (by decide) rfl rfl (dc hby d10_6) (fun T2 h2 X2 e2 W2 => ?_)
  have z1 := E.wr W2
  have z2 := Fbuffer.same W2
  have z3 := Ffrom.other W2 (Or.inr (own_sx_from_buffer hw))
  have z4 := Fto.other W2 (Or.inr (own_sx_to_buffer hw))
  refine go_aloadn X2 hx (dc hby d10_9) (v := (.ref a)) rfl rfl ?_
  refine go_iloadn X2 hx (dc hby d10_10) (v := x) rfl ?_
  refine go_putF X2 hx hZ (host := "") hown (Or.inl (hw _ (List.mem_of_getElem? (i := 68) rfl))) Via.refl e2 z3 z1 (Or.inr ⟨(hw _ (List.mem_of_getElem? (i := 69) rfl)), rfl, hnm⟩) (hw _ (List.mem_of_getElem? (i := 55) rfl)) (ty := .int) (by decide) rfl rfl (dc hby d10_11) (fun T3 h3 X3 e3 W3 => ?_)
  have z5 := z1.wr W3
  have z6 := z2.other W3 (Or.inr (own_sx_buffer_from hw))
  have z7 := z3.same W3
  have z8 := z4.other W3 (Or.inr (own_sx_to_from hw))
  refine go_aloadn X3 hx (dc hby d10_14) (v := (.ref a)) rfl rfl ?_
  refine go_iloadn X3 hx (dc hby d10_15) (v := y) rfl ?_
  refine go_putF X3 hx hZ (host := "") hown (Or.inl (hw _ (List.mem_of_getElem? (i := 70) rfl))) Via.refl e3 z8 z5 (Or.inr ⟨(hw _ (List.mem_of_getElem? (i := 71) rfl)), rfl, hnm⟩) (hw _ (List.mem_of_getElem? (i := 55) rfl)) (ty := .int) (by decide) rfl rfl (dc hby d10_16) (fun T4 h4 X4 e4 W4 => ?_)
  have z9 := z5.wr W4
  have z10 := z6.other W4 (Or.inr (own_sx_buffer_to hw))
  have z11 := z7.other W4 (Or.inr (own_sx_from_to hw))
  have z12 := z8.same W4
  subst e4
  exact go_retV X4 hx hret (dc hby d10_19) hk (by decide) (by decide) ⟨rfl, fun y hy => by simp at hy; rcases hy with rfl | rfl | rfl <;> rfl, (((Keep.refl _ _).wr W2 (Or.inl (by simp))).wr W3 (Or.inl (by simp))).wr W4 (Or.inl (by simp)), z9, z10, z11, z12⟩
theorem pd10 : parseMethodDescriptor "([CII)V" = some ⟨[(.array .char), .int, .int], none⟩ := by decide +kernel
theorem d7_0 : Dec prog_57_method_4_code 0 (.iload_n 1) 1 1 := ⟨by decide +kernel, rfl⟩
theorem d7_1 : Dec prog_57_method_4_code 1 (.aload_n 0) 1 2 := ⟨by decide +kernel, rfl⟩
theorem d7_2 : Dec prog_57_method_4_code 2 (.getfield 26) 3 5 := ⟨by decide +kernel, rfl⟩
theorem d7_5 : Dec prog_57_method_4_code 5 (.invokestatic 30) 3 8 := ⟨by decide +kernel, rfl⟩
theorem d7_8 : Dec prog_57_method_4_code 8 (.pop) 1 9 := ⟨by decide +kernel, rfl⟩
theorem d7_9 : Dec prog_57_method_4_code 9 (.new 43) 3 12 := ⟨by decide +kernel, rfl⟩
theorem d7_12 : Dec prog_57_method_4_code 12 (.dup) 1 13 := ⟨by decide +kernel, rfl⟩
theorem d7_13 : Dec prog_57_method_4_code 13 (.aload_n 0) 1 14 := ⟨by decide +kernel, rfl⟩
theorem d7_14 : Dec prog_57_method_4_code 14 (.getfield 7) 3 17 := ⟨by decide +kernel, rfl⟩
theorem d7_17 : Dec prog_57_method_4_code 17 (.aload_n 0) 1 18 := ⟨by decide +kernel, rfl⟩
theorem d7_18 : Dec prog_57_method_4_code 18 (.getfield 13) 3 21 := ⟨by decide +kernel, rfl⟩
theorem d7_21 : Dec prog_57_method_4_code 21 (.iload_n 1) 1 22 := ⟨by decide +kernel, rfl⟩
theorem d7_22 : Dec prog_57_method_4_code 22 (.iaload) 1 23 := ⟨by decide +kernel, rfl⟩
theorem d7_23 : Dec prog_57_method_4_code 23 (.aload_n 0) 1 24 := ⟨by decide +kernel, rfl⟩
theorem d7_24 : Dec prog_57_method_4_code 24 (.getfield 17) 3 27 := ⟨by decide +kernel, rfl⟩
theorem d7_27 : Dec prog_57_method_4_code 27 (.iload_n 1) 1 28 := ⟨by decide +kernel, rfl⟩
theorem d7_28 : Dec prog_57_method_4_code 28 (.iaload) 1 29 := ⟨by decide +kernel, rfl⟩
theorem d7_29 : Dec prog_57_method_4_code 29 (.invokespecial 45) 3 32 := ⟨by decide +kernel, rfl⟩
theorem d7_32 : Dec prog_57_method_4_code 32 (.areturn) 1 33 := ⟨by decide +kernel, rfl⟩
theorem pn7 : plainFor (⟨"com/example/strict_tariff/stricttariff/io/CsvRow", "text", "(I)Ljava/lang/CharSequence;"⟩ : MethodName) = true := by first | exact plainFor_of_name (by first | (simp [plainName, overriddenIn]; done) | decide +kernel) | decide +kernel
theorem ef7 (x0 : Addr) (x1 : Int32) (m : MethodId) : entryFrame m #[(.ref x0), (.int x1)] 2 = mkF m 0 #[.val (.ref x0), .val (.int x1)] [] := by first | (simp [entryFrame, mkF, argsToLocals, Value.category, maxLocals]; done) | rfl
set_option maxRecDepth 65536 in
set_option maxHeartbeats 40000000 in
theorem rm7 (l : Launch) (Z : State) (a0 : Array Value) (hw : ∀ d ∈ tables_1, d.before a0 Z = true) (ws : List Jvm.Cond) (a : Addr) (f : Int32) (t st en : Addr) (kS kE : ClassId) (n x y : Int32) (vs ve : List Value) (h0 : Heap) (FR : own_R Z h0 a t st en kS kE n vs ve) (hf : ¬ f < 0 ∧ f < 16) (hfn : f < n) (hvs : vs.getD f.toNatClampNeg (.int 0) = .int x) (hve : ve.getD f.toNatClampNeg (.int 0) = .int y) : Ct l Z (⟨"com/example/strict_tariff/stricttariff/io/CsvRow", "text", "(I)Ljava/lang/CharSequence;"⟩ : MethodName) prog_57_method_4_code 2 (some (.object "java/lang/CharSequence")) ws ({ frames := 3, cells := 1, slots := 3, locals := 40 } : Room) #[(.ref a), (.int f)] h0 (fun v h L => ∃ c, v = some (.ref c) ∧ h0.size ≤ c ∧ (∀ y ∈ L, y.base = c) ∧ Keep h0 h [] ∧ own_T Z h c t x y) := by
  refine Ct.of (pn7) _ (ef7 a f) ?_
  intro p e s m below meth c T0 hx hby hml hZ hown hnm hret hk e0 X0
  obtain ⟨E, Ft, Fs, Fe, Fz, VS, VE, q1, q2, q3⟩ := FR
  show Go p e below _ (T0.setTop (mkF m 0 #[.val (.ref a), .val (.int f)] []))
  refine go_iloadn X0 hx (dc hby d7_0) (v := f) rfl ?_
  refine go_aloadn X0 hx (dc hby d7_1) (v := (.ref a)) rfl rfl ?_
  refine go_getF X0 hx hZ (host := "") hown (Or.inl (hw _ (List.mem_of_getElem? (i := 39) rfl))) Via.refl e0 Fz (dc hby d7_2) (fun T1 X1 e1 => ?_)
  refine go_staticP X1 hx hZ hown (hw _ (List.mem_of_getElem? (i := 46) rfl)) (hw _ (List.mem_of_getElem? (i := 47) rfl)) (hw _ (List.mem_of_getElem? (i := 48) rfl)) (hw _ (List.mem_of_getElem? (i := 49) rfl)) (by decide) e1 [(.int f), (.int n)] [] (r := (.int f)) (rm8 l Z a0 hw [] f n h0 hf.1 hfn) pd8 rfl (by rw [hml]; rfl) rfl 0 (Nat.le_of_eq rfl) (by decide) (by decide) rfl rfl (by decide) (by decide) (dc hby d7_5) (fun T2 X2 e2 => ?_)
  refine go_pop X2 hx (dc hby d7_8) rfl ?_
  refine go_newO X2 hx hZ hown (hw _ (List.mem_of_getElem? (i := 54) rfl)) (hw _ (List.mem_of_getElem? (i := 55) rfl)) (hw _ (List.mem_of_getElem? (i := 56) rfl)) e2 (dc hby d7_9) (by decide) (by decide) (fun T3 h3 c g3 X3 e3 E3 A3 D3 => ?_)
  have z1 := E.ext E3
  have z2 := Ft.ext E3
  have z3 := Fs.ext E3
  have z4 := Fe.ext E3
  have z5 := Fz.ext E3
  have z6 := VS.ext E3
  have z7 := VE.ext E3
  refine go_dup X3 hx (dc hby d7_12) rfl ?_
  refine go_aloadn X3 hx (dc hby d7_13) (v := (.ref a)) rfl rfl ?_
  refine go_getF X3 hx hZ (host := "") hown (Or.inl (hw _ (List.mem_of_getElem? (i := 18) rfl))) Via.refl e3 z2 (dc hby d7_14) (fun T4 X4 e4 => ?_)
  refine go_aloadn X4 hx (dc hby d7_17) (v := (.ref a)) rfl rfl ?_
  refine go_getF X4 hx hZ (host := "") hown (Or.inl (hw _ (List.mem_of_getElem? (i := 21) rfl))) Via.refl e4 z3 (dc hby d7_18) (fun T5 X5 e5 => ?_)
  refine go_iloadn X5 hx (dc hby d7_21) (v := f) rfl ?_
  refine go_ialoadV X5 hx hZ e5 z6 hf hvs (dc hby d7_22) ?_
  refine go_aloadn X5 hx (dc hby d7_23) (v := (.ref a)) rfl rfl ?_
  refine go_getF X5 hx hZ (host := "") hown (Or.inl (hw _ (List.mem_of_getElem? (i := 23) rfl))) Via.refl e5 z4 (dc hby d7_24) (fun T6 X6 e6 => ?_)
  refine go_iloadn X6 hx (dc hby d7_27) (v := f) rfl ?_
  refine go_ialoadV X6 hx hZ e6 z7 hf hve (dc hby d7_28) ?_
  have eh := e6
  refine go_specialR X6 hx hZ rfl hown (hw _ (List.mem_of_getElem? (i := 57) rfl)) (hw _ (List.mem_of_getElem? (i := 58) rfl)) (hw _ (List.mem_of_getElem? (i := 56) rfl)) (hw _ (List.mem_of_getElem? (i := 59) rfl)) (by decide) e6 (a := c) [(.ref t), (.int x), (.int y)] [(.ref c)] (rm10 l Z a0 hw [] c t x y h3 A3 (D3 (Or.inr (hw _ (List.mem_of_getElem? (i := 67) rfl))) (ty := .array .char) (by decide)) (D3 (Or.inr (hw _ (List.mem_of_getElem? (i := 69) rfl))) (ty := .int) (by decide)) (D3 (Or.inr (hw _ (List.mem_of_getElem? (i := 71) rfl))) (ty := .int) (by decide))) pd10 rfl (by rw [hml]; rfl) rfl 1 (Nat.le_of_eq rfl) (by decide) (by decide) (by decide) (by decide) (dc hby d7_29) (fun T7 v7 L7 X7 hQ7 => ?_)
  obtain ⟨rfl, N7, K7, TT7⟩ := hQ7
  show Go p e below _ (T7.setTop (mkF m 32 #[.val (.ref a), .val (.int f)] [(.ref c)]))
  have gc : h0.size ≤ c := Nat.le_of_eq g3.symm
  exact go_retA X7 hx hret rfl rfl (dc hby d7_32) hk (by decide) (by decide) ⟨c, rfl, gc, fun y hy => N7 y (by simpa using hy), ((Keep.refl _ _).ext E3).trans K7 (fun x hx => Or.inr (by simp at hx; rw [hx]; exact gc)), TT7⟩
theorem pd7 : parseMethodDescriptor "(I)Ljava/lang/CharSequence;" = some ⟨[.int], some (.object "java/lang/CharSequence")⟩ := by decide +kernel
theorem d12_0 : Dec prog_58_method_2_code 0 (.aload_n 0) 1 1 := ⟨by decide +kernel, rfl⟩
theorem d12_1 : Dec prog_58_method_2_code 1 (.getfield 17) 3 4 := ⟨by decide +kernel, rfl⟩
theorem d12_4 : Dec prog_58_method_2_code 4 (.aload_n 0) 1 5 := ⟨by decide +kernel, rfl⟩
theorem d12_5 : Dec prog_58_method_2_code 5 (.getfield 13) 3 8 := ⟨by decide +kernel, rfl⟩
theorem d12_8 : Dec prog_58_method_2_code 8 (.isub) 1 9 := ⟨by decide +kernel, rfl⟩
theorem d12_9 : Dec prog_58_method_2_code 9 (.ireturn) 1 10 := ⟨by decide +kernel, rfl⟩
theorem pn12 : plainFor (⟨"com/example/strict_tariff/stricttariff/io/CsvRow$Text", "length", "()I"⟩ : MethodName) = true := by first | exact plainFor_of_name (by first | (simp [plainName, overriddenIn]; done) | decide +kernel) | decide +kernel
theorem ef12 (x0 : Addr) (m : MethodId) : entryFrame m #[(.ref x0)] 1 = mkF m 0 #[.val (.ref x0)] [] := by first | (simp [entryFrame, mkF, argsToLocals, Value.category, maxLocals]; done) | rfl
set_option maxRecDepth 65536 in
set_option maxHeartbeats 40000000 in
theorem rm12 (l : Launch) (Z : State) (a0 : Array Value) (hw : ∀ d ∈ tables_1, d.before a0 Z = true) (ws : List Jvm.Cond) (u t : Addr) (x y : Int32) (h0 : Heap) (FT : own_T Z h0 u t x y) : Ct l Z (⟨"com/example/strict_tariff/stricttariff/io/CsvRow$Text", "length", "()I"⟩ : MethodName) prog_58_method_2_code 1 (some .int) ws ({ frames := 0, cells := 0, slots := 0, locals := 0 } : Room) #[(.ref u)] h0 (QP (.int (y - x)) h0) := by
  refine Ct.of (pn12) _ (ef12 u) ?_
  intro p e s m below meth c T0 hx hby hml hZ hown hnm hret hk e0 X0
  show Go p e below _ (T0.setTop (mkF m 0 #[.val (.ref u)] []))
  refine go_aloadn X0 hx (dc hby d12_0) (v := (.ref u)) rfl rfl ?_
  refine go_getF X0 hx hZ (host := "") hown (Or.inl (hw _ (List.mem_of_getElem? (i := 70) rfl))) Via.refl e0 FT.2.2.2 (dc hby d12_1) (fun T1 X1 e1 => ?_)
  refine go_aloadn X1 hx (dc hby d12_4) (v := (.ref u)) rfl rfl ?_
  refine go_getF X1 hx hZ (host := "") hown (Or.inl (hw _ (List.mem_of_getElem? (i := 68) rfl))) Via.refl e1 FT.2.2.1 (dc hby d12_5) (fun T2 X2 e2 => ?_)
  refine go_isub X2 hx (dc hby d12_8) ?_
  exact go_retI X2 hx hret (dc hby d12_9) hk (by decide) (by decide) ⟨rfl, e2, rfl⟩
theorem pd12 : parseMethodDescriptor "()I" = some ⟨[], some .int⟩ := by decide +kernel
theorem d14_0 : Dec prog_58_method_3_code 0 (.iload_n 1) 1 1 := ⟨by decide +kernel, rfl⟩
theorem d14_1 : Dec prog_58_method_3_code 1 (.aload_n 0) 1 2 := ⟨by decide +kernel, rfl⟩
theorem d14_2 : Dec prog_58_method_3_code 2 (.getfield 17) 3 5 := ⟨by decide +kernel, rfl⟩
theorem d14_5 : Dec prog_58_method_3_code 5 (.aload_n 0) 1 6 := ⟨by decide +kernel, rfl⟩
theorem d14_6 : Dec prog_58_method_3_code 6 (.getfield 13) 3 9 := ⟨by decide +kernel, rfl⟩
theorem d14_9 : Dec prog_58_method_3_code 9 (.isub) 1 10 := ⟨by decide +kernel, rfl⟩
theorem d14_10 : Dec prog_58_method_3_code 10 (.invokestatic 20) 3 13 := ⟨by decide +kernel, rfl⟩
theorem d14_13 : Dec prog_58_method_3_code 13 (.pop) 1 14 := ⟨by decide +kernel, rfl⟩
theorem d14_14 : Dec prog_58_method_3_code 14 (.aload_n 0) 1 15 := ⟨by decide +kernel, rfl⟩
theorem d14_15 : Dec prog_58_method_3_code 15 (.getfield 7) 3 18 := ⟨by decide +kernel, rfl⟩
theorem d14_18 : Dec prog_58_method_3_code 18 (.aload_n 0) 1 19 := ⟨by decide +kernel, rfl⟩
theorem d14_19 : Dec prog_58_method_3_code 19 (.getfield 13) 3 22 := ⟨by decide +kernel, rfl⟩
theorem d14_22 : Dec prog_58_method_3_code 22 (.iload_n 1) 1 23 := ⟨by decide +kernel, rfl⟩
theorem d14_23 : Dec prog_58_method_3_code 23 (.iadd) 1 24 := ⟨by decide +kernel, rfl⟩
theorem d14_24 : Dec prog_58_method_3_code 24 (.caload) 1 25 := ⟨by decide +kernel, rfl⟩
theorem d14_25 : Dec prog_58_method_3_code 25 (.ireturn) 1 26 := ⟨by decide +kernel, rfl⟩
theorem pn14 : plainFor (⟨"com/example/strict_tariff/stricttariff/io/CsvRow$Text", "charAt", "(I)C"⟩ : MethodName) = true := by first | exact plainFor_of_name (by first | (simp [plainName, overriddenIn]; done) | decide +kernel) | decide +kernel
theorem ef14 (x0 : Addr) (x1 : Int32) (m : MethodId) : entryFrame m #[(.ref x0), (.int x1)] 2 = mkF m 0 #[.val (.ref x0), .val (.int x1)] [] := by first | (simp [entryFrame, mkF, argsToLocals, Value.category, maxLocals]; done) | rfl
set_option maxRecDepth 65536 in
set_option maxHeartbeats 40000000 in
theorem rm14 (l : Launch) (Z : State) (a0 : Array Value) (hw : ∀ d ∈ tables_1, d.before a0 Z = true) (ws : List Jvm.Cond) (u : Addr) (i : Int32) (t : Addr) (kB : ClassId) (x y w : Int32) (vs : List Value) (h0 : Heap) (FT : own_T Z h0 u t x y) (VB : Arv Z h0 t kB .char 4 vs (.int 0)) (hi : ¬ i < 0) (hl : i < y - x) (hx4 : ¬ (x + i) < 0 ∧ (x + i) < 4) (hv : vs.getD (x + i).toNatClampNeg (.int 0) = .int w) : Ct l Z (⟨"com/example/strict_tariff/stricttariff/io/CsvRow$Text", "charAt", "(I)C"⟩ : MethodName) prog_58_method_3_code 2 (some .char) ws ({ frames := 2, cells := 0, slots := 0, locals := 27 } : Room) #[(.ref u), (.int i)] h0 (QP (.int (nar .char w)) h0) := by
  refine Ct.of (pn14) _ (ef14 u i) ?_
  intro p e s m below meth c T0 hx hby hml hZ hown hnm hret hk e0 X0
  show Go p e below _ (T0.setTop (mkF m 0 #[.val (.ref u), .val (.int i)] []))
  refine go_iloadn X0 hx (dc hby d14_0) (v := i) rfl ?_
  refine go_aloadn X0 hx (dc hby d14_1) (v := (.ref u)) rfl rfl ?_
  refine go_getF X0 hx hZ (host := "") hown (Or.inl (hw _ (List.mem_of_getElem? (i := 70) rfl))) Via.refl e0 FT.2.2.2 (dc hby d14_2) (fun T1 X1 e1 => ?_)
  refine go_aloadn X1 hx (dc hby d14_5) (v := (.ref u)) rfl rfl ?_
  refine go_getF X1 hx hZ (host := "") hown (Or.inl (hw _ (List.mem_of_getElem? (i := 68) rfl))) Via.refl e1 FT.2.2.1 (dc hby d14_6) (fun T2 X2 e2 => ?_)
  refine go_isub X2 hx (dc hby d14_9) ?_
  refine go_staticP X2 hx hZ hown (hw _ (List.mem_of_getElem? (i := 94) rfl)) (hw _ (List.mem_of_getElem? (i := 47) rfl)) (hw _ (List.mem_of_getElem? (i := 48) rfl)) (hw _ (List.mem_of_getElem? (i := 49) rfl)) (by decide) e2 [(.int i), (.int (y - x))] [] (r := (.int i)) (rm8 l Z a0 hw [] i (y - x) h0 hi hl) pd8 rfl (by rw [hml]; rfl) rfl 0 (Nat.le_of_eq rfl) (by decide) (by decide) rfl rfl (by decide) (by decide) (dc hby d14_10) (fun T3 X3 e3 => ?_)
  refine go_pop X3 hx (dc hby d14_13) rfl ?_
  refine go_aloadn X3 hx (dc hby d14_14) (v := (.ref u)) rfl rfl ?_
  refine go_getF X3 hx hZ (host := "") hown (Or.inl (hw _ (List.mem_of_getElem? (i := 66) rfl))) Via.refl e3 FT.2.1 (dc hby d14_15) (fun T4 X4 e4 => ?_)
  refine go_aloadn X4 hx (dc hby d14_18) (v := (.ref u)) rfl rfl ?_
  refine go_getF X4 hx hZ (host := "") hown (Or.inl (hw _ (List.mem_of_getElem? (i := 68) rfl))) Via.refl e4 FT.2.2.1 (dc hby d14_19) (fun T5 X5 e5 => ?_)
  refine go_iloadn X5 hx (dc hby d14_22) (v := i) rfl ?_
  refine go_iadd X5 hx (dc hby d14_23) ?_
  refine go_caloadV X5 hx hZ e5 VB hx4 hv (dc hby d14_24) ?_
  exact go_retN X5 hx hret (by simp) (dc hby d14_25) hk (by decide) (by decide) ⟨rfl, e5, rfl⟩
theorem pd14 : parseMethodDescriptor "(I)C" = some ⟨[.int], some .char⟩ := by decide +kernel
theorem d13_0 : Dec method_2_code 0 (.iload 4) 2 2 := ⟨by decide +kernel, rfl⟩
theorem d13_2 : Dec method_2_code 2 (.iload_n 3) 1 3 := ⟨by decide +kernel, rfl⟩
theorem d13_3 : Dec method_2_code 3 (.iload_n 2) 1 4 := ⟨by decide +kernel, rfl⟩
theorem d13_4 : Dec method_2_code 4 (.isub) 1 5 := ⟨by decide +kernel, rfl⟩
theorem d13_5 : DecB method_2_code 5 (.if_icmp .lt 5) (5) 8 10 := ⟨by decide +kernel, rfl, by decide, by decide⟩
theorem d13_8 : Dec method_2_code 8 (.iconst 1) 1 9 := ⟨by decide +kernel, rfl⟩
theorem d13_9 : Dec method_2_code 9 (.ireturn) 1 10 := ⟨by decide +kernel, rfl⟩
theorem d13_10 : Dec method_2_code 10 (.aload_n 0) 1 11 := ⟨by decide +kernel, rfl⟩
theorem d13_11 : Dec method_2_code 11 (.iload 4) 2 13 := ⟨by decide +kernel, rfl⟩
theorem d13_13 : Dec method_2_code 13 (.invokeinterface 7 2) 5 18 := ⟨by decide +kernel, rfl⟩
theorem d13_18 : Dec method_2_code 18 (.aload_n 1) 1 19 := ⟨by decide +kernel, rfl⟩
theorem d13_19 : Dec method_2_code 19 (.iload_n 2) 1 20 := ⟨by decide +kernel, rfl⟩
theorem d13_20 : Dec method_2_code 20 (.iload 4) 2 22 := ⟨by decide +kernel, rfl⟩
theorem d13_22 : Dec method_2_code 22 (.iadd) 1 23 := ⟨by decide +kernel, rfl⟩
theorem d13_23 : Dec method_2_code 23 (.caload) 1 24 := ⟨by decide +kernel, rfl⟩
theorem d13_24 : DecB method_2_code 24 (.if_icmp .ne 7) (7) 27 31 := ⟨by decide +kernel, rfl, by decide, by decide⟩
theorem d13_27 : Dec method_2_code 27 (.iconst 1) 1 28 := ⟨by decide +kernel, rfl⟩
theorem d13_28 : DecB method_2_code 28 (.goto 4) (4) 31 32 := ⟨by decide +kernel, rfl, by decide, by decide⟩
theorem d13_32 : Dec method_2_code 32 (.ireturn) 1 33 := ⟨by decide +kernel, rfl⟩
theorem pn13 : plainFor (⟨"com/example/strict_tariff/stricttariff/io/CsvRowTextPinLaw", "at", "(Ljava/lang/CharSequence;[CIII)Z"⟩ : MethodName) = true := by first | exact plainFor_of_name (by first | (simp [plainName, overriddenIn]; done) | decide +kernel) | decide +kernel
theorem ef13 (x0 : Addr) (x1 : Addr) (x2 : Int32) (x3 : Int32) (x4 : Int32) (m : MethodId) : entryFrame m #[(.ref x0), (.ref x1), (.int x2), (.int x3), (.int x4)] 5 = mkF m 0 #[.val (.ref x0), .val (.ref x1), .val (.int x2), .val (.int x3), .val (.int x4)] [] := by first | (simp [entryFrame, mkF, argsToLocals, Value.category, maxLocals]; done) | rfl
set_option maxRecDepth 65536 in
set_option maxHeartbeats 40000000 in
theorem rm13 (l : Launch) (Z : State) (a0 : Array Value) (hw : ∀ d ∈ tables_1, d.before a0 Z = true) (ws : List Jvm.Cond) (u b : Addr) (x y i : Int32) (kB : ClassId) (c0 c1 c2 c3 : Int32) (h0 : Heap) (FT : own_T Z h0 u b x y) (VB : Arv Z h0 b kB .char 4 [.int c0, .int c1, .int c2, .int c3] (.int 0)) (hi : ¬ i < 0) (hxy : 0 ≤ x.toInt ∧ x.toInt ≤ y.toInt ∧ y.toInt ≤ 4) : Ct l Z (⟨"com/example/strict_tariff/stricttariff/io/CsvRowTextPinLaw", "at", "(Ljava/lang/CharSequence;[CIII)Z"⟩ : MethodName) method_2_code 5 (some .boolean) ws ({ frames := 3, cells := 0, slots := 0, locals := 40 } : Room) #[(.ref u), (.ref b), (.int x), (.int y), (.int i)] h0 (QP (.int 1) h0) := by
  refine Ct.of (pn13) _ (ef13 u b x y i) ?_
  intro p e s m below meth c T0 hx hby hml hZ hown hnm hret hk e0 X0
  show Go p e below _ (T0.setTop (mkF m 0 #[.val (.ref u), .val (.ref b), .val (.int x), .val (.int y), .val (.int i)] []))
  refine go_iload X0 hx (dc hby d13_0) (v := i) rfl ?_
  refine go_iloadn X0 hx (dc hby d13_2) (v := y) rfl ?_
  refine go_iloadn X0 hx (dc hby d13_3) (v := x) rfl ?_
  refine go_isub X0 hx (dc hby d13_4) ?_
  refine go_icmp_lt X0 hx (db hby d13_5) (fun c5 => ?_) (fun c5 => ?_)
  · have hix := own_ix hxy hi c5
    obtain ⟨w, hwv, hwn⟩ := own_pick VB hix
    refine go_aloadn X0 hx (dc hby d13_10) (v := (.ref u)) rfl rfl ?_
    refine go_iload X0 hx (dc hby d13_11) (v := i) rfl ?_
    refine go_interfaceP X0 hx hZ hown (hw _ (List.mem_of_getElem? (i := 86) rfl)) (hw _ (List.mem_of_getElem? (i := 87) rfl)) (hw _ (List.mem_of_getElem? (i := 88) rfl)) (by decide) (hw _ (List.mem_of_getElem? (i := 89) rfl)) (hw _ (List.mem_of_getElem? (i := 90) rfl)) (hw _ (List.mem_of_getElem? (i := 91) rfl)) (hw _ (List.mem_of_getElem? (i := 92) rfl)) (hw _ (List.mem_of_getElem? (i := 80) rfl)) (hw _ (List.mem_of_getElem? (i := 56) rfl)) (hw _ (List.mem_of_getElem? (i := 93) rfl)) (by decide) e0 (a := u) FT.1 [(.int i)] [] (r := (.int (nar .char w))) (rm14 l Z a0 hw [] u i b kB x y w _ h0 FT VB hi c5 hix hwv) pd14 rfl (by rw [hml]; rfl) rfl 0 (Nat.le_of_eq rfl) (by decide) (by decide) rfl rfl (by decide) (by decide) (dc hby d13_13) (fun T1 X1 e1 => ?_)
    refine go_aloadn X1 hx (dc hby d13_18) (v := (.ref b)) rfl rfl ?_
    refine go_iloadn X1 hx (dc hby d13_19) (v := x) rfl ?_
    refine go_iload X1 hx (dc hby d13_20) (v := i) rfl ?_
    refine go_iadd X1 hx (dc hby d13_22) ?_
    refine go_caloadV X1 hx hZ e1 VB hix hwv (dc hby d13_23) ?_
    refine go_icmp_ne X1 hx (db hby d13_24) (fun c24 => absurd hwn c24) (fun c24 => ?_)
    refine go_iconst X1 hx (1) (dc hby d13_27) rfl ?_
    refine go_goto X1 hx (db hby d13_28) ?_
    exact go_retN X1 hx hret (by simp) (dc hby d13_32) hk (by decide) (by decide) ⟨rfl, e1, rfl⟩
  · refine go_iconst X0 hx (1) (dc hby d13_8) rfl ?_
    exact go_retN X0 hx hret (by simp) (dc hby d13_9) hk (by decide) (by decide) ⟨rfl, e0, rfl⟩
theorem pd13 : parseMethodDescriptor "(Ljava/lang/CharSequence;[CIII)Z" = some ⟨[(.object "java/lang/CharSequence"), (.array .char), .int, .int, .int], some .boolean⟩ := by decide +kernel
theorem d0_0 : Dec code 0 (.iconst 4) 1 1 := ⟨at_0, rfl⟩
theorem d0_1 : Dec code 1 (.newarray .char) 2 3 := ⟨at_1, rfl⟩
theorem d0_3 : Dec code 3 (.astore 6) 2 5 := ⟨at_3, rfl⟩
theorem d0_5 : Dec code 5 (.aload 6) 2 7 := ⟨at_5, rfl⟩
theorem d0_7 : Dec code 7 (.iconst 0) 1 8 := ⟨at_7, rfl⟩
theorem d0_8 : Dec code 8 (.lload_n 0) 1 9 := ⟨at_8, rfl⟩
theorem d0_9 : Dec code 9 (.ldc2_w 13) 3 12 := ⟨at_9, rfl⟩
theorem d0_12 : Dec code 12 (.land) 1 13 := ⟨at_12, rfl⟩
theorem d0_13 : Dec code 13 (.l2i) 1 14 := ⟨at_13, rfl⟩
theorem d0_14 : Dec code 14 (.i2c) 1 15 := ⟨at_14, rfl⟩
theorem d0_15 : Dec code 15 (.castore) 1 16 := ⟨at_15, rfl⟩
theorem d0_16 : Dec code 16 (.aload 6) 2 18 := ⟨at_16, rfl⟩
theorem d0_18 : Dec code 18 (.iconst 1) 1 19 := ⟨at_18, rfl⟩
theorem d0_19 : Dec code 19 (.lload_n 0) 1 20 := ⟨at_19, rfl⟩
theorem d0_20 : Dec code 20 (.bipush 16) 2 22 := ⟨at_20, rfl⟩
theorem d0_22 : Dec code 22 (.lushr) 1 23 := ⟨at_22, rfl⟩
theorem d0_23 : Dec code 23 (.ldc2_w 13) 3 26 := ⟨at_23, rfl⟩
theorem d0_26 : Dec code 26 (.land) 1 27 := ⟨at_26, rfl⟩
theorem d0_27 : Dec code 27 (.l2i) 1 28 := ⟨at_27, rfl⟩
theorem d0_28 : Dec code 28 (.i2c) 1 29 := ⟨at_28, rfl⟩
theorem d0_29 : Dec code 29 (.castore) 1 30 := ⟨at_29, rfl⟩
theorem d0_30 : Dec code 30 (.aload 6) 2 32 := ⟨at_30, rfl⟩
theorem d0_32 : Dec code 32 (.iconst 2) 1 33 := ⟨at_32, rfl⟩
theorem d0_33 : Dec code 33 (.lload_n 0) 1 34 := ⟨at_33, rfl⟩
theorem d0_34 : Dec code 34 (.bipush 32) 2 36 := ⟨at_34, rfl⟩
theorem d0_36 : Dec code 36 (.lushr) 1 37 := ⟨at_36, rfl⟩
theorem d0_37 : Dec code 37 (.ldc2_w 13) 3 40 := ⟨at_37, rfl⟩
theorem d0_40 : Dec code 40 (.land) 1 41 := ⟨at_40, rfl⟩
theorem d0_41 : Dec code 41 (.l2i) 1 42 := ⟨at_41, rfl⟩
theorem d0_42 : Dec code 42 (.i2c) 1 43 := ⟨at_42, rfl⟩
theorem d0_43 : Dec code 43 (.castore) 1 44 := ⟨at_43, rfl⟩
theorem d0_44 : Dec code 44 (.aload 6) 2 46 := ⟨at_44, rfl⟩
theorem d0_46 : Dec code 46 (.iconst 3) 1 47 := ⟨at_46, rfl⟩
theorem d0_47 : Dec code 47 (.lload_n 0) 1 48 := ⟨at_47, rfl⟩
theorem d0_48 : Dec code 48 (.bipush 48) 2 50 := ⟨at_48, rfl⟩
theorem d0_50 : Dec code 50 (.lushr) 1 51 := ⟨at_50, rfl⟩
theorem d0_51 : Dec code 51 (.ldc2_w 13) 3 54 := ⟨at_51, rfl⟩
theorem d0_54 : Dec code 54 (.land) 1 55 := ⟨at_54, rfl⟩
theorem d0_55 : Dec code 55 (.l2i) 1 56 := ⟨at_55, rfl⟩
theorem d0_56 : Dec code 56 (.i2c) 1 57 := ⟨at_56, rfl⟩
theorem d0_57 : Dec code 57 (.castore) 1 58 := ⟨at_57, rfl⟩
theorem d0_58 : Dec code 58 (.iload_n 2) 1 59 := ⟨at_58, rfl⟩
theorem d0_59 : Dec code 59 (.bipush 7) 2 61 := ⟨at_59, rfl⟩
theorem d0_61 : Dec code 61 (.iand) 1 62 := ⟨at_61, rfl⟩
theorem d0_62 : Dec code 62 (.iconst 5) 1 63 := ⟨at_62, rfl⟩
theorem d0_63 : Dec code 63 (.irem) 1 64 := ⟨at_63, rfl⟩
theorem d0_64 : Dec code 64 (.istore 7) 2 66 := ⟨at_64, rfl⟩
theorem d0_66 : Dec code 66 (.iload_n 2) 1 67 := ⟨at_66, rfl⟩
theorem d0_67 : Dec code 67 (.iconst 3) 1 68 := ⟨at_67, rfl⟩
theorem d0_68 : Dec code 68 (.iushr) 1 69 := ⟨at_68, rfl⟩
theorem d0_69 : Dec code 69 (.bipush 7) 2 71 := ⟨at_69, rfl⟩
theorem d0_71 : Dec code 71 (.iand) 1 72 := ⟨at_71, rfl⟩
theorem d0_72 : Dec code 72 (.iconst 5) 1 73 := ⟨at_72, rfl⟩
theorem d0_73 : Dec code 73 (.irem) 1 74 := ⟨at_73, rfl⟩
theorem d0_74 : Dec code 74 (.istore 8) 2 76 := ⟨at_74, rfl⟩
theorem d0_76 : Dec code 76 (.iload_n 3) 1 77 := ⟨at_76, rfl⟩
theorem d0_77 : Dec code 77 (.bipush 7) 2 79 := ⟨at_77, rfl⟩
theorem d0_79 : Dec code 79 (.iand) 1 80 := ⟨at_79, rfl⟩
theorem d0_80 : Dec code 80 (.iconst 5) 1 81 := ⟨at_80, rfl⟩
theorem d0_81 : Dec code 81 (.irem) 1 82 := ⟨at_81, rfl⟩
theorem d0_82 : Dec code 82 (.istore 9) 2 84 := ⟨at_82, rfl⟩
theorem d0_84 : Dec code 84 (.iload_n 3) 1 85 := ⟨at_84, rfl⟩
theorem d0_85 : Dec code 85 (.iconst 3) 1 86 := ⟨at_85, rfl⟩
theorem d0_86 : Dec code 86 (.iushr) 1 87 := ⟨at_86, rfl⟩
theorem d0_87 : Dec code 87 (.bipush 7) 2 89 := ⟨at_87, rfl⟩
theorem d0_89 : Dec code 89 (.iand) 1 90 := ⟨at_89, rfl⟩
theorem d0_90 : Dec code 90 (.iconst 5) 1 91 := ⟨at_90, rfl⟩
theorem d0_91 : Dec code 91 (.irem) 1 92 := ⟨at_91, rfl⟩
theorem d0_92 : Dec code 92 (.istore 10) 2 94 := ⟨at_92, rfl⟩
theorem d0_94 : Dec code 94 (.iload 7) 2 96 := ⟨at_94, rfl⟩
theorem d0_96 : Dec code 96 (.iload 8) 2 98 := ⟨at_96, rfl⟩
theorem d0_98 : Dec code 98 (.invokestatic 15) 3 101 := ⟨at_98, rfl⟩
theorem d0_101 : Dec code 101 (.istore 11) 2 103 := ⟨at_101, rfl⟩
theorem d0_103 : Dec code 103 (.iload 7) 2 105 := ⟨at_103, rfl⟩
theorem d0_105 : Dec code 105 (.iload 8) 2 107 := ⟨at_105, rfl⟩
theorem d0_107 : Dec code 107 (.invokestatic 21) 3 110 := ⟨at_107, rfl⟩
theorem d0_110 : Dec code 110 (.istore 12) 2 112 := ⟨at_110, rfl⟩
theorem d0_112 : Dec code 112 (.iload 9) 2 114 := ⟨at_112, rfl⟩
theorem d0_114 : Dec code 114 (.iload 10) 2 116 := ⟨at_114, rfl⟩
theorem d0_116 : Dec code 116 (.invokestatic 15) 3 119 := ⟨at_116, rfl⟩
theorem d0_119 : Dec code 119 (.istore 13) 2 121 := ⟨at_119, rfl⟩
theorem d0_121 : Dec code 121 (.iload 9) 2 123 := ⟨at_121, rfl⟩
theorem d0_123 : Dec code 123 (.iload 10) 2 125 := ⟨at_123, rfl⟩
theorem d0_125 : Dec code 125 (.invokestatic 21) 3 128 := ⟨at_125, rfl⟩
theorem d0_128 : Dec code 128 (.istore 14) 2 130 := ⟨at_128, rfl⟩
theorem d0_130 : Dec code 130 (.iload 4) 2 132 := ⟨at_130, rfl⟩
theorem d0_132 : Dec code 132 (.iconst 1) 1 133 := ⟨at_132, rfl⟩
theorem d0_133 : Dec code 133 (.iand) 1 134 := ⟨at_133, rfl⟩
theorem d0_134 : Dec code 134 (.istore 15) 2 136 := ⟨at_134, rfl⟩
theorem d0_136 : Dec code 136 (.new 24) 3 139 := ⟨at_136, rfl⟩
theorem d0_139 : Dec code 139 (.dup) 1 140 := ⟨at_139, rfl⟩
theorem d0_140 : Dec code 140 (.invokespecial 26) 3 143 := ⟨at_140, rfl⟩
theorem d0_143 : Dec code 143 (.astore 16) 2 145 := ⟨at_143, rfl⟩
theorem d0_145 : Dec code 145 (.aload 16) 2 147 := ⟨at_145, rfl⟩
theorem d0_147 : Dec code 147 (.aload 6) 2 149 := ⟨at_147, rfl⟩
theorem d0_149 : Dec code 149 (.invokevirtual 27) 3 152 := ⟨at_149, rfl⟩
theorem d0_152 : Dec code 152 (.aload 16) 2 154 := ⟨at_152, rfl⟩
theorem d0_154 : Dec code 154 (.iload 11) 2 156 := ⟨at_154, rfl⟩
theorem d0_156 : Dec code 156 (.iload 12) 2 158 := ⟨at_156, rfl⟩
theorem d0_158 : Dec code 158 (.invokevirtual 31) 3 161 := ⟨at_158, rfl⟩
theorem d0_161 : Dec code 161 (.aload 16) 2 163 := ⟨at_161, rfl⟩
theorem d0_163 : Dec code 163 (.iload 13) 2 165 := ⟨at_163, rfl⟩
theorem d0_165 : Dec code 165 (.iload 14) 2 167 := ⟨at_165, rfl⟩
theorem d0_167 : Dec code 167 (.invokevirtual 31) 3 170 := ⟨at_167, rfl⟩
theorem d0_170 : Dec code 170 (.aload 16) 2 172 := ⟨at_170, rfl⟩
theorem d0_172 : Dec code 172 (.iload 15) 2 174 := ⟨at_172, rfl⟩
theorem d0_174 : Dec code 174 (.invokevirtual 35) 3 177 := ⟨at_174, rfl⟩
theorem d0_177 : Dec code 177 (.astore 17) 2 179 := ⟨at_177, rfl⟩
theorem d0_179 : Dec code 179 (.iload 15) 2 181 := ⟨at_179, rfl⟩
theorem d0_181 : DecB code 181 (.ifCond .ne 8) (8) 184 189 := ⟨at_181, rfl, by decide, by decide⟩
theorem d0_184 : Dec code 184 (.iload 11) 2 186 := ⟨at_184, rfl⟩
theorem d0_186 : DecB code 186 (.goto 5) (5) 189 191 := ⟨at_186, rfl, by decide, by decide⟩
theorem d0_189 : Dec code 189 (.iload 13) 2 191 := ⟨at_189, rfl⟩
theorem d0_191 : Dec code 191 (.istore 18) 2 193 := ⟨at_191, rfl⟩
theorem d0_193 : Dec code 193 (.iload 15) 2 195 := ⟨at_193, rfl⟩
theorem d0_195 : DecB code 195 (.ifCond .ne 8) (8) 198 203 := ⟨at_195, rfl, by decide, by decide⟩
theorem d0_198 : Dec code 198 (.iload 12) 2 200 := ⟨at_198, rfl⟩
theorem d0_200 : DecB code 200 (.goto 5) (5) 203 205 := ⟨at_200, rfl, by decide, by decide⟩
theorem d0_203 : Dec code 203 (.iload 14) 2 205 := ⟨at_203, rfl⟩
theorem d0_205 : Dec code 205 (.istore 19) 2 207 := ⟨at_205, rfl⟩
theorem d0_207 : Dec code 207 (.aload 6) 2 209 := ⟨at_207, rfl⟩
theorem d0_209 : Dec code 209 (.iload 5) 2 211 := ⟨at_209, rfl⟩
theorem d0_211 : Dec code 211 (.iconst 3) 1 212 := ⟨at_211, rfl⟩
theorem d0_212 : Dec code 212 (.iand) 1 213 := ⟨at_212, rfl⟩
theorem d0_213 : Dec code 213 (.iload 5) 2 215 := ⟨at_213, rfl⟩
theorem d0_215 : Dec code 215 (.bipush 16) 2 217 := ⟨at_215, rfl⟩
theorem d0_217 : Dec code 217 (.iushr) 1 218 := ⟨at_217, rfl⟩
theorem d0_218 : Dec code 218 (.ldc 39) 2 220 := ⟨at_218, rfl⟩
theorem d0_220 : Dec code 220 (.iand) 1 221 := ⟨at_220, rfl⟩
theorem d0_221 : Dec code 221 (.i2c) 1 222 := ⟨at_221, rfl⟩
theorem d0_222 : Dec code 222 (.castore) 1 223 := ⟨at_222, rfl⟩
theorem d0_223 : Dec code 223 (.aload 17) 2 225 := ⟨at_223, rfl⟩
theorem d0_225 : Dec code 225 (.invokeinterface 40 1) 5 230 := ⟨at_225, rfl⟩
theorem d0_230 : Dec code 230 (.iload 19) 2 232 := ⟨at_230, rfl⟩
theorem d0_232 : Dec code 232 (.iload 18) 2 234 := ⟨at_232, rfl⟩
theorem d0_234 : Dec code 234 (.isub) 1 235 := ⟨at_234, rfl⟩
theorem d0_235 : DecB code 235 (.if_icmp .ne 7) (7) 238 242 := ⟨at_235, rfl, by decide, by decide⟩
theorem d0_238 : Dec code 238 (.iconst 1) 1 239 := ⟨at_238, rfl⟩
theorem d0_239 : DecB code 239 (.goto 4) (4) 242 243 := ⟨at_239, rfl, by decide, by decide⟩
theorem d0_243 : Dec code 243 (.istore 20) 2 245 := ⟨at_243, rfl⟩
theorem d0_245 : Dec code 245 (.iload 20) 2 247 := ⟨at_245, rfl⟩
theorem d0_247 : DecB code 247 (.ifCond .eq 22) (22) 250 269 := ⟨at_247, rfl, by decide, by decide⟩
theorem d0_250 : Dec code 250 (.aload 17) 2 252 := ⟨at_250, rfl⟩
theorem d0_252 : Dec code 252 (.aload 6) 2 254 := ⟨at_252, rfl⟩
theorem d0_254 : Dec code 254 (.iload 18) 2 256 := ⟨at_254, rfl⟩
theorem d0_256 : Dec code 256 (.iload 19) 2 258 := ⟨at_256, rfl⟩
theorem d0_258 : Dec code 258 (.iconst 0) 1 259 := ⟨at_258, rfl⟩
theorem d0_259 : Dec code 259 (.invokestatic 44) 3 262 := ⟨at_259, rfl⟩
theorem d0_262 : DecB code 262 (.ifCond .eq 7) (7) 265 269 := ⟨at_262, rfl, by decide, by decide⟩
theorem d0_265 : Dec code 265 (.iconst 1) 1 266 := ⟨at_265, rfl⟩
theorem d0_266 : DecB code 266 (.goto 4) (4) 269 270 := ⟨at_266, rfl, by decide, by decide⟩
theorem d0_270 : Dec code 270 (.istore 20) 2 272 := ⟨at_270, rfl⟩
theorem d0_272 : Dec code 272 (.iload 20) 2 274 := ⟨at_272, rfl⟩
theorem d0_274 : DecB code 274 (.ifCond .eq 22) (22) 277 296 := ⟨at_274, rfl, by decide, by decide⟩
theorem d0_277 : Dec code 277 (.aload 17) 2 279 := ⟨at_277, rfl⟩
theorem d0_279 : Dec code 279 (.aload 6) 2 281 := ⟨at_279, rfl⟩
theorem d0_281 : Dec code 281 (.iload 18) 2 283 := ⟨at_281, rfl⟩
theorem d0_283 : Dec code 283 (.iload 19) 2 285 := ⟨at_283, rfl⟩
theorem d0_285 : Dec code 285 (.iconst 1) 1 286 := ⟨at_285, rfl⟩
theorem d0_286 : Dec code 286 (.invokestatic 44) 3 289 := ⟨at_286, rfl⟩
theorem d0_289 : DecB code 289 (.ifCond .eq 7) (7) 292 296 := ⟨at_289, rfl, by decide, by decide⟩
theorem d0_292 : Dec code 292 (.iconst 1) 1 293 := ⟨at_292, rfl⟩
theorem d0_293 : DecB code 293 (.goto 4) (4) 296 297 := ⟨at_293, rfl, by decide, by decide⟩
theorem d0_297 : Dec code 297 (.istore 20) 2 299 := ⟨at_297, rfl⟩
theorem d0_299 : Dec code 299 (.iload 20) 2 301 := ⟨at_299, rfl⟩
theorem d0_301 : DecB code 301 (.ifCond .eq 22) (22) 304 323 := ⟨at_301, rfl, by decide, by decide⟩
theorem d0_304 : Dec code 304 (.aload 17) 2 306 := ⟨at_304, rfl⟩
theorem d0_306 : Dec code 306 (.aload 6) 2 308 := ⟨at_306, rfl⟩
theorem d0_308 : Dec code 308 (.iload 18) 2 310 := ⟨at_308, rfl⟩
theorem d0_310 : Dec code 310 (.iload 19) 2 312 := ⟨at_310, rfl⟩
theorem d0_312 : Dec code 312 (.iconst 2) 1 313 := ⟨at_312, rfl⟩
theorem d0_313 : Dec code 313 (.invokestatic 44) 3 316 := ⟨at_313, rfl⟩
theorem d0_316 : DecB code 316 (.ifCond .eq 7) (7) 319 323 := ⟨at_316, rfl, by decide, by decide⟩
theorem d0_319 : Dec code 319 (.iconst 1) 1 320 := ⟨at_319, rfl⟩
theorem d0_320 : DecB code 320 (.goto 4) (4) 323 324 := ⟨at_320, rfl, by decide, by decide⟩
theorem d0_324 : Dec code 324 (.istore 20) 2 326 := ⟨at_324, rfl⟩
theorem d0_326 : Dec code 326 (.iload 20) 2 328 := ⟨at_326, rfl⟩
theorem d0_328 : DecB code 328 (.ifCond .eq 22) (22) 331 350 := ⟨at_328, rfl, by decide, by decide⟩
theorem d0_331 : Dec code 331 (.aload 17) 2 333 := ⟨at_331, rfl⟩
theorem d0_333 : Dec code 333 (.aload 6) 2 335 := ⟨at_333, rfl⟩
theorem d0_335 : Dec code 335 (.iload 18) 2 337 := ⟨at_335, rfl⟩
theorem d0_337 : Dec code 337 (.iload 19) 2 339 := ⟨at_337, rfl⟩
theorem d0_339 : Dec code 339 (.iconst 3) 1 340 := ⟨at_339, rfl⟩
theorem d0_340 : Dec code 340 (.invokestatic 44) 3 343 := ⟨at_340, rfl⟩
theorem d0_343 : DecB code 343 (.ifCond .eq 7) (7) 346 350 := ⟨at_343, rfl, by decide, by decide⟩
theorem d0_346 : Dec code 346 (.iconst 1) 1 347 := ⟨at_346, rfl⟩
theorem d0_347 : DecB code 347 (.goto 4) (4) 350 351 := ⟨at_347, rfl, by decide, by decide⟩
theorem d0_351 : Dec code 351 (.istore 20) 2 353 := ⟨at_351, rfl⟩
theorem d0_353 : Dec code 353 (.iload 20) 2 355 := ⟨at_353, rfl⟩
theorem d0_355 : Dec code 355 (.ireturn) 1 356 := ⟨at_355, rfl⟩
theorem pn0 : plainFor (⟨"com/example/strict_tariff/stricttariff/io/CsvRowTextPinLaw", "law", "(JIIII)Z"⟩ : MethodName) = true := by first | exact plainFor_of_name (by first | (simp [plainName, overriddenIn]; done) | decide +kernel) | decide +kernel
theorem ef0 (x0 : Int64) (x1 : Int32) (x2 : Int32) (x3 : Int32) (x4 : Int32) (m : MethodId) : entryFrame m #[(.long x0), (.int x1), (.int x2), (.int x3), (.int x4)] maxLocals = mkF m 0 #[.val (.long x0), .second, .val (.int x1), .val (.int x2), .val (.int x3), .val (.int x4), .unset, .unset, .unset, .unset, .unset, .unset, .unset, .unset, .unset, .unset, .unset, .unset, .unset, .unset, .unset] [] := by first | (simp [entryFrame, mkF, argsToLocals, Value.category, maxLocals]; done) | rfl
set_option maxRecDepth 65536 in
set_option maxHeartbeats 40000000 in
theorem rm0 (l : Launch) (Z : State) (a0 : Array Value) (hw : ∀ d ∈ tables_1, d.before a0 Z = true) (ws : List Jvm.Cond) (ch : Int64) (b0 b1 sel mt : Int32) (h0 : Heap)  : Ct l Z x code maxLocals ret ws room_1 #[(.long ch), (.int b0), (.int b1), (.int sel), (.int mt)] h0 (fun v h L => v = some (.int 1) ∧ Fr h0.size L) := by
  refine Ct.of (pn0) _ (ef0 ch b0 b1 sel mt) ?_
  intro p e s m below meth c T0 hx hby hml hZ hown hnm hret hk e0 X0
  show Go p e below _ (T0.setTop (mkF m 0 #[.val (.long ch), .second, .val (.int b0), .val (.int b1), .val (.int sel), .val (.int mt), .unset, .unset, .unset, .unset, .unset, .unset, .unset, .unset, .unset, .unset, .unset, .unset, .unset, .unset, .unset] []))
  refine go_iconst X0 hx (4) (dc hby d0_0) rfl ?_
  refine go_newP X0 hx hZ (hw _ (List.mem_of_getElem? (i := 0) rfl)) e0 (dc hby d0_1) (by decide) 4 (by decide) (by decide) (by decide) (by decide) (fun T1 h1 kba ba g1 X1 e1 E1 A1 => ?_)
  have hba : h0.size ≤ ba := Nat.le_of_eq g1.symm
  have N0 := Fr.nil h0.size
  have VB : Arv Z h1 ba kba .char 4 [.int 0, .int 0, .int 0, .int 0] (.int 0) := (Arv.new A1 (by decide)).pad (own_rep (n := 4))
  refine go_astore X1 hx #[.val (.long ch), .second, .val (.int b0), .val (.int b1), .val (.int sel), .val (.int mt), .val (.ref ba), .unset, .unset, .unset, .unset, .unset, .unset, .unset, .unset, .unset, .unset, .unset, .unset, .unset, .unset] (dc hby d0_3) rfl rfl ?_
  refine go_aload X1 hx (dc hby d0_5) (v := (.ref ba)) rfl rfl ?_
  refine go_iconst X1 hx (0) (dc hby d0_7) rfl ?_
  refine go_lloadn X1 hx (dc hby d0_8) (v := ch) rfl ?_
  refine go_ldc2 X1 hx hZ hown (hw _ (List.mem_of_getElem? (i := 1) rfl)) (dc hby d0_9) ?_
  refine go_land X1 hx (dc hby d0_12) ?_
  refine go_l2i X1 hx (dc hby d0_13) ?_
  refine go_i2c X1 hx (dc hby d0_14) ?_
  refine go_castoreV X1 hx hZ e1 VB (by decide) 0 rfl (by simp) (dc hby d0_15) (fun T2 h2 X2 e2 W2 V2 => ?_)
  obtain ⟨y0, VB0⟩ : ∃ y0 : Int32, Arv Z h2 ba kba .char 4 [.int y0, .int 0, .int 0, .int 0] (.int 0) := ⟨_, V2⟩
  have NF2 := Fr.snoc X2 N0 hba
  clear V2 W2
  refine go_aload X2 hx (dc hby d0_16) (v := (.ref ba)) rfl rfl ?_
  refine go_iconst X2 hx (1) (dc hby d0_18) rfl ?_
  refine go_lloadn X2 hx (dc hby d0_19) (v := ch) rfl ?_
  refine go_bipush X2 hx (16) (dc hby d0_20) rfl ?_
  refine go_lushr X2 hx (dc hby d0_22) ?_
  refine go_ldc2 X2 hx hZ hown (hw _ (List.mem_of_getElem? (i := 1) rfl)) (dc hby d0_23) ?_
  refine go_land X2 hx (dc hby d0_26) ?_
  refine go_l2i X2 hx (dc hby d0_27) ?_
  refine go_i2c X2 hx (dc hby d0_28) ?_
  refine go_castoreV X2 hx hZ e2 VB0 (by decide) 1 rfl (by simp) (dc hby d0_29) (fun T3 h3 X3 e3 W3 V3 => ?_)
  obtain ⟨y1, VB1⟩ : ∃ y1 : Int32, Arv Z h3 ba kba .char 4 [.int y0, .int y1, .int 0, .int 0] (.int 0) := ⟨_, V3⟩
  have NF3 := Fr.snoc X3 NF2 hba
  clear V3 W3
  refine go_aload X3 hx (dc hby d0_30) (v := (.ref ba)) rfl rfl ?_
  refine go_iconst X3 hx (2) (dc hby d0_32) rfl ?_
  refine go_lloadn X3 hx (dc hby d0_33) (v := ch) rfl ?_
  refine go_bipush X3 hx (32) (dc hby d0_34) rfl ?_
  refine go_lushr X3 hx (dc hby d0_36) ?_
  refine go_ldc2 X3 hx hZ hown (hw _ (List.mem_of_getElem? (i := 1) rfl)) (dc hby d0_37) ?_
  refine go_land X3 hx (dc hby d0_40) ?_
  refine go_l2i X3 hx (dc hby d0_41) ?_
  refine go_i2c X3 hx (dc hby d0_42) ?_
  refine go_castoreV X3 hx hZ e3 VB1 (by decide) 2 rfl (by simp) (dc hby d0_43) (fun T4 h4 X4 e4 W4 V4 => ?_)
  obtain ⟨y2, VB2⟩ : ∃ y2 : Int32, Arv Z h4 ba kba .char 4 [.int y0, .int y1, .int y2, .int 0] (.int 0) := ⟨_, V4⟩
  have NF4 := Fr.snoc X4 NF3 hba
  clear V4 W4
  refine go_aload X4 hx (dc hby d0_44) (v := (.ref ba)) rfl rfl ?_
  refine go_iconst X4 hx (3) (dc hby d0_46) rfl ?_
  refine go_lloadn X4 hx (dc hby d0_47) (v := ch) rfl ?_
  refine go_bipush X4 hx (48) (dc hby d0_48) rfl ?_
  refine go_lushr X4 hx (dc hby d0_50) ?_
  refine go_ldc2 X4 hx hZ hown (hw _ (List.mem_of_getElem? (i := 1) rfl)) (dc hby d0_51) ?_
  refine go_land X4 hx (dc hby d0_54) ?_
  refine go_l2i X4 hx (dc hby d0_55) ?_
  refine go_i2c X4 hx (dc hby d0_56) ?_
  refine go_castoreV X4 hx hZ e4 VB2 (by decide) 3 rfl (by simp) (dc hby d0_57) (fun T5 h5 X5 e5 W5 V5 => ?_)
  obtain ⟨y3, VB3⟩ : ∃ y3 : Int32, Arv Z h5 ba kba .char 4 [.int y0, .int y1, .int y2, .int y3] (.int 0) := ⟨_, V5⟩
  have NF5 := Fr.snoc X5 NF4 hba
  clear V5 W5
  refine go_iloadn X5 hx (dc hby d0_58) (v := b0) rfl ?_
  refine go_bipush X5 hx (7) (dc hby d0_59) rfl ?_
  refine go_iand X5 hx (dc hby d0_61) ?_
  refine go_iconst X5 hx (5) (dc hby d0_62) rfl ?_
  refine go_irem X5 hx (dc hby d0_63) (by decide) ?_
  refine go_istore X5 hx #[.val (.long ch), .second, .val (.int b0), .val (.int b1), .val (.int sel), .val (.int mt), .val (.ref ba), .val (.int ((b0 &&& (7 : Int32)) % (5 : Int32))), .unset, .unset, .unset, .unset, .unset, .unset, .unset, .unset, .unset, .unset, .unset, .unset, .unset] (dc hby d0_64) rfl ?_
  refine go_iloadn X5 hx (dc hby d0_66) (v := b0) rfl ?_
  refine go_iconst X5 hx (3) (dc hby d0_67) rfl ?_
  refine go_iushr X5 hx (dc hby d0_68) ?_
  refine go_bipush X5 hx (7) (dc hby d0_69) rfl ?_
  refine go_iand X5 hx (dc hby d0_71) ?_
  refine go_iconst X5 hx (5) (dc hby d0_72) rfl ?_
  refine go_irem X5 hx (dc hby d0_73) (by decide) ?_
  refine go_istore X5 hx #[.val (.long ch), .second, .val (.int b0), .val (.int b1), .val (.int sel), .val (.int mt), .val (.ref ba), .val (.int ((b0 &&& (7 : Int32)) % (5 : Int32))), .val (.int (((XT.ushr b0 (3 : Int32)) &&& (7 : Int32)) % (5 : Int32))), .unset, .unset, .unset, .unset, .unset, .unset, .unset, .unset, .unset, .unset, .unset, .unset] (dc hby d0_74) rfl ?_
  refine go_iloadn X5 hx (dc hby d0_76) (v := b1) rfl ?_
  refine go_bipush X5 hx (7) (dc hby d0_77) rfl ?_
  refine go_iand X5 hx (dc hby d0_79) ?_
  refine go_iconst X5 hx (5) (dc hby d0_80) rfl ?_
  refine go_irem X5 hx (dc hby d0_81) (by decide) ?_
  refine go_istore X5 hx #[.val (.long ch), .second, .val (.int b0), .val (.int b1), .val (.int sel), .val (.int mt), .val (.ref ba), .val (.int ((b0 &&& (7 : Int32)) % (5 : Int32))), .val (.int (((XT.ushr b0 (3 : Int32)) &&& (7 : Int32)) % (5 : Int32))), .val (.int ((b1 &&& (7 : Int32)) % (5 : Int32))), .unset, .unset, .unset, .unset, .unset, .unset, .unset, .unset, .unset, .unset, .unset] (dc hby d0_82) rfl ?_
  refine go_iloadn X5 hx (dc hby d0_84) (v := b1) rfl ?_
  refine go_iconst X5 hx (3) (dc hby d0_85) rfl ?_
  refine go_iushr X5 hx (dc hby d0_86) ?_
  refine go_bipush X5 hx (7) (dc hby d0_87) rfl ?_
  refine go_iand X5 hx (dc hby d0_89) ?_
  refine go_iconst X5 hx (5) (dc hby d0_90) rfl ?_
  refine go_irem X5 hx (dc hby d0_91) (by decide) ?_
  refine go_istore X5 hx #[.val (.long ch), .second, .val (.int b0), .val (.int b1), .val (.int sel), .val (.int mt), .val (.ref ba), .val (.int ((b0 &&& (7 : Int32)) % (5 : Int32))), .val (.int (((XT.ushr b0 (3 : Int32)) &&& (7 : Int32)) % (5 : Int32))), .val (.int ((b1 &&& (7 : Int32)) % (5 : Int32))), .val (.int (((XT.ushr b1 (3 : Int32)) &&& (7 : Int32)) % (5 : Int32))), .unset, .unset, .unset, .unset, .unset, .unset, .unset, .unset, .unset, .unset] (dc hby d0_92) rfl ?_
  show Go p e below _ (T5.setTop (mkF m 94 #[.val (.long ch), .second, .val (.int b0), .val (.int b1), .val (.int sel), .val (.int mt), .val (.ref ba), .val (.int ((b0 &&& (7 : Int32)) % (5 : Int32))), .val (.int (((XT.ushr b0 (3 : Int32)) &&& (7 : Int32)) % (5 : Int32))), .val (.int ((b1 &&& (7 : Int32)) % (5 : Int32))), .val (.int (((XT.ushr b1 (3 : Int32)) &&& (7 : Int32)) % (5 : Int32))), .unset, .unset, .unset, .unset, .unset, .unset, .unset, .unset, .unset, .unset] []))
  have Bp0 := own_m5 b0
  generalize ((b0 &&& 7) % 5) = p0 at Bp0 ⊢
  have Bq0 := own_m5 (XT.ushr b0 3)
  generalize ((XT.ushr b0 3 &&& 7) % 5) = q0 at Bq0 ⊢
  have Bp1 := own_m5 b1
  generalize ((b1 &&& 7) % 5) = p1 at Bp1 ⊢
  have Bq1 := own_m5 (XT.ushr b1 3)
  generalize ((XT.ushr b1 3 &&& 7) % 5) = q1 at Bq1 ⊢
  show Go p e below _ (T5.setTop (mkF m 94 #[.val (.long ch), .second, .val (.int b0), .val (.int b1), .val (.int sel), .val (.int mt), .val (.ref ba), .val (.int p0), .val (.int q0), .val (.int p1), .val (.int q1), .unset, .unset, .unset, .unset, .unset, .unset, .unset, .unset, .unset, .unset] []))
  refine go_iload X5 hx (dc hby d0_94) (v := p0) rfl ?_
  refine go_iload X5 hx (dc hby d0_96) (v := q0) rfl ?_
  refine go_staticP X5 hx hZ hown (hw _ (List.mem_of_getElem? (i := 2) rfl)) (hw _ (List.mem_of_getElem? (i := 3) rfl)) (hw _ (List.mem_of_getElem? (i := 4) rfl)) (hw _ (List.mem_of_getElem? (i := 5) rfl)) (by decide) e5 [(.int p0), (.int q0)] [] (r := (.int (own_min p0 q0))) (rm1 l Z a0 hw [] p0 q0 h5) pd1 rfl (by rw [hml]; rfl) rfl 0 (Nat.le_of_eq rfl) (by decide) (by decide) rfl rfl (by decide) (by decide) (dc hby d0_98) (fun T6 X6 e6 => ?_)
  refine go_istore X6 hx #[.val (.long ch), .second, .val (.int b0), .val (.int b1), .val (.int sel), .val (.int mt), .val (.ref ba), .val (.int p0), .val (.int q0), .val (.int p1), .val (.int q1), .val (.int (own_min p0 q0)), .unset, .unset, .unset, .unset, .unset, .unset, .unset, .unset, .unset] (dc hby d0_101) rfl ?_
  refine go_iload X6 hx (dc hby d0_103) (v := p0) rfl ?_
  refine go_iload X6 hx (dc hby d0_105) (v := q0) rfl ?_
  refine go_staticP X6 hx hZ hown (hw _ (List.mem_of_getElem? (i := 6) rfl)) (hw _ (List.mem_of_getElem? (i := 7) rfl)) (hw _ (List.mem_of_getElem? (i := 4) rfl)) (hw _ (List.mem_of_getElem? (i := 8) rfl)) (by decide) e6 [(.int p0), (.int q0)] [] (r := (.int (own_max p0 q0))) (rm2 l Z a0 hw [] p0 q0 h5) pd2 rfl (by rw [hml]; rfl) rfl 0 (Nat.le_of_eq rfl) (by decide) (by decide) rfl rfl (by decide) (by decide) (dc hby d0_107) (fun T7 X7 e7 => ?_)
  refine go_istore X7 hx #[.val (.long ch), .second, .val (.int b0), .val (.int b1), .val (.int sel), .val (.int mt), .val (.ref ba), .val (.int p0), .val (.int q0), .val (.int p1), .val (.int q1), .val (.int (own_min p0 q0)), .val (.int (own_max p0 q0)), .unset, .unset, .unset, .unset, .unset, .unset, .unset, .unset] (dc hby d0_110) rfl ?_
  refine go_iload X7 hx (dc hby d0_112) (v := p1) rfl ?_
  refine go_iload X7 hx (dc hby d0_114) (v := q1) rfl ?_
  refine go_staticP X7 hx hZ hown (hw _ (List.mem_of_getElem? (i := 2) rfl)) (hw _ (List.mem_of_getElem? (i := 3) rfl)) (hw _ (List.mem_of_getElem? (i := 4) rfl)) (hw _ (List.mem_of_getElem? (i := 5) rfl)) (by decide) e7 [(.int p1), (.int q1)] [] (r := (.int (own_min p1 q1))) (rm1 l Z a0 hw [] p1 q1 h5) pd1 rfl (by rw [hml]; rfl) rfl 0 (Nat.le_of_eq rfl) (by decide) (by decide) rfl rfl (by decide) (by decide) (dc hby d0_116) (fun T8 X8 e8 => ?_)
  refine go_istore X8 hx #[.val (.long ch), .second, .val (.int b0), .val (.int b1), .val (.int sel), .val (.int mt), .val (.ref ba), .val (.int p0), .val (.int q0), .val (.int p1), .val (.int q1), .val (.int (own_min p0 q0)), .val (.int (own_max p0 q0)), .val (.int (own_min p1 q1)), .unset, .unset, .unset, .unset, .unset, .unset, .unset] (dc hby d0_119) rfl ?_
  refine go_iload X8 hx (dc hby d0_121) (v := p1) rfl ?_
  refine go_iload X8 hx (dc hby d0_123) (v := q1) rfl ?_
  refine go_staticP X8 hx hZ hown (hw _ (List.mem_of_getElem? (i := 6) rfl)) (hw _ (List.mem_of_getElem? (i := 7) rfl)) (hw _ (List.mem_of_getElem? (i := 4) rfl)) (hw _ (List.mem_of_getElem? (i := 8) rfl)) (by decide) e8 [(.int p1), (.int q1)] [] (r := (.int (own_max p1 q1))) (rm2 l Z a0 hw [] p1 q1 h5) pd2 rfl (by rw [hml]; rfl) rfl 0 (Nat.le_of_eq rfl) (by decide) (by decide) rfl rfl (by decide) (by decide) (dc hby d0_125) (fun T9 X9 e9 => ?_)
  refine go_istore X9 hx #[.val (.long ch), .second, .val (.int b0), .val (.int b1), .val (.int sel), .val (.int mt), .val (.ref ba), .val (.int p0), .val (.int q0), .val (.int p1), .val (.int q1), .val (.int (own_min p0 q0)), .val (.int (own_max p0 q0)), .val (.int (own_min p1 q1)), .val (.int (own_max p1 q1)), .unset, .unset, .unset, .unset, .unset, .unset] (dc hby d0_128) rfl ?_
  show Go p e below _ (T9.setTop (mkF m 130 #[.val (.long ch), .second, .val (.int b0), .val (.int b1), .val (.int sel), .val (.int mt), .val (.ref ba), .val (.int p0), .val (.int q0), .val (.int p1), .val (.int q1), .val (.int (own_min p0 q0)), .val (.int (own_max p0 q0)), .val (.int (own_min p1 q1)), .val (.int (own_max p1 q1)), .unset, .unset, .unset, .unset, .unset, .unset] []))
  have M0 := own_mm Bp0 Bq0
  have M1 := own_mm Bp1 Bq1
  generalize own_min p0 q0 = sA at M0 ⊢
  generalize own_max p0 q0 = eA at M0 ⊢
  generalize own_min p1 q1 = sB at M1 ⊢
  generalize own_max p1 q1 = eB at M1 ⊢
  show Go p e below _ (T9.setTop (mkF m 130 #[.val (.long ch), .second, .val (.int b0), .val (.int b1), .val (.int sel), .val (.int mt), .val (.ref ba), .val (.int p0), .val (.int q0), .val (.int p1), .val (.int q1), .val (.int sA), .val (.int eA), .val (.int sB), .val (.int eB), .unset, .unset, .unset, .unset, .unset, .unset] []))
  refine go_iload X9 hx (dc hby d0_130) (v := sel) rfl ?_
  refine go_iconst X9 hx (1) (dc hby d0_132) rfl ?_
  refine go_iand X9 hx (dc hby d0_133) ?_
  refine go_istore X9 hx #[.val (.long ch), .second, .val (.int b0), .val (.int b1), .val (.int sel), .val (.int mt), .val (.ref ba), .val (.int p0), .val (.int q0), .val (.int p1), .val (.int q1), .val (.int sA), .val (.int eA), .val (.int sB), .val (.int eB), .val (.int (sel &&& (1 : Int32))), .unset, .unset, .unset, .unset, .unset] (dc hby d0_134) rfl ?_
  show Go p e below _ (T9.setTop (mkF m 136 #[.val (.long ch), .second, .val (.int b0), .val (.int b1), .val (.int sel), .val (.int mt), .val (.ref ba), .val (.int p0), .val (.int q0), .val (.int p1), .val (.int q1), .val (.int sA), .val (.int eA), .val (.int sB), .val (.int eB), .val (.int (sel &&& (1 : Int32))), .unset, .unset, .unset, .unset, .unset] []))
  have hf := own_two sel
  generalize sel &&& 1 = f at hf ⊢
  show Go p e below _ (T9.setTop (mkF m 136 #[.val (.long ch), .second, .val (.int b0), .val (.int b1), .val (.int sel), .val (.int mt), .val (.ref ba), .val (.int p0), .val (.int q0), .val (.int p1), .val (.int q1), .val (.int sA), .val (.int eA), .val (.int sB), .val (.int eB), .val (.int f), .unset, .unset, .unset, .unset, .unset] []))
  refine go_newO X9 hx hZ hown (hw _ (List.mem_of_getElem? (i := 9) rfl)) (hw _ (List.mem_of_getElem? (i := 10) rfl)) (hw _ (List.mem_of_getElem? (i := 11) rfl)) e9 (dc hby d0_136) (by decide) (by decide) (fun T10 h10 a g10 X10 e10 E10 A10 D10 => ?_)
  refine go_dup X10 hx (dc hby d0_139) rfl ?_
  have hba_a : ba < a := by rw [g10]; exact VB3.lt
  have ha : h0.size ≤ a := Nat.le_trans hba (Nat.le_of_lt hba_a)
  have VC := VB3.ext E10
  refine go_special X10 hx hZ rfl hown (hw _ (List.mem_of_getElem? (i := 12) rfl)) (hw _ (List.mem_of_getElem? (i := 13) rfl)) (hw _ (List.mem_of_getElem? (i := 11) rfl)) (hw _ (List.mem_of_getElem? (i := 14) rfl)) (by decide) e10 (a := a) [] [(.ref a)] (rm3 l Z a0 hw [] a h10 A10 (D10 (Or.inl (hw _ (List.mem_of_getElem? (i := 19) rfl))) (ty := .array .char) (by decide)) (D10 (Or.inl (hw _ (List.mem_of_getElem? (i := 22) rfl))) (ty := .array .int) (by decide)) (D10 (Or.inl (hw _ (List.mem_of_getElem? (i := 24) rfl))) (ty := .array .int) (by decide)) (D10 (Or.inl (hw _ (List.mem_of_getElem? (i := 28) rfl))) (ty := .array (.object "java/lang/String")) (by decide)) (D10 (Or.inl (hw _ (List.mem_of_getElem? (i := 40) rfl))) (ty := .int) (by decide))) pd3 rfl (by rw [hml]; rfl) rfl 1 (Nat.le_of_eq rfl) (by decide) (by decide) (by decide) (by decide) (dc hby d0_140) (fun T11 v11 L11 X11 hQ11 => ?_)
  obtain ⟨rfl, N11, K11, t0, st, en, kS, kE, R0, hst, hen⟩ := hQ11
  show Go p e below _ (T11.setTop (mkF m 143 #[.val (.long ch), .second, .val (.int b0), .val (.int b1), .val (.int sel), .val (.int mt), .val (.ref ba), .val (.int p0), .val (.int q0), .val (.int p1), .val (.int q1), .val (.int sA), .val (.int eA), .val (.int sB), .val (.int eB), .val (.int f), .unset, .unset, .unset, .unset, .unset] [(.ref a)]))
  refine go_astore X11 hx #[.val (.long ch), .second, .val (.int b0), .val (.int b1), .val (.int sel), .val (.int mt), .val (.ref ba), .val (.int p0), .val (.int q0), .val (.int p1), .val (.int q1), .val (.int sA), .val (.int eA), .val (.int sB), .val (.int eB), .val (.int f), .val (.ref a), .unset, .unset, .unset, .unset] (dc hby d0_143) rfl rfl ?_
  refine go_aload X11 hx (dc hby d0_145) (v := (.ref a)) rfl rfl ?_
  refine go_aload X11 hx (dc hby d0_147) (v := (.ref ba)) rfl rfl ?_
  have hba_st : ba < st := Nat.lt_of_lt_of_le (Nat.lt_trans hba_a A10.lt) hst
  have hba_en : ba < en := Nat.lt_of_lt_of_le (Nat.lt_trans hba_a A10.lt) hen
  have hst0 := Nat.le_trans hba (Nat.le_of_lt hba_st)
  have hen0 := Nat.le_trans hba (Nat.le_of_lt hba_en)
  have VD := VC.keep K11 (by simp; exact Nat.ne_of_lt hba_a)
  have NF11 := Fr.app NF5 (L' := L11) (fun y hy => by rw [N11 y hy]; exact ha)
  refine go_virtual X11 hx hZ hown (hw _ (List.mem_of_getElem? (i := 29) rfl)) (hw _ (List.mem_of_getElem? (i := 30) rfl)) (hw _ (List.mem_of_getElem? (i := 32) rfl)) (hw _ (List.mem_of_getElem? (i := 31) rfl)) (hw _ (List.mem_of_getElem? (i := 11) rfl)) (hw _ (List.mem_of_getElem? (i := 33) rfl)) (by decide) rfl (a := a) R0.1 [(.ref ba)] [] (rm5 l Z a0 hw [] a ba t0 st en kS kE 0 _ _ T11.heap R0) pd5 rfl (by rw [hml]; rfl) rfl 0 (Nat.le_of_eq rfl) (by decide) (by decide) (by decide) (by decide) (dc hby d0_149) (fun T12 v12 L12 X12 hQ12 => ?_)
  obtain ⟨rfl, N12, K12, R1⟩ := hQ12
  show Go p e below _ (T12.setTop (mkF m 152 #[.val (.long ch), .second, .val (.int b0), .val (.int b1), .val (.int sel), .val (.int mt), .val (.ref ba), .val (.int p0), .val (.int q0), .val (.int p1), .val (.int q1), .val (.int sA), .val (.int eA), .val (.int sB), .val (.int eB), .val (.int f), .val (.ref a), .unset, .unset, .unset, .unset] []))
  refine go_aload X12 hx (dc hby d0_152) (v := (.ref a)) rfl rfl ?_
  refine go_iload X12 hx (dc hby d0_154) (v := sA) rfl ?_
  refine go_iload X12 hx (dc hby d0_156) (v := eA) rfl ?_
  have VE := VD.keep K12 (by simp; exact Nat.ne_of_lt hba_a)
  have NF12 := Fr.app NF11 (L' := L12) (fun y hy => by rw [N12 y hy]; exact ha)
  refine go_virtual X12 hx hZ hown (hw _ (List.mem_of_getElem? (i := 34) rfl)) (hw _ (List.mem_of_getElem? (i := 35) rfl)) (hw _ (List.mem_of_getElem? (i := 37) rfl)) (hw _ (List.mem_of_getElem? (i := 36) rfl)) (hw _ (List.mem_of_getElem? (i := 11) rfl)) (hw _ (List.mem_of_getElem? (i := 38) rfl)) (by decide) rfl (a := a) R1.1 [(.int sA), (.int eA)] [] (rm6 l Z a0 hw [] a sA eA ba st en kS kE 0 1 0 [.int 0, .int 0] [.int 0, .int 0] T12.heap R1 (by decide) (by decide) rfl rfl (by simp) (by simp)) pd6 rfl (by rw [hml]; rfl) rfl 0 (Nat.le_of_eq rfl) (by decide) (by decide) (by decide) (by decide) (dc hby d0_158) (fun T13 v13 L13 X13 hQ13 => ?_)
  obtain ⟨rfl, N13, K13, R2⟩ := hQ13
  show Go p e below _ (T13.setTop (mkF m 161 #[.val (.long ch), .second, .val (.int b0), .val (.int b1), .val (.int sel), .val (.int mt), .val (.ref ba), .val (.int p0), .val (.int q0), .val (.int p1), .val (.int q1), .val (.int sA), .val (.int eA), .val (.int sB), .val (.int eB), .val (.int f), .val (.ref a), .unset, .unset, .unset, .unset] []))
  refine go_aload X13 hx (dc hby d0_161) (v := (.ref a)) rfl rfl ?_
  refine go_iload X13 hx (dc hby d0_163) (v := sB) rfl ?_
  refine go_iload X13 hx (dc hby d0_165) (v := eB) rfl ?_
  have VG := VE.keep K13 (by simp; exact ⟨Nat.ne_of_lt hba_a, Nat.ne_of_lt hba_st, Nat.ne_of_lt hba_en⟩)
  have NF13 := Fr.app NF12 (L' := L13) (fun y hy => by
    rcases N13 y hy with q | q | q
    · rw [q]; exact ha
    · rw [q]; exact hst0
    · rw [q]; exact hen0)
  refine go_virtual X13 hx hZ hown (hw _ (List.mem_of_getElem? (i := 34) rfl)) (hw _ (List.mem_of_getElem? (i := 35) rfl)) (hw _ (List.mem_of_getElem? (i := 37) rfl)) (hw _ (List.mem_of_getElem? (i := 36) rfl)) (hw _ (List.mem_of_getElem? (i := 11) rfl)) (hw _ (List.mem_of_getElem? (i := 38) rfl)) (by decide) rfl (a := a) R2.1 [(.int sB), (.int eB)] [] (rm6 l Z a0 hw [] a sB eB ba st en kS kE 1 2 1 [.int sA, .int 0] [.int eA, .int 0] T13.heap R2 (by decide) (by decide) rfl rfl (by simp) (by simp)) pd6 rfl (by rw [hml]; rfl) rfl 0 (Nat.le_of_eq rfl) (by decide) (by decide) (by decide) (by decide) (dc hby d0_167) (fun T14 v14 L14 X14 hQ14 => ?_)
  obtain ⟨rfl, N14, K14, R3⟩ := hQ14
  show Go p e below _ (T14.setTop (mkF m 170 #[.val (.long ch), .second, .val (.int b0), .val (.int b1), .val (.int sel), .val (.int mt), .val (.ref ba), .val (.int p0), .val (.int q0), .val (.int p1), .val (.int q1), .val (.int sA), .val (.int eA), .val (.int sB), .val (.int eB), .val (.int f), .val (.ref a), .unset, .unset, .unset, .unset] []))
  refine go_aload X14 hx (dc hby d0_170) (v := (.ref a)) rfl rfl ?_
  refine go_iload X14 hx (dc hby d0_172) (v := f) rfl ?_
  have VH := VG.keep K14 (by simp; exact ⟨Nat.ne_of_lt hba_a, Nat.ne_of_lt hba_st, Nat.ne_of_lt hba_en⟩)
  have NF14 := Fr.app NF13 (L' := L14) (fun y hy => by
    rcases N14 y hy with q | q | q
    · rw [q]; exact ha
    · rw [q]; exact hst0
    · rw [q]; exact hen0)
  rcases hf with rfl | rfl
  · show Go p e below _ (T14.setTop (mkF m 174 #[.val (.long ch), .second, .val (.int b0), .val (.int b1), .val (.int sel), .val (.int mt), .val (.ref ba), .val (.int p0), .val (.int q0), .val (.int p1), .val (.int q1), .val (.int sA), .val (.int eA), .val (.int sB), .val (.int eB), .val (.int (0 : Int32)), .val (.ref a), .unset, .unset, .unset, .unset] [(.int (0 : Int32)), (.ref a)]))
    refine go_virtual X14 hx hZ hown (hw _ (List.mem_of_getElem? (i := 41) rfl)) (hw _ (List.mem_of_getElem? (i := 42) rfl)) (hw _ (List.mem_of_getElem? (i := 44) rfl)) (hw _ (List.mem_of_getElem? (i := 43) rfl)) (hw _ (List.mem_of_getElem? (i := 11) rfl)) (hw _ (List.mem_of_getElem? (i := 45) rfl)) (by decide) rfl (a := a) R3.1 [(.int (0 : Int32))] [] (rm7 l Z a0 hw [] a 0 ba st en kS kE 2 sA eA [.int sA, .int sB] [.int eA, .int eB] T14.heap R3 (by decide) (by decide) rfl rfl) pd7 rfl (by rw [hml]; rfl) rfl 0 (Nat.le_of_eq rfl) (by decide) (by decide) (by decide) (by decide) (dc hby d0_174) (fun T15 v15 L15 X15 hQ15 => ?_)
    obtain ⟨c, rfl, hc, N15, K15, TT15⟩ := hQ15
    show Go p e below _ (T15.setTop (mkF m 177 #[.val (.long ch), .second, .val (.int b0), .val (.int b1), .val (.int sel), .val (.int mt), .val (.ref ba), .val (.int p0), .val (.int q0), .val (.int p1), .val (.int q1), .val (.int sA), .val (.int eA), .val (.int sB), .val (.int eB), .val (.int (0 : Int32)), .val (.ref a), .unset, .unset, .unset, .unset] [(.ref c)]))
    have hbc : ba < c := Nat.lt_of_lt_of_le VH.lt hc
    have hc0 := Nat.le_trans hba (Nat.le_of_lt hbc)
    have VI := VH.keep K15 (by simp)
    have NF15 := Fr.app NF14 (L' := L15) (fun y hy => by rw [N15 y hy]; exact hc0)
    refine go_astore X15 hx #[.val (.long ch), .second, .val (.int b0), .val (.int b1), .val (.int sel), .val (.int mt), .val (.ref ba), .val (.int p0), .val (.int q0), .val (.int p1), .val (.int q1), .val (.int sA), .val (.int eA), .val (.int sB), .val (.int eB), .val (.int (0 : Int32)), .val (.ref a), .val (.ref c), .unset, .unset, .unset] (dc hby d0_177) rfl rfl ?_
    refine go_iload X15 hx (dc hby d0_179) (v := (0 : Int32)) rfl ?_
    refine go_ifc_ne X15 hx (db hby d0_181) (fun c181 => absurd c181 (by decide)) (fun c181 => ?_)
    refine go_iload X15 hx (dc hby d0_184) (v := sA) rfl ?_
    refine go_goto X15 hx (db hby d0_186) ?_
    refine go_istore X15 hx #[.val (.long ch), .second, .val (.int b0), .val (.int b1), .val (.int sel), .val (.int mt), .val (.ref ba), .val (.int p0), .val (.int q0), .val (.int p1), .val (.int q1), .val (.int sA), .val (.int eA), .val (.int sB), .val (.int eB), .val (.int (0 : Int32)), .val (.ref a), .val (.ref c), .val (.int sA), .unset, .unset] (dc hby d0_191) rfl ?_
    refine go_iload X15 hx (dc hby d0_193) (v := (0 : Int32)) rfl ?_
    refine go_ifc_ne X15 hx (db hby d0_195) (fun c195 => absurd c195 (by decide)) (fun c195 => ?_)
    refine go_iload X15 hx (dc hby d0_198) (v := eA) rfl ?_
    refine go_goto X15 hx (db hby d0_200) ?_
    refine go_istore X15 hx #[.val (.long ch), .second, .val (.int b0), .val (.int b1), .val (.int sel), .val (.int mt), .val (.ref ba), .val (.int p0), .val (.int q0), .val (.int p1), .val (.int q1), .val (.int sA), .val (.int eA), .val (.int sB), .val (.int eB), .val (.int (0 : Int32)), .val (.ref a), .val (.ref c), .val (.int sA), .val (.int eA), .unset] (dc hby d0_205) rfl ?_
    refine go_aload X15 hx (dc hby d0_207) (v := (.ref ba)) rfl rfl ?_
    refine go_iload X15 hx (dc hby d0_209) (v := mt) rfl ?_
    refine go_iconst X15 hx (3) (dc hby d0_211) rfl ?_
    refine go_iand X15 hx (dc hby d0_212) ?_
    refine go_iload X15 hx (dc hby d0_213) (v := mt) rfl ?_
    refine go_bipush X15 hx (16) (dc hby d0_215) rfl ?_
    refine go_iushr X15 hx (dc hby d0_217) ?_
    refine go_ldc X15 hx hZ hown (hw _ (List.mem_of_getElem? (i := 72) rfl)) (dc hby d0_218) ?_
    refine go_iand X15 hx (dc hby d0_220) ?_
    refine go_i2c X15 hx (dc hby d0_221) ?_
    refine go_castoreV X15 hx hZ rfl VI (own_four mt) _ rfl (own_nat4 (own_four mt)) (dc hby d0_222) (fun T16 h16 X16 e16 W16 V16 => ?_)
    have FT16 := TT15.wr W16 (Nat.ne_of_gt hbc)
    obtain ⟨d0, d1, d2, d3, VJ⟩ : ∃ d0 d1 d2 d3 : Int32, Arv Z h16 ba kba .char 4 [.int d0, .int d1, .int d2, .int d3] (.int 0) := by
      obtain ⟨d0, d1, d2, d3, hd4⟩ := own_set4 y0 y1 y2 y3 _ _ (own_nat4 (own_four mt))
      exact ⟨d0, d1, d2, d3, hd4 ▸ V16⟩
    have NF16 := Fr.snoc X16 NF15 hba
    refine go_aload X16 hx (dc hby d0_223) (v := (.ref c)) rfl rfl ?_
    refine go_interfaceP X16 hx hZ hown (hw _ (List.mem_of_getElem? (i := 73) rfl)) (hw _ (List.mem_of_getElem? (i := 74) rfl)) (hw _ (List.mem_of_getElem? (i := 75) rfl)) (by decide) (hw _ (List.mem_of_getElem? (i := 76) rfl)) (hw _ (List.mem_of_getElem? (i := 77) rfl)) (hw _ (List.mem_of_getElem? (i := 78) rfl)) (hw _ (List.mem_of_getElem? (i := 79) rfl)) (hw _ (List.mem_of_getElem? (i := 80) rfl)) (hw _ (List.mem_of_getElem? (i := 56) rfl)) (hw _ (List.mem_of_getElem? (i := 81) rfl)) (by decide) e16 (a := c) FT16.1 [] [] (r := (.int (eA - sA))) (rm12 l Z a0 hw [] c ba sA eA h16 FT16) pd12 rfl (by rw [hml]; rfl) rfl 0 (Nat.le_of_eq rfl) (by decide) (by decide) rfl rfl (by decide) (by decide) (dc hby d0_225) (fun T17 X17 e17 => ?_)
    refine go_iload X17 hx (dc hby d0_230) (v := eA) rfl ?_
    refine go_iload X17 hx (dc hby d0_232) (v := sA) rfl ?_
    refine go_isub X17 hx (dc hby d0_234) ?_
    refine go_icmp_ne X17 hx (db hby d0_235) (fun c235 => absurd rfl c235) (fun c235 => ?_)
    refine go_iconst X17 hx (1) (dc hby d0_238) rfl ?_
    refine go_goto X17 hx (db hby d0_239) ?_
    refine go_istore X17 hx #[.val (.long ch), .second, .val (.int b0), .val (.int b1), .val (.int sel), .val (.int mt), .val (.ref ba), .val (.int p0), .val (.int q0), .val (.int p1), .val (.int q1), .val (.int sA), .val (.int eA), .val (.int sB), .val (.int eB), .val (.int (0 : Int32)), .val (.ref a), .val (.ref c), .val (.int sA), .val (.int eA), .val (.int (1 : Int32))] (dc hby d0_243) rfl ?_
    refine go_iload X17 hx (dc hby d0_245) (v := (1 : Int32)) rfl ?_
    refine go_ifc_eq X17 hx (db hby d0_247) (fun c247 => absurd c247 (by decide)) (fun c247 => ?_)
    refine go_aload X17 hx (dc hby d0_250) (v := (.ref c)) rfl rfl ?_
    refine go_aload X17 hx (dc hby d0_252) (v := (.ref ba)) rfl rfl ?_
    refine go_iload X17 hx (dc hby d0_254) (v := sA) rfl ?_
    refine go_iload X17 hx (dc hby d0_256) (v := eA) rfl ?_
    refine go_iconst X17 hx (0) (dc hby d0_258) rfl ?_
    refine go_staticP X17 hx hZ hown (hw _ (List.mem_of_getElem? (i := 82) rfl)) (hw _ (List.mem_of_getElem? (i := 83) rfl)) (hw _ (List.mem_of_getElem? (i := 84) rfl)) (hw _ (List.mem_of_getElem? (i := 85) rfl)) (by decide) e17 [(.ref c), (.ref ba), (.int sA), (.int eA), (.int (0 : Int32))] [] (r := (.int (1 : Int32))) (rm13 l Z a0 hw [] c ba sA eA 0 kba d0 d1 d2 d3 h16 FT16 VJ (by decide) M0) pd13 rfl (by rw [hml]; rfl) rfl 0 (Nat.le_of_eq rfl) (by decide) (by decide) rfl rfl (by decide) (by decide) (dc hby d0_259) (fun T18 X18 e18 => ?_)
    refine go_ifc_eq X18 hx (db hby d0_262) (fun c262 => absurd c262 (by decide)) (fun c262 => ?_)
    refine go_iconst X18 hx (1) (dc hby d0_265) rfl ?_
    refine go_goto X18 hx (db hby d0_266) ?_
    refine go_istore X18 hx #[.val (.long ch), .second, .val (.int b0), .val (.int b1), .val (.int sel), .val (.int mt), .val (.ref ba), .val (.int p0), .val (.int q0), .val (.int p1), .val (.int q1), .val (.int sA), .val (.int eA), .val (.int sB), .val (.int eB), .val (.int (0 : Int32)), .val (.ref a), .val (.ref c), .val (.int sA), .val (.int eA), .val (.int (1 : Int32))] (dc hby d0_270) rfl ?_
    refine go_iload X18 hx (dc hby d0_272) (v := (1 : Int32)) rfl ?_
    refine go_ifc_eq X18 hx (db hby d0_274) (fun c274 => absurd c274 (by decide)) (fun c274 => ?_)
    refine go_aload X18 hx (dc hby d0_277) (v := (.ref c)) rfl rfl ?_
    refine go_aload X18 hx (dc hby d0_279) (v := (.ref ba)) rfl rfl ?_
    refine go_iload X18 hx (dc hby d0_281) (v := sA) rfl ?_
    refine go_iload X18 hx (dc hby d0_283) (v := eA) rfl ?_
    refine go_iconst X18 hx (1) (dc hby d0_285) rfl ?_
    refine go_staticP X18 hx hZ hown (hw _ (List.mem_of_getElem? (i := 82) rfl)) (hw _ (List.mem_of_getElem? (i := 83) rfl)) (hw _ (List.mem_of_getElem? (i := 84) rfl)) (hw _ (List.mem_of_getElem? (i := 85) rfl)) (by decide) e18 [(.ref c), (.ref ba), (.int sA), (.int eA), (.int (1 : Int32))] [] (r := (.int (1 : Int32))) (rm13 l Z a0 hw [] c ba sA eA 1 kba d0 d1 d2 d3 h16 FT16 VJ (by decide) M0) pd13 rfl (by rw [hml]; rfl) rfl 0 (Nat.le_of_eq rfl) (by decide) (by decide) rfl rfl (by decide) (by decide) (dc hby d0_286) (fun T19 X19 e19 => ?_)
    refine go_ifc_eq X19 hx (db hby d0_289) (fun c289 => absurd c289 (by decide)) (fun c289 => ?_)
    refine go_iconst X19 hx (1) (dc hby d0_292) rfl ?_
    refine go_goto X19 hx (db hby d0_293) ?_
    refine go_istore X19 hx #[.val (.long ch), .second, .val (.int b0), .val (.int b1), .val (.int sel), .val (.int mt), .val (.ref ba), .val (.int p0), .val (.int q0), .val (.int p1), .val (.int q1), .val (.int sA), .val (.int eA), .val (.int sB), .val (.int eB), .val (.int (0 : Int32)), .val (.ref a), .val (.ref c), .val (.int sA), .val (.int eA), .val (.int (1 : Int32))] (dc hby d0_297) rfl ?_
    refine go_iload X19 hx (dc hby d0_299) (v := (1 : Int32)) rfl ?_
    refine go_ifc_eq X19 hx (db hby d0_301) (fun c301 => absurd c301 (by decide)) (fun c301 => ?_)
    refine go_aload X19 hx (dc hby d0_304) (v := (.ref c)) rfl rfl ?_
    refine go_aload X19 hx (dc hby d0_306) (v := (.ref ba)) rfl rfl ?_
    refine go_iload X19 hx (dc hby d0_308) (v := sA) rfl ?_
    refine go_iload X19 hx (dc hby d0_310) (v := eA) rfl ?_
    refine go_iconst X19 hx (2) (dc hby d0_312) rfl ?_
    refine go_staticP X19 hx hZ hown (hw _ (List.mem_of_getElem? (i := 82) rfl)) (hw _ (List.mem_of_getElem? (i := 83) rfl)) (hw _ (List.mem_of_getElem? (i := 84) rfl)) (hw _ (List.mem_of_getElem? (i := 85) rfl)) (by decide) e19 [(.ref c), (.ref ba), (.int sA), (.int eA), (.int (2 : Int32))] [] (r := (.int (1 : Int32))) (rm13 l Z a0 hw [] c ba sA eA 2 kba d0 d1 d2 d3 h16 FT16 VJ (by decide) M0) pd13 rfl (by rw [hml]; rfl) rfl 0 (Nat.le_of_eq rfl) (by decide) (by decide) rfl rfl (by decide) (by decide) (dc hby d0_313) (fun T20 X20 e20 => ?_)
    refine go_ifc_eq X20 hx (db hby d0_316) (fun c316 => absurd c316 (by decide)) (fun c316 => ?_)
    refine go_iconst X20 hx (1) (dc hby d0_319) rfl ?_
    refine go_goto X20 hx (db hby d0_320) ?_
    refine go_istore X20 hx #[.val (.long ch), .second, .val (.int b0), .val (.int b1), .val (.int sel), .val (.int mt), .val (.ref ba), .val (.int p0), .val (.int q0), .val (.int p1), .val (.int q1), .val (.int sA), .val (.int eA), .val (.int sB), .val (.int eB), .val (.int (0 : Int32)), .val (.ref a), .val (.ref c), .val (.int sA), .val (.int eA), .val (.int (1 : Int32))] (dc hby d0_324) rfl ?_
    refine go_iload X20 hx (dc hby d0_326) (v := (1 : Int32)) rfl ?_
    refine go_ifc_eq X20 hx (db hby d0_328) (fun c328 => absurd c328 (by decide)) (fun c328 => ?_)
    refine go_aload X20 hx (dc hby d0_331) (v := (.ref c)) rfl rfl ?_
    refine go_aload X20 hx (dc hby d0_333) (v := (.ref ba)) rfl rfl ?_
    refine go_iload X20 hx (dc hby d0_335) (v := sA) rfl ?_
    refine go_iload X20 hx (dc hby d0_337) (v := eA) rfl ?_
    refine go_iconst X20 hx (3) (dc hby d0_339) rfl ?_
    refine go_staticP X20 hx hZ hown (hw _ (List.mem_of_getElem? (i := 82) rfl)) (hw _ (List.mem_of_getElem? (i := 83) rfl)) (hw _ (List.mem_of_getElem? (i := 84) rfl)) (hw _ (List.mem_of_getElem? (i := 85) rfl)) (by decide) e20 [(.ref c), (.ref ba), (.int sA), (.int eA), (.int (3 : Int32))] [] (r := (.int (1 : Int32))) (rm13 l Z a0 hw [] c ba sA eA 3 kba d0 d1 d2 d3 h16 FT16 VJ (by decide) M0) pd13 rfl (by rw [hml]; rfl) rfl 0 (Nat.le_of_eq rfl) (by decide) (by decide) rfl rfl (by decide) (by decide) (dc hby d0_340) (fun T21 X21 e21 => ?_)
    refine go_ifc_eq X21 hx (db hby d0_343) (fun c343 => absurd c343 (by decide)) (fun c343 => ?_)
    refine go_iconst X21 hx (1) (dc hby d0_346) rfl ?_
    refine go_goto X21 hx (db hby d0_347) ?_
    refine go_istore X21 hx #[.val (.long ch), .second, .val (.int b0), .val (.int b1), .val (.int sel), .val (.int mt), .val (.ref ba), .val (.int p0), .val (.int q0), .val (.int p1), .val (.int q1), .val (.int sA), .val (.int eA), .val (.int sB), .val (.int eB), .val (.int (0 : Int32)), .val (.ref a), .val (.ref c), .val (.int sA), .val (.int eA), .val (.int (1 : Int32))] (dc hby d0_351) rfl ?_
    refine go_iload X21 hx (dc hby d0_353) (v := (1 : Int32)) rfl ?_
    exact go_retN X21 hx hret (by simp) (dc hby d0_355) hk (by decide) (by decide) ⟨rfl, NF16⟩
  · show Go p e below _ (T14.setTop (mkF m 174 #[.val (.long ch), .second, .val (.int b0), .val (.int b1), .val (.int sel), .val (.int mt), .val (.ref ba), .val (.int p0), .val (.int q0), .val (.int p1), .val (.int q1), .val (.int sA), .val (.int eA), .val (.int sB), .val (.int eB), .val (.int (1 : Int32)), .val (.ref a), .unset, .unset, .unset, .unset] [(.int (1 : Int32)), (.ref a)]))
    refine go_virtual X14 hx hZ hown (hw _ (List.mem_of_getElem? (i := 41) rfl)) (hw _ (List.mem_of_getElem? (i := 42) rfl)) (hw _ (List.mem_of_getElem? (i := 44) rfl)) (hw _ (List.mem_of_getElem? (i := 43) rfl)) (hw _ (List.mem_of_getElem? (i := 11) rfl)) (hw _ (List.mem_of_getElem? (i := 45) rfl)) (by decide) rfl (a := a) R3.1 [(.int (1 : Int32))] [] (rm7 l Z a0 hw [] a 1 ba st en kS kE 2 sB eB [.int sA, .int sB] [.int eA, .int eB] T14.heap R3 (by decide) (by decide) rfl rfl) pd7 rfl (by rw [hml]; rfl) rfl 0 (Nat.le_of_eq rfl) (by decide) (by decide) (by decide) (by decide) (dc hby d0_174) (fun T22 v22 L22 X22 hQ22 => ?_)
    obtain ⟨c, rfl, hc, N22, K22, TT22⟩ := hQ22
    show Go p e below _ (T22.setTop (mkF m 177 #[.val (.long ch), .second, .val (.int b0), .val (.int b1), .val (.int sel), .val (.int mt), .val (.ref ba), .val (.int p0), .val (.int q0), .val (.int p1), .val (.int q1), .val (.int sA), .val (.int eA), .val (.int sB), .val (.int eB), .val (.int (1 : Int32)), .val (.ref a), .unset, .unset, .unset, .unset] [(.ref c)]))
    have hbc : ba < c := Nat.lt_of_lt_of_le VH.lt hc
    have hc0 := Nat.le_trans hba (Nat.le_of_lt hbc)
    have VI := VH.keep K22 (by simp)
    have NF22 := Fr.app NF14 (L' := L22) (fun y hy => by rw [N22 y hy]; exact hc0)
    refine go_astore X22 hx #[.val (.long ch), .second, .val (.int b0), .val (.int b1), .val (.int sel), .val (.int mt), .val (.ref ba), .val (.int p0), .val (.int q0), .val (.int p1), .val (.int q1), .val (.int sA), .val (.int eA), .val (.int sB), .val (.int eB), .val (.int (1 : Int32)), .val (.ref a), .val (.ref c), .unset, .unset, .unset] (dc hby d0_177) rfl rfl ?_
    refine go_iload X22 hx (dc hby d0_179) (v := (1 : Int32)) rfl ?_
    refine go_ifc_ne X22 hx (db hby d0_181) (fun c181 => ?_) (fun c181 => absurd c181 (by decide))
    refine go_iload X22 hx (dc hby d0_189) (v := sB) rfl ?_
    refine go_istore X22 hx #[.val (.long ch), .second, .val (.int b0), .val (.int b1), .val (.int sel), .val (.int mt), .val (.ref ba), .val (.int p0), .val (.int q0), .val (.int p1), .val (.int q1), .val (.int sA), .val (.int eA), .val (.int sB), .val (.int eB), .val (.int (1 : Int32)), .val (.ref a), .val (.ref c), .val (.int sB), .unset, .unset] (dc hby d0_191) rfl ?_
    refine go_iload X22 hx (dc hby d0_193) (v := (1 : Int32)) rfl ?_
    refine go_ifc_ne X22 hx (db hby d0_195) (fun c195 => ?_) (fun c195 => absurd c195 (by decide))
    refine go_iload X22 hx (dc hby d0_203) (v := eB) rfl ?_
    refine go_istore X22 hx #[.val (.long ch), .second, .val (.int b0), .val (.int b1), .val (.int sel), .val (.int mt), .val (.ref ba), .val (.int p0), .val (.int q0), .val (.int p1), .val (.int q1), .val (.int sA), .val (.int eA), .val (.int sB), .val (.int eB), .val (.int (1 : Int32)), .val (.ref a), .val (.ref c), .val (.int sB), .val (.int eB), .unset] (dc hby d0_205) rfl ?_
    refine go_aload X22 hx (dc hby d0_207) (v := (.ref ba)) rfl rfl ?_
    refine go_iload X22 hx (dc hby d0_209) (v := mt) rfl ?_
    refine go_iconst X22 hx (3) (dc hby d0_211) rfl ?_
    refine go_iand X22 hx (dc hby d0_212) ?_
    refine go_iload X22 hx (dc hby d0_213) (v := mt) rfl ?_
    refine go_bipush X22 hx (16) (dc hby d0_215) rfl ?_
    refine go_iushr X22 hx (dc hby d0_217) ?_
    refine go_ldc X22 hx hZ hown (hw _ (List.mem_of_getElem? (i := 72) rfl)) (dc hby d0_218) ?_
    refine go_iand X22 hx (dc hby d0_220) ?_
    refine go_i2c X22 hx (dc hby d0_221) ?_
    refine go_castoreV X22 hx hZ rfl VI (own_four mt) _ rfl (own_nat4 (own_four mt)) (dc hby d0_222) (fun T23 h23 X23 e23 W23 V23 => ?_)
    have FT23 := TT22.wr W23 (Nat.ne_of_gt hbc)
    obtain ⟨d0, d1, d2, d3, VJ⟩ : ∃ d0 d1 d2 d3 : Int32, Arv Z h23 ba kba .char 4 [.int d0, .int d1, .int d2, .int d3] (.int 0) := by
      obtain ⟨d0, d1, d2, d3, hd4⟩ := own_set4 y0 y1 y2 y3 _ _ (own_nat4 (own_four mt))
      exact ⟨d0, d1, d2, d3, hd4 ▸ V23⟩
    have NF23 := Fr.snoc X23 NF22 hba
    refine go_aload X23 hx (dc hby d0_223) (v := (.ref c)) rfl rfl ?_
    refine go_interfaceP X23 hx hZ hown (hw _ (List.mem_of_getElem? (i := 73) rfl)) (hw _ (List.mem_of_getElem? (i := 74) rfl)) (hw _ (List.mem_of_getElem? (i := 75) rfl)) (by decide) (hw _ (List.mem_of_getElem? (i := 76) rfl)) (hw _ (List.mem_of_getElem? (i := 77) rfl)) (hw _ (List.mem_of_getElem? (i := 78) rfl)) (hw _ (List.mem_of_getElem? (i := 79) rfl)) (hw _ (List.mem_of_getElem? (i := 80) rfl)) (hw _ (List.mem_of_getElem? (i := 56) rfl)) (hw _ (List.mem_of_getElem? (i := 81) rfl)) (by decide) e23 (a := c) FT23.1 [] [] (r := (.int (eB - sB))) (rm12 l Z a0 hw [] c ba sB eB h23 FT23) pd12 rfl (by rw [hml]; rfl) rfl 0 (Nat.le_of_eq rfl) (by decide) (by decide) rfl rfl (by decide) (by decide) (dc hby d0_225) (fun T24 X24 e24 => ?_)
    refine go_iload X24 hx (dc hby d0_230) (v := eB) rfl ?_
    refine go_iload X24 hx (dc hby d0_232) (v := sB) rfl ?_
    refine go_isub X24 hx (dc hby d0_234) ?_
    refine go_icmp_ne X24 hx (db hby d0_235) (fun c235 => absurd rfl c235) (fun c235 => ?_)
    refine go_iconst X24 hx (1) (dc hby d0_238) rfl ?_
    refine go_goto X24 hx (db hby d0_239) ?_
    refine go_istore X24 hx #[.val (.long ch), .second, .val (.int b0), .val (.int b1), .val (.int sel), .val (.int mt), .val (.ref ba), .val (.int p0), .val (.int q0), .val (.int p1), .val (.int q1), .val (.int sA), .val (.int eA), .val (.int sB), .val (.int eB), .val (.int (1 : Int32)), .val (.ref a), .val (.ref c), .val (.int sB), .val (.int eB), .val (.int (1 : Int32))] (dc hby d0_243) rfl ?_
    refine go_iload X24 hx (dc hby d0_245) (v := (1 : Int32)) rfl ?_
    refine go_ifc_eq X24 hx (db hby d0_247) (fun c247 => absurd c247 (by decide)) (fun c247 => ?_)
    refine go_aload X24 hx (dc hby d0_250) (v := (.ref c)) rfl rfl ?_
    refine go_aload X24 hx (dc hby d0_252) (v := (.ref ba)) rfl rfl ?_
    refine go_iload X24 hx (dc hby d0_254) (v := sB) rfl ?_
    refine go_iload X24 hx (dc hby d0_256) (v := eB) rfl ?_
    refine go_iconst X24 hx (0) (dc hby d0_258) rfl ?_
    refine go_staticP X24 hx hZ hown (hw _ (List.mem_of_getElem? (i := 82) rfl)) (hw _ (List.mem_of_getElem? (i := 83) rfl)) (hw _ (List.mem_of_getElem? (i := 84) rfl)) (hw _ (List.mem_of_getElem? (i := 85) rfl)) (by decide) e24 [(.ref c), (.ref ba), (.int sB), (.int eB), (.int (0 : Int32))] [] (r := (.int (1 : Int32))) (rm13 l Z a0 hw [] c ba sB eB 0 kba d0 d1 d2 d3 h23 FT23 VJ (by decide) M1) pd13 rfl (by rw [hml]; rfl) rfl 0 (Nat.le_of_eq rfl) (by decide) (by decide) rfl rfl (by decide) (by decide) (dc hby d0_259) (fun T25 X25 e25 => ?_)
    refine go_ifc_eq X25 hx (db hby d0_262) (fun c262 => absurd c262 (by decide)) (fun c262 => ?_)
    refine go_iconst X25 hx (1) (dc hby d0_265) rfl ?_
    refine go_goto X25 hx (db hby d0_266) ?_
    refine go_istore X25 hx #[.val (.long ch), .second, .val (.int b0), .val (.int b1), .val (.int sel), .val (.int mt), .val (.ref ba), .val (.int p0), .val (.int q0), .val (.int p1), .val (.int q1), .val (.int sA), .val (.int eA), .val (.int sB), .val (.int eB), .val (.int (1 : Int32)), .val (.ref a), .val (.ref c), .val (.int sB), .val (.int eB), .val (.int (1 : Int32))] (dc hby d0_270) rfl ?_
    refine go_iload X25 hx (dc hby d0_272) (v := (1 : Int32)) rfl ?_
    refine go_ifc_eq X25 hx (db hby d0_274) (fun c274 => absurd c274 (by decide)) (fun c274 => ?_)
    refine go_aload X25 hx (dc hby d0_277) (v := (.ref c)) rfl rfl ?_
    refine go_aload X25 hx (dc hby d0_279) (v := (.ref ba)) rfl rfl ?_
    refine go_iload X25 hx (dc hby d0_281) (v := sB) rfl ?_
    refine go_iload X25 hx (dc hby d0_283) (v := eB) rfl ?_
    refine go_iconst X25 hx (1) (dc hby d0_285) rfl ?_
    refine go_staticP X25 hx hZ hown (hw _ (List.mem_of_getElem? (i := 82) rfl)) (hw _ (List.mem_of_getElem? (i := 83) rfl)) (hw _ (List.mem_of_getElem? (i := 84) rfl)) (hw _ (List.mem_of_getElem? (i := 85) rfl)) (by decide) e25 [(.ref c), (.ref ba), (.int sB), (.int eB), (.int (1 : Int32))] [] (r := (.int (1 : Int32))) (rm13 l Z a0 hw [] c ba sB eB 1 kba d0 d1 d2 d3 h23 FT23 VJ (by decide) M1) pd13 rfl (by rw [hml]; rfl) rfl 0 (Nat.le_of_eq rfl) (by decide) (by decide) rfl rfl (by decide) (by decide) (dc hby d0_286) (fun T26 X26 e26 => ?_)
    refine go_ifc_eq X26 hx (db hby d0_289) (fun c289 => absurd c289 (by decide)) (fun c289 => ?_)
    refine go_iconst X26 hx (1) (dc hby d0_292) rfl ?_
    refine go_goto X26 hx (db hby d0_293) ?_
    refine go_istore X26 hx #[.val (.long ch), .second, .val (.int b0), .val (.int b1), .val (.int sel), .val (.int mt), .val (.ref ba), .val (.int p0), .val (.int q0), .val (.int p1), .val (.int q1), .val (.int sA), .val (.int eA), .val (.int sB), .val (.int eB), .val (.int (1 : Int32)), .val (.ref a), .val (.ref c), .val (.int sB), .val (.int eB), .val (.int (1 : Int32))] (dc hby d0_297) rfl ?_
    refine go_iload X26 hx (dc hby d0_299) (v := (1 : Int32)) rfl ?_
    refine go_ifc_eq X26 hx (db hby d0_301) (fun c301 => absurd c301 (by decide)) (fun c301 => ?_)
    refine go_aload X26 hx (dc hby d0_304) (v := (.ref c)) rfl rfl ?_
    refine go_aload X26 hx (dc hby d0_306) (v := (.ref ba)) rfl rfl ?_
    refine go_iload X26 hx (dc hby d0_308) (v := sB) rfl ?_
    refine go_iload X26 hx (dc hby d0_310) (v := eB) rfl ?_
    refine go_iconst X26 hx (2) (dc hby d0_312) rfl ?_
    refine go_staticP X26 hx hZ hown (hw _ (List.mem_of_getElem? (i := 82) rfl)) (hw _ (List.mem_of_getElem? (i := 83) rfl)) (hw _ (List.mem_of_getElem? (i := 84) rfl)) (hw _ (List.mem_of_getElem? (i := 85) rfl)) (by decide) e26 [(.ref c), (.ref ba), (.int sB), (.int eB), (.int (2 : Int32))] [] (r := (.int (1 : Int32))) (rm13 l Z a0 hw [] c ba sB eB 2 kba d0 d1 d2 d3 h23 FT23 VJ (by decide) M1) pd13 rfl (by rw [hml]; rfl) rfl 0 (Nat.le_of_eq rfl) (by decide) (by decide) rfl rfl (by decide) (by decide) (dc hby d0_313) (fun T27 X27 e27 => ?_)
    refine go_ifc_eq X27 hx (db hby d0_316) (fun c316 => absurd c316 (by decide)) (fun c316 => ?_)
    refine go_iconst X27 hx (1) (dc hby d0_319) rfl ?_
    refine go_goto X27 hx (db hby d0_320) ?_
    refine go_istore X27 hx #[.val (.long ch), .second, .val (.int b0), .val (.int b1), .val (.int sel), .val (.int mt), .val (.ref ba), .val (.int p0), .val (.int q0), .val (.int p1), .val (.int q1), .val (.int sA), .val (.int eA), .val (.int sB), .val (.int eB), .val (.int (1 : Int32)), .val (.ref a), .val (.ref c), .val (.int sB), .val (.int eB), .val (.int (1 : Int32))] (dc hby d0_324) rfl ?_
    refine go_iload X27 hx (dc hby d0_326) (v := (1 : Int32)) rfl ?_
    refine go_ifc_eq X27 hx (db hby d0_328) (fun c328 => absurd c328 (by decide)) (fun c328 => ?_)
    refine go_aload X27 hx (dc hby d0_331) (v := (.ref c)) rfl rfl ?_
    refine go_aload X27 hx (dc hby d0_333) (v := (.ref ba)) rfl rfl ?_
    refine go_iload X27 hx (dc hby d0_335) (v := sB) rfl ?_
    refine go_iload X27 hx (dc hby d0_337) (v := eB) rfl ?_
    refine go_iconst X27 hx (3) (dc hby d0_339) rfl ?_
    refine go_staticP X27 hx hZ hown (hw _ (List.mem_of_getElem? (i := 82) rfl)) (hw _ (List.mem_of_getElem? (i := 83) rfl)) (hw _ (List.mem_of_getElem? (i := 84) rfl)) (hw _ (List.mem_of_getElem? (i := 85) rfl)) (by decide) e27 [(.ref c), (.ref ba), (.int sB), (.int eB), (.int (3 : Int32))] [] (r := (.int (1 : Int32))) (rm13 l Z a0 hw [] c ba sB eB 3 kba d0 d1 d2 d3 h23 FT23 VJ (by decide) M1) pd13 rfl (by rw [hml]; rfl) rfl 0 (Nat.le_of_eq rfl) (by decide) (by decide) rfl rfl (by decide) (by decide) (dc hby d0_340) (fun T28 X28 e28 => ?_)
    refine go_ifc_eq X28 hx (db hby d0_343) (fun c343 => absurd c343 (by decide)) (fun c343 => ?_)
    refine go_iconst X28 hx (1) (dc hby d0_346) rfl ?_
    refine go_goto X28 hx (db hby d0_347) ?_
    refine go_istore X28 hx #[.val (.long ch), .second, .val (.int b0), .val (.int b1), .val (.int sel), .val (.int mt), .val (.ref ba), .val (.int p0), .val (.int q0), .val (.int p1), .val (.int q1), .val (.int sA), .val (.int eA), .val (.int sB), .val (.int eB), .val (.int (1 : Int32)), .val (.ref a), .val (.ref c), .val (.int sB), .val (.int eB), .val (.int (1 : Int32))] (dc hby d0_351) rfl ?_
    refine go_iload X28 hx (dc hby d0_353) (v := (1 : Int32)) rfl ?_
    exact go_retN X28 hx hret (by simp) (dc hby d0_355) hk (by decide) (by decide) ⟨rfl, NF23⟩
theorem pd0 : parseMethodDescriptor "(JIIII)Z" = some ⟨[.long, .int, .int, .int, .int], some .boolean⟩ := by decide +kernel
set_option maxRecDepth 65536 in
set_option maxHeartbeats 40000000 in
theorem comes_1 {Post : Tables → Env → Array Value → State → Outcome → State → Prop} (hpost : ∀ tb e args s v u, (limb_1_1.after args s (.returned v) u = true ∧ limb_1_2.after args s (.returned v) u = true ∧ True) → FrameEnd s (.returned v) u (Jvm.fieldLocs frame_1_writes args s ++ Jvm.arrayLocs frame_1_arrays args s ++ Jvm.staticLocs frame_1_statics s) 24 192 → Post tb e args s (.returned v) u) :
    ArmFor flags0 classFile x code maxLocals ret World_1 tables_1 room_1 Calls_1 rest_1 Pre_1 Post := by
  intro l hfl _ _ p e ha hc hk s m args below hf hA hF happ hP
  obtain ⟨hcalls, hrest, hpre⟩ := hP
  obtain ⟨-, -, -, hnamed, -, -, -, hat⟩ := (Spec.applies_iff hf).mp happ
  obtain ⟨hg, hn⟩ := and_e (Cond.before_iff.mp (show (Jvm.Cond.and given_1 narrow_1).before args s = true from hpre))
  obtain ⟨g1, g2⟩ := and_e hg
  obtain ⟨w0, w1, w2, w3, w4, rfl⟩ : ∃ w0 w1 w2 w3 w4 : Value, args = #[w0, w1, w2, w3, w4] := by
    have hs : args.size = 5 := by simpa [Cond.value, given_1] using g1
    obtain ⟨L⟩ := args
    match L, hs with
    | [w0, w1, w2, w3, w4], _ => exact ⟨w0, w1, w2, w3, w4, rfl⟩
  have hw := fun d (hd : d ∈ tables_1) => atoms_spec (ws := Jvm.Cond.code x code maxLocals ret :: tables_1) hat d (List.mem_cons_of_mem _ hd)
  have hfit : Fit s := fun {y c} hc i hi => by
    obtain ⟨ha, rfl⟩ := Array.getElem?_eq_some_iff.mp hc
    have q := List.all_eq_true.mp ((Array.all_eq_true_iff_forall_mem.mp hF) _ (Array.getElem_mem ha)) i (List.mem_range.mpr hi)
    simpa [Array.getElem?_eq_getElem hi] using q
  obtain ⟨u0, r0⟩ := and_e g2
  obtain ⟨i0, j0⟩ := isL_v u0
  obtain rfl : w0 = (.long i0) := Option.some.inj j0
  obtain ⟨u1, r1⟩ := and_e r0
  obtain ⟨i1, j1⟩ := is_v u1
  obtain rfl : w1 = (.int i1) := Option.some.inj j1
  obtain ⟨u2, r2⟩ := and_e r1
  obtain ⟨i2, j2⟩ := is_v u2
  obtain rfl : w2 = (.int i2) := Option.some.inj j2
  obtain ⟨u3, r3⟩ := and_e r2
  obtain ⟨i3, j3⟩ := is_v u3
  obtain rfl : w3 = (.int i3) := Option.some.inj j3
  obtain ⟨i4, j4⟩ := is_v r3
  obtain rfl : w4 = (.int i4) := Option.some.inj j4
  obtain ⟨n, o, h1, h2, h3, _, L, rfl, ⟨rfl, N⟩, hq⟩ := rm0 l s _ hw tables_1 i0 i1 i2 i3 i4  s.heap  p e ha hc hk s m _ below hf ((Spec.applies_iff_loose hf).mp happ).1 ⟨rfl, State.Warmed39.refl s, rfl⟩ trivial
  refine ⟨n, _, h1, h2, h3, hpost _ _ _ _ _ _ ⟨Cond.after_iff.mpr rfl, Cond.after_iff.mpr (eq_i res_at (Term.int_eval (1)) rfl), trivial⟩ ⟨hq.1, hq.2.1, (hq.2.2.sift fun y hy => Or.inr (N y hy)).mono (by decide) (by decide)⟩⟩
theorem main_1_1 : Claimed_1_1 := comes_1 fun _ _ _ _ _ _ h hF => ⟨h.1, hF⟩
theorem main_1_2 : Claimed_1_2 := comes_1 fun _ _ _ _ _ _ h hF => ⟨h.2.1, hF⟩
end Jvm.Pilot.@@N@@
namespace Jvm.Pilot.@@N@@
open Jvm Jvm.ClassFile Sem Op Lib Jvm.Free Jvm.Stand Jvm.Pilot.@@N@@.Jvm.D
/-! MADE BY PROGRAM (witnessworld.py) out of the Statement's table words and the real class files: 22 classes; the members and pool entries that the words name. The judged class is class 1, her method 2. -/
namespace start1
open Jvm.ClassFile
def u (s : String) : CpInfo := .utf8 (stringToUtf16 s)
/-- a pool by its gaps: so many unusable entries, then the entry; so many at the end -/
def gap : Nat → List CpInfo → List CpInfo
  | 0, r => r
  | n + 1, r => .unusable :: gap n r
def poolList (es : List (Nat × CpInfo)) (last : Nat) : List CpInfo := es.foldr (fun e r => gap e.1 (e.2 :: r)) (gap last [])
def pool (es : List (Nat × CpInfo)) (last : Nat) : Array CpInfo := ⟨poolList es last⟩
def fileOf (pool : Array CpInfo) (this : Nat) (attrs : Array Attribute := #[]) (ms : Array MethodInfo := #[]) (fl : Nat := 33) (sup : Nat := 0) (ifs : Array Nat := #[]) (fds : Array FieldInfo := #[]) : ClassFile where
  minorVersion := 0
  majorVersion := 65
  constantPool := pool
  accessFlags := fl
  thisClass := this
  superClass := sup
  interfaces := ifs
  fields := fds
  methods := ms
  attributes := attrs
def plain (name : String) (sup : Option ClassId) : Class where
  name := name
  kind := .ordinary
  loader := none
  accessFlags := 33
  super := sup
  interfaces := #[]
  cf := none
  fields := #[]
  methods := #[]
  instanceTypes := #[]
  staticTypes := #[]
  resolved := #[]
  callSites := []
  init := .initialized
  statics := none
  mirror := none

def pool0 : Array CpInfo := pool [(5, u "<init>"), (0, u "()V"), (1, .class_ 10), (1, u "java/lang/Object")] 113

def k0c0 : Code := { maxStack := 0, maxLocals := 1, code := object_method_1_code, exceptionTable := #[], attributes := #[] }
def k0m0 : Method := { name := "<init>", desc := "()V", sig := { parameters := [], returnType := none }, accessFlags := 1, code := some k0c0 }
/-- java/lang/Object -/
def k0 : Class := { plain "java/lang/Object" none with
  accessFlags := 33
  interfaces := #[]
  cf := some (fileOf pool0 8 #[] #[{ accessFlags := 1, nameIndex := 5, descriptorIndex := 6, attributes := #[] }] 33 0 #[] #[])
  fields := #[]
  methods := #[k0m0]
  instanceTypes := #[]
  staticTypes := #[]
  resolved := Array.replicate 124 none
  statics := none }

def pool1 : Array CpInfo := pool [(2, .class_ 4), (0, .nameAndType 5 6), (0, u "java/lang/Object"), (0, u "<init>"), (0, u "()V"), (0, .interfaceMethodref 8 9), (0, .class_ 10), (0, .nameAndType 11 12), (0, u "java/lang/CharSequence"), (0, u "charAt"), (0, u "(I)C"), (0, .long 65535), (1, .methodref 16 17), (0, .class_ 18), (0, .nameAndType 19 20), (0, u "java/lang/Math"), (0, u "min"), (0, u "(II)I"), (0, .methodref 16 22), (0, .nameAndType 23 20), (0, u "max"), (0, .class_ 25), (0, u "com/example/strict_tariff/stricttariff/io/CsvRow"), (0, .methodref 24 3), (0, .methodref 24 28), (0, .nameAndType 29 30), (0, u "setText"), (0, u "([C)V"), (0, .methodref 24 32), (0, .nameAndType 33 34), (0, u "add"), (0, u "(II)V"), (0, .methodref 24 36), (0, .nameAndType 37 38), (0, u "text"), (0, u "(I)Ljava/lang/CharSequence;"), (0, .integer 65535), (0, .interfaceMethodref 8 41), (0, .nameAndType 42 43), (0, u "length"), (0, u "()I"), (0, .methodref 45 46), (0, .class_ 47), (0, .nameAndType 48 49), (0, u "com/example/strict_tariff/stricttariff/io/CsvRowTextPinLaw"), (0, u "at"), (0, u "(Ljava/lang/CharSequence;[CIII)Z"), (3, u "law"), (0, u "(JIIII)Z")] 4

def k1m0 : Method := { name := "<init>", desc := "()V", sig := { parameters := [], returnType := none }, accessFlags := 1, code := none }
def k1c1 : Code := { maxStack := 4, maxLocals := 5, code := method_2_code, exceptionTable := #[], attributes := #[] }
def k1m1 : Method := { name := "at", desc := "(Ljava/lang/CharSequence;[CIII)Z", sig := { parameters := [(.object "java/lang/CharSequence"), (.array .char), .int, .int, .int], returnType := some .boolean }, accessFlags := 10, code := some k1c1 }
def k1c2 : Code := { maxStack := 6, maxLocals := 21, code := code, exceptionTable := #[], attributes := #[] }
def k1m2 : Method := { name := "law", desc := "(JIIII)Z", sig := { parameters := [.long, .int, .int, .int, .int], returnType := some .boolean }, accessFlags := 9, code := some k1c2 }
/-- com/example/strict_tariff/stricttariff/io/CsvRowTextPinLaw -/
def k1 : Class := { plain "com/example/strict_tariff/stricttariff/io/CsvRowTextPinLaw" (some 0) with
  accessFlags := 49
  interfaces := #[]
  cf := some (fileOf pool1 45 #[] #[{ accessFlags := 1, nameIndex := 5, descriptorIndex := 6, attributes := #[] }, { accessFlags := 10, nameIndex := 48, descriptorIndex := 49, attributes := #[] }, { accessFlags := 9, nameIndex := 53, descriptorIndex := 54, attributes := #[] }] 49 2 #[] #[])
  fields := #[]
  methods := #[k1m0, k1m1, k1m2]
  instanceTypes := #[]
  staticTypes := #[]
  resolved := Array.replicate 59 none
  statics := none }

def pool2 : Array CpInfo := pool [(1, .class_ 2), (0, u "java/lang/Math"), (1, .class_ 6), (1, u "java/lang/Object"), (0, u "<init>"), (0, u "()V"), (89, .class_ 100), (1, u "java/lang/Math$RandomNumberGeneratorHolder"), (71, u "negativeZeroFloatBits"), (0, u "J"), (2, u "negativeZeroDoubleBits"), (21, u "max"), (2, u "min"), (43, u "$assertionsDisabled"), (0, u "Z"), (88, u "(II)I"), (2, u "twoToTheDoubleScaleDown"), (0, u "D"), (4, u "twoToTheDoubleScaleUp"), (9, u "E"), (3, u "PI"), (2, u "TAU"), (2, u "DEGREES_TO_RADIANS"), (0, u "RADIANS_TO_DEGREES")] 94

def k2m0 : Method := { name := "<init>", desc := "()V", sig := { parameters := [], returnType := none }, accessFlags := 2, code := none }
def k2c1 : Code := { maxStack := 2, maxLocals := 2, code := jdk_29_method_65_code, exceptionTable := #[], attributes := #[] }
def k2m1 : Method := { name := "max", desc := "(II)I", sig := { parameters := [.int, .int], returnType := some .int }, accessFlags := 9, code := some k2c1 }
def k2c2 : Code := { maxStack := 2, maxLocals := 2, code := jdk_29_method_69_code, exceptionTable := #[], attributes := #[] }
def k2m2 : Method := { name := "min", desc := "(II)I", sig := { parameters := [.int, .int], returnType := some .int }, accessFlags := 9, code := some k2c2 }
/-- java/lang/Math -/
def k2 : Class := { plain "java/lang/Math" (some 0) with
  accessFlags := 49
  interfaces := #[]
  cf := some (fileOf pool2 1 #[.nestMembers #[98]] #[{ accessFlags := 2, nameIndex := 7, descriptorIndex := 8, attributes := #[] }, { accessFlags := 9, nameIndex := 198, descriptorIndex := 335, attributes := #[] }, { accessFlags := 9, nameIndex := 201, descriptorIndex := 335, attributes := #[] }] 49 4 #[] #[{ accessFlags := 25, nameIndex := 354, descriptorIndex := 339, attributes := #[] }, { accessFlags := 25, nameIndex := 358, descriptorIndex := 339, attributes := #[] }, { accessFlags := 25, nameIndex := 361, descriptorIndex := 339, attributes := #[] }, { accessFlags := 26, nameIndex := 364, descriptorIndex := 339, attributes := #[] }, { accessFlags := 26, nameIndex := 365, descriptorIndex := 339, attributes := #[] }, { accessFlags := 26, nameIndex := 172, descriptorIndex := 173, attributes := #[] }, { accessFlags := 26, nameIndex := 176, descriptorIndex := 173, attributes := #[] }, { accessFlags := 8, nameIndex := 344, descriptorIndex := 339, attributes := #[] }, { accessFlags := 8, nameIndex := 338, descriptorIndex := 339, attributes := #[] }, { accessFlags := 4120, nameIndex := 245, descriptorIndex := 246, attributes := #[] }])
  fields := #[{ name := "E", type := .double, accessFlags := 25, slot := 0, constantValue := 0 }, { name := "PI", type := .double, accessFlags := 25, slot := 1, constantValue := 0 }, { name := "TAU", type := .double, accessFlags := 25, slot := 2, constantValue := 0 }, { name := "DEGREES_TO_RADIANS", type := .double, accessFlags := 26, slot := 3, constantValue := 0 }, { name := "RADIANS_TO_DEGREES", type := .double, accessFlags := 26, slot := 4, constantValue := 0 }, { name := "negativeZeroFloatBits", type := .long, accessFlags := 26, slot := 5, constantValue := 0 }, { name := "negativeZeroDoubleBits", type := .long, accessFlags := 26, slot := 6, constantValue := 0 }, { name := "twoToTheDoubleScaleUp", type := .double, accessFlags := 8, slot := 7, constantValue := 0 }, { name := "twoToTheDoubleScaleDown", type := .double, accessFlags := 8, slot := 8, constantValue := 0 }, { name := "$assertionsDisabled", type := .boolean, accessFlags := 4120, slot := 9, constantValue := 0 }]
  methods := #[k2m0, k2m1, k2m2]
  instanceTypes := #[]
  staticTypes := #[.double, .double, .double, .double, .double, .long, .long, .double, .double, .boolean]
  resolved := Array.replicate 460 none
  statics := none }

def pool3 : Array CpInfo := pool [(1, .methodref 2 3), (0, .class_ 4), (0, .nameAndType 5 6), (0, u "java/lang/Object"), (0, u "<init>"), (0, u "()V"), (0, .fieldref 8 9), (0, .class_ 10), (0, .nameAndType 11 12), (0, u "com/example/strict_tariff/stricttariff/io/CsvRow"), (0, u "text"), (0, u "[C"), (0, .fieldref 8 14), (0, .nameAndType 15 16), (0, u "starts"), (0, u "[I"), (0, .fieldref 8 18), (0, .nameAndType 19 16), (0, u "ends"), (0, .class_ 21), (0, u "java/lang/String"), (0, .fieldref 8 23), (0, .nameAndType 24 25), (0, u "taken"), (0, u "[Ljava/lang/String;"), (0, .fieldref 8 27), (0, .nameAndType 28 29), (0, u "size"), (0, u "I"), (0, .methodref 31 32), (0, .class_ 33), (0, .nameAndType 34 35), (0, u "java/util/Objects"), (0, u "checkIndex"), (0, u "(II)I"), (5, .nameAndType 5 42), (0, u "([CII)V"), (0, .class_ 44), (0, u "com/example/strict_tariff/stricttariff/io/CsvRow$Text"), (0, .methodref 43 41), (13, u "add"), (22, u "(I)Ljava/lang/CharSequence;"), (5, u "(II)V"), (1, u "setText"), (0, u "([C)V")] 5

def k3c0 : Code := { maxStack := 2, maxLocals := 1, code := prog_57_method_1_code, exceptionTable := #[], attributes := #[] }
def k3m0 : Method := { name := "<init>", desc := "()V", sig := { parameters := [], returnType := none }, accessFlags := 0, code := some k3c0 }
def k3c1 : Code := { maxStack := 6, maxLocals := 2, code := prog_57_method_4_code, exceptionTable := #[], attributes := #[] }
def k3m1 : Method := { name := "text", desc := "(I)Ljava/lang/CharSequence;", sig := { parameters := [.int], returnType := some (.object "java/lang/CharSequence") }, accessFlags := 0, code := some k3c1 }
def k3c2 : Code := { maxStack := 4, maxLocals := 3, code := prog_57_method_8_code, exceptionTable := #[], attributes := #[] }
def k3m2 : Method := { name := "add", desc := "(II)V", sig := { parameters := [.int, .int], returnType := none }, accessFlags := 0, code := some k3c2 }
def k3c3 : Code := { maxStack := 2, maxLocals := 2, code := prog_57_method_10_code, exceptionTable := #[], attributes := #[] }
def k3m3 : Method := { name := "setText", desc := "([C)V", sig := { parameters := [(.array .char)], returnType := none }, accessFlags := 0, code := some k3c3 }
/-- com/example/strict_tariff/stricttariff/io/CsvRow -/
def k3 : Class := { plain "com/example/strict_tariff/stricttariff/io/CsvRow" (some 0) with
  accessFlags := 32
  interfaces := #[]
  cf := some (fileOf pool3 8 #[.nestMembers #[43]] #[{ accessFlags := 0, nameIndex := 5, descriptorIndex := 6, attributes := #[] }, { accessFlags := 0, nameIndex := 11, descriptorIndex := 82, attributes := #[] }, { accessFlags := 0, nameIndex := 59, descriptorIndex := 88, attributes := #[] }, { accessFlags := 0, nameIndex := 90, descriptorIndex := 91, attributes := #[] }] 32 2 #[] #[{ accessFlags := 2, nameIndex := 11, descriptorIndex := 12, attributes := #[] }, { accessFlags := 2, nameIndex := 15, descriptorIndex := 16, attributes := #[] }, { accessFlags := 2, nameIndex := 19, descriptorIndex := 16, attributes := #[] }, { accessFlags := 2, nameIndex := 28, descriptorIndex := 29, attributes := #[] }, { accessFlags := 2, nameIndex := 24, descriptorIndex := 25, attributes := #[] }])
  fields := #[{ name := "text", type := (.array .char), accessFlags := 2, slot := 0, constantValue := 0 }, { name := "starts", type := (.array .int), accessFlags := 2, slot := 1, constantValue := 0 }, { name := "ends", type := (.array .int), accessFlags := 2, slot := 2, constantValue := 0 }, { name := "size", type := .int, accessFlags := 2, slot := 3, constantValue := 0 }, { name := "taken", type := (.array (.object "java/lang/String")), accessFlags := 2, slot := 4, constantValue := 0 }]
  methods := #[k3m0, k3m1, k3m2, k3m3]
  instanceTypes := #[(.array .char), (.array .int), (.array .int), .int, (.array (.object "java/lang/String"))]
  staticTypes := #[]
  resolved := ((Array.replicate 97 none).setIfInBounds 43 (some (.cls 13))).setIfInBounds 45 (some (.method ⟨13, 0⟩))
  statics := none }

def pool4 : Array CpInfo := pool [(1, .class_ 2), (0, u "java/io/Serializable"), (0, .class_ 4), (0, u "java/lang/Object")] 2

/-- java/io/Serializable -/
def k4 : Class := { plain "java/io/Serializable" (some 0) with
  accessFlags := 1537
  interfaces := #[]
  cf := some (fileOf pool4 1 #[] #[] 1537 3 #[] #[])
  fields := #[]
  methods := #[]
  instanceTypes := #[]
  staticTypes := #[]
  resolved := Array.replicate 7 none
  statics := none }

def pool5 : Array CpInfo := pool [(1, .class_ 2), (0, u "java/lang/Comparable"), (0, .class_ 4), (0, u "java/lang/Object")] 7

/-- java/lang/Comparable -/
def k5 : Class := { plain "java/lang/Comparable" (some 0) with
  accessFlags := 1537
  interfaces := #[]
  cf := some (fileOf pool5 1 #[] #[] 1537 3 #[] #[])
  fields := #[]
  methods := #[]
  instanceTypes := #[]
  staticTypes := #[]
  resolved := Array.replicate 12 none
  statics := none }

def pool6 : Array CpInfo := pool [(2, .class_ 4), (1, u "java/lang/CharSequence"), (0, u "length"), (0, u "()I"), (38, u "charAt"), (0, u "(I)C"), (0, .class_ 48), (0, u "java/lang/CharSequence$1CodePointIterator"), (10, .class_ 60), (0, u "java/lang/CharSequence$1CharIterator"), (5, .class_ 67), (0, u "java/lang/Object")] 63

def k6m0 : Method := { name := "length", desc := "()I", sig := { parameters := [], returnType := some .int }, accessFlags := 1025, code := none }
def k6m1 : Method := { name := "charAt", desc := "(I)C", sig := { parameters := [.int], returnType := some .char }, accessFlags := 1025, code := none }
/-- java/lang/CharSequence -/
def k6 : Class := { plain "java/lang/CharSequence" (some 0) with
  accessFlags := 1537
  interfaces := #[]
  cf := some (fileOf pool6 2 #[.nestMembers #[47, 59]] #[{ accessFlags := 1025, nameIndex := 5, descriptorIndex := 6, attributes := #[] }, { accessFlags := 1025, nameIndex := 45, descriptorIndex := 46, attributes := #[] }] 1537 66 #[] #[])
  fields := #[]
  methods := #[k6m0, k6m1]
  instanceTypes := #[]
  staticTypes := #[]
  resolved := Array.replicate 131 none
  statics := none }

def pool7 : Array CpInfo := pool [(1, .class_ 2), (0, u "java/lang/constant/Constable"), (0, .class_ 4), (0, u "java/lang/Object")] 6

/-- java/lang/constant/Constable -/
def k7 : Class := { plain "java/lang/constant/Constable" (some 0) with
  accessFlags := 1537
  interfaces := #[]
  cf := some (fileOf pool7 1 #[] #[] 1537 3 #[] #[])
  fields := #[]
  methods := #[]
  instanceTypes := #[]
  staticTypes := #[]
  resolved := Array.replicate 11 none
  statics := none }

def pool8 : Array CpInfo := pool [(1, .class_ 2), (0, u "java/lang/constant/ConstantDesc"), (0, .class_ 4), (0, u "java/lang/Object")] 32

/-- java/lang/constant/ConstantDesc -/
def k8 : Class := { plain "java/lang/constant/ConstantDesc" (some 0) with
  accessFlags := 1537
  interfaces := #[]
  cf := some (fileOf pool8 1 #[] #[] 1537 3 #[] #[])
  fields := #[]
  methods := #[]
  instanceTypes := #[]
  staticTypes := #[]
  resolved := Array.replicate 37 none
  statics := none }

def pool9 : Array CpInfo := pool [(2, .class_ 4), (1, u "java/lang/Object"), (0, u "<init>"), (0, u "()V"), (3, .class_ 12), (1, u "java/lang/String"), (0, u "value"), (0, u "[B"), (2, u "coder"), (0, u "B"), (2, u "hash"), (0, u "I"), (2, u "hashIsZero"), (0, u "Z"), (13, u "COMPACT_STRINGS"), (534, .class_ 576), (0, u "java/lang/CharSequence"), (22, u "CASE_INSENSITIVE_ORDER"), (0, u "Ljava/util/Comparator;"), (500, u "serialPersistentFields"), (0, u "[Ljava/io/ObjectStreamField;"), (0, .class_ 1104), (0, u "java/lang/String$CaseInsensitiveComparator"), (1, .class_ 1107), (0, u "java/io/Serializable"), (0, .class_ 1109), (0, u "java/lang/Comparable"), (0, .class_ 1111), (0, u "java/lang/constant/Constable"), (0, .class_ 1113), (0, u "java/lang/constant/ConstantDesc"), (2, u "serialVersionUID"), (0, u "J"), (3, u "REPL"), (0, u "C"), (2, u "LATIN1"), (1, u "UTF16")] 323

def k9m0 : Method := { name := "<init>", desc := "()V", sig := { parameters := [], returnType := none }, accessFlags := 1, code := none }
/-- java/lang/String -/
def k9 : Class := { plain "java/lang/String" (some 0) with
  accessFlags := 49
  interfaces := #[4, 5, 6, 7, 8]
  cf := some (fileOf pool9 10 #[.nestMembers #[1103]] #[{ accessFlags := 1, nameIndex := 5, descriptorIndex := 6, attributes := #[] }] 49 2 #[1106, 1108, 575, 1110, 1112] #[{ accessFlags := 18, nameIndex := 13, descriptorIndex := 14, attributes := #[] }, { accessFlags := 18, nameIndex := 17, descriptorIndex := 18, attributes := #[] }, { accessFlags := 2, nameIndex := 21, descriptorIndex := 22, attributes := #[] }, { accessFlags := 2, nameIndex := 25, descriptorIndex := 26, attributes := #[] }, { accessFlags := 26, nameIndex := 1116, descriptorIndex := 1117, attributes := #[] }, { accessFlags := 24, nameIndex := 40, descriptorIndex := 26, attributes := #[] }, { accessFlags := 26, nameIndex := 1101, descriptorIndex := 1102, attributes := #[] }, { accessFlags := 26, nameIndex := 1121, descriptorIndex := 1122, attributes := #[] }, { accessFlags := 25, nameIndex := 599, descriptorIndex := 600, attributes := #[] }, { accessFlags := 24, nameIndex := 1125, descriptorIndex := 18, attributes := #[] }, { accessFlags := 24, nameIndex := 1127, descriptorIndex := 18, attributes := #[] }])
  fields := #[{ name := "value", type := (.array .byte), accessFlags := 18, slot := 0, constantValue := 0 }, { name := "coder", type := .byte, accessFlags := 18, slot := 1, constantValue := 0 }, { name := "hash", type := .int, accessFlags := 2, slot := 2, constantValue := 0 }, { name := "hashIsZero", type := .boolean, accessFlags := 2, slot := 3, constantValue := 0 }, { name := "serialVersionUID", type := .long, accessFlags := 26, slot := 0, constantValue := 0 }, { name := "COMPACT_STRINGS", type := .boolean, accessFlags := 24, slot := 1, constantValue := 0 }, { name := "serialPersistentFields", type := (.array (.object "java/io/ObjectStreamField")), accessFlags := 26, slot := 2, constantValue := 0 }, { name := "REPL", type := .char, accessFlags := 26, slot := 3, constantValue := 0 }, { name := "CASE_INSENSITIVE_ORDER", type := (.object "java/util/Comparator"), accessFlags := 25, slot := 4, constantValue := 0 }, { name := "LATIN1", type := .byte, accessFlags := 24, slot := 5, constantValue := 0 }, { name := "UTF16", type := .byte, accessFlags := 24, slot := 6, constantValue := 0 }]
  methods := #[k9m0]
  instanceTypes := #[(.array .byte), .byte, .int, .boolean]
  staticTypes := #[.long, .boolean, (.array (.object "java/io/ObjectStreamField")), .char, (.object "java/util/Comparator"), .byte, .byte]
  resolved := Array.replicate 1451 none
  statics := none }

def pool10 : Array CpInfo := pool [(2, .class_ 4), (1, u "java/lang/Object"), (0, u "<init>"), (0, u "()V"), (35, .class_ 44), (1, u "java/util/Objects"), (60, .methodref 106 107), (0, .class_ 108), (0, .nameAndType 109 110), (0, u "jdk/internal/util/Preconditions"), (0, u "checkIndex"), (0, u "(IILjava/util/function/BiFunction;)I"), (60, u "(II)I")] 12

def k10m0 : Method := { name := "<init>", desc := "()V", sig := { parameters := [], returnType := none }, accessFlags := 2, code := none }
def k10c1 : Code := { maxStack := 3, maxLocals := 2, code := jdk_31_method_17_code, exceptionTable := #[], attributes := #[] }
def k10m1 : Method := { name := "checkIndex", desc := "(II)I", sig := { parameters := [.int, .int], returnType := some .int }, accessFlags := 9, code := some k10c1 }
/-- java/util/Objects -/
def k10 : Class := { plain "java/util/Objects" (some 0) with
  accessFlags := 49
  interfaces := #[]
  cf := some (fileOf pool10 42 #[] #[{ accessFlags := 2, nameIndex := 5, descriptorIndex := 6, attributes := #[] }, { accessFlags := 9, nameIndex := 109, descriptorIndex := 171, attributes := #[] }] 49 2 #[] #[])
  fields := #[]
  methods := #[k10m0, k10m1]
  instanceTypes := #[]
  staticTypes := #[]
  resolved := Array.replicate 184 none
  statics := none }

def pool11 : Array CpInfo := pool [(2, .class_ 4), (1, u "java/lang/Object"), (0, u "<init>"), (0, u "()V"), (17, .class_ 26), (1, u "jdk/internal/util/Preconditions"), (6, u "checkIndex"), (21, .class_ 56), (0, u "jdk/internal/util/Preconditions$4"), (57, .class_ 115), (0, u "jdk/internal/util/Preconditions$1"), (7, u "SIOOBE_FORMATTER"), (0, u "Ljava/util/function/BiFunction;"), (0, .class_ 126), (0, u "jdk/internal/util/Preconditions$2"), (3, u "AIOOBE_FORMATTER"), (0, .class_ 132), (0, u "jdk/internal/util/Preconditions$3"), (3, u "IOOBE_FORMATTER"), (41, u "(IILjava/util/function/BiFunction;)I")] 15

def k11m0 : Method := { name := "<init>", desc := "()V", sig := { parameters := [], returnType := none }, accessFlags := 1, code := none }
def k11c1 : Code := { maxStack := 3, maxLocals := 3, code := jdk_41_method_11_code, exceptionTable := #[], attributes := #[] }
def k11m1 : Method := { name := "checkIndex", desc := "(IILjava/util/function/BiFunction;)I", sig := { parameters := [.int, .int, (.object "java/util/function/BiFunction")], returnType := some .int }, accessFlags := 9, code := some k11c1 }
/-- jdk/internal/util/Preconditions -/
def k11 : Class := { plain "jdk/internal/util/Preconditions" (some 0) with
  accessFlags := 33
  interfaces := #[]
  cf := some (fileOf pool11 24 #[.nestMembers #[55, 131, 125, 114]] #[{ accessFlags := 1, nameIndex := 5, descriptorIndex := 6, attributes := #[] }, { accessFlags := 9, nameIndex := 33, descriptorIndex := 178, attributes := #[] }] 33 2 #[] #[{ accessFlags := 25, nameIndex := 123, descriptorIndex := 124, attributes := #[] }, { accessFlags := 25, nameIndex := 130, descriptorIndex := 124, attributes := #[] }, { accessFlags := 25, nameIndex := 136, descriptorIndex := 124, attributes := #[] }])
  fields := #[{ name := "SIOOBE_FORMATTER", type := (.object "java/util/function/BiFunction"), accessFlags := 25, slot := 0, constantValue := 0 }, { name := "AIOOBE_FORMATTER", type := (.object "java/util/function/BiFunction"), accessFlags := 25, slot := 1, constantValue := 0 }, { name := "IOOBE_FORMATTER", type := (.object "java/util/function/BiFunction"), accessFlags := 25, slot := 2, constantValue := 0 }]
  methods := #[k11m0, k11m1]
  instanceTypes := #[]
  staticTypes := #[(.object "java/util/function/BiFunction"), (.object "java/util/function/BiFunction"), (.object "java/util/function/BiFunction")]
  resolved := Array.replicate 194 none
  statics := none }

def pool12 : Array CpInfo := pool [(1, .methodref 2 3), (0, .class_ 4), (0, .nameAndType 5 6), (0, u "java/lang/Object"), (0, u "<init>"), (0, u "()V"), (0, .class_ 8), (0, u "java/lang/Record")] 13

def k12c0 : Code := { maxStack := 1, maxLocals := 1, code := jdk_30_method_1_code, exceptionTable := #[], attributes := #[] }
def k12m0 : Method := { name := "<init>", desc := "()V", sig := { parameters := [], returnType := none }, accessFlags := 4, code := some k12c0 }
/-- java/lang/Record -/
def k12 : Class := { plain "java/lang/Record" (some 0) with
  accessFlags := 1057
  interfaces := #[]
  cf := some (fileOf pool12 7 #[] #[{ accessFlags := 4, nameIndex := 5, descriptorIndex := 6, attributes := #[] }] 1057 2 #[] #[])
  fields := #[]
  methods := #[k12m0]
  instanceTypes := #[]
  staticTypes := #[]
  resolved := Array.replicate 22 none
  statics := none }

def pool13 : Array CpInfo := pool [(1, .methodref 2 3), (0, .class_ 4), (0, .nameAndType 5 6), (0, u "java/lang/Record"), (0, u "<init>"), (0, u "()V"), (0, .fieldref 8 9), (0, .class_ 10), (0, .nameAndType 11 12), (0, u "com/example/strict_tariff/stricttariff/io/CsvRow$Text"), (0, u "buffer"), (0, u "[C"), (0, .fieldref 8 14), (0, .nameAndType 15 16), (0, u "from"), (0, u "I"), (0, .fieldref 8 18), (0, .nameAndType 19 16), (0, u "to"), (0, .methodref 21 22), (0, .class_ 23), (0, .nameAndType 24 25), (0, u "java/util/Objects"), (0, u "checkIndex"), (0, u "(II)I"), (6, u "([CII)V"), (11, .class_ 45), (0, u "java/lang/CharSequence"), (3, u "length"), (0, u "()I"), (0, u "charAt"), (0, u "(I)C"), (9, .class_ 63), (0, u "com/example/strict_tariff/stricttariff/io/CsvRow")] 21

def k13c0 : Code := { maxStack := 2, maxLocals := 4, code := prog_58_method_1_code, exceptionTable := #[], attributes := #[] }
def k13m0 : Method := { name := "<init>", desc := "([CII)V", sig := { parameters := [(.array .char), .int, .int], returnType := none }, accessFlags := 2, code := some k13c0 }
def k13c1 : Code := { maxStack := 2, maxLocals := 1, code := prog_58_method_2_code, exceptionTable := #[], attributes := #[] }
def k13m1 : Method := { name := "length", desc := "()I", sig := { parameters := [], returnType := some .int }, accessFlags := 1, code := some k13c1 }
def k13c2 : Code := { maxStack := 3, maxLocals := 2, code := prog_58_method_3_code, exceptionTable := #[], attributes := #[] }
def k13m2 : Method := { name := "charAt", desc := "(I)C", sig := { parameters := [.int], returnType := some .char }, accessFlags := 1, code := some k13c2 }
/-- com/example/strict_tariff/stricttariff/io/CsvRow$Text -/
def k13 : Class := { plain "com/example/strict_tariff/stricttariff/io/CsvRow$Text" (some 12) with
  accessFlags := 48
  interfaces := #[6]
  cf := some (fileOf pool13 8 #[.nestHost 62] #[{ accessFlags := 2, nameIndex := 5, descriptorIndex := 32, attributes := #[] }, { accessFlags := 1, nameIndex := 49, descriptorIndex := 50, attributes := #[] }, { accessFlags := 1, nameIndex := 51, descriptorIndex := 52, attributes := #[] }] 48 2 #[44] #[{ accessFlags := 18, nameIndex := 11, descriptorIndex := 12, attributes := #[] }, { accessFlags := 18, nameIndex := 15, descriptorIndex := 16, attributes := #[] }, { accessFlags := 18, nameIndex := 19, descriptorIndex := 16, attributes := #[] }])
  fields := #[{ name := "buffer", type := (.array .char), accessFlags := 18, slot := 0, constantValue := 0 }, { name := "from", type := .int, accessFlags := 18, slot := 1, constantValue := 0 }, { name := "to", type := .int, accessFlags := 18, slot := 2, constantValue := 0 }]
  methods := #[k13m0, k13m1, k13m2]
  instanceTypes := #[(.array .char), .int, .int]
  staticTypes := #[]
  resolved := Array.replicate 85 none
  statics := none }

def pool14 : Array CpInfo := pool [(1, u "java/lang/Cloneable"), (0, .class_ 1), (0, u "java/lang/Object"), (0, .class_ 3)] 3

/-- java/lang/Cloneable -/
def k14 : Class := { plain "java/lang/Cloneable" (some 0) with
  accessFlags := 1537
  interfaces := #[]
  cf := some (fileOf pool14 2 #[] #[] 1537 4 #[] #[])
  fields := #[]
  methods := #[]
  instanceTypes := #[]
  staticTypes := #[]
  resolved := Array.replicate 8 none
  statics := none }

/-- the primitive byte -/
def k15 : Class := { plain "byte" none with kind := .primitive 'B', accessFlags := 0x411 }
/-- [B -/
def k16 : Class := { plain "[B" (some 0) with kind := .array 15 .byte, interfaces := #[14, 4], accessFlags := 1041 }

/-- the primitive char -/
def k17 : Class := { plain "char" none with kind := .primitive 'C', accessFlags := 0x411 }
/-- [C -/
def k18 : Class := { plain "[C" (some 0) with kind := .array 17 .char, interfaces := #[14, 4], accessFlags := 1041 }

/-- the primitive int -/
def k19 : Class := { plain "int" none with kind := .primitive 'I', accessFlags := 0x411 }
/-- [I -/
def k20 : Class := { plain "[I" (some 0) with kind := .array 19 .int, interfaces := #[14, 4], accessFlags := 1041 }

/-- [Ljava/lang/String; -/
def k21 : Class := { plain "[Ljava/lang/String;" (some 0) with kind := .array 9 (.object "java/lang/String"), interfaces := #[14, 4], accessFlags := 1041 }

def heap : Heap := #[]
def classes : Array Class := #[k0, k1, k2, k3, k4, k5, k6, k7, k8, k9, k10, k11, k12, k13, k14, k15, k16, k17, k18, k19, k20, k21]
def interned : List (Array UInt16 × Addr) := []
def slotsUsed : Nat := 0
def theMethod : MethodId := ⟨1, 2⟩
def args0 : Array Value := #[.long 5, .int 9, .int 17, .int 1, .int 2]
def aboutOver (below : List Frame) : State where
  vm := { classes := classes, interned := interned.toArray }
  heap := heap
  slotsUsed := slotsUsed
  threads := #[{ frames := .invoking theMethod args0 :: below }]
def below0 : List Frame := [.native { method := ⟨0, 0⟩, args := #[] }]
def about1 : State := aboutOver below0
def p0 : Program := .bare "" "" ""
def e0 : Env := launch0.env 0 0 0
theorem w_frames : about1.frames = Frame.invoking theMethod args0 :: below0 := rfl
set_option maxRecDepth 65536 in
theorem w_args : argsFit about1.vm theMethod args0 = true := by decide +kernel
set_option maxRecDepth 65536 in
theorem w_heap : heapFits about1 = true := by decide +kernel
set_option maxRecDepth 65536 in
theorem w_runnable : about1.curStatus? = some .runnable := by decide +kernel
set_option maxRecDepth 65536 in
theorem w_alone : about1.alone = true := by decide +kernel
set_option maxRecDepth 65536 in
theorem w_named : about1.methodNamed? x = some theMethod := by decide +kernel
set_option maxRecDepth 65536 in
theorem w_hears : about1.hears theMethod below0 = true := by decide +kernel
set_option maxRecDepth 65536 in
theorem w_ripe : about1.ripe theMethod args0 below0 = true := by decide +kernel
theorem w_running : about1.status = .running := rfl
set_option maxRecDepth 65536 in
theorem w_room : about1.hasRoom e0.platform room_1 = true :=
  launch0.hasRoom_least _ room_1 (by decide +kernel) (by decide +kernel) (by decide +kernel) (by decide +kernel) (by decide +kernel) (by decide +kernel)
theorem allAtoms_all (ts : List Jvm.Cond) (a : Array Jvm.Value) (st : Jvm.State) : (allAtoms ts).before a st = ts.all (fun c => c.before a st) := by
  induction ts with
  | nil => rfl
  | cons c t ih =>
    show (Jvm.Cond.and c (allAtoms t)).before a st = _
    rw [Jvm.Cond.before_and, ih, List.all_cons]
def words1 : List Jvm.Cond := Jvm.Cond.code x code maxLocals ret :: tables_1
/-- a 'code' word, met by the world's own term for the bytes: nothing is compared byte by byte -/
theorem code_word {y : MethodName} {bytes : ByteArray} {mx : Nat} {rt : Option FieldType} {a : Array Value} {s : State} {m : MethodId} {meth : Method} {c : Code} (h1 : s.methodNamed? y = some m) (h2 : s.vm.method? m = some meth) (h3 : meth.code = some c) (h4 : c.code = bytes)
    (h5 : (c.maxLocals == mx && c.exceptionTable.isEmpty && decide (c.maxStack ≤ mostOperands) && decide (meth.sig.returnType = rt) && !meth.locks && decide (parseMethodDescriptor y.desc = some meth.sig)) = true) : (Jvm.Cond.code y bytes mx rt).before a s = true := by
  simp only [Bool.and_eq_true, beq_iff_eq, Bool.not_eq_true', decide_eq_true_eq] at h5
  obtain ⟨⟨⟨⟨⟨g1, g2⟩, g3⟩, g4⟩, g5⟩, g6⟩ := h5
  simp [Cond.before, Cond.holds, Cond.value, h1, h2, h3, h4, g1, g2, g3, g4, g5, g6]
def isCode : Jvm.Cond → Bool
  | .code _ _ _ _ => true
  | _ => false
theorem all_split {L : List Jvm.Cond} {P : Jvm.Cond → Bool} (h1 : L.all (fun c => isCode c || P c) = true) (h2 : ∀ c ∈ L.filter isCode, P c = true) : L.all P = true := by
  refine List.all_eq_true.mpr fun c hc => ?_
  have h := List.all_eq_true.mp h1 c hc
  rcases Bool.eq_false_or_eq_true (isCode c) with hi | hi
  · exact h2 c (List.mem_filter.mpr ⟨hc, hi⟩)
  · simpa [hi] using h
set_option maxRecDepth 65536 in
theorem w_c0 : (Jvm.Cond.code x code maxLocals ret).before args0 about1 = true := code_word (m := ⟨1, 2⟩) (meth := k1m2) (c := k1c2) (by decide +kernel) rfl rfl rfl (by decide +kernel)
set_option maxRecDepth 65536 in
theorem w_c1 : (Jvm.Cond.code ({ cls := "java/lang/Math", name := "min", desc := "(II)I" } : Jvm.MethodName) jdk_29_method_69_code (2 : Nat) (Option.some Jvm.ClassFile.FieldType.int)).before args0 about1 = true := code_word (m := ⟨2, 2⟩) (meth := k2m2) (c := k2c2) (by decide +kernel) rfl rfl rfl (by decide +kernel)
set_option maxRecDepth 65536 in
theorem w_c2 : (Jvm.Cond.code ({ cls := "java/lang/Math", name := "max", desc := "(II)I" } : Jvm.MethodName) jdk_29_method_65_code (2 : Nat) (Option.some Jvm.ClassFile.FieldType.int)).before args0 about1 = true := code_word (m := ⟨2, 1⟩) (meth := k2m1) (c := k2c1) (by decide +kernel) rfl rfl rfl (by decide +kernel)
set_option maxRecDepth 65536 in
theorem w_c3 : (Jvm.Cond.code ({ cls := "com/example/strict_tariff/stricttariff/io/CsvRow", name := "<init>", desc := "()V" } : Jvm.MethodName) prog_57_method_1_code (1 : Nat) (Option.none : Option Jvm.ClassFile.FieldType)).before args0 about1 = true := code_word (m := ⟨3, 0⟩) (meth := k3m0) (c := k3c0) (by decide +kernel) rfl rfl rfl (by decide +kernel)
set_option maxRecDepth 65536 in
theorem w_c4 : (Jvm.Cond.code ({ cls := "java/lang/Object", name := "<init>", desc := "()V" } : Jvm.MethodName) object_method_1_code (1 : Nat) (Option.none : Option Jvm.ClassFile.FieldType)).before args0 about1 = true := code_word (m := ⟨0, 0⟩) (meth := k0m0) (c := k0c0) (by decide +kernel) rfl rfl rfl (by decide +kernel)
set_option maxRecDepth 65536 in
theorem w_c5 : (Jvm.Cond.code ({ cls := "com/example/strict_tariff/stricttariff/io/CsvRow", name := "setText", desc := "([C)V" } : Jvm.MethodName) prog_57_method_10_code (2 : Nat) (Option.none : Option Jvm.ClassFile.FieldType)).before args0 about1 = true := code_word (m := ⟨3, 3⟩) (meth := k3m3) (c := k3c3) (by decide +kernel) rfl rfl rfl (by decide +kernel)
set_option maxRecDepth 65536 in
theorem w_c6 : (Jvm.Cond.code ({ cls := "com/example/strict_tariff/stricttariff/io/CsvRow", name := "add", desc := "(II)V" } : Jvm.MethodName) prog_57_method_8_code (3 : Nat) (Option.none : Option Jvm.ClassFile.FieldType)).before args0 about1 = true := code_word (m := ⟨3, 2⟩) (meth := k3m2) (c := k3c2) (by decide +kernel) rfl rfl rfl (by decide +kernel)
set_option maxRecDepth 65536 in
theorem w_c7 : (Jvm.Cond.code ({ cls := "com/example/strict_tariff/stricttariff/io/CsvRow", name := "text", desc := "(I)Ljava/lang/CharSequence;" } : Jvm.MethodName) prog_57_method_4_code (2 : Nat) (Option.some (Jvm.ClassFile.FieldType.object "java/lang/CharSequence"))).before args0 about1 = true := code_word (m := ⟨3, 1⟩) (meth := k3m1) (c := k3c1) (by decide +kernel) rfl rfl rfl (by decide +kernel)
set_option maxRecDepth 65536 in
theorem w_c8 : (Jvm.Cond.code ({ cls := "java/util/Objects", name := "checkIndex", desc := "(II)I" } : Jvm.MethodName) jdk_31_method_17_code (2 : Nat) (Option.some Jvm.ClassFile.FieldType.int)).before args0 about1 = true := code_word (m := ⟨10, 1⟩) (meth := k10m1) (c := k10c1) (by decide +kernel) rfl rfl rfl (by decide +kernel)
set_option maxRecDepth 65536 in
theorem w_c9 : (Jvm.Cond.code ({ cls := "jdk/internal/util/Preconditions", name := "checkIndex", desc := "(IILjava/util/function/BiFunction;)I" } : Jvm.MethodName) jdk_41_method_11_code (3 : Nat) (Option.some Jvm.ClassFile.FieldType.int)).before args0 about1 = true := code_word (m := ⟨11, 1⟩) (meth := k11m1) (c := k11c1) (by decide +kernel) rfl rfl rfl (by decide +kernel)
set_option maxRecDepth 65536 in
theorem w_c10 : (Jvm.Cond.code ({ cls := "com/example/strict_tariff/stricttariff/io/CsvRow$Text", name := "<init>", desc := "([CII)V" } : Jvm.MethodName) prog_58_method_1_code (4 : Nat) (Option.none : Option Jvm.ClassFile.FieldType)).before args0 about1 = true := code_word (m := ⟨13, 0⟩) (meth := k13m0) (c := k13c0) (by decide +kernel) rfl rfl rfl (by decide +kernel)
set_option maxRecDepth 65536 in
theorem w_c11 : (Jvm.Cond.code ({ cls := "java/lang/Record", name := "<init>", desc := "()V" } : Jvm.MethodName) jdk_30_method_1_code (1 : Nat) (Option.none : Option Jvm.ClassFile.FieldType)).before args0 about1 = true := code_word (m := ⟨12, 0⟩) (meth := k12m0) (c := k12c0) (by decide +kernel) rfl rfl rfl (by decide +kernel)
set_option maxRecDepth 65536 in
theorem w_c12 : (Jvm.Cond.code ({ cls := "com/example/strict_tariff/stricttariff/io/CsvRow$Text", name := "length", desc := "()I" } : Jvm.MethodName) prog_58_method_2_code (1 : Nat) (Option.some Jvm.ClassFile.FieldType.int)).before args0 about1 = true := code_word (m := ⟨13, 1⟩) (meth := k13m1) (c := k13c1) (by decide +kernel) rfl rfl rfl (by decide +kernel)
set_option maxRecDepth 65536 in
theorem w_c13 : (Jvm.Cond.code ({ cls := "com/example/strict_tariff/stricttariff/io/CsvRowTextPinLaw", name := "at", desc := "(Ljava/lang/CharSequence;[CIII)Z" } : Jvm.MethodName) method_2_code (5 : Nat) (Option.some Jvm.ClassFile.FieldType.boolean)).before args0 about1 = true := code_word (m := ⟨1, 1⟩) (meth := k1m1) (c := k1c1) (by decide +kernel) rfl rfl rfl (by decide +kernel)
set_option maxRecDepth 65536 in
theorem w_c14 : (Jvm.Cond.code ({ cls := "com/example/strict_tariff/stricttariff/io/CsvRow$Text", name := "charAt", desc := "(I)C" } : Jvm.MethodName) prog_58_method_3_code (2 : Nat) (Option.some Jvm.ClassFile.FieldType.char)).before args0 about1 = true := code_word (m := ⟨13, 2⟩) (meth := k13m2) (c := k13c2) (by decide +kernel) rfl rfl rfl (by decide +kernel)
def codes1 : List Jvm.Cond := [Jvm.Cond.code x code maxLocals ret, Jvm.Cond.code ({ cls := "java/lang/Math", name := "min", desc := "(II)I" } : Jvm.MethodName) jdk_29_method_69_code (2 : Nat) (Option.some Jvm.ClassFile.FieldType.int), Jvm.Cond.code ({ cls := "java/lang/Math", name := "max", desc := "(II)I" } : Jvm.MethodName) jdk_29_method_65_code (2 : Nat) (Option.some Jvm.ClassFile.FieldType.int), Jvm.Cond.code ({ cls := "com/example/strict_tariff/stricttariff/io/CsvRow", name := "<init>", desc := "()V" } : Jvm.MethodName) prog_57_method_1_code (1 : Nat) (Option.none : Option Jvm.ClassFile.FieldType), Jvm.Cond.code ({ cls := "java/lang/Object", name := "<init>", desc := "()V" } : Jvm.MethodName) object_method_1_code (1 : Nat) (Option.none : Option Jvm.ClassFile.FieldType), Jvm.Cond.code ({ cls := "com/example/strict_tariff/stricttariff/io/CsvRow", name := "setText", desc := "([C)V" } : Jvm.MethodName) prog_57_method_10_code (2 : Nat) (Option.none : Option Jvm.ClassFile.FieldType), Jvm.Cond.code ({ cls := "com/example/strict_tariff/stricttariff/io/CsvRow", name := "add", desc := "(II)V" } : Jvm.MethodName) prog_57_method_8_code (3 : Nat) (Option.none : Option Jvm.ClassFile.FieldType), Jvm.Cond.code ({ cls := "com/example/strict_tariff/stricttariff/io/CsvRow", name := "text", desc := "(I)Ljava/lang/CharSequence;" } : Jvm.MethodName) prog_57_method_4_code (2 : Nat) (Option.some (Jvm.ClassFile.FieldType.object "java/lang/CharSequence")), Jvm.Cond.code ({ cls := "java/util/Objects", name := "checkIndex", desc := "(II)I" } : Jvm.MethodName) jdk_31_method_17_code (2 : Nat) (Option.some Jvm.ClassFile.FieldType.int), Jvm.Cond.code ({ cls := "jdk/internal/util/Preconditions", name := "checkIndex", desc := "(IILjava/util/function/BiFunction;)I" } : Jvm.MethodName) jdk_41_method_11_code (3 : Nat) (Option.some Jvm.ClassFile.FieldType.int), Jvm.Cond.code ({ cls := "com/example/strict_tariff/stricttariff/io/CsvRow$Text", name := "<init>", desc := "([CII)V" } : Jvm.MethodName) prog_58_method_1_code (4 : Nat) (Option.none : Option Jvm.ClassFile.FieldType), Jvm.Cond.code ({ cls := "java/lang/Record", name := "<init>", desc := "()V" } : Jvm.MethodName) jdk_30_method_1_code (1 : Nat) (Option.none : Option Jvm.ClassFile.FieldType), Jvm.Cond.code ({ cls := "com/example/strict_tariff/stricttariff/io/CsvRow$Text", name := "length", desc := "()I" } : Jvm.MethodName) prog_58_method_2_code (1 : Nat) (Option.some Jvm.ClassFile.FieldType.int), Jvm.Cond.code ({ cls := "com/example/strict_tariff/stricttariff/io/CsvRowTextPinLaw", name := "at", desc := "(Ljava/lang/CharSequence;[CIII)Z" } : Jvm.MethodName) method_2_code (5 : Nat) (Option.some Jvm.ClassFile.FieldType.boolean), Jvm.Cond.code ({ cls := "com/example/strict_tariff/stricttariff/io/CsvRow$Text", name := "charAt", desc := "(I)C" } : Jvm.MethodName) prog_58_method_3_code (2 : Nat) (Option.some Jvm.ClassFile.FieldType.char)]
set_option maxRecDepth 65536 in
theorem codes_eq : words1.filter isCode = codes1 := rfl
theorem w_codes : ∀ c ∈ words1.filter isCode, c.before args0 about1 = true := by
  rw [codes_eq]
  intro c hc
  simp only [codes1, List.mem_cons, List.not_mem_nil, or_false] at hc
  rcases hc with rfl | rfl | rfl | rfl | rfl | rfl | rfl | rfl | rfl | rfl | rfl | rfl | rfl | rfl | rfl
  · exact w_c0
  · exact w_c1
  · exact w_c2
  · exact w_c3
  · exact w_c4
  · exact w_c5
  · exact w_c6
  · exact w_c7
  · exact w_c8
  · exact w_c9
  · exact w_c10
  · exact w_c11
  · exact w_c12
  · exact w_c13
  · exact w_c14
set_option maxRecDepth 65536 in
theorem w_t1 : (words1.take 24).all (fun c => isCode c || c.before args0 about1) = true := by decide +kernel
set_option maxRecDepth 65536 in
theorem w_t2 : ((words1.drop 24).take 24).all (fun c => isCode c || c.before args0 about1) = true := by decide +kernel
set_option maxRecDepth 65536 in
theorem w_t3 : (((words1.drop 24).drop 24).take 24).all (fun c => isCode c || c.before args0 about1) = true := by decide +kernel
set_option maxRecDepth 65536 in
theorem w_t4 : (((words1.drop 24).drop 24).drop 24).all (fun c => isCode c || c.before args0 about1) = true := by decide +kernel
theorem w_tables : (allAtoms (Jvm.Cond.code x code maxLocals ret :: tables_1)).before args0 about1 = true := by
  rw [allAtoms_all]
  show words1.all (fun c => c.before args0 about1) = true
  refine all_split ?_ w_codes
  rw [← List.take_append_drop 24 words1, List.all_append, w_t1, ← List.take_append_drop 24 (words1.drop 24), List.all_append, w_t2, ← List.take_append_drop 24 ((words1.drop 24).drop 24), List.all_append, w_t3, w_t4]
  rfl
set_option maxRecDepth 65536 in
theorem w_case : (Jvm.Cond.and given_1 narrow_1).before args0 about1 = true := by decide +kernel
theorem w_applies : (headSpec (Jvm.Cond.code x code maxLocals ret :: tables_1) room_1).applies x e0.platform about1 = true :=
  (Spec.applies_iff w_frames).mpr ⟨w_running, w_runnable, w_alone, w_named, w_hears, w_ripe, w_room, w_tables⟩
theorem atStart : AtStart classFile x code maxLocals ret World_1 tables_1 room_1 Calls_1 rest_1 Pre_1 launch0 p0 e0 about1 theMethod args0 below0 :=
  ⟨lists_1, trivial, launch0.admits_env _ _ _, launch0.least_env, fairChoices_fair.cas, fairChoices_fair.clock, w_frames, w_args, w_heap, w_applies, trivial, trivial, w_case⟩
end start1
theorem witness_1 : WitnessClaimed_1 := ⟨start1.p0, start1.e0, start1.about1, start1.theMethod, start1.args0, start1.below0, start1.atStart⟩
end Jvm.Pilot.@@N@@
