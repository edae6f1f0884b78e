import JvmDerived
import JvmDerived.Pilot.@@N@@Statement
import JvmDerived.Pilot.@@N@@Code
set_option linter.unusedVariables false
set_option linter.unusedSimpArgs false
namespace Jvm.Pilot.@@N@@
open Jvm Jvm.ClassFile Sem Op Lib Jvm.Free Jvm.Stand Jvm.LawKit Jvm.RoadKit Bundle Jvm.Pilot.@@N@@.Jvm.D
section OwnGo
variable {p : Program} {l : Launch} {e : Env} {R : Room} {s : State} {m : MethodId} {args : Array Value} {below : List Frame} {meth : Method} {c : Code} {T : State} {locs : List Loc} {cells slots : Nat} {Q : Option Value → Heap → List Loc → Prop} {rc rs : Nat} {Ls : Array Slot} {st : List Value} {pc pc' pt : Nat} {Z : State} {a0 : Array Value} {h : Heap} {En : Outcome → State → Prop}
def Go (p : Program) (e : Env) (below : List Frame) (En : Outcome → State → Prop) (S : State) : Prop := ∃ s₂ o, Steps p.tables e below S s₂ ∧ s₂.status = .running ∧ Ended s₂ below o ∧ En o s₂
def EndN (s : State) (Q : Option Value → Heap → List Loc → Prop) (rc rs : Nat) (o : Outcome) (s₂ : State) : Prop := ∃ v L, o = .returned v ∧ Q v s₂.heap L ∧ FrameEnd s o s₂ L rc rs
def EndW (s : State) (Q : Option Value → Heap → List Loc → Prop) (rc rs : Nat) (o : Outcome) (s₂ : State) : Prop := ∃ v L, o = .returned v ∧ Q v s₂.heap L ∧ ReturnedEndW s o s₂ L rc rs
theorem own_via {S S' : State} (q : ∀ t, Steps p.tables e below S' t → Steps p.tables e below S t) (k : Go p e below En S') : Go p e below En S := by
  obtain ⟨t, o, h1, h2⟩ := k
  exact ⟨t, o, q _ h1, h2⟩
def Dec (b : ByteArray) (pc : Nat) (i : Instr) (n pc' : Nat) : Prop := decode b pc = .ok (i, n) ∧ pc + n = pc'
def DecB (b : ByteArray) (pc : Nat) (i : Instr) (o : Int) (pF pT : Nat) : Prop := decode b pc = .ok (i, 3) ∧ pc + 3 = pF ∧ 0 ≤ (pc : Int) + o ∧ ((pc : Int) + o).toNat = pT
theorem dc {b : ByteArray} {i : Instr} {n : Nat} (q : c.code = b) (k : Dec b pc i n pc') : Dec c.code pc i n pc' := q ▸ k
theorem db {b : ByteArray} {i : Instr} {o : Int} (q : c.code = b) (k : DecB b pc i o pc' pt) : DecB c.code pc i o pc' pt := q ▸ k
theorem go_iadd (X : Stand p l e R s m args below meth c T locs cells slots) (hx : p.tables.exec = Jvm.exec) {x y : Int32} (hd : Dec c.code pc (.iadd) 1 pc') (k : Go p e below En (T.setTop (mkF m pc' Ls (.int (x + y) :: st)))) : Go p e below En (T.setTop (mkF m pc Ls (.int y :: .int x :: st))) := by
  obtain ⟨hd, rfl⟩ := hd
  exact own_via (fun t => XS.iadd X.here hx rfl hd rfl) k
theorem go_isub (X : Stand p l e R s m args below meth c T locs cells slots) (hx : p.tables.exec = Jvm.exec) {x y : Int32} (hd : Dec c.code pc (.isub) 1 pc') (k : Go p e below En (T.setTop (mkF m pc' Ls (.int (x - y) :: st)))) : Go p e below En (T.setTop (mkF m pc Ls (.int y :: .int x :: st))) := by
  obtain ⟨hd, rfl⟩ := hd
  exact own_via (fun t => XS.isub X.here hx rfl hd rfl) k
theorem go_imul (X : Stand p l e R s m args below meth c T locs cells slots) (hx : p.tables.exec = Jvm.exec) {x y : Int32} (hd : Dec c.code pc (.imul) 1 pc') (k : Go p e below En (T.setTop (mkF m pc' Ls (.int (x * y) :: st)))) : Go p e below En (T.setTop (mkF m pc Ls (.int y :: .int x :: st))) := by
  obtain ⟨hd, rfl⟩ := hd
  exact own_via (fun t => XS.imul X.here hx rfl hd rfl) k
theorem go_iand (X : Stand p l e R s m args below meth c T locs cells slots) (hx : p.tables.exec = Jvm.exec) {x y : Int32} (hd : Dec c.code pc (.iand) 1 pc') (k : Go p e below En (T.setTop (mkF m pc' Ls (.int (x &&& y) :: st)))) : Go p e below En (T.setTop (mkF m pc Ls (.int y :: .int x :: st))) := by
  obtain ⟨hd, rfl⟩ := hd
  exact own_via (fun t => XS.iand X.here hx rfl hd rfl) k
theorem go_ior (X : Stand p l e R s m args below meth c T locs cells slots) (hx : p.tables.exec = Jvm.exec) {x y : Int32} (hd : Dec c.code pc (.ior) 1 pc') (k : Go p e below En (T.setTop (mkF m pc' Ls (.int (x ||| y) :: st)))) : Go p e below En (T.setTop (mkF m pc Ls (.int y :: .int x :: st))) := by
  obtain ⟨hd, rfl⟩ := hd
  exact own_via (fun t => XT.ior X.here hx rfl hd rfl) k
theorem go_ixor (X : Stand p l e R s m args below meth c T locs cells slots) (hx : p.tables.exec = Jvm.exec) {x y : Int32} (hd : Dec c.code pc (.ixor) 1 pc') (k : Go p e below En (T.setTop (mkF m pc' Ls (.int (x ^^^ y) :: st)))) : Go p e below En (T.setTop (mkF m pc Ls (.int y :: .int x :: st))) := by
  obtain ⟨hd, rfl⟩ := hd
  exact own_via (fun t => XT.ixor X.here hx rfl hd rfl) k
theorem go_ishl (X : Stand p l e R s m args below meth c T locs cells slots) (hx : p.tables.exec = Jvm.exec) {x y : Int32} (hd : Dec c.code pc (.ishl) 1 pc') (k : Go p e below En (T.setTop (mkF m pc' Ls (.int (x <<< (y &&& 31)) :: st)))) : Go p e below En (T.setTop (mkF m pc Ls (.int y :: .int x :: st))) := by
  obtain ⟨hd, rfl⟩ := hd
  exact own_via (fun t => XT.ishl X.here hx rfl hd rfl) k
theorem go_ishr (X : Stand p l e R s m args below meth c T locs cells slots) (hx : p.tables.exec = Jvm.exec) {x y : Int32} (hd : Dec c.code pc (.ishr) 1 pc') (k : Go p e below En (T.setTop (mkF m pc' Ls (.int (x >>> (y &&& 31)) :: st)))) : Go p e below En (T.setTop (mkF m pc Ls (.int y :: .int x :: st))) := by
  obtain ⟨hd, rfl⟩ := hd
  exact own_via (fun t => XT.ishr X.here hx rfl hd rfl) k
theorem go_iushr (X : Stand p l e R s m args below meth c T locs cells slots) (hx : p.tables.exec = Jvm.exec) {x y : Int32} (hd : Dec c.code pc (.iushr) 1 pc') (k : Go p e below En (T.setTop (mkF m pc' Ls (.int (XT.ushr x y) :: st)))) : Go p e below En (T.setTop (mkF m pc Ls (.int y :: .int x :: st))) := by
  obtain ⟨hd, rfl⟩ := hd
  exact own_via (fun t => XT.iushr X.here hx rfl hd rfl) k
theorem go_idiv (X : Stand p l e R s m args below meth c T locs cells slots) (hx : p.tables.exec = Jvm.exec) {x y : Int32} (hd : Dec c.code pc (.idiv) 1 pc') (hy : y ≠ 0) (k : Go p e below En (T.setTop (mkF m pc' Ls (.int (x / y) :: st)))) : Go p e below En (T.setTop (mkF m pc Ls (.int y :: .int x :: st))) := by
  obtain ⟨hd, rfl⟩ := hd
  exact own_via (fun t => XS.idiv X.here hx rfl hd rfl hy) k
theorem go_irem (X : Stand p l e R s m args below meth c T locs cells slots) (hx : p.tables.exec = Jvm.exec) {x y : Int32} (hd : Dec c.code pc (.irem) 1 pc') (hy : y ≠ 0) (k : Go p e below En (T.setTop (mkF m pc' Ls (.int (x % y) :: st)))) : Go p e below En (T.setTop (mkF m pc Ls (.int y :: .int x :: st))) := by
  obtain ⟨hd, rfl⟩ := hd
  exact own_via (fun t => iremM X hx rfl hd rfl hy) k
theorem go_ineg (X : Stand p l e R s m args below meth c T locs cells slots) (hx : p.tables.exec = Jvm.exec) {x : Int32} (hd : Dec c.code pc (.ineg) 1 pc') (k : Go p e below En (T.setTop (mkF m pc' Ls (.int (-x) :: st)))) : Go p e below En (T.setTop (mkF m pc Ls (.int x :: st))) := by
  obtain ⟨hd, rfl⟩ := hd
  exact own_via (fun t => XS.ineg X.here hx rfl hd rfl) k
theorem go_ladd (X : Stand p l e R s m args below meth c T locs cells slots) (hx : p.tables.exec = Jvm.exec) {x y : Int64} (hd : Dec c.code pc (.ladd) 1 pc') (k : Go p e below En (T.setTop (mkF m pc' Ls (.long (x + y) :: st)))) : Go p e below En (T.setTop (mkF m pc Ls (.long y :: .long x :: st))) := by
  obtain ⟨hd, rfl⟩ := hd
  exact own_via (fun t => XT.ladd X.here hx rfl hd rfl) k
theorem go_lsub (X : Stand p l e R s m args below meth c T locs cells slots) (hx : p.tables.exec = Jvm.exec) {x y : Int64} (hd : Dec c.code pc (.lsub) 1 pc') (k : Go p e below En (T.setTop (mkF m pc' Ls (.long (x - y) :: st)))) : Go p e below En (T.setTop (mkF m pc Ls (.long y :: .long x :: st))) := by
  obtain ⟨hd, rfl⟩ := hd
  exact own_via (fun t => XT.lsub X.here hx rfl hd rfl) k
theorem go_lmul (X : Stand p l e R s m args below meth c T locs cells slots) (hx : p.tables.exec = Jvm.exec) {x y : Int64} (hd : Dec c.code pc (.lmul) 1 pc') (k : Go p e below En (T.setTop (mkF m pc' Ls (.long (x * y) :: st)))) : Go p e below En (T.setTop (mkF m pc Ls (.long y :: .long x :: st))) := by
  obtain ⟨hd, rfl⟩ := hd
  exact own_via (fun t => XT.lmul X.here hx rfl hd rfl) k
theorem go_land (X : Stand p l e R s m args below meth c T locs cells slots) (hx : p.tables.exec = Jvm.exec) {x y : Int64} (hd : Dec c.code pc (.land) 1 pc') (k : Go p e below En (T.setTop (mkF m pc' Ls (.long (x &&& y) :: st)))) : Go p e below En (T.setTop (mkF m pc Ls (.long y :: .long x :: st))) := by
  obtain ⟨hd, rfl⟩ := hd
  exact own_via (fun t => XT.land X.here hx rfl hd rfl) k
theorem go_lor (X : Stand p l e R s m args below meth c T locs cells slots) (hx : p.tables.exec = Jvm.exec) {x y : Int64} (hd : Dec c.code pc (.lor) 1 pc') (k : Go p e below En (T.setTop (mkF m pc' Ls (.long (x ||| y) :: st)))) : Go p e below En (T.setTop (mkF m pc Ls (.long y :: .long x :: st))) := by
  obtain ⟨hd, rfl⟩ := hd
  exact own_via (fun t => XT.lor X.here hx rfl hd rfl) k
theorem go_lxor (X : Stand p l e R s m args below meth c T locs cells slots) (hx : p.tables.exec = Jvm.exec) {x y : Int64} (hd : Dec c.code pc (.lxor) 1 pc') (k : Go p e below En (T.setTop (mkF m pc' Ls (.long (x ^^^ y) :: st)))) : Go p e below En (T.setTop (mkF m pc Ls (.long y :: .long x :: st))) := by
  obtain ⟨hd, rfl⟩ := hd
  exact own_via (fun t => XT.lxor X.here hx rfl hd rfl) k
theorem go_lshl (X : Stand p l e R s m args below meth c T locs cells slots) (hx : p.tables.exec = Jvm.exec) {x : Int64} {y : Int32} (hd : Dec c.code pc (.lshl) 1 pc') (k : Go p e below En (T.setTop (mkF m pc' Ls (.long (x <<< (y.toInt64 &&& 63)) :: st)))) : Go p e below En (T.setTop (mkF m pc Ls (.int y :: .long x :: st))) := by
  obtain ⟨hd, rfl⟩ := hd
  exact own_via (fun t => XT.lshl X.here hx rfl hd rfl) k
theorem go_lshr (X : Stand p l e R s m args below meth c T locs cells slots) (hx : p.tables.exec = Jvm.exec) {x : Int64} {y : Int32} (hd : Dec c.code pc (.lshr) 1 pc') (k : Go p e below En (T.setTop (mkF m pc' Ls (.long (x >>> (y.toInt64 &&& 63)) :: st)))) : Go p e below En (T.setTop (mkF m pc Ls (.int y :: .long x :: st))) := by
  obtain ⟨hd, rfl⟩ := hd
  exact own_via (fun t => XT.lshr X.here hx rfl hd rfl) k
theorem go_lushr (X : Stand p l e R s m args below meth c T locs cells slots) (hx : p.tables.exec = Jvm.exec) {x : Int64} {y : Int32} (hd : Dec c.code pc (.lushr) 1 pc') (k : Go p e below En (T.setTop (mkF m pc' Ls (.long (XT.ushrL x y) :: st)))) : Go p e below En (T.setTop (mkF m pc Ls (.int y :: .long x :: st))) := by
  obtain ⟨hd, rfl⟩ := hd
  exact own_via (fun t => XT.lushr X.here hx rfl hd rfl) k
theorem go_ldiv (X : Stand p l e R s m args below meth c T locs cells slots) (hx : p.tables.exec = Jvm.exec) {x y : Int64} (hd : Dec c.code pc (.ldiv) 1 pc') (hy : y ≠ 0) (k : Go p e below En (T.setTop (mkF m pc' Ls (.long (x / y) :: st)))) : Go p e below En (T.setTop (mkF m pc Ls (.long y :: .long x :: st))) := by
  obtain ⟨hd, rfl⟩ := hd
  exact own_via (fun t => XT.ldiv X.here hx rfl hd rfl hy) k
theorem go_lrem (X : Stand p l e R s m args below meth c T locs cells slots) (hx : p.tables.exec = Jvm.exec) {x y : Int64} (hd : Dec c.code pc (.lrem) 1 pc') (hy : y ≠ 0) (k : Go p e below En (T.setTop (mkF m pc' Ls (.long (x - (x / y) * y) :: st)))) : Go p e below En (T.setTop (mkF m pc Ls (.long y :: .long x :: st))) := by
  obtain ⟨hd, rfl⟩ := hd
  exact own_via (fun t => XT.lrem X.here hx rfl hd rfl hy) k
theorem go_lneg (X : Stand p l e R s m args below meth c T locs cells slots) (hx : p.tables.exec = Jvm.exec) {x : Int64} (hd : Dec c.code pc (.lneg) 1 pc') (k : Go p e below En (T.setTop (mkF m pc' Ls (.long (-x) :: st)))) : Go p e below En (T.setTop (mkF m pc Ls (.long x :: st))) := by
  obtain ⟨hd, rfl⟩ := hd
  exact own_via (fun t => XT.lneg X.here hx rfl hd rfl) k
theorem go_lcmp (X : Stand p l e R s m args below meth c T locs cells slots) (hx : p.tables.exec = Jvm.exec) {x y : Int64} (hd : Dec c.code pc (.lcmp) 1 pc') (k : Go p e below En (T.setTop (mkF m pc' Ls (.int (XT.cmpL x y) :: st)))) : Go p e below En (T.setTop (mkF m pc Ls (.long y :: .long x :: st))) := by
  obtain ⟨hd, rfl⟩ := hd
  exact own_via (fun t => XT.lcmp X.here hx rfl hd rfl) k
theorem go_i2l (X : Stand p l e R s m args below meth c T locs cells slots) (hx : p.tables.exec = Jvm.exec) {x : Int32} (hd : Dec c.code pc (.i2l) 1 pc') (k : Go p e below En (T.setTop (mkF m pc' Ls (.long x.toInt64 :: st)))) : Go p e below En (T.setTop (mkF m pc Ls (.int x :: st))) := by
  obtain ⟨hd, rfl⟩ := hd
  exact own_via (fun t => XT.i2l X.here hx rfl hd rfl) k
theorem go_l2i (X : Stand p l e R s m args below meth c T locs cells slots) (hx : p.tables.exec = Jvm.exec) {x : Int64} (hd : Dec c.code pc (.l2i) 1 pc') (k : Go p e below En (T.setTop (mkF m pc' Ls (.int x.toInt32 :: st)))) : Go p e below En (T.setTop (mkF m pc Ls (.long x :: st))) := by
  obtain ⟨hd, rfl⟩ := hd
  exact own_via (fun t => XT.l2i X.here hx rfl hd rfl) k
theorem go_i2b (X : Stand p l e R s m args below meth c T locs cells slots) (hx : p.tables.exec = Jvm.exec) {x : Int32} (hd : Dec c.code pc (.i2b) 1 pc') (k : Go p e below En (T.setTop (mkF m pc' Ls (.int x.toInt8.toInt32 :: st)))) : Go p e below En (T.setTop (mkF m pc Ls (.int x :: st))) := by
  obtain ⟨hd, rfl⟩ := hd
  exact own_via (fun t => XT.i2b X.here hx rfl hd rfl) k
theorem go_i2c (X : Stand p l e R s m args below meth c T locs cells slots) (hx : p.tables.exec = Jvm.exec) {x : Int32} (hd : Dec c.code pc (.i2c) 1 pc') (k : Go p e below En (T.setTop (mkF m pc' Ls (.int x.toUInt32.toUInt16.toUInt32.toInt32 :: st)))) : Go p e below En (T.setTop (mkF m pc Ls (.int x :: st))) := by
  obtain ⟨hd, rfl⟩ := hd
  exact own_via (fun t => XT.i2c X.here hx rfl hd rfl) k
theorem go_i2s (X : Stand p l e R s m args below meth c T locs cells slots) (hx : p.tables.exec = Jvm.exec) {x : Int32} (hd : Dec c.code pc (.i2s) 1 pc') (k : Go p e below En (T.setTop (mkF m pc' Ls (.int x.toInt16.toInt32 :: st)))) : Go p e below En (T.setTop (mkF m pc Ls (.int x :: st))) := by
  obtain ⟨hd, rfl⟩ := hd
  exact own_via (fun t => XT.i2s X.here hx rfl hd rfl) k
theorem go_iloadn (X : Stand p l e R s m args below meth c T locs cells slots) (hx : p.tables.exec = Jvm.exec) {k : Fin 4} {v : Int32} (hd : Dec c.code pc (.iload_n k) 1 pc') (hl : Ls[k.val]? = some (.val (.int v))) (k : Go p e below En (T.setTop (mkF m pc' Ls (.int v :: st)))) : Go p e below En (T.setTop (mkF m pc Ls st)) := by
  obtain ⟨hd, rfl⟩ := hd
  exact own_via (fun t => XS.iloadN X.here hx rfl hd hl) k
theorem go_iload (X : Stand p l e R s m args below meth c T locs cells slots) (hx : p.tables.exec = Jvm.exec) {k : Nat} {v : Int32} (hd : Dec c.code pc (.iload k) 2 pc') (hl : Ls[k]? = some (.val (.int v))) (k : Go p e below En (T.setTop (mkF m pc' Ls (.int v :: st)))) : Go p e below En (T.setTop (mkF m pc Ls st)) := by
  obtain ⟨hd, rfl⟩ := hd
  exact own_via (fun t => XS.iload X.here hx rfl hd hl) k
theorem go_lloadn (X : Stand p l e R s m args below meth c T locs cells slots) (hx : p.tables.exec = Jvm.exec) {k : Fin 4} {v : Int64} (hd : Dec c.code pc (.lload_n k) 1 pc') (hl : Ls[k.val]? = some (.val (.long v))) (k : Go p e below En (T.setTop (mkF m pc' Ls (.long v :: st)))) : Go p e below En (T.setTop (mkF m pc Ls st)) := by
  obtain ⟨hd, rfl⟩ := hd
  exact own_via (fun t => XT.lloadN X.here hx rfl hd hl) k
theorem go_lload (X : Stand p l e R s m args below meth c T locs cells slots) (hx : p.tables.exec = Jvm.exec) {k : Nat} {v : Int64} (hd : Dec c.code pc (.lload k) 2 pc') (hl : Ls[k]? = some (.val (.long v))) (k : Go p e below En (T.setTop (mkF m pc' Ls (.long v :: st)))) : Go p e below En (T.setTop (mkF m pc Ls st)) := by
  obtain ⟨hd, rfl⟩ := hd
  exact own_via (fun t => XT.lload X.here hx rfl hd hl) k
theorem go_aloadn (X : Stand p l e R s m args below meth c T locs cells slots) (hx : p.tables.exec = Jvm.exec) {k : Fin 4} {v : Value} (hd : Dec c.code pc (.aload_n k) 1 pc') (hl : Ls[k.val]? = some (.val v)) (hv : v.isRef = true) (k : Go p e below En (T.setTop (mkF m pc' Ls (v :: st)))) : Go p e below En (T.setTop (mkF m pc Ls st)) := by
  obtain ⟨hd, rfl⟩ := hd
  exact own_via (fun t => XS.aloadN X.here hx rfl hd hl hv) k
theorem go_aload (X : Stand p l e R s m args below meth c T locs cells slots) (hx : p.tables.exec = Jvm.exec) {k : Nat} {v : Value} (hd : Dec c.code pc (.aload k) 2 pc') (hl : Ls[k]? = some (.val v)) (hv : v.isRef = true) (k : Go p e below En (T.setTop (mkF m pc' Ls (v :: st)))) : Go p e below En (T.setTop (mkF m pc Ls st)) := by
  obtain ⟨hd, rfl⟩ := hd
  exact own_via (fun t => XS.aload X.here hx rfl hd hl hv) k
theorem go_istoren (X : Stand p l e R s m args below meth c T locs cells slots) (hx : p.tables.exec = Jvm.exec) {k : Fin 4} {x : Int32} (Ls' : Array Slot) (hd : Dec c.code pc (.istore_n k) 1 pc') (hl : storeLocals Ls k.val (.int x) = some Ls') (k : Go p e below En (T.setTop (mkF m pc' Ls' st))) : Go p e below En (T.setTop (mkF m pc Ls (.int x :: st))) := by
  obtain ⟨hd, rfl⟩ := hd
  exact own_via (fun t => XS.istoreN X.here hx rfl hd rfl hl) k
theorem go_istore (X : Stand p l e R s m args below meth c T locs cells slots) (hx : p.tables.exec = Jvm.exec) {k : Nat} {x : Int32} (Ls' : Array Slot) (hd : Dec c.code pc (.istore k) 2 pc') (hl : storeLocals Ls k (.int x) = some Ls') (k : Go p e below En (T.setTop (mkF m pc' Ls' st))) : Go p e below En (T.setTop (mkF m pc Ls (.int x :: st))) := by
  obtain ⟨hd, rfl⟩ := hd
  exact own_via (fun t => XS.istore X.here hx rfl hd rfl hl) k
theorem go_lstoren (X : Stand p l e R s m args below meth c T locs cells slots) (hx : p.tables.exec = Jvm.exec) {k : Fin 4} {x : Int64} (Ls' : Array Slot) (hd : Dec c.code pc (.lstore_n k) 1 pc') (hl : storeLocals Ls k.val (.long x) = some Ls') (k : Go p e below En (T.setTop (mkF m pc' Ls' st))) : Go p e below En (T.setTop (mkF m pc Ls (.long x :: st))) := by
  obtain ⟨hd, rfl⟩ := hd
  exact own_via (fun t => XT.lstoreN X.here hx rfl hd rfl hl) k
theorem go_lstore (X : Stand p l e R s m args below meth c T locs cells slots) (hx : p.tables.exec = Jvm.exec) {k : Nat} {x : Int64} (Ls' : Array Slot) (hd : Dec c.code pc (.lstore k) 2 pc') (hl : storeLocals Ls k (.long x) = some Ls') (k : Go p e below En (T.setTop (mkF m pc' Ls' st))) : Go p e below En (T.setTop (mkF m pc Ls (.long x :: st))) := by
  obtain ⟨hd, rfl⟩ := hd
  exact own_via (fun t => XT.lstore X.here hx rfl hd rfl hl) k
theorem go_astoren (X : Stand p l e R s m args below meth c T locs cells slots) (hx : p.tables.exec = Jvm.exec) {k : Fin 4} {x : Value} (Ls' : Array Slot) (hd : Dec c.code pc (.astore_n k) 1 pc') (hv : x.isRef = true) (hl : storeLocals Ls k.val (x) = some Ls') (k : Go p e below En (T.setTop (mkF m pc' Ls' st))) : Go p e below En (T.setTop (mkF m pc Ls (x :: st))) := by
  obtain ⟨hd, rfl⟩ := hd
  exact own_via (fun t => XS.astoreN X.here hx rfl hd rfl hv hl) k
theorem go_astore (X : Stand p l e R s m args below meth c T locs cells slots) (hx : p.tables.exec = Jvm.exec) {k : Nat} {x : Value} (Ls' : Array Slot) (hd : Dec c.code pc (.astore k) 2 pc') (hv : x.isRef = true) (hl : storeLocals Ls k (x) = some Ls') (k : Go p e below En (T.setTop (mkF m pc' Ls' st))) : Go p e below En (T.setTop (mkF m pc Ls (x :: st))) := by
  obtain ⟨hd, rfl⟩ := hd
  exact own_via (fun t => XS.astore X.here hx rfl hd rfl hv hl) k
theorem go_iconst (X : Stand p l e R s m args below meth c T locs cells slots) (hx : p.tables.exec = Jvm.exec) {i : Int} (v : Int32) (hd : Dec c.code pc (.iconst i) 1 pc') (hv : Int32.ofInt i = v) (k : Go p e below En (T.setTop (mkF m pc' Ls (.int v :: st)))) : Go p e below En (T.setTop (mkF m pc Ls st)) := by
  obtain ⟨hd, rfl⟩ := hd
  exact own_via (fun t => (fun q => XS.iconst X.here hx rfl hd (by rw [hv]; exact q))) k
theorem go_bipush (X : Stand p l e R s m args below meth c T locs cells slots) (hx : p.tables.exec = Jvm.exec) {i : Int} (v : Int32) (hd : Dec c.code pc (.bipush i) 2 pc') (hv : (Int8.ofInt i).toInt32 = v) (k : Go p e below En (T.setTop (mkF m pc' Ls (.int v :: st)))) : Go p e below En (T.setTop (mkF m pc Ls st)) := by
  obtain ⟨hd, rfl⟩ := hd
  exact own_via (fun t => (fun q => XS.bipush X.here hx rfl hd (by rw [hv]; exact q))) k
theorem go_sipush (X : Stand p l e R s m args below meth c T locs cells slots) (hx : p.tables.exec = Jvm.exec) {i : Int} (v : Int32) (hd : Dec c.code pc (.sipush i) 3 pc') (hv : (Int16.ofInt i).toInt32 = v) (k : Go p e below En (T.setTop (mkF m pc' Ls (.int v :: st)))) : Go p e below En (T.setTop (mkF m pc Ls st)) := by
  obtain ⟨hd, rfl⟩ := hd
  exact own_via (fun t => (fun q => XS.sipush X.here hx rfl hd (by rw [hv]; exact q))) k
theorem go_lconst (X : Stand p l e R s m args below meth c T locs cells slots) (hx : p.tables.exec = Jvm.exec) {k : Fin 2} (v : Int64) (hd : Dec c.code pc (.lconst k) 1 pc') (hv : Int64.ofNat k = v) (k : Go p e below En (T.setTop (mkF m pc' Ls (.long v :: st)))) : Go p e below En (T.setTop (mkF m pc Ls st)) := by
  obtain ⟨hd, rfl⟩ := hd
  exact own_via (fun t => (fun q => XT.lconst X.here hx rfl hd (by rw [hv]; exact q))) k
theorem go_aconstnull (X : Stand p l e R s m args below meth c T locs cells slots) (hx : p.tables.exec = Jvm.exec)  (hd : Dec c.code pc (.aconst_null) 1 pc') (k : Go p e below En (T.setTop (mkF m pc' Ls (.null :: st)))) : Go p e below En (T.setTop (mkF m pc Ls st)) := by
  obtain ⟨hd, rfl⟩ := hd
  exact own_via (fun t => XS.aconstNull X.here hx rfl hd) k
theorem go_ldc (X : Stand p l e R s m args below meth c T locs cells slots) (hx : p.tables.exec = Jvm.exec) (hZ : Z.Warmed39 s.vm) {own : String} {index : Nat} {v : Int32} (hown : s.vm.findClass own = some m.cls) (w : (Jvm.Cond.constant own index v).before a0 Z = true) (hd : Dec c.code pc (.ldc index) 2 pc') (k : Go p e below En (T.setTop (mkF m pc' Ls (.int v :: st)))) : Go p e below En (T.setTop (mkF m pc Ls st)) := by
  obtain ⟨hd, rfl⟩ := hd
  exact own_via (fun t => X.ldcInt hx hown (mv hZ w) (g := mkF m pc Ls st) rfl hd t) k
theorem go_ldc2 (X : Stand p l e R s m args below meth c T locs cells slots) (hx : p.tables.exec = Jvm.exec) (hZ : Z.Warmed39 s.vm) {own : String} {index : Nat} {v : Int64} (hown : s.vm.findClass own = some m.cls) (w : (Jvm.Cond.constantLong own index v).before a0 Z = true) (hd : Dec c.code pc (.ldc2_w index) 3 pc') (k : Go p e below En (T.setTop (mkF m pc' Ls (.long v :: st)))) : Go p e below En (T.setTop (mkF m pc Ls st)) := by
  obtain ⟨hd, rfl⟩ := hd
  exact own_via (fun t => X.ldc2Long hx hown (mv hZ w) (g := mkF m pc Ls st) rfl hd t) k
theorem go_dup (X : Stand p l e R s m args below meth c T locs cells slots) (hx : p.tables.exec = Jvm.exec) {v : Value} (hd : Dec c.code pc (.dup) 1 pc') (hc : v.category = 1) (k : Go p e below En (T.setTop (mkF m pc' Ls (v :: v :: st)))) : Go p e below En (T.setTop (mkF m pc Ls (v :: st))) := by
  obtain ⟨hd, rfl⟩ := hd
  exact own_via (fun t => XS.dup X.here hx rfl hd rfl hc) k
theorem go_pop (X : Stand p l e R s m args below meth c T locs cells slots) (hx : p.tables.exec = Jvm.exec) {v : Value} (hd : Dec c.code pc (.pop) 1 pc') (hc : v.category = 1) (k : Go p e below En (T.setTop (mkF m pc' Ls st))) : Go p e below En (T.setTop (mkF m pc Ls (v :: st))) := by
  obtain ⟨hd, rfl⟩ := hd
  exact own_via (fun t => XT.pop X.here hx rfl hd rfl hc) k
theorem go_dupx1 (X : Stand p l e R s m args below meth c T locs cells slots) (hx : p.tables.exec = Jvm.exec) {v v' : Value} (hd : Dec c.code pc (.dup_x1) 1 pc') (hc : v.category = 1) (hc' : v'.category = 1) (k : Go p e below En (T.setTop (mkF m pc' Ls (v :: v' :: v :: st)))) : Go p e below En (T.setTop (mkF m pc Ls (v :: v' :: st))) := by
  obtain ⟨hd, rfl⟩ := hd
  exact own_via (fun t => XT.dupX1 X.here hx rfl hd rfl hc hc') k
theorem go_dup2L (X : Stand p l e R s m args below meth c T locs cells slots) (hx : p.tables.exec = Jvm.exec) {x : Int64} (hd : Dec c.code pc (.dup2) 1 pc') (k : Go p e below En (T.setTop (mkF m pc' Ls (.long x :: .long x :: st)))) : Go p e below En (T.setTop (mkF m pc Ls (.long x :: st))) := by
  obtain ⟨hd, rfl⟩ := hd
  exact own_via (fun t => XT.dup2L X.here hx rfl hd rfl) k
theorem go_dup2 (X : Stand p l e R s m args below meth c T locs cells slots) (hx : p.tables.exec = Jvm.exec) {v v' : Value} (hd : Dec c.code pc (.dup2) 1 pc') (hc : v.category = 1) (hc' : v'.category = 1) (k : Go p e below En (T.setTop (mkF m pc' Ls (v :: v' :: v :: v' :: st)))) : Go p e below En (T.setTop (mkF m pc Ls (v :: v' :: st))) := by
  obtain ⟨hd, rfl⟩ := hd
  exact own_via (fun t => XT.dup2 X.here hx rfl hd rfl hc hc') k
theorem go_iinc (X : Stand p l e R s m args below meth c T locs cells slots) (hx : p.tables.exec = Jvm.exec) {k : Nat} {cst : Int} {x : Int32} (Ls' : Array Slot) (hd : Dec c.code pc (.iinc k cst) 3 pc') (hl : Ls[k]? = some (.val (.int x))) (hl' : storeLocals Ls k (.int (x + Int32.ofInt cst)) = some Ls') (k : Go p e below En (T.setTop (mkF m pc' Ls' st))) : Go p e below En (T.setTop (mkF m pc Ls st)) := by
  obtain ⟨hd, rfl⟩ := hd
  exact own_via (fun t => XS.iinc X.here hx rfl hd hl hl') k
theorem go_goto (X : Stand p l e R s m args below meth c T locs cells slots) (hx : p.tables.exec = Jvm.exec) {o : Int} (hd : DecB c.code pc (.goto o) o pc' pt) (k : Go p e below En (T.setTop (mkF m pt Ls st))) : Go p e below En (T.setTop (mkF m pc Ls st)) := own_via (fun t => XS.goto X.here hx rfl rfl hd.1 hd.2.2.1 hd.2.2.2) k
theorem go_icmp (X : Stand p l e R s m args below meth c T locs cells slots) (hx : p.tables.exec = Jvm.exec) {cd : ClassFile.Cond} {x y : Int32} {o : Int} (hd : DecB c.code pc (.if_icmp cd o) o pc' pt) (kT : if_icmp.holds cd x y = true → Go p e below En (T.setTop (mkF m pt Ls st))) (kF : if_icmp.holds cd x y = false → Go p e below En (T.setTop (mkF m pc' Ls st))) : Go p e below En (T.setTop (mkF m pc Ls (.int y :: .int x :: st))) := by
  obtain ⟨h1, rfl, h3, h4⟩ := hd
  cases q : if_icmp.holds cd x y
  · exact own_via (fun t => XS.icmpNo X.here hx rfl h1 rfl q) (kF q)
  · exact own_via (fun t => XS.icmpYes X.here hx rfl rfl h1 rfl q h3 h4) (kT q)
theorem go_ifc (X : Stand p l e R s m args below meth c T locs cells slots) (hx : p.tables.exec = Jvm.exec) {cd : ClassFile.Cond} {x : Int32} {o : Int} (hd : DecB c.code pc (.ifCond cd o) o pc' pt) (kT : if_icmp.holds cd x 0 = true → Go p e below En (T.setTop (mkF m pt Ls st))) (kF : if_icmp.holds cd x 0 = false → Go p e below En (T.setTop (mkF m pc' Ls st))) : Go p e below En (T.setTop (mkF m pc Ls (.int x :: st))) := by
  obtain ⟨h1, rfl, h3, h4⟩ := hd
  cases q : if_icmp.holds cd x 0
  · exact own_via (fun t => XS.ifNo X.here hx rfl h1 rfl ((if0 cd x).trans q)) (kF q)
  · exact own_via (fun t => XS.ifYes X.here hx rfl rfl h1 rfl ((if0 cd x).trans q) h3 h4) (kT q)
theorem go_icmp_eq (X : Stand p l e R s m args below meth c T locs cells slots) (hx : p.tables.exec = Jvm.exec) {x y : Int32} {o : Int} (hd : DecB c.code pc (.if_icmp .eq o) o pc' pt) (kT : x = y → Go p e below En (T.setTop (mkF m pt Ls st))) (kF : ¬ x = y → Go p e below En (T.setTop (mkF m pc' Ls st))) : Go p e below En (T.setTop (mkF m pc Ls (.int y :: .int x :: st))) := by
  by_cases q : x = y
  · exact go_icmp X hx hd (fun _ => kT q) (fun r => absurd r (by rw [(teq q).1]; decide))
  · exact go_icmp X hx hd (fun r => absurd r (by rw [(feq q).1]; decide)) (fun _ => kF q)
theorem go_ifc_eq (X : Stand p l e R s m args below meth c T locs cells slots) (hx : p.tables.exec = Jvm.exec) {x : Int32} {o : Int} (hd : DecB c.code pc (.ifCond .eq o) o pc' pt) (kT : x = 0 → Go p e below En (T.setTop (mkF m pt Ls st))) (kF : ¬ x = 0 → Go p e below En (T.setTop (mkF m pc' Ls st))) : Go p e below En (T.setTop (mkF m pc Ls (.int x :: st))) := by
  by_cases q : x = 0
  · exact go_ifc X hx hd (fun _ => kT q) (fun r => absurd r (by rw [(teq q).1]; decide))
  · exact go_ifc X hx hd (fun r => absurd r (by rw [(feq q).1]; decide)) (fun _ => kF q)
theorem go_icmp_ne (X : Stand p l e R s m args below meth c T locs cells slots) (hx : p.tables.exec = Jvm.exec) {x y : Int32} {o : Int} (hd : DecB c.code pc (.if_icmp .ne o) o pc' pt) (kT : ¬ x = y → Go p e below En (T.setTop (mkF m pt Ls st))) (kF : x = y → Go p e below En (T.setTop (mkF m pc' Ls st))) : Go p e below En (T.setTop (mkF m pc Ls (.int y :: .int x :: st))) := by
  by_cases q : x = y
  · exact go_icmp X hx hd (fun r => absurd r (by rw [(teq q).2]; decide)) (fun _ => kF q)
  · exact go_icmp X hx hd (fun _ => kT q) (fun r => absurd r (by rw [(feq q).2]; decide))
theorem go_ifc_ne (X : Stand p l e R s m args below meth c T locs cells slots) (hx : p.tables.exec = Jvm.exec) {x : Int32} {o : Int} (hd : DecB c.code pc (.ifCond .ne o) o pc' pt) (kT : ¬ x = 0 → Go p e below En (T.setTop (mkF m pt Ls st))) (kF : x = 0 → Go p e below En (T.setTop (mkF m pc' Ls st))) : Go p e below En (T.setTop (mkF m pc Ls (.int x :: st))) := by
  by_cases q : x = 0
  · exact go_ifc X hx hd (fun r => absurd r (by rw [(teq q).2]; decide)) (fun _ => kF q)
  · exact go_ifc X hx hd (fun _ => kT q) (fun r => absurd r (by rw [(feq q).2]; decide))
theorem go_icmp_lt (X : Stand p l e R s m args below meth c T locs cells slots) (hx : p.tables.exec = Jvm.exec) {x y : Int32} {o : Int} (hd : DecB c.code pc (.if_icmp .lt o) o pc' pt) (kT : x < y → Go p e below En (T.setTop (mkF m pt Ls st))) (kF : ¬ x < y → Go p e below En (T.setTop (mkF m pc' Ls st))) : Go p e below En (T.setTop (mkF m pc Ls (.int y :: .int x :: st))) := by
  by_cases q : x < y
  · exact go_icmp X hx hd (fun _ => kT q) (fun r => absurd r (by rw [(tlt q).1]; decide))
  · exact go_icmp X hx hd (fun r => absurd r (by rw [(flt q).1]; decide)) (fun _ => kF q)
theorem go_ifc_lt (X : Stand p l e R s m args below meth c T locs cells slots) (hx : p.tables.exec = Jvm.exec) {x : Int32} {o : Int} (hd : DecB c.code pc (.ifCond .lt o) o pc' pt) (kT : x < 0 → Go p e below En (T.setTop (mkF m pt Ls st))) (kF : ¬ x < 0 → Go p e below En (T.setTop (mkF m pc' Ls st))) : Go p e below En (T.setTop (mkF m pc Ls (.int x :: st))) := by
  by_cases q : x < 0
  · exact go_ifc X hx hd (fun _ => kT q) (fun r => absurd r (by rw [(tlt q).1]; decide))
  · exact go_ifc X hx hd (fun r => absurd r (by rw [(flt q).1]; decide)) (fun _ => kF q)
theorem go_icmp_ge (X : Stand p l e R s m args below meth c T locs cells slots) (hx : p.tables.exec = Jvm.exec) {x y : Int32} {o : Int} (hd : DecB c.code pc (.if_icmp .ge o) o pc' pt) (kT : ¬ x < y → Go p e below En (T.setTop (mkF m pt Ls st))) (kF : x < y → Go p e below En (T.setTop (mkF m pc' Ls st))) : Go p e below En (T.setTop (mkF m pc Ls (.int y :: .int x :: st))) := by
  by_cases q : x < y
  · exact go_icmp X hx hd (fun r => absurd r (by rw [(tlt q).2.1]; decide)) (fun _ => kF q)
  · exact go_icmp X hx hd (fun _ => kT q) (fun r => absurd r (by rw [(flt q).2.1]; decide))
theorem go_ifc_ge (X : Stand p l e R s m args below meth c T locs cells slots) (hx : p.tables.exec = Jvm.exec) {x : Int32} {o : Int} (hd : DecB c.code pc (.ifCond .ge o) o pc' pt) (kT : ¬ x < 0 → Go p e below En (T.setTop (mkF m pt Ls st))) (kF : x < 0 → Go p e below En (T.setTop (mkF m pc' Ls st))) : Go p e below En (T.setTop (mkF m pc Ls (.int x :: st))) := by
  by_cases q : x < 0
  · exact go_ifc X hx hd (fun r => absurd r (by rw [(tlt q).2.1]; decide)) (fun _ => kF q)
  · exact go_ifc X hx hd (fun _ => kT q) (fun r => absurd r (by rw [(flt q).2.1]; decide))
theorem go_icmp_gt (X : Stand p l e R s m args below meth c T locs cells slots) (hx : p.tables.exec = Jvm.exec) {x y : Int32} {o : Int} (hd : DecB c.code pc (.if_icmp .gt o) o pc' pt) (kT : y < x → Go p e below En (T.setTop (mkF m pt Ls st))) (kF : ¬ y < x → Go p e below En (T.setTop (mkF m pc' Ls st))) : Go p e below En (T.setTop (mkF m pc Ls (.int y :: .int x :: st))) := by
  by_cases q : y < x
  · exact go_icmp X hx hd (fun _ => kT q) (fun r => absurd r (by rw [(tlt q).2.2.1]; decide))
  · exact go_icmp X hx hd (fun r => absurd r (by rw [(flt q).2.2.1]; decide)) (fun _ => kF q)
theorem go_ifc_gt (X : Stand p l e R s m args below meth c T locs cells slots) (hx : p.tables.exec = Jvm.exec) {x : Int32} {o : Int} (hd : DecB c.code pc (.ifCond .gt o) o pc' pt) (kT : 0 < x → Go p e below En (T.setTop (mkF m pt Ls st))) (kF : ¬ 0 < x → Go p e below En (T.setTop (mkF m pc' Ls st))) : Go p e below En (T.setTop (mkF m pc Ls (.int x :: st))) := by
  by_cases q : 0 < x
  · exact go_ifc X hx hd (fun _ => kT q) (fun r => absurd r (by rw [(tlt q).2.2.1]; decide))
  · exact go_ifc X hx hd (fun r => absurd r (by rw [(flt q).2.2.1]; decide)) (fun _ => kF q)
theorem go_icmp_le (X : Stand p l e R s m args below meth c T locs cells slots) (hx : p.tables.exec = Jvm.exec) {x y : Int32} {o : Int} (hd : DecB c.code pc (.if_icmp .le o) o pc' pt) (kT : ¬ y < x → Go p e below En (T.setTop (mkF m pt Ls st))) (kF : y < x → Go p e below En (T.setTop (mkF m pc' Ls st))) : Go p e below En (T.setTop (mkF m pc Ls (.int y :: .int x :: st))) := by
  by_cases q : y < x
  · exact go_icmp X hx hd (fun r => absurd r (by rw [(tlt q).2.2.2]; decide)) (fun _ => kF q)
  · exact go_icmp X hx hd (fun _ => kT q) (fun r => absurd r (by rw [(flt q).2.2.2]; decide))
theorem go_ifc_le (X : Stand p l e R s m args below meth c T locs cells slots) (hx : p.tables.exec = Jvm.exec) {x : Int32} {o : Int} (hd : DecB c.code pc (.ifCond .le o) o pc' pt) (kT : ¬ 0 < x → Go p e below En (T.setTop (mkF m pt Ls st))) (kF : 0 < x → Go p e below En (T.setTop (mkF m pc' Ls st))) : Go p e below En (T.setTop (mkF m pc Ls (.int x :: st))) := by
  by_cases q : 0 < x
  · exact go_ifc X hx hd (fun r => absurd r (by rw [(tlt q).2.2.2]; decide)) (fun _ => kF q)
  · exact go_ifc X hx hd (fun _ => kT q) (fun r => absurd r (by rw [(flt q).2.2.2]; decide))
theorem go_ifnullY (X : Stand p l e R s m args below meth c T locs cells slots) (hx : p.tables.exec = Jvm.exec) {o : Int} (hd : DecB c.code pc (.ifnull o) o pc' pt) (k : Go p e below En (T.setTop (mkF m pt Ls st))) : Go p e below En (T.setTop (mkF m pc Ls (.null :: st))) := own_via (fun t => XS.ifnullYes X.here hx rfl rfl hd.1 rfl hd.2.2.1 hd.2.2.2) k
theorem go_ifnullN (X : Stand p l e R s m args below meth c T locs cells slots) (hx : p.tables.exec = Jvm.exec) {o : Int} {a : Addr} (hd : DecB c.code pc (.ifnull o) o pc' pt) (k : Go p e below En (T.setTop (mkF m pc' Ls st))) : Go p e below En (T.setTop (mkF m pc Ls (.ref a :: st))) := by
  obtain ⟨h1, rfl, h3, h4⟩ := hd
  exact own_via (fun t => XS.ifnullNo X.here hx rfl h1 rfl) k
theorem go_ifnonnullY (X : Stand p l e R s m args below meth c T locs cells slots) (hx : p.tables.exec = Jvm.exec) {o : Int} {a : Addr} (hd : DecB c.code pc (.ifnonnull o) o pc' pt) (k : Go p e below En (T.setTop (mkF m pt Ls st))) : Go p e below En (T.setTop (mkF m pc Ls (.ref a :: st))) := own_via (fun t => XT.ifnonnullYes X.here hx rfl rfl hd.1 rfl hd.2.2.1 hd.2.2.2) k
theorem go_ifnonnullN (X : Stand p l e R s m args below meth c T locs cells slots) (hx : p.tables.exec = Jvm.exec) {o : Int} (hd : DecB c.code pc (.ifnonnull o) o pc' pt) (k : Go p e below En (T.setTop (mkF m pc' Ls st))) : Go p e below En (T.setTop (mkF m pc Ls (.null :: st))) := by
  obtain ⟨h1, rfl, h3, h4⟩ := hd
  exact own_via (fun t => XT.ifnonnullNo X.here hx rfl h1 rfl) k
theorem go_acmp_eq (X : Stand p l e R s m args below meth c T locs cells slots) (hx : p.tables.exec = Jvm.exec) {x y : Value} (hx' : x.isRef = true) (hy' : y.isRef = true) {o : Int} (hd : DecB c.code pc (.if_acmp .eq o) o pc' pt) (kT : x = y → Go p e below En (T.setTop (mkF m pt Ls st))) (kF : ¬ x = y → Go p e below En (T.setTop (mkF m pc' Ls st))) : Go p e below En (T.setTop (mkF m pc Ls (y :: x :: st))) := by
  obtain ⟨h1, rfl, h3, h4⟩ := hd
  by_cases q : x = y
  · exact own_via (fun t => XT.acmpYes X.here hx rfl rfl h1 rfl hx' hy' (by simp [XT.acmp, q]) h3 h4) (kT q)
  · exact own_via (fun t => XT.acmpNo X.here hx rfl h1 rfl hx' hy' (by simp [XT.acmp, q])) (kF q)
theorem go_acmp_ne (X : Stand p l e R s m args below meth c T locs cells slots) (hx : p.tables.exec = Jvm.exec) {x y : Value} (hx' : x.isRef = true) (hy' : y.isRef = true) {o : Int} (hd : DecB c.code pc (.if_acmp .ne o) o pc' pt) (kT : ¬ x = y → Go p e below En (T.setTop (mkF m pt Ls st))) (kF : x = y → Go p e below En (T.setTop (mkF m pc' Ls st))) : Go p e below En (T.setTop (mkF m pc Ls (y :: x :: st))) := by
  obtain ⟨h1, rfl, h3, h4⟩ := hd
  by_cases q : x = y
  · exact own_via (fun t => XT.acmpNo X.here hx rfl h1 rfl hx' hy' (by simp [XT.acmp, q])) (kF q)
  · exact own_via (fun t => XT.acmpYes X.here hx rfl rfl h1 rfl hx' hy' (by simp [XT.acmp, q]) h3 h4) (kT q)
theorem go_retN (X : Stand p l e R s m args below meth c T locs cells slots) (hx : p.tables.exec = Jvm.exec) {z : Int32} {t : FieldType} (hret : meth.sig.returnType = some t) (ht : t = .boolean ∨ t = .byte ∨ t = .char ∨ t = .short) (hd : Dec c.code pc .ireturn 1 pc') (hk : meth.locks = false) (hc : cells ≤ rc) (hs : slots ≤ rs) (hQ : Q (some (.int (nar t z))) T.heap locs) : Go p e below (EndN s Q rc rs) (T.setTop (mkF m pc Ls (.int z :: st))) := by
  obtain ⟨fs, hr, hrun, hended, hW, hsame⟩ := X.leave (v := (some (.int (nar t z)))) (fun q => by first | rfl | (rw [hret] at q; cases q)) hk
  exact ⟨_, _, retN X hx hret ht hd.1 hr, hrun, hended, _, _, rfl, hQ, ⟨_, rfl⟩, hW, hsame.mono hc hs⟩
theorem go_retI (X : Stand p l e R s m args below meth c T locs cells slots) (hx : p.tables.exec = Jvm.exec) {z : Int32} (hret : meth.sig.returnType = some .int) (hd : Dec c.code pc .ireturn 1 pc') (hk : meth.locks = false) (hc : cells ≤ rc) (hs : slots ≤ rs) (hQ : Q (some (.int z)) T.heap locs) : Go p e below (EndN s Q rc rs) (T.setTop (mkF m pc Ls (.int z :: st))) := by
  obtain ⟨fs, hr, hrun, hended, hW, hsame⟩ := X.leave (v := (some (.int z))) (fun q => by first | rfl | (rw [hret] at q; cases q)) hk
  exact ⟨_, _, retOut X hx hret rfl (Or.inl ⟨rfl, Or.inl rfl, _, rfl⟩) hd.1 hr, hrun, hended, _, _, rfl, hQ, ⟨_, rfl⟩, hW, hsame.mono hc hs⟩
theorem go_retJ (X : Stand p l e R s m args below meth c T locs cells slots) (hx : p.tables.exec = Jvm.exec) {z : Int64} (hret : meth.sig.returnType = some .long) (hd : Dec c.code pc .lreturn 1 pc') (hk : meth.locks = false) (hc : cells ≤ rc) (hs : slots ≤ rs) (hQ : Q (some (.long z)) T.heap locs) : Go p e below (EndN s Q rc rs) (T.setTop (mkF m pc Ls (.long z :: st))) := by
  obtain ⟨fs, hr, hrun, hended, hW, hsame⟩ := X.leave (v := (some (.long z))) (fun q => by first | rfl | (rw [hret] at q; cases q)) hk
  exact ⟨_, _, retOut X hx hret rfl (Or.inr (Or.inl ⟨rfl, rfl, _, rfl⟩)) hd.1 hr, hrun, hended, _, _, rfl, hQ, ⟨_, rfl⟩, hW, hsame.mono hc hs⟩
theorem go_retA (X : Stand p l e R s m args below meth c T locs cells slots) (hx : p.tables.exec = Jvm.exec) {v : Value} {t : FieldType} (hret : meth.sig.returnType = some t) (ht : t.isReference = true) (hv : v.isRef = true) (hd : Dec c.code pc .areturn 1 pc') (hk : meth.locks = false) (hc : cells ≤ rc) (hs : slots ≤ rs) (hQ : Q (some v) T.heap locs) : Go p e below (EndN s Q rc rs) (T.setTop (mkF m pc Ls (v :: st))) := by
  obtain ⟨fs, hr, hrun, hended, hW, hsame⟩ := X.leave (v := (some v)) (fun q => by first | rfl | (rw [hret] at q; cases q)) hk
  exact ⟨_, _, retOut X hx hret (by cases t <;> first | rfl | cases ht) (Or.inr (Or.inr (Or.inr (Or.inr ⟨rfl, ht, hv⟩)))) hd.1 hr, hrun, hended, _, _, rfl, hQ, ⟨_, rfl⟩, hW, hsame.mono hc hs⟩
theorem go_retV (X : Stand p l e R s m args below meth c T locs cells slots) (hx : p.tables.exec = Jvm.exec)  (hret : meth.sig.returnType = none) (hd : Dec c.code pc .return_ 1 pc') (hk : meth.locks = false) (hc : cells ≤ rc) (hs : slots ≤ rs) (hQ : Q none T.heap locs) : Go p e below (EndN s Q rc rs) (T.setTop (mkF m pc Ls [])) := by
  obtain ⟨fs, hr, hrun, hended, hW, hsame⟩ := X.leave (v := none) (fun q => by first | rfl | (rw [hret] at q; cases q)) hk
  exact ⟨_, _, X.returnOut hx hret hd.1 hr, hrun, hended, _, _, rfl, hQ, ⟨_, rfl⟩, hW, hsame.mono hc hs⟩
theorem go_getF (X : Stand p l e R s m args below meth c T locs cells slots) (hx : p.tables.exec = Jvm.exec) (hZ : Z.Warmed39 s.vm) {own R0 O n d host : String} {index : Nat} (hown : s.vm.findClass own = some m.cls) (w : (Jvm.Cond.fieldLink own index R0 n d).before a0 Z = true ∨ (Jvm.Cond.fieldLinkNest own index R0 n d host).before a0 Z = true) (via : Via Z R0 O n d) (eT : T.heap = h) {a : Addr} {v : Value} (F : Fld Z h a O n d v) (hd : Dec c.code pc (.getfield index) 3 pc') (k : ∀ T', Stand p l e R s m args below meth c T' locs cells slots → T'.heap = h → Go p e below En (T'.setTop (mkF m pc' Ls (v :: st)))) : Go p e below En (T.setTop (mkF m pc Ls (.ref a :: st))) := by
  obtain ⟨hd, rfl⟩ := hd
  obtain ⟨T', X', e', q⟩ := getF X hx hZ hown w via eT F (g := mkF m pc Ls (.ref a :: st)) rfl rfl hd
  exact own_via q (k T' X' e')
theorem go_putF (X : Stand p l e R s m args below meth c T locs cells slots) (hx : p.tables.exec = Jvm.exec) (hZ : Z.Warmed39 s.vm) {own R0 O n d host C : String} {index kk : Nat} {ty : FieldType} (hown : s.vm.findClass own = some m.cls) (w : (Jvm.Cond.fieldLink own index R0 n d).before a0 Z = true ∨ (Jvm.Cond.fieldLinkNest own index R0 n d host).before a0 Z = true) (via : Via Z R0 O n d) (eT : T.heap = h) {a : Addr} {v old : Value} (F : Fld Z h a O n d old) (E : Exa Z h a C) (L : (Jvm.Cond.lays C O n d).before a0 Z = true ∨ ((Jvm.Cond.laysFinal C O n d).before a0 Z = true ∧ own = O ∧ meth.name = "<init>")) (wi : (Jvm.Cond.instantiable C kk).before a0 Z = true) (hty : parseFieldDescriptor d = some ty) (hn : narrow ty v = v) (hf : fits ty v = true) (hd : Dec c.code pc (.putfield index) 3 pc') (k : ∀ T' h', Stand p l e R s m args below meth c T' (locs ++ [⟨a, Jvm.RoadKit.slotOf Z O n d⟩]) cells slots → T'.heap = h' → Wr h h' a (Jvm.RoadKit.slotOf Z O n d) v → Go p e below En (T'.setTop (mkF m pc' Ls st))) : Go p e below En (T.setTop (mkF m pc Ls (v :: .ref a :: st))) := by
  obtain ⟨hd, rfl⟩ := hd
  obtain ⟨T', h', X', e', W, q⟩ := putF X hx hZ hown w via eT F E L wi hty hn hf (g := mkF m pc Ls (v :: .ref a :: st)) rfl rfl hd
  exact own_via q (k T' h' X' e' W)
theorem go_getS (X : Stand p l e R s m args below meth c T locs cells slots) (hx : p.tables.exec = Jvm.exec) (hZ : Z.Warmed39 s.vm) {own R0 O n d host : String} {index : Nat} (hown : s.vm.findClass own = some m.cls) (w : (Jvm.Cond.fieldLink own index R0 n d).before a0 Z = true) (via : Via Z R0 O n d) (eT : T.heap = h) {v : Value} (F : Sta Z h O n d v) (hd : Dec c.code pc (.getstatic index) 3 pc') (k : ∀ T', Stand p l e R s m args below meth c T' locs cells slots → T'.heap = h → Go p e below En (T'.setTop (mkF m pc' Ls (v :: st)))) : Go p e below En (T.setTop (mkF m pc Ls st)) := by
  obtain ⟨hd, rfl⟩ := hd
  obtain ⟨T', X', e', q⟩ := getS (host := "") X hx hZ hown w via eT F (g := mkF m pc Ls st) rfl hd
  exact own_via q (k T' X' e')
theorem go_newO (X : Stand p l e R s m args below meth c T locs cells slots) (hx : p.tables.exec = Jvm.exec) (hZ : Z.Warmed39 s.vm) {own C : String} {index n : Nat} (hown : s.vm.findClass own = some m.cls) (w : (Jvm.Cond.classLink own index C).before a0 Z = true) (wi : (Jvm.Cond.instantiable C n).before a0 Z = true) (wz : (Jvm.Cond.initialized C).before a0 Z = true) (eT : T.heap = h) (hd : Dec c.code pc (.new index) 3 pc') (hc : cells + 1 ≤ R.cells) (hl : slots + n ≤ R.slots) (k : ∀ T' h' (a : Addr), a = h.size → Stand p l e R s m args below meth c T' locs (cells + 1) (slots + n) → T'.heap = h' → Ext h h' → Exa Z h' a C → (∀ {O nm d : String} {ty : FieldType}, Laid Z a0 C O nm d → parseFieldDescriptor d = some ty → Fld Z h' a O nm d (defaultValue ty)) → Go p e below En (T'.setTop (mkF m pc' Ls (.ref a :: st)))) : Go p e below En (T.setTop (mkF m pc Ls st)) := by
  obtain ⟨hd, rfl⟩ := hd
  obtain ⟨T', h', X', e', E, A, D, -, q⟩ := newO X hx hZ hown w wi wz eT (g := mkF m pc Ls st) rfl hd hc hl
  exact own_via q (k T' h' _ rfl X' e' E A D)
theorem go_newP (X : Stand p l e R s m args below meth c T locs cells slots) (hx : p.tables.exec = Jvm.exec) (hZ : Z.Warmed39 s.vm) {aty : ArrayType} (w : (Jvm.Cond.arrayClass (newarray.typeOf aty)).before a0 Z = true) (eT : T.heap = h) (hd : Dec c.code pc (.newarray aty) 2 pc') {n : Int32} (hn : ¬ n < 0) (cap : Nat) (hcap : n.toNatClampNeg ≤ cap) (hb : cap * 8 ≤ 536870912) (hc : cells + 1 ≤ R.cells) (hl : slots + cap ≤ R.slots) (k : ∀ T' h' cA (a : Addr), a = h.size → Stand p l e R s m args below meth c T' locs (cells + 1) (slots + cap) → T'.heap = h' → Ext h h' → Arr Z h' a (newA cA (newarray.typeOf aty) n) (newarray.typeOf aty) → Go p e below En (T'.setTop (mkF m pc' Ls (.ref a :: st)))) : Go p e below En (T.setTop (mkF m pc Ls (.int n :: st))) := by
  obtain ⟨hd, rfl⟩ := hd
  obtain ⟨T', h', cA, X', e', E, A, q⟩ := newP X hx hZ w eT (g := mkF m pc Ls (.int n :: st)) rfl hd rfl hn hcap hb hc hl
  exact own_via q (k T' h' cA _ rfl X' e' E A)
theorem go_initO (X : Stand p l e R s m args below meth c T locs cells slots) (hx : p.tables.exec = Jvm.exec) (hZ : Z.Warmed39 s.vm) {own : String} {idx : Nat} (hown : s.vm.findClass own = some m.cls) (w1 : (Jvm.Cond.methodLink own idx Lib.objectInit).before a0 Z = true) (w2 : (Jvm.Cond.instanceMethod Lib.objectInit).before a0 Z = true) (w3 : (Jvm.Cond.code Lib.objectInit object_method_1_code 1 none).before a0 Z = true) (eT : T.heap = h) (hsize : Ls.size = c.maxLocals) {a : Addr} (hd : Dec c.code pc (.invokespecial idx) 3 pc') (hf : 1 ≤ R.frames) (W : Nat) (hW : (st.map fun v => v.category).sum ≤ W) (hl : W + 12 ≤ R.locals) (k : ∀ T', Stand p l e R s m args below meth c T' locs cells slots → T'.heap = h → Go p e below En (T'.setTop (mkF m pc' Ls st))) : Go p e below En (T.setTop (mkF m pc Ls (.ref a :: st))) := by
  obtain ⟨hd, rfl⟩ := hd
  obtain ⟨T', X', e', q⟩ := initO X hx hZ hown w1 w2 w3 eT (g := mkF m pc Ls (.ref a :: st)) rfl hsize rfl hd hf (W := W) (by show 2 * 0 + _ ≤ _; omega) hl
  exact own_via q (k T' X' e')
def Ct (l : Launch) (Z : State) (y : MethodName) (bytes : ByteArray) (maxL : Nat) (ret : Option FieldType) (ws : List Jvm.Cond) (rm : Room) (as' : Array Value) (h0 : Heap) (Q : Option Value → Heap → List Loc → Prop) : Prop := MetFree l y (head1 (Jvm.Cond.code y bytes maxL ret :: ws) rm) (fun a U => a = as' ∧ Z.Warmed39 U.vm ∧ U.heap = h0) (fun _ _ _ _ _ => True) (fun _ U o U' => ∃ v L, o = .returned v ∧ Q v U'.heap L ∧ FrameEnd U o U' L rm.cells rm.slots)
theorem Ct.of {y : MethodName} {bytes : ByteArray} {maxL : Nat} {ret : Option FieldType} {ws : List Jvm.Cond} {rm : Room} {as' : Array Value} {h0 : Heap} (pn : plainName y.cls = true) (F0 : Array Slot) (ef : ∀ m, entryFrame m as' maxL = mkF m 0 F0 []) (body : ∀ (p : Program) (e : Env) (s : State) (m : MethodId) (below : List Frame) (meth : Method) (c : Code) (T : State), p.tables.exec = Jvm.exec → c.code = bytes → c.maxLocals = maxL → Z.Warmed39 s.vm → s.vm.findClass y.cls = some m.cls → meth.name = y.name → meth.sig.returnType = ret → meth.locks = false → T.heap = h0 → Stand p l e rm s m as' below meth c T [] 0 0 → Go p e below (EndN s Q rm.cells rm.slots) (T.setTop (mkF m 0 F0 []))) : Ct l Z y bytes maxL ret ws rm as' h0 Q := by
  refine MetFree.of_bodySF (plainFor_of_name pn) hisR ?_
  intro p e s m args below meth c s₁ Bd hml0 hP hK
  obtain ⟨rfl, hZ, hh⟩ := hP
  have G := body p e s m below meth c s₁ Bd.exec Bd.bytes hml0 hZ (findClass_of_methodNamed Bd.named) (name_of_methodNamed Bd.named Bd.method).1 Bd.returns Bd.notSynchronized (by rw [← hh, Bd.state]; rfl) (Stand.of_body Bd)
  rw [← ef m] at G
  exact G
theorem go_static (X : Stand p l e R s m args below meth c T locs cells slots) (hx : p.tables.exec = Jvm.exec) (hZ : Z.Warmed39 s.vm) {own : String} {index : Nat} {y : MethodName} {bytes : ByteArray} {maxL : Nat} {ret : Option FieldType} (hown : s.vm.findClass own = some m.cls) (w1 : (Jvm.Cond.methodLink own index y).before a0 Z = true) (w2 : (Jvm.Cond.static y).before a0 Z = true) (w3 : (Jvm.Cond.initialized y.cls).before a0 Z = true) (w4 : (Jvm.Cond.code y bytes maxL ret).before a0 Z = true) (hy : y.cls ≠ "java/lang/invoke/MethodHandle" ∧ y.cls ≠ "java/lang/invoke/VarHandle") (eT : T.heap = h) {rm : Room} (argsL rest : List Value) {Qc : Option Value → Heap → List Loc → Prop} (hC : Ct l Z y bytes maxL ret [] rm argsL.toArray h Qc) {ps : List FieldType} {rt : Option FieldType} (pd : parseMethodDescriptor y.desc = some ⟨ps, rt⟩) (hl : argsL.length = ps.length) (hsize : Ls.size = c.maxLocals) {stk : List Value} (hstk : stk = argsL.reverse ++ rest) (W : Nat) (hW : (rest.map fun v => v.category).sum ≤ W) (hf : rm.frames + 1 ≤ R.frames) (hlo : W + (maxL + 11) + rm.locals ≤ R.locals) (hce : cells + rm.cells ≤ R.cells) (hsl : slots + rm.slots ≤ R.slots) (hd : Dec c.code pc (.invokestatic index) 3 pc') (k : ∀ T' v L, Stand p l e R s m args below meth c T' (locs ++ L) (cells + rm.cells) (slots + rm.slots) → Qc v T'.heap L → Go p e below En (T'.setTop (mkF m pc' Ls (v.toList ++ rest)))) : Go p e below En (T.setTop (mkF m pc Ls stk)) := by
  obtain ⟨hd, rfl⟩ := hd
  obtain ⟨v, _, ⟨T', L', k', n'⟩, -, X', ⟨L, hQ, l1, y1, z1⟩, q⟩ := Jvm.LawKit.callS X hx hown (mvT hZ w1) (mvT hZ w2) (mvT hZ w3) (mvT hZ w4) hy (backOf (W := W) hC hZ w4 w3 hf hlo) (g := mkF m pc Ls stk) rfl hsize (argsL := argsL) (rest := rest) (lenOf pd hl) hstk (by show 2 * 0 + _ ≤ _; omega) hd (fun _ _ => ⟨rfl, eT, hce, hsl⟩)
  dsimp only [Pt.U, Pt.locs, Pt.cells, Pt.slots] at X' l1 y1 z1 q hQ
  subst l1 y1 z1
  exact own_via q (k T' v L X' hQ)
theorem go_special (X : Stand p l e R s m args below meth c T locs cells slots) (hx : p.tables.exec = Jvm.exec) (hZ : Z.Warmed39 s.vm) {own : String} {index : Nat} {y : MethodName} (hn : y.name = "<init>") {bytes : ByteArray} {maxL : Nat} (hown : s.vm.findClass own = some m.cls) (w1 : (Jvm.Cond.methodLink own index y).before a0 Z = true) (w2 : (Jvm.Cond.instanceMethod y).before a0 Z = true) (w3 : (Jvm.Cond.initialized y.cls).before a0 Z = true) (w4 : (Jvm.Cond.code y bytes maxL none).before a0 Z = true) (hy : y.cls ≠ "java/lang/invoke/MethodHandle" ∧ y.cls ≠ "java/lang/invoke/VarHandle") (eT : T.heap = h) {rm : Room} {a : Addr} (argsL rest : List Value) {Qc : Option Value → Heap → List Loc → Prop} (hC : Ct l Z y bytes maxL none [] rm (.ref a :: argsL).toArray h Qc) {ps : List FieldType} {rt : Option FieldType} (pd : parseMethodDescriptor y.desc = some ⟨ps, rt⟩) (hl : argsL.length = ps.length) (hsize : Ls.size = c.maxLocals) {stk : List Value} (hstk : stk = argsL.reverse ++ .ref a :: rest) (W : Nat) (hW : (rest.map fun v => v.category).sum ≤ W) (hf : rm.frames + 1 ≤ R.frames) (hlo : W + (maxL + 11) + rm.locals ≤ R.locals) (hce : cells + rm.cells ≤ R.cells) (hsl : slots + rm.slots ≤ R.slots) (hd : Dec c.code pc (.invokespecial index) 3 pc') (k : ∀ T' v L, Stand p l e R s m args below meth c T' (locs ++ L) (cells + rm.cells) (slots + rm.slots) → Qc v T'.heap L → Go p e below En (T'.setTop (mkF m pc' Ls (v.toList ++ rest)))) : Go p e below En (T.setTop (mkF m pc Ls stk)) := by
  obtain ⟨hd, rfl⟩ := hd
  obtain ⟨v, _, ⟨T', L', k', n'⟩, -, X', ⟨L, hQ, l1, y1, z1⟩, q⟩ := X.specialBack hx hn hown (mvT hZ w1) (mvT hZ w2) (mvT hZ w4) hy (backOf (W := W) hC hZ w4 w3 hf hlo) (g := mkF m pc Ls stk) rfl hsize (Steps.refl _) (a := a) (argsL := argsL) (rest := rest) (lenOf pd hl) hstk (by show 2 * 0 + _ ≤ _; omega) hd (fun _ _ => ⟨rfl, eT, hce, hsl⟩)
  dsimp only [Pt.U, Pt.locs, Pt.cells, Pt.slots] at X' l1 y1 z1 q hQ
  subst l1 y1 z1
  exact own_via (fun _ => q.trans) (k T' v L X' hQ)
theorem go_virtual (X : Stand p l e R s m args below meth c T locs cells slots) (hx : p.tables.exec = Jvm.exec) (hZ : Z.Warmed39 s.vm) {own C : String} {index : Nat} {y : MethodName} {bytes : ByteArray} {maxL : Nat} {ret : Option FieldType} (hown : s.vm.findClass own = some m.cls) (w1 : (Jvm.Cond.methodLink own index y).before a0 Z = true) (w2 : (Jvm.Cond.declares y).before a0 Z = true) (w5 : (Jvm.Cond.selects C y y).before a0 Z = true) (w6 : (Jvm.Cond.instanceMethod y).before a0 Z = true) (w3 : (Jvm.Cond.initialized y.cls).before a0 Z = true) (w4 : (Jvm.Cond.code y bytes maxL ret).before a0 Z = true) (hy : y.cls ≠ "java/lang/invoke/MethodHandle" ∧ y.cls ≠ "java/lang/invoke/VarHandle") (eT : T.heap = h) {rm : Room} {a : Addr} (E : Exa Z h a C) (argsL rest : List Value) {Qc : Option Value → Heap → List Loc → Prop} (hC : Ct l Z y bytes maxL ret [] rm (.ref a :: argsL).toArray h Qc) {ps : List FieldType} {rt : Option FieldType} (pd : parseMethodDescriptor y.desc = some ⟨ps, rt⟩) (hl : argsL.length = ps.length) (hsize : Ls.size = c.maxLocals) {stk : List Value} (hstk : stk = argsL.reverse ++ .ref a :: rest) (W : Nat) (hW : (rest.map fun v => v.category).sum ≤ W) (hf : rm.frames + 1 ≤ R.frames) (hlo : W + (maxL + 11) + rm.locals ≤ R.locals) (hce : cells + rm.cells ≤ R.cells) (hsl : slots + rm.slots ≤ R.slots) (hd : Dec c.code pc (.invokevirtual index) 3 pc') (k : ∀ T' v L, Stand p l e R s m args below meth c T' (locs ++ L) (cells + rm.cells) (slots + rm.slots) → Qc v T'.heap L → Go p e below En (T'.setTop (mkF m pc' Ls (v.toList ++ rest)))) : Go p e below En (T.setTop (mkF m pc Ls stk)) := by
  obtain ⟨hd, rfl⟩ := hd
  obtain ⟨cq, kq, qa, qb, qc⟩ := isOf hZ eT E
  obtain ⟨v, _, ⟨T', L', k', n'⟩, -, X', ⟨L, hQ, l1, y1, z1⟩, q⟩ := X.virtualBack hx hown (mvT hZ w1) (mvT hZ w2) (notFace_of_selects (args := #[]) (mvT hZ w5)) (mvT hZ w5) (mvT hZ w6) hy (backOf (W := W) hC hZ w4 w3 hf hlo) qa qc (g := mkF m pc Ls stk) rfl hsize (Steps.refl _) (argsL := argsL) (rest := rest) (lenOf pd hl) hstk (by show 2 * 0 + _ ≤ _; omega) hd (fun _ _ => ⟨rfl, eT, hce, hsl⟩)
  dsimp only [Pt.U, Pt.locs, Pt.cells, Pt.slots] at X' l1 y1 z1 q hQ
  subst l1 y1 z1
  exact own_via (fun _ => q.trans) (k T' v L X' hQ)
abbrev QP (r : Value) (h0 : Heap) : Option Value → Heap → List Loc → Prop := fun v h L => v = some r ∧ h = h0 ∧ L = []
theorem go_staticP (X : Stand p l e R s m args below meth c T locs cells slots) (hx : p.tables.exec = Jvm.exec) (hZ : Z.Warmed39 s.vm) {own : String} {index : Nat} {y : MethodName} {bytes : ByteArray} {maxL : Nat} {ret : Option FieldType} (hown : s.vm.findClass own = some m.cls) (w1 : (Jvm.Cond.methodLink own index y).before a0 Z = true) (w2 : (Jvm.Cond.static y).before a0 Z = true) (w3 : (Jvm.Cond.initialized y.cls).before a0 Z = true) (w4 : (Jvm.Cond.code y bytes maxL ret).before a0 Z = true) (hy : y.cls ≠ "java/lang/invoke/MethodHandle" ∧ y.cls ≠ "java/lang/invoke/VarHandle") (eT : T.heap = h) {rm : Room} (argsL rest : List Value) {r : Value} (hC : Ct l Z y bytes maxL ret [] rm argsL.toArray h (QP r h)) {ps : List FieldType} {rt : Option FieldType} (pd : parseMethodDescriptor y.desc = some ⟨ps, rt⟩) (hl : argsL.length = ps.length) (hsize : Ls.size = c.maxLocals) {stk : List Value} (hstk : stk = argsL.reverse ++ rest) (W : Nat) (hW : (rest.map fun v => v.category).sum ≤ W) (hf : rm.frames + 1 ≤ R.frames) (hlo : W + (maxL + 11) + rm.locals ≤ R.locals) (hce : rm.cells = 0) (hsl : rm.slots = 0) (hrc : cells ≤ R.cells) (hrs : slots ≤ R.slots) (hd : Dec c.code pc (.invokestatic index) 3 pc') (k : ∀ T', Stand p l e R s m args below meth c T' locs cells slots → T'.heap = h → Go p e below En (T'.setTop (mkF m pc' Ls (r :: rest)))) : Go p e below En (T.setTop (mkF m pc Ls stk)) :=
  go_static X hx hZ hown w1 w2 w3 w4 hy eT argsL rest hC pd hl hsize hstk W hW hf hlo (by rw [hce]; exact hrc) (by rw [hsl]; exact hrs) hd (fun T' v L X' hQ => by
    obtain ⟨rfl, e', rfl⟩ := hQ
    rw [hce, hsl, List.append_nil, Nat.add_zero, Nat.add_zero] at X'
    exact k T' X' e')
theorem go_virtualP (X : Stand p l e R s m args below meth c T locs cells slots) (hx : p.tables.exec = Jvm.exec) (hZ : Z.Warmed39 s.vm) {own C : String} {index : Nat} {y : MethodName} {bytes : ByteArray} {maxL : Nat} {ret : Option FieldType} (hown : s.vm.findClass own = some m.cls) (w1 : (Jvm.Cond.methodLink own index y).before a0 Z = true) (w2 : (Jvm.Cond.declares y).before a0 Z = true) (w5 : (Jvm.Cond.selects C y y).before a0 Z = true) (w6 : (Jvm.Cond.instanceMethod y).before a0 Z = true) (w3 : (Jvm.Cond.initialized y.cls).before a0 Z = true) (w4 : (Jvm.Cond.code y bytes maxL ret).before a0 Z = true) (hy : y.cls ≠ "java/lang/invoke/MethodHandle" ∧ y.cls ≠ "java/lang/invoke/VarHandle") (eT : T.heap = h) {rm : Room} {a : Addr} (E : Exa Z h a C) (argsL rest : List Value) {r : Value} (hC : Ct l Z y bytes maxL ret [] rm (.ref a :: argsL).toArray h (QP r h)) {ps : List FieldType} {rt : Option FieldType} (pd : parseMethodDescriptor y.desc = some ⟨ps, rt⟩) (hl : argsL.length = ps.length) (hsize : Ls.size = c.maxLocals) {stk : List Value} (hstk : stk = argsL.reverse ++ .ref a :: rest) (W : Nat) (hW : (rest.map fun v => v.category).sum ≤ W) (hf : rm.frames + 1 ≤ R.frames) (hlo : W + (maxL + 11) + rm.locals ≤ R.locals) (hce : rm.cells = 0) (hsl : rm.slots = 0) (hrc : cells ≤ R.cells) (hrs : slots ≤ R.slots) (hd : Dec c.code pc (.invokevirtual index) 3 pc') (k : ∀ T', Stand p l e R s m args below meth c T' locs cells slots → T'.heap = h → Go p e below En (T'.setTop (mkF m pc' Ls (r :: rest)))) : Go p e below En (T.setTop (mkF m pc Ls stk)) :=
  go_virtual X hx hZ hown w1 w2 w5 w6 w3 w4 hy eT E argsL rest hC pd hl hsize hstk W hW hf hlo (by rw [hce]; exact hrc) (by rw [hsl]; exact hrs) hd (fun T' v L X' hQ => by
    obtain ⟨rfl, e', rfl⟩ := hQ
    rw [hce, hsl, List.append_nil, Nat.add_zero, Nat.add_zero] at X'
    exact k T' X' e')
theorem own_lsw {tb : Tables} [Ours tb] {target : State} {g : JFrame} (q : At T m c below) (hx : tb.exec = Jvm.exec) (hg : g.method = m) {dflt : Int} {ps : Array (Int × Int)} {len : Nat} {o : Int} {pc0 : Nat} (hpc : g.pc = pc0) (hd : decode c.code g.pc = .ok (.lookupswitch dflt ps, len)) {i : Int32} {rest : List Value} (hs : g.stack = .int i :: rest)
    (hsort : (ps.toList.zip (ps.toList.drop 1)).all (fun (a, next) => a.1 < next.1) = true) (hoff : lookupswitch.offset ps.toList dflt i.toInt = o) (ho : 0 ≤ (pc0 : Int) + o) (hp : ((pc0 : Int) + o).toNat = pc')
    (hr : Steps tb e below (T.setTop { g with pc := pc', stack := rest }) target) : Steps tb e below (T.setTop g) target := by
  subst hg hpc hp hoff
  jvm_step q [q.top, hx, hd, hs, ho, lookupswitch.wp_chain]
  exact ⟨by simpa using hsort, hr⟩
theorem go_lsw (X : Stand p l e R s m args below meth c T locs cells slots) (hx : p.tables.exec = Jvm.exec) {dflt : Int} {ps : Array (Int × Int)} {len : Nat} {x : Int32} {o : Int} (hd : decode c.code pc = .ok (.lookupswitch dflt ps, len)) (hsort : (ps.toList.zip (ps.toList.drop 1)).all (fun (a, next) => a.1 < next.1) = true) (hoff : lookupswitch.offset ps.toList dflt x.toInt = o) (ho : 0 ≤ (pc : Int) + o) (hp : ((pc : Int) + o).toNat = pt) (k : Go p e below En (T.setTop (mkF m pt Ls st))) : Go p e below En (T.setTop (mkF m pc Ls (.int x :: st))) := own_via (fun t => own_lsw (g := mkF m pc Ls (.int x :: st)) X.here hx rfl rfl hd rfl hsort hoff ho hp) k
theorem go_alen (X : Stand p l e R s m args below meth c T locs cells slots) (hx : p.tables.exec = Jvm.exec) (hZ : Z.Warmed39 s.vm) (eT : T.heap = h) {a : Addr} {cl : Cell} {ty : FieldType} (A : Arr Z h a cl ty) {z : Int32} (S : cl.slots.size = z.toNatClampNeg) (hz : ¬ z < 0) (hd : Dec c.code pc .arraylength 1 pc') (k : Go p e below En (T.setTop (mkF m pc' Ls (.int z :: st)))) : Go p e below En (T.setTop (mkF m pc Ls (.ref a :: st))) := by
  obtain ⟨hd, rfl⟩ := hd
  refine own_via (fun t q => X.arraylength hx (cell := cl) (by rw [eT]; exact A.1) (State.isArrayOf_alike hZ.alike A.2.1) (g := mkF m pc Ls (.ref a :: st)) rfl (rest := st) rfl hd _ ?_) k
  rw [len_of S hz]
  exact q
theorem go_iaload (X : Stand p l e R s m args below meth c T locs cells slots) (hx : p.tables.exec = Jvm.exec) (hZ : Z.Warmed39 s.vm) (eT : T.heap = h) {a : Addr} {cl : Cell} (A : Arr Z h a cl .int) {j : Int32} {w : Int32} (hj : ¬ (j < 0 ∨ cl.slots.size ≤ j.toNatClampNeg)) (hv : cl.slots[j.toNatClampNeg]? = some (.int w)) (hd : Dec c.code pc .iaload 1 pc') (k : Go p e below En (T.setTop (mkF m pc' Ls (.int w :: st)))) : Go p e below En (T.setTop (mkF m pc Ls (.int j :: .ref a :: st))) := by
  obtain ⟨hd, rfl⟩ := hd
  exact own_via (fun t q => X.iaload hx (j := j) (v := (.int w)) (by rw [eT]; exact A.1) (State.isArrayOf_alike hZ.alike A.2.1) A.2.2 hj hv (g := mkF m pc Ls (.int j :: .ref a :: st)) rfl rfl hd _ q) k
theorem go_laload (X : Stand p l e R s m args below meth c T locs cells slots) (hx : p.tables.exec = Jvm.exec) (hZ : Z.Warmed39 s.vm) (eT : T.heap = h) {a : Addr} {cl : Cell} (A : Arr Z h a cl .long) {j : Int32} {w : Int64} (hj : ¬ (j < 0 ∨ cl.slots.size ≤ j.toNatClampNeg)) (hv : cl.slots[j.toNatClampNeg]? = some (.long w)) (hd : Dec c.code pc .laload 1 pc') (k : Go p e below En (T.setTop (mkF m pc' Ls (.long w :: st)))) : Go p e below En (T.setTop (mkF m pc Ls (.int j :: .ref a :: st))) := by
  obtain ⟨hd, rfl⟩ := hd
  exact own_via (fun t q => X.laload hx (j := j) (v := (.long w)) (by rw [eT]; exact A.1) (State.isArrayOf_alike hZ.alike A.2.1) A.2.2 hj hv (g := mkF m pc Ls (.int j :: .ref a :: st)) rfl rfl hd _ q) k
theorem go_iastore (X : Stand p l e R s m args below meth c T locs cells slots) (hx : p.tables.exec = Jvm.exec) (hZ : Z.Warmed39 s.vm) (eT : T.heap = h) {a : Addr} {cl : Cell} (A : Arr Z h a cl .int) {j : Int32} {x : Int32} (hj : ¬ (j < 0 ∨ cl.slots.size ≤ j.toNatClampNeg)) (hd : Dec c.code pc .iastore 1 pc') (k : ∀ T' h', Stand p l e R s m args below meth c T' (locs ++ [⟨a, j.toNatClampNeg⟩]) cells slots → T'.heap = h' → Wr h h' a j.toNatClampNeg (.int x) → Go p e below En (T'.setTop (mkF m pc' Ls st))) : Go p e below En (T.setTop (mkF m pc Ls (.int x :: .int j :: .ref a :: st))) := by
  obtain ⟨hd, rfl⟩ := hd
  obtain ⟨T', h', X', e', W, q⟩ := stI X hx hZ eT A hj (g := mkF m pc Ls (.int x :: .int j :: .ref a :: st)) rfl rfl hd
  exact own_via q (k T' h' X' e' W)
theorem go_lastore (X : Stand p l e R s m args below meth c T locs cells slots) (hx : p.tables.exec = Jvm.exec) (hZ : Z.Warmed39 s.vm) (eT : T.heap = h) {a : Addr} {cl : Cell} (A : Arr Z h a cl .long) {j : Int32} {x : Int64} (hj : ¬ (j < 0 ∨ cl.slots.size ≤ j.toNatClampNeg)) (hd : Dec c.code pc .lastore 1 pc') (k : ∀ T' h', Stand p l e R s m args below meth c T' (locs ++ [⟨a, j.toNatClampNeg⟩]) cells slots → T'.heap = h' → Wr h h' a j.toNatClampNeg (.long x) → Go p e below En (T'.setTop (mkF m pc' Ls st))) : Go p e below En (T.setTop (mkF m pc Ls (.long x :: .int j :: .ref a :: st))) := by
  obtain ⟨hd, rfl⟩ := hd
  obtain ⟨T', h', X', e', W, q⟩ := stJ X hx hZ eT A hj (g := mkF m pc Ls (.long x :: .int j :: .ref a :: st)) rfl rfl hd
  exact own_via q (k T' h' X' e' W)
theorem go_castore (X : Stand p l e R s m args below meth c T locs cells slots) (hx : p.tables.exec = Jvm.exec) (hZ : Z.Warmed39 s.vm) (eT : T.heap = h) {a : Addr} {cl : Cell} (A : Arr Z h a cl .char) {j : Int32} {x : Int32} (hj : ¬ (j < 0 ∨ cl.slots.size ≤ j.toNatClampNeg)) (hd : Dec c.code pc .castore 1 pc') (k : ∀ T' h', Stand p l e R s m args below meth c T' (locs ++ [⟨a, j.toNatClampNeg⟩]) cells slots → T'.heap = h' → Wr h h' a j.toNatClampNeg (.int (nar .char x)) → Go p e below En (T'.setTop (mkF m pc' Ls st))) : Go p e below En (T.setTop (mkF m pc Ls (.int x :: .int j :: .ref a :: st))) := by
  obtain ⟨hd, rfl⟩ := hd
  obtain ⟨T', h', X', e', W, q⟩ := stC X hx hZ eT A hj (g := mkF m pc Ls (.int x :: .int j :: .ref a :: st)) rfl rfl hd
  exact own_via q (k T' h' X' e' W)
theorem go_bastore (X : Stand p l e R s m args below meth c T locs cells slots) (hx : p.tables.exec = Jvm.exec) (hZ : Z.Warmed39 s.vm) (eT : T.heap = h) {a : Addr} {cl : Cell} (A : Arr Z h a cl .byte) {j : Int32} {x : Int32} (hj : ¬ (j < 0 ∨ cl.slots.size ≤ j.toNatClampNeg)) (hd : Dec c.code pc .bastore 1 pc') (k : ∀ T' h', Stand p l e R s m args below meth c T' (locs ++ [⟨a, j.toNatClampNeg⟩]) cells slots → T'.heap = h' → Wr h h' a j.toNatClampNeg (.int (nar .byte x)) → Go p e below En (T'.setTop (mkF m pc' Ls st))) : Go p e below En (T.setTop (mkF m pc Ls (.int x :: .int j :: .ref a :: st))) := by
  obtain ⟨hd, rfl⟩ := hd
  obtain ⟨T', h', X', e', W, q⟩ := stB X hx hZ eT A hj (g := mkF m pc Ls (.int x :: .int j :: .ref a :: st)) rfl rfl hd
  exact own_via q (k T' h' X' e' W)
theorem go_zastore (X : Stand p l e R s m args below meth c T locs cells slots) (hx : p.tables.exec = Jvm.exec) (hZ : Z.Warmed39 s.vm) (eT : T.heap = h) {a : Addr} {cl : Cell} (A : Arr Z h a cl .boolean) {j : Int32} {x : Int32} (hj : ¬ (j < 0 ∨ cl.slots.size ≤ j.toNatClampNeg)) (hd : Dec c.code pc .bastore 1 pc') (k : ∀ T' h', Stand p l e R s m args below meth c T' (locs ++ [⟨a, j.toNatClampNeg⟩]) cells slots → T'.heap = h' → Wr h h' a j.toNatClampNeg (.int (nar .boolean x)) → Go p e below En (T'.setTop (mkF m pc' Ls st))) : Go p e below En (T.setTop (mkF m pc Ls (.int x :: .int j :: .ref a :: st))) := by
  obtain ⟨hd, rfl⟩ := hd
  obtain ⟨T', h', X', e', W, q⟩ := stZ X hx hZ eT A hj (g := mkF m pc Ls (.int x :: .int j :: .ref a :: st)) rfl rfl hd
  exact own_via q (k T' h' X' e' W)
abbrev QV (h0 : Heap) : Option Value → Heap → List Loc → Prop := fun v h L => v = none ∧ h = h0 ∧ L = []
theorem go_specialP (X : Stand p l e R s m args below meth c T locs cells slots) (hx : p.tables.exec = Jvm.exec) (hZ : Z.Warmed39 s.vm) {own : String} {index : Nat} {y : MethodName} (hn : y.name = "<init>") {bytes : ByteArray} {maxL : Nat} (hown : s.vm.findClass own = some m.cls) (w1 : (Jvm.Cond.methodLink own index y).before a0 Z = true) (w2 : (Jvm.Cond.instanceMethod y).before a0 Z = true) (w3 : (Jvm.Cond.initialized y.cls).before a0 Z = true) (w4 : (Jvm.Cond.code y bytes maxL none).before a0 Z = true) (hy : y.cls ≠ "java/lang/invoke/MethodHandle" ∧ y.cls ≠ "java/lang/invoke/VarHandle") (eT : T.heap = h) {rm : Room} {a : Addr} (argsL rest : List Value) (hC : Ct l Z y bytes maxL none [] rm (.ref a :: argsL).toArray h (QV h)) {ps : List FieldType} {rt : Option FieldType} (pd : parseMethodDescriptor y.desc = some ⟨ps, rt⟩) (hl : argsL.length = ps.length) (hsize : Ls.size = c.maxLocals) {stk : List Value} (hstk : stk = argsL.reverse ++ .ref a :: rest) (W : Nat) (hW : (rest.map fun v => v.category).sum ≤ W) (hf : rm.frames + 1 ≤ R.frames) (hlo : W + (maxL + 11) + rm.locals ≤ R.locals) (hce : rm.cells = 0) (hsl : rm.slots = 0) (hrc : cells ≤ R.cells) (hrs : slots ≤ R.slots) (hd : Dec c.code pc (.invokespecial index) 3 pc') (k : ∀ T', Stand p l e R s m args below meth c T' locs cells slots → T'.heap = h → Go p e below En (T'.setTop (mkF m pc' Ls rest))) : Go p e below En (T.setTop (mkF m pc Ls stk)) :=
  go_special X hx hZ hn hown w1 w2 w3 w4 hy eT argsL rest hC pd hl hsize hstk W hW hf hlo (by rw [hce]; exact hrc) (by rw [hsl]; exact hrs) hd (fun T' v L X' hQ => by
    obtain ⟨rfl, e', rfl⟩ := hQ
    rw [hce, hsl, List.append_nil, Nat.add_zero, Nat.add_zero] at X'
    exact k T' X' e')
theorem go_virtualUp (X : Stand p l e R s m args below meth c T locs cells slots) (hx : p.tables.exec = Jvm.exec) (hZ : Z.Warmed39 s.vm) {own C owner : String} {index : Nat} {x y : MethodName} {bytes : ByteArray} {maxL : Nat} {ret : Option FieldType} (hown : s.vm.findClass own = some m.cls) (w1 : (Jvm.Cond.methodLink own index x).before a0 Z = true) (w2 : (Jvm.Cond.sameMethod x.cls owner x.name x.desc).before a0 Z = true) (w7 : (Jvm.Cond.declares ⟨owner, x.name, x.desc⟩).before a0 Z = true) (w5 : (Jvm.Cond.selects C x y).before a0 Z = true) (w6 : (Jvm.Cond.instanceMethod y).before a0 Z = true) (w3 : (Jvm.Cond.initialized y.cls).before a0 Z = true) (w4 : (Jvm.Cond.code y bytes maxL ret).before a0 Z = true) (hy : owner ≠ "java/lang/invoke/MethodHandle" ∧ owner ≠ "java/lang/invoke/VarHandle") (eT : T.heap = h) {rm : Room} {a : Addr} (E : Exa Z h a C) (argsL rest : List Value) {Qc : Option Value → Heap → List Loc → Prop} (hC : Ct l Z y bytes maxL ret [] rm (.ref a :: argsL).toArray h Qc) {ps : List FieldType} {rt : Option FieldType} (pd : parseMethodDescriptor x.desc = some ⟨ps, rt⟩) (hl : argsL.length = ps.length) (hsize : Ls.size = c.maxLocals) {stk : List Value} (hstk : stk = argsL.reverse ++ .ref a :: rest) (W : Nat) (hW : (rest.map fun v => v.category).sum ≤ W) (hf : rm.frames + 1 ≤ R.frames) (hlo : W + (maxL + 11) + rm.locals ≤ R.locals) (hce : cells + rm.cells ≤ R.cells) (hsl : slots + rm.slots ≤ R.slots) (hd : Dec c.code pc (.invokevirtual index) 3 pc') (k : ∀ T' v L, Stand p l e R s m args below meth c T' (locs ++ L) (cells + rm.cells) (slots + rm.slots) → Qc v T'.heap L → Go p e below En (T'.setTop (mkF m pc' Ls (v.toList ++ rest)))) : Go p e below En (T.setTop (mkF m pc Ls stk)) := by
  obtain ⟨hd, rfl⟩ := hd
  obtain ⟨cq, kq, qa, qb, qc⟩ := isOf hZ eT E
  obtain ⟨v, _, ⟨T', L', k', n'⟩, -, X', ⟨L, hQ, l1, y1, z1⟩, q⟩ := X.virtualBackUp hx hown (mvT hZ w1) (mvT hZ w2) (mvT hZ w7) hy (mvT hZ w5) (mvT hZ w6) (backOf (W := W) hC hZ w4 w3 hf hlo) qa qc (g := mkF m pc Ls stk) rfl hsize (Steps.refl _) (argsL := argsL) (rest := rest) (lenOf pd hl) hstk (by show 2 * 0 + _ ≤ _; omega) hd (fun _ _ => ⟨rfl, eT, hce, hsl⟩)
  dsimp only [Pt.U, Pt.locs, Pt.cells, Pt.slots] at X' l1 y1 z1 q hQ
  subst l1 y1 z1
  exact own_via (fun _ => q.trans) (k T' v L X' hQ)
def PutOk (Z : State) (a0 : Array Value) (h : Heap) (a : Addr) (O n d : String) : Prop := ∃ C kk, Exa Z h a C ∧ (Jvm.Cond.lays C O n d).before a0 Z = true ∧ (Jvm.Cond.instantiable C kk).before a0 Z = true
theorem go_putN (X : Stand p l e R s m args below meth c T locs cells slots) (hx : p.tables.exec = Jvm.exec) (hZ : Z.Warmed39 s.vm) {own R0 O n d host : String} {index : Nat} {ty : FieldType} (hown : s.vm.findClass own = some m.cls) (w : (Jvm.Cond.fieldLink own index R0 n d).before a0 Z = true ∨ (Jvm.Cond.fieldLinkNest own index R0 n d host).before a0 Z = true) (via : Via Z R0 O n d) (eT : T.heap = h) {a : Addr} {v old : Value} (F : Fld Z h a O n d old) (P : PutOk Z a0 h a O n d) (hty : parseFieldDescriptor d = some ty) (hn : narrow ty v = v) (hf : fits ty v = true) (hd : Dec c.code pc (.putfield index) 3 pc') (k : ∀ T' h', Stand p l e R s m args below meth c T' (locs ++ [⟨a, Jvm.RoadKit.slotOf Z O n d⟩]) cells slots → T'.heap = h' → Wr h h' a (Jvm.RoadKit.slotOf Z O n d) v → Go p e below En (T'.setTop (mkF m pc' Ls st))) : Go p e below En (T.setTop (mkF m pc Ls (v :: .ref a :: st))) := by
  obtain ⟨C, kk, E, L, wi⟩ := P
  exact go_putF X hx hZ hown w via eT F E (Or.inl L) wi hty hn hf hd k
theorem own_staK {C n d : String} {v : Value} {h' : Heap} (F : Sta Z h C n d v) (K : Keep h h' []) : Sta Z h' C n d v := by
  obtain ⟨cf, i, k, f, st, cell, h1, h2, h3, h4, h5, r⟩ := F
  exact ⟨cf, i, k, f, st, cell, h1, h2, h3, h4, K.2.1 _ _ h5 (by simp), r⟩
theorem own_ldcW (X : Stand p l e R s m args below meth c T locs cells slots) (hexec : p.tables.exec = Jvm.exec) {own : String} {index : Nat} {v : Int32} (hown : s.vm.findClass own = some m.cls) (hconst : (Jvm.Cond.constant own index v).before args s = true) {g : JFrame} (hg : g.method = m) (hdg : decode c.code g.pc = .ok (.ldc_w index, 3)) :
    ∀ target, Steps p.tables e below (T.setTop { g with pc := g.pc + 3, stack := .int v :: g.stack }) target → Steps p.tables e below (T.setTop g) target := by
  obtain ⟨k, cf, bytes, hk, hcf, hcp, hb⟩ := Cond.constant_spec hown hconst
  obtain ⟨k', hk', he⟩ := X.warmed.alike.2.2 _ _ hk
  intro target hrest
  subst hg
  jvm_step X.here [hexec, hdg, ldc_w.wp_int (s := T) (f := g) X.here.top hk' (by rw [he]; exact hcf) hcp, hb]
  exact hrest
theorem go_ldcw (X : Stand p l e R s m args below meth c T locs cells slots) (hx : p.tables.exec = Jvm.exec) (hZ : Z.Warmed39 s.vm) {own : String} {index : Nat} {v : Int32} (hown : s.vm.findClass own = some m.cls) (w : (Jvm.Cond.constant own index v).before a0 Z = true) (hd : Dec c.code pc (.ldc_w index) 3 pc') (k : Go p e below En (T.setTop (mkF m pc' Ls (.int v :: st)))) : Go p e below En (T.setTop (mkF m pc Ls st)) := by
  obtain ⟨hd, rfl⟩ := hd
  exact own_via (fun t => own_ldcW X hx hown (mv hZ w) (g := mkF m pc Ls st) rfl hd t) k
theorem go_baload (X : Stand p l e R s m args below meth c T locs cells slots) (hx : p.tables.exec = Jvm.exec) (hZ : Z.Warmed39 s.vm) (eT : T.heap = h) {a : Addr} {cl : Cell} (A : Arr Z h a cl .byte) {j w : Int32} (hj : ¬ (j < 0 ∨ cl.slots.size ≤ j.toNatClampNeg)) (hv : cl.slots[j.toNatClampNeg]? = some (.int w)) (hd : Dec c.code pc .baload 1 pc') (k : Go p e below En (T.setTop (mkF m pc' Ls (.int w :: st)))) : Go p e below En (T.setTop (mkF m pc Ls (.int j :: .ref a :: st))) := by
  obtain ⟨hd, rfl⟩ := hd
  exact own_via (fun t q => X.baloadBytes hx (j := j) (v := (.int w)) (by rw [eT]; exact A.1) (State.isArrayOf_alike hZ.alike A.2.1) A.2.2 hj hv (g := mkF m pc Ls (.int j :: .ref a :: st)) rfl rfl hd _ q) k
theorem own_rep {n : Nat} {d : Value} : ∀ i, (List.replicate n d).getD i d = ([] : List Value).getD i d := fun i => by
  simp only [List.getD_eq_getElem?_getD, List.getElem?_replicate, List.getElem?_nil, Option.getD_none]
  split <;> rfl
theorem go_iastoreV (X : Stand p l e R s m args below meth c T locs cells slots) (hx : p.tables.exec = Jvm.exec) (hZ : Z.Warmed39 s.vm) (eT : T.heap = h) {a : Addr} {kc : ClassId} {z : Int32} {vs : List Value} {d : Value} (F : Arv Z h a kc .int z vs d) {j : Int32} {x : Int32} (q : ¬ j < 0 ∧ j < z) (i : Nat) (hj : j.toNatClampNeg = i) (hl : i < vs.length) (hd : Dec c.code pc .iastore 1 pc') (k : ∀ T' h', Stand p l e R s m args below meth c T' (locs ++ [⟨a, j.toNatClampNeg⟩]) cells slots → T'.heap = h' → Wr h h' a j.toNatClampNeg (.int x) → Arv Z h' a kc .int z (vs.set i (.int x)) d → Go p e below En (T'.setTop (mkF m pc' Ls st))) : Go p e below En (T.setTop (mkF m pc Ls (.int x :: .int j :: .ref a :: st))) := by
  obtain ⟨c1, A, q1, S, q3, H, G⟩ := F
  exact go_iastore X hx hZ eT A (inb_of S q) hd (fun T' h' X' e' W => k T' h' X' e' W (Arv.set A q1 S q3 H G rfl W i hj hl))
theorem go_lastoreV (X : Stand p l e R s m args below meth c T locs cells slots) (hx : p.tables.exec = Jvm.exec) (hZ : Z.Warmed39 s.vm) (eT : T.heap = h) {a : Addr} {kc : ClassId} {z : Int32} {vs : List Value} {d : Value} (F : Arv Z h a kc .long z vs d) {j : Int32} {x : Int64} (q : ¬ j < 0 ∧ j < z) (i : Nat) (hj : j.toNatClampNeg = i) (hl : i < vs.length) (hd : Dec c.code pc .lastore 1 pc') (k : ∀ T' h', Stand p l e R s m args below meth c T' (locs ++ [⟨a, j.toNatClampNeg⟩]) cells slots → T'.heap = h' → Wr h h' a j.toNatClampNeg (.long x) → Arv Z h' a kc .long z (vs.set i (.long x)) d → Go p e below En (T'.setTop (mkF m pc' Ls st))) : Go p e below En (T.setTop (mkF m pc Ls (.long x :: .int j :: .ref a :: st))) := by
  obtain ⟨c1, A, q1, S, q3, H, G⟩ := F
  exact go_lastore X hx hZ eT A (inb_of S q) hd (fun T' h' X' e' W => k T' h' X' e' W (Arv.set A q1 S q3 H G rfl W i hj hl))
theorem go_bastoreV (X : Stand p l e R s m args below meth c T locs cells slots) (hx : p.tables.exec = Jvm.exec) (hZ : Z.Warmed39 s.vm) (eT : T.heap = h) {a : Addr} {kc : ClassId} {z : Int32} {vs : List Value} {d : Value} (F : Arv Z h a kc .byte z vs d) {j : Int32} {x : Int32} (q : ¬ j < 0 ∧ j < z) (i : Nat) (hj : j.toNatClampNeg = i) (hl : i < vs.length) (hd : Dec c.code pc .bastore 1 pc') (k : ∀ T' h', Stand p l e R s m args below meth c T' (locs ++ [⟨a, j.toNatClampNeg⟩]) cells slots → T'.heap = h' → Wr h h' a j.toNatClampNeg (.int (nar .byte x)) → Arv Z h' a kc .byte z (vs.set i (.int (nar .byte x))) d → Go p e below En (T'.setTop (mkF m pc' Ls st))) : Go p e below En (T.setTop (mkF m pc Ls (.int x :: .int j :: .ref a :: st))) := by
  obtain ⟨c1, A, q1, S, q3, H, G⟩ := F
  exact go_bastore X hx hZ eT A (inb_of S q) hd (fun T' h' X' e' W => k T' h' X' e' W (Arv.set A q1 S q3 H G (fits_nar_byte _) W i hj hl))
theorem go_castoreV (X : Stand p l e R s m args below meth c T locs cells slots) (hx : p.tables.exec = Jvm.exec) (hZ : Z.Warmed39 s.vm) (eT : T.heap = h) {a : Addr} {kc : ClassId} {z : Int32} {vs : List Value} {d : Value} (F : Arv Z h a kc .char z vs d) {j : Int32} {x : Int32} (q : ¬ j < 0 ∧ j < z) (i : Nat) (hj : j.toNatClampNeg = i) (hl : i < vs.length) (hd : Dec c.code pc .castore 1 pc') (k : ∀ T' h', Stand p l e R s m args below meth c T' (locs ++ [⟨a, j.toNatClampNeg⟩]) cells slots → T'.heap = h' → Wr h h' a j.toNatClampNeg (.int (nar .char x)) → Arv Z h' a kc .char z (vs.set i (.int (nar .char x))) d → Go p e below En (T'.setTop (mkF m pc' Ls st))) : Go p e below En (T.setTop (mkF m pc Ls (.int x :: .int j :: .ref a :: st))) := by
  obtain ⟨c1, A, q1, S, q3, H, G⟩ := F
  exact go_castore X hx hZ eT A (inb_of S q) hd (fun T' h' X' e' W => k T' h' X' e' W (Arv.set A q1 S q3 H G (fits_nar_char _) W i hj hl))
theorem go_aastoreV (X : Stand p l e R s m args below meth c T locs cells slots) (hx : p.tables.exec = Jvm.exec) (hZ : Z.Warmed39 s.vm) (eT : T.heap = h) {a y : Addr} {C : String} {kc : ClassId} {z : Int32} {vs : List Value} {d : Value} (F : Arv Z h a kc (.object C) z vs d) (O : Ovr Z kc C) (I : Ins Z h y C true) {j : Int32} (q : ¬ j < 0 ∧ j < z) (i : Nat) (hj : j.toNatClampNeg = i) (hl : i < vs.length) (hd : Dec c.code pc .aastore 1 pc') (k : ∀ T' h', Stand p l e R s m args below meth c T' (locs ++ [⟨a, j.toNatClampNeg⟩]) cells slots → T'.heap = h' → Wr h h' a j.toNatClampNeg (.ref y) → Arv Z h' a kc (.object C) z (vs.set i (.ref y)) d → Go p e below En (T'.setTop (mkF m pc' Ls st))) : Go p e below En (T.setTop (mkF m pc Ls (.ref y :: .int j :: .ref a :: st))) := by
  obtain ⟨hd, rfl⟩ := hd
  obtain ⟨c1, A, q1, S, q3, H, G⟩ := F
  obtain ⟨T', h', X', e', W, r⟩ := stR X hx hZ eT A (inb_of S q) rfl (Sto.of A (by rw [q1]; exact O) I) (g := mkF m pc Ls (.ref y :: .int j :: .ref a :: st)) rfl rfl hd
  exact own_via r (k T' h' X' e' W (Arv.set A q1 S q3 H G rfl W i hj hl))
theorem go_newR (X : Stand p l e R s m args below meth c T locs cells slots) (hx : p.tables.exec = Jvm.exec) (hZ : Z.Warmed39 s.vm) {own C : String} {index : Nat} (hown : s.vm.findClass own = some m.cls) (w1 : (Jvm.Cond.classLink own index C).before a0 Z = true) (w2 : (Jvm.Cond.arrayOver (.object C)).before a0 Z = true) (eT : T.heap = h) (hd : Dec c.code pc (.anewarray index) 3 pc') {n : Int32} (hn : ¬ n < 0) (cap : Nat) (hcap : n.toNatClampNeg ≤ cap) (hb : cap * 8 ≤ 536870912) (hc : cells + 1 ≤ R.cells) (hl : slots + cap ≤ R.slots) (k : ∀ T' h' cA (a : Addr), a = h.size → Stand p l e R s m args below meth c T' locs (cells + 1) (slots + cap) → T'.heap = h' → Ext h h' → Arr Z h' a (newA cA (.object C) n) (.object C) → Ovr Z cA C → Go p e below En (T'.setTop (mkF m pc' Ls (.ref a :: st)))) : Go p e below En (T.setTop (mkF m pc Ls (.int n :: st))) := by
  obtain ⟨hd, rfl⟩ := hd
  obtain ⟨T', h', cA, X', e', E, A, O, q⟩ := newR X hx hZ hown w1 w2 eT (g := mkF m pc Ls (.int n :: st)) rfl hd rfl hn hcap hb hc hl
  exact own_via q (k T' h' cA _ rfl X' e' E A O)
theorem go_ialoadV (X : Stand p l e R s m args below meth c T locs cells slots) (hx : p.tables.exec = Jvm.exec) (hZ : Z.Warmed39 s.vm) (eT : T.heap = h) {a : Addr} {kc : ClassId} {z : Int32} {vs : List Value} {d : Value} (F : Arv Z h a kc .int z vs d) {j : Int32} {w : Int32} (q : ¬ j < 0 ∧ j < z) (hv : vs.getD j.toNatClampNeg d = .int w) (hd : Dec c.code pc .iaload 1 pc') (k : Go p e below En (T.setTop (mkF m pc' Ls (.int w :: st)))) : Go p e below En (T.setTop (mkF m pc Ls (.int j :: .ref a :: st))) := by
  obtain ⟨c1, A, q1, S, q3, H, G⟩ := F
  have hin := inb_of S q
  exact go_iaload X hx hZ eT A hin (by rw [H _ (Nat.lt_of_not_le fun r => hin (Or.inr r)), hv]) hd k
theorem go_laloadV (X : Stand p l e R s m args below meth c T locs cells slots) (hx : p.tables.exec = Jvm.exec) (hZ : Z.Warmed39 s.vm) (eT : T.heap = h) {a : Addr} {kc : ClassId} {z : Int32} {vs : List Value} {d : Value} (F : Arv Z h a kc .long z vs d) {j : Int32} {w : Int64} (q : ¬ j < 0 ∧ j < z) (hv : vs.getD j.toNatClampNeg d = .long w) (hd : Dec c.code pc .laload 1 pc') (k : Go p e below En (T.setTop (mkF m pc' Ls (.long w :: st)))) : Go p e below En (T.setTop (mkF m pc Ls (.int j :: .ref a :: st))) := by
  obtain ⟨c1, A, q1, S, q3, H, G⟩ := F
  have hin := inb_of S q
  exact go_laload X hx hZ eT A hin (by rw [H _ (Nat.lt_of_not_le fun r => hin (Or.inr r)), hv]) hd k
theorem go_baloadV (X : Stand p l e R s m args below meth c T locs cells slots) (hx : p.tables.exec = Jvm.exec) (hZ : Z.Warmed39 s.vm) (eT : T.heap = h) {a : Addr} {kc : ClassId} {z : Int32} {vs : List Value} {d : Value} (F : Arv Z h a kc .byte z vs d) {j : Int32} {w : Int32} (q : ¬ j < 0 ∧ j < z) (hv : vs.getD j.toNatClampNeg d = .int w) (hd : Dec c.code pc .baload 1 pc') (k : Go p e below En (T.setTop (mkF m pc' Ls (.int w :: st)))) : Go p e below En (T.setTop (mkF m pc Ls (.int j :: .ref a :: st))) := by
  obtain ⟨c1, A, q1, S, q3, H, G⟩ := F
  have hin := inb_of S q
  exact go_baload X hx hZ eT A hin (by rw [H _ (Nat.lt_of_not_le fun r => hin (Or.inr r)), hv]) hd k
theorem go_aaloadV (X : Stand p l e R s m args below meth c T locs cells slots) (hx : p.tables.exec = Jvm.exec) (hZ : Z.Warmed39 s.vm) (eT : T.heap = h) {a : Addr} {kc : ClassId} {ty : FieldType} (hty : ty.isReference = true) {z : Int32} {vs : List Value} {d : Value} (F : Arv Z h a kc ty z vs d) {j : Int32} {v : Value} (q : ¬ j < 0 ∧ j < z) (hv : vs.getD j.toNatClampNeg d = v) (hd : Dec c.code pc .aaload 1 pc') (k : Go p e below En (T.setTop (mkF m pc' Ls (v :: st)))) : Go p e below En (T.setTop (mkF m pc Ls (.int j :: .ref a :: st))) := by
  obtain ⟨hd, rfl⟩ := hd
  obtain ⟨c1, A, q1, S, q3, H, G⟩ := F
  have hin := inb_of S q
  exact own_via (fun t r => X.aaload hx (j := j) (v := v) (by rw [eT]; exact A.1) (State.isArrayOf_alike hZ.alike A.2.1) hty A.2.2 hin (by rw [H _ (Nat.lt_of_not_le fun r => hin (Or.inr r)), hv]) (g := mkF m pc Ls (.int j :: .ref a :: st)) rfl rfl hd _ r) k
end OwnGo
def own_pick {α : Type} (t : Int32) (a b c d : α) : α := if t = 0 then a else if t = 1 then b else if t = 2 then c else d
def own_add (ks : List Int64) (k : Int64) : List Int64 := if k ∈ ks then ks else ks ++ [k]
def own_hash (k : Int64) : Int32 := (XT.ushrL (k * (-7046029254386353131 : Int64)) ((64 : Int32) - (10 : Int32))).toInt32
def own_H (k : Int64) : Nat := (k * (-7046029254386353131 : Int64)).toBitVec.toNat / 2 ^ 54
theorem own_Hlt (k : Int64) : own_H k < 1024 := by
  unfold own_H
  have := (k * (-7046029254386353131 : Int64)).toBitVec.isLt
  omega
theorem own_hashN (k : Int64) : own_hash k = Int32.ofNat (own_H k) := by
  have hlt := own_Hlt k
  unfold own_hash
  unfold own_H at *
  generalize k * (-7046029254386353131 : Int64) = x at *
  have e1 : XT.ushrL x ((64 : Int32) - (10 : Int32)) = (x.toUInt64 >>> (54 : UInt64)).toInt64 := rfl
  rw [e1]
  apply Int32.toBitVec_inj.mp
  apply BitVec.eq_of_toNat_eq
  have e2 : ((x.toUInt64 >>> (54 : UInt64)).toInt64.toInt32).toBitVec.toNat = (x.toBitVec.toNat >>> 54) % 2 ^ 32 := by
    have e4 : ∀ z : Int64, z.toInt32.toBitVec.toNat = z.toBitVec.toNat % 2 ^ 32 := by
      intro z
      show (z.toBitVec.signExtend 32).toNat = _
      rw [BitVec.signExtend_eq_setWidth_of_le _ (by decide), BitVec.toNat_setWidth]
    rw [e4]
    rfl
  rw [e2, Nat.shiftRight_eq_div_pow]
  have e3 : (Int32.ofNat (x.toBitVec.toNat / 2 ^ 54)).toBitVec.toNat = (x.toBitVec.toNat / 2 ^ 54) % 2 ^ 32 := by simp
  rw [e3]
theorem own_hashN0 (k : Int64) : own_hash k = Int32.ofNat ((own_H k + 0) % 1024) := by rw [own_hashN, Nat.add_zero, Nat.mod_eq_of_lt (own_Hlt k)]
theorem own_toInt {n : Nat} (h : n < 2 ^ 31) : (Int32.ofNat n).toInt = n := Int32.toInt_ofNat_small h
theorem own_clamp {n : Nat} (h : n < 2 ^ 31) : (Int32.ofNat n).toNatClampNeg = n := by
  show (Int32.ofNat n).toInt.toNat = n
  rw [own_toInt h]; rfl
theorem own_succ {n : Nat} : Int32.ofNat n + 1 = Int32.ofNat (n + 1) := by
  rw [Int32.ofNat_add]; rfl
theorem own_pred {n : Nat} : Int32.ofNat n + 1 - 1 = Int32.ofNat n := by
  apply Int32.toBitVec_inj.mp
  simp
theorem own_ltN {t : Nat} (h : t < 1024) (h' : t < 2 ^ 31) : Int32.ofNat t < (1024 : Int32) := by
  rw [Int32.lt_iff_toInt_lt, own_toInt h', show (1024 : Int32).toInt = 1024 from rfl]; omega
theorem own_cmp (x y : Int64) : XT.cmpL x y = 0 ↔ x = y := by
  unfold XT.cmpL
  by_cases q : y < x
  · simp only [q, if_true]
    constructor
    · intro r; exact absurd r (by decide)
    · intro r; subst r; exact absurd q (by simp)
  · simp only [q, if_false]
    by_cases r : x = y
    · simp [r]
    · simp only [r, if_false]
      constructor
      · intro z; exact absurd z (by decide)
      · intro z; exact absurd z (by simp)
theorem own_nextF : ∀ q : Fin 1024, (Int32.ofNat q.val + 1) &&& ((1024 : Int32) - 1) = Int32.ofNat ((q.val + 1) % 1024) := by decide +kernel
theorem own_next {h d : Nat} : (Int32.ofNat ((h + d) % 1024) + (1 : Int32)) &&& ((1024 : Int32) - (1 : Int32)) = Int32.ofNat ((h + (d + 1)) % 1024) := by
  rw [own_nextF ⟨(h + d) % 1024, Nat.mod_lt _ (by decide)⟩]
  congr 1
  show ((h + d) % 1024 + 1) % 1024 = _
  omega
theorem own_newI {cA : ClassId} {j : Nat} (hj : j < 1024) : (newA cA .int 1024).slots[j]? = some (.int 0) := by
  show (Array.replicate (1024 : Int32).toNatClampNeg (defaultValue .int))[j]? = some (.int 0)
  rw [Array.getElem?_replicate, if_pos (show j < (1024 : Int32).toNatClampNeg from hj)]; rfl
theorem own_newJ {cA : ClassId} {j : Nat} (hj : j < 1024) : (newA cA .long 1024).slots[j]? = some (.long 0) := by
  show (Array.replicate (1024 : Int32).toNatClampNeg (defaultValue .long))[j]? = some (.long 0)
  rw [Array.getElem?_replicate, if_pos (show j < (1024 : Int32).toNatClampNeg from hj)]; rfl
/-- the table's law: P t is the place of the t-th key -/
def own_inv (K : Nat → Int64) (N : Nat → Int32) (P : Nat → Nat) (ks : List Int64) : Prop :=
  ks.length ≤ 4 ∧ ks.Nodup ∧
  (∀ t, t < ks.length → P t < 1024 ∧ N (P t) = Int32.ofNat t ∧ K (P t) = ks.getD t 0 ∧
    ∃ d, d < 1024 ∧ P t = (own_H (ks.getD t 0) + d) % 1024 ∧ ∀ d', d' < d → ∃ u, u < ks.length ∧ P u = (own_H (ks.getD t 0) + d') % 1024) ∧
  (∀ j, j < 1024 → N j = -1 ∨ ∃ t, t < ks.length ∧ P t = j)
theorem own_inv0 {K : Nat → Int64} {P : Nat → Nat} : own_inv K (fun _ => -1) P [] :=
  ⟨by simp, by simp, fun t ht => absurd ht (by simp), fun j _ => Or.inl rfl⟩
theorem own_php (n : Nat) : ∀ (f : Nat → Nat), (∀ d, d ≤ n → f d < n) → ∃ i j, i < j ∧ j ≤ n ∧ f i = f j := by
  induction n with
  | zero => intro f hf; exact absurd (hf 0 (Nat.le_refl _)) (by omega)
  | succ n ih =>
    intro f hf
    by_cases q : ∃ i, i ≤ n ∧ f i = f (n + 1)
    · obtain ⟨i, h1, h2⟩ := q
      exact ⟨i, n + 1, by omega, Nat.le_refl _, h2⟩
    · have q' : ∀ i, i ≤ n → f i ≠ f (n + 1) := fun i hi e => q ⟨i, hi, e⟩
      obtain ⟨i, j, h1, h2, h3⟩ := ih (fun d => if f d = n then f (n + 1) else f d) (by
        intro d hd
        have a1 := hf d (by omega)
        have a2 := hf (n + 1) (by omega)
        have a3 := q' d hd
        by_cases r : f d = n
        · simp only [r, if_true]; omega
        · simp only [r, if_false]; omega)
      refine ⟨i, j, h1, by omega, ?_⟩
      have b1 := q' i (by omega)
      have b2 := q' j (by omega)
      by_cases r1 : f i = n <;> by_cases r2 : f j = n
      · omega
      · simp only [r1, r2, if_true, if_false] at h3; omega
      · simp only [r1, r2, if_true, if_false] at h3; omega
      · simp only [r1, r2, if_false] at h3; exact h3
theorem own_least {p : Nat → Prop} : ∀ n, p n → ∃ m, m ≤ n ∧ p m ∧ ∀ i, i < m → ¬ p i := by
  intro n
  induction n using Nat.strongRecOn with
  | ind n ih =>
    intro hn
    by_cases q : ∃ i, i < n ∧ p i
    · obtain ⟨i, h1, h2⟩ := q
      obtain ⟨m, h3, h4⟩ := ih i h1 h2
      exact ⟨m, by omega, h4⟩
    · exact ⟨n, Nat.le_refl _, hn, fun i hi h => q ⟨i, hi, h⟩⟩
theorem own_free {K : Nat → Int64} {N : Nat → Int32} {P : Nat → Nat} {ks : List Int64} (I : own_inv K N P ks) (h : Nat) : ∃ d, d ≤ ks.length ∧ N ((h + d) % 1024) = -1 := by
  obtain ⟨i1, -, -, i4⟩ := I
  by_cases q : ∃ d, d ≤ ks.length ∧ N ((h + d) % 1024) = -1
  · exact q
  · exfalso
    have hex : ∀ d, ∃ t, d ≤ ks.length → t < ks.length ∧ P t = (h + d) % 1024 := fun d => by
      by_cases r : d ≤ ks.length
      · rcases i4 ((h + d) % 1024) (Nat.mod_lt _ (by decide)) with z | ⟨t, z1, z2⟩
        · exact absurd ⟨d, r, z⟩ q
        · exact ⟨t, fun _ => ⟨z1, z2⟩⟩
      · exact ⟨0, fun z => absurd z r⟩
    obtain ⟨i, j, h1, h2, h3⟩ := own_php ks.length (fun d => Classical.choose (hex d)) (fun d hd => (Classical.choose_spec (hex d) hd).1)
    have e1 := (Classical.choose_spec (hex i) (by omega)).2
    have e2 := (Classical.choose_spec (hex j) h2).2
    have h3' : Classical.choose (hex i) = Classical.choose (hex j) := h3
    rw [h3', e2] at e1
    omega
theorem own_getD {ks : List Int64} {k : Int64} (h : k ∈ ks) : ∃ t, t < ks.length ∧ ks.getD t 0 = k := by
  obtain ⟨t, ht, e⟩ := List.getElem_of_mem h
  exact ⟨t, ht, by rw [List.getD_eq_getElem?_getD, List.getElem?_eq_getElem ht]; exact e⟩
theorem own_neg {t : Nat} (h : t < 2 ^ 31) : Int32.ofNat t ≠ -1 := fun e => by
  have := congrArg Int32.toInt e
  rw [own_toInt h, show (-1 : Int32).toInt = -1 from rfl] at this
  omega
/-- where the probing stops -/
theorem own_stop {K : Nat → Int64} {N : Nat → Int32} {P : Nat → Nat} {ks : List Int64} (I : own_inv K N P ks) (k : Int64) :
    ∃ D, D < 1024 ∧ (∀ d, d < D → ∃ t, t < ks.length ∧ P t = (own_H k + d) % 1024 ∧ ks.getD t 0 ≠ k) ∧
      ((N ((own_H k + D) % 1024) = -1 ∧ k ∉ ks) ∨ ∃ t, t < ks.length ∧ P t = (own_H k + D) % 1024 ∧ ks.getD t 0 = k) := by
  obtain ⟨d0, hd0, hf⟩ := own_free I (own_H k)
  obtain ⟨D, hD, hs, hl⟩ := own_least (p := fun d => N ((own_H k + d) % 1024) = -1 ∨ ∃ t, t < ks.length ∧ P t = (own_H k + d) % 1024 ∧ ks.getD t 0 = k) d0 (Or.inl hf)
  obtain ⟨i1, i2, i3, i4⟩ := I
  refine ⟨D, by omega, fun d hd => ?_, ?_⟩
  · have := hl d hd
    rcases i4 ((own_H k + d) % 1024) (Nat.mod_lt _ (by decide)) with z | ⟨t, z1, z2⟩
    · exact absurd (Or.inl z) this
    · exact ⟨t, z1, z2, fun e => this (Or.inr ⟨t, z1, z2, e⟩)⟩
  · rcases hs with hs | hs
    · left
      refine ⟨hs, fun hk => ?_⟩
      obtain ⟨t, ht, e⟩ := own_getD hk
      obtain ⟨p1, p2, p3, d, p4, p5, p6⟩ := i3 t ht
      rw [e] at p5 p6
      rcases Nat.lt_trichotomy D d with q | q | q
      · obtain ⟨u, u1, u2⟩ := p6 D q
        have := (i3 u u1).2.1
        rw [u2, hs] at this
        exact own_neg (by omega) this.symm
      · rw [← q] at p5
        rw [p5, hs] at p2
        exact own_neg (by omega) p2.symm
      · exact hl d q (Or.inr ⟨t, ht, p5, e⟩)
    · exact Or.inr hs
theorem own_occ {K : Nat → Int64} {N : Nat → Int32} {P : Nat → Nat} {ks : List Int64} {t j : Nat} (I : own_inv K N P ks) (ht : t < ks.length) (hP : P t = j) : ¬ N j = -1 := by
  have := (I.2.2.1 t ht).2.1
  rw [hP] at this
  rw [this]
  exact own_neg (by have := I.1; omega)
theorem own_foundK {K : Nat → Int64} {N : Nat → Int32} {P : Nat → Nat} {ks : List Int64} {t j : Nat} {k : Int64} (I : own_inv K N P ks) (ht : t < ks.length) (hP : P t = j) (hk : ks.getD t 0 = k) : K j = k := by
  have := (I.2.2.1 t ht).2.2.1
  rw [hP, hk] at this
  exact this
theorem own_otherK {K : Nat → Int64} {N : Nat → Int32} {P : Nat → Nat} {ks : List Int64} {t j : Nat} {k : Int64} (I : own_inv K N P ks) (ht : t < ks.length) (hP : P t = j) (hk : ks.getD t 0 ≠ k) : ¬ K j = k := by
  have := (I.2.2.1 t ht).2.2.1
  rw [hP] at this
  rw [this]
  exact hk
theorem own_mem {K : Nat → Int64} {N : Nat → Int32} {P : Nat → Nat} {ks : List Int64} {t : Nat} {k : Int64} (I : own_inv K N P ks) (ht : t < ks.length) (hk : ks.getD t 0 = k) : k ∈ ks := by
  rw [← hk, List.getD_eq_getElem?_getD, List.getElem?_eq_getElem ht]
  exact List.getElem_mem ht
theorem own_idxAt {ks : List Int64} (hn : ks.Nodup) {t : Nat} (ht : t < ks.length) : ks.idxOf (ks.getD t 0) = t := by
  rw [List.getD_eq_getElem?_getD, List.getElem?_eq_getElem ht]
  exact List.Nodup.idxOf_getElem hn t ht
theorem own_found {K : Nat → Int64} {N : Nat → Int32} {P : Nat → Nat} {ks : List Int64} {t j : Nat} {k : Int64} (I : own_inv K N P ks) (ht : t < ks.length) (hP : P t = j) (hk : ks.getD t 0 = k) : N j = Int32.ofNat (ks.idxOf k) := by
  rw [← hP, (I.2.2.1 t ht).2.1, ← hk, own_idxAt I.2.1 ht]
theorem own_addIn {ks : List Int64} {k : Int64} (h : k ∈ ks) : own_add ks k = ks := by unfold own_add; simp [h]
theorem own_addNot {ks : List Int64} {k : Int64} (h : k ∉ ks) : own_add ks k = ks ++ [k] := by unfold own_add; simp [h]
theorem own_idxNot {ks : List Int64} {k : Int64} (h : k ∉ ks) : ks.length = ks.idxOf k := (List.idxOf_eq_length h).symm
theorem own_grow {K : Nat → Int64} {N : Nat → Int32} {P : Nat → Nat} {ks : List Int64} {k : Int64} {D : Nat} (I : own_inv K N P ks) (hD : D < 1024)
    (hp : ∀ d, d < D → ∃ t, t < ks.length ∧ P t = (own_H k + d) % 1024 ∧ ks.getD t 0 ≠ k) (hf : N ((own_H k + D) % 1024) = -1) (hk : k ∉ ks) (hl : k ∈ ks ∨ ks.length ≤ 3) :
    own_inv (fun i => if i = (own_H k + D) % 1024 then k else K i) (fun i => if i = (own_H k + D) % 1024 then Int32.ofNat ks.length else N i) (fun t => if t = ks.length then (own_H k + D) % 1024 else P t) (ks ++ [k]) := by
  have hl' : ks.length ≤ 3 := hl.resolve_left hk
  have I' := I
  obtain ⟨i1, i2, i3, i4⟩ := I
  have old : ∀ t, t < ks.length → (ks ++ [k]).getD t 0 = ks.getD t 0 := fun t ht => by
    rw [List.getD_eq_getElem?_getD, List.getD_eq_getElem?_getD, List.getElem?_append_left ht]
  have new : (ks ++ [k]).getD ks.length 0 = k := by
    rw [List.getD_eq_getElem?_getD, List.getElem?_append_right (Nat.le_refl _)]; simp
  have hne : ∀ t, t < ks.length → P t ≠ (own_H k + D) % 1024 := fun t ht e => own_occ I' ht e hf
  refine ⟨by simp; omega, ?_, fun t ht => ?_, fun j hj => ?_⟩
  · rw [List.nodup_append]
    refine ⟨i2, by simp, fun a ha b hb e => ?_⟩
    simp at hb
    exact hk (hb ▸ e ▸ ha)
  · rw [List.length_append, List.length_singleton] at ht
    by_cases q : t = ks.length
    · subst q
      rw [new]
      simp only [if_true]
      refine ⟨Nat.mod_lt _ (by decide), by first | rfl | trivial, by first | rfl | trivial, D, hD, rfl, fun d' hd' => ?_⟩
      obtain ⟨u, u1, u2, -⟩ := hp d' hd'
      refine ⟨u, by simp; omega, ?_⟩
      rw [if_neg (by omega)]; exact u2
    · have ht' : t < ks.length := by omega
      rw [old t ht']
      simp only [q, if_false]
      rw [if_neg (hne t ht'), if_neg (hne t ht')]
      obtain ⟨p1, p2, p3, d, p4, p5, p6⟩ := i3 t ht'
      refine ⟨p1, p2, p3, d, p4, p5, fun d' hd' => ?_⟩
      obtain ⟨u, u1, u2⟩ := p6 d' hd'
      refine ⟨u, by simp; omega, ?_⟩
      rw [if_neg (by omega)]; exact u2
  · by_cases q : j = (own_H k + D) % 1024
    · right
      exact ⟨ks.length, by simp, by simp [q]⟩
    · simp only [q, if_false]
      rcases i4 j hj with z | ⟨t, z1, z2⟩
      · exact Or.inl z
      · right
        refine ⟨t, by simp; omega, ?_⟩
        rw [if_neg (by omega)]; exact z2
theorem own_noGrow {ks : List Int64} {k : Int64} (hl : k ∈ ks ∨ ks.length ≤ 3) (h4 : ks.length ≤ 4) : ¬ (0 : Int32) < XT.cmpL ((Int32.ofNat ks.length + 1).toInt64 * (4 : Int64)) ((1024 : Int32).toInt64 * (3 : Int64)) := by
  have hl4 : ks.length < 5 := by omega
  have key : ∀ n : Fin 5, ¬ (0 : Int32) < XT.cmpL ((Int32.ofNat n.val + 1).toInt64 * (4 : Int64)) ((1024 : Int32).toInt64 * (3 : Int64)) := by decide +kernel
  exact key ⟨ks.length, hl4⟩
theorem own_idxAdd {ks : List Int64} {k k' : Int64} (h : k ∈ ks) : (own_add ks k').idxOf k = ks.idxOf k := by
  unfold own_add
  by_cases q : k' ∈ ks
  · simp [q]
  · simp only [q, if_false]
    rw [List.idxOf_append]; simp [h]
theorem own_idxSelf {ks : List Int64} {k : Int64} : (own_add ks k).idxOf k = ks.idxOf k := by
  unfold own_add
  by_cases q : k ∈ ks
  · simp [q]
  · simp only [q, if_false]
    rw [List.idxOf_append]
    simp [q, List.idxOf_eq_length q]
theorem own_memAdd {ks : List Int64} {k k' : Int64} : k ∈ own_add ks k' ↔ k ∈ ks ∨ k = k' := by
  unfold own_add
  by_cases q : k' ∈ ks
  · simp only [q, if_true]
    constructor
    · exact Or.inl
    · rintro (r | rfl)
      · exact r
      · exact q
  · simp only [q, if_false, List.mem_append, List.mem_singleton]
theorem own_nIn {ks : List Int64} {k : Int64} {n : Int32} (hn : n = Int32.ofNat ks.length) (h : k ∈ ks) : n = Int32.ofNat (own_add ks k).length := by rw [own_addIn h]; exact hn
theorem own_nNew {ks : List Int64} {k : Int64} {n : Int32} (hn : n = Int32.ofNat ks.length) (h : k ∉ ks) : n + 1 = Int32.ofNat (own_add ks k).length := by
  rw [own_addNot h, hn, own_succ]; simp
theorem own_eNew {ks : List Int64} {k : Int64} {n : Int32} (hn : n = Int32.ofNat ks.length) (h : k ∉ ks) : n = Int32.ofNat (ks.idxOf k) := by
  rw [← own_idxNot h]; exact hn
theorem own_e0 {k0 k1 k2 : Int64} (h : k2 = k0) : (0 : Int32) = Int32.ofNat ((own_add [k0] k1).idxOf k2) := by
  subst h
  rw [own_idxAdd (by simp)]; simp
theorem own_e00 {k0 k1 k2 k3 : Int64} (h : k3 = k0) : (0 : Int32) = Int32.ofNat ((own_add (own_add [k0] k1) k2).idxOf k3) := by
  subst h
  rw [own_idxAdd (by rw [own_memAdd]; simp), own_idxAdd (by simp)]; simp
theorem own_eP {ks : List Int64} {k k' : Int64} {e : Int32} (he : e = Int32.ofNat (ks.idxOf k)) (h : k' = k) : e = Int32.ofNat ((own_add ks k).idxOf k') := by
  subst h; rw [own_idxSelf]; exact he
theorem own_ePP {ks : List Int64} {k k2 k' : Int64} {e : Int32} (he : e = Int32.ofNat (ks.idxOf k)) (h : k' = k) : e = Int32.ofNat ((own_add (own_add ks k) k2).idxOf k') := by
  subst h; rw [own_idxAdd (by rw [own_memAdd]; simp), own_idxSelf]; exact he
theorem own_add1 (k0 : Int64) : own_add [] k0 = [k0] := by simp [own_add]
theorem own_len1 (k0 k1 : Int64) : (own_add [k0] k1).length ≤ 3 := by
  unfold own_add; split <;> simp
theorem own_lenA (ks : List Int64) (k : Int64) : (own_add ks k).length ≤ ks.length + 1 := by
  unfold own_add; split <;> simp
theorem own_len2 (k0 k1 k2 : Int64) : (own_add (own_add [k0] k1) k2).length ≤ 3 := by
  have h1 := own_lenA [k0] k1
  have h2 := own_lenA (own_add [k0] k1) k2
  simp at h1
  omega
theorem own_pickIn (t : Int32) (k0 k1 k2 k3 : Int64) : own_pick t k0 k1 k2 k3 ∈ own_add (own_add (own_add [k0] k1) k2) k3 := by
  unfold own_pick
  simp only [own_memAdd]
  split
  · simp
  · split
    · simp
    · split <;> simp
theorem own_last {t e1 e2 e3 : Int32} {k0 k1 k2 k3 k4 : Int64} (hk4 : k4 = own_pick t k0 k1 k2 k3) (he1 : e1 = Int32.ofNat ([k0].idxOf k1)) (he2 : e2 = Int32.ofNat ((own_add [k0] k1).idxOf k2)) (he3 : e3 = Int32.ofNat ((own_add (own_add [k0] k1) k2).idxOf k3)) :
    Int32.ofNat ((own_add (own_add (own_add [k0] k1) k2) k3).idxOf k4) = own_pick t 0 e1 e2 e3 := by
  subst hk4
  unfold own_pick
  split
  · rw [own_idxAdd (by simp [own_memAdd]), own_idxAdd (by simp [own_memAdd]), own_idxAdd (by simp)]; simp
  · split
    · rw [own_idxAdd (by simp [own_memAdd]), own_idxAdd (by simp [own_memAdd]), own_idxSelf]; exact he1.symm
    · split
      · rw [own_idxAdd (by simp [own_memAdd]), own_idxSelf]; exact he2.symm
      · rw [own_idxSelf]; exact he3.symm
theorem own_lastN {t n3 : Int32} {k0 k1 k2 k3 k4 : Int64} (hk4 : k4 = own_pick t k0 k1 k2 k3) (hn3 : n3 = Int32.ofNat (own_add (own_add (own_add [k0] k1) k2) k3).length) :
    Int32.ofNat (own_add (own_add (own_add (own_add [k0] k1) k2) k3) k4).length = n3 := by
  rw [own_addIn (hk4 ▸ own_pickIn _ _ _ _ _)]; exact hn3.symm


def own_AI (Z : State) (h : Heap) (a : Addr) (N : Nat → Int32) : Prop := ∃ c : Cell, Arr Z h a c .int ∧ c.slots.size = 1024 ∧ ∀ j, j < 1024 → c.slots[j]? = some (.int (N j))
def own_AJ (Z : State) (h : Heap) (a : Addr) (K : Nat → Int64) : Prop := ∃ c : Cell, Arr Z h a c .long ∧ c.slots.size = 1024 ∧ ∀ j, j < 1024 → c.slots[j]? = some (.long (K j))
theorem own_AI.other {Z : State} {h h' : Heap} {a b : Addr} {N : Nat → Int32} {sl : Nat} {v : Value} (F : own_AI Z h a N) (W : Wr h h' b sl v) (q : a ≠ b) : own_AI Z h' a N := by
  obtain ⟨c, A, r⟩ := F; exact ⟨c, A.other W q, r⟩
theorem own_AJ.other {Z : State} {h h' : Heap} {a b : Addr} {N : Nat → Int64} {sl : Nat} {v : Value} (F : own_AJ Z h a N) (W : Wr h h' b sl v) (q : a ≠ b) : own_AJ Z h' a N := by
  obtain ⟨c, A, r⟩ := F; exact ⟨c, A.other W q, r⟩
theorem own_AI.keep {Z : State} {h h' : Heap} {a : Addr} {N : Nat → Int32} {ws : List Addr} (F : own_AI Z h a N) (K : Keep h h' ws) (q : a ∉ ws) : own_AI Z h' a N := by
  obtain ⟨c, A, r⟩ := F; exact ⟨c, ⟨K.2.1 a c A.1 q, A.2⟩, r⟩
theorem own_AJ.keep {Z : State} {h h' : Heap} {a : Addr} {N : Nat → Int64} {ws : List Addr} (F : own_AJ Z h a N) (K : Keep h h' ws) (q : a ∉ ws) : own_AJ Z h' a N := by
  obtain ⟨c, A, r⟩ := F; exact ⟨c, ⟨K.2.1 a c A.1 q, A.2⟩, r⟩
theorem own_setAt {c : Cell} {j i : Nat} {v : Value} (hj : j < c.slots.size) : (c.setSlot j v).slots[i]? = if i = j then some v else c.slots[i]? := by
  simp only [Cell.setSlot, Array.getElem?_setIfInBounds]
  by_cases q : j = i
  · subst q; simp [hj]
  · have q' : ¬ i = j := fun r => q r.symm
    simp [q, q']
theorem own_AI.set {Z : State} {h h' : Heap} {a : Addr} {N : Nat → Int32} {j : Nat} {x : Int32} (F : own_AI Z h a N) (W : Wr h h' a j (.int x)) (hj : j < 1024) : own_AI Z h' a (fun i => if i = j then x else N i) := by
  obtain ⟨c, A, s, r⟩ := F
  refine ⟨_, A.same W, by rw [sz_set, s], fun i hi => ?_⟩
  rw [own_setAt (by rw [s]; exact hj)]
  by_cases q : i = j
  · simp [q]
  · simp [q, r i hi]
theorem own_AJ.set {Z : State} {h h' : Heap} {a : Addr} {N : Nat → Int64} {j : Nat} {x : Int64} (F : own_AJ Z h a N) (W : Wr h h' a j (.long x)) (hj : j < 1024) : own_AJ Z h' a (fun i => if i = j then x else N i) := by
  obtain ⟨c, A, s, r⟩ := F
  refine ⟨_, A.same W, by rw [sz_set, s], fun i hi => ?_⟩
  rw [own_setAt (by rw [s]; exact hj)]
  by_cases q : i = j
  · simp [q]
  · simp [q, r i hi]
theorem own_inB {c : Cell} (s : c.slots.size = 1024) {q : Nat} (hq : q < 1024) : ¬ (Int32.ofNat q < 0 ∨ c.slots.size ≤ (Int32.ofNat q).toNatClampNeg) := by
  rw [own_clamp (by omega), s, Int32.lt_iff_toInt_lt, own_toInt (by omega), show (0 : Int32).toInt = 0 from rfl]; omega
def own_F (Z : State) (h : Heap) (a ka na : Addr) (n : Int32) : Prop := Exa Z h a "com/example/strict_tariff/stricttariff/LongNumbering" ∧ Fld Z h a "com/example/strict_tariff/stricttariff/LongNumbering" "keys" "[J" (.ref ka) ∧ Fld Z h a "com/example/strict_tariff/stricttariff/LongNumbering" "numbers" "[I" (.ref na) ∧ Fld Z h a "com/example/strict_tariff/stricttariff/LongNumbering" "size" "I" (.int n) ∧ a < ka ∧ ka < na
def own_T (Z : State) (h : Heap) (a ka na : Addr) (ks : List Int64) : Prop := own_F Z h a ka na (Int32.ofNat ks.length) ∧ ∃ K N P, own_AJ Z h ka K ∧ own_AI Z h na N ∧ own_inv K N P ks
theorem own_F.wr {Z : State} {h h' : Heap} {a ka na b : Addr} {n : Int32} {sl : Nat} {v : Value} (F : own_F Z h a ka na n) (W : Wr h h' b sl v) (q : a ≠ b) : own_F Z h' a ka na n := ⟨F.1.wr W, F.2.1.other W (Or.inl q), F.2.2.1.other W (Or.inl q), F.2.2.2.1.other W (Or.inl q), F.2.2.2.2⟩

theorem d1_0 : Dec method_2_code 0 (.ldc2_w 7) 3 3 := ⟨by decide +kernel, rfl⟩
theorem d1_3 : Dec method_2_code 3 (.lstore_n 0) 1 4 := ⟨by decide +kernel, rfl⟩
theorem d1_4 : Dec method_2_code 4 (.lload_n 0) 1 5 := ⟨by decide +kernel, rfl⟩
theorem d1_5 : Dec method_2_code 5 (.lstore_n 2) 1 6 := ⟨by decide +kernel, rfl⟩
theorem d1_6 : Dec method_2_code 6 (.lload_n 2) 1 7 := ⟨by decide +kernel, rfl⟩
theorem d1_7 : Dec method_2_code 7 (.ldc2_w 9) 3 10 := ⟨by decide +kernel, rfl⟩
theorem d1_10 : Dec method_2_code 10 (.lload_n 0) 1 11 := ⟨by decide +kernel, rfl⟩
theorem d1_11 : Dec method_2_code 11 (.lload_n 2) 1 12 := ⟨by decide +kernel, rfl⟩
theorem d1_12 : Dec method_2_code 12 (.lmul) 1 13 := ⟨by decide +kernel, rfl⟩
theorem d1_13 : Dec method_2_code 13 (.lsub) 1 14 := ⟨by decide +kernel, rfl⟩
theorem d1_14 : Dec method_2_code 14 (.lmul) 1 15 := ⟨by decide +kernel, rfl⟩
theorem d1_15 : Dec method_2_code 15 (.lstore_n 2) 1 16 := ⟨by decide +kernel, rfl⟩
theorem d1_16 : Dec method_2_code 16 (.lload_n 2) 1 17 := ⟨by decide +kernel, rfl⟩
theorem d1_17 : Dec method_2_code 17 (.ldc2_w 9) 3 20 := ⟨by decide +kernel, rfl⟩
theorem d1_20 : Dec method_2_code 20 (.lload_n 0) 1 21 := ⟨by decide +kernel, rfl⟩
theorem d1_21 : Dec method_2_code 21 (.lload_n 2) 1 22 := ⟨by decide +kernel, rfl⟩
theorem d1_22 : Dec method_2_code 22 (.lmul) 1 23 := ⟨by decide +kernel, rfl⟩
theorem d1_23 : Dec method_2_code 23 (.lsub) 1 24 := ⟨by decide +kernel, rfl⟩
theorem d1_24 : Dec method_2_code 24 (.lmul) 1 25 := ⟨by decide +kernel, rfl⟩
theorem d1_25 : Dec method_2_code 25 (.lstore_n 2) 1 26 := ⟨by decide +kernel, rfl⟩
theorem d1_26 : Dec method_2_code 26 (.lload_n 2) 1 27 := ⟨by decide +kernel, rfl⟩
theorem d1_27 : Dec method_2_code 27 (.ldc2_w 9) 3 30 := ⟨by decide +kernel, rfl⟩
theorem d1_30 : Dec method_2_code 30 (.lload_n 0) 1 31 := ⟨by decide +kernel, rfl⟩
theorem d1_31 : Dec method_2_code 31 (.lload_n 2) 1 32 := ⟨by decide +kernel, rfl⟩
theorem d1_32 : Dec method_2_code 32 (.lmul) 1 33 := ⟨by decide +kernel, rfl⟩
theorem d1_33 : Dec method_2_code 33 (.lsub) 1 34 := ⟨by decide +kernel, rfl⟩
theorem d1_34 : Dec method_2_code 34 (.lmul) 1 35 := ⟨by decide +kernel, rfl⟩
theorem d1_35 : Dec method_2_code 35 (.lstore_n 2) 1 36 := ⟨by decide +kernel, rfl⟩
theorem d1_36 : Dec method_2_code 36 (.lload_n 2) 1 37 := ⟨by decide +kernel, rfl⟩
theorem d1_37 : Dec method_2_code 37 (.ldc2_w 9) 3 40 := ⟨by decide +kernel, rfl⟩
theorem d1_40 : Dec method_2_code 40 (.lload_n 0) 1 41 := ⟨by decide +kernel, rfl⟩
theorem d1_41 : Dec method_2_code 41 (.lload_n 2) 1 42 := ⟨by decide +kernel, rfl⟩
theorem d1_42 : Dec method_2_code 42 (.lmul) 1 43 := ⟨by decide +kernel, rfl⟩
theorem d1_43 : Dec method_2_code 43 (.lsub) 1 44 := ⟨by decide +kernel, rfl⟩
theorem d1_44 : Dec method_2_code 44 (.lmul) 1 45 := ⟨by decide +kernel, rfl⟩
theorem d1_45 : Dec method_2_code 45 (.lstore_n 2) 1 46 := ⟨by decide +kernel, rfl⟩
theorem d1_46 : Dec method_2_code 46 (.lload_n 2) 1 47 := ⟨by decide +kernel, rfl⟩
theorem d1_47 : Dec method_2_code 47 (.ldc2_w 9) 3 50 := ⟨by decide +kernel, rfl⟩
theorem d1_50 : Dec method_2_code 50 (.lload_n 0) 1 51 := ⟨by decide +kernel, rfl⟩
theorem d1_51 : Dec method_2_code 51 (.lload_n 2) 1 52 := ⟨by decide +kernel, rfl⟩
theorem d1_52 : Dec method_2_code 52 (.lmul) 1 53 := ⟨by decide +kernel, rfl⟩
theorem d1_53 : Dec method_2_code 53 (.lsub) 1 54 := ⟨by decide +kernel, rfl⟩
theorem d1_54 : Dec method_2_code 54 (.lmul) 1 55 := ⟨by decide +kernel, rfl⟩
theorem d1_55 : Dec method_2_code 55 (.lstore_n 2) 1 56 := ⟨by decide +kernel, rfl⟩
theorem d1_56 : Dec method_2_code 56 (.lload_n 2) 1 57 := ⟨by decide +kernel, rfl⟩
theorem d1_57 : Dec method_2_code 57 (.lreturn) 1 58 := ⟨by decide +kernel, rfl⟩
theorem pn1 : plainName "com/example/strict_tariff/stricttariff/LongNumberingNumberPinLaw" = true := by first | (simp [plainName, overriddenIn]; done) | decide +kernel
theorem ef1  (m : MethodId) : entryFrame m #[] 4 = mkF m 0 #[.unset, .unset, .unset, .unset] [] := by first | (simp [entryFrame, mkF, argsToLocals, Value.category, maxLocals]; done) | rfl
set_option maxRecDepth 65536 in
set_option maxHeartbeats 40000000 in
theorem rm1 (l : Launch) (Z : State) (a0 : Array Value) (hw : ∀ d ∈ tables_1, d.before a0 Z = true) (ws : List Jvm.Cond)  (h0 : Heap)  : Ct l Z (⟨"com/example/strict_tariff/stricttariff/LongNumberingNumberPinLaw", "inverseOfSpread", "()J"⟩ : MethodName) method_2_code 4 (some .long) ws ({ frames := 0, cells := 0, slots := 0, locals := 0 } : Room) #[] h0 (fun v h L => (∃ z, v = some (.long z)) ∧ h = h0 ∧ L = []) := by
  refine Ct.of (pn1) _ (ef1 ) ?_
  intro p e s m below meth c T0 hx hby hml hZ hown hnm hret hk e0 X0
  show Go p e below _ (T0.setTop (mkF m 0 #[.unset, .unset, .unset, .unset] []))
  refine go_ldc2 X0 hx hZ hown (hw _ (List.mem_of_getElem? (i := 4) rfl)) (dc hby d1_0) ?_
  show Go p e below _ (T0.setTop (mkF m 3 #[.unset, .unset, .unset, .unset] [(.long (-7046029254386353131 : Int64))]))
  generalize (-7046029254386353131 : Int64) = x1
  refine go_lstoren X0 hx #[.val (.long x1), .second, .unset, .unset] (dc hby d1_3) rfl ?_
  refine go_lloadn X0 hx (dc hby d1_4) (v := x1) rfl ?_
  refine go_lstoren X0 hx #[.val (.long x1), .second, .val (.long x1), .second] (dc hby d1_5) rfl ?_
  refine go_lloadn X0 hx (dc hby d1_6) (v := x1) rfl ?_
  refine go_ldc2 X0 hx hZ hown (hw _ (List.mem_of_getElem? (i := 5) rfl)) (dc hby d1_7) ?_
  refine go_lloadn X0 hx (dc hby d1_10) (v := x1) rfl ?_
  refine go_lloadn X0 hx (dc hby d1_11) (v := x1) rfl ?_
  refine go_lmul X0 hx (dc hby d1_12) ?_
  refine go_lsub X0 hx (dc hby d1_13) ?_
  refine go_lmul X0 hx (dc hby d1_14) ?_
  show Go p e below _ (T0.setTop (mkF m 15 #[.val (.long x1), .second, .val (.long x1), .second] [(.long (x1 * ((2 : Int64) - (x1 * x1))))]))
  generalize (x1 * ((2 : Int64) - (x1 * x1))) = x3
  refine go_lstoren X0 hx #[.val (.long x1), .second, .val (.long x3), .second] (dc hby d1_15) rfl ?_
  refine go_lloadn X0 hx (dc hby d1_16) (v := x3) rfl ?_
  refine go_ldc2 X0 hx hZ hown (hw _ (List.mem_of_getElem? (i := 5) rfl)) (dc hby d1_17) ?_
  refine go_lloadn X0 hx (dc hby d1_20) (v := x1) rfl ?_
  refine go_lloadn X0 hx (dc hby d1_21) (v := x3) rfl ?_
  refine go_lmul X0 hx (dc hby d1_22) ?_
  refine go_lsub X0 hx (dc hby d1_23) ?_
  refine go_lmul X0 hx (dc hby d1_24) ?_
  show Go p e below _ (T0.setTop (mkF m 25 #[.val (.long x1), .second, .val (.long x3), .second] [(.long (x3 * ((2 : Int64) - (x1 * x3))))]))
  generalize (x3 * ((2 : Int64) - (x1 * x3))) = x4
  refine go_lstoren X0 hx #[.val (.long x1), .second, .val (.long x4), .second] (dc hby d1_25) rfl ?_
  refine go_lloadn X0 hx (dc hby d1_26) (v := x4) rfl ?_
  refine go_ldc2 X0 hx hZ hown (hw _ (List.mem_of_getElem? (i := 5) rfl)) (dc hby d1_27) ?_
  refine go_lloadn X0 hx (dc hby d1_30) (v := x1) rfl ?_
  refine go_lloadn X0 hx (dc hby d1_31) (v := x4) rfl ?_
  refine go_lmul X0 hx (dc hby d1_32) ?_
  refine go_lsub X0 hx (dc hby d1_33) ?_
  refine go_lmul X0 hx (dc hby d1_34) ?_
  show Go p e below _ (T0.setTop (mkF m 35 #[.val (.long x1), .second, .val (.long x4), .second] [(.long (x4 * ((2 : Int64) - (x1 * x4))))]))
  generalize (x4 * ((2 : Int64) - (x1 * x4))) = x5
  refine go_lstoren X0 hx #[.val (.long x1), .second, .val (.long x5), .second] (dc hby d1_35) rfl ?_
  refine go_lloadn X0 hx (dc hby d1_36) (v := x5) rfl ?_
  refine go_ldc2 X0 hx hZ hown (hw _ (List.mem_of_getElem? (i := 5) rfl)) (dc hby d1_37) ?_
  refine go_lloadn X0 hx (dc hby d1_40) (v := x1) rfl ?_
  refine go_lloadn X0 hx (dc hby d1_41) (v := x5) rfl ?_
  refine go_lmul X0 hx (dc hby d1_42) ?_
  refine go_lsub X0 hx (dc hby d1_43) ?_
  refine go_lmul X0 hx (dc hby d1_44) ?_
  show Go p e below _ (T0.setTop (mkF m 45 #[.val (.long x1), .second, .val (.long x5), .second] [(.long (x5 * ((2 : Int64) - (x1 * x5))))]))
  generalize (x5 * ((2 : Int64) - (x1 * x5))) = x6
  refine go_lstoren X0 hx #[.val (.long x1), .second, .val (.long x6), .second] (dc hby d1_45) rfl ?_
  refine go_lloadn X0 hx (dc hby d1_46) (v := x6) rfl ?_
  refine go_ldc2 X0 hx hZ hown (hw _ (List.mem_of_getElem? (i := 5) rfl)) (dc hby d1_47) ?_
  refine go_lloadn X0 hx (dc hby d1_50) (v := x1) rfl ?_
  refine go_lloadn X0 hx (dc hby d1_51) (v := x6) rfl ?_
  refine go_lmul X0 hx (dc hby d1_52) ?_
  refine go_lsub X0 hx (dc hby d1_53) ?_
  refine go_lmul X0 hx (dc hby d1_54) ?_
  show Go p e below _ (T0.setTop (mkF m 55 #[.val (.long x1), .second, .val (.long x6), .second] [(.long (x6 * ((2 : Int64) - (x1 * x6))))]))
  generalize (x6 * ((2 : Int64) - (x1 * x6))) = x7
  refine go_lstoren X0 hx #[.val (.long x1), .second, .val (.long x7), .second] (dc hby d1_55) rfl ?_
  refine go_lloadn X0 hx (dc hby d1_56) (v := x7) rfl ?_
  exact go_retJ X0 hx hret (dc hby d1_57) hk (by decide) (by decide) ⟨⟨_, rfl⟩, e0, rfl⟩
theorem pd1 : parseMethodDescriptor "()J" = some ⟨[], some .long⟩ := by decide +kernel
theorem d2_0 : Dec method_3_code 0 (.iload_n 0) 1 1 := ⟨by decide +kernel, rfl⟩
theorem d2_1 : Dec method_3_code 1 (.iconst 3) 1 2 := ⟨by decide +kernel, rfl⟩
theorem d2_2 : Dec method_3_code 2 (.iand) 1 3 := ⟨by decide +kernel, rfl⟩
theorem d2_3 : Dec method_3_code 3 (.istore 9) 2 5 := ⟨by decide +kernel, rfl⟩
theorem d2_5 : Dec method_3_code 5 (.iload 9) 2 7 := ⟨by decide +kernel, rfl⟩
theorem d2_7 : DecB method_3_code 7 (.ifCond .ne 5) (5) 10 12 := ⟨by decide +kernel, rfl, by decide, by decide⟩
theorem d2_10 : Dec method_3_code 10 (.lload_n 1) 1 11 := ⟨by decide +kernel, rfl⟩
theorem d2_11 : Dec method_3_code 11 (.lreturn) 1 12 := ⟨by decide +kernel, rfl⟩
theorem d2_12 : Dec method_3_code 12 (.iload 9) 2 14 := ⟨by decide +kernel, rfl⟩
theorem d2_14 : Dec method_3_code 14 (.iconst 1) 1 15 := ⟨by decide +kernel, rfl⟩
theorem d2_15 : DecB method_3_code 15 (.if_icmp .ne 5) (5) 18 20 := ⟨by decide +kernel, rfl, by decide, by decide⟩
theorem d2_18 : Dec method_3_code 18 (.lload_n 3) 1 19 := ⟨by decide +kernel, rfl⟩
theorem d2_19 : Dec method_3_code 19 (.lreturn) 1 20 := ⟨by decide +kernel, rfl⟩
theorem d2_20 : Dec method_3_code 20 (.iload 9) 2 22 := ⟨by decide +kernel, rfl⟩
theorem d2_22 : Dec method_3_code 22 (.iconst 2) 1 23 := ⟨by decide +kernel, rfl⟩
theorem d2_23 : DecB method_3_code 23 (.if_icmp .ne 6) (6) 26 29 := ⟨by decide +kernel, rfl, by decide, by decide⟩
theorem d2_26 : Dec method_3_code 26 (.lload 5) 2 28 := ⟨by decide +kernel, rfl⟩
theorem d2_28 : Dec method_3_code 28 (.lreturn) 1 29 := ⟨by decide +kernel, rfl⟩
theorem d2_29 : Dec method_3_code 29 (.lload 7) 2 31 := ⟨by decide +kernel, rfl⟩
theorem d2_31 : Dec method_3_code 31 (.lreturn) 1 32 := ⟨by decide +kernel, rfl⟩
theorem pn2 : plainName "com/example/strict_tariff/stricttariff/LongNumberingNumberPinLaw" = true := by first | (simp [plainName, overriddenIn]; done) | decide +kernel
theorem ef2 (x0 : Int32) (x1 : Int64) (x2 : Int64) (x3 : Int64) (x4 : Int64) (m : MethodId) : entryFrame m #[(.int x0), (.long x1), (.long x2), (.long x3), (.long x4)] 10 = mkF m 0 #[.val (.int x0), .val (.long x1), .second, .val (.long x2), .second, .val (.long x3), .second, .val (.long x4), .second, .unset] [] := by first | (simp [entryFrame, mkF, argsToLocals, Value.category, maxLocals]; done) | rfl
set_option maxRecDepth 65536 in
set_option maxHeartbeats 40000000 in
theorem rm2 (l : Launch) (Z : State) (a0 : Array Value) (hw : ∀ d ∈ tables_1, d.before a0 Z = true) (ws : List Jvm.Cond) (t : Int32) (p0 p1 p2 p3 : Int64) (h0 : Heap)  : Ct l Z (⟨"com/example/strict_tariff/stricttariff/LongNumberingNumberPinLaw", "pick", "(IJJJJ)J"⟩ : MethodName) method_3_code 10 (some .long) ws ({ frames := 0, cells := 0, slots := 0, locals := 0 } : Room) #[(.int t), (.long p0), (.long p1), (.long p2), (.long p3)] h0 (QP (.long (own_pick (t &&& 3) p0 p1 p2 p3)) h0) := by
  refine Ct.of (pn2) _ (ef2 t p0 p1 p2 p3) ?_
  intro p e s m below meth c T0 hx hby hml hZ hown hnm hret hk e0 X0
  show Go p e below _ (T0.setTop (mkF m 0 #[.val (.int t), .val (.long p0), .second, .val (.long p1), .second, .val (.long p2), .second, .val (.long p3), .second, .unset] []))
  refine go_iloadn X0 hx (dc hby d2_0) (v := t) rfl ?_
  refine go_iconst X0 hx (3) (dc hby d2_1) rfl ?_
  refine go_iand X0 hx (dc hby d2_2) ?_
  refine go_istore X0 hx #[.val (.int t), .val (.long p0), .second, .val (.long p1), .second, .val (.long p2), .second, .val (.long p3), .second, .val (.int (t &&& (3 : Int32)))] (dc hby d2_3) rfl ?_
  refine go_iload X0 hx (dc hby d2_5) (v := (t &&& (3 : Int32))) rfl ?_
  refine go_ifc_ne X0 hx (db hby d2_7) (fun c7 => ?_) (fun c7 => ?_)
  · refine go_iload X0 hx (dc hby d2_12) (v := (t &&& (3 : Int32))) rfl ?_
    refine go_iconst X0 hx (1) (dc hby d2_14) rfl ?_
    refine go_icmp_ne X0 hx (db hby d2_15) (fun c15 => ?_) (fun c15 => ?_)
    · refine go_iload X0 hx (dc hby d2_20) (v := (t &&& (3 : Int32))) rfl ?_
      refine go_iconst X0 hx (2) (dc hby d2_22) rfl ?_
      refine go_icmp_ne X0 hx (db hby d2_23) (fun c23 => ?_) (fun c23 => ?_)
      · refine go_lload X0 hx (dc hby d2_29) (v := p3) rfl ?_
        exact go_retJ X0 hx hret (dc hby d2_31) hk (by decide) (by decide) ⟨congrArg (fun z => some (Value.long z)) (by simp_all [own_pick]), e0, rfl⟩
      · refine go_lload X0 hx (dc hby d2_26) (v := p2) rfl ?_
        exact go_retJ X0 hx hret (dc hby d2_28) hk (by decide) (by decide) ⟨congrArg (fun z => some (Value.long z)) (by simp_all [own_pick]), e0, rfl⟩
    · refine go_lloadn X0 hx (dc hby d2_18) (v := p1) rfl ?_
      exact go_retJ X0 hx hret (dc hby d2_19) hk (by decide) (by decide) ⟨congrArg (fun z => some (Value.long z)) (by simp_all [own_pick]), e0, rfl⟩
  · refine go_lloadn X0 hx (dc hby d2_10) (v := p0) rfl ?_
    exact go_retJ X0 hx hret (dc hby d2_11) hk (by decide) (by decide) ⟨congrArg (fun z => some (Value.long z)) (by simp_all [own_pick]), e0, rfl⟩
theorem pd2 : parseMethodDescriptor "(IJJJJ)J" = some ⟨[.int, .long, .long, .long, .long], some .long⟩ := by decide +kernel
theorem d3_0 : Dec method_4_code 0 (.iload_n 0) 1 1 := ⟨by decide +kernel, rfl⟩
theorem d3_1 : Dec method_4_code 1 (.iconst 3) 1 2 := ⟨by decide +kernel, rfl⟩
theorem d3_2 : Dec method_4_code 2 (.iand) 1 3 := ⟨by decide +kernel, rfl⟩
theorem d3_3 : Dec method_4_code 3 (.istore 5) 2 5 := ⟨by decide +kernel, rfl⟩
theorem d3_5 : Dec method_4_code 5 (.iload 5) 2 7 := ⟨by decide +kernel, rfl⟩
theorem d3_7 : DecB method_4_code 7 (.ifCond .ne 5) (5) 10 12 := ⟨by decide +kernel, rfl, by decide, by decide⟩
theorem d3_10 : Dec method_4_code 10 (.iload_n 1) 1 11 := ⟨by decide +kernel, rfl⟩
theorem d3_11 : Dec method_4_code 11 (.ireturn) 1 12 := ⟨by decide +kernel, rfl⟩
theorem d3_12 : Dec method_4_code 12 (.iload 5) 2 14 := ⟨by decide +kernel, rfl⟩
theorem d3_14 : Dec method_4_code 14 (.iconst 1) 1 15 := ⟨by decide +kernel, rfl⟩
theorem d3_15 : DecB method_4_code 15 (.if_icmp .ne 5) (5) 18 20 := ⟨by decide +kernel, rfl, by decide, by decide⟩
theorem d3_18 : Dec method_4_code 18 (.iload_n 2) 1 19 := ⟨by decide +kernel, rfl⟩
theorem d3_19 : Dec method_4_code 19 (.ireturn) 1 20 := ⟨by decide +kernel, rfl⟩
theorem d3_20 : Dec method_4_code 20 (.iload 5) 2 22 := ⟨by decide +kernel, rfl⟩
theorem d3_22 : Dec method_4_code 22 (.iconst 2) 1 23 := ⟨by decide +kernel, rfl⟩
theorem d3_23 : DecB method_4_code 23 (.if_icmp .ne 5) (5) 26 28 := ⟨by decide +kernel, rfl, by decide, by decide⟩
theorem d3_26 : Dec method_4_code 26 (.iload_n 3) 1 27 := ⟨by decide +kernel, rfl⟩
theorem d3_27 : Dec method_4_code 27 (.ireturn) 1 28 := ⟨by decide +kernel, rfl⟩
theorem d3_28 : Dec method_4_code 28 (.iload 4) 2 30 := ⟨by decide +kernel, rfl⟩
theorem d3_30 : Dec method_4_code 30 (.ireturn) 1 31 := ⟨by decide +kernel, rfl⟩
theorem pn3 : plainName "com/example/strict_tariff/stricttariff/LongNumberingNumberPinLaw" = true := by first | (simp [plainName, overriddenIn]; done) | decide +kernel
theorem ef3 (x0 : Int32) (x1 : Int32) (x2 : Int32) (x3 : Int32) (x4 : Int32) (m : MethodId) : entryFrame m #[(.int x0), (.int x1), (.int x2), (.int x3), (.int x4)] 6 = mkF m 0 #[.val (.int x0), .val (.int x1), .val (.int x2), .val (.int x3), .val (.int x4), .unset] [] := by first | (simp [entryFrame, mkF, argsToLocals, Value.category, maxLocals]; done) | rfl
set_option maxRecDepth 65536 in
set_option maxHeartbeats 40000000 in
theorem rm3 (l : Launch) (Z : State) (a0 : Array Value) (hw : ∀ d ∈ tables_1, d.before a0 Z = true) (ws : List Jvm.Cond) (t p0 p1 p2 p3 : Int32) (h0 : Heap)  : Ct l Z (⟨"com/example/strict_tariff/stricttariff/LongNumberingNumberPinLaw", "pickInt", "(IIIII)I"⟩ : MethodName) method_4_code 6 (some .int) ws ({ frames := 0, cells := 0, slots := 0, locals := 0 } : Room) #[(.int t), (.int p0), (.int p1), (.int p2), (.int p3)] h0 (QP (.int (own_pick (t &&& 3) p0 p1 p2 p3)) h0) := by
  refine Ct.of (pn3) _ (ef3 t p0 p1 p2 p3) ?_
  intro p e s m below meth c T0 hx hby hml hZ hown hnm hret hk e0 X0
  show Go p e below _ (T0.setTop (mkF m 0 #[.val (.int t), .val (.int p0), .val (.int p1), .val (.int p2), .val (.int p3), .unset] []))
  refine go_iloadn X0 hx (dc hby d3_0) (v := t) rfl ?_
  refine go_iconst X0 hx (3) (dc hby d3_1) rfl ?_
  refine go_iand X0 hx (dc hby d3_2) ?_
  refine go_istore X0 hx #[.val (.int t), .val (.int p0), .val (.int p1), .val (.int p2), .val (.int p3), .val (.int (t &&& (3 : Int32)))] (dc hby d3_3) rfl ?_
  refine go_iload X0 hx (dc hby d3_5) (v := (t &&& (3 : Int32))) rfl ?_
  refine go_ifc_ne X0 hx (db hby d3_7) (fun c7 => ?_) (fun c7 => ?_)
  · refine go_iload X0 hx (dc hby d3_12) (v := (t &&& (3 : Int32))) rfl ?_
    refine go_iconst X0 hx (1) (dc hby d3_14) rfl ?_
    refine go_icmp_ne X0 hx (db hby d3_15) (fun c15 => ?_) (fun c15 => ?_)
    · refine go_iload X0 hx (dc hby d3_20) (v := (t &&& (3 : Int32))) rfl ?_
      refine go_iconst X0 hx (2) (dc hby d3_22) rfl ?_
      refine go_icmp_ne X0 hx (db hby d3_23) (fun c23 => ?_) (fun c23 => ?_)
      · refine go_iload X0 hx (dc hby d3_28) (v := p3) rfl ?_
        exact go_retI X0 hx hret (dc hby d3_30) hk (by decide) (by decide) ⟨congrArg (fun z => some (Value.int z)) (by simp_all [own_pick]), e0, rfl⟩
      · refine go_iloadn X0 hx (dc hby d3_26) (v := p2) rfl ?_
        exact go_retI X0 hx hret (dc hby d3_27) hk (by decide) (by decide) ⟨congrArg (fun z => some (Value.int z)) (by simp_all [own_pick]), e0, rfl⟩
    · refine go_iloadn X0 hx (dc hby d3_18) (v := p1) rfl ?_
      exact go_retI X0 hx hret (dc hby d3_19) hk (by decide) (by decide) ⟨congrArg (fun z => some (Value.int z)) (by simp_all [own_pick]), e0, rfl⟩
  · refine go_iloadn X0 hx (dc hby d3_10) (v := p0) rfl ?_
    exact go_retI X0 hx hret (dc hby d3_11) hk (by decide) (by decide) ⟨congrArg (fun z => some (Value.int z)) (by simp_all [own_pick]), e0, rfl⟩
theorem pd3 : parseMethodDescriptor "(IIIII)I" = some ⟨[.int, .int, .int, .int, .int], some .int⟩ := by decide +kernel
theorem d10_0 : Dec jdk_33_method_48_code 0 (.iload_n 0) 1 1 := ⟨by decide +kernel, rfl⟩
theorem d10_1 : Dec jdk_33_method_48_code 1 (.iconst (-1)) 1 2 := ⟨by decide +kernel, rfl⟩
theorem d10_2 : Dec jdk_33_method_48_code 2 (.ixor) 1 3 := ⟨by decide +kernel, rfl⟩
theorem d10_3 : Dec jdk_33_method_48_code 3 (.iload_n 0) 1 4 := ⟨by decide +kernel, rfl⟩
theorem d10_4 : Dec jdk_33_method_48_code 4 (.iconst 1) 1 5 := ⟨by decide +kernel, rfl⟩
theorem d10_5 : Dec jdk_33_method_48_code 5 (.isub) 1 6 := ⟨by decide +kernel, rfl⟩
theorem d10_6 : Dec jdk_33_method_48_code 6 (.iand) 1 7 := ⟨by decide +kernel, rfl⟩
theorem d10_7 : Dec jdk_33_method_48_code 7 (.istore_n 0) 1 8 := ⟨by decide +kernel, rfl⟩
theorem d10_8 : Dec jdk_33_method_48_code 8 (.iload_n 0) 1 9 := ⟨by decide +kernel, rfl⟩
theorem d10_9 : DecB jdk_33_method_48_code 9 (.ifCond .gt 8) (8) 12 17 := ⟨by decide +kernel, rfl, by decide, by decide⟩
theorem d10_17 : Dec jdk_33_method_48_code 17 (.iconst 1) 1 18 := ⟨by decide +kernel, rfl⟩
theorem d10_18 : Dec jdk_33_method_48_code 18 (.istore_n 1) 1 19 := ⟨by decide +kernel, rfl⟩
theorem d10_19 : Dec jdk_33_method_48_code 19 (.iload_n 0) 1 20 := ⟨by decide +kernel, rfl⟩
theorem d10_20 : Dec jdk_33_method_48_code 20 (.ldc_w 264) 3 23 := ⟨by decide +kernel, rfl⟩
theorem d10_23 : DecB jdk_33_method_48_code 23 (.if_icmp .le 11) (11) 26 34 := ⟨by decide +kernel, rfl, by decide, by decide⟩
theorem d10_34 : Dec jdk_33_method_48_code 34 (.iload_n 0) 1 35 := ⟨by decide +kernel, rfl⟩
theorem d10_35 : Dec jdk_33_method_48_code 35 (.sipush 256) 3 38 := ⟨by decide +kernel, rfl⟩
theorem d10_38 : DecB jdk_33_method_48_code 38 (.if_icmp .le 11) (11) 41 49 := ⟨by decide +kernel, rfl, by decide, by decide⟩
theorem d10_41 : Dec jdk_33_method_48_code 41 (.iinc 1 8) 3 44 := ⟨by decide +kernel, rfl⟩
theorem d10_44 : Dec jdk_33_method_48_code 44 (.iload_n 0) 1 45 := ⟨by decide +kernel, rfl⟩
theorem d10_45 : Dec jdk_33_method_48_code 45 (.bipush 8) 2 47 := ⟨by decide +kernel, rfl⟩
theorem d10_47 : Dec jdk_33_method_48_code 47 (.iushr) 1 48 := ⟨by decide +kernel, rfl⟩
theorem d10_48 : Dec jdk_33_method_48_code 48 (.istore_n 0) 1 49 := ⟨by decide +kernel, rfl⟩
theorem d10_49 : Dec jdk_33_method_48_code 49 (.iload_n 0) 1 50 := ⟨by decide +kernel, rfl⟩
theorem d10_50 : Dec jdk_33_method_48_code 50 (.bipush 16) 2 52 := ⟨by decide +kernel, rfl⟩
theorem d10_52 : DecB jdk_33_method_48_code 52 (.if_icmp .le 10) (10) 55 62 := ⟨by decide +kernel, rfl, by decide, by decide⟩
theorem d10_62 : Dec jdk_33_method_48_code 62 (.iload_n 0) 1 63 := ⟨by decide +kernel, rfl⟩
theorem d10_63 : Dec jdk_33_method_48_code 63 (.iconst 4) 1 64 := ⟨by decide +kernel, rfl⟩
theorem d10_64 : DecB jdk_33_method_48_code 64 (.if_icmp .le 10) (10) 67 74 := ⟨by decide +kernel, rfl, by decide, by decide⟩
theorem d10_74 : Dec jdk_33_method_48_code 74 (.iload_n 1) 1 75 := ⟨by decide +kernel, rfl⟩
theorem d10_75 : Dec jdk_33_method_48_code 75 (.iload_n 0) 1 76 := ⟨by decide +kernel, rfl⟩
theorem d10_76 : Dec jdk_33_method_48_code 76 (.iconst 1) 1 77 := ⟨by decide +kernel, rfl⟩
theorem d10_77 : Dec jdk_33_method_48_code 77 (.iushr) 1 78 := ⟨by decide +kernel, rfl⟩
theorem d10_78 : Dec jdk_33_method_48_code 78 (.iadd) 1 79 := ⟨by decide +kernel, rfl⟩
theorem d10_79 : Dec jdk_33_method_48_code 79 (.ireturn) 1 80 := ⟨by decide +kernel, rfl⟩
theorem pn10 : plainName "java/lang/Integer" = true := by first | (simp [plainName, overriddenIn]; done) | decide +kernel
theorem ef10 (x0 : Int32) (m : MethodId) : entryFrame m #[(.int x0)] 2 = mkF m 0 #[.val (.int x0), .unset] [] := by first | (simp [entryFrame, mkF, argsToLocals, Value.category, maxLocals]; done) | rfl
set_option maxRecDepth 65536 in
set_option maxHeartbeats 40000000 in
theorem rm10 (l : Launch) (Z : State) (a0 : Array Value) (hw : ∀ d ∈ tables_1, d.before a0 Z = true) (ws : List Jvm.Cond)  (h0 : Heap)  : Ct l Z (⟨"java/lang/Integer", "numberOfTrailingZeros", "(I)I"⟩ : MethodName) jdk_33_method_48_code 2 (some .int) ws ({ frames := 0, cells := 0, slots := 0, locals := 0 } : Room) #[(.int 1024)] h0 (QP (.int 10) h0) := by
  refine Ct.of (pn10) _ (ef10 1024) ?_
  intro p e s m below meth c T0 hx hby hml hZ hown hnm hret hk e0 X0
  show Go p e below _ (T0.setTop (mkF m 0 #[.val (.int 1024), .unset] []))
  refine go_iloadn X0 hx (dc hby d10_0) (v := 1024) rfl ?_
  refine go_iconst X0 hx (-1) (dc hby d10_1) rfl ?_
  refine go_ixor X0 hx (dc hby d10_2) ?_
  refine go_iloadn X0 hx (dc hby d10_3) (v := 1024) rfl ?_
  refine go_iconst X0 hx (1) (dc hby d10_4) rfl ?_
  refine go_isub X0 hx (dc hby d10_5) ?_
  refine go_iand X0 hx (dc hby d10_6) ?_
  refine go_istoren X0 hx #[.val (.int ((1024 ^^^ (-1 : Int32)) &&& (1024 - (1 : Int32)))), .unset] (dc hby d10_7) rfl ?_
  refine go_iloadn X0 hx (dc hby d10_8) (v := ((1024 ^^^ (-1 : Int32)) &&& (1024 - (1 : Int32)))) rfl ?_
  refine go_ifc_gt X0 hx (db hby d10_9) (fun c9 => ?_) (fun c9 => absurd c9 (by decide))
  refine go_iconst X0 hx (1) (dc hby d10_17) rfl ?_
  refine go_istoren X0 hx #[.val (.int ((1024 ^^^ (-1 : Int32)) &&& (1024 - (1 : Int32)))), .val (.int (1 : Int32))] (dc hby d10_18) rfl ?_
  refine go_iloadn X0 hx (dc hby d10_19) (v := ((1024 ^^^ (-1 : Int32)) &&& (1024 - (1 : Int32)))) rfl ?_
  refine go_ldcw X0 hx hZ hown (hw _ (List.mem_of_getElem? (i := 51) rfl)) (dc hby d10_20) ?_
  refine go_icmp_le X0 hx (db hby d10_23) (fun c23 => ?_) (fun c23 => absurd c23 (by decide))
  refine go_iloadn X0 hx (dc hby d10_34) (v := ((1024 ^^^ (-1 : Int32)) &&& (1024 - (1 : Int32)))) rfl ?_
  refine go_sipush X0 hx (256) (dc hby d10_35) rfl ?_
  refine go_icmp_le X0 hx (db hby d10_38) (fun c38 => absurd c38 (by decide)) (fun c38 => ?_)
  refine go_iinc X0 hx (x := (1 : Int32)) #[.val (.int ((1024 ^^^ (-1 : Int32)) &&& (1024 - (1 : Int32)))), .val (.int ((1 : Int32) + (8 : Int32)))] (dc hby d10_41) rfl rfl ?_
  refine go_iloadn X0 hx (dc hby d10_44) (v := ((1024 ^^^ (-1 : Int32)) &&& (1024 - (1 : Int32)))) rfl ?_
  refine go_bipush X0 hx (8) (dc hby d10_45) rfl ?_
  refine go_iushr X0 hx (dc hby d10_47) ?_
  refine go_istoren X0 hx #[.val (.int (XT.ushr ((1024 ^^^ (-1 : Int32)) &&& (1024 - (1 : Int32))) (8 : Int32))), .val (.int ((1 : Int32) + (8 : Int32)))] (dc hby d10_48) rfl ?_
  refine go_iloadn X0 hx (dc hby d10_49) (v := (XT.ushr ((1024 ^^^ (-1 : Int32)) &&& (1024 - (1 : Int32))) (8 : Int32))) rfl ?_
  refine go_bipush X0 hx (16) (dc hby d10_50) rfl ?_
  refine go_icmp_le X0 hx (db hby d10_52) (fun c52 => ?_) (fun c52 => absurd c52 (by decide))
  refine go_iloadn X0 hx (dc hby d10_62) (v := (XT.ushr ((1024 ^^^ (-1 : Int32)) &&& (1024 - (1 : Int32))) (8 : Int32))) rfl ?_
  refine go_iconst X0 hx (4) (dc hby d10_63) rfl ?_
  refine go_icmp_le X0 hx (db hby d10_64) (fun c64 => ?_) (fun c64 => absurd c64 (by decide))
  refine go_iloadn X0 hx (dc hby d10_74) (v := ((1 : Int32) + (8 : Int32))) rfl ?_
  refine go_iloadn X0 hx (dc hby d10_75) (v := (XT.ushr ((1024 ^^^ (-1 : Int32)) &&& (1024 - (1 : Int32))) (8 : Int32))) rfl ?_
  refine go_iconst X0 hx (1) (dc hby d10_76) rfl ?_
  refine go_iushr X0 hx (dc hby d10_77) ?_
  refine go_iadd X0 hx (dc hby d10_78) ?_
  exact go_retI X0 hx hret (dc hby d10_79) hk (by decide) (by decide) ⟨congrArg (fun z => some (Value.int z)) (by decide), e0, rfl⟩
theorem pd10 : parseMethodDescriptor "(I)I" = some ⟨[.int], some .int⟩ := by decide +kernel
theorem d9_0 : Dec prog_9_method_5_code 0 (.lload_n 0) 1 1 := ⟨by decide +kernel, rfl⟩
theorem d9_1 : Dec prog_9_method_5_code 1 (.ldc2_w 38) 3 4 := ⟨by decide +kernel, rfl⟩
theorem d9_4 : Dec prog_9_method_5_code 4 (.lmul) 1 5 := ⟨by decide +kernel, rfl⟩
theorem d9_5 : Dec prog_9_method_5_code 5 (.bipush 64) 2 7 := ⟨by decide +kernel, rfl⟩
theorem d9_7 : Dec prog_9_method_5_code 7 (.iload_n 2) 1 8 := ⟨by decide +kernel, rfl⟩
theorem d9_8 : Dec prog_9_method_5_code 8 (.invokestatic 42) 3 11 := ⟨by decide +kernel, rfl⟩
theorem d9_11 : Dec prog_9_method_5_code 11 (.isub) 1 12 := ⟨by decide +kernel, rfl⟩
theorem d9_12 : Dec prog_9_method_5_code 12 (.lushr) 1 13 := ⟨by decide +kernel, rfl⟩
theorem d9_13 : Dec prog_9_method_5_code 13 (.l2i) 1 14 := ⟨by decide +kernel, rfl⟩
theorem d9_14 : Dec prog_9_method_5_code 14 (.ireturn) 1 15 := ⟨by decide +kernel, rfl⟩
theorem pn9 : plainName "com/example/strict_tariff/stricttariff/LongNumbering" = true := by first | (simp [plainName, overriddenIn]; done) | decide +kernel
theorem ef9 (x0 : Int64) (x1 : Int32) (m : MethodId) : entryFrame m #[(.long x0), (.int x1)] 3 = mkF m 0 #[.val (.long x0), .second, .val (.int x1)] [] := by first | (simp [entryFrame, mkF, argsToLocals, Value.category, maxLocals]; done) | rfl
set_option maxRecDepth 65536 in
set_option maxHeartbeats 40000000 in
theorem rm9 (l : Launch) (Z : State) (a0 : Array Value) (hw : ∀ d ∈ tables_1, d.before a0 Z = true) (ws : List Jvm.Cond) (k : Int64) (h0 : Heap)  : Ct l Z (⟨"com/example/strict_tariff/stricttariff/LongNumbering", "slot", "(JI)I"⟩ : MethodName) prog_9_method_5_code 3 (some .int) ws ({ frames := 1, cells := 0, slots := 0, locals := 16 } : Room) #[(.long k), (.int 1024)] h0 (QP (.int (own_hash k)) h0) := by
  refine Ct.of (pn9) _ (ef9 k 1024) ?_
  intro p e s m below meth c T0 hx hby hml hZ hown hnm hret hk e0 X0
  show Go p e below _ (T0.setTop (mkF m 0 #[.val (.long k), .second, .val (.int 1024)] []))
  refine go_lloadn X0 hx (dc hby d9_0) (v := k) rfl ?_
  refine go_ldc2 X0 hx hZ hown (hw _ (List.mem_of_getElem? (i := 46) rfl)) (dc hby d9_1) ?_
  refine go_lmul X0 hx (dc hby d9_4) ?_
  refine go_bipush X0 hx (64) (dc hby d9_5) rfl ?_
  refine go_iloadn X0 hx (dc hby d9_7) (v := 1024) rfl ?_
  refine go_staticP X0 hx hZ hown (hw _ (List.mem_of_getElem? (i := 47) rfl)) (hw _ (List.mem_of_getElem? (i := 48) rfl)) (hw _ (List.mem_of_getElem? (i := 49) rfl)) (hw _ (List.mem_of_getElem? (i := 50) rfl)) (by decide) e0 [(.int 1024)] [(.int (64 : Int32)), (.long (k * (-7046029254386353131 : Int64)))] (r := (.int (10 : Int32))) (rm10 l Z a0 hw [] h0) pd10 rfl (by rw [hml]; rfl) rfl 3 (Nat.le_of_eq rfl) (by decide) (by decide) rfl rfl (by decide) (by decide) (dc hby d9_8) (fun T1 X1 e1 => ?_)
  refine go_isub X1 hx (dc hby d9_11) ?_
  refine go_lushr X1 hx (dc hby d9_12) ?_
  refine go_l2i X1 hx (dc hby d9_13) ?_
  exact go_retI X1 hx hret (dc hby d9_14) hk (by decide) (by decide) ⟨rfl, e1, rfl⟩
theorem pd9 : parseMethodDescriptor "(JI)I" = some ⟨[.long, .int], some .int⟩ := by decide +kernel
theorem d7_0 : Dec prog_9_method_2_code 0 (.aload_n 0) 1 1 := ⟨by decide +kernel, rfl⟩
theorem d7_1 : Dec prog_9_method_2_code 1 (.getfield 23) 3 4 := ⟨by decide +kernel, rfl⟩
theorem d7_4 : Dec prog_9_method_2_code 4 (.ireturn) 1 5 := ⟨by decide +kernel, rfl⟩
theorem pn7 : plainName "com/example/strict_tariff/stricttariff/LongNumbering" = true := by first | (simp [plainName, overriddenIn]; done) | decide +kernel
theorem ef7 (x0 : Addr) (m : MethodId) : entryFrame m #[(.ref x0)] 1 = mkF m 0 #[.val (.ref x0)] [] := by first | (simp [entryFrame, mkF, argsToLocals, Value.category, maxLocals]; done) | rfl
set_option maxRecDepth 65536 in
set_option maxHeartbeats 40000000 in
theorem rm7 (l : Launch) (Z : State) (a0 : Array Value) (hw : ∀ d ∈ tables_1, d.before a0 Z = true) (ws : List Jvm.Cond) (a : Addr) (n : Int32) (h0 : Heap) (F : Fld Z h0 a "com/example/strict_tariff/stricttariff/LongNumbering" "size" "I" (.int n)) : Ct l Z (⟨"com/example/strict_tariff/stricttariff/LongNumbering", "size", "()I"⟩ : MethodName) prog_9_method_2_code 1 (some .int) ws ({ frames := 0, cells := 0, slots := 0, locals := 0 } : Room) #[(.ref a)] h0 (QP (.int n) h0) := by
  refine Ct.of (pn7) _ (ef7 a) ?_
  intro p e s m below meth c T0 hx hby hml hZ hown hnm hret hk e0 X0
  show Go p e below _ (T0.setTop (mkF m 0 #[.val (.ref a)] []))
  refine go_aloadn X0 hx (dc hby d7_0) (v := (.ref a)) rfl rfl ?_
  refine go_getF X0 hx hZ (host := "") hown (Or.inl (hw _ (List.mem_of_getElem? (i := 36) rfl))) Via.refl e0 F (dc hby d7_1) (fun T1 X1 e1 => ?_)
  exact go_retI X1 hx hret (dc hby d7_4) hk (by decide) (by decide) ⟨rfl, e1, rfl⟩
theorem pd7 : parseMethodDescriptor "()I" = some ⟨[], some .int⟩ := by decide +kernel
theorem d6_0 : Dec jdk_65_method_103_code 0 (.iconst 0) 1 1 := ⟨by decide +kernel, rfl⟩
theorem d6_1 : Dec jdk_65_method_103_code 1 (.istore_n 2) 1 2 := ⟨by decide +kernel, rfl⟩
theorem d6_2 : Dec jdk_65_method_103_code 2 (.aload_n 0) 1 3 := ⟨by decide +kernel, rfl⟩
theorem d6_3 : Dec jdk_65_method_103_code 3 (.arraylength) 1 4 := ⟨by decide +kernel, rfl⟩
theorem d6_4 : Dec jdk_65_method_103_code 4 (.istore_n 3) 1 5 := ⟨by decide +kernel, rfl⟩
theorem d6_5 : Dec jdk_65_method_103_code 5 (.iload_n 2) 1 6 := ⟨by decide +kernel, rfl⟩
theorem d6_6 : Dec jdk_65_method_103_code 6 (.iload_n 3) 1 7 := ⟨by decide +kernel, rfl⟩
theorem d6_7 : DecB jdk_65_method_103_code 7 (.if_icmp .ge 13) (13) 10 20 := ⟨by decide +kernel, rfl, by decide, by decide⟩
theorem d6_10 : Dec jdk_65_method_103_code 10 (.aload_n 0) 1 11 := ⟨by decide +kernel, rfl⟩
theorem d6_11 : Dec jdk_65_method_103_code 11 (.iload_n 2) 1 12 := ⟨by decide +kernel, rfl⟩
theorem d6_12 : Dec jdk_65_method_103_code 12 (.iload_n 1) 1 13 := ⟨by decide +kernel, rfl⟩
theorem d6_13 : Dec jdk_65_method_103_code 13 (.iastore) 1 14 := ⟨by decide +kernel, rfl⟩
theorem d6_14 : Dec jdk_65_method_103_code 14 (.iinc 2 1) 3 17 := ⟨by decide +kernel, rfl⟩
theorem d6_17 : DecB jdk_65_method_103_code 17 (.goto (-12)) (-12) 20 5 := ⟨by decide +kernel, rfl, by decide, by decide⟩
theorem d6_20 : Dec jdk_65_method_103_code 20 (.return_) 1 21 := ⟨by decide +kernel, rfl⟩
theorem pn6 : plainName "java/util/Arrays" = true := by first | (simp [plainName, overriddenIn]; done) | decide +kernel
theorem ef6 (x0 : Addr) (x1 : Int32) (m : MethodId) : entryFrame m #[(.ref x0), (.int x1)] 4 = mkF m 0 #[.val (.ref x0), .val (.int x1), .unset, .unset] [] := by first | (simp [entryFrame, mkF, argsToLocals, Value.category, maxLocals]; done) | rfl
set_option maxRecDepth 65536 in
set_option maxHeartbeats 40000000 in
theorem rm6 (l : Launch) (Z : State) (a0 : Array Value) (hw : ∀ d ∈ tables_1, d.before a0 Z = true) (ws : List Jvm.Cond) (a : Addr) (v : Int32) (N0 : Nat → Int32) (h0 : Heap) (F : own_AI Z h0 a N0) : Ct l Z (⟨"java/util/Arrays", "fill", "([II)V"⟩ : MethodName) jdk_65_method_103_code 4 none ws ({ frames := 0, cells := 0, slots := 0, locals := 0 } : Room) #[(.ref a), (.int v)] h0 (fun r h L => r = none ∧ Keep h0 h [a] ∧ (∀ y ∈ L, y.base = a) ∧ own_AI Z h a (fun _ => v)) := by
  refine Ct.of (pn6) _ (ef6 a v) ?_
  intro p e s m below meth c T0 hx hby hml hZ hown hnm hret hk e0 X0
  show Go p e below _ (T0.setTop (mkF m 0 #[.val (.ref a), .val (.int v), .unset, .unset] []))
  refine go_iconst X0 hx (0) (dc hby d6_0) rfl ?_
  refine go_istoren X0 hx #[.val (.ref a), .val (.int v), .val (.int (0 : Int32)), .unset] (dc hby d6_1) rfl ?_
  refine go_aloadn X0 hx (dc hby d6_2) (v := (.ref a)) rfl rfl ?_
  obtain ⟨c0, A0, S0, V0⟩ := F
  refine go_alen X0 hx hZ e0 A0 (z := 1024) S0 (by decide) (dc hby d6_3) ?_
  refine go_istoren X0 hx #[.val (.ref a), .val (.int v), .val (.int (0 : Int32)), .val (.int (1024 : Int32))] (dc hby d6_4) rfl ?_
  have F : own_AI Z h0 a N0 := ⟨c0, A0, S0, V0⟩
  have loop : ∀ (r t : Nat), t + r = 1024 → ∀ (T : State) (h : Heap) (locs : List Loc), Stand p l e ({ frames := 0, cells := 0, slots := 0, locals := 0 } : Room) s m #[(.ref a), (.int v)] below meth c T locs 0 0 → T.heap = h → Keep h0 h [a] → (∀ y ∈ locs, y.base = a) → own_AI Z h a (fun j => if j < t then v else N0 j) → Go p e below (EndN s (fun r h L => r = none ∧ Keep h0 h [a] ∧ (∀ y ∈ L, y.base = a) ∧ own_AI Z h a (fun _ => v)) ({ frames := 0, cells := 0, slots := 0, locals := 0 } : Room).cells ({ frames := 0, cells := 0, slots := 0, locals := 0 } : Room).slots) (T.setTop (mkF m 5 #[.val (.ref a), .val (.int v), .val (.int (Int32.ofNat t)), .val (.int (1024 : Int32))] [])) := by
    intro r
    induction r with
    | zero =>
      intro t ht T h locs X eT K HL F
      obtain rfl : t = 1024 := by omega
      show Go p e below _ (T.setTop (mkF m 5 #[.val (.ref a), .val (.int v), .val (.int (Int32.ofNat 1024)), .val (.int (1024 : Int32))] []))
      refine go_iloadn X hx (dc hby d6_5) (v := (Int32.ofNat 1024)) rfl ?_
      refine go_iloadn X hx (dc hby d6_6) (v := (1024 : Int32)) rfl ?_
      refine go_icmp_ge X hx (db hby d6_7) (fun c7 => ?_) (fun c7 => ?_)
      · subst eT
        exact go_retV X hx hret (dc hby d6_20) hk (by decide) (by decide) ⟨rfl, K, HL, by
          obtain ⟨c, A, S, V⟩ := F
          exact ⟨c, A, S, fun j hj => by rw [V j hj]; simp [hj]⟩⟩
      · exact absurd c7 (by decide)
    | succ r ih =>
      intro t ht T h locs X eT K HL F
      show Go p e below _ (T.setTop (mkF m 5 #[.val (.ref a), .val (.int v), .val (.int (Int32.ofNat t)), .val (.int (1024 : Int32))] []))
      refine go_iloadn X hx (dc hby d6_5) (v := (Int32.ofNat t)) rfl ?_
      refine go_iloadn X hx (dc hby d6_6) (v := (1024 : Int32)) rfl ?_
      refine go_icmp_ge X hx (db hby d6_7) (fun c7 => ?_) (fun c7 => ?_)
      · exact absurd (own_ltN (by omega) (by omega)) c7
      · refine go_aloadn X hx (dc hby d6_10) (v := (.ref a)) rfl rfl ?_
        refine go_iloadn X hx (dc hby d6_11) (v := (Int32.ofNat t)) rfl ?_
        refine go_iloadn X hx (dc hby d6_12) (v := v) rfl ?_
        obtain ⟨c, A, S, V⟩ := F
        refine go_iastore X hx hZ eT A (own_inB S (by omega)) (dc hby d6_13) (fun T1 h1 X1 e1 W1 => ?_)
        rw [own_clamp (by omega)] at W1 X1
        refine go_iinc X1 hx (x := (Int32.ofNat t)) #[.val (.ref a), .val (.int v), .val (.int ((Int32.ofNat t) + (1 : Int32))), .val (.int (1024 : Int32))] (dc hby d6_14) rfl rfl ?_
        show Go p e below _ (T1.setTop (mkF m 17 #[.val (.ref a), .val (.int v), .val (.int ((Int32.ofNat t) + (1 : Int32))), .val (.int (1024 : Int32))] []))
        rw [own_succ]
        show Go p e below _ (T1.setTop (mkF m 17 #[.val (.ref a), .val (.int v), .val (.int (Int32.ofNat (t + 1))), .val (.int (1024 : Int32))] []))
        refine go_goto X1 hx (db hby d6_17) ?_
        refine ih (t + 1) (by omega) T1 h1 _ X1 e1 (K.wr W1 (Or.inl (by simp))) ?_ ?_
        · intro y hy
          rw [List.mem_append] at hy
          rcases hy with hy | hy
          · exact HL y hy
          · simp at hy; rw [hy]
        · have G := own_AI.set ⟨c, A, S, V⟩ W1 (by omega)
          obtain ⟨c', A', S', V'⟩ := G
          refine ⟨c', A', S', fun j hj => ?_⟩
          rw [V' j hj]
          by_cases q1 : j = t
          · subst q1; simp
          · by_cases q2 : j < t
            · have q3 : j < t + 1 := by omega
              simp [q1, q2, q3]
            · have q3 : ¬ j < t + 1 := by omega
              simp [q1, q2, q3]
  exact loop 1024 0 rfl _ _ _ X0 e0 (Keep.refl _ _) (fun y hy => by simp at hy) (by
    obtain ⟨c, A, S, V⟩ := F
    exact ⟨c, A, S, fun j hj => by rw [V j hj]; simp⟩)
theorem pd6 : parseMethodDescriptor "([II)V" = some ⟨[(.array .int), .int], none⟩ := by decide +kernel
theorem d4_0 : Dec prog_9_method_1_code 0 (.aload_n 0) 1 1 := ⟨by decide +kernel, rfl⟩
theorem d4_1 : Dec prog_9_method_1_code 1 (.invokespecial 1) 3 4 := ⟨by decide +kernel, rfl⟩
theorem d4_4 : Dec prog_9_method_1_code 4 (.aload_n 0) 1 5 := ⟨by decide +kernel, rfl⟩
theorem d4_5 : Dec prog_9_method_1_code 5 (.sipush 1024) 3 8 := ⟨by decide +kernel, rfl⟩
theorem d4_8 : Dec prog_9_method_1_code 8 (.newarray .long) 2 10 := ⟨by decide +kernel, rfl⟩
theorem d4_10 : Dec prog_9_method_1_code 10 (.putfield 7) 3 13 := ⟨by decide +kernel, rfl⟩
theorem d4_13 : Dec prog_9_method_1_code 13 (.aload_n 0) 1 14 := ⟨by decide +kernel, rfl⟩
theorem d4_14 : Dec prog_9_method_1_code 14 (.sipush 1024) 3 17 := ⟨by decide +kernel, rfl⟩
theorem d4_17 : Dec prog_9_method_1_code 17 (.newarray .int) 2 19 := ⟨by decide +kernel, rfl⟩
theorem d4_19 : Dec prog_9_method_1_code 19 (.putfield 13) 3 22 := ⟨by decide +kernel, rfl⟩
theorem d4_22 : Dec prog_9_method_1_code 22 (.aload_n 0) 1 23 := ⟨by decide +kernel, rfl⟩
theorem d4_23 : Dec prog_9_method_1_code 23 (.getfield 13) 3 26 := ⟨by decide +kernel, rfl⟩
theorem d4_26 : Dec prog_9_method_1_code 26 (.iconst (-1)) 1 27 := ⟨by decide +kernel, rfl⟩
theorem d4_27 : Dec prog_9_method_1_code 27 (.invokestatic 17) 3 30 := ⟨by decide +kernel, rfl⟩
theorem d4_30 : Dec prog_9_method_1_code 30 (.return_) 1 31 := ⟨by decide +kernel, rfl⟩
theorem pn4 : plainName "com/example/strict_tariff/stricttariff/LongNumbering" = true := by first | (simp [plainName, overriddenIn]; done) | decide +kernel
theorem ef4 (x0 : Addr) (m : MethodId) : entryFrame m #[(.ref x0)] 1 = mkF m 0 #[.val (.ref x0)] [] := by first | (simp [entryFrame, mkF, argsToLocals, Value.category, maxLocals]; done) | rfl
set_option maxRecDepth 65536 in
set_option maxHeartbeats 40000000 in
theorem rm4 (l : Launch) (Z : State) (a0 : Array Value) (hw : ∀ d ∈ tables_1, d.before a0 Z = true) (ws : List Jvm.Cond) (a : Addr) (h0 : Heap) (E0 : Exa Z h0 a "com/example/strict_tariff/stricttariff/LongNumbering") (FK : Fld Z h0 a "com/example/strict_tariff/stricttariff/LongNumbering" "keys" "[J" .null) (FN : Fld Z h0 a "com/example/strict_tariff/stricttariff/LongNumbering" "numbers" "[I" .null) (FS : Fld Z h0 a "com/example/strict_tariff/stricttariff/LongNumbering" "size" "I" (.int 0)) : Ct l Z (⟨"com/example/strict_tariff/stricttariff/LongNumbering", "<init>", "()V"⟩ : MethodName) prog_9_method_1_code 1 none ws ({ frames := 1, cells := 2, slots := 2048, locals := 17 } : Room) #[(.ref a)] h0 (fun v h L => v = none ∧ Keep h0 h [a] ∧ (∀ y ∈ L, y.base = a ∨ h0.size ≤ y.base) ∧ ∃ ka na, h0.size ≤ ka ∧ h0.size ≤ na ∧ own_T Z h a ka na []) := by
  refine Ct.of (pn4) _ (ef4 a) ?_
  intro p e s m below meth c T0 hx hby hml hZ hown hnm hret hk e0 X0
  show Go p e below _ (T0.setTop (mkF m 0 #[.val (.ref a)] []))
  refine go_aloadn X0 hx (dc hby d4_0) (v := (.ref a)) rfl rfl ?_
  refine go_initO X0 hx hZ hown (hw _ (List.mem_of_getElem? (i := 18) rfl)) (hw _ (List.mem_of_getElem? (i := 19) rfl)) (hw _ (List.mem_of_getElem? (i := 20) rfl)) e0 (by rw [hml]; rfl) (dc hby d4_1) (by decide) 0 (Nat.le_of_eq rfl) (by decide) (fun T1 X1 e1 => ?_)
  refine go_aloadn X1 hx (dc hby d4_4) (v := (.ref a)) rfl rfl ?_
  refine go_sipush X1 hx (1024) (dc hby d4_5) rfl ?_
  refine go_newP X1 hx hZ (hw _ (List.mem_of_getElem? (i := 21) rfl)) e1 (dc hby d4_8) (by decide) 1024 (by decide) (by decide) (by decide) (by decide) (fun T2 h2 cA2 ka g2 X2 e2 E2 A2 => ?_)
  have hka : h0.size ≤ ka := Nat.le_of_eq g2.symm
  have BJ : own_AJ Z h2 ka (fun _ => 0) := ⟨_, A2, by rw [sz_new]; rfl, fun j hj => own_newJ hj⟩
  have al : a < ka := by rw [g2]; exact E0.lt
  refine go_putF X2 hx hZ (host := "") hown (Or.inl (hw _ (List.mem_of_getElem? (i := 22) rfl))) Via.refl e2 (FK.ext E2) (E0.ext E2) (Or.inl (hw _ (List.mem_of_getElem? (i := 23) rfl))) (hw _ (List.mem_of_getElem? (i := 13) rfl)) (ty := .array .long) (by decide) rfl rfl (dc hby d4_10) (fun T3 h3 X3 e3 W3 => ?_)
  refine go_aloadn X3 hx (dc hby d4_13) (v := (.ref a)) rfl rfl ?_
  refine go_sipush X3 hx (1024) (dc hby d4_14) rfl ?_
  have FK3 := (FK.ext E2).same W3
  have FN3 := (FN.ext E2).other W3 (Or.inr (slot_ne (C := "com/example/strict_tariff/stricttariff/LongNumbering") (Or.inl (hw _ (List.mem_of_getElem? (i := 26) rfl))) (Or.inl (hw _ (List.mem_of_getElem? (i := 23) rfl))) (by decide) (t := .array .int) (by decide) (t' := .array .long) (by decide)))
  have FS3 := (FS.ext E2).other W3 (Or.inr (slot_ne (C := "com/example/strict_tariff/stricttariff/LongNumbering") (Or.inl (hw _ (List.mem_of_getElem? (i := 37) rfl))) (Or.inl (hw _ (List.mem_of_getElem? (i := 23) rfl))) (by decide) (t := .int) (by decide) (t' := .array .long) (by decide)))
  have BJ3 := BJ.other W3 (Nat.ne_of_gt al)
  have EE3 := (E0.ext E2).wr W3
  refine go_newP X3 hx hZ (hw _ (List.mem_of_getElem? (i := 24) rfl)) e3 (dc hby d4_17) (by decide) 1024 (by decide) (by decide) (by decide) (by decide) (fun T4 h4 cA4 na g4 X4 e4 E4 A4 => ?_)
  have kl : ka < na := by rw [g4]; obtain ⟨c, A, _⟩ := BJ3; exact A.lt
  have hna : h0.size ≤ na := Nat.le_trans hka (Nat.le_of_lt kl)
  have BI : own_AI Z h4 na (fun _ => 0) := ⟨_, A4, by rw [sz_new]; rfl, fun j hj => own_newI hj⟩
  refine go_putF X4 hx hZ (host := "") hown (Or.inl (hw _ (List.mem_of_getElem? (i := 25) rfl))) Via.refl e4 (FN3.ext E4) (EE3.ext E4) (Or.inl (hw _ (List.mem_of_getElem? (i := 26) rfl))) (hw _ (List.mem_of_getElem? (i := 13) rfl)) (ty := .array .int) (by decide) rfl rfl (dc hby d4_19) (fun T5 h5 X5 e5 W5 => ?_)
  refine go_aloadn X5 hx (dc hby d4_22) (v := (.ref a)) rfl rfl ?_
  have FN5 := (FN3.ext E4).same W5
  have FK5 := (FK3.ext E4).other W5 (Or.inr (slot_ne (C := "com/example/strict_tariff/stricttariff/LongNumbering") (Or.inl (hw _ (List.mem_of_getElem? (i := 23) rfl))) (Or.inl (hw _ (List.mem_of_getElem? (i := 26) rfl))) (by decide) (t := .array .long) (by decide) (t' := .array .int) (by decide)))
  have FS5 := (FS3.ext E4).other W5 (Or.inr (slot_ne (C := "com/example/strict_tariff/stricttariff/LongNumbering") (Or.inl (hw _ (List.mem_of_getElem? (i := 37) rfl))) (Or.inl (hw _ (List.mem_of_getElem? (i := 26) rfl))) (by decide) (t := .int) (by decide) (t' := .array .int) (by decide)))
  have an : a < na := Nat.lt_trans al kl
  have BI5 := BI.other W5 (Nat.ne_of_gt an)
  have BJ5 := (own_AJ.keep BJ3 ((Keep.refl _ []).ext E4) (by simp)).other W5 (Nat.ne_of_gt al)
  have EE5 := (EE3.ext E4).wr W5
  refine go_getF X5 hx hZ (host := "") hown (Or.inl (hw _ (List.mem_of_getElem? (i := 25) rfl))) Via.refl e5 FN5 (dc hby d4_23) (fun T6 X6 e6 => ?_)
  refine go_iconst X6 hx (-1) (dc hby d4_26) rfl ?_
  refine go_static X6 hx hZ hown (hw _ (List.mem_of_getElem? (i := 27) rfl)) (hw _ (List.mem_of_getElem? (i := 28) rfl)) (hw _ (List.mem_of_getElem? (i := 29) rfl)) (hw _ (List.mem_of_getElem? (i := 30) rfl)) (by decide) e6 [(.ref na), (.int (-1 : Int32))] [] (rm6 l Z a0 hw [] na (-1) (fun _ => 0) h5 BI5) pd6 rfl (by rw [hml]; rfl) rfl 0 (Nat.le_of_eq rfl) (by decide) (by decide) (by decide) (by decide) (dc hby d4_27) (fun T7 v7 L7 X7 hQ7 => ?_)
  obtain ⟨rfl, K7, N7, B7⟩ := hQ7
  show Go p e below _ (T7.setTop (mkF m 30 #[.val (.ref a)] []))
  have K4 : Keep h0 h5 [a] := ((((Keep.refl _ _).ext E2).wr W3 (Or.inl (by simp))).ext E4).wr W5 (Or.inl (by simp))
  exact go_retV X7 hx hret (dc hby d4_30) hk (by decide) (by decide) ⟨rfl, K4.trans K7 (fun x hx => Or.inr (by simp at hx; rw [hx]; exact hna)), fun y hy => by
      simp only [List.nil_append, List.mem_append, List.mem_singleton] at hy
      rcases hy with (hy | hy) | hy
      · rw [hy]; exact Or.inl rfl
      · rw [hy]; exact Or.inl rfl
      · rw [N7 y hy]; exact Or.inr hna, ka, na, hka, hna, ⟨EE5.keep K7, FK5.keep K7 (by simp; exact Nat.ne_of_lt an), FN5.keep K7 (by simp; exact Nat.ne_of_lt an), FS5.keep K7 (by simp; exact Nat.ne_of_lt an), al, kl⟩, _, _, fun _ => 0, BJ5.keep K7 (by simp; exact Nat.ne_of_lt kl), B7, own_inv0⟩
theorem pd4 : parseMethodDescriptor "()V" = some ⟨[], none⟩ := by decide +kernel
theorem d8_0 : Dec prog_9_method_3_code 0 (.lload_n 1) 1 1 := ⟨by decide +kernel, rfl⟩
theorem d8_1 : Dec prog_9_method_3_code 1 (.aload_n 0) 1 2 := ⟨by decide +kernel, rfl⟩
theorem d8_2 : Dec prog_9_method_3_code 2 (.getfield 7) 3 5 := ⟨by decide +kernel, rfl⟩
theorem d8_5 : Dec prog_9_method_3_code 5 (.arraylength) 1 6 := ⟨by decide +kernel, rfl⟩
theorem d8_6 : Dec prog_9_method_3_code 6 (.invokestatic 27) 3 9 := ⟨by decide +kernel, rfl⟩
theorem d8_9 : Dec prog_9_method_3_code 9 (.istore_n 3) 1 10 := ⟨by decide +kernel, rfl⟩
theorem d8_10 : Dec prog_9_method_3_code 10 (.aload_n 0) 1 11 := ⟨by decide +kernel, rfl⟩
theorem d8_11 : Dec prog_9_method_3_code 11 (.getfield 13) 3 14 := ⟨by decide +kernel, rfl⟩
theorem d8_14 : Dec prog_9_method_3_code 14 (.iload_n 3) 1 15 := ⟨by decide +kernel, rfl⟩
theorem d8_15 : Dec prog_9_method_3_code 15 (.iaload) 1 16 := ⟨by decide +kernel, rfl⟩
theorem d8_16 : Dec prog_9_method_3_code 16 (.iconst (-1)) 1 17 := ⟨by decide +kernel, rfl⟩
theorem d8_17 : DecB prog_9_method_3_code 17 (.if_icmp .eq 36) (36) 20 53 := ⟨by decide +kernel, rfl, by decide, by decide⟩
theorem d8_20 : Dec prog_9_method_3_code 20 (.aload_n 0) 1 21 := ⟨by decide +kernel, rfl⟩
theorem d8_21 : Dec prog_9_method_3_code 21 (.getfield 7) 3 24 := ⟨by decide +kernel, rfl⟩
theorem d8_24 : Dec prog_9_method_3_code 24 (.iload_n 3) 1 25 := ⟨by decide +kernel, rfl⟩
theorem d8_25 : Dec prog_9_method_3_code 25 (.laload) 1 26 := ⟨by decide +kernel, rfl⟩
theorem d8_26 : Dec prog_9_method_3_code 26 (.lload_n 1) 1 27 := ⟨by decide +kernel, rfl⟩
theorem d8_27 : Dec prog_9_method_3_code 27 (.lcmp) 1 28 := ⟨by decide +kernel, rfl⟩
theorem d8_28 : DecB prog_9_method_3_code 28 (.ifCond .ne 10) (10) 31 38 := ⟨by decide +kernel, rfl, by decide, by decide⟩
theorem d8_31 : Dec prog_9_method_3_code 31 (.aload_n 0) 1 32 := ⟨by decide +kernel, rfl⟩
theorem d8_32 : Dec prog_9_method_3_code 32 (.getfield 13) 3 35 := ⟨by decide +kernel, rfl⟩
theorem d8_35 : Dec prog_9_method_3_code 35 (.iload_n 3) 1 36 := ⟨by decide +kernel, rfl⟩
theorem d8_36 : Dec prog_9_method_3_code 36 (.iaload) 1 37 := ⟨by decide +kernel, rfl⟩
theorem d8_37 : Dec prog_9_method_3_code 37 (.ireturn) 1 38 := ⟨by decide +kernel, rfl⟩
theorem d8_38 : Dec prog_9_method_3_code 38 (.iload_n 3) 1 39 := ⟨by decide +kernel, rfl⟩
theorem d8_39 : Dec prog_9_method_3_code 39 (.iconst 1) 1 40 := ⟨by decide +kernel, rfl⟩
theorem d8_40 : Dec prog_9_method_3_code 40 (.iadd) 1 41 := ⟨by decide +kernel, rfl⟩
theorem d8_41 : Dec prog_9_method_3_code 41 (.aload_n 0) 1 42 := ⟨by decide +kernel, rfl⟩
theorem d8_42 : Dec prog_9_method_3_code 42 (.getfield 7) 3 45 := ⟨by decide +kernel, rfl⟩
theorem d8_45 : Dec prog_9_method_3_code 45 (.arraylength) 1 46 := ⟨by decide +kernel, rfl⟩
theorem d8_46 : Dec prog_9_method_3_code 46 (.iconst 1) 1 47 := ⟨by decide +kernel, rfl⟩
theorem d8_47 : Dec prog_9_method_3_code 47 (.isub) 1 48 := ⟨by decide +kernel, rfl⟩
theorem d8_48 : Dec prog_9_method_3_code 48 (.iand) 1 49 := ⟨by decide +kernel, rfl⟩
theorem d8_49 : Dec prog_9_method_3_code 49 (.istore_n 3) 1 50 := ⟨by decide +kernel, rfl⟩
theorem d8_50 : DecB prog_9_method_3_code 50 (.goto (-40)) (-40) 53 10 := ⟨by decide +kernel, rfl, by decide, by decide⟩
theorem d8_53 : Dec prog_9_method_3_code 53 (.aload_n 0) 1 54 := ⟨by decide +kernel, rfl⟩
theorem d8_54 : Dec prog_9_method_3_code 54 (.getfield 7) 3 57 := ⟨by decide +kernel, rfl⟩
theorem d8_57 : Dec prog_9_method_3_code 57 (.iload_n 3) 1 58 := ⟨by decide +kernel, rfl⟩
theorem d8_58 : Dec prog_9_method_3_code 58 (.lload_n 1) 1 59 := ⟨by decide +kernel, rfl⟩
theorem d8_59 : Dec prog_9_method_3_code 59 (.lastore) 1 60 := ⟨by decide +kernel, rfl⟩
theorem d8_60 : Dec prog_9_method_3_code 60 (.aload_n 0) 1 61 := ⟨by decide +kernel, rfl⟩
theorem d8_61 : Dec prog_9_method_3_code 61 (.getfield 13) 3 64 := ⟨by decide +kernel, rfl⟩
theorem d8_64 : Dec prog_9_method_3_code 64 (.iload_n 3) 1 65 := ⟨by decide +kernel, rfl⟩
theorem d8_65 : Dec prog_9_method_3_code 65 (.aload_n 0) 1 66 := ⟨by decide +kernel, rfl⟩
theorem d8_66 : Dec prog_9_method_3_code 66 (.dup) 1 67 := ⟨by decide +kernel, rfl⟩
theorem d8_67 : Dec prog_9_method_3_code 67 (.getfield 23) 3 70 := ⟨by decide +kernel, rfl⟩
theorem d8_70 : Dec prog_9_method_3_code 70 (.dup_x1) 1 71 := ⟨by decide +kernel, rfl⟩
theorem d8_71 : Dec prog_9_method_3_code 71 (.iconst 1) 1 72 := ⟨by decide +kernel, rfl⟩
theorem d8_72 : Dec prog_9_method_3_code 72 (.iadd) 1 73 := ⟨by decide +kernel, rfl⟩
theorem d8_73 : Dec prog_9_method_3_code 73 (.putfield 23) 3 76 := ⟨by decide +kernel, rfl⟩
theorem d8_76 : Dec prog_9_method_3_code 76 (.iastore) 1 77 := ⟨by decide +kernel, rfl⟩
theorem d8_77 : Dec prog_9_method_3_code 77 (.aload_n 0) 1 78 := ⟨by decide +kernel, rfl⟩
theorem d8_78 : Dec prog_9_method_3_code 78 (.getfield 23) 3 81 := ⟨by decide +kernel, rfl⟩
theorem d8_81 : Dec prog_9_method_3_code 81 (.i2l) 1 82 := ⟨by decide +kernel, rfl⟩
theorem d8_82 : Dec prog_9_method_3_code 82 (.ldc2_w 31) 3 85 := ⟨by decide +kernel, rfl⟩
theorem d8_85 : Dec prog_9_method_3_code 85 (.lmul) 1 86 := ⟨by decide +kernel, rfl⟩
theorem d8_86 : Dec prog_9_method_3_code 86 (.aload_n 0) 1 87 := ⟨by decide +kernel, rfl⟩
theorem d8_87 : Dec prog_9_method_3_code 87 (.getfield 7) 3 90 := ⟨by decide +kernel, rfl⟩
theorem d8_90 : Dec prog_9_method_3_code 90 (.arraylength) 1 91 := ⟨by decide +kernel, rfl⟩
theorem d8_91 : Dec prog_9_method_3_code 91 (.i2l) 1 92 := ⟨by decide +kernel, rfl⟩
theorem d8_92 : Dec prog_9_method_3_code 92 (.ldc2_w 33) 3 95 := ⟨by decide +kernel, rfl⟩
theorem d8_95 : Dec prog_9_method_3_code 95 (.lmul) 1 96 := ⟨by decide +kernel, rfl⟩
theorem d8_96 : Dec prog_9_method_3_code 96 (.lcmp) 1 97 := ⟨by decide +kernel, rfl⟩
theorem d8_97 : DecB prog_9_method_3_code 97 (.ifCond .le 7) (7) 100 104 := ⟨by decide +kernel, rfl, by decide, by decide⟩
theorem d8_104 : Dec prog_9_method_3_code 104 (.aload_n 0) 1 105 := ⟨by decide +kernel, rfl⟩
theorem d8_105 : Dec prog_9_method_3_code 105 (.getfield 23) 3 108 := ⟨by decide +kernel, rfl⟩
theorem d8_108 : Dec prog_9_method_3_code 108 (.iconst 1) 1 109 := ⟨by decide +kernel, rfl⟩
theorem d8_109 : Dec prog_9_method_3_code 109 (.isub) 1 110 := ⟨by decide +kernel, rfl⟩
theorem d8_110 : Dec prog_9_method_3_code 110 (.ireturn) 1 111 := ⟨by decide +kernel, rfl⟩
theorem pn8 : plainName "com/example/strict_tariff/stricttariff/LongNumbering" = true := by first | (simp [plainName, overriddenIn]; done) | decide +kernel
theorem ef8 (x0 : Addr) (x1 : Int64) (m : MethodId) : entryFrame m #[(.ref x0), (.long x1)] 4 = mkF m 0 #[.val (.ref x0), .val (.long x1), .second, .unset] [] := by first | (simp [entryFrame, mkF, argsToLocals, Value.category, maxLocals]; done) | rfl
set_option maxRecDepth 65536 in
set_option maxHeartbeats 40000000 in
theorem rm8 (l : Launch) (Z : State) (a0 : Array Value) (hw : ∀ d ∈ tables_1, d.before a0 Z = true) (ws : List Jvm.Cond) (a ka na : Addr) (ks : List Int64) (k : Int64) (h0 : Heap) (hlen : k ∈ ks ∨ ks.length ≤ 3) (hT : own_T Z h0 a ka na ks) : Ct l Z (⟨"com/example/strict_tariff/stricttariff/LongNumbering", "number", "(J)I"⟩ : MethodName) prog_9_method_3_code 4 (some .int) ws ({ frames := 2, cells := 0, slots := 0, locals := 32 } : Room) #[(.ref a), (.long k)] h0 (fun v h L => v = some (.int (Int32.ofNat (ks.idxOf k))) ∧ Keep h0 h [a, ka, na] ∧ (∀ y ∈ L, y.base = a ∨ y.base = ka ∨ y.base = na) ∧ own_T Z h a ka na (own_add ks k)) := by
  refine Ct.of (pn8) _ (ef8 a k) ?_
  intro p e s m below meth c T0 hx hby hml hZ hown hnm hret hk e0 X0
  show Go p e below _ (T0.setTop (mkF m 0 #[.val (.ref a), .val (.long k), .second, .unset] []))
  obtain ⟨⟨E0, FK, FN, FS, al, kl⟩, K, N, P, BJ, BI, I0⟩ := hT
  have BJ' := BJ
  have BI' := BI
  obtain ⟨cJ, AJ, SJ, VJ⟩ := BJ'
  obtain ⟨cI, AI, SI, VI⟩ := BI'
  obtain ⟨D, hD, hpath, hstop⟩ := own_stop I0 k
  refine go_lloadn X0 hx (dc hby d8_0) (v := k) rfl ?_
  refine go_aloadn X0 hx (dc hby d8_1) (v := (.ref a)) rfl rfl ?_
  refine go_getF X0 hx hZ (host := "") hown (Or.inl (hw _ (List.mem_of_getElem? (i := 22) rfl))) Via.refl e0 FK (dc hby d8_2) (fun T1 X1 e1 => ?_)
  refine go_alen X1 hx hZ e1 AJ (z := 1024) SJ (by decide) (dc hby d8_5) ?_
  refine go_staticP X1 hx hZ hown (hw _ (List.mem_of_getElem? (i := 43) rfl)) (hw _ (List.mem_of_getElem? (i := 44) rfl)) (hw _ (List.mem_of_getElem? (i := 14) rfl)) (hw _ (List.mem_of_getElem? (i := 45) rfl)) (by decide) e1 [(.long k), (.int (1024 : Int32))] [] (r := (.int (own_hash k))) (rm9 l Z a0 hw [] k h0) pd9 rfl (by rw [hml]; rfl) rfl 0 (Nat.le_of_eq rfl) (by decide) (by decide) rfl rfl (by decide) (by decide) (dc hby d8_6) (fun T2 X2 e2 => ?_)
  show Go p e below _ (T2.setTop (mkF m 9 #[.val (.ref a), .val (.long k), .second, .unset] [(.int (own_hash k))]))
  rw [own_hashN0 k]
  show Go p e below _ (T2.setTop (mkF m 9 #[.val (.ref a), .val (.long k), .second, .unset] [(.int (Int32.ofNat ((own_H k + 0) % 1024)))]))
  refine go_istoren X2 hx #[.val (.ref a), .val (.long k), .second, .val (.int (Int32.ofNat ((own_H k + 0) % 1024)))] (dc hby d8_9) rfl ?_
  have base : ∀ (T : State), Stand p l e ({ frames := 2, cells := 0, slots := 0, locals := 32 } : Room) s m #[(.ref a), (.long k)] below meth c T [] 0 0 → T.heap = h0 → Go p e below (EndN s (fun v h L => v = some (.int (Int32.ofNat (ks.idxOf k))) ∧ Keep h0 h [a, ka, na] ∧ (∀ y ∈ L, y.base = a ∨ y.base = ka ∨ y.base = na) ∧ own_T Z h a ka na (own_add ks k)) ({ frames := 2, cells := 0, slots := 0, locals := 32 } : Room).cells ({ frames := 2, cells := 0, slots := 0, locals := 32 } : Room).slots) (T.setTop (mkF m 10 #[.val (.ref a), .val (.long k), .second, .val (.int (Int32.ofNat ((own_H k + D) % 1024)))] [])) := by
    intro T X eT
    have hd : (own_H k + D) % 1024 < 1024 := Nat.mod_lt _ (by decide)
    show Go p e below _ (T.setTop (mkF m 10 #[.val (.ref a), .val (.long k), .second, .val (.int (Int32.ofNat ((own_H k + D) % 1024)))] []))
    rcases hstop with ⟨hfree, hnot⟩ | ⟨t, ht, hPt, hkt⟩
    · show Go p e below _ (T.setTop (mkF m 10 #[.val (.ref a), .val (.long k), .second, .val (.int (Int32.ofNat ((own_H k + D) % 1024)))] []))
      refine go_aloadn X hx (dc hby d8_10) (v := (.ref a)) rfl rfl ?_
      refine go_getF X hx hZ (host := "") hown (Or.inl (hw _ (List.mem_of_getElem? (i := 25) rfl))) Via.refl eT FN (dc hby d8_11) (fun T3 X3 e3 => ?_)
      refine go_iloadn X3 hx (dc hby d8_14) (v := (Int32.ofNat ((own_H k + D) % 1024))) rfl ?_
      refine go_iaload X3 hx hZ e3 AI (w := (N ((own_H k + D) % 1024))) (own_inB SI hd) (by rw [own_clamp (by omega)]; exact VI _ hd) (dc hby d8_15) ?_
      refine go_iconst X3 hx (-1) (dc hby d8_16) rfl ?_
      refine go_icmp_eq X3 hx (db hby d8_17) (fun c17 => ?_) (fun c17 => ?_)
      · refine go_aloadn X3 hx (dc hby d8_53) (v := (.ref a)) rfl rfl ?_
        refine go_getF X3 hx hZ (host := "") hown (Or.inl (hw _ (List.mem_of_getElem? (i := 22) rfl))) Via.refl e3 FK (dc hby d8_54) (fun T4 X4 e4 => ?_)
        refine go_iloadn X4 hx (dc hby d8_57) (v := (Int32.ofNat ((own_H k + D) % 1024))) rfl ?_
        refine go_lloadn X4 hx (dc hby d8_58) (v := k) rfl ?_
        refine go_lastore X4 hx hZ e4 AJ (own_inB SJ hd) (dc hby d8_59) (fun T5 h5 X5 e5 W5 => ?_)
        rw [own_clamp (by omega)] at W5
        have FK5 := FK.other W5 (Or.inl (Nat.ne_of_lt al))
        have FN5 := FN.other W5 (Or.inl (Nat.ne_of_lt al))
        have FS5 := FS.other W5 (Or.inl (Nat.ne_of_lt al))
        have E5 := E0.wr W5
        have BJ5 := BJ.set W5 hd
        have BI5 := BI.other W5 (Nat.ne_of_gt kl)
        refine go_aloadn X5 hx (dc hby d8_60) (v := (.ref a)) rfl rfl ?_
        refine go_getF X5 hx hZ (host := "") hown (Or.inl (hw _ (List.mem_of_getElem? (i := 25) rfl))) Via.refl e5 FN5 (dc hby d8_61) (fun T6 X6 e6 => ?_)
        refine go_iloadn X6 hx (dc hby d8_64) (v := (Int32.ofNat ((own_H k + D) % 1024))) rfl ?_
        refine go_aloadn X6 hx (dc hby d8_65) (v := (.ref a)) rfl rfl ?_
        refine go_dup X6 hx (dc hby d8_66) rfl ?_
        refine go_getF X6 hx hZ (host := "") hown (Or.inl (hw _ (List.mem_of_getElem? (i := 36) rfl))) Via.refl e6 FS5 (dc hby d8_67) (fun T7 X7 e7 => ?_)
        refine go_dupx1 X7 hx (dc hby d8_70) rfl rfl ?_
        refine go_iconst X7 hx (1) (dc hby d8_71) rfl ?_
        refine go_iadd X7 hx (dc hby d8_72) ?_
        refine go_putF X7 hx hZ (host := "") hown (Or.inl (hw _ (List.mem_of_getElem? (i := 36) rfl))) Via.refl e7 FS5 E5 (Or.inl (hw _ (List.mem_of_getElem? (i := 37) rfl))) (hw _ (List.mem_of_getElem? (i := 13) rfl)) (ty := .int) (by decide) rfl rfl (dc hby d8_73) (fun T8 h8 X8 e8 W8 => ?_)
        have FK8 := FK5.other W8 (Or.inr (slot_ne (C := "com/example/strict_tariff/stricttariff/LongNumbering") (Or.inl (hw _ (List.mem_of_getElem? (i := 23) rfl))) (Or.inl (hw _ (List.mem_of_getElem? (i := 37) rfl))) (by decide) (t := .array .long) (by decide) (t' := .int) (by decide)))
        have FN8 := FN5.other W8 (Or.inr (slot_ne (C := "com/example/strict_tariff/stricttariff/LongNumbering") (Or.inl (hw _ (List.mem_of_getElem? (i := 26) rfl))) (Or.inl (hw _ (List.mem_of_getElem? (i := 37) rfl))) (by decide) (t := .array .int) (by decide) (t' := .int) (by decide)))
        have FS8 := FS5.same W8
        have E8 := E5.wr W8
        have an : a < na := Nat.lt_trans al kl
        have BJ8 := BJ5.other W8 (Nat.ne_of_gt al)
        have BI8 := BI5.other W8 (Nat.ne_of_gt an)
        have BI2 := BI8
        obtain ⟨cI2, AI2, SI2, VI2⟩ := BI2
        refine go_iastore X8 hx hZ e8 AI2 (own_inB SI2 hd) (dc hby d8_76) (fun T9 h9 X9 e9 W9 => ?_)
        rw [own_clamp (by omega)] at W9
        have FK9 := FK8.other W9 (Or.inl (Nat.ne_of_lt an))
        have FN9 := FN8.other W9 (Or.inl (Nat.ne_of_lt an))
        have FS9 := FS8.other W9 (Or.inl (Nat.ne_of_lt an))
        have E9 := E8.wr W9
        have BJ9 := BJ8.other W9 (Nat.ne_of_lt kl)
        have BI9 := BI8.set W9 hd
        refine go_aloadn X9 hx (dc hby d8_77) (v := (.ref a)) rfl rfl ?_
        refine go_getF X9 hx hZ (host := "") hown (Or.inl (hw _ (List.mem_of_getElem? (i := 36) rfl))) Via.refl e9 FS9 (dc hby d8_78) (fun T10 X10 e10 => ?_)
        refine go_i2l X10 hx (dc hby d8_81) ?_
        refine go_ldc2 X10 hx hZ hown (hw _ (List.mem_of_getElem? (i := 52) rfl)) (dc hby d8_82) ?_
        refine go_lmul X10 hx (dc hby d8_85) ?_
        refine go_aloadn X10 hx (dc hby d8_86) (v := (.ref a)) rfl rfl ?_
        refine go_getF X10 hx hZ (host := "") hown (Or.inl (hw _ (List.mem_of_getElem? (i := 22) rfl))) Via.refl e10 FK9 (dc hby d8_87) (fun T11 X11 e11 => ?_)
        have BJ3 := BJ9
        obtain ⟨cJ3, AJ3, SJ3, VJ3⟩ := BJ3
        refine go_alen X11 hx hZ e11 AJ3 (z := 1024) SJ3 (by decide) (dc hby d8_90) ?_
        refine go_i2l X11 hx (dc hby d8_91) ?_
        refine go_ldc2 X11 hx hZ hown (hw _ (List.mem_of_getElem? (i := 53) rfl)) (dc hby d8_92) ?_
        refine go_lmul X11 hx (dc hby d8_95) ?_
        refine go_lcmp X11 hx (dc hby d8_96) ?_
        refine go_ifc_le X11 hx (db hby d8_97) (fun c97 => ?_) (fun c97 => ?_)
        · refine go_aloadn X11 hx (dc hby d8_104) (v := (.ref a)) rfl rfl ?_
          refine go_getF X11 hx hZ (host := "") hown (Or.inl (hw _ (List.mem_of_getElem? (i := 36) rfl))) Via.refl e11 FS9 (dc hby d8_105) (fun T12 X12 e12 => ?_)
          refine go_iconst X12 hx (1) (dc hby d8_108) rfl ?_
          refine go_isub X12 hx (dc hby d8_109) ?_
          subst e12
          exact go_retI X12 hx hret (dc hby d8_110) hk (by decide) (by decide) ⟨by rw [own_pred]; rw [own_idxNot hnot], (((Keep.refl _ _).wr W5 (Or.inl (by simp))).wr W8 (Or.inl (by simp))).wr W9 (Or.inl (by simp)), fun y hy => by
              simp only [List.nil_append, List.mem_append, List.mem_singleton] at hy
              rcases hy with (hy | hy) | hy <;> rw [hy] <;> simp, by
              rw [own_addNot hnot]
              exact ⟨⟨E9, FK9, FN9, by rw [List.length_append, List.length_singleton, ← own_succ]; exact FS9, al, kl⟩, _, _, _, BJ9, BI9, own_grow I0 hD hpath hfree hnot hlen⟩⟩
        · exact absurd c97 (own_noGrow hlen I0.1)
      · exact absurd hfree c17
    · show Go p e below _ (T.setTop (mkF m 10 #[.val (.ref a), .val (.long k), .second, .val (.int (Int32.ofNat ((own_H k + D) % 1024)))] []))
      refine go_aloadn X hx (dc hby d8_10) (v := (.ref a)) rfl rfl ?_
      refine go_getF X hx hZ (host := "") hown (Or.inl (hw _ (List.mem_of_getElem? (i := 25) rfl))) Via.refl eT FN (dc hby d8_11) (fun T13 X13 e13 => ?_)
      refine go_iloadn X13 hx (dc hby d8_14) (v := (Int32.ofNat ((own_H k + D) % 1024))) rfl ?_
      refine go_iaload X13 hx hZ e13 AI (w := (N ((own_H k + D) % 1024))) (own_inB SI hd) (by rw [own_clamp (by omega)]; exact VI _ hd) (dc hby d8_15) ?_
      refine go_iconst X13 hx (-1) (dc hby d8_16) rfl ?_
      refine go_icmp_eq X13 hx (db hby d8_17) (fun c17 => ?_) (fun c17 => ?_)
      · exact absurd c17 (own_occ I0 ht hPt)
      · refine go_aloadn X13 hx (dc hby d8_20) (v := (.ref a)) rfl rfl ?_
        refine go_getF X13 hx hZ (host := "") hown (Or.inl (hw _ (List.mem_of_getElem? (i := 22) rfl))) Via.refl e13 FK (dc hby d8_21) (fun T14 X14 e14 => ?_)
        refine go_iloadn X14 hx (dc hby d8_24) (v := (Int32.ofNat ((own_H k + D) % 1024))) rfl ?_
        refine go_laload X14 hx hZ e14 AJ (w := (K ((own_H k + D) % 1024))) (own_inB SJ hd) (by rw [own_clamp (by omega)]; exact VJ _ hd) (dc hby d8_25) ?_
        refine go_lloadn X14 hx (dc hby d8_26) (v := k) rfl ?_
        refine go_lcmp X14 hx (dc hby d8_27) ?_
        refine go_ifc_ne X14 hx (db hby d8_28) (fun c28 => ?_) (fun c28 => ?_)
        · exact absurd ((own_cmp _ _).mpr (own_foundK I0 ht hPt hkt)) c28
        · refine go_aloadn X14 hx (dc hby d8_31) (v := (.ref a)) rfl rfl ?_
          refine go_getF X14 hx hZ (host := "") hown (Or.inl (hw _ (List.mem_of_getElem? (i := 25) rfl))) Via.refl e14 FN (dc hby d8_32) (fun T15 X15 e15 => ?_)
          refine go_iloadn X15 hx (dc hby d8_35) (v := (Int32.ofNat ((own_H k + D) % 1024))) rfl ?_
          refine go_iaload X15 hx hZ e15 AI (w := (N ((own_H k + D) % 1024))) (own_inB SI hd) (by rw [own_clamp (by omega)]; exact VI _ hd) (dc hby d8_36) ?_
          exact go_retI X15 hx hret (dc hby d8_37) hk (by decide) (by decide) ⟨by rw [own_found I0 ht hPt hkt], e15 ▸ Keep.refl _ _, fun y hy => by simp at hy, by
              rw [e15, own_addIn (own_mem I0 ht hkt)]
              exact ⟨⟨E0, FK, FN, FS, al, kl⟩, K, N, P, BJ, BI, I0⟩⟩
  have loop : ∀ (r d : Nat), d + r = D → ∀ (T : State), Stand p l e ({ frames := 2, cells := 0, slots := 0, locals := 32 } : Room) s m #[(.ref a), (.long k)] below meth c T [] 0 0 → T.heap = h0 → Go p e below (EndN s (fun v h L => v = some (.int (Int32.ofNat (ks.idxOf k))) ∧ Keep h0 h [a, ka, na] ∧ (∀ y ∈ L, y.base = a ∨ y.base = ka ∨ y.base = na) ∧ own_T Z h a ka na (own_add ks k)) ({ frames := 2, cells := 0, slots := 0, locals := 32 } : Room).cells ({ frames := 2, cells := 0, slots := 0, locals := 32 } : Room).slots) (T.setTop (mkF m 10 #[.val (.ref a), .val (.long k), .second, .val (.int (Int32.ofNat ((own_H k + d) % 1024)))] [])) := by
    intro r
    induction r with
    | zero => intro d hd T X eT; obtain rfl : d = D := by omega
              exact base T X eT
    | succ r ih =>
      intro d hdr T X eT
      have hd : (own_H k + d) % 1024 < 1024 := Nat.mod_lt _ (by decide)
      obtain ⟨t, ht, hPt, hkt⟩ := hpath d (by omega)
      show Go p e below _ (T.setTop (mkF m 10 #[.val (.ref a), .val (.long k), .second, .val (.int (Int32.ofNat ((own_H k + d) % 1024)))] []))
      refine go_aloadn X hx (dc hby d8_10) (v := (.ref a)) rfl rfl ?_
      refine go_getF X hx hZ (host := "") hown (Or.inl (hw _ (List.mem_of_getElem? (i := 25) rfl))) Via.refl eT FN (dc hby d8_11) (fun T16 X16 e16 => ?_)
      refine go_iloadn X16 hx (dc hby d8_14) (v := (Int32.ofNat ((own_H k + d) % 1024))) rfl ?_
      refine go_iaload X16 hx hZ e16 AI (w := (N ((own_H k + d) % 1024))) (own_inB SI hd) (by rw [own_clamp (by omega)]; exact VI _ hd) (dc hby d8_15) ?_
      refine go_iconst X16 hx (-1) (dc hby d8_16) rfl ?_
      refine go_icmp_eq X16 hx (db hby d8_17) (fun c17 => ?_) (fun c17 => ?_)
      · exact absurd c17 (own_occ I0 ht hPt)
      · refine go_aloadn X16 hx (dc hby d8_20) (v := (.ref a)) rfl rfl ?_
        refine go_getF X16 hx hZ (host := "") hown (Or.inl (hw _ (List.mem_of_getElem? (i := 22) rfl))) Via.refl e16 FK (dc hby d8_21) (fun T17 X17 e17 => ?_)
        refine go_iloadn X17 hx (dc hby d8_24) (v := (Int32.ofNat ((own_H k + d) % 1024))) rfl ?_
        refine go_laload X17 hx hZ e17 AJ (w := (K ((own_H k + d) % 1024))) (own_inB SJ hd) (by rw [own_clamp (by omega)]; exact VJ _ hd) (dc hby d8_25) ?_
        refine go_lloadn X17 hx (dc hby d8_26) (v := k) rfl ?_
        refine go_lcmp X17 hx (dc hby d8_27) ?_
        refine go_ifc_ne X17 hx (db hby d8_28) (fun c28 => ?_) (fun c28 => ?_)
        · refine go_iloadn X17 hx (dc hby d8_38) (v := (Int32.ofNat ((own_H k + d) % 1024))) rfl ?_
          refine go_iconst X17 hx (1) (dc hby d8_39) rfl ?_
          refine go_iadd X17 hx (dc hby d8_40) ?_
          refine go_aloadn X17 hx (dc hby d8_41) (v := (.ref a)) rfl rfl ?_
          refine go_getF X17 hx hZ (host := "") hown (Or.inl (hw _ (List.mem_of_getElem? (i := 22) rfl))) Via.refl e17 FK (dc hby d8_42) (fun T18 X18 e18 => ?_)
          refine go_alen X18 hx hZ e18 AJ (z := 1024) SJ (by decide) (dc hby d8_45) ?_
          refine go_iconst X18 hx (1) (dc hby d8_46) rfl ?_
          refine go_isub X18 hx (dc hby d8_47) ?_
          refine go_iand X18 hx (dc hby d8_48) ?_
          show Go p e below _ (T18.setTop (mkF m 49 #[.val (.ref a), .val (.long k), .second, .val (.int (Int32.ofNat ((own_H k + d) % 1024)))] [(.int (((Int32.ofNat ((own_H k + d) % 1024)) + (1 : Int32)) &&& ((1024 : Int32) - (1 : Int32))))]))
          rw [own_next]
          show Go p e below _ (T18.setTop (mkF m 49 #[.val (.ref a), .val (.long k), .second, .val (.int (Int32.ofNat ((own_H k + d) % 1024)))] [(.int (Int32.ofNat ((own_H k + (d + 1)) % 1024)))]))
          refine go_istoren X18 hx #[.val (.ref a), .val (.long k), .second, .val (.int (Int32.ofNat ((own_H k + (d + 1)) % 1024)))] (dc hby d8_49) rfl ?_
          refine go_goto X18 hx (db hby d8_50) ?_
          exact ih (d + 1) (by omega) T18 X18 e18
        · exact absurd ((own_cmp _ _).mp c28) (own_otherK I0 ht hPt hkt)
  exact loop D 0 (by omega) T2 X2 e2
theorem pd8 : parseMethodDescriptor "(J)I" = some ⟨[.long], some .int⟩ := by decide +kernel
theorem d0_0 : Dec code 0 (.lload_n 0) 1 1 := ⟨at_0, rfl⟩
theorem d0_1 : Dec code 1 (.iload 6) 2 3 := ⟨at_1, rfl⟩
theorem d0_3 : Dec code 3 (.i2l) 1 4 := ⟨at_3, rfl⟩
theorem d0_4 : Dec code 4 (.invokestatic 11) 3 7 := ⟨at_4, rfl⟩
theorem d0_7 : Dec code 7 (.lmul) 1 8 := ⟨at_7, rfl⟩
theorem d0_8 : Dec code 8 (.ladd) 1 9 := ⟨at_8, rfl⟩
theorem d0_9 : Dec code 9 (.lstore 8) 2 11 := ⟨at_9, rfl⟩
theorem d0_11 : Dec code 11 (.iload 7) 2 13 := ⟨at_11, rfl⟩
theorem d0_13 : Dec code 13 (.lload_n 0) 1 14 := ⟨at_13, rfl⟩
theorem d0_14 : Dec code 14 (.lload_n 2) 1 15 := ⟨at_14, rfl⟩
theorem d0_15 : Dec code 15 (.lload 4) 2 17 := ⟨at_15, rfl⟩
theorem d0_17 : Dec code 17 (.lload 8) 2 19 := ⟨at_17, rfl⟩
theorem d0_19 : Dec code 19 (.invokestatic 17) 3 22 := ⟨at_19, rfl⟩
theorem d0_22 : Dec code 22 (.lstore 10) 2 24 := ⟨at_22, rfl⟩
theorem d0_24 : Dec code 24 (.iload 7) 2 26 := ⟨at_24, rfl⟩
theorem d0_26 : Dec code 26 (.iconst 2) 1 27 := ⟨at_26, rfl⟩
theorem d0_27 : Dec code 27 (.iushr) 1 28 := ⟨at_27, rfl⟩
theorem d0_28 : Dec code 28 (.lload_n 0) 1 29 := ⟨at_28, rfl⟩
theorem d0_29 : Dec code 29 (.lload_n 2) 1 30 := ⟨at_29, rfl⟩
theorem d0_30 : Dec code 30 (.lload 4) 2 32 := ⟨at_30, rfl⟩
theorem d0_32 : Dec code 32 (.lload 8) 2 34 := ⟨at_32, rfl⟩
theorem d0_34 : Dec code 34 (.invokestatic 17) 3 37 := ⟨at_34, rfl⟩
theorem d0_37 : Dec code 37 (.lstore 12) 2 39 := ⟨at_37, rfl⟩
theorem d0_39 : Dec code 39 (.iload 7) 2 41 := ⟨at_39, rfl⟩
theorem d0_41 : Dec code 41 (.iconst 4) 1 42 := ⟨at_41, rfl⟩
theorem d0_42 : Dec code 42 (.iushr) 1 43 := ⟨at_42, rfl⟩
theorem d0_43 : Dec code 43 (.lload_n 0) 1 44 := ⟨at_43, rfl⟩
theorem d0_44 : Dec code 44 (.lload_n 2) 1 45 := ⟨at_44, rfl⟩
theorem d0_45 : Dec code 45 (.lload 4) 2 47 := ⟨at_45, rfl⟩
theorem d0_47 : Dec code 47 (.lload 8) 2 49 := ⟨at_47, rfl⟩
theorem d0_49 : Dec code 49 (.invokestatic 17) 3 52 := ⟨at_49, rfl⟩
theorem d0_52 : Dec code 52 (.lstore 14) 2 54 := ⟨at_52, rfl⟩
theorem d0_54 : Dec code 54 (.iload 7) 2 56 := ⟨at_54, rfl⟩
theorem d0_56 : Dec code 56 (.bipush 6) 2 58 := ⟨at_56, rfl⟩
theorem d0_58 : Dec code 58 (.iushr) 1 59 := ⟨at_58, rfl⟩
theorem d0_59 : Dec code 59 (.lload_n 0) 1 60 := ⟨at_59, rfl⟩
theorem d0_60 : Dec code 60 (.lload_n 2) 1 61 := ⟨at_60, rfl⟩
theorem d0_61 : Dec code 61 (.lload 4) 2 63 := ⟨at_61, rfl⟩
theorem d0_63 : Dec code 63 (.lload 8) 2 65 := ⟨at_63, rfl⟩
theorem d0_65 : Dec code 65 (.invokestatic 17) 3 68 := ⟨at_65, rfl⟩
theorem d0_68 : Dec code 68 (.lstore 16) 2 70 := ⟨at_68, rfl⟩
theorem d0_70 : Dec code 70 (.iload 7) 2 72 := ⟨at_70, rfl⟩
theorem d0_72 : Dec code 72 (.bipush 8) 2 74 := ⟨at_72, rfl⟩
theorem d0_74 : Dec code 74 (.iushr) 1 75 := ⟨at_74, rfl⟩
theorem d0_75 : Dec code 75 (.lload 10) 2 77 := ⟨at_75, rfl⟩
theorem d0_77 : Dec code 77 (.lload 12) 2 79 := ⟨at_77, rfl⟩
theorem d0_79 : Dec code 79 (.lload 14) 2 81 := ⟨at_79, rfl⟩
theorem d0_81 : Dec code 81 (.lload 16) 2 83 := ⟨at_81, rfl⟩
theorem d0_83 : Dec code 83 (.invokestatic 17) 3 86 := ⟨at_83, rfl⟩
theorem d0_86 : Dec code 86 (.lstore 18) 2 88 := ⟨at_86, rfl⟩
theorem d0_88 : Dec code 88 (.iconst 1) 1 89 := ⟨at_88, rfl⟩
theorem d0_89 : Dec code 89 (.istore 20) 2 91 := ⟨at_89, rfl⟩
theorem d0_91 : Dec code 91 (.iconst 0) 1 92 := ⟨at_91, rfl⟩
theorem d0_92 : Dec code 92 (.istore 21) 2 94 := ⟨at_92, rfl⟩
theorem d0_94 : Dec code 94 (.lload 12) 2 96 := ⟨at_94, rfl⟩
theorem d0_96 : Dec code 96 (.lload 10) 2 98 := ⟨at_96, rfl⟩
theorem d0_98 : Dec code 98 (.lcmp) 1 99 := ⟨at_98, rfl⟩
theorem d0_99 : DecB code 99 (.ifCond .ne 9) (9) 102 108 := ⟨at_99, rfl, by decide, by decide⟩
theorem d0_102 : Dec code 102 (.iconst 0) 1 103 := ⟨at_102, rfl⟩
theorem d0_103 : Dec code 103 (.istore 22) 2 105 := ⟨at_103, rfl⟩
theorem d0_105 : DecB code 105 (.goto 13) (13) 108 118 := ⟨at_105, rfl, by decide, by decide⟩
theorem d0_108 : Dec code 108 (.iload 20) 2 110 := ⟨at_108, rfl⟩
theorem d0_110 : Dec code 110 (.istore 22) 2 112 := ⟨at_110, rfl⟩
theorem d0_112 : Dec code 112 (.iload 20) 2 114 := ⟨at_112, rfl⟩
theorem d0_114 : Dec code 114 (.iconst 1) 1 115 := ⟨at_114, rfl⟩
theorem d0_115 : Dec code 115 (.iadd) 1 116 := ⟨at_115, rfl⟩
theorem d0_116 : Dec code 116 (.istore 20) 2 118 := ⟨at_116, rfl⟩
theorem d0_118 : Dec code 118 (.lload 14) 2 120 := ⟨at_118, rfl⟩
theorem d0_120 : Dec code 120 (.lload 10) 2 122 := ⟨at_120, rfl⟩
theorem d0_122 : Dec code 122 (.lcmp) 1 123 := ⟨at_122, rfl⟩
theorem d0_123 : DecB code 123 (.ifCond .ne 9) (9) 126 132 := ⟨at_123, rfl, by decide, by decide⟩
theorem d0_126 : Dec code 126 (.iconst 0) 1 127 := ⟨at_126, rfl⟩
theorem d0_127 : Dec code 127 (.istore 23) 2 129 := ⟨at_127, rfl⟩
theorem d0_129 : DecB code 129 (.goto 28) (28) 132 157 := ⟨at_129, rfl, by decide, by decide⟩
theorem d0_132 : Dec code 132 (.lload 14) 2 134 := ⟨at_132, rfl⟩
theorem d0_134 : Dec code 134 (.lload 12) 2 136 := ⟨at_134, rfl⟩
theorem d0_136 : Dec code 136 (.lcmp) 1 137 := ⟨at_136, rfl⟩
theorem d0_137 : DecB code 137 (.ifCond .ne 10) (10) 140 147 := ⟨at_137, rfl, by decide, by decide⟩
theorem d0_140 : Dec code 140 (.iload 22) 2 142 := ⟨at_140, rfl⟩
theorem d0_142 : Dec code 142 (.istore 23) 2 144 := ⟨at_142, rfl⟩
theorem d0_144 : DecB code 144 (.goto 13) (13) 147 157 := ⟨at_144, rfl, by decide, by decide⟩
theorem d0_147 : Dec code 147 (.iload 20) 2 149 := ⟨at_147, rfl⟩
theorem d0_149 : Dec code 149 (.istore 23) 2 151 := ⟨at_149, rfl⟩
theorem d0_151 : Dec code 151 (.iload 20) 2 153 := ⟨at_151, rfl⟩
theorem d0_153 : Dec code 153 (.iconst 1) 1 154 := ⟨at_153, rfl⟩
theorem d0_154 : Dec code 154 (.iadd) 1 155 := ⟨at_154, rfl⟩
theorem d0_155 : Dec code 155 (.istore 20) 2 157 := ⟨at_155, rfl⟩
theorem d0_157 : Dec code 157 (.lload 16) 2 159 := ⟨at_157, rfl⟩
theorem d0_159 : Dec code 159 (.lload 10) 2 161 := ⟨at_159, rfl⟩
theorem d0_161 : Dec code 161 (.lcmp) 1 162 := ⟨at_161, rfl⟩
theorem d0_162 : DecB code 162 (.ifCond .ne 9) (9) 165 171 := ⟨at_162, rfl, by decide, by decide⟩
theorem d0_165 : Dec code 165 (.iconst 0) 1 166 := ⟨at_165, rfl⟩
theorem d0_166 : Dec code 166 (.istore 24) 2 168 := ⟨at_166, rfl⟩
theorem d0_168 : DecB code 168 (.goto 43) (43) 171 211 := ⟨at_168, rfl, by decide, by decide⟩
theorem d0_171 : Dec code 171 (.lload 16) 2 173 := ⟨at_171, rfl⟩
theorem d0_173 : Dec code 173 (.lload 12) 2 175 := ⟨at_173, rfl⟩
theorem d0_175 : Dec code 175 (.lcmp) 1 176 := ⟨at_175, rfl⟩
theorem d0_176 : DecB code 176 (.ifCond .ne 10) (10) 179 186 := ⟨at_176, rfl, by decide, by decide⟩
theorem d0_179 : Dec code 179 (.iload 22) 2 181 := ⟨at_179, rfl⟩
theorem d0_181 : Dec code 181 (.istore 24) 2 183 := ⟨at_181, rfl⟩
theorem d0_183 : DecB code 183 (.goto 28) (28) 186 211 := ⟨at_183, rfl, by decide, by decide⟩
theorem d0_186 : Dec code 186 (.lload 16) 2 188 := ⟨at_186, rfl⟩
theorem d0_188 : Dec code 188 (.lload 14) 2 190 := ⟨at_188, rfl⟩
theorem d0_190 : Dec code 190 (.lcmp) 1 191 := ⟨at_190, rfl⟩
theorem d0_191 : DecB code 191 (.ifCond .ne 10) (10) 194 201 := ⟨at_191, rfl, by decide, by decide⟩
theorem d0_194 : Dec code 194 (.iload 23) 2 196 := ⟨at_194, rfl⟩
theorem d0_196 : Dec code 196 (.istore 24) 2 198 := ⟨at_196, rfl⟩
theorem d0_198 : DecB code 198 (.goto 13) (13) 201 211 := ⟨at_198, rfl, by decide, by decide⟩
theorem d0_201 : Dec code 201 (.iload 20) 2 203 := ⟨at_201, rfl⟩
theorem d0_203 : Dec code 203 (.istore 24) 2 205 := ⟨at_203, rfl⟩
theorem d0_205 : Dec code 205 (.iload 20) 2 207 := ⟨at_205, rfl⟩
theorem d0_207 : Dec code 207 (.iconst 1) 1 208 := ⟨at_207, rfl⟩
theorem d0_208 : Dec code 208 (.iadd) 1 209 := ⟨at_208, rfl⟩
theorem d0_209 : Dec code 209 (.istore 20) 2 211 := ⟨at_209, rfl⟩
theorem d0_211 : Dec code 211 (.iload 7) 2 213 := ⟨at_211, rfl⟩
theorem d0_213 : Dec code 213 (.bipush 8) 2 215 := ⟨at_213, rfl⟩
theorem d0_215 : Dec code 215 (.iushr) 1 216 := ⟨at_215, rfl⟩
theorem d0_216 : Dec code 216 (.iload 21) 2 218 := ⟨at_216, rfl⟩
theorem d0_218 : Dec code 218 (.iload 22) 2 220 := ⟨at_218, rfl⟩
theorem d0_220 : Dec code 220 (.iload 23) 2 222 := ⟨at_220, rfl⟩
theorem d0_222 : Dec code 222 (.iload 24) 2 224 := ⟨at_222, rfl⟩
theorem d0_224 : Dec code 224 (.invokestatic 21) 3 227 := ⟨at_224, rfl⟩
theorem d0_227 : Dec code 227 (.istore 25) 2 229 := ⟨at_227, rfl⟩
theorem d0_229 : Dec code 229 (.new 25) 3 232 := ⟨at_229, rfl⟩
theorem d0_232 : Dec code 232 (.dup) 1 233 := ⟨at_232, rfl⟩
theorem d0_233 : Dec code 233 (.invokespecial 27) 3 236 := ⟨at_233, rfl⟩
theorem d0_236 : Dec code 236 (.astore 26) 2 238 := ⟨at_236, rfl⟩
theorem d0_238 : Dec code 238 (.aload 26) 2 240 := ⟨at_238, rfl⟩
theorem d0_240 : Dec code 240 (.invokevirtual 28) 3 243 := ⟨at_240, rfl⟩
theorem d0_243 : DecB code 243 (.ifCond .ne 7) (7) 246 250 := ⟨at_243, rfl, by decide, by decide⟩
theorem d0_246 : Dec code 246 (.iconst 1) 1 247 := ⟨at_246, rfl⟩
theorem d0_247 : DecB code 247 (.goto 4) (4) 250 251 := ⟨at_247, rfl, by decide, by decide⟩
theorem d0_251 : Dec code 251 (.istore 27) 2 253 := ⟨at_251, rfl⟩
theorem d0_253 : Dec code 253 (.aload 26) 2 255 := ⟨at_253, rfl⟩
theorem d0_255 : Dec code 255 (.lload 10) 2 257 := ⟨at_255, rfl⟩
theorem d0_257 : Dec code 257 (.invokevirtual 32) 3 260 := ⟨at_257, rfl⟩
theorem d0_260 : Dec code 260 (.istore 28) 2 262 := ⟨at_260, rfl⟩
theorem d0_262 : Dec code 262 (.aload 26) 2 264 := ⟨at_262, rfl⟩
theorem d0_264 : Dec code 264 (.lload 12) 2 266 := ⟨at_264, rfl⟩
theorem d0_266 : Dec code 266 (.invokevirtual 32) 3 269 := ⟨at_266, rfl⟩
theorem d0_269 : Dec code 269 (.istore 29) 2 271 := ⟨at_269, rfl⟩
theorem d0_271 : Dec code 271 (.aload 26) 2 273 := ⟨at_271, rfl⟩
theorem d0_273 : Dec code 273 (.lload 14) 2 275 := ⟨at_273, rfl⟩
theorem d0_275 : Dec code 275 (.invokevirtual 32) 3 278 := ⟨at_275, rfl⟩
theorem d0_278 : Dec code 278 (.istore 30) 2 280 := ⟨at_278, rfl⟩
theorem d0_280 : Dec code 280 (.aload 26) 2 282 := ⟨at_280, rfl⟩
theorem d0_282 : Dec code 282 (.lload 16) 2 284 := ⟨at_282, rfl⟩
theorem d0_284 : Dec code 284 (.invokevirtual 32) 3 287 := ⟨at_284, rfl⟩
theorem d0_287 : Dec code 287 (.istore 31) 2 289 := ⟨at_287, rfl⟩
theorem d0_289 : Dec code 289 (.aload 26) 2 291 := ⟨at_289, rfl⟩
theorem d0_291 : Dec code 291 (.lload 18) 2 293 := ⟨at_291, rfl⟩
theorem d0_293 : Dec code 293 (.invokevirtual 32) 3 296 := ⟨at_293, rfl⟩
theorem d0_296 : Dec code 296 (.istore 32) 2 298 := ⟨at_296, rfl⟩
theorem d0_298 : Dec code 298 (.aload 26) 2 300 := ⟨at_298, rfl⟩
theorem d0_300 : Dec code 300 (.invokevirtual 28) 3 303 := ⟨at_300, rfl⟩
theorem d0_303 : Dec code 303 (.istore 33) 2 305 := ⟨at_303, rfl⟩
theorem d0_305 : Dec code 305 (.iload 27) 2 307 := ⟨at_305, rfl⟩
theorem d0_307 : DecB code 307 (.ifCond .eq 49) (49) 310 356 := ⟨at_307, rfl, by decide, by decide⟩
theorem d0_310 : Dec code 310 (.iload 28) 2 312 := ⟨at_310, rfl⟩
theorem d0_312 : Dec code 312 (.iload 21) 2 314 := ⟨at_312, rfl⟩
theorem d0_314 : DecB code 314 (.if_icmp .ne 42) (42) 317 356 := ⟨at_314, rfl, by decide, by decide⟩
theorem d0_317 : Dec code 317 (.iload 29) 2 319 := ⟨at_317, rfl⟩
theorem d0_319 : Dec code 319 (.iload 22) 2 321 := ⟨at_319, rfl⟩
theorem d0_321 : DecB code 321 (.if_icmp .ne 35) (35) 324 356 := ⟨at_321, rfl, by decide, by decide⟩
theorem d0_324 : Dec code 324 (.iload 30) 2 326 := ⟨at_324, rfl⟩
theorem d0_326 : Dec code 326 (.iload 23) 2 328 := ⟨at_326, rfl⟩
theorem d0_328 : DecB code 328 (.if_icmp .ne 28) (28) 331 356 := ⟨at_328, rfl, by decide, by decide⟩
theorem d0_331 : Dec code 331 (.iload 31) 2 333 := ⟨at_331, rfl⟩
theorem d0_333 : Dec code 333 (.iload 24) 2 335 := ⟨at_333, rfl⟩
theorem d0_335 : DecB code 335 (.if_icmp .ne 21) (21) 338 356 := ⟨at_335, rfl, by decide, by decide⟩
theorem d0_338 : Dec code 338 (.iload 32) 2 340 := ⟨at_338, rfl⟩
theorem d0_340 : Dec code 340 (.iload 25) 2 342 := ⟨at_340, rfl⟩
theorem d0_342 : DecB code 342 (.if_icmp .ne 14) (14) 345 356 := ⟨at_342, rfl, by decide, by decide⟩
theorem d0_345 : Dec code 345 (.iload 33) 2 347 := ⟨at_345, rfl⟩
theorem d0_347 : Dec code 347 (.iload 20) 2 349 := ⟨at_347, rfl⟩
theorem d0_349 : DecB code 349 (.if_icmp .ne 7) (7) 352 356 := ⟨at_349, rfl, by decide, by decide⟩
theorem d0_352 : Dec code 352 (.iconst 1) 1 353 := ⟨at_352, rfl⟩
theorem d0_353 : DecB code 353 (.goto 4) (4) 356 357 := ⟨at_353, rfl, by decide, by decide⟩
theorem d0_357 : Dec code 357 (.ireturn) 1 358 := ⟨at_357, rfl⟩
theorem pn0 : plainName "com/example/strict_tariff/stricttariff/LongNumberingNumberPinLaw" = true := by first | (simp [plainName, overriddenIn]; done) | decide +kernel
theorem ef0 (x0 : Int64) (x1 : Int64) (x2 : Int64) (x3 : Int32) (x4 : Int32) (m : MethodId) : entryFrame m #[(.long x0), (.long x1), (.long x2), (.int x3), (.int x4)] maxLocals = mkF m 0 #[.val (.long x0), .second, .val (.long x1), .second, .val (.long x2), .second, .val (.int x3), .val (.int x4), .unset, .unset, .unset, .unset, .unset, .unset, .unset, .unset, .unset, .unset, .unset, .unset, .unset, .unset, .unset, .unset, .unset, .unset, .unset, .unset, .unset, .unset, .unset, .unset, .unset, .unset] [] := by first | (simp [entryFrame, mkF, argsToLocals, Value.category, maxLocals]; done) | rfl
set_option maxRecDepth 65536 in
set_option maxHeartbeats 40000000 in
theorem rm0 (l : Launch) (Z : State) (a0 : Array Value) (hw : ∀ d ∈ tables_1, d.before a0 Z = true) (ws : List Jvm.Cond) (p0 p1 p2 : Int64) (p3 p4 : Int32) (h0 : Heap)  : Ct l Z x code maxLocals ret ws room_1 #[(.long p0), (.long p1), (.long p2), (.int p3), (.int p4)] h0 (fun v h L => v = some (.int 1) ∧ Fr h0.size L) := by
  refine Ct.of (pn0) _ (ef0 p0 p1 p2 p3 p4) ?_
  intro p e s m below meth c T0 hx hby hml hZ hown hnm hret hk e0 X0
  show Go p e below _ (T0.setTop (mkF m 0 #[.val (.long p0), .second, .val (.long p1), .second, .val (.long p2), .second, .val (.int p3), .val (.int p4), .unset, .unset, .unset, .unset, .unset, .unset, .unset, .unset, .unset, .unset, .unset, .unset, .unset, .unset, .unset, .unset, .unset, .unset, .unset, .unset, .unset, .unset, .unset, .unset, .unset, .unset] []))
  refine go_lloadn X0 hx (dc hby d0_0) (v := p0) rfl ?_
  refine go_iload X0 hx (dc hby d0_1) (v := p3) rfl ?_
  refine go_i2l X0 hx (dc hby d0_3) ?_
  refine go_static X0 hx hZ hown (hw _ (List.mem_of_getElem? (i := 0) rfl)) (hw _ (List.mem_of_getElem? (i := 1) rfl)) (hw _ (List.mem_of_getElem? (i := 2) rfl)) (hw _ (List.mem_of_getElem? (i := 3) rfl)) (by decide) e0 [] [(.long (p3).toInt64), (.long p0)] (rm1 l Z a0 hw [] h0) pd1 rfl (by rw [hml]; rfl) rfl 4 (Nat.le_of_eq rfl) (by decide) (by decide) (by decide) (by decide) (dc hby d0_4) (fun T1 v1 L1 X1 hQ1 => ?_)
  obtain ⟨⟨z, rfl⟩, e1, rfl⟩ := hQ1
  show Go p e below _ (T1.setTop (mkF m 7 #[.val (.long p0), .second, .val (.long p1), .second, .val (.long p2), .second, .val (.int p3), .val (.int p4), .unset, .unset, .unset, .unset, .unset, .unset, .unset, .unset, .unset, .unset, .unset, .unset, .unset, .unset, .unset, .unset, .unset, .unset, .unset, .unset, .unset, .unset, .unset, .unset, .unset, .unset] [(.long z), (.long (p3).toInt64), (.long p0)]))
  refine go_lmul X1 hx (dc hby d0_7) ?_
  refine go_ladd X1 hx (dc hby d0_8) ?_
  show Go p e below _ (T1.setTop (mkF m 9 #[.val (.long p0), .second, .val (.long p1), .second, .val (.long p2), .second, .val (.int p3), .val (.int p4), .unset, .unset, .unset, .unset, .unset, .unset, .unset, .unset, .unset, .unset, .unset, .unset, .unset, .unset, .unset, .unset, .unset, .unset, .unset, .unset, .unset, .unset, .unset, .unset, .unset, .unset] [(.long (p0 + ((p3).toInt64 * z)))]))
  generalize (p0 + ((p3).toInt64 * z)) = near
  show Go p e below _ (T1.setTop (mkF m 9 #[.val (.long p0), .second, .val (.long p1), .second, .val (.long p2), .second, .val (.int p3), .val (.int p4), .unset, .unset, .unset, .unset, .unset, .unset, .unset, .unset, .unset, .unset, .unset, .unset, .unset, .unset, .unset, .unset, .unset, .unset, .unset, .unset, .unset, .unset, .unset, .unset, .unset, .unset] [(.long near)]))
  refine go_lstore X1 hx #[.val (.long p0), .second, .val (.long p1), .second, .val (.long p2), .second, .val (.int p3), .val (.int p4), .val (.long near), .second, .unset, .unset, .unset, .unset, .unset, .unset, .unset, .unset, .unset, .unset, .unset, .unset, .unset, .unset, .unset, .unset, .unset, .unset, .unset, .unset, .unset, .unset, .unset, .unset] (dc hby d0_9) rfl ?_
  refine go_iload X1 hx (dc hby d0_11) (v := p4) rfl ?_
  refine go_lloadn X1 hx (dc hby d0_13) (v := p0) rfl ?_
  refine go_lloadn X1 hx (dc hby d0_14) (v := p1) rfl ?_
  refine go_lload X1 hx (dc hby d0_15) (v := p2) rfl ?_
  refine go_lload X1 hx (dc hby d0_17) (v := near) rfl ?_
  refine go_staticP X1 hx hZ hown (hw _ (List.mem_of_getElem? (i := 6) rfl)) (hw _ (List.mem_of_getElem? (i := 7) rfl)) (hw _ (List.mem_of_getElem? (i := 2) rfl)) (hw _ (List.mem_of_getElem? (i := 8) rfl)) (by decide) e1 [(.int p4), (.long p0), (.long p1), (.long p2), (.long near)] [] (r := (.long (own_pick (p4 &&& 3) p0 p1 p2 near))) (rm2 l Z a0 hw [] p4 p0 p1 p2 near h0) pd2 rfl (by rw [hml]; rfl) rfl 0 (Nat.le_of_eq rfl) (by decide) (by decide) rfl rfl (by decide) (by decide) (dc hby d0_19) (fun T2 X2 e2 => ?_)
  show Go p e below _ (T2.setTop (mkF m 22 #[.val (.long p0), .second, .val (.long p1), .second, .val (.long p2), .second, .val (.int p3), .val (.int p4), .val (.long near), .second, .unset, .unset, .unset, .unset, .unset, .unset, .unset, .unset, .unset, .unset, .unset, .unset, .unset, .unset, .unset, .unset, .unset, .unset, .unset, .unset, .unset, .unset, .unset, .unset] [(.long (own_pick (p4 &&& 3) p0 p1 p2 near))]))
  generalize own_pick (p4 &&& 3) p0 p1 p2 near = k0
  show Go p e below _ (T2.setTop (mkF m 22 #[.val (.long p0), .second, .val (.long p1), .second, .val (.long p2), .second, .val (.int p3), .val (.int p4), .val (.long near), .second, .unset, .unset, .unset, .unset, .unset, .unset, .unset, .unset, .unset, .unset, .unset, .unset, .unset, .unset, .unset, .unset, .unset, .unset, .unset, .unset, .unset, .unset, .unset, .unset] [(.long k0)]))
  refine go_lstore X2 hx #[.val (.long p0), .second, .val (.long p1), .second, .val (.long p2), .second, .val (.int p3), .val (.int p4), .val (.long near), .second, .val (.long k0), .second, .unset, .unset, .unset, .unset, .unset, .unset, .unset, .unset, .unset, .unset, .unset, .unset, .unset, .unset, .unset, .unset, .unset, .unset, .unset, .unset, .unset, .unset] (dc hby d0_22) rfl ?_
  refine go_iload X2 hx (dc hby d0_24) (v := p4) rfl ?_
  refine go_iconst X2 hx (2) (dc hby d0_26) rfl ?_
  refine go_iushr X2 hx (dc hby d0_27) ?_
  refine go_lloadn X2 hx (dc hby d0_28) (v := p0) rfl ?_
  refine go_lloadn X2 hx (dc hby d0_29) (v := p1) rfl ?_
  refine go_lload X2 hx (dc hby d0_30) (v := p2) rfl ?_
  refine go_lload X2 hx (dc hby d0_32) (v := near) rfl ?_
  refine go_staticP X2 hx hZ hown (hw _ (List.mem_of_getElem? (i := 6) rfl)) (hw _ (List.mem_of_getElem? (i := 7) rfl)) (hw _ (List.mem_of_getElem? (i := 2) rfl)) (hw _ (List.mem_of_getElem? (i := 8) rfl)) (by decide) e2 [(.int (XT.ushr p4 (2 : Int32))), (.long p0), (.long p1), (.long p2), (.long near)] [] (r := (.long (own_pick ((XT.ushr p4 (2 : Int32)) &&& 3) p0 p1 p2 near))) (rm2 l Z a0 hw [] (XT.ushr p4 (2 : Int32)) p0 p1 p2 near h0) pd2 rfl (by rw [hml]; rfl) rfl 0 (Nat.le_of_eq rfl) (by decide) (by decide) rfl rfl (by decide) (by decide) (dc hby d0_34) (fun T3 X3 e3 => ?_)
  show Go p e below _ (T3.setTop (mkF m 37 #[.val (.long p0), .second, .val (.long p1), .second, .val (.long p2), .second, .val (.int p3), .val (.int p4), .val (.long near), .second, .val (.long k0), .second, .unset, .unset, .unset, .unset, .unset, .unset, .unset, .unset, .unset, .unset, .unset, .unset, .unset, .unset, .unset, .unset, .unset, .unset, .unset, .unset, .unset, .unset] [(.long (own_pick ((XT.ushr p4 (2 : Int32)) &&& 3) p0 p1 p2 near))]))
  generalize own_pick ((XT.ushr p4 (2 : Int32)) &&& 3) p0 p1 p2 near = k1
  show Go p e below _ (T3.setTop (mkF m 37 #[.val (.long p0), .second, .val (.long p1), .second, .val (.long p2), .second, .val (.int p3), .val (.int p4), .val (.long near), .second, .val (.long k0), .second, .unset, .unset, .unset, .unset, .unset, .unset, .unset, .unset, .unset, .unset, .unset, .unset, .unset, .unset, .unset, .unset, .unset, .unset, .unset, .unset, .unset, .unset] [(.long k1)]))
  refine go_lstore X3 hx #[.val (.long p0), .second, .val (.long p1), .second, .val (.long p2), .second, .val (.int p3), .val (.int p4), .val (.long near), .second, .val (.long k0), .second, .val (.long k1), .second, .unset, .unset, .unset, .unset, .unset, .unset, .unset, .unset, .unset, .unset, .unset, .unset, .unset, .unset, .unset, .unset, .unset, .unset, .unset, .unset] (dc hby d0_37) rfl ?_
  refine go_iload X3 hx (dc hby d0_39) (v := p4) rfl ?_
  refine go_iconst X3 hx (4) (dc hby d0_41) rfl ?_
  refine go_iushr X3 hx (dc hby d0_42) ?_
  refine go_lloadn X3 hx (dc hby d0_43) (v := p0) rfl ?_
  refine go_lloadn X3 hx (dc hby d0_44) (v := p1) rfl ?_
  refine go_lload X3 hx (dc hby d0_45) (v := p2) rfl ?_
  refine go_lload X3 hx (dc hby d0_47) (v := near) rfl ?_
  refine go_staticP X3 hx hZ hown (hw _ (List.mem_of_getElem? (i := 6) rfl)) (hw _ (List.mem_of_getElem? (i := 7) rfl)) (hw _ (List.mem_of_getElem? (i := 2) rfl)) (hw _ (List.mem_of_getElem? (i := 8) rfl)) (by decide) e3 [(.int (XT.ushr p4 (4 : Int32))), (.long p0), (.long p1), (.long p2), (.long near)] [] (r := (.long (own_pick ((XT.ushr p4 (4 : Int32)) &&& 3) p0 p1 p2 near))) (rm2 l Z a0 hw [] (XT.ushr p4 (4 : Int32)) p0 p1 p2 near h0) pd2 rfl (by rw [hml]; rfl) rfl 0 (Nat.le_of_eq rfl) (by decide) (by decide) rfl rfl (by decide) (by decide) (dc hby d0_49) (fun T4 X4 e4 => ?_)
  show Go p e below _ (T4.setTop (mkF m 52 #[.val (.long p0), .second, .val (.long p1), .second, .val (.long p2), .second, .val (.int p3), .val (.int p4), .val (.long near), .second, .val (.long k0), .second, .val (.long k1), .second, .unset, .unset, .unset, .unset, .unset, .unset, .unset, .unset, .unset, .unset, .unset, .unset, .unset, .unset, .unset, .unset, .unset, .unset, .unset, .unset] [(.long (own_pick ((XT.ushr p4 (4 : Int32)) &&& 3) p0 p1 p2 near))]))
  generalize own_pick ((XT.ushr p4 (4 : Int32)) &&& 3) p0 p1 p2 near = k2
  show Go p e below _ (T4.setTop (mkF m 52 #[.val (.long p0), .second, .val (.long p1), .second, .val (.long p2), .second, .val (.int p3), .val (.int p4), .val (.long near), .second, .val (.long k0), .second, .val (.long k1), .second, .unset, .unset, .unset, .unset, .unset, .unset, .unset, .unset, .unset, .unset, .unset, .unset, .unset, .unset, .unset, .unset, .unset, .unset, .unset, .unset] [(.long k2)]))
  refine go_lstore X4 hx #[.val (.long p0), .second, .val (.long p1), .second, .val (.long p2), .second, .val (.int p3), .val (.int p4), .val (.long near), .second, .val (.long k0), .second, .val (.long k1), .second, .val (.long k2), .second, .unset, .unset, .unset, .unset, .unset, .unset, .unset, .unset, .unset, .unset, .unset, .unset, .unset, .unset, .unset, .unset, .unset, .unset] (dc hby d0_52) rfl ?_
  refine go_iload X4 hx (dc hby d0_54) (v := p4) rfl ?_
  refine go_bipush X4 hx (6) (dc hby d0_56) rfl ?_
  refine go_iushr X4 hx (dc hby d0_58) ?_
  refine go_lloadn X4 hx (dc hby d0_59) (v := p0) rfl ?_
  refine go_lloadn X4 hx (dc hby d0_60) (v := p1) rfl ?_
  refine go_lload X4 hx (dc hby d0_61) (v := p2) rfl ?_
  refine go_lload X4 hx (dc hby d0_63) (v := near) rfl ?_
  refine go_staticP X4 hx hZ hown (hw _ (List.mem_of_getElem? (i := 6) rfl)) (hw _ (List.mem_of_getElem? (i := 7) rfl)) (hw _ (List.mem_of_getElem? (i := 2) rfl)) (hw _ (List.mem_of_getElem? (i := 8) rfl)) (by decide) e4 [(.int (XT.ushr p4 (6 : Int32))), (.long p0), (.long p1), (.long p2), (.long near)] [] (r := (.long (own_pick ((XT.ushr p4 (6 : Int32)) &&& 3) p0 p1 p2 near))) (rm2 l Z a0 hw [] (XT.ushr p4 (6 : Int32)) p0 p1 p2 near h0) pd2 rfl (by rw [hml]; rfl) rfl 0 (Nat.le_of_eq rfl) (by decide) (by decide) rfl rfl (by decide) (by decide) (dc hby d0_65) (fun T5 X5 e5 => ?_)
  show Go p e below _ (T5.setTop (mkF m 68 #[.val (.long p0), .second, .val (.long p1), .second, .val (.long p2), .second, .val (.int p3), .val (.int p4), .val (.long near), .second, .val (.long k0), .second, .val (.long k1), .second, .val (.long k2), .second, .unset, .unset, .unset, .unset, .unset, .unset, .unset, .unset, .unset, .unset, .unset, .unset, .unset, .unset, .unset, .unset, .unset, .unset] [(.long (own_pick ((XT.ushr p4 (6 : Int32)) &&& 3) p0 p1 p2 near))]))
  generalize own_pick ((XT.ushr p4 (6 : Int32)) &&& 3) p0 p1 p2 near = k3
  show Go p e below _ (T5.setTop (mkF m 68 #[.val (.long p0), .second, .val (.long p1), .second, .val (.long p2), .second, .val (.int p3), .val (.int p4), .val (.long near), .second, .val (.long k0), .second, .val (.long k1), .second, .val (.long k2), .second, .unset, .unset, .unset, .unset, .unset, .unset, .unset, .unset, .unset, .unset, .unset, .unset, .unset, .unset, .unset, .unset, .unset, .unset] [(.long k3)]))
  refine go_lstore X5 hx #[.val (.long p0), .second, .val (.long p1), .second, .val (.long p2), .second, .val (.int p3), .val (.int p4), .val (.long near), .second, .val (.long k0), .second, .val (.long k1), .second, .val (.long k2), .second, .val (.long k3), .second, .unset, .unset, .unset, .unset, .unset, .unset, .unset, .unset, .unset, .unset, .unset, .unset, .unset, .unset, .unset, .unset] (dc hby d0_68) rfl ?_
  refine go_iload X5 hx (dc hby d0_70) (v := p4) rfl ?_
  refine go_bipush X5 hx (8) (dc hby d0_72) rfl ?_
  refine go_iushr X5 hx (dc hby d0_74) ?_
  refine go_lload X5 hx (dc hby d0_75) (v := k0) rfl ?_
  refine go_lload X5 hx (dc hby d0_77) (v := k1) rfl ?_
  refine go_lload X5 hx (dc hby d0_79) (v := k2) rfl ?_
  refine go_lload X5 hx (dc hby d0_81) (v := k3) rfl ?_
  refine go_staticP X5 hx hZ hown (hw _ (List.mem_of_getElem? (i := 6) rfl)) (hw _ (List.mem_of_getElem? (i := 7) rfl)) (hw _ (List.mem_of_getElem? (i := 2) rfl)) (hw _ (List.mem_of_getElem? (i := 8) rfl)) (by decide) e5 [(.int (XT.ushr p4 (8 : Int32))), (.long k0), (.long k1), (.long k2), (.long k3)] [] (r := (.long (own_pick ((XT.ushr p4 (8 : Int32)) &&& 3) k0 k1 k2 k3))) (rm2 l Z a0 hw [] (XT.ushr p4 (8 : Int32)) k0 k1 k2 k3 h0) pd2 rfl (by rw [hml]; rfl) rfl 0 (Nat.le_of_eq rfl) (by decide) (by decide) rfl rfl (by decide) (by decide) (dc hby d0_83) (fun T6 X6 e6 => ?_)
  show Go p e below _ (T6.setTop (mkF m 86 #[.val (.long p0), .second, .val (.long p1), .second, .val (.long p2), .second, .val (.int p3), .val (.int p4), .val (.long near), .second, .val (.long k0), .second, .val (.long k1), .second, .val (.long k2), .second, .val (.long k3), .second, .unset, .unset, .unset, .unset, .unset, .unset, .unset, .unset, .unset, .unset, .unset, .unset, .unset, .unset, .unset, .unset] [(.long (own_pick ((XT.ushr p4 (8 : Int32)) &&& 3) k0 k1 k2 k3))]))
  obtain ⟨k4, hk4⟩ : ∃ z, z = own_pick (XT.ushr p4 (8 : Int32) &&& 3) k0 k1 k2 k3 := ⟨_, rfl⟩
  rw [← hk4]
  show Go p e below _ (T6.setTop (mkF m 86 #[.val (.long p0), .second, .val (.long p1), .second, .val (.long p2), .second, .val (.int p3), .val (.int p4), .val (.long near), .second, .val (.long k0), .second, .val (.long k1), .second, .val (.long k2), .second, .val (.long k3), .second, .unset, .unset, .unset, .unset, .unset, .unset, .unset, .unset, .unset, .unset, .unset, .unset, .unset, .unset, .unset, .unset] [(.long k4)]))
  refine go_lstore X6 hx #[.val (.long p0), .second, .val (.long p1), .second, .val (.long p2), .second, .val (.int p3), .val (.int p4), .val (.long near), .second, .val (.long k0), .second, .val (.long k1), .second, .val (.long k2), .second, .val (.long k3), .second, .val (.long k4), .second, .unset, .unset, .unset, .unset, .unset, .unset, .unset, .unset, .unset, .unset, .unset, .unset, .unset, .unset] (dc hby d0_86) rfl ?_
  refine go_iconst X6 hx (1) (dc hby d0_88) rfl ?_
  refine go_istore X6 hx #[.val (.long p0), .second, .val (.long p1), .second, .val (.long p2), .second, .val (.int p3), .val (.int p4), .val (.long near), .second, .val (.long k0), .second, .val (.long k1), .second, .val (.long k2), .second, .val (.long k3), .second, .val (.long k4), .second, .val (.int (1 : Int32)), .unset, .unset, .unset, .unset, .unset, .unset, .unset, .unset, .unset, .unset, .unset, .unset, .unset] (dc hby d0_89) rfl ?_
  refine go_iconst X6 hx (0) (dc hby d0_91) rfl ?_
  refine go_istore X6 hx #[.val (.long p0), .second, .val (.long p1), .second, .val (.long p2), .second, .val (.int p3), .val (.int p4), .val (.long near), .second, .val (.long k0), .second, .val (.long k1), .second, .val (.long k2), .second, .val (.long k3), .second, .val (.long k4), .second, .val (.int (1 : Int32)), .val (.int (0 : Int32)), .unset, .unset, .unset, .unset, .unset, .unset, .unset, .unset, .unset, .unset, .unset, .unset] (dc hby d0_92) rfl ?_
  refine go_lload X6 hx (dc hby d0_94) (v := k1) rfl ?_
  refine go_lload X6 hx (dc hby d0_96) (v := k0) rfl ?_
  refine go_lcmp X6 hx (dc hby d0_98) ?_
  have J7 : ∀ (TJ7 : State) (e1 n1 : Int32), Stand p l e room_1 s m #[(.long p0), (.long p1), (.long p2), (.int p3), (.int p4)] below meth c TJ7 [] 0 0 → TJ7.heap = h0 → e1 = (Int32.ofNat ([k0].idxOf k1)) → n1 = (Int32.ofNat (own_add [k0] k1).length) → Go p e below (EndN s (fun v h L => v = some (.int 1) ∧ Fr h0.size L) room_1.cells room_1.slots) (TJ7.setTop (mkF m 118 #[.val (.long p0), .second, .val (.long p1), .second, .val (.long p2), .second, .val (.int p3), .val (.int p4), .val (.long near), .second, .val (.long k0), .second, .val (.long k1), .second, .val (.long k2), .second, .val (.long k3), .second, .val (.long k4), .second, .val (.int n1), .val (.int (0 : Int32)), .val (.int e1), .unset, .unset, .unset, .unset, .unset, .unset, .unset, .unset, .unset, .unset, .unset] [])) := by
    intro TJ7 e1 n1 XJ7 eJ7 he1 hn1
    show Go p e below _ (TJ7.setTop (mkF m 118 #[.val (.long p0), .second, .val (.long p1), .second, .val (.long p2), .second, .val (.int p3), .val (.int p4), .val (.long near), .second, .val (.long k0), .second, .val (.long k1), .second, .val (.long k2), .second, .val (.long k3), .second, .val (.long k4), .second, .val (.int n1), .val (.int (0 : Int32)), .val (.int e1), .unset, .unset, .unset, .unset, .unset, .unset, .unset, .unset, .unset, .unset, .unset] []))
    refine go_lload XJ7 hx (dc hby d0_118) (v := k2) rfl ?_
    refine go_lload XJ7 hx (dc hby d0_120) (v := k0) rfl ?_
    refine go_lcmp XJ7 hx (dc hby d0_122) ?_
    have J8 : ∀ (TJ8 : State) (e2 n2 : Int32), Stand p l e room_1 s m #[(.long p0), (.long p1), (.long p2), (.int p3), (.int p4)] below meth c TJ8 [] 0 0 → TJ8.heap = h0 → e2 = (Int32.ofNat ((own_add [k0] k1).idxOf k2)) → n2 = (Int32.ofNat (own_add (own_add [k0] k1) k2).length) → Go p e below (EndN s (fun v h L => v = some (.int 1) ∧ Fr h0.size L) room_1.cells room_1.slots) (TJ8.setTop (mkF m 157 #[.val (.long p0), .second, .val (.long p1), .second, .val (.long p2), .second, .val (.int p3), .val (.int p4), .val (.long near), .second, .val (.long k0), .second, .val (.long k1), .second, .val (.long k2), .second, .val (.long k3), .second, .val (.long k4), .second, .val (.int n2), .val (.int (0 : Int32)), .val (.int e1), .val (.int e2), .unset, .unset, .unset, .unset, .unset, .unset, .unset, .unset, .unset, .unset] [])) := by
      intro TJ8 e2 n2 XJ8 eJ8 he2 hn2
      show Go p e below _ (TJ8.setTop (mkF m 157 #[.val (.long p0), .second, .val (.long p1), .second, .val (.long p2), .second, .val (.int p3), .val (.int p4), .val (.long near), .second, .val (.long k0), .second, .val (.long k1), .second, .val (.long k2), .second, .val (.long k3), .second, .val (.long k4), .second, .val (.int n2), .val (.int (0 : Int32)), .val (.int e1), .val (.int e2), .unset, .unset, .unset, .unset, .unset, .unset, .unset, .unset, .unset, .unset] []))
      refine go_lload XJ8 hx (dc hby d0_157) (v := k3) rfl ?_
      refine go_lload XJ8 hx (dc hby d0_159) (v := k0) rfl ?_
      refine go_lcmp XJ8 hx (dc hby d0_161) ?_
      have J9 : ∀ (TJ9 : State) (e3 n3 : Int32), Stand p l e room_1 s m #[(.long p0), (.long p1), (.long p2), (.int p3), (.int p4)] below meth c TJ9 [] 0 0 → TJ9.heap = h0 → e3 = (Int32.ofNat ((own_add (own_add [k0] k1) k2).idxOf k3)) → n3 = (Int32.ofNat (own_add (own_add (own_add [k0] k1) k2) k3).length) → Go p e below (EndN s (fun v h L => v = some (.int 1) ∧ Fr h0.size L) room_1.cells room_1.slots) (TJ9.setTop (mkF m 211 #[.val (.long p0), .second, .val (.long p1), .second, .val (.long p2), .second, .val (.int p3), .val (.int p4), .val (.long near), .second, .val (.long k0), .second, .val (.long k1), .second, .val (.long k2), .second, .val (.long k3), .second, .val (.long k4), .second, .val (.int n3), .val (.int (0 : Int32)), .val (.int e1), .val (.int e2), .val (.int e3), .unset, .unset, .unset, .unset, .unset, .unset, .unset, .unset, .unset] [])) := by
        intro TJ9 e3 n3 XJ9 eJ9 he3 hn3
        show Go p e below _ (TJ9.setTop (mkF m 211 #[.val (.long p0), .second, .val (.long p1), .second, .val (.long p2), .second, .val (.int p3), .val (.int p4), .val (.long near), .second, .val (.long k0), .second, .val (.long k1), .second, .val (.long k2), .second, .val (.long k3), .second, .val (.long k4), .second, .val (.int n3), .val (.int (0 : Int32)), .val (.int e1), .val (.int e2), .val (.int e3), .unset, .unset, .unset, .unset, .unset, .unset, .unset, .unset, .unset] []))
        refine go_iload XJ9 hx (dc hby d0_211) (v := p4) rfl ?_
        refine go_bipush XJ9 hx (8) (dc hby d0_213) rfl ?_
        refine go_iushr XJ9 hx (dc hby d0_215) ?_
        refine go_iload XJ9 hx (dc hby d0_216) (v := (0 : Int32)) rfl ?_
        refine go_iload XJ9 hx (dc hby d0_218) (v := e1) rfl ?_
        refine go_iload XJ9 hx (dc hby d0_220) (v := e2) rfl ?_
        refine go_iload XJ9 hx (dc hby d0_222) (v := e3) rfl ?_
        refine go_staticP XJ9 hx hZ hown (hw _ (List.mem_of_getElem? (i := 9) rfl)) (hw _ (List.mem_of_getElem? (i := 10) rfl)) (hw _ (List.mem_of_getElem? (i := 2) rfl)) (hw _ (List.mem_of_getElem? (i := 11) rfl)) (by decide) eJ9 [(.int (XT.ushr p4 (8 : Int32))), (.int (0 : Int32)), (.int e1), (.int e2), (.int e3)] [] (r := (.int (own_pick (XT.ushr p4 (8 : Int32) &&& 3) 0 e1 e2 e3))) (rm3 l Z a0 hw [] (XT.ushr p4 (8 : Int32)) 0 e1 e2 e3 h0) pd3 rfl (by rw [hml]; rfl) rfl 0 (Nat.le_of_eq rfl) (by decide) (by decide) rfl rfl (by decide) (by decide) (dc hby d0_224) (fun T10 X10 e10 => ?_)
        refine go_istore X10 hx #[.val (.long p0), .second, .val (.long p1), .second, .val (.long p2), .second, .val (.int p3), .val (.int p4), .val (.long near), .second, .val (.long k0), .second, .val (.long k1), .second, .val (.long k2), .second, .val (.long k3), .second, .val (.long k4), .second, .val (.int n3), .val (.int (0 : Int32)), .val (.int e1), .val (.int e2), .val (.int e3), .val (.int (own_pick (XT.ushr p4 (8 : Int32) &&& 3) 0 e1 e2 e3)), .unset, .unset, .unset, .unset, .unset, .unset, .unset, .unset] (dc hby d0_227) rfl ?_
        refine go_newO X10 hx hZ hown (hw _ (List.mem_of_getElem? (i := 12) rfl)) (hw _ (List.mem_of_getElem? (i := 13) rfl)) (hw _ (List.mem_of_getElem? (i := 14) rfl)) e10 (dc hby d0_229) (by decide) (by decide) (fun T11 h11 a g11 X11 e11 E11 A11 D11 => ?_)
        refine go_dup X11 hx (dc hby d0_232) rfl ?_
        have ha : h0.size ≤ a := Nat.le_of_eq g11.symm
        refine go_special X11 hx hZ rfl hown (hw _ (List.mem_of_getElem? (i := 15) rfl)) (hw _ (List.mem_of_getElem? (i := 16) rfl)) (hw _ (List.mem_of_getElem? (i := 14) rfl)) (hw _ (List.mem_of_getElem? (i := 17) rfl)) (by decide) e11 (a := a) [] [(.ref a)] (rm4 l Z a0 hw [] a h11 A11 (D11 (Or.inl (hw _ (List.mem_of_getElem? (i := 23) rfl))) (ty := .array .long) (by decide)) (D11 (Or.inl (hw _ (List.mem_of_getElem? (i := 26) rfl))) (ty := .array .int) (by decide)) (D11 (Or.inl (hw _ (List.mem_of_getElem? (i := 37) rfl))) (ty := .int) (by decide))) pd4 rfl (by rw [hml]; rfl) rfl 1 (Nat.le_of_eq rfl) (by decide) (by decide) (by decide) (by decide) (dc hby d0_233) (fun T12 v12 L12 X12 hQ12 => ?_)
        obtain ⟨rfl, K12, N12, ka, na, hka, hna, TT12⟩ := hQ12
        show Go p e below _ (T12.setTop (mkF m 236 #[.val (.long p0), .second, .val (.long p1), .second, .val (.long p2), .second, .val (.int p3), .val (.int p4), .val (.long near), .second, .val (.long k0), .second, .val (.long k1), .second, .val (.long k2), .second, .val (.long k3), .second, .val (.long k4), .second, .val (.int n3), .val (.int (0 : Int32)), .val (.int e1), .val (.int e2), .val (.int e3), .val (.int (own_pick (XT.ushr p4 (8 : Int32) &&& 3) 0 e1 e2 e3)), .unset, .unset, .unset, .unset, .unset, .unset, .unset, .unset] [(.ref a)]))
        refine go_astore X12 hx #[.val (.long p0), .second, .val (.long p1), .second, .val (.long p2), .second, .val (.int p3), .val (.int p4), .val (.long near), .second, .val (.long k0), .second, .val (.long k1), .second, .val (.long k2), .second, .val (.long k3), .second, .val (.long k4), .second, .val (.int n3), .val (.int (0 : Int32)), .val (.int e1), .val (.int e2), .val (.int e3), .val (.int (own_pick (XT.ushr p4 (8 : Int32) &&& 3) 0 e1 e2 e3)), .val (.ref a), .unset, .unset, .unset, .unset, .unset, .unset, .unset] (dc hby d0_236) rfl rfl ?_
        refine go_aload X12 hx (dc hby d0_238) (v := (.ref a)) rfl rfl ?_
        have HL : Fr h0.size (L12 : List Loc) := fun y hy => by
          rcases N12 y hy with q | q
          · rw [q]; exact ha
          · exact Nat.le_trans E11.1 q
        have hka' : h0.size ≤ ka := Nat.le_trans E11.1 hka
        have hna' : h0.size ≤ na := Nat.le_trans E11.1 hna
        refine go_virtualP X12 hx hZ hown (hw _ (List.mem_of_getElem? (i := 31) rfl)) (hw _ (List.mem_of_getElem? (i := 32) rfl)) (hw _ (List.mem_of_getElem? (i := 34) rfl)) (hw _ (List.mem_of_getElem? (i := 33) rfl)) (hw _ (List.mem_of_getElem? (i := 14) rfl)) (hw _ (List.mem_of_getElem? (i := 35) rfl)) (by decide) rfl (a := a) TT12.1.1 [] [] (r := (.int (0 : Int32))) (rm7 l Z a0 hw [] a 0 T12.heap TT12.1.2.2.2.1) pd7 rfl (by rw [hml]; rfl) rfl 0 (Nat.le_of_eq rfl) (by decide) (by decide) rfl rfl (by decide) (by decide) (dc hby d0_240) (fun T13 X13 e13 => ?_)
        refine go_ifc_ne X13 hx (db hby d0_243) (fun c243 => absurd rfl c243) (fun c243 => ?_)
        refine go_iconst X13 hx (1) (dc hby d0_246) rfl ?_
        refine go_goto X13 hx (db hby d0_247) ?_
        refine go_istore X13 hx #[.val (.long p0), .second, .val (.long p1), .second, .val (.long p2), .second, .val (.int p3), .val (.int p4), .val (.long near), .second, .val (.long k0), .second, .val (.long k1), .second, .val (.long k2), .second, .val (.long k3), .second, .val (.long k4), .second, .val (.int n3), .val (.int (0 : Int32)), .val (.int e1), .val (.int e2), .val (.int e3), .val (.int (own_pick (XT.ushr p4 (8 : Int32) &&& 3) 0 e1 e2 e3)), .val (.ref a), .val (.int (1 : Int32)), .unset, .unset, .unset, .unset, .unset, .unset] (dc hby d0_251) rfl ?_
        refine go_aload X13 hx (dc hby d0_253) (v := (.ref a)) rfl rfl ?_
        refine go_lload X13 hx (dc hby d0_255) (v := k0) rfl ?_
        refine go_virtual X13 hx hZ hown (hw _ (List.mem_of_getElem? (i := 38) rfl)) (hw _ (List.mem_of_getElem? (i := 39) rfl)) (hw _ (List.mem_of_getElem? (i := 41) rfl)) (hw _ (List.mem_of_getElem? (i := 40) rfl)) (hw _ (List.mem_of_getElem? (i := 14) rfl)) (hw _ (List.mem_of_getElem? (i := 42) rfl)) (by decide) e13 (a := a) TT12.1.1 [(.long k0)] [] (rm8 l Z a0 hw [] a ka na [] k0 T12.heap (Or.inr (by decide)) TT12) pd8 rfl (by rw [hml]; rfl) rfl 0 (Nat.le_of_eq rfl) (by decide) (by decide) (by decide) (by decide) (dc hby d0_257) (fun T14 v14 L14 X14 hQ14 => ?_)
        obtain ⟨rfl, K14, N14, TT14⟩ := hQ14
        show Go p e below _ (T14.setTop (mkF m 260 #[.val (.long p0), .second, .val (.long p1), .second, .val (.long p2), .second, .val (.int p3), .val (.int p4), .val (.long near), .second, .val (.long k0), .second, .val (.long k1), .second, .val (.long k2), .second, .val (.long k3), .second, .val (.long k4), .second, .val (.int n3), .val (.int (0 : Int32)), .val (.int e1), .val (.int e2), .val (.int e3), .val (.int (own_pick (XT.ushr p4 (8 : Int32) &&& 3) 0 e1 e2 e3)), .val (.ref a), .val (.int (1 : Int32)), .unset, .unset, .unset, .unset, .unset, .unset] [(.int (Int32.ofNat (List.idxOf k0 [])))]))
        have M14 : Fr h0.size (L14 : List Loc) := fun y hy => by
          rcases N14 y hy with q | q | q
          · rw [q]; exact ha
          · rw [q]; exact hka'
          · rw [q]; exact hna'
        have fr0 := Fr.app HL M14
        have TT14' : own_T Z T14.heap a ka na [k0] := TT14
        refine go_istore X14 hx #[.val (.long p0), .second, .val (.long p1), .second, .val (.long p2), .second, .val (.int p3), .val (.int p4), .val (.long near), .second, .val (.long k0), .second, .val (.long k1), .second, .val (.long k2), .second, .val (.long k3), .second, .val (.long k4), .second, .val (.int n3), .val (.int (0 : Int32)), .val (.int e1), .val (.int e2), .val (.int e3), .val (.int (own_pick (XT.ushr p4 (8 : Int32) &&& 3) 0 e1 e2 e3)), .val (.ref a), .val (.int (1 : Int32)), .val (.int (Int32.ofNat (List.idxOf k0 []))), .unset, .unset, .unset, .unset, .unset] (dc hby d0_260) rfl ?_
        refine go_aload X14 hx (dc hby d0_262) (v := (.ref a)) rfl rfl ?_
        refine go_lload X14 hx (dc hby d0_264) (v := k1) rfl ?_
        refine go_virtual X14 hx hZ hown (hw _ (List.mem_of_getElem? (i := 38) rfl)) (hw _ (List.mem_of_getElem? (i := 39) rfl)) (hw _ (List.mem_of_getElem? (i := 41) rfl)) (hw _ (List.mem_of_getElem? (i := 40) rfl)) (hw _ (List.mem_of_getElem? (i := 14) rfl)) (hw _ (List.mem_of_getElem? (i := 42) rfl)) (by decide) rfl (a := a) TT14'.1.1 [(.long k1)] [] (rm8 l Z a0 hw [] a ka na [k0] k1 T14.heap (Or.inr (by simp)) TT14') pd8 rfl (by rw [hml]; rfl) rfl 0 (Nat.le_of_eq rfl) (by decide) (by decide) (by decide) (by decide) (dc hby d0_266) (fun T15 v15 L15 X15 hQ15 => ?_)
        obtain ⟨rfl, K15, N15, TT15⟩ := hQ15
        show Go p e below _ (T15.setTop (mkF m 269 #[.val (.long p0), .second, .val (.long p1), .second, .val (.long p2), .second, .val (.int p3), .val (.int p4), .val (.long near), .second, .val (.long k0), .second, .val (.long k1), .second, .val (.long k2), .second, .val (.long k3), .second, .val (.long k4), .second, .val (.int n3), .val (.int (0 : Int32)), .val (.int e1), .val (.int e2), .val (.int e3), .val (.int (own_pick (XT.ushr p4 (8 : Int32) &&& 3) 0 e1 e2 e3)), .val (.ref a), .val (.int (1 : Int32)), .val (.int (Int32.ofNat (List.idxOf k0 []))), .unset, .unset, .unset, .unset, .unset] [(.int (Int32.ofNat (List.idxOf k1 [k0])))]))
        have M15 : Fr h0.size (L15 : List Loc) := fun y hy => by
          rcases N15 y hy with q | q | q
          · rw [q]; exact ha
          · rw [q]; exact hka'
          · rw [q]; exact hna'
        have fr1 := Fr.app fr0 M15
        refine go_istore X15 hx #[.val (.long p0), .second, .val (.long p1), .second, .val (.long p2), .second, .val (.int p3), .val (.int p4), .val (.long near), .second, .val (.long k0), .second, .val (.long k1), .second, .val (.long k2), .second, .val (.long k3), .second, .val (.long k4), .second, .val (.int n3), .val (.int (0 : Int32)), .val (.int e1), .val (.int e2), .val (.int e3), .val (.int (own_pick (XT.ushr p4 (8 : Int32) &&& 3) 0 e1 e2 e3)), .val (.ref a), .val (.int (1 : Int32)), .val (.int (Int32.ofNat (List.idxOf k0 []))), .val (.int (Int32.ofNat (List.idxOf k1 [k0]))), .unset, .unset, .unset, .unset] (dc hby d0_269) rfl ?_
        refine go_aload X15 hx (dc hby d0_271) (v := (.ref a)) rfl rfl ?_
        refine go_lload X15 hx (dc hby d0_273) (v := k2) rfl ?_
        refine go_virtual X15 hx hZ hown (hw _ (List.mem_of_getElem? (i := 38) rfl)) (hw _ (List.mem_of_getElem? (i := 39) rfl)) (hw _ (List.mem_of_getElem? (i := 41) rfl)) (hw _ (List.mem_of_getElem? (i := 40) rfl)) (hw _ (List.mem_of_getElem? (i := 14) rfl)) (hw _ (List.mem_of_getElem? (i := 42) rfl)) (by decide) rfl (a := a) TT15.1.1 [(.long k2)] [] (rm8 l Z a0 hw [] a ka na (own_add [k0] k1) k2 T15.heap (Or.inr (own_len1 _ _)) TT15) pd8 rfl (by rw [hml]; rfl) rfl 0 (Nat.le_of_eq rfl) (by decide) (by decide) (by decide) (by decide) (dc hby d0_275) (fun T16 v16 L16 X16 hQ16 => ?_)
        obtain ⟨rfl, K16, N16, TT16⟩ := hQ16
        show Go p e below _ (T16.setTop (mkF m 278 #[.val (.long p0), .second, .val (.long p1), .second, .val (.long p2), .second, .val (.int p3), .val (.int p4), .val (.long near), .second, .val (.long k0), .second, .val (.long k1), .second, .val (.long k2), .second, .val (.long k3), .second, .val (.long k4), .second, .val (.int n3), .val (.int (0 : Int32)), .val (.int e1), .val (.int e2), .val (.int e3), .val (.int (own_pick (XT.ushr p4 (8 : Int32) &&& 3) 0 e1 e2 e3)), .val (.ref a), .val (.int (1 : Int32)), .val (.int (Int32.ofNat (List.idxOf k0 []))), .val (.int (Int32.ofNat (List.idxOf k1 [k0]))), .unset, .unset, .unset, .unset] [(.int (Int32.ofNat (List.idxOf k2 (own_add [k0] k1))))]))
        have M16 : Fr h0.size (L16 : List Loc) := fun y hy => by
          rcases N16 y hy with q | q | q
          · rw [q]; exact ha
          · rw [q]; exact hka'
          · rw [q]; exact hna'
        have fr2 := Fr.app fr1 M16
        refine go_istore X16 hx #[.val (.long p0), .second, .val (.long p1), .second, .val (.long p2), .second, .val (.int p3), .val (.int p4), .val (.long near), .second, .val (.long k0), .second, .val (.long k1), .second, .val (.long k2), .second, .val (.long k3), .second, .val (.long k4), .second, .val (.int n3), .val (.int (0 : Int32)), .val (.int e1), .val (.int e2), .val (.int e3), .val (.int (own_pick (XT.ushr p4 (8 : Int32) &&& 3) 0 e1 e2 e3)), .val (.ref a), .val (.int (1 : Int32)), .val (.int (Int32.ofNat (List.idxOf k0 []))), .val (.int (Int32.ofNat (List.idxOf k1 [k0]))), .val (.int (Int32.ofNat (List.idxOf k2 (own_add [k0] k1)))), .unset, .unset, .unset] (dc hby d0_278) rfl ?_
        refine go_aload X16 hx (dc hby d0_280) (v := (.ref a)) rfl rfl ?_
        refine go_lload X16 hx (dc hby d0_282) (v := k3) rfl ?_
        refine go_virtual X16 hx hZ hown (hw _ (List.mem_of_getElem? (i := 38) rfl)) (hw _ (List.mem_of_getElem? (i := 39) rfl)) (hw _ (List.mem_of_getElem? (i := 41) rfl)) (hw _ (List.mem_of_getElem? (i := 40) rfl)) (hw _ (List.mem_of_getElem? (i := 14) rfl)) (hw _ (List.mem_of_getElem? (i := 42) rfl)) (by decide) rfl (a := a) TT16.1.1 [(.long k3)] [] (rm8 l Z a0 hw [] a ka na (own_add (own_add [k0] k1) k2) k3 T16.heap (Or.inr (own_len2 _ _ _)) TT16) pd8 rfl (by rw [hml]; rfl) rfl 0 (Nat.le_of_eq rfl) (by decide) (by decide) (by decide) (by decide) (dc hby d0_284) (fun T17 v17 L17 X17 hQ17 => ?_)
        obtain ⟨rfl, K17, N17, TT17⟩ := hQ17
        show Go p e below _ (T17.setTop (mkF m 287 #[.val (.long p0), .second, .val (.long p1), .second, .val (.long p2), .second, .val (.int p3), .val (.int p4), .val (.long near), .second, .val (.long k0), .second, .val (.long k1), .second, .val (.long k2), .second, .val (.long k3), .second, .val (.long k4), .second, .val (.int n3), .val (.int (0 : Int32)), .val (.int e1), .val (.int e2), .val (.int e3), .val (.int (own_pick (XT.ushr p4 (8 : Int32) &&& 3) 0 e1 e2 e3)), .val (.ref a), .val (.int (1 : Int32)), .val (.int (Int32.ofNat (List.idxOf k0 []))), .val (.int (Int32.ofNat (List.idxOf k1 [k0]))), .val (.int (Int32.ofNat (List.idxOf k2 (own_add [k0] k1)))), .unset, .unset, .unset] [(.int (Int32.ofNat (List.idxOf k3 (own_add (own_add [k0] k1) k2))))]))
        have M17 : Fr h0.size (L17 : List Loc) := fun y hy => by
          rcases N17 y hy with q | q | q
          · rw [q]; exact ha
          · rw [q]; exact hka'
          · rw [q]; exact hna'
        have fr3 := Fr.app fr2 M17
        refine go_istore X17 hx #[.val (.long p0), .second, .val (.long p1), .second, .val (.long p2), .second, .val (.int p3), .val (.int p4), .val (.long near), .second, .val (.long k0), .second, .val (.long k1), .second, .val (.long k2), .second, .val (.long k3), .second, .val (.long k4), .second, .val (.int n3), .val (.int (0 : Int32)), .val (.int e1), .val (.int e2), .val (.int e3), .val (.int (own_pick (XT.ushr p4 (8 : Int32) &&& 3) 0 e1 e2 e3)), .val (.ref a), .val (.int (1 : Int32)), .val (.int (Int32.ofNat (List.idxOf k0 []))), .val (.int (Int32.ofNat (List.idxOf k1 [k0]))), .val (.int (Int32.ofNat (List.idxOf k2 (own_add [k0] k1)))), .val (.int (Int32.ofNat (List.idxOf k3 (own_add (own_add [k0] k1) k2)))), .unset, .unset] (dc hby d0_287) rfl ?_
        refine go_aload X17 hx (dc hby d0_289) (v := (.ref a)) rfl rfl ?_
        refine go_lload X17 hx (dc hby d0_291) (v := k4) rfl ?_
        refine go_virtual X17 hx hZ hown (hw _ (List.mem_of_getElem? (i := 38) rfl)) (hw _ (List.mem_of_getElem? (i := 39) rfl)) (hw _ (List.mem_of_getElem? (i := 41) rfl)) (hw _ (List.mem_of_getElem? (i := 40) rfl)) (hw _ (List.mem_of_getElem? (i := 14) rfl)) (hw _ (List.mem_of_getElem? (i := 42) rfl)) (by decide) rfl (a := a) TT17.1.1 [(.long k4)] [] (rm8 l Z a0 hw [] a ka na (own_add (own_add (own_add [k0] k1) k2) k3) k4 T17.heap (Or.inl (hk4 ▸ own_pickIn _ _ _ _ _)) TT17) pd8 rfl (by rw [hml]; rfl) rfl 0 (Nat.le_of_eq rfl) (by decide) (by decide) (by decide) (by decide) (dc hby d0_293) (fun T18 v18 L18 X18 hQ18 => ?_)
        obtain ⟨rfl, K18, N18, TT18⟩ := hQ18
        show Go p e below _ (T18.setTop (mkF m 296 #[.val (.long p0), .second, .val (.long p1), .second, .val (.long p2), .second, .val (.int p3), .val (.int p4), .val (.long near), .second, .val (.long k0), .second, .val (.long k1), .second, .val (.long k2), .second, .val (.long k3), .second, .val (.long k4), .second, .val (.int n3), .val (.int (0 : Int32)), .val (.int e1), .val (.int e2), .val (.int e3), .val (.int (own_pick (XT.ushr p4 (8 : Int32) &&& 3) 0 e1 e2 e3)), .val (.ref a), .val (.int (1 : Int32)), .val (.int (Int32.ofNat (List.idxOf k0 []))), .val (.int (Int32.ofNat (List.idxOf k1 [k0]))), .val (.int (Int32.ofNat (List.idxOf k2 (own_add [k0] k1)))), .val (.int (Int32.ofNat (List.idxOf k3 (own_add (own_add [k0] k1) k2)))), .unset, .unset] [(.int (Int32.ofNat (List.idxOf k4 (own_add (own_add (own_add [k0] k1) k2) k3))))]))
        have M18 : Fr h0.size (L18 : List Loc) := fun y hy => by
          rcases N18 y hy with q | q | q
          · rw [q]; exact ha
          · rw [q]; exact hka'
          · rw [q]; exact hna'
        have fr4 := Fr.app fr3 M18
        refine go_istore X18 hx #[.val (.long p0), .second, .val (.long p1), .second, .val (.long p2), .second, .val (.int p3), .val (.int p4), .val (.long near), .second, .val (.long k0), .second, .val (.long k1), .second, .val (.long k2), .second, .val (.long k3), .second, .val (.long k4), .second, .val (.int n3), .val (.int (0 : Int32)), .val (.int e1), .val (.int e2), .val (.int e3), .val (.int (own_pick (XT.ushr p4 (8 : Int32) &&& 3) 0 e1 e2 e3)), .val (.ref a), .val (.int (1 : Int32)), .val (.int (Int32.ofNat (List.idxOf k0 []))), .val (.int (Int32.ofNat (List.idxOf k1 [k0]))), .val (.int (Int32.ofNat (List.idxOf k2 (own_add [k0] k1)))), .val (.int (Int32.ofNat (List.idxOf k3 (own_add (own_add [k0] k1) k2)))), .val (.int (Int32.ofNat (List.idxOf k4 (own_add (own_add (own_add [k0] k1) k2) k3)))), .unset] (dc hby d0_296) rfl ?_
        refine go_aload X18 hx (dc hby d0_298) (v := (.ref a)) rfl rfl ?_
        refine go_virtualP X18 hx hZ hown (hw _ (List.mem_of_getElem? (i := 31) rfl)) (hw _ (List.mem_of_getElem? (i := 32) rfl)) (hw _ (List.mem_of_getElem? (i := 34) rfl)) (hw _ (List.mem_of_getElem? (i := 33) rfl)) (hw _ (List.mem_of_getElem? (i := 14) rfl)) (hw _ (List.mem_of_getElem? (i := 35) rfl)) (by decide) rfl (a := a) TT18.1.1 [] [] (r := (.int (Int32.ofNat (own_add (own_add (own_add (own_add [k0] k1) k2) k3) k4).length))) (rm7 l Z a0 hw [] a _ T18.heap TT18.1.2.2.2.1) pd7 rfl (by rw [hml]; rfl) rfl 0 (Nat.le_of_eq rfl) (by decide) (by decide) rfl rfl (by decide) (by decide) (dc hby d0_300) (fun T19 X19 e19 => ?_)
        refine go_istore X19 hx #[.val (.long p0), .second, .val (.long p1), .second, .val (.long p2), .second, .val (.int p3), .val (.int p4), .val (.long near), .second, .val (.long k0), .second, .val (.long k1), .second, .val (.long k2), .second, .val (.long k3), .second, .val (.long k4), .second, .val (.int n3), .val (.int (0 : Int32)), .val (.int e1), .val (.int e2), .val (.int e3), .val (.int (own_pick (XT.ushr p4 (8 : Int32) &&& 3) 0 e1 e2 e3)), .val (.ref a), .val (.int (1 : Int32)), .val (.int (Int32.ofNat (List.idxOf k0 []))), .val (.int (Int32.ofNat (List.idxOf k1 [k0]))), .val (.int (Int32.ofNat (List.idxOf k2 (own_add [k0] k1)))), .val (.int (Int32.ofNat (List.idxOf k3 (own_add (own_add [k0] k1) k2)))), .val (.int (Int32.ofNat (List.idxOf k4 (own_add (own_add (own_add [k0] k1) k2) k3)))), .val (.int (Int32.ofNat (own_add (own_add (own_add (own_add [k0] k1) k2) k3) k4).length))] (dc hby d0_303) rfl ?_
        refine go_iload X19 hx (dc hby d0_305) (v := (1 : Int32)) rfl ?_
        refine go_ifc_eq X19 hx (db hby d0_307) (fun c307 => absurd c307 (by decide)) (fun c307 => ?_)
        refine go_iload X19 hx (dc hby d0_310) (v := (Int32.ofNat (List.idxOf k0 []))) rfl ?_
        refine go_iload X19 hx (dc hby d0_312) (v := (0 : Int32)) rfl ?_
        refine go_icmp_ne X19 hx (db hby d0_314) (fun c314 => absurd (rfl) c314) (fun c314 => ?_)
        refine go_iload X19 hx (dc hby d0_317) (v := (Int32.ofNat (List.idxOf k1 [k0]))) rfl ?_
        refine go_iload X19 hx (dc hby d0_319) (v := e1) rfl ?_
        refine go_icmp_ne X19 hx (db hby d0_321) (fun c321 => absurd (he1.symm) c321) (fun c321 => ?_)
        refine go_iload X19 hx (dc hby d0_324) (v := (Int32.ofNat (List.idxOf k2 (own_add [k0] k1)))) rfl ?_
        refine go_iload X19 hx (dc hby d0_326) (v := e2) rfl ?_
        refine go_icmp_ne X19 hx (db hby d0_328) (fun c328 => absurd (he2.symm) c328) (fun c328 => ?_)
        refine go_iload X19 hx (dc hby d0_331) (v := (Int32.ofNat (List.idxOf k3 (own_add (own_add [k0] k1) k2)))) rfl ?_
        refine go_iload X19 hx (dc hby d0_333) (v := e3) rfl ?_
        refine go_icmp_ne X19 hx (db hby d0_335) (fun c335 => absurd (he3.symm) c335) (fun c335 => ?_)
        refine go_iload X19 hx (dc hby d0_338) (v := (Int32.ofNat (List.idxOf k4 (own_add (own_add (own_add [k0] k1) k2) k3)))) rfl ?_
        refine go_iload X19 hx (dc hby d0_340) (v := (own_pick (XT.ushr p4 (8 : Int32) &&& 3) 0 e1 e2 e3)) rfl ?_
        refine go_icmp_ne X19 hx (db hby d0_342) (fun c342 => absurd (own_last hk4 he1 he2 he3) c342) (fun c342 => ?_)
        refine go_iload X19 hx (dc hby d0_345) (v := (Int32.ofNat (own_add (own_add (own_add (own_add [k0] k1) k2) k3) k4).length)) rfl ?_
        refine go_iload X19 hx (dc hby d0_347) (v := n3) rfl ?_
        refine go_icmp_ne X19 hx (db hby d0_349) (fun c349 => absurd (own_lastN hk4 hn3) c349) (fun c349 => ?_)
        refine go_iconst X19 hx (1) (dc hby d0_352) rfl ?_
        refine go_goto X19 hx (db hby d0_353) ?_
        exact go_retN X19 hx hret (by simp) (dc hby d0_357) hk (by decide) (by decide) ⟨rfl, by simpa using fr4⟩
      refine go_ifc_ne XJ8 hx (db hby d0_162) (fun c162 => ?_) (fun c162 => ?_)
      · refine go_lload XJ8 hx (dc hby d0_171) (v := k3) rfl ?_
        refine go_lload XJ8 hx (dc hby d0_173) (v := k1) rfl ?_
        refine go_lcmp XJ8 hx (dc hby d0_175) ?_
        refine go_ifc_ne XJ8 hx (db hby d0_176) (fun c176 => ?_) (fun c176 => ?_)
        · refine go_lload XJ8 hx (dc hby d0_186) (v := k3) rfl ?_
          refine go_lload XJ8 hx (dc hby d0_188) (v := k2) rfl ?_
          refine go_lcmp XJ8 hx (dc hby d0_190) ?_
          refine go_ifc_ne XJ8 hx (db hby d0_191) (fun c191 => ?_) (fun c191 => ?_)
          · refine go_iload XJ8 hx (dc hby d0_201) (v := n2) rfl ?_
            refine go_istore XJ8 hx #[.val (.long p0), .second, .val (.long p1), .second, .val (.long p2), .second, .val (.int p3), .val (.int p4), .val (.long near), .second, .val (.long k0), .second, .val (.long k1), .second, .val (.long k2), .second, .val (.long k3), .second, .val (.long k4), .second, .val (.int n2), .val (.int (0 : Int32)), .val (.int e1), .val (.int e2), .val (.int n2), .unset, .unset, .unset, .unset, .unset, .unset, .unset, .unset, .unset] (dc hby d0_203) rfl ?_
            refine go_iload XJ8 hx (dc hby d0_205) (v := n2) rfl ?_
            refine go_iconst XJ8 hx (1) (dc hby d0_207) rfl ?_
            refine go_iadd XJ8 hx (dc hby d0_208) ?_
            refine go_istore XJ8 hx #[.val (.long p0), .second, .val (.long p1), .second, .val (.long p2), .second, .val (.int p3), .val (.int p4), .val (.long near), .second, .val (.long k0), .second, .val (.long k1), .second, .val (.long k2), .second, .val (.long k3), .second, .val (.long k4), .second, .val (.int (n2 + (1 : Int32))), .val (.int (0 : Int32)), .val (.int e1), .val (.int e2), .val (.int n2), .unset, .unset, .unset, .unset, .unset, .unset, .unset, .unset, .unset] (dc hby d0_209) rfl ?_
            exact J9 TJ8 _ _ XJ8 eJ8 (by first | exact own_e00 ((own_cmp _ _).mp c162) | exact own_ePP he1 ((own_cmp _ _).mp c176) | exact own_eP he2 ((own_cmp _ _).mp c191) | exact own_eNew hn2 (by simp only [own_memAdd, List.mem_singleton, not_or]; exact ⟨⟨(fun q => c162 ((own_cmp _ _).mpr q)), (fun q => c176 ((own_cmp _ _).mpr q))⟩, (fun q => c191 ((own_cmp _ _).mpr q))⟩)) (by first | exact own_nIn hn2 (by simp only [own_memAdd, List.mem_singleton]; simp [((own_cmp _ _).mp c162)]) | exact own_nIn hn2 (by simp only [own_memAdd, List.mem_singleton]; simp [((own_cmp _ _).mp c176)]) | exact own_nIn hn2 (by simp only [own_memAdd, List.mem_singleton]; simp [((own_cmp _ _).mp c191)]) | exact own_nNew hn2 (by simp only [own_memAdd, List.mem_singleton, not_or]; exact ⟨⟨(fun q => c162 ((own_cmp _ _).mpr q)), (fun q => c176 ((own_cmp _ _).mpr q))⟩, (fun q => c191 ((own_cmp _ _).mpr q))⟩))
          · refine go_iload XJ8 hx (dc hby d0_194) (v := e2) rfl ?_
            refine go_istore XJ8 hx #[.val (.long p0), .second, .val (.long p1), .second, .val (.long p2), .second, .val (.int p3), .val (.int p4), .val (.long near), .second, .val (.long k0), .second, .val (.long k1), .second, .val (.long k2), .second, .val (.long k3), .second, .val (.long k4), .second, .val (.int n2), .val (.int (0 : Int32)), .val (.int e1), .val (.int e2), .val (.int e2), .unset, .unset, .unset, .unset, .unset, .unset, .unset, .unset, .unset] (dc hby d0_196) rfl ?_
            refine go_goto XJ8 hx (db hby d0_198) ?_
            exact J9 TJ8 _ _ XJ8 eJ8 (by first | exact own_e00 ((own_cmp _ _).mp c162) | exact own_ePP he1 ((own_cmp _ _).mp c176) | exact own_eP he2 ((own_cmp _ _).mp c191) | exact own_eNew hn2 (by simp only [own_memAdd, List.mem_singleton, not_or]; exact ⟨⟨(fun q => c162 ((own_cmp _ _).mpr q)), (fun q => c176 ((own_cmp _ _).mpr q))⟩, (fun q => c191 ((own_cmp _ _).mpr q))⟩)) (by first | exact own_nIn hn2 (by simp only [own_memAdd, List.mem_singleton]; simp [((own_cmp _ _).mp c162)]) | exact own_nIn hn2 (by simp only [own_memAdd, List.mem_singleton]; simp [((own_cmp _ _).mp c176)]) | exact own_nIn hn2 (by simp only [own_memAdd, List.mem_singleton]; simp [((own_cmp _ _).mp c191)]) | exact own_nNew hn2 (by simp only [own_memAdd, List.mem_singleton, not_or]; exact ⟨⟨(fun q => c162 ((own_cmp _ _).mpr q)), (fun q => c176 ((own_cmp _ _).mpr q))⟩, (fun q => c191 ((own_cmp _ _).mpr q))⟩))
        · refine go_iload XJ8 hx (dc hby d0_179) (v := e1) rfl ?_
          refine go_istore XJ8 hx #[.val (.long p0), .second, .val (.long p1), .second, .val (.long p2), .second, .val (.int p3), .val (.int p4), .val (.long near), .second, .val (.long k0), .second, .val (.long k1), .second, .val (.long k2), .second, .val (.long k3), .second, .val (.long k4), .second, .val (.int n2), .val (.int (0 : Int32)), .val (.int e1), .val (.int e2), .val (.int e1), .unset, .unset, .unset, .unset, .unset, .unset, .unset, .unset, .unset] (dc hby d0_181) rfl ?_
          refine go_goto XJ8 hx (db hby d0_183) ?_
          exact J9 TJ8 _ _ XJ8 eJ8 (by first | exact own_e00 ((own_cmp _ _).mp c162) | exact own_ePP he1 ((own_cmp _ _).mp c176) | exact own_eP he2 ((own_cmp _ _).mp c191) | exact own_eNew hn2 (by simp only [own_memAdd, List.mem_singleton, not_or]; exact ⟨⟨(fun q => c162 ((own_cmp _ _).mpr q)), (fun q => c176 ((own_cmp _ _).mpr q))⟩, (fun q => c191 ((own_cmp _ _).mpr q))⟩)) (by first | exact own_nIn hn2 (by simp only [own_memAdd, List.mem_singleton]; simp [((own_cmp _ _).mp c162)]) | exact own_nIn hn2 (by simp only [own_memAdd, List.mem_singleton]; simp [((own_cmp _ _).mp c176)]) | exact own_nIn hn2 (by simp only [own_memAdd, List.mem_singleton]; simp [((own_cmp _ _).mp c191)]) | exact own_nNew hn2 (by simp only [own_memAdd, List.mem_singleton, not_or]; exact ⟨⟨(fun q => c162 ((own_cmp _ _).mpr q)), (fun q => c176 ((own_cmp _ _).mpr q))⟩, (fun q => c191 ((own_cmp _ _).mpr q))⟩))
      · refine go_iconst XJ8 hx (0) (dc hby d0_165) rfl ?_
        refine go_istore XJ8 hx #[.val (.long p0), .second, .val (.long p1), .second, .val (.long p2), .second, .val (.int p3), .val (.int p4), .val (.long near), .second, .val (.long k0), .second, .val (.long k1), .second, .val (.long k2), .second, .val (.long k3), .second, .val (.long k4), .second, .val (.int n2), .val (.int (0 : Int32)), .val (.int e1), .val (.int e2), .val (.int (0 : Int32)), .unset, .unset, .unset, .unset, .unset, .unset, .unset, .unset, .unset] (dc hby d0_166) rfl ?_
        refine go_goto XJ8 hx (db hby d0_168) ?_
        exact J9 TJ8 _ _ XJ8 eJ8 (by first | exact own_e00 ((own_cmp _ _).mp c162) | exact own_ePP he1 ((own_cmp _ _).mp c176) | exact own_eP he2 ((own_cmp _ _).mp c191) | exact own_eNew hn2 (by simp only [own_memAdd, List.mem_singleton, not_or]; exact ⟨⟨(fun q => c162 ((own_cmp _ _).mpr q)), (fun q => c176 ((own_cmp _ _).mpr q))⟩, (fun q => c191 ((own_cmp _ _).mpr q))⟩)) (by first | exact own_nIn hn2 (by simp only [own_memAdd, List.mem_singleton]; simp [((own_cmp _ _).mp c162)]) | exact own_nIn hn2 (by simp only [own_memAdd, List.mem_singleton]; simp [((own_cmp _ _).mp c176)]) | exact own_nIn hn2 (by simp only [own_memAdd, List.mem_singleton]; simp [((own_cmp _ _).mp c191)]) | exact own_nNew hn2 (by simp only [own_memAdd, List.mem_singleton, not_or]; exact ⟨⟨(fun q => c162 ((own_cmp _ _).mpr q)), (fun q => c176 ((own_cmp _ _).mpr q))⟩, (fun q => c191 ((own_cmp _ _).mpr q))⟩))
    refine go_ifc_ne XJ7 hx (db hby d0_123) (fun c123 => ?_) (fun c123 => ?_)
    · refine go_lload XJ7 hx (dc hby d0_132) (v := k2) rfl ?_
      refine go_lload XJ7 hx (dc hby d0_134) (v := k1) rfl ?_
      refine go_lcmp XJ7 hx (dc hby d0_136) ?_
      refine go_ifc_ne XJ7 hx (db hby d0_137) (fun c137 => ?_) (fun c137 => ?_)
      · refine go_iload XJ7 hx (dc hby d0_147) (v := n1) rfl ?_
        refine go_istore XJ7 hx #[.val (.long p0), .second, .val (.long p1), .second, .val (.long p2), .second, .val (.int p3), .val (.int p4), .val (.long near), .second, .val (.long k0), .second, .val (.long k1), .second, .val (.long k2), .second, .val (.long k3), .second, .val (.long k4), .second, .val (.int n1), .val (.int (0 : Int32)), .val (.int e1), .val (.int n1), .unset, .unset, .unset, .unset, .unset, .unset, .unset, .unset, .unset, .unset] (dc hby d0_149) rfl ?_
        refine go_iload XJ7 hx (dc hby d0_151) (v := n1) rfl ?_
        refine go_iconst XJ7 hx (1) (dc hby d0_153) rfl ?_
        refine go_iadd XJ7 hx (dc hby d0_154) ?_
        refine go_istore XJ7 hx #[.val (.long p0), .second, .val (.long p1), .second, .val (.long p2), .second, .val (.int p3), .val (.int p4), .val (.long near), .second, .val (.long k0), .second, .val (.long k1), .second, .val (.long k2), .second, .val (.long k3), .second, .val (.long k4), .second, .val (.int (n1 + (1 : Int32))), .val (.int (0 : Int32)), .val (.int e1), .val (.int n1), .unset, .unset, .unset, .unset, .unset, .unset, .unset, .unset, .unset, .unset] (dc hby d0_155) rfl ?_
        exact J8 TJ7 _ _ XJ7 eJ7 (by first | exact own_e0 ((own_cmp _ _).mp c123) | exact own_eP he1 ((own_cmp _ _).mp c137) | exact own_eNew hn1 (by simp only [own_memAdd, List.mem_singleton, not_or]; exact ⟨(fun q => c123 ((own_cmp _ _).mpr q)), (fun q => c137 ((own_cmp _ _).mpr q))⟩)) (by first | exact own_nIn hn1 (by simp only [own_memAdd, List.mem_singleton]; simp [((own_cmp _ _).mp c123)]) | exact own_nIn hn1 (by simp only [own_memAdd, List.mem_singleton]; simp [((own_cmp _ _).mp c137)]) | exact own_nNew hn1 (by simp only [own_memAdd, List.mem_singleton, not_or]; exact ⟨(fun q => c123 ((own_cmp _ _).mpr q)), (fun q => c137 ((own_cmp _ _).mpr q))⟩))
      · refine go_iload XJ7 hx (dc hby d0_140) (v := e1) rfl ?_
        refine go_istore XJ7 hx #[.val (.long p0), .second, .val (.long p1), .second, .val (.long p2), .second, .val (.int p3), .val (.int p4), .val (.long near), .second, .val (.long k0), .second, .val (.long k1), .second, .val (.long k2), .second, .val (.long k3), .second, .val (.long k4), .second, .val (.int n1), .val (.int (0 : Int32)), .val (.int e1), .val (.int e1), .unset, .unset, .unset, .unset, .unset, .unset, .unset, .unset, .unset, .unset] (dc hby d0_142) rfl ?_
        refine go_goto XJ7 hx (db hby d0_144) ?_
        exact J8 TJ7 _ _ XJ7 eJ7 (by first | exact own_e0 ((own_cmp _ _).mp c123) | exact own_eP he1 ((own_cmp _ _).mp c137) | exact own_eNew hn1 (by simp only [own_memAdd, List.mem_singleton, not_or]; exact ⟨(fun q => c123 ((own_cmp _ _).mpr q)), (fun q => c137 ((own_cmp _ _).mpr q))⟩)) (by first | exact own_nIn hn1 (by simp only [own_memAdd, List.mem_singleton]; simp [((own_cmp _ _).mp c123)]) | exact own_nIn hn1 (by simp only [own_memAdd, List.mem_singleton]; simp [((own_cmp _ _).mp c137)]) | exact own_nNew hn1 (by simp only [own_memAdd, List.mem_singleton, not_or]; exact ⟨(fun q => c123 ((own_cmp _ _).mpr q)), (fun q => c137 ((own_cmp _ _).mpr q))⟩))
    · refine go_iconst XJ7 hx (0) (dc hby d0_126) rfl ?_
      refine go_istore XJ7 hx #[.val (.long p0), .second, .val (.long p1), .second, .val (.long p2), .second, .val (.int p3), .val (.int p4), .val (.long near), .second, .val (.long k0), .second, .val (.long k1), .second, .val (.long k2), .second, .val (.long k3), .second, .val (.long k4), .second, .val (.int n1), .val (.int (0 : Int32)), .val (.int e1), .val (.int (0 : Int32)), .unset, .unset, .unset, .unset, .unset, .unset, .unset, .unset, .unset, .unset] (dc hby d0_127) rfl ?_
      refine go_goto XJ7 hx (db hby d0_129) ?_
      exact J8 TJ7 _ _ XJ7 eJ7 (by first | exact own_e0 ((own_cmp _ _).mp c123) | exact own_eP he1 ((own_cmp _ _).mp c137) | exact own_eNew hn1 (by simp only [own_memAdd, List.mem_singleton, not_or]; exact ⟨(fun q => c123 ((own_cmp _ _).mpr q)), (fun q => c137 ((own_cmp _ _).mpr q))⟩)) (by first | exact own_nIn hn1 (by simp only [own_memAdd, List.mem_singleton]; simp [((own_cmp _ _).mp c123)]) | exact own_nIn hn1 (by simp only [own_memAdd, List.mem_singleton]; simp [((own_cmp _ _).mp c137)]) | exact own_nNew hn1 (by simp only [own_memAdd, List.mem_singleton, not_or]; exact ⟨(fun q => c123 ((own_cmp _ _).mpr q)), (fun q => c137 ((own_cmp _ _).mpr q))⟩))
  refine go_ifc_ne X6 hx (db hby d0_99) (fun c99 => ?_) (fun c99 => ?_)
  · refine go_iload X6 hx (dc hby d0_108) (v := (1 : Int32)) rfl ?_
    refine go_istore X6 hx #[.val (.long p0), .second, .val (.long p1), .second, .val (.long p2), .second, .val (.int p3), .val (.int p4), .val (.long near), .second, .val (.long k0), .second, .val (.long k1), .second, .val (.long k2), .second, .val (.long k3), .second, .val (.long k4), .second, .val (.int (1 : Int32)), .val (.int (0 : Int32)), .val (.int (1 : Int32)), .unset, .unset, .unset, .unset, .unset, .unset, .unset, .unset, .unset, .unset, .unset] (dc hby d0_110) rfl ?_
    refine go_iload X6 hx (dc hby d0_112) (v := (1 : Int32)) rfl ?_
    refine go_iconst X6 hx (1) (dc hby d0_114) rfl ?_
    refine go_iadd X6 hx (dc hby d0_115) ?_
    refine go_istore X6 hx #[.val (.long p0), .second, .val (.long p1), .second, .val (.long p2), .second, .val (.int p3), .val (.int p4), .val (.long near), .second, .val (.long k0), .second, .val (.long k1), .second, .val (.long k2), .second, .val (.long k3), .second, .val (.long k4), .second, .val (.int ((1 : Int32) + (1 : Int32))), .val (.int (0 : Int32)), .val (.int (1 : Int32)), .unset, .unset, .unset, .unset, .unset, .unset, .unset, .unset, .unset, .unset, .unset] (dc hby d0_116) rfl ?_
    exact J7 T6 _ _ X6 e6 (by first | (rw [((own_cmp _ _).mp c99)]; simp; done) | exact own_eNew (ks := [k0]) rfl (by simp only [List.mem_singleton]; exact (fun q => c99 ((own_cmp _ _).mpr q)))) (by first | exact own_nIn (ks := [k0]) rfl (by rw [((own_cmp _ _).mp c99)]; simp) | exact own_nNew (ks := [k0]) rfl (by simp only [List.mem_singleton]; exact (fun q => c99 ((own_cmp _ _).mpr q))))
  · refine go_iconst X6 hx (0) (dc hby d0_102) rfl ?_
    refine go_istore X6 hx #[.val (.long p0), .second, .val (.long p1), .second, .val (.long p2), .second, .val (.int p3), .val (.int p4), .val (.long near), .second, .val (.long k0), .second, .val (.long k1), .second, .val (.long k2), .second, .val (.long k3), .second, .val (.long k4), .second, .val (.int (1 : Int32)), .val (.int (0 : Int32)), .val (.int (0 : Int32)), .unset, .unset, .unset, .unset, .unset, .unset, .unset, .unset, .unset, .unset, .unset] (dc hby d0_103) rfl ?_
    refine go_goto X6 hx (db hby d0_105) ?_
    exact J7 T6 _ _ X6 e6 (by first | (rw [((own_cmp _ _).mp c99)]; simp; done) | exact own_eNew (ks := [k0]) rfl (by simp only [List.mem_singleton]; exact (fun q => c99 ((own_cmp _ _).mpr q)))) (by first | exact own_nIn (ks := [k0]) rfl (by rw [((own_cmp _ _).mp c99)]; simp) | exact own_nNew (ks := [k0]) rfl (by simp only [List.mem_singleton]; exact (fun q => c99 ((own_cmp _ _).mpr q))))
theorem pd0 : parseMethodDescriptor "(JJJII)Z" = some ⟨[.long, .long, .long, .int, .int], some .boolean⟩ := by decide +kernel
set_option maxRecDepth 65536 in
set_option maxHeartbeats 40000000 in
theorem comes_1 {Post : Tables → Env → Array Value → State → Outcome → State → Prop} (hpost : ∀ tb e args s v u, (limb_1_1.after args s (.returned v) u = true ∧ limb_1_2.after args s (.returned v) u = true ∧ True) → FrameEnd s (.returned v) u (Jvm.fieldLocs frame_1_writes args s ++ Jvm.arrayLocs frame_1_arrays args s ++ Jvm.staticLocs frame_1_statics s) 16 4224 → Post tb e args s (.returned v) u) :
    ArmFor flags0 classFile x code maxLocals ret World_1 tables_1 room_1 Calls_1 rest_1 Pre_1 Post := by
  intro l hfl _ _ p e ha hc hk s m args below hf hA hF happ hP
  obtain ⟨hcalls, hrest, hpre⟩ := hP
  obtain ⟨-, -, -, hnamed, -, -, -, hat⟩ := (Spec.applies_iff hf).mp happ
  obtain ⟨hg, hn⟩ := and_e (Cond.before_iff.mp (show (Jvm.Cond.and given_1 narrow_1).before args s = true from hpre))
  obtain ⟨g1, g2⟩ := and_e hg
  obtain ⟨w0, w1, w2, w3, w4, rfl⟩ : ∃ w0 w1 w2 w3 w4 : Value, args = #[w0, w1, w2, w3, w4] := by
    have hs : args.size = 5 := by simpa [Cond.value, given_1] using g1
    obtain ⟨L⟩ := args
    match L, hs with
    | [w0, w1, w2, w3, w4], _ => exact ⟨w0, w1, w2, w3, w4, rfl⟩
  have hw := fun d (hd : d ∈ tables_1) => atoms_spec (ws := Jvm.Cond.code x code maxLocals ret :: tables_1) hat d (List.mem_cons_of_mem _ hd)
  have hfit : Fit s := fun {y c} hc i hi => by
    obtain ⟨ha, rfl⟩ := Array.getElem?_eq_some_iff.mp hc
    have q := List.all_eq_true.mp ((Array.all_eq_true_iff_forall_mem.mp hF) _ (Array.getElem_mem ha)) i (List.mem_range.mpr hi)
    simpa [Array.getElem?_eq_getElem hi] using q
  obtain ⟨u0, r0⟩ := and_e g2
  obtain ⟨i0, j0⟩ := isL_v u0
  obtain rfl : w0 = (.long i0) := Option.some.inj j0
  obtain ⟨u1, r1⟩ := and_e r0
  obtain ⟨i1, j1⟩ := isL_v u1
  obtain rfl : w1 = (.long i1) := Option.some.inj j1
  obtain ⟨u2, r2⟩ := and_e r1
  obtain ⟨i2, j2⟩ := isL_v u2
  obtain rfl : w2 = (.long i2) := Option.some.inj j2
  obtain ⟨u3, r3⟩ := and_e r2
  obtain ⟨i3, j3⟩ := is_v u3
  obtain rfl : w3 = (.int i3) := Option.some.inj j3
  obtain ⟨i4, j4⟩ := is_v r3
  obtain rfl : w4 = (.int i4) := Option.some.inj j4
  obtain ⟨n, o, h1, h2, h3, _, L, rfl, ⟨rfl, N⟩, hq⟩ := rm0 l s _ hw tables_1 i0 i1 i2 i3 i4  s.heap  p e ha hc hk s m _ below hf ((Spec.applies_iff_loose hf).mp happ).1 ⟨rfl, State.Warmed39.refl s, rfl⟩ trivial
  refine ⟨n, _, h1, h2, h3, hpost _ _ _ _ _ _ ⟨Cond.after_iff.mpr rfl, Cond.after_iff.mpr (eq_i res_at (Term.int_eval (1)) rfl), trivial⟩ ⟨hq.1, hq.2.1, (hq.2.2.sift fun y hy => Or.inr (N y hy)).mono (by decide) (by decide)⟩⟩
theorem main_1_1 : Claimed_1_1 := comes_1 fun _ _ _ _ _ _ h hF => ⟨h.1, hF⟩
theorem main_1_2 : Claimed_1_2 := comes_1 fun _ _ _ _ _ _ h hF => ⟨h.2.1, hF⟩
end Jvm.Pilot.@@N@@
namespace Jvm.Pilot.@@N@@
open Jvm Jvm.ClassFile Sem Op Lib Jvm.Free Jvm.Stand Jvm.Pilot.@@N@@.Jvm.D
/-! MADE BY PROGRAM (witnessworld.py) out of the Statement's table words and the real class files: 17 classes; the members and pool entries that the words name. The judged class is class 1, her method 4. -/
namespace start1
open Jvm.ClassFile
def u (s : String) : CpInfo := .utf8 (stringToUtf16 s)
/-- a pool by its gaps: so many unusable entries, then the entry; so many at the end -/
def gap : Nat → List CpInfo → List CpInfo
  | 0, r => r
  | n + 1, r => .unusable :: gap n r
def poolList (es : List (Nat × CpInfo)) (last : Nat) : List CpInfo := es.foldr (fun e r => gap e.1 (e.2 :: r)) (gap last [])
def pool (es : List (Nat × CpInfo)) (last : Nat) : Array CpInfo := ⟨poolList es last⟩
def fileOf (pool : Array CpInfo) (this : Nat) (attrs : Array Attribute := #[]) (ms : Array MethodInfo := #[]) (fl : Nat := 33) (sup : Nat := 0) (ifs : Array Nat := #[]) (fds : Array FieldInfo := #[]) : ClassFile where
  minorVersion := 0
  majorVersion := 65
  constantPool := pool
  accessFlags := fl
  thisClass := this
  superClass := sup
  interfaces := ifs
  fields := fds
  methods := ms
  attributes := attrs
def plain (name : String) (sup : Option ClassId) : Class where
  name := name
  kind := .ordinary
  loader := none
  accessFlags := 33
  super := sup
  interfaces := #[]
  cf := none
  fields := #[]
  methods := #[]
  instanceTypes := #[]
  staticTypes := #[]
  resolved := #[]
  callSites := []
  init := .initialized
  statics := none
  mirror := none

def pool0 : Array CpInfo := pool [(5, u "<init>"), (0, u "()V"), (1, .class_ 10), (1, u "java/lang/Object")] 113

def k0c0 : Code := { maxStack := 0, maxLocals := 1, code := object_method_1_code, exceptionTable := #[], attributes := #[] }
def k0m0 : Method := { name := "<init>", desc := "()V", sig := { parameters := [], returnType := none }, accessFlags := 1, code := some k0c0 }
/-- java/lang/Object -/
def k0 : Class := { plain "java/lang/Object" none with
  accessFlags := 33
  interfaces := #[]
  cf := some (fileOf pool0 8 #[] #[{ accessFlags := 1, nameIndex := 5, descriptorIndex := 6, attributes := #[] }] 33 0 #[] #[])
  fields := #[]
  methods := #[k0m0]
  instanceTypes := #[]
  staticTypes := #[]
  resolved := Array.replicate 124 none
  statics := none }

def pool1 : Array CpInfo := pool [(2, .class_ 4), (0, .nameAndType 5 6), (0, u "java/lang/Object"), (0, u "<init>"), (0, u "()V"), (0, .long 11400714819323198485), (1, .long 2), (1, .methodref 12 13), (0, .class_ 14), (0, .nameAndType 15 16), (0, u "com/example/strict_tariff/stricttariff/LongNumberingNumberPinLaw"), (0, u "inverseOfSpread"), (0, u "()J"), (0, .methodref 12 18), (0, .nameAndType 19 20), (0, u "pick"), (0, u "(IJJJJ)J"), (0, .methodref 12 22), (0, .nameAndType 23 24), (0, u "pickInt"), (0, u "(IIIII)I"), (0, .class_ 26), (0, u "com/example/strict_tariff/stricttariff/LongNumbering"), (0, .methodref 25 3), (0, .methodref 25 29), (0, .nameAndType 30 31), (0, u "size"), (0, u "()I"), (0, .methodref 25 33), (0, .nameAndType 34 35), (0, u "number"), (0, u "(J)I"), (3, u "law"), (0, u "(JJJII)Z")] 2

def k1m0 : Method := { name := "<init>", desc := "()V", sig := { parameters := [], returnType := none }, accessFlags := 1, code := none }
def k1c1 : Code := { maxStack := 8, maxLocals := 4, code := method_2_code, exceptionTable := #[], attributes := #[] }
def k1m1 : Method := { name := "inverseOfSpread", desc := "()J", sig := { parameters := [], returnType := some .long }, accessFlags := 10, code := some k1c1 }
def k1c2 : Code := { maxStack := 2, maxLocals := 10, code := method_3_code, exceptionTable := #[], attributes := #[] }
def k1m2 : Method := { name := "pick", desc := "(IJJJJ)J", sig := { parameters := [.int, .long, .long, .long, .long], returnType := some .long }, accessFlags := 10, code := some k1c2 }
def k1c3 : Code := { maxStack := 2, maxLocals := 6, code := method_4_code, exceptionTable := #[], attributes := #[] }
def k1m3 : Method := { name := "pickInt", desc := "(IIIII)I", sig := { parameters := [.int, .int, .int, .int, .int], returnType := some .int }, accessFlags := 10, code := some k1c3 }
def k1c4 : Code := { maxStack := 9, maxLocals := 34, code := code, exceptionTable := #[], attributes := #[] }
def k1m4 : Method := { name := "law", desc := "(JJJII)Z", sig := { parameters := [.long, .long, .long, .int, .int], returnType := some .boolean }, accessFlags := 9, code := some k1c4 }
/-- com/example/strict_tariff/stricttariff/LongNumberingNumberPinLaw -/
def k1 : Class := { plain "com/example/strict_tariff/stricttariff/LongNumberingNumberPinLaw" (some 0) with
  accessFlags := 49
  interfaces := #[]
  cf := some (fileOf pool1 12 #[] #[{ accessFlags := 1, nameIndex := 5, descriptorIndex := 6, attributes := #[] }, { accessFlags := 10, nameIndex := 15, descriptorIndex := 16, attributes := #[] }, { accessFlags := 10, nameIndex := 19, descriptorIndex := 20, attributes := #[] }, { accessFlags := 10, nameIndex := 23, descriptorIndex := 24, attributes := #[] }, { accessFlags := 9, nameIndex := 39, descriptorIndex := 40, attributes := #[] }] 49 2 #[] #[])
  fields := #[]
  methods := #[k1m0, k1m1, k1m2, k1m3, k1m4]
  instanceTypes := #[]
  staticTypes := #[]
  resolved := Array.replicate 43 none
  statics := none }

def pool2 : Array CpInfo := pool [(1, .methodref 2 3), (0, .class_ 4), (0, .nameAndType 5 6), (0, u "java/lang/Object"), (0, u "<init>"), (0, u "()V"), (0, .fieldref 8 9), (0, .class_ 10), (0, .nameAndType 11 12), (0, u "com/example/strict_tariff/stricttariff/LongNumbering"), (0, u "keys"), (0, u "[J"), (0, .fieldref 8 14), (0, .nameAndType 15 16), (0, u "numbers"), (0, u "[I"), (0, .methodref 18 19), (0, .class_ 20), (0, .nameAndType 21 22), (0, u "java/util/Arrays"), (0, u "fill"), (0, u "([II)V"), (0, .fieldref 8 24), (0, .nameAndType 25 26), (0, u "size"), (0, u "I"), (0, .methodref 8 28), (0, .nameAndType 29 30), (0, u "slot"), (0, u "(JI)I"), (0, .long 4), (1, .long 3), (4, .long 11400714819323198485), (3, .methodref 43 44), (0, .class_ 45), (0, .nameAndType 46 47), (0, u "java/lang/Integer"), (0, u "numberOfTrailingZeros"), (0, u "(I)I"), (0, u "NONE"), (2, u "SPREAD"), (0, u "J"), (2, u "()I"), (0, u "number"), (0, u "(J)I")] 5

def k2c0 : Code := { maxStack := 2, maxLocals := 1, code := prog_9_method_1_code, exceptionTable := #[], attributes := #[] }
def k2m0 : Method := { name := "<init>", desc := "()V", sig := { parameters := [], returnType := none }, accessFlags := 0, code := some k2c0 }
def k2c1 : Code := { maxStack := 1, maxLocals := 1, code := prog_9_method_2_code, exceptionTable := #[], attributes := #[] }
def k2m1 : Method := { name := "size", desc := "()I", sig := { parameters := [], returnType := some .int }, accessFlags := 0, code := some k2c1 }
def k2c2 : Code := { maxStack := 6, maxLocals := 4, code := prog_9_method_3_code, exceptionTable := #[], attributes := #[] }
def k2m2 : Method := { name := "number", desc := "(J)I", sig := { parameters := [.long], returnType := some .int }, accessFlags := 0, code := some k2c2 }
def k2c3 : Code := { maxStack := 4, maxLocals := 3, code := prog_9_method_5_code, exceptionTable := #[], attributes := #[] }
def k2m3 : Method := { name := "slot", desc := "(JI)I", sig := { parameters := [.long, .int], returnType := some .int }, accessFlags := 10, code := some k2c3 }
/-- com/example/strict_tariff/stricttariff/LongNumbering -/
def k2 : Class := { plain "com/example/strict_tariff/stricttariff/LongNumbering" (some 0) with
  accessFlags := 32
  interfaces := #[]
  cf := some (fileOf pool2 8 #[] #[{ accessFlags := 0, nameIndex := 5, descriptorIndex := 6, attributes := #[] }, { accessFlags := 0, nameIndex := 25, descriptorIndex := 55, attributes := #[] }, { accessFlags := 0, nameIndex := 56, descriptorIndex := 57, attributes := #[] }, { accessFlags := 10, nameIndex := 29, descriptorIndex := 30, attributes := #[] }] 32 2 #[] #[{ accessFlags := 26, nameIndex := 48, descriptorIndex := 26, attributes := #[] }, { accessFlags := 26, nameIndex := 51, descriptorIndex := 52, attributes := #[] }, { accessFlags := 2, nameIndex := 11, descriptorIndex := 12, attributes := #[] }, { accessFlags := 2, nameIndex := 15, descriptorIndex := 16, attributes := #[] }, { accessFlags := 2, nameIndex := 25, descriptorIndex := 26, attributes := #[] }])
  fields := #[{ name := "NONE", type := .int, accessFlags := 26, slot := 0, constantValue := 0 }, { name := "SPREAD", type := .long, accessFlags := 26, slot := 1, constantValue := 0 }, { name := "keys", type := (.array .long), accessFlags := 2, slot := 0, constantValue := 0 }, { name := "numbers", type := (.array .int), accessFlags := 2, slot := 1, constantValue := 0 }, { name := "size", type := .int, accessFlags := 2, slot := 2, constantValue := 0 }]
  methods := #[k2m0, k2m1, k2m2, k2m3]
  instanceTypes := #[(.array .long), (.array .int), .int]
  staticTypes := #[.int, .long]
  resolved := Array.replicate 63 none
  statics := none }

def pool3 : Array CpInfo := pool [(2, .class_ 4), (1, u "java/lang/Object"), (0, u "<init>"), (0, u "()V"), (7, .class_ 16), (1, u "java/util/Arrays"), (57, .class_ 76), (1, u "java/util/Arrays$NaturalOrder"), (36, .class_ 115), (1, u "java/util/Arrays$LegacyMergeSort"), (1, u "Z"), (257, .class_ 376), (0, u "java/util/Arrays$ArrayList"), (68, u "$assertionsDisabled"), (269, u "MIN_ARRAY_SORT_GRAN"), (0, u "I"), (2, u "INSERTIONSORT_THRESHOLD"), (120, u "fill"), (4, u "([II)V"), (129, .class_ 976), (0, u "java/util/Arrays$ArrayItr")] 52

def k3m0 : Method := { name := "<init>", desc := "()V", sig := { parameters := [], returnType := none }, accessFlags := 2, code := none }
def k3c1 : Code := { maxStack := 3, maxLocals := 4, code := jdk_65_method_103_code, exceptionTable := #[], attributes := #[] }
def k3m1 : Method := { name := "fill", desc := "([II)V", sig := { parameters := [(.array .int), .int], returnType := none }, accessFlags := 9, code := some k3c1 }
/-- java/util/Arrays -/
def k3 : Class := { plain "java/util/Arrays" (some 0) with
  accessFlags := 49
  interfaces := #[]
  cf := some (fileOf pool3 14 #[.nestMembers #[975, 375, 113, 74]] #[{ accessFlags := 2, nameIndex := 5, descriptorIndex := 6, attributes := #[] }, { accessFlags := 9, nameIndex := 840, descriptorIndex := 845, attributes := #[] }] 49 2 #[] #[{ accessFlags := 26, nameIndex := 715, descriptorIndex := 716, attributes := #[] }, { accessFlags := 26, nameIndex := 719, descriptorIndex := 716, attributes := #[] }, { accessFlags := 4120, nameIndex := 445, descriptorIndex := 117, attributes := #[] }])
  fields := #[{ name := "MIN_ARRAY_SORT_GRAN", type := .int, accessFlags := 26, slot := 0, constantValue := 0 }, { name := "INSERTIONSORT_THRESHOLD", type := .int, accessFlags := 26, slot := 1, constantValue := 0 }, { name := "$assertionsDisabled", type := .boolean, accessFlags := 4120, slot := 2, constantValue := 0 }]
  methods := #[k3m0, k3m1]
  instanceTypes := #[]
  staticTypes := #[.int, .int, .boolean]
  resolved := Array.replicate 1029 none
  statics := none }

def pool4 : Array CpInfo := pool [(1, .class_ 2), (0, u "java/io/Serializable"), (0, .class_ 4), (0, u "java/lang/Object")] 2

/-- java/io/Serializable -/
def k4 : Class := { plain "java/io/Serializable" (some 0) with
  accessFlags := 1537
  interfaces := #[]
  cf := some (fileOf pool4 1 #[] #[] 1537 3 #[] #[])
  fields := #[]
  methods := #[]
  instanceTypes := #[]
  staticTypes := #[]
  resolved := Array.replicate 7 none
  statics := none }

def pool5 : Array CpInfo := pool [(2, .class_ 4), (1, u "java/lang/Object"), (0, u "<init>"), (0, u "()V"), (1, .class_ 10), (1, u "java/lang/Number"), (2, .class_ 14), (0, u "java/io/Serializable"), (0, u "serialVersionUID"), (0, u "J")] 20

def k5m0 : Method := { name := "<init>", desc := "()V", sig := { parameters := [], returnType := none }, accessFlags := 1, code := none }
/-- java/lang/Number -/
def k5 : Class := { plain "java/lang/Number" (some 0) with
  accessFlags := 1057
  interfaces := #[4]
  cf := some (fileOf pool5 8 #[] #[{ accessFlags := 1, nameIndex := 5, descriptorIndex := 6, attributes := #[] }] 1057 2 #[13] #[{ accessFlags := 26, nameIndex := 15, descriptorIndex := 16, attributes := #[] }])
  fields := #[{ name := "serialVersionUID", type := .long, accessFlags := 26, slot := 0, constantValue := 0 }]
  methods := #[k5m0]
  instanceTypes := #[]
  staticTypes := #[.long]
  resolved := Array.replicate 37 none
  statics := none }

def pool6 : Array CpInfo := pool [(1, .class_ 2), (0, u "java/lang/Comparable"), (0, .class_ 4), (0, u "java/lang/Object")] 7

/-- java/lang/Comparable -/
def k6 : Class := { plain "java/lang/Comparable" (some 0) with
  accessFlags := 1537
  interfaces := #[]
  cf := some (fileOf pool6 1 #[] #[] 1537 3 #[] #[])
  fields := #[]
  methods := #[]
  instanceTypes := #[]
  staticTypes := #[]
  resolved := Array.replicate 12 none
  statics := none }

def pool7 : Array CpInfo := pool [(1, .class_ 2), (0, u "java/lang/constant/Constable"), (0, .class_ 4), (0, u "java/lang/Object")] 6

/-- java/lang/constant/Constable -/
def k7 : Class := { plain "java/lang/constant/Constable" (some 0) with
  accessFlags := 1537
  interfaces := #[]
  cf := some (fileOf pool7 1 #[] #[] 1537 3 #[] #[])
  fields := #[]
  methods := #[]
  instanceTypes := #[]
  staticTypes := #[]
  resolved := Array.replicate 11 none
  statics := none }

def pool8 : Array CpInfo := pool [(1, .class_ 2), (0, u "java/lang/constant/ConstantDesc"), (0, .class_ 4), (0, u "java/lang/Object")] 32

/-- java/lang/constant/ConstantDesc -/
def k8 : Class := { plain "java/lang/constant/ConstantDesc" (some 0) with
  accessFlags := 1537
  interfaces := #[]
  cf := some (fileOf pool8 1 #[] #[] 1537 3 #[] #[])
  fields := #[]
  methods := #[]
  instanceTypes := #[]
  staticTypes := #[]
  resolved := Array.replicate 37 none
  statics := none }

def pool9 : Array CpInfo := pool [(1, .class_ 2), (0, u "java/lang/Integer"), (16, u "digits"), (0, u "[C"), (33, u "(I)I"), (30, u "DigitOnes"), (0, u "[B"), (2, u "DigitTens"), (99, .class_ 190), (0, u "java/lang/Integer$IntegerCache"), (3, u "I"), (8, .class_ 204), (0, u "java/lang/Number"), (2, u "value"), (56, .integer 65536), (37, u "TYPE"), (0, u "Ljava/lang/Class;"), (0, .class_ 305), (0, u "java/lang/Comparable"), (0, .class_ 307), (0, u "java/lang/constant/Constable"), (0, .class_ 309), (0, u "java/lang/constant/ConstantDesc"), (0, u "MIN_VALUE"), (1, u "MAX_VALUE"), (3, u "SIZE"), (1, u "BYTES"), (1, u "serialVersionUID"), (0, u "J"), (84, u "numberOfTrailingZeros")] 46

def k9c0 : Code := { maxStack := 3, maxLocals := 2, code := jdk_33_method_48_code, exceptionTable := #[], attributes := #[] }
def k9m0 : Method := { name := "numberOfTrailingZeros", desc := "(I)I", sig := { parameters := [.int], returnType := some .int }, accessFlags := 9, code := some k9c0 }
/-- java/lang/Integer -/
def k9 : Class := { plain "java/lang/Integer" (some 5) with
  accessFlags := 49
  interfaces := #[6, 7, 8]
  cf := some (fileOf pool9 1 #[.nestMembers #[189]] #[{ accessFlags := 9, nameIndex := 406, descriptorIndex := 54, attributes := #[] }] 49 203 #[304, 306, 308] #[{ accessFlags := 25, nameIndex := 310, descriptorIndex := 194, attributes := #[] }, { accessFlags := 25, nameIndex := 312, descriptorIndex := 194, attributes := #[] }, { accessFlags := 25, nameIndex := 302, descriptorIndex := 303, attributes := #[] }, { accessFlags := 24, nameIndex := 19, descriptorIndex := 20, attributes := #[] }, { accessFlags := 24, nameIndex := 89, descriptorIndex := 86, attributes := #[] }, { accessFlags := 24, nameIndex := 85, descriptorIndex := 86, attributes := #[] }, { accessFlags := 18, nameIndex := 207, descriptorIndex := 194, attributes := #[] }, { accessFlags := 25, nameIndex := 316, descriptorIndex := 194, attributes := #[] }, { accessFlags := 25, nameIndex := 318, descriptorIndex := 194, attributes := #[] }, { accessFlags := 26, nameIndex := 320, descriptorIndex := 321, attributes := #[] }])
  fields := #[{ name := "MIN_VALUE", type := .int, accessFlags := 25, slot := 0, constantValue := 0 }, { name := "MAX_VALUE", type := .int, accessFlags := 25, slot := 1, constantValue := 0 }, { name := "TYPE", type := (.object "java/lang/Class"), accessFlags := 25, slot := 2, constantValue := 0 }, { name := "digits", type := (.array .char), accessFlags := 24, slot := 3, constantValue := 0 }, { name := "DigitTens", type := (.array .byte), accessFlags := 24, slot := 4, constantValue := 0 }, { name := "DigitOnes", type := (.array .byte), accessFlags := 24, slot := 5, constantValue := 0 }, { name := "value", type := .int, accessFlags := 18, slot := 0, constantValue := 0 }, { name := "SIZE", type := .int, accessFlags := 25, slot := 6, constantValue := 0 }, { name := "BYTES", type := .int, accessFlags := 25, slot := 7, constantValue := 0 }, { name := "serialVersionUID", type := .long, accessFlags := 26, slot := 8, constantValue := 0 }]
  methods := #[k9m0]
  instanceTypes := #[.int]
  staticTypes := #[.int, .int, (.object "java/lang/Class"), (.array .char), (.array .byte), (.array .byte), .int, .int, .long]
  resolved := Array.replicate 453 none
  statics := none }

def pool10 : Array CpInfo := pool [(1, u "java/lang/Cloneable"), (0, .class_ 1), (0, u "java/lang/Object"), (0, .class_ 3)] 3

/-- java/lang/Cloneable -/
def k10 : Class := { plain "java/lang/Cloneable" (some 0) with
  accessFlags := 1537
  interfaces := #[]
  cf := some (fileOf pool10 2 #[] #[] 1537 4 #[] #[])
  fields := #[]
  methods := #[]
  instanceTypes := #[]
  staticTypes := #[]
  resolved := Array.replicate 8 none
  statics := none }

/-- the primitive byte -/
def k11 : Class := { plain "byte" none with kind := .primitive 'B', accessFlags := 0x411 }
/-- [B -/
def k12 : Class := { plain "[B" (some 0) with kind := .array 11 .byte, interfaces := #[10, 4], accessFlags := 1041 }

/-- the primitive int -/
def k13 : Class := { plain "int" none with kind := .primitive 'I', accessFlags := 0x411 }
/-- [I -/
def k14 : Class := { plain "[I" (some 0) with kind := .array 13 .int, interfaces := #[10, 4], accessFlags := 1041 }

/-- the primitive long -/
def k15 : Class := { plain "long" none with kind := .primitive 'J', accessFlags := 0x411 }
/-- [J -/
def k16 : Class := { plain "[J" (some 0) with kind := .array 15 .long, interfaces := #[10, 4], accessFlags := 1041 }

def heap : Heap := #[]
def classes : Array Class := #[k0, k1, k2, k3, k4, k5, k6, k7, k8, k9, k10, k11, k12, k13, k14, k15, k16]
def interned : List (Array UInt16 × Addr) := []
def slotsUsed : Nat := 0
def theMethod : MethodId := ⟨1, 4⟩
def args0 : Array Value := #[.long 5, .long 6, .long 7, .int 1, .int 27]
def aboutOver (below : List Frame) : State where
  vm := { classes := classes, interned := interned.toArray }
  heap := heap
  slotsUsed := slotsUsed
  threads := #[{ frames := .invoking theMethod args0 :: below }]
def below0 : List Frame := [.native { method := ⟨0, 0⟩, args := #[] }]
def about1 : State := aboutOver below0
def p0 : Program := .bare "" "" ""
def e0 : Env := launch0.env 0 0 0
theorem w_frames : about1.frames = Frame.invoking theMethod args0 :: below0 := rfl
set_option maxRecDepth 65536 in
theorem w_args : argsFit about1.vm theMethod args0 = true := by decide +kernel
set_option maxRecDepth 65536 in
theorem w_heap : heapFits about1 = true := by decide +kernel
set_option maxRecDepth 65536 in
theorem w_runnable : about1.curStatus? = some .runnable := by decide +kernel
set_option maxRecDepth 65536 in
theorem w_alone : about1.alone = true := by decide +kernel
set_option maxRecDepth 65536 in
theorem w_named : about1.methodNamed? x = some theMethod := by decide +kernel
set_option maxRecDepth 65536 in
theorem w_hears : about1.hears theMethod below0 = true := by decide +kernel
set_option maxRecDepth 65536 in
theorem w_ripe : about1.ripe theMethod args0 below0 = true := by decide +kernel
theorem w_running : about1.status = .running := rfl
set_option maxRecDepth 65536 in
theorem w_room : about1.hasRoom e0.platform room_1 = true :=
  launch0.hasRoom_least _ room_1 (by decide +kernel) (by decide +kernel) (by decide +kernel) (by decide +kernel) (by decide +kernel) (by decide +kernel)
theorem allAtoms_all (ts : List Jvm.Cond) (a : Array Jvm.Value) (st : Jvm.State) : (allAtoms ts).before a st = ts.all (fun c => c.before a st) := by
  induction ts with
  | nil => rfl
  | cons c t ih =>
    show (Jvm.Cond.and c (allAtoms t)).before a st = _
    rw [Jvm.Cond.before_and, ih, List.all_cons]
def words1 : List Jvm.Cond := Jvm.Cond.code x code maxLocals ret :: tables_1
/-- a 'code' word, met by the world's own term for the bytes: nothing is compared byte by byte -/
theorem code_word {y : MethodName} {bytes : ByteArray} {mx : Nat} {rt : Option FieldType} {a : Array Value} {s : State} {m : MethodId} {meth : Method} {c : Code} (h1 : s.methodNamed? y = some m) (h2 : s.vm.method? m = some meth) (h3 : meth.code = some c) (h4 : c.code = bytes)
    (h5 : (c.maxLocals == mx && c.exceptionTable.isEmpty && decide (c.maxStack ≤ mostOperands) && decide (meth.sig.returnType = rt) && !meth.locks && decide (parseMethodDescriptor y.desc = some meth.sig)) = true) : (Jvm.Cond.code y bytes mx rt).before a s = true := by
  simp only [Bool.and_eq_true, beq_iff_eq, Bool.not_eq_true', decide_eq_true_eq] at h5
  obtain ⟨⟨⟨⟨⟨g1, g2⟩, g3⟩, g4⟩, g5⟩, g6⟩ := h5
  simp [Cond.before, Cond.holds, Cond.value, h1, h2, h3, h4, g1, g2, g3, g4, g5, g6]
def isCode : Jvm.Cond → Bool
  | .code _ _ _ _ => true
  | _ => false
theorem all_split {L : List Jvm.Cond} {P : Jvm.Cond → Bool} (h1 : L.all (fun c => isCode c || P c) = true) (h2 : ∀ c ∈ L.filter isCode, P c = true) : L.all P = true := by
  refine List.all_eq_true.mpr fun c hc => ?_
  have h := List.all_eq_true.mp h1 c hc
  rcases Bool.eq_false_or_eq_true (isCode c) with hi | hi
  · exact h2 c (List.mem_filter.mpr ⟨hc, hi⟩)
  · simpa [hi] using h
set_option maxRecDepth 65536 in
theorem w_c0 : (Jvm.Cond.code x code maxLocals ret).before args0 about1 = true := code_word (m := ⟨1, 4⟩) (meth := k1m4) (c := k1c4) (by decide +kernel) rfl rfl rfl (by decide +kernel)
set_option maxRecDepth 65536 in
theorem w_c1 : (Jvm.Cond.code ({ cls := "com/example/strict_tariff/stricttariff/LongNumberingNumberPinLaw", name := "inverseOfSpread", desc := "()J" } : Jvm.MethodName) method_2_code (4 : Nat) (Option.some Jvm.ClassFile.FieldType.long)).before args0 about1 = true := code_word (m := ⟨1, 1⟩) (meth := k1m1) (c := k1c1) (by decide +kernel) rfl rfl rfl (by decide +kernel)
set_option maxRecDepth 65536 in
theorem w_c2 : (Jvm.Cond.code ({ cls := "com/example/strict_tariff/stricttariff/LongNumberingNumberPinLaw", name := "pick", desc := "(IJJJJ)J" } : Jvm.MethodName) method_3_code (10 : Nat) (Option.some Jvm.ClassFile.FieldType.long)).before args0 about1 = true := code_word (m := ⟨1, 2⟩) (meth := k1m2) (c := k1c2) (by decide +kernel) rfl rfl rfl (by decide +kernel)
set_option maxRecDepth 65536 in
theorem w_c3 : (Jvm.Cond.code ({ cls := "com/example/strict_tariff/stricttariff/LongNumberingNumberPinLaw", name := "pickInt", desc := "(IIIII)I" } : Jvm.MethodName) method_4_code (6 : Nat) (Option.some Jvm.ClassFile.FieldType.int)).before args0 about1 = true := code_word (m := ⟨1, 3⟩) (meth := k1m3) (c := k1c3) (by decide +kernel) rfl rfl rfl (by decide +kernel)
set_option maxRecDepth 65536 in
theorem w_c4 : (Jvm.Cond.code ({ cls := "com/example/strict_tariff/stricttariff/LongNumbering", name := "<init>", desc := "()V" } : Jvm.MethodName) prog_9_method_1_code (1 : Nat) (Option.none : Option Jvm.ClassFile.FieldType)).before args0 about1 = true := code_word (m := ⟨2, 0⟩) (meth := k2m0) (c := k2c0) (by decide +kernel) rfl rfl rfl (by decide +kernel)
set_option maxRecDepth 65536 in
theorem w_c5 : (Jvm.Cond.code ({ cls := "java/lang/Object", name := "<init>", desc := "()V" } : Jvm.MethodName) object_method_1_code (1 : Nat) (Option.none : Option Jvm.ClassFile.FieldType)).before args0 about1 = true := code_word (m := ⟨0, 0⟩) (meth := k0m0) (c := k0c0) (by decide +kernel) rfl rfl rfl (by decide +kernel)
set_option maxRecDepth 65536 in
theorem w_c6 : (Jvm.Cond.code ({ cls := "java/util/Arrays", name := "fill", desc := "([II)V" } : Jvm.MethodName) jdk_65_method_103_code (4 : Nat) (Option.none : Option Jvm.ClassFile.FieldType)).before args0 about1 = true := code_word (m := ⟨3, 1⟩) (meth := k3m1) (c := k3c1) (by decide +kernel) rfl rfl rfl (by decide +kernel)
set_option maxRecDepth 65536 in
theorem w_c7 : (Jvm.Cond.code ({ cls := "com/example/strict_tariff/stricttariff/LongNumbering", name := "size", desc := "()I" } : Jvm.MethodName) prog_9_method_2_code (1 : Nat) (Option.some Jvm.ClassFile.FieldType.int)).before args0 about1 = true := code_word (m := ⟨2, 1⟩) (meth := k2m1) (c := k2c1) (by decide +kernel) rfl rfl rfl (by decide +kernel)
set_option maxRecDepth 65536 in
theorem w_c8 : (Jvm.Cond.code ({ cls := "com/example/strict_tariff/stricttariff/LongNumbering", name := "number", desc := "(J)I" } : Jvm.MethodName) prog_9_method_3_code (4 : Nat) (Option.some Jvm.ClassFile.FieldType.int)).before args0 about1 = true := code_word (m := ⟨2, 2⟩) (meth := k2m2) (c := k2c2) (by decide +kernel) rfl rfl rfl (by decide +kernel)
set_option maxRecDepth 65536 in
theorem w_c9 : (Jvm.Cond.code ({ cls := "com/example/strict_tariff/stricttariff/LongNumbering", name := "slot", desc := "(JI)I" } : Jvm.MethodName) prog_9_method_5_code (3 : Nat) (Option.some Jvm.ClassFile.FieldType.int)).before args0 about1 = true := code_word (m := ⟨2, 3⟩) (meth := k2m3) (c := k2c3) (by decide +kernel) rfl rfl rfl (by decide +kernel)
set_option maxRecDepth 65536 in
theorem w_c10 : (Jvm.Cond.code ({ cls := "java/lang/Integer", name := "numberOfTrailingZeros", desc := "(I)I" } : Jvm.MethodName) jdk_33_method_48_code (2 : Nat) (Option.some Jvm.ClassFile.FieldType.int)).before args0 about1 = true := code_word (m := ⟨9, 0⟩) (meth := k9m0) (c := k9c0) (by decide +kernel) rfl rfl rfl (by decide +kernel)
def codes1 : List Jvm.Cond := [Jvm.Cond.code x code maxLocals ret, Jvm.Cond.code ({ cls := "com/example/strict_tariff/stricttariff/LongNumberingNumberPinLaw", name := "inverseOfSpread", desc := "()J" } : Jvm.MethodName) method_2_code (4 : Nat) (Option.some Jvm.ClassFile.FieldType.long), Jvm.Cond.code ({ cls := "com/example/strict_tariff/stricttariff/LongNumberingNumberPinLaw", name := "pick", desc := "(IJJJJ)J" } : Jvm.MethodName) method_3_code (10 : Nat) (Option.some Jvm.ClassFile.FieldType.long), Jvm.Cond.code ({ cls := "com/example/strict_tariff/stricttariff/LongNumberingNumberPinLaw", name := "pickInt", desc := "(IIIII)I" } : Jvm.MethodName) method_4_code (6 : Nat) (Option.some Jvm.ClassFile.FieldType.int), Jvm.Cond.code ({ cls := "com/example/strict_tariff/stricttariff/LongNumbering", name := "<init>", desc := "()V" } : Jvm.MethodName) prog_9_method_1_code (1 : Nat) (Option.none : Option Jvm.ClassFile.FieldType), Jvm.Cond.code ({ cls := "java/lang/Object", name := "<init>", desc := "()V" } : Jvm.MethodName) object_method_1_code (1 : Nat) (Option.none : Option Jvm.ClassFile.FieldType), Jvm.Cond.code ({ cls := "java/util/Arrays", name := "fill", desc := "([II)V" } : Jvm.MethodName) jdk_65_method_103_code (4 : Nat) (Option.none : Option Jvm.ClassFile.FieldType), Jvm.Cond.code ({ cls := "com/example/strict_tariff/stricttariff/LongNumbering", name := "size", desc := "()I" } : Jvm.MethodName) prog_9_method_2_code (1 : Nat) (Option.some Jvm.ClassFile.FieldType.int), Jvm.Cond.code ({ cls := "com/example/strict_tariff/stricttariff/LongNumbering", name := "number", desc := "(J)I" } : Jvm.MethodName) prog_9_method_3_code (4 : Nat) (Option.some Jvm.ClassFile.FieldType.int), Jvm.Cond.code ({ cls := "com/example/strict_tariff/stricttariff/LongNumbering", name := "slot", desc := "(JI)I" } : Jvm.MethodName) prog_9_method_5_code (3 : Nat) (Option.some Jvm.ClassFile.FieldType.int), Jvm.Cond.code ({ cls := "java/lang/Integer", name := "numberOfTrailingZeros", desc := "(I)I" } : Jvm.MethodName) jdk_33_method_48_code (2 : Nat) (Option.some Jvm.ClassFile.FieldType.int)]
set_option maxRecDepth 65536 in
theorem codes_eq : words1.filter isCode = codes1 := rfl
theorem w_codes : ∀ c ∈ words1.filter isCode, c.before args0 about1 = true := by
  rw [codes_eq]
  intro c hc
  simp only [codes1, List.mem_cons, List.not_mem_nil, or_false] at hc
  rcases hc with rfl | rfl | rfl | rfl | rfl | rfl | rfl | rfl | rfl | rfl | rfl
  · exact w_c0
  · exact w_c1
  · exact w_c2
  · exact w_c3
  · exact w_c4
  · exact w_c5
  · exact w_c6
  · exact w_c7
  · exact w_c8
  · exact w_c9
  · exact w_c10
set_option maxRecDepth 65536 in
theorem w_t1 : (words1.take 24).all (fun c => isCode c || c.before args0 about1) = true := by decide +kernel
set_option maxRecDepth 65536 in
theorem w_t2 : ((words1.drop 24).take 24).all (fun c => isCode c || c.before args0 about1) = true := by decide +kernel
set_option maxRecDepth 65536 in
theorem w_t3 : ((words1.drop 24).drop 24).all (fun c => isCode c || c.before args0 about1) = true := by decide +kernel
theorem w_tables : (allAtoms (Jvm.Cond.code x code maxLocals ret :: tables_1)).before args0 about1 = true := by
  rw [allAtoms_all]
  show words1.all (fun c => c.before args0 about1) = true
  refine all_split ?_ w_codes
  rw [← List.take_append_drop 24 words1, List.all_append, w_t1, ← List.take_append_drop 24 (words1.drop 24), List.all_append, w_t2, w_t3]
  rfl
set_option maxRecDepth 65536 in
theorem w_case : (Jvm.Cond.and given_1 narrow_1).before args0 about1 = true := by decide +kernel
theorem w_applies : (headSpec (Jvm.Cond.code x code maxLocals ret :: tables_1) room_1).applies x e0.platform about1 = true :=
  (Spec.applies_iff w_frames).mpr ⟨w_running, w_runnable, w_alone, w_named, w_hears, w_ripe, w_room, w_tables⟩
theorem atStart : AtStart classFile x code maxLocals ret World_1 tables_1 room_1 Calls_1 rest_1 Pre_1 launch0 p0 e0 about1 theMethod args0 below0 :=
  ⟨lists_1, trivial, launch0.admits_env _ _ _, launch0.least_env, fairChoices_fair.cas, fairChoices_fair.clock, w_frames, w_args, w_heap, w_applies, trivial, trivial, w_case⟩
end start1
theorem witness_1 : WitnessClaimed_1 := ⟨start1.p0, start1.e0, start1.about1, start1.theMethod, start1.args0, start1.below0, start1.atStart⟩
end Jvm.Pilot.@@N@@
