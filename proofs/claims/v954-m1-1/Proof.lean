import JvmDerived
import JvmDerived.Pilot.@@N@@Statement
import JvmDerived.Pilot.@@N@@Code
set_option linter.unusedVariables false
set_option linter.unusedSimpArgs false
namespace Jvm.Pilot.@@N@@
open Jvm Jvm.ClassFile Sem Op Lib Jvm.Free Jvm.Stand Jvm.LawKit Jvm.RoadKit Bundle Jvm.Pilot.@@N@@.Jvm.D
section OwnGo
variable {p : Program} {l : Launch} {e : Env} {R : Room} {s : State} {m : MethodId} {args : Array Value} {below : List Frame} {meth : Method} {c : Code} {T : State} {locs : List Loc} {cells slots : Nat} {Q : Option Value → Heap → List Loc → Prop} {rc rs : Nat} {Ls : Array Slot} {st : List Value} {pc pc' pt : Nat} {Z : State} {a0 : Array Value} {h : Heap} {En : Outcome → State → Prop}
def Go (p : Program) (e : Env) (below : List Frame) (En : Outcome → State → Prop) (S : State) : Prop := ∃ s₂ o, Steps p.tables e below S s₂ ∧ s₂.status = .running ∧ Ended s₂ below o ∧ En o s₂
def EndN (s : State) (Q : Option Value → Heap → List Loc → Prop) (rc rs : Nat) (o : Outcome) (s₂ : State) : Prop := ∃ v L, o = .returned v ∧ Q v s₂.heap L ∧ FrameEnd s o s₂ L rc rs
def EndW (s : State) (Q : Option Value → Heap → List Loc → Prop) (rc rs : Nat) (o : Outcome) (s₂ : State) : Prop := ∃ v L, o = .returned v ∧ Q v s₂.heap L ∧ ReturnedEndW s o s₂ L rc rs
theorem own_via {S S' : State} (q : ∀ t, Steps p.tables e below S' t → Steps p.tables e below S t) (k : Go p e below En S') : Go p e below En S := by
  obtain ⟨t, o, h1, h2⟩ := k
  exact ⟨t, o, q _ h1, h2⟩
def Dec (b : ByteArray) (pc : Nat) (i : Instr) (n pc' : Nat) : Prop := decode b pc = .ok (i, n) ∧ pc + n = pc'
def DecB (b : ByteArray) (pc : Nat) (i : Instr) (o : Int) (pF pT : Nat) : Prop := decode b pc = .ok (i, 3) ∧ pc + 3 = pF ∧ 0 ≤ (pc : Int) + o ∧ ((pc : Int) + o).toNat = pT
theorem dc {b : ByteArray} {i : Instr} {n : Nat} (q : c.code = b) (k : Dec b pc i n pc') : Dec c.code pc i n pc' := q ▸ k
theorem db {b : ByteArray} {i : Instr} {o : Int} (q : c.code = b) (k : DecB b pc i o pc' pt) : DecB c.code pc i o pc' pt := q ▸ k
theorem go_iadd (X : Stand p l e R s m args below meth c T locs cells slots) (hx : p.tables.exec = Jvm.exec) {x y : Int32} (hd : Dec c.code pc (.iadd) 1 pc') (k : Go p e below En (T.setTop (mkF m pc' Ls (.int (x + y) :: st)))) : Go p e below En (T.setTop (mkF m pc Ls (.int y :: .int x :: st))) := by
  obtain ⟨hd, rfl⟩ := hd
  exact own_via (fun t => XS.iadd X.here hx rfl hd rfl) k
theorem go_isub (X : Stand p l e R s m args below meth c T locs cells slots) (hx : p.tables.exec = Jvm.exec) {x y : Int32} (hd : Dec c.code pc (.isub) 1 pc') (k : Go p e below En (T.setTop (mkF m pc' Ls (.int (x - y) :: st)))) : Go p e below En (T.setTop (mkF m pc Ls (.int y :: .int x :: st))) := by
  obtain ⟨hd, rfl⟩ := hd
  exact own_via (fun t => XS.isub X.here hx rfl hd rfl) k
theorem go_imul (X : Stand p l e R s m args below meth c T locs cells slots) (hx : p.tables.exec = Jvm.exec) {x y : Int32} (hd : Dec c.code pc (.imul) 1 pc') (k : Go p e below En (T.setTop (mkF m pc' Ls (.int (x * y) :: st)))) : Go p e below En (T.setTop (mkF m pc Ls (.int y :: .int x :: st))) := by
  obtain ⟨hd, rfl⟩ := hd
  exact own_via (fun t => XS.imul X.here hx rfl hd rfl) k
theorem go_iand (X : Stand p l e R s m args below meth c T locs cells slots) (hx : p.tables.exec = Jvm.exec) {x y : Int32} (hd : Dec c.code pc (.iand) 1 pc') (k : Go p e below En (T.setTop (mkF m pc' Ls (.int (x &&& y) :: st)))) : Go p e below En (T.setTop (mkF m pc Ls (.int y :: .int x :: st))) := by
  obtain ⟨hd, rfl⟩ := hd
  exact own_via (fun t => XS.iand X.here hx rfl hd rfl) k
theorem go_ior (X : Stand p l e R s m args below meth c T locs cells slots) (hx : p.tables.exec = Jvm.exec) {x y : Int32} (hd : Dec c.code pc (.ior) 1 pc') (k : Go p e below En (T.setTop (mkF m pc' Ls (.int (x ||| y) :: st)))) : Go p e below En (T.setTop (mkF m pc Ls (.int y :: .int x :: st))) := by
  obtain ⟨hd, rfl⟩ := hd
  exact own_via (fun t => XT.ior X.here hx rfl hd rfl) k
theorem go_ixor (X : Stand p l e R s m args below meth c T locs cells slots) (hx : p.tables.exec = Jvm.exec) {x y : Int32} (hd : Dec c.code pc (.ixor) 1 pc') (k : Go p e below En (T.setTop (mkF m pc' Ls (.int (x ^^^ y) :: st)))) : Go p e below En (T.setTop (mkF m pc Ls (.int y :: .int x :: st))) := by
  obtain ⟨hd, rfl⟩ := hd
  exact own_via (fun t => XT.ixor X.here hx rfl hd rfl) k
theorem go_ishl (X : Stand p l e R s m args below meth c T locs cells slots) (hx : p.tables.exec = Jvm.exec) {x y : Int32} (hd : Dec c.code pc (.ishl) 1 pc') (k : Go p e below En (T.setTop (mkF m pc' Ls (.int (x <<< (y &&& 31)) :: st)))) : Go p e below En (T.setTop (mkF m pc Ls (.int y :: .int x :: st))) := by
  obtain ⟨hd, rfl⟩ := hd
  exact own_via (fun t => XT.ishl X.here hx rfl hd rfl) k
theorem go_ishr (X : Stand p l e R s m args below meth c T locs cells slots) (hx : p.tables.exec = Jvm.exec) {x y : Int32} (hd : Dec c.code pc (.ishr) 1 pc') (k : Go p e below En (T.setTop (mkF m pc' Ls (.int (x >>> (y &&& 31)) :: st)))) : Go p e below En (T.setTop (mkF m pc Ls (.int y :: .int x :: st))) := by
  obtain ⟨hd, rfl⟩ := hd
  exact own_via (fun t => XT.ishr X.here hx rfl hd rfl) k
theorem go_iushr (X : Stand p l e R s m args below meth c T locs cells slots) (hx : p.tables.exec = Jvm.exec) {x y : Int32} (hd : Dec c.code pc (.iushr) 1 pc') (k : Go p e below En (T.setTop (mkF m pc' Ls (.int (XT.ushr x y) :: st)))) : Go p e below En (T.setTop (mkF m pc Ls (.int y :: .int x :: st))) := by
  obtain ⟨hd, rfl⟩ := hd
  exact own_via (fun t => XT.iushr X.here hx rfl hd rfl) k
theorem go_idiv (X : Stand p l e R s m args below meth c T locs cells slots) (hx : p.tables.exec = Jvm.exec) {x y : Int32} (hd : Dec c.code pc (.idiv) 1 pc') (hy : y ≠ 0) (k : Go p e below En (T.setTop (mkF m pc' Ls (.int (x / y) :: st)))) : Go p e below En (T.setTop (mkF m pc Ls (.int y :: .int x :: st))) := by
  obtain ⟨hd, rfl⟩ := hd
  exact own_via (fun t => XS.idiv X.here hx rfl hd rfl hy) k
theorem go_irem (X : Stand p l e R s m args below meth c T locs cells slots) (hx : p.tables.exec = Jvm.exec) {x y : Int32} (hd : Dec c.code pc (.irem) 1 pc') (hy : y ≠ 0) (k : Go p e below En (T.setTop (mkF m pc' Ls (.int (x % y) :: st)))) : Go p e below En (T.setTop (mkF m pc Ls (.int y :: .int x :: st))) := by
  obtain ⟨hd, rfl⟩ := hd
  exact own_via (fun t => iremM X hx rfl hd rfl hy) k
theorem go_ineg (X : Stand p l e R s m args below meth c T locs cells slots) (hx : p.tables.exec = Jvm.exec) {x : Int32} (hd : Dec c.code pc (.ineg) 1 pc') (k : Go p e below En (T.setTop (mkF m pc' Ls (.int (-x) :: st)))) : Go p e below En (T.setTop (mkF m pc Ls (.int x :: st))) := by
  obtain ⟨hd, rfl⟩ := hd
  exact own_via (fun t => XS.ineg X.here hx rfl hd rfl) k
theorem go_ladd (X : Stand p l e R s m args below meth c T locs cells slots) (hx : p.tables.exec = Jvm.exec) {x y : Int64} (hd : Dec c.code pc (.ladd) 1 pc') (k : Go p e below En (T.setTop (mkF m pc' Ls (.long (x + y) :: st)))) : Go p e below En (T.setTop (mkF m pc Ls (.long y :: .long x :: st))) := by
  obtain ⟨hd, rfl⟩ := hd
  exact own_via (fun t => XT.ladd X.here hx rfl hd rfl) k
theorem go_lsub (X : Stand p l e R s m args below meth c T locs cells slots) (hx : p.tables.exec = Jvm.exec) {x y : Int64} (hd : Dec c.code pc (.lsub) 1 pc') (k : Go p e below En (T.setTop (mkF m pc' Ls (.long (x - y) :: st)))) : Go p e below En (T.setTop (mkF m pc Ls (.long y :: .long x :: st))) := by
  obtain ⟨hd, rfl⟩ := hd
  exact own_via (fun t => XT.lsub X.here hx rfl hd rfl) k
theorem go_lmul (X : Stand p l e R s m args below meth c T locs cells slots) (hx : p.tables.exec = Jvm.exec) {x y : Int64} (hd : Dec c.code pc (.lmul) 1 pc') (k : Go p e below En (T.setTop (mkF m pc' Ls (.long (x * y) :: st)))) : Go p e below En (T.setTop (mkF m pc Ls (.long y :: .long x :: st))) := by
  obtain ⟨hd, rfl⟩ := hd
  exact own_via (fun t => XT.lmul X.here hx rfl hd rfl) k
theorem go_land (X : Stand p l e R s m args below meth c T locs cells slots) (hx : p.tables.exec = Jvm.exec) {x y : Int64} (hd : Dec c.code pc (.land) 1 pc') (k : Go p e below En (T.setTop (mkF m pc' Ls (.long (x &&& y) :: st)))) : Go p e below En (T.setTop (mkF m pc Ls (.long y :: .long x :: st))) := by
  obtain ⟨hd, rfl⟩ := hd
  exact own_via (fun t => XT.land X.here hx rfl hd rfl) k
theorem go_lor (X : Stand p l e R s m args below meth c T locs cells slots) (hx : p.tables.exec = Jvm.exec) {x y : Int64} (hd : Dec c.code pc (.lor) 1 pc') (k : Go p e below En (T.setTop (mkF m pc' Ls (.long (x ||| y) :: st)))) : Go p e below En (T.setTop (mkF m pc Ls (.long y :: .long x :: st))) := by
  obtain ⟨hd, rfl⟩ := hd
  exact own_via (fun t => XT.lor X.here hx rfl hd rfl) k
theorem go_lxor (X : Stand p l e R s m args below meth c T locs cells slots) (hx : p.tables.exec = Jvm.exec) {x y : Int64} (hd : Dec c.code pc (.lxor) 1 pc') (k : Go p e below En (T.setTop (mkF m pc' Ls (.long (x ^^^ y) :: st)))) : Go p e below En (T.setTop (mkF m pc Ls (.long y :: .long x :: st))) := by
  obtain ⟨hd, rfl⟩ := hd
  exact own_via (fun t => XT.lxor X.here hx rfl hd rfl) k
theorem go_lshl (X : Stand p l e R s m args below meth c T locs cells slots) (hx : p.tables.exec = Jvm.exec) {x : Int64} {y : Int32} (hd : Dec c.code pc (.lshl) 1 pc') (k : Go p e below En (T.setTop (mkF m pc' Ls (.long (x <<< (y.toInt64 &&& 63)) :: st)))) : Go p e below En (T.setTop (mkF m pc Ls (.int y :: .long x :: st))) := by
  obtain ⟨hd, rfl⟩ := hd
  exact own_via (fun t => XT.lshl X.here hx rfl hd rfl) k
theorem go_lshr (X : Stand p l e R s m args below meth c T locs cells slots) (hx : p.tables.exec = Jvm.exec) {x : Int64} {y : Int32} (hd : Dec c.code pc (.lshr) 1 pc') (k : Go p e below En (T.setTop (mkF m pc' Ls (.long (x >>> (y.toInt64 &&& 63)) :: st)))) : Go p e below En (T.setTop (mkF m pc Ls (.int y :: .long x :: st))) := by
  obtain ⟨hd, rfl⟩ := hd
  exact own_via (fun t => XT.lshr X.here hx rfl hd rfl) k
theorem go_lushr (X : Stand p l e R s m args below meth c T locs cells slots) (hx : p.tables.exec = Jvm.exec) {x : Int64} {y : Int32} (hd : Dec c.code pc (.lushr) 1 pc') (k : Go p e below En (T.setTop (mkF m pc' Ls (.long (XT.ushrL x y) :: st)))) : Go p e below En (T.setTop (mkF m pc Ls (.int y :: .long x :: st))) := by
  obtain ⟨hd, rfl⟩ := hd
  exact own_via (fun t => XT.lushr X.here hx rfl hd rfl) k
theorem go_ldiv (X : Stand p l e R s m args below meth c T locs cells slots) (hx : p.tables.exec = Jvm.exec) {x y : Int64} (hd : Dec c.code pc (.ldiv) 1 pc') (hy : y ≠ 0) (k : Go p e below En (T.setTop (mkF m pc' Ls (.long (x / y) :: st)))) : Go p e below En (T.setTop (mkF m pc Ls (.long y :: .long x :: st))) := by
  obtain ⟨hd, rfl⟩ := hd
  exact own_via (fun t => XT.ldiv X.here hx rfl hd rfl hy) k
theorem go_lrem (X : Stand p l e R s m args below meth c T locs cells slots) (hx : p.tables.exec = Jvm.exec) {x y : Int64} (hd : Dec c.code pc (.lrem) 1 pc') (hy : y ≠ 0) (k : Go p e below En (T.setTop (mkF m pc' Ls (.long (x - (x / y) * y) :: st)))) : Go p e below En (T.setTop (mkF m pc Ls (.long y :: .long x :: st))) := by
  obtain ⟨hd, rfl⟩ := hd
  exact own_via (fun t => XT.lrem X.here hx rfl hd rfl hy) k
theorem go_lneg (X : Stand p l e R s m args below meth c T locs cells slots) (hx : p.tables.exec = Jvm.exec) {x : Int64} (hd : Dec c.code pc (.lneg) 1 pc') (k : Go p e below En (T.setTop (mkF m pc' Ls (.long (-x) :: st)))) : Go p e below En (T.setTop (mkF m pc Ls (.long x :: st))) := by
  obtain ⟨hd, rfl⟩ := hd
  exact own_via (fun t => XT.lneg X.here hx rfl hd rfl) k
theorem go_lcmp (X : Stand p l e R s m args below meth c T locs cells slots) (hx : p.tables.exec = Jvm.exec) {x y : Int64} (hd : Dec c.code pc (.lcmp) 1 pc') (k : Go p e below En (T.setTop (mkF m pc' Ls (.int (XT.cmpL x y) :: st)))) : Go p e below En (T.setTop (mkF m pc Ls (.long y :: .long x :: st))) := by
  obtain ⟨hd, rfl⟩ := hd
  exact own_via (fun t => XT.lcmp X.here hx rfl hd rfl) k
theorem go_i2l (X : Stand p l e R s m args below meth c T locs cells slots) (hx : p.tables.exec = Jvm.exec) {x : Int32} (hd : Dec c.code pc (.i2l) 1 pc') (k : Go p e below En (T.setTop (mkF m pc' Ls (.long x.toInt64 :: st)))) : Go p e below En (T.setTop (mkF m pc Ls (.int x :: st))) := by
  obtain ⟨hd, rfl⟩ := hd
  exact own_via (fun t => XT.i2l X.here hx rfl hd rfl) k
theorem go_l2i (X : Stand p l e R s m args below meth c T locs cells slots) (hx : p.tables.exec = Jvm.exec) {x : Int64} (hd : Dec c.code pc (.l2i) 1 pc') (k : Go p e below En (T.setTop (mkF m pc' Ls (.int x.toInt32 :: st)))) : Go p e below En (T.setTop (mkF m pc Ls (.long x :: st))) := by
  obtain ⟨hd, rfl⟩ := hd
  exact own_via (fun t => XT.l2i X.here hx rfl hd rfl) k
theorem go_i2b (X : Stand p l e R s m args below meth c T locs cells slots) (hx : p.tables.exec = Jvm.exec) {x : Int32} (hd : Dec c.code pc (.i2b) 1 pc') (k : Go p e below En (T.setTop (mkF m pc' Ls (.int x.toInt8.toInt32 :: st)))) : Go p e below En (T.setTop (mkF m pc Ls (.int x :: st))) := by
  obtain ⟨hd, rfl⟩ := hd
  exact own_via (fun t => XT.i2b X.here hx rfl hd rfl) k
theorem go_i2c (X : Stand p l e R s m args below meth c T locs cells slots) (hx : p.tables.exec = Jvm.exec) {x : Int32} (hd : Dec c.code pc (.i2c) 1 pc') (k : Go p e below En (T.setTop (mkF m pc' Ls (.int x.toUInt32.toUInt16.toUInt32.toInt32 :: st)))) : Go p e below En (T.setTop (mkF m pc Ls (.int x :: st))) := by
  obtain ⟨hd, rfl⟩ := hd
  exact own_via (fun t => XT.i2c X.here hx rfl hd rfl) k
theorem go_i2s (X : Stand p l e R s m args below meth c T locs cells slots) (hx : p.tables.exec = Jvm.exec) {x : Int32} (hd : Dec c.code pc (.i2s) 1 pc') (k : Go p e below En (T.setTop (mkF m pc' Ls (.int x.toInt16.toInt32 :: st)))) : Go p e below En (T.setTop (mkF m pc Ls (.int x :: st))) := by
  obtain ⟨hd, rfl⟩ := hd
  exact own_via (fun t => XT.i2s X.here hx rfl hd rfl) k
theorem go_iloadn (X : Stand p l e R s m args below meth c T locs cells slots) (hx : p.tables.exec = Jvm.exec) {k : Fin 4} {v : Int32} (hd : Dec c.code pc (.iload_n k) 1 pc') (hl : Ls[k.val]? = some (.val (.int v))) (k : Go p e below En (T.setTop (mkF m pc' Ls (.int v :: st)))) : Go p e below En (T.setTop (mkF m pc Ls st)) := by
  obtain ⟨hd, rfl⟩ := hd
  exact own_via (fun t => XS.iloadN X.here hx rfl hd hl) k
theorem go_iload (X : Stand p l e R s m args below meth c T locs cells slots) (hx : p.tables.exec = Jvm.exec) {k : Nat} {v : Int32} (hd : Dec c.code pc (.iload k) 2 pc') (hl : Ls[k]? = some (.val (.int v))) (k : Go p e below En (T.setTop (mkF m pc' Ls (.int v :: st)))) : Go p e below En (T.setTop (mkF m pc Ls st)) := by
  obtain ⟨hd, rfl⟩ := hd
  exact own_via (fun t => XS.iload X.here hx rfl hd hl) k
theorem go_lloadn (X : Stand p l e R s m args below meth c T locs cells slots) (hx : p.tables.exec = Jvm.exec) {k : Fin 4} {v : Int64} (hd : Dec c.code pc (.lload_n k) 1 pc') (hl : Ls[k.val]? = some (.val (.long v))) (k : Go p e below En (T.setTop (mkF m pc' Ls (.long v :: st)))) : Go p e below En (T.setTop (mkF m pc Ls st)) := by
  obtain ⟨hd, rfl⟩ := hd
  exact own_via (fun t => XT.lloadN X.here hx rfl hd hl) k
theorem go_lload (X : Stand p l e R s m args below meth c T locs cells slots) (hx : p.tables.exec = Jvm.exec) {k : Nat} {v : Int64} (hd : Dec c.code pc (.lload k) 2 pc') (hl : Ls[k]? = some (.val (.long v))) (k : Go p e below En (T.setTop (mkF m pc' Ls (.long v :: st)))) : Go p e below En (T.setTop (mkF m pc Ls st)) := by
  obtain ⟨hd, rfl⟩ := hd
  exact own_via (fun t => XT.lload X.here hx rfl hd hl) k
theorem go_aloadn (X : Stand p l e R s m args below meth c T locs cells slots) (hx : p.tables.exec = Jvm.exec) {k : Fin 4} {v : Value} (hd : Dec c.code pc (.aload_n k) 1 pc') (hl : Ls[k.val]? = some (.val v)) (hv : v.isRef = true) (k : Go p e below En (T.setTop (mkF m pc' Ls (v :: st)))) : Go p e below En (T.setTop (mkF m pc Ls st)) := by
  obtain ⟨hd, rfl⟩ := hd
  exact own_via (fun t => XS.aloadN X.here hx rfl hd hl hv) k
theorem go_aload (X : Stand p l e R s m args below meth c T locs cells slots) (hx : p.tables.exec = Jvm.exec) {k : Nat} {v : Value} (hd : Dec c.code pc (.aload k) 2 pc') (hl : Ls[k]? = some (.val v)) (hv : v.isRef = true) (k : Go p e below En (T.setTop (mkF m pc' Ls (v :: st)))) : Go p e below En (T.setTop (mkF m pc Ls st)) := by
  obtain ⟨hd, rfl⟩ := hd
  exact own_via (fun t => XS.aload X.here hx rfl hd hl hv) k
theorem go_istoren (X : Stand p l e R s m args below meth c T locs cells slots) (hx : p.tables.exec = Jvm.exec) {k : Fin 4} {x : Int32} (Ls' : Array Slot) (hd : Dec c.code pc (.istore_n k) 1 pc') (hl : storeLocals Ls k.val (.int x) = some Ls') (k : Go p e below En (T.setTop (mkF m pc' Ls' st))) : Go p e below En (T.setTop (mkF m pc Ls (.int x :: st))) := by
  obtain ⟨hd, rfl⟩ := hd
  exact own_via (fun t => XS.istoreN X.here hx rfl hd rfl hl) k
theorem go_istore (X : Stand p l e R s m args below meth c T locs cells slots) (hx : p.tables.exec = Jvm.exec) {k : Nat} {x : Int32} (Ls' : Array Slot) (hd : Dec c.code pc (.istore k) 2 pc') (hl : storeLocals Ls k (.int x) = some Ls') (k : Go p e below En (T.setTop (mkF m pc' Ls' st))) : Go p e below En (T.setTop (mkF m pc Ls (.int x :: st))) := by
  obtain ⟨hd, rfl⟩ := hd
  exact own_via (fun t => XS.istore X.here hx rfl hd rfl hl) k
theorem go_lstoren (X : Stand p l e R s m args below meth c T locs cells slots) (hx : p.tables.exec = Jvm.exec) {k : Fin 4} {x : Int64} (Ls' : Array Slot) (hd : Dec c.code pc (.lstore_n k) 1 pc') (hl : storeLocals Ls k.val (.long x) = some Ls') (k : Go p e below En (T.setTop (mkF m pc' Ls' st))) : Go p e below En (T.setTop (mkF m pc Ls (.long x :: st))) := by
  obtain ⟨hd, rfl⟩ := hd
  exact own_via (fun t => XT.lstoreN X.here hx rfl hd rfl hl) k
theorem go_lstore (X : Stand p l e R s m args below meth c T locs cells slots) (hx : p.tables.exec = Jvm.exec) {k : Nat} {x : Int64} (Ls' : Array Slot) (hd : Dec c.code pc (.lstore k) 2 pc') (hl : storeLocals Ls k (.long x) = some Ls') (k : Go p e below En (T.setTop (mkF m pc' Ls' st))) : Go p e below En (T.setTop (mkF m pc Ls (.long x :: st))) := by
  obtain ⟨hd, rfl⟩ := hd
  exact own_via (fun t => XT.lstore X.here hx rfl hd rfl hl) k
theorem go_astoren (X : Stand p l e R s m args below meth c T locs cells slots) (hx : p.tables.exec = Jvm.exec) {k : Fin 4} {x : Value} (Ls' : Array Slot) (hd : Dec c.code pc (.astore_n k) 1 pc') (hv : x.isRef = true) (hl : storeLocals Ls k.val (x) = some Ls') (k : Go p e below En (T.setTop (mkF m pc' Ls' st))) : Go p e below En (T.setTop (mkF m pc Ls (x :: st))) := by
  obtain ⟨hd, rfl⟩ := hd
  exact own_via (fun t => XS.astoreN X.here hx rfl hd rfl hv hl) k
theorem go_astore (X : Stand p l e R s m args below meth c T locs cells slots) (hx : p.tables.exec = Jvm.exec) {k : Nat} {x : Value} (Ls' : Array Slot) (hd : Dec c.code pc (.astore k) 2 pc') (hv : x.isRef = true) (hl : storeLocals Ls k (x) = some Ls') (k : Go p e below En (T.setTop (mkF m pc' Ls' st))) : Go p e below En (T.setTop (mkF m pc Ls (x :: st))) := by
  obtain ⟨hd, rfl⟩ := hd
  exact own_via (fun t => XS.astore X.here hx rfl hd rfl hv hl) k
theorem go_iconst (X : Stand p l e R s m args below meth c T locs cells slots) (hx : p.tables.exec = Jvm.exec) {i : Int} (v : Int32) (hd : Dec c.code pc (.iconst i) 1 pc') (hv : Int32.ofInt i = v) (k : Go p e below En (T.setTop (mkF m pc' Ls (.int v :: st)))) : Go p e below En (T.setTop (mkF m pc Ls st)) := by
  obtain ⟨hd, rfl⟩ := hd
  exact own_via (fun t => (fun q => XS.iconst X.here hx rfl hd (by rw [hv]; exact q))) k
theorem go_bipush (X : Stand p l e R s m args below meth c T locs cells slots) (hx : p.tables.exec = Jvm.exec) {i : Int} (v : Int32) (hd : Dec c.code pc (.bipush i) 2 pc') (hv : (Int8.ofInt i).toInt32 = v) (k : Go p e below En (T.setTop (mkF m pc' Ls (.int v :: st)))) : Go p e below En (T.setTop (mkF m pc Ls st)) := by
  obtain ⟨hd, rfl⟩ := hd
  exact own_via (fun t => (fun q => XS.bipush X.here hx rfl hd (by rw [hv]; exact q))) k
theorem go_sipush (X : Stand p l e R s m args below meth c T locs cells slots) (hx : p.tables.exec = Jvm.exec) {i : Int} (v : Int32) (hd : Dec c.code pc (.sipush i) 3 pc') (hv : (Int16.ofInt i).toInt32 = v) (k : Go p e below En (T.setTop (mkF m pc' Ls (.int v :: st)))) : Go p e below En (T.setTop (mkF m pc Ls st)) := by
  obtain ⟨hd, rfl⟩ := hd
  exact own_via (fun t => (fun q => XS.sipush X.here hx rfl hd (by rw [hv]; exact q))) k
theorem go_lconst (X : Stand p l e R s m args below meth c T locs cells slots) (hx : p.tables.exec = Jvm.exec) {k : Fin 2} (v : Int64) (hd : Dec c.code pc (.lconst k) 1 pc') (hv : Int64.ofNat k = v) (k : Go p e below En (T.setTop (mkF m pc' Ls (.long v :: st)))) : Go p e below En (T.setTop (mkF m pc Ls st)) := by
  obtain ⟨hd, rfl⟩ := hd
  exact own_via (fun t => (fun q => XT.lconst X.here hx rfl hd (by rw [hv]; exact q))) k
theorem go_aconstnull (X : Stand p l e R s m args below meth c T locs cells slots) (hx : p.tables.exec = Jvm.exec)  (hd : Dec c.code pc (.aconst_null) 1 pc') (k : Go p e below En (T.setTop (mkF m pc' Ls (.null :: st)))) : Go p e below En (T.setTop (mkF m pc Ls st)) := by
  obtain ⟨hd, rfl⟩ := hd
  exact own_via (fun t => XS.aconstNull X.here hx rfl hd) k
theorem go_ldc (X : Stand p l e R s m args below meth c T locs cells slots) (hx : p.tables.exec = Jvm.exec) (hZ : Z.Warmed39 s.vm) {own : String} {index : Nat} {v : Int32} (hown : s.vm.findClass own = some m.cls) (w : (Jvm.Cond.constant own index v).before a0 Z = true) (hd : Dec c.code pc (.ldc index) 2 pc') (k : Go p e below En (T.setTop (mkF m pc' Ls (.int v :: st)))) : Go p e below En (T.setTop (mkF m pc Ls st)) := by
  obtain ⟨hd, rfl⟩ := hd
  exact own_via (fun t => X.ldcInt hx hown (mv hZ w) (g := mkF m pc Ls st) rfl hd t) k
theorem go_ldc2 (X : Stand p l e R s m args below meth c T locs cells slots) (hx : p.tables.exec = Jvm.exec) (hZ : Z.Warmed39 s.vm) {own : String} {index : Nat} {v : Int64} (hown : s.vm.findClass own = some m.cls) (w : (Jvm.Cond.constantLong own index v).before a0 Z = true) (hd : Dec c.code pc (.ldc2_w index) 3 pc') (k : Go p e below En (T.setTop (mkF m pc' Ls (.long v :: st)))) : Go p e below En (T.setTop (mkF m pc Ls st)) := by
  obtain ⟨hd, rfl⟩ := hd
  exact own_via (fun t => X.ldc2Long hx hown (mv hZ w) (g := mkF m pc Ls st) rfl hd t) k
theorem go_dup (X : Stand p l e R s m args below meth c T locs cells slots) (hx : p.tables.exec = Jvm.exec) {v : Value} (hd : Dec c.code pc (.dup) 1 pc') (hc : v.category = 1) (k : Go p e below En (T.setTop (mkF m pc' Ls (v :: v :: st)))) : Go p e below En (T.setTop (mkF m pc Ls (v :: st))) := by
  obtain ⟨hd, rfl⟩ := hd
  exact own_via (fun t => XS.dup X.here hx rfl hd rfl hc) k
theorem go_pop (X : Stand p l e R s m args below meth c T locs cells slots) (hx : p.tables.exec = Jvm.exec) {v : Value} (hd : Dec c.code pc (.pop) 1 pc') (hc : v.category = 1) (k : Go p e below En (T.setTop (mkF m pc' Ls st))) : Go p e below En (T.setTop (mkF m pc Ls (v :: st))) := by
  obtain ⟨hd, rfl⟩ := hd
  exact own_via (fun t => XT.pop X.here hx rfl hd rfl hc) k
theorem go_dupx1 (X : Stand p l e R s m args below meth c T locs cells slots) (hx : p.tables.exec = Jvm.exec) {v v' : Value} (hd : Dec c.code pc (.dup_x1) 1 pc') (hc : v.category = 1) (hc' : v'.category = 1) (k : Go p e below En (T.setTop (mkF m pc' Ls (v :: v' :: v :: st)))) : Go p e below En (T.setTop (mkF m pc Ls (v :: v' :: st))) := by
  obtain ⟨hd, rfl⟩ := hd
  exact own_via (fun t => XT.dupX1 X.here hx rfl hd rfl hc hc') k
theorem go_dup2L (X : Stand p l e R s m args below meth c T locs cells slots) (hx : p.tables.exec = Jvm.exec) {x : Int64} (hd : Dec c.code pc (.dup2) 1 pc') (k : Go p e below En (T.setTop (mkF m pc' Ls (.long x :: .long x :: st)))) : Go p e below En (T.setTop (mkF m pc Ls (.long x :: st))) := by
  obtain ⟨hd, rfl⟩ := hd
  exact own_via (fun t => XT.dup2L X.here hx rfl hd rfl) k
theorem go_dup2 (X : Stand p l e R s m args below meth c T locs cells slots) (hx : p.tables.exec = Jvm.exec) {v v' : Value} (hd : Dec c.code pc (.dup2) 1 pc') (hc : v.category = 1) (hc' : v'.category = 1) (k : Go p e below En (T.setTop (mkF m pc' Ls (v :: v' :: v :: v' :: st)))) : Go p e below En (T.setTop (mkF m pc Ls (v :: v' :: st))) := by
  obtain ⟨hd, rfl⟩ := hd
  exact own_via (fun t => XT.dup2 X.here hx rfl hd rfl hc hc') k
theorem go_iinc (X : Stand p l e R s m args below meth c T locs cells slots) (hx : p.tables.exec = Jvm.exec) {k : Nat} {cst : Int} {x : Int32} (Ls' : Array Slot) (hd : Dec c.code pc (.iinc k cst) 3 pc') (hl : Ls[k]? = some (.val (.int x))) (hl' : storeLocals Ls k (.int (x + Int32.ofInt cst)) = some Ls') (k : Go p e below En (T.setTop (mkF m pc' Ls' st))) : Go p e below En (T.setTop (mkF m pc Ls st)) := by
  obtain ⟨hd, rfl⟩ := hd
  exact own_via (fun t => XS.iinc X.here hx rfl hd hl hl') k
theorem go_goto (X : Stand p l e R s m args below meth c T locs cells slots) (hx : p.tables.exec = Jvm.exec) {o : Int} (hd : DecB c.code pc (.goto o) o pc' pt) (k : Go p e below En (T.setTop (mkF m pt Ls st))) : Go p e below En (T.setTop (mkF m pc Ls st)) := own_via (fun t => XS.goto X.here hx rfl rfl hd.1 hd.2.2.1 hd.2.2.2) k
theorem go_icmp (X : Stand p l e R s m args below meth c T locs cells slots) (hx : p.tables.exec = Jvm.exec) {cd : ClassFile.Cond} {x y : Int32} {o : Int} (hd : DecB c.code pc (.if_icmp cd o) o pc' pt) (kT : if_icmp.holds cd x y = true → Go p e below En (T.setTop (mkF m pt Ls st))) (kF : if_icmp.holds cd x y = false → Go p e below En (T.setTop (mkF m pc' Ls st))) : Go p e below En (T.setTop (mkF m pc Ls (.int y :: .int x :: st))) := by
  obtain ⟨h1, rfl, h3, h4⟩ := hd
  cases q : if_icmp.holds cd x y
  · exact own_via (fun t => XS.icmpNo X.here hx rfl h1 rfl q) (kF q)
  · exact own_via (fun t => XS.icmpYes X.here hx rfl rfl h1 rfl q h3 h4) (kT q)
theorem go_ifc (X : Stand p l e R s m args below meth c T locs cells slots) (hx : p.tables.exec = Jvm.exec) {cd : ClassFile.Cond} {x : Int32} {o : Int} (hd : DecB c.code pc (.ifCond cd o) o pc' pt) (kT : if_icmp.holds cd x 0 = true → Go p e below En (T.setTop (mkF m pt Ls st))) (kF : if_icmp.holds cd x 0 = false → Go p e below En (T.setTop (mkF m pc' Ls st))) : Go p e below En (T.setTop (mkF m pc Ls (.int x :: st))) := by
  obtain ⟨h1, rfl, h3, h4⟩ := hd
  cases q : if_icmp.holds cd x 0
  · exact own_via (fun t => XS.ifNo X.here hx rfl h1 rfl ((if0 cd x).trans q)) (kF q)
  · exact own_via (fun t => XS.ifYes X.here hx rfl rfl h1 rfl ((if0 cd x).trans q) h3 h4) (kT q)
theorem go_icmp_eq (X : Stand p l e R s m args below meth c T locs cells slots) (hx : p.tables.exec = Jvm.exec) {x y : Int32} {o : Int} (hd : DecB c.code pc (.if_icmp .eq o) o pc' pt) (kT : x = y → Go p e below En (T.setTop (mkF m pt Ls st))) (kF : ¬ x = y → Go p e below En (T.setTop (mkF m pc' Ls st))) : Go p e below En (T.setTop (mkF m pc Ls (.int y :: .int x :: st))) := by
  by_cases q : x = y
  · exact go_icmp X hx hd (fun _ => kT q) (fun r => absurd r (by rw [(teq q).1]; decide))
  · exact go_icmp X hx hd (fun r => absurd r (by rw [(feq q).1]; decide)) (fun _ => kF q)
theorem go_ifc_eq (X : Stand p l e R s m args below meth c T locs cells slots) (hx : p.tables.exec = Jvm.exec) {x : Int32} {o : Int} (hd : DecB c.code pc (.ifCond .eq o) o pc' pt) (kT : x = 0 → Go p e below En (T.setTop (mkF m pt Ls st))) (kF : ¬ x = 0 → Go p e below En (T.setTop (mkF m pc' Ls st))) : Go p e below En (T.setTop (mkF m pc Ls (.int x :: st))) := by
  by_cases q : x = 0
  · exact go_ifc X hx hd (fun _ => kT q) (fun r => absurd r (by rw [(teq q).1]; decide))
  · exact go_ifc X hx hd (fun r => absurd r (by rw [(feq q).1]; decide)) (fun _ => kF q)
theorem go_icmp_ne (X : Stand p l e R s m args below meth c T locs cells slots) (hx : p.tables.exec = Jvm.exec) {x y : Int32} {o : Int} (hd : DecB c.code pc (.if_icmp .ne o) o pc' pt) (kT : ¬ x = y → Go p e below En (T.setTop (mkF m pt Ls st))) (kF : x = y → Go p e below En (T.setTop (mkF m pc' Ls st))) : Go p e below En (T.setTop (mkF m pc Ls (.int y :: .int x :: st))) := by
  by_cases q : x = y
  · exact go_icmp X hx hd (fun r => absurd r (by rw [(teq q).2]; decide)) (fun _ => kF q)
  · exact go_icmp X hx hd (fun _ => kT q) (fun r => absurd r (by rw [(feq q).2]; decide))
theorem go_ifc_ne (X : Stand p l e R s m args below meth c T locs cells slots) (hx : p.tables.exec = Jvm.exec) {x : Int32} {o : Int} (hd : DecB c.code pc (.ifCond .ne o) o pc' pt) (kT : ¬ x = 0 → Go p e below En (T.setTop (mkF m pt Ls st))) (kF : x = 0 → Go p e below En (T.setTop (mkF m pc' Ls st))) : Go p e below En (T.setTop (mkF m pc Ls (.int x :: st))) := by
  by_cases q : x = 0
  · exact go_ifc X hx hd (fun r => absurd r (by rw [(teq q).2]; decide)) (fun _ => kF q)
  · exact go_ifc X hx hd (fun _ => kT q) (fun r => absurd r (by rw [(feq q).2]; decide))
theorem go_icmp_lt (X : Stand p l e R s m args below meth c T locs cells slots) (hx : p.tables.exec = Jvm.exec) {x y : Int32} {o : Int} (hd : DecB c.code pc (.if_icmp .lt o) o pc' pt) (kT : x < y → Go p e below En (T.setTop (mkF m pt Ls st))) (kF : ¬ x < y → Go p e below En (T.setTop (mkF m pc' Ls st))) : Go p e below En (T.setTop (mkF m pc Ls (.int y :: .int x :: st))) := by
  by_cases q : x < y
  · exact go_icmp X hx hd (fun _ => kT q) (fun r => absurd r (by rw [(tlt q).1]; decide))
  · exact go_icmp X hx hd (fun r => absurd r (by rw [(flt q).1]; decide)) (fun _ => kF q)
theorem go_ifc_lt (X : Stand p l e R s m args below meth c T locs cells slots) (hx : p.tables.exec = Jvm.exec) {x : Int32} {o : Int} (hd : DecB c.code pc (.ifCond .lt o) o pc' pt) (kT : x < 0 → Go p e below En (T.setTop (mkF m pt Ls st))) (kF : ¬ x < 0 → Go p e below En (T.setTop (mkF m pc' Ls st))) : Go p e below En (T.setTop (mkF m pc Ls (.int x :: st))) := by
  by_cases q : x < 0
  · exact go_ifc X hx hd (fun _ => kT q) (fun r => absurd r (by rw [(tlt q).1]; decide))
  · exact go_ifc X hx hd (fun r => absurd r (by rw [(flt q).1]; decide)) (fun _ => kF q)
theorem go_icmp_ge (X : Stand p l e R s m args below meth c T locs cells slots) (hx : p.tables.exec = Jvm.exec) {x y : Int32} {o : Int} (hd : DecB c.code pc (.if_icmp .ge o) o pc' pt) (kT : ¬ x < y → Go p e below En (T.setTop (mkF m pt Ls st))) (kF : x < y → Go p e below En (T.setTop (mkF m pc' Ls st))) : Go p e below En (T.setTop (mkF m pc Ls (.int y :: .int x :: st))) := by
  by_cases q : x < y
  · exact go_icmp X hx hd (fun r => absurd r (by rw [(tlt q).2.1]; decide)) (fun _ => kF q)
  · exact go_icmp X hx hd (fun _ => kT q) (fun r => absurd r (by rw [(flt q).2.1]; decide))
theorem go_ifc_ge (X : Stand p l e R s m args below meth c T locs cells slots) (hx : p.tables.exec = Jvm.exec) {x : Int32} {o : Int} (hd : DecB c.code pc (.ifCond .ge o) o pc' pt) (kT : ¬ x < 0 → Go p e below En (T.setTop (mkF m pt Ls st))) (kF : x < 0 → Go p e below En (T.setTop (mkF m pc' Ls st))) : Go p e below En (T.setTop (mkF m pc Ls (.int x :: st))) := by
  by_cases q : x < 0
  · exact go_ifc X hx hd (fun r => absurd r (by rw [(tlt q).2.1]; decide)) (fun _ => kF q)
  · exact go_ifc X hx hd (fun _ => kT q) (fun r => absurd r (by rw [(flt q).2.1]; decide))
theorem go_icmp_gt (X : Stand p l e R s m args below meth c T locs cells slots) (hx : p.tables.exec = Jvm.exec) {x y : Int32} {o : Int} (hd : DecB c.code pc (.if_icmp .gt o) o pc' pt) (kT : y < x → Go p e below En (T.setTop (mkF m pt Ls st))) (kF : ¬ y < x → Go p e below En (T.setTop (mkF m pc' Ls st))) : Go p e below En (T.setTop (mkF m pc Ls (.int y :: .int x :: st))) := by
  by_cases q : y < x
  · exact go_icmp X hx hd (fun _ => kT q) (fun r => absurd r (by rw [(tlt q).2.2.1]; decide))
  · exact go_icmp X hx hd (fun r => absurd r (by rw [(flt q).2.2.1]; decide)) (fun _ => kF q)
theorem go_ifc_gt (X : Stand p l e R s m args below meth c T locs cells slots) (hx : p.tables.exec = Jvm.exec) {x : Int32} {o : Int} (hd : DecB c.code pc (.ifCond .gt o) o pc' pt) (kT : 0 < x → Go p e below En (T.setTop (mkF m pt Ls st))) (kF : ¬ 0 < x → Go p e below En (T.setTop (mkF m pc' Ls st))) : Go p e below En (T.setTop (mkF m pc Ls (.int x :: st))) := by
  by_cases q : 0 < x
  · exact go_ifc X hx hd (fun _ => kT q) (fun r => absurd r (by rw [(tlt q).2.2.1]; decide))
  · exact go_ifc X hx hd (fun r => absurd r (by rw [(flt q).2.2.1]; decide)) (fun _ => kF q)
theorem go_icmp_le (X : Stand p l e R s m args below meth c T locs cells slots) (hx : p.tables.exec = Jvm.exec) {x y : Int32} {o : Int} (hd : DecB c.code pc (.if_icmp .le o) o pc' pt) (kT : ¬ y < x → Go p e below En (T.setTop (mkF m pt Ls st))) (kF : y < x → Go p e below En (T.setTop (mkF m pc' Ls st))) : Go p e below En (T.setTop (mkF m pc Ls (.int y :: .int x :: st))) := by
  by_cases q : y < x
  · exact go_icmp X hx hd (fun r => absurd r (by rw [(tlt q).2.2.2]; decide)) (fun _ => kF q)
  · exact go_icmp X hx hd (fun _ => kT q) (fun r => absurd r (by rw [(flt q).2.2.2]; decide))
theorem go_ifc_le (X : Stand p l e R s m args below meth c T locs cells slots) (hx : p.tables.exec = Jvm.exec) {x : Int32} {o : Int} (hd : DecB c.code pc (.ifCond .le o) o pc' pt) (kT : ¬ 0 < x → Go p e below En (T.setTop (mkF m pt Ls st))) (kF : 0 < x → Go p e below En (T.setTop (mkF m pc' Ls st))) : Go p e below En (T.setTop (mkF m pc Ls (.int x :: st))) := by
  by_cases q : 0 < x
  · exact go_ifc X hx hd (fun r => absurd r (by rw [(tlt q).2.2.2]; decide)) (fun _ => kF q)
  · exact go_ifc X hx hd (fun _ => kT q) (fun r => absurd r (by rw [(flt q).2.2.2]; decide))
theorem go_ifnullY (X : Stand p l e R s m args below meth c T locs cells slots) (hx : p.tables.exec = Jvm.exec) {o : Int} (hd : DecB c.code pc (.ifnull o) o pc' pt) (k : Go p e below En (T.setTop (mkF m pt Ls st))) : Go p e below En (T.setTop (mkF m pc Ls (.null :: st))) := own_via (fun t => XS.ifnullYes X.here hx rfl rfl hd.1 rfl hd.2.2.1 hd.2.2.2) k
theorem go_ifnullN (X : Stand p l e R s m args below meth c T locs cells slots) (hx : p.tables.exec = Jvm.exec) {o : Int} {a : Addr} (hd : DecB c.code pc (.ifnull o) o pc' pt) (k : Go p e below En (T.setTop (mkF m pc' Ls st))) : Go p e below En (T.setTop (mkF m pc Ls (.ref a :: st))) := by
  obtain ⟨h1, rfl, h3, h4⟩ := hd
  exact own_via (fun t => XS.ifnullNo X.here hx rfl h1 rfl) k
theorem go_ifnonnullY (X : Stand p l e R s m args below meth c T locs cells slots) (hx : p.tables.exec = Jvm.exec) {o : Int} {a : Addr} (hd : DecB c.code pc (.ifnonnull o) o pc' pt) (k : Go p e below En (T.setTop (mkF m pt Ls st))) : Go p e below En (T.setTop (mkF m pc Ls (.ref a :: st))) := own_via (fun t => XT.ifnonnullYes X.here hx rfl rfl hd.1 rfl hd.2.2.1 hd.2.2.2) k
theorem go_ifnonnullN (X : Stand p l e R s m args below meth c T locs cells slots) (hx : p.tables.exec = Jvm.exec) {o : Int} (hd : DecB c.code pc (.ifnonnull o) o pc' pt) (k : Go p e below En (T.setTop (mkF m pc' Ls st))) : Go p e below En (T.setTop (mkF m pc Ls (.null :: st))) := by
  obtain ⟨h1, rfl, h3, h4⟩ := hd
  exact own_via (fun t => XT.ifnonnullNo X.here hx rfl h1 rfl) k
theorem go_acmp_eq (X : Stand p l e R s m args below meth c T locs cells slots) (hx : p.tables.exec = Jvm.exec) {x y : Value} (hx' : x.isRef = true) (hy' : y.isRef = true) {o : Int} (hd : DecB c.code pc (.if_acmp .eq o) o pc' pt) (kT : x = y → Go p e below En (T.setTop (mkF m pt Ls st))) (kF : ¬ x = y → Go p e below En (T.setTop (mkF m pc' Ls st))) : Go p e below En (T.setTop (mkF m pc Ls (y :: x :: st))) := by
  obtain ⟨h1, rfl, h3, h4⟩ := hd
  by_cases q : x = y
  · exact own_via (fun t => XT.acmpYes X.here hx rfl rfl h1 rfl hx' hy' (by simp [XT.acmp, q]) h3 h4) (kT q)
  · exact own_via (fun t => XT.acmpNo X.here hx rfl h1 rfl hx' hy' (by simp [XT.acmp, q])) (kF q)
theorem go_acmp_ne (X : Stand p l e R s m args below meth c T locs cells slots) (hx : p.tables.exec = Jvm.exec) {x y : Value} (hx' : x.isRef = true) (hy' : y.isRef = true) {o : Int} (hd : DecB c.code pc (.if_acmp .ne o) o pc' pt) (kT : ¬ x = y → Go p e below En (T.setTop (mkF m pt Ls st))) (kF : x = y → Go p e below En (T.setTop (mkF m pc' Ls st))) : Go p e below En (T.setTop (mkF m pc Ls (y :: x :: st))) := by
  obtain ⟨h1, rfl, h3, h4⟩ := hd
  by_cases q : x = y
  · exact own_via (fun t => XT.acmpNo X.here hx rfl h1 rfl hx' hy' (by simp [XT.acmp, q])) (kF q)
  · exact own_via (fun t => XT.acmpYes X.here hx rfl rfl h1 rfl hx' hy' (by simp [XT.acmp, q]) h3 h4) (kT q)
theorem go_retN (X : Stand p l e R s m args below meth c T locs cells slots) (hx : p.tables.exec = Jvm.exec) {z : Int32} {t : FieldType} (hret : meth.sig.returnType = some t) (ht : t = .boolean ∨ t = .byte ∨ t = .char ∨ t = .short) (hd : Dec c.code pc .ireturn 1 pc') (hk : meth.locks = false) (hc : cells ≤ rc) (hs : slots ≤ rs) (hQ : Q (some (.int (nar t z))) T.heap locs) : Go p e below (EndN s Q rc rs) (T.setTop (mkF m pc Ls (.int z :: st))) := by
  obtain ⟨fs, hr, hrun, hended, hW, hsame⟩ := X.leave (v := (some (.int (nar t z)))) (fun q => by first | rfl | (rw [hret] at q; cases q)) hk
  exact ⟨_, _, retN X hx hret ht hd.1 hr, hrun, hended, _, _, rfl, hQ, ⟨_, rfl⟩, hW, hsame.mono hc hs⟩
theorem go_retI (X : Stand p l e R s m args below meth c T locs cells slots) (hx : p.tables.exec = Jvm.exec) {z : Int32} (hret : meth.sig.returnType = some .int) (hd : Dec c.code pc .ireturn 1 pc') (hk : meth.locks = false) (hc : cells ≤ rc) (hs : slots ≤ rs) (hQ : Q (some (.int z)) T.heap locs) : Go p e below (EndN s Q rc rs) (T.setTop (mkF m pc Ls (.int z :: st))) := by
  obtain ⟨fs, hr, hrun, hended, hW, hsame⟩ := X.leave (v := (some (.int z))) (fun q => by first | rfl | (rw [hret] at q; cases q)) hk
  exact ⟨_, _, retOut X hx hret rfl (Or.inl ⟨rfl, Or.inl rfl, _, rfl⟩) hd.1 hr, hrun, hended, _, _, rfl, hQ, ⟨_, rfl⟩, hW, hsame.mono hc hs⟩
theorem go_retJ (X : Stand p l e R s m args below meth c T locs cells slots) (hx : p.tables.exec = Jvm.exec) {z : Int64} (hret : meth.sig.returnType = some .long) (hd : Dec c.code pc .lreturn 1 pc') (hk : meth.locks = false) (hc : cells ≤ rc) (hs : slots ≤ rs) (hQ : Q (some (.long z)) T.heap locs) : Go p e below (EndN s Q rc rs) (T.setTop (mkF m pc Ls (.long z :: st))) := by
  obtain ⟨fs, hr, hrun, hended, hW, hsame⟩ := X.leave (v := (some (.long z))) (fun q => by first | rfl | (rw [hret] at q; cases q)) hk
  exact ⟨_, _, retOut X hx hret rfl (Or.inr (Or.inl ⟨rfl, rfl, _, rfl⟩)) hd.1 hr, hrun, hended, _, _, rfl, hQ, ⟨_, rfl⟩, hW, hsame.mono hc hs⟩
theorem go_retA (X : Stand p l e R s m args below meth c T locs cells slots) (hx : p.tables.exec = Jvm.exec) {v : Value} {t : FieldType} (hret : meth.sig.returnType = some t) (ht : t.isReference = true) (hv : v.isRef = true) (hd : Dec c.code pc .areturn 1 pc') (hk : meth.locks = false) (hc : cells ≤ rc) (hs : slots ≤ rs) (hQ : Q (some v) T.heap locs) : Go p e below (EndN s Q rc rs) (T.setTop (mkF m pc Ls (v :: st))) := by
  obtain ⟨fs, hr, hrun, hended, hW, hsame⟩ := X.leave (v := (some v)) (fun q => by first | rfl | (rw [hret] at q; cases q)) hk
  exact ⟨_, _, retOut X hx hret (by cases t <;> first | rfl | cases ht) (Or.inr (Or.inr (Or.inr (Or.inr ⟨rfl, ht, hv⟩)))) hd.1 hr, hrun, hended, _, _, rfl, hQ, ⟨_, rfl⟩, hW, hsame.mono hc hs⟩
theorem go_retV (X : Stand p l e R s m args below meth c T locs cells slots) (hx : p.tables.exec = Jvm.exec)  (hret : meth.sig.returnType = none) (hd : Dec c.code pc .return_ 1 pc') (hk : meth.locks = false) (hc : cells ≤ rc) (hs : slots ≤ rs) (hQ : Q none T.heap locs) : Go p e below (EndN s Q rc rs) (T.setTop (mkF m pc Ls [])) := by
  obtain ⟨fs, hr, hrun, hended, hW, hsame⟩ := X.leave (v := none) (fun q => by first | rfl | (rw [hret] at q; cases q)) hk
  exact ⟨_, _, X.returnOut hx hret hd.1 hr, hrun, hended, _, _, rfl, hQ, ⟨_, rfl⟩, hW, hsame.mono hc hs⟩
theorem go_getF (X : Stand p l e R s m args below meth c T locs cells slots) (hx : p.tables.exec = Jvm.exec) (hZ : Z.Warmed39 s.vm) {own R0 O n d host : String} {index : Nat} (hown : s.vm.findClass own = some m.cls) (w : (Jvm.Cond.fieldLink own index R0 n d).before a0 Z = true ∨ (Jvm.Cond.fieldLinkNest own index R0 n d host).before a0 Z = true) (via : Via Z R0 O n d) (eT : T.heap = h) {a : Addr} {v : Value} (F : Fld Z h a O n d v) (hd : Dec c.code pc (.getfield index) 3 pc') (k : ∀ T', Stand p l e R s m args below meth c T' locs cells slots → T'.heap = h → Go p e below En (T'.setTop (mkF m pc' Ls (v :: st)))) : Go p e below En (T.setTop (mkF m pc Ls (.ref a :: st))) := by
  obtain ⟨hd, rfl⟩ := hd
  obtain ⟨T', X', e', q⟩ := getF X hx hZ hown w via eT F (g := mkF m pc Ls (.ref a :: st)) rfl rfl hd
  exact own_via q (k T' X' e')
theorem go_putF (X : Stand p l e R s m args below meth c T locs cells slots) (hx : p.tables.exec = Jvm.exec) (hZ : Z.Warmed39 s.vm) {own R0 O n d host C : String} {index kk : Nat} {ty : FieldType} (hown : s.vm.findClass own = some m.cls) (w : (Jvm.Cond.fieldLink own index R0 n d).before a0 Z = true ∨ (Jvm.Cond.fieldLinkNest own index R0 n d host).before a0 Z = true) (via : Via Z R0 O n d) (eT : T.heap = h) {a : Addr} {v old : Value} (F : Fld Z h a O n d old) (E : Exa Z h a C) (L : (Jvm.Cond.lays C O n d).before a0 Z = true ∨ ((Jvm.Cond.laysFinal C O n d).before a0 Z = true ∧ own = O ∧ meth.name = "<init>")) (wi : (Jvm.Cond.instantiable C kk).before a0 Z = true) (hty : parseFieldDescriptor d = some ty) (hn : narrow ty v = v) (hf : fits ty v = true) (hd : Dec c.code pc (.putfield index) 3 pc') (k : ∀ T' h', Stand p l e R s m args below meth c T' (locs ++ [⟨a, Jvm.RoadKit.slotOf Z O n d⟩]) cells slots → T'.heap = h' → Wr h h' a (Jvm.RoadKit.slotOf Z O n d) v → Go p e below En (T'.setTop (mkF m pc' Ls st))) : Go p e below En (T.setTop (mkF m pc Ls (v :: .ref a :: st))) := by
  obtain ⟨hd, rfl⟩ := hd
  obtain ⟨T', h', X', e', W, q⟩ := putF X hx hZ hown w via eT F E L wi hty hn hf (g := mkF m pc Ls (v :: .ref a :: st)) rfl rfl hd
  exact own_via q (k T' h' X' e' W)
theorem go_getS (X : Stand p l e R s m args below meth c T locs cells slots) (hx : p.tables.exec = Jvm.exec) (hZ : Z.Warmed39 s.vm) {own R0 O n d host : String} {index : Nat} (hown : s.vm.findClass own = some m.cls) (w : (Jvm.Cond.fieldLink own index R0 n d).before a0 Z = true) (via : Via Z R0 O n d) (eT : T.heap = h) {v : Value} (F : Sta Z h O n d v) (hd : Dec c.code pc (.getstatic index) 3 pc') (k : ∀ T', Stand p l e R s m args below meth c T' locs cells slots → T'.heap = h → Go p e below En (T'.setTop (mkF m pc' Ls (v :: st)))) : Go p e below En (T.setTop (mkF m pc Ls st)) := by
  obtain ⟨hd, rfl⟩ := hd
  obtain ⟨T', X', e', q⟩ := getS (host := "") X hx hZ hown w via eT F (g := mkF m pc Ls st) rfl hd
  exact own_via q (k T' X' e')
theorem go_newO (X : Stand p l e R s m args below meth c T locs cells slots) (hx : p.tables.exec = Jvm.exec) (hZ : Z.Warmed39 s.vm) {own C : String} {index n : Nat} (hown : s.vm.findClass own = some m.cls) (w : (Jvm.Cond.classLink own index C).before a0 Z = true) (wi : (Jvm.Cond.instantiable C n).before a0 Z = true) (wz : (Jvm.Cond.initialized C).before a0 Z = true) (eT : T.heap = h) (hd : Dec c.code pc (.new index) 3 pc') (hc : cells + 1 ≤ R.cells) (hl : slots + n ≤ R.slots) (k : ∀ T' h' (a : Addr), a = h.size → Stand p l e R s m args below meth c T' locs (cells + 1) (slots + n) → T'.heap = h' → Ext h h' → Exa Z h' a C → (∀ {O nm d : String} {ty : FieldType}, Laid Z a0 C O nm d → parseFieldDescriptor d = some ty → Fld Z h' a O nm d (defaultValue ty)) → Go p e below En (T'.setTop (mkF m pc' Ls (.ref a :: st)))) : Go p e below En (T.setTop (mkF m pc Ls st)) := by
  obtain ⟨hd, rfl⟩ := hd
  obtain ⟨T', h', X', e', E, A, D, -, q⟩ := newO X hx hZ hown w wi wz eT (g := mkF m pc Ls st) rfl hd hc hl
  exact own_via q (k T' h' _ rfl X' e' E A D)
theorem go_newP (X : Stand p l e R s m args below meth c T locs cells slots) (hx : p.tables.exec = Jvm.exec) (hZ : Z.Warmed39 s.vm) {aty : ArrayType} (w : (Jvm.Cond.arrayClass (newarray.typeOf aty)).before a0 Z = true) (eT : T.heap = h) (hd : Dec c.code pc (.newarray aty) 2 pc') {n : Int32} (hn : ¬ n < 0) (cap : Nat) (hcap : n.toNatClampNeg ≤ cap) (hb : cap * 8 ≤ 536870912) (hc : cells + 1 ≤ R.cells) (hl : slots + cap ≤ R.slots) (k : ∀ T' h' cA (a : Addr), a = h.size → Stand p l e R s m args below meth c T' locs (cells + 1) (slots + cap) → T'.heap = h' → Ext h h' → Arr Z h' a (newA cA (newarray.typeOf aty) n) (newarray.typeOf aty) → Go p e below En (T'.setTop (mkF m pc' Ls (.ref a :: st)))) : Go p e below En (T.setTop (mkF m pc Ls (.int n :: st))) := by
  obtain ⟨hd, rfl⟩ := hd
  obtain ⟨T', h', cA, X', e', E, A, q⟩ := newP X hx hZ w eT (g := mkF m pc Ls (.int n :: st)) rfl hd rfl hn hcap hb hc hl
  exact own_via q (k T' h' cA _ rfl X' e' E A)
theorem go_initO (X : Stand p l e R s m args below meth c T locs cells slots) (hx : p.tables.exec = Jvm.exec) (hZ : Z.Warmed39 s.vm) {own : String} {idx : Nat} (hown : s.vm.findClass own = some m.cls) (w1 : (Jvm.Cond.methodLink own idx Lib.objectInit).before a0 Z = true) (w2 : (Jvm.Cond.instanceMethod Lib.objectInit).before a0 Z = true) (w3 : (Jvm.Cond.code Lib.objectInit object_method_1_code 1 none).before a0 Z = true) (eT : T.heap = h) (hsize : Ls.size = c.maxLocals) {a : Addr} (hd : Dec c.code pc (.invokespecial idx) 3 pc') (hf : 1 ≤ R.frames) (W : Nat) (hW : (st.map fun v => v.category).sum ≤ W) (hl : W + 12 ≤ R.locals) (k : ∀ T', Stand p l e R s m args below meth c T' locs cells slots → T'.heap = h → Go p e below En (T'.setTop (mkF m pc' Ls st))) : Go p e below En (T.setTop (mkF m pc Ls (.ref a :: st))) := by
  obtain ⟨hd, rfl⟩ := hd
  obtain ⟨T', X', e', q⟩ := initO X hx hZ hown w1 w2 w3 eT (g := mkF m pc Ls (.ref a :: st)) rfl hsize rfl hd hf (W := W) (by show 2 * 0 + _ ≤ _; omega) hl
  exact own_via q (k T' X' e')
def Ct (l : Launch) (Z : State) (y : MethodName) (bytes : ByteArray) (maxL : Nat) (ret : Option FieldType) (ws : List Jvm.Cond) (rm : Room) (as' : Array Value) (h0 : Heap) (Q : Option Value → Heap → List Loc → Prop) : Prop := MetFree l y (head1 (Jvm.Cond.code y bytes maxL ret :: ws) rm) (fun a U => a = as' ∧ Z.Warmed39 U.vm ∧ U.heap = h0) (fun _ _ _ _ _ => True) (fun _ U o U' => ∃ v L, o = .returned v ∧ Q v U'.heap L ∧ FrameEnd U o U' L rm.cells rm.slots)
theorem Ct.of {y : MethodName} {bytes : ByteArray} {maxL : Nat} {ret : Option FieldType} {ws : List Jvm.Cond} {rm : Room} {as' : Array Value} {h0 : Heap} (pn : plainFor y = true) (F0 : Array Slot) (ef : ∀ m, entryFrame m as' maxL = mkF m 0 F0 []) (body : ∀ (p : Program) (e : Env) (s : State) (m : MethodId) (below : List Frame) (meth : Method) (c : Code) (T : State), p.tables.exec = Jvm.exec → c.code = bytes → c.maxLocals = maxL → Z.Warmed39 s.vm → s.vm.findClass y.cls = some m.cls → meth.name = y.name → meth.sig.returnType = ret → meth.locks = false → T.heap = h0 → Stand p l e rm s m as' below meth c T [] 0 0 → Go p e below (EndN s Q rm.cells rm.slots) (T.setTop (mkF m 0 F0 []))) : Ct l Z y bytes maxL ret ws rm as' h0 Q := by
  refine MetFree.of_bodySF pn hisR ?_
  intro p e s m args below meth c s₁ Bd hml0 hP hK
  obtain ⟨rfl, hZ, hh⟩ := hP
  have G := body p e s m below meth c s₁ Bd.exec Bd.bytes hml0 hZ (findClass_of_methodNamed Bd.named) (name_of_methodNamed Bd.named Bd.method).1 Bd.returns Bd.notSynchronized (by rw [← hh, Bd.state]; rfl) (Stand.of_body Bd)
  rw [← ef m] at G
  exact G
theorem go_static (X : Stand p l e R s m args below meth c T locs cells slots) (hx : p.tables.exec = Jvm.exec) (hZ : Z.Warmed39 s.vm) {own : String} {index : Nat} {y : MethodName} {bytes : ByteArray} {maxL : Nat} {ret : Option FieldType} (hown : s.vm.findClass own = some m.cls) (w1 : (Jvm.Cond.methodLink own index y).before a0 Z = true) (w2 : (Jvm.Cond.static y).before a0 Z = true) (w3 : (Jvm.Cond.initialized y.cls).before a0 Z = true) (w4 : (Jvm.Cond.code y bytes maxL ret).before a0 Z = true) (hy : y.cls ≠ "java/lang/invoke/MethodHandle" ∧ y.cls ≠ "java/lang/invoke/VarHandle") (eT : T.heap = h) {rm : Room} (argsL rest : List Value) {Qc : Option Value → Heap → List Loc → Prop} (hC : Ct l Z y bytes maxL ret [] rm argsL.toArray h Qc) {ps : List FieldType} {rt : Option FieldType} (pd : parseMethodDescriptor y.desc = some ⟨ps, rt⟩) (hl : argsL.length = ps.length) (hsize : Ls.size = c.maxLocals) {stk : List Value} (hstk : stk = argsL.reverse ++ rest) (W : Nat) (hW : (rest.map fun v => v.category).sum ≤ W) (hf : rm.frames + 1 ≤ R.frames) (hlo : W + (maxL + 11) + rm.locals ≤ R.locals) (hce : cells + rm.cells ≤ R.cells) (hsl : slots + rm.slots ≤ R.slots) (hd : Dec c.code pc (.invokestatic index) 3 pc') (k : ∀ T' v L, Stand p l e R s m args below meth c T' (locs ++ L) (cells + rm.cells) (slots + rm.slots) → Qc v T'.heap L → Go p e below En (T'.setTop (mkF m pc' Ls (v.toList ++ rest)))) : Go p e below En (T.setTop (mkF m pc Ls stk)) := by
  obtain ⟨hd, rfl⟩ := hd
  obtain ⟨v, _, ⟨T', L', k', n'⟩, -, X', ⟨L, hQ, l1, y1, z1⟩, q⟩ := Jvm.LawKit.callS X hx hown (mvT hZ w1) (mvT hZ w2) (mvT hZ w3) (mvT hZ w4) hy (backOf (W := W) hC hZ w4 w3 hf hlo) (g := mkF m pc Ls stk) rfl hsize (argsL := argsL) (rest := rest) (lenOf pd hl) hstk (by show 2 * 0 + _ ≤ _; omega) hd (fun _ _ => ⟨rfl, eT, hce, hsl⟩)
  dsimp only [Pt.U, Pt.locs, Pt.cells, Pt.slots] at X' l1 y1 z1 q hQ
  subst l1 y1 z1
  exact own_via q (k T' v L X' hQ)
theorem go_special (X : Stand p l e R s m args below meth c T locs cells slots) (hx : p.tables.exec = Jvm.exec) (hZ : Z.Warmed39 s.vm) {own : String} {index : Nat} {y : MethodName} (hn : y.name = "<init>") {bytes : ByteArray} {maxL : Nat} (hown : s.vm.findClass own = some m.cls) (w1 : (Jvm.Cond.methodLink own index y).before a0 Z = true) (w2 : (Jvm.Cond.instanceMethod y).before a0 Z = true) (w3 : (Jvm.Cond.initialized y.cls).before a0 Z = true) (w4 : (Jvm.Cond.code y bytes maxL none).before a0 Z = true) (hy : y.cls ≠ "java/lang/invoke/MethodHandle" ∧ y.cls ≠ "java/lang/invoke/VarHandle") (eT : T.heap = h) {rm : Room} {a : Addr} (argsL rest : List Value) {Qc : Option Value → Heap → List Loc → Prop} (hC : Ct l Z y bytes maxL none [] rm (.ref a :: argsL).toArray h Qc) {ps : List FieldType} {rt : Option FieldType} (pd : parseMethodDescriptor y.desc = some ⟨ps, rt⟩) (hl : argsL.length = ps.length) (hsize : Ls.size = c.maxLocals) {stk : List Value} (hstk : stk = argsL.reverse ++ .ref a :: rest) (W : Nat) (hW : (rest.map fun v => v.category).sum ≤ W) (hf : rm.frames + 1 ≤ R.frames) (hlo : W + (maxL + 11) + rm.locals ≤ R.locals) (hce : cells + rm.cells ≤ R.cells) (hsl : slots + rm.slots ≤ R.slots) (hd : Dec c.code pc (.invokespecial index) 3 pc') (k : ∀ T' v L, Stand p l e R s m args below meth c T' (locs ++ L) (cells + rm.cells) (slots + rm.slots) → Qc v T'.heap L → Go p e below En (T'.setTop (mkF m pc' Ls (v.toList ++ rest)))) : Go p e below En (T.setTop (mkF m pc Ls stk)) := by
  obtain ⟨hd, rfl⟩ := hd
  obtain ⟨v, _, ⟨T', L', k', n'⟩, -, X', ⟨L, hQ, l1, y1, z1⟩, q⟩ := X.specialBack hx hn hown (mvT hZ w1) (mvT hZ w2) (mvT hZ w4) hy (backOf (W := W) hC hZ w4 w3 hf hlo) (g := mkF m pc Ls stk) rfl hsize (Steps.refl _) (a := a) (argsL := argsL) (rest := rest) (lenOf pd hl) hstk (by show 2 * 0 + _ ≤ _; omega) hd (fun _ _ => ⟨rfl, eT, hce, hsl⟩)
  dsimp only [Pt.U, Pt.locs, Pt.cells, Pt.slots] at X' l1 y1 z1 q hQ
  subst l1 y1 z1
  exact own_via (fun _ => q.trans) (k T' v L X' hQ)
theorem go_virtual (X : Stand p l e R s m args below meth c T locs cells slots) (hx : p.tables.exec = Jvm.exec) (hZ : Z.Warmed39 s.vm) {own C : String} {index : Nat} {y : MethodName} {bytes : ByteArray} {maxL : Nat} {ret : Option FieldType} (hown : s.vm.findClass own = some m.cls) (w1 : (Jvm.Cond.methodLink own index y).before a0 Z = true) (w2 : (Jvm.Cond.declares y).before a0 Z = true) (w5 : (Jvm.Cond.selects C y y).before a0 Z = true) (w6 : (Jvm.Cond.instanceMethod y).before a0 Z = true) (w3 : (Jvm.Cond.initialized y.cls).before a0 Z = true) (w4 : (Jvm.Cond.code y bytes maxL ret).before a0 Z = true) (hy : y.cls ≠ "java/lang/invoke/MethodHandle" ∧ y.cls ≠ "java/lang/invoke/VarHandle") (eT : T.heap = h) {rm : Room} {a : Addr} (E : Exa Z h a C) (argsL rest : List Value) {Qc : Option Value → Heap → List Loc → Prop} (hC : Ct l Z y bytes maxL ret [] rm (.ref a :: argsL).toArray h Qc) {ps : List FieldType} {rt : Option FieldType} (pd : parseMethodDescriptor y.desc = some ⟨ps, rt⟩) (hl : argsL.length = ps.length) (hsize : Ls.size = c.maxLocals) {stk : List Value} (hstk : stk = argsL.reverse ++ .ref a :: rest) (W : Nat) (hW : (rest.map fun v => v.category).sum ≤ W) (hf : rm.frames + 1 ≤ R.frames) (hlo : W + (maxL + 11) + rm.locals ≤ R.locals) (hce : cells + rm.cells ≤ R.cells) (hsl : slots + rm.slots ≤ R.slots) (hd : Dec c.code pc (.invokevirtual index) 3 pc') (k : ∀ T' v L, Stand p l e R s m args below meth c T' (locs ++ L) (cells + rm.cells) (slots + rm.slots) → Qc v T'.heap L → Go p e below En (T'.setTop (mkF m pc' Ls (v.toList ++ rest)))) : Go p e below En (T.setTop (mkF m pc Ls stk)) := by
  obtain ⟨hd, rfl⟩ := hd
  obtain ⟨cq, kq, qa, qb, qc⟩ := isOf hZ eT E
  obtain ⟨v, _, ⟨T', L', k', n'⟩, -, X', ⟨L, hQ, l1, y1, z1⟩, q⟩ := X.virtualBack hx hown (mvT hZ w1) (mvT hZ w2) (notFace_of_selects (args := #[]) (mvT hZ w5)) (mvT hZ w5) (mvT hZ w6) hy (backOf (W := W) hC hZ w4 w3 hf hlo) qa qc (g := mkF m pc Ls stk) rfl hsize (Steps.refl _) (argsL := argsL) (rest := rest) (lenOf pd hl) hstk (by show 2 * 0 + _ ≤ _; omega) hd (fun _ _ => ⟨rfl, eT, hce, hsl⟩)
  dsimp only [Pt.U, Pt.locs, Pt.cells, Pt.slots] at X' l1 y1 z1 q hQ
  subst l1 y1 z1
  exact own_via (fun _ => q.trans) (k T' v L X' hQ)
abbrev QP (r : Value) (h0 : Heap) : Option Value → Heap → List Loc → Prop := fun v h L => v = some r ∧ h = h0 ∧ L = []
theorem go_staticP (X : Stand p l e R s m args below meth c T locs cells slots) (hx : p.tables.exec = Jvm.exec) (hZ : Z.Warmed39 s.vm) {own : String} {index : Nat} {y : MethodName} {bytes : ByteArray} {maxL : Nat} {ret : Option FieldType} (hown : s.vm.findClass own = some m.cls) (w1 : (Jvm.Cond.methodLink own index y).before a0 Z = true) (w2 : (Jvm.Cond.static y).before a0 Z = true) (w3 : (Jvm.Cond.initialized y.cls).before a0 Z = true) (w4 : (Jvm.Cond.code y bytes maxL ret).before a0 Z = true) (hy : y.cls ≠ "java/lang/invoke/MethodHandle" ∧ y.cls ≠ "java/lang/invoke/VarHandle") (eT : T.heap = h) {rm : Room} (argsL rest : List Value) {r : Value} (hC : Ct l Z y bytes maxL ret [] rm argsL.toArray h (QP r h)) {ps : List FieldType} {rt : Option FieldType} (pd : parseMethodDescriptor y.desc = some ⟨ps, rt⟩) (hl : argsL.length = ps.length) (hsize : Ls.size = c.maxLocals) {stk : List Value} (hstk : stk = argsL.reverse ++ rest) (W : Nat) (hW : (rest.map fun v => v.category).sum ≤ W) (hf : rm.frames + 1 ≤ R.frames) (hlo : W + (maxL + 11) + rm.locals ≤ R.locals) (hce : rm.cells = 0) (hsl : rm.slots = 0) (hrc : cells ≤ R.cells) (hrs : slots ≤ R.slots) (hd : Dec c.code pc (.invokestatic index) 3 pc') (k : ∀ T', Stand p l e R s m args below meth c T' locs cells slots → T'.heap = h → Go p e below En (T'.setTop (mkF m pc' Ls (r :: rest)))) : Go p e below En (T.setTop (mkF m pc Ls stk)) :=
  go_static X hx hZ hown w1 w2 w3 w4 hy eT argsL rest hC pd hl hsize hstk W hW hf hlo (by rw [hce]; exact hrc) (by rw [hsl]; exact hrs) hd (fun T' v L X' hQ => by
    obtain ⟨rfl, e', rfl⟩ := hQ
    rw [hce, hsl, List.append_nil, Nat.add_zero, Nat.add_zero] at X'
    exact k T' X' e')
theorem go_virtualP (X : Stand p l e R s m args below meth c T locs cells slots) (hx : p.tables.exec = Jvm.exec) (hZ : Z.Warmed39 s.vm) {own C : String} {index : Nat} {y : MethodName} {bytes : ByteArray} {maxL : Nat} {ret : Option FieldType} (hown : s.vm.findClass own = some m.cls) (w1 : (Jvm.Cond.methodLink own index y).before a0 Z = true) (w2 : (Jvm.Cond.declares y).before a0 Z = true) (w5 : (Jvm.Cond.selects C y y).before a0 Z = true) (w6 : (Jvm.Cond.instanceMethod y).before a0 Z = true) (w3 : (Jvm.Cond.initialized y.cls).before a0 Z = true) (w4 : (Jvm.Cond.code y bytes maxL ret).before a0 Z = true) (hy : y.cls ≠ "java/lang/invoke/MethodHandle" ∧ y.cls ≠ "java/lang/invoke/VarHandle") (eT : T.heap = h) {rm : Room} {a : Addr} (E : Exa Z h a C) (argsL rest : List Value) {r : Value} (hC : Ct l Z y bytes maxL ret [] rm (.ref a :: argsL).toArray h (QP r h)) {ps : List FieldType} {rt : Option FieldType} (pd : parseMethodDescriptor y.desc = some ⟨ps, rt⟩) (hl : argsL.length = ps.length) (hsize : Ls.size = c.maxLocals) {stk : List Value} (hstk : stk = argsL.reverse ++ .ref a :: rest) (W : Nat) (hW : (rest.map fun v => v.category).sum ≤ W) (hf : rm.frames + 1 ≤ R.frames) (hlo : W + (maxL + 11) + rm.locals ≤ R.locals) (hce : rm.cells = 0) (hsl : rm.slots = 0) (hrc : cells ≤ R.cells) (hrs : slots ≤ R.slots) (hd : Dec c.code pc (.invokevirtual index) 3 pc') (k : ∀ T', Stand p l e R s m args below meth c T' locs cells slots → T'.heap = h → Go p e below En (T'.setTop (mkF m pc' Ls (r :: rest)))) : Go p e below En (T.setTop (mkF m pc Ls stk)) :=
  go_virtual X hx hZ hown w1 w2 w5 w6 w3 w4 hy eT E argsL rest hC pd hl hsize hstk W hW hf hlo (by rw [hce]; exact hrc) (by rw [hsl]; exact hrs) hd (fun T' v L X' hQ => by
    obtain ⟨rfl, e', rfl⟩ := hQ
    rw [hce, hsl, List.append_nil, Nat.add_zero, Nat.add_zero] at X'
    exact k T' X' e')
theorem own_lsw {tb : Tables} [Ours tb] {target : State} {g : JFrame} (q : At T m c below) (hx : tb.exec = Jvm.exec) (hg : g.method = m) {dflt : Int} {ps : Array (Int × Int)} {len : Nat} {o : Int} {pc0 : Nat} (hpc : g.pc = pc0) (hd : decode c.code g.pc = .ok (.lookupswitch dflt ps, len)) {i : Int32} {rest : List Value} (hs : g.stack = .int i :: rest)
    (hsort : (ps.toList.zip (ps.toList.drop 1)).all (fun (a, next) => a.1 < next.1) = true) (hoff : lookupswitch.offset ps.toList dflt i.toInt = o) (ho : 0 ≤ (pc0 : Int) + o) (hp : ((pc0 : Int) + o).toNat = pc')
    (hr : Steps tb e below (T.setTop { g with pc := pc', stack := rest }) target) : Steps tb e below (T.setTop g) target := by
  subst hg hpc hp hoff
  jvm_step q [q.top, hx, hd, hs, ho, lookupswitch.wp_chain]
  exact ⟨by simpa using hsort, hr⟩
theorem go_lsw (X : Stand p l e R s m args below meth c T locs cells slots) (hx : p.tables.exec = Jvm.exec) {dflt : Int} {ps : Array (Int × Int)} {len : Nat} {x : Int32} {o : Int} (hd : decode c.code pc = .ok (.lookupswitch dflt ps, len)) (hsort : (ps.toList.zip (ps.toList.drop 1)).all (fun (a, next) => a.1 < next.1) = true) (hoff : lookupswitch.offset ps.toList dflt x.toInt = o) (ho : 0 ≤ (pc : Int) + o) (hp : ((pc : Int) + o).toNat = pt) (k : Go p e below En (T.setTop (mkF m pt Ls st))) : Go p e below En (T.setTop (mkF m pc Ls (.int x :: st))) := own_via (fun t => own_lsw (g := mkF m pc Ls (.int x :: st)) X.here hx rfl rfl hd rfl hsort hoff ho hp) k
theorem go_alen (X : Stand p l e R s m args below meth c T locs cells slots) (hx : p.tables.exec = Jvm.exec) (hZ : Z.Warmed39 s.vm) (eT : T.heap = h) {a : Addr} {cl : Cell} {ty : FieldType} (A : Arr Z h a cl ty) {z : Int32} (S : cl.slots.size = z.toNatClampNeg) (hz : ¬ z < 0) (hd : Dec c.code pc .arraylength 1 pc') (k : Go p e below En (T.setTop (mkF m pc' Ls (.int z :: st)))) : Go p e below En (T.setTop (mkF m pc Ls (.ref a :: st))) := by
  obtain ⟨hd, rfl⟩ := hd
  refine own_via (fun t q => X.arraylength hx (cell := cl) (by rw [eT]; exact A.1) (State.isArrayOf_alike hZ.alike A.2.1) (g := mkF m pc Ls (.ref a :: st)) rfl (rest := st) rfl hd _ ?_) k
  rw [len_of S hz]
  exact q
theorem go_iaload (X : Stand p l e R s m args below meth c T locs cells slots) (hx : p.tables.exec = Jvm.exec) (hZ : Z.Warmed39 s.vm) (eT : T.heap = h) {a : Addr} {cl : Cell} (A : Arr Z h a cl .int) {j : Int32} {w : Int32} (hj : ¬ (j < 0 ∨ cl.slots.size ≤ j.toNatClampNeg)) (hv : cl.slots[j.toNatClampNeg]? = some (.int w)) (hd : Dec c.code pc .iaload 1 pc') (k : Go p e below En (T.setTop (mkF m pc' Ls (.int w :: st)))) : Go p e below En (T.setTop (mkF m pc Ls (.int j :: .ref a :: st))) := by
  obtain ⟨hd, rfl⟩ := hd
  exact own_via (fun t q => X.iaload hx (j := j) (v := (.int w)) (by rw [eT]; exact A.1) (State.isArrayOf_alike hZ.alike A.2.1) A.2.2 hj hv (g := mkF m pc Ls (.int j :: .ref a :: st)) rfl rfl hd _ q) k
theorem go_laload (X : Stand p l e R s m args below meth c T locs cells slots) (hx : p.tables.exec = Jvm.exec) (hZ : Z.Warmed39 s.vm) (eT : T.heap = h) {a : Addr} {cl : Cell} (A : Arr Z h a cl .long) {j : Int32} {w : Int64} (hj : ¬ (j < 0 ∨ cl.slots.size ≤ j.toNatClampNeg)) (hv : cl.slots[j.toNatClampNeg]? = some (.long w)) (hd : Dec c.code pc .laload 1 pc') (k : Go p e below En (T.setTop (mkF m pc' Ls (.long w :: st)))) : Go p e below En (T.setTop (mkF m pc Ls (.int j :: .ref a :: st))) := by
  obtain ⟨hd, rfl⟩ := hd
  exact own_via (fun t q => X.laload hx (j := j) (v := (.long w)) (by rw [eT]; exact A.1) (State.isArrayOf_alike hZ.alike A.2.1) A.2.2 hj hv (g := mkF m pc Ls (.int j :: .ref a :: st)) rfl rfl hd _ q) k
theorem go_iastore (X : Stand p l e R s m args below meth c T locs cells slots) (hx : p.tables.exec = Jvm.exec) (hZ : Z.Warmed39 s.vm) (eT : T.heap = h) {a : Addr} {cl : Cell} (A : Arr Z h a cl .int) {j : Int32} {x : Int32} (hj : ¬ (j < 0 ∨ cl.slots.size ≤ j.toNatClampNeg)) (hd : Dec c.code pc .iastore 1 pc') (k : ∀ T' h', Stand p l e R s m args below meth c T' (locs ++ [⟨a, j.toNatClampNeg⟩]) cells slots → T'.heap = h' → Wr h h' a j.toNatClampNeg (.int x) → Go p e below En (T'.setTop (mkF m pc' Ls st))) : Go p e below En (T.setTop (mkF m pc Ls (.int x :: .int j :: .ref a :: st))) := by
  obtain ⟨hd, rfl⟩ := hd
  obtain ⟨T', h', X', e', W, q⟩ := stI X hx hZ eT A hj (g := mkF m pc Ls (.int x :: .int j :: .ref a :: st)) rfl rfl hd
  exact own_via q (k T' h' X' e' W)
theorem go_lastore (X : Stand p l e R s m args below meth c T locs cells slots) (hx : p.tables.exec = Jvm.exec) (hZ : Z.Warmed39 s.vm) (eT : T.heap = h) {a : Addr} {cl : Cell} (A : Arr Z h a cl .long) {j : Int32} {x : Int64} (hj : ¬ (j < 0 ∨ cl.slots.size ≤ j.toNatClampNeg)) (hd : Dec c.code pc .lastore 1 pc') (k : ∀ T' h', Stand p l e R s m args below meth c T' (locs ++ [⟨a, j.toNatClampNeg⟩]) cells slots → T'.heap = h' → Wr h h' a j.toNatClampNeg (.long x) → Go p e below En (T'.setTop (mkF m pc' Ls st))) : Go p e below En (T.setTop (mkF m pc Ls (.long x :: .int j :: .ref a :: st))) := by
  obtain ⟨hd, rfl⟩ := hd
  obtain ⟨T', h', X', e', W, q⟩ := stJ X hx hZ eT A hj (g := mkF m pc Ls (.long x :: .int j :: .ref a :: st)) rfl rfl hd
  exact own_via q (k T' h' X' e' W)
theorem go_castore (X : Stand p l e R s m args below meth c T locs cells slots) (hx : p.tables.exec = Jvm.exec) (hZ : Z.Warmed39 s.vm) (eT : T.heap = h) {a : Addr} {cl : Cell} (A : Arr Z h a cl .char) {j : Int32} {x : Int32} (hj : ¬ (j < 0 ∨ cl.slots.size ≤ j.toNatClampNeg)) (hd : Dec c.code pc .castore 1 pc') (k : ∀ T' h', Stand p l e R s m args below meth c T' (locs ++ [⟨a, j.toNatClampNeg⟩]) cells slots → T'.heap = h' → Wr h h' a j.toNatClampNeg (.int (nar .char x)) → Go p e below En (T'.setTop (mkF m pc' Ls st))) : Go p e below En (T.setTop (mkF m pc Ls (.int x :: .int j :: .ref a :: st))) := by
  obtain ⟨hd, rfl⟩ := hd
  obtain ⟨T', h', X', e', W, q⟩ := stC X hx hZ eT A hj (g := mkF m pc Ls (.int x :: .int j :: .ref a :: st)) rfl rfl hd
  exact own_via q (k T' h' X' e' W)
theorem go_bastore (X : Stand p l e R s m args below meth c T locs cells slots) (hx : p.tables.exec = Jvm.exec) (hZ : Z.Warmed39 s.vm) (eT : T.heap = h) {a : Addr} {cl : Cell} (A : Arr Z h a cl .byte) {j : Int32} {x : Int32} (hj : ¬ (j < 0 ∨ cl.slots.size ≤ j.toNatClampNeg)) (hd : Dec c.code pc .bastore 1 pc') (k : ∀ T' h', Stand p l e R s m args below meth c T' (locs ++ [⟨a, j.toNatClampNeg⟩]) cells slots → T'.heap = h' → Wr h h' a j.toNatClampNeg (.int (nar .byte x)) → Go p e below En (T'.setTop (mkF m pc' Ls st))) : Go p e below En (T.setTop (mkF m pc Ls (.int x :: .int j :: .ref a :: st))) := by
  obtain ⟨hd, rfl⟩ := hd
  obtain ⟨T', h', X', e', W, q⟩ := stB X hx hZ eT A hj (g := mkF m pc Ls (.int x :: .int j :: .ref a :: st)) rfl rfl hd
  exact own_via q (k T' h' X' e' W)
theorem go_zastore (X : Stand p l e R s m args below meth c T locs cells slots) (hx : p.tables.exec = Jvm.exec) (hZ : Z.Warmed39 s.vm) (eT : T.heap = h) {a : Addr} {cl : Cell} (A : Arr Z h a cl .boolean) {j : Int32} {x : Int32} (hj : ¬ (j < 0 ∨ cl.slots.size ≤ j.toNatClampNeg)) (hd : Dec c.code pc .bastore 1 pc') (k : ∀ T' h', Stand p l e R s m args below meth c T' (locs ++ [⟨a, j.toNatClampNeg⟩]) cells slots → T'.heap = h' → Wr h h' a j.toNatClampNeg (.int (nar .boolean x)) → Go p e below En (T'.setTop (mkF m pc' Ls st))) : Go p e below En (T.setTop (mkF m pc Ls (.int x :: .int j :: .ref a :: st))) := by
  obtain ⟨hd, rfl⟩ := hd
  obtain ⟨T', h', X', e', W, q⟩ := stZ X hx hZ eT A hj (g := mkF m pc Ls (.int x :: .int j :: .ref a :: st)) rfl rfl hd
  exact own_via q (k T' h' X' e' W)
abbrev QV (h0 : Heap) : Option Value → Heap → List Loc → Prop := fun v h L => v = none ∧ h = h0 ∧ L = []
theorem go_specialP (X : Stand p l e R s m args below meth c T locs cells slots) (hx : p.tables.exec = Jvm.exec) (hZ : Z.Warmed39 s.vm) {own : String} {index : Nat} {y : MethodName} (hn : y.name = "<init>") {bytes : ByteArray} {maxL : Nat} (hown : s.vm.findClass own = some m.cls) (w1 : (Jvm.Cond.methodLink own index y).before a0 Z = true) (w2 : (Jvm.Cond.instanceMethod y).before a0 Z = true) (w3 : (Jvm.Cond.initialized y.cls).before a0 Z = true) (w4 : (Jvm.Cond.code y bytes maxL none).before a0 Z = true) (hy : y.cls ≠ "java/lang/invoke/MethodHandle" ∧ y.cls ≠ "java/lang/invoke/VarHandle") (eT : T.heap = h) {rm : Room} {a : Addr} (argsL rest : List Value) (hC : Ct l Z y bytes maxL none [] rm (.ref a :: argsL).toArray h (QV h)) {ps : List FieldType} {rt : Option FieldType} (pd : parseMethodDescriptor y.desc = some ⟨ps, rt⟩) (hl : argsL.length = ps.length) (hsize : Ls.size = c.maxLocals) {stk : List Value} (hstk : stk = argsL.reverse ++ .ref a :: rest) (W : Nat) (hW : (rest.map fun v => v.category).sum ≤ W) (hf : rm.frames + 1 ≤ R.frames) (hlo : W + (maxL + 11) + rm.locals ≤ R.locals) (hce : rm.cells = 0) (hsl : rm.slots = 0) (hrc : cells ≤ R.cells) (hrs : slots ≤ R.slots) (hd : Dec c.code pc (.invokespecial index) 3 pc') (k : ∀ T', Stand p l e R s m args below meth c T' locs cells slots → T'.heap = h → Go p e below En (T'.setTop (mkF m pc' Ls rest))) : Go p e below En (T.setTop (mkF m pc Ls stk)) :=
  go_special X hx hZ hn hown w1 w2 w3 w4 hy eT argsL rest hC pd hl hsize hstk W hW hf hlo (by rw [hce]; exact hrc) (by rw [hsl]; exact hrs) hd (fun T' v L X' hQ => by
    obtain ⟨rfl, e', rfl⟩ := hQ
    rw [hce, hsl, List.append_nil, Nat.add_zero, Nat.add_zero] at X'
    exact k T' X' e')
theorem go_virtualUp (X : Stand p l e R s m args below meth c T locs cells slots) (hx : p.tables.exec = Jvm.exec) (hZ : Z.Warmed39 s.vm) {own C owner : String} {index : Nat} {x y : MethodName} {bytes : ByteArray} {maxL : Nat} {ret : Option FieldType} (hown : s.vm.findClass own = some m.cls) (w1 : (Jvm.Cond.methodLink own index x).before a0 Z = true) (w2 : (Jvm.Cond.sameMethod x.cls owner x.name x.desc).before a0 Z = true) (w7 : (Jvm.Cond.declares ⟨owner, x.name, x.desc⟩).before a0 Z = true) (w5 : (Jvm.Cond.selects C x y).before a0 Z = true) (w6 : (Jvm.Cond.instanceMethod y).before a0 Z = true) (w3 : (Jvm.Cond.initialized y.cls).before a0 Z = true) (w4 : (Jvm.Cond.code y bytes maxL ret).before a0 Z = true) (hy : owner ≠ "java/lang/invoke/MethodHandle" ∧ owner ≠ "java/lang/invoke/VarHandle") (eT : T.heap = h) {rm : Room} {a : Addr} (E : Exa Z h a C) (argsL rest : List Value) {Qc : Option Value → Heap → List Loc → Prop} (hC : Ct l Z y bytes maxL ret [] rm (.ref a :: argsL).toArray h Qc) {ps : List FieldType} {rt : Option FieldType} (pd : parseMethodDescriptor x.desc = some ⟨ps, rt⟩) (hl : argsL.length = ps.length) (hsize : Ls.size = c.maxLocals) {stk : List Value} (hstk : stk = argsL.reverse ++ .ref a :: rest) (W : Nat) (hW : (rest.map fun v => v.category).sum ≤ W) (hf : rm.frames + 1 ≤ R.frames) (hlo : W + (maxL + 11) + rm.locals ≤ R.locals) (hce : cells + rm.cells ≤ R.cells) (hsl : slots + rm.slots ≤ R.slots) (hd : Dec c.code pc (.invokevirtual index) 3 pc') (k : ∀ T' v L, Stand p l e R s m args below meth c T' (locs ++ L) (cells + rm.cells) (slots + rm.slots) → Qc v T'.heap L → Go p e below En (T'.setTop (mkF m pc' Ls (v.toList ++ rest)))) : Go p e below En (T.setTop (mkF m pc Ls stk)) := by
  obtain ⟨hd, rfl⟩ := hd
  obtain ⟨cq, kq, qa, qb, qc⟩ := isOf hZ eT E
  obtain ⟨v, _, ⟨T', L', k', n'⟩, -, X', ⟨L, hQ, l1, y1, z1⟩, q⟩ := X.virtualBackUp hx hown (mvT hZ w1) (mvT hZ w2) (mvT hZ w7) hy (mvT hZ w5) (mvT hZ w6) (backOf (W := W) hC hZ w4 w3 hf hlo) qa qc (g := mkF m pc Ls stk) rfl hsize (Steps.refl _) (argsL := argsL) (rest := rest) (lenOf pd hl) hstk (by show 2 * 0 + _ ≤ _; omega) hd (fun _ _ => ⟨rfl, eT, hce, hsl⟩)
  dsimp only [Pt.U, Pt.locs, Pt.cells, Pt.slots] at X' l1 y1 z1 q hQ
  subst l1 y1 z1
  exact own_via (fun _ => q.trans) (k T' v L X' hQ)
def PutOk (Z : State) (a0 : Array Value) (h : Heap) (a : Addr) (O n d : String) : Prop := ∃ C kk, Exa Z h a C ∧ (Jvm.Cond.lays C O n d).before a0 Z = true ∧ (Jvm.Cond.instantiable C kk).before a0 Z = true
theorem go_putN (X : Stand p l e R s m args below meth c T locs cells slots) (hx : p.tables.exec = Jvm.exec) (hZ : Z.Warmed39 s.vm) {own R0 O n d host : String} {index : Nat} {ty : FieldType} (hown : s.vm.findClass own = some m.cls) (w : (Jvm.Cond.fieldLink own index R0 n d).before a0 Z = true ∨ (Jvm.Cond.fieldLinkNest own index R0 n d host).before a0 Z = true) (via : Via Z R0 O n d) (eT : T.heap = h) {a : Addr} {v old : Value} (F : Fld Z h a O n d old) (P : PutOk Z a0 h a O n d) (hty : parseFieldDescriptor d = some ty) (hn : narrow ty v = v) (hf : fits ty v = true) (hd : Dec c.code pc (.putfield index) 3 pc') (k : ∀ T' h', Stand p l e R s m args below meth c T' (locs ++ [⟨a, Jvm.RoadKit.slotOf Z O n d⟩]) cells slots → T'.heap = h' → Wr h h' a (Jvm.RoadKit.slotOf Z O n d) v → Go p e below En (T'.setTop (mkF m pc' Ls st))) : Go p e below En (T.setTop (mkF m pc Ls (v :: .ref a :: st))) := by
  obtain ⟨C, kk, E, L, wi⟩ := P
  exact go_putF X hx hZ hown w via eT F E (Or.inl L) wi hty hn hf hd k
theorem own_staK {C n d : String} {v : Value} {h' : Heap} (F : Sta Z h C n d v) (K : Keep h h' []) : Sta Z h' C n d v := by
  obtain ⟨cf, i, k, f, st, cell, h1, h2, h3, h4, h5, r⟩ := F
  exact ⟨cf, i, k, f, st, cell, h1, h2, h3, h4, K.2.1 _ _ h5 (by simp), r⟩
theorem own_ldcW (X : Stand p l e R s m args below meth c T locs cells slots) (hexec : p.tables.exec = Jvm.exec) {own : String} {index : Nat} {v : Int32} (hown : s.vm.findClass own = some m.cls) (hconst : (Jvm.Cond.constant own index v).before args s = true) {g : JFrame} (hg : g.method = m) (hdg : decode c.code g.pc = .ok (.ldc_w index, 3)) :
    ∀ target, Steps p.tables e below (T.setTop { g with pc := g.pc + 3, stack := .int v :: g.stack }) target → Steps p.tables e below (T.setTop g) target := by
  obtain ⟨k, cf, bytes, hk, hcf, hcp, hb⟩ := Cond.constant_spec hown hconst
  obtain ⟨k', hk', he⟩ := X.warmed.alike.2.2 _ _ hk
  intro target hrest
  subst hg
  jvm_step X.here [hexec, hdg, ldc_w.wp_int (s := T) (f := g) X.here.top hk' (by rw [he]; exact hcf) hcp, hb]
  exact hrest
theorem go_ldcw (X : Stand p l e R s m args below meth c T locs cells slots) (hx : p.tables.exec = Jvm.exec) (hZ : Z.Warmed39 s.vm) {own : String} {index : Nat} {v : Int32} (hown : s.vm.findClass own = some m.cls) (w : (Jvm.Cond.constant own index v).before a0 Z = true) (hd : Dec c.code pc (.ldc_w index) 3 pc') (k : Go p e below En (T.setTop (mkF m pc' Ls (.int v :: st)))) : Go p e below En (T.setTop (mkF m pc Ls st)) := by
  obtain ⟨hd, rfl⟩ := hd
  exact own_via (fun t => own_ldcW X hx hown (mv hZ w) (g := mkF m pc Ls st) rfl hd t) k
theorem go_baload (X : Stand p l e R s m args below meth c T locs cells slots) (hx : p.tables.exec = Jvm.exec) (hZ : Z.Warmed39 s.vm) (eT : T.heap = h) {a : Addr} {cl : Cell} (A : Arr Z h a cl .byte) {j w : Int32} (hj : ¬ (j < 0 ∨ cl.slots.size ≤ j.toNatClampNeg)) (hv : cl.slots[j.toNatClampNeg]? = some (.int w)) (hd : Dec c.code pc .baload 1 pc') (k : Go p e below En (T.setTop (mkF m pc' Ls (.int w :: st)))) : Go p e below En (T.setTop (mkF m pc Ls (.int j :: .ref a :: st))) := by
  obtain ⟨hd, rfl⟩ := hd
  exact own_via (fun t q => X.baloadBytes hx (j := j) (v := (.int w)) (by rw [eT]; exact A.1) (State.isArrayOf_alike hZ.alike A.2.1) A.2.2 hj hv (g := mkF m pc Ls (.int j :: .ref a :: st)) rfl rfl hd _ q) k
theorem own_rep {n : Nat} {d : Value} : ∀ i, (List.replicate n d).getD i d = ([] : List Value).getD i d := fun i => by
  simp only [List.getD_eq_getElem?_getD, List.getElem?_replicate, List.getElem?_nil, Option.getD_none]
  split <;> rfl
theorem go_iastoreV (X : Stand p l e R s m args below meth c T locs cells slots) (hx : p.tables.exec = Jvm.exec) (hZ : Z.Warmed39 s.vm) (eT : T.heap = h) {a : Addr} {kc : ClassId} {z : Int32} {vs : List Value} {d : Value} (F : Arv Z h a kc .int z vs d) {j : Int32} {x : Int32} (q : ¬ j < 0 ∧ j < z) (i : Nat) (hj : j.toNatClampNeg = i) (hl : i < vs.length) (hd : Dec c.code pc .iastore 1 pc') (k : ∀ T' h', Stand p l e R s m args below meth c T' (locs ++ [⟨a, j.toNatClampNeg⟩]) cells slots → T'.heap = h' → Wr h h' a j.toNatClampNeg (.int x) → Arv Z h' a kc .int z (vs.set i (.int x)) d → Go p e below En (T'.setTop (mkF m pc' Ls st))) : Go p e below En (T.setTop (mkF m pc Ls (.int x :: .int j :: .ref a :: st))) := by
  obtain ⟨c1, A, q1, S, q3, H, G⟩ := F
  exact go_iastore X hx hZ eT A (inb_of S q) hd (fun T' h' X' e' W => k T' h' X' e' W (Arv.set A q1 S q3 H G rfl W i hj hl))
theorem go_lastoreV (X : Stand p l e R s m args below meth c T locs cells slots) (hx : p.tables.exec = Jvm.exec) (hZ : Z.Warmed39 s.vm) (eT : T.heap = h) {a : Addr} {kc : ClassId} {z : Int32} {vs : List Value} {d : Value} (F : Arv Z h a kc .long z vs d) {j : Int32} {x : Int64} (q : ¬ j < 0 ∧ j < z) (i : Nat) (hj : j.toNatClampNeg = i) (hl : i < vs.length) (hd : Dec c.code pc .lastore 1 pc') (k : ∀ T' h', Stand p l e R s m args below meth c T' (locs ++ [⟨a, j.toNatClampNeg⟩]) cells slots → T'.heap = h' → Wr h h' a j.toNatClampNeg (.long x) → Arv Z h' a kc .long z (vs.set i (.long x)) d → Go p e below En (T'.setTop (mkF m pc' Ls st))) : Go p e below En (T.setTop (mkF m pc Ls (.long x :: .int j :: .ref a :: st))) := by
  obtain ⟨c1, A, q1, S, q3, H, G⟩ := F
  exact go_lastore X hx hZ eT A (inb_of S q) hd (fun T' h' X' e' W => k T' h' X' e' W (Arv.set A q1 S q3 H G rfl W i hj hl))
theorem go_bastoreV (X : Stand p l e R s m args below meth c T locs cells slots) (hx : p.tables.exec = Jvm.exec) (hZ : Z.Warmed39 s.vm) (eT : T.heap = h) {a : Addr} {kc : ClassId} {z : Int32} {vs : List Value} {d : Value} (F : Arv Z h a kc .byte z vs d) {j : Int32} {x : Int32} (q : ¬ j < 0 ∧ j < z) (i : Nat) (hj : j.toNatClampNeg = i) (hl : i < vs.length) (hd : Dec c.code pc .bastore 1 pc') (k : ∀ T' h', Stand p l e R s m args below meth c T' (locs ++ [⟨a, j.toNatClampNeg⟩]) cells slots → T'.heap = h' → Wr h h' a j.toNatClampNeg (.int (nar .byte x)) → Arv Z h' a kc .byte z (vs.set i (.int (nar .byte x))) d → Go p e below En (T'.setTop (mkF m pc' Ls st))) : Go p e below En (T.setTop (mkF m pc Ls (.int x :: .int j :: .ref a :: st))) := by
  obtain ⟨c1, A, q1, S, q3, H, G⟩ := F
  exact go_bastore X hx hZ eT A (inb_of S q) hd (fun T' h' X' e' W => k T' h' X' e' W (Arv.set A q1 S q3 H G (fits_nar_byte _) W i hj hl))
theorem go_castoreV (X : Stand p l e R s m args below meth c T locs cells slots) (hx : p.tables.exec = Jvm.exec) (hZ : Z.Warmed39 s.vm) (eT : T.heap = h) {a : Addr} {kc : ClassId} {z : Int32} {vs : List Value} {d : Value} (F : Arv Z h a kc .char z vs d) {j : Int32} {x : Int32} (q : ¬ j < 0 ∧ j < z) (i : Nat) (hj : j.toNatClampNeg = i) (hl : i < vs.length) (hd : Dec c.code pc .castore 1 pc') (k : ∀ T' h', Stand p l e R s m args below meth c T' (locs ++ [⟨a, j.toNatClampNeg⟩]) cells slots → T'.heap = h' → Wr h h' a j.toNatClampNeg (.int (nar .char x)) → Arv Z h' a kc .char z (vs.set i (.int (nar .char x))) d → Go p e below En (T'.setTop (mkF m pc' Ls st))) : Go p e below En (T.setTop (mkF m pc Ls (.int x :: .int j :: .ref a :: st))) := by
  obtain ⟨c1, A, q1, S, q3, H, G⟩ := F
  exact go_castore X hx hZ eT A (inb_of S q) hd (fun T' h' X' e' W => k T' h' X' e' W (Arv.set A q1 S q3 H G (fits_nar_char _) W i hj hl))
theorem go_aastoreV (X : Stand p l e R s m args below meth c T locs cells slots) (hx : p.tables.exec = Jvm.exec) (hZ : Z.Warmed39 s.vm) (eT : T.heap = h) {a y : Addr} {C : String} {kc : ClassId} {z : Int32} {vs : List Value} {d : Value} (F : Arv Z h a kc (.object C) z vs d) (O : Ovr Z kc C) (I : Ins Z h y C true) {j : Int32} (q : ¬ j < 0 ∧ j < z) (i : Nat) (hj : j.toNatClampNeg = i) (hl : i < vs.length) (hd : Dec c.code pc .aastore 1 pc') (k : ∀ T' h', Stand p l e R s m args below meth c T' (locs ++ [⟨a, j.toNatClampNeg⟩]) cells slots → T'.heap = h' → Wr h h' a j.toNatClampNeg (.ref y) → Arv Z h' a kc (.object C) z (vs.set i (.ref y)) d → Go p e below En (T'.setTop (mkF m pc' Ls st))) : Go p e below En (T.setTop (mkF m pc Ls (.ref y :: .int j :: .ref a :: st))) := by
  obtain ⟨hd, rfl⟩ := hd
  obtain ⟨c1, A, q1, S, q3, H, G⟩ := F
  obtain ⟨T', h', X', e', W, r⟩ := stR X hx hZ eT A (inb_of S q) rfl (Sto.of A (by rw [q1]; exact O) I) (g := mkF m pc Ls (.ref y :: .int j :: .ref a :: st)) rfl rfl hd
  exact own_via r (k T' h' X' e' W (Arv.set A q1 S q3 H G rfl W i hj hl))
theorem go_newR (X : Stand p l e R s m args below meth c T locs cells slots) (hx : p.tables.exec = Jvm.exec) (hZ : Z.Warmed39 s.vm) {own C : String} {index : Nat} (hown : s.vm.findClass own = some m.cls) (w1 : (Jvm.Cond.classLink own index C).before a0 Z = true) (w2 : (Jvm.Cond.arrayOver (.object C)).before a0 Z = true) (eT : T.heap = h) (hd : Dec c.code pc (.anewarray index) 3 pc') {n : Int32} (hn : ¬ n < 0) (cap : Nat) (hcap : n.toNatClampNeg ≤ cap) (hb : cap * 8 ≤ 536870912) (hc : cells + 1 ≤ R.cells) (hl : slots + cap ≤ R.slots) (k : ∀ T' h' cA (a : Addr), a = h.size → Stand p l e R s m args below meth c T' locs (cells + 1) (slots + cap) → T'.heap = h' → Ext h h' → Arr Z h' a (newA cA (.object C) n) (.object C) → Ovr Z cA C → Go p e below En (T'.setTop (mkF m pc' Ls (.ref a :: st)))) : Go p e below En (T.setTop (mkF m pc Ls (.int n :: st))) := by
  obtain ⟨hd, rfl⟩ := hd
  obtain ⟨T', h', cA, X', e', E, A, O, q⟩ := newR X hx hZ hown w1 w2 eT (g := mkF m pc Ls (.int n :: st)) rfl hd rfl hn hcap hb hc hl
  exact own_via q (k T' h' cA _ rfl X' e' E A O)
theorem go_ialoadV (X : Stand p l e R s m args below meth c T locs cells slots) (hx : p.tables.exec = Jvm.exec) (hZ : Z.Warmed39 s.vm) (eT : T.heap = h) {a : Addr} {kc : ClassId} {z : Int32} {vs : List Value} {d : Value} (F : Arv Z h a kc .int z vs d) {j : Int32} {w : Int32} (q : ¬ j < 0 ∧ j < z) (hv : vs.getD j.toNatClampNeg d = .int w) (hd : Dec c.code pc .iaload 1 pc') (k : Go p e below En (T.setTop (mkF m pc' Ls (.int w :: st)))) : Go p e below En (T.setTop (mkF m pc Ls (.int j :: .ref a :: st))) := by
  obtain ⟨c1, A, q1, S, q3, H, G⟩ := F
  have hin := inb_of S q
  exact go_iaload X hx hZ eT A hin (by rw [H _ (Nat.lt_of_not_le fun r => hin (Or.inr r)), hv]) hd k
theorem go_laloadV (X : Stand p l e R s m args below meth c T locs cells slots) (hx : p.tables.exec = Jvm.exec) (hZ : Z.Warmed39 s.vm) (eT : T.heap = h) {a : Addr} {kc : ClassId} {z : Int32} {vs : List Value} {d : Value} (F : Arv Z h a kc .long z vs d) {j : Int32} {w : Int64} (q : ¬ j < 0 ∧ j < z) (hv : vs.getD j.toNatClampNeg d = .long w) (hd : Dec c.code pc .laload 1 pc') (k : Go p e below En (T.setTop (mkF m pc' Ls (.long w :: st)))) : Go p e below En (T.setTop (mkF m pc Ls (.int j :: .ref a :: st))) := by
  obtain ⟨c1, A, q1, S, q3, H, G⟩ := F
  have hin := inb_of S q
  exact go_laload X hx hZ eT A hin (by rw [H _ (Nat.lt_of_not_le fun r => hin (Or.inr r)), hv]) hd k
theorem go_baloadV (X : Stand p l e R s m args below meth c T locs cells slots) (hx : p.tables.exec = Jvm.exec) (hZ : Z.Warmed39 s.vm) (eT : T.heap = h) {a : Addr} {kc : ClassId} {z : Int32} {vs : List Value} {d : Value} (F : Arv Z h a kc .byte z vs d) {j : Int32} {w : Int32} (q : ¬ j < 0 ∧ j < z) (hv : vs.getD j.toNatClampNeg d = .int w) (hd : Dec c.code pc .baload 1 pc') (k : Go p e below En (T.setTop (mkF m pc' Ls (.int w :: st)))) : Go p e below En (T.setTop (mkF m pc Ls (.int j :: .ref a :: st))) := by
  obtain ⟨c1, A, q1, S, q3, H, G⟩ := F
  have hin := inb_of S q
  exact go_baload X hx hZ eT A hin (by rw [H _ (Nat.lt_of_not_le fun r => hin (Or.inr r)), hv]) hd k
theorem go_aaloadV (X : Stand p l e R s m args below meth c T locs cells slots) (hx : p.tables.exec = Jvm.exec) (hZ : Z.Warmed39 s.vm) (eT : T.heap = h) {a : Addr} {kc : ClassId} {ty : FieldType} (hty : ty.isReference = true) {z : Int32} {vs : List Value} {d : Value} (F : Arv Z h a kc ty z vs d) {j : Int32} {v : Value} (q : ¬ j < 0 ∧ j < z) (hv : vs.getD j.toNatClampNeg d = v) (hd : Dec c.code pc .aaload 1 pc') (k : Go p e below En (T.setTop (mkF m pc' Ls (v :: st)))) : Go p e below En (T.setTop (mkF m pc Ls (.int j :: .ref a :: st))) := by
  obtain ⟨hd, rfl⟩ := hd
  obtain ⟨c1, A, q1, S, q3, H, G⟩ := F
  have hin := inb_of S q
  exact own_via (fun t r => X.aaload hx (j := j) (v := v) (by rw [eT]; exact A.1) (State.isArrayOf_alike hZ.alike A.2.1) hty A.2.2 hin (by rw [H _ (Nat.lt_of_not_le fun r => hin (Or.inr r)), hv]) (g := mkF m pc Ls (.int j :: .ref a :: st)) rfl rfl hd _ r) k
theorem go_newPE (X : Stand p l e R s m args below meth c T locs cells slots) (hx : p.tables.exec = Jvm.exec) (hZ : Z.Warmed39 s.vm) {aty : ArrayType} (w : (Jvm.Cond.arrayClass (newarray.typeOf aty)).before a0 Z = true) (eT : T.heap = h) (hd : Dec c.code pc (.newarray aty) 2 pc') {n : Int32} (hn : ¬ n < 0) (cap : Nat) (hcap : n.toNatClampNeg ≤ cap) (hb : cap * 8 ≤ 536870912) (hc : cells + 1 ≤ R.cells) (hl : slots + cap ≤ R.slots) {ad : String} (had : "[" ++ (newarray.typeOf aty).toString = ad) (k : ∀ T' h' cA (a : Addr), a = h.size → Stand p l e R s m args below meth c T' locs (cells + 1) (slots + cap) → T'.heap = h' → Ext h h' → Arr Z h' a (newA cA (newarray.typeOf aty) n) (newarray.typeOf aty) → Exa Z h' a ad → Go p e below En (T'.setTop (mkF m pc' Ls (.ref a :: st)))) : Go p e below En (T.setTop (mkF m pc Ls (.int n :: st))) := by
  obtain ⟨hd, rfl⟩ := hd
  obtain ⟨T', h', cA, X', e', E, A, Y, q⟩ := newPE X hx hZ w eT (g := mkF m pc Ls (.int n :: st)) rfl hd rfl hn hcap hb hc hl had
  exact own_via q (k T' h' cA _ rfl X' e' E A Y)
theorem go_clone (X : Stand p l e R s m args below meth c T locs cells slots) (hx : p.tables.exec = Jvm.exec) (hZ : Z.Warmed39 s.vm) {own ad : String} {index : Nat} (hown : s.vm.findClass own = some m.cls) (w1 : (Jvm.Cond.methodLink own index ⟨ad, "clone", "()Ljava/lang/Object;"⟩).before a0 Z = true) (w2 : (Jvm.Cond.sameMethod ad "java/lang/Object" "clone" "()Ljava/lang/Object;").before a0 Z = true) (w3 : (Jvm.Cond.native ⟨"java/lang/Object", "clone", "()Ljava/lang/Object;"⟩).before a0 Z = true) (w4 : (Jvm.Cond.instanceMethod ⟨"java/lang/Object", "clone", "()Ljava/lang/Object;"⟩).before a0 Z = true) (w5 : (Jvm.Cond.selects ad ⟨ad, "clone", "()Ljava/lang/Object;"⟩ ⟨"java/lang/Object", "clone", "()Ljava/lang/Object;"⟩).before a0 Z = true) (w6 : (Jvm.Cond.castable ad "java/lang/Cloneable").before a0 Z = true) (eT : T.heap = h) {a : Addr} {cl : Cell} {ty : FieldType} (A : Arr Z h a cl ty) (E : Exa Z h a ad) (F : FitC Z cl) (hsize : Ls.size = c.maxLocals) (hd : Dec c.code pc (.invokevirtual index) 3 pc') (hf : 1 ≤ R.frames) (W cap : Nat) (hW : (st.map fun v => v.category).sum ≤ W) (hlo : W + 14 ≤ R.locals) (hcap : cl.slots.size ≤ cap) (hc : cells + 1 ≤ R.cells) (hsl : slots + cap ≤ R.slots) (k : ∀ T' h' (b : Addr), b = h.size → Stand p l e R s m args below meth c T' locs (cells + 1) (slots + cap) → T'.heap = h' → Ext h h' → Arr Z h' b (cloneOf cl) ty → Exa Z h' b ad → Go p e below En (T'.setTop (mkF m pc' Ls (.ref b :: st)))) : Go p e below En (T.setTop (mkF m pc Ls (.ref a :: st))) := by
  obtain ⟨hd, rfl⟩ := hd
  obtain ⟨T', h', X', e', Ex, A', E', q⟩ := cloneA X hx hZ hown w1 w2 w3 w4 w5 w6 eT A E F (g := mkF m pc Ls (.ref a :: st)) rfl hsize (rest := st) rfl hd hf (W := W) (cap := cap) (by show 2 * 0 + _ ≤ _; omega) hlo hcap hc hsl
  exact own_via q (k T' h' _ rfl X' e' Ex A' E')
theorem go_castY (X : Stand p l e R s m args below meth c T locs cells slots) (hx : p.tables.exec = Jvm.exec) (hZ : Z.Warmed39 s.vm) {own K : String} {index : Nat} (hown : s.vm.findClass own = some m.cls) (w : (Jvm.Cond.classLink own index K).before a0 Z = true) (eT : T.heap = h) {a : Addr} (F : Ins Z h a K true) (hd : Dec c.code pc (.checkcast index) 3 pc') (k : ∀ T', Stand p l e R s m args below meth c T' locs cells slots → T'.heap = h → Go p e below En (T'.setTop (mkF m pc' Ls (.ref a :: st)))) : Go p e below En (T.setTop (mkF m pc Ls (.ref a :: st))) := by
  obtain ⟨hd, rfl⟩ := hd
  obtain ⟨T', X', e', q⟩ := castY X hx hZ hown w eT F (g := mkF m pc Ls (.ref a :: st)) rfl (rest := st) rfl hd
  exact own_via q (k T' X' e')
theorem go_dloadn (X : Stand p l e R s m args below meth c T locs cells slots) (hx : p.tables.exec = Jvm.exec) {k : Fin 4} {v : UInt64} (hd : Dec c.code pc (.dload_n k) 1 pc') (hl : Ls[k.val]? = some (.val (.double v))) (k : Go p e below En (T.setTop (mkF m pc' Ls (.double v :: st)))) : Go p e below En (T.setTop (mkF m pc Ls st)) := by
  obtain ⟨hd, rfl⟩ := hd
  exact own_via (fun t => XS.dloadN X.here hx rfl hd hl) k
theorem go_dload (X : Stand p l e R s m args below meth c T locs cells slots) (hx : p.tables.exec = Jvm.exec) {k : Nat} {v : UInt64} (hd : Dec c.code pc (.dload k) 2 pc') (hl : Ls[k]? = some (.val (.double v))) (k : Go p e below En (T.setTop (mkF m pc' Ls (.double v :: st)))) : Go p e below En (T.setTop (mkF m pc Ls st)) := by
  obtain ⟨hd, rfl⟩ := hd
  exact own_via (fun t => XS.dload X.here hx rfl hd hl) k
theorem go_dstoren (X : Stand p l e R s m args below meth c T locs cells slots) (hx : p.tables.exec = Jvm.exec) {k : Fin 4} {x : UInt64} (Ls' : Array Slot) (hd : Dec c.code pc (.dstore_n k) 1 pc') (hl : storeLocals Ls k.val (.double x) = some Ls') (k : Go p e below En (T.setTop (mkF m pc' Ls' st))) : Go p e below En (T.setTop (mkF m pc Ls (.double x :: st))) := by
  obtain ⟨hd, rfl⟩ := hd
  exact own_via (fun t => XS.dstoreN X.here hx rfl hd rfl hl) k
theorem go_dstore (X : Stand p l e R s m args below meth c T locs cells slots) (hx : p.tables.exec = Jvm.exec) {k : Nat} {x : UInt64} (Ls' : Array Slot) (hd : Dec c.code pc (.dstore k) 2 pc') (hl : storeLocals Ls k (.double x) = some Ls') (k : Go p e below En (T.setTop (mkF m pc' Ls' st))) : Go p e below En (T.setTop (mkF m pc Ls (.double x :: st))) := by
  obtain ⟨hd, rfl⟩ := hd
  exact own_via (fun t => XS.dstore X.here hx rfl hd rfl hl) k
theorem go_dconst0 (X : Stand p l e R s m args below meth c T locs cells slots) (hx : p.tables.exec = Jvm.exec) (v : UInt64) (hd : Dec c.code pc (.dconst 0) 1 pc') (hv : Jvm.FP.dconst0 = v) (k : Go p e below En (T.setTop (mkF m pc' Ls (.double v :: st)))) : Go p e below En (T.setTop (mkF m pc Ls st)) := by
  obtain ⟨hd, rfl⟩ := hd
  exact own_via (fun t => XS.dconst0 X.here hx rfl hd hv) k
theorem go_i2d (X : Stand p l e R s m args below meth c T locs cells slots) (hx : p.tables.exec = Jvm.exec) {x : Int32} (hd : Dec c.code pc (.i2d) 1 pc') (k : Go p e below En (T.setTop (mkF m pc' Ls (.double (Jvm.FP.i2d x) :: st)))) : Go p e below En (T.setTop (mkF m pc Ls (.int x :: st))) := by
  obtain ⟨hd, rfl⟩ := hd
  exact own_via (fun t => XS.i2dS X.here hx rfl hd rfl rfl) k
theorem go_dneg (X : Stand p l e R s m args below meth c T locs cells slots) (hx : p.tables.exec = Jvm.exec) {x : UInt64} (hd : Dec c.code pc (.dneg) 1 pc') (k : Go p e below En (T.setTop (mkF m pc' Ls (.double (Jvm.FP.dneg x) :: st)))) : Go p e below En (T.setTop (mkF m pc Ls (.double x :: st))) := by
  obtain ⟨hd, rfl⟩ := hd
  exact own_via (fun t => XS.dnegS X.here hx rfl hd rfl rfl) k
theorem go_dcmp (X : Stand p l e R s m args below meth c T locs cells slots) (hx : p.tables.exec = Jvm.exec) {o : CmpOp} {x y : UInt64} (hd : Dec c.code pc (.dcmp o) 1 pc') (k : Go p e below En (T.setTop (mkF m pc' Ls (.int (cmpValue (Jvm.FP.dcmp x y) o) :: st)))) : Go p e below En (T.setTop (mkF m pc Ls (.double y :: .double x :: st))) := by
  obtain ⟨hd, rfl⟩ := hd
  exact own_via (fun t => XS.dcmpS X.here hx rfl hd rfl rfl) k
theorem go_dadd (X : Stand p l e R s m args below meth c T locs cells slots) (hx : p.tables.exec = Jvm.exec) {x y : UInt64} (hd : Dec c.code pc (.dadd) 1 pc') (hn : Jvm.Free.Fl.NoNaN64 (Jvm.FP.dadd x y)) (k : Go p e below En (T.setTop (mkF m pc' Ls (.double (Jvm.FP.dadd x y) :: st)))) : Go p e below En (T.setTop (mkF m pc Ls (.double y :: .double x :: st))) := by
  obtain ⟨hd, rfl⟩ := hd
  exact own_via (fun t => XS.daddS X.here hx rfl hd rfl hn rfl) k
theorem go_dsub (X : Stand p l e R s m args below meth c T locs cells slots) (hx : p.tables.exec = Jvm.exec) {x y : UInt64} (hd : Dec c.code pc (.dsub) 1 pc') (hn : Jvm.Free.Fl.NoNaN64 (Jvm.FP.dsub x y)) (k : Go p e below En (T.setTop (mkF m pc' Ls (.double (Jvm.FP.dsub x y) :: st)))) : Go p e below En (T.setTop (mkF m pc Ls (.double y :: .double x :: st))) := by
  obtain ⟨hd, rfl⟩ := hd
  exact own_via (fun t => XS.dsubS X.here hx rfl hd rfl hn rfl) k
theorem go_dmul (X : Stand p l e R s m args below meth c T locs cells slots) (hx : p.tables.exec = Jvm.exec) {x y : UInt64} (hd : Dec c.code pc (.dmul) 1 pc') (hn : Jvm.Free.Fl.NoNaN64 (Jvm.FP.dmul x y)) (k : Go p e below En (T.setTop (mkF m pc' Ls (.double (Jvm.FP.dmul x y) :: st)))) : Go p e below En (T.setTop (mkF m pc Ls (.double y :: .double x :: st))) := by
  obtain ⟨hd, rfl⟩ := hd
  exact own_via (fun t => XS.dmulS X.here hx rfl hd rfl hn rfl) k
theorem go_ddiv (X : Stand p l e R s m args below meth c T locs cells slots) (hx : p.tables.exec = Jvm.exec) {x y : UInt64} (hd : Dec c.code pc (.ddiv) 1 pc') (hn : Jvm.Free.Fl.NoNaN64 (Jvm.FP.ddiv x y)) (k : Go p e below En (T.setTop (mkF m pc' Ls (.double (Jvm.FP.ddiv x y) :: st)))) : Go p e below En (T.setTop (mkF m pc Ls (.double y :: .double x :: st))) := by
  obtain ⟨hd, rfl⟩ := hd
  exact own_via (fun t => XS.ddivS X.here hx rfl hd rfl hn rfl) k
theorem go_ldc2d (X : Stand p l e R s m args below meth c T locs cells slots) (hx : p.tables.exec = Jvm.exec) (hZ : Z.Warmed39 s.vm) {own : String} {index : Nat} {v : UInt64} (hown : s.vm.findClass own = some m.cls) (w : (Jvm.Cond.constantDouble own index v).before a0 Z = true) (hd : Dec c.code pc (.ldc2_w index) 3 pc') (k : Go p e below En (T.setTop (mkF m pc' Ls (.double v :: st)))) : Go p e below En (T.setTop (mkF m pc Ls st)) := by
  obtain ⟨hd, rfl⟩ := hd
  exact own_via (fun t => X.ldc2DoubleC hx hown (mv hZ w) (g := mkF m pc Ls st) rfl hd t) k
theorem go_retD (X : Stand p l e R s m args below meth c T locs cells slots) (hx : p.tables.exec = Jvm.exec) {z : UInt64} (hret : meth.sig.returnType = some .double) (hd : Dec c.code pc .dreturn 1 pc') (hk : meth.locks = false) (hc : cells ≤ rc) (hs : slots ≤ rs) (hQ : Q (some (.double z)) T.heap locs) : Go p e below (EndN s Q rc rs) (T.setTop (mkF m pc Ls (.double z :: st))) := by
  obtain ⟨fs, hr, hrun, hended, hW, hsame⟩ := X.leave (v := (some (.double z))) (fun q => by first | rfl | (rw [hret] at q; cases q)) hk
  exact ⟨_, _, retOut X hx hret rfl (Or.inr (Or.inr (Or.inl ⟨rfl, rfl, _, rfl⟩))) hd.1 hr, hrun, hended, _, _, rfl, hQ, ⟨_, rfl⟩, hW, hsame.mono hc hs⟩
theorem go_zaload (X : Stand p l e R s m args below meth c T locs cells slots) (hx : p.tables.exec = Jvm.exec) (hZ : Z.Warmed39 s.vm) (eT : T.heap = h) {a : Addr} {cl : Cell} (A : Arr Z h a cl .boolean) {j w : Int32} (hj : ¬ (j < 0 ∨ cl.slots.size ≤ j.toNatClampNeg)) (hv : cl.slots[j.toNatClampNeg]? = some (.int w)) (hd : Dec c.code pc .baload 1 pc') (k : Go p e below En (T.setTop (mkF m pc' Ls (.int w :: st)))) : Go p e below En (T.setTop (mkF m pc Ls (.int j :: .ref a :: st))) := by
  obtain ⟨hd, rfl⟩ := hd
  exact own_via (fun t q => X.baloadBooleans hx (j := j) (v := (.int w)) (by rw [eT]; exact A.1) (State.isArrayOf_alike hZ.alike A.2.1) A.2.2 hj hv (g := mkF m pc Ls (.int j :: .ref a :: st)) rfl rfl hd _ q) k
theorem go_zaloadV (X : Stand p l e R s m args below meth c T locs cells slots) (hx : p.tables.exec = Jvm.exec) (hZ : Z.Warmed39 s.vm) (eT : T.heap = h) {a : Addr} {kc : ClassId} {z : Int32} {vs : List Value} {d : Value} (F : Arv Z h a kc .boolean z vs d) {j : Int32} {w : Int32} (q : ¬ j < 0 ∧ j < z) (hv : vs.getD j.toNatClampNeg d = .int w) (hd : Dec c.code pc .baload 1 pc') (k : Go p e below En (T.setTop (mkF m pc' Ls (.int w :: st)))) : Go p e below En (T.setTop (mkF m pc Ls (.int j :: .ref a :: st))) := by
  obtain ⟨c1, A, q1, S, q3, H, G⟩ := F
  have hin := inb_of S q
  exact go_zaload X hx hZ eT A hin (by rw [H _ (Nat.lt_of_not_le fun r => hin (Or.inr r)), hv]) hd k
theorem go_zastoreV (X : Stand p l e R s m args below meth c T locs cells slots) (hx : p.tables.exec = Jvm.exec) (hZ : Z.Warmed39 s.vm) (eT : T.heap = h) {a : Addr} {kc : ClassId} {z : Int32} {vs : List Value} {d : Value} (F : Arv Z h a kc .boolean z vs d) {j : Int32} {x : Int32} (q : ¬ j < 0 ∧ j < z) (i : Nat) (hj : j.toNatClampNeg = i) (hl : i < vs.length) (hd : Dec c.code pc .bastore 1 pc') (k : ∀ T' h', Stand p l e R s m args below meth c T' (locs ++ [⟨a, j.toNatClampNeg⟩]) cells slots → T'.heap = h' → Wr h h' a j.toNatClampNeg (.int (nar .boolean x)) → Arv Z h' a kc .boolean z (vs.set i (.int (nar .boolean x))) d → Go p e below En (T'.setTop (mkF m pc' Ls st))) : Go p e below En (T.setTop (mkF m pc Ls (.int x :: .int j :: .ref a :: st))) := by
  obtain ⟨c1, A, q1, S, q3, H, G⟩ := F
  exact go_zastore X hx hZ eT A (inb_of S q) hd (fun T' h' X' e' W => k T' h' X' e' W (Arv.set A q1 S q3 H G (fits_nar_bool _) W i hj hl))
end OwnGo
def own_b (P : Prop) [Decidable P] : Int32 := if P then 1 else 0
theorem own_b0 {P : Prop} [Decidable P] : own_b P = 0 ↔ ¬ P := by unfold own_b; by_cases h : P <;> simp [h]
theorem own_bT {P : Prop} [Decidable P] (h : P) : own_b P = 1 := by unfold own_b; simp [h]
theorem own_bF {P : Prop} [Decidable P] (h : ¬ P) : own_b P = 0 := by unfold own_b; simp [h]
theorem own_bC {P Q : Prop} [Decidable P] [Decidable Q] (h : P ↔ Q) : own_b P = own_b Q := by unfold own_b; by_cases q : P <;> simp [q, h.symm] <;> simp [← h, q]

theorem own_sgn {s t : Bool} {A B c : Nat} {e q : Int} (hB : 0 < B) (h : Jvm.FP.Core.roundRatio Jvm.FP.Core.b64 s A B e = .fin t c q) : t = s := by
  unfold Jvm.FP.Core.roundRatio at h
  split at h
  · cases h; rfl
  · rename_i hA
    exact (Jvm.FP.Core.settle_value Jvm.FP.Core.good_b64 (e0 := Jvm.FP.Core.quantum Jvm.FP.Core.b64 A B e) (Jvm.FP.Core.nearest_units_le (by omega) hB e) h (Int.le_refl _)).1
theorem own_finite {s : Bool} {A B : Nat} {e : Int} (hB : 0 < B) (he : -1200 ≤ e) (h : Jvm.FP.Core.inUnits A e (-1200) < 2 ^ 2000) : ∃ c q, Jvm.FP.Core.roundRatio Jvm.FP.Core.b64 s A B e = .fin s c q := by
  have hi := Jvm.FP.Core.roundRatio_inf Jvm.FP.Core.good_b64 (s := s) (A := A) (B := B) (e := e) (e0 := -1200) hB (by decide) he
  have hno : ¬ Jvm.FP.Core.roundRatio Jvm.FP.Core.b64 s A B e = .inf s := fun q => by
    have h1 := hi.mp q
    have h2 : 2 ^ 2000 ≤ (2 ^ (Jvm.FP.Core.b64.p + 1) - 1) * 2 ^ (Jvm.FP.Core.b64.qmax - 1 - (-1200)).toNat := by decide +kernel
    have h3 := Nat.le_mul_of_pos_right ((2 ^ (Jvm.FP.Core.b64.p + 1) - 1) * 2 ^ (Jvm.FP.Core.b64.qmax - 1 - (-1200)).toNat) hB
    omega
  have hs : ∀ (t : Bool) (m : Nat) (r : Int), Jvm.FP.Core.settle Jvm.FP.Core.b64 t m r = .inf t ∨ ∃ c q, Jvm.FP.Core.settle Jvm.FP.Core.b64 t m r = .fin t c q := fun t m r => by
    unfold Jvm.FP.Core.settle Jvm.FP.Core.bound
    split <;> split <;> first | exact Or.inr ⟨_, _, rfl⟩ | exact Or.inl rfl
  by_cases hA : A = 0
  · exact ⟨_, _, by unfold Jvm.FP.Core.roundRatio; rw [if_pos hA]⟩
  · have e1 : Jvm.FP.Core.roundRatio Jvm.FP.Core.b64 s A B e = Jvm.FP.Core.roundAt Jvm.FP.Core.b64 s A B e (Jvm.FP.Core.quantum Jvm.FP.Core.b64 A B e) := by
      unfold Jvm.FP.Core.roundRatio; rw [if_neg hA]
    rcases hs s (Jvm.FP.Core.nearest (Jvm.FP.Core.unitsNum A e (Jvm.FP.Core.quantum Jvm.FP.Core.b64 A B e)) (Jvm.FP.Core.unitsDen B e (Jvm.FP.Core.quantum Jvm.FP.Core.b64 A B e))) (Jvm.FP.Core.quantum Jvm.FP.Core.b64 A B e) with q | ⟨c, q, q1⟩
    · exact absurd (e1.trans q) hno
    · exact ⟨c, q, e1.trans q1⟩
theorem own_rel {s t : Bool} {A B c : Nat} {e q : Int} (hA : 0 < A) (hB : 0 < B) (he : -1200 ≤ e) (hbig : ¬ Jvm.FP.Core.Below A B (-1021 - e)) (h : Jvm.FP.Core.roundRatio Jvm.FP.Core.b64 s A B e = .fin t c q) : Jvm.FP.Core.distance A B e c q (-1200) * 9007199254740992 ≤ Jvm.FP.Core.inUnits A e (-1200) := by
  unfold Jvm.FP.Core.roundRatio at h
  rw [if_neg (by omega)] at h
  unfold Jvm.FP.Core.roundAt at h
  have g1 := Jvm.FP.Core.quantum_ge Jvm.FP.Core.b64 A B e
  have g2 := Jvm.FP.Core.nearest_units_le (f := Jvm.FP.Core.b64) hA hB e
  have g3 := Jvm.FP.Core.quantum_not_below (f := Jvm.FP.Core.b64) hA hB e
  have g4 := Jvm.FP.Core.quantum_below (f := Jvm.FP.Core.b64) hA hB e
  generalize Jvm.FP.Core.quantum Jvm.FP.Core.b64 A B e = r at h g1 g2 g3 g4
  have hqm : Jvm.FP.Core.b64.qmin = -1074 := by decide
  have hp : (Jvm.FP.Core.b64.p : Int) = 53 := by decide
  rw [hqm] at g1 g3
  rw [hp] at g3 g4
  have g5 : ¬ Jvm.FP.Core.Below A B (r - e + (52 : Nat)) := by
    rcases g3 with g3 | g3
    · subst g3
      exact absurd (by rw [show (-1074 : Int) - e + 53 = -1021 - e by omega] at g4; exact g4) hbig
    · rw [show r - e + ((53 : Int) - 1) = r - e + (52 : Nat) by omega] at g3; exact g3
  rw [← Jvm.FP.Core.units_below] at g5
  have hv := (Jvm.FP.Core.settle_value Jvm.FP.Core.good_b64 (e0 := -1200) g2 h (by omega)).2
  have hDp := Jvm.FP.Core.unitsDen_pos hB e r
  obtain ⟨n1, n2, -⟩ := Jvm.FP.Core.nearest_spec (Jvm.FP.Core.unitsNum A e r) (Jvm.FP.Core.unitsDen B e r) hDp
  have ha : Jvm.FP.Core.inUnits A e (-1200) = Jvm.FP.Core.unitsNum A e r * 2 ^ (min e r - (-1200)).toNat := by
    unfold Jvm.FP.Core.inUnits Jvm.FP.Core.unitsNum
    rw [show (e - (-1200)).toNat = (e - r).toNat + (min e r - (-1200)).toNat by omega, Nat.pow_add, Nat.mul_assoc]
  have hD : B * 2 ^ (r - (-1200)).toNat = Jvm.FP.Core.unitsDen B e r * 2 ^ (min e r - (-1200)).toNat := by
    unfold Jvm.FP.Core.unitsDen
    rw [show (r - (-1200)).toNat = (r - e).toNat + (min e r - (-1200)).toNat by omega, Nat.pow_add, Nat.mul_assoc]
  unfold Jvm.FP.Core.distance
  rw [hv, ha]
  generalize Jvm.FP.Core.nearest (Jvm.FP.Core.unitsNum A e r) (Jvm.FP.Core.unitsDen B e r) = m at n1 n2 ⊢
  have hm : ((Jvm.FP.Core.inUnits m r (-1200) : Nat) : Int) * (B : Int) = ((m * Jvm.FP.Core.unitsDen B e r : Nat) : Int) * ((2 ^ (min e r - (-1200)).toNat : Nat) : Int) := by
    rw [← Int.natCast_mul, ← Int.natCast_mul]
    congr 1
    unfold Jvm.FP.Core.inUnits
    rw [Nat.mul_assoc m (Jvm.FP.Core.unitsDen B e r), ← hD]; ac_rfl
  rw [hm]
  generalize Jvm.FP.Core.unitsNum A e r = N at n1 n2 g5 ⊢
  generalize Jvm.FP.Core.unitsDen B e r = D at n1 n2 g5 ⊢
  generalize 2 ^ (min e r - (-1200)).toNat = k
  have e1 : (2 * m + 1) * D = 2 * (m * D) + D := by rw [Nat.add_mul, Nat.one_mul, Nat.mul_assoc]
  have e2 : 2 * m * D = 2 * (m * D) := Nat.mul_assoc ..
  rw [e1] at n1
  rw [e2] at n2
  generalize m * D = p at n1 n2 ⊢
  rw [Int.natCast_mul, ← Int.sub_mul, Int.natAbs_mul, Int.natAbs_natCast, Nat.mul_right_comm]
  refine Nat.mul_le_mul_right k ?_
  have g6 : 4503599627370496 * D ≤ N := by
    have := Nat.le_of_not_lt g5
    rw [show (2 : Nat) ^ 52 = 4503599627370496 from by decide +kernel] at this
    exact this
  omega
theorem own_crude {s t : Bool} {A c : Nat} {e q : Int} (he : -1200 ≤ e) (h : Jvm.FP.Core.roundRatio Jvm.FP.Core.b64 s A 1 e = .fin t c q) : Jvm.FP.Core.inUnits c q (-1200) ≤ 2 * Jvm.FP.Core.inUnits A e (-1200) := by
  have h1 := Jvm.FP.Core.roundRatio_nearest Jvm.FP.Core.good_b64 (c' := 0) (q' := -1074) (e0 := -1200) (by decide) h (by decide) (by decide) (by decide) he
  unfold Jvm.FP.Core.distance at h1
  have z : Jvm.FP.Core.inUnits 0 (-1074) (-1200) = 0 := by unfold Jvm.FP.Core.inUnits; rw [Nat.zero_mul]
  rw [z] at h1
  generalize Jvm.FP.Core.inUnits c q (-1200) = x at h1 ⊢
  generalize Jvm.FP.Core.inUnits A e (-1200) = y at h1 ⊢
  simp only [Int.natCast_one, Int.mul_one] at h1
  omega
theorem own_exact {s t : Bool} {A B c c' : Nat} {e q q' : Int} (hB : 0 < B) (he : -1200 ≤ e) (hc : c' < 2 ^ 53) (hq : -1074 ≤ q') (hv : Jvm.FP.Core.inUnits A e (-1200) = Jvm.FP.Core.inUnits c' q' (-1200) * B) (h : Jvm.FP.Core.roundRatio Jvm.FP.Core.b64 s A B e = .fin t c q) : Jvm.FP.Core.inUnits c q (-1200) * B = Jvm.FP.Core.inUnits A e (-1200) := by
  have h1 := Jvm.FP.Core.roundRatio_nearest Jvm.FP.Core.good_b64 (c' := c') (q' := q') (e0 := -1200) hB h hc (by rw [show Jvm.FP.Core.b64.qmin = -1074 from by decide]; exact hq) (by decide) he
  unfold Jvm.FP.Core.distance at h1
  rw [hv, ← Int.natCast_mul, ← Int.natCast_mul] at h1
  rw [hv]
  generalize Jvm.FP.Core.inUnits c q (-1200) * B = x at h1 ⊢
  generalize Jvm.FP.Core.inUnits c' q' (-1200) * B = y at h1 ⊢
  omega
def own_is (x : UInt64) (n : Nat) : Prop := ∃ c q, Jvm.FP.Core.val64 x = .fin false c q ∧ -1074 ≤ q ∧ q ≤ 971 ∧ Jvm.FP.Core.inUnits c q (-1200) = n
theorem own_fitq {s : Bool} {c : Nat} {q : Int} {x : UInt64} (h : Jvm.FP.Core.val64 x = .fin s c q) : c < 2 ^ 53 ∧ -1074 ≤ q ∧ q ≤ 971 := by
  have f := Jvm.FP.Core.val64_fits x
  rw [h] at f
  obtain ⟨h1, h2, h3, -⟩ := f
  refine ⟨h1, ?_, ?_⟩
  · rw [show Jvm.FP.Core.b64.qmin = -1074 from by decide] at h2; exact h2
  · rw [show Jvm.FP.Core.b64.qmax = 971 from by decide] at h3; exact h3
theorem own_pw {r c : Nat} {q : Int} (hq : -1074 ≤ q) (h : Jvm.FP.Core.inUnits c q (-1200) = r * 2 ^ 1200) : r * 2 ^ (-q).toNat = c * 2 ^ q.toNat := by
  unfold Jvm.FP.Core.inUnits at h
  have e1 : 1200 + q.toNat = (q - -1200).toNat + (-q).toNat := by omega
  have h2 : c * 2 ^ (1200 + q.toNat) = r * 2 ^ (1200 + (-q).toNat) := by
    rw [e1, Nat.pow_add, ← Nat.mul_assoc, h, Nat.pow_add, Nat.mul_assoc]
  rw [Nat.pow_add, Nat.pow_add] at h2
  have h3 : 2 ^ 1200 * (c * 2 ^ q.toNat) = 2 ^ 1200 * (r * 2 ^ (-q).toNat) := by
    rw [Nat.mul_left_comm, h2, Nat.mul_left_comm]
  exact (Nat.eq_of_mul_eq_mul_left (Nat.two_pow_pos _) h3).symm
/-- a quotient by a whole number -/
theorem own_quo {x y : UInt64} {c : Nat} {q : Int} {r : Nat} (hr : 0 < r) (hx : Jvm.FP.Core.val64 x = .fin false c q) (hy : own_is y (r * 2 ^ 1200)) : Jvm.FP.Core.val64 (Jvm.FP.Core.ddiv x y) = Jvm.FP.Core.roundRatio Jvm.FP.Core.b64 false c r q := by
  obtain ⟨d, u, h1, h2, h3, h4⟩ := hy
  have h5 := own_pw h2 h4
  have hd : 0 < d := by
    rcases Nat.eq_zero_or_pos d with z | z
    · rw [z, Nat.zero_mul] at h5
      have := Nat.mul_pos hr (Nat.two_pow_pos (-u).toNat)
      omega
    · exact z
  rw [Jvm.FP.Core.val64_ddiv, hx, h1]
  show (if d = 0 then _ else Jvm.FP.Core.roundRatio Jvm.FP.Core.b64 (false != false) c d (q - u)) = _
  rw [if_neg (by omega)]
  refine Jvm.FP.Core.roundRatio_congr hd hr ?_
  rw [show q - u - q = -u by omega, show q - (q - u) = u by omega, Nat.mul_assoc, h5, Nat.mul_assoc]
theorem own_i2d {a : Int32} {n : Nat} (h : a.toInt = n) : own_is (Jvm.FP.Core.i2d a) (n * 2 ^ 1200) := by
  have h0 := rng32 a
  have e := Jvm.FP.Core.val64_i2d a
  have e2 : Jvm.FP.Core.round Jvm.FP.Core.b64 (Jvm.FP.Core.ofInt a.toInt) = Jvm.FP.Core.roundRatio Jvm.FP.Core.b64 false n 1 0 := by
    rw [h]
    show Jvm.FP.Core.roundRatio Jvm.FP.Core.b64 (decide ((n : Int) < 0)) (n : Int).natAbs 1 0 = _
    rw [Int.natAbs_natCast, show decide ((n : Int) < 0) = false from decide_eq_false (by omega)]
  rw [e2] at e
  have hn : n < 2 ^ 53 := by
    have : n < 2147483648 := by omega
    exact Nat.lt_trans this (by decide)
  have hu : Jvm.FP.Core.inUnits n 0 (-1200) = n * 2 ^ 1200 := rfl
  have hb : Jvm.FP.Core.inUnits n 0 (-1200) < 2 ^ 2000 := by
    rw [hu]
    calc n * 2 ^ 1200 < 2 ^ 53 * 2 ^ 1200 := Nat.mul_lt_mul_of_pos_right hn (Nat.two_pow_pos _)
      _ < 2 ^ 2000 := by decide +kernel
  obtain ⟨c, q, hf⟩ := own_finite (s := false) (A := n) (B := 1) (e := 0) (by decide) (by decide) hb
  rw [hf] at e
  obtain ⟨-, f2, f3⟩ := own_fitq e
  refine ⟨c, q, e, f2, f3, ?_⟩
  have := own_exact (c' := n) (q' := 0) (by decide) (by decide) hn (by decide) (by rw [Nat.mul_one]) hf
  rw [Nat.mul_one] at this
  rw [this, hu]
theorem own_prod {y : UInt64} {r : Nat} (hr : r < 2 ^ 31) (hy : own_is y (r * 2 ^ 1200)) : own_is (Jvm.FP.Core.dmul 4633641066610819072 y) (60 * r * 2 ^ 1200) := by
  obtain ⟨d, u, h1, h2, h3, h4⟩ := hy
  have k : Jvm.FP.Core.val64 4633641066610819072 = .fin false 8444249301319680 (-47) := by decide +kernel
  have e := Jvm.FP.Core.val64_dmul 4633641066610819072 y
  rw [k, h1] at e
  have e' : Jvm.FP.Core.val64 (Jvm.FP.Core.dmul 4633641066610819072 y) = Jvm.FP.Core.roundRatio Jvm.FP.Core.b64 false (8444249301319680 * d) 1 (-47 + u) := e
  have hv : Jvm.FP.Core.inUnits (8444249301319680 * d) (-47 + u) (-1200) = 60 * r * 2 ^ 1200 := by
    unfold Jvm.FP.Core.inUnits at h4 ⊢
    rw [Nat.mul_assoc 60, ← h4, show (u - -1200).toNat = 47 + (-47 + u - -1200).toNat by omega, Nat.pow_add, show (8444249301319680 : Nat) = 60 * 2 ^ 47 by decide]
    ac_rfl
  have hs : 60 * r < 2 ^ 53 := by omega
  have hb : Jvm.FP.Core.inUnits (8444249301319680 * d) (-47 + u) (-1200) < 2 ^ 2000 := by
    rw [hv]
    calc 60 * r * 2 ^ 1200 < 2 ^ 53 * 2 ^ 1200 := Nat.mul_lt_mul_of_pos_right hs (Nat.two_pow_pos _)
      _ < 2 ^ 2000 := by decide +kernel
  obtain ⟨c, q, hf⟩ := own_finite (s := false) (A := 8444249301319680 * d) (B := 1) (e := -47 + u) (by decide) (by omega) hb
  rw [hf] at e'
  obtain ⟨-, f2, f3⟩ := own_fitq e'
  refine ⟨c, q, e', f2, f3, ?_⟩
  have hu : Jvm.FP.Core.inUnits (60 * r) 0 (-1200) = 60 * r * 2 ^ 1200 := rfl
  have := own_exact (c' := 60 * r) (q' := 0) (by decide) (by omega) hs (by decide) (by rw [Nat.mul_one, hv, hu]) hf
  rw [Nat.mul_one] at this
  rw [this, hv]
theorem own_le {a b : UInt64} {s : Bool} {c c' : Nat} {q q' : Int} (ha : Jvm.FP.Core.val64 a = .fin s c q) (hb : Jvm.FP.Core.val64 b = .fin false c' q') (h : Jvm.FP.Core.inUnits c q (-1200) ≤ Jvm.FP.Core.inUnits c' q' (-1200)) : ¬ 0 < cmpValue (Jvm.FP.dcmp a b) .g := by
  obtain ⟨-, a2, a3⟩ := own_fitq ha
  obtain ⟨-, b2, b3⟩ := own_fitq hb
  have e : Jvm.FP.dcmp a b = some (compare (Jvm.FP.Core.signed s (Jvm.FP.Core.inUnits c q (min q q'))) (Jvm.FP.Core.signed false (Jvm.FP.Core.inUnits c' q' (min q q')))) := by
    show Jvm.FP.Core.order (Jvm.FP.Core.val64 a) (Jvm.FP.Core.val64 b) = _
    rw [ha, hb]; rfl
  have h1 := Jvm.FP.Core.inUnits_move c (q := q) (r := min q q') (e := -1200) (by omega) (by omega)
  have h2 := Jvm.FP.Core.inUnits_move c' (q := q') (r := min q q') (e := -1200) (by omega) (by omega)
  rw [h1, h2] at h
  have h3 := Nat.le_of_mul_le_mul_right h (Nat.two_pow_pos _)
  rw [e]
  generalize Jvm.FP.Core.inUnits c q (min q q') = x at h3 ⊢
  generalize Jvm.FP.Core.inUnits c' q' (min q q') = y at h3 ⊢
  have h4 : Jvm.FP.Core.signed s x ≤ (y : Int) := by
    unfold Jvm.FP.Core.signed
    split <;> omega
  show ¬ 0 < cmpValue (some (compare (Jvm.FP.Core.signed s x) (y : Int))) .g
  rw [cmpV_g]
  cases hc : compare (Jvm.FP.Core.signed s x) (y : Int) with
  | lt => decide
  | eq => decide
  | gt => exact absurd (Int.compare_eq_gt.mp hc) (by omega)
theorem own_near {X Y C N r : Nat} (hr : 0 < r) (h1 : ((C : Int) - (X : Int) * (r : Int)).natAbs * 9007199254740992 ≤ C) (h2 : ((N : Int) - (Y : Int) * ((60 * r : Nat) : Int)).natAbs * 9007199254740992 ≤ N) (h3 : ((60 * C : Nat) - (N : Int) : Int).natAbs * 1099511627776 ≤ N) : ((X : Int) - Y).natAbs * 4294967296 ≤ Y := by
  have e1 : (X : Int) * (r : Int) = ((X * r : Nat) : Int) := by rw [Int.natCast_mul]
  have e2 : (Y : Int) * ((60 * r : Nat) : Int) = ((60 * (Y * r) : Nat) : Int) := by
    rw [← Int.natCast_mul]; congr 1; ac_rfl
  rw [e1] at h1
  rw [e2] at h2
  have key : ((X * r : Nat) - (Y * r : Nat) : Int).natAbs * 4294967296 ≤ Y * r := by
    generalize X * r = P at h1 ⊢
    generalize Y * r = Q at h2 ⊢
    obtain ⟨d1, hd1⟩ : ∃ d, ((C : Int) - (P : Nat)).natAbs = d := ⟨_, rfl⟩
    obtain ⟨d2, hd2⟩ : ∃ d, ((N : Int) - ((60 * Q : Nat) : Int)).natAbs = d := ⟨_, rfl⟩
    obtain ⟨d3, hd3⟩ : ∃ d, (((60 * C : Nat) : Int) - (N : Int)).natAbs = d := ⟨_, rfl⟩
    obtain ⟨t, ht⟩ : ∃ d, ((P : Int) - (Q : Nat)).natAbs = d := ⟨_, rfl⟩
    rw [hd1] at h1
    rw [hd2] at h2
    rw [hd3] at h3
    rw [ht]
    have k1 : d1 * 4294967296 * 16 ≤ C := by
      rw [Nat.mul_assoc]; exact Nat.le_trans (Nat.mul_le_mul_left d1 (by decide)) h1
    have k2 : d2 * 4294967296 * 16 ≤ N := by
      rw [Nat.mul_assoc]; exact Nat.le_trans (Nat.mul_le_mul_left d2 (by decide)) h2
    have k3 : d3 * 4294967296 * 16 ≤ N := by
      rw [Nat.mul_assoc]; exact Nat.le_trans (Nat.mul_le_mul_left d3 (by decide)) h3
    have l2 : d2 ≤ d2 * 4294967296 := Nat.le_mul_of_pos_right _ (by decide)
    have l3 : d3 ≤ d3 * 4294967296 := Nat.le_mul_of_pos_right _ (by decide)
    have m0 : 60 * t ≤ d2 + d3 + 60 * d1 := by omega
    have m1 : 60 * (t * 4294967296) ≤ d2 * 4294967296 + d3 * 4294967296 + 60 * (d1 * 4294967296) := by
      have := Nat.mul_le_mul_right 4294967296 m0
      rw [Nat.add_mul, Nat.add_mul, Nat.mul_assoc, Nat.mul_assoc] at this
      exact this
    have m2 : 60 * C ≤ N + d3 := by omega
    have m3 : N ≤ 60 * Q + d2 := by omega
    clear h1 h2 h3 hd1 hd2 hd3 ht m0 e1 e2
    obtain ⟨D1, hD1⟩ : ∃ D, d1 * 4294967296 = D := ⟨_, rfl⟩
    obtain ⟨D2, hD2⟩ : ∃ D, d2 * 4294967296 = D := ⟨_, rfl⟩
    obtain ⟨D3, hD3⟩ : ∃ D, d3 * 4294967296 = D := ⟨_, rfl⟩
    obtain ⟨T, hT⟩ : ∃ D, t * 4294967296 = D := ⟨_, rfl⟩
    rw [hD1] at k1 m1
    rw [hD2] at k2 l2 m1
    rw [hD3] at k3 l3 m1
    rw [hT] at m1 ⊢
    clear hD1 hD2 hD3 hT
    omega
  rw [Int.natCast_mul, Int.natCast_mul, ← Int.sub_mul, Int.natAbs_mul, Int.natAbs_natCast, Nat.mul_right_comm] at key
  exact Nat.le_of_mul_le_mul_right key hr
theorem own_nn {x : UInt64} {s : Bool} {c : Nat} {q : Int} (h : Jvm.FP.Core.val64 x = .fin s c q) : Jvm.Free.Fl.NoNaN64 x := by
  refine Jvm.Free.Fl.noNaN64_no.mpr ?_
  show decide (Jvm.FP.Core.val64 x = .nan) = false
  rw [h]; rfl
theorem own_calc {S R D N K : UInt64} {c num r : Nat} {q : Int} (hS : Jvm.FP.Core.val64 S = .fin false c q) (hc : 0 < c) (hq : -200 ≤ q) (hq2 : q ≤ 60) (hr : 0 < r) (hr2 : r < 2 ^ 31) (hn : 0 < num) (hn2 : num < 2 ^ 20) (hR : own_is R (r * 2 ^ 1200)) (hD : own_is D (60 * r * 2 ^ 1200)) (hN : own_is N (num * 2 ^ 1200)) (hK : own_is K (1073741824 * 2 ^ 1200)) (h3 : (((60 * Jvm.FP.Core.inUnits c q (-1200) : Nat) : Int) - ((num * 2 ^ 1200 : Nat) : Int)).natAbs * 1099511627776 ≤ num * 2 ^ 1200) :
    Jvm.Free.Fl.NoNaN64 (Jvm.FP.ddiv S R) ∧ Jvm.Free.Fl.NoNaN64 (Jvm.FP.ddiv N D) ∧ Jvm.Free.Fl.NoNaN64 (Jvm.FP.ddiv (Jvm.FP.ddiv N D) K) ∧ Jvm.Free.Fl.NoNaN64 (Jvm.FP.dsub (Jvm.FP.ddiv S R) (Jvm.FP.ddiv N D)) ∧ ¬ 0 < cmpValue (Jvm.FP.dcmp (Jvm.FP.dsub (Jvm.FP.ddiv S R) (Jvm.FP.ddiv N D)) (Jvm.FP.ddiv (Jvm.FP.ddiv N D) K)) .g ∧ ¬ 0 < cmpValue (Jvm.FP.dcmp (Jvm.FP.dneg (Jvm.FP.dsub (Jvm.FP.ddiv S R) (Jvm.FP.ddiv N D))) (Jvm.FP.ddiv (Jvm.FP.ddiv N D) K)) .g := by
  have p12 : (2 : Nat) ^ 53 * 2 ^ 1260 < 2 ^ 2000 := by decide +kernel
  obtain ⟨hcl, -, -⟩ := own_fitq hS
  -- the first quotient
  have a1 := own_quo hr hS hR
  have bC : Jvm.FP.Core.inUnits c q (-1200) < 2 ^ 2000 := by
    unfold Jvm.FP.Core.inUnits
    refine Nat.lt_of_le_of_lt (Nat.mul_le_mul (Nat.le_of_lt hcl) (Nat.pow_le_pow_right (by decide) (show (q - -1200).toNat ≤ 1260 by omega))) p12
  obtain ⟨ca, qa, a2⟩ := own_finite (s := false) hr (by omega) bC
  have a3 := own_rel hc hr (by omega) (by
    unfold Jvm.FP.Core.Below
    rw [show (-1021 - q).toNat = 0 by omega, Nat.pow_zero, Nat.mul_one]
    have h5 : 2 ^ 31 ≤ 2 ^ (-(-1021 - q)).toNat := Nat.pow_le_pow_right (by decide) (by omega)
    have h6 : 1 * 2 ^ (-(-1021 - q)).toNat ≤ c * 2 ^ (-(-1021 - q)).toNat := Nat.mul_le_mul_right _ hc
    omega) a2
  rw [a2] at a1
  -- the second
  obtain ⟨cn, qn, n1, n2, n3, n4⟩ := hN
  have b0 : 0 < 60 * r := by omega
  have b1 := own_quo b0 n1 hD
  have n5 := own_pw n2 n4
  have b1' : Jvm.FP.Core.roundRatio Jvm.FP.Core.b64 false cn (60 * r) qn = Jvm.FP.Core.roundRatio Jvm.FP.Core.b64 false num (60 * r) 0 := by
    refine Jvm.FP.Core.roundRatio_congr b0 b0 ?_
    rw [show qn - 0 = qn by omega, show 0 - qn = -qn by omega, Nat.mul_right_comm, ← n5, Nat.mul_right_comm]
  rw [b1'] at b1
  have uN : Jvm.FP.Core.inUnits num 0 (-1200) = num * 2 ^ 1200 := rfl
  have bN : Jvm.FP.Core.inUnits num 0 (-1200) < 2 ^ 2000 := by
    rw [uN]
    calc num * 2 ^ 1200 < 2 ^ 20 * 2 ^ 1200 := Nat.mul_lt_mul_of_pos_right hn2 (Nat.two_pow_pos _)
      _ < 2 ^ 2000 := by decide +kernel
  obtain ⟨cr, qr, b2⟩ := own_finite (s := false) b0 (by decide) bN
  have b3 := own_rel hn b0 (by decide) (by
    unfold Jvm.FP.Core.Below
    rw [show (-1021 - 0 : Int).toNat = 0 by decide, Nat.pow_zero, Nat.mul_one]
    have h5 : 2 ^ 38 ≤ 2 ^ (-(-1021 - 0) : Int).toNat := Nat.pow_le_pow_right (by decide) (by decide)
    have h6 : 1 * 2 ^ (-(-1021 - 0) : Int).toNat ≤ num * 2 ^ (-(-1021 - 0) : Int).toNat := Nat.mul_le_mul_right _ hn
    omega) b2
  rw [b2] at b1
  unfold Jvm.FP.Core.distance at a3 b3
  rw [uN] at b3
  have near := own_near (X := Jvm.FP.Core.inUnits ca qa (-1200)) (Y := Jvm.FP.Core.inUnits cr qr (-1200)) hr a3 b3 h3
  obtain ⟨-, a5, a6⟩ := own_fitq a1
  obtain ⟨b4, b5, b6⟩ := own_fitq b1
  -- how great the second is
  have big : -1044 ≤ qr := by
    by_cases z : -1044 ≤ qr
    · exact z
    · exfalso
      have y1 : Jvm.FP.Core.inUnits cr qr (-1200) ≤ 2 ^ 53 * 2 ^ 156 := by
        unfold Jvm.FP.Core.inUnits
        exact Nat.mul_le_mul (Nat.le_of_lt b4) (Nat.pow_le_pow_right (by decide) (by omega))
      have y2 : Jvm.FP.Core.inUnits cr qr (-1200) * (60 * r) ≤ 2 ^ 53 * 2 ^ 156 * 2 ^ 38 := Nat.mul_le_mul y1 (by omega)
      have y3 : 1 * 2 ^ 1200 ≤ num * 2 ^ 1200 := Nat.mul_le_mul_right _ hn
      have y4 : (2 : Nat) ^ 53 * 2 ^ 156 * 2 ^ 38 * 2 < 1 * 2 ^ 1200 := by decide +kernel
      rw [← Int.natCast_mul] at b3
      generalize Jvm.FP.Core.inUnits cr qr (-1200) * (60 * r) = w at y2 b3
      generalize num * 2 ^ 1200 = v at y3 b3
      generalize (2 : Nat) ^ 53 * 2 ^ 156 * 2 ^ 38 = k1 at y2 y4
      generalize 1 * 2 ^ 1200 = k2 at y3 y4
      omega
  -- the third
  have t1 := own_quo (show 0 < 1073741824 by decide) b1 hK
  have bY : Jvm.FP.Core.inUnits cr qr (-1200) < 2 ^ 2000 := by
    have y3 : num * 2 ^ 1200 < 2 ^ 1220 := by
      calc num * 2 ^ 1200 < 2 ^ 20 * 2 ^ 1200 := Nat.mul_lt_mul_of_pos_right hn2 (Nat.two_pow_pos _)
        _ = 2 ^ 1220 := by decide +kernel
    have y4 : (2 : Nat) ^ 1220 * 4 < 2 ^ 2000 := by decide +kernel
    have y5 := Nat.le_mul_of_pos_right (Jvm.FP.Core.inUnits cr qr (-1200)) b0
    rw [← Int.natCast_mul] at b3
    generalize Jvm.FP.Core.inUnits cr qr (-1200) * (60 * r) = w at y5 b3
    generalize num * 2 ^ 1200 = v at y3 b3
    generalize (2 : Nat) ^ 1220 = k1 at y3 y4
    generalize (2 : Nat) ^ 2000 = k2 at y4 ⊢
    omega
  obtain ⟨ct, qt, t2⟩ := own_finite (s := false) (A := cr) (B := 1073741824) (e := qr) (by decide) (by omega) bY
  have t3 := own_exact (c' := cr) (q' := qr - 30) (by decide) (by omega) b4 (by omega) (by
    unfold Jvm.FP.Core.inUnits
    rw [show (qr - -1200).toNat = (qr - 30 - -1200).toNat + 30 by omega, Nat.pow_add, Nat.mul_assoc]) t2
  rw [t2] at t1
  -- the difference
  have d1 := Jvm.FP.Core.val64_dsub (Jvm.FP.Core.ddiv S R) (Jvm.FP.Core.ddiv N D)
  rw [a1, b1] at d1
  have d2 : Jvm.FP.Core.val64 (Jvm.FP.Core.dsub (Jvm.FP.Core.ddiv S R) (Jvm.FP.Core.ddiv N D)) = Jvm.FP.Core.roundRatio Jvm.FP.Core.b64 (Jvm.FP.Core.sumSign false true (Jvm.FP.Core.sumUnits false ca qa true cr qr (min qa qr))) (Jvm.FP.Core.sumUnits false ca qa true cr qr (min qa qr)).natAbs 1 (min qa qr) := d1
  have d3 : Jvm.FP.Core.inUnits (Jvm.FP.Core.sumUnits false ca qa true cr qr (min qa qr)).natAbs (min qa qr) (-1200) = ((Jvm.FP.Core.inUnits ca qa (-1200) : Int) - Jvm.FP.Core.inUnits cr qr (-1200)).natAbs := by
    rw [Jvm.FP.Core.inUnits_move ca (q := qa) (r := min qa qr) (e := -1200) (by omega) (by omega), Jvm.FP.Core.inUnits_move cr (q := qr) (r := min qa qr) (e := -1200) (by omega) (by omega)]
    show ((Jvm.FP.Core.inUnits ca qa (min qa qr) : Int) + -(Jvm.FP.Core.inUnits cr qr (min qa qr) : Int)).natAbs * 2 ^ (min qa qr - -1200).toNat = _
    rw [Int.natCast_mul, Int.natCast_mul, ← Int.sub_mul, Int.natAbs_mul, Int.natAbs_natCast]
    rfl
  have bD : Jvm.FP.Core.inUnits (Jvm.FP.Core.sumUnits false ca qa true cr qr (min qa qr)).natAbs (min qa qr) (-1200) < 2 ^ 2000 := by
    rw [d3]
    generalize Jvm.FP.Core.inUnits ca qa (-1200) = x at near ⊢
    generalize Jvm.FP.Core.inUnits cr qr (-1200) = y at near bY ⊢
    generalize (2 : Nat) ^ 2000 = k2 at bY ⊢
    omega
  obtain ⟨cd, qd, d4⟩ := own_finite (s := Jvm.FP.Core.sumSign false true (Jvm.FP.Core.sumUnits false ca qa true cr qr (min qa qr))) (B := 1) (by decide) (by omega) bD
  have d5 := own_crude (by omega) d4
  rw [d3] at d5
  rw [d4] at d2
  have fin1 : Jvm.FP.Core.inUnits cd qd (-1200) ≤ Jvm.FP.Core.inUnits ct qt (-1200) := by
    generalize Jvm.FP.Core.inUnits ca qa (-1200) = x at near d5
    generalize Jvm.FP.Core.inUnits cr qr (-1200) = y at near d5 t3
    generalize Jvm.FP.Core.inUnits cd qd (-1200) = u at d5 ⊢
    generalize Jvm.FP.Core.inUnits ct qt (-1200) = v at t3 ⊢
    omega
  have ng := Jvm.FP.val64_dneg (Jvm.FP.Core.dsub (Jvm.FP.Core.ddiv S R) (Jvm.FP.Core.ddiv N D))
  rw [d2] at ng
  exact ⟨own_nn a1, own_nn b1, own_nn t1, own_nn d2, own_le d2 t1 fin1, own_le ng t1 fin1⟩
def own_z (x : Bool) : Int32 := match x with | true => 1 | false => 0
def own_go (S : UInt64) (f i : Nat) : List Bool → UInt64
  | [] => S
  | true :: bs => own_go (Jvm.FP.dadd S (Jvm.FP.ddiv (Jvm.FP.i2d (Int32.ofNat (f + 1))) (Jvm.FP.i2d (Int32.ofNat (i + 1))))) (f + 1) (i + 1) bs
  | false :: bs => own_go S f (i + 1) bs
def own_ok (S : UInt64) (f i : Nat) : List Bool → Bool
  | [] => true
  | true :: bs => !Jvm.FP.dIsNaN (Jvm.FP.ddiv (Jvm.FP.i2d (Int32.ofNat (f + 1))) (Jvm.FP.i2d (Int32.ofNat (i + 1)))) && !Jvm.FP.dIsNaN (Jvm.FP.dadd S (Jvm.FP.ddiv (Jvm.FP.i2d (Int32.ofNat (f + 1))) (Jvm.FP.i2d (Int32.ofNat (i + 1))))) && own_ok (Jvm.FP.dadd S (Jvm.FP.ddiv (Jvm.FP.i2d (Int32.ofNat (f + 1))) (Jvm.FP.i2d (Int32.ofNat (i + 1))))) (f + 1) (i + 1) bs
  | false :: bs => own_ok S f (i + 1) bs
def own_fm (f m : Int32) : List Bool → List Int32 → Int32
  | true :: bs, w :: ws => own_fm (f + 1) (m + (f + 1) * w) bs ws
  | false :: bs, _ :: ws => own_fm f m bs ws
  | _, _ => m
def own_W : List Int32 := [60, 30, 20, 15, 12, 10]
def own_sz (S : UInt64) (m : Int32) : Bool := match Jvm.FP.Core.val64 S with
  | .fin false c q => decide (0 < c ∧ -200 ≤ q ∧ q ≤ 60 ∧ 0 < m.toInt ∧ m.toInt < 1048576 ∧ (((60 * Jvm.FP.Core.inUnits c q (-1200) : Nat) : Int) - ((m.toInt.toNat * 2 ^ 1200 : Nat) : Int)).natAbs * 1099511627776 ≤ m.toInt.toNat * 2 ^ 1200)
  | _ => false
def own_T (bs : List Bool) : Bool := own_ok 0 0 0 bs && ((decide (own_go 0 0 0 bs = 0) && decide (own_fm 0 0 bs own_W = 0)) || own_sz (own_go 0 0 0 bs) (own_fm 0 0 bs own_W))
def own_allB (P : List Bool → Bool) : Nat → List Bool → Bool
  | 0, acc => P acc
  | k + 1, acc => P acc && own_allB P k (acc ++ [true]) && own_allB P k (acc ++ [false])
theorem own_all {P : List Bool → Bool} : ∀ (k : Nat) (acc : List Bool), own_allB P k acc = true → ∀ bs : List Bool, bs.length ≤ k → P (acc ++ bs) = true
  | 0, acc, h, bs, hl => by
    have : bs = [] := List.length_eq_zero_iff.mp (by omega)
    subst this
    rw [List.append_nil]; exact h
  | k + 1, acc, h, bs, hl => by
    have h' : (P acc && own_allB P k (acc ++ [true]) && own_allB P k (acc ++ [false])) = true := h
    simp only [Bool.and_eq_true] at h'
    cases bs with
    | nil => rw [List.append_nil]; exact h'.1.1
    | cons b bs =>
      have e : acc ++ b :: bs = (acc ++ [b]) ++ bs := by simp
      rw [e]
      have hl' : bs.length ≤ k := by simpa using hl
      cases b with
      | true => exact own_all k _ h'.1.2 bs hl'
      | false => exact own_all k _ h'.2 bs hl'
theorem own_tab (bs : List Bool) (h : bs.length ≤ 6) : own_T bs = true := own_all 6 [] (by decide +kernel) bs h
theorem own_zq {y : UInt64} {r : Nat} (hr : 0 < r) (hy : own_is y (r * 2 ^ 1200)) : Jvm.FP.Core.ddiv 0 y = 0 := by
  have z : Jvm.FP.Core.val64 0 = .fin false 0 (-1074) := by decide +kernel
  have h := own_quo hr z hy
  have e : Jvm.FP.Core.roundRatio Jvm.FP.Core.b64 false 0 r (-1074) = .fin false 0 (-1074) := by
    unfold Jvm.FP.Core.roundRatio
    rw [if_pos rfl]
    rw [show Jvm.FP.Core.b64.qmin = -1074 from by decide]
  rw [e] at h
  exact Jvm.FP.Core.val64_inj (by rw [h]; exact fun q => by cases q) (h.trans z.symm)
theorem own_K : own_is 4742290407621132288 (1073741824 * 2 ^ 1200) := ⟨4503599627370496, -22, by decide +kernel, by decide, by decide, by decide +kernel⟩
theorem own_is_nn {y : UInt64} {n : Nat} (h : own_is y n) : Jvm.Free.Fl.NoNaN64 y := by
  obtain ⟨c, q, h1, -⟩ := h
  exact own_nn h1
theorem own_end (bs : List Bool) (hl : bs.length ≤ 6) (r : Int32) (hr : 1 ≤ r.toInt) :
    Jvm.Free.Fl.NoNaN64 (Jvm.FP.ddiv (own_go 0 0 0 bs) (Jvm.FP.i2d r)) ∧ Jvm.Free.Fl.NoNaN64 (Jvm.FP.dmul 4633641066610819072 (Jvm.FP.i2d r)) ∧ Jvm.Free.Fl.NoNaN64 (Jvm.FP.ddiv (Jvm.FP.i2d (own_fm 0 0 bs own_W)) (Jvm.FP.dmul 4633641066610819072 (Jvm.FP.i2d r))) ∧ Jvm.Free.Fl.NoNaN64 (Jvm.FP.ddiv (Jvm.FP.ddiv (Jvm.FP.i2d (own_fm 0 0 bs own_W)) (Jvm.FP.dmul 4633641066610819072 (Jvm.FP.i2d r))) 4742290407621132288) ∧ Jvm.Free.Fl.NoNaN64 (Jvm.FP.dsub (Jvm.FP.ddiv (own_go 0 0 0 bs) (Jvm.FP.i2d r)) (Jvm.FP.ddiv (Jvm.FP.i2d (own_fm 0 0 bs own_W)) (Jvm.FP.dmul 4633641066610819072 (Jvm.FP.i2d r)))) ∧
    ¬ 0 < cmpValue (Jvm.FP.dcmp (Jvm.FP.dsub (Jvm.FP.ddiv (own_go 0 0 0 bs) (Jvm.FP.i2d r)) (Jvm.FP.ddiv (Jvm.FP.i2d (own_fm 0 0 bs own_W)) (Jvm.FP.dmul 4633641066610819072 (Jvm.FP.i2d r)))) (Jvm.FP.ddiv (Jvm.FP.ddiv (Jvm.FP.i2d (own_fm 0 0 bs own_W)) (Jvm.FP.dmul 4633641066610819072 (Jvm.FP.i2d r))) 4742290407621132288)) .g ∧
    ¬ 0 < cmpValue (Jvm.FP.dcmp (Jvm.FP.dneg (Jvm.FP.dsub (Jvm.FP.ddiv (own_go 0 0 0 bs) (Jvm.FP.i2d r)) (Jvm.FP.ddiv (Jvm.FP.i2d (own_fm 0 0 bs own_W)) (Jvm.FP.dmul 4633641066610819072 (Jvm.FP.i2d r))))) (Jvm.FP.ddiv (Jvm.FP.ddiv (Jvm.FP.i2d (own_fm 0 0 bs own_W)) (Jvm.FP.dmul 4633641066610819072 (Jvm.FP.i2d r))) 4742290407621132288)) .g := by
  have t := own_tab bs hl
  unfold own_T at t
  simp only [Bool.and_eq_true, Bool.or_eq_true, decide_eq_true_eq] at t
  obtain ⟨n, hn⟩ : ∃ n : Nat, r.toInt = n := ⟨r.toInt.toNat, by omega⟩
  have rb := rng32 r
  have hR := own_i2d hn
  have hn0 : 0 < n := by omega
  have hD := own_prod (show n < 2 ^ 31 by omega) hR
  rcases t.2 with ⟨t1, t2⟩ | t3
  · rw [t1, t2]
    have e1 : Jvm.FP.ddiv 0 (Jvm.FP.i2d r) = 0 := own_zq hn0 hR
    have e2 : Jvm.FP.i2d 0 = 0 := by decide +kernel
    have e3 : Jvm.FP.ddiv 0 (Jvm.FP.dmul 4633641066610819072 (Jvm.FP.i2d r)) = 0 := own_zq (show 0 < 60 * n by omega) hD
    have e4 : Jvm.FP.ddiv 0 4742290407621132288 = 0 := by decide +kernel
    have e5 : Jvm.FP.dsub 0 0 = 0 := by decide +kernel
    rw [e1, e2, e3, e4, e5]
    have z : Jvm.Free.Fl.NoNaN64 0 := by decide +kernel
    exact ⟨z, own_is_nn hD, z, z, z, by decide +kernel, by decide +kernel⟩
  · unfold own_sz at t3
    split at t3
    · rename_i c q hS
      simp only [decide_eq_true_eq] at t3
      obtain ⟨h1, h2, h3, h4, h5, h6⟩ := t3
      have hm : (own_fm 0 0 bs own_W).toInt = ((own_fm 0 0 bs own_W).toInt.toNat : Int) := by omega
      obtain ⟨a1, a2, a3, a4, a5, a6⟩ := own_calc hS h1 h2 h3 hn0 (show n < 2 ^ 31 by omega) (show 0 < (own_fm 0 0 bs own_W).toInt.toNat by omega) (show (own_fm 0 0 bs own_W).toInt.toNat < 2 ^ 20 by omega) hR hD (own_i2d hm) own_K h6
      exact ⟨a1, own_is_nn hD, a2, a3, a4, a5, a6⟩
    · cases t3


def own_v (x : Bool) : Value := .int (own_z x)
def own_bit (x k : Int32) : Bool := decide (¬ (x &&& k) = 0)
def own_max (x y : Int32) : Int32 := if x < y then y else x
def own_f1 (x : Bool) (f : Int32) : Int32 := match x with | true => f + 1 | false => f
def own_m1 (x : Bool) (f m w : Int32) : Int32 := match x with | true => m + (f + 1) * w | false => m
theorem own_fmc (x : Bool) (f m w : Int32) (bs : List Bool) (ws : List Int32) : own_fm f m (x :: bs) (w :: ws) = own_fm (own_f1 x f) (own_m1 x f m w) bs ws := by cases x <;> rfl
theorem own_z0 {x k : Int32} (h : (x &&& k) = 0) : own_z (own_bit x k) = 0 := by
  have : own_bit x k = false := by unfold own_bit; simp [h]
  rw [this]; rfl
theorem own_z1 {x k : Int32} (h : ¬ (x &&& k) = 0) : own_z (own_bit x k) = 1 := by
  have : own_bit x k = true := by unfold own_bit; simp [h]
  rw [this]; rfl
theorem own_b0' {x k : Int32} (h : (x &&& k) = 0) : own_bit x k = false := by unfold own_bit; simp [h]
theorem own_b1' {x k : Int32} (h : ¬ (x &&& k) = 0) : own_bit x k = true := by unfold own_bit; simp [h]
theorem own_nzb (x : Bool) : nar .boolean (own_z x) = own_z x := by cases x <;> decide
theorem own_n7 (x : Int32) : (x &&& 7) % 7 = 0 ∨ (x &&& 7) % 7 = 1 ∨ (x &&& 7) % 7 = 2 ∨ (x &&& 7) % 7 = 3 ∨ (x &&& 7) % 7 = 4 ∨ (x &&& 7) % 7 = 5 ∨ (x &&& 7) % 7 = 6 := by
  have h1 := c_mask x 7 3 (by decide) (by decide)
  have h2 := (c_iremV (x &&& 7) 7).1 (by rw [h1]; omega) (by decide)
  have h3 : (7 : Int32).toInt = 7 := rfl
  simp only [← Int32.toInt_inj, show (0 : Int32).toInt = 0 from rfl, show (1 : Int32).toInt = 1 from rfl, show (2 : Int32).toInt = 2 from rfl, show (3 : Int32).toInt = 3 from rfl, show (4 : Int32).toInt = 4 from rfl, show (5 : Int32).toInt = 5 from rfl, show (6 : Int32).toInt = 6 from rfl]
  omega
theorem own_rl (x : Int32) : 1 ≤ (own_max 1 (x &&& 2147483647)).toInt := by
  unfold own_max
  have h1 : (1 : Int32).toInt = 1 := rfl
  by_cases q : (1 : Int32) < x &&& 2147483647
  · simp only [q, if_true]
    rw [Int32.lt_iff_toInt_lt, h1] at q; omega
  · simp only [q, if_false]
    rw [h1]; omega
theorem own_lt1 {x : Int32} (h : 1 ≤ x.toInt) : ¬ x < 1 := by rw [Int32.lt_iff_toInt_lt, show (1 : Int32).toInt = 1 from rfl]; omega
theorem own_toInt {n : Nat} (h : n < 2 ^ 31) : (Int32.ofNat n).toInt = n := Int32.toInt_ofNat_small h
theorem own_clamp {n : Nat} (h : n < 2 ^ 31) : (Int32.ofNat n).toNatClampNeg = n := by
  show (Int32.ofNat n).toInt.toNat = n
  rw [own_toInt h]; rfl
theorem own_inc (n : Nat) : Int32.ofNat n + 1 = Int32.ofNat (n + 1) := by
  apply Int32.toBitVec_inj.mp
  simp
theorem own_getp (pre : List Bool) (x : Bool) (bs : List Bool) : ((pre ++ x :: bs).map own_v).getD pre.length (.int 0) = .int (own_z x) := by
  rw [List.getD_eq_getElem?_getD, List.map_append, List.getElem?_append_right (by simp)]
  simp [own_v]
theorem own_sl {Z : State} {a0 : Array Value} (hw : ∀ d ∈ tables_1, d.before a0 Z = true) : Jvm.RoadKit.slotOf Z "com/example/levance/levance/evaluation/RankedTopic" "relevantAt" "[Z" ≠ Jvm.RoadKit.slotOf Z "com/example/levance/levance/evaluation/RankedTopic" "relevant" "I" := slot_ne (C := "com/example/levance/levance/evaluation/RankedTopic") (Or.inr (hw _ (List.mem_of_getElem? (i := 25) rfl))) (Or.inr (hw _ (List.mem_of_getElem? (i := 27) rfl))) (by decide) (t := .array .boolean) (by decide) (t' := .int) (by decide)

theorem d1_0 : Dec jdk_29_method_65_code 0 (.iload_n 0) 1 1 := ⟨by decide +kernel, rfl⟩
theorem d1_1 : Dec jdk_29_method_65_code 1 (.iload_n 1) 1 2 := ⟨by decide +kernel, rfl⟩
theorem d1_2 : DecB jdk_29_method_65_code 2 (.if_icmp .lt 7) (7) 5 9 := ⟨by decide +kernel, rfl, by decide, by decide⟩
theorem d1_5 : Dec jdk_29_method_65_code 5 (.iload_n 0) 1 6 := ⟨by decide +kernel, rfl⟩
theorem d1_6 : DecB jdk_29_method_65_code 6 (.goto 4) (4) 9 10 := ⟨by decide +kernel, rfl, by decide, by decide⟩
theorem d1_9 : Dec jdk_29_method_65_code 9 (.iload_n 1) 1 10 := ⟨by decide +kernel, rfl⟩
theorem d1_10 : Dec jdk_29_method_65_code 10 (.ireturn) 1 11 := ⟨by decide +kernel, rfl⟩
theorem pn1 : plainFor (⟨"java/lang/Math", "max", "(II)I"⟩ : MethodName) = true := by first | exact plainFor_of_name (by first | (simp [plainName, overriddenIn]; done) | decide +kernel) | decide +kernel
theorem ef1 (x0 : Int32) (x1 : Int32) (m : MethodId) : entryFrame m #[(.int x0), (.int x1)] 2 = mkF m 0 #[.val (.int x0), .val (.int x1)] [] := by first | (simp [entryFrame, mkF, argsToLocals, Value.category, maxLocals]; done) | rfl
set_option maxRecDepth 65536 in
set_option maxHeartbeats 40000000 in
theorem rm1 (l : Launch) (Z : State) (a0 : Array Value) (hw : ∀ d ∈ tables_1, d.before a0 Z = true) (ws : List Jvm.Cond) (x y : Int32) (h0 : Heap)  : Ct l Z (⟨"java/lang/Math", "max", "(II)I"⟩ : MethodName) jdk_29_method_65_code 2 (some .int) ws ({ frames := 0, cells := 0, slots := 0, locals := 0 } : Room) #[(.int x), (.int y)] h0 (QP (.int (own_max x y)) h0) := by
  refine Ct.of (pn1) _ (ef1 x y) ?_
  intro p e s m below meth c T0 hx hby hml hZ hown hnm hret hk e0 X0
  show Go p e below _ (T0.setTop (mkF m 0 #[.val (.int x), .val (.int y)] []))
  refine go_iloadn X0 hx (dc hby d1_0) (v := x) rfl ?_
  refine go_iloadn X0 hx (dc hby d1_1) (v := y) rfl ?_
  refine go_icmp_lt X0 hx (db hby d1_2) (fun c2 => ?_) (fun c2 => ?_)
  · refine go_iloadn X0 hx (dc hby d1_9) (v := y) rfl ?_
    exact go_retI X0 hx hret (dc hby d1_10) hk (by decide) (by decide) ⟨congrArg (fun z => some (Value.int z)) (by simp [own_max, c2]), e0, rfl⟩
  · refine go_iloadn X0 hx (dc hby d1_5) (v := x) rfl ?_
    refine go_goto X0 hx (db hby d1_6) ?_
    exact go_retI X0 hx hret (dc hby d1_10) hk (by decide) (by decide) ⟨congrArg (fun z => some (Value.int z)) (by simp [own_max, c2]), e0, rfl⟩
theorem pd1 : parseMethodDescriptor "(II)I" = some ⟨[.int, .int], some .int⟩ := by decide +kernel
theorem d2_0 : Dec prog_4_method_1_code 0 (.aload_n 0) 1 1 := ⟨by decide +kernel, rfl⟩
theorem d2_1 : Dec prog_4_method_1_code 1 (.invokespecial 1) 3 4 := ⟨by decide +kernel, rfl⟩
theorem d2_4 : Dec prog_4_method_1_code 4 (.iload_n 2) 1 5 := ⟨by decide +kernel, rfl⟩
theorem d2_5 : Dec prog_4_method_1_code 5 (.iconst 1) 1 6 := ⟨by decide +kernel, rfl⟩
theorem d2_6 : DecB prog_4_method_1_code 6 (.if_icmp .ge 13) (13) 9 19 := ⟨by decide +kernel, rfl, by decide, by decide⟩
theorem d2_19 : Dec prog_4_method_1_code 19 (.aload_n 0) 1 20 := ⟨by decide +kernel, rfl⟩
theorem d2_20 : Dec prog_4_method_1_code 20 (.aload_n 1) 1 21 := ⟨by decide +kernel, rfl⟩
theorem d2_21 : Dec prog_4_method_1_code 21 (.invokevirtual 14) 3 24 := ⟨by decide +kernel, rfl⟩
theorem d2_24 : Dec prog_4_method_1_code 24 (.checkcast 15) 3 27 := ⟨by decide +kernel, rfl⟩
theorem d2_27 : Dec prog_4_method_1_code 27 (.putfield 20) 3 30 := ⟨by decide +kernel, rfl⟩
theorem d2_30 : Dec prog_4_method_1_code 30 (.aload_n 0) 1 31 := ⟨by decide +kernel, rfl⟩
theorem d2_31 : Dec prog_4_method_1_code 31 (.iload_n 2) 1 32 := ⟨by decide +kernel, rfl⟩
theorem d2_32 : Dec prog_4_method_1_code 32 (.putfield 25) 3 35 := ⟨by decide +kernel, rfl⟩
theorem d2_35 : Dec prog_4_method_1_code 35 (.return_) 1 36 := ⟨by decide +kernel, rfl⟩
theorem pn2 : plainFor (⟨"com/example/levance/levance/evaluation/RankedTopic", "<init>", "([ZI)V"⟩ : MethodName) = true := by first | exact plainFor_of_name (by first | (simp [plainName, overriddenIn]; done) | decide +kernel) | decide +kernel
theorem ef2 (x0 : Addr) (x1 : Addr) (x2 : Int32) (m : MethodId) : entryFrame m #[(.ref x0), (.ref x1), (.int x2)] 3 = mkF m 0 #[.val (.ref x0), .val (.ref x1), .val (.int x2)] [] := by first | (simp [entryFrame, mkF, argsToLocals, Value.category, maxLocals]; done) | rfl
set_option maxRecDepth 65536 in
set_option maxHeartbeats 40000000 in
theorem rm2 (l : Launch) (Z : State) (a0 : Array Value) (hw : ∀ d ∈ tables_1, d.before a0 Z = true) (ws : List Jvm.Cond) (a ba : Addr) (r : Int32) (kB : ClassId) (n : Int32) (vs : List Value) (h0 : Heap) (hr : 1 ≤ r.toInt) (E : Exa Z h0 a "com/example/levance/levance/evaluation/RankedTopic") (F1 : Fld Z h0 a "com/example/levance/levance/evaluation/RankedTopic" "relevantAt" "[Z" .null) (F2 : Fld Z h0 a "com/example/levance/levance/evaluation/RankedTopic" "relevant" "I" (.int 0)) (VA : Arv Z h0 ba kB .boolean n vs (.int 0)) (EB : Exa Z h0 ba "[Z") (hn : n.toNatClampNeg ≤ 6) : Ct l Z (⟨"com/example/levance/levance/evaluation/RankedTopic", "<init>", "([ZI)V"⟩ : MethodName) prog_4_method_1_code 3 none ws ({ frames := 1, cells := 1, slots := 6, locals := 15 } : Room) #[(.ref a), (.ref ba), (.int r)] h0 (fun v h L => v = none ∧ (∀ y ∈ L, y.base = a) ∧ Keep h0 h [a] ∧ Exa Z h a "com/example/levance/levance/evaluation/RankedTopic" ∧ Fld Z h a "com/example/levance/levance/evaluation/RankedTopic" "relevant" "I" (.int r) ∧ ∃ ca, Fld Z h a "com/example/levance/levance/evaluation/RankedTopic" "relevantAt" "[Z" (.ref ca) ∧ Arv Z h ca kB .boolean n vs (.int 0)) := by
  refine Ct.of (pn2) _ (ef2 a ba r) ?_
  intro p e s m below meth c T0 hx hby hml hZ hown hnm hret hk e0 X0
  show Go p e below _ (T0.setTop (mkF m 0 #[.val (.ref a), .val (.ref ba), .val (.int r)] []))
  refine go_aloadn X0 hx (dc hby d2_0) (v := (.ref a)) rfl rfl ?_
  refine go_initO X0 hx hZ hown (hw _ (List.mem_of_getElem? (i := 12) rfl)) (hw _ (List.mem_of_getElem? (i := 13) rfl)) (hw _ (List.mem_of_getElem? (i := 14) rfl)) e0 (by rw [hml]; rfl) (dc hby d2_1) (by decide) 0 (Nat.le_of_eq rfl) (by decide) (fun T1 X1 e1 => ?_)
  refine go_iloadn X1 hx (dc hby d2_4) (v := r) rfl ?_
  refine go_iconst X1 hx (1) (dc hby d2_5) rfl ?_
  refine go_icmp_ge X1 hx (db hby d2_6) (fun c6 => ?_) (fun c6 => absurd c6 (own_lt1 hr))
  refine go_aloadn X1 hx (dc hby d2_19) (v := (.ref a)) rfl rfl ?_
  refine go_aloadn X1 hx (dc hby d2_20) (v := (.ref ba)) rfl rfl ?_
  obtain ⟨cl, A, q1, S, q3, H, G⟩ := VA
  have FC : FitC Z cl := fitC_of A fun i hi v hv => by rw [H i hi] at hv; cases hv; exact G i hi
  refine go_clone X1 hx hZ hown (hw _ (List.mem_of_getElem? (i := 15) rfl)) (hw _ (List.mem_of_getElem? (i := 16) rfl)) (hw _ (List.mem_of_getElem? (i := 20) rfl)) (hw _ (List.mem_of_getElem? (i := 18) rfl)) (hw _ (List.mem_of_getElem? (i := 19) rfl)) (hw _ (List.mem_of_getElem? (i := 21) rfl)) e1 (A) (EB) (FC) (by rw [hml]; rfl) (dc hby d2_21) (by decide) 1 6 (Nat.le_of_eq rfl) (by decide) (by rw [S]; exact hn) (by decide) (by decide) (fun T2 h2 ca g2 X2 e2 E2 A2 Y2 => ?_)
  have VC : Arv Z h2 ca kB .boolean n vs (.int 0) := ⟨cloneOf cl, A2, q1, S, q3, H, G⟩
  have hca : ca ≠ a := Nat.ne_of_gt (by rw [g2]; exact E.lt)
  refine go_castY X2 hx hZ hown (hw _ (List.mem_of_getElem? (i := 22) rfl)) e2 (Ins.of_exa Y2 (hw _ (List.mem_of_getElem? (i := 23) rfl))) (dc hby d2_24) (fun T3 X3 e3 => ?_)
  refine go_putF X3 hx hZ (host := "") hown (Or.inl (hw _ (List.mem_of_getElem? (i := 24) rfl))) Via.refl e3 (F1.ext E2) (E.ext E2) (Or.inr ⟨(hw _ (List.mem_of_getElem? (i := 25) rfl)), rfl, hnm⟩) (hw _ (List.mem_of_getElem? (i := 7) rfl)) (ty := .array .boolean) (by decide) rfl rfl (dc hby d2_27) (fun T4 h4 X4 e4 W4 => ?_)
  refine go_aloadn X4 hx (dc hby d2_30) (v := (.ref a)) rfl rfl ?_
  refine go_iloadn X4 hx (dc hby d2_31) (v := r) rfl ?_
  have E1 := (E.ext E2).wr W4
  have F1' := (F1.ext E2).same W4
  have F2' := (F2.ext E2).other W4 (Or.inr (own_sl hw).symm)
  have VC1 := VC.other W4 hca
  refine go_putF X4 hx hZ (host := "") hown (Or.inl (hw _ (List.mem_of_getElem? (i := 26) rfl))) Via.refl e4 F2' E1 (Or.inr ⟨(hw _ (List.mem_of_getElem? (i := 27) rfl)), rfl, hnm⟩) (hw _ (List.mem_of_getElem? (i := 7) rfl)) (ty := .int) (by decide) rfl rfl (dc hby d2_32) (fun T5 h5 X5 e5 W5 => ?_)
  subst e5
  exact go_retV X5 hx hret (dc hby d2_35) hk (by decide) (by decide) ⟨rfl, fun y hy => by simp at hy; rcases hy with rfl | rfl <;> rfl, (((Keep.refl _ _).ext E2).wr W4 (Or.inl (by simp))).wr W5 (Or.inl (by simp)), E1.wr W5, F2'.same W5, ca, F1'.other W5 (Or.inr (own_sl hw)), VC1.other W5 hca⟩
theorem pd2 : parseMethodDescriptor "([ZI)V" = some ⟨[(.array .boolean), .int], none⟩ := by decide +kernel
theorem d4_0 : Dec prog_4_method_5_code 0 (.dconst 0) 1 1 := ⟨by decide +kernel, rfl⟩
theorem d4_1 : Dec prog_4_method_5_code 1 (.dstore_n 1) 1 2 := ⟨by decide +kernel, rfl⟩
theorem d4_2 : Dec prog_4_method_5_code 2 (.iconst 0) 1 3 := ⟨by decide +kernel, rfl⟩
theorem d4_3 : Dec prog_4_method_5_code 3 (.istore_n 3) 1 4 := ⟨by decide +kernel, rfl⟩
theorem d4_4 : Dec prog_4_method_5_code 4 (.iconst 0) 1 5 := ⟨by decide +kernel, rfl⟩
theorem d4_5 : Dec prog_4_method_5_code 5 (.istore 4) 2 7 := ⟨by decide +kernel, rfl⟩
theorem d4_7 : Dec prog_4_method_5_code 7 (.iload 4) 2 9 := ⟨by decide +kernel, rfl⟩
theorem d4_9 : Dec prog_4_method_5_code 9 (.aload_n 0) 1 10 := ⟨by decide +kernel, rfl⟩
theorem d4_10 : Dec prog_4_method_5_code 10 (.getfield 20) 3 13 := ⟨by decide +kernel, rfl⟩
theorem d4_13 : Dec prog_4_method_5_code 13 (.arraylength) 1 14 := ⟨by decide +kernel, rfl⟩
theorem d4_14 : DecB prog_4_method_5_code 14 (.if_icmp .ge 33) (33) 17 47 := ⟨by decide +kernel, rfl, by decide, by decide⟩
theorem d4_17 : Dec prog_4_method_5_code 17 (.aload_n 0) 1 18 := ⟨by decide +kernel, rfl⟩
theorem d4_18 : Dec prog_4_method_5_code 18 (.getfield 20) 3 21 := ⟨by decide +kernel, rfl⟩
theorem d4_21 : Dec prog_4_method_5_code 21 (.iload 4) 2 23 := ⟨by decide +kernel, rfl⟩
theorem d4_23 : Dec prog_4_method_5_code 23 (.baload) 1 24 := ⟨by decide +kernel, rfl⟩
theorem d4_24 : DecB prog_4_method_5_code 24 (.ifCond .eq 17) (17) 27 41 := ⟨by decide +kernel, rfl, by decide, by decide⟩
theorem d4_27 : Dec prog_4_method_5_code 27 (.dload_n 1) 1 28 := ⟨by decide +kernel, rfl⟩
theorem d4_28 : Dec prog_4_method_5_code 28 (.iinc 3 1) 3 31 := ⟨by decide +kernel, rfl⟩
theorem d4_31 : Dec prog_4_method_5_code 31 (.iload_n 3) 1 32 := ⟨by decide +kernel, rfl⟩
theorem d4_32 : Dec prog_4_method_5_code 32 (.i2d) 1 33 := ⟨by decide +kernel, rfl⟩
theorem d4_33 : Dec prog_4_method_5_code 33 (.iload 4) 2 35 := ⟨by decide +kernel, rfl⟩
theorem d4_35 : Dec prog_4_method_5_code 35 (.iconst 1) 1 36 := ⟨by decide +kernel, rfl⟩
theorem d4_36 : Dec prog_4_method_5_code 36 (.iadd) 1 37 := ⟨by decide +kernel, rfl⟩
theorem d4_37 : Dec prog_4_method_5_code 37 (.i2d) 1 38 := ⟨by decide +kernel, rfl⟩
theorem d4_38 : Dec prog_4_method_5_code 38 (.ddiv) 1 39 := ⟨by decide +kernel, rfl⟩
theorem d4_39 : Dec prog_4_method_5_code 39 (.dadd) 1 40 := ⟨by decide +kernel, rfl⟩
theorem d4_40 : Dec prog_4_method_5_code 40 (.dstore_n 1) 1 41 := ⟨by decide +kernel, rfl⟩
theorem d4_41 : Dec prog_4_method_5_code 41 (.iinc 4 1) 3 44 := ⟨by decide +kernel, rfl⟩
theorem d4_44 : DecB prog_4_method_5_code 44 (.goto (-37)) (-37) 47 7 := ⟨by decide +kernel, rfl, by decide, by decide⟩
theorem d4_47 : Dec prog_4_method_5_code 47 (.dload_n 1) 1 48 := ⟨by decide +kernel, rfl⟩
theorem d4_48 : Dec prog_4_method_5_code 48 (.aload_n 0) 1 49 := ⟨by decide +kernel, rfl⟩
theorem d4_49 : Dec prog_4_method_5_code 49 (.getfield 25) 3 52 := ⟨by decide +kernel, rfl⟩
theorem d4_52 : Dec prog_4_method_5_code 52 (.i2d) 1 53 := ⟨by decide +kernel, rfl⟩
theorem d4_53 : Dec prog_4_method_5_code 53 (.ddiv) 1 54 := ⟨by decide +kernel, rfl⟩
theorem d4_54 : Dec prog_4_method_5_code 54 (.dreturn) 1 55 := ⟨by decide +kernel, rfl⟩
theorem pn4 : plainFor (⟨"com/example/levance/levance/evaluation/RankedTopic", "averagePrecision", "()D"⟩ : MethodName) = true := by first | exact plainFor_of_name (by first | (simp [plainName, overriddenIn]; done) | decide +kernel) | decide +kernel
theorem ef4 (x0 : Addr) (m : MethodId) : entryFrame m #[(.ref x0)] 5 = mkF m 0 #[.val (.ref x0), .unset, .unset, .unset, .unset] [] := by first | (simp [entryFrame, mkF, argsToLocals, Value.category, maxLocals]; done) | rfl
set_option maxRecDepth 65536 in
set_option maxHeartbeats 40000000 in
theorem rm4 (l : Launch) (Z : State) (a0 : Array Value) (hw : ∀ d ∈ tables_1, d.before a0 Z = true) (ws : List Jvm.Cond) (a ca : Addr) (kB : ClassId) (n r : Int32) (bs : List Bool) (h0 : Heap) (hn : n = Int32.ofNat bs.length) (hb6 : bs.length ≤ 6) (hok : own_ok 0 0 0 bs = true) (hnn : Jvm.Free.Fl.NoNaN64 (Jvm.FP.ddiv (own_go 0 0 0 bs) (Jvm.FP.i2d r))) (FA : Fld Z h0 a "com/example/levance/levance/evaluation/RankedTopic" "relevantAt" "[Z" (.ref ca)) (FR : Fld Z h0 a "com/example/levance/levance/evaluation/RankedTopic" "relevant" "I" (.int r)) (VA : Arv Z h0 ca kB .boolean n (bs.map own_v) (.int 0)) : Ct l Z (⟨"com/example/levance/levance/evaluation/RankedTopic", "averagePrecision", "()D"⟩ : MethodName) prog_4_method_5_code 5 (some .double) ws ({ frames := 0, cells := 0, slots := 0, locals := 0 } : Room) #[(.ref a)] h0 (QP (.double (Jvm.FP.ddiv (own_go 0 0 0 bs) (Jvm.FP.i2d r))) h0) := by
  refine Ct.of (pn4) _ (ef4 a) ?_
  intro p e s m below meth c T0 hx hby hml hZ hown hnm hret hk e0 X0
  show Go p e below _ (T0.setTop (mkF m 0 #[.val (.ref a), .unset, .unset, .unset, .unset] []))
  refine go_dconst0 X0 hx 0 (dc hby d4_0) rfl ?_
  refine go_dstoren X0 hx #[.val (.ref a), .val (.double 0), .second, .unset, .unset] (dc hby d4_1) rfl ?_
  refine go_iconst X0 hx (0) (dc hby d4_2) rfl ?_
  refine go_istoren X0 hx #[.val (.ref a), .val (.double 0), .second, .val (.int (0 : Int32)), .unset] (dc hby d4_3) rfl ?_
  refine go_iconst X0 hx (0) (dc hby d4_4) rfl ?_
  refine go_istore X0 hx #[.val (.ref a), .val (.double 0), .second, .val (.int (0 : Int32)), .val (.int (0 : Int32))] (dc hby d4_5) rfl ?_
  have LP : ∀ (rs pre : List Bool) (S : UInt64) (f : Nat) (TL : State), pre ++ rs = bs → Stand p l e ({ frames := 0, cells := 0, slots := 0, locals := 0 } : Room) s m #[(.ref a)] below meth c TL [] 0 0 → TL.heap = h0 → own_ok S f pre.length rs = true → own_go S f pre.length rs = own_go 0 0 0 bs → f ≤ pre.length → Go p e below (EndN s (QP (.double (Jvm.FP.ddiv (own_go 0 0 0 bs) (Jvm.FP.i2d r))) h0) ({ frames := 0, cells := 0, slots := 0, locals := 0 } : Room).cells ({ frames := 0, cells := 0, slots := 0, locals := 0 } : Room).slots) (TL.setTop (mkF m 7 #[.val (.ref a), .val (.double S), .second, .val (.int (Int32.ofNat f)), .val (.int (Int32.ofNat pre.length))] [])) := by
    intro rs
    induction rs with
    | nil =>
      intro pre S f TL hbs XL eL hok hgo hf
      have hS : S = own_go 0 0 0 bs := hgo
      have hp : pre = bs := by simpa using hbs
      subst hp
      have hlen : n = Int32.ofNat pre.length := hn
      show Go p e below _ (TL.setTop (mkF m 7 #[.val (.ref a), .val (.double S), .second, .val (.int (Int32.ofNat f)), .val (.int (Int32.ofNat pre.length))] []))
      refine go_iload XL hx (dc hby d4_7) (v := (Int32.ofNat pre.length)) rfl ?_
      refine go_aloadn XL hx (dc hby d4_9) (v := (.ref a)) rfl rfl ?_
      refine go_getF XL hx hZ (host := "") hown (Or.inl (hw _ (List.mem_of_getElem? (i := 24) rfl))) Via.refl eL FA (dc hby d4_10) (fun T1 X1 e1 => ?_)
      have VQ := VA
      obtain ⟨cQ, AQ, _, SQ, zQ, _, _⟩ := VQ
      refine go_alen X1 hx hZ e1 AQ SQ zQ (dc hby d4_13) ?_
      refine go_icmp_ge X1 hx (db hby d4_14) (fun c14 => ?_) (fun c14 => absurd c14 (by rw [hlen, Int32.lt_iff_toInt_lt]; omega))
      refine go_dloadn X1 hx (dc hby d4_47) (v := S) rfl ?_
      refine go_aloadn X1 hx (dc hby d4_48) (v := (.ref a)) rfl rfl ?_
      refine go_getF X1 hx hZ (host := "") hown (Or.inl (hw _ (List.mem_of_getElem? (i := 26) rfl))) Via.refl e1 FR (dc hby d4_49) (fun T2 X2 e2 => ?_)
      subst hS
      show Go p e below _ (T2.setTop (mkF m 52 #[.val (.ref a), .val (.double (own_go 0 0 0 pre)), .second, .val (.int (Int32.ofNat f)), .val (.int (Int32.ofNat pre.length))] [(.int r), (.double (own_go 0 0 0 pre))]))
      refine go_i2d X2 hx (dc hby d4_52) ?_
      refine go_ddiv X2 hx (dc hby d4_53) hnn ?_
      exact go_retD X2 hx hret (dc hby d4_54) hk (by decide) (by decide) ⟨rfl, e2, rfl⟩
    | cons b rs ih =>
      intro pre S f TL hbs XL eL hok hgo hf
      have hl6 : pre.length < 6 := by
        have q := congrArg List.length hbs
        simp at q; omega
      have hin : ¬ Int32.ofNat pre.length < 0 ∧ Int32.ofNat pre.length < n := by
        have q := congrArg List.length hbs
        simp at q
        rw [hn, Int32.lt_iff_toInt_lt, Int32.lt_iff_toInt_lt, own_toInt (by omega), own_toInt (by omega), show (0 : Int32).toInt = 0 from rfl]; omega
      have hget : (bs.map own_v).getD (Int32.ofNat pre.length).toNatClampNeg (.int 0) = .int (own_z b) := by
        rw [own_clamp (by omega), ← hbs]; exact own_getp pre b rs
      have hpl : (pre ++ [b]).length = pre.length + 1 := by simp
      have hbs' : (pre ++ [b]) ++ rs = bs := by rw [← hbs]; simp
      show Go p e below _ (TL.setTop (mkF m 7 #[.val (.ref a), .val (.double S), .second, .val (.int (Int32.ofNat f)), .val (.int (Int32.ofNat pre.length))] []))
      refine go_iload XL hx (dc hby d4_7) (v := (Int32.ofNat pre.length)) rfl ?_
      refine go_aloadn XL hx (dc hby d4_9) (v := (.ref a)) rfl rfl ?_
      refine go_getF XL hx hZ (host := "") hown (Or.inl (hw _ (List.mem_of_getElem? (i := 24) rfl))) Via.refl eL FA (dc hby d4_10) (fun T3 X3 e3 => ?_)
      have VQ := VA
      obtain ⟨cQ, AQ, _, SQ, zQ, _, _⟩ := VQ
      refine go_alen X3 hx hZ e3 AQ SQ zQ (dc hby d4_13) ?_
      refine go_icmp_ge X3 hx (db hby d4_14) (fun c14 => absurd hin.2 c14) (fun c14 => ?_)
      refine go_aloadn X3 hx (dc hby d4_17) (v := (.ref a)) rfl rfl ?_
      refine go_getF X3 hx hZ (host := "") hown (Or.inl (hw _ (List.mem_of_getElem? (i := 24) rfl))) Via.refl e3 FA (dc hby d4_18) (fun T4 X4 e4 => ?_)
      refine go_iload X4 hx (dc hby d4_21) (v := (Int32.ofNat pre.length)) rfl ?_
      refine go_zaloadV X4 hx hZ e4 VA hin hget (dc hby d4_23) ?_
      cases b with
      | false =>
        show Go p e below _ (T4.setTop (mkF m 24 #[.val (.ref a), .val (.double S), .second, .val (.int (Int32.ofNat f)), .val (.int (Int32.ofNat pre.length))] [(.int (0 : Int32))]))
        refine go_ifc_eq X4 hx (db hby d4_24) (fun c24 => ?_) (fun c24 => absurd c24 (by decide))
        refine go_iinc X4 hx (x := (Int32.ofNat pre.length)) #[.val (.ref a), .val (.double S), .second, .val (.int (Int32.ofNat f)), .val (.int ((Int32.ofNat pre.length) + (1 : Int32)))] (dc hby d4_41) rfl rfl ?_
        refine go_goto X4 hx (db hby d4_44) ?_
        rw [own_inc, ← hpl]
        show Go p e below _ (T4.setTop (mkF m 7 #[.val (.ref a), .val (.double S), .second, .val (.int (Int32.ofNat f)), .val (.int (Int32.ofNat (pre ++ [false]).length))] []))
        exact ih (pre ++ [false]) _ _ T4 hbs' X4 e4 (by rw [hpl]; exact hok) (by rw [hpl]; exact hgo) (by rw [hpl]; omega)
      | true =>
        show Go p e below _ (T4.setTop (mkF m 24 #[.val (.ref a), .val (.double S), .second, .val (.int (Int32.ofNat f)), .val (.int (Int32.ofNat pre.length))] [(.int (1 : Int32))]))
        refine go_ifc_eq X4 hx (db hby d4_24) (fun c24 => absurd c24 (by decide)) (fun c24 => ?_)
        have hok' : (!Jvm.FP.dIsNaN (Jvm.FP.ddiv (Jvm.FP.i2d (Int32.ofNat (f + 1))) (Jvm.FP.i2d (Int32.ofNat (pre.length + 1)))) && !Jvm.FP.dIsNaN (Jvm.FP.dadd S (Jvm.FP.ddiv (Jvm.FP.i2d (Int32.ofNat (f + 1))) (Jvm.FP.i2d (Int32.ofNat (pre.length + 1))))) && own_ok (Jvm.FP.dadd S (Jvm.FP.ddiv (Jvm.FP.i2d (Int32.ofNat (f + 1))) (Jvm.FP.i2d (Int32.ofNat (pre.length + 1))))) (f + 1) (pre.length + 1) rs) = true := hok
        simp only [Bool.and_eq_true, Bool.not_eq_true'] at hok'
        refine go_dloadn X4 hx (dc hby d4_27) (v := S) rfl ?_
        refine go_iinc X4 hx (x := (Int32.ofNat f)) #[.val (.ref a), .val (.double S), .second, .val (.int ((Int32.ofNat f) + (1 : Int32))), .val (.int (Int32.ofNat pre.length))] (dc hby d4_28) rfl rfl ?_
        rw [own_inc]
        show Go p e below _ (T4.setTop (mkF m 31 #[.val (.ref a), .val (.double S), .second, .val (.int (Int32.ofNat (f + 1))), .val (.int (Int32.ofNat pre.length))] [(.double S)]))
        refine go_iloadn X4 hx (dc hby d4_31) (v := (Int32.ofNat (f + 1))) rfl ?_
        refine go_i2d X4 hx (dc hby d4_32) ?_
        refine go_iload X4 hx (dc hby d4_33) (v := (Int32.ofNat pre.length)) rfl ?_
        refine go_iconst X4 hx (1) (dc hby d4_35) rfl ?_
        refine go_iadd X4 hx (dc hby d4_36) ?_
        rw [own_inc pre.length]
        show Go p e below _ (T4.setTop (mkF m 37 #[.val (.ref a), .val (.double S), .second, .val (.int (Int32.ofNat (f + 1))), .val (.int (Int32.ofNat pre.length))] [(.int (Int32.ofNat (pre.length + 1))), (.double (Jvm.FP.i2d (Int32.ofNat (f + 1)))), (.double S)]))
        refine go_i2d X4 hx (dc hby d4_37) ?_
        refine go_ddiv X4 hx (dc hby d4_38) (Jvm.Free.Fl.noNaN64_no.mpr hok'.1.1) ?_
        refine go_dadd X4 hx (dc hby d4_39) (Jvm.Free.Fl.noNaN64_no.mpr hok'.1.2) ?_
        refine go_dstoren X4 hx #[.val (.ref a), .val (.double (Jvm.FP.dadd S (Jvm.FP.ddiv (Jvm.FP.i2d (Int32.ofNat (f + 1))) (Jvm.FP.i2d (Int32.ofNat (pre.length + 1)))))), .second, .val (.int (Int32.ofNat (f + 1))), .val (.int (Int32.ofNat pre.length))] (dc hby d4_40) rfl ?_
        refine go_iinc X4 hx (x := (Int32.ofNat pre.length)) #[.val (.ref a), .val (.double (Jvm.FP.dadd S (Jvm.FP.ddiv (Jvm.FP.i2d (Int32.ofNat (f + 1))) (Jvm.FP.i2d (Int32.ofNat (pre.length + 1)))))), .second, .val (.int (Int32.ofNat (f + 1))), .val (.int ((Int32.ofNat pre.length) + (1 : Int32)))] (dc hby d4_41) rfl rfl ?_
        rw [own_inc pre.length, ← hpl]
        show Go p e below _ (T4.setTop (mkF m 44 #[.val (.ref a), .val (.double (Jvm.FP.dadd S (Jvm.FP.ddiv (Jvm.FP.i2d (Int32.ofNat (f + 1))) (Jvm.FP.i2d (Int32.ofNat (pre ++ [true]).length))))), .second, .val (.int (Int32.ofNat (f + 1))), .val (.int (Int32.ofNat (pre ++ [true]).length))] []))
        refine go_goto X4 hx (db hby d4_44) ?_
        exact ih (pre ++ [true]) _ _ T4 hbs' X4 e4 (by rw [hpl]; exact hok'.2) (by rw [hpl]; exact hgo) (by rw [hpl]; omega)
  exact LP bs [] 0 0 T0 rfl X0 e0 hok rfl (Nat.le_refl _)
theorem pd4 : parseMethodDescriptor "()D" = some ⟨[], some .double⟩ := by decide +kernel
theorem d0_0 : Dec code 0 (.iload_n 0) 1 1 := ⟨at_0, rfl⟩
theorem d0_1 : Dec code 1 (.bipush 7) 2 3 := ⟨at_1, rfl⟩
theorem d0_3 : Dec code 3 (.iand) 1 4 := ⟨at_3, rfl⟩
theorem d0_4 : Dec code 4 (.bipush 7) 2 6 := ⟨at_4, rfl⟩
theorem d0_6 : Dec code 6 (.irem) 1 7 := ⟨at_6, rfl⟩
theorem d0_7 : Dec code 7 (.istore_n 3) 1 8 := ⟨at_7, rfl⟩
theorem d0_8 : Dec code 8 (.iload_n 3) 1 9 := ⟨at_8, rfl⟩
theorem d0_9 : Dec code 9 (.newarray .boolean) 2 11 := ⟨at_9, rfl⟩
theorem d0_11 : Dec code 11 (.astore 4) 2 13 := ⟨at_11, rfl⟩
theorem d0_13 : Dec code 13 (.iload_n 3) 1 14 := ⟨at_13, rfl⟩
theorem d0_14 : DecB code 14 (.ifCond .le 18) (18) 17 32 := ⟨at_14, rfl, by decide, by decide⟩
theorem d0_17 : Dec code 17 (.aload 4) 2 19 := ⟨at_17, rfl⟩
theorem d0_19 : Dec code 19 (.iconst 0) 1 20 := ⟨at_19, rfl⟩
theorem d0_20 : Dec code 20 (.iload_n 1) 1 21 := ⟨at_20, rfl⟩
theorem d0_21 : Dec code 21 (.iconst 1) 1 22 := ⟨at_21, rfl⟩
theorem d0_22 : Dec code 22 (.iand) 1 23 := ⟨at_22, rfl⟩
theorem d0_23 : DecB code 23 (.ifCond .eq 7) (7) 26 30 := ⟨at_23, rfl, by decide, by decide⟩
theorem d0_26 : Dec code 26 (.iconst 1) 1 27 := ⟨at_26, rfl⟩
theorem d0_27 : DecB code 27 (.goto 4) (4) 30 31 := ⟨at_27, rfl, by decide, by decide⟩
theorem d0_30 : Dec code 30 (.iconst 0) 1 31 := ⟨at_30, rfl⟩
theorem d0_31 : Dec code 31 (.bastore) 1 32 := ⟨at_31, rfl⟩
theorem d0_32 : Dec code 32 (.iload_n 3) 1 33 := ⟨at_32, rfl⟩
theorem d0_33 : Dec code 33 (.iconst 1) 1 34 := ⟨at_33, rfl⟩
theorem d0_34 : DecB code 34 (.if_icmp .le 18) (18) 37 52 := ⟨at_34, rfl, by decide, by decide⟩
theorem d0_37 : Dec code 37 (.aload 4) 2 39 := ⟨at_37, rfl⟩
theorem d0_39 : Dec code 39 (.iconst 1) 1 40 := ⟨at_39, rfl⟩
theorem d0_40 : Dec code 40 (.iload_n 1) 1 41 := ⟨at_40, rfl⟩
theorem d0_41 : Dec code 41 (.iconst 2) 1 42 := ⟨at_41, rfl⟩
theorem d0_42 : Dec code 42 (.iand) 1 43 := ⟨at_42, rfl⟩
theorem d0_43 : DecB code 43 (.ifCond .eq 7) (7) 46 50 := ⟨at_43, rfl, by decide, by decide⟩
theorem d0_46 : Dec code 46 (.iconst 1) 1 47 := ⟨at_46, rfl⟩
theorem d0_47 : DecB code 47 (.goto 4) (4) 50 51 := ⟨at_47, rfl, by decide, by decide⟩
theorem d0_50 : Dec code 50 (.iconst 0) 1 51 := ⟨at_50, rfl⟩
theorem d0_51 : Dec code 51 (.bastore) 1 52 := ⟨at_51, rfl⟩
theorem d0_52 : Dec code 52 (.iload_n 3) 1 53 := ⟨at_52, rfl⟩
theorem d0_53 : Dec code 53 (.iconst 2) 1 54 := ⟨at_53, rfl⟩
theorem d0_54 : DecB code 54 (.if_icmp .le 18) (18) 57 72 := ⟨at_54, rfl, by decide, by decide⟩
theorem d0_57 : Dec code 57 (.aload 4) 2 59 := ⟨at_57, rfl⟩
theorem d0_59 : Dec code 59 (.iconst 2) 1 60 := ⟨at_59, rfl⟩
theorem d0_60 : Dec code 60 (.iload_n 1) 1 61 := ⟨at_60, rfl⟩
theorem d0_61 : Dec code 61 (.iconst 4) 1 62 := ⟨at_61, rfl⟩
theorem d0_62 : Dec code 62 (.iand) 1 63 := ⟨at_62, rfl⟩
theorem d0_63 : DecB code 63 (.ifCond .eq 7) (7) 66 70 := ⟨at_63, rfl, by decide, by decide⟩
theorem d0_66 : Dec code 66 (.iconst 1) 1 67 := ⟨at_66, rfl⟩
theorem d0_67 : DecB code 67 (.goto 4) (4) 70 71 := ⟨at_67, rfl, by decide, by decide⟩
theorem d0_70 : Dec code 70 (.iconst 0) 1 71 := ⟨at_70, rfl⟩
theorem d0_71 : Dec code 71 (.bastore) 1 72 := ⟨at_71, rfl⟩
theorem d0_72 : Dec code 72 (.iload_n 3) 1 73 := ⟨at_72, rfl⟩
theorem d0_73 : Dec code 73 (.iconst 3) 1 74 := ⟨at_73, rfl⟩
theorem d0_74 : DecB code 74 (.if_icmp .le 19) (19) 77 93 := ⟨at_74, rfl, by decide, by decide⟩
theorem d0_77 : Dec code 77 (.aload 4) 2 79 := ⟨at_77, rfl⟩
theorem d0_79 : Dec code 79 (.iconst 3) 1 80 := ⟨at_79, rfl⟩
theorem d0_80 : Dec code 80 (.iload_n 1) 1 81 := ⟨at_80, rfl⟩
theorem d0_81 : Dec code 81 (.bipush 8) 2 83 := ⟨at_81, rfl⟩
theorem d0_83 : Dec code 83 (.iand) 1 84 := ⟨at_83, rfl⟩
theorem d0_84 : DecB code 84 (.ifCond .eq 7) (7) 87 91 := ⟨at_84, rfl, by decide, by decide⟩
theorem d0_87 : Dec code 87 (.iconst 1) 1 88 := ⟨at_87, rfl⟩
theorem d0_88 : DecB code 88 (.goto 4) (4) 91 92 := ⟨at_88, rfl, by decide, by decide⟩
theorem d0_91 : Dec code 91 (.iconst 0) 1 92 := ⟨at_91, rfl⟩
theorem d0_92 : Dec code 92 (.bastore) 1 93 := ⟨at_92, rfl⟩
theorem d0_93 : Dec code 93 (.iload_n 3) 1 94 := ⟨at_93, rfl⟩
theorem d0_94 : Dec code 94 (.iconst 4) 1 95 := ⟨at_94, rfl⟩
theorem d0_95 : DecB code 95 (.if_icmp .le 19) (19) 98 114 := ⟨at_95, rfl, by decide, by decide⟩
theorem d0_98 : Dec code 98 (.aload 4) 2 100 := ⟨at_98, rfl⟩
theorem d0_100 : Dec code 100 (.iconst 4) 1 101 := ⟨at_100, rfl⟩
theorem d0_101 : Dec code 101 (.iload_n 1) 1 102 := ⟨at_101, rfl⟩
theorem d0_102 : Dec code 102 (.bipush 16) 2 104 := ⟨at_102, rfl⟩
theorem d0_104 : Dec code 104 (.iand) 1 105 := ⟨at_104, rfl⟩
theorem d0_105 : DecB code 105 (.ifCond .eq 7) (7) 108 112 := ⟨at_105, rfl, by decide, by decide⟩
theorem d0_108 : Dec code 108 (.iconst 1) 1 109 := ⟨at_108, rfl⟩
theorem d0_109 : DecB code 109 (.goto 4) (4) 112 113 := ⟨at_109, rfl, by decide, by decide⟩
theorem d0_112 : Dec code 112 (.iconst 0) 1 113 := ⟨at_112, rfl⟩
theorem d0_113 : Dec code 113 (.bastore) 1 114 := ⟨at_113, rfl⟩
theorem d0_114 : Dec code 114 (.iload_n 3) 1 115 := ⟨at_114, rfl⟩
theorem d0_115 : Dec code 115 (.iconst 5) 1 116 := ⟨at_115, rfl⟩
theorem d0_116 : DecB code 116 (.if_icmp .le 19) (19) 119 135 := ⟨at_116, rfl, by decide, by decide⟩
theorem d0_119 : Dec code 119 (.aload 4) 2 121 := ⟨at_119, rfl⟩
theorem d0_121 : Dec code 121 (.iconst 5) 1 122 := ⟨at_121, rfl⟩
theorem d0_122 : Dec code 122 (.iload_n 1) 1 123 := ⟨at_122, rfl⟩
theorem d0_123 : Dec code 123 (.bipush 32) 2 125 := ⟨at_123, rfl⟩
theorem d0_125 : Dec code 125 (.iand) 1 126 := ⟨at_125, rfl⟩
theorem d0_126 : DecB code 126 (.ifCond .eq 7) (7) 129 133 := ⟨at_126, rfl, by decide, by decide⟩
theorem d0_129 : Dec code 129 (.iconst 1) 1 130 := ⟨at_129, rfl⟩
theorem d0_130 : DecB code 130 (.goto 4) (4) 133 134 := ⟨at_130, rfl, by decide, by decide⟩
theorem d0_133 : Dec code 133 (.iconst 0) 1 134 := ⟨at_133, rfl⟩
theorem d0_134 : Dec code 134 (.bastore) 1 135 := ⟨at_134, rfl⟩
theorem d0_135 : Dec code 135 (.iconst 1) 1 136 := ⟨at_135, rfl⟩
theorem d0_136 : Dec code 136 (.iload_n 2) 1 137 := ⟨at_136, rfl⟩
theorem d0_137 : Dec code 137 (.ldc 7) 2 139 := ⟨at_137, rfl⟩
theorem d0_139 : Dec code 139 (.iand) 1 140 := ⟨at_139, rfl⟩
theorem d0_140 : Dec code 140 (.invokestatic 8) 3 143 := ⟨at_140, rfl⟩
theorem d0_143 : Dec code 143 (.istore 5) 2 145 := ⟨at_143, rfl⟩
theorem d0_145 : Dec code 145 (.new 14) 3 148 := ⟨at_145, rfl⟩
theorem d0_148 : Dec code 148 (.dup) 1 149 := ⟨at_148, rfl⟩
theorem d0_149 : Dec code 149 (.aload 4) 2 151 := ⟨at_149, rfl⟩
theorem d0_151 : Dec code 151 (.iload 5) 2 153 := ⟨at_151, rfl⟩
theorem d0_153 : Dec code 153 (.invokespecial 16) 3 156 := ⟨at_153, rfl⟩
theorem d0_156 : Dec code 156 (.astore 6) 2 158 := ⟨at_156, rfl⟩
theorem d0_158 : Dec code 158 (.aload 6) 2 160 := ⟨at_158, rfl⟩
theorem d0_160 : Dec code 160 (.invokevirtual 19) 3 163 := ⟨at_160, rfl⟩
theorem d0_163 : Dec code 163 (.dstore 7) 2 165 := ⟨at_163, rfl⟩
theorem d0_165 : Dec code 165 (.iconst 0) 1 166 := ⟨at_165, rfl⟩
theorem d0_166 : Dec code 166 (.istore 9) 2 168 := ⟨at_166, rfl⟩
theorem d0_168 : Dec code 168 (.iconst 0) 1 169 := ⟨at_168, rfl⟩
theorem d0_169 : Dec code 169 (.istore 10) 2 171 := ⟨at_169, rfl⟩
theorem d0_171 : Dec code 171 (.iload_n 3) 1 172 := ⟨at_171, rfl⟩
theorem d0_172 : DecB code 172 (.ifCond .le 25) (25) 175 197 := ⟨at_172, rfl, by decide, by decide⟩
theorem d0_175 : Dec code 175 (.iload_n 1) 1 176 := ⟨at_175, rfl⟩
theorem d0_176 : Dec code 176 (.iconst 1) 1 177 := ⟨at_176, rfl⟩
theorem d0_177 : Dec code 177 (.iand) 1 178 := ⟨at_177, rfl⟩
theorem d0_178 : DecB code 178 (.ifCond .eq 19) (19) 181 197 := ⟨at_178, rfl, by decide, by decide⟩
theorem d0_181 : Dec code 181 (.iload 9) 2 183 := ⟨at_181, rfl⟩
theorem d0_183 : Dec code 183 (.iconst 1) 1 184 := ⟨at_183, rfl⟩
theorem d0_184 : Dec code 184 (.iadd) 1 185 := ⟨at_184, rfl⟩
theorem d0_185 : Dec code 185 (.istore 9) 2 187 := ⟨at_185, rfl⟩
theorem d0_187 : Dec code 187 (.iload 10) 2 189 := ⟨at_187, rfl⟩
theorem d0_189 : Dec code 189 (.iload 9) 2 191 := ⟨at_189, rfl⟩
theorem d0_191 : Dec code 191 (.bipush 60) 2 193 := ⟨at_191, rfl⟩
theorem d0_193 : Dec code 193 (.imul) 1 194 := ⟨at_193, rfl⟩
theorem d0_194 : Dec code 194 (.iadd) 1 195 := ⟨at_194, rfl⟩
theorem d0_195 : Dec code 195 (.istore 10) 2 197 := ⟨at_195, rfl⟩
theorem d0_197 : Dec code 197 (.iload_n 3) 1 198 := ⟨at_197, rfl⟩
theorem d0_198 : Dec code 198 (.iconst 1) 1 199 := ⟨at_198, rfl⟩
theorem d0_199 : DecB code 199 (.if_icmp .le 25) (25) 202 224 := ⟨at_199, rfl, by decide, by decide⟩
theorem d0_202 : Dec code 202 (.iload_n 1) 1 203 := ⟨at_202, rfl⟩
theorem d0_203 : Dec code 203 (.iconst 2) 1 204 := ⟨at_203, rfl⟩
theorem d0_204 : Dec code 204 (.iand) 1 205 := ⟨at_204, rfl⟩
theorem d0_205 : DecB code 205 (.ifCond .eq 19) (19) 208 224 := ⟨at_205, rfl, by decide, by decide⟩
theorem d0_208 : Dec code 208 (.iload 9) 2 210 := ⟨at_208, rfl⟩
theorem d0_210 : Dec code 210 (.iconst 1) 1 211 := ⟨at_210, rfl⟩
theorem d0_211 : Dec code 211 (.iadd) 1 212 := ⟨at_211, rfl⟩
theorem d0_212 : Dec code 212 (.istore 9) 2 214 := ⟨at_212, rfl⟩
theorem d0_214 : Dec code 214 (.iload 10) 2 216 := ⟨at_214, rfl⟩
theorem d0_216 : Dec code 216 (.iload 9) 2 218 := ⟨at_216, rfl⟩
theorem d0_218 : Dec code 218 (.bipush 30) 2 220 := ⟨at_218, rfl⟩
theorem d0_220 : Dec code 220 (.imul) 1 221 := ⟨at_220, rfl⟩
theorem d0_221 : Dec code 221 (.iadd) 1 222 := ⟨at_221, rfl⟩
theorem d0_222 : Dec code 222 (.istore 10) 2 224 := ⟨at_222, rfl⟩
theorem d0_224 : Dec code 224 (.iload_n 3) 1 225 := ⟨at_224, rfl⟩
theorem d0_225 : Dec code 225 (.iconst 2) 1 226 := ⟨at_225, rfl⟩
theorem d0_226 : DecB code 226 (.if_icmp .le 25) (25) 229 251 := ⟨at_226, rfl, by decide, by decide⟩
theorem d0_229 : Dec code 229 (.iload_n 1) 1 230 := ⟨at_229, rfl⟩
theorem d0_230 : Dec code 230 (.iconst 4) 1 231 := ⟨at_230, rfl⟩
theorem d0_231 : Dec code 231 (.iand) 1 232 := ⟨at_231, rfl⟩
theorem d0_232 : DecB code 232 (.ifCond .eq 19) (19) 235 251 := ⟨at_232, rfl, by decide, by decide⟩
theorem d0_235 : Dec code 235 (.iload 9) 2 237 := ⟨at_235, rfl⟩
theorem d0_237 : Dec code 237 (.iconst 1) 1 238 := ⟨at_237, rfl⟩
theorem d0_238 : Dec code 238 (.iadd) 1 239 := ⟨at_238, rfl⟩
theorem d0_239 : Dec code 239 (.istore 9) 2 241 := ⟨at_239, rfl⟩
theorem d0_241 : Dec code 241 (.iload 10) 2 243 := ⟨at_241, rfl⟩
theorem d0_243 : Dec code 243 (.iload 9) 2 245 := ⟨at_243, rfl⟩
theorem d0_245 : Dec code 245 (.bipush 20) 2 247 := ⟨at_245, rfl⟩
theorem d0_247 : Dec code 247 (.imul) 1 248 := ⟨at_247, rfl⟩
theorem d0_248 : Dec code 248 (.iadd) 1 249 := ⟨at_248, rfl⟩
theorem d0_249 : Dec code 249 (.istore 10) 2 251 := ⟨at_249, rfl⟩
theorem d0_251 : Dec code 251 (.iload_n 3) 1 252 := ⟨at_251, rfl⟩
theorem d0_252 : Dec code 252 (.iconst 3) 1 253 := ⟨at_252, rfl⟩
theorem d0_253 : DecB code 253 (.if_icmp .le 26) (26) 256 279 := ⟨at_253, rfl, by decide, by decide⟩
theorem d0_256 : Dec code 256 (.iload_n 1) 1 257 := ⟨at_256, rfl⟩
theorem d0_257 : Dec code 257 (.bipush 8) 2 259 := ⟨at_257, rfl⟩
theorem d0_259 : Dec code 259 (.iand) 1 260 := ⟨at_259, rfl⟩
theorem d0_260 : DecB code 260 (.ifCond .eq 19) (19) 263 279 := ⟨at_260, rfl, by decide, by decide⟩
theorem d0_263 : Dec code 263 (.iload 9) 2 265 := ⟨at_263, rfl⟩
theorem d0_265 : Dec code 265 (.iconst 1) 1 266 := ⟨at_265, rfl⟩
theorem d0_266 : Dec code 266 (.iadd) 1 267 := ⟨at_266, rfl⟩
theorem d0_267 : Dec code 267 (.istore 9) 2 269 := ⟨at_267, rfl⟩
theorem d0_269 : Dec code 269 (.iload 10) 2 271 := ⟨at_269, rfl⟩
theorem d0_271 : Dec code 271 (.iload 9) 2 273 := ⟨at_271, rfl⟩
theorem d0_273 : Dec code 273 (.bipush 15) 2 275 := ⟨at_273, rfl⟩
theorem d0_275 : Dec code 275 (.imul) 1 276 := ⟨at_275, rfl⟩
theorem d0_276 : Dec code 276 (.iadd) 1 277 := ⟨at_276, rfl⟩
theorem d0_277 : Dec code 277 (.istore 10) 2 279 := ⟨at_277, rfl⟩
theorem d0_279 : Dec code 279 (.iload_n 3) 1 280 := ⟨at_279, rfl⟩
theorem d0_280 : Dec code 280 (.iconst 4) 1 281 := ⟨at_280, rfl⟩
theorem d0_281 : DecB code 281 (.if_icmp .le 26) (26) 284 307 := ⟨at_281, rfl, by decide, by decide⟩
theorem d0_284 : Dec code 284 (.iload_n 1) 1 285 := ⟨at_284, rfl⟩
theorem d0_285 : Dec code 285 (.bipush 16) 2 287 := ⟨at_285, rfl⟩
theorem d0_287 : Dec code 287 (.iand) 1 288 := ⟨at_287, rfl⟩
theorem d0_288 : DecB code 288 (.ifCond .eq 19) (19) 291 307 := ⟨at_288, rfl, by decide, by decide⟩
theorem d0_291 : Dec code 291 (.iload 9) 2 293 := ⟨at_291, rfl⟩
theorem d0_293 : Dec code 293 (.iconst 1) 1 294 := ⟨at_293, rfl⟩
theorem d0_294 : Dec code 294 (.iadd) 1 295 := ⟨at_294, rfl⟩
theorem d0_295 : Dec code 295 (.istore 9) 2 297 := ⟨at_295, rfl⟩
theorem d0_297 : Dec code 297 (.iload 10) 2 299 := ⟨at_297, rfl⟩
theorem d0_299 : Dec code 299 (.iload 9) 2 301 := ⟨at_299, rfl⟩
theorem d0_301 : Dec code 301 (.bipush 12) 2 303 := ⟨at_301, rfl⟩
theorem d0_303 : Dec code 303 (.imul) 1 304 := ⟨at_303, rfl⟩
theorem d0_304 : Dec code 304 (.iadd) 1 305 := ⟨at_304, rfl⟩
theorem d0_305 : Dec code 305 (.istore 10) 2 307 := ⟨at_305, rfl⟩
theorem d0_307 : Dec code 307 (.iload_n 3) 1 308 := ⟨at_307, rfl⟩
theorem d0_308 : Dec code 308 (.iconst 5) 1 309 := ⟨at_308, rfl⟩
theorem d0_309 : DecB code 309 (.if_icmp .le 26) (26) 312 335 := ⟨at_309, rfl, by decide, by decide⟩
theorem d0_312 : Dec code 312 (.iload_n 1) 1 313 := ⟨at_312, rfl⟩
theorem d0_313 : Dec code 313 (.bipush 32) 2 315 := ⟨at_313, rfl⟩
theorem d0_315 : Dec code 315 (.iand) 1 316 := ⟨at_315, rfl⟩
theorem d0_316 : DecB code 316 (.ifCond .eq 19) (19) 319 335 := ⟨at_316, rfl, by decide, by decide⟩
theorem d0_319 : Dec code 319 (.iload 9) 2 321 := ⟨at_319, rfl⟩
theorem d0_321 : Dec code 321 (.iconst 1) 1 322 := ⟨at_321, rfl⟩
theorem d0_322 : Dec code 322 (.iadd) 1 323 := ⟨at_322, rfl⟩
theorem d0_323 : Dec code 323 (.istore 9) 2 325 := ⟨at_323, rfl⟩
theorem d0_325 : Dec code 325 (.iload 10) 2 327 := ⟨at_325, rfl⟩
theorem d0_327 : Dec code 327 (.iload 9) 2 329 := ⟨at_327, rfl⟩
theorem d0_329 : Dec code 329 (.bipush 10) 2 331 := ⟨at_329, rfl⟩
theorem d0_331 : Dec code 331 (.imul) 1 332 := ⟨at_331, rfl⟩
theorem d0_332 : Dec code 332 (.iadd) 1 333 := ⟨at_332, rfl⟩
theorem d0_333 : Dec code 333 (.istore 10) 2 335 := ⟨at_333, rfl⟩
theorem d0_335 : Dec code 335 (.iload 10) 2 337 := ⟨at_335, rfl⟩
theorem d0_337 : Dec code 337 (.i2d) 1 338 := ⟨at_337, rfl⟩
theorem d0_338 : Dec code 338 (.ldc2_w 23) 3 341 := ⟨at_338, rfl⟩
theorem d0_341 : Dec code 341 (.iload 5) 2 343 := ⟨at_341, rfl⟩
theorem d0_343 : Dec code 343 (.i2d) 1 344 := ⟨at_343, rfl⟩
theorem d0_344 : Dec code 344 (.dmul) 1 345 := ⟨at_344, rfl⟩
theorem d0_345 : Dec code 345 (.ddiv) 1 346 := ⟨at_345, rfl⟩
theorem d0_346 : Dec code 346 (.dstore 11) 2 348 := ⟨at_346, rfl⟩
theorem d0_348 : Dec code 348 (.dload 11) 2 350 := ⟨at_348, rfl⟩
theorem d0_350 : Dec code 350 (.ldc2_w 25) 3 353 := ⟨at_350, rfl⟩
theorem d0_353 : Dec code 353 (.ddiv) 1 354 := ⟨at_353, rfl⟩
theorem d0_354 : Dec code 354 (.dstore 13) 2 356 := ⟨at_354, rfl⟩
theorem d0_356 : Dec code 356 (.dload 7) 2 358 := ⟨at_356, rfl⟩
theorem d0_358 : Dec code 358 (.dload 11) 2 360 := ⟨at_358, rfl⟩
theorem d0_360 : Dec code 360 (.dsub) 1 361 := ⟨at_360, rfl⟩
theorem d0_361 : Dec code 361 (.dstore 15) 2 363 := ⟨at_361, rfl⟩
theorem d0_363 : Dec code 363 (.dload 15) 2 365 := ⟨at_363, rfl⟩
theorem d0_365 : Dec code 365 (.dload 13) 2 367 := ⟨at_365, rfl⟩
theorem d0_367 : Dec code 367 (.dcmp .g) 1 368 := ⟨at_367, rfl⟩
theorem d0_368 : DecB code 368 (.ifCond .gt 16) (16) 371 384 := ⟨at_368, rfl, by decide, by decide⟩
theorem d0_371 : Dec code 371 (.dload 15) 2 373 := ⟨at_371, rfl⟩
theorem d0_373 : Dec code 373 (.dneg) 1 374 := ⟨at_373, rfl⟩
theorem d0_374 : Dec code 374 (.dload 13) 2 376 := ⟨at_374, rfl⟩
theorem d0_376 : Dec code 376 (.dcmp .g) 1 377 := ⟨at_376, rfl⟩
theorem d0_377 : DecB code 377 (.ifCond .gt 7) (7) 380 384 := ⟨at_377, rfl, by decide, by decide⟩
theorem d0_380 : Dec code 380 (.iconst 1) 1 381 := ⟨at_380, rfl⟩
theorem d0_381 : DecB code 381 (.goto 4) (4) 384 385 := ⟨at_381, rfl, by decide, by decide⟩
theorem d0_385 : Dec code 385 (.ireturn) 1 386 := ⟨at_385, rfl⟩
theorem pn0 : plainFor (⟨"com/example/levance/levance/evaluation/RankedTopicAveragePrecisionPinLaw", "law", "(III)Z"⟩ : MethodName) = true := by first | exact plainFor_of_name (by first | (simp [plainName, overriddenIn]; done) | decide +kernel) | decide +kernel
theorem ef0 (x0 : Int32) (x1 : Int32) (x2 : Int32) (m : MethodId) : entryFrame m #[(.int x0), (.int x1), (.int x2)] maxLocals = mkF m 0 #[.val (.int x0), .val (.int x1), .val (.int x2), .unset, .unset, .unset, .unset, .unset, .unset, .unset, .unset, .unset, .unset, .unset, .unset, .unset, .unset] [] := by first | (simp [entryFrame, mkF, argsToLocals, Value.category, maxLocals]; done) | rfl
set_option maxRecDepth 65536 in
set_option maxHeartbeats 40000000 in
theorem rm0 (l : Launch) (Z : State) (a0 : Array Value) (hw : ∀ d ∈ tables_1, d.before a0 Z = true) (ws : List Jvm.Cond) (p1 p2 p3 : Int32) (h0 : Heap)  : Ct l Z x code maxLocals ret ws room_1 #[(.int p1), (.int p2), (.int p3)] h0 (fun v h L => v = some (.int 1) ∧ Fr h0.size L) := by
  refine Ct.of (pn0) _ (ef0 p1 p2 p3) ?_
  intro p e s m below meth c T0 hx hby hml hZ hown hnm hret hk e0 X0
  show Go p e below _ (T0.setTop (mkF m 0 #[.val (.int p1), .val (.int p2), .val (.int p3), .unset, .unset, .unset, .unset, .unset, .unset, .unset, .unset, .unset, .unset, .unset, .unset, .unset, .unset] []))
  refine go_iloadn X0 hx (dc hby d0_0) (v := p1) rfl ?_
  refine go_bipush X0 hx (7) (dc hby d0_1) rfl ?_
  refine go_iand X0 hx (dc hby d0_3) ?_
  refine go_bipush X0 hx (7) (dc hby d0_4) rfl ?_
  refine go_irem X0 hx (dc hby d0_6) (by decide) ?_
  show Go p e below _ (T0.setTop (mkF m 7 #[.val (.int p1), .val (.int p2), .val (.int p3), .unset, .unset, .unset, .unset, .unset, .unset, .unset, .unset, .unset, .unset, .unset, .unset, .unset, .unset] [(.int ((p1 &&& (7 : Int32)) % (7 : Int32)))]))
  have J335 : ∀ (TJ : State) (hJ : Heap) (LJ : List Loc) (bs : List Bool) (nv r fv mv_ : Int32) (ba ta : Addr), Stand p l e room_1 s m #[(.int p1), (.int p2), (.int p3)] below meth c TJ LJ 3 14 → TJ.heap = hJ → Fr h0.size LJ → bs.length ≤ 6 → 1 ≤ r.toInt → mv_ = own_fm 0 0 bs own_W → Go p e below (EndN s (fun v h L => v = some (.int 1) ∧ Fr h0.size L) room_1.cells room_1.slots) (TJ.setTop (mkF m 335 #[.val (.int p1), .val (.int p2), .val (.int p3), .val (.int nv), .val (.ref ba), .val (.int r), .val (.ref ta), .val (.double (Jvm.FP.ddiv (own_go 0 0 0 bs) (Jvm.FP.i2d r))), .second, .val (.int fv), .val (.int mv_), .unset, .unset, .unset, .unset, .unset, .unset] [])) := by
    intro TJ hJ LJ bs nv r fv mv_ ba ta XJ eJ NJ hl hr hm
    subst hm
    obtain ⟨-, N1, N2, N3, N4, c1, c2⟩ := own_end bs hl r hr
    show Go p e below _ (TJ.setTop (mkF m 335 #[.val (.int p1), .val (.int p2), .val (.int p3), .val (.int nv), .val (.ref ba), .val (.int r), .val (.ref ta), .val (.double (Jvm.FP.ddiv (own_go 0 0 0 bs) (Jvm.FP.i2d r))), .second, .val (.int fv), .val (.int (own_fm 0 0 bs own_W)), .unset, .unset, .unset, .unset, .unset, .unset] []))
    refine go_iload XJ hx (dc hby d0_335) (v := (own_fm 0 0 bs own_W)) rfl ?_
    refine go_i2d XJ hx (dc hby d0_337) ?_
    refine go_ldc2d XJ hx hZ hown (hw _ (List.mem_of_getElem? (i := 33) rfl)) (dc hby d0_338) ?_
    refine go_iload XJ hx (dc hby d0_341) (v := r) rfl ?_
    refine go_i2d XJ hx (dc hby d0_343) ?_
    refine go_dmul XJ hx (dc hby d0_344) N1 ?_
    refine go_ddiv XJ hx (dc hby d0_345) N2 ?_
    refine go_dstore XJ hx #[.val (.int p1), .val (.int p2), .val (.int p3), .val (.int nv), .val (.ref ba), .val (.int r), .val (.ref ta), .val (.double (Jvm.FP.ddiv (own_go 0 0 0 bs) (Jvm.FP.i2d r))), .second, .val (.int fv), .val (.int (own_fm 0 0 bs own_W)), .val (.double (Jvm.FP.ddiv (Jvm.FP.i2d (own_fm 0 0 bs own_W)) (Jvm.FP.dmul 4633641066610819072 (Jvm.FP.i2d r)))), .second, .unset, .unset, .unset, .unset] (dc hby d0_346) rfl ?_
    refine go_dload XJ hx (dc hby d0_348) (v := (Jvm.FP.ddiv (Jvm.FP.i2d (own_fm 0 0 bs own_W)) (Jvm.FP.dmul 4633641066610819072 (Jvm.FP.i2d r)))) rfl ?_
    refine go_ldc2d XJ hx hZ hown (hw _ (List.mem_of_getElem? (i := 34) rfl)) (dc hby d0_350) ?_
    refine go_ddiv XJ hx (dc hby d0_353) N3 ?_
    refine go_dstore XJ hx #[.val (.int p1), .val (.int p2), .val (.int p3), .val (.int nv), .val (.ref ba), .val (.int r), .val (.ref ta), .val (.double (Jvm.FP.ddiv (own_go 0 0 0 bs) (Jvm.FP.i2d r))), .second, .val (.int fv), .val (.int (own_fm 0 0 bs own_W)), .val (.double (Jvm.FP.ddiv (Jvm.FP.i2d (own_fm 0 0 bs own_W)) (Jvm.FP.dmul 4633641066610819072 (Jvm.FP.i2d r)))), .second, .val (.double (Jvm.FP.ddiv (Jvm.FP.ddiv (Jvm.FP.i2d (own_fm 0 0 bs own_W)) (Jvm.FP.dmul 4633641066610819072 (Jvm.FP.i2d r))) 4742290407621132288)), .second, .unset, .unset] (dc hby d0_354) rfl ?_
    refine go_dload XJ hx (dc hby d0_356) (v := (Jvm.FP.ddiv (own_go 0 0 0 bs) (Jvm.FP.i2d r))) rfl ?_
    refine go_dload XJ hx (dc hby d0_358) (v := (Jvm.FP.ddiv (Jvm.FP.i2d (own_fm 0 0 bs own_W)) (Jvm.FP.dmul 4633641066610819072 (Jvm.FP.i2d r)))) rfl ?_
    refine go_dsub XJ hx (dc hby d0_360) N4 ?_
    refine go_dstore XJ hx #[.val (.int p1), .val (.int p2), .val (.int p3), .val (.int nv), .val (.ref ba), .val (.int r), .val (.ref ta), .val (.double (Jvm.FP.ddiv (own_go 0 0 0 bs) (Jvm.FP.i2d r))), .second, .val (.int fv), .val (.int (own_fm 0 0 bs own_W)), .val (.double (Jvm.FP.ddiv (Jvm.FP.i2d (own_fm 0 0 bs own_W)) (Jvm.FP.dmul 4633641066610819072 (Jvm.FP.i2d r)))), .second, .val (.double (Jvm.FP.ddiv (Jvm.FP.ddiv (Jvm.FP.i2d (own_fm 0 0 bs own_W)) (Jvm.FP.dmul 4633641066610819072 (Jvm.FP.i2d r))) 4742290407621132288)), .second, .val (.double (Jvm.FP.dsub (Jvm.FP.ddiv (own_go 0 0 0 bs) (Jvm.FP.i2d r)) (Jvm.FP.ddiv (Jvm.FP.i2d (own_fm 0 0 bs own_W)) (Jvm.FP.dmul 4633641066610819072 (Jvm.FP.i2d r))))), .second] (dc hby d0_361) rfl ?_
    refine go_dload XJ hx (dc hby d0_363) (v := (Jvm.FP.dsub (Jvm.FP.ddiv (own_go 0 0 0 bs) (Jvm.FP.i2d r)) (Jvm.FP.ddiv (Jvm.FP.i2d (own_fm 0 0 bs own_W)) (Jvm.FP.dmul 4633641066610819072 (Jvm.FP.i2d r))))) rfl ?_
    refine go_dload XJ hx (dc hby d0_365) (v := (Jvm.FP.ddiv (Jvm.FP.ddiv (Jvm.FP.i2d (own_fm 0 0 bs own_W)) (Jvm.FP.dmul 4633641066610819072 (Jvm.FP.i2d r))) 4742290407621132288)) rfl ?_
    refine go_dcmp XJ hx (dc hby d0_367) ?_
    refine go_ifc_gt XJ hx (db hby d0_368) (fun c368 => absurd c368 c1) (fun c368 => ?_)
    refine go_dload XJ hx (dc hby d0_371) (v := (Jvm.FP.dsub (Jvm.FP.ddiv (own_go 0 0 0 bs) (Jvm.FP.i2d r)) (Jvm.FP.ddiv (Jvm.FP.i2d (own_fm 0 0 bs own_W)) (Jvm.FP.dmul 4633641066610819072 (Jvm.FP.i2d r))))) rfl ?_
    refine go_dneg XJ hx (dc hby d0_373) ?_
    refine go_dload XJ hx (dc hby d0_374) (v := (Jvm.FP.ddiv (Jvm.FP.ddiv (Jvm.FP.i2d (own_fm 0 0 bs own_W)) (Jvm.FP.dmul 4633641066610819072 (Jvm.FP.i2d r))) 4742290407621132288)) rfl ?_
    refine go_dcmp XJ hx (dc hby d0_376) ?_
    refine go_ifc_gt XJ hx (db hby d0_377) (fun c377 => absurd c377 c2) (fun c377 => ?_)
    refine go_iconst XJ hx (1) (dc hby d0_380) rfl ?_
    refine go_goto XJ hx (db hby d0_381) ?_
    exact go_retN XJ hx hret (by simp) (dc hby d0_385) hk (by decide) (by decide) ⟨rfl, NJ⟩
  have h7 := own_n7 p1
  generalize (p1 &&& 7) % 7 = nv at h7 ⊢
  show Go p e below _ (T0.setTop (mkF m 7 #[.val (.int p1), .val (.int p2), .val (.int p3), .unset, .unset, .unset, .unset, .unset, .unset, .unset, .unset, .unset, .unset, .unset, .unset, .unset, .unset] [(.int nv)]))
  rcases h7 with rfl | rfl | rfl | rfl | rfl | rfl | rfl
  · show Go p e below _ (T0.setTop (mkF m 7 #[.val (.int p1), .val (.int p2), .val (.int p3), .unset, .unset, .unset, .unset, .unset, .unset, .unset, .unset, .unset, .unset, .unset, .unset, .unset, .unset] [(.int (0 : Int32))]))
    refine go_istoren X0 hx #[.val (.int p1), .val (.int p2), .val (.int p3), .val (.int (0 : Int32)), .unset, .unset, .unset, .unset, .unset, .unset, .unset, .unset, .unset, .unset, .unset, .unset, .unset] (dc hby d0_7) rfl ?_
    refine go_iloadn X0 hx (dc hby d0_8) (v := (0 : Int32)) rfl ?_
    refine go_newPE X0 hx hZ (hw _ (List.mem_of_getElem? (i := 0) rfl)) e0 (dc hby d0_9) (by decide) 6 (by decide) (by decide) (by decide) (by decide) (ad := "[Z") (by decide) (fun T1 h1 kB ba g1 X1 e1 E1 A1 Y1 => ?_)
    have hba : h0.size ≤ ba := Nat.le_of_eq g1.symm
    have N0 := Fr.nil h0.size
    have V0 : Arv Z h1 ba kB .boolean 0 [] (.int 0) := (Arv.new A1 (by decide)).pad (own_rep (n := 0))
    have KK0 : Keep h0 h1 [] := (Keep.refl _ _).ext E1
    refine go_astore X1 hx #[.val (.int p1), .val (.int p2), .val (.int p3), .val (.int (0 : Int32)), .val (.ref ba), .unset, .unset, .unset, .unset, .unset, .unset, .unset, .unset, .unset, .unset, .unset, .unset] (dc hby d0_11) rfl rfl ?_
    refine go_iloadn X1 hx (dc hby d0_13) (v := (0 : Int32)) rfl ?_
    refine go_ifc_le X1 hx (db hby d0_14) (fun c14 => ?_) (fun c14 => absurd c14 (by decide))
    refine go_iloadn X1 hx (dc hby d0_32) (v := (0 : Int32)) rfl ?_
    refine go_iconst X1 hx (1) (dc hby d0_33) rfl ?_
    refine go_icmp_le X1 hx (db hby d0_34) (fun c34 => ?_) (fun c34 => absurd c34 (by decide))
    refine go_iloadn X1 hx (dc hby d0_52) (v := (0 : Int32)) rfl ?_
    refine go_iconst X1 hx (2) (dc hby d0_53) rfl ?_
    refine go_icmp_le X1 hx (db hby d0_54) (fun c54 => ?_) (fun c54 => absurd c54 (by decide))
    refine go_iloadn X1 hx (dc hby d0_72) (v := (0 : Int32)) rfl ?_
    refine go_iconst X1 hx (3) (dc hby d0_73) rfl ?_
    refine go_icmp_le X1 hx (db hby d0_74) (fun c74 => ?_) (fun c74 => absurd c74 (by decide))
    refine go_iloadn X1 hx (dc hby d0_93) (v := (0 : Int32)) rfl ?_
    refine go_iconst X1 hx (4) (dc hby d0_94) rfl ?_
    refine go_icmp_le X1 hx (db hby d0_95) (fun c95 => ?_) (fun c95 => absurd c95 (by decide))
    refine go_iloadn X1 hx (dc hby d0_114) (v := (0 : Int32)) rfl ?_
    refine go_iconst X1 hx (5) (dc hby d0_115) rfl ?_
    refine go_icmp_le X1 hx (db hby d0_116) (fun c116 => ?_) (fun c116 => absurd c116 (by decide))
    refine go_iconst X1 hx (1) (dc hby d0_135) rfl ?_
    refine go_iloadn X1 hx (dc hby d0_136) (v := p3) rfl ?_
    refine go_ldc X1 hx hZ hown (hw _ (List.mem_of_getElem? (i := 1) rfl)) (dc hby d0_137) ?_
    refine go_iand X1 hx (dc hby d0_139) ?_
    refine go_staticP X1 hx hZ hown (hw _ (List.mem_of_getElem? (i := 2) rfl)) (hw _ (List.mem_of_getElem? (i := 3) rfl)) (hw _ (List.mem_of_getElem? (i := 4) rfl)) (hw _ (List.mem_of_getElem? (i := 5) rfl)) (by decide) e1 [(.int (1 : Int32)), (.int (p3 &&& (2147483647 : Int32)))] [] (r := (.int (own_max 1 (p3 &&& 2147483647)))) (rm1 l Z a0 hw [] 1 (p3 &&& 2147483647) h1) pd1 rfl (by rw [hml]; rfl) rfl 0 (Nat.le_of_eq rfl) (by decide) (by decide) rfl rfl (by decide) (by decide) (dc hby d0_140) (fun T2 X2 e2 => ?_)
    have hr := own_rl p3
    generalize own_max 1 (p3 &&& 2147483647) = r at hr ⊢
    show Go p e below _ (T2.setTop (mkF m 143 #[.val (.int p1), .val (.int p2), .val (.int p3), .val (.int (0 : Int32)), .val (.ref ba), .unset, .unset, .unset, .unset, .unset, .unset, .unset, .unset, .unset, .unset, .unset, .unset] [(.int r)]))
    refine go_istore X2 hx #[.val (.int p1), .val (.int p2), .val (.int p3), .val (.int (0 : Int32)), .val (.ref ba), .val (.int r), .unset, .unset, .unset, .unset, .unset, .unset, .unset, .unset, .unset, .unset, .unset] (dc hby d0_143) rfl ?_
    refine go_newO X2 hx hZ hown (hw _ (List.mem_of_getElem? (i := 6) rfl)) (hw _ (List.mem_of_getElem? (i := 7) rfl)) (hw _ (List.mem_of_getElem? (i := 8) rfl)) e2 (dc hby d0_145) (by decide) (by decide) (fun T3 h3 ta g3 X3 e3 E3 A3 D3 => ?_)
    refine go_dup X3 hx (dc hby d0_148) rfl ?_
    refine go_aload X3 hx (dc hby d0_149) (v := (.ref ba)) rfl rfl ?_
    refine go_iload X3 hx (dc hby d0_151) (v := r) rfl ?_
    have hta : h0.size ≤ ta := Nat.le_trans KK0.1 (Nat.le_of_eq g3.symm)
    refine go_special X3 hx hZ rfl hown (hw _ (List.mem_of_getElem? (i := 9) rfl)) (hw _ (List.mem_of_getElem? (i := 10) rfl)) (hw _ (List.mem_of_getElem? (i := 8) rfl)) (hw _ (List.mem_of_getElem? (i := 11) rfl)) (by decide) e3 (a := ta) [(.ref ba), (.int r)] [(.ref ta)] (rm2 l Z a0 hw [] ta ba r kB 0 _ h3 hr A3 (D3 (Or.inr (hw _ (List.mem_of_getElem? (i := 25) rfl))) (ty := .array .boolean) (by decide)) (D3 (Or.inr (hw _ (List.mem_of_getElem? (i := 27) rfl))) (ty := .int) (by decide)) (V0.ext E3) (Y1.ext E3) (by decide)) pd2 rfl (by rw [hml]; rfl) rfl 1 (Nat.le_of_eq rfl) (by decide) (by decide) (by decide) (by decide) (dc hby d0_153) (fun T4 v4 L4 X4 hQ4 => ?_)
    obtain ⟨rfl, N4, K4, ET, FR, ca, FA, VC⟩ := hQ4
    show Go p e below _ (T4.setTop (mkF m 156 #[.val (.int p1), .val (.int p2), .val (.int p3), .val (.int (0 : Int32)), .val (.ref ba), .val (.int r), .unset, .unset, .unset, .unset, .unset, .unset, .unset, .unset, .unset, .unset, .unset] [(.ref ta)]))
    refine go_astore X4 hx #[.val (.int p1), .val (.int p2), .val (.int p3), .val (.int (0 : Int32)), .val (.ref ba), .val (.int r), .val (.ref ta), .unset, .unset, .unset, .unset, .unset, .unset, .unset, .unset, .unset, .unset] (dc hby d0_156) rfl rfl ?_
    refine go_aload X4 hx (dc hby d0_158) (v := (.ref ta)) rfl rfl ?_
    have hl6 : ([] : List Bool).length ≤ 6 := by simp
    have TB := own_tab [] hl6
    have TB1 := (Bool.and_eq_true_iff.mp TB).1
    have HN := (own_end [] hl6 r hr).1
    refine go_virtualP X4 hx hZ hown (hw _ (List.mem_of_getElem? (i := 28) rfl)) (hw _ (List.mem_of_getElem? (i := 29) rfl)) (hw _ (List.mem_of_getElem? (i := 31) rfl)) (hw _ (List.mem_of_getElem? (i := 30) rfl)) (hw _ (List.mem_of_getElem? (i := 8) rfl)) (hw _ (List.mem_of_getElem? (i := 32) rfl)) (by decide) rfl (a := ta) ET [] [] (r := (.double (Jvm.FP.ddiv (own_go 0 0 0 []) (Jvm.FP.i2d r)))) (rm4 l Z a0 hw [] ta ca kB 0 r [] T4.heap rfl hl6 TB1 HN FA FR VC) pd4 rfl (by rw [hml]; rfl) rfl 0 (Nat.le_of_eq rfl) (by decide) (by decide) rfl rfl (by decide) (by decide) (dc hby d0_160) (fun T5 X5 e5 => ?_)
    have NR := Fr.app N0 (L' := L4) (fun y hy => by rw [N4 y hy]; exact hta)
    obtain ⟨LR, XR, NLR⟩ : ∃ LL, Stand p l e room_1 s m #[(.int p1), (.int p2), (.int p3)] below meth c T5 LL 3 14 ∧ Fr h0.size LL := ⟨_, X5, NR⟩
    refine go_dstore XR hx #[.val (.int p1), .val (.int p2), .val (.int p3), .val (.int (0 : Int32)), .val (.ref ba), .val (.int r), .val (.ref ta), .val (.double (Jvm.FP.ddiv (own_go 0 0 0 []) (Jvm.FP.i2d r))), .second, .unset, .unset, .unset, .unset, .unset, .unset, .unset, .unset] (dc hby d0_163) rfl ?_
    refine go_iconst XR hx (0) (dc hby d0_165) rfl ?_
    refine go_istore XR hx #[.val (.int p1), .val (.int p2), .val (.int p3), .val (.int (0 : Int32)), .val (.ref ba), .val (.int r), .val (.ref ta), .val (.double (Jvm.FP.ddiv (own_go 0 0 0 []) (Jvm.FP.i2d r))), .second, .val (.int (0 : Int32)), .unset, .unset, .unset, .unset, .unset, .unset, .unset] (dc hby d0_166) rfl ?_
    refine go_iconst XR hx (0) (dc hby d0_168) rfl ?_
    refine go_istore XR hx #[.val (.int p1), .val (.int p2), .val (.int p3), .val (.int (0 : Int32)), .val (.ref ba), .val (.int r), .val (.ref ta), .val (.double (Jvm.FP.ddiv (own_go 0 0 0 []) (Jvm.FP.i2d r))), .second, .val (.int (0 : Int32)), .val (.int (0 : Int32)), .unset, .unset, .unset, .unset, .unset, .unset] (dc hby d0_169) rfl ?_
    have inv0 : own_fm 0 0 [] [60, 30, 20, 15, 12, 10] = own_fm 0 0 [] own_W := rfl
    refine go_iloadn XR hx (dc hby d0_171) (v := (0 : Int32)) rfl ?_
    refine go_ifc_le XR hx (db hby d0_172) (fun c172 => ?_) (fun c172 => absurd c172 (by decide))
    refine go_iloadn XR hx (dc hby d0_197) (v := (0 : Int32)) rfl ?_
    refine go_iconst XR hx (1) (dc hby d0_198) rfl ?_
    refine go_icmp_le XR hx (db hby d0_199) (fun c199 => ?_) (fun c199 => absurd c199 (by decide))
    refine go_iloadn XR hx (dc hby d0_224) (v := (0 : Int32)) rfl ?_
    refine go_iconst XR hx (2) (dc hby d0_225) rfl ?_
    refine go_icmp_le XR hx (db hby d0_226) (fun c226 => ?_) (fun c226 => absurd c226 (by decide))
    refine go_iloadn XR hx (dc hby d0_251) (v := (0 : Int32)) rfl ?_
    refine go_iconst XR hx (3) (dc hby d0_252) rfl ?_
    refine go_icmp_le XR hx (db hby d0_253) (fun c253 => ?_) (fun c253 => absurd c253 (by decide))
    refine go_iloadn XR hx (dc hby d0_279) (v := (0 : Int32)) rfl ?_
    refine go_iconst XR hx (4) (dc hby d0_280) rfl ?_
    refine go_icmp_le XR hx (db hby d0_281) (fun c281 => ?_) (fun c281 => absurd c281 (by decide))
    refine go_iloadn XR hx (dc hby d0_307) (v := (0 : Int32)) rfl ?_
    refine go_iconst XR hx (5) (dc hby d0_308) rfl ?_
    refine go_icmp_le XR hx (db hby d0_309) (fun c309 => ?_) (fun c309 => absurd c309 (by decide))
    exact J335 T5 T4.heap LR [] _ r _ _ ba ta XR e5 NLR hl6 hr inv0
  · show Go p e below _ (T0.setTop (mkF m 7 #[.val (.int p1), .val (.int p2), .val (.int p3), .unset, .unset, .unset, .unset, .unset, .unset, .unset, .unset, .unset, .unset, .unset, .unset, .unset, .unset] [(.int (1 : Int32))]))
    refine go_istoren X0 hx #[.val (.int p1), .val (.int p2), .val (.int p3), .val (.int (1 : Int32)), .unset, .unset, .unset, .unset, .unset, .unset, .unset, .unset, .unset, .unset, .unset, .unset, .unset] (dc hby d0_7) rfl ?_
    refine go_iloadn X0 hx (dc hby d0_8) (v := (1 : Int32)) rfl ?_
    refine go_newPE X0 hx hZ (hw _ (List.mem_of_getElem? (i := 0) rfl)) e0 (dc hby d0_9) (by decide) 6 (by decide) (by decide) (by decide) (by decide) (ad := "[Z") (by decide) (fun T6 h6 kB ba g6 X6 e6 E6 A6 Y6 => ?_)
    have hba : h0.size ≤ ba := Nat.le_of_eq g6.symm
    have N0 := Fr.nil h0.size
    have V0 : Arv Z h6 ba kB .boolean 1 [.int 0] (.int 0) := (Arv.new A6 (by decide)).pad (own_rep (n := 1))
    have KK0 : Keep h0 h6 [] := (Keep.refl _ _).ext E6
    refine go_astore X6 hx #[.val (.int p1), .val (.int p2), .val (.int p3), .val (.int (1 : Int32)), .val (.ref ba), .unset, .unset, .unset, .unset, .unset, .unset, .unset, .unset, .unset, .unset, .unset, .unset] (dc hby d0_11) rfl rfl ?_
    refine go_iloadn X6 hx (dc hby d0_13) (v := (1 : Int32)) rfl ?_
    refine go_ifc_le X6 hx (db hby d0_14) (fun c14 => absurd c14 (by decide)) (fun c14 => ?_)
    refine go_aload X6 hx (dc hby d0_17) (v := (.ref ba)) rfl rfl ?_
    refine go_iconst X6 hx (0) (dc hby d0_19) rfl ?_
    refine go_iloadn X6 hx (dc hby d0_20) (v := p2) rfl ?_
    refine go_iconst X6 hx (1) (dc hby d0_21) rfl ?_
    refine go_iand X6 hx (dc hby d0_22) ?_
    have J7 : ∀ (TJ7 : State) (z : Int32), Stand p l e room_1 s m #[(.int p1), (.int p2), (.int p3)] below meth c TJ7 [] 1 6 → TJ7.heap = h6 → z = (own_z (own_bit p2 1)) → Go p e below (EndN s (fun v h L => v = some (.int 1) ∧ Fr h0.size L) room_1.cells room_1.slots) (TJ7.setTop (mkF m 31 #[.val (.int p1), .val (.int p2), .val (.int p3), .val (.int (1 : Int32)), .val (.ref ba), .unset, .unset, .unset, .unset, .unset, .unset, .unset, .unset, .unset, .unset, .unset, .unset] [(.int z), (.int (0 : Int32)), (.ref ba)])) := by
      intro TJ7 z XJ7 eJ7 hz
      subst hz
      show Go p e below _ (TJ7.setTop (mkF m 31 #[.val (.int p1), .val (.int p2), .val (.int p3), .val (.int (1 : Int32)), .val (.ref ba), .unset, .unset, .unset, .unset, .unset, .unset, .unset, .unset, .unset, .unset, .unset, .unset] [(.int (own_z (own_bit p2 1))), (.int (0 : Int32)), (.ref ba)]))
      refine go_zastoreV XJ7 hx hZ eJ7 V0 (by decide) 0 rfl (by simp) (dc hby d0_31) (fun T8 h8 X8 e8 W8 V8 => ?_)
      have VA1 : Arv Z h8 ba kB .boolean 1 [own_v (own_bit p2 1)] (.int 0) := by
        have z := V8
        rw [own_nzb] at z
        exact z
      have YB1 := Y6.wr W8
      have KK1 := KK0.wr W8 (Or.inr hba)
      obtain ⟨LL1, XL1, NL1⟩ : ∃ LL, Stand p l e room_1 s m #[(.int p1), (.int p2), (.int p3)] below meth c T8 LL 1 6 ∧ Fr h0.size LL := ⟨_, X8, Fr.snoc X8 N0 hba⟩
      refine go_iloadn XL1 hx (dc hby d0_32) (v := (1 : Int32)) rfl ?_
      refine go_iconst XL1 hx (1) (dc hby d0_33) rfl ?_
      refine go_icmp_le XL1 hx (db hby d0_34) (fun c34 => ?_) (fun c34 => absurd c34 (by decide))
      refine go_iloadn XL1 hx (dc hby d0_52) (v := (1 : Int32)) rfl ?_
      refine go_iconst XL1 hx (2) (dc hby d0_53) rfl ?_
      refine go_icmp_le XL1 hx (db hby d0_54) (fun c54 => ?_) (fun c54 => absurd c54 (by decide))
      refine go_iloadn XL1 hx (dc hby d0_72) (v := (1 : Int32)) rfl ?_
      refine go_iconst XL1 hx (3) (dc hby d0_73) rfl ?_
      refine go_icmp_le XL1 hx (db hby d0_74) (fun c74 => ?_) (fun c74 => absurd c74 (by decide))
      refine go_iloadn XL1 hx (dc hby d0_93) (v := (1 : Int32)) rfl ?_
      refine go_iconst XL1 hx (4) (dc hby d0_94) rfl ?_
      refine go_icmp_le XL1 hx (db hby d0_95) (fun c95 => ?_) (fun c95 => absurd c95 (by decide))
      refine go_iloadn XL1 hx (dc hby d0_114) (v := (1 : Int32)) rfl ?_
      refine go_iconst XL1 hx (5) (dc hby d0_115) rfl ?_
      refine go_icmp_le XL1 hx (db hby d0_116) (fun c116 => ?_) (fun c116 => absurd c116 (by decide))
      refine go_iconst XL1 hx (1) (dc hby d0_135) rfl ?_
      refine go_iloadn XL1 hx (dc hby d0_136) (v := p3) rfl ?_
      refine go_ldc XL1 hx hZ hown (hw _ (List.mem_of_getElem? (i := 1) rfl)) (dc hby d0_137) ?_
      refine go_iand XL1 hx (dc hby d0_139) ?_
      refine go_staticP XL1 hx hZ hown (hw _ (List.mem_of_getElem? (i := 2) rfl)) (hw _ (List.mem_of_getElem? (i := 3) rfl)) (hw _ (List.mem_of_getElem? (i := 4) rfl)) (hw _ (List.mem_of_getElem? (i := 5) rfl)) (by decide) e8 [(.int (1 : Int32)), (.int (p3 &&& (2147483647 : Int32)))] [] (r := (.int (own_max 1 (p3 &&& 2147483647)))) (rm1 l Z a0 hw [] 1 (p3 &&& 2147483647) h8) pd1 rfl (by rw [hml]; rfl) rfl 0 (Nat.le_of_eq rfl) (by decide) (by decide) rfl rfl (by decide) (by decide) (dc hby d0_140) (fun T9 X9 e9 => ?_)
      have hr := own_rl p3
      generalize own_max 1 (p3 &&& 2147483647) = r at hr ⊢
      show Go p e below _ (T9.setTop (mkF m 143 #[.val (.int p1), .val (.int p2), .val (.int p3), .val (.int (1 : Int32)), .val (.ref ba), .unset, .unset, .unset, .unset, .unset, .unset, .unset, .unset, .unset, .unset, .unset, .unset] [(.int r)]))
      refine go_istore X9 hx #[.val (.int p1), .val (.int p2), .val (.int p3), .val (.int (1 : Int32)), .val (.ref ba), .val (.int r), .unset, .unset, .unset, .unset, .unset, .unset, .unset, .unset, .unset, .unset, .unset] (dc hby d0_143) rfl ?_
      refine go_newO X9 hx hZ hown (hw _ (List.mem_of_getElem? (i := 6) rfl)) (hw _ (List.mem_of_getElem? (i := 7) rfl)) (hw _ (List.mem_of_getElem? (i := 8) rfl)) e9 (dc hby d0_145) (by decide) (by decide) (fun T10 h10 ta g10 X10 e10 E10 A10 D10 => ?_)
      refine go_dup X10 hx (dc hby d0_148) rfl ?_
      refine go_aload X10 hx (dc hby d0_149) (v := (.ref ba)) rfl rfl ?_
      refine go_iload X10 hx (dc hby d0_151) (v := r) rfl ?_
      have hta : h0.size ≤ ta := Nat.le_trans KK1.1 (Nat.le_of_eq g10.symm)
      refine go_special X10 hx hZ rfl hown (hw _ (List.mem_of_getElem? (i := 9) rfl)) (hw _ (List.mem_of_getElem? (i := 10) rfl)) (hw _ (List.mem_of_getElem? (i := 8) rfl)) (hw _ (List.mem_of_getElem? (i := 11) rfl)) (by decide) e10 (a := ta) [(.ref ba), (.int r)] [(.ref ta)] (rm2 l Z a0 hw [] ta ba r kB 1 _ h10 hr A10 (D10 (Or.inr (hw _ (List.mem_of_getElem? (i := 25) rfl))) (ty := .array .boolean) (by decide)) (D10 (Or.inr (hw _ (List.mem_of_getElem? (i := 27) rfl))) (ty := .int) (by decide)) (VA1.ext E10) (YB1.ext E10) (by decide)) pd2 rfl (by rw [hml]; rfl) rfl 1 (Nat.le_of_eq rfl) (by decide) (by decide) (by decide) (by decide) (dc hby d0_153) (fun T11 v11 L11 X11 hQ11 => ?_)
      obtain ⟨rfl, N11, K11, ET, FR, ca, FA, VC⟩ := hQ11
      show Go p e below _ (T11.setTop (mkF m 156 #[.val (.int p1), .val (.int p2), .val (.int p3), .val (.int (1 : Int32)), .val (.ref ba), .val (.int r), .unset, .unset, .unset, .unset, .unset, .unset, .unset, .unset, .unset, .unset, .unset] [(.ref ta)]))
      refine go_astore X11 hx #[.val (.int p1), .val (.int p2), .val (.int p3), .val (.int (1 : Int32)), .val (.ref ba), .val (.int r), .val (.ref ta), .unset, .unset, .unset, .unset, .unset, .unset, .unset, .unset, .unset, .unset] (dc hby d0_156) rfl rfl ?_
      refine go_aload X11 hx (dc hby d0_158) (v := (.ref ta)) rfl rfl ?_
      have hl6 : ([(own_bit p2 1)] : List Bool).length ≤ 6 := by simp
      have TB := own_tab [(own_bit p2 1)] hl6
      have TB1 := (Bool.and_eq_true_iff.mp TB).1
      have HN := (own_end [(own_bit p2 1)] hl6 r hr).1
      refine go_virtualP X11 hx hZ hown (hw _ (List.mem_of_getElem? (i := 28) rfl)) (hw _ (List.mem_of_getElem? (i := 29) rfl)) (hw _ (List.mem_of_getElem? (i := 31) rfl)) (hw _ (List.mem_of_getElem? (i := 30) rfl)) (hw _ (List.mem_of_getElem? (i := 8) rfl)) (hw _ (List.mem_of_getElem? (i := 32) rfl)) (by decide) rfl (a := ta) ET [] [] (r := (.double (Jvm.FP.ddiv (own_go 0 0 0 [(own_bit p2 1)]) (Jvm.FP.i2d r)))) (rm4 l Z a0 hw [] ta ca kB 1 r [(own_bit p2 1)] T11.heap rfl hl6 TB1 HN FA FR VC) pd4 rfl (by rw [hml]; rfl) rfl 0 (Nat.le_of_eq rfl) (by decide) (by decide) rfl rfl (by decide) (by decide) (dc hby d0_160) (fun T12 X12 e12 => ?_)
      have NR := Fr.app NL1 (L' := L11) (fun y hy => by rw [N11 y hy]; exact hta)
      obtain ⟨LR, XR, NLR⟩ : ∃ LL, Stand p l e room_1 s m #[(.int p1), (.int p2), (.int p3)] below meth c T12 LL 3 14 ∧ Fr h0.size LL := ⟨_, X12, NR⟩
      refine go_dstore XR hx #[.val (.int p1), .val (.int p2), .val (.int p3), .val (.int (1 : Int32)), .val (.ref ba), .val (.int r), .val (.ref ta), .val (.double (Jvm.FP.ddiv (own_go 0 0 0 [(own_bit p2 1)]) (Jvm.FP.i2d r))), .second, .unset, .unset, .unset, .unset, .unset, .unset, .unset, .unset] (dc hby d0_163) rfl ?_
      refine go_iconst XR hx (0) (dc hby d0_165) rfl ?_
      refine go_istore XR hx #[.val (.int p1), .val (.int p2), .val (.int p3), .val (.int (1 : Int32)), .val (.ref ba), .val (.int r), .val (.ref ta), .val (.double (Jvm.FP.ddiv (own_go 0 0 0 [(own_bit p2 1)]) (Jvm.FP.i2d r))), .second, .val (.int (0 : Int32)), .unset, .unset, .unset, .unset, .unset, .unset, .unset] (dc hby d0_166) rfl ?_
      refine go_iconst XR hx (0) (dc hby d0_168) rfl ?_
      refine go_istore XR hx #[.val (.int p1), .val (.int p2), .val (.int p3), .val (.int (1 : Int32)), .val (.ref ba), .val (.int r), .val (.ref ta), .val (.double (Jvm.FP.ddiv (own_go 0 0 0 [(own_bit p2 1)]) (Jvm.FP.i2d r))), .second, .val (.int (0 : Int32)), .val (.int (0 : Int32)), .unset, .unset, .unset, .unset, .unset, .unset] (dc hby d0_169) rfl ?_
      have inv0 : own_fm 0 0 [(own_bit p2 1)] [60, 30, 20, 15, 12, 10] = own_fm 0 0 [(own_bit p2 1)] own_W := rfl
      refine go_iloadn XR hx (dc hby d0_171) (v := (1 : Int32)) rfl ?_
      refine go_ifc_le XR hx (db hby d0_172) (fun c172 => absurd c172 (by decide)) (fun c172 => ?_)
      refine go_iloadn XR hx (dc hby d0_175) (v := p2) rfl ?_
      refine go_iconst XR hx (1) (dc hby d0_176) rfl ?_
      refine go_iand XR hx (dc hby d0_177) ?_
      have J13 : ∀ (TJ13 : State) (f1 m1 : Int32), Stand p l e room_1 s m #[(.int p1), (.int p2), (.int p3)] below meth c TJ13 LR 3 14 → TJ13.heap = T11.heap → f1 = own_f1 (own_bit p2 1) (0 : Int32) → m1 = own_m1 (own_bit p2 1) (0 : Int32) (0 : Int32) 60 → Go p e below (EndN s (fun v h L => v = some (.int 1) ∧ Fr h0.size L) room_1.cells room_1.slots) (TJ13.setTop (mkF m 197 #[.val (.int p1), .val (.int p2), .val (.int p3), .val (.int (1 : Int32)), .val (.ref ba), .val (.int r), .val (.ref ta), .val (.double (Jvm.FP.ddiv (own_go 0 0 0 [(own_bit p2 1)]) (Jvm.FP.i2d r))), .second, .val (.int f1), .val (.int m1), .unset, .unset, .unset, .unset, .unset, .unset] [])) := by
        intro TJ13 f1 m1 XJ13 eJ13 hf1 hm1
        show Go p e below _ (TJ13.setTop (mkF m 197 #[.val (.int p1), .val (.int p2), .val (.int p3), .val (.int (1 : Int32)), .val (.ref ba), .val (.int r), .val (.ref ta), .val (.double (Jvm.FP.ddiv (own_go 0 0 0 [(own_bit p2 1)]) (Jvm.FP.i2d r))), .second, .val (.int f1), .val (.int m1), .unset, .unset, .unset, .unset, .unset, .unset] []))
        have inv1 : own_fm f1 m1 [] [30, 20, 15, 12, 10] = own_fm 0 0 [(own_bit p2 1)] own_W := by
          rw [hf1, hm1, ← own_fmc]
          exact inv0
        refine go_iloadn XJ13 hx (dc hby d0_197) (v := (1 : Int32)) rfl ?_
        refine go_iconst XJ13 hx (1) (dc hby d0_198) rfl ?_
        refine go_icmp_le XJ13 hx (db hby d0_199) (fun c199 => ?_) (fun c199 => absurd c199 (by decide))
        refine go_iloadn XJ13 hx (dc hby d0_224) (v := (1 : Int32)) rfl ?_
        refine go_iconst XJ13 hx (2) (dc hby d0_225) rfl ?_
        refine go_icmp_le XJ13 hx (db hby d0_226) (fun c226 => ?_) (fun c226 => absurd c226 (by decide))
        refine go_iloadn XJ13 hx (dc hby d0_251) (v := (1 : Int32)) rfl ?_
        refine go_iconst XJ13 hx (3) (dc hby d0_252) rfl ?_
        refine go_icmp_le XJ13 hx (db hby d0_253) (fun c253 => ?_) (fun c253 => absurd c253 (by decide))
        refine go_iloadn XJ13 hx (dc hby d0_279) (v := (1 : Int32)) rfl ?_
        refine go_iconst XJ13 hx (4) (dc hby d0_280) rfl ?_
        refine go_icmp_le XJ13 hx (db hby d0_281) (fun c281 => ?_) (fun c281 => absurd c281 (by decide))
        refine go_iloadn XJ13 hx (dc hby d0_307) (v := (1 : Int32)) rfl ?_
        refine go_iconst XJ13 hx (5) (dc hby d0_308) rfl ?_
        refine go_icmp_le XJ13 hx (db hby d0_309) (fun c309 => ?_) (fun c309 => absurd c309 (by decide))
        exact J335 TJ13 T11.heap LR [(own_bit p2 1)] _ r _ _ ba ta XJ13 eJ13 NLR hl6 hr inv1
      refine go_ifc_eq XR hx (db hby d0_178) (fun c178 => ?_) (fun c178 => ?_)
      · exact J13 T12 _ _ XR e12 (by rw [own_b0' c178]; rfl) (by rw [own_b0' c178]; rfl)
      · refine go_iload XR hx (dc hby d0_181) (v := (0 : Int32)) rfl ?_
        refine go_iconst XR hx (1) (dc hby d0_183) rfl ?_
        refine go_iadd XR hx (dc hby d0_184) ?_
        refine go_istore XR hx #[.val (.int p1), .val (.int p2), .val (.int p3), .val (.int (1 : Int32)), .val (.ref ba), .val (.int r), .val (.ref ta), .val (.double (Jvm.FP.ddiv (own_go 0 0 0 [(own_bit p2 1)]) (Jvm.FP.i2d r))), .second, .val (.int ((0 : Int32) + (1 : Int32))), .val (.int (0 : Int32)), .unset, .unset, .unset, .unset, .unset, .unset] (dc hby d0_185) rfl ?_
        refine go_iload XR hx (dc hby d0_187) (v := (0 : Int32)) rfl ?_
        refine go_iload XR hx (dc hby d0_189) (v := ((0 : Int32) + (1 : Int32))) rfl ?_
        refine go_bipush XR hx (60) (dc hby d0_191) rfl ?_
        refine go_imul XR hx (dc hby d0_193) ?_
        refine go_iadd XR hx (dc hby d0_194) ?_
        refine go_istore XR hx #[.val (.int p1), .val (.int p2), .val (.int p3), .val (.int (1 : Int32)), .val (.ref ba), .val (.int r), .val (.ref ta), .val (.double (Jvm.FP.ddiv (own_go 0 0 0 [(own_bit p2 1)]) (Jvm.FP.i2d r))), .second, .val (.int ((0 : Int32) + (1 : Int32))), .val (.int ((0 : Int32) + (((0 : Int32) + (1 : Int32)) * (60 : Int32)))), .unset, .unset, .unset, .unset, .unset, .unset] (dc hby d0_195) rfl ?_
        exact J13 T12 _ _ XR e12 (by rw [own_b1' c178]; rfl) (by rw [own_b1' c178]; rfl)
    refine go_ifc_eq X6 hx (db hby d0_23) (fun c23 => ?_) (fun c23 => ?_)
    · refine go_iconst X6 hx (0) (dc hby d0_30) rfl ?_
      exact J7 T6 _ X6 e6 ((own_z0 c23).symm)
    · refine go_iconst X6 hx (1) (dc hby d0_26) rfl ?_
      refine go_goto X6 hx (db hby d0_27) ?_
      exact J7 T6 _ X6 e6 ((own_z1 c23).symm)
  · show Go p e below _ (T0.setTop (mkF m 7 #[.val (.int p1), .val (.int p2), .val (.int p3), .unset, .unset, .unset, .unset, .unset, .unset, .unset, .unset, .unset, .unset, .unset, .unset, .unset, .unset] [(.int (2 : Int32))]))
    refine go_istoren X0 hx #[.val (.int p1), .val (.int p2), .val (.int p3), .val (.int (2 : Int32)), .unset, .unset, .unset, .unset, .unset, .unset, .unset, .unset, .unset, .unset, .unset, .unset, .unset] (dc hby d0_7) rfl ?_
    refine go_iloadn X0 hx (dc hby d0_8) (v := (2 : Int32)) rfl ?_
    refine go_newPE X0 hx hZ (hw _ (List.mem_of_getElem? (i := 0) rfl)) e0 (dc hby d0_9) (by decide) 6 (by decide) (by decide) (by decide) (by decide) (ad := "[Z") (by decide) (fun T14 h14 kB ba g14 X14 e14 E14 A14 Y14 => ?_)
    have hba : h0.size ≤ ba := Nat.le_of_eq g14.symm
    have N0 := Fr.nil h0.size
    have V0 : Arv Z h14 ba kB .boolean 2 [.int 0, .int 0] (.int 0) := (Arv.new A14 (by decide)).pad (own_rep (n := 2))
    have KK0 : Keep h0 h14 [] := (Keep.refl _ _).ext E14
    refine go_astore X14 hx #[.val (.int p1), .val (.int p2), .val (.int p3), .val (.int (2 : Int32)), .val (.ref ba), .unset, .unset, .unset, .unset, .unset, .unset, .unset, .unset, .unset, .unset, .unset, .unset] (dc hby d0_11) rfl rfl ?_
    refine go_iloadn X14 hx (dc hby d0_13) (v := (2 : Int32)) rfl ?_
    refine go_ifc_le X14 hx (db hby d0_14) (fun c14 => absurd c14 (by decide)) (fun c14 => ?_)
    refine go_aload X14 hx (dc hby d0_17) (v := (.ref ba)) rfl rfl ?_
    refine go_iconst X14 hx (0) (dc hby d0_19) rfl ?_
    refine go_iloadn X14 hx (dc hby d0_20) (v := p2) rfl ?_
    refine go_iconst X14 hx (1) (dc hby d0_21) rfl ?_
    refine go_iand X14 hx (dc hby d0_22) ?_
    have J15 : ∀ (TJ15 : State) (z : Int32), Stand p l e room_1 s m #[(.int p1), (.int p2), (.int p3)] below meth c TJ15 [] 1 6 → TJ15.heap = h14 → z = (own_z (own_bit p2 1)) → Go p e below (EndN s (fun v h L => v = some (.int 1) ∧ Fr h0.size L) room_1.cells room_1.slots) (TJ15.setTop (mkF m 31 #[.val (.int p1), .val (.int p2), .val (.int p3), .val (.int (2 : Int32)), .val (.ref ba), .unset, .unset, .unset, .unset, .unset, .unset, .unset, .unset, .unset, .unset, .unset, .unset] [(.int z), (.int (0 : Int32)), (.ref ba)])) := by
      intro TJ15 z XJ15 eJ15 hz
      subst hz
      show Go p e below _ (TJ15.setTop (mkF m 31 #[.val (.int p1), .val (.int p2), .val (.int p3), .val (.int (2 : Int32)), .val (.ref ba), .unset, .unset, .unset, .unset, .unset, .unset, .unset, .unset, .unset, .unset, .unset, .unset] [(.int (own_z (own_bit p2 1))), (.int (0 : Int32)), (.ref ba)]))
      refine go_zastoreV XJ15 hx hZ eJ15 V0 (by decide) 0 rfl (by simp) (dc hby d0_31) (fun T16 h16 X16 e16 W16 V16 => ?_)
      have VA1 : Arv Z h16 ba kB .boolean 2 [own_v (own_bit p2 1), .int 0] (.int 0) := by
        have z := V16
        rw [own_nzb] at z
        exact z
      have YB1 := Y14.wr W16
      have KK1 := KK0.wr W16 (Or.inr hba)
      obtain ⟨LL1, XL1, NL1⟩ : ∃ LL, Stand p l e room_1 s m #[(.int p1), (.int p2), (.int p3)] below meth c T16 LL 1 6 ∧ Fr h0.size LL := ⟨_, X16, Fr.snoc X16 N0 hba⟩
      refine go_iloadn XL1 hx (dc hby d0_32) (v := (2 : Int32)) rfl ?_
      refine go_iconst XL1 hx (1) (dc hby d0_33) rfl ?_
      refine go_icmp_le XL1 hx (db hby d0_34) (fun c34 => absurd c34 (by decide)) (fun c34 => ?_)
      refine go_aload XL1 hx (dc hby d0_37) (v := (.ref ba)) rfl rfl ?_
      refine go_iconst XL1 hx (1) (dc hby d0_39) rfl ?_
      refine go_iloadn XL1 hx (dc hby d0_40) (v := p2) rfl ?_
      refine go_iconst XL1 hx (2) (dc hby d0_41) rfl ?_
      refine go_iand XL1 hx (dc hby d0_42) ?_
      have J17 : ∀ (TJ17 : State) (z : Int32), Stand p l e room_1 s m #[(.int p1), (.int p2), (.int p3)] below meth c TJ17 LL1 1 6 → TJ17.heap = h16 → z = (own_z (own_bit p2 2)) → Go p e below (EndN s (fun v h L => v = some (.int 1) ∧ Fr h0.size L) room_1.cells room_1.slots) (TJ17.setTop (mkF m 51 #[.val (.int p1), .val (.int p2), .val (.int p3), .val (.int (2 : Int32)), .val (.ref ba), .unset, .unset, .unset, .unset, .unset, .unset, .unset, .unset, .unset, .unset, .unset, .unset] [(.int z), (.int (1 : Int32)), (.ref ba)])) := by
        intro TJ17 z XJ17 eJ17 hz
        subst hz
        show Go p e below _ (TJ17.setTop (mkF m 51 #[.val (.int p1), .val (.int p2), .val (.int p3), .val (.int (2 : Int32)), .val (.ref ba), .unset, .unset, .unset, .unset, .unset, .unset, .unset, .unset, .unset, .unset, .unset, .unset] [(.int (own_z (own_bit p2 2))), (.int (1 : Int32)), (.ref ba)]))
        refine go_zastoreV XJ17 hx hZ eJ17 VA1 (by decide) 1 rfl (by simp) (dc hby d0_51) (fun T18 h18 X18 e18 W18 V18 => ?_)
        have VA2 : Arv Z h18 ba kB .boolean 2 [own_v (own_bit p2 1), own_v (own_bit p2 2)] (.int 0) := by
          have z := V18
          rw [own_nzb] at z
          exact z
        have YB2 := YB1.wr W18
        have KK2 := KK1.wr W18 (Or.inr hba)
        obtain ⟨LL2, XL2, NL2⟩ : ∃ LL, Stand p l e room_1 s m #[(.int p1), (.int p2), (.int p3)] below meth c T18 LL 1 6 ∧ Fr h0.size LL := ⟨_, X18, Fr.snoc X18 NL1 hba⟩
        refine go_iloadn XL2 hx (dc hby d0_52) (v := (2 : Int32)) rfl ?_
        refine go_iconst XL2 hx (2) (dc hby d0_53) rfl ?_
        refine go_icmp_le XL2 hx (db hby d0_54) (fun c54 => ?_) (fun c54 => absurd c54 (by decide))
        refine go_iloadn XL2 hx (dc hby d0_72) (v := (2 : Int32)) rfl ?_
        refine go_iconst XL2 hx (3) (dc hby d0_73) rfl ?_
        refine go_icmp_le XL2 hx (db hby d0_74) (fun c74 => ?_) (fun c74 => absurd c74 (by decide))
        refine go_iloadn XL2 hx (dc hby d0_93) (v := (2 : Int32)) rfl ?_
        refine go_iconst XL2 hx (4) (dc hby d0_94) rfl ?_
        refine go_icmp_le XL2 hx (db hby d0_95) (fun c95 => ?_) (fun c95 => absurd c95 (by decide))
        refine go_iloadn XL2 hx (dc hby d0_114) (v := (2 : Int32)) rfl ?_
        refine go_iconst XL2 hx (5) (dc hby d0_115) rfl ?_
        refine go_icmp_le XL2 hx (db hby d0_116) (fun c116 => ?_) (fun c116 => absurd c116 (by decide))
        refine go_iconst XL2 hx (1) (dc hby d0_135) rfl ?_
        refine go_iloadn XL2 hx (dc hby d0_136) (v := p3) rfl ?_
        refine go_ldc XL2 hx hZ hown (hw _ (List.mem_of_getElem? (i := 1) rfl)) (dc hby d0_137) ?_
        refine go_iand XL2 hx (dc hby d0_139) ?_
        refine go_staticP XL2 hx hZ hown (hw _ (List.mem_of_getElem? (i := 2) rfl)) (hw _ (List.mem_of_getElem? (i := 3) rfl)) (hw _ (List.mem_of_getElem? (i := 4) rfl)) (hw _ (List.mem_of_getElem? (i := 5) rfl)) (by decide) e18 [(.int (1 : Int32)), (.int (p3 &&& (2147483647 : Int32)))] [] (r := (.int (own_max 1 (p3 &&& 2147483647)))) (rm1 l Z a0 hw [] 1 (p3 &&& 2147483647) h18) pd1 rfl (by rw [hml]; rfl) rfl 0 (Nat.le_of_eq rfl) (by decide) (by decide) rfl rfl (by decide) (by decide) (dc hby d0_140) (fun T19 X19 e19 => ?_)
        have hr := own_rl p3
        generalize own_max 1 (p3 &&& 2147483647) = r at hr ⊢
        show Go p e below _ (T19.setTop (mkF m 143 #[.val (.int p1), .val (.int p2), .val (.int p3), .val (.int (2 : Int32)), .val (.ref ba), .unset, .unset, .unset, .unset, .unset, .unset, .unset, .unset, .unset, .unset, .unset, .unset] [(.int r)]))
        refine go_istore X19 hx #[.val (.int p1), .val (.int p2), .val (.int p3), .val (.int (2 : Int32)), .val (.ref ba), .val (.int r), .unset, .unset, .unset, .unset, .unset, .unset, .unset, .unset, .unset, .unset, .unset] (dc hby d0_143) rfl ?_
        refine go_newO X19 hx hZ hown (hw _ (List.mem_of_getElem? (i := 6) rfl)) (hw _ (List.mem_of_getElem? (i := 7) rfl)) (hw _ (List.mem_of_getElem? (i := 8) rfl)) e19 (dc hby d0_145) (by decide) (by decide) (fun T20 h20 ta g20 X20 e20 E20 A20 D20 => ?_)
        refine go_dup X20 hx (dc hby d0_148) rfl ?_
        refine go_aload X20 hx (dc hby d0_149) (v := (.ref ba)) rfl rfl ?_
        refine go_iload X20 hx (dc hby d0_151) (v := r) rfl ?_
        have hta : h0.size ≤ ta := Nat.le_trans KK2.1 (Nat.le_of_eq g20.symm)
        refine go_special X20 hx hZ rfl hown (hw _ (List.mem_of_getElem? (i := 9) rfl)) (hw _ (List.mem_of_getElem? (i := 10) rfl)) (hw _ (List.mem_of_getElem? (i := 8) rfl)) (hw _ (List.mem_of_getElem? (i := 11) rfl)) (by decide) e20 (a := ta) [(.ref ba), (.int r)] [(.ref ta)] (rm2 l Z a0 hw [] ta ba r kB 2 _ h20 hr A20 (D20 (Or.inr (hw _ (List.mem_of_getElem? (i := 25) rfl))) (ty := .array .boolean) (by decide)) (D20 (Or.inr (hw _ (List.mem_of_getElem? (i := 27) rfl))) (ty := .int) (by decide)) (VA2.ext E20) (YB2.ext E20) (by decide)) pd2 rfl (by rw [hml]; rfl) rfl 1 (Nat.le_of_eq rfl) (by decide) (by decide) (by decide) (by decide) (dc hby d0_153) (fun T21 v21 L21 X21 hQ21 => ?_)
        obtain ⟨rfl, N21, K21, ET, FR, ca, FA, VC⟩ := hQ21
        show Go p e below _ (T21.setTop (mkF m 156 #[.val (.int p1), .val (.int p2), .val (.int p3), .val (.int (2 : Int32)), .val (.ref ba), .val (.int r), .unset, .unset, .unset, .unset, .unset, .unset, .unset, .unset, .unset, .unset, .unset] [(.ref ta)]))
        refine go_astore X21 hx #[.val (.int p1), .val (.int p2), .val (.int p3), .val (.int (2 : Int32)), .val (.ref ba), .val (.int r), .val (.ref ta), .unset, .unset, .unset, .unset, .unset, .unset, .unset, .unset, .unset, .unset] (dc hby d0_156) rfl rfl ?_
        refine go_aload X21 hx (dc hby d0_158) (v := (.ref ta)) rfl rfl ?_
        have hl6 : ([(own_bit p2 1), (own_bit p2 2)] : List Bool).length ≤ 6 := by simp
        have TB := own_tab [(own_bit p2 1), (own_bit p2 2)] hl6
        have TB1 := (Bool.and_eq_true_iff.mp TB).1
        have HN := (own_end [(own_bit p2 1), (own_bit p2 2)] hl6 r hr).1
        refine go_virtualP X21 hx hZ hown (hw _ (List.mem_of_getElem? (i := 28) rfl)) (hw _ (List.mem_of_getElem? (i := 29) rfl)) (hw _ (List.mem_of_getElem? (i := 31) rfl)) (hw _ (List.mem_of_getElem? (i := 30) rfl)) (hw _ (List.mem_of_getElem? (i := 8) rfl)) (hw _ (List.mem_of_getElem? (i := 32) rfl)) (by decide) rfl (a := ta) ET [] [] (r := (.double (Jvm.FP.ddiv (own_go 0 0 0 [(own_bit p2 1), (own_bit p2 2)]) (Jvm.FP.i2d r)))) (rm4 l Z a0 hw [] ta ca kB 2 r [(own_bit p2 1), (own_bit p2 2)] T21.heap rfl hl6 TB1 HN FA FR VC) pd4 rfl (by rw [hml]; rfl) rfl 0 (Nat.le_of_eq rfl) (by decide) (by decide) rfl rfl (by decide) (by decide) (dc hby d0_160) (fun T22 X22 e22 => ?_)
        have NR := Fr.app NL2 (L' := L21) (fun y hy => by rw [N21 y hy]; exact hta)
        obtain ⟨LR, XR, NLR⟩ : ∃ LL, Stand p l e room_1 s m #[(.int p1), (.int p2), (.int p3)] below meth c T22 LL 3 14 ∧ Fr h0.size LL := ⟨_, X22, NR⟩
        refine go_dstore XR hx #[.val (.int p1), .val (.int p2), .val (.int p3), .val (.int (2 : Int32)), .val (.ref ba), .val (.int r), .val (.ref ta), .val (.double (Jvm.FP.ddiv (own_go 0 0 0 [(own_bit p2 1), (own_bit p2 2)]) (Jvm.FP.i2d r))), .second, .unset, .unset, .unset, .unset, .unset, .unset, .unset, .unset] (dc hby d0_163) rfl ?_
        refine go_iconst XR hx (0) (dc hby d0_165) rfl ?_
        refine go_istore XR hx #[.val (.int p1), .val (.int p2), .val (.int p3), .val (.int (2 : Int32)), .val (.ref ba), .val (.int r), .val (.ref ta), .val (.double (Jvm.FP.ddiv (own_go 0 0 0 [(own_bit p2 1), (own_bit p2 2)]) (Jvm.FP.i2d r))), .second, .val (.int (0 : Int32)), .unset, .unset, .unset, .unset, .unset, .unset, .unset] (dc hby d0_166) rfl ?_
        refine go_iconst XR hx (0) (dc hby d0_168) rfl ?_
        refine go_istore XR hx #[.val (.int p1), .val (.int p2), .val (.int p3), .val (.int (2 : Int32)), .val (.ref ba), .val (.int r), .val (.ref ta), .val (.double (Jvm.FP.ddiv (own_go 0 0 0 [(own_bit p2 1), (own_bit p2 2)]) (Jvm.FP.i2d r))), .second, .val (.int (0 : Int32)), .val (.int (0 : Int32)), .unset, .unset, .unset, .unset, .unset, .unset] (dc hby d0_169) rfl ?_
        have inv0 : own_fm 0 0 [(own_bit p2 1), (own_bit p2 2)] [60, 30, 20, 15, 12, 10] = own_fm 0 0 [(own_bit p2 1), (own_bit p2 2)] own_W := rfl
        refine go_iloadn XR hx (dc hby d0_171) (v := (2 : Int32)) rfl ?_
        refine go_ifc_le XR hx (db hby d0_172) (fun c172 => absurd c172 (by decide)) (fun c172 => ?_)
        refine go_iloadn XR hx (dc hby d0_175) (v := p2) rfl ?_
        refine go_iconst XR hx (1) (dc hby d0_176) rfl ?_
        refine go_iand XR hx (dc hby d0_177) ?_
        have J23 : ∀ (TJ23 : State) (f1 m1 : Int32), Stand p l e room_1 s m #[(.int p1), (.int p2), (.int p3)] below meth c TJ23 LR 3 14 → TJ23.heap = T21.heap → f1 = own_f1 (own_bit p2 1) (0 : Int32) → m1 = own_m1 (own_bit p2 1) (0 : Int32) (0 : Int32) 60 → Go p e below (EndN s (fun v h L => v = some (.int 1) ∧ Fr h0.size L) room_1.cells room_1.slots) (TJ23.setTop (mkF m 197 #[.val (.int p1), .val (.int p2), .val (.int p3), .val (.int (2 : Int32)), .val (.ref ba), .val (.int r), .val (.ref ta), .val (.double (Jvm.FP.ddiv (own_go 0 0 0 [(own_bit p2 1), (own_bit p2 2)]) (Jvm.FP.i2d r))), .second, .val (.int f1), .val (.int m1), .unset, .unset, .unset, .unset, .unset, .unset] [])) := by
          intro TJ23 f1 m1 XJ23 eJ23 hf1 hm1
          show Go p e below _ (TJ23.setTop (mkF m 197 #[.val (.int p1), .val (.int p2), .val (.int p3), .val (.int (2 : Int32)), .val (.ref ba), .val (.int r), .val (.ref ta), .val (.double (Jvm.FP.ddiv (own_go 0 0 0 [(own_bit p2 1), (own_bit p2 2)]) (Jvm.FP.i2d r))), .second, .val (.int f1), .val (.int m1), .unset, .unset, .unset, .unset, .unset, .unset] []))
          have inv1 : own_fm f1 m1 [(own_bit p2 2)] [30, 20, 15, 12, 10] = own_fm 0 0 [(own_bit p2 1), (own_bit p2 2)] own_W := by
            rw [hf1, hm1, ← own_fmc]
            exact inv0
          refine go_iloadn XJ23 hx (dc hby d0_197) (v := (2 : Int32)) rfl ?_
          refine go_iconst XJ23 hx (1) (dc hby d0_198) rfl ?_
          refine go_icmp_le XJ23 hx (db hby d0_199) (fun c199 => absurd c199 (by decide)) (fun c199 => ?_)
          refine go_iloadn XJ23 hx (dc hby d0_202) (v := p2) rfl ?_
          refine go_iconst XJ23 hx (2) (dc hby d0_203) rfl ?_
          refine go_iand XJ23 hx (dc hby d0_204) ?_
          have J24 : ∀ (TJ24 : State) (f2 m2 : Int32), Stand p l e room_1 s m #[(.int p1), (.int p2), (.int p3)] below meth c TJ24 LR 3 14 → TJ24.heap = T21.heap → f2 = own_f1 (own_bit p2 2) f1 → m2 = own_m1 (own_bit p2 2) f1 m1 30 → Go p e below (EndN s (fun v h L => v = some (.int 1) ∧ Fr h0.size L) room_1.cells room_1.slots) (TJ24.setTop (mkF m 224 #[.val (.int p1), .val (.int p2), .val (.int p3), .val (.int (2 : Int32)), .val (.ref ba), .val (.int r), .val (.ref ta), .val (.double (Jvm.FP.ddiv (own_go 0 0 0 [(own_bit p2 1), (own_bit p2 2)]) (Jvm.FP.i2d r))), .second, .val (.int f2), .val (.int m2), .unset, .unset, .unset, .unset, .unset, .unset] [])) := by
            intro TJ24 f2 m2 XJ24 eJ24 hf2 hm2
            show Go p e below _ (TJ24.setTop (mkF m 224 #[.val (.int p1), .val (.int p2), .val (.int p3), .val (.int (2 : Int32)), .val (.ref ba), .val (.int r), .val (.ref ta), .val (.double (Jvm.FP.ddiv (own_go 0 0 0 [(own_bit p2 1), (own_bit p2 2)]) (Jvm.FP.i2d r))), .second, .val (.int f2), .val (.int m2), .unset, .unset, .unset, .unset, .unset, .unset] []))
            have inv2 : own_fm f2 m2 [] [20, 15, 12, 10] = own_fm 0 0 [(own_bit p2 1), (own_bit p2 2)] own_W := by
              rw [hf2, hm2, ← own_fmc]
              exact inv1
            refine go_iloadn XJ24 hx (dc hby d0_224) (v := (2 : Int32)) rfl ?_
            refine go_iconst XJ24 hx (2) (dc hby d0_225) rfl ?_
            refine go_icmp_le XJ24 hx (db hby d0_226) (fun c226 => ?_) (fun c226 => absurd c226 (by decide))
            refine go_iloadn XJ24 hx (dc hby d0_251) (v := (2 : Int32)) rfl ?_
            refine go_iconst XJ24 hx (3) (dc hby d0_252) rfl ?_
            refine go_icmp_le XJ24 hx (db hby d0_253) (fun c253 => ?_) (fun c253 => absurd c253 (by decide))
            refine go_iloadn XJ24 hx (dc hby d0_279) (v := (2 : Int32)) rfl ?_
            refine go_iconst XJ24 hx (4) (dc hby d0_280) rfl ?_
            refine go_icmp_le XJ24 hx (db hby d0_281) (fun c281 => ?_) (fun c281 => absurd c281 (by decide))
            refine go_iloadn XJ24 hx (dc hby d0_307) (v := (2 : Int32)) rfl ?_
            refine go_iconst XJ24 hx (5) (dc hby d0_308) rfl ?_
            refine go_icmp_le XJ24 hx (db hby d0_309) (fun c309 => ?_) (fun c309 => absurd c309 (by decide))
            exact J335 TJ24 T21.heap LR [(own_bit p2 1), (own_bit p2 2)] _ r _ _ ba ta XJ24 eJ24 NLR hl6 hr inv2
          refine go_ifc_eq XJ23 hx (db hby d0_205) (fun c205 => ?_) (fun c205 => ?_)
          · exact J24 TJ23 _ _ XJ23 eJ23 (by rw [own_b0' c205]; rfl) (by rw [own_b0' c205]; rfl)
          · refine go_iload XJ23 hx (dc hby d0_208) (v := f1) rfl ?_
            refine go_iconst XJ23 hx (1) (dc hby d0_210) rfl ?_
            refine go_iadd XJ23 hx (dc hby d0_211) ?_
            refine go_istore XJ23 hx #[.val (.int p1), .val (.int p2), .val (.int p3), .val (.int (2 : Int32)), .val (.ref ba), .val (.int r), .val (.ref ta), .val (.double (Jvm.FP.ddiv (own_go 0 0 0 [(own_bit p2 1), (own_bit p2 2)]) (Jvm.FP.i2d r))), .second, .val (.int (f1 + (1 : Int32))), .val (.int m1), .unset, .unset, .unset, .unset, .unset, .unset] (dc hby d0_212) rfl ?_
            refine go_iload XJ23 hx (dc hby d0_214) (v := m1) rfl ?_
            refine go_iload XJ23 hx (dc hby d0_216) (v := (f1 + (1 : Int32))) rfl ?_
            refine go_bipush XJ23 hx (30) (dc hby d0_218) rfl ?_
            refine go_imul XJ23 hx (dc hby d0_220) ?_
            refine go_iadd XJ23 hx (dc hby d0_221) ?_
            refine go_istore XJ23 hx #[.val (.int p1), .val (.int p2), .val (.int p3), .val (.int (2 : Int32)), .val (.ref ba), .val (.int r), .val (.ref ta), .val (.double (Jvm.FP.ddiv (own_go 0 0 0 [(own_bit p2 1), (own_bit p2 2)]) (Jvm.FP.i2d r))), .second, .val (.int (f1 + (1 : Int32))), .val (.int (m1 + ((f1 + (1 : Int32)) * (30 : Int32)))), .unset, .unset, .unset, .unset, .unset, .unset] (dc hby d0_222) rfl ?_
            exact J24 TJ23 _ _ XJ23 eJ23 (by rw [own_b1' c205]; rfl) (by rw [own_b1' c205]; rfl)
        refine go_ifc_eq XR hx (db hby d0_178) (fun c178 => ?_) (fun c178 => ?_)
        · exact J23 T22 _ _ XR e22 (by rw [own_b0' c178]; rfl) (by rw [own_b0' c178]; rfl)
        · refine go_iload XR hx (dc hby d0_181) (v := (0 : Int32)) rfl ?_
          refine go_iconst XR hx (1) (dc hby d0_183) rfl ?_
          refine go_iadd XR hx (dc hby d0_184) ?_
          refine go_istore XR hx #[.val (.int p1), .val (.int p2), .val (.int p3), .val (.int (2 : Int32)), .val (.ref ba), .val (.int r), .val (.ref ta), .val (.double (Jvm.FP.ddiv (own_go 0 0 0 [(own_bit p2 1), (own_bit p2 2)]) (Jvm.FP.i2d r))), .second, .val (.int ((0 : Int32) + (1 : Int32))), .val (.int (0 : Int32)), .unset, .unset, .unset, .unset, .unset, .unset] (dc hby d0_185) rfl ?_
          refine go_iload XR hx (dc hby d0_187) (v := (0 : Int32)) rfl ?_
          refine go_iload XR hx (dc hby d0_189) (v := ((0 : Int32) + (1 : Int32))) rfl ?_
          refine go_bipush XR hx (60) (dc hby d0_191) rfl ?_
          refine go_imul XR hx (dc hby d0_193) ?_
          refine go_iadd XR hx (dc hby d0_194) ?_
          refine go_istore XR hx #[.val (.int p1), .val (.int p2), .val (.int p3), .val (.int (2 : Int32)), .val (.ref ba), .val (.int r), .val (.ref ta), .val (.double (Jvm.FP.ddiv (own_go 0 0 0 [(own_bit p2 1), (own_bit p2 2)]) (Jvm.FP.i2d r))), .second, .val (.int ((0 : Int32) + (1 : Int32))), .val (.int ((0 : Int32) + (((0 : Int32) + (1 : Int32)) * (60 : Int32)))), .unset, .unset, .unset, .unset, .unset, .unset] (dc hby d0_195) rfl ?_
          exact J23 T22 _ _ XR e22 (by rw [own_b1' c178]; rfl) (by rw [own_b1' c178]; rfl)
      refine go_ifc_eq XL1 hx (db hby d0_43) (fun c43 => ?_) (fun c43 => ?_)
      · refine go_iconst XL1 hx (0) (dc hby d0_50) rfl ?_
        exact J17 T16 _ XL1 e16 ((own_z0 c43).symm)
      · refine go_iconst XL1 hx (1) (dc hby d0_46) rfl ?_
        refine go_goto XL1 hx (db hby d0_47) ?_
        exact J17 T16 _ XL1 e16 ((own_z1 c43).symm)
    refine go_ifc_eq X14 hx (db hby d0_23) (fun c23 => ?_) (fun c23 => ?_)
    · refine go_iconst X14 hx (0) (dc hby d0_30) rfl ?_
      exact J15 T14 _ X14 e14 ((own_z0 c23).symm)
    · refine go_iconst X14 hx (1) (dc hby d0_26) rfl ?_
      refine go_goto X14 hx (db hby d0_27) ?_
      exact J15 T14 _ X14 e14 ((own_z1 c23).symm)
  · show Go p e below _ (T0.setTop (mkF m 7 #[.val (.int p1), .val (.int p2), .val (.int p3), .unset, .unset, .unset, .unset, .unset, .unset, .unset, .unset, .unset, .unset, .unset, .unset, .unset, .unset] [(.int (3 : Int32))]))
    refine go_istoren X0 hx #[.val (.int p1), .val (.int p2), .val (.int p3), .val (.int (3 : Int32)), .unset, .unset, .unset, .unset, .unset, .unset, .unset, .unset, .unset, .unset, .unset, .unset, .unset] (dc hby d0_7) rfl ?_
    refine go_iloadn X0 hx (dc hby d0_8) (v := (3 : Int32)) rfl ?_
    refine go_newPE X0 hx hZ (hw _ (List.mem_of_getElem? (i := 0) rfl)) e0 (dc hby d0_9) (by decide) 6 (by decide) (by decide) (by decide) (by decide) (ad := "[Z") (by decide) (fun T25 h25 kB ba g25 X25 e25 E25 A25 Y25 => ?_)
    have hba : h0.size ≤ ba := Nat.le_of_eq g25.symm
    have N0 := Fr.nil h0.size
    have V0 : Arv Z h25 ba kB .boolean 3 [.int 0, .int 0, .int 0] (.int 0) := (Arv.new A25 (by decide)).pad (own_rep (n := 3))
    have KK0 : Keep h0 h25 [] := (Keep.refl _ _).ext E25
    refine go_astore X25 hx #[.val (.int p1), .val (.int p2), .val (.int p3), .val (.int (3 : Int32)), .val (.ref ba), .unset, .unset, .unset, .unset, .unset, .unset, .unset, .unset, .unset, .unset, .unset, .unset] (dc hby d0_11) rfl rfl ?_
    refine go_iloadn X25 hx (dc hby d0_13) (v := (3 : Int32)) rfl ?_
    refine go_ifc_le X25 hx (db hby d0_14) (fun c14 => absurd c14 (by decide)) (fun c14 => ?_)
    refine go_aload X25 hx (dc hby d0_17) (v := (.ref ba)) rfl rfl ?_
    refine go_iconst X25 hx (0) (dc hby d0_19) rfl ?_
    refine go_iloadn X25 hx (dc hby d0_20) (v := p2) rfl ?_
    refine go_iconst X25 hx (1) (dc hby d0_21) rfl ?_
    refine go_iand X25 hx (dc hby d0_22) ?_
    have J26 : ∀ (TJ26 : State) (z : Int32), Stand p l e room_1 s m #[(.int p1), (.int p2), (.int p3)] below meth c TJ26 [] 1 6 → TJ26.heap = h25 → z = (own_z (own_bit p2 1)) → Go p e below (EndN s (fun v h L => v = some (.int 1) ∧ Fr h0.size L) room_1.cells room_1.slots) (TJ26.setTop (mkF m 31 #[.val (.int p1), .val (.int p2), .val (.int p3), .val (.int (3 : Int32)), .val (.ref ba), .unset, .unset, .unset, .unset, .unset, .unset, .unset, .unset, .unset, .unset, .unset, .unset] [(.int z), (.int (0 : Int32)), (.ref ba)])) := by
      intro TJ26 z XJ26 eJ26 hz
      subst hz
      show Go p e below _ (TJ26.setTop (mkF m 31 #[.val (.int p1), .val (.int p2), .val (.int p3), .val (.int (3 : Int32)), .val (.ref ba), .unset, .unset, .unset, .unset, .unset, .unset, .unset, .unset, .unset, .unset, .unset, .unset] [(.int (own_z (own_bit p2 1))), (.int (0 : Int32)), (.ref ba)]))
      refine go_zastoreV XJ26 hx hZ eJ26 V0 (by decide) 0 rfl (by simp) (dc hby d0_31) (fun T27 h27 X27 e27 W27 V27 => ?_)
      have VA1 : Arv Z h27 ba kB .boolean 3 [own_v (own_bit p2 1), .int 0, .int 0] (.int 0) := by
        have z := V27
        rw [own_nzb] at z
        exact z
      have YB1 := Y25.wr W27
      have KK1 := KK0.wr W27 (Or.inr hba)
      obtain ⟨LL1, XL1, NL1⟩ : ∃ LL, Stand p l e room_1 s m #[(.int p1), (.int p2), (.int p3)] below meth c T27 LL 1 6 ∧ Fr h0.size LL := ⟨_, X27, Fr.snoc X27 N0 hba⟩
      refine go_iloadn XL1 hx (dc hby d0_32) (v := (3 : Int32)) rfl ?_
      refine go_iconst XL1 hx (1) (dc hby d0_33) rfl ?_
      refine go_icmp_le XL1 hx (db hby d0_34) (fun c34 => absurd c34 (by decide)) (fun c34 => ?_)
      refine go_aload XL1 hx (dc hby d0_37) (v := (.ref ba)) rfl rfl ?_
      refine go_iconst XL1 hx (1) (dc hby d0_39) rfl ?_
      refine go_iloadn XL1 hx (dc hby d0_40) (v := p2) rfl ?_
      refine go_iconst XL1 hx (2) (dc hby d0_41) rfl ?_
      refine go_iand XL1 hx (dc hby d0_42) ?_
      have J28 : ∀ (TJ28 : State) (z : Int32), Stand p l e room_1 s m #[(.int p1), (.int p2), (.int p3)] below meth c TJ28 LL1 1 6 → TJ28.heap = h27 → z = (own_z (own_bit p2 2)) → Go p e below (EndN s (fun v h L => v = some (.int 1) ∧ Fr h0.size L) room_1.cells room_1.slots) (TJ28.setTop (mkF m 51 #[.val (.int p1), .val (.int p2), .val (.int p3), .val (.int (3 : Int32)), .val (.ref ba), .unset, .unset, .unset, .unset, .unset, .unset, .unset, .unset, .unset, .unset, .unset, .unset] [(.int z), (.int (1 : Int32)), (.ref ba)])) := by
        intro TJ28 z XJ28 eJ28 hz
        subst hz
        show Go p e below _ (TJ28.setTop (mkF m 51 #[.val (.int p1), .val (.int p2), .val (.int p3), .val (.int (3 : Int32)), .val (.ref ba), .unset, .unset, .unset, .unset, .unset, .unset, .unset, .unset, .unset, .unset, .unset, .unset] [(.int (own_z (own_bit p2 2))), (.int (1 : Int32)), (.ref ba)]))
        refine go_zastoreV XJ28 hx hZ eJ28 VA1 (by decide) 1 rfl (by simp) (dc hby d0_51) (fun T29 h29 X29 e29 W29 V29 => ?_)
        have VA2 : Arv Z h29 ba kB .boolean 3 [own_v (own_bit p2 1), own_v (own_bit p2 2), .int 0] (.int 0) := by
          have z := V29
          rw [own_nzb] at z
          exact z
        have YB2 := YB1.wr W29
        have KK2 := KK1.wr W29 (Or.inr hba)
        obtain ⟨LL2, XL2, NL2⟩ : ∃ LL, Stand p l e room_1 s m #[(.int p1), (.int p2), (.int p3)] below meth c T29 LL 1 6 ∧ Fr h0.size LL := ⟨_, X29, Fr.snoc X29 NL1 hba⟩
        refine go_iloadn XL2 hx (dc hby d0_52) (v := (3 : Int32)) rfl ?_
        refine go_iconst XL2 hx (2) (dc hby d0_53) rfl ?_
        refine go_icmp_le XL2 hx (db hby d0_54) (fun c54 => absurd c54 (by decide)) (fun c54 => ?_)
        refine go_aload XL2 hx (dc hby d0_57) (v := (.ref ba)) rfl rfl ?_
        refine go_iconst XL2 hx (2) (dc hby d0_59) rfl ?_
        refine go_iloadn XL2 hx (dc hby d0_60) (v := p2) rfl ?_
        refine go_iconst XL2 hx (4) (dc hby d0_61) rfl ?_
        refine go_iand XL2 hx (dc hby d0_62) ?_
        have J30 : ∀ (TJ30 : State) (z : Int32), Stand p l e room_1 s m #[(.int p1), (.int p2), (.int p3)] below meth c TJ30 LL2 1 6 → TJ30.heap = h29 → z = (own_z (own_bit p2 4)) → Go p e below (EndN s (fun v h L => v = some (.int 1) ∧ Fr h0.size L) room_1.cells room_1.slots) (TJ30.setTop (mkF m 71 #[.val (.int p1), .val (.int p2), .val (.int p3), .val (.int (3 : Int32)), .val (.ref ba), .unset, .unset, .unset, .unset, .unset, .unset, .unset, .unset, .unset, .unset, .unset, .unset] [(.int z), (.int (2 : Int32)), (.ref ba)])) := by
          intro TJ30 z XJ30 eJ30 hz
          subst hz
          show Go p e below _ (TJ30.setTop (mkF m 71 #[.val (.int p1), .val (.int p2), .val (.int p3), .val (.int (3 : Int32)), .val (.ref ba), .unset, .unset, .unset, .unset, .unset, .unset, .unset, .unset, .unset, .unset, .unset, .unset] [(.int (own_z (own_bit p2 4))), (.int (2 : Int32)), (.ref ba)]))
          refine go_zastoreV XJ30 hx hZ eJ30 VA2 (by decide) 2 rfl (by simp) (dc hby d0_71) (fun T31 h31 X31 e31 W31 V31 => ?_)
          have VA3 : Arv Z h31 ba kB .boolean 3 [own_v (own_bit p2 1), own_v (own_bit p2 2), own_v (own_bit p2 4)] (.int 0) := by
            have z := V31
            rw [own_nzb] at z
            exact z
          have YB3 := YB2.wr W31
          have KK3 := KK2.wr W31 (Or.inr hba)
          obtain ⟨LL3, XL3, NL3⟩ : ∃ LL, Stand p l e room_1 s m #[(.int p1), (.int p2), (.int p3)] below meth c T31 LL 1 6 ∧ Fr h0.size LL := ⟨_, X31, Fr.snoc X31 NL2 hba⟩
          refine go_iloadn XL3 hx (dc hby d0_72) (v := (3 : Int32)) rfl ?_
          refine go_iconst XL3 hx (3) (dc hby d0_73) rfl ?_
          refine go_icmp_le XL3 hx (db hby d0_74) (fun c74 => ?_) (fun c74 => absurd c74 (by decide))
          refine go_iloadn XL3 hx (dc hby d0_93) (v := (3 : Int32)) rfl ?_
          refine go_iconst XL3 hx (4) (dc hby d0_94) rfl ?_
          refine go_icmp_le XL3 hx (db hby d0_95) (fun c95 => ?_) (fun c95 => absurd c95 (by decide))
          refine go_iloadn XL3 hx (dc hby d0_114) (v := (3 : Int32)) rfl ?_
          refine go_iconst XL3 hx (5) (dc hby d0_115) rfl ?_
          refine go_icmp_le XL3 hx (db hby d0_116) (fun c116 => ?_) (fun c116 => absurd c116 (by decide))
          refine go_iconst XL3 hx (1) (dc hby d0_135) rfl ?_
          refine go_iloadn XL3 hx (dc hby d0_136) (v := p3) rfl ?_
          refine go_ldc XL3 hx hZ hown (hw _ (List.mem_of_getElem? (i := 1) rfl)) (dc hby d0_137) ?_
          refine go_iand XL3 hx (dc hby d0_139) ?_
          refine go_staticP XL3 hx hZ hown (hw _ (List.mem_of_getElem? (i := 2) rfl)) (hw _ (List.mem_of_getElem? (i := 3) rfl)) (hw _ (List.mem_of_getElem? (i := 4) rfl)) (hw _ (List.mem_of_getElem? (i := 5) rfl)) (by decide) e31 [(.int (1 : Int32)), (.int (p3 &&& (2147483647 : Int32)))] [] (r := (.int (own_max 1 (p3 &&& 2147483647)))) (rm1 l Z a0 hw [] 1 (p3 &&& 2147483647) h31) pd1 rfl (by rw [hml]; rfl) rfl 0 (Nat.le_of_eq rfl) (by decide) (by decide) rfl rfl (by decide) (by decide) (dc hby d0_140) (fun T32 X32 e32 => ?_)
          have hr := own_rl p3
          generalize own_max 1 (p3 &&& 2147483647) = r at hr ⊢
          show Go p e below _ (T32.setTop (mkF m 143 #[.val (.int p1), .val (.int p2), .val (.int p3), .val (.int (3 : Int32)), .val (.ref ba), .unset, .unset, .unset, .unset, .unset, .unset, .unset, .unset, .unset, .unset, .unset, .unset] [(.int r)]))
          refine go_istore X32 hx #[.val (.int p1), .val (.int p2), .val (.int p3), .val (.int (3 : Int32)), .val (.ref ba), .val (.int r), .unset, .unset, .unset, .unset, .unset, .unset, .unset, .unset, .unset, .unset, .unset] (dc hby d0_143) rfl ?_
          refine go_newO X32 hx hZ hown (hw _ (List.mem_of_getElem? (i := 6) rfl)) (hw _ (List.mem_of_getElem? (i := 7) rfl)) (hw _ (List.mem_of_getElem? (i := 8) rfl)) e32 (dc hby d0_145) (by decide) (by decide) (fun T33 h33 ta g33 X33 e33 E33 A33 D33 => ?_)
          refine go_dup X33 hx (dc hby d0_148) rfl ?_
          refine go_aload X33 hx (dc hby d0_149) (v := (.ref ba)) rfl rfl ?_
          refine go_iload X33 hx (dc hby d0_151) (v := r) rfl ?_
          have hta : h0.size ≤ ta := Nat.le_trans KK3.1 (Nat.le_of_eq g33.symm)
          refine go_special X33 hx hZ rfl hown (hw _ (List.mem_of_getElem? (i := 9) rfl)) (hw _ (List.mem_of_getElem? (i := 10) rfl)) (hw _ (List.mem_of_getElem? (i := 8) rfl)) (hw _ (List.mem_of_getElem? (i := 11) rfl)) (by decide) e33 (a := ta) [(.ref ba), (.int r)] [(.ref ta)] (rm2 l Z a0 hw [] ta ba r kB 3 _ h33 hr A33 (D33 (Or.inr (hw _ (List.mem_of_getElem? (i := 25) rfl))) (ty := .array .boolean) (by decide)) (D33 (Or.inr (hw _ (List.mem_of_getElem? (i := 27) rfl))) (ty := .int) (by decide)) (VA3.ext E33) (YB3.ext E33) (by decide)) pd2 rfl (by rw [hml]; rfl) rfl 1 (Nat.le_of_eq rfl) (by decide) (by decide) (by decide) (by decide) (dc hby d0_153) (fun T34 v34 L34 X34 hQ34 => ?_)
          obtain ⟨rfl, N34, K34, ET, FR, ca, FA, VC⟩ := hQ34
          show Go p e below _ (T34.setTop (mkF m 156 #[.val (.int p1), .val (.int p2), .val (.int p3), .val (.int (3 : Int32)), .val (.ref ba), .val (.int r), .unset, .unset, .unset, .unset, .unset, .unset, .unset, .unset, .unset, .unset, .unset] [(.ref ta)]))
          refine go_astore X34 hx #[.val (.int p1), .val (.int p2), .val (.int p3), .val (.int (3 : Int32)), .val (.ref ba), .val (.int r), .val (.ref ta), .unset, .unset, .unset, .unset, .unset, .unset, .unset, .unset, .unset, .unset] (dc hby d0_156) rfl rfl ?_
          refine go_aload X34 hx (dc hby d0_158) (v := (.ref ta)) rfl rfl ?_
          have hl6 : ([(own_bit p2 1), (own_bit p2 2), (own_bit p2 4)] : List Bool).length ≤ 6 := by simp
          have TB := own_tab [(own_bit p2 1), (own_bit p2 2), (own_bit p2 4)] hl6
          have TB1 := (Bool.and_eq_true_iff.mp TB).1
          have HN := (own_end [(own_bit p2 1), (own_bit p2 2), (own_bit p2 4)] hl6 r hr).1
          refine go_virtualP X34 hx hZ hown (hw _ (List.mem_of_getElem? (i := 28) rfl)) (hw _ (List.mem_of_getElem? (i := 29) rfl)) (hw _ (List.mem_of_getElem? (i := 31) rfl)) (hw _ (List.mem_of_getElem? (i := 30) rfl)) (hw _ (List.mem_of_getElem? (i := 8) rfl)) (hw _ (List.mem_of_getElem? (i := 32) rfl)) (by decide) rfl (a := ta) ET [] [] (r := (.double (Jvm.FP.ddiv (own_go 0 0 0 [(own_bit p2 1), (own_bit p2 2), (own_bit p2 4)]) (Jvm.FP.i2d r)))) (rm4 l Z a0 hw [] ta ca kB 3 r [(own_bit p2 1), (own_bit p2 2), (own_bit p2 4)] T34.heap rfl hl6 TB1 HN FA FR VC) pd4 rfl (by rw [hml]; rfl) rfl 0 (Nat.le_of_eq rfl) (by decide) (by decide) rfl rfl (by decide) (by decide) (dc hby d0_160) (fun T35 X35 e35 => ?_)
          have NR := Fr.app NL3 (L' := L34) (fun y hy => by rw [N34 y hy]; exact hta)
          obtain ⟨LR, XR, NLR⟩ : ∃ LL, Stand p l e room_1 s m #[(.int p1), (.int p2), (.int p3)] below meth c T35 LL 3 14 ∧ Fr h0.size LL := ⟨_, X35, NR⟩
          refine go_dstore XR hx #[.val (.int p1), .val (.int p2), .val (.int p3), .val (.int (3 : Int32)), .val (.ref ba), .val (.int r), .val (.ref ta), .val (.double (Jvm.FP.ddiv (own_go 0 0 0 [(own_bit p2 1), (own_bit p2 2), (own_bit p2 4)]) (Jvm.FP.i2d r))), .second, .unset, .unset, .unset, .unset, .unset, .unset, .unset, .unset] (dc hby d0_163) rfl ?_
          refine go_iconst XR hx (0) (dc hby d0_165) rfl ?_
          refine go_istore XR hx #[.val (.int p1), .val (.int p2), .val (.int p3), .val (.int (3 : Int32)), .val (.ref ba), .val (.int r), .val (.ref ta), .val (.double (Jvm.FP.ddiv (own_go 0 0 0 [(own_bit p2 1), (own_bit p2 2), (own_bit p2 4)]) (Jvm.FP.i2d r))), .second, .val (.int (0 : Int32)), .unset, .unset, .unset, .unset, .unset, .unset, .unset] (dc hby d0_166) rfl ?_
          refine go_iconst XR hx (0) (dc hby d0_168) rfl ?_
          refine go_istore XR hx #[.val (.int p1), .val (.int p2), .val (.int p3), .val (.int (3 : Int32)), .val (.ref ba), .val (.int r), .val (.ref ta), .val (.double (Jvm.FP.ddiv (own_go 0 0 0 [(own_bit p2 1), (own_bit p2 2), (own_bit p2 4)]) (Jvm.FP.i2d r))), .second, .val (.int (0 : Int32)), .val (.int (0 : Int32)), .unset, .unset, .unset, .unset, .unset, .unset] (dc hby d0_169) rfl ?_
          have inv0 : own_fm 0 0 [(own_bit p2 1), (own_bit p2 2), (own_bit p2 4)] [60, 30, 20, 15, 12, 10] = own_fm 0 0 [(own_bit p2 1), (own_bit p2 2), (own_bit p2 4)] own_W := rfl
          refine go_iloadn XR hx (dc hby d0_171) (v := (3 : Int32)) rfl ?_
          refine go_ifc_le XR hx (db hby d0_172) (fun c172 => absurd c172 (by decide)) (fun c172 => ?_)
          refine go_iloadn XR hx (dc hby d0_175) (v := p2) rfl ?_
          refine go_iconst XR hx (1) (dc hby d0_176) rfl ?_
          refine go_iand XR hx (dc hby d0_177) ?_
          have J36 : ∀ (TJ36 : State) (f1 m1 : Int32), Stand p l e room_1 s m #[(.int p1), (.int p2), (.int p3)] below meth c TJ36 LR 3 14 → TJ36.heap = T34.heap → f1 = own_f1 (own_bit p2 1) (0 : Int32) → m1 = own_m1 (own_bit p2 1) (0 : Int32) (0 : Int32) 60 → Go p e below (EndN s (fun v h L => v = some (.int 1) ∧ Fr h0.size L) room_1.cells room_1.slots) (TJ36.setTop (mkF m 197 #[.val (.int p1), .val (.int p2), .val (.int p3), .val (.int (3 : Int32)), .val (.ref ba), .val (.int r), .val (.ref ta), .val (.double (Jvm.FP.ddiv (own_go 0 0 0 [(own_bit p2 1), (own_bit p2 2), (own_bit p2 4)]) (Jvm.FP.i2d r))), .second, .val (.int f1), .val (.int m1), .unset, .unset, .unset, .unset, .unset, .unset] [])) := by
            intro TJ36 f1 m1 XJ36 eJ36 hf1 hm1
            show Go p e below _ (TJ36.setTop (mkF m 197 #[.val (.int p1), .val (.int p2), .val (.int p3), .val (.int (3 : Int32)), .val (.ref ba), .val (.int r), .val (.ref ta), .val (.double (Jvm.FP.ddiv (own_go 0 0 0 [(own_bit p2 1), (own_bit p2 2), (own_bit p2 4)]) (Jvm.FP.i2d r))), .second, .val (.int f1), .val (.int m1), .unset, .unset, .unset, .unset, .unset, .unset] []))
            have inv1 : own_fm f1 m1 [(own_bit p2 2), (own_bit p2 4)] [30, 20, 15, 12, 10] = own_fm 0 0 [(own_bit p2 1), (own_bit p2 2), (own_bit p2 4)] own_W := by
              rw [hf1, hm1, ← own_fmc]
              exact inv0
            refine go_iloadn XJ36 hx (dc hby d0_197) (v := (3 : Int32)) rfl ?_
            refine go_iconst XJ36 hx (1) (dc hby d0_198) rfl ?_
            refine go_icmp_le XJ36 hx (db hby d0_199) (fun c199 => absurd c199 (by decide)) (fun c199 => ?_)
            refine go_iloadn XJ36 hx (dc hby d0_202) (v := p2) rfl ?_
            refine go_iconst XJ36 hx (2) (dc hby d0_203) rfl ?_
            refine go_iand XJ36 hx (dc hby d0_204) ?_
            have J37 : ∀ (TJ37 : State) (f2 m2 : Int32), Stand p l e room_1 s m #[(.int p1), (.int p2), (.int p3)] below meth c TJ37 LR 3 14 → TJ37.heap = T34.heap → f2 = own_f1 (own_bit p2 2) f1 → m2 = own_m1 (own_bit p2 2) f1 m1 30 → Go p e below (EndN s (fun v h L => v = some (.int 1) ∧ Fr h0.size L) room_1.cells room_1.slots) (TJ37.setTop (mkF m 224 #[.val (.int p1), .val (.int p2), .val (.int p3), .val (.int (3 : Int32)), .val (.ref ba), .val (.int r), .val (.ref ta), .val (.double (Jvm.FP.ddiv (own_go 0 0 0 [(own_bit p2 1), (own_bit p2 2), (own_bit p2 4)]) (Jvm.FP.i2d r))), .second, .val (.int f2), .val (.int m2), .unset, .unset, .unset, .unset, .unset, .unset] [])) := by
              intro TJ37 f2 m2 XJ37 eJ37 hf2 hm2
              show Go p e below _ (TJ37.setTop (mkF m 224 #[.val (.int p1), .val (.int p2), .val (.int p3), .val (.int (3 : Int32)), .val (.ref ba), .val (.int r), .val (.ref ta), .val (.double (Jvm.FP.ddiv (own_go 0 0 0 [(own_bit p2 1), (own_bit p2 2), (own_bit p2 4)]) (Jvm.FP.i2d r))), .second, .val (.int f2), .val (.int m2), .unset, .unset, .unset, .unset, .unset, .unset] []))
              have inv2 : own_fm f2 m2 [(own_bit p2 4)] [20, 15, 12, 10] = own_fm 0 0 [(own_bit p2 1), (own_bit p2 2), (own_bit p2 4)] own_W := by
                rw [hf2, hm2, ← own_fmc]
                exact inv1
              refine go_iloadn XJ37 hx (dc hby d0_224) (v := (3 : Int32)) rfl ?_
              refine go_iconst XJ37 hx (2) (dc hby d0_225) rfl ?_
              refine go_icmp_le XJ37 hx (db hby d0_226) (fun c226 => absurd c226 (by decide)) (fun c226 => ?_)
              refine go_iloadn XJ37 hx (dc hby d0_229) (v := p2) rfl ?_
              refine go_iconst XJ37 hx (4) (dc hby d0_230) rfl ?_
              refine go_iand XJ37 hx (dc hby d0_231) ?_
              have J38 : ∀ (TJ38 : State) (f3 m3 : Int32), Stand p l e room_1 s m #[(.int p1), (.int p2), (.int p3)] below meth c TJ38 LR 3 14 → TJ38.heap = T34.heap → f3 = own_f1 (own_bit p2 4) f2 → m3 = own_m1 (own_bit p2 4) f2 m2 20 → Go p e below (EndN s (fun v h L => v = some (.int 1) ∧ Fr h0.size L) room_1.cells room_1.slots) (TJ38.setTop (mkF m 251 #[.val (.int p1), .val (.int p2), .val (.int p3), .val (.int (3 : Int32)), .val (.ref ba), .val (.int r), .val (.ref ta), .val (.double (Jvm.FP.ddiv (own_go 0 0 0 [(own_bit p2 1), (own_bit p2 2), (own_bit p2 4)]) (Jvm.FP.i2d r))), .second, .val (.int f3), .val (.int m3), .unset, .unset, .unset, .unset, .unset, .unset] [])) := by
                intro TJ38 f3 m3 XJ38 eJ38 hf3 hm3
                show Go p e below _ (TJ38.setTop (mkF m 251 #[.val (.int p1), .val (.int p2), .val (.int p3), .val (.int (3 : Int32)), .val (.ref ba), .val (.int r), .val (.ref ta), .val (.double (Jvm.FP.ddiv (own_go 0 0 0 [(own_bit p2 1), (own_bit p2 2), (own_bit p2 4)]) (Jvm.FP.i2d r))), .second, .val (.int f3), .val (.int m3), .unset, .unset, .unset, .unset, .unset, .unset] []))
                have inv3 : own_fm f3 m3 [] [15, 12, 10] = own_fm 0 0 [(own_bit p2 1), (own_bit p2 2), (own_bit p2 4)] own_W := by
                  rw [hf3, hm3, ← own_fmc]
                  exact inv2
                refine go_iloadn XJ38 hx (dc hby d0_251) (v := (3 : Int32)) rfl ?_
                refine go_iconst XJ38 hx (3) (dc hby d0_252) rfl ?_
                refine go_icmp_le XJ38 hx (db hby d0_253) (fun c253 => ?_) (fun c253 => absurd c253 (by decide))
                refine go_iloadn XJ38 hx (dc hby d0_279) (v := (3 : Int32)) rfl ?_
                refine go_iconst XJ38 hx (4) (dc hby d0_280) rfl ?_
                refine go_icmp_le XJ38 hx (db hby d0_281) (fun c281 => ?_) (fun c281 => absurd c281 (by decide))
                refine go_iloadn XJ38 hx (dc hby d0_307) (v := (3 : Int32)) rfl ?_
                refine go_iconst XJ38 hx (5) (dc hby d0_308) rfl ?_
                refine go_icmp_le XJ38 hx (db hby d0_309) (fun c309 => ?_) (fun c309 => absurd c309 (by decide))
                exact J335 TJ38 T34.heap LR [(own_bit p2 1), (own_bit p2 2), (own_bit p2 4)] _ r _ _ ba ta XJ38 eJ38 NLR hl6 hr inv3
              refine go_ifc_eq XJ37 hx (db hby d0_232) (fun c232 => ?_) (fun c232 => ?_)
              · exact J38 TJ37 _ _ XJ37 eJ37 (by rw [own_b0' c232]; rfl) (by rw [own_b0' c232]; rfl)
              · refine go_iload XJ37 hx (dc hby d0_235) (v := f2) rfl ?_
                refine go_iconst XJ37 hx (1) (dc hby d0_237) rfl ?_
                refine go_iadd XJ37 hx (dc hby d0_238) ?_
                refine go_istore XJ37 hx #[.val (.int p1), .val (.int p2), .val (.int p3), .val (.int (3 : Int32)), .val (.ref ba), .val (.int r), .val (.ref ta), .val (.double (Jvm.FP.ddiv (own_go 0 0 0 [(own_bit p2 1), (own_bit p2 2), (own_bit p2 4)]) (Jvm.FP.i2d r))), .second, .val (.int (f2 + (1 : Int32))), .val (.int m2), .unset, .unset, .unset, .unset, .unset, .unset] (dc hby d0_239) rfl ?_
                refine go_iload XJ37 hx (dc hby d0_241) (v := m2) rfl ?_
                refine go_iload XJ37 hx (dc hby d0_243) (v := (f2 + (1 : Int32))) rfl ?_
                refine go_bipush XJ37 hx (20) (dc hby d0_245) rfl ?_
                refine go_imul XJ37 hx (dc hby d0_247) ?_
                refine go_iadd XJ37 hx (dc hby d0_248) ?_
                refine go_istore XJ37 hx #[.val (.int p1), .val (.int p2), .val (.int p3), .val (.int (3 : Int32)), .val (.ref ba), .val (.int r), .val (.ref ta), .val (.double (Jvm.FP.ddiv (own_go 0 0 0 [(own_bit p2 1), (own_bit p2 2), (own_bit p2 4)]) (Jvm.FP.i2d r))), .second, .val (.int (f2 + (1 : Int32))), .val (.int (m2 + ((f2 + (1 : Int32)) * (20 : Int32)))), .unset, .unset, .unset, .unset, .unset, .unset] (dc hby d0_249) rfl ?_
                exact J38 TJ37 _ _ XJ37 eJ37 (by rw [own_b1' c232]; rfl) (by rw [own_b1' c232]; rfl)
            refine go_ifc_eq XJ36 hx (db hby d0_205) (fun c205 => ?_) (fun c205 => ?_)
            · exact J37 TJ36 _ _ XJ36 eJ36 (by rw [own_b0' c205]; rfl) (by rw [own_b0' c205]; rfl)
            · refine go_iload XJ36 hx (dc hby d0_208) (v := f1) rfl ?_
              refine go_iconst XJ36 hx (1) (dc hby d0_210) rfl ?_
              refine go_iadd XJ36 hx (dc hby d0_211) ?_
              refine go_istore XJ36 hx #[.val (.int p1), .val (.int p2), .val (.int p3), .val (.int (3 : Int32)), .val (.ref ba), .val (.int r), .val (.ref ta), .val (.double (Jvm.FP.ddiv (own_go 0 0 0 [(own_bit p2 1), (own_bit p2 2), (own_bit p2 4)]) (Jvm.FP.i2d r))), .second, .val (.int (f1 + (1 : Int32))), .val (.int m1), .unset, .unset, .unset, .unset, .unset, .unset] (dc hby d0_212) rfl ?_
              refine go_iload XJ36 hx (dc hby d0_214) (v := m1) rfl ?_
              refine go_iload XJ36 hx (dc hby d0_216) (v := (f1 + (1 : Int32))) rfl ?_
              refine go_bipush XJ36 hx (30) (dc hby d0_218) rfl ?_
              refine go_imul XJ36 hx (dc hby d0_220) ?_
              refine go_iadd XJ36 hx (dc hby d0_221) ?_
              refine go_istore XJ36 hx #[.val (.int p1), .val (.int p2), .val (.int p3), .val (.int (3 : Int32)), .val (.ref ba), .val (.int r), .val (.ref ta), .val (.double (Jvm.FP.ddiv (own_go 0 0 0 [(own_bit p2 1), (own_bit p2 2), (own_bit p2 4)]) (Jvm.FP.i2d r))), .second, .val (.int (f1 + (1 : Int32))), .val (.int (m1 + ((f1 + (1 : Int32)) * (30 : Int32)))), .unset, .unset, .unset, .unset, .unset, .unset] (dc hby d0_222) rfl ?_
              exact J37 TJ36 _ _ XJ36 eJ36 (by rw [own_b1' c205]; rfl) (by rw [own_b1' c205]; rfl)
          refine go_ifc_eq XR hx (db hby d0_178) (fun c178 => ?_) (fun c178 => ?_)
          · exact J36 T35 _ _ XR e35 (by rw [own_b0' c178]; rfl) (by rw [own_b0' c178]; rfl)
          · refine go_iload XR hx (dc hby d0_181) (v := (0 : Int32)) rfl ?_
            refine go_iconst XR hx (1) (dc hby d0_183) rfl ?_
            refine go_iadd XR hx (dc hby d0_184) ?_
            refine go_istore XR hx #[.val (.int p1), .val (.int p2), .val (.int p3), .val (.int (3 : Int32)), .val (.ref ba), .val (.int r), .val (.ref ta), .val (.double (Jvm.FP.ddiv (own_go 0 0 0 [(own_bit p2 1), (own_bit p2 2), (own_bit p2 4)]) (Jvm.FP.i2d r))), .second, .val (.int ((0 : Int32) + (1 : Int32))), .val (.int (0 : Int32)), .unset, .unset, .unset, .unset, .unset, .unset] (dc hby d0_185) rfl ?_
            refine go_iload XR hx (dc hby d0_187) (v := (0 : Int32)) rfl ?_
            refine go_iload XR hx (dc hby d0_189) (v := ((0 : Int32) + (1 : Int32))) rfl ?_
            refine go_bipush XR hx (60) (dc hby d0_191) rfl ?_
            refine go_imul XR hx (dc hby d0_193) ?_
            refine go_iadd XR hx (dc hby d0_194) ?_
            refine go_istore XR hx #[.val (.int p1), .val (.int p2), .val (.int p3), .val (.int (3 : Int32)), .val (.ref ba), .val (.int r), .val (.ref ta), .val (.double (Jvm.FP.ddiv (own_go 0 0 0 [(own_bit p2 1), (own_bit p2 2), (own_bit p2 4)]) (Jvm.FP.i2d r))), .second, .val (.int ((0 : Int32) + (1 : Int32))), .val (.int ((0 : Int32) + (((0 : Int32) + (1 : Int32)) * (60 : Int32)))), .unset, .unset, .unset, .unset, .unset, .unset] (dc hby d0_195) rfl ?_
            exact J36 T35 _ _ XR e35 (by rw [own_b1' c178]; rfl) (by rw [own_b1' c178]; rfl)
        refine go_ifc_eq XL2 hx (db hby d0_63) (fun c63 => ?_) (fun c63 => ?_)
        · refine go_iconst XL2 hx (0) (dc hby d0_70) rfl ?_
          exact J30 T29 _ XL2 e29 ((own_z0 c63).symm)
        · refine go_iconst XL2 hx (1) (dc hby d0_66) rfl ?_
          refine go_goto XL2 hx (db hby d0_67) ?_
          exact J30 T29 _ XL2 e29 ((own_z1 c63).symm)
      refine go_ifc_eq XL1 hx (db hby d0_43) (fun c43 => ?_) (fun c43 => ?_)
      · refine go_iconst XL1 hx (0) (dc hby d0_50) rfl ?_
        exact J28 T27 _ XL1 e27 ((own_z0 c43).symm)
      · refine go_iconst XL1 hx (1) (dc hby d0_46) rfl ?_
        refine go_goto XL1 hx (db hby d0_47) ?_
        exact J28 T27 _ XL1 e27 ((own_z1 c43).symm)
    refine go_ifc_eq X25 hx (db hby d0_23) (fun c23 => ?_) (fun c23 => ?_)
    · refine go_iconst X25 hx (0) (dc hby d0_30) rfl ?_
      exact J26 T25 _ X25 e25 ((own_z0 c23).symm)
    · refine go_iconst X25 hx (1) (dc hby d0_26) rfl ?_
      refine go_goto X25 hx (db hby d0_27) ?_
      exact J26 T25 _ X25 e25 ((own_z1 c23).symm)
  · show Go p e below _ (T0.setTop (mkF m 7 #[.val (.int p1), .val (.int p2), .val (.int p3), .unset, .unset, .unset, .unset, .unset, .unset, .unset, .unset, .unset, .unset, .unset, .unset, .unset, .unset] [(.int (4 : Int32))]))
    refine go_istoren X0 hx #[.val (.int p1), .val (.int p2), .val (.int p3), .val (.int (4 : Int32)), .unset, .unset, .unset, .unset, .unset, .unset, .unset, .unset, .unset, .unset, .unset, .unset, .unset] (dc hby d0_7) rfl ?_
    refine go_iloadn X0 hx (dc hby d0_8) (v := (4 : Int32)) rfl ?_
    refine go_newPE X0 hx hZ (hw _ (List.mem_of_getElem? (i := 0) rfl)) e0 (dc hby d0_9) (by decide) 6 (by decide) (by decide) (by decide) (by decide) (ad := "[Z") (by decide) (fun T39 h39 kB ba g39 X39 e39 E39 A39 Y39 => ?_)
    have hba : h0.size ≤ ba := Nat.le_of_eq g39.symm
    have N0 := Fr.nil h0.size
    have V0 : Arv Z h39 ba kB .boolean 4 [.int 0, .int 0, .int 0, .int 0] (.int 0) := (Arv.new A39 (by decide)).pad (own_rep (n := 4))
    have KK0 : Keep h0 h39 [] := (Keep.refl _ _).ext E39
    refine go_astore X39 hx #[.val (.int p1), .val (.int p2), .val (.int p3), .val (.int (4 : Int32)), .val (.ref ba), .unset, .unset, .unset, .unset, .unset, .unset, .unset, .unset, .unset, .unset, .unset, .unset] (dc hby d0_11) rfl rfl ?_
    refine go_iloadn X39 hx (dc hby d0_13) (v := (4 : Int32)) rfl ?_
    refine go_ifc_le X39 hx (db hby d0_14) (fun c14 => absurd c14 (by decide)) (fun c14 => ?_)
    refine go_aload X39 hx (dc hby d0_17) (v := (.ref ba)) rfl rfl ?_
    refine go_iconst X39 hx (0) (dc hby d0_19) rfl ?_
    refine go_iloadn X39 hx (dc hby d0_20) (v := p2) rfl ?_
    refine go_iconst X39 hx (1) (dc hby d0_21) rfl ?_
    refine go_iand X39 hx (dc hby d0_22) ?_
    have J40 : ∀ (TJ40 : State) (z : Int32), Stand p l e room_1 s m #[(.int p1), (.int p2), (.int p3)] below meth c TJ40 [] 1 6 → TJ40.heap = h39 → z = (own_z (own_bit p2 1)) → Go p e below (EndN s (fun v h L => v = some (.int 1) ∧ Fr h0.size L) room_1.cells room_1.slots) (TJ40.setTop (mkF m 31 #[.val (.int p1), .val (.int p2), .val (.int p3), .val (.int (4 : Int32)), .val (.ref ba), .unset, .unset, .unset, .unset, .unset, .unset, .unset, .unset, .unset, .unset, .unset, .unset] [(.int z), (.int (0 : Int32)), (.ref ba)])) := by
      intro TJ40 z XJ40 eJ40 hz
      subst hz
      show Go p e below _ (TJ40.setTop (mkF m 31 #[.val (.int p1), .val (.int p2), .val (.int p3), .val (.int (4 : Int32)), .val (.ref ba), .unset, .unset, .unset, .unset, .unset, .unset, .unset, .unset, .unset, .unset, .unset, .unset] [(.int (own_z (own_bit p2 1))), (.int (0 : Int32)), (.ref ba)]))
      refine go_zastoreV XJ40 hx hZ eJ40 V0 (by decide) 0 rfl (by simp) (dc hby d0_31) (fun T41 h41 X41 e41 W41 V41 => ?_)
      have VA1 : Arv Z h41 ba kB .boolean 4 [own_v (own_bit p2 1), .int 0, .int 0, .int 0] (.int 0) := by
        have z := V41
        rw [own_nzb] at z
        exact z
      have YB1 := Y39.wr W41
      have KK1 := KK0.wr W41 (Or.inr hba)
      obtain ⟨LL1, XL1, NL1⟩ : ∃ LL, Stand p l e room_1 s m #[(.int p1), (.int p2), (.int p3)] below meth c T41 LL 1 6 ∧ Fr h0.size LL := ⟨_, X41, Fr.snoc X41 N0 hba⟩
      refine go_iloadn XL1 hx (dc hby d0_32) (v := (4 : Int32)) rfl ?_
      refine go_iconst XL1 hx (1) (dc hby d0_33) rfl ?_
      refine go_icmp_le XL1 hx (db hby d0_34) (fun c34 => absurd c34 (by decide)) (fun c34 => ?_)
      refine go_aload XL1 hx (dc hby d0_37) (v := (.ref ba)) rfl rfl ?_
      refine go_iconst XL1 hx (1) (dc hby d0_39) rfl ?_
      refine go_iloadn XL1 hx (dc hby d0_40) (v := p2) rfl ?_
      refine go_iconst XL1 hx (2) (dc hby d0_41) rfl ?_
      refine go_iand XL1 hx (dc hby d0_42) ?_
      have J42 : ∀ (TJ42 : State) (z : Int32), Stand p l e room_1 s m #[(.int p1), (.int p2), (.int p3)] below meth c TJ42 LL1 1 6 → TJ42.heap = h41 → z = (own_z (own_bit p2 2)) → Go p e below (EndN s (fun v h L => v = some (.int 1) ∧ Fr h0.size L) room_1.cells room_1.slots) (TJ42.setTop (mkF m 51 #[.val (.int p1), .val (.int p2), .val (.int p3), .val (.int (4 : Int32)), .val (.ref ba), .unset, .unset, .unset, .unset, .unset, .unset, .unset, .unset, .unset, .unset, .unset, .unset] [(.int z), (.int (1 : Int32)), (.ref ba)])) := by
        intro TJ42 z XJ42 eJ42 hz
        subst hz
        show Go p e below _ (TJ42.setTop (mkF m 51 #[.val (.int p1), .val (.int p2), .val (.int p3), .val (.int (4 : Int32)), .val (.ref ba), .unset, .unset, .unset, .unset, .unset, .unset, .unset, .unset, .unset, .unset, .unset, .unset] [(.int (own_z (own_bit p2 2))), (.int (1 : Int32)), (.ref ba)]))
        refine go_zastoreV XJ42 hx hZ eJ42 VA1 (by decide) 1 rfl (by simp) (dc hby d0_51) (fun T43 h43 X43 e43 W43 V43 => ?_)
        have VA2 : Arv Z h43 ba kB .boolean 4 [own_v (own_bit p2 1), own_v (own_bit p2 2), .int 0, .int 0] (.int 0) := by
          have z := V43
          rw [own_nzb] at z
          exact z
        have YB2 := YB1.wr W43
        have KK2 := KK1.wr W43 (Or.inr hba)
        obtain ⟨LL2, XL2, NL2⟩ : ∃ LL, Stand p l e room_1 s m #[(.int p1), (.int p2), (.int p3)] below meth c T43 LL 1 6 ∧ Fr h0.size LL := ⟨_, X43, Fr.snoc X43 NL1 hba⟩
        refine go_iloadn XL2 hx (dc hby d0_52) (v := (4 : Int32)) rfl ?_
        refine go_iconst XL2 hx (2) (dc hby d0_53) rfl ?_
        refine go_icmp_le XL2 hx (db hby d0_54) (fun c54 => absurd c54 (by decide)) (fun c54 => ?_)
        refine go_aload XL2 hx (dc hby d0_57) (v := (.ref ba)) rfl rfl ?_
        refine go_iconst XL2 hx (2) (dc hby d0_59) rfl ?_
        refine go_iloadn XL2 hx (dc hby d0_60) (v := p2) rfl ?_
        refine go_iconst XL2 hx (4) (dc hby d0_61) rfl ?_
        refine go_iand XL2 hx (dc hby d0_62) ?_
        have J44 : ∀ (TJ44 : State) (z : Int32), Stand p l e room_1 s m #[(.int p1), (.int p2), (.int p3)] below meth c TJ44 LL2 1 6 → TJ44.heap = h43 → z = (own_z (own_bit p2 4)) → Go p e below (EndN s (fun v h L => v = some (.int 1) ∧ Fr h0.size L) room_1.cells room_1.slots) (TJ44.setTop (mkF m 71 #[.val (.int p1), .val (.int p2), .val (.int p3), .val (.int (4 : Int32)), .val (.ref ba), .unset, .unset, .unset, .unset, .unset, .unset, .unset, .unset, .unset, .unset, .unset, .unset] [(.int z), (.int (2 : Int32)), (.ref ba)])) := by
          intro TJ44 z XJ44 eJ44 hz
          subst hz
          show Go p e below _ (TJ44.setTop (mkF m 71 #[.val (.int p1), .val (.int p2), .val (.int p3), .val (.int (4 : Int32)), .val (.ref ba), .unset, .unset, .unset, .unset, .unset, .unset, .unset, .unset, .unset, .unset, .unset, .unset] [(.int (own_z (own_bit p2 4))), (.int (2 : Int32)), (.ref ba)]))
          refine go_zastoreV XJ44 hx hZ eJ44 VA2 (by decide) 2 rfl (by simp) (dc hby d0_71) (fun T45 h45 X45 e45 W45 V45 => ?_)
          have VA3 : Arv Z h45 ba kB .boolean 4 [own_v (own_bit p2 1), own_v (own_bit p2 2), own_v (own_bit p2 4), .int 0] (.int 0) := by
            have z := V45
            rw [own_nzb] at z
            exact z
          have YB3 := YB2.wr W45
          have KK3 := KK2.wr W45 (Or.inr hba)
          obtain ⟨LL3, XL3, NL3⟩ : ∃ LL, Stand p l e room_1 s m #[(.int p1), (.int p2), (.int p3)] below meth c T45 LL 1 6 ∧ Fr h0.size LL := ⟨_, X45, Fr.snoc X45 NL2 hba⟩
          refine go_iloadn XL3 hx (dc hby d0_72) (v := (4 : Int32)) rfl ?_
          refine go_iconst XL3 hx (3) (dc hby d0_73) rfl ?_
          refine go_icmp_le XL3 hx (db hby d0_74) (fun c74 => absurd c74 (by decide)) (fun c74 => ?_)
          refine go_aload XL3 hx (dc hby d0_77) (v := (.ref ba)) rfl rfl ?_
          refine go_iconst XL3 hx (3) (dc hby d0_79) rfl ?_
          refine go_iloadn XL3 hx (dc hby d0_80) (v := p2) rfl ?_
          refine go_bipush XL3 hx (8) (dc hby d0_81) rfl ?_
          refine go_iand XL3 hx (dc hby d0_83) ?_
          have J46 : ∀ (TJ46 : State) (z : Int32), Stand p l e room_1 s m #[(.int p1), (.int p2), (.int p3)] below meth c TJ46 LL3 1 6 → TJ46.heap = h45 → z = (own_z (own_bit p2 8)) → Go p e below (EndN s (fun v h L => v = some (.int 1) ∧ Fr h0.size L) room_1.cells room_1.slots) (TJ46.setTop (mkF m 92 #[.val (.int p1), .val (.int p2), .val (.int p3), .val (.int (4 : Int32)), .val (.ref ba), .unset, .unset, .unset, .unset, .unset, .unset, .unset, .unset, .unset, .unset, .unset, .unset] [(.int z), (.int (3 : Int32)), (.ref ba)])) := by
            intro TJ46 z XJ46 eJ46 hz
            subst hz
            show Go p e below _ (TJ46.setTop (mkF m 92 #[.val (.int p1), .val (.int p2), .val (.int p3), .val (.int (4 : Int32)), .val (.ref ba), .unset, .unset, .unset, .unset, .unset, .unset, .unset, .unset, .unset, .unset, .unset, .unset] [(.int (own_z (own_bit p2 8))), (.int (3 : Int32)), (.ref ba)]))
            refine go_zastoreV XJ46 hx hZ eJ46 VA3 (by decide) 3 rfl (by simp) (dc hby d0_92) (fun T47 h47 X47 e47 W47 V47 => ?_)
            have VA4 : Arv Z h47 ba kB .boolean 4 [own_v (own_bit p2 1), own_v (own_bit p2 2), own_v (own_bit p2 4), own_v (own_bit p2 8)] (.int 0) := by
              have z := V47
              rw [own_nzb] at z
              exact z
            have YB4 := YB3.wr W47
            have KK4 := KK3.wr W47 (Or.inr hba)
            obtain ⟨LL4, XL4, NL4⟩ : ∃ LL, Stand p l e room_1 s m #[(.int p1), (.int p2), (.int p3)] below meth c T47 LL 1 6 ∧ Fr h0.size LL := ⟨_, X47, Fr.snoc X47 NL3 hba⟩
            refine go_iloadn XL4 hx (dc hby d0_93) (v := (4 : Int32)) rfl ?_
            refine go_iconst XL4 hx (4) (dc hby d0_94) rfl ?_
            refine go_icmp_le XL4 hx (db hby d0_95) (fun c95 => ?_) (fun c95 => absurd c95 (by decide))
            refine go_iloadn XL4 hx (dc hby d0_114) (v := (4 : Int32)) rfl ?_
            refine go_iconst XL4 hx (5) (dc hby d0_115) rfl ?_
            refine go_icmp_le XL4 hx (db hby d0_116) (fun c116 => ?_) (fun c116 => absurd c116 (by decide))
            refine go_iconst XL4 hx (1) (dc hby d0_135) rfl ?_
            refine go_iloadn XL4 hx (dc hby d0_136) (v := p3) rfl ?_
            refine go_ldc XL4 hx hZ hown (hw _ (List.mem_of_getElem? (i := 1) rfl)) (dc hby d0_137) ?_
            refine go_iand XL4 hx (dc hby d0_139) ?_
            refine go_staticP XL4 hx hZ hown (hw _ (List.mem_of_getElem? (i := 2) rfl)) (hw _ (List.mem_of_getElem? (i := 3) rfl)) (hw _ (List.mem_of_getElem? (i := 4) rfl)) (hw _ (List.mem_of_getElem? (i := 5) rfl)) (by decide) e47 [(.int (1 : Int32)), (.int (p3 &&& (2147483647 : Int32)))] [] (r := (.int (own_max 1 (p3 &&& 2147483647)))) (rm1 l Z a0 hw [] 1 (p3 &&& 2147483647) h47) pd1 rfl (by rw [hml]; rfl) rfl 0 (Nat.le_of_eq rfl) (by decide) (by decide) rfl rfl (by decide) (by decide) (dc hby d0_140) (fun T48 X48 e48 => ?_)
            have hr := own_rl p3
            generalize own_max 1 (p3 &&& 2147483647) = r at hr ⊢
            show Go p e below _ (T48.setTop (mkF m 143 #[.val (.int p1), .val (.int p2), .val (.int p3), .val (.int (4 : Int32)), .val (.ref ba), .unset, .unset, .unset, .unset, .unset, .unset, .unset, .unset, .unset, .unset, .unset, .unset] [(.int r)]))
            refine go_istore X48 hx #[.val (.int p1), .val (.int p2), .val (.int p3), .val (.int (4 : Int32)), .val (.ref ba), .val (.int r), .unset, .unset, .unset, .unset, .unset, .unset, .unset, .unset, .unset, .unset, .unset] (dc hby d0_143) rfl ?_
            refine go_newO X48 hx hZ hown (hw _ (List.mem_of_getElem? (i := 6) rfl)) (hw _ (List.mem_of_getElem? (i := 7) rfl)) (hw _ (List.mem_of_getElem? (i := 8) rfl)) e48 (dc hby d0_145) (by decide) (by decide) (fun T49 h49 ta g49 X49 e49 E49 A49 D49 => ?_)
            refine go_dup X49 hx (dc hby d0_148) rfl ?_
            refine go_aload X49 hx (dc hby d0_149) (v := (.ref ba)) rfl rfl ?_
            refine go_iload X49 hx (dc hby d0_151) (v := r) rfl ?_
            have hta : h0.size ≤ ta := Nat.le_trans KK4.1 (Nat.le_of_eq g49.symm)
            refine go_special X49 hx hZ rfl hown (hw _ (List.mem_of_getElem? (i := 9) rfl)) (hw _ (List.mem_of_getElem? (i := 10) rfl)) (hw _ (List.mem_of_getElem? (i := 8) rfl)) (hw _ (List.mem_of_getElem? (i := 11) rfl)) (by decide) e49 (a := ta) [(.ref ba), (.int r)] [(.ref ta)] (rm2 l Z a0 hw [] ta ba r kB 4 _ h49 hr A49 (D49 (Or.inr (hw _ (List.mem_of_getElem? (i := 25) rfl))) (ty := .array .boolean) (by decide)) (D49 (Or.inr (hw _ (List.mem_of_getElem? (i := 27) rfl))) (ty := .int) (by decide)) (VA4.ext E49) (YB4.ext E49) (by decide)) pd2 rfl (by rw [hml]; rfl) rfl 1 (Nat.le_of_eq rfl) (by decide) (by decide) (by decide) (by decide) (dc hby d0_153) (fun T50 v50 L50 X50 hQ50 => ?_)
            obtain ⟨rfl, N50, K50, ET, FR, ca, FA, VC⟩ := hQ50
            show Go p e below _ (T50.setTop (mkF m 156 #[.val (.int p1), .val (.int p2), .val (.int p3), .val (.int (4 : Int32)), .val (.ref ba), .val (.int r), .unset, .unset, .unset, .unset, .unset, .unset, .unset, .unset, .unset, .unset, .unset] [(.ref ta)]))
            refine go_astore X50 hx #[.val (.int p1), .val (.int p2), .val (.int p3), .val (.int (4 : Int32)), .val (.ref ba), .val (.int r), .val (.ref ta), .unset, .unset, .unset, .unset, .unset, .unset, .unset, .unset, .unset, .unset] (dc hby d0_156) rfl rfl ?_
            refine go_aload X50 hx (dc hby d0_158) (v := (.ref ta)) rfl rfl ?_
            have hl6 : ([(own_bit p2 1), (own_bit p2 2), (own_bit p2 4), (own_bit p2 8)] : List Bool).length ≤ 6 := by simp
            have TB := own_tab [(own_bit p2 1), (own_bit p2 2), (own_bit p2 4), (own_bit p2 8)] hl6
            have TB1 := (Bool.and_eq_true_iff.mp TB).1
            have HN := (own_end [(own_bit p2 1), (own_bit p2 2), (own_bit p2 4), (own_bit p2 8)] hl6 r hr).1
            refine go_virtualP X50 hx hZ hown (hw _ (List.mem_of_getElem? (i := 28) rfl)) (hw _ (List.mem_of_getElem? (i := 29) rfl)) (hw _ (List.mem_of_getElem? (i := 31) rfl)) (hw _ (List.mem_of_getElem? (i := 30) rfl)) (hw _ (List.mem_of_getElem? (i := 8) rfl)) (hw _ (List.mem_of_getElem? (i := 32) rfl)) (by decide) rfl (a := ta) ET [] [] (r := (.double (Jvm.FP.ddiv (own_go 0 0 0 [(own_bit p2 1), (own_bit p2 2), (own_bit p2 4), (own_bit p2 8)]) (Jvm.FP.i2d r)))) (rm4 l Z a0 hw [] ta ca kB 4 r [(own_bit p2 1), (own_bit p2 2), (own_bit p2 4), (own_bit p2 8)] T50.heap rfl hl6 TB1 HN FA FR VC) pd4 rfl (by rw [hml]; rfl) rfl 0 (Nat.le_of_eq rfl) (by decide) (by decide) rfl rfl (by decide) (by decide) (dc hby d0_160) (fun T51 X51 e51 => ?_)
            have NR := Fr.app NL4 (L' := L50) (fun y hy => by rw [N50 y hy]; exact hta)
            obtain ⟨LR, XR, NLR⟩ : ∃ LL, Stand p l e room_1 s m #[(.int p1), (.int p2), (.int p3)] below meth c T51 LL 3 14 ∧ Fr h0.size LL := ⟨_, X51, NR⟩
            refine go_dstore XR hx #[.val (.int p1), .val (.int p2), .val (.int p3), .val (.int (4 : Int32)), .val (.ref ba), .val (.int r), .val (.ref ta), .val (.double (Jvm.FP.ddiv (own_go 0 0 0 [(own_bit p2 1), (own_bit p2 2), (own_bit p2 4), (own_bit p2 8)]) (Jvm.FP.i2d r))), .second, .unset, .unset, .unset, .unset, .unset, .unset, .unset, .unset] (dc hby d0_163) rfl ?_
            refine go_iconst XR hx (0) (dc hby d0_165) rfl ?_
            refine go_istore XR hx #[.val (.int p1), .val (.int p2), .val (.int p3), .val (.int (4 : Int32)), .val (.ref ba), .val (.int r), .val (.ref ta), .val (.double (Jvm.FP.ddiv (own_go 0 0 0 [(own_bit p2 1), (own_bit p2 2), (own_bit p2 4), (own_bit p2 8)]) (Jvm.FP.i2d r))), .second, .val (.int (0 : Int32)), .unset, .unset, .unset, .unset, .unset, .unset, .unset] (dc hby d0_166) rfl ?_
            refine go_iconst XR hx (0) (dc hby d0_168) rfl ?_
            refine go_istore XR hx #[.val (.int p1), .val (.int p2), .val (.int p3), .val (.int (4 : Int32)), .val (.ref ba), .val (.int r), .val (.ref ta), .val (.double (Jvm.FP.ddiv (own_go 0 0 0 [(own_bit p2 1), (own_bit p2 2), (own_bit p2 4), (own_bit p2 8)]) (Jvm.FP.i2d r))), .second, .val (.int (0 : Int32)), .val (.int (0 : Int32)), .unset, .unset, .unset, .unset, .unset, .unset] (dc hby d0_169) rfl ?_
            have inv0 : own_fm 0 0 [(own_bit p2 1), (own_bit p2 2), (own_bit p2 4), (own_bit p2 8)] [60, 30, 20, 15, 12, 10] = own_fm 0 0 [(own_bit p2 1), (own_bit p2 2), (own_bit p2 4), (own_bit p2 8)] own_W := rfl
            refine go_iloadn XR hx (dc hby d0_171) (v := (4 : Int32)) rfl ?_
            refine go_ifc_le XR hx (db hby d0_172) (fun c172 => absurd c172 (by decide)) (fun c172 => ?_)
            refine go_iloadn XR hx (dc hby d0_175) (v := p2) rfl ?_
            refine go_iconst XR hx (1) (dc hby d0_176) rfl ?_
            refine go_iand XR hx (dc hby d0_177) ?_
            have J52 : ∀ (TJ52 : State) (f1 m1 : Int32), Stand p l e room_1 s m #[(.int p1), (.int p2), (.int p3)] below meth c TJ52 LR 3 14 → TJ52.heap = T50.heap → f1 = own_f1 (own_bit p2 1) (0 : Int32) → m1 = own_m1 (own_bit p2 1) (0 : Int32) (0 : Int32) 60 → Go p e below (EndN s (fun v h L => v = some (.int 1) ∧ Fr h0.size L) room_1.cells room_1.slots) (TJ52.setTop (mkF m 197 #[.val (.int p1), .val (.int p2), .val (.int p3), .val (.int (4 : Int32)), .val (.ref ba), .val (.int r), .val (.ref ta), .val (.double (Jvm.FP.ddiv (own_go 0 0 0 [(own_bit p2 1), (own_bit p2 2), (own_bit p2 4), (own_bit p2 8)]) (Jvm.FP.i2d r))), .second, .val (.int f1), .val (.int m1), .unset, .unset, .unset, .unset, .unset, .unset] [])) := by
              intro TJ52 f1 m1 XJ52 eJ52 hf1 hm1
              show Go p e below _ (TJ52.setTop (mkF m 197 #[.val (.int p1), .val (.int p2), .val (.int p3), .val (.int (4 : Int32)), .val (.ref ba), .val (.int r), .val (.ref ta), .val (.double (Jvm.FP.ddiv (own_go 0 0 0 [(own_bit p2 1), (own_bit p2 2), (own_bit p2 4), (own_bit p2 8)]) (Jvm.FP.i2d r))), .second, .val (.int f1), .val (.int m1), .unset, .unset, .unset, .unset, .unset, .unset] []))
              have inv1 : own_fm f1 m1 [(own_bit p2 2), (own_bit p2 4), (own_bit p2 8)] [30, 20, 15, 12, 10] = own_fm 0 0 [(own_bit p2 1), (own_bit p2 2), (own_bit p2 4), (own_bit p2 8)] own_W := by
                rw [hf1, hm1, ← own_fmc]
                exact inv0
              refine go_iloadn XJ52 hx (dc hby d0_197) (v := (4 : Int32)) rfl ?_
              refine go_iconst XJ52 hx (1) (dc hby d0_198) rfl ?_
              refine go_icmp_le XJ52 hx (db hby d0_199) (fun c199 => absurd c199 (by decide)) (fun c199 => ?_)
              refine go_iloadn XJ52 hx (dc hby d0_202) (v := p2) rfl ?_
              refine go_iconst XJ52 hx (2) (dc hby d0_203) rfl ?_
              refine go_iand XJ52 hx (dc hby d0_204) ?_
              have J53 : ∀ (TJ53 : State) (f2 m2 : Int32), Stand p l e room_1 s m #[(.int p1), (.int p2), (.int p3)] below meth c TJ53 LR 3 14 → TJ53.heap = T50.heap → f2 = own_f1 (own_bit p2 2) f1 → m2 = own_m1 (own_bit p2 2) f1 m1 30 → Go p e below (EndN s (fun v h L => v = some (.int 1) ∧ Fr h0.size L) room_1.cells room_1.slots) (TJ53.setTop (mkF m 224 #[.val (.int p1), .val (.int p2), .val (.int p3), .val (.int (4 : Int32)), .val (.ref ba), .val (.int r), .val (.ref ta), .val (.double (Jvm.FP.ddiv (own_go 0 0 0 [(own_bit p2 1), (own_bit p2 2), (own_bit p2 4), (own_bit p2 8)]) (Jvm.FP.i2d r))), .second, .val (.int f2), .val (.int m2), .unset, .unset, .unset, .unset, .unset, .unset] [])) := by
                intro TJ53 f2 m2 XJ53 eJ53 hf2 hm2
                show Go p e below _ (TJ53.setTop (mkF m 224 #[.val (.int p1), .val (.int p2), .val (.int p3), .val (.int (4 : Int32)), .val (.ref ba), .val (.int r), .val (.ref ta), .val (.double (Jvm.FP.ddiv (own_go 0 0 0 [(own_bit p2 1), (own_bit p2 2), (own_bit p2 4), (own_bit p2 8)]) (Jvm.FP.i2d r))), .second, .val (.int f2), .val (.int m2), .unset, .unset, .unset, .unset, .unset, .unset] []))
                have inv2 : own_fm f2 m2 [(own_bit p2 4), (own_bit p2 8)] [20, 15, 12, 10] = own_fm 0 0 [(own_bit p2 1), (own_bit p2 2), (own_bit p2 4), (own_bit p2 8)] own_W := by
                  rw [hf2, hm2, ← own_fmc]
                  exact inv1
                refine go_iloadn XJ53 hx (dc hby d0_224) (v := (4 : Int32)) rfl ?_
                refine go_iconst XJ53 hx (2) (dc hby d0_225) rfl ?_
                refine go_icmp_le XJ53 hx (db hby d0_226) (fun c226 => absurd c226 (by decide)) (fun c226 => ?_)
                refine go_iloadn XJ53 hx (dc hby d0_229) (v := p2) rfl ?_
                refine go_iconst XJ53 hx (4) (dc hby d0_230) rfl ?_
                refine go_iand XJ53 hx (dc hby d0_231) ?_
                have J54 : ∀ (TJ54 : State) (f3 m3 : Int32), Stand p l e room_1 s m #[(.int p1), (.int p2), (.int p3)] below meth c TJ54 LR 3 14 → TJ54.heap = T50.heap → f3 = own_f1 (own_bit p2 4) f2 → m3 = own_m1 (own_bit p2 4) f2 m2 20 → Go p e below (EndN s (fun v h L => v = some (.int 1) ∧ Fr h0.size L) room_1.cells room_1.slots) (TJ54.setTop (mkF m 251 #[.val (.int p1), .val (.int p2), .val (.int p3), .val (.int (4 : Int32)), .val (.ref ba), .val (.int r), .val (.ref ta), .val (.double (Jvm.FP.ddiv (own_go 0 0 0 [(own_bit p2 1), (own_bit p2 2), (own_bit p2 4), (own_bit p2 8)]) (Jvm.FP.i2d r))), .second, .val (.int f3), .val (.int m3), .unset, .unset, .unset, .unset, .unset, .unset] [])) := by
                  intro TJ54 f3 m3 XJ54 eJ54 hf3 hm3
                  show Go p e below _ (TJ54.setTop (mkF m 251 #[.val (.int p1), .val (.int p2), .val (.int p3), .val (.int (4 : Int32)), .val (.ref ba), .val (.int r), .val (.ref ta), .val (.double (Jvm.FP.ddiv (own_go 0 0 0 [(own_bit p2 1), (own_bit p2 2), (own_bit p2 4), (own_bit p2 8)]) (Jvm.FP.i2d r))), .second, .val (.int f3), .val (.int m3), .unset, .unset, .unset, .unset, .unset, .unset] []))
                  have inv3 : own_fm f3 m3 [(own_bit p2 8)] [15, 12, 10] = own_fm 0 0 [(own_bit p2 1), (own_bit p2 2), (own_bit p2 4), (own_bit p2 8)] own_W := by
                    rw [hf3, hm3, ← own_fmc]
                    exact inv2
                  refine go_iloadn XJ54 hx (dc hby d0_251) (v := (4 : Int32)) rfl ?_
                  refine go_iconst XJ54 hx (3) (dc hby d0_252) rfl ?_
                  refine go_icmp_le XJ54 hx (db hby d0_253) (fun c253 => absurd c253 (by decide)) (fun c253 => ?_)
                  refine go_iloadn XJ54 hx (dc hby d0_256) (v := p2) rfl ?_
                  refine go_bipush XJ54 hx (8) (dc hby d0_257) rfl ?_
                  refine go_iand XJ54 hx (dc hby d0_259) ?_
                  have J55 : ∀ (TJ55 : State) (f4 m4 : Int32), Stand p l e room_1 s m #[(.int p1), (.int p2), (.int p3)] below meth c TJ55 LR 3 14 → TJ55.heap = T50.heap → f4 = own_f1 (own_bit p2 8) f3 → m4 = own_m1 (own_bit p2 8) f3 m3 15 → Go p e below (EndN s (fun v h L => v = some (.int 1) ∧ Fr h0.size L) room_1.cells room_1.slots) (TJ55.setTop (mkF m 279 #[.val (.int p1), .val (.int p2), .val (.int p3), .val (.int (4 : Int32)), .val (.ref ba), .val (.int r), .val (.ref ta), .val (.double (Jvm.FP.ddiv (own_go 0 0 0 [(own_bit p2 1), (own_bit p2 2), (own_bit p2 4), (own_bit p2 8)]) (Jvm.FP.i2d r))), .second, .val (.int f4), .val (.int m4), .unset, .unset, .unset, .unset, .unset, .unset] [])) := by
                    intro TJ55 f4 m4 XJ55 eJ55 hf4 hm4
                    show Go p e below _ (TJ55.setTop (mkF m 279 #[.val (.int p1), .val (.int p2), .val (.int p3), .val (.int (4 : Int32)), .val (.ref ba), .val (.int r), .val (.ref ta), .val (.double (Jvm.FP.ddiv (own_go 0 0 0 [(own_bit p2 1), (own_bit p2 2), (own_bit p2 4), (own_bit p2 8)]) (Jvm.FP.i2d r))), .second, .val (.int f4), .val (.int m4), .unset, .unset, .unset, .unset, .unset, .unset] []))
                    have inv4 : own_fm f4 m4 [] [12, 10] = own_fm 0 0 [(own_bit p2 1), (own_bit p2 2), (own_bit p2 4), (own_bit p2 8)] own_W := by
                      rw [hf4, hm4, ← own_fmc]
                      exact inv3
                    refine go_iloadn XJ55 hx (dc hby d0_279) (v := (4 : Int32)) rfl ?_
                    refine go_iconst XJ55 hx (4) (dc hby d0_280) rfl ?_
                    refine go_icmp_le XJ55 hx (db hby d0_281) (fun c281 => ?_) (fun c281 => absurd c281 (by decide))
                    refine go_iloadn XJ55 hx (dc hby d0_307) (v := (4 : Int32)) rfl ?_
                    refine go_iconst XJ55 hx (5) (dc hby d0_308) rfl ?_
                    refine go_icmp_le XJ55 hx (db hby d0_309) (fun c309 => ?_) (fun c309 => absurd c309 (by decide))
                    exact J335 TJ55 T50.heap LR [(own_bit p2 1), (own_bit p2 2), (own_bit p2 4), (own_bit p2 8)] _ r _ _ ba ta XJ55 eJ55 NLR hl6 hr inv4
                  refine go_ifc_eq XJ54 hx (db hby d0_260) (fun c260 => ?_) (fun c260 => ?_)
                  · exact J55 TJ54 _ _ XJ54 eJ54 (by rw [own_b0' c260]; rfl) (by rw [own_b0' c260]; rfl)
                  · refine go_iload XJ54 hx (dc hby d0_263) (v := f3) rfl ?_
                    refine go_iconst XJ54 hx (1) (dc hby d0_265) rfl ?_
                    refine go_iadd XJ54 hx (dc hby d0_266) ?_
                    refine go_istore XJ54 hx #[.val (.int p1), .val (.int p2), .val (.int p3), .val (.int (4 : Int32)), .val (.ref ba), .val (.int r), .val (.ref ta), .val (.double (Jvm.FP.ddiv (own_go 0 0 0 [(own_bit p2 1), (own_bit p2 2), (own_bit p2 4), (own_bit p2 8)]) (Jvm.FP.i2d r))), .second, .val (.int (f3 + (1 : Int32))), .val (.int m3), .unset, .unset, .unset, .unset, .unset, .unset] (dc hby d0_267) rfl ?_
                    refine go_iload XJ54 hx (dc hby d0_269) (v := m3) rfl ?_
                    refine go_iload XJ54 hx (dc hby d0_271) (v := (f3 + (1 : Int32))) rfl ?_
                    refine go_bipush XJ54 hx (15) (dc hby d0_273) rfl ?_
                    refine go_imul XJ54 hx (dc hby d0_275) ?_
                    refine go_iadd XJ54 hx (dc hby d0_276) ?_
                    refine go_istore XJ54 hx #[.val (.int p1), .val (.int p2), .val (.int p3), .val (.int (4 : Int32)), .val (.ref ba), .val (.int r), .val (.ref ta), .val (.double (Jvm.FP.ddiv (own_go 0 0 0 [(own_bit p2 1), (own_bit p2 2), (own_bit p2 4), (own_bit p2 8)]) (Jvm.FP.i2d r))), .second, .val (.int (f3 + (1 : Int32))), .val (.int (m3 + ((f3 + (1 : Int32)) * (15 : Int32)))), .unset, .unset, .unset, .unset, .unset, .unset] (dc hby d0_277) rfl ?_
                    exact J55 TJ54 _ _ XJ54 eJ54 (by rw [own_b1' c260]; rfl) (by rw [own_b1' c260]; rfl)
                refine go_ifc_eq XJ53 hx (db hby d0_232) (fun c232 => ?_) (fun c232 => ?_)
                · exact J54 TJ53 _ _ XJ53 eJ53 (by rw [own_b0' c232]; rfl) (by rw [own_b0' c232]; rfl)
                · refine go_iload XJ53 hx (dc hby d0_235) (v := f2) rfl ?_
                  refine go_iconst XJ53 hx (1) (dc hby d0_237) rfl ?_
                  refine go_iadd XJ53 hx (dc hby d0_238) ?_
                  refine go_istore XJ53 hx #[.val (.int p1), .val (.int p2), .val (.int p3), .val (.int (4 : Int32)), .val (.ref ba), .val (.int r), .val (.ref ta), .val (.double (Jvm.FP.ddiv (own_go 0 0 0 [(own_bit p2 1), (own_bit p2 2), (own_bit p2 4), (own_bit p2 8)]) (Jvm.FP.i2d r))), .second, .val (.int (f2 + (1 : Int32))), .val (.int m2), .unset, .unset, .unset, .unset, .unset, .unset] (dc hby d0_239) rfl ?_
                  refine go_iload XJ53 hx (dc hby d0_241) (v := m2) rfl ?_
                  refine go_iload XJ53 hx (dc hby d0_243) (v := (f2 + (1 : Int32))) rfl ?_
                  refine go_bipush XJ53 hx (20) (dc hby d0_245) rfl ?_
                  refine go_imul XJ53 hx (dc hby d0_247) ?_
                  refine go_iadd XJ53 hx (dc hby d0_248) ?_
                  refine go_istore XJ53 hx #[.val (.int p1), .val (.int p2), .val (.int p3), .val (.int (4 : Int32)), .val (.ref ba), .val (.int r), .val (.ref ta), .val (.double (Jvm.FP.ddiv (own_go 0 0 0 [(own_bit p2 1), (own_bit p2 2), (own_bit p2 4), (own_bit p2 8)]) (Jvm.FP.i2d r))), .second, .val (.int (f2 + (1 : Int32))), .val (.int (m2 + ((f2 + (1 : Int32)) * (20 : Int32)))), .unset, .unset, .unset, .unset, .unset, .unset] (dc hby d0_249) rfl ?_
                  exact J54 TJ53 _ _ XJ53 eJ53 (by rw [own_b1' c232]; rfl) (by rw [own_b1' c232]; rfl)
              refine go_ifc_eq XJ52 hx (db hby d0_205) (fun c205 => ?_) (fun c205 => ?_)
              · exact J53 TJ52 _ _ XJ52 eJ52 (by rw [own_b0' c205]; rfl) (by rw [own_b0' c205]; rfl)
              · refine go_iload XJ52 hx (dc hby d0_208) (v := f1) rfl ?_
                refine go_iconst XJ52 hx (1) (dc hby d0_210) rfl ?_
                refine go_iadd XJ52 hx (dc hby d0_211) ?_
                refine go_istore XJ52 hx #[.val (.int p1), .val (.int p2), .val (.int p3), .val (.int (4 : Int32)), .val (.ref ba), .val (.int r), .val (.ref ta), .val (.double (Jvm.FP.ddiv (own_go 0 0 0 [(own_bit p2 1), (own_bit p2 2), (own_bit p2 4), (own_bit p2 8)]) (Jvm.FP.i2d r))), .second, .val (.int (f1 + (1 : Int32))), .val (.int m1), .unset, .unset, .unset, .unset, .unset, .unset] (dc hby d0_212) rfl ?_
                refine go_iload XJ52 hx (dc hby d0_214) (v := m1) rfl ?_
                refine go_iload XJ52 hx (dc hby d0_216) (v := (f1 + (1 : Int32))) rfl ?_
                refine go_bipush XJ52 hx (30) (dc hby d0_218) rfl ?_
                refine go_imul XJ52 hx (dc hby d0_220) ?_
                refine go_iadd XJ52 hx (dc hby d0_221) ?_
                refine go_istore XJ52 hx #[.val (.int p1), .val (.int p2), .val (.int p3), .val (.int (4 : Int32)), .val (.ref ba), .val (.int r), .val (.ref ta), .val (.double (Jvm.FP.ddiv (own_go 0 0 0 [(own_bit p2 1), (own_bit p2 2), (own_bit p2 4), (own_bit p2 8)]) (Jvm.FP.i2d r))), .second, .val (.int (f1 + (1 : Int32))), .val (.int (m1 + ((f1 + (1 : Int32)) * (30 : Int32)))), .unset, .unset, .unset, .unset, .unset, .unset] (dc hby d0_222) rfl ?_
                exact J53 TJ52 _ _ XJ52 eJ52 (by rw [own_b1' c205]; rfl) (by rw [own_b1' c205]; rfl)
            refine go_ifc_eq XR hx (db hby d0_178) (fun c178 => ?_) (fun c178 => ?_)
            · exact J52 T51 _ _ XR e51 (by rw [own_b0' c178]; rfl) (by rw [own_b0' c178]; rfl)
            · refine go_iload XR hx (dc hby d0_181) (v := (0 : Int32)) rfl ?_
              refine go_iconst XR hx (1) (dc hby d0_183) rfl ?_
              refine go_iadd XR hx (dc hby d0_184) ?_
              refine go_istore XR hx #[.val (.int p1), .val (.int p2), .val (.int p3), .val (.int (4 : Int32)), .val (.ref ba), .val (.int r), .val (.ref ta), .val (.double (Jvm.FP.ddiv (own_go 0 0 0 [(own_bit p2 1), (own_bit p2 2), (own_bit p2 4), (own_bit p2 8)]) (Jvm.FP.i2d r))), .second, .val (.int ((0 : Int32) + (1 : Int32))), .val (.int (0 : Int32)), .unset, .unset, .unset, .unset, .unset, .unset] (dc hby d0_185) rfl ?_
              refine go_iload XR hx (dc hby d0_187) (v := (0 : Int32)) rfl ?_
              refine go_iload XR hx (dc hby d0_189) (v := ((0 : Int32) + (1 : Int32))) rfl ?_
              refine go_bipush XR hx (60) (dc hby d0_191) rfl ?_
              refine go_imul XR hx (dc hby d0_193) ?_
              refine go_iadd XR hx (dc hby d0_194) ?_
              refine go_istore XR hx #[.val (.int p1), .val (.int p2), .val (.int p3), .val (.int (4 : Int32)), .val (.ref ba), .val (.int r), .val (.ref ta), .val (.double (Jvm.FP.ddiv (own_go 0 0 0 [(own_bit p2 1), (own_bit p2 2), (own_bit p2 4), (own_bit p2 8)]) (Jvm.FP.i2d r))), .second, .val (.int ((0 : Int32) + (1 : Int32))), .val (.int ((0 : Int32) + (((0 : Int32) + (1 : Int32)) * (60 : Int32)))), .unset, .unset, .unset, .unset, .unset, .unset] (dc hby d0_195) rfl ?_
              exact J52 T51 _ _ XR e51 (by rw [own_b1' c178]; rfl) (by rw [own_b1' c178]; rfl)
          refine go_ifc_eq XL3 hx (db hby d0_84) (fun c84 => ?_) (fun c84 => ?_)
          · refine go_iconst XL3 hx (0) (dc hby d0_91) rfl ?_
            exact J46 T45 _ XL3 e45 ((own_z0 c84).symm)
          · refine go_iconst XL3 hx (1) (dc hby d0_87) rfl ?_
            refine go_goto XL3 hx (db hby d0_88) ?_
            exact J46 T45 _ XL3 e45 ((own_z1 c84).symm)
        refine go_ifc_eq XL2 hx (db hby d0_63) (fun c63 => ?_) (fun c63 => ?_)
        · refine go_iconst XL2 hx (0) (dc hby d0_70) rfl ?_
          exact J44 T43 _ XL2 e43 ((own_z0 c63).symm)
        · refine go_iconst XL2 hx (1) (dc hby d0_66) rfl ?_
          refine go_goto XL2 hx (db hby d0_67) ?_
          exact J44 T43 _ XL2 e43 ((own_z1 c63).symm)
      refine go_ifc_eq XL1 hx (db hby d0_43) (fun c43 => ?_) (fun c43 => ?_)
      · refine go_iconst XL1 hx (0) (dc hby d0_50) rfl ?_
        exact J42 T41 _ XL1 e41 ((own_z0 c43).symm)
      · refine go_iconst XL1 hx (1) (dc hby d0_46) rfl ?_
        refine go_goto XL1 hx (db hby d0_47) ?_
        exact J42 T41 _ XL1 e41 ((own_z1 c43).symm)
    refine go_ifc_eq X39 hx (db hby d0_23) (fun c23 => ?_) (fun c23 => ?_)
    · refine go_iconst X39 hx (0) (dc hby d0_30) rfl ?_
      exact J40 T39 _ X39 e39 ((own_z0 c23).symm)
    · refine go_iconst X39 hx (1) (dc hby d0_26) rfl ?_
      refine go_goto X39 hx (db hby d0_27) ?_
      exact J40 T39 _ X39 e39 ((own_z1 c23).symm)
  · show Go p e below _ (T0.setTop (mkF m 7 #[.val (.int p1), .val (.int p2), .val (.int p3), .unset, .unset, .unset, .unset, .unset, .unset, .unset, .unset, .unset, .unset, .unset, .unset, .unset, .unset] [(.int (5 : Int32))]))
    refine go_istoren X0 hx #[.val (.int p1), .val (.int p2), .val (.int p3), .val (.int (5 : Int32)), .unset, .unset, .unset, .unset, .unset, .unset, .unset, .unset, .unset, .unset, .unset, .unset, .unset] (dc hby d0_7) rfl ?_
    refine go_iloadn X0 hx (dc hby d0_8) (v := (5 : Int32)) rfl ?_
    refine go_newPE X0 hx hZ (hw _ (List.mem_of_getElem? (i := 0) rfl)) e0 (dc hby d0_9) (by decide) 6 (by decide) (by decide) (by decide) (by decide) (ad := "[Z") (by decide) (fun T56 h56 kB ba g56 X56 e56 E56 A56 Y56 => ?_)
    have hba : h0.size ≤ ba := Nat.le_of_eq g56.symm
    have N0 := Fr.nil h0.size
    have V0 : Arv Z h56 ba kB .boolean 5 [.int 0, .int 0, .int 0, .int 0, .int 0] (.int 0) := (Arv.new A56 (by decide)).pad (own_rep (n := 5))
    have KK0 : Keep h0 h56 [] := (Keep.refl _ _).ext E56
    refine go_astore X56 hx #[.val (.int p1), .val (.int p2), .val (.int p3), .val (.int (5 : Int32)), .val (.ref ba), .unset, .unset, .unset, .unset, .unset, .unset, .unset, .unset, .unset, .unset, .unset, .unset] (dc hby d0_11) rfl rfl ?_
    refine go_iloadn X56 hx (dc hby d0_13) (v := (5 : Int32)) rfl ?_
    refine go_ifc_le X56 hx (db hby d0_14) (fun c14 => absurd c14 (by decide)) (fun c14 => ?_)
    refine go_aload X56 hx (dc hby d0_17) (v := (.ref ba)) rfl rfl ?_
    refine go_iconst X56 hx (0) (dc hby d0_19) rfl ?_
    refine go_iloadn X56 hx (dc hby d0_20) (v := p2) rfl ?_
    refine go_iconst X56 hx (1) (dc hby d0_21) rfl ?_
    refine go_iand X56 hx (dc hby d0_22) ?_
    have J57 : ∀ (TJ57 : State) (z : Int32), Stand p l e room_1 s m #[(.int p1), (.int p2), (.int p3)] below meth c TJ57 [] 1 6 → TJ57.heap = h56 → z = (own_z (own_bit p2 1)) → Go p e below (EndN s (fun v h L => v = some (.int 1) ∧ Fr h0.size L) room_1.cells room_1.slots) (TJ57.setTop (mkF m 31 #[.val (.int p1), .val (.int p2), .val (.int p3), .val (.int (5 : Int32)), .val (.ref ba), .unset, .unset, .unset, .unset, .unset, .unset, .unset, .unset, .unset, .unset, .unset, .unset] [(.int z), (.int (0 : Int32)), (.ref ba)])) := by
      intro TJ57 z XJ57 eJ57 hz
      subst hz
      show Go p e below _ (TJ57.setTop (mkF m 31 #[.val (.int p1), .val (.int p2), .val (.int p3), .val (.int (5 : Int32)), .val (.ref ba), .unset, .unset, .unset, .unset, .unset, .unset, .unset, .unset, .unset, .unset, .unset, .unset] [(.int (own_z (own_bit p2 1))), (.int (0 : Int32)), (.ref ba)]))
      refine go_zastoreV XJ57 hx hZ eJ57 V0 (by decide) 0 rfl (by simp) (dc hby d0_31) (fun T58 h58 X58 e58 W58 V58 => ?_)
      have VA1 : Arv Z h58 ba kB .boolean 5 [own_v (own_bit p2 1), .int 0, .int 0, .int 0, .int 0] (.int 0) := by
        have z := V58
        rw [own_nzb] at z
        exact z
      have YB1 := Y56.wr W58
      have KK1 := KK0.wr W58 (Or.inr hba)
      obtain ⟨LL1, XL1, NL1⟩ : ∃ LL, Stand p l e room_1 s m #[(.int p1), (.int p2), (.int p3)] below meth c T58 LL 1 6 ∧ Fr h0.size LL := ⟨_, X58, Fr.snoc X58 N0 hba⟩
      refine go_iloadn XL1 hx (dc hby d0_32) (v := (5 : Int32)) rfl ?_
      refine go_iconst XL1 hx (1) (dc hby d0_33) rfl ?_
      refine go_icmp_le XL1 hx (db hby d0_34) (fun c34 => absurd c34 (by decide)) (fun c34 => ?_)
      refine go_aload XL1 hx (dc hby d0_37) (v := (.ref ba)) rfl rfl ?_
      refine go_iconst XL1 hx (1) (dc hby d0_39) rfl ?_
      refine go_iloadn XL1 hx (dc hby d0_40) (v := p2) rfl ?_
      refine go_iconst XL1 hx (2) (dc hby d0_41) rfl ?_
      refine go_iand XL1 hx (dc hby d0_42) ?_
      have J59 : ∀ (TJ59 : State) (z : Int32), Stand p l e room_1 s m #[(.int p1), (.int p2), (.int p3)] below meth c TJ59 LL1 1 6 → TJ59.heap = h58 → z = (own_z (own_bit p2 2)) → Go p e below (EndN s (fun v h L => v = some (.int 1) ∧ Fr h0.size L) room_1.cells room_1.slots) (TJ59.setTop (mkF m 51 #[.val (.int p1), .val (.int p2), .val (.int p3), .val (.int (5 : Int32)), .val (.ref ba), .unset, .unset, .unset, .unset, .unset, .unset, .unset, .unset, .unset, .unset, .unset, .unset] [(.int z), (.int (1 : Int32)), (.ref ba)])) := by
        intro TJ59 z XJ59 eJ59 hz
        subst hz
        show Go p e below _ (TJ59.setTop (mkF m 51 #[.val (.int p1), .val (.int p2), .val (.int p3), .val (.int (5 : Int32)), .val (.ref ba), .unset, .unset, .unset, .unset, .unset, .unset, .unset, .unset, .unset, .unset, .unset, .unset] [(.int (own_z (own_bit p2 2))), (.int (1 : Int32)), (.ref ba)]))
        refine go_zastoreV XJ59 hx hZ eJ59 VA1 (by decide) 1 rfl (by simp) (dc hby d0_51) (fun T60 h60 X60 e60 W60 V60 => ?_)
        have VA2 : Arv Z h60 ba kB .boolean 5 [own_v (own_bit p2 1), own_v (own_bit p2 2), .int 0, .int 0, .int 0] (.int 0) := by
          have z := V60
          rw [own_nzb] at z
          exact z
        have YB2 := YB1.wr W60
        have KK2 := KK1.wr W60 (Or.inr hba)
        obtain ⟨LL2, XL2, NL2⟩ : ∃ LL, Stand p l e room_1 s m #[(.int p1), (.int p2), (.int p3)] below meth c T60 LL 1 6 ∧ Fr h0.size LL := ⟨_, X60, Fr.snoc X60 NL1 hba⟩
        refine go_iloadn XL2 hx (dc hby d0_52) (v := (5 : Int32)) rfl ?_
        refine go_iconst XL2 hx (2) (dc hby d0_53) rfl ?_
        refine go_icmp_le XL2 hx (db hby d0_54) (fun c54 => absurd c54 (by decide)) (fun c54 => ?_)
        refine go_aload XL2 hx (dc hby d0_57) (v := (.ref ba)) rfl rfl ?_
        refine go_iconst XL2 hx (2) (dc hby d0_59) rfl ?_
        refine go_iloadn XL2 hx (dc hby d0_60) (v := p2) rfl ?_
        refine go_iconst XL2 hx (4) (dc hby d0_61) rfl ?_
        refine go_iand XL2 hx (dc hby d0_62) ?_
        have J61 : ∀ (TJ61 : State) (z : Int32), Stand p l e room_1 s m #[(.int p1), (.int p2), (.int p3)] below meth c TJ61 LL2 1 6 → TJ61.heap = h60 → z = (own_z (own_bit p2 4)) → Go p e below (EndN s (fun v h L => v = some (.int 1) ∧ Fr h0.size L) room_1.cells room_1.slots) (TJ61.setTop (mkF m 71 #[.val (.int p1), .val (.int p2), .val (.int p3), .val (.int (5 : Int32)), .val (.ref ba), .unset, .unset, .unset, .unset, .unset, .unset, .unset, .unset, .unset, .unset, .unset, .unset] [(.int z), (.int (2 : Int32)), (.ref ba)])) := by
          intro TJ61 z XJ61 eJ61 hz
          subst hz
          show Go p e below _ (TJ61.setTop (mkF m 71 #[.val (.int p1), .val (.int p2), .val (.int p3), .val (.int (5 : Int32)), .val (.ref ba), .unset, .unset, .unset, .unset, .unset, .unset, .unset, .unset, .unset, .unset, .unset, .unset] [(.int (own_z (own_bit p2 4))), (.int (2 : Int32)), (.ref ba)]))
          refine go_zastoreV XJ61 hx hZ eJ61 VA2 (by decide) 2 rfl (by simp) (dc hby d0_71) (fun T62 h62 X62 e62 W62 V62 => ?_)
          have VA3 : Arv Z h62 ba kB .boolean 5 [own_v (own_bit p2 1), own_v (own_bit p2 2), own_v (own_bit p2 4), .int 0, .int 0] (.int 0) := by
            have z := V62
            rw [own_nzb] at z
            exact z
          have YB3 := YB2.wr W62
          have KK3 := KK2.wr W62 (Or.inr hba)
          obtain ⟨LL3, XL3, NL3⟩ : ∃ LL, Stand p l e room_1 s m #[(.int p1), (.int p2), (.int p3)] below meth c T62 LL 1 6 ∧ Fr h0.size LL := ⟨_, X62, Fr.snoc X62 NL2 hba⟩
          refine go_iloadn XL3 hx (dc hby d0_72) (v := (5 : Int32)) rfl ?_
          refine go_iconst XL3 hx (3) (dc hby d0_73) rfl ?_
          refine go_icmp_le XL3 hx (db hby d0_74) (fun c74 => absurd c74 (by decide)) (fun c74 => ?_)
          refine go_aload XL3 hx (dc hby d0_77) (v := (.ref ba)) rfl rfl ?_
          refine go_iconst XL3 hx (3) (dc hby d0_79) rfl ?_
          refine go_iloadn XL3 hx (dc hby d0_80) (v := p2) rfl ?_
          refine go_bipush XL3 hx (8) (dc hby d0_81) rfl ?_
          refine go_iand XL3 hx (dc hby d0_83) ?_
          have J63 : ∀ (TJ63 : State) (z : Int32), Stand p l e room_1 s m #[(.int p1), (.int p2), (.int p3)] below meth c TJ63 LL3 1 6 → TJ63.heap = h62 → z = (own_z (own_bit p2 8)) → Go p e below (EndN s (fun v h L => v = some (.int 1) ∧ Fr h0.size L) room_1.cells room_1.slots) (TJ63.setTop (mkF m 92 #[.val (.int p1), .val (.int p2), .val (.int p3), .val (.int (5 : Int32)), .val (.ref ba), .unset, .unset, .unset, .unset, .unset, .unset, .unset, .unset, .unset, .unset, .unset, .unset] [(.int z), (.int (3 : Int32)), (.ref ba)])) := by
            intro TJ63 z XJ63 eJ63 hz
            subst hz
            show Go p e below _ (TJ63.setTop (mkF m 92 #[.val (.int p1), .val (.int p2), .val (.int p3), .val (.int (5 : Int32)), .val (.ref ba), .unset, .unset, .unset, .unset, .unset, .unset, .unset, .unset, .unset, .unset, .unset, .unset] [(.int (own_z (own_bit p2 8))), (.int (3 : Int32)), (.ref ba)]))
            refine go_zastoreV XJ63 hx hZ eJ63 VA3 (by decide) 3 rfl (by simp) (dc hby d0_92) (fun T64 h64 X64 e64 W64 V64 => ?_)
            have VA4 : Arv Z h64 ba kB .boolean 5 [own_v (own_bit p2 1), own_v (own_bit p2 2), own_v (own_bit p2 4), own_v (own_bit p2 8), .int 0] (.int 0) := by
              have z := V64
              rw [own_nzb] at z
              exact z
            have YB4 := YB3.wr W64
            have KK4 := KK3.wr W64 (Or.inr hba)
            obtain ⟨LL4, XL4, NL4⟩ : ∃ LL, Stand p l e room_1 s m #[(.int p1), (.int p2), (.int p3)] below meth c T64 LL 1 6 ∧ Fr h0.size LL := ⟨_, X64, Fr.snoc X64 NL3 hba⟩
            refine go_iloadn XL4 hx (dc hby d0_93) (v := (5 : Int32)) rfl ?_
            refine go_iconst XL4 hx (4) (dc hby d0_94) rfl ?_
            refine go_icmp_le XL4 hx (db hby d0_95) (fun c95 => absurd c95 (by decide)) (fun c95 => ?_)
            refine go_aload XL4 hx (dc hby d0_98) (v := (.ref ba)) rfl rfl ?_
            refine go_iconst XL4 hx (4) (dc hby d0_100) rfl ?_
            refine go_iloadn XL4 hx (dc hby d0_101) (v := p2) rfl ?_
            refine go_bipush XL4 hx (16) (dc hby d0_102) rfl ?_
            refine go_iand XL4 hx (dc hby d0_104) ?_
            have J65 : ∀ (TJ65 : State) (z : Int32), Stand p l e room_1 s m #[(.int p1), (.int p2), (.int p3)] below meth c TJ65 LL4 1 6 → TJ65.heap = h64 → z = (own_z (own_bit p2 16)) → Go p e below (EndN s (fun v h L => v = some (.int 1) ∧ Fr h0.size L) room_1.cells room_1.slots) (TJ65.setTop (mkF m 113 #[.val (.int p1), .val (.int p2), .val (.int p3), .val (.int (5 : Int32)), .val (.ref ba), .unset, .unset, .unset, .unset, .unset, .unset, .unset, .unset, .unset, .unset, .unset, .unset] [(.int z), (.int (4 : Int32)), (.ref ba)])) := by
              intro TJ65 z XJ65 eJ65 hz
              subst hz
              show Go p e below _ (TJ65.setTop (mkF m 113 #[.val (.int p1), .val (.int p2), .val (.int p3), .val (.int (5 : Int32)), .val (.ref ba), .unset, .unset, .unset, .unset, .unset, .unset, .unset, .unset, .unset, .unset, .unset, .unset] [(.int (own_z (own_bit p2 16))), (.int (4 : Int32)), (.ref ba)]))
              refine go_zastoreV XJ65 hx hZ eJ65 VA4 (by decide) 4 rfl (by simp) (dc hby d0_113) (fun T66 h66 X66 e66 W66 V66 => ?_)
              have VA5 : Arv Z h66 ba kB .boolean 5 [own_v (own_bit p2 1), own_v (own_bit p2 2), own_v (own_bit p2 4), own_v (own_bit p2 8), own_v (own_bit p2 16)] (.int 0) := by
                have z := V66
                rw [own_nzb] at z
                exact z
              have YB5 := YB4.wr W66
              have KK5 := KK4.wr W66 (Or.inr hba)
              obtain ⟨LL5, XL5, NL5⟩ : ∃ LL, Stand p l e room_1 s m #[(.int p1), (.int p2), (.int p3)] below meth c T66 LL 1 6 ∧ Fr h0.size LL := ⟨_, X66, Fr.snoc X66 NL4 hba⟩
              refine go_iloadn XL5 hx (dc hby d0_114) (v := (5 : Int32)) rfl ?_
              refine go_iconst XL5 hx (5) (dc hby d0_115) rfl ?_
              refine go_icmp_le XL5 hx (db hby d0_116) (fun c116 => ?_) (fun c116 => absurd c116 (by decide))
              refine go_iconst XL5 hx (1) (dc hby d0_135) rfl ?_
              refine go_iloadn XL5 hx (dc hby d0_136) (v := p3) rfl ?_
              refine go_ldc XL5 hx hZ hown (hw _ (List.mem_of_getElem? (i := 1) rfl)) (dc hby d0_137) ?_
              refine go_iand XL5 hx (dc hby d0_139) ?_
              refine go_staticP XL5 hx hZ hown (hw _ (List.mem_of_getElem? (i := 2) rfl)) (hw _ (List.mem_of_getElem? (i := 3) rfl)) (hw _ (List.mem_of_getElem? (i := 4) rfl)) (hw _ (List.mem_of_getElem? (i := 5) rfl)) (by decide) e66 [(.int (1 : Int32)), (.int (p3 &&& (2147483647 : Int32)))] [] (r := (.int (own_max 1 (p3 &&& 2147483647)))) (rm1 l Z a0 hw [] 1 (p3 &&& 2147483647) h66) pd1 rfl (by rw [hml]; rfl) rfl 0 (Nat.le_of_eq rfl) (by decide) (by decide) rfl rfl (by decide) (by decide) (dc hby d0_140) (fun T67 X67 e67 => ?_)
              have hr := own_rl p3
              generalize own_max 1 (p3 &&& 2147483647) = r at hr ⊢
              show Go p e below _ (T67.setTop (mkF m 143 #[.val (.int p1), .val (.int p2), .val (.int p3), .val (.int (5 : Int32)), .val (.ref ba), .unset, .unset, .unset, .unset, .unset, .unset, .unset, .unset, .unset, .unset, .unset, .unset] [(.int r)]))
              refine go_istore X67 hx #[.val (.int p1), .val (.int p2), .val (.int p3), .val (.int (5 : Int32)), .val (.ref ba), .val (.int r), .unset, .unset, .unset, .unset, .unset, .unset, .unset, .unset, .unset, .unset, .unset] (dc hby d0_143) rfl ?_
              refine go_newO X67 hx hZ hown (hw _ (List.mem_of_getElem? (i := 6) rfl)) (hw _ (List.mem_of_getElem? (i := 7) rfl)) (hw _ (List.mem_of_getElem? (i := 8) rfl)) e67 (dc hby d0_145) (by decide) (by decide) (fun T68 h68 ta g68 X68 e68 E68 A68 D68 => ?_)
              refine go_dup X68 hx (dc hby d0_148) rfl ?_
              refine go_aload X68 hx (dc hby d0_149) (v := (.ref ba)) rfl rfl ?_
              refine go_iload X68 hx (dc hby d0_151) (v := r) rfl ?_
              have hta : h0.size ≤ ta := Nat.le_trans KK5.1 (Nat.le_of_eq g68.symm)
              refine go_special X68 hx hZ rfl hown (hw _ (List.mem_of_getElem? (i := 9) rfl)) (hw _ (List.mem_of_getElem? (i := 10) rfl)) (hw _ (List.mem_of_getElem? (i := 8) rfl)) (hw _ (List.mem_of_getElem? (i := 11) rfl)) (by decide) e68 (a := ta) [(.ref ba), (.int r)] [(.ref ta)] (rm2 l Z a0 hw [] ta ba r kB 5 _ h68 hr A68 (D68 (Or.inr (hw _ (List.mem_of_getElem? (i := 25) rfl))) (ty := .array .boolean) (by decide)) (D68 (Or.inr (hw _ (List.mem_of_getElem? (i := 27) rfl))) (ty := .int) (by decide)) (VA5.ext E68) (YB5.ext E68) (by decide)) pd2 rfl (by rw [hml]; rfl) rfl 1 (Nat.le_of_eq rfl) (by decide) (by decide) (by decide) (by decide) (dc hby d0_153) (fun T69 v69 L69 X69 hQ69 => ?_)
              obtain ⟨rfl, N69, K69, ET, FR, ca, FA, VC⟩ := hQ69
              show Go p e below _ (T69.setTop (mkF m 156 #[.val (.int p1), .val (.int p2), .val (.int p3), .val (.int (5 : Int32)), .val (.ref ba), .val (.int r), .unset, .unset, .unset, .unset, .unset, .unset, .unset, .unset, .unset, .unset, .unset] [(.ref ta)]))
              refine go_astore X69 hx #[.val (.int p1), .val (.int p2), .val (.int p3), .val (.int (5 : Int32)), .val (.ref ba), .val (.int r), .val (.ref ta), .unset, .unset, .unset, .unset, .unset, .unset, .unset, .unset, .unset, .unset] (dc hby d0_156) rfl rfl ?_
              refine go_aload X69 hx (dc hby d0_158) (v := (.ref ta)) rfl rfl ?_
              have hl6 : ([(own_bit p2 1), (own_bit p2 2), (own_bit p2 4), (own_bit p2 8), (own_bit p2 16)] : List Bool).length ≤ 6 := by simp
              have TB := own_tab [(own_bit p2 1), (own_bit p2 2), (own_bit p2 4), (own_bit p2 8), (own_bit p2 16)] hl6
              have TB1 := (Bool.and_eq_true_iff.mp TB).1
              have HN := (own_end [(own_bit p2 1), (own_bit p2 2), (own_bit p2 4), (own_bit p2 8), (own_bit p2 16)] hl6 r hr).1
              refine go_virtualP X69 hx hZ hown (hw _ (List.mem_of_getElem? (i := 28) rfl)) (hw _ (List.mem_of_getElem? (i := 29) rfl)) (hw _ (List.mem_of_getElem? (i := 31) rfl)) (hw _ (List.mem_of_getElem? (i := 30) rfl)) (hw _ (List.mem_of_getElem? (i := 8) rfl)) (hw _ (List.mem_of_getElem? (i := 32) rfl)) (by decide) rfl (a := ta) ET [] [] (r := (.double (Jvm.FP.ddiv (own_go 0 0 0 [(own_bit p2 1), (own_bit p2 2), (own_bit p2 4), (own_bit p2 8), (own_bit p2 16)]) (Jvm.FP.i2d r)))) (rm4 l Z a0 hw [] ta ca kB 5 r [(own_bit p2 1), (own_bit p2 2), (own_bit p2 4), (own_bit p2 8), (own_bit p2 16)] T69.heap rfl hl6 TB1 HN FA FR VC) pd4 rfl (by rw [hml]; rfl) rfl 0 (Nat.le_of_eq rfl) (by decide) (by decide) rfl rfl (by decide) (by decide) (dc hby d0_160) (fun T70 X70 e70 => ?_)
              have NR := Fr.app NL5 (L' := L69) (fun y hy => by rw [N69 y hy]; exact hta)
              obtain ⟨LR, XR, NLR⟩ : ∃ LL, Stand p l e room_1 s m #[(.int p1), (.int p2), (.int p3)] below meth c T70 LL 3 14 ∧ Fr h0.size LL := ⟨_, X70, NR⟩
              refine go_dstore XR hx #[.val (.int p1), .val (.int p2), .val (.int p3), .val (.int (5 : Int32)), .val (.ref ba), .val (.int r), .val (.ref ta), .val (.double (Jvm.FP.ddiv (own_go 0 0 0 [(own_bit p2 1), (own_bit p2 2), (own_bit p2 4), (own_bit p2 8), (own_bit p2 16)]) (Jvm.FP.i2d r))), .second, .unset, .unset, .unset, .unset, .unset, .unset, .unset, .unset] (dc hby d0_163) rfl ?_
              refine go_iconst XR hx (0) (dc hby d0_165) rfl ?_
              refine go_istore XR hx #[.val (.int p1), .val (.int p2), .val (.int p3), .val (.int (5 : Int32)), .val (.ref ba), .val (.int r), .val (.ref ta), .val (.double (Jvm.FP.ddiv (own_go 0 0 0 [(own_bit p2 1), (own_bit p2 2), (own_bit p2 4), (own_bit p2 8), (own_bit p2 16)]) (Jvm.FP.i2d r))), .second, .val (.int (0 : Int32)), .unset, .unset, .unset, .unset, .unset, .unset, .unset] (dc hby d0_166) rfl ?_
              refine go_iconst XR hx (0) (dc hby d0_168) rfl ?_
              refine go_istore XR hx #[.val (.int p1), .val (.int p2), .val (.int p3), .val (.int (5 : Int32)), .val (.ref ba), .val (.int r), .val (.ref ta), .val (.double (Jvm.FP.ddiv (own_go 0 0 0 [(own_bit p2 1), (own_bit p2 2), (own_bit p2 4), (own_bit p2 8), (own_bit p2 16)]) (Jvm.FP.i2d r))), .second, .val (.int (0 : Int32)), .val (.int (0 : Int32)), .unset, .unset, .unset, .unset, .unset, .unset] (dc hby d0_169) rfl ?_
              have inv0 : own_fm 0 0 [(own_bit p2 1), (own_bit p2 2), (own_bit p2 4), (own_bit p2 8), (own_bit p2 16)] [60, 30, 20, 15, 12, 10] = own_fm 0 0 [(own_bit p2 1), (own_bit p2 2), (own_bit p2 4), (own_bit p2 8), (own_bit p2 16)] own_W := rfl
              refine go_iloadn XR hx (dc hby d0_171) (v := (5 : Int32)) rfl ?_
              refine go_ifc_le XR hx (db hby d0_172) (fun c172 => absurd c172 (by decide)) (fun c172 => ?_)
              refine go_iloadn XR hx (dc hby d0_175) (v := p2) rfl ?_
              refine go_iconst XR hx (1) (dc hby d0_176) rfl ?_
              refine go_iand XR hx (dc hby d0_177) ?_
              have J71 : ∀ (TJ71 : State) (f1 m1 : Int32), Stand p l e room_1 s m #[(.int p1), (.int p2), (.int p3)] below meth c TJ71 LR 3 14 → TJ71.heap = T69.heap → f1 = own_f1 (own_bit p2 1) (0 : Int32) → m1 = own_m1 (own_bit p2 1) (0 : Int32) (0 : Int32) 60 → Go p e below (EndN s (fun v h L => v = some (.int 1) ∧ Fr h0.size L) room_1.cells room_1.slots) (TJ71.setTop (mkF m 197 #[.val (.int p1), .val (.int p2), .val (.int p3), .val (.int (5 : Int32)), .val (.ref ba), .val (.int r), .val (.ref ta), .val (.double (Jvm.FP.ddiv (own_go 0 0 0 [(own_bit p2 1), (own_bit p2 2), (own_bit p2 4), (own_bit p2 8), (own_bit p2 16)]) (Jvm.FP.i2d r))), .second, .val (.int f1), .val (.int m1), .unset, .unset, .unset, .unset, .unset, .unset] [])) := by
                intro TJ71 f1 m1 XJ71 eJ71 hf1 hm1
                show Go p e below _ (TJ71.setTop (mkF m 197 #[.val (.int p1), .val (.int p2), .val (.int p3), .val (.int (5 : Int32)), .val (.ref ba), .val (.int r), .val (.ref ta), .val (.double (Jvm.FP.ddiv (own_go 0 0 0 [(own_bit p2 1), (own_bit p2 2), (own_bit p2 4), (own_bit p2 8), (own_bit p2 16)]) (Jvm.FP.i2d r))), .second, .val (.int f1), .val (.int m1), .unset, .unset, .unset, .unset, .unset, .unset] []))
                have inv1 : own_fm f1 m1 [(own_bit p2 2), (own_bit p2 4), (own_bit p2 8), (own_bit p2 16)] [30, 20, 15, 12, 10] = own_fm 0 0 [(own_bit p2 1), (own_bit p2 2), (own_bit p2 4), (own_bit p2 8), (own_bit p2 16)] own_W := by
                  rw [hf1, hm1, ← own_fmc]
                  exact inv0
                refine go_iloadn XJ71 hx (dc hby d0_197) (v := (5 : Int32)) rfl ?_
                refine go_iconst XJ71 hx (1) (dc hby d0_198) rfl ?_
                refine go_icmp_le XJ71 hx (db hby d0_199) (fun c199 => absurd c199 (by decide)) (fun c199 => ?_)
                refine go_iloadn XJ71 hx (dc hby d0_202) (v := p2) rfl ?_
                refine go_iconst XJ71 hx (2) (dc hby d0_203) rfl ?_
                refine go_iand XJ71 hx (dc hby d0_204) ?_
                have J72 : ∀ (TJ72 : State) (f2 m2 : Int32), Stand p l e room_1 s m #[(.int p1), (.int p2), (.int p3)] below meth c TJ72 LR 3 14 → TJ72.heap = T69.heap → f2 = own_f1 (own_bit p2 2) f1 → m2 = own_m1 (own_bit p2 2) f1 m1 30 → Go p e below (EndN s (fun v h L => v = some (.int 1) ∧ Fr h0.size L) room_1.cells room_1.slots) (TJ72.setTop (mkF m 224 #[.val (.int p1), .val (.int p2), .val (.int p3), .val (.int (5 : Int32)), .val (.ref ba), .val (.int r), .val (.ref ta), .val (.double (Jvm.FP.ddiv (own_go 0 0 0 [(own_bit p2 1), (own_bit p2 2), (own_bit p2 4), (own_bit p2 8), (own_bit p2 16)]) (Jvm.FP.i2d r))), .second, .val (.int f2), .val (.int m2), .unset, .unset, .unset, .unset, .unset, .unset] [])) := by
                  intro TJ72 f2 m2 XJ72 eJ72 hf2 hm2
                  show Go p e below _ (TJ72.setTop (mkF m 224 #[.val (.int p1), .val (.int p2), .val (.int p3), .val (.int (5 : Int32)), .val (.ref ba), .val (.int r), .val (.ref ta), .val (.double (Jvm.FP.ddiv (own_go 0 0 0 [(own_bit p2 1), (own_bit p2 2), (own_bit p2 4), (own_bit p2 8), (own_bit p2 16)]) (Jvm.FP.i2d r))), .second, .val (.int f2), .val (.int m2), .unset, .unset, .unset, .unset, .unset, .unset] []))
                  have inv2 : own_fm f2 m2 [(own_bit p2 4), (own_bit p2 8), (own_bit p2 16)] [20, 15, 12, 10] = own_fm 0 0 [(own_bit p2 1), (own_bit p2 2), (own_bit p2 4), (own_bit p2 8), (own_bit p2 16)] own_W := by
                    rw [hf2, hm2, ← own_fmc]
                    exact inv1
                  refine go_iloadn XJ72 hx (dc hby d0_224) (v := (5 : Int32)) rfl ?_
                  refine go_iconst XJ72 hx (2) (dc hby d0_225) rfl ?_
                  refine go_icmp_le XJ72 hx (db hby d0_226) (fun c226 => absurd c226 (by decide)) (fun c226 => ?_)
                  refine go_iloadn XJ72 hx (dc hby d0_229) (v := p2) rfl ?_
                  refine go_iconst XJ72 hx (4) (dc hby d0_230) rfl ?_
                  refine go_iand XJ72 hx (dc hby d0_231) ?_
                  have J73 : ∀ (TJ73 : State) (f3 m3 : Int32), Stand p l e room_1 s m #[(.int p1), (.int p2), (.int p3)] below meth c TJ73 LR 3 14 → TJ73.heap = T69.heap → f3 = own_f1 (own_bit p2 4) f2 → m3 = own_m1 (own_bit p2 4) f2 m2 20 → Go p e below (EndN s (fun v h L => v = some (.int 1) ∧ Fr h0.size L) room_1.cells room_1.slots) (TJ73.setTop (mkF m 251 #[.val (.int p1), .val (.int p2), .val (.int p3), .val (.int (5 : Int32)), .val (.ref ba), .val (.int r), .val (.ref ta), .val (.double (Jvm.FP.ddiv (own_go 0 0 0 [(own_bit p2 1), (own_bit p2 2), (own_bit p2 4), (own_bit p2 8), (own_bit p2 16)]) (Jvm.FP.i2d r))), .second, .val (.int f3), .val (.int m3), .unset, .unset, .unset, .unset, .unset, .unset] [])) := by
                    intro TJ73 f3 m3 XJ73 eJ73 hf3 hm3
                    show Go p e below _ (TJ73.setTop (mkF m 251 #[.val (.int p1), .val (.int p2), .val (.int p3), .val (.int (5 : Int32)), .val (.ref ba), .val (.int r), .val (.ref ta), .val (.double (Jvm.FP.ddiv (own_go 0 0 0 [(own_bit p2 1), (own_bit p2 2), (own_bit p2 4), (own_bit p2 8), (own_bit p2 16)]) (Jvm.FP.i2d r))), .second, .val (.int f3), .val (.int m3), .unset, .unset, .unset, .unset, .unset, .unset] []))
                    have inv3 : own_fm f3 m3 [(own_bit p2 8), (own_bit p2 16)] [15, 12, 10] = own_fm 0 0 [(own_bit p2 1), (own_bit p2 2), (own_bit p2 4), (own_bit p2 8), (own_bit p2 16)] own_W := by
                      rw [hf3, hm3, ← own_fmc]
                      exact inv2
                    refine go_iloadn XJ73 hx (dc hby d0_251) (v := (5 : Int32)) rfl ?_
                    refine go_iconst XJ73 hx (3) (dc hby d0_252) rfl ?_
                    refine go_icmp_le XJ73 hx (db hby d0_253) (fun c253 => absurd c253 (by decide)) (fun c253 => ?_)
                    refine go_iloadn XJ73 hx (dc hby d0_256) (v := p2) rfl ?_
                    refine go_bipush XJ73 hx (8) (dc hby d0_257) rfl ?_
                    refine go_iand XJ73 hx (dc hby d0_259) ?_
                    have J74 : ∀ (TJ74 : State) (f4 m4 : Int32), Stand p l e room_1 s m #[(.int p1), (.int p2), (.int p3)] below meth c TJ74 LR 3 14 → TJ74.heap = T69.heap → f4 = own_f1 (own_bit p2 8) f3 → m4 = own_m1 (own_bit p2 8) f3 m3 15 → Go p e below (EndN s (fun v h L => v = some (.int 1) ∧ Fr h0.size L) room_1.cells room_1.slots) (TJ74.setTop (mkF m 279 #[.val (.int p1), .val (.int p2), .val (.int p3), .val (.int (5 : Int32)), .val (.ref ba), .val (.int r), .val (.ref ta), .val (.double (Jvm.FP.ddiv (own_go 0 0 0 [(own_bit p2 1), (own_bit p2 2), (own_bit p2 4), (own_bit p2 8), (own_bit p2 16)]) (Jvm.FP.i2d r))), .second, .val (.int f4), .val (.int m4), .unset, .unset, .unset, .unset, .unset, .unset] [])) := by
                      intro TJ74 f4 m4 XJ74 eJ74 hf4 hm4
                      show Go p e below _ (TJ74.setTop (mkF m 279 #[.val (.int p1), .val (.int p2), .val (.int p3), .val (.int (5 : Int32)), .val (.ref ba), .val (.int r), .val (.ref ta), .val (.double (Jvm.FP.ddiv (own_go 0 0 0 [(own_bit p2 1), (own_bit p2 2), (own_bit p2 4), (own_bit p2 8), (own_bit p2 16)]) (Jvm.FP.i2d r))), .second, .val (.int f4), .val (.int m4), .unset, .unset, .unset, .unset, .unset, .unset] []))
                      have inv4 : own_fm f4 m4 [(own_bit p2 16)] [12, 10] = own_fm 0 0 [(own_bit p2 1), (own_bit p2 2), (own_bit p2 4), (own_bit p2 8), (own_bit p2 16)] own_W := by
                        rw [hf4, hm4, ← own_fmc]
                        exact inv3
                      refine go_iloadn XJ74 hx (dc hby d0_279) (v := (5 : Int32)) rfl ?_
                      refine go_iconst XJ74 hx (4) (dc hby d0_280) rfl ?_
                      refine go_icmp_le XJ74 hx (db hby d0_281) (fun c281 => absurd c281 (by decide)) (fun c281 => ?_)
                      refine go_iloadn XJ74 hx (dc hby d0_284) (v := p2) rfl ?_
                      refine go_bipush XJ74 hx (16) (dc hby d0_285) rfl ?_
                      refine go_iand XJ74 hx (dc hby d0_287) ?_
                      have J75 : ∀ (TJ75 : State) (f5 m5 : Int32), Stand p l e room_1 s m #[(.int p1), (.int p2), (.int p3)] below meth c TJ75 LR 3 14 → TJ75.heap = T69.heap → f5 = own_f1 (own_bit p2 16) f4 → m5 = own_m1 (own_bit p2 16) f4 m4 12 → Go p e below (EndN s (fun v h L => v = some (.int 1) ∧ Fr h0.size L) room_1.cells room_1.slots) (TJ75.setTop (mkF m 307 #[.val (.int p1), .val (.int p2), .val (.int p3), .val (.int (5 : Int32)), .val (.ref ba), .val (.int r), .val (.ref ta), .val (.double (Jvm.FP.ddiv (own_go 0 0 0 [(own_bit p2 1), (own_bit p2 2), (own_bit p2 4), (own_bit p2 8), (own_bit p2 16)]) (Jvm.FP.i2d r))), .second, .val (.int f5), .val (.int m5), .unset, .unset, .unset, .unset, .unset, .unset] [])) := by
                        intro TJ75 f5 m5 XJ75 eJ75 hf5 hm5
                        show Go p e below _ (TJ75.setTop (mkF m 307 #[.val (.int p1), .val (.int p2), .val (.int p3), .val (.int (5 : Int32)), .val (.ref ba), .val (.int r), .val (.ref ta), .val (.double (Jvm.FP.ddiv (own_go 0 0 0 [(own_bit p2 1), (own_bit p2 2), (own_bit p2 4), (own_bit p2 8), (own_bit p2 16)]) (Jvm.FP.i2d r))), .second, .val (.int f5), .val (.int m5), .unset, .unset, .unset, .unset, .unset, .unset] []))
                        have inv5 : own_fm f5 m5 [] [10] = own_fm 0 0 [(own_bit p2 1), (own_bit p2 2), (own_bit p2 4), (own_bit p2 8), (own_bit p2 16)] own_W := by
                          rw [hf5, hm5, ← own_fmc]
                          exact inv4
                        refine go_iloadn XJ75 hx (dc hby d0_307) (v := (5 : Int32)) rfl ?_
                        refine go_iconst XJ75 hx (5) (dc hby d0_308) rfl ?_
                        refine go_icmp_le XJ75 hx (db hby d0_309) (fun c309 => ?_) (fun c309 => absurd c309 (by decide))
                        exact J335 TJ75 T69.heap LR [(own_bit p2 1), (own_bit p2 2), (own_bit p2 4), (own_bit p2 8), (own_bit p2 16)] _ r _ _ ba ta XJ75 eJ75 NLR hl6 hr inv5
                      refine go_ifc_eq XJ74 hx (db hby d0_288) (fun c288 => ?_) (fun c288 => ?_)
                      · exact J75 TJ74 _ _ XJ74 eJ74 (by rw [own_b0' c288]; rfl) (by rw [own_b0' c288]; rfl)
                      · refine go_iload XJ74 hx (dc hby d0_291) (v := f4) rfl ?_
                        refine go_iconst XJ74 hx (1) (dc hby d0_293) rfl ?_
                        refine go_iadd XJ74 hx (dc hby d0_294) ?_
                        refine go_istore XJ74 hx #[.val (.int p1), .val (.int p2), .val (.int p3), .val (.int (5 : Int32)), .val (.ref ba), .val (.int r), .val (.ref ta), .val (.double (Jvm.FP.ddiv (own_go 0 0 0 [(own_bit p2 1), (own_bit p2 2), (own_bit p2 4), (own_bit p2 8), (own_bit p2 16)]) (Jvm.FP.i2d r))), .second, .val (.int (f4 + (1 : Int32))), .val (.int m4), .unset, .unset, .unset, .unset, .unset, .unset] (dc hby d0_295) rfl ?_
                        refine go_iload XJ74 hx (dc hby d0_297) (v := m4) rfl ?_
                        refine go_iload XJ74 hx (dc hby d0_299) (v := (f4 + (1 : Int32))) rfl ?_
                        refine go_bipush XJ74 hx (12) (dc hby d0_301) rfl ?_
                        refine go_imul XJ74 hx (dc hby d0_303) ?_
                        refine go_iadd XJ74 hx (dc hby d0_304) ?_
                        refine go_istore XJ74 hx #[.val (.int p1), .val (.int p2), .val (.int p3), .val (.int (5 : Int32)), .val (.ref ba), .val (.int r), .val (.ref ta), .val (.double (Jvm.FP.ddiv (own_go 0 0 0 [(own_bit p2 1), (own_bit p2 2), (own_bit p2 4), (own_bit p2 8), (own_bit p2 16)]) (Jvm.FP.i2d r))), .second, .val (.int (f4 + (1 : Int32))), .val (.int (m4 + ((f4 + (1 : Int32)) * (12 : Int32)))), .unset, .unset, .unset, .unset, .unset, .unset] (dc hby d0_305) rfl ?_
                        exact J75 TJ74 _ _ XJ74 eJ74 (by rw [own_b1' c288]; rfl) (by rw [own_b1' c288]; rfl)
                    refine go_ifc_eq XJ73 hx (db hby d0_260) (fun c260 => ?_) (fun c260 => ?_)
                    · exact J74 TJ73 _ _ XJ73 eJ73 (by rw [own_b0' c260]; rfl) (by rw [own_b0' c260]; rfl)
                    · refine go_iload XJ73 hx (dc hby d0_263) (v := f3) rfl ?_
                      refine go_iconst XJ73 hx (1) (dc hby d0_265) rfl ?_
                      refine go_iadd XJ73 hx (dc hby d0_266) ?_
                      refine go_istore XJ73 hx #[.val (.int p1), .val (.int p2), .val (.int p3), .val (.int (5 : Int32)), .val (.ref ba), .val (.int r), .val (.ref ta), .val (.double (Jvm.FP.ddiv (own_go 0 0 0 [(own_bit p2 1), (own_bit p2 2), (own_bit p2 4), (own_bit p2 8), (own_bit p2 16)]) (Jvm.FP.i2d r))), .second, .val (.int (f3 + (1 : Int32))), .val (.int m3), .unset, .unset, .unset, .unset, .unset, .unset] (dc hby d0_267) rfl ?_
                      refine go_iload XJ73 hx (dc hby d0_269) (v := m3) rfl ?_
                      refine go_iload XJ73 hx (dc hby d0_271) (v := (f3 + (1 : Int32))) rfl ?_
                      refine go_bipush XJ73 hx (15) (dc hby d0_273) rfl ?_
                      refine go_imul XJ73 hx (dc hby d0_275) ?_
                      refine go_iadd XJ73 hx (dc hby d0_276) ?_
                      refine go_istore XJ73 hx #[.val (.int p1), .val (.int p2), .val (.int p3), .val (.int (5 : Int32)), .val (.ref ba), .val (.int r), .val (.ref ta), .val (.double (Jvm.FP.ddiv (own_go 0 0 0 [(own_bit p2 1), (own_bit p2 2), (own_bit p2 4), (own_bit p2 8), (own_bit p2 16)]) (Jvm.FP.i2d r))), .second, .val (.int (f3 + (1 : Int32))), .val (.int (m3 + ((f3 + (1 : Int32)) * (15 : Int32)))), .unset, .unset, .unset, .unset, .unset, .unset] (dc hby d0_277) rfl ?_
                      exact J74 TJ73 _ _ XJ73 eJ73 (by rw [own_b1' c260]; rfl) (by rw [own_b1' c260]; rfl)
                  refine go_ifc_eq XJ72 hx (db hby d0_232) (fun c232 => ?_) (fun c232 => ?_)
                  · exact J73 TJ72 _ _ XJ72 eJ72 (by rw [own_b0' c232]; rfl) (by rw [own_b0' c232]; rfl)
                  · refine go_iload XJ72 hx (dc hby d0_235) (v := f2) rfl ?_
                    refine go_iconst XJ72 hx (1) (dc hby d0_237) rfl ?_
                    refine go_iadd XJ72 hx (dc hby d0_238) ?_
                    refine go_istore XJ72 hx #[.val (.int p1), .val (.int p2), .val (.int p3), .val (.int (5 : Int32)), .val (.ref ba), .val (.int r), .val (.ref ta), .val (.double (Jvm.FP.ddiv (own_go 0 0 0 [(own_bit p2 1), (own_bit p2 2), (own_bit p2 4), (own_bit p2 8), (own_bit p2 16)]) (Jvm.FP.i2d r))), .second, .val (.int (f2 + (1 : Int32))), .val (.int m2), .unset, .unset, .unset, .unset, .unset, .unset] (dc hby d0_239) rfl ?_
                    refine go_iload XJ72 hx (dc hby d0_241) (v := m2) rfl ?_
                    refine go_iload XJ72 hx (dc hby d0_243) (v := (f2 + (1 : Int32))) rfl ?_
                    refine go_bipush XJ72 hx (20) (dc hby d0_245) rfl ?_
                    refine go_imul XJ72 hx (dc hby d0_247) ?_
                    refine go_iadd XJ72 hx (dc hby d0_248) ?_
                    refine go_istore XJ72 hx #[.val (.int p1), .val (.int p2), .val (.int p3), .val (.int (5 : Int32)), .val (.ref ba), .val (.int r), .val (.ref ta), .val (.double (Jvm.FP.ddiv (own_go 0 0 0 [(own_bit p2 1), (own_bit p2 2), (own_bit p2 4), (own_bit p2 8), (own_bit p2 16)]) (Jvm.FP.i2d r))), .second, .val (.int (f2 + (1 : Int32))), .val (.int (m2 + ((f2 + (1 : Int32)) * (20 : Int32)))), .unset, .unset, .unset, .unset, .unset, .unset] (dc hby d0_249) rfl ?_
                    exact J73 TJ72 _ _ XJ72 eJ72 (by rw [own_b1' c232]; rfl) (by rw [own_b1' c232]; rfl)
                refine go_ifc_eq XJ71 hx (db hby d0_205) (fun c205 => ?_) (fun c205 => ?_)
                · exact J72 TJ71 _ _ XJ71 eJ71 (by rw [own_b0' c205]; rfl) (by rw [own_b0' c205]; rfl)
                · refine go_iload XJ71 hx (dc hby d0_208) (v := f1) rfl ?_
                  refine go_iconst XJ71 hx (1) (dc hby d0_210) rfl ?_
                  refine go_iadd XJ71 hx (dc hby d0_211) ?_
                  refine go_istore XJ71 hx #[.val (.int p1), .val (.int p2), .val (.int p3), .val (.int (5 : Int32)), .val (.ref ba), .val (.int r), .val (.ref ta), .val (.double (Jvm.FP.ddiv (own_go 0 0 0 [(own_bit p2 1), (own_bit p2 2), (own_bit p2 4), (own_bit p2 8), (own_bit p2 16)]) (Jvm.FP.i2d r))), .second, .val (.int (f1 + (1 : Int32))), .val (.int m1), .unset, .unset, .unset, .unset, .unset, .unset] (dc hby d0_212) rfl ?_
                  refine go_iload XJ71 hx (dc hby d0_214) (v := m1) rfl ?_
                  refine go_iload XJ71 hx (dc hby d0_216) (v := (f1 + (1 : Int32))) rfl ?_
                  refine go_bipush XJ71 hx (30) (dc hby d0_218) rfl ?_
                  refine go_imul XJ71 hx (dc hby d0_220) ?_
                  refine go_iadd XJ71 hx (dc hby d0_221) ?_
                  refine go_istore XJ71 hx #[.val (.int p1), .val (.int p2), .val (.int p3), .val (.int (5 : Int32)), .val (.ref ba), .val (.int r), .val (.ref ta), .val (.double (Jvm.FP.ddiv (own_go 0 0 0 [(own_bit p2 1), (own_bit p2 2), (own_bit p2 4), (own_bit p2 8), (own_bit p2 16)]) (Jvm.FP.i2d r))), .second, .val (.int (f1 + (1 : Int32))), .val (.int (m1 + ((f1 + (1 : Int32)) * (30 : Int32)))), .unset, .unset, .unset, .unset, .unset, .unset] (dc hby d0_222) rfl ?_
                  exact J72 TJ71 _ _ XJ71 eJ71 (by rw [own_b1' c205]; rfl) (by rw [own_b1' c205]; rfl)
              refine go_ifc_eq XR hx (db hby d0_178) (fun c178 => ?_) (fun c178 => ?_)
              · exact J71 T70 _ _ XR e70 (by rw [own_b0' c178]; rfl) (by rw [own_b0' c178]; rfl)
              · refine go_iload XR hx (dc hby d0_181) (v := (0 : Int32)) rfl ?_
                refine go_iconst XR hx (1) (dc hby d0_183) rfl ?_
                refine go_iadd XR hx (dc hby d0_184) ?_
                refine go_istore XR hx #[.val (.int p1), .val (.int p2), .val (.int p3), .val (.int (5 : Int32)), .val (.ref ba), .val (.int r), .val (.ref ta), .val (.double (Jvm.FP.ddiv (own_go 0 0 0 [(own_bit p2 1), (own_bit p2 2), (own_bit p2 4), (own_bit p2 8), (own_bit p2 16)]) (Jvm.FP.i2d r))), .second, .val (.int ((0 : Int32) + (1 : Int32))), .val (.int (0 : Int32)), .unset, .unset, .unset, .unset, .unset, .unset] (dc hby d0_185) rfl ?_
                refine go_iload XR hx (dc hby d0_187) (v := (0 : Int32)) rfl ?_
                refine go_iload XR hx (dc hby d0_189) (v := ((0 : Int32) + (1 : Int32))) rfl ?_
                refine go_bipush XR hx (60) (dc hby d0_191) rfl ?_
                refine go_imul XR hx (dc hby d0_193) ?_
                refine go_iadd XR hx (dc hby d0_194) ?_
                refine go_istore XR hx #[.val (.int p1), .val (.int p2), .val (.int p3), .val (.int (5 : Int32)), .val (.ref ba), .val (.int r), .val (.ref ta), .val (.double (Jvm.FP.ddiv (own_go 0 0 0 [(own_bit p2 1), (own_bit p2 2), (own_bit p2 4), (own_bit p2 8), (own_bit p2 16)]) (Jvm.FP.i2d r))), .second, .val (.int ((0 : Int32) + (1 : Int32))), .val (.int ((0 : Int32) + (((0 : Int32) + (1 : Int32)) * (60 : Int32)))), .unset, .unset, .unset, .unset, .unset, .unset] (dc hby d0_195) rfl ?_
                exact J71 T70 _ _ XR e70 (by rw [own_b1' c178]; rfl) (by rw [own_b1' c178]; rfl)
            refine go_ifc_eq XL4 hx (db hby d0_105) (fun c105 => ?_) (fun c105 => ?_)
            · refine go_iconst XL4 hx (0) (dc hby d0_112) rfl ?_
              exact J65 T64 _ XL4 e64 ((own_z0 c105).symm)
            · refine go_iconst XL4 hx (1) (dc hby d0_108) rfl ?_
              refine go_goto XL4 hx (db hby d0_109) ?_
              exact J65 T64 _ XL4 e64 ((own_z1 c105).symm)
          refine go_ifc_eq XL3 hx (db hby d0_84) (fun c84 => ?_) (fun c84 => ?_)
          · refine go_iconst XL3 hx (0) (dc hby d0_91) rfl ?_
            exact J63 T62 _ XL3 e62 ((own_z0 c84).symm)
          · refine go_iconst XL3 hx (1) (dc hby d0_87) rfl ?_
            refine go_goto XL3 hx (db hby d0_88) ?_
            exact J63 T62 _ XL3 e62 ((own_z1 c84).symm)
        refine go_ifc_eq XL2 hx (db hby d0_63) (fun c63 => ?_) (fun c63 => ?_)
        · refine go_iconst XL2 hx (0) (dc hby d0_70) rfl ?_
          exact J61 T60 _ XL2 e60 ((own_z0 c63).symm)
        · refine go_iconst XL2 hx (1) (dc hby d0_66) rfl ?_
          refine go_goto XL2 hx (db hby d0_67) ?_
          exact J61 T60 _ XL2 e60 ((own_z1 c63).symm)
      refine go_ifc_eq XL1 hx (db hby d0_43) (fun c43 => ?_) (fun c43 => ?_)
      · refine go_iconst XL1 hx (0) (dc hby d0_50) rfl ?_
        exact J59 T58 _ XL1 e58 ((own_z0 c43).symm)
      · refine go_iconst XL1 hx (1) (dc hby d0_46) rfl ?_
        refine go_goto XL1 hx (db hby d0_47) ?_
        exact J59 T58 _ XL1 e58 ((own_z1 c43).symm)
    refine go_ifc_eq X56 hx (db hby d0_23) (fun c23 => ?_) (fun c23 => ?_)
    · refine go_iconst X56 hx (0) (dc hby d0_30) rfl ?_
      exact J57 T56 _ X56 e56 ((own_z0 c23).symm)
    · refine go_iconst X56 hx (1) (dc hby d0_26) rfl ?_
      refine go_goto X56 hx (db hby d0_27) ?_
      exact J57 T56 _ X56 e56 ((own_z1 c23).symm)
  · show Go p e below _ (T0.setTop (mkF m 7 #[.val (.int p1), .val (.int p2), .val (.int p3), .unset, .unset, .unset, .unset, .unset, .unset, .unset, .unset, .unset, .unset, .unset, .unset, .unset, .unset] [(.int (6 : Int32))]))
    refine go_istoren X0 hx #[.val (.int p1), .val (.int p2), .val (.int p3), .val (.int (6 : Int32)), .unset, .unset, .unset, .unset, .unset, .unset, .unset, .unset, .unset, .unset, .unset, .unset, .unset] (dc hby d0_7) rfl ?_
    refine go_iloadn X0 hx (dc hby d0_8) (v := (6 : Int32)) rfl ?_
    refine go_newPE X0 hx hZ (hw _ (List.mem_of_getElem? (i := 0) rfl)) e0 (dc hby d0_9) (by decide) 6 (by decide) (by decide) (by decide) (by decide) (ad := "[Z") (by decide) (fun T76 h76 kB ba g76 X76 e76 E76 A76 Y76 => ?_)
    have hba : h0.size ≤ ba := Nat.le_of_eq g76.symm
    have N0 := Fr.nil h0.size
    have V0 : Arv Z h76 ba kB .boolean 6 [.int 0, .int 0, .int 0, .int 0, .int 0, .int 0] (.int 0) := (Arv.new A76 (by decide)).pad (own_rep (n := 6))
    have KK0 : Keep h0 h76 [] := (Keep.refl _ _).ext E76
    refine go_astore X76 hx #[.val (.int p1), .val (.int p2), .val (.int p3), .val (.int (6 : Int32)), .val (.ref ba), .unset, .unset, .unset, .unset, .unset, .unset, .unset, .unset, .unset, .unset, .unset, .unset] (dc hby d0_11) rfl rfl ?_
    refine go_iloadn X76 hx (dc hby d0_13) (v := (6 : Int32)) rfl ?_
    refine go_ifc_le X76 hx (db hby d0_14) (fun c14 => absurd c14 (by decide)) (fun c14 => ?_)
    refine go_aload X76 hx (dc hby d0_17) (v := (.ref ba)) rfl rfl ?_
    refine go_iconst X76 hx (0) (dc hby d0_19) rfl ?_
    refine go_iloadn X76 hx (dc hby d0_20) (v := p2) rfl ?_
    refine go_iconst X76 hx (1) (dc hby d0_21) rfl ?_
    refine go_iand X76 hx (dc hby d0_22) ?_
    have J77 : ∀ (TJ77 : State) (z : Int32), Stand p l e room_1 s m #[(.int p1), (.int p2), (.int p3)] below meth c TJ77 [] 1 6 → TJ77.heap = h76 → z = (own_z (own_bit p2 1)) → Go p e below (EndN s (fun v h L => v = some (.int 1) ∧ Fr h0.size L) room_1.cells room_1.slots) (TJ77.setTop (mkF m 31 #[.val (.int p1), .val (.int p2), .val (.int p3), .val (.int (6 : Int32)), .val (.ref ba), .unset, .unset, .unset, .unset, .unset, .unset, .unset, .unset, .unset, .unset, .unset, .unset] [(.int z), (.int (0 : Int32)), (.ref ba)])) := by
      intro TJ77 z XJ77 eJ77 hz
      subst hz
      show Go p e below _ (TJ77.setTop (mkF m 31 #[.val (.int p1), .val (.int p2), .val (.int p3), .val (.int (6 : Int32)), .val (.ref ba), .unset, .unset, .unset, .unset, .unset, .unset, .unset, .unset, .unset, .unset, .unset, .unset] [(.int (own_z (own_bit p2 1))), (.int (0 : Int32)), (.ref ba)]))
      refine go_zastoreV XJ77 hx hZ eJ77 V0 (by decide) 0 rfl (by simp) (dc hby d0_31) (fun T78 h78 X78 e78 W78 V78 => ?_)
      have VA1 : Arv Z h78 ba kB .boolean 6 [own_v (own_bit p2 1), .int 0, .int 0, .int 0, .int 0, .int 0] (.int 0) := by
        have z := V78
        rw [own_nzb] at z
        exact z
      have YB1 := Y76.wr W78
      have KK1 := KK0.wr W78 (Or.inr hba)
      obtain ⟨LL1, XL1, NL1⟩ : ∃ LL, Stand p l e room_1 s m #[(.int p1), (.int p2), (.int p3)] below meth c T78 LL 1 6 ∧ Fr h0.size LL := ⟨_, X78, Fr.snoc X78 N0 hba⟩
      refine go_iloadn XL1 hx (dc hby d0_32) (v := (6 : Int32)) rfl ?_
      refine go_iconst XL1 hx (1) (dc hby d0_33) rfl ?_
      refine go_icmp_le XL1 hx (db hby d0_34) (fun c34 => absurd c34 (by decide)) (fun c34 => ?_)
      refine go_aload XL1 hx (dc hby d0_37) (v := (.ref ba)) rfl rfl ?_
      refine go_iconst XL1 hx (1) (dc hby d0_39) rfl ?_
      refine go_iloadn XL1 hx (dc hby d0_40) (v := p2) rfl ?_
      refine go_iconst XL1 hx (2) (dc hby d0_41) rfl ?_
      refine go_iand XL1 hx (dc hby d0_42) ?_
      have J79 : ∀ (TJ79 : State) (z : Int32), Stand p l e room_1 s m #[(.int p1), (.int p2), (.int p3)] below meth c TJ79 LL1 1 6 → TJ79.heap = h78 → z = (own_z (own_bit p2 2)) → Go p e below (EndN s (fun v h L => v = some (.int 1) ∧ Fr h0.size L) room_1.cells room_1.slots) (TJ79.setTop (mkF m 51 #[.val (.int p1), .val (.int p2), .val (.int p3), .val (.int (6 : Int32)), .val (.ref ba), .unset, .unset, .unset, .unset, .unset, .unset, .unset, .unset, .unset, .unset, .unset, .unset] [(.int z), (.int (1 : Int32)), (.ref ba)])) := by
        intro TJ79 z XJ79 eJ79 hz
        subst hz
        show Go p e below _ (TJ79.setTop (mkF m 51 #[.val (.int p1), .val (.int p2), .val (.int p3), .val (.int (6 : Int32)), .val (.ref ba), .unset, .unset, .unset, .unset, .unset, .unset, .unset, .unset, .unset, .unset, .unset, .unset] [(.int (own_z (own_bit p2 2))), (.int (1 : Int32)), (.ref ba)]))
        refine go_zastoreV XJ79 hx hZ eJ79 VA1 (by decide) 1 rfl (by simp) (dc hby d0_51) (fun T80 h80 X80 e80 W80 V80 => ?_)
        have VA2 : Arv Z h80 ba kB .boolean 6 [own_v (own_bit p2 1), own_v (own_bit p2 2), .int 0, .int 0, .int 0, .int 0] (.int 0) := by
          have z := V80
          rw [own_nzb] at z
          exact z
        have YB2 := YB1.wr W80
        have KK2 := KK1.wr W80 (Or.inr hba)
        obtain ⟨LL2, XL2, NL2⟩ : ∃ LL, Stand p l e room_1 s m #[(.int p1), (.int p2), (.int p3)] below meth c T80 LL 1 6 ∧ Fr h0.size LL := ⟨_, X80, Fr.snoc X80 NL1 hba⟩
        refine go_iloadn XL2 hx (dc hby d0_52) (v := (6 : Int32)) rfl ?_
        refine go_iconst XL2 hx (2) (dc hby d0_53) rfl ?_
        refine go_icmp_le XL2 hx (db hby d0_54) (fun c54 => absurd c54 (by decide)) (fun c54 => ?_)
        refine go_aload XL2 hx (dc hby d0_57) (v := (.ref ba)) rfl rfl ?_
        refine go_iconst XL2 hx (2) (dc hby d0_59) rfl ?_
        refine go_iloadn XL2 hx (dc hby d0_60) (v := p2) rfl ?_
        refine go_iconst XL2 hx (4) (dc hby d0_61) rfl ?_
        refine go_iand XL2 hx (dc hby d0_62) ?_
        have J81 : ∀ (TJ81 : State) (z : Int32), Stand p l e room_1 s m #[(.int p1), (.int p2), (.int p3)] below meth c TJ81 LL2 1 6 → TJ81.heap = h80 → z = (own_z (own_bit p2 4)) → Go p e below (EndN s (fun v h L => v = some (.int 1) ∧ Fr h0.size L) room_1.cells room_1.slots) (TJ81.setTop (mkF m 71 #[.val (.int p1), .val (.int p2), .val (.int p3), .val (.int (6 : Int32)), .val (.ref ba), .unset, .unset, .unset, .unset, .unset, .unset, .unset, .unset, .unset, .unset, .unset, .unset] [(.int z), (.int (2 : Int32)), (.ref ba)])) := by
          intro TJ81 z XJ81 eJ81 hz
          subst hz
          show Go p e below _ (TJ81.setTop (mkF m 71 #[.val (.int p1), .val (.int p2), .val (.int p3), .val (.int (6 : Int32)), .val (.ref ba), .unset, .unset, .unset, .unset, .unset, .unset, .unset, .unset, .unset, .unset, .unset, .unset] [(.int (own_z (own_bit p2 4))), (.int (2 : Int32)), (.ref ba)]))
          refine go_zastoreV XJ81 hx hZ eJ81 VA2 (by decide) 2 rfl (by simp) (dc hby d0_71) (fun T82 h82 X82 e82 W82 V82 => ?_)
          have VA3 : Arv Z h82 ba kB .boolean 6 [own_v (own_bit p2 1), own_v (own_bit p2 2), own_v (own_bit p2 4), .int 0, .int 0, .int 0] (.int 0) := by
            have z := V82
            rw [own_nzb] at z
            exact z
          have YB3 := YB2.wr W82
          have KK3 := KK2.wr W82 (Or.inr hba)
          obtain ⟨LL3, XL3, NL3⟩ : ∃ LL, Stand p l e room_1 s m #[(.int p1), (.int p2), (.int p3)] below meth c T82 LL 1 6 ∧ Fr h0.size LL := ⟨_, X82, Fr.snoc X82 NL2 hba⟩
          refine go_iloadn XL3 hx (dc hby d0_72) (v := (6 : Int32)) rfl ?_
          refine go_iconst XL3 hx (3) (dc hby d0_73) rfl ?_
          refine go_icmp_le XL3 hx (db hby d0_74) (fun c74 => absurd c74 (by decide)) (fun c74 => ?_)
          refine go_aload XL3 hx (dc hby d0_77) (v := (.ref ba)) rfl rfl ?_
          refine go_iconst XL3 hx (3) (dc hby d0_79) rfl ?_
          refine go_iloadn XL3 hx (dc hby d0_80) (v := p2) rfl ?_
          refine go_bipush XL3 hx (8) (dc hby d0_81) rfl ?_
          refine go_iand XL3 hx (dc hby d0_83) ?_
          have J83 : ∀ (TJ83 : State) (z : Int32), Stand p l e room_1 s m #[(.int p1), (.int p2), (.int p3)] below meth c TJ83 LL3 1 6 → TJ83.heap = h82 → z = (own_z (own_bit p2 8)) → Go p e below (EndN s (fun v h L => v = some (.int 1) ∧ Fr h0.size L) room_1.cells room_1.slots) (TJ83.setTop (mkF m 92 #[.val (.int p1), .val (.int p2), .val (.int p3), .val (.int (6 : Int32)), .val (.ref ba), .unset, .unset, .unset, .unset, .unset, .unset, .unset, .unset, .unset, .unset, .unset, .unset] [(.int z), (.int (3 : Int32)), (.ref ba)])) := by
            intro TJ83 z XJ83 eJ83 hz
            subst hz
            show Go p e below _ (TJ83.setTop (mkF m 92 #[.val (.int p1), .val (.int p2), .val (.int p3), .val (.int (6 : Int32)), .val (.ref ba), .unset, .unset, .unset, .unset, .unset, .unset, .unset, .unset, .unset, .unset, .unset, .unset] [(.int (own_z (own_bit p2 8))), (.int (3 : Int32)), (.ref ba)]))
            refine go_zastoreV XJ83 hx hZ eJ83 VA3 (by decide) 3 rfl (by simp) (dc hby d0_92) (fun T84 h84 X84 e84 W84 V84 => ?_)
            have VA4 : Arv Z h84 ba kB .boolean 6 [own_v (own_bit p2 1), own_v (own_bit p2 2), own_v (own_bit p2 4), own_v (own_bit p2 8), .int 0, .int 0] (.int 0) := by
              have z := V84
              rw [own_nzb] at z
              exact z
            have YB4 := YB3.wr W84
            have KK4 := KK3.wr W84 (Or.inr hba)
            obtain ⟨LL4, XL4, NL4⟩ : ∃ LL, Stand p l e room_1 s m #[(.int p1), (.int p2), (.int p3)] below meth c T84 LL 1 6 ∧ Fr h0.size LL := ⟨_, X84, Fr.snoc X84 NL3 hba⟩
            refine go_iloadn XL4 hx (dc hby d0_93) (v := (6 : Int32)) rfl ?_
            refine go_iconst XL4 hx (4) (dc hby d0_94) rfl ?_
            refine go_icmp_le XL4 hx (db hby d0_95) (fun c95 => absurd c95 (by decide)) (fun c95 => ?_)
            refine go_aload XL4 hx (dc hby d0_98) (v := (.ref ba)) rfl rfl ?_
            refine go_iconst XL4 hx (4) (dc hby d0_100) rfl ?_
            refine go_iloadn XL4 hx (dc hby d0_101) (v := p2) rfl ?_
            refine go_bipush XL4 hx (16) (dc hby d0_102) rfl ?_
            refine go_iand XL4 hx (dc hby d0_104) ?_
            have J85 : ∀ (TJ85 : State) (z : Int32), Stand p l e room_1 s m #[(.int p1), (.int p2), (.int p3)] below meth c TJ85 LL4 1 6 → TJ85.heap = h84 → z = (own_z (own_bit p2 16)) → Go p e below (EndN s (fun v h L => v = some (.int 1) ∧ Fr h0.size L) room_1.cells room_1.slots) (TJ85.setTop (mkF m 113 #[.val (.int p1), .val (.int p2), .val (.int p3), .val (.int (6 : Int32)), .val (.ref ba), .unset, .unset, .unset, .unset, .unset, .unset, .unset, .unset, .unset, .unset, .unset, .unset] [(.int z), (.int (4 : Int32)), (.ref ba)])) := by
              intro TJ85 z XJ85 eJ85 hz
              subst hz
              show Go p e below _ (TJ85.setTop (mkF m 113 #[.val (.int p1), .val (.int p2), .val (.int p3), .val (.int (6 : Int32)), .val (.ref ba), .unset, .unset, .unset, .unset, .unset, .unset, .unset, .unset, .unset, .unset, .unset, .unset] [(.int (own_z (own_bit p2 16))), (.int (4 : Int32)), (.ref ba)]))
              refine go_zastoreV XJ85 hx hZ eJ85 VA4 (by decide) 4 rfl (by simp) (dc hby d0_113) (fun T86 h86 X86 e86 W86 V86 => ?_)
              have VA5 : Arv Z h86 ba kB .boolean 6 [own_v (own_bit p2 1), own_v (own_bit p2 2), own_v (own_bit p2 4), own_v (own_bit p2 8), own_v (own_bit p2 16), .int 0] (.int 0) := by
                have z := V86
                rw [own_nzb] at z
                exact z
              have YB5 := YB4.wr W86
              have KK5 := KK4.wr W86 (Or.inr hba)
              obtain ⟨LL5, XL5, NL5⟩ : ∃ LL, Stand p l e room_1 s m #[(.int p1), (.int p2), (.int p3)] below meth c T86 LL 1 6 ∧ Fr h0.size LL := ⟨_, X86, Fr.snoc X86 NL4 hba⟩
              refine go_iloadn XL5 hx (dc hby d0_114) (v := (6 : Int32)) rfl ?_
              refine go_iconst XL5 hx (5) (dc hby d0_115) rfl ?_
              refine go_icmp_le XL5 hx (db hby d0_116) (fun c116 => absurd c116 (by decide)) (fun c116 => ?_)
              refine go_aload XL5 hx (dc hby d0_119) (v := (.ref ba)) rfl rfl ?_
              refine go_iconst XL5 hx (5) (dc hby d0_121) rfl ?_
              refine go_iloadn XL5 hx (dc hby d0_122) (v := p2) rfl ?_
              refine go_bipush XL5 hx (32) (dc hby d0_123) rfl ?_
              refine go_iand XL5 hx (dc hby d0_125) ?_
              have J87 : ∀ (TJ87 : State) (z : Int32), Stand p l e room_1 s m #[(.int p1), (.int p2), (.int p3)] below meth c TJ87 LL5 1 6 → TJ87.heap = h86 → z = (own_z (own_bit p2 32)) → Go p e below (EndN s (fun v h L => v = some (.int 1) ∧ Fr h0.size L) room_1.cells room_1.slots) (TJ87.setTop (mkF m 134 #[.val (.int p1), .val (.int p2), .val (.int p3), .val (.int (6 : Int32)), .val (.ref ba), .unset, .unset, .unset, .unset, .unset, .unset, .unset, .unset, .unset, .unset, .unset, .unset] [(.int z), (.int (5 : Int32)), (.ref ba)])) := by
                intro TJ87 z XJ87 eJ87 hz
                subst hz
                show Go p e below _ (TJ87.setTop (mkF m 134 #[.val (.int p1), .val (.int p2), .val (.int p3), .val (.int (6 : Int32)), .val (.ref ba), .unset, .unset, .unset, .unset, .unset, .unset, .unset, .unset, .unset, .unset, .unset, .unset] [(.int (own_z (own_bit p2 32))), (.int (5 : Int32)), (.ref ba)]))
                refine go_zastoreV XJ87 hx hZ eJ87 VA5 (by decide) 5 rfl (by simp) (dc hby d0_134) (fun T88 h88 X88 e88 W88 V88 => ?_)
                have VA6 : Arv Z h88 ba kB .boolean 6 [own_v (own_bit p2 1), own_v (own_bit p2 2), own_v (own_bit p2 4), own_v (own_bit p2 8), own_v (own_bit p2 16), own_v (own_bit p2 32)] (.int 0) := by
                  have z := V88
                  rw [own_nzb] at z
                  exact z
                have YB6 := YB5.wr W88
                have KK6 := KK5.wr W88 (Or.inr hba)
                obtain ⟨LL6, XL6, NL6⟩ : ∃ LL, Stand p l e room_1 s m #[(.int p1), (.int p2), (.int p3)] below meth c T88 LL 1 6 ∧ Fr h0.size LL := ⟨_, X88, Fr.snoc X88 NL5 hba⟩
                refine go_iconst XL6 hx (1) (dc hby d0_135) rfl ?_
                refine go_iloadn XL6 hx (dc hby d0_136) (v := p3) rfl ?_
                refine go_ldc XL6 hx hZ hown (hw _ (List.mem_of_getElem? (i := 1) rfl)) (dc hby d0_137) ?_
                refine go_iand XL6 hx (dc hby d0_139) ?_
                refine go_staticP XL6 hx hZ hown (hw _ (List.mem_of_getElem? (i := 2) rfl)) (hw _ (List.mem_of_getElem? (i := 3) rfl)) (hw _ (List.mem_of_getElem? (i := 4) rfl)) (hw _ (List.mem_of_getElem? (i := 5) rfl)) (by decide) e88 [(.int (1 : Int32)), (.int (p3 &&& (2147483647 : Int32)))] [] (r := (.int (own_max 1 (p3 &&& 2147483647)))) (rm1 l Z a0 hw [] 1 (p3 &&& 2147483647) h88) pd1 rfl (by rw [hml]; rfl) rfl 0 (Nat.le_of_eq rfl) (by decide) (by decide) rfl rfl (by decide) (by decide) (dc hby d0_140) (fun T89 X89 e89 => ?_)
                have hr := own_rl p3
                generalize own_max 1 (p3 &&& 2147483647) = r at hr ⊢
                show Go p e below _ (T89.setTop (mkF m 143 #[.val (.int p1), .val (.int p2), .val (.int p3), .val (.int (6 : Int32)), .val (.ref ba), .unset, .unset, .unset, .unset, .unset, .unset, .unset, .unset, .unset, .unset, .unset, .unset] [(.int r)]))
                refine go_istore X89 hx #[.val (.int p1), .val (.int p2), .val (.int p3), .val (.int (6 : Int32)), .val (.ref ba), .val (.int r), .unset, .unset, .unset, .unset, .unset, .unset, .unset, .unset, .unset, .unset, .unset] (dc hby d0_143) rfl ?_
                refine go_newO X89 hx hZ hown (hw _ (List.mem_of_getElem? (i := 6) rfl)) (hw _ (List.mem_of_getElem? (i := 7) rfl)) (hw _ (List.mem_of_getElem? (i := 8) rfl)) e89 (dc hby d0_145) (by decide) (by decide) (fun T90 h90 ta g90 X90 e90 E90 A90 D90 => ?_)
                refine go_dup X90 hx (dc hby d0_148) rfl ?_
                refine go_aload X90 hx (dc hby d0_149) (v := (.ref ba)) rfl rfl ?_
                refine go_iload X90 hx (dc hby d0_151) (v := r) rfl ?_
                have hta : h0.size ≤ ta := Nat.le_trans KK6.1 (Nat.le_of_eq g90.symm)
                refine go_special X90 hx hZ rfl hown (hw _ (List.mem_of_getElem? (i := 9) rfl)) (hw _ (List.mem_of_getElem? (i := 10) rfl)) (hw _ (List.mem_of_getElem? (i := 8) rfl)) (hw _ (List.mem_of_getElem? (i := 11) rfl)) (by decide) e90 (a := ta) [(.ref ba), (.int r)] [(.ref ta)] (rm2 l Z a0 hw [] ta ba r kB 6 _ h90 hr A90 (D90 (Or.inr (hw _ (List.mem_of_getElem? (i := 25) rfl))) (ty := .array .boolean) (by decide)) (D90 (Or.inr (hw _ (List.mem_of_getElem? (i := 27) rfl))) (ty := .int) (by decide)) (VA6.ext E90) (YB6.ext E90) (by decide)) pd2 rfl (by rw [hml]; rfl) rfl 1 (Nat.le_of_eq rfl) (by decide) (by decide) (by decide) (by decide) (dc hby d0_153) (fun T91 v91 L91 X91 hQ91 => ?_)
                obtain ⟨rfl, N91, K91, ET, FR, ca, FA, VC⟩ := hQ91
                show Go p e below _ (T91.setTop (mkF m 156 #[.val (.int p1), .val (.int p2), .val (.int p3), .val (.int (6 : Int32)), .val (.ref ba), .val (.int r), .unset, .unset, .unset, .unset, .unset, .unset, .unset, .unset, .unset, .unset, .unset] [(.ref ta)]))
                refine go_astore X91 hx #[.val (.int p1), .val (.int p2), .val (.int p3), .val (.int (6 : Int32)), .val (.ref ba), .val (.int r), .val (.ref ta), .unset, .unset, .unset, .unset, .unset, .unset, .unset, .unset, .unset, .unset] (dc hby d0_156) rfl rfl ?_
                refine go_aload X91 hx (dc hby d0_158) (v := (.ref ta)) rfl rfl ?_
                have hl6 : ([(own_bit p2 1), (own_bit p2 2), (own_bit p2 4), (own_bit p2 8), (own_bit p2 16), (own_bit p2 32)] : List Bool).length ≤ 6 := by simp
                have TB := own_tab [(own_bit p2 1), (own_bit p2 2), (own_bit p2 4), (own_bit p2 8), (own_bit p2 16), (own_bit p2 32)] hl6
                have TB1 := (Bool.and_eq_true_iff.mp TB).1
                have HN := (own_end [(own_bit p2 1), (own_bit p2 2), (own_bit p2 4), (own_bit p2 8), (own_bit p2 16), (own_bit p2 32)] hl6 r hr).1
                refine go_virtualP X91 hx hZ hown (hw _ (List.mem_of_getElem? (i := 28) rfl)) (hw _ (List.mem_of_getElem? (i := 29) rfl)) (hw _ (List.mem_of_getElem? (i := 31) rfl)) (hw _ (List.mem_of_getElem? (i := 30) rfl)) (hw _ (List.mem_of_getElem? (i := 8) rfl)) (hw _ (List.mem_of_getElem? (i := 32) rfl)) (by decide) rfl (a := ta) ET [] [] (r := (.double (Jvm.FP.ddiv (own_go 0 0 0 [(own_bit p2 1), (own_bit p2 2), (own_bit p2 4), (own_bit p2 8), (own_bit p2 16), (own_bit p2 32)]) (Jvm.FP.i2d r)))) (rm4 l Z a0 hw [] ta ca kB 6 r [(own_bit p2 1), (own_bit p2 2), (own_bit p2 4), (own_bit p2 8), (own_bit p2 16), (own_bit p2 32)] T91.heap rfl hl6 TB1 HN FA FR VC) pd4 rfl (by rw [hml]; rfl) rfl 0 (Nat.le_of_eq rfl) (by decide) (by decide) rfl rfl (by decide) (by decide) (dc hby d0_160) (fun T92 X92 e92 => ?_)
                have NR := Fr.app NL6 (L' := L91) (fun y hy => by rw [N91 y hy]; exact hta)
                obtain ⟨LR, XR, NLR⟩ : ∃ LL, Stand p l e room_1 s m #[(.int p1), (.int p2), (.int p3)] below meth c T92 LL 3 14 ∧ Fr h0.size LL := ⟨_, X92, NR⟩
                refine go_dstore XR hx #[.val (.int p1), .val (.int p2), .val (.int p3), .val (.int (6 : Int32)), .val (.ref ba), .val (.int r), .val (.ref ta), .val (.double (Jvm.FP.ddiv (own_go 0 0 0 [(own_bit p2 1), (own_bit p2 2), (own_bit p2 4), (own_bit p2 8), (own_bit p2 16), (own_bit p2 32)]) (Jvm.FP.i2d r))), .second, .unset, .unset, .unset, .unset, .unset, .unset, .unset, .unset] (dc hby d0_163) rfl ?_
                refine go_iconst XR hx (0) (dc hby d0_165) rfl ?_
                refine go_istore XR hx #[.val (.int p1), .val (.int p2), .val (.int p3), .val (.int (6 : Int32)), .val (.ref ba), .val (.int r), .val (.ref ta), .val (.double (Jvm.FP.ddiv (own_go 0 0 0 [(own_bit p2 1), (own_bit p2 2), (own_bit p2 4), (own_bit p2 8), (own_bit p2 16), (own_bit p2 32)]) (Jvm.FP.i2d r))), .second, .val (.int (0 : Int32)), .unset, .unset, .unset, .unset, .unset, .unset, .unset] (dc hby d0_166) rfl ?_
                refine go_iconst XR hx (0) (dc hby d0_168) rfl ?_
                refine go_istore XR hx #[.val (.int p1), .val (.int p2), .val (.int p3), .val (.int (6 : Int32)), .val (.ref ba), .val (.int r), .val (.ref ta), .val (.double (Jvm.FP.ddiv (own_go 0 0 0 [(own_bit p2 1), (own_bit p2 2), (own_bit p2 4), (own_bit p2 8), (own_bit p2 16), (own_bit p2 32)]) (Jvm.FP.i2d r))), .second, .val (.int (0 : Int32)), .val (.int (0 : Int32)), .unset, .unset, .unset, .unset, .unset, .unset] (dc hby d0_169) rfl ?_
                have inv0 : own_fm 0 0 [(own_bit p2 1), (own_bit p2 2), (own_bit p2 4), (own_bit p2 8), (own_bit p2 16), (own_bit p2 32)] [60, 30, 20, 15, 12, 10] = own_fm 0 0 [(own_bit p2 1), (own_bit p2 2), (own_bit p2 4), (own_bit p2 8), (own_bit p2 16), (own_bit p2 32)] own_W := rfl
                refine go_iloadn XR hx (dc hby d0_171) (v := (6 : Int32)) rfl ?_
                refine go_ifc_le XR hx (db hby d0_172) (fun c172 => absurd c172 (by decide)) (fun c172 => ?_)
                refine go_iloadn XR hx (dc hby d0_175) (v := p2) rfl ?_
                refine go_iconst XR hx (1) (dc hby d0_176) rfl ?_
                refine go_iand XR hx (dc hby d0_177) ?_
                have J93 : ∀ (TJ93 : State) (f1 m1 : Int32), Stand p l e room_1 s m #[(.int p1), (.int p2), (.int p3)] below meth c TJ93 LR 3 14 → TJ93.heap = T91.heap → f1 = own_f1 (own_bit p2 1) (0 : Int32) → m1 = own_m1 (own_bit p2 1) (0 : Int32) (0 : Int32) 60 → Go p e below (EndN s (fun v h L => v = some (.int 1) ∧ Fr h0.size L) room_1.cells room_1.slots) (TJ93.setTop (mkF m 197 #[.val (.int p1), .val (.int p2), .val (.int p3), .val (.int (6 : Int32)), .val (.ref ba), .val (.int r), .val (.ref ta), .val (.double (Jvm.FP.ddiv (own_go 0 0 0 [(own_bit p2 1), (own_bit p2 2), (own_bit p2 4), (own_bit p2 8), (own_bit p2 16), (own_bit p2 32)]) (Jvm.FP.i2d r))), .second, .val (.int f1), .val (.int m1), .unset, .unset, .unset, .unset, .unset, .unset] [])) := by
                  intro TJ93 f1 m1 XJ93 eJ93 hf1 hm1
                  show Go p e below _ (TJ93.setTop (mkF m 197 #[.val (.int p1), .val (.int p2), .val (.int p3), .val (.int (6 : Int32)), .val (.ref ba), .val (.int r), .val (.ref ta), .val (.double (Jvm.FP.ddiv (own_go 0 0 0 [(own_bit p2 1), (own_bit p2 2), (own_bit p2 4), (own_bit p2 8), (own_bit p2 16), (own_bit p2 32)]) (Jvm.FP.i2d r))), .second, .val (.int f1), .val (.int m1), .unset, .unset, .unset, .unset, .unset, .unset] []))
                  have inv1 : own_fm f1 m1 [(own_bit p2 2), (own_bit p2 4), (own_bit p2 8), (own_bit p2 16), (own_bit p2 32)] [30, 20, 15, 12, 10] = own_fm 0 0 [(own_bit p2 1), (own_bit p2 2), (own_bit p2 4), (own_bit p2 8), (own_bit p2 16), (own_bit p2 32)] own_W := by
                    rw [hf1, hm1, ← own_fmc]
                    exact inv0
                  refine go_iloadn XJ93 hx (dc hby d0_197) (v := (6 : Int32)) rfl ?_
                  refine go_iconst XJ93 hx (1) (dc hby d0_198) rfl ?_
                  refine go_icmp_le XJ93 hx (db hby d0_199) (fun c199 => absurd c199 (by decide)) (fun c199 => ?_)
                  refine go_iloadn XJ93 hx (dc hby d0_202) (v := p2) rfl ?_
                  refine go_iconst XJ93 hx (2) (dc hby d0_203) rfl ?_
                  refine go_iand XJ93 hx (dc hby d0_204) ?_
                  have J94 : ∀ (TJ94 : State) (f2 m2 : Int32), Stand p l e room_1 s m #[(.int p1), (.int p2), (.int p3)] below meth c TJ94 LR 3 14 → TJ94.heap = T91.heap → f2 = own_f1 (own_bit p2 2) f1 → m2 = own_m1 (own_bit p2 2) f1 m1 30 → Go p e below (EndN s (fun v h L => v = some (.int 1) ∧ Fr h0.size L) room_1.cells room_1.slots) (TJ94.setTop (mkF m 224 #[.val (.int p1), .val (.int p2), .val (.int p3), .val (.int (6 : Int32)), .val (.ref ba), .val (.int r), .val (.ref ta), .val (.double (Jvm.FP.ddiv (own_go 0 0 0 [(own_bit p2 1), (own_bit p2 2), (own_bit p2 4), (own_bit p2 8), (own_bit p2 16), (own_bit p2 32)]) (Jvm.FP.i2d r))), .second, .val (.int f2), .val (.int m2), .unset, .unset, .unset, .unset, .unset, .unset] [])) := by
                    intro TJ94 f2 m2 XJ94 eJ94 hf2 hm2
                    show Go p e below _ (TJ94.setTop (mkF m 224 #[.val (.int p1), .val (.int p2), .val (.int p3), .val (.int (6 : Int32)), .val (.ref ba), .val (.int r), .val (.ref ta), .val (.double (Jvm.FP.ddiv (own_go 0 0 0 [(own_bit p2 1), (own_bit p2 2), (own_bit p2 4), (own_bit p2 8), (own_bit p2 16), (own_bit p2 32)]) (Jvm.FP.i2d r))), .second, .val (.int f2), .val (.int m2), .unset, .unset, .unset, .unset, .unset, .unset] []))
                    have inv2 : own_fm f2 m2 [(own_bit p2 4), (own_bit p2 8), (own_bit p2 16), (own_bit p2 32)] [20, 15, 12, 10] = own_fm 0 0 [(own_bit p2 1), (own_bit p2 2), (own_bit p2 4), (own_bit p2 8), (own_bit p2 16), (own_bit p2 32)] own_W := by
                      rw [hf2, hm2, ← own_fmc]
                      exact inv1
                    refine go_iloadn XJ94 hx (dc hby d0_224) (v := (6 : Int32)) rfl ?_
                    refine go_iconst XJ94 hx (2) (dc hby d0_225) rfl ?_
                    refine go_icmp_le XJ94 hx (db hby d0_226) (fun c226 => absurd c226 (by decide)) (fun c226 => ?_)
                    refine go_iloadn XJ94 hx (dc hby d0_229) (v := p2) rfl ?_
                    refine go_iconst XJ94 hx (4) (dc hby d0_230) rfl ?_
                    refine go_iand XJ94 hx (dc hby d0_231) ?_
                    have J95 : ∀ (TJ95 : State) (f3 m3 : Int32), Stand p l e room_1 s m #[(.int p1), (.int p2), (.int p3)] below meth c TJ95 LR 3 14 → TJ95.heap = T91.heap → f3 = own_f1 (own_bit p2 4) f2 → m3 = own_m1 (own_bit p2 4) f2 m2 20 → Go p e below (EndN s (fun v h L => v = some (.int 1) ∧ Fr h0.size L) room_1.cells room_1.slots) (TJ95.setTop (mkF m 251 #[.val (.int p1), .val (.int p2), .val (.int p3), .val (.int (6 : Int32)), .val (.ref ba), .val (.int r), .val (.ref ta), .val (.double (Jvm.FP.ddiv (own_go 0 0 0 [(own_bit p2 1), (own_bit p2 2), (own_bit p2 4), (own_bit p2 8), (own_bit p2 16), (own_bit p2 32)]) (Jvm.FP.i2d r))), .second, .val (.int f3), .val (.int m3), .unset, .unset, .unset, .unset, .unset, .unset] [])) := by
                      intro TJ95 f3 m3 XJ95 eJ95 hf3 hm3
                      show Go p e below _ (TJ95.setTop (mkF m 251 #[.val (.int p1), .val (.int p2), .val (.int p3), .val (.int (6 : Int32)), .val (.ref ba), .val (.int r), .val (.ref ta), .val (.double (Jvm.FP.ddiv (own_go 0 0 0 [(own_bit p2 1), (own_bit p2 2), (own_bit p2 4), (own_bit p2 8), (own_bit p2 16), (own_bit p2 32)]) (Jvm.FP.i2d r))), .second, .val (.int f3), .val (.int m3), .unset, .unset, .unset, .unset, .unset, .unset] []))
                      have inv3 : own_fm f3 m3 [(own_bit p2 8), (own_bit p2 16), (own_bit p2 32)] [15, 12, 10] = own_fm 0 0 [(own_bit p2 1), (own_bit p2 2), (own_bit p2 4), (own_bit p2 8), (own_bit p2 16), (own_bit p2 32)] own_W := by
                        rw [hf3, hm3, ← own_fmc]
                        exact inv2
                      refine go_iloadn XJ95 hx (dc hby d0_251) (v := (6 : Int32)) rfl ?_
                      refine go_iconst XJ95 hx (3) (dc hby d0_252) rfl ?_
                      refine go_icmp_le XJ95 hx (db hby d0_253) (fun c253 => absurd c253 (by decide)) (fun c253 => ?_)
                      refine go_iloadn XJ95 hx (dc hby d0_256) (v := p2) rfl ?_
                      refine go_bipush XJ95 hx (8) (dc hby d0_257) rfl ?_
                      refine go_iand XJ95 hx (dc hby d0_259) ?_
                      have J96 : ∀ (TJ96 : State) (f4 m4 : Int32), Stand p l e room_1 s m #[(.int p1), (.int p2), (.int p3)] below meth c TJ96 LR 3 14 → TJ96.heap = T91.heap → f4 = own_f1 (own_bit p2 8) f3 → m4 = own_m1 (own_bit p2 8) f3 m3 15 → Go p e below (EndN s (fun v h L => v = some (.int 1) ∧ Fr h0.size L) room_1.cells room_1.slots) (TJ96.setTop (mkF m 279 #[.val (.int p1), .val (.int p2), .val (.int p3), .val (.int (6 : Int32)), .val (.ref ba), .val (.int r), .val (.ref ta), .val (.double (Jvm.FP.ddiv (own_go 0 0 0 [(own_bit p2 1), (own_bit p2 2), (own_bit p2 4), (own_bit p2 8), (own_bit p2 16), (own_bit p2 32)]) (Jvm.FP.i2d r))), .second, .val (.int f4), .val (.int m4), .unset, .unset, .unset, .unset, .unset, .unset] [])) := by
                        intro TJ96 f4 m4 XJ96 eJ96 hf4 hm4
                        show Go p e below _ (TJ96.setTop (mkF m 279 #[.val (.int p1), .val (.int p2), .val (.int p3), .val (.int (6 : Int32)), .val (.ref ba), .val (.int r), .val (.ref ta), .val (.double (Jvm.FP.ddiv (own_go 0 0 0 [(own_bit p2 1), (own_bit p2 2), (own_bit p2 4), (own_bit p2 8), (own_bit p2 16), (own_bit p2 32)]) (Jvm.FP.i2d r))), .second, .val (.int f4), .val (.int m4), .unset, .unset, .unset, .unset, .unset, .unset] []))
                        have inv4 : own_fm f4 m4 [(own_bit p2 16), (own_bit p2 32)] [12, 10] = own_fm 0 0 [(own_bit p2 1), (own_bit p2 2), (own_bit p2 4), (own_bit p2 8), (own_bit p2 16), (own_bit p2 32)] own_W := by
                          rw [hf4, hm4, ← own_fmc]
                          exact inv3
                        refine go_iloadn XJ96 hx (dc hby d0_279) (v := (6 : Int32)) rfl ?_
                        refine go_iconst XJ96 hx (4) (dc hby d0_280) rfl ?_
                        refine go_icmp_le XJ96 hx (db hby d0_281) (fun c281 => absurd c281 (by decide)) (fun c281 => ?_)
                        refine go_iloadn XJ96 hx (dc hby d0_284) (v := p2) rfl ?_
                        refine go_bipush XJ96 hx (16) (dc hby d0_285) rfl ?_
                        refine go_iand XJ96 hx (dc hby d0_287) ?_
                        have J97 : ∀ (TJ97 : State) (f5 m5 : Int32), Stand p l e room_1 s m #[(.int p1), (.int p2), (.int p3)] below meth c TJ97 LR 3 14 → TJ97.heap = T91.heap → f5 = own_f1 (own_bit p2 16) f4 → m5 = own_m1 (own_bit p2 16) f4 m4 12 → Go p e below (EndN s (fun v h L => v = some (.int 1) ∧ Fr h0.size L) room_1.cells room_1.slots) (TJ97.setTop (mkF m 307 #[.val (.int p1), .val (.int p2), .val (.int p3), .val (.int (6 : Int32)), .val (.ref ba), .val (.int r), .val (.ref ta), .val (.double (Jvm.FP.ddiv (own_go 0 0 0 [(own_bit p2 1), (own_bit p2 2), (own_bit p2 4), (own_bit p2 8), (own_bit p2 16), (own_bit p2 32)]) (Jvm.FP.i2d r))), .second, .val (.int f5), .val (.int m5), .unset, .unset, .unset, .unset, .unset, .unset] [])) := by
                          intro TJ97 f5 m5 XJ97 eJ97 hf5 hm5
                          show Go p e below _ (TJ97.setTop (mkF m 307 #[.val (.int p1), .val (.int p2), .val (.int p3), .val (.int (6 : Int32)), .val (.ref ba), .val (.int r), .val (.ref ta), .val (.double (Jvm.FP.ddiv (own_go 0 0 0 [(own_bit p2 1), (own_bit p2 2), (own_bit p2 4), (own_bit p2 8), (own_bit p2 16), (own_bit p2 32)]) (Jvm.FP.i2d r))), .second, .val (.int f5), .val (.int m5), .unset, .unset, .unset, .unset, .unset, .unset] []))
                          have inv5 : own_fm f5 m5 [(own_bit p2 32)] [10] = own_fm 0 0 [(own_bit p2 1), (own_bit p2 2), (own_bit p2 4), (own_bit p2 8), (own_bit p2 16), (own_bit p2 32)] own_W := by
                            rw [hf5, hm5, ← own_fmc]
                            exact inv4
                          refine go_iloadn XJ97 hx (dc hby d0_307) (v := (6 : Int32)) rfl ?_
                          refine go_iconst XJ97 hx (5) (dc hby d0_308) rfl ?_
                          refine go_icmp_le XJ97 hx (db hby d0_309) (fun c309 => absurd c309 (by decide)) (fun c309 => ?_)
                          refine go_iloadn XJ97 hx (dc hby d0_312) (v := p2) rfl ?_
                          refine go_bipush XJ97 hx (32) (dc hby d0_313) rfl ?_
                          refine go_iand XJ97 hx (dc hby d0_315) ?_
                          have J98 : ∀ (TJ98 : State) (f6 m6 : Int32), Stand p l e room_1 s m #[(.int p1), (.int p2), (.int p3)] below meth c TJ98 LR 3 14 → TJ98.heap = T91.heap → f6 = own_f1 (own_bit p2 32) f5 → m6 = own_m1 (own_bit p2 32) f5 m5 10 → Go p e below (EndN s (fun v h L => v = some (.int 1) ∧ Fr h0.size L) room_1.cells room_1.slots) (TJ98.setTop (mkF m 335 #[.val (.int p1), .val (.int p2), .val (.int p3), .val (.int (6 : Int32)), .val (.ref ba), .val (.int r), .val (.ref ta), .val (.double (Jvm.FP.ddiv (own_go 0 0 0 [(own_bit p2 1), (own_bit p2 2), (own_bit p2 4), (own_bit p2 8), (own_bit p2 16), (own_bit p2 32)]) (Jvm.FP.i2d r))), .second, .val (.int f6), .val (.int m6), .unset, .unset, .unset, .unset, .unset, .unset] [])) := by
                            intro TJ98 f6 m6 XJ98 eJ98 hf6 hm6
                            show Go p e below _ (TJ98.setTop (mkF m 335 #[.val (.int p1), .val (.int p2), .val (.int p3), .val (.int (6 : Int32)), .val (.ref ba), .val (.int r), .val (.ref ta), .val (.double (Jvm.FP.ddiv (own_go 0 0 0 [(own_bit p2 1), (own_bit p2 2), (own_bit p2 4), (own_bit p2 8), (own_bit p2 16), (own_bit p2 32)]) (Jvm.FP.i2d r))), .second, .val (.int f6), .val (.int m6), .unset, .unset, .unset, .unset, .unset, .unset] []))
                            have inv6 : own_fm f6 m6 [] [] = own_fm 0 0 [(own_bit p2 1), (own_bit p2 2), (own_bit p2 4), (own_bit p2 8), (own_bit p2 16), (own_bit p2 32)] own_W := by
                              rw [hf6, hm6, ← own_fmc]
                              exact inv5
                            exact J335 TJ98 T91.heap LR [(own_bit p2 1), (own_bit p2 2), (own_bit p2 4), (own_bit p2 8), (own_bit p2 16), (own_bit p2 32)] _ r _ _ ba ta XJ98 eJ98 NLR hl6 hr inv6
                          refine go_ifc_eq XJ97 hx (db hby d0_316) (fun c316 => ?_) (fun c316 => ?_)
                          · exact J98 TJ97 _ _ XJ97 eJ97 (by rw [own_b0' c316]; rfl) (by rw [own_b0' c316]; rfl)
                          · refine go_iload XJ97 hx (dc hby d0_319) (v := f5) rfl ?_
                            refine go_iconst XJ97 hx (1) (dc hby d0_321) rfl ?_
                            refine go_iadd XJ97 hx (dc hby d0_322) ?_
                            refine go_istore XJ97 hx #[.val (.int p1), .val (.int p2), .val (.int p3), .val (.int (6 : Int32)), .val (.ref ba), .val (.int r), .val (.ref ta), .val (.double (Jvm.FP.ddiv (own_go 0 0 0 [(own_bit p2 1), (own_bit p2 2), (own_bit p2 4), (own_bit p2 8), (own_bit p2 16), (own_bit p2 32)]) (Jvm.FP.i2d r))), .second, .val (.int (f5 + (1 : Int32))), .val (.int m5), .unset, .unset, .unset, .unset, .unset, .unset] (dc hby d0_323) rfl ?_
                            refine go_iload XJ97 hx (dc hby d0_325) (v := m5) rfl ?_
                            refine go_iload XJ97 hx (dc hby d0_327) (v := (f5 + (1 : Int32))) rfl ?_
                            refine go_bipush XJ97 hx (10) (dc hby d0_329) rfl ?_
                            refine go_imul XJ97 hx (dc hby d0_331) ?_
                            refine go_iadd XJ97 hx (dc hby d0_332) ?_
                            refine go_istore XJ97 hx #[.val (.int p1), .val (.int p2), .val (.int p3), .val (.int (6 : Int32)), .val (.ref ba), .val (.int r), .val (.ref ta), .val (.double (Jvm.FP.ddiv (own_go 0 0 0 [(own_bit p2 1), (own_bit p2 2), (own_bit p2 4), (own_bit p2 8), (own_bit p2 16), (own_bit p2 32)]) (Jvm.FP.i2d r))), .second, .val (.int (f5 + (1 : Int32))), .val (.int (m5 + ((f5 + (1 : Int32)) * (10 : Int32)))), .unset, .unset, .unset, .unset, .unset, .unset] (dc hby d0_333) rfl ?_
                            exact J98 TJ97 _ _ XJ97 eJ97 (by rw [own_b1' c316]; rfl) (by rw [own_b1' c316]; rfl)
                        refine go_ifc_eq XJ96 hx (db hby d0_288) (fun c288 => ?_) (fun c288 => ?_)
                        · exact J97 TJ96 _ _ XJ96 eJ96 (by rw [own_b0' c288]; rfl) (by rw [own_b0' c288]; rfl)
                        · refine go_iload XJ96 hx (dc hby d0_291) (v := f4) rfl ?_
                          refine go_iconst XJ96 hx (1) (dc hby d0_293) rfl ?_
                          refine go_iadd XJ96 hx (dc hby d0_294) ?_
                          refine go_istore XJ96 hx #[.val (.int p1), .val (.int p2), .val (.int p3), .val (.int (6 : Int32)), .val (.ref ba), .val (.int r), .val (.ref ta), .val (.double (Jvm.FP.ddiv (own_go 0 0 0 [(own_bit p2 1), (own_bit p2 2), (own_bit p2 4), (own_bit p2 8), (own_bit p2 16), (own_bit p2 32)]) (Jvm.FP.i2d r))), .second, .val (.int (f4 + (1 : Int32))), .val (.int m4), .unset, .unset, .unset, .unset, .unset, .unset] (dc hby d0_295) rfl ?_
                          refine go_iload XJ96 hx (dc hby d0_297) (v := m4) rfl ?_
                          refine go_iload XJ96 hx (dc hby d0_299) (v := (f4 + (1 : Int32))) rfl ?_
                          refine go_bipush XJ96 hx (12) (dc hby d0_301) rfl ?_
                          refine go_imul XJ96 hx (dc hby d0_303) ?_
                          refine go_iadd XJ96 hx (dc hby d0_304) ?_
                          refine go_istore XJ96 hx #[.val (.int p1), .val (.int p2), .val (.int p3), .val (.int (6 : Int32)), .val (.ref ba), .val (.int r), .val (.ref ta), .val (.double (Jvm.FP.ddiv (own_go 0 0 0 [(own_bit p2 1), (own_bit p2 2), (own_bit p2 4), (own_bit p2 8), (own_bit p2 16), (own_bit p2 32)]) (Jvm.FP.i2d r))), .second, .val (.int (f4 + (1 : Int32))), .val (.int (m4 + ((f4 + (1 : Int32)) * (12 : Int32)))), .unset, .unset, .unset, .unset, .unset, .unset] (dc hby d0_305) rfl ?_
                          exact J97 TJ96 _ _ XJ96 eJ96 (by rw [own_b1' c288]; rfl) (by rw [own_b1' c288]; rfl)
                      refine go_ifc_eq XJ95 hx (db hby d0_260) (fun c260 => ?_) (fun c260 => ?_)
                      · exact J96 TJ95 _ _ XJ95 eJ95 (by rw [own_b0' c260]; rfl) (by rw [own_b0' c260]; rfl)
                      · refine go_iload XJ95 hx (dc hby d0_263) (v := f3) rfl ?_
                        refine go_iconst XJ95 hx (1) (dc hby d0_265) rfl ?_
                        refine go_iadd XJ95 hx (dc hby d0_266) ?_
                        refine go_istore XJ95 hx #[.val (.int p1), .val (.int p2), .val (.int p3), .val (.int (6 : Int32)), .val (.ref ba), .val (.int r), .val (.ref ta), .val (.double (Jvm.FP.ddiv (own_go 0 0 0 [(own_bit p2 1), (own_bit p2 2), (own_bit p2 4), (own_bit p2 8), (own_bit p2 16), (own_bit p2 32)]) (Jvm.FP.i2d r))), .second, .val (.int (f3 + (1 : Int32))), .val (.int m3), .unset, .unset, .unset, .unset, .unset, .unset] (dc hby d0_267) rfl ?_
                        refine go_iload XJ95 hx (dc hby d0_269) (v := m3) rfl ?_
                        refine go_iload XJ95 hx (dc hby d0_271) (v := (f3 + (1 : Int32))) rfl ?_
                        refine go_bipush XJ95 hx (15) (dc hby d0_273) rfl ?_
                        refine go_imul XJ95 hx (dc hby d0_275) ?_
                        refine go_iadd XJ95 hx (dc hby d0_276) ?_
                        refine go_istore XJ95 hx #[.val (.int p1), .val (.int p2), .val (.int p3), .val (.int (6 : Int32)), .val (.ref ba), .val (.int r), .val (.ref ta), .val (.double (Jvm.FP.ddiv (own_go 0 0 0 [(own_bit p2 1), (own_bit p2 2), (own_bit p2 4), (own_bit p2 8), (own_bit p2 16), (own_bit p2 32)]) (Jvm.FP.i2d r))), .second, .val (.int (f3 + (1 : Int32))), .val (.int (m3 + ((f3 + (1 : Int32)) * (15 : Int32)))), .unset, .unset, .unset, .unset, .unset, .unset] (dc hby d0_277) rfl ?_
                        exact J96 TJ95 _ _ XJ95 eJ95 (by rw [own_b1' c260]; rfl) (by rw [own_b1' c260]; rfl)
                    refine go_ifc_eq XJ94 hx (db hby d0_232) (fun c232 => ?_) (fun c232 => ?_)
                    · exact J95 TJ94 _ _ XJ94 eJ94 (by rw [own_b0' c232]; rfl) (by rw [own_b0' c232]; rfl)
                    · refine go_iload XJ94 hx (dc hby d0_235) (v := f2) rfl ?_
                      refine go_iconst XJ94 hx (1) (dc hby d0_237) rfl ?_
                      refine go_iadd XJ94 hx (dc hby d0_238) ?_
                      refine go_istore XJ94 hx #[.val (.int p1), .val (.int p2), .val (.int p3), .val (.int (6 : Int32)), .val (.ref ba), .val (.int r), .val (.ref ta), .val (.double (Jvm.FP.ddiv (own_go 0 0 0 [(own_bit p2 1), (own_bit p2 2), (own_bit p2 4), (own_bit p2 8), (own_bit p2 16), (own_bit p2 32)]) (Jvm.FP.i2d r))), .second, .val (.int (f2 + (1 : Int32))), .val (.int m2), .unset, .unset, .unset, .unset, .unset, .unset] (dc hby d0_239) rfl ?_
                      refine go_iload XJ94 hx (dc hby d0_241) (v := m2) rfl ?_
                      refine go_iload XJ94 hx (dc hby d0_243) (v := (f2 + (1 : Int32))) rfl ?_
                      refine go_bipush XJ94 hx (20) (dc hby d0_245) rfl ?_
                      refine go_imul XJ94 hx (dc hby d0_247) ?_
                      refine go_iadd XJ94 hx (dc hby d0_248) ?_
                      refine go_istore XJ94 hx #[.val (.int p1), .val (.int p2), .val (.int p3), .val (.int (6 : Int32)), .val (.ref ba), .val (.int r), .val (.ref ta), .val (.double (Jvm.FP.ddiv (own_go 0 0 0 [(own_bit p2 1), (own_bit p2 2), (own_bit p2 4), (own_bit p2 8), (own_bit p2 16), (own_bit p2 32)]) (Jvm.FP.i2d r))), .second, .val (.int (f2 + (1 : Int32))), .val (.int (m2 + ((f2 + (1 : Int32)) * (20 : Int32)))), .unset, .unset, .unset, .unset, .unset, .unset] (dc hby d0_249) rfl ?_
                      exact J95 TJ94 _ _ XJ94 eJ94 (by rw [own_b1' c232]; rfl) (by rw [own_b1' c232]; rfl)
                  refine go_ifc_eq XJ93 hx (db hby d0_205) (fun c205 => ?_) (fun c205 => ?_)
                  · exact J94 TJ93 _ _ XJ93 eJ93 (by rw [own_b0' c205]; rfl) (by rw [own_b0' c205]; rfl)
                  · refine go_iload XJ93 hx (dc hby d0_208) (v := f1) rfl ?_
                    refine go_iconst XJ93 hx (1) (dc hby d0_210) rfl ?_
                    refine go_iadd XJ93 hx (dc hby d0_211) ?_
                    refine go_istore XJ93 hx #[.val (.int p1), .val (.int p2), .val (.int p3), .val (.int (6 : Int32)), .val (.ref ba), .val (.int r), .val (.ref ta), .val (.double (Jvm.FP.ddiv (own_go 0 0 0 [(own_bit p2 1), (own_bit p2 2), (own_bit p2 4), (own_bit p2 8), (own_bit p2 16), (own_bit p2 32)]) (Jvm.FP.i2d r))), .second, .val (.int (f1 + (1 : Int32))), .val (.int m1), .unset, .unset, .unset, .unset, .unset, .unset] (dc hby d0_212) rfl ?_
                    refine go_iload XJ93 hx (dc hby d0_214) (v := m1) rfl ?_
                    refine go_iload XJ93 hx (dc hby d0_216) (v := (f1 + (1 : Int32))) rfl ?_
                    refine go_bipush XJ93 hx (30) (dc hby d0_218) rfl ?_
                    refine go_imul XJ93 hx (dc hby d0_220) ?_
                    refine go_iadd XJ93 hx (dc hby d0_221) ?_
                    refine go_istore XJ93 hx #[.val (.int p1), .val (.int p2), .val (.int p3), .val (.int (6 : Int32)), .val (.ref ba), .val (.int r), .val (.ref ta), .val (.double (Jvm.FP.ddiv (own_go 0 0 0 [(own_bit p2 1), (own_bit p2 2), (own_bit p2 4), (own_bit p2 8), (own_bit p2 16), (own_bit p2 32)]) (Jvm.FP.i2d r))), .second, .val (.int (f1 + (1 : Int32))), .val (.int (m1 + ((f1 + (1 : Int32)) * (30 : Int32)))), .unset, .unset, .unset, .unset, .unset, .unset] (dc hby d0_222) rfl ?_
                    exact J94 TJ93 _ _ XJ93 eJ93 (by rw [own_b1' c205]; rfl) (by rw [own_b1' c205]; rfl)
                refine go_ifc_eq XR hx (db hby d0_178) (fun c178 => ?_) (fun c178 => ?_)
                · exact J93 T92 _ _ XR e92 (by rw [own_b0' c178]; rfl) (by rw [own_b0' c178]; rfl)
                · refine go_iload XR hx (dc hby d0_181) (v := (0 : Int32)) rfl ?_
                  refine go_iconst XR hx (1) (dc hby d0_183) rfl ?_
                  refine go_iadd XR hx (dc hby d0_184) ?_
                  refine go_istore XR hx #[.val (.int p1), .val (.int p2), .val (.int p3), .val (.int (6 : Int32)), .val (.ref ba), .val (.int r), .val (.ref ta), .val (.double (Jvm.FP.ddiv (own_go 0 0 0 [(own_bit p2 1), (own_bit p2 2), (own_bit p2 4), (own_bit p2 8), (own_bit p2 16), (own_bit p2 32)]) (Jvm.FP.i2d r))), .second, .val (.int ((0 : Int32) + (1 : Int32))), .val (.int (0 : Int32)), .unset, .unset, .unset, .unset, .unset, .unset] (dc hby d0_185) rfl ?_
                  refine go_iload XR hx (dc hby d0_187) (v := (0 : Int32)) rfl ?_
                  refine go_iload XR hx (dc hby d0_189) (v := ((0 : Int32) + (1 : Int32))) rfl ?_
                  refine go_bipush XR hx (60) (dc hby d0_191) rfl ?_
                  refine go_imul XR hx (dc hby d0_193) ?_
                  refine go_iadd XR hx (dc hby d0_194) ?_
                  refine go_istore XR hx #[.val (.int p1), .val (.int p2), .val (.int p3), .val (.int (6 : Int32)), .val (.ref ba), .val (.int r), .val (.ref ta), .val (.double (Jvm.FP.ddiv (own_go 0 0 0 [(own_bit p2 1), (own_bit p2 2), (own_bit p2 4), (own_bit p2 8), (own_bit p2 16), (own_bit p2 32)]) (Jvm.FP.i2d r))), .second, .val (.int ((0 : Int32) + (1 : Int32))), .val (.int ((0 : Int32) + (((0 : Int32) + (1 : Int32)) * (60 : Int32)))), .unset, .unset, .unset, .unset, .unset, .unset] (dc hby d0_195) rfl ?_
                  exact J93 T92 _ _ XR e92 (by rw [own_b1' c178]; rfl) (by rw [own_b1' c178]; rfl)
              refine go_ifc_eq XL5 hx (db hby d0_126) (fun c126 => ?_) (fun c126 => ?_)
              · refine go_iconst XL5 hx (0) (dc hby d0_133) rfl ?_
                exact J87 T86 _ XL5 e86 ((own_z0 c126).symm)
              · refine go_iconst XL5 hx (1) (dc hby d0_129) rfl ?_
                refine go_goto XL5 hx (db hby d0_130) ?_
                exact J87 T86 _ XL5 e86 ((own_z1 c126).symm)
            refine go_ifc_eq XL4 hx (db hby d0_105) (fun c105 => ?_) (fun c105 => ?_)
            · refine go_iconst XL4 hx (0) (dc hby d0_112) rfl ?_
              exact J85 T84 _ XL4 e84 ((own_z0 c105).symm)
            · refine go_iconst XL4 hx (1) (dc hby d0_108) rfl ?_
              refine go_goto XL4 hx (db hby d0_109) ?_
              exact J85 T84 _ XL4 e84 ((own_z1 c105).symm)
          refine go_ifc_eq XL3 hx (db hby d0_84) (fun c84 => ?_) (fun c84 => ?_)
          · refine go_iconst XL3 hx (0) (dc hby d0_91) rfl ?_
            exact J83 T82 _ XL3 e82 ((own_z0 c84).symm)
          · refine go_iconst XL3 hx (1) (dc hby d0_87) rfl ?_
            refine go_goto XL3 hx (db hby d0_88) ?_
            exact J83 T82 _ XL3 e82 ((own_z1 c84).symm)
        refine go_ifc_eq XL2 hx (db hby d0_63) (fun c63 => ?_) (fun c63 => ?_)
        · refine go_iconst XL2 hx (0) (dc hby d0_70) rfl ?_
          exact J81 T80 _ XL2 e80 ((own_z0 c63).symm)
        · refine go_iconst XL2 hx (1) (dc hby d0_66) rfl ?_
          refine go_goto XL2 hx (db hby d0_67) ?_
          exact J81 T80 _ XL2 e80 ((own_z1 c63).symm)
      refine go_ifc_eq XL1 hx (db hby d0_43) (fun c43 => ?_) (fun c43 => ?_)
      · refine go_iconst XL1 hx (0) (dc hby d0_50) rfl ?_
        exact J79 T78 _ XL1 e78 ((own_z0 c43).symm)
      · refine go_iconst XL1 hx (1) (dc hby d0_46) rfl ?_
        refine go_goto XL1 hx (db hby d0_47) ?_
        exact J79 T78 _ XL1 e78 ((own_z1 c43).symm)
    refine go_ifc_eq X76 hx (db hby d0_23) (fun c23 => ?_) (fun c23 => ?_)
    · refine go_iconst X76 hx (0) (dc hby d0_30) rfl ?_
      exact J77 T76 _ X76 e76 ((own_z0 c23).symm)
    · refine go_iconst X76 hx (1) (dc hby d0_26) rfl ?_
      refine go_goto X76 hx (db hby d0_27) ?_
      exact J77 T76 _ X76 e76 ((own_z1 c23).symm)
theorem pd0 : parseMethodDescriptor "(III)Z" = some ⟨[.int, .int, .int], some .boolean⟩ := by decide +kernel
set_option maxRecDepth 65536 in
set_option maxHeartbeats 40000000 in
theorem comes_1 {Post : Tables → Env → Array Value → State → Outcome → State → Prop} (hpost : ∀ tb e args s v u, (limb_1_1.after args s (.returned v) u = true ∧ limb_1_2.after args s (.returned v) u = true ∧ True) → FrameEnd s (.returned v) u (Jvm.fieldLocs frame_1_writes args s ++ Jvm.arrayLocs frame_1_arrays args s ++ Jvm.staticLocs frame_1_statics s) 16 128 → Post tb e args s (.returned v) u) :
    ArmFor flags0 classFile x code maxLocals ret World_1 tables_1 room_1 Calls_1 rest_1 Pre_1 Post := by
  intro l hfl _ _ p e ha hc hk s m args below hf hA hF happ hP
  obtain ⟨hcalls, hrest, hpre⟩ := hP
  obtain ⟨-, -, -, hnamed, -, -, -, hat⟩ := (Spec.applies_iff hf).mp happ
  obtain ⟨hg, hn⟩ := and_e (Cond.before_iff.mp (show (Jvm.Cond.and given_1 narrow_1).before args s = true from hpre))
  obtain ⟨g1, g2⟩ := and_e hg
  obtain ⟨w0, w1, w2, rfl⟩ : ∃ w0 w1 w2 : Value, args = #[w0, w1, w2] := by
    have hs : args.size = 3 := by simpa [Cond.value, given_1] using g1
    obtain ⟨L⟩ := args
    match L, hs with
    | [w0, w1, w2], _ => exact ⟨w0, w1, w2, rfl⟩
  have hw := fun d (hd : d ∈ tables_1) => atoms_spec (ws := Jvm.Cond.code x code maxLocals ret :: tables_1) hat d (List.mem_cons_of_mem _ hd)
  have hfit : Fit s := fun {y c} hc i hi => by
    obtain ⟨ha, rfl⟩ := Array.getElem?_eq_some_iff.mp hc
    have q := List.all_eq_true.mp ((Array.all_eq_true_iff_forall_mem.mp hF) _ (Array.getElem_mem ha)) i (List.mem_range.mpr hi)
    simpa [Array.getElem?_eq_getElem hi] using q
  obtain ⟨u0, r0⟩ := and_e g2
  obtain ⟨i0, j0⟩ := is_v u0
  obtain rfl : w0 = (.int i0) := Option.some.inj j0
  obtain ⟨u1, r1⟩ := and_e r0
  obtain ⟨i1, j1⟩ := is_v u1
  obtain rfl : w1 = (.int i1) := Option.some.inj j1
  obtain ⟨i2, j2⟩ := is_v r1
  obtain rfl : w2 = (.int i2) := Option.some.inj j2
  obtain ⟨n, o, h1, h2, h3, _, L, rfl, ⟨rfl, N⟩, hq⟩ := rm0 l s _ hw tables_1 i0 i1 i2  s.heap  p e ha hc hk s m _ below hf ((Spec.applies_iff_loose hf).mp happ).1 ⟨rfl, State.Warmed39.refl s, rfl⟩ trivial
  refine ⟨n, _, h1, h2, h3, hpost _ _ _ _ _ _ ⟨Cond.after_iff.mpr rfl, Cond.after_iff.mpr (eq_i res_at (Term.int_eval (1)) rfl), trivial⟩ ⟨hq.1, hq.2.1, (hq.2.2.sift fun y hy => Or.inr (N y hy)).mono (by decide) (by decide)⟩⟩
theorem main_1_1 : Claimed_1_1 := comes_1 fun _ _ _ _ _ _ h hF => ⟨h.1, hF⟩
theorem main_1_2 : Claimed_1_2 := comes_1 fun _ _ _ _ _ _ h hF => ⟨h.2.1, hF⟩
end Jvm.Pilot.@@N@@
namespace Jvm.Pilot.@@N@@
open Jvm Jvm.ClassFile Sem Op Lib Jvm.Free Jvm.Stand Jvm.Pilot.@@N@@.Jvm.D
/-! MADE BY PROGRAM (witnessworld.py) out of the Statement's table words and the real class files: 12 classes; the members and pool entries that the words name. The judged class is class 1, her method 1. -/
namespace start1
open Jvm.ClassFile
def u (s : String) : CpInfo := .utf8 (stringToUtf16 s)
/-- a pool by its gaps: so many unusable entries, then the entry; so many at the end -/
def gap : Nat → List CpInfo → List CpInfo
  | 0, r => r
  | n + 1, r => .unusable :: gap n r
def poolList (es : List (Nat × CpInfo)) (last : Nat) : List CpInfo := es.foldr (fun e r => gap e.1 (e.2 :: r)) (gap last [])
def pool (es : List (Nat × CpInfo)) (last : Nat) : Array CpInfo := ⟨poolList es last⟩
def fileOf (pool : Array CpInfo) (this : Nat) (attrs : Array Attribute := #[]) (ms : Array MethodInfo := #[]) (fl : Nat := 33) (sup : Nat := 0) (ifs : Array Nat := #[]) (fds : Array FieldInfo := #[]) : ClassFile where
  minorVersion := 0
  majorVersion := 65
  constantPool := pool
  accessFlags := fl
  thisClass := this
  superClass := sup
  interfaces := ifs
  fields := fds
  methods := ms
  attributes := attrs
def plain (name : String) (sup : Option ClassId) : Class where
  name := name
  kind := .ordinary
  loader := none
  accessFlags := 33
  super := sup
  interfaces := #[]
  cf := none
  fields := #[]
  methods := #[]
  instanceTypes := #[]
  staticTypes := #[]
  resolved := #[]
  callSites := []
  init := .initialized
  statics := none
  mirror := none

def pool0 : Array CpInfo := pool [(5, u "<init>"), (0, u "()V"), (1, .class_ 10), (1, u "java/lang/Object"), (85, u "clone"), (0, u "()Ljava/lang/Object;")] 26

def k0c0 : Code := { maxStack := 0, maxLocals := 1, code := object_method_1_code, exceptionTable := #[], attributes := #[] }
def k0m0 : Method := { name := "<init>", desc := "()V", sig := { parameters := [], returnType := none }, accessFlags := 1, code := some k0c0 }
def k0m1 : Method := { name := "clone", desc := "()Ljava/lang/Object;", sig := { parameters := [], returnType := some (.object "java/lang/Object") }, accessFlags := 260, code := none }
/-- java/lang/Object -/
def k0 : Class := { plain "java/lang/Object" none with
  accessFlags := 33
  interfaces := #[]
  cf := some (fileOf pool0 8 #[] #[{ accessFlags := 1, nameIndex := 5, descriptorIndex := 6, attributes := #[] }, { accessFlags := 260, nameIndex := 96, descriptorIndex := 97, attributes := #[] }] 33 0 #[] #[])
  fields := #[]
  methods := #[k0m0, k0m1]
  instanceTypes := #[]
  staticTypes := #[]
  resolved := Array.replicate 124 none
  statics := none }

def pool1 : Array CpInfo := pool [(2, .class_ 4), (1, u "java/lang/Object"), (0, u "<init>"), (0, u "()V"), (0, .integer 2147483647), (0, .methodref 9 10), (0, .class_ 11), (0, .nameAndType 12 13), (0, u "java/lang/Math"), (0, u "max"), (0, u "(II)I"), (0, .class_ 15), (0, u "com/example/levance/levance/evaluation/RankedTopic"), (0, .methodref 14 17), (0, .nameAndType 5 18), (0, u "([ZI)V"), (0, .methodref 14 20), (0, .nameAndType 21 22), (0, u "averagePrecision"), (0, u "()D"), (0, .double 4633641066610819072), (1, .double 4742290407621132288), (1, .class_ 28), (0, u "com/example/levance/levance/evaluation/RankedTopicAveragePrecisionPinLaw"), (2, u "law"), (0, u "(III)Z")] 5

def k1m0 : Method := { name := "<init>", desc := "()V", sig := { parameters := [], returnType := none }, accessFlags := 1, code := none }
def k1c1 : Code := { maxStack := 6, maxLocals := 17, code := code, exceptionTable := #[], attributes := #[] }
def k1m1 : Method := { name := "law", desc := "(III)Z", sig := { parameters := [.int, .int, .int], returnType := some .boolean }, accessFlags := 9, code := some k1c1 }
/-- com/example/levance/levance/evaluation/RankedTopicAveragePrecisionPinLaw -/
def k1 : Class := { plain "com/example/levance/levance/evaluation/RankedTopicAveragePrecisionPinLaw" (some 0) with
  accessFlags := 49
  interfaces := #[]
  cf := some (fileOf pool1 27 #[] #[{ accessFlags := 1, nameIndex := 5, descriptorIndex := 6, attributes := #[] }, { accessFlags := 9, nameIndex := 31, descriptorIndex := 32, attributes := #[] }] 49 2 #[] #[])
  fields := #[]
  methods := #[k1m0, k1m1]
  instanceTypes := #[]
  staticTypes := #[]
  resolved := Array.replicate 38 none
  statics := none }

def pool2 : Array CpInfo := pool [(1, .class_ 2), (0, u "java/lang/Math"), (1, .class_ 6), (1, u "java/lang/Object"), (0, u "<init>"), (0, u "()V"), (89, .class_ 100), (1, u "java/lang/Math$RandomNumberGeneratorHolder"), (71, u "negativeZeroFloatBits"), (0, u "J"), (2, u "negativeZeroDoubleBits"), (21, u "max"), (46, u "$assertionsDisabled"), (0, u "Z"), (88, u "(II)I"), (2, u "twoToTheDoubleScaleDown"), (0, u "D"), (4, u "twoToTheDoubleScaleUp"), (9, u "E"), (3, u "PI"), (2, u "TAU"), (2, u "DEGREES_TO_RADIANS"), (0, u "RADIANS_TO_DEGREES")] 94

def k2m0 : Method := { name := "<init>", desc := "()V", sig := { parameters := [], returnType := none }, accessFlags := 2, code := none }
def k2c1 : Code := { maxStack := 2, maxLocals := 2, code := jdk_29_method_65_code, exceptionTable := #[], attributes := #[] }
def k2m1 : Method := { name := "max", desc := "(II)I", sig := { parameters := [.int, .int], returnType := some .int }, accessFlags := 9, code := some k2c1 }
/-- java/lang/Math -/
def k2 : Class := { plain "java/lang/Math" (some 0) with
  accessFlags := 49
  interfaces := #[]
  cf := some (fileOf pool2 1 #[.nestMembers #[98]] #[{ accessFlags := 2, nameIndex := 7, descriptorIndex := 8, attributes := #[] }, { accessFlags := 9, nameIndex := 198, descriptorIndex := 335, attributes := #[] }] 49 4 #[] #[{ accessFlags := 25, nameIndex := 354, descriptorIndex := 339, attributes := #[] }, { accessFlags := 25, nameIndex := 358, descriptorIndex := 339, attributes := #[] }, { accessFlags := 25, nameIndex := 361, descriptorIndex := 339, attributes := #[] }, { accessFlags := 26, nameIndex := 364, descriptorIndex := 339, attributes := #[] }, { accessFlags := 26, nameIndex := 365, descriptorIndex := 339, attributes := #[] }, { accessFlags := 26, nameIndex := 172, descriptorIndex := 173, attributes := #[] }, { accessFlags := 26, nameIndex := 176, descriptorIndex := 173, attributes := #[] }, { accessFlags := 8, nameIndex := 344, descriptorIndex := 339, attributes := #[] }, { accessFlags := 8, nameIndex := 338, descriptorIndex := 339, attributes := #[] }, { accessFlags := 4120, nameIndex := 245, descriptorIndex := 246, attributes := #[] }])
  fields := #[{ name := "E", type := .double, accessFlags := 25, slot := 0, constantValue := 0 }, { name := "PI", type := .double, accessFlags := 25, slot := 1, constantValue := 0 }, { name := "TAU", type := .double, accessFlags := 25, slot := 2, constantValue := 0 }, { name := "DEGREES_TO_RADIANS", type := .double, accessFlags := 26, slot := 3, constantValue := 0 }, { name := "RADIANS_TO_DEGREES", type := .double, accessFlags := 26, slot := 4, constantValue := 0 }, { name := "negativeZeroFloatBits", type := .long, accessFlags := 26, slot := 5, constantValue := 0 }, { name := "negativeZeroDoubleBits", type := .long, accessFlags := 26, slot := 6, constantValue := 0 }, { name := "twoToTheDoubleScaleUp", type := .double, accessFlags := 8, slot := 7, constantValue := 0 }, { name := "twoToTheDoubleScaleDown", type := .double, accessFlags := 8, slot := 8, constantValue := 0 }, { name := "$assertionsDisabled", type := .boolean, accessFlags := 4120, slot := 9, constantValue := 0 }]
  methods := #[k2m0, k2m1]
  instanceTypes := #[]
  staticTypes := #[.double, .double, .double, .double, .double, .long, .long, .double, .double, .boolean]
  resolved := Array.replicate 460 none
  statics := none }

def pool3 : Array CpInfo := pool [(1, .methodref 2 3), (0, .class_ 4), (0, .nameAndType 5 6), (0, u "java/lang/Object"), (0, u "<init>"), (0, u "()V"), (7, .methodref 15 16), (0, .class_ 17), (0, .nameAndType 18 19), (0, u "[Z"), (0, u "clone"), (0, u "()Ljava/lang/Object;"), (0, .fieldref 21 22), (0, .class_ 23), (0, .nameAndType 24 17), (0, u "com/example/levance/levance/evaluation/RankedTopic"), (0, u "relevantAt"), (0, .fieldref 21 26), (0, .nameAndType 27 28), (0, u "relevant"), (0, u "I"), (14, u "([ZI)V"), (6, u "averagePrecision"), (0, u "()D")] 4

def k3c0 : Code := { maxStack := 3, maxLocals := 3, code := prog_4_method_1_code, exceptionTable := #[], attributes := #[] }
def k3m0 : Method := { name := "<init>", desc := "([ZI)V", sig := { parameters := [(.array .boolean), .int], returnType := none }, accessFlags := 0, code := some k3c0 }
def k3c1 : Code := { maxStack := 6, maxLocals := 5, code := prog_4_method_5_code, exceptionTable := #[], attributes := #[] }
def k3m1 : Method := { name := "averagePrecision", desc := "()D", sig := { parameters := [], returnType := some .double }, accessFlags := 0, code := some k3c1 }
/-- com/example/levance/levance/evaluation/RankedTopic -/
def k3 : Class := { plain "com/example/levance/levance/evaluation/RankedTopic" (some 0) with
  accessFlags := 48
  interfaces := #[]
  cf := some (fileOf pool3 21 #[] #[{ accessFlags := 0, nameIndex := 5, descriptorIndex := 43, attributes := #[] }, { accessFlags := 0, nameIndex := 50, descriptorIndex := 51, attributes := #[] }] 48 2 #[] #[{ accessFlags := 18, nameIndex := 24, descriptorIndex := 17, attributes := #[] }, { accessFlags := 18, nameIndex := 27, descriptorIndex := 28, attributes := #[] }])
  fields := #[{ name := "relevantAt", type := (.array .boolean), accessFlags := 18, slot := 0, constantValue := 0 }, { name := "relevant", type := .int, accessFlags := 18, slot := 1, constantValue := 0 }]
  methods := #[k3m0, k3m1]
  instanceTypes := #[(.array .boolean), .int]
  staticTypes := #[]
  resolved := Array.replicate 56 none
  statics := none }

def pool4 : Array CpInfo := pool [(1, .class_ 2), (0, u "java/lang/Cloneable"), (0, .class_ 4), (0, u "java/lang/Object")] 2

/-- java/lang/Cloneable -/
def k4 : Class := { plain "java/lang/Cloneable" (some 0) with
  accessFlags := 1537
  interfaces := #[]
  cf := some (fileOf pool4 1 #[] #[] 1537 3 #[] #[])
  fields := #[]
  methods := #[]
  instanceTypes := #[]
  staticTypes := #[]
  resolved := Array.replicate 7 none
  statics := none }

def pool5 : Array CpInfo := pool [(1, u "java/io/Serializable"), (0, .class_ 1), (0, u "java/lang/Object"), (0, .class_ 3)] 3

/-- java/io/Serializable -/
def k5 : Class := { plain "java/io/Serializable" (some 0) with
  accessFlags := 1537
  interfaces := #[]
  cf := some (fileOf pool5 2 #[] #[] 1537 4 #[] #[])
  fields := #[]
  methods := #[]
  instanceTypes := #[]
  staticTypes := #[]
  resolved := Array.replicate 8 none
  statics := none }

/-- the primitive boolean -/
def k6 : Class := { plain "boolean" none with kind := .primitive 'Z', accessFlags := 0x411 }
/-- [Z -/
def k7 : Class := { plain "[Z" (some 0) with kind := .array 6 .boolean, interfaces := #[4, 5], accessFlags := 1041 }

/-- the primitive byte -/
def k8 : Class := { plain "byte" none with kind := .primitive 'B', accessFlags := 0x411 }
/-- [B -/
def k9 : Class := { plain "[B" (some 0) with kind := .array 8 .byte, interfaces := #[4, 5], accessFlags := 1041 }

/-- the primitive int -/
def k10 : Class := { plain "int" none with kind := .primitive 'I', accessFlags := 0x411 }
/-- [I -/
def k11 : Class := { plain "[I" (some 0) with kind := .array 10 .int, interfaces := #[4, 5], accessFlags := 1041 }

def heap : Heap := #[]
def classes : Array Class := #[k0, k1, k2, k3, k4, k5, k6, k7, k8, k9, k10, k11]
def interned : List (Array UInt16 × Addr) := []
def slotsUsed : Nat := 0
def theMethod : MethodId := ⟨1, 1⟩
def args0 : Array Value := #[.int 3, .int 5, .int 77]
def aboutOver (below : List Frame) : State where
  vm := { classes := classes, interned := interned.toArray }
  heap := heap
  slotsUsed := slotsUsed
  threads := #[{ frames := .invoking theMethod args0 :: below }]
def below0 : List Frame := [.native { method := ⟨0, 0⟩, args := #[] }]
def about1 : State := aboutOver below0
def p0 : Program := .bare "" "" ""
def e0 : Env := launch0.env 0 0 0
theorem w_frames : about1.frames = Frame.invoking theMethod args0 :: below0 := rfl
set_option maxRecDepth 65536 in
theorem w_args : argsFit about1.vm theMethod args0 = true := by decide +kernel
set_option maxRecDepth 65536 in
theorem w_heap : heapFits about1 = true := by decide +kernel
set_option maxRecDepth 65536 in
theorem w_runnable : about1.curStatus? = some .runnable := by decide +kernel
set_option maxRecDepth 65536 in
theorem w_alone : about1.alone = true := by decide +kernel
set_option maxRecDepth 65536 in
theorem w_named : about1.methodNamed? x = some theMethod := by decide +kernel
set_option maxRecDepth 65536 in
theorem w_hears : about1.hears theMethod below0 = true := by decide +kernel
set_option maxRecDepth 65536 in
theorem w_ripe : about1.ripe theMethod args0 below0 = true := by decide +kernel
theorem w_running : about1.status = .running := rfl
set_option maxRecDepth 65536 in
theorem w_room : about1.hasRoom e0.platform room_1 = true :=
  launch0.hasRoom_least _ room_1 (by decide +kernel) (by decide +kernel) (by decide +kernel) (by decide +kernel) (by decide +kernel) (by decide +kernel)
theorem allAtoms_all (ts : List Jvm.Cond) (a : Array Jvm.Value) (st : Jvm.State) : (allAtoms ts).before a st = ts.all (fun c => c.before a st) := by
  induction ts with
  | nil => rfl
  | cons c t ih =>
    show (Jvm.Cond.and c (allAtoms t)).before a st = _
    rw [Jvm.Cond.before_and, ih, List.all_cons]
def words1 : List Jvm.Cond := Jvm.Cond.code x code maxLocals ret :: tables_1
/-- a 'code' word, met by the world's own term for the bytes: nothing is compared byte by byte -/
theorem code_word {y : MethodName} {bytes : ByteArray} {mx : Nat} {rt : Option FieldType} {a : Array Value} {s : State} {m : MethodId} {meth : Method} {c : Code} (h1 : s.methodNamed? y = some m) (h2 : s.vm.method? m = some meth) (h3 : meth.code = some c) (h4 : c.code = bytes)
    (h5 : (c.maxLocals == mx && c.exceptionTable.isEmpty && decide (c.maxStack ≤ mostOperands) && decide (meth.sig.returnType = rt) && !meth.locks && decide (parseMethodDescriptor y.desc = some meth.sig)) = true) : (Jvm.Cond.code y bytes mx rt).before a s = true := by
  simp only [Bool.and_eq_true, beq_iff_eq, Bool.not_eq_true', decide_eq_true_eq] at h5
  obtain ⟨⟨⟨⟨⟨g1, g2⟩, g3⟩, g4⟩, g5⟩, g6⟩ := h5
  simp [Cond.before, Cond.holds, Cond.value, h1, h2, h3, h4, g1, g2, g3, g4, g5, g6]
def isCode : Jvm.Cond → Bool
  | .code _ _ _ _ => true
  | _ => false
theorem all_split {L : List Jvm.Cond} {P : Jvm.Cond → Bool} (h1 : L.all (fun c => isCode c || P c) = true) (h2 : ∀ c ∈ L.filter isCode, P c = true) : L.all P = true := by
  refine List.all_eq_true.mpr fun c hc => ?_
  have h := List.all_eq_true.mp h1 c hc
  rcases Bool.eq_false_or_eq_true (isCode c) with hi | hi
  · exact h2 c (List.mem_filter.mpr ⟨hc, hi⟩)
  · simpa [hi] using h
set_option maxRecDepth 65536 in
theorem w_c0 : (Jvm.Cond.code x code maxLocals ret).before args0 about1 = true := code_word (m := ⟨1, 1⟩) (meth := k1m1) (c := k1c1) (by decide +kernel) rfl rfl rfl (by decide +kernel)
set_option maxRecDepth 65536 in
theorem w_c1 : (Jvm.Cond.code ({ cls := "java/lang/Math", name := "max", desc := "(II)I" } : Jvm.MethodName) jdk_29_method_65_code (2 : Nat) (Option.some Jvm.ClassFile.FieldType.int)).before args0 about1 = true := code_word (m := ⟨2, 1⟩) (meth := k2m1) (c := k2c1) (by decide +kernel) rfl rfl rfl (by decide +kernel)
set_option maxRecDepth 65536 in
theorem w_c2 : (Jvm.Cond.code ({ cls := "com/example/levance/levance/evaluation/RankedTopic", name := "<init>", desc := "([ZI)V" } : Jvm.MethodName) prog_4_method_1_code (3 : Nat) (Option.none : Option Jvm.ClassFile.FieldType)).before args0 about1 = true := code_word (m := ⟨3, 0⟩) (meth := k3m0) (c := k3c0) (by decide +kernel) rfl rfl rfl (by decide +kernel)
set_option maxRecDepth 65536 in
theorem w_c3 : (Jvm.Cond.code ({ cls := "java/lang/Object", name := "<init>", desc := "()V" } : Jvm.MethodName) object_method_1_code (1 : Nat) (Option.none : Option Jvm.ClassFile.FieldType)).before args0 about1 = true := code_word (m := ⟨0, 0⟩) (meth := k0m0) (c := k0c0) (by decide +kernel) rfl rfl rfl (by decide +kernel)
set_option maxRecDepth 65536 in
theorem w_c4 : (Jvm.Cond.code ({ cls := "com/example/levance/levance/evaluation/RankedTopic", name := "averagePrecision", desc := "()D" } : Jvm.MethodName) prog_4_method_5_code (5 : Nat) (Option.some Jvm.ClassFile.FieldType.double)).before args0 about1 = true := code_word (m := ⟨3, 1⟩) (meth := k3m1) (c := k3c1) (by decide +kernel) rfl rfl rfl (by decide +kernel)
def codes1 : List Jvm.Cond := [Jvm.Cond.code x code maxLocals ret, Jvm.Cond.code ({ cls := "java/lang/Math", name := "max", desc := "(II)I" } : Jvm.MethodName) jdk_29_method_65_code (2 : Nat) (Option.some Jvm.ClassFile.FieldType.int), Jvm.Cond.code ({ cls := "com/example/levance/levance/evaluation/RankedTopic", name := "<init>", desc := "([ZI)V" } : Jvm.MethodName) prog_4_method_1_code (3 : Nat) (Option.none : Option Jvm.ClassFile.FieldType), Jvm.Cond.code ({ cls := "java/lang/Object", name := "<init>", desc := "()V" } : Jvm.MethodName) object_method_1_code (1 : Nat) (Option.none : Option Jvm.ClassFile.FieldType), Jvm.Cond.code ({ cls := "com/example/levance/levance/evaluation/RankedTopic", name := "averagePrecision", desc := "()D" } : Jvm.MethodName) prog_4_method_5_code (5 : Nat) (Option.some Jvm.ClassFile.FieldType.double)]
set_option maxRecDepth 65536 in
theorem codes_eq : words1.filter isCode = codes1 := rfl
theorem w_codes : ∀ c ∈ words1.filter isCode, c.before args0 about1 = true := by
  rw [codes_eq]
  intro c hc
  simp only [codes1, List.mem_cons, List.not_mem_nil, or_false] at hc
  rcases hc with rfl | rfl | rfl | rfl | rfl
  · exact w_c0
  · exact w_c1
  · exact w_c2
  · exact w_c3
  · exact w_c4
set_option maxRecDepth 65536 in
theorem w_t1 : (words1.take 24).all (fun c => isCode c || c.before args0 about1) = true := by decide +kernel
set_option maxRecDepth 65536 in
theorem w_t2 : (words1.drop 24).all (fun c => isCode c || c.before args0 about1) = true := by decide +kernel
theorem w_tables : (allAtoms (Jvm.Cond.code x code maxLocals ret :: tables_1)).before args0 about1 = true := by
  rw [allAtoms_all]
  show words1.all (fun c => c.before args0 about1) = true
  refine all_split ?_ w_codes
  rw [← List.take_append_drop 24 words1, List.all_append, w_t1, w_t2]
  rfl
set_option maxRecDepth 65536 in
theorem w_case : (Jvm.Cond.and given_1 narrow_1).before args0 about1 = true := by decide +kernel
theorem w_applies : (headSpec (Jvm.Cond.code x code maxLocals ret :: tables_1) room_1).applies x e0.platform about1 = true :=
  (Spec.applies_iff w_frames).mpr ⟨w_running, w_runnable, w_alone, w_named, w_hears, w_ripe, w_room, w_tables⟩
theorem atStart : AtStart classFile x code maxLocals ret World_1 tables_1 room_1 Calls_1 rest_1 Pre_1 launch0 p0 e0 about1 theMethod args0 below0 :=
  ⟨lists_1, trivial, launch0.admits_env _ _ _, launch0.least_env, fairChoices_fair.cas, fairChoices_fair.clock, w_frames, w_args, w_heap, w_applies, trivial, trivial, w_case⟩
end start1
theorem witness_1 : WitnessClaimed_1 := ⟨start1.p0, start1.e0, start1.about1, start1.theMethod, start1.args0, start1.below0, start1.atStart⟩
end Jvm.Pilot.@@N@@
