import JvmDerived
import JvmDerived.Shelf42.JG7
import JvmDerived.Pilot.@@N@@Statement
import JvmDerived.Pilot.@@N@@Code
set_option linter.unusedVariables false
set_option linter.unusedSimpArgs false
namespace Jvm.Pilot.@@N@@
open Jvm Jvm.ClassFile Sem Op Lib Jvm.Free Jvm.Stand Jvm.LawKit Jvm.RoadKit Bundle Jvm.Pilot.@@N@@.Jvm.D
section OwnBase
variable {p : Program} {l : Launch} {e : Env} {R : Room} {s : State} {m : MethodId} {args : Array Value} {below : List Frame} {meth : Method} {c : Code} {T : State} {locs : List Loc} {cells slots : Nat} {Q : Outcome → State → Prop} {pc : Nat} {Ls : Array Slot} {st : List Value} {Z : State} {a0 : Array Value} {h : Heap}
/-- from S the body's invocation ends, and Q holds then -/
def own_G (p : Program) (e : Env) (below : List Frame) (Q : Outcome → State → Prop) (S : State) : Prop := ∃ t o, Steps p.tables e below S t ∧ t.status = .running ∧ Ended t below o ∧ Q o t
theorem own_st {S S' : State} (h : ∀ t, Steps p.tables e below S' t → Steps p.tables e below S t) (k : own_G p e below Q S') : own_G p e below Q S := by
  obtain ⟨t, o, h1, h2⟩ := k
  exact ⟨t, o, h t h1, h2⟩
theorem own_cast {g g' : JFrame} (q : g = g') (k : own_G p e below Q (T.setTop g')) : own_G p e below Q (T.setTop g) := q ▸ k
theorem own_iloadN (X : Stand p l e R s m args below meth c T locs cells slots) (hx : p.tables.exec = Jvm.exec) {k : Fin 4} {v : Int32} (hd : decode c.code pc = .ok (.iload_n k, 1)) (hl : Ls[k.val]? = some (.val (.int v))) (pc' : Nat) (hp : pc + 1 = pc') (r : own_G p e below Q (T.setTop (mkF m pc' Ls (.int v :: st)))) : own_G p e below Q (T.setTop (mkF m pc Ls (st))) := by
  subst hp
  exact own_st (fun t ht => XS.iloadN X.here hx rfl hd hl ht) r
theorem own_aloadN (X : Stand p l e R s m args below meth c T locs cells slots) (hx : p.tables.exec = Jvm.exec) {k : Fin 4} {v : Value} (hd : decode c.code pc = .ok (.aload_n k, 1)) (hl : Ls[k.val]? = some (.val v)) (hv : v.isRef = true) (pc' : Nat) (hp : pc + 1 = pc') (r : own_G p e below Q (T.setTop (mkF m pc' Ls (v :: st)))) : own_G p e below Q (T.setTop (mkF m pc Ls (st))) := by
  subst hp
  exact own_st (fun t ht => XS.aloadN X.here hx rfl hd hl hv ht) r
theorem own_istoreN (X : Stand p l e R s m args below meth c T locs cells slots) (hx : p.tables.exec = Jvm.exec) {k : Fin 4} {v : Int32} (Lt : Array Slot) (hd : decode c.code pc = .ok (.istore_n k, 1)) (hl : storeLocals Ls k.val (.int v) = some Lt) (pc' : Nat) (hp : pc + 1 = pc') (r : own_G p e below Q (T.setTop (mkF m pc' Lt (st)))) : own_G p e below Q (T.setTop (mkF m pc Ls (.int v :: st))) := by
  subst hp
  exact own_st (fun t ht => XS.istoreN X.here hx rfl hd rfl hl ht) r
theorem own_astoreN (X : Stand p l e R s m args below meth c T locs cells slots) (hx : p.tables.exec = Jvm.exec) {k : Fin 4} {v : Value} (Lt : Array Slot) (hd : decode c.code pc = .ok (.astore_n k, 1)) (hv : v.isRef = true) (hl : storeLocals Ls k.val v = some Lt) (pc' : Nat) (hp : pc + 1 = pc') (r : own_G p e below Q (T.setTop (mkF m pc' Lt (st)))) : own_G p e below Q (T.setTop (mkF m pc Ls (v :: st))) := by
  subst hp
  exact own_st (fun t ht => XS.astoreN X.here hx rfl hd rfl hv hl ht) r
theorem own_iload (X : Stand p l e R s m args below meth c T locs cells slots) (hx : p.tables.exec = Jvm.exec) {k : Nat} {v : Int32} (hd : decode c.code pc = .ok (.iload k, 2)) (hl : Ls[k]? = some (.val (.int v))) (pc' : Nat) (hp : pc + 2 = pc') (r : own_G p e below Q (T.setTop (mkF m pc' Ls (.int v :: st)))) : own_G p e below Q (T.setTop (mkF m pc Ls (st))) := by
  subst hp
  exact own_st (fun t ht => XS.iload X.here hx rfl hd hl ht) r
theorem own_aload (X : Stand p l e R s m args below meth c T locs cells slots) (hx : p.tables.exec = Jvm.exec) {k : Nat} {v : Value} (hd : decode c.code pc = .ok (.aload k, 2)) (hl : Ls[k]? = some (.val v)) (hv : v.isRef = true) (pc' : Nat) (hp : pc + 2 = pc') (r : own_G p e below Q (T.setTop (mkF m pc' Ls (v :: st)))) : own_G p e below Q (T.setTop (mkF m pc Ls (st))) := by
  subst hp
  exact own_st (fun t ht => XS.aload X.here hx rfl hd hl hv ht) r
theorem own_istore (X : Stand p l e R s m args below meth c T locs cells slots) (hx : p.tables.exec = Jvm.exec) {k : Nat} {v : Int32} (Lt : Array Slot) (hd : decode c.code pc = .ok (.istore k, 2)) (hl : storeLocals Ls k (.int v) = some Lt) (pc' : Nat) (hp : pc + 2 = pc') (r : own_G p e below Q (T.setTop (mkF m pc' Lt (st)))) : own_G p e below Q (T.setTop (mkF m pc Ls (.int v :: st))) := by
  subst hp
  exact own_st (fun t ht => XS.istore X.here hx rfl hd rfl hl ht) r
theorem own_astore (X : Stand p l e R s m args below meth c T locs cells slots) (hx : p.tables.exec = Jvm.exec) {k : Nat} {v : Value} (Lt : Array Slot) (hd : decode c.code pc = .ok (.astore k, 2)) (hv : v.isRef = true) (hl : storeLocals Ls k v = some Lt) (pc' : Nat) (hp : pc + 2 = pc') (r : own_G p e below Q (T.setTop (mkF m pc' Lt (st)))) : own_G p e below Q (T.setTop (mkF m pc Ls (v :: st))) := by
  subst hp
  exact own_st (fun t ht => XS.astore X.here hx rfl hd rfl hv hl ht) r
theorem own_iconst (X : Stand p l e R s m args below meth c T locs cells slots) (hx : p.tables.exec = Jvm.exec) {i : Int} {z : Int32} (hd : decode c.code pc = .ok (.iconst i, 1)) (hz : Int32.ofInt i = z) (pc' : Nat) (hp : pc + 1 = pc') (r : own_G p e below Q (T.setTop (mkF m pc' Ls (.int z :: st)))) : own_G p e below Q (T.setTop (mkF m pc Ls (st))) := by
  subst hp
  subst hz
  exact own_st (fun t ht => XS.iconst X.here hx rfl hd ht) r
theorem own_bipush (X : Stand p l e R s m args below meth c T locs cells slots) (hx : p.tables.exec = Jvm.exec) {i : Int} {z : Int32} (hd : decode c.code pc = .ok (.bipush i, 2)) (hz : (Int8.ofInt i).toInt32 = z) (pc' : Nat) (hp : pc + 2 = pc') (r : own_G p e below Q (T.setTop (mkF m pc' Ls (.int z :: st)))) : own_G p e below Q (T.setTop (mkF m pc Ls (st))) := by
  subst hp
  subst hz
  exact own_st (fun t ht => XS.bipush X.here hx rfl hd ht) r
theorem own_sipush (X : Stand p l e R s m args below meth c T locs cells slots) (hx : p.tables.exec = Jvm.exec) {i : Int} {z : Int32} (hd : decode c.code pc = .ok (.sipush i, 3)) (hz : (Int16.ofInt i).toInt32 = z) (pc' : Nat) (hp : pc + 3 = pc') (r : own_G p e below Q (T.setTop (mkF m pc' Ls (.int z :: st)))) : own_G p e below Q (T.setTop (mkF m pc Ls (st))) := by
  subst hp
  subst hz
  exact own_st (fun t ht => XS.sipush X.here hx rfl hd ht) r
theorem own_aconstNull (X : Stand p l e R s m args below meth c T locs cells slots) (hx : p.tables.exec = Jvm.exec)  (hd : decode c.code pc = .ok (.aconst_null, 1))  (pc' : Nat) (hp : pc + 1 = pc') (r : own_G p e below Q (T.setTop (mkF m pc' Ls (.null :: st)))) : own_G p e below Q (T.setTop (mkF m pc Ls (st))) := by
  subst hp
  exact own_st (fun t ht => XS.aconstNull X.here hx rfl hd ht) r
theorem own_iadd (X : Stand p l e R s m args below meth c T locs cells slots) (hx : p.tables.exec = Jvm.exec) {x y : Int32} (hd : decode c.code pc = .ok (.iadd, 1))  (pc' : Nat) (hp : pc + 1 = pc') (r : own_G p e below Q (T.setTop (mkF m pc' Ls (.int (x + y) :: st)))) : own_G p e below Q (T.setTop (mkF m pc Ls (.int y :: .int x :: st))) := by
  subst hp
  exact own_st (fun t ht => XS.iadd X.here hx rfl hd rfl ht) r
theorem own_isub (X : Stand p l e R s m args below meth c T locs cells slots) (hx : p.tables.exec = Jvm.exec) {x y : Int32} (hd : decode c.code pc = .ok (.isub, 1))  (pc' : Nat) (hp : pc + 1 = pc') (r : own_G p e below Q (T.setTop (mkF m pc' Ls (.int (x - y) :: st)))) : own_G p e below Q (T.setTop (mkF m pc Ls (.int y :: .int x :: st))) := by
  subst hp
  exact own_st (fun t ht => XS.isub X.here hx rfl hd rfl ht) r
theorem own_imul (X : Stand p l e R s m args below meth c T locs cells slots) (hx : p.tables.exec = Jvm.exec) {x y : Int32} (hd : decode c.code pc = .ok (.imul, 1))  (pc' : Nat) (hp : pc + 1 = pc') (r : own_G p e below Q (T.setTop (mkF m pc' Ls (.int (x * y) :: st)))) : own_G p e below Q (T.setTop (mkF m pc Ls (.int y :: .int x :: st))) := by
  subst hp
  exact own_st (fun t ht => XS.imul X.here hx rfl hd rfl ht) r
theorem own_iand (X : Stand p l e R s m args below meth c T locs cells slots) (hx : p.tables.exec = Jvm.exec) {x y : Int32} (hd : decode c.code pc = .ok (.iand, 1))  (pc' : Nat) (hp : pc + 1 = pc') (r : own_G p e below Q (T.setTop (mkF m pc' Ls (.int (x &&& y) :: st)))) : own_G p e below Q (T.setTop (mkF m pc Ls (.int y :: .int x :: st))) := by
  subst hp
  exact own_st (fun t ht => XS.iand X.here hx rfl hd rfl ht) r
theorem own_ior (X : Stand p l e R s m args below meth c T locs cells slots) (hx : p.tables.exec = Jvm.exec) {x y : Int32} (hd : decode c.code pc = .ok (.ior, 1))  (pc' : Nat) (hp : pc + 1 = pc') (r : own_G p e below Q (T.setTop (mkF m pc' Ls (.int (x ||| y) :: st)))) : own_G p e below Q (T.setTop (mkF m pc Ls (.int y :: .int x :: st))) := by
  subst hp
  exact own_st (fun t ht => XS.ior X.here hx rfl hd rfl ht) r
theorem own_ixor (X : Stand p l e R s m args below meth c T locs cells slots) (hx : p.tables.exec = Jvm.exec) {x y : Int32} (hd : decode c.code pc = .ok (.ixor, 1))  (pc' : Nat) (hp : pc + 1 = pc') (r : own_G p e below Q (T.setTop (mkF m pc' Ls (.int (x ^^^ y) :: st)))) : own_G p e below Q (T.setTop (mkF m pc Ls (.int y :: .int x :: st))) := by
  subst hp
  exact own_st (fun t ht => XS.ixor X.here hx rfl hd rfl ht) r
theorem own_ishl (X : Stand p l e R s m args below meth c T locs cells slots) (hx : p.tables.exec = Jvm.exec) {x y : Int32} (hd : decode c.code pc = .ok (.ishl, 1))  (pc' : Nat) (hp : pc + 1 = pc') (r : own_G p e below Q (T.setTop (mkF m pc' Ls (.int (x <<< (y &&& 31)) :: st)))) : own_G p e below Q (T.setTop (mkF m pc Ls (.int y :: .int x :: st))) := by
  subst hp
  exact own_st (fun t ht => XS.ishl X.here hx rfl hd rfl ht) r
theorem own_ishr (X : Stand p l e R s m args below meth c T locs cells slots) (hx : p.tables.exec = Jvm.exec) {x y : Int32} (hd : decode c.code pc = .ok (.ishr, 1))  (pc' : Nat) (hp : pc + 1 = pc') (r : own_G p e below Q (T.setTop (mkF m pc' Ls (.int (x >>> (y &&& 31)) :: st)))) : own_G p e below Q (T.setTop (mkF m pc Ls (.int y :: .int x :: st))) := by
  subst hp
  exact own_st (fun t ht => XS.ishr X.here hx rfl hd rfl ht) r
theorem own_iushr (X : Stand p l e R s m args below meth c T locs cells slots) (hx : p.tables.exec = Jvm.exec) {x y : Int32} (hd : decode c.code pc = .ok (.iushr, 1))  (pc' : Nat) (hp : pc + 1 = pc') (r : own_G p e below Q (T.setTop (mkF m pc' Ls (.int ((x.toUInt32 >>> (y &&& 31).toUInt32).toInt32) :: st)))) : own_G p e below Q (T.setTop (mkF m pc Ls (.int y :: .int x :: st))) := by
  subst hp
  exact own_st (fun t ht => XS.iushr X.here hx rfl hd rfl ht) r
theorem own_idiv (X : Stand p l e R s m args below meth c T locs cells slots) (hx : p.tables.exec = Jvm.exec) {x y : Int32} (hd : decode c.code pc = .ok (.idiv, 1)) (hy : y ≠ 0) (pc' : Nat) (hp : pc + 1 = pc') (r : own_G p e below Q (T.setTop (mkF m pc' Ls (.int (x / y) :: st)))) : own_G p e below Q (T.setTop (mkF m pc Ls (.int y :: .int x :: st))) := by
  subst hp
  exact own_st (fun t ht => XS.idiv X.here hx rfl hd rfl hy ht) r
theorem own_irem (X : Stand p l e R s m args below meth c T locs cells slots) (hx : p.tables.exec = Jvm.exec) {x y : Int32} (hd : decode c.code pc = .ok (.irem, 1)) (hy : y ≠ 0) (pc' : Nat) (hp : pc + 1 = pc') (r : own_G p e below Q (T.setTop (mkF m pc' Ls (.int (x % y) :: st)))) : own_G p e below Q (T.setTop (mkF m pc Ls (.int y :: .int x :: st))) := by
  subst hp
  exact own_st (fun t ht => iremM X hx rfl hd rfl hy ht) r
theorem own_ineg (X : Stand p l e R s m args below meth c T locs cells slots) (hx : p.tables.exec = Jvm.exec) {x : Int32} (hd : decode c.code pc = .ok (.ineg, 1))  (pc' : Nat) (hp : pc + 1 = pc') (r : own_G p e below Q (T.setTop (mkF m pc' Ls (.int (-x) :: st)))) : own_G p e below Q (T.setTop (mkF m pc Ls (.int x :: st))) := by
  subst hp
  exact own_st (fun t ht => XS.ineg X.here hx rfl hd rfl ht) r
theorem own_i2c (X : Stand p l e R s m args below meth c T locs cells slots) (hx : p.tables.exec = Jvm.exec) {x : Int32} (hd : decode c.code pc = .ok (.i2c, 1))  (pc' : Nat) (hp : pc + 1 = pc') (r : own_G p e below Q (T.setTop (mkF m pc' Ls (.int (x.toUInt32.toUInt16.toUInt32.toInt32) :: st)))) : own_G p e below Q (T.setTop (mkF m pc Ls (.int x :: st))) := by
  subst hp
  exact own_st (fun t ht => XS.i2c X.here hx rfl hd rfl ht) r
theorem own_i2b (X : Stand p l e R s m args below meth c T locs cells slots) (hx : p.tables.exec = Jvm.exec) {x : Int32} (hd : decode c.code pc = .ok (.i2b, 1))  (pc' : Nat) (hp : pc + 1 = pc') (r : own_G p e below Q (T.setTop (mkF m pc' Ls (.int (x.toInt8.toInt32) :: st)))) : own_G p e below Q (T.setTop (mkF m pc Ls (.int x :: st))) := by
  subst hp
  exact own_st (fun t ht => XS.i2b X.here hx rfl hd rfl ht) r
theorem own_dup (X : Stand p l e R s m args below meth c T locs cells slots) (hx : p.tables.exec = Jvm.exec) {x : Value} (hd : decode c.code pc = .ok (.dup, 1)) (hc : x.category = 1) (pc' : Nat) (hp : pc + 1 = pc') (r : own_G p e below Q (T.setTop (mkF m pc' Ls (x :: x :: st)))) : own_G p e below Q (T.setTop (mkF m pc Ls (x :: st))) := by
  subst hp
  exact own_st (fun t ht => XS.dup X.here hx rfl hd rfl hc ht) r
theorem own_dupX1 (X : Stand p l e R s m args below meth c T locs cells slots) (hx : p.tables.exec = Jvm.exec) {x y : Value} (hd : decode c.code pc = .ok (.dup_x1, 1)) (hc : x.category = 1) (hc2 : y.category = 1) (pc' : Nat) (hp : pc + 1 = pc') (r : own_G p e below Q (T.setTop (mkF m pc' Ls (x :: y :: x :: st)))) : own_G p e below Q (T.setTop (mkF m pc Ls (x :: y :: st))) := by
  subst hp
  exact own_st (fun t ht => XS.dupX1 X.here hx rfl hd rfl hc hc2 ht) r
theorem own_pop (X : Stand p l e R s m args below meth c T locs cells slots) (hx : p.tables.exec = Jvm.exec) {x : Value} (hd : decode c.code pc = .ok (.pop, 1)) (hc : x.category = 1) (pc' : Nat) (hp : pc + 1 = pc') (r : own_G p e below Q (T.setTop (mkF m pc' Ls (st)))) : own_G p e below Q (T.setTop (mkF m pc Ls (x :: st))) := by
  subst hp
  exact own_st (fun t ht => XS.pop X.here hx rfl hd rfl hc ht) r
theorem own_iinc (X : Stand p l e R s m args below meth c T locs cells slots) (hx : p.tables.exec = Jvm.exec) {k : Nat} {cst : Int} {x z : Int32} (Lt : Array Slot) (hd : decode c.code pc = .ok (.iinc k cst, 3)) (hl : Ls[k]? = some (.val (.int x))) (hz : x + Int32.ofInt cst = z) (hl' : storeLocals Ls k (.int z) = some Lt) (pc' : Nat) (hp : pc + 3 = pc') (r : own_G p e below Q (T.setTop (mkF m pc' Lt (st)))) : own_G p e below Q (T.setTop (mkF m pc Ls (st))) := by
  subst hp
  subst hz
  exact own_st (fun t ht => XS.iinc X.here hx rfl hd hl hl' ht) r
theorem own_goto (X : Stand p l e R s m args below meth c T locs cells slots) (hx : p.tables.exec = Jvm.exec)  {o : Int} (hd : decode c.code pc = .ok (.goto o, 3))  (pc' : Nat) (ho : 0 ≤ (pc : Int) + o) (hp : ((pc : Int) + o).toNat = pc') (r : own_G p e below Q (T.setTop (mkF m pc' Ls (st)))) : own_G p e below Q (T.setTop (mkF m pc Ls (st))) := own_st (fun t ht => XS.goto X.here hx rfl rfl hd ho hp ht) r
theorem own_ifcT (X : Stand p l e R s m args below meth c T locs cells slots) (hx : p.tables.exec = Jvm.exec) {cd : ClassFile.Cond} {x : Int32} {o : Int} (hd : decode c.code pc = .ok (.ifCond cd o, 3)) (hc : if_icmp.holds cd x 0 = true) (pc' : Nat) (ho : 0 ≤ (pc : Int) + o) (hp : ((pc : Int) + o).toNat = pc') (r : own_G p e below Q (T.setTop (mkF m pc' Ls (st)))) : own_G p e below Q (T.setTop (mkF m pc Ls (.int x :: st))) := own_st (fun t ht => XS.ifYes X.here hx rfl rfl hd rfl ((if0 _ _).trans hc) ho hp ht) r
theorem own_ifcF (X : Stand p l e R s m args below meth c T locs cells slots) (hx : p.tables.exec = Jvm.exec) {cd : ClassFile.Cond} {x : Int32} {o : Int} (hd : decode c.code pc = .ok (.ifCond cd o, 3)) (hc : if_icmp.holds cd x 0 = false) (pc' : Nat) (hp : pc + 3 = pc') (r : own_G p e below Q (T.setTop (mkF m pc' Ls (st)))) : own_G p e below Q (T.setTop (mkF m pc Ls (.int x :: st))) := by
  subst hp
  exact own_st (fun t ht => XS.ifNo X.here hx rfl hd rfl ((if0 _ _).trans hc) ht) r
theorem own_icmpT (X : Stand p l e R s m args below meth c T locs cells slots) (hx : p.tables.exec = Jvm.exec) {cd : ClassFile.Cond} {x y : Int32} {o : Int} (hd : decode c.code pc = .ok (.if_icmp cd o, 3)) (hc : if_icmp.holds cd x y = true) (pc' : Nat) (ho : 0 ≤ (pc : Int) + o) (hp : ((pc : Int) + o).toNat = pc') (r : own_G p e below Q (T.setTop (mkF m pc' Ls (st)))) : own_G p e below Q (T.setTop (mkF m pc Ls (.int y :: .int x :: st))) := own_st (fun t ht => XS.icmpYes X.here hx rfl rfl hd rfl hc ho hp ht) r
theorem own_icmpF (X : Stand p l e R s m args below meth c T locs cells slots) (hx : p.tables.exec = Jvm.exec) {cd : ClassFile.Cond} {x y : Int32} {o : Int} (hd : decode c.code pc = .ok (.if_icmp cd o, 3)) (hc : if_icmp.holds cd x y = false) (pc' : Nat) (hp : pc + 3 = pc') (r : own_G p e below Q (T.setTop (mkF m pc' Ls (st)))) : own_G p e below Q (T.setTop (mkF m pc Ls (.int y :: .int x :: st))) := by
  subst hp
  exact own_st (fun t ht => XS.icmpNo X.here hx rfl hd rfl hc ht) r
theorem own_ifnullT (X : Stand p l e R s m args below meth c T locs cells slots) (hx : p.tables.exec = Jvm.exec)  {o : Int} (hd : decode c.code pc = .ok (.ifnull o, 3))  (pc' : Nat) (ho : 0 ≤ (pc : Int) + o) (hp : ((pc : Int) + o).toNat = pc') (r : own_G p e below Q (T.setTop (mkF m pc' Ls (st)))) : own_G p e below Q (T.setTop (mkF m pc Ls (.null :: st))) := own_st (fun t ht => XS.ifnullYes X.here hx rfl rfl hd rfl ho hp ht) r
theorem own_ifnullF (X : Stand p l e R s m args below meth c T locs cells slots) (hx : p.tables.exec = Jvm.exec) {b : Addr} {o : Int} (hd : decode c.code pc = .ok (.ifnull o, 3))  (pc' : Nat) (hp : pc + 3 = pc') (r : own_G p e below Q (T.setTop (mkF m pc' Ls (st)))) : own_G p e below Q (T.setTop (mkF m pc Ls (.ref b :: st))) := by
  subst hp
  exact own_st (fun t ht => XS.ifnullNo X.here hx rfl hd rfl ht) r
theorem own_ifnonnullT (X : Stand p l e R s m args below meth c T locs cells slots) (hx : p.tables.exec = Jvm.exec) {b : Addr} {o : Int} (hd : decode c.code pc = .ok (.ifnonnull o, 3))  (pc' : Nat) (ho : 0 ≤ (pc : Int) + o) (hp : ((pc : Int) + o).toNat = pc') (r : own_G p e below Q (T.setTop (mkF m pc' Ls (st)))) : own_G p e below Q (T.setTop (mkF m pc Ls (.ref b :: st))) := own_st (fun t ht => XS.ifnonnullYes X.here hx rfl rfl hd rfl ho hp ht) r
theorem own_ifnonnullF (X : Stand p l e R s m args below meth c T locs cells slots) (hx : p.tables.exec = Jvm.exec)  {o : Int} (hd : decode c.code pc = .ok (.ifnonnull o, 3))  (pc' : Nat) (hp : pc + 3 = pc') (r : own_G p e below Q (T.setTop (mkF m pc' Ls (st)))) : own_G p e below Q (T.setTop (mkF m pc Ls (.null :: st))) := by
  subst hp
  exact own_st (fun t ht => XS.ifnonnullNo X.here hx rfl hd rfl ht) r
theorem own_acmpT (X : Stand p l e R s m args below meth c T locs cells slots) (hx : p.tables.exec = Jvm.exec) {cd : ClassFile.ACond} {a b : Addr} {o : Int} (hd : decode c.code pc = .ok (.if_acmp cd o, 3)) (hc : if_acmp.holds cd (some a) (some b) = true) (pc' : Nat) (ho : 0 ≤ (pc : Int) + o) (hp : ((pc : Int) + o).toNat = pc') (r : own_G p e below Q (T.setTop (mkF m pc' Ls (st)))) : own_G p e below Q (T.setTop (mkF m pc Ls (.ref b :: .ref a :: st))) := own_st (fun t ht => XS.acmpYes X.here hx rfl rfl hd rfl hc ho hp ht) r
theorem own_acmpF (X : Stand p l e R s m args below meth c T locs cells slots) (hx : p.tables.exec = Jvm.exec) {cd : ClassFile.ACond} {a b : Addr} {o : Int} (hd : decode c.code pc = .ok (.if_acmp cd o, 3)) (hc : if_acmp.holds cd (some a) (some b) = false) (pc' : Nat) (hp : pc + 3 = pc') (r : own_G p e below Q (T.setTop (mkF m pc' Ls (st)))) : own_G p e below Q (T.setTop (mkF m pc Ls (.ref b :: .ref a :: st))) := by
  subst hp
  exact own_st (fun t ht => XS.acmpNo X.here hx rfl hd rfl hc ht) r
theorem own_ldcI (X : Stand p l e R s m args below meth c T locs cells slots) (hx : p.tables.exec = Jvm.exec) (hZ : Z.Warmed39 s.vm) {own : String} (hown : s.vm.findClass own = some m.cls) {index : Nat} {v : Int32} (w : (Cond.constant own index v).before a0 Z = true) (hd : decode c.code pc = .ok (.ldc index, 2)) (pc' : Nat) (hp : pc + 2 = pc') (r : own_G p e below Q (T.setTop (mkF m pc' Ls (.int v :: st)))) : own_G p e below Q (T.setTop (mkF m pc Ls (st))) := by
  subst hp
  exact own_st (fun t ht => X.ldcInt hx hown (mvT hZ w) (g := mkF m pc Ls st) rfl hd t ht) r
theorem own_ldcwI (X : Stand p l e R s m args below meth c T locs cells slots) (hx : p.tables.exec = Jvm.exec) (hZ : Z.Warmed39 s.vm) {own : String} (hown : s.vm.findClass own = some m.cls) {index : Nat} {v : Int32} (w : (Cond.constant own index v).before a0 Z = true) (hd : decode c.code pc = .ok (.ldc_w index, 3)) (pc' : Nat) (hp : pc + 3 = pc') (r : own_G p e below Q (T.setTop (mkF m pc' Ls (.int v :: st)))) : own_G p e below Q (T.setTop (mkF m pc Ls (st))) := by
  subst hp
  exact own_st (fun t ht => X.ldcwInt hx hown (mvT hZ w) (g := mkF m pc Ls st) rfl hd t ht) r
theorem own_ifT {α : Type} {c : Prop} [Decidable c] {a b r : α} (hc : c) (h : (if c then a else b) = r) : a = r := (if_pos hc).symm.trans h
theorem own_ifF {α : Type} {c : Prop} [Decidable c] {a b r : α} (hc : ¬ c) (h : (if c then a else b) = r) : b = r := (if_neg hc).symm.trans h
/-- what a body leaves -/
def own_End (s : State) (rm : Room) (n0 : Nat) (P : Option Value → Heap → Prop) (o : Outcome) (t : State) : Prop := ∃ v L, o = .returned v ∧ (Fr n0 L ∧ P v t.heap) ∧ FrameEnd s o t L rm.cells rm.slots
/-- a body's contract -/
def own_Met (l : Launch) (Z : State) (y : MethodName) (bytes : ByteArray) (maxL : Nat) (ret : Option FieldType) (ws : List Jvm.Cond) (rm : Room) (as' : Array Value) (h0 : Heap) (n0 : Nat) (P : Option Value → Heap → Prop) : Prop :=
  MetFree l y (head1 (Jvm.Cond.code y bytes maxL ret :: ws) rm) (fun a U => a = as' ∧ Z.Warmed39 U.vm ∧ U.heap = h0) (fun _ _ _ _ _ => True) (fun _ U o U' => own_End U rm n0 P o U')
variable {y : MethodName} {bytes : ByteArray} {maxL : Nat} {ret : Option FieldType} {ws : List Jvm.Cond} {rm : Room} {as' : Array Value} {h0 : Heap} {n0 : Nat} {P : Option Value → Heap → Prop}
theorem own_body (pf : plainFor y = true) (body : ∀ p e s m below meth c T, Stand p l e rm s m as' below meth c T [] 0 0 → p.tables.exec = Jvm.exec → c.code = bytes → c.maxLocals = maxL → s.vm.findClass y.cls = some m.cls → meth.name = y.name → Z.Warmed39 s.vm → T.heap = h0 → meth.sig.returnType = ret → meth.locks = false →
    own_G p e below (own_End s rm n0 P) (T.setTop (entryFrame m as' maxL))) : own_Met l Z y bytes maxL ret ws rm as' h0 n0 P := by
  refine MetFree.of_bodySF pf hisR ?_
  intro p e s m args below meth c s₁ Bd hml0 hP hK
  obtain ⟨e1, hZ, hh⟩ := hP
  cases e1
  exact body p e s m below meth c s₁ (Stand.of_body Bd) Bd.exec Bd.bytes hml0 (findClass_of_methodNamed Bd.named) (name_of_methodNamed Bd.named Bd.method).1 hZ (by rw [← hh, Bd.state]; rfl) Bd.returns Bd.notSynchronized
theorem own_stepI (X : Stand p l e R s m args below meth c T locs cells slots) (hx : p.tables.exec = Jvm.exec) {z : Int32} (hret : meth.sig.returnType = some .int) (hd : decode c.code pc = .ok (.ireturn, 1)) {fs : List Frame}
    (hl : ∀ (f : JFrame) (acts : List Action), f.method = m → f.locked = none → f.entered = [] → (doReturn e (T.setTop f) acts (some (.int z))).1 = T.setFrames fs) : Steps p.tables e below (T.setTop (mkF m pc Ls (.int z :: st))) (T.setFrames fs) :=
  retOut X hx hret rfl (Or.inl ⟨rfl, Or.inl rfl, z, rfl⟩) hd hl
theorem own_retI (X : Stand p l e R s m args below meth c T locs cells slots) (hx : p.tables.exec = Jvm.exec) {z : Int32} (hret : meth.sig.returnType = some .int) (hlk : meth.locks = false) (hd : decode c.code pc = .ok (.ireturn, 1)) (hc : cells ≤ rm.cells) (hs : slots ≤ rm.slots) (N : Fr n0 locs) (eT : T.heap = h) (hq : P (some (.int z)) h) :
    own_G p e below (own_End s rm n0 P) (T.setTop (mkF m pc Ls (.int z :: st))) := by
  subst eT
  obtain ⟨fs, hr, hrun, hended, hW, hsame⟩ := X.leave (v := some (.int z)) (fun h => by rw [hret] at h; cases h) hlk
  exact ⟨_, _, own_stepI X hx hret hd hr, hrun, hended, _, _, rfl, ⟨N, hq⟩, ⟨_, rfl⟩, hW, hsame.mono hc hs⟩
theorem own_retN (X : Stand p l e R s m args below meth c T locs cells slots) (hx : p.tables.exec = Jvm.exec) {z : Int32} {t : FieldType} (hret : meth.sig.returnType = some t) (ht : t = .boolean ∨ t = .byte ∨ t = .char ∨ t = .short) (hlk : meth.locks = false) (hd : decode c.code pc = .ok (.ireturn, 1)) (hc : cells ≤ rm.cells) (hs : slots ≤ rm.slots) (N : Fr n0 locs) (eT : T.heap = h) (hq : P (some (.int (nar t z))) h) :
    own_G p e below (own_End s rm n0 P) (T.setTop (mkF m pc Ls (.int z :: st))) := by
  subst eT
  obtain ⟨fs, hr, hrun, hended, hW, hsame⟩ := X.leave (v := some (.int (nar t z))) (fun h => by rw [hret] at h; cases h) hlk
  exact ⟨_, _, retN X hx hret ht hd hr, hrun, hended, _, _, rfl, ⟨N, hq⟩, ⟨_, rfl⟩, hW, hsame.mono hc hs⟩
theorem own_retA (X : Stand p l e R s m args below meth c T locs cells slots) (hx : p.tables.exec = Jvm.exec) {v : Value} {t : FieldType} (hret : meth.sig.returnType = some t) (ht : t.isReference = true) (hv : v.isRef = true) (hn : narrow t v = v) (hlk : meth.locks = false) (hd : decode c.code pc = .ok (.areturn, 1)) (hc : cells ≤ rm.cells) (hs : slots ≤ rm.slots) (N : Fr n0 locs) (eT : T.heap = h) (hq : P (some v) h) :
    own_G p e below (own_End s rm n0 P) (T.setTop (mkF m pc Ls (v :: st))) := by
  subst eT
  obtain ⟨fs, hr, hrun, hended, hW, hsame⟩ := X.leave (v := some v) (fun h => by rw [hret] at h; cases h) hlk
  exact ⟨_, _, retOut X hx hret hn (Or.inr (Or.inr (Or.inr (Or.inr ⟨rfl, ht, hv⟩)))) hd hr, hrun, hended, _, _, rfl, ⟨N, hq⟩, ⟨_, rfl⟩, hW, hsame.mono hc hs⟩
theorem own_retV (X : Stand p l e R s m args below meth c T locs cells slots) (hx : p.tables.exec = Jvm.exec) (hret : meth.sig.returnType = none) (hlk : meth.locks = false) (hd : decode c.code pc = .ok (.return_, 1)) (hc : cells ≤ rm.cells) (hs : slots ≤ rm.slots) (N : Fr n0 locs) (eT : T.heap = h) (hq : P none h) :
    own_G p e below (own_End s rm n0 P) (T.setTop (mkF m pc Ls [])) := by
  subst eT
  obtain ⟨fs, hr, hrun, hended, hW, hsame⟩ := X.leave (v := none) (fun _ => rfl) hlk
  exact ⟨_, _, X.returnOut hx hret hd hr, hrun, hended, _, _, rfl, ⟨N, hq⟩, ⟨_, rfl⟩, hW, hsame.mono hc hs⟩
/-- the callee's contract as the premise that a call by contract takes -/
theorem own_back {below' : List Frame} {W : Nat} {len : Nat} (M : own_Met l Z y bytes maxL ret [] rm as' h n0 P) (hZ : Z.Warmed39 s.vm) (wc : (Cond.code y bytes maxL ret).before a0 Z = true) (wz : (Cond.initialized y.cls).before a0 Z = true) (hf : rm.frames + 1 ≤ R.frames) (hl : W + (maxL + 11) + rm.locals ≤ R.locals) :
    Back l R p e below s args y len W (fun A a => a = as' ∧ A.U.heap = h ∧ A.cells + rm.cells ≤ R.cells ∧ A.slots + rm.slots ≤ R.slots)
      (fun A _ v B => ∃ L, (Fr n0 L ∧ P v B.U.heap) ∧ B.locs = A.locs ++ L ∧ B.cells = A.cells + rm.cells ∧ B.slots = A.slots + rm.slots) :=
  backOf (Q := fun v h L => Fr n0 L ∧ P v h) M hZ wc wz hf hl
theorem own_callS (X : Stand p l e R s m args below meth c T locs cells slots) (hx : p.tables.exec = Jvm.exec) (hZ : Z.Warmed39 s.vm) {own : String} {index : Nat} (hown : s.vm.findClass own = some m.cls) (w1 : (Cond.methodLink own index y).before a0 Z = true) (w2 : (Cond.static y).before a0 Z = true) (wz : (Cond.initialized y.cls).before a0 Z = true) (wc : (Cond.code y bytes maxL ret).before a0 Z = true)
    (hy : y.cls ≠ "java/lang/invoke/MethodHandle" ∧ y.cls ≠ "java/lang/invoke/VarHandle") (W : Nat) (M : own_Met l Z y bytes maxL ret [] rm as' h n0 P) (eT : T.heap = h) (hml : Ls.size = c.maxLocals) (argsL rest : List Value) (ha : argsL.toArray = as') (hlen : ∀ sig, parseMethodDescriptor y.desc = some sig → argsL.length = sig.parameters.length)
    (hst : st = argsL.reverse ++ rest) (hW : (rest.map fun v => v.category).sum ≤ W) (hf : rm.frames + 1 ≤ R.frames) (hl : W + (maxL + 11) + rm.locals ≤ R.locals) (hcl : cells + rm.cells ≤ R.cells) (hsl : slots + rm.slots ≤ R.slots) (hd : decode c.code pc = .ok (.invokestatic index, 3)) (N : Fr n0 locs) (pc' : Nat) (hp : pc + 3 = pc')
    (k : ∀ v T' locs', Stand p l e R s m args below meth c T' locs' (cells + rm.cells) (slots + rm.slots) → Fr n0 locs' → P v T'.heap → own_G p e below Q (T'.setTop (mkF m pc' Ls (v.toList ++ rest)))) : own_G p e below Q (T.setTop (mkF m pc Ls st)) := by
  subst hp
  obtain ⟨v, _, ⟨T', L', k', n'⟩, -, X', ⟨Lc, hQ, l1, y1, z1⟩, stp⟩ := Jvm.LawKit.callS X hx (y := y) hown (mvT hZ w1) (mvT hZ w2) (mvT hZ wz) (mvT hZ wc) hy (own_back (below' := below) (W := W) M hZ wc wz hf hl) (g := mkF m pc Ls st) rfl hml (argsL := argsL) (rest := rest) hlen hst (by show 2 * 0 + _ ≤ _; omega) hd (fun _ _ => ⟨ha, eT, hcl, hsl⟩)
  dsimp only [Pt.U, Pt.locs, Pt.cells, Pt.slots] at X' l1 y1 z1 stp hQ
  subst l1 y1 z1
  exact own_st stp (k v T' _ X' (N.app hQ.1) hQ.2)
theorem own_callI (X : Stand p l e R s m args below meth c T locs cells slots) (hx : p.tables.exec = Jvm.exec) (hZ : Z.Warmed39 s.vm) {own : String} {index : Nat} (hown : s.vm.findClass own = some m.cls) (hi : y.name = "<init>") (w1 : (Cond.methodLink own index y).before a0 Z = true) (w2 : (Cond.instanceMethod y).before a0 Z = true) (wz : (Cond.initialized y.cls).before a0 Z = true) (wc : (Cond.code y bytes maxL none).before a0 Z = true)
    (hy : y.cls ≠ "java/lang/invoke/MethodHandle" ∧ y.cls ≠ "java/lang/invoke/VarHandle") (W : Nat) (M : own_Met l Z y bytes maxL none [] rm as' h n0 P) (eT : T.heap = h) (hml : Ls.size = c.maxLocals) (a : Addr) (argsL rest : List Value) (ha : (Value.ref a :: argsL).toArray = as') (hlen : ∀ sig, parseMethodDescriptor y.desc = some sig → argsL.length = sig.parameters.length)
    (hst : st = argsL.reverse ++ .ref a :: rest) (hW : (rest.map fun v => v.category).sum ≤ W) (hf : rm.frames + 1 ≤ R.frames) (hl : W + (maxL + 11) + rm.locals ≤ R.locals) (hcl : cells + rm.cells ≤ R.cells) (hsl : slots + rm.slots ≤ R.slots) (hd : decode c.code pc = .ok (.invokespecial index, 3)) (N : Fr n0 locs) (pc' : Nat) (hp : pc + 3 = pc')
    (k : ∀ v T' locs', Stand p l e R s m args below meth c T' locs' (cells + rm.cells) (slots + rm.slots) → Fr n0 locs' → P v T'.heap → own_G p e below Q (T'.setTop (mkF m pc' Ls (v.toList ++ rest)))) : own_G p e below Q (T.setTop (mkF m pc Ls st)) := by
  subst hp
  obtain ⟨v, _, ⟨T', L', k', n'⟩, -, X', ⟨Lc, hQ, l1, y1, z1⟩, stp⟩ := X.specialBack hx (y := y) hi hown (mvT hZ w1) (mvT hZ w2) (mvT hZ wc) hy (own_back (below' := below) (W := W) M hZ wc wz hf hl) (g := mkF m pc Ls st) rfl hml (Steps.refl _) (a := a) (argsL := argsL) (rest := rest) hlen hst (by show 2 * 0 + _ ≤ _; omega) hd (fun _ _ => ⟨ha, eT, hcl, hsl⟩)
  dsimp only [Pt.U, Pt.locs, Pt.cells, Pt.slots] at X' l1 y1 z1 stp hQ
  subst l1 y1 z1
  exact own_st (fun t ht => stp.trans ht) (k v T' _ X' (N.app hQ.1) hQ.2)
theorem own_callV (X : Stand p l e R s m args below meth c T locs cells slots) (hx : p.tables.exec = Jvm.exec) (hZ : Z.Warmed39 s.vm) {own C : String} {index : Nat} (hown : s.vm.findClass own = some m.cls) (w1 : (Cond.methodLink own index y).before a0 Z = true) (w2 : (Cond.declares y).before a0 Z = true) (w3 : (Cond.selects C y y).before a0 Z = true) (w4 : (Cond.instanceMethod y).before a0 Z = true) (wz : (Cond.initialized y.cls).before a0 Z = true) (wc : (Cond.code y bytes maxL ret).before a0 Z = true)
    (hy : y.cls ≠ "java/lang/invoke/MethodHandle" ∧ y.cls ≠ "java/lang/invoke/VarHandle") (W : Nat) (M : own_Met l Z y bytes maxL ret [] rm as' h n0 P) (eT : T.heap = h) {a : Addr} (E : Exa Z h a C) (hml : Ls.size = c.maxLocals) (argsL rest : List Value) (ha : (Value.ref a :: argsL).toArray = as') (hlen : ∀ sig, parseMethodDescriptor y.desc = some sig → argsL.length = sig.parameters.length)
    (hst : st = argsL.reverse ++ .ref a :: rest) (hW : (rest.map fun v => v.category).sum ≤ W) (hf : rm.frames + 1 ≤ R.frames) (hl : W + (maxL + 11) + rm.locals ≤ R.locals) (hcl : cells + rm.cells ≤ R.cells) (hsl : slots + rm.slots ≤ R.slots) (hd : decode c.code pc = .ok (.invokevirtual index, 3)) (N : Fr n0 locs) (pc' : Nat) (hp : pc + 3 = pc')
    (k : ∀ v T' locs', Stand p l e R s m args below meth c T' locs' (cells + rm.cells) (slots + rm.slots) → Fr n0 locs' → P v T'.heap → own_G p e below Q (T'.setTop (mkF m pc' Ls (v.toList ++ rest)))) : own_G p e below Q (T.setTop (mkF m pc Ls st)) := by
  subst hp
  obtain ⟨_, _, qa, _, qc⟩ := isOf hZ eT E
  obtain ⟨v, _, ⟨T', L', k', n'⟩, -, X', ⟨Lc, hQ, l1, y1, z1⟩, stp⟩ := X.virtualBack hx (y := y) (z := y) hown (mvT hZ w1) (mvT hZ w2) (notFace_of_selects (args := #[]) (mvT hZ w3)) (mvT hZ w3) (mvT hZ w4) hy (own_back (below' := below) (W := W) M hZ wc wz hf hl) qa qc (g := mkF m pc Ls st) rfl hml (Steps.refl _) (argsL := argsL) (rest := rest) hlen hst (by show 2 * 0 + _ ≤ _; omega) hd (fun _ _ => ⟨ha, eT, hcl, hsl⟩)
  dsimp only [Pt.U, Pt.locs, Pt.cells, Pt.slots] at X' l1 y1 z1 stp hQ
  subst l1 y1 z1
  exact own_st (fun t ht => stp.trans ht) (k v T' _ X' (N.app hQ.1) hQ.2)
/-- an 'invokevirtual' of a private method, by its contract; that its class is no interface is read off the 'instantiable' word -/
theorem own_callP (X : Stand p l e R s m args below meth c T locs cells slots) (hx : p.tables.exec = Jvm.exec) (hZ : Z.Warmed39 s.vm) {own : String} {index kk : Nat} (hown : s.vm.findClass own = some m.cls) (w1 : (Cond.methodLink own index y).before a0 Z = true) (w4 : (Cond.instanceMethod y).before a0 Z = true) (w5 : (Cond.privateMethod y).before a0 Z = true) (w6 : (Cond.instantiable y.cls kk).before a0 Z = true) (wz : (Cond.initialized y.cls).before a0 Z = true) (wc : (Cond.code y bytes maxL ret).before a0 Z = true)
    (hy : y.cls ≠ "java/lang/invoke/MethodHandle" ∧ y.cls ≠ "java/lang/invoke/VarHandle") (W : Nat) (M : own_Met l Z y bytes maxL ret [] rm as' h n0 P) (eT : T.heap = h) {a : Addr} {C : String} (E : Exa Z h a C) (hml : Ls.size = c.maxLocals) (argsL rest : List Value) (ha : (Value.ref a :: argsL).toArray = as') (hlen : ∀ sig, parseMethodDescriptor y.desc = some sig → argsL.length = sig.parameters.length)
    (hst : st = argsL.reverse ++ .ref a :: rest) (hW : (rest.map fun v => v.category).sum ≤ W) (hf : rm.frames + 1 ≤ R.frames) (hl : W + (maxL + 11) + rm.locals ≤ R.locals) (hcl : cells + rm.cells ≤ R.cells) (hsl : slots + rm.slots ≤ R.slots) (hd : decode c.code pc = .ok (.invokevirtual index, 3)) (N : Fr n0 locs) (pc' : Nat) (hp : pc + 3 = pc')
    (k : ∀ v T' locs', Stand p l e R s m args below meth c T' locs' (cells + rm.cells) (slots + rm.slots) → Fr n0 locs' → P v T'.heap → own_G p e below Q (T'.setTop (mkF m pc' Ls (v.toList ++ rest)))) : own_G p e below Q (T.setTop (mkF m pc Ls st)) := by
  subst hp
  obtain ⟨cell, q1, q2⟩ := E.cell
  obtain ⟨mk, methM, hnamed, hmethM, hstM, habM⟩ := Cond.instanceMethod_spec (mvT (args := args) hZ w4)
  obtain ⟨methM', cM, hmethM', -, -, -, -, -, -, hsigM⟩ := Cond.code_spec hnamed (mvT (args := args) hZ wc)
  cases hmethM.symm.trans hmethM'
  obtain ⟨cC, kP, i1, hkP, -, i4, -⟩ := Cond.instantiable_spec (mvT (args := args) hZ w6)
  cases i1.symm.trans (findClass_of_methodNamed hnamed)
  have hkPi : kP.isInterface = false := by
    simp only [Bool.or_eq_false_iff] at i4
    exact i4.1
  have hpriv := Cond.privateMethod_at (mvP (args := args) hZ w5)
  obtain ⟨vm₁, X₁, hstep⟩ := X.invokevirtual hx hown (mvT hZ w1) hnamed hmethM hstM hkP hkPi hy (a := a) (cell := cell) (by rw [eT]; exact q1) q2 (selectMethod_private hmethM (hpriv mk methM hnamed hmethM)) hmethM habM hkP hkPi (g := mkF m pc Ls st) rfl (argsL := argsL) (rest := rest) (hlen _ hsigM) hst hd
  obtain ⟨v, ⟨T', L', k', n'⟩, X', ⟨Lc, hQ, l1, y1, z1⟩, stp⟩ := own_back (below' := below) (W := W) (len := 3) M hZ wc wz hf hl m meth c ⟨T.setVm vm₁, locs, cells, slots⟩ { (mkF m pc Ls st) with stack := rest } (.invokevirtual index) mk (.ref a :: argsL).toArray X₁ rfl hml hd (by show 2 * 0 + (rest.map fun v => v.category).sum ≤ W; omega) (X₁.named hnamed) ⟨ha, eT, hcl, hsl⟩
  dsimp only [Pt.U, Pt.locs, Pt.cells, Pt.slots] at X' l1 y1 z1 stp hQ
  subst l1 y1 z1
  exact own_st (fun t ht => hstep _ fun acts => by rw [doInvoke_state]; exact stp.trans ht) (k v T' _ X' (N.app hQ.1) hQ.2)
theorem own_getF (X : Stand p l e R s m args below meth c T locs cells slots) (hx : p.tables.exec = Jvm.exec) (hZ : Z.Warmed39 s.vm) {own : String} (hown : s.vm.findClass own = some m.cls) {O n d : String} {index : Nat} (w : (Cond.fieldLink own index O n d).before a0 Z = true) (eT : T.heap = h) {a : Addr} {v : Value} (F : Fld Z h a O n d v) (hd : decode c.code pc = .ok (.getfield index, 3)) (pc' : Nat) (hp : pc + 3 = pc')
    (k : ∀ T', Stand p l e R s m args below meth c T' locs cells slots → T'.heap = h → own_G p e below Q (T'.setTop (mkF m pc' Ls (v :: st)))) : own_G p e below Q (T.setTop (mkF m pc Ls (.ref a :: st))) := by
  subst hp
  obtain ⟨T', X', e', stp⟩ := getF X hx hZ hown (host := "") (Or.inl w) Via.refl eT F (g := mkF m pc Ls (.ref a :: st)) rfl rfl hd
  exact own_st stp (k T' X' e')
theorem own_putF (X : Stand p l e R s m args below meth c T locs cells slots) (hx : p.tables.exec = Jvm.exec) (hZ : Z.Warmed39 s.vm) {own : String} (hown : s.vm.findClass own = some m.cls) {O n d C : String} {index kk : Nat} {ty : FieldType} (w : (Cond.fieldLink own index O n d).before a0 Z = true) (eT : T.heap = h) {a : Addr} {v old : Value} (F : Fld Z h a O n d old) (E : Exa Z h a C) (L : (Cond.lays C O n d).before a0 Z = true ∨ ((Cond.laysFinal C O n d).before a0 Z = true ∧ own = O ∧ meth.name = "<init>")) (wi : (Cond.instantiable C kk).before a0 Z = true)
    (hty : parseFieldDescriptor d = some ty) (hn : narrow ty v = v) (hf : fits ty v = true) (hd : decode c.code pc = .ok (.putfield index, 3)) (N : Fr n0 locs) (g : n0 ≤ a) (pc' : Nat) (hp : pc + 3 = pc')
    (k : ∀ T' h' locs', Stand p l e R s m args below meth c T' locs' cells slots → Fr n0 locs' → T'.heap = h' → Wr h h' a (Jvm.RoadKit.slotOf Z O n d) v → own_G p e below Q (T'.setTop (mkF m pc' Ls st))) : own_G p e below Q (T.setTop (mkF m pc Ls (v :: .ref a :: st))) := by
  subst hp
  obtain ⟨T', h', X', e', W, stp⟩ := putF X hx hZ hown (host := "") (Or.inl w) Via.refl eT F E L wi hty hn hf (g := mkF m pc Ls (v :: .ref a :: st)) rfl rfl hd
  exact own_st stp (k T' h' _ X' (Fr.snoc X' N g) e' W)
/-- putfield of a boolean, byte, char or short: v' is what the field then holds -/
theorem own_putFN (X : Stand p l e R s m args below meth c T locs cells slots) (hx : p.tables.exec = Jvm.exec) (hZ : Z.Warmed39 s.vm) {own : String} (hown : s.vm.findClass own = some m.cls) {O n d C : String} {index kk : Nat} {ty : FieldType} (w : (Cond.fieldLink own index O n d).before a0 Z = true) (eT : T.heap = h) {a : Addr} {v v' old : Value} (F : Fld Z h a O n d old) (E : Exa Z h a C) (L : (Cond.lays C O n d).before a0 Z = true ∨ ((Cond.laysFinal C O n d).before a0 Z = true ∧ own = O ∧ meth.name = "<init>")) (wi : (Cond.instantiable C kk).before a0 Z = true)
    (hty : parseFieldDescriptor d = some ty) (hn : narrow ty v = v') (hf : fits ty v' = true) (hd : decode c.code pc = .ok (.putfield index, 3)) (N : Fr n0 locs) (g : n0 ≤ a) (pc' : Nat) (hp : pc + 3 = pc')
    (k : ∀ T' h' locs', Stand p l e R s m args below meth c T' locs' cells slots → Fr n0 locs' → T'.heap = h' → Wr h h' a (Jvm.RoadKit.slotOf Z O n d) v' → own_G p e below Q (T'.setTop (mkF m pc' Ls st))) : own_G p e below Q (T.setTop (mkF m pc Ls (v :: .ref a :: st))) := by
  subst hp
  obtain ⟨T', h', X', e', W, stp⟩ := putFN X hx hZ hown w Via.refl eT F E L wi hty hn hf (g := mkF m pc Ls (v :: .ref a :: st)) rfl rfl hd
  exact own_st stp (k T' h' _ X' (Fr.snoc X' N g) e' W)
theorem own_initO (X : Stand p l e R s m args below meth c T locs cells slots) (hx : p.tables.exec = Jvm.exec) (hZ : Z.Warmed39 s.vm) {own : String} (hown : s.vm.findClass own = some m.cls) {index : Nat} (w1 : (Cond.methodLink own index ⟨"java/lang/Object", "<init>", "()V"⟩).before a0 Z = true) (w2 : (Cond.instanceMethod ⟨"java/lang/Object", "<init>", "()V"⟩).before a0 Z = true) (w3 : (Cond.code ⟨"java/lang/Object", "<init>", "()V"⟩ object_method_1_code 1 none).before a0 Z = true) (eT : T.heap = h) (hml : Ls.size = c.maxLocals) {a : Addr} (hd : decode c.code pc = .ok (.invokespecial index, 3)) (W : Nat) (hf : 1 ≤ R.frames) (hW : (st.map fun v => v.category).sum ≤ W) (hl : W + 12 ≤ R.locals) (pc' : Nat) (hp : pc + 3 = pc')
    (k : ∀ T', Stand p l e R s m args below meth c T' locs cells slots → T'.heap = h → own_G p e below Q (T'.setTop (mkF m pc' Ls st))) : own_G p e below Q (T.setTop (mkF m pc Ls (.ref a :: st))) := by
  subst hp
  obtain ⟨T', X', e', stp⟩ := initO X hx hZ hown w1 w2 w3 eT (g := mkF m pc Ls (.ref a :: st)) rfl hml rfl hd hf (W := W) (by show 2 * 0 + _ ≤ _; omega) hl
  exact own_st stp (k T' X' e')
theorem own_getS (X : Stand p l e R s m args below meth c T locs cells slots) (hx : p.tables.exec = Jvm.exec) (hZ : Z.Warmed39 s.vm) {own : String} (hown : s.vm.findClass own = some m.cls) {O n d : String} {index : Nat} (w : (Cond.fieldLink own index O n d).before a0 Z = true) (eT : T.heap = h) {v : Value} (F : Sta Z h O n d v) (hd : decode c.code pc = .ok (.getstatic index, 3)) (pc' : Nat) (hp : pc + 3 = pc')
    (k : ∀ T', Stand p l e R s m args below meth c T' locs cells slots → T'.heap = h → own_G p e below Q (T'.setTop (mkF m pc' Ls (v :: st)))) : own_G p e below Q (T.setTop (mkF m pc Ls st)) := by
  subst hp
  obtain ⟨T', X', e', stp⟩ := getS2 X hx hZ hown (host := "") (Or.inl w) Via.refl eT F (g := mkF m pc Ls st) rfl hd
  exact own_st stp (k T' X' e')
theorem own_instY (X : Stand p l e R s m args below meth c T locs cells slots) (hx : p.tables.exec = Jvm.exec) (hZ : Z.Warmed39 s.vm) {own : String} (hown : s.vm.findClass own = some m.cls) {K : String} {index : Nat} (w : (Cond.classLink own index K).before a0 Z = true) (eT : T.heap = h) {a : Addr} (F : Ins Z h a K true) (hd : decode c.code pc = .ok (.instanceof index, 3)) (pc' : Nat) (hp : pc + 3 = pc')
    (k : ∀ T', Stand p l e R s m args below meth c T' locs cells slots → T'.heap = h → own_G p e below Q (T'.setTop (mkF m pc' Ls (.int 1 :: st)))) : own_G p e below Q (T.setTop (mkF m pc Ls (.ref a :: st))) := by
  subst hp
  obtain ⟨T', X', e', stp⟩ := instY X hx hZ hown w eT F (g := mkF m pc Ls (.ref a :: st)) rfl rfl hd
  exact own_st stp (k T' X' e')
theorem own_instNo (X : Stand p l e R s m args below meth c T locs cells slots) (hx : p.tables.exec = Jvm.exec) (hZ : Z.Warmed39 s.vm) {own : String} (hown : s.vm.findClass own = some m.cls) {K C : String} {index : Nat} (w : (Cond.classLink own index K).before a0 Z = true) (eT : T.heap = h) {a : Addr} (E : Exa Z h a C) (F : ∃ c t, Z.vm.findClass C = some c ∧ Z.vm.findClass K = some t ∧ Z.vm.assignable c t = false) (hd : decode c.code pc = .ok (.instanceof index, 3)) (pc' : Nat) (hp : pc + 3 = pc')
    (k : ∀ T', Stand p l e R s m args below meth c T' locs cells slots → T'.heap = h → own_G p e below Q (T'.setTop (mkF m pc' Ls (.int 0 :: st)))) : own_G p e below Q (T.setTop (mkF m pc Ls (.ref a :: st))) := by
  subst hp
  obtain ⟨T', X', e', stp⟩ := instNo X hx hZ hown w eT E F (g := mkF m pc Ls (.ref a :: st)) rfl rfl hd
  exact own_st stp (k T' X' e')
theorem own_instNull (X : Stand p l e R s m args below meth c T locs cells slots) (hx : p.tables.exec = Jvm.exec) {index : Nat} (hd : decode c.code pc = .ok (.instanceof index, 3)) (pc' : Nat) (hp : pc + 3 = pc') (r : own_G p e below Q (T.setTop (mkF m pc' Ls (.int 0 :: st)))) : own_G p e below Q (T.setTop (mkF m pc Ls (.null :: st))) := by
  subst hp
  exact own_st (fun t ht => X.instanceofNull hx (g := mkF m pc Ls (.null :: st)) rfl rfl hd t ht) r
theorem own_castY (X : Stand p l e R s m args below meth c T locs cells slots) (hx : p.tables.exec = Jvm.exec) (hZ : Z.Warmed39 s.vm) {own : String} (hown : s.vm.findClass own = some m.cls) {K : String} {index : Nat} (w : (Cond.classLink own index K).before a0 Z = true) (eT : T.heap = h) {a : Addr} (F : Ins Z h a K true) (hd : decode c.code pc = .ok (.checkcast index, 3)) (pc' : Nat) (hp : pc + 3 = pc')
    (k : ∀ T', Stand p l e R s m args below meth c T' locs cells slots → T'.heap = h → own_G p e below Q (T'.setTop (mkF m pc' Ls (.ref a :: st)))) : own_G p e below Q (T.setTop (mkF m pc Ls (.ref a :: st))) := by
  subst hp
  obtain ⟨T', X', e', stp⟩ := castY X hx hZ hown w eT F (g := mkF m pc Ls (.ref a :: st)) rfl rfl hd
  exact own_st stp (k T' X' e')
theorem own_aaload (X : Stand p l e R s m args below meth c T locs cells slots) (hx : p.tables.exec = Jvm.exec) (hZ : Z.Warmed39 s.vm) (eT : T.heap = h) {a : Addr} {cl : Cell} {K : String} (A : Arr Z h a cl (.object K)) {j : Int32} {v : Value} (hj : ¬ (j < 0 ∨ cl.slots.size ≤ j.toNatClampNeg)) (hv : cl.slots[j.toNatClampNeg]? = some v) (hd : decode c.code pc = .ok (.aaload, 1)) (pc' : Nat) (hp : pc + 1 = pc') (r : own_G p e below Q (T.setTop (mkF m pc' Ls (v :: st)))) : own_G p e below Q (T.setTop (mkF m pc Ls (.int j :: .ref a :: st))) := by
  subst hp
  exact own_st (fun t ht => X.aaload hx (j := j) (by rw [eT]; exact A.1) (State.isArrayOf_alike hZ.alike A.2.1) rfl A.2.2 hj hv (g := mkF m pc Ls (.int j :: .ref a :: st)) rfl rfl hd t ht) r
theorem own_newO (X : Stand p l e R s m args below meth c T locs cells slots) (hx : p.tables.exec = Jvm.exec) (hZ : Z.Warmed39 s.vm) {own : String} (hown : s.vm.findClass own = some m.cls) {C : String} {index n : Nat} (w : (Cond.classLink own index C).before a0 Z = true) (wi : (Cond.instantiable C n).before a0 Z = true) (wz : (Cond.initialized C).before a0 Z = true) (eT : T.heap = h) (hd : decode c.code pc = .ok (.new index, 3)) (hc : cells + 1 ≤ R.cells) (hl : slots + n ≤ R.slots) (pc' : Nat) (hp : pc + 3 = pc')
    (k : ∀ T' h' a, a = h.size → Stand p l e R s m args below meth c T' locs (cells + 1) (slots + n) → T'.heap = h' → Ext h h' → Exa Z h' a C → (∀ {O nm d : String} {ty : FieldType}, Laid Z a0 C O nm d → parseFieldDescriptor d = some ty → Fld Z h' a O nm d (defaultValue ty)) → own_G p e below Q (T'.setTop (mkF m pc' Ls (.ref a :: st)))) : own_G p e below Q (T.setTop (mkF m pc Ls st)) := by
  subst hp
  obtain ⟨T', h', X', e', E, A, D, -, stp⟩ := newO X hx hZ hown w wi wz eT (g := mkF m pc Ls st) rfl hd hc hl
  exact own_st stp (k T' h' _ rfl X' e' E A D)
theorem own_newP (X : Stand p l e R s m args below meth c T locs cells slots) (hx : p.tables.exec = Jvm.exec) (hZ : Z.Warmed39 s.vm) {aty : ArrayType} (w : (Cond.arrayClass (newarray.typeOf aty)).before a0 Z = true) (eT : T.heap = h) (hd : decode c.code pc = .ok (.newarray aty, 2)) {n : Int32} (hn : ¬ n < 0) (cap : Nat) (hcap : n.toNatClampNeg ≤ cap) (hb : cap * 8 ≤ 536870912) (hc : cells + 1 ≤ R.cells) (hl : slots + cap ≤ R.slots) (pc' : Nat) (hp : pc + 2 = pc')
    (k : ∀ T' h' cA a, a = h.size → Stand p l e R s m args below meth c T' locs (cells + 1) (slots + cap) → T'.heap = h' → Ext h h' → Arr Z h' a (newA cA (newarray.typeOf aty) n) (newarray.typeOf aty) → own_G p e below Q (T'.setTop (mkF m pc' Ls (.ref a :: st)))) : own_G p e below Q (T.setTop (mkF m pc Ls (.int n :: st))) := by
  subst hp
  obtain ⟨T', h', cA, X', e', E, A, stp⟩ := newP X hx hZ w eT (g := mkF m pc Ls (.int n :: st)) rfl hd rfl hn hcap hb hc hl
  exact own_st stp (k T' h' cA _ rfl X' e' E A)
theorem own_newR (X : Stand p l e R s m args below meth c T locs cells slots) (hx : p.tables.exec = Jvm.exec) (hZ : Z.Warmed39 s.vm) {own : String} (hown : s.vm.findClass own = some m.cls) {C : String} {index : Nat} (w1 : (Cond.classLink own index C).before a0 Z = true) (w2 : (Cond.arrayOver (.object C)).before a0 Z = true) (eT : T.heap = h) (hd : decode c.code pc = .ok (.anewarray index, 3)) {n : Int32} (hn : ¬ n < 0) (cap : Nat) (hcap : n.toNatClampNeg ≤ cap) (hb : cap * 8 ≤ 536870912) (hc : cells + 1 ≤ R.cells) (hl : slots + cap ≤ R.slots) (pc' : Nat) (hp : pc + 3 = pc')
    (k : ∀ T' h' cA a, a = h.size → Stand p l e R s m args below meth c T' locs (cells + 1) (slots + cap) → T'.heap = h' → Ext h h' → Arr Z h' a (newA cA (.object C) n) (.object C) → own_G p e below Q (T'.setTop (mkF m pc' Ls (.ref a :: st)))) : own_G p e below Q (T.setTop (mkF m pc Ls (.int n :: st))) := by
  subst hp
  obtain ⟨T', h', cA, X', e', E, A, -, stp⟩ := newR X hx hZ hown w1 w2 eT (g := mkF m pc Ls (.int n :: st)) rfl hd rfl hn hcap hb hc hl
  exact own_st stp (k T' h' cA _ rfl X' e' E A)
/-- an array of ints, bytes, chars or booleans (as ints): its length, what place j holds -/
def own_A (Z : State) (h : Heap) (a : Addr) (ty : FieldType) (n : Nat) (f : Nat → Int32) : Prop := ∃ c : Cell, Arr Z h a c ty ∧ c.slots.size = n ∧ ∀ j, j < n → c.slots[j]? = some (.int (f j))
variable {h' : Heap} {a b : Addr} {ty : FieldType} {n : Nat} {f : Nat → Int32} {sl : Nat} {v : Value} {wl : List Addr}
theorem own_A.lt (A : own_A Z h a ty n f) : a < h.size := by obtain ⟨c, A, -⟩ := A; exact A.lt
theorem own_A.ext (A : own_A Z h a ty n f) (E : Ext h h') : own_A Z h' a ty n f := by obtain ⟨c, A, r⟩ := A; exact ⟨c, A.ext E, r⟩
theorem own_A.other (A : own_A Z h a ty n f) (W : Wr h h' b sl v) (q : a ≠ b) : own_A Z h' a ty n f := by obtain ⟨c, A, r⟩ := A; exact ⟨c, A.other W q, r⟩
theorem own_A.keep (A : own_A Z h a ty n f) (K : Keep h h' wl) (q : a ∉ wl) : own_A Z h' a ty n f := by obtain ⟨c, A, r⟩ := A; exact ⟨c, ⟨K.2.1 a c A.1 q, A.2⟩, r⟩
theorem own_A.set (A : own_A Z h a ty n f) {i : Nat} {x : Int32} (W : Wr h h' a i (.int x)) : own_A Z h' a ty n (fun j => if i = j then x else f j) := by
  obtain ⟨c, A, S, H⟩ := A
  refine ⟨_, A.same W, by rw [sz_set]; exact S, fun j hj => ?_⟩
  by_cases q : i = j
  · subst q
    simp [Cell.setSlot, S, hj]
  · simp only [Cell.setSlot, q, if_false]
    rw [Array.getElem?_setIfInBounds_ne q]
    exact H j hj
theorem own_A.congr (A : own_A Z h a ty n f) {g : Nat → Int32} (q : ∀ j, j < n → f j = g j) : own_A Z h a ty n g := by
  obtain ⟨c, A, S, H⟩ := A
  exact ⟨c, A, S, fun j hj => by rw [← q j hj]; exact H j hj⟩
theorem own_A.new {cA : ClassId} {z : Int32} (A : Arr Z h a (newA cA ty z) ty) (hz : z.toNatClampNeg = n) (hd : defaultValue ty = .int 0) : own_A Z h a ty n (fun _ => 0) := by
  refine ⟨_, A, by rw [sz_new]; exact hz, fun j hj => ?_⟩
  simp [newA, hz, hj, hd]
theorem own_nin {z : Int32} {nn : Nat} {cl : Cell} (S : cl.slots.size = nn) (q : ¬ z < 0 ∧ z.toNatClampNeg < nn) : ¬ (z < 0 ∨ cl.slots.size ≤ z.toNatClampNeg) := fun w => w.elim q.1 fun u => Nat.not_lt.mpr (S ▸ u) q.2
theorem own_iaload (X : Stand p l e R s m args below meth c T locs cells slots) (hx : p.tables.exec = Jvm.exec) (hZ : Z.Warmed39 s.vm) (eT : T.heap = h) (A : own_A Z h a .int n f) {j : Int32} (hj : ¬ j < 0 ∧ j.toNatClampNeg < n) {x : Int32} (hv : f j.toNatClampNeg = x) (hd : decode c.code pc = .ok (.iaload, 1)) (pc' : Nat) (hp : pc + 1 = pc') (r : own_G p e below Q (T.setTop (mkF m pc' Ls (.int x :: st)))) : own_G p e below Q (T.setTop (mkF m pc Ls (.int j :: .ref a :: st))) := by
  subst hp hv
  obtain ⟨cl, A, S, H⟩ := A
  exact own_st (fun t ht => X.iaload hx (j := j) (by rw [eT]; exact A.1) (State.isArrayOf_alike hZ.alike A.2.1) A.2.2 (own_nin S hj) (H _ hj.2) (g := mkF m pc Ls (.int j :: .ref a :: st)) rfl rfl hd t ht) r
theorem own_zaload (X : Stand p l e R s m args below meth c T locs cells slots) (hx : p.tables.exec = Jvm.exec) (hZ : Z.Warmed39 s.vm) (eT : T.heap = h) (A : own_A Z h a .boolean n f) {j : Int32} (hj : ¬ j < 0 ∧ j.toNatClampNeg < n) {x : Int32} (hv : f j.toNatClampNeg = x) (hd : decode c.code pc = .ok (.baload, 1)) (pc' : Nat) (hp : pc + 1 = pc') (r : own_G p e below Q (T.setTop (mkF m pc' Ls (.int x :: st)))) : own_G p e below Q (T.setTop (mkF m pc Ls (.int j :: .ref a :: st))) := by
  subst hp hv
  obtain ⟨cl, A, S, H⟩ := A
  exact own_st (fun t ht => X.baloadBooleans hx (j := j) (by rw [eT]; exact A.1) (State.isArrayOf_alike hZ.alike A.2.1) A.2.2 (own_nin S hj) (H _ hj.2) (g := mkF m pc Ls (.int j :: .ref a :: st)) rfl rfl hd t ht) r
theorem own_baload (X : Stand p l e R s m args below meth c T locs cells slots) (hx : p.tables.exec = Jvm.exec) (hZ : Z.Warmed39 s.vm) (eT : T.heap = h) (A : own_A Z h a .byte n f) {j : Int32} (hj : ¬ j < 0 ∧ j.toNatClampNeg < n) {x : Int32} (hv : f j.toNatClampNeg = x) (hd : decode c.code pc = .ok (.baload, 1)) (pc' : Nat) (hp : pc + 1 = pc') (r : own_G p e below Q (T.setTop (mkF m pc' Ls (.int x :: st)))) : own_G p e below Q (T.setTop (mkF m pc Ls (.int j :: .ref a :: st))) := by
  subst hp hv
  obtain ⟨cl, A, S, H⟩ := A
  exact own_st (fun t ht => X.baloadBytes hx (j := j) (by rw [eT]; exact A.1) (State.isArrayOf_alike hZ.alike A.2.1) A.2.2 (own_nin S hj) (H _ hj.2) (g := mkF m pc Ls (.int j :: .ref a :: st)) rfl rfl hd t ht) r
theorem own_ialoadE (X : Stand p l e R s m args below meth c T locs cells slots) (hx : p.tables.exec = Jvm.exec) (hZ : Z.Warmed39 s.vm) (eT : T.heap = h) (A : own_A Z h a .int n f) {j : Int32} (hj : ¬ j < 0 ∧ j.toNatClampNeg < n) (hd : decode c.code pc = .ok (.iaload, 1)) (pc' : Nat) (hp : pc + 1 = pc') (r : ∀ x, f j.toNatClampNeg = x → own_G p e below Q (T.setTop (mkF m pc' Ls (.int x :: st)))) : own_G p e below Q (T.setTop (mkF m pc Ls (.int j :: .ref a :: st))) := own_iaload X hx hZ eT A hj rfl hd pc' hp (r _ rfl)
theorem own_zaloadE (X : Stand p l e R s m args below meth c T locs cells slots) (hx : p.tables.exec = Jvm.exec) (hZ : Z.Warmed39 s.vm) (eT : T.heap = h) (A : own_A Z h a .boolean n f) {j : Int32} (hj : ¬ j < 0 ∧ j.toNatClampNeg < n) (hd : decode c.code pc = .ok (.baload, 1)) (pc' : Nat) (hp : pc + 1 = pc') (r : ∀ x, f j.toNatClampNeg = x → own_G p e below Q (T.setTop (mkF m pc' Ls (.int x :: st)))) : own_G p e below Q (T.setTop (mkF m pc Ls (.int j :: .ref a :: st))) := own_zaload X hx hZ eT A hj rfl hd pc' hp (r _ rfl)
theorem own_baloadE (X : Stand p l e R s m args below meth c T locs cells slots) (hx : p.tables.exec = Jvm.exec) (hZ : Z.Warmed39 s.vm) (eT : T.heap = h) (A : own_A Z h a .byte n f) {j : Int32} (hj : ¬ j < 0 ∧ j.toNatClampNeg < n) (hd : decode c.code pc = .ok (.baload, 1)) (pc' : Nat) (hp : pc + 1 = pc') (r : ∀ x, f j.toNatClampNeg = x → own_G p e below Q (T.setTop (mkF m pc' Ls (.int x :: st)))) : own_G p e below Q (T.setTop (mkF m pc Ls (.int j :: .ref a :: st))) := own_baload X hx hZ eT A hj rfl hd pc' hp (r _ rfl)
theorem own_arrlen (X : Stand p l e R s m args below meth c T locs cells slots) (hx : p.tables.exec = Jvm.exec) (hZ : Z.Warmed39 s.vm) (eT : T.heap = h) (A : own_A Z h a ty n f) {z : Int32} (hz : n.toInt32 = z) (hd : decode c.code pc = .ok (.arraylength, 1)) (pc' : Nat) (hp : pc + 1 = pc') (r : own_G p e below Q (T.setTop (mkF m pc' Ls (.int z :: st)))) : own_G p e below Q (T.setTop (mkF m pc Ls (.ref a :: st))) := by
  subst hp hz
  obtain ⟨cl, A, S, H⟩ := A
  subst S
  exact own_st (fun t ht => X.arraylength hx (by rw [eT]; exact A.1) (State.isArrayOf_alike hZ.alike A.2.1) (g := mkF m pc Ls (.ref a :: st)) rfl rfl hd t ht) r
theorem own_iastore (X : Stand p l e R s m args below meth c T locs cells slots) (hx : p.tables.exec = Jvm.exec) (hZ : Z.Warmed39 s.vm) (eT : T.heap = h) (A : own_A Z h a .int n f) {j x : Int32} (hj : ¬ j < 0 ∧ j.toNatClampNeg < n) (hd : decode c.code pc = .ok (.iastore, 1)) (N : Fr n0 locs) (g : n0 ≤ a) (pc' : Nat) (hp : pc + 1 = pc')
    (k : ∀ T' h' locs', Stand p l e R s m args below meth c T' locs' cells slots → Fr n0 locs' → T'.heap = h' → Wr h h' a j.toNatClampNeg (.int x) → own_G p e below Q (T'.setTop (mkF m pc' Ls st))) : own_G p e below Q (T.setTop (mkF m pc Ls (.int x :: .int j :: .ref a :: st))) := by
  subst hp
  obtain ⟨cl, A, S, H⟩ := A
  obtain ⟨T', h', X', e', W, stp⟩ := stI X hx hZ eT A (own_nin S hj) (g := mkF m pc Ls (.int x :: .int j :: .ref a :: st)) rfl rfl hd
  exact own_st stp (k T' h' _ X' (Fr.snoc X' N g) e' W)
theorem own_zastore (X : Stand p l e R s m args below meth c T locs cells slots) (hx : p.tables.exec = Jvm.exec) (hZ : Z.Warmed39 s.vm) (eT : T.heap = h) (A : own_A Z h a .boolean n f) {j x : Int32} (hj : ¬ j < 0 ∧ j.toNatClampNeg < n) (hd : decode c.code pc = .ok (.bastore, 1)) (N : Fr n0 locs) (g : n0 ≤ a) (pc' : Nat) (hp : pc + 1 = pc')
    (k : ∀ T' h' locs', Stand p l e R s m args below meth c T' locs' cells slots → Fr n0 locs' → T'.heap = h' → Wr h h' a j.toNatClampNeg (.int (nar .boolean x)) → own_G p e below Q (T'.setTop (mkF m pc' Ls st))) : own_G p e below Q (T.setTop (mkF m pc Ls (.int x :: .int j :: .ref a :: st))) := by
  subst hp
  obtain ⟨cl, A, S, H⟩ := A
  obtain ⟨T', h', X', e', W, stp⟩ := stZ X hx hZ eT A (own_nin S hj) (g := mkF m pc Ls (.int x :: .int j :: .ref a :: st)) rfl rfl hd
  exact own_st stp (k T' h' _ X' (Fr.snoc X' N g) e' W)
end OwnBase
theorem own_ready {p : Program} {l : Launch} {e : Env} {R : Room} {s : State} {m : MethodId} {args : Array Value} {below : List Frame} {meth : Method} {c : Code} {T : State} {locs : List Loc} {cells slots : Nat} {Z : State} {a0 : Array Value} (X : Stand p l e R s m args below meth c T locs cells slots) (hZ : Z.Warmed39 s.vm) {own : String} (hown : s.vm.findClass own = some m.cls) {O n d : String} {index : Nat} (w : (Cond.fieldRef own index O n d).before a0 Z = true) {cf i : Nat} {k : Class} {f : Field} (hf : Z.fieldFound? O n d = some (cf, k, i, f)) : T.vm.fieldReady m.cls index cf f := by
  have hT : Z.Warmed39 T.vm := wtrans hZ X.warmed
  have w' := Cond.fieldRef_warmed39 hT w
  have hcur : (Z.setVm T.vm).vm.findClass own = some m.cls := by
    show T.vm.findClass own = some m.cls
    rw [X.warmed.alike.findClass]; exact hown
  obtain ⟨c', k', i', f', h1, h2⟩ := Cond.fieldRef_spec hcur w'
  obtain ⟨k2, h3, -⟩ := State.fieldFound?_setVm (s := Z) hT.alike hf
  cases h3.symm.trans h1
  exact h2
section OwnRef
variable {p : Program} {l : Launch} {e : Env} {R : Room} {s : State} {m : MethodId} {args : Array Value} {below : List Frame} {meth : Method} {c : Code} {T : State} {locs : List Loc} {cells slots : Nat} {Q : Outcome → State → Prop} {pc : Nat} {Ls : Array Slot} {st : List Value} {Z : State} {a0 : Array Value} {h : Heap} {n0 : Nat}
theorem own_getFR (X : Stand p l e R s m args below meth c T locs cells slots) (hx : p.tables.exec = Jvm.exec) (hZ : Z.Warmed39 s.vm) {own : String} (hown : s.vm.findClass own = some m.cls) {O n d : String} {index : Nat} (w : (Cond.fieldRef own index O n d).before a0 Z = true) (eT : T.heap = h) {a : Addr} {v : Value} (F : Fld Z h a O n d v) (hd : decode c.code pc = .ok (.getfield index, 3)) (pc' : Nat) (hp : pc + 3 = pc')
    (r : own_G p e below Q (T.setTop (mkF m pc' Ls (v :: st)))) : own_G p e below Q (T.setTop (mkF m pc Ls (.ref a :: st))) := by
  subst hp
  obtain ⟨cell, cf, k, i, f, h1, h2, h3, h4, h5, h6, h7⟩ := F
  have hr := own_ready X hZ hown w h2
  refine own_st (fun t ht => ?_) r
  have hc : T.heap[a]? = some cell := by rw [eT]; exact h1
  jvm_step X.here [hx, hd, getfield.wp_ready (e := e) (s := T) (f := mkF m pc Ls (.ref a :: st)) X.here.top hr h3 rfl hc h4 h7]
  exact ht
theorem own_putFR (X : Stand p l e R s m args below meth c T locs cells slots) (hx : p.tables.exec = Jvm.exec) (hZ : Z.Warmed39 s.vm) {own : String} (hown : s.vm.findClass own = some m.cls) {O n d C : String} {index kk : Nat} {ty : FieldType} (w : (Cond.fieldRef own index O n d).before a0 Z = true) (eT : T.heap = h) {a : Addr} {v old : Value} (F : Fld Z h a O n d old) (E : Exa Z h a C) (L : (Cond.lays C O n d).before a0 Z = true) (wi : (Cond.instantiable C kk).before a0 Z = true)
    (hty : parseFieldDescriptor d = some ty) (hn : narrow ty v = v) (hf : fits ty v = true) (hd : decode c.code pc = .ok (.putfield index, 3)) (N : Fr n0 locs) (g : n0 ≤ a) (pc' : Nat) (hp : pc + 3 = pc')
    (k : ∀ T' h' locs', Stand p l e R s m args below meth c T' locs' cells slots → Fr n0 locs' → T'.heap = h' → Wr h h' a (Jvm.RoadKit.slotOf Z O n d) v → own_G p e below Q (T'.setTop (mkF m pc' Ls st))) : own_G p e below Q (T.setTop (mkF m pc Ls (v :: .ref a :: st))) := by
  subst hp
  obtain ⟨cell, cf, kf, i, f, h1, h2, h3, h4, h5, -, h7⟩ := F
  have hr := own_ready X hZ hown w h2
  obtain ⟨cell', kc, e1, e2, e3, -⟩ := E
  cases h1.symm.trans e1
  obtain ⟨c1, k1, cf1, kf1, i1, f1, a1, a2, a3, -, a5, -, a6, -⟩ := Cond.lays_spec L
  cases h2.symm.trans a3
  cases e2.symm.trans a1
  obtain ⟨c2, k2, j1, j2, j3, -⟩ := Cond.instantiable_spec wi
  cases e2.symm.trans j1
  cases a2.symm.trans j2
  have ht := (State.fieldFound?_type h2 hty).2
  have hfit : Z.fitsSlot cell.cls cell.vm f.slot v = true := by
    have q : Z.slotType? cell.cls cell.vm f.slot = some ty := by
      simp only [State.slotType?, a2, Option.bind_eq_bind, Option.bind_some, j3]
      cases hq : cell.vm <;> first | (rw [hq] at h5; exact Bool.noConfusion h5) | (rw [a6, ht])
    simp [State.fitsSlot, q, hf]
  have hlt : f.slot < cell.slots.size := (Array.getElem?_eq_some_iff.mp h7).1
  have hc : T.heap[a]? = some cell := by rw [eT]; exact h1
  have hT : Z.Warmed39 T.vm := wtrans hZ X.warmed
  have hfitT : T.fitsSlot cell.cls cell.vm f.slot v = true := by
    show (Z.setVm T.vm).fitsSlot cell.cls cell.vm f.slot v = true
    rw [State.fitsSlot_setVm hT.alike]; exact hfit
  have X' := X.stored hc f.slot v
  have es : Jvm.RoadKit.slotOf Z O n d = f.slot := by simp [Jvm.RoadKit.slotOf, h2]
  refine own_st (fun t ht' => ?_) (k _ _ _ X' (Fr.snoc X' N g) rfl ⟨cell, h1, h5, by rw [es]; exact hlt, by rw [es, ← eT]; rfl⟩)
  have hn' : narrow f.type v = v := by rw [ht]; exact hn
  jvm_step X.here [hx, hd, putfield.wp_ready (e := e) (s := T) (f := mkF m pc Ls (v :: .ref a :: st)) X.here.top hr h3 a5 rfl hc h4, hn', hlt, hfitT]
  exact ht'
end OwnRef
section OwnRef2
variable {p : Program} {l : Launch} {e : Env} {R : Room} {s : State} {m : MethodId} {args : Array Value} {below : List Frame} {meth : Method} {c : Code} {T : State} {locs : List Loc} {cells slots : Nat} {Q : Outcome → State → Prop} {pc : Nat} {Ls : Array Slot} {st : List Value} {Z : State} {a0 : Array Value} {h : Heap} {n0 : Nat} {y : MethodName} {bytes : ByteArray} {maxL : Nat} {rm : Room} {as' : Array Value} {P : Option Value → Heap → Prop}
/-- 'invokespecial' of a constructor through an entry that is resolved -/
theorem own_callIR (X : Stand p l e R s m args below meth c T locs cells slots) (hx : p.tables.exec = Jvm.exec) (hZ : Z.Warmed39 s.vm) {own : String} {index : Nat} (hown : s.vm.findClass own = some m.cls) (hi : y.name = "<init>") (w1 : (Cond.methodRef own index y).before a0 Z = true) (w2 : (Cond.instanceMethod y).before a0 Z = true) (wz : (Cond.initialized y.cls).before a0 Z = true) (wc : (Cond.code y bytes maxL none).before a0 Z = true)
    (hy : y.cls ≠ "java/lang/invoke/MethodHandle" ∧ y.cls ≠ "java/lang/invoke/VarHandle") (W : Nat) (M : own_Met l Z y bytes maxL none [] rm as' h n0 P) (eT : T.heap = h) (hml : Ls.size = c.maxLocals) (a : Addr) (argsL rest : List Value) (ha : (Value.ref a :: argsL).toArray = as') (hlen : ∀ sig, parseMethodDescriptor y.desc = some sig → argsL.length = sig.parameters.length)
    (hst : st = argsL.reverse ++ .ref a :: rest) (hW : (rest.map fun v => v.category).sum ≤ W) (hf : rm.frames + 1 ≤ R.frames) (hl : W + (maxL + 11) + rm.locals ≤ R.locals) (hcl : cells + rm.cells ≤ R.cells) (hsl : slots + rm.slots ≤ R.slots) (hd : decode c.code pc = .ok (.invokespecial index, 3)) (N : Fr n0 locs) (pc' : Nat) (hp : pc + 3 = pc')
    (k : ∀ v T' locs', Stand p l e R s m args below meth c T' locs' (cells + rm.cells) (slots + rm.slots) → Fr n0 locs' → P v T'.heap → own_G p e below Q (T'.setTop (mkF m pc' Ls (v.toList ++ rest)))) : own_G p e below Q (T.setTop (mkF m pc Ls st)) := by
  subst hp
  have hT : Z.Warmed39 T.vm := wtrans hZ X.warmed
  obtain ⟨mz, methZ, hnZ, hmZ, hstZ, habZ⟩ := Cond.instanceMethod_spec w2
  have w1' := Cond.methodRef_warmed39 hT hnZ hy w1
  have hcur : (Z.setVm T.vm).vm.findClass own = some m.cls := by
    show T.vm.findClass own = some m.cls
    rw [X.warmed.alike.findClass]; exact hown
  obtain ⟨m', c', hf', hready, hfind, hres⟩ := Cond.methodRef_named e hcur w1'
  have hnT : (Z.setVm T.vm).methodNamed? y = some mz := by rw [State.methodNamed?_setVm hT.alike]; exact hnZ
  cases (State.methodFound?_of_named hnT hy).symm.trans hf'
  cases (findClass_of_methodNamed hnT).symm.trans hfind
  obtain ⟨methC, cC, hmC, hcC, -, -, -, -, -, hsig⟩ := Cond.code_spec hnZ wc
  cases hmZ.symm.trans hmC
  have hmT : (Z.setVm T.vm).vm.method? mz = some methZ := by
    show T.vm.method? mz = _
    rw [hT.alike.method?]; exact hmZ
  obtain ⟨kk, hkk, -⟩ := className_of_methodNamed hnT
  obtain ⟨q1, q2⟩ := name_of_methodNamed hnT hmT
  have hfound : lookupSpecial T.vm mz.cls "<init>" methZ.desc = .method mz := by
    rw [q2, ← hi]
    exact lookupSpecial_of_named hnT hmT hstZ
  obtain ⟨v, ⟨T', L', k', n'⟩, X', ⟨Lc, hQ, l1, y1, z1⟩, stp⟩ := own_back (below' := below) (W := W) (len := 3) M hZ wc wz hf hl m meth c ⟨T, locs, cells, slots⟩ { (mkF m pc Ls st) with stack := rest } (.invokespecial index) mz (.ref a :: argsL).toArray X rfl hml hd (by show 2 * 0 + (rest.map fun v => v.category).sum ≤ W; omega) hnT ⟨ha, eT, hcl, hsl⟩
  dsimp only [Pt.U, Pt.locs, Pt.cells, Pt.slots] at X' l1 y1 z1 stp hQ
  subst l1 y1 z1
  refine own_st (fun t ht => ?_) (k v T' _ X' (N.app hQ.1) hQ.2)
  have hrest : ∀ acts, Steps p.tables e below (doInvoke e (T.setTop { (mkF m pc Ls st) with stack := rest }) acts mz (.ref a :: argsL).toArray).1 t := fun acts => by rw [doInvoke_state]; exact stp.trans ht
  jvm_step X.here [hx, hd, invokespecial.wp_init (e := e) (s := T) (f := mkF m pc Ls st) (m := mz) (k := kk) (meth := methZ) (a := a) (args := argsL) (rest := rest) X.here.top hres hready hkk hmT (q1.trans hi) hstZ habZ hfound (hlen _ hsig) hst]
  exact hrest
end OwnRef2
/-- a Latin-1 String at a whose bytes are those of units, read over the tables of the start -/
theorem own_str {Z W : State} {a : Addr} {units : Array UInt16} (hal : Z.vm.Alike W.vm) (hlat : units.all (· < 256) = true) (S : SlOf W a units) :
    ∃ (b : Addr) (f : Nat → Int32), Exa Z W.heap a "java/lang/String" ∧ Fld Z W.heap a "java/lang/String" "coder" "B" (.int 0) ∧ Fld Z W.heap a "java/lang/String" "value" "[B" (.ref b) ∧ own_A Z W.heap b .byte units.size f := by
  obtain ⟨q, cS, hqa, ⟨⟨s1, s2, s3, ⟨cv, kv, iv, s4, s4'⟩, ⟨cc, kc, ic, s5, s5'⟩, s6, s7, s8, s9, s10, s11, s12, s13, s14, s15, s16⟩, hfS, hcS⟩, ⟨kS, k1, k2, k3⟩, hB, hbyt⟩ := S
  subst hqa
  obtain ⟨kv', z4⟩ := ff_back hal s4
  obtain ⟨kc', z5⟩ := ff_back hal s5
  have hfZ : Z.vm.findClass "java/lang/String" = some q.sC.cls := by rw [← hal.findClass, hcS]; exact hfS
  obtain ⟨kz, hkz, -⟩ := Vm.findClass_spec hfZ
  obtain ⟨kz', hkz', ekz⟩ := hal.2.2 _ _ hkz
  have ekS : kz' = kS := Option.some.inj (hkz'.symm.trans (hcS ▸ k1))
  have hBZ : Z.vm.findClass "[B" = some q.SA.cls := by rw [← hal.findClass]; exact hB
  obtain ⟨kb, hkb, -⟩ := Vm.findClass_spec hBZ
  obtain ⟨kb', hkb', ekb⟩ := hal.2.2 _ _ hkb
  obtain ⟨hst, k9, hk9, comp, hkind9⟩ := s11
  have ek9 : k9 = kb' := Option.some.inj (hk9.symm.trans hkb')
  have hAZ : Z.isArrayOf q.SA .byte := ⟨hst, kb, hkb, comp, by rw [ek9, ekb] at hkind9; exact hkind9⟩
  have hsl : q.SA.slots = units.map fun u => Value.int (Jvm.Lit.byteI u) := by rw [hbyt, SBG.stringBytes_lat hlat]; rfl
  refine ⟨q.sd, fun j => Jvm.Lit.byteI (units.getD j 0), ⟨q.sC, kz, s1, hfZ, hkz, s3, fun ho => by rw [k3, ← ekS, ekz]⟩, ⟨q.sC, cc, kc', ic, q.fSC, s1, z5, s7, s2, s3, by rw [← hal.assignable]; exact s5', s9⟩, ⟨q.sC, cv, kv', iv, q.fSV, s1, z4, s6, s2, s3, by rw [← hal.assignable]; exact s4', s8⟩, ⟨q.SA, ⟨s10, hAZ, s12⟩, by rw [hsl, Array.size_map], fun j hj => ?_⟩⟩
  rw [hsl]
  simp [hj]
section OwnLdc
variable {p : Program} {l : Launch} {e : Env} {R : Room} {s : State} {vm0 : Vm} {m : MethodId} {args : Array Value} {below : List Frame} {meth : Method} {c : Code} {T : State} {locs : List Loc} {cells slots : Nat} {Q : Outcome → State → Prop} {pc : Nat} {Ls : Array Slot} {st : List Value} {Z : State} {a0 : Array Value} {h : Heap} {n0 : Nat}
/-- 'ldc' of a String constant: the String that the JVM holds, or a new one; its length -/
theorem own_ldcS (X : Stand p l e R (s.setVm vm0) m args below meth c T locs cells slots) (hx : p.tables.exec = Jvm.exec) (hZ : Z.Warmed39 vm0) {own text : String} {index : Nat} (hown : vm0.findClass own = some m.cls) (w : (Cond.stringLink own index text).before a0 Z = true) (wS : ∀ a ∈ Bundle.stringAtoms, a.before a0 Z = true)
    (eT : T.heap = h) {k0 : Nat} (hS : s.Since vm0 k0) (hk : k0 ≤ h.size) (O : Old Z n0 h) {Ts : List String} (I : IB Z vm0 Ts) (hnot : text ∉ Ts) (hh : Jvm.Lit.constHeld Z own index) (hcw : Jvm.Lit.compactW.before a0 Z = true) (ht : ∀ c ∈ text.toList, c.toNat < 256)
    (hd : decode c.code pc = .ok (.ldc index, 2)) {n : Nat} (hn : 4 * text.toList.length ≤ n) (hbig : n ≤ 536870912) (hc : cells + 2 ≤ R.cells) (hl : slots + (n + 4) ≤ R.slots) (pc' : Nat) (hp : pc + 2 = pc')
    (k : ∀ (a b : Addr) (f : Nat → Int32) (T' : State) (h' : Heap), Stand p l e R (s.setVm T'.vm) m args below meth c T' locs (cells + 2) (slots + (n + 4)) → T'.heap = h' → Ext h h' → s.Since T'.vm h'.size → Z.Warmed39 T'.vm → T'.vm.findClass own = some m.cls → IB Z T'.vm (text :: Ts) →
      (a < n0 ∨ h.size ≤ a) → Exa Z h' a "java/lang/String" → Fld Z h' a "java/lang/String" "coder" "B" (.int 0) → Fld Z h' a "java/lang/String" "value" "[B" (.ref b) → own_A Z h' b .byte text.toList.length f → own_G p e below Q (T'.setTop (mkF m pc' Ls (.ref a :: st)))) : own_G p e below Q (T.setTop (mkF m pc Ls st)) := by
  subst hp
  have wi : (Cond.instantiable "java/lang/String" 4).before a0 Z = true := wS _ (by simp [Bundle.stringAtoms, Bundle.sN])
  have wa : (Cond.arrayClass .byte).before a0 Z = true := wS _ (by simp [Bundle.stringAtoms])
  have hH : ConstHeldL (Z.setVm vm0) own index := heldCarry (s := Z) hZ w I hnot (fun _ _ q => q) (heldStart hh w ht hcw wa wi)
  have hS' : ∀ a ∈ Bundle.stringAtoms, a.before args (s.setVm vm0) = true := fun d hd => by
    have q := wS d hd
    simp only [Bundle.stringAtoms, List.mem_cons, List.not_mem_nil, or_false] at hd
    rcases hd with rfl | rfl | rfl | rfl | rfl | rfl | rfl
    · exact mv (s := s.setVm vm0) hZ q
    · exact mv (s := s.setVm vm0) hZ q
    · exact mvA (s := s.setVm vm0) hZ q
    · exact mv (s := s.setVm vm0) hZ q
    · exact mv (s := s.setVm vm0) hZ q
    · exact mv (s := s.setVm vm0) hZ q
    · exact mv (s := s.setVm vm0) hZ q
  obtain ⟨a, T', X', hS2, -, hkeep, -, hint, ⟨units, htext, hroad⟩, stp⟩ := X.ldcRoads hx (own := own) hown (mvS hZ w) hS' (g := mkF m pc Ls st) rfl hd hn hbig hc hl
  subst eT
  have E := ext_of hkeep
  have hW : Z.Warmed39 T'.vm := State.Warmed39.trans (t := s.setVm vm0) hZ hS2.1
  have hlat := Jvm.ClassFile.lat_of_text htext ht
  have hTi : T.vm.interned = vm0.interned := X.warmed.interned_eq
  have hsz : units.size = text.toList.length := by
    have := congrArg List.length (Jvm.ClassFile.units_of_text htext ht)
    simpa using this
  have hS3 : s.Since T'.vm T'.heap.size := hS.trans hS2 (Nat.le_trans hk E.1)
  have key : SlOf T' a units ∧ (a < n0 ∨ T.heap.size ≤ a) := by
    rcases hroad with ⟨⟨cc, kk, cf, i, u1, u2, u3, u4, u5, u6⟩, hh'⟩ | M
    · have S1 := hH cc kk cf i units a u1 u2 u3 u4 u5 u6
      refine ⟨S1.moved (W := T') (hZ.alike.symm.trans hW.alike) (fun b cl q => E.2 b cl (O.2.2 b cl q)), Or.inl ?_⟩
      obtain ⟨q, cS, hqa, ⟨⟨s1, -⟩, -⟩, -⟩ := S1
      subst hqa
      exact O.1 ▸ (Array.getElem?_eq_some_iff.mp s1).1
    · obtain ⟨Zs, kS', LZ, n4, hty, -, -, h31, ha, hh2⟩ := M
      subst ha
      have hb : T'.heap[T.heap.size]? = some (bytesOf Zs.cB units) := by rw [hh2]; simp [Array.getElem?_push]
      have hs2 : T'.heap[T.heap.size + 1]? = some (stringAt Zs.cS kS' Zs.fv Zs.fc units T.heap.size) := by
        rw [hh2, Array.getElem?_push, if_pos (by rw [Array.size_push])]
      obtain ⟨q, cS, r1, r2, r3, r4, r5, -⟩ := made_sl hS' LZ n4 hty hS2.1.alike hb hs2 hlat h31 0
      exact ⟨⟨q, cS, r1, r2, r3, r4, r5⟩, Or.inr (Nat.le_succ _)⟩
  obtain ⟨b, f, g1, g2, g3, g4⟩ := own_str hW.alike hlat key.1
  refine own_st stp (k a b f T' _ X' rfl E hS3 hW (by rw [hS2.1.alike.findClass]; exact hown) (I.step (by rw [← hTi]; exact hint)) key.2 g1 g2 g3 (hsz ▸ g4))
end OwnLdc
section OwnWide
variable {p : Program} {l : Launch} {e : Env} {R : Room} {s : State} {vm0 : Vm} {m : MethodId} {args : Array Value} {below : List Frame} {meth : Method} {c : Code} {T : State} {locs : List Loc} {cells slots : Nat} {Q : Outcome → State → Prop} {pc : Nat} {Ls : Array Slot} {st : List Value} {Z : State} {a0 : Array Value} {h : Heap}
def own_EndS (s : State) (rm : Room) (n0 : Nat) (P : Option Value → Heap → Prop) (o : Outcome) (t : State) : Prop := ∃ v L, o = .returned v ∧ (Fr n0 L ∧ P v t.heap) ∧ ReturnedEndW s o t L rm.cells rm.slots
/-- a contract of a body that may intern; it begins where nothing has been interned since the start -/
def own_MetS (l : Launch) (Z : State) (y : MethodName) (bytes : ByteArray) (maxL : Nat) (ret : Option FieldType) (ws : List Jvm.Cond) (rm : Room) (as' : Array Value) (h0 : Heap) (n0 : Nat) (P : Option Value → Heap → Prop) : Prop :=
  MetFree l y (head1 (Jvm.Cond.code y bytes maxL ret :: ws) rm) (fun a U => a = as' ∧ Z.WarmedH U.vm ∧ U.heap = h0) (fun _ _ _ _ _ => True) (fun _ U o U' => own_EndS U rm n0 P o U')
variable {y : MethodName} {bytes : ByteArray} {maxL : Nat} {ret : Option FieldType} {ws : List Jvm.Cond} {rm : Room} {as' : Array Value} {h0 : Heap} {n0 : Nat} {P : Option Value → Heap → Prop}
theorem own_bodyS (pf : plainFor y = true) (body : ∀ p e s m below meth c T, Stand p l e rm (s.setVm s.vm) m as' below meth c T [] 0 0 → p.tables.exec = Jvm.exec → c.code = bytes → c.maxLocals = maxL → s.vm.findClass y.cls = some m.cls → meth.name = y.name → Z.Warmed39 s.vm → Z.WarmedH s.vm → s.Since s.vm 0 → IB Z s.vm [] → T.heap = h0 → meth.sig.returnType = ret → meth.locks = false →
    own_G p e below (own_EndS s rm n0 P) (T.setTop (entryFrame m as' maxL))) : own_MetS l Z y bytes maxL ret ws rm as' h0 n0 P := by
  refine MetFree.of_bodySF pf hisR ?_
  intro p e s m args below meth c s₁ Bd hml0 hP hK
  obtain ⟨e1, hZ, hh⟩ := hP
  cases e1
  exact body p e s m below meth c s₁ (Stand.of_body Bd) Bd.exec Bd.bytes hml0 (findClass_of_methodNamed Bd.named) (name_of_methodNamed Bd.named Bd.method).1 hZ.wide hZ ((State.WarmedH.refl s).since 0) ⟨#[], by rw [hZ.interned_eq]; simp, fun q hq => by simp at hq⟩ (by rw [← hh, Bd.state]; rfl) Bd.returns Bd.notSynchronized
theorem own_retVS (X : Stand p l e R (s.setVm vm0) m args below meth c T locs cells slots) (hx : p.tables.exec = Jvm.exec) {k0 : Nat} (hS : s.Since vm0 k0) (hret : meth.sig.returnType = none) (hlk : meth.locks = false) (hd : decode c.code pc = .ok (.return_, 1)) (hc : cells ≤ rm.cells) (hs : slots ≤ rm.slots) (N : Fr n0 locs) (eT : T.heap = h) (hk : k0 ≤ h.size) (hq : P none h) :
    own_G p e below (own_EndS s rm n0 P) (T.setTop (mkF m pc Ls [])) := by
  subst eT
  obtain ⟨fs, hr, hrun, hended, q1, q2, q3, q4⟩ := X.leaveW hS hk (v := none) (fun _ => rfl) hlk
  exact ⟨_, _, X.returnOut hx hret hd hr, hrun, hended, _, _, rfl, ⟨N, hq⟩, q1, q2, q3, q4.mono hc hs⟩
theorem own_retNS (X : Stand p l e R (s.setVm vm0) m args below meth c T locs cells slots) (hx : p.tables.exec = Jvm.exec) {k0 : Nat} (hS : s.Since vm0 k0) {z : Int32} {t : FieldType} (hret : meth.sig.returnType = some t) (ht : t = .boolean ∨ t = .byte ∨ t = .char ∨ t = .short) (hlk : meth.locks = false) (hd : decode c.code pc = .ok (.ireturn, 1)) (hc : cells ≤ rm.cells) (hs : slots ≤ rm.slots) (N : Fr n0 locs) (eT : T.heap = h) (hk : k0 ≤ h.size) (hq : P (some (.int (nar t z))) h) :
    own_G p e below (own_EndS s rm n0 P) (T.setTop (mkF m pc Ls (.int z :: st))) := by
  subst eT
  obtain ⟨fs, hr, hrun, hended, q1, q2, q3, q4⟩ := X.leaveW hS hk (v := some (.int (nar t z))) (fun h => by rw [hret] at h; cases h) hlk
  exact ⟨_, _, retN X hx hret ht hd hr, hrun, hended, _, _, rfl, ⟨N, hq⟩, q1, q2, q3, q4.mono hc hs⟩
theorem own_backS {W : Nat} {len : Nat} (M : own_MetS l Z y bytes maxL ret [] rm as' h n0 P) (hZ : Z.WarmedH s.vm) (wc : (Cond.code y bytes maxL ret).before a0 Z = true) (wz : (Cond.initialized y.cls).before a0 Z = true) (hf : rm.frames + 1 ≤ R.frames) (hl : W + (maxL + 11) + rm.locals ≤ R.locals) :
    BackS l R p e below s args y len W (fun A a => a = as' ∧ A.U.heap = h ∧ A.cells + rm.cells ≤ R.cells ∧ A.slots + rm.slots ≤ R.slots)
      (fun A _ v B => ∃ L, (Fr n0 L ∧ P v B.U.heap) ∧ B.locs = A.locs ++ L ∧ B.cells = A.cells + rm.cells ∧ B.slots = A.slots + rm.slots) :=
  BackS.of_freeW (bytes := bytes) (maxL := maxL) (ret := ret) (E := fun _ _ o t L k n => k = rm.cells ∧ n = rm.slots ∧ ∃ v, o = .returned v ∧ (Fr n0 L ∧ P v t.heap)) M hf hl
    (fun m meth c A a Y hp => have hU : Z.Warmed39 A.U.vm := wtrans hZ.wide Y.warmed
      ⟨by show (Cond.and _ .tt).before a A.U = true; rw [Cond.before_and, mv hU wc]; rfl, mv hU wc, mv hU wz, hp.2.2.1, hp.2.2.2⟩)
    (fun m meth c A a g mk Y hp => ⟨hp.1, State.WarmedH.trans hZ Y.warmed, hp.2.1⟩) (fun _ _ _ _ _ _ _ _ _ => trivial)
    (fun _ _ _ _ ⟨v, L, h1, h2, h3⟩ => ⟨L, _, _, h3, rfl, rfl, v, h1, h2⟩)
    (fun m meth c A a g mk v t L k n Y hp _ _ ⟨e1, e2, v', e3, e4⟩ => by cases e3; subst e1 e2; exact ⟨L, e4, rfl, rfl, rfl⟩)
/-- the call of a constructor that may intern -/
theorem own_callIS (X : Stand p l e R s m args below meth c T locs cells slots) (hx : p.tables.exec = Jvm.exec) (hZH : Z.WarmedH s.vm) {own : String} {index : Nat} (hown : s.vm.findClass own = some m.cls) (hi : y.name = "<init>") (w1 : (Cond.methodLink own index y).before a0 Z = true) (w2 : (Cond.instanceMethod y).before a0 Z = true) (wz : (Cond.initialized y.cls).before a0 Z = true) (wc : (Cond.code y bytes maxL none).before a0 Z = true)
    (hy : y.cls ≠ "java/lang/invoke/MethodHandle" ∧ y.cls ≠ "java/lang/invoke/VarHandle") (W : Nat) (M : own_MetS l Z y bytes maxL none [] rm as' h n0 P) (eT : T.heap = h) (hml : Ls.size = c.maxLocals) (a : Addr) (argsL rest : List Value) (ha : (Value.ref a :: argsL).toArray = as') (hlen : ∀ sig, parseMethodDescriptor y.desc = some sig → argsL.length = sig.parameters.length)
    (hst : st = argsL.reverse ++ .ref a :: rest) (hW : (rest.map fun v => v.category).sum ≤ W) (hf : rm.frames + 1 ≤ R.frames) (hl : W + (maxL + 11) + rm.locals ≤ R.locals) (hcl : cells + rm.cells ≤ R.cells) (hsl : slots + rm.slots ≤ R.slots) (hd : decode c.code pc = .ok (.invokespecial index, 3)) (N : Fr n0 locs) (pc' : Nat) (hp : pc + 3 = pc')
    (k : ∀ v T' locs', Stand p l e R (s.setVm T'.vm) m args below meth c T' locs' (cells + rm.cells) (slots + rm.slots) → Fr n0 locs' → s.Since T'.vm T'.heap.size → Z.Warmed39 (s.setVm T'.vm).vm → (s.setVm T'.vm).vm.findClass own = some m.cls → P v T'.heap → own_G p e below Q (T'.setTop (mkF m pc' Ls (v.toList ++ rest)))) : own_G p e below Q (T.setTop (mkF m pc Ls st)) := by
  subst hp
  have hZ := hZH.wide
  obtain ⟨v, _, ⟨T', L', k', n'⟩, -, X', hS, -, ⟨Lc, hQ, l1, y1, z1⟩, stp⟩ := X.specialBackS hx (y := y) hi hown (mvT hZ w1) (mvT hZ w2) (mvT hZ wc) hy (own_backS (W := W) M hZH wc wz hf hl) (g := mkF m pc Ls st) rfl hml (Steps.refl _) (a := a) (argsL := argsL) (rest := rest) hlen hst (by show 2 * 0 + _ ≤ _; omega) hd (fun _ _ => ⟨ha, eT, hcl, hsl⟩)
  dsimp only [Pt.U, Pt.locs, Pt.cells, Pt.slots] at X' l1 y1 z1 stp hQ hS
  subst l1 y1 z1
  exact own_st (fun t ht => stp.trans ht) (k v T' _ X' (N.app hQ.1) hS (State.Warmed39.trans hZ hS.1) (by rw [show (s.setVm T'.vm).vm = T'.vm from rfl, hS.1.alike.findClass]; exact hown) hQ.2)
end OwnWide
abbrev own_lt (a b : Nat) : Prop := a < b
abbrev own_le (a b : Nat) : Prop := a ≤ b
theorem own_far {n0 y k : Nat} {h : Heap} (f : k < n0 ∨ h.size ≤ k) (g : n0 ≤ y) (q : y < h.size) : y ≠ k := by omega
theorem own_An {Z : State} {h : Heap} {b : Addr} {t : FieldType} {n n' : Nat} {f : Nat → Int32} (e : n = n') (A : own_A Z h b t n f) : own_A Z h b t n' f := e ▸ A
theorem own_bastore {p : Program} {l : Launch} {e : Env} {R : Room} {s : State} {m : MethodId} {args : Array Value} {below : List Frame} {meth : Method} {c : Code} {T : State} {locs : List Loc} {cells slots : Nat} {Q : Outcome → State → Prop} {pc : Nat} {Ls : Array Slot} {st : List Value} {Z : State} {h : Heap} {n0 : Nat} {a : Addr} {n : Nat} {f : Nat → Int32} (X : Stand p l e R s m args below meth c T locs cells slots) (hx : p.tables.exec = Jvm.exec) (hZ : Z.Warmed39 s.vm) (eT : T.heap = h) (A : own_A Z h a .byte n f) {j x : Int32} (hj : ¬ j < 0 ∧ j.toNatClampNeg < n) (hd : decode c.code pc = .ok (.bastore, 1)) (N : Fr n0 locs) (g : n0 ≤ a) (pc' : Nat) (hp : pc + 1 = pc')
    (k : ∀ T' h' locs', Stand p l e R s m args below meth c T' locs' cells slots → Fr n0 locs' → T'.heap = h' → Wr h h' a j.toNatClampNeg (.int (nar .byte x)) → own_G p e below Q (T'.setTop (mkF m pc' Ls st))) : own_G p e below Q (T.setTop (mkF m pc Ls (.int x :: .int j :: .ref a :: st))) := by
  subst hp
  obtain ⟨cl, A, S, H⟩ := A
  obtain ⟨T', h', X', e', W, stp⟩ := stB X hx hZ eT A (own_nin S hj) (g := mkF m pc Ls (.int x :: .int j :: .ref a :: st)) rfl rfl hd
  exact own_st stp (k T' h' _ X' (Fr.snoc X' N g) e' W)
theorem own_pn_MarkupName : plainName "com/example/xqwry/xqwry/MarkupName" = true := by first | (simp [plainName, overriddenIn]; done) | decide +kernel
theorem own_pn_MarkupName_Resolution : plainName "com/example/xqwry/xqwry/MarkupName$Resolution" = true := by first | (simp [plainName, overriddenIn]; done) | decide +kernel
theorem own_pn_MarkupNameResolvedPinLaw : plainName "com/example/xqwry/xqwry/MarkupNameResolvedPinLaw" = true := by first | (simp [plainName, overriddenIn]; done) | decide +kernel

theorem own_pn_String : plainName "java/lang/String" = true := by first | (simp [plainName, overriddenIn]; done) | decide +kernel
theorem own_pn_StringLatin1 : plainName "java/lang/StringLatin1" = true := by first | (simp [plainName, overriddenIn]; done) | decide +kernel
theorem own_pn_StringUTF16 : plainName "java/lang/StringUTF16" = true := by first | (simp [plainName, overriddenIn]; done) | decide +kernel
theorem own_w0 {Z : State} {a0 : Array Value} (hw : ∀ d ∈ tables_1, d.before a0 Z = true) : ((Jvm.Cond.arrayClass Jvm.ClassFile.FieldType.char)).before a0 Z = true := hw _ (List.mem_of_getElem? (i := 0) rfl)
theorem own_w1 {Z : State} {a0 : Array Value} (hw : ∀ d ∈ tables_1, d.before a0 Z = true) : ((Jvm.Cond.classLink "com/example/xqwry/xqwry/MarkupNameResolvedPinLaw" (7 : Nat) "com/example/xqwry/xqwry/MarkupName")).before a0 Z = true := hw _ (List.mem_of_getElem? (i := 1) rfl)
theorem own_w2 {Z : State} {a0 : Array Value} (hw : ∀ d ∈ tables_1, d.before a0 Z = true) : ((Jvm.Cond.instantiable "com/example/xqwry/xqwry/MarkupName" (6 : Nat))).before a0 Z = true := hw _ (List.mem_of_getElem? (i := 2) rfl)
theorem own_w3 {Z : State} {a0 : Array Value} (hw : ∀ d ∈ tables_1, d.before a0 Z = true) : ((Jvm.Cond.initialized "com/example/xqwry/xqwry/MarkupName")).before a0 Z = true := hw _ (List.mem_of_getElem? (i := 3) rfl)
theorem own_w4 {Z : State} {a0 : Array Value} (hw : ∀ d ∈ tables_1, d.before a0 Z = true) : ((Jvm.Cond.classLink "com/example/xqwry/xqwry/MarkupNameResolvedPinLaw" (9 : Nat) "java/lang/String")).before a0 Z = true := hw _ (List.mem_of_getElem? (i := 4) rfl)
theorem own_w5 {Z : State} {a0 : Array Value} (hw : ∀ d ∈ tables_1, d.before a0 Z = true) : ((Jvm.Cond.instantiable "java/lang/String" (4 : Nat))).before a0 Z = true := hw _ (List.mem_of_getElem? (i := 5) rfl)
theorem own_w6 {Z : State} {a0 : Array Value} (hw : ∀ d ∈ tables_1, d.before a0 Z = true) : ((Jvm.Cond.initialized "java/lang/String")).before a0 Z = true := hw _ (List.mem_of_getElem? (i := 6) rfl)
theorem own_w7 {Z : State} {a0 : Array Value} (hw : ∀ d ∈ tables_1, d.before a0 Z = true) : ((Jvm.Cond.methodLink "com/example/xqwry/xqwry/MarkupNameResolvedPinLaw" (11 : Nat) ({ cls := "java/lang/String", name := "<init>", desc := "([C)V" } : Jvm.MethodName))).before a0 Z = true := hw _ (List.mem_of_getElem? (i := 7) rfl)
theorem own_w8 {Z : State} {a0 : Array Value} (hw : ∀ d ∈ tables_1, d.before a0 Z = true) : ((Jvm.Cond.instanceMethod ({ cls := "java/lang/String", name := "<init>", desc := "([C)V" } : Jvm.MethodName))).before a0 Z = true := hw _ (List.mem_of_getElem? (i := 8) rfl)
theorem own_w9 {Z : State} {a0 : Array Value} (hw : ∀ d ∈ tables_1, d.before a0 Z = true) : ((Jvm.Cond.code ({ cls := "java/lang/String", name := "<init>", desc := "([C)V" } : Jvm.MethodName) jdk_42_method_3_code (2 : Nat) (Option.none : Option Jvm.ClassFile.FieldType))).before a0 Z = true := hw _ (List.mem_of_getElem? (i := 9) rfl)
theorem own_w10 {Z : State} {a0 : Array Value} (hw : ∀ d ∈ tables_1, d.before a0 Z = true) : ((Jvm.Cond.methodLink "java/lang/String" (27 : Nat) ({ cls := "java/lang/String", name := "<init>", desc := "([CIILjava/lang/Void;)V" } : Jvm.MethodName))).before a0 Z = true := hw _ (List.mem_of_getElem? (i := 10) rfl)
theorem own_w11 {Z : State} {a0 : Array Value} (hw : ∀ d ∈ tables_1, d.before a0 Z = true) : ((Jvm.Cond.instanceMethod ({ cls := "java/lang/String", name := "<init>", desc := "([CIILjava/lang/Void;)V" } : Jvm.MethodName))).before a0 Z = true := hw _ (List.mem_of_getElem? (i := 11) rfl)
theorem own_w13 {Z : State} {a0 : Array Value} (hw : ∀ d ∈ tables_1, d.before a0 Z = true) : ((Jvm.Cond.code ({ cls := "java/lang/String", name := "<init>", desc := "([CIILjava/lang/Void;)V" } : Jvm.MethodName) jdk_42_method_149_code (6 : Nat) (Option.none : Option Jvm.ClassFile.FieldType))).before a0 Z = true := hw _ (List.mem_of_getElem? (i := 13) rfl)
theorem own_w14 {Z : State} {a0 : Array Value} (hw : ∀ d ∈ tables_1, d.before a0 Z = true) : ((Jvm.Cond.methodLink "java/lang/String" (1 : Nat) ({ cls := "java/lang/Object", name := "<init>", desc := "()V" } : Jvm.MethodName))).before a0 Z = true := hw _ (List.mem_of_getElem? (i := 14) rfl)
theorem own_w15 {Z : State} {a0 : Array Value} (hw : ∀ d ∈ tables_1, d.before a0 Z = true) : ((Jvm.Cond.instanceMethod ({ cls := "java/lang/Object", name := "<init>", desc := "()V" } : Jvm.MethodName))).before a0 Z = true := hw _ (List.mem_of_getElem? (i := 15) rfl)
theorem own_w16 {Z : State} {a0 : Array Value} (hw : ∀ d ∈ tables_1, d.before a0 Z = true) : ((Jvm.Cond.code ({ cls := "java/lang/Object", name := "<init>", desc := "()V" } : Jvm.MethodName) object_method_1_code (1 : Nat) (Option.none : Option Jvm.ClassFile.FieldType))).before a0 Z = true := hw _ (List.mem_of_getElem? (i := 16) rfl)
theorem own_w17 {Z : State} {a0 : Array Value} (hw : ∀ d ∈ tables_1, d.before a0 Z = true) : ((Jvm.Cond.fieldLink "java/lang/String" (38 : Nat) "java/lang/String" "COMPACT_STRINGS" "Z")).before a0 Z = true := hw _ (List.mem_of_getElem? (i := 17) rfl)
theorem own_w18 {Z : State} {a0 : Array Value} (hw : ∀ d ∈ tables_1, d.before a0 Z = true) : ((Jvm.Cond.methodLink "java/lang/String" (177 : Nat) ({ cls := "java/lang/StringUTF16", name := "compress", desc := "([CII)[B" } : Jvm.MethodName))).before a0 Z = true := hw _ (List.mem_of_getElem? (i := 18) rfl)
theorem own_w19 {Z : State} {a0 : Array Value} (hw : ∀ d ∈ tables_1, d.before a0 Z = true) : ((Jvm.Cond.static ({ cls := "java/lang/StringUTF16", name := "compress", desc := "([CII)[B" } : Jvm.MethodName))).before a0 Z = true := hw _ (List.mem_of_getElem? (i := 19) rfl)
theorem own_w20 {Z : State} {a0 : Array Value} (hw : ∀ d ∈ tables_1, d.before a0 Z = true) : ((Jvm.Cond.initialized "java/lang/StringUTF16")).before a0 Z = true := hw _ (List.mem_of_getElem? (i := 20) rfl)
theorem own_w21 {Z : State} {a0 : Array Value} (hw : ∀ d ∈ tables_1, d.before a0 Z = true) : ((Jvm.Cond.code ({ cls := "java/lang/StringUTF16", name := "compress", desc := "([CII)[B" } : Jvm.MethodName) jdk_52_method_16_code (6 : Nat) (Option.some (Jvm.ClassFile.FieldType.array Jvm.ClassFile.FieldType.byte)))).before a0 Z = true := hw _ (List.mem_of_getElem? (i := 21) rfl)
theorem own_w22 {Z : State} {a0 : Array Value} (hw : ∀ d ∈ tables_1, d.before a0 Z = true) : ((Jvm.Cond.arrayClass Jvm.ClassFile.FieldType.byte)).before a0 Z = true := hw _ (List.mem_of_getElem? (i := 22) rfl)
theorem own_w23 {Z : State} {a0 : Array Value} (hw : ∀ d ∈ tables_1, d.before a0 Z = true) : ((Jvm.Cond.methodLink "java/lang/StringUTF16" (115 : Nat) ({ cls := "java/lang/StringUTF16", name := "compress", desc := "([CI[BII)I" } : Jvm.MethodName))).before a0 Z = true := hw _ (List.mem_of_getElem? (i := 23) rfl)
theorem own_w24 {Z : State} {a0 : Array Value} (hw : ∀ d ∈ tables_1, d.before a0 Z = true) : ((Jvm.Cond.static ({ cls := "java/lang/StringUTF16", name := "compress", desc := "([CI[BII)I" } : Jvm.MethodName))).before a0 Z = true := hw _ (List.mem_of_getElem? (i := 24) rfl)
theorem own_w25 {Z : State} {a0 : Array Value} (hw : ∀ d ∈ tables_1, d.before a0 Z = true) : ((Jvm.Cond.code ({ cls := "java/lang/StringUTF16", name := "compress", desc := "([CI[BII)I" } : Jvm.MethodName) jdk_52_method_21_code (7 : Nat) (Option.some Jvm.ClassFile.FieldType.int))).before a0 Z = true := hw _ (List.mem_of_getElem? (i := 25) rfl)
theorem own_w26 {Z : State} {a0 : Array Value} (hw : ∀ d ∈ tables_1, d.before a0 Z = true) : ((Jvm.Cond.methodLink "java/lang/String" (47 : Nat) ({ cls := "java/lang/StringUTF16", name := "coderFromArrayLen", desc := "([BI)B" } : Jvm.MethodName))).before a0 Z = true := hw _ (List.mem_of_getElem? (i := 26) rfl)
theorem own_w27 {Z : State} {a0 : Array Value} (hw : ∀ d ∈ tables_1, d.before a0 Z = true) : ((Jvm.Cond.static ({ cls := "java/lang/StringUTF16", name := "coderFromArrayLen", desc := "([BI)B" } : Jvm.MethodName))).before a0 Z = true := hw _ (List.mem_of_getElem? (i := 27) rfl)
theorem own_w28 {Z : State} {a0 : Array Value} (hw : ∀ d ∈ tables_1, d.before a0 Z = true) : ((Jvm.Cond.code ({ cls := "java/lang/StringUTF16", name := "coderFromArrayLen", desc := "([BI)B" } : Jvm.MethodName) jdk_52_method_15_code (2 : Nat) (Option.some Jvm.ClassFile.FieldType.byte))).before a0 Z = true := hw _ (List.mem_of_getElem? (i := 28) rfl)
theorem own_w29 {Z : State} {a0 : Array Value} (hw : ∀ d ∈ tables_1, d.before a0 Z = true) : ((Jvm.Cond.fieldLink "java/lang/String" (15 : Nat) "java/lang/String" "coder" "B")).before a0 Z = true := hw _ (List.mem_of_getElem? (i := 29) rfl)
theorem own_w30 {Z : State} {a0 : Array Value} (hw : ∀ d ∈ tables_1, d.before a0 Z = true) : ((Jvm.Cond.laysFinal "java/lang/String" "java/lang/String" "coder" "B")).before a0 Z = true := hw _ (List.mem_of_getElem? (i := 30) rfl)
theorem own_w31 {Z : State} {a0 : Array Value} (hw : ∀ d ∈ tables_1, d.before a0 Z = true) : ((Jvm.Cond.fieldLink "java/lang/String" (9 : Nat) "java/lang/String" "value" "[B")).before a0 Z = true := hw _ (List.mem_of_getElem? (i := 31) rfl)
theorem own_w32 {Z : State} {a0 : Array Value} (hw : ∀ d ∈ tables_1, d.before a0 Z = true) : ((Jvm.Cond.laysFinal "java/lang/String" "java/lang/String" "value" "[B")).before a0 Z = true := hw _ (List.mem_of_getElem? (i := 32) rfl)
theorem own_w33 {Z : State} {a0 : Array Value} (hw : ∀ d ∈ tables_1, d.before a0 Z = true) : ((Jvm.Cond.methodLink "com/example/xqwry/xqwry/MarkupNameResolvedPinLaw" (14 : Nat) ({ cls := "com/example/xqwry/xqwry/MarkupName", name := "<init>", desc := "(Ljava/lang/String;)V" } : Jvm.MethodName))).before a0 Z = true := hw _ (List.mem_of_getElem? (i := 33) rfl)
theorem own_w34 {Z : State} {a0 : Array Value} (hw : ∀ d ∈ tables_1, d.before a0 Z = true) : ((Jvm.Cond.instanceMethod ({ cls := "com/example/xqwry/xqwry/MarkupName", name := "<init>", desc := "(Ljava/lang/String;)V" } : Jvm.MethodName))).before a0 Z = true := hw _ (List.mem_of_getElem? (i := 34) rfl)
theorem own_w35 {Z : State} {a0 : Array Value} (hw : ∀ d ∈ tables_1, d.before a0 Z = true) : ((Jvm.Cond.code ({ cls := "com/example/xqwry/xqwry/MarkupName", name := "<init>", desc := "(Ljava/lang/String;)V" } : Jvm.MethodName) prog_166_method_1_code (2 : Nat) (Option.none : Option Jvm.ClassFile.FieldType))).before a0 Z = true := hw _ (List.mem_of_getElem? (i := 35) rfl)
theorem own_w36 {Z : State} {a0 : Array Value} (hw : ∀ d ∈ tables_1, d.before a0 Z = true) : ((Jvm.Cond.methodLink "com/example/xqwry/xqwry/MarkupName" (1 : Nat) ({ cls := "java/lang/Object", name := "<init>", desc := "()V" } : Jvm.MethodName))).before a0 Z = true := hw _ (List.mem_of_getElem? (i := 36) rfl)
theorem own_w37 {Z : State} {a0 : Array Value} (hw : ∀ d ∈ tables_1, d.before a0 Z = true) : ((Jvm.Cond.classLink "com/example/xqwry/xqwry/MarkupName" (7 : Nat) "com/example/xqwry/xqwry/MarkupName$Resolution")).before a0 Z = true := hw _ (List.mem_of_getElem? (i := 37) rfl)
theorem own_w38 {Z : State} {a0 : Array Value} (hw : ∀ d ∈ tables_1, d.before a0 Z = true) : ((Jvm.Cond.instantiable "com/example/xqwry/xqwry/MarkupName$Resolution" (2 : Nat))).before a0 Z = true := hw _ (List.mem_of_getElem? (i := 38) rfl)
theorem own_w39 {Z : State} {a0 : Array Value} (hw : ∀ d ∈ tables_1, d.before a0 Z = true) : ((Jvm.Cond.initialized "com/example/xqwry/xqwry/MarkupName$Resolution")).before a0 Z = true := hw _ (List.mem_of_getElem? (i := 39) rfl)
theorem own_w40 {Z : State} {a0 : Array Value} (hw : ∀ d ∈ tables_1, d.before a0 Z = true) : ((Jvm.Cond.methodRef "com/example/xqwry/xqwry/MarkupName" (9 : Nat) ({ cls := "com/example/xqwry/xqwry/MarkupName$Resolution", name := "<init>", desc := "()V" } : Jvm.MethodName))).before a0 Z = true := hw _ (List.mem_of_getElem? (i := 40) rfl)
theorem own_w41 {Z : State} {a0 : Array Value} (hw : ∀ d ∈ tables_1, d.before a0 Z = true) : ((Jvm.Cond.instanceMethod ({ cls := "com/example/xqwry/xqwry/MarkupName$Resolution", name := "<init>", desc := "()V" } : Jvm.MethodName))).before a0 Z = true := hw _ (List.mem_of_getElem? (i := 41) rfl)
theorem own_w42 {Z : State} {a0 : Array Value} (hw : ∀ d ∈ tables_1, d.before a0 Z = true) : ((Jvm.Cond.code ({ cls := "com/example/xqwry/xqwry/MarkupName$Resolution", name := "<init>", desc := "()V" } : Jvm.MethodName) prog_167_method_1_code (1 : Nat) (Option.none : Option Jvm.ClassFile.FieldType))).before a0 Z = true := hw _ (List.mem_of_getElem? (i := 42) rfl)
theorem own_w43 {Z : State} {a0 : Array Value} (hw : ∀ d ∈ tables_1, d.before a0 Z = true) : ((Jvm.Cond.methodLink "com/example/xqwry/xqwry/MarkupName$Resolution" (1 : Nat) ({ cls := "java/lang/Object", name := "<init>", desc := "()V" } : Jvm.MethodName))).before a0 Z = true := hw _ (List.mem_of_getElem? (i := 43) rfl)
theorem own_w44 {Z : State} {a0 : Array Value} (hw : ∀ d ∈ tables_1, d.before a0 Z = true) : ((Jvm.Cond.fieldLink "com/example/xqwry/xqwry/MarkupName$Resolution" (7 : Nat) "com/example/xqwry/xqwry/MarkupName$Resolution" "name" "I")).before a0 Z = true := hw _ (List.mem_of_getElem? (i := 44) rfl)
theorem own_w45 {Z : State} {a0 : Array Value} (hw : ∀ d ∈ tables_1, d.before a0 Z = true) : ((Jvm.Cond.lays "com/example/xqwry/xqwry/MarkupName$Resolution" "com/example/xqwry/xqwry/MarkupName$Resolution" "name" "I")).before a0 Z = true := hw _ (List.mem_of_getElem? (i := 45) rfl)
theorem own_w46 {Z : State} {a0 : Array Value} (hw : ∀ d ∈ tables_1, d.before a0 Z = true) : ((Jvm.Cond.fieldLink "com/example/xqwry/xqwry/MarkupName$Resolution" (13 : Nat) "com/example/xqwry/xqwry/MarkupName$Resolution" "namespaceChanges" "I")).before a0 Z = true := hw _ (List.mem_of_getElem? (i := 46) rfl)
theorem own_w47 {Z : State} {a0 : Array Value} (hw : ∀ d ∈ tables_1, d.before a0 Z = true) : ((Jvm.Cond.lays "com/example/xqwry/xqwry/MarkupName$Resolution" "com/example/xqwry/xqwry/MarkupName$Resolution" "namespaceChanges" "I")).before a0 Z = true := hw _ (List.mem_of_getElem? (i := 47) rfl)
theorem own_w48 {Z : State} {a0 : Array Value} (hw : ∀ d ∈ tables_1, d.before a0 Z = true) : ((Jvm.Cond.fieldLink "com/example/xqwry/xqwry/MarkupName" (10 : Nat) "com/example/xqwry/xqwry/MarkupName" "asElement" "Lcom/example/xqwry/xqwry/MarkupName$Resolution;")).before a0 Z = true := hw _ (List.mem_of_getElem? (i := 48) rfl)
theorem own_w49 {Z : State} {a0 : Array Value} (hw : ∀ d ∈ tables_1, d.before a0 Z = true) : ((Jvm.Cond.laysFinal "com/example/xqwry/xqwry/MarkupName" "com/example/xqwry/xqwry/MarkupName" "asElement" "Lcom/example/xqwry/xqwry/MarkupName$Resolution;")).before a0 Z = true := hw _ (List.mem_of_getElem? (i := 49) rfl)
theorem own_w50 {Z : State} {a0 : Array Value} (hw : ∀ d ∈ tables_1, d.before a0 Z = true) : ((Jvm.Cond.fieldLink "com/example/xqwry/xqwry/MarkupName" (16 : Nat) "com/example/xqwry/xqwry/MarkupName" "asAttribute" "Lcom/example/xqwry/xqwry/MarkupName$Resolution;")).before a0 Z = true := hw _ (List.mem_of_getElem? (i := 50) rfl)
theorem own_w51 {Z : State} {a0 : Array Value} (hw : ∀ d ∈ tables_1, d.before a0 Z = true) : ((Jvm.Cond.laysFinal "com/example/xqwry/xqwry/MarkupName" "com/example/xqwry/xqwry/MarkupName" "asAttribute" "Lcom/example/xqwry/xqwry/MarkupName$Resolution;")).before a0 Z = true := hw _ (List.mem_of_getElem? (i := 51) rfl)
theorem own_w52 {Z : State} {a0 : Array Value} (hw : ∀ d ∈ tables_1, d.before a0 Z = true) : ((Jvm.Cond.fieldLink "com/example/xqwry/xqwry/MarkupName" (19 : Nat) "com/example/xqwry/xqwry/MarkupName" "lexicalName" "Ljava/lang/String;")).before a0 Z = true := hw _ (List.mem_of_getElem? (i := 52) rfl)
theorem own_w53 {Z : State} {a0 : Array Value} (hw : ∀ d ∈ tables_1, d.before a0 Z = true) : ((Jvm.Cond.laysFinal "com/example/xqwry/xqwry/MarkupName" "com/example/xqwry/xqwry/MarkupName" "lexicalName" "Ljava/lang/String;")).before a0 Z = true := hw _ (List.mem_of_getElem? (i := 53) rfl)
theorem own_w54 {Z : State} {a0 : Array Value} (hw : ∀ d ∈ tables_1, d.before a0 Z = true) : ((Jvm.Cond.methodLink "com/example/xqwry/xqwry/MarkupName" (23 : Nat) ({ cls := "java/lang/String", name := "indexOf", desc := "(I)I" } : Jvm.MethodName))).before a0 Z = true := hw _ (List.mem_of_getElem? (i := 54) rfl)
theorem own_w55 {Z : State} {a0 : Array Value} (hw : ∀ d ∈ tables_1, d.before a0 Z = true) : ((Jvm.Cond.declares ({ cls := "java/lang/String", name := "indexOf", desc := "(I)I" } : Jvm.MethodName))).before a0 Z = true := hw _ (List.mem_of_getElem? (i := 55) rfl)
theorem own_w56 {Z : State} {a0 : Array Value} (hw : ∀ d ∈ tables_1, d.before a0 Z = true) : ((Jvm.Cond.instanceMethod ({ cls := "java/lang/String", name := "indexOf", desc := "(I)I" } : Jvm.MethodName))).before a0 Z = true := hw _ (List.mem_of_getElem? (i := 56) rfl)
theorem own_w57 {Z : State} {a0 : Array Value} (hw : ∀ d ∈ tables_1, d.before a0 Z = true) : ((Jvm.Cond.selects "java/lang/String" ({ cls := "java/lang/String", name := "indexOf", desc := "(I)I" } : Jvm.MethodName) ({ cls := "java/lang/String", name := "indexOf", desc := "(I)I" } : Jvm.MethodName))).before a0 Z = true := hw _ (List.mem_of_getElem? (i := 57) rfl)
theorem own_w58 {Z : State} {a0 : Array Value} (hw : ∀ d ∈ tables_1, d.before a0 Z = true) : ((Jvm.Cond.code ({ cls := "java/lang/String", name := "indexOf", desc := "(I)I" } : Jvm.MethodName) jdk_42_method_79_code (2 : Nat) (Option.some Jvm.ClassFile.FieldType.int))).before a0 Z = true := hw _ (List.mem_of_getElem? (i := 58) rfl)
theorem own_w59 {Z : State} {a0 : Array Value} (hw : ∀ d ∈ tables_1, d.before a0 Z = true) : ((Jvm.Cond.methodLink "java/lang/String" (633 : Nat) ({ cls := "java/lang/String", name := "indexOf", desc := "(II)I" } : Jvm.MethodName))).before a0 Z = true := hw _ (List.mem_of_getElem? (i := 59) rfl)
theorem own_w60 {Z : State} {a0 : Array Value} (hw : ∀ d ∈ tables_1, d.before a0 Z = true) : ((Jvm.Cond.declares ({ cls := "java/lang/String", name := "indexOf", desc := "(II)I" } : Jvm.MethodName))).before a0 Z = true := hw _ (List.mem_of_getElem? (i := 60) rfl)
theorem own_w61 {Z : State} {a0 : Array Value} (hw : ∀ d ∈ tables_1, d.before a0 Z = true) : ((Jvm.Cond.instanceMethod ({ cls := "java/lang/String", name := "indexOf", desc := "(II)I" } : Jvm.MethodName))).before a0 Z = true := hw _ (List.mem_of_getElem? (i := 61) rfl)
theorem own_w62 {Z : State} {a0 : Array Value} (hw : ∀ d ∈ tables_1, d.before a0 Z = true) : ((Jvm.Cond.selects "java/lang/String" ({ cls := "java/lang/String", name := "indexOf", desc := "(II)I" } : Jvm.MethodName) ({ cls := "java/lang/String", name := "indexOf", desc := "(II)I" } : Jvm.MethodName))).before a0 Z = true := hw _ (List.mem_of_getElem? (i := 62) rfl)
theorem own_w63 {Z : State} {a0 : Array Value} (hw : ∀ d ∈ tables_1, d.before a0 Z = true) : ((Jvm.Cond.code ({ cls := "java/lang/String", name := "indexOf", desc := "(II)I" } : Jvm.MethodName) jdk_42_method_80_code (3 : Nat) (Option.some Jvm.ClassFile.FieldType.int))).before a0 Z = true := hw _ (List.mem_of_getElem? (i := 63) rfl)
theorem own_w64 {Z : State} {a0 : Array Value} (hw : ∀ d ∈ tables_1, d.before a0 Z = true) : ((Jvm.Cond.methodLink "java/lang/String" (492 : Nat) ({ cls := "java/lang/String", name := "isLatin1", desc := "()Z" } : Jvm.MethodName))).before a0 Z = true := hw _ (List.mem_of_getElem? (i := 64) rfl)
theorem own_w65 {Z : State} {a0 : Array Value} (hw : ∀ d ∈ tables_1, d.before a0 Z = true) : ((Jvm.Cond.declares ({ cls := "java/lang/String", name := "isLatin1", desc := "()Z" } : Jvm.MethodName))).before a0 Z = true := hw _ (List.mem_of_getElem? (i := 65) rfl)
theorem own_w66 {Z : State} {a0 : Array Value} (hw : ∀ d ∈ tables_1, d.before a0 Z = true) : ((Jvm.Cond.instanceMethod ({ cls := "java/lang/String", name := "isLatin1", desc := "()Z" } : Jvm.MethodName))).before a0 Z = true := hw _ (List.mem_of_getElem? (i := 66) rfl)
theorem own_w67 {Z : State} {a0 : Array Value} (hw : ∀ d ∈ tables_1, d.before a0 Z = true) : ((Jvm.Cond.selects "java/lang/String" ({ cls := "java/lang/String", name := "isLatin1", desc := "()Z" } : Jvm.MethodName) ({ cls := "java/lang/String", name := "isLatin1", desc := "()Z" } : Jvm.MethodName))).before a0 Z = true := hw _ (List.mem_of_getElem? (i := 67) rfl)
theorem own_w68 {Z : State} {a0 : Array Value} (hw : ∀ d ∈ tables_1, d.before a0 Z = true) : ((Jvm.Cond.code ({ cls := "java/lang/String", name := "isLatin1", desc := "()Z" } : Jvm.MethodName) jdk_42_method_154_code (1 : Nat) (Option.some Jvm.ClassFile.FieldType.boolean))).before a0 Z = true := hw _ (List.mem_of_getElem? (i := 68) rfl)
theorem own_w69 {Z : State} {a0 : Array Value} (hw : ∀ d ∈ tables_1, d.before a0 Z = true) : ((Jvm.Cond.methodLink "java/lang/String" (505 : Nat) ({ cls := "java/lang/String", name := "length", desc := "()I" } : Jvm.MethodName))).before a0 Z = true := hw _ (List.mem_of_getElem? (i := 69) rfl)
theorem own_w70 {Z : State} {a0 : Array Value} (hw : ∀ d ∈ tables_1, d.before a0 Z = true) : ((Jvm.Cond.declares ({ cls := "java/lang/String", name := "length", desc := "()I" } : Jvm.MethodName))).before a0 Z = true := hw _ (List.mem_of_getElem? (i := 70) rfl)
theorem own_w71 {Z : State} {a0 : Array Value} (hw : ∀ d ∈ tables_1, d.before a0 Z = true) : ((Jvm.Cond.instanceMethod ({ cls := "java/lang/String", name := "length", desc := "()I" } : Jvm.MethodName))).before a0 Z = true := hw _ (List.mem_of_getElem? (i := 71) rfl)
theorem own_w72 {Z : State} {a0 : Array Value} (hw : ∀ d ∈ tables_1, d.before a0 Z = true) : ((Jvm.Cond.selects "java/lang/String" ({ cls := "java/lang/String", name := "length", desc := "()I" } : Jvm.MethodName) ({ cls := "java/lang/String", name := "length", desc := "()I" } : Jvm.MethodName))).before a0 Z = true := hw _ (List.mem_of_getElem? (i := 72) rfl)
theorem own_w73 {Z : State} {a0 : Array Value} (hw : ∀ d ∈ tables_1, d.before a0 Z = true) : ((Jvm.Cond.code ({ cls := "java/lang/String", name := "length", desc := "()I" } : Jvm.MethodName) jdk_42_method_54_code (1 : Nat) (Option.some Jvm.ClassFile.FieldType.int))).before a0 Z = true := hw _ (List.mem_of_getElem? (i := 73) rfl)
theorem own_w74 {Z : State} {a0 : Array Value} (hw : ∀ d ∈ tables_1, d.before a0 Z = true) : ((Jvm.Cond.methodLink "java/lang/String" (335 : Nat) ({ cls := "java/lang/String", name := "coder", desc := "()B" } : Jvm.MethodName))).before a0 Z = true := hw _ (List.mem_of_getElem? (i := 74) rfl)
theorem own_w75 {Z : State} {a0 : Array Value} (hw : ∀ d ∈ tables_1, d.before a0 Z = true) : ((Jvm.Cond.declares ({ cls := "java/lang/String", name := "coder", desc := "()B" } : Jvm.MethodName))).before a0 Z = true := hw _ (List.mem_of_getElem? (i := 75) rfl)
theorem own_w76 {Z : State} {a0 : Array Value} (hw : ∀ d ∈ tables_1, d.before a0 Z = true) : ((Jvm.Cond.instanceMethod ({ cls := "java/lang/String", name := "coder", desc := "()B" } : Jvm.MethodName))).before a0 Z = true := hw _ (List.mem_of_getElem? (i := 76) rfl)
theorem own_w77 {Z : State} {a0 : Array Value} (hw : ∀ d ∈ tables_1, d.before a0 Z = true) : ((Jvm.Cond.selects "java/lang/String" ({ cls := "java/lang/String", name := "coder", desc := "()B" } : Jvm.MethodName) ({ cls := "java/lang/String", name := "coder", desc := "()B" } : Jvm.MethodName))).before a0 Z = true := hw _ (List.mem_of_getElem? (i := 77) rfl)
theorem own_w78 {Z : State} {a0 : Array Value} (hw : ∀ d ∈ tables_1, d.before a0 Z = true) : ((Jvm.Cond.code ({ cls := "java/lang/String", name := "coder", desc := "()B" } : Jvm.MethodName) jdk_42_method_152_code (1 : Nat) (Option.some Jvm.ClassFile.FieldType.byte))).before a0 Z = true := hw _ (List.mem_of_getElem? (i := 78) rfl)
theorem own_w79 {Z : State} {a0 : Array Value} (hw : ∀ d ∈ tables_1, d.before a0 Z = true) : ((Jvm.Cond.methodLink "java/lang/String" (637 : Nat) ({ cls := "java/lang/StringLatin1", name := "indexOf", desc := "([BIII)I" } : Jvm.MethodName))).before a0 Z = true := hw _ (List.mem_of_getElem? (i := 79) rfl)
theorem own_w80 {Z : State} {a0 : Array Value} (hw : ∀ d ∈ tables_1, d.before a0 Z = true) : ((Jvm.Cond.static ({ cls := "java/lang/StringLatin1", name := "indexOf", desc := "([BIII)I" } : Jvm.MethodName))).before a0 Z = true := hw _ (List.mem_of_getElem? (i := 80) rfl)
theorem own_w81 {Z : State} {a0 : Array Value} (hw : ∀ d ∈ tables_1, d.before a0 Z = true) : ((Jvm.Cond.initialized "java/lang/StringLatin1")).before a0 Z = true := hw _ (List.mem_of_getElem? (i := 81) rfl)
theorem own_w82 {Z : State} {a0 : Array Value} (hw : ∀ d ∈ tables_1, d.before a0 Z = true) : ((Jvm.Cond.code ({ cls := "java/lang/StringLatin1", name := "indexOf", desc := "([BIII)I" } : Jvm.MethodName) jdk_43_method_22_code (4 : Nat) (Option.some Jvm.ClassFile.FieldType.int))).before a0 Z = true := hw _ (List.mem_of_getElem? (i := 82) rfl)
theorem own_w83 {Z : State} {a0 : Array Value} (hw : ∀ d ∈ tables_1, d.before a0 Z = true) : ((Jvm.Cond.methodLink "java/lang/StringLatin1" (88 : Nat) ({ cls := "java/lang/StringLatin1", name := "canEncode", desc := "(I)Z" } : Jvm.MethodName))).before a0 Z = true := hw _ (List.mem_of_getElem? (i := 83) rfl)
theorem own_w84 {Z : State} {a0 : Array Value} (hw : ∀ d ∈ tables_1, d.before a0 Z = true) : ((Jvm.Cond.static ({ cls := "java/lang/StringLatin1", name := "canEncode", desc := "(I)Z" } : Jvm.MethodName))).before a0 Z = true := hw _ (List.mem_of_getElem? (i := 84) rfl)
theorem own_w85 {Z : State} {a0 : Array Value} (hw : ∀ d ∈ tables_1, d.before a0 Z = true) : ((Jvm.Cond.code ({ cls := "java/lang/StringLatin1", name := "canEncode", desc := "(I)Z" } : Jvm.MethodName) jdk_43_method_4_code (1 : Nat) (Option.some Jvm.ClassFile.FieldType.boolean))).before a0 Z = true := hw _ (List.mem_of_getElem? (i := 85) rfl)
theorem own_w86 {Z : State} {a0 : Array Value} (hw : ∀ d ∈ tables_1, d.before a0 Z = true) : ((Jvm.Cond.methodLink "java/lang/StringLatin1" (92 : Nat) ({ cls := "java/lang/Math", name := "max", desc := "(II)I" } : Jvm.MethodName))).before a0 Z = true := hw _ (List.mem_of_getElem? (i := 86) rfl)
theorem own_w87 {Z : State} {a0 : Array Value} (hw : ∀ d ∈ tables_1, d.before a0 Z = true) : ((Jvm.Cond.static ({ cls := "java/lang/Math", name := "max", desc := "(II)I" } : Jvm.MethodName))).before a0 Z = true := hw _ (List.mem_of_getElem? (i := 87) rfl)
theorem own_w88 {Z : State} {a0 : Array Value} (hw : ∀ d ∈ tables_1, d.before a0 Z = true) : ((Jvm.Cond.initialized "java/lang/Math")).before a0 Z = true := hw _ (List.mem_of_getElem? (i := 88) rfl)
theorem own_w89 {Z : State} {a0 : Array Value} (hw : ∀ d ∈ tables_1, d.before a0 Z = true) : ((Jvm.Cond.code ({ cls := "java/lang/Math", name := "max", desc := "(II)I" } : Jvm.MethodName) jdk_29_method_65_code (2 : Nat) (Option.some Jvm.ClassFile.FieldType.int))).before a0 Z = true := hw _ (List.mem_of_getElem? (i := 89) rfl)
theorem own_w90 {Z : State} {a0 : Array Value} (hw : ∀ d ∈ tables_1, d.before a0 Z = true) : ((Jvm.Cond.methodLink "java/lang/StringLatin1" (38 : Nat) ({ cls := "java/lang/Math", name := "min", desc := "(II)I" } : Jvm.MethodName))).before a0 Z = true := hw _ (List.mem_of_getElem? (i := 90) rfl)
theorem own_w91 {Z : State} {a0 : Array Value} (hw : ∀ d ∈ tables_1, d.before a0 Z = true) : ((Jvm.Cond.static ({ cls := "java/lang/Math", name := "min", desc := "(II)I" } : Jvm.MethodName))).before a0 Z = true := hw _ (List.mem_of_getElem? (i := 91) rfl)
theorem own_w92 {Z : State} {a0 : Array Value} (hw : ∀ d ∈ tables_1, d.before a0 Z = true) : ((Jvm.Cond.code ({ cls := "java/lang/Math", name := "min", desc := "(II)I" } : Jvm.MethodName) jdk_29_method_69_code (2 : Nat) (Option.some Jvm.ClassFile.FieldType.int))).before a0 Z = true := hw _ (List.mem_of_getElem? (i := 92) rfl)
theorem own_w93 {Z : State} {a0 : Array Value} (hw : ∀ d ∈ tables_1, d.before a0 Z = true) : ((Jvm.Cond.methodLink "java/lang/StringLatin1" (95 : Nat) ({ cls := "java/lang/StringLatin1", name := "indexOfChar", desc := "([BIII)I" } : Jvm.MethodName))).before a0 Z = true := hw _ (List.mem_of_getElem? (i := 93) rfl)
theorem own_w94 {Z : State} {a0 : Array Value} (hw : ∀ d ∈ tables_1, d.before a0 Z = true) : ((Jvm.Cond.static ({ cls := "java/lang/StringLatin1", name := "indexOfChar", desc := "([BIII)I" } : Jvm.MethodName))).before a0 Z = true := hw _ (List.mem_of_getElem? (i := 94) rfl)
theorem own_w95 {Z : State} {a0 : Array Value} (hw : ∀ d ∈ tables_1, d.before a0 Z = true) : ((Jvm.Cond.code ({ cls := "java/lang/StringLatin1", name := "indexOfChar", desc := "([BIII)I" } : Jvm.MethodName) jdk_43_method_23_code (6 : Nat) (Option.some Jvm.ClassFile.FieldType.int))).before a0 Z = true := hw _ (List.mem_of_getElem? (i := 95) rfl)
theorem own_w96 {Z : State} {a0 : Array Value} (hw : ∀ d ∈ tables_1, d.before a0 Z = true) : ((Jvm.Cond.fieldLink "com/example/xqwry/xqwry/MarkupName" (29 : Nat) "com/example/xqwry/xqwry/MarkupName" "prefixed" "Z")).before a0 Z = true := hw _ (List.mem_of_getElem? (i := 96) rfl)
theorem own_w97 {Z : State} {a0 : Array Value} (hw : ∀ d ∈ tables_1, d.before a0 Z = true) : ((Jvm.Cond.laysFinal "com/example/xqwry/xqwry/MarkupName" "com/example/xqwry/xqwry/MarkupName" "prefixed" "Z")).before a0 Z = true := hw _ (List.mem_of_getElem? (i := 97) rfl)
theorem own_w98 {Z : State} {a0 : Array Value} (hw : ∀ d ∈ tables_1, d.before a0 Z = true) : ((Jvm.Cond.stringLink "com/example/xqwry/xqwry/MarkupName" (33 : Nat) "xmlns")).before a0 Z = true := hw _ (List.mem_of_getElem? (i := 98) rfl)
theorem own_w99 {Z : State} {a0 : Array Value} (hw : ∀ d ∈ tables_1, d.before a0 Z = true) : ((Jvm.Cond.soleField "java/lang/String" "value")).before a0 Z = true := hw _ (List.mem_of_getElem? (i := 99) rfl)
theorem own_w100 {Z : State} {a0 : Array Value} (hw : ∀ d ∈ tables_1, d.before a0 Z = true) : ((Jvm.Cond.soleField "java/lang/String" "coder")).before a0 Z = true := hw _ (List.mem_of_getElem? (i := 100) rfl)
theorem own_w101 {Z : State} {a0 : Array Value} (hw : ∀ d ∈ tables_1, d.before a0 Z = true) : ((Jvm.Cond.methodLink "com/example/xqwry/xqwry/MarkupName" (35 : Nat) ({ cls := "java/lang/String", name := "equals", desc := "(Ljava/lang/Object;)Z" } : Jvm.MethodName))).before a0 Z = true := hw _ (List.mem_of_getElem? (i := 101) rfl)
theorem own_w102 {Z : State} {a0 : Array Value} (hw : ∀ d ∈ tables_1, d.before a0 Z = true) : ((Jvm.Cond.declares ({ cls := "java/lang/String", name := "equals", desc := "(Ljava/lang/Object;)Z" } : Jvm.MethodName))).before a0 Z = true := hw _ (List.mem_of_getElem? (i := 102) rfl)
theorem own_w103 {Z : State} {a0 : Array Value} (hw : ∀ d ∈ tables_1, d.before a0 Z = true) : ((Jvm.Cond.instanceMethod ({ cls := "java/lang/String", name := "equals", desc := "(Ljava/lang/Object;)Z" } : Jvm.MethodName))).before a0 Z = true := hw _ (List.mem_of_getElem? (i := 103) rfl)
theorem own_w104 {Z : State} {a0 : Array Value} (hw : ∀ d ∈ tables_1, d.before a0 Z = true) : ((Jvm.Cond.selects "java/lang/String" ({ cls := "java/lang/String", name := "equals", desc := "(Ljava/lang/Object;)Z" } : Jvm.MethodName) ({ cls := "java/lang/String", name := "equals", desc := "(Ljava/lang/Object;)Z" } : Jvm.MethodName))).before a0 Z = true := hw _ (List.mem_of_getElem? (i := 104) rfl)
theorem own_w105 {Z : State} {a0 : Array Value} (hw : ∀ d ∈ tables_1, d.before a0 Z = true) : ((Jvm.Cond.code ({ cls := "java/lang/String", name := "equals", desc := "(Ljava/lang/Object;)Z" } : Jvm.MethodName) jdk_42_method_66_code (3 : Nat) (Option.some Jvm.ClassFile.FieldType.boolean))).before a0 Z = true := hw _ (List.mem_of_getElem? (i := 105) rfl)
theorem own_w106 {Z : State} {a0 : Array Value} (hw : ∀ d ∈ tables_1, d.before a0 Z = true) : ((Jvm.Cond.classLink "java/lang/String" (10 : Nat) "java/lang/String")).before a0 Z = true := hw _ (List.mem_of_getElem? (i := 106) rfl)
theorem own_w107 {Z : State} {a0 : Array Value} (hw : ∀ d ∈ tables_1, d.before a0 Z = true) : ((Jvm.Cond.methodLink "java/lang/String" (541 : Nat) ({ cls := "java/lang/StringLatin1", name := "equals", desc := "([B[B)Z" } : Jvm.MethodName))).before a0 Z = true := hw _ (List.mem_of_getElem? (i := 107) rfl)
theorem own_w108 {Z : State} {a0 : Array Value} (hw : ∀ d ∈ tables_1, d.before a0 Z = true) : ((Jvm.Cond.static ({ cls := "java/lang/StringLatin1", name := "equals", desc := "([B[B)Z" } : Jvm.MethodName))).before a0 Z = true := hw _ (List.mem_of_getElem? (i := 108) rfl)
theorem own_w109 {Z : State} {a0 : Array Value} (hw : ∀ d ∈ tables_1, d.before a0 Z = true) : ((Jvm.Cond.code ({ cls := "java/lang/StringLatin1", name := "equals", desc := "([B[B)Z" } : Jvm.MethodName) jdk_43_method_13_code (3 : Nat) (Option.some Jvm.ClassFile.FieldType.boolean))).before a0 Z = true := hw _ (List.mem_of_getElem? (i := 109) rfl)
theorem own_w110 {Z : State} {a0 : Array Value} (hw : ∀ d ∈ tables_1, d.before a0 Z = true) : ((Jvm.Cond.stringLink "com/example/xqwry/xqwry/MarkupName" (44 : Nat) "xmlns:")).before a0 Z = true := hw _ (List.mem_of_getElem? (i := 110) rfl)
theorem own_w111 {Z : State} {a0 : Array Value} (hw : ∀ d ∈ tables_1, d.before a0 Z = true) : ((Jvm.Cond.methodLink "com/example/xqwry/xqwry/MarkupName" (46 : Nat) ({ cls := "java/lang/String", name := "startsWith", desc := "(Ljava/lang/String;)Z" } : Jvm.MethodName))).before a0 Z = true := hw _ (List.mem_of_getElem? (i := 111) rfl)
theorem own_w112 {Z : State} {a0 : Array Value} (hw : ∀ d ∈ tables_1, d.before a0 Z = true) : ((Jvm.Cond.declares ({ cls := "java/lang/String", name := "startsWith", desc := "(Ljava/lang/String;)Z" } : Jvm.MethodName))).before a0 Z = true := hw _ (List.mem_of_getElem? (i := 112) rfl)
theorem own_w113 {Z : State} {a0 : Array Value} (hw : ∀ d ∈ tables_1, d.before a0 Z = true) : ((Jvm.Cond.instanceMethod ({ cls := "java/lang/String", name := "startsWith", desc := "(Ljava/lang/String;)Z" } : Jvm.MethodName))).before a0 Z = true := hw _ (List.mem_of_getElem? (i := 113) rfl)
theorem own_w114 {Z : State} {a0 : Array Value} (hw : ∀ d ∈ tables_1, d.before a0 Z = true) : ((Jvm.Cond.selects "java/lang/String" ({ cls := "java/lang/String", name := "startsWith", desc := "(Ljava/lang/String;)Z" } : Jvm.MethodName) ({ cls := "java/lang/String", name := "startsWith", desc := "(Ljava/lang/String;)Z" } : Jvm.MethodName))).before a0 Z = true := hw _ (List.mem_of_getElem? (i := 114) rfl)
theorem own_w115 {Z : State} {a0 : Array Value} (hw : ∀ d ∈ tables_1, d.before a0 Z = true) : ((Jvm.Cond.code ({ cls := "java/lang/String", name := "startsWith", desc := "(Ljava/lang/String;)Z" } : Jvm.MethodName) jdk_42_method_76_code (2 : Nat) (Option.some Jvm.ClassFile.FieldType.boolean))).before a0 Z = true := hw _ (List.mem_of_getElem? (i := 115) rfl)
theorem own_w116 {Z : State} {a0 : Array Value} (hw : ∀ d ∈ tables_1, d.before a0 Z = true) : ((Jvm.Cond.methodLink "java/lang/String" (624 : Nat) ({ cls := "java/lang/String", name := "startsWith", desc := "(Ljava/lang/String;I)Z" } : Jvm.MethodName))).before a0 Z = true := hw _ (List.mem_of_getElem? (i := 116) rfl)
theorem own_w117 {Z : State} {a0 : Array Value} (hw : ∀ d ∈ tables_1, d.before a0 Z = true) : ((Jvm.Cond.declares ({ cls := "java/lang/String", name := "startsWith", desc := "(Ljava/lang/String;I)Z" } : Jvm.MethodName))).before a0 Z = true := hw _ (List.mem_of_getElem? (i := 117) rfl)
theorem own_w118 {Z : State} {a0 : Array Value} (hw : ∀ d ∈ tables_1, d.before a0 Z = true) : ((Jvm.Cond.instanceMethod ({ cls := "java/lang/String", name := "startsWith", desc := "(Ljava/lang/String;I)Z" } : Jvm.MethodName))).before a0 Z = true := hw _ (List.mem_of_getElem? (i := 118) rfl)
theorem own_w119 {Z : State} {a0 : Array Value} (hw : ∀ d ∈ tables_1, d.before a0 Z = true) : ((Jvm.Cond.selects "java/lang/String" ({ cls := "java/lang/String", name := "startsWith", desc := "(Ljava/lang/String;I)Z" } : Jvm.MethodName) ({ cls := "java/lang/String", name := "startsWith", desc := "(Ljava/lang/String;I)Z" } : Jvm.MethodName))).before a0 Z = true := hw _ (List.mem_of_getElem? (i := 119) rfl)
theorem own_w120 {Z : State} {a0 : Array Value} (hw : ∀ d ∈ tables_1, d.before a0 Z = true) : ((Jvm.Cond.code ({ cls := "java/lang/String", name := "startsWith", desc := "(Ljava/lang/String;I)Z" } : Jvm.MethodName) jdk_42_method_75_code (8 : Nat) (Option.some Jvm.ClassFile.FieldType.boolean))).before a0 Z = true := hw _ (List.mem_of_getElem? (i := 120) rfl)
theorem own_w121 {Z : State} {a0 : Array Value} (hw : ∀ d ∈ tables_1, d.before a0 Z = true) : ((Jvm.Cond.fieldLink "com/example/xqwry/xqwry/MarkupName" (41 : Nat) "com/example/xqwry/xqwry/MarkupName" "declaredPrefix" "Ljava/lang/String;")).before a0 Z = true := hw _ (List.mem_of_getElem? (i := 121) rfl)
theorem own_w122 {Z : State} {a0 : Array Value} (hw : ∀ d ∈ tables_1, d.before a0 Z = true) : ((Jvm.Cond.laysFinal "com/example/xqwry/xqwry/MarkupName" "com/example/xqwry/xqwry/MarkupName" "declaredPrefix" "Ljava/lang/String;")).before a0 Z = true := hw _ (List.mem_of_getElem? (i := 122) rfl)
theorem own_w123 {Z : State} {a0 : Array Value} (hw : ∀ d ∈ tables_1, d.before a0 Z = true) : ((Jvm.Cond.methodLink "com/example/xqwry/xqwry/MarkupNameResolvedPinLaw" (21 : Nat) ({ cls := "com/example/xqwry/xqwry/MarkupName", name := "resolved", desc := "(ZI)I" } : Jvm.MethodName))).before a0 Z = true := hw _ (List.mem_of_getElem? (i := 123) rfl)
theorem own_w124 {Z : State} {a0 : Array Value} (hw : ∀ d ∈ tables_1, d.before a0 Z = true) : ((Jvm.Cond.declares ({ cls := "com/example/xqwry/xqwry/MarkupName", name := "resolved", desc := "(ZI)I" } : Jvm.MethodName))).before a0 Z = true := hw _ (List.mem_of_getElem? (i := 124) rfl)
theorem own_w125 {Z : State} {a0 : Array Value} (hw : ∀ d ∈ tables_1, d.before a0 Z = true) : ((Jvm.Cond.instanceMethod ({ cls := "com/example/xqwry/xqwry/MarkupName", name := "resolved", desc := "(ZI)I" } : Jvm.MethodName))).before a0 Z = true := hw _ (List.mem_of_getElem? (i := 125) rfl)
theorem own_w126 {Z : State} {a0 : Array Value} (hw : ∀ d ∈ tables_1, d.before a0 Z = true) : ((Jvm.Cond.selects "com/example/xqwry/xqwry/MarkupName" ({ cls := "com/example/xqwry/xqwry/MarkupName", name := "resolved", desc := "(ZI)I" } : Jvm.MethodName) ({ cls := "com/example/xqwry/xqwry/MarkupName", name := "resolved", desc := "(ZI)I" } : Jvm.MethodName))).before a0 Z = true := hw _ (List.mem_of_getElem? (i := 126) rfl)
theorem own_w127 {Z : State} {a0 : Array Value} (hw : ∀ d ∈ tables_1, d.before a0 Z = true) : ((Jvm.Cond.code ({ cls := "com/example/xqwry/xqwry/MarkupName", name := "resolved", desc := "(ZI)I" } : Jvm.MethodName) prog_166_method_4_code (4 : Nat) (Option.some Jvm.ClassFile.FieldType.int))).before a0 Z = true := hw _ (List.mem_of_getElem? (i := 127) rfl)
theorem own_w128 {Z : State} {a0 : Array Value} (hw : ∀ d ∈ tables_1, d.before a0 Z = true) : ((Jvm.Cond.fieldRef "com/example/xqwry/xqwry/MarkupName" (54 : Nat) "com/example/xqwry/xqwry/MarkupName$Resolution" "namespaceChanges" "I")).before a0 Z = true := hw _ (List.mem_of_getElem? (i := 128) rfl)
theorem own_w129 {Z : State} {a0 : Array Value} (hw : ∀ d ∈ tables_1, d.before a0 Z = true) : ((Jvm.Cond.methodLink "com/example/xqwry/xqwry/MarkupNameResolvedPinLaw" (17 : Nat) ({ cls := "com/example/xqwry/xqwry/MarkupName", name := "keepResolved", desc := "(ZII)V" } : Jvm.MethodName))).before a0 Z = true := hw _ (List.mem_of_getElem? (i := 129) rfl)
theorem own_w130 {Z : State} {a0 : Array Value} (hw : ∀ d ∈ tables_1, d.before a0 Z = true) : ((Jvm.Cond.declares ({ cls := "com/example/xqwry/xqwry/MarkupName", name := "keepResolved", desc := "(ZII)V" } : Jvm.MethodName))).before a0 Z = true := hw _ (List.mem_of_getElem? (i := 130) rfl)
theorem own_w131 {Z : State} {a0 : Array Value} (hw : ∀ d ∈ tables_1, d.before a0 Z = true) : ((Jvm.Cond.instanceMethod ({ cls := "com/example/xqwry/xqwry/MarkupName", name := "keepResolved", desc := "(ZII)V" } : Jvm.MethodName))).before a0 Z = true := hw _ (List.mem_of_getElem? (i := 131) rfl)
theorem own_w132 {Z : State} {a0 : Array Value} (hw : ∀ d ∈ tables_1, d.before a0 Z = true) : ((Jvm.Cond.selects "com/example/xqwry/xqwry/MarkupName" ({ cls := "com/example/xqwry/xqwry/MarkupName", name := "keepResolved", desc := "(ZII)V" } : Jvm.MethodName) ({ cls := "com/example/xqwry/xqwry/MarkupName", name := "keepResolved", desc := "(ZII)V" } : Jvm.MethodName))).before a0 Z = true := hw _ (List.mem_of_getElem? (i := 132) rfl)
theorem own_w133 {Z : State} {a0 : Array Value} (hw : ∀ d ∈ tables_1, d.before a0 Z = true) : ((Jvm.Cond.code ({ cls := "com/example/xqwry/xqwry/MarkupName", name := "keepResolved", desc := "(ZII)V" } : Jvm.MethodName) prog_166_method_5_code (5 : Nat) (Option.none : Option Jvm.ClassFile.FieldType))).before a0 Z = true := hw _ (List.mem_of_getElem? (i := 133) rfl)
theorem own_w134 {Z : State} {a0 : Array Value} (hw : ∀ d ∈ tables_1, d.before a0 Z = true) : ((Jvm.Cond.fieldRef "com/example/xqwry/xqwry/MarkupName" (58 : Nat) "com/example/xqwry/xqwry/MarkupName$Resolution" "name" "I")).before a0 Z = true := hw _ (List.mem_of_getElem? (i := 134) rfl)
theorem own_pd_0 : parseMethodDescriptor "()B" = some ⟨[], some .byte⟩ := by decide +kernel
theorem own_pd_1 : parseMethodDescriptor "(I)Z" = some ⟨[.int], some .boolean⟩ := by decide +kernel
theorem own_pd_2 : parseMethodDescriptor "(II)I" = some ⟨[.int, .int], some .int⟩ := by decide +kernel
theorem own_pd_3 : parseMethodDescriptor "([BIII)I" = some ⟨[(.array .byte), .int, .int, .int], some .int⟩ := by decide +kernel
theorem own_pd_4 : parseMethodDescriptor "()Z" = some ⟨[], some .boolean⟩ := by decide +kernel
theorem own_pd_5 : parseMethodDescriptor "()I" = some ⟨[], some .int⟩ := by decide +kernel
theorem own_pd_6 : parseMethodDescriptor "([B[B)Z" = some ⟨[(.array .byte), (.array .byte)], some .boolean⟩ := by decide +kernel
theorem own_pd_7 : parseMethodDescriptor "(Ljava/lang/String;I)Z" = some ⟨[(.object "java/lang/String"), .int], some .boolean⟩ := by decide +kernel
theorem own_pd_8 : parseMethodDescriptor "()V" = some ⟨[], none⟩ := by decide +kernel
theorem own_pd_9 : parseMethodDescriptor "(I)I" = some ⟨[.int], some .int⟩ := by decide +kernel
theorem own_pd_10 : parseMethodDescriptor "(Ljava/lang/Object;)Z" = some ⟨[(.object "java/lang/Object")], some .boolean⟩ := by decide +kernel
theorem own_pd_11 : parseMethodDescriptor "(Ljava/lang/String;)Z" = some ⟨[(.object "java/lang/String")], some .boolean⟩ := by decide +kernel
theorem own_pd_12 : parseMethodDescriptor "([CI[BII)I" = some ⟨[(.array .char), .int, (.array .byte), .int, .int], some .int⟩ := by decide +kernel
theorem own_pd_13 : parseMethodDescriptor "([CII)[B" = some ⟨[(.array .char), .int, .int], some (.array .byte)⟩ := by decide +kernel
theorem own_pd_14 : parseMethodDescriptor "([BI)B" = some ⟨[(.array .byte), .int], some .byte⟩ := by decide +kernel
theorem own_pd_15 : parseMethodDescriptor "([CIILjava/lang/Void;)V" = some ⟨[(.array .char), .int, .int, (.object "java/lang/Void")], none⟩ := by decide +kernel
theorem own_pd_16 : parseMethodDescriptor "([C)V" = some ⟨[(.array .char)], none⟩ := by decide +kernel
theorem own_pd_17 : parseMethodDescriptor "(Ljava/lang/String;)V" = some ⟨[(.object "java/lang/String")], none⟩ := by decide +kernel
theorem own_pd_18 : parseMethodDescriptor "(ZI)I" = some ⟨[.boolean, .int], some .int⟩ := by decide +kernel
theorem own_pd_19 : parseMethodDescriptor "(ZII)V" = some ⟨[.boolean, .int, .int], none⟩ := by decide +kernel
def own_f_cei (p1 : Int32) : Int32 :=
  if p1 < (0 : Int32) then
    (0 : Int32)
  else
    if (255 : Int32) < p1 then
      (0 : Int32)
    else
      (1 : Int32)
theorem d_cei_0 : decode jdk_43_method_4_code 0 = .ok (.iload_n 0, 1) := by decide +kernel
theorem d_cei_1 : decode jdk_43_method_4_code 1 = .ok (.ifCond .lt 14, 3) := by decide +kernel
theorem d_cei_4 : decode jdk_43_method_4_code 4 = .ok (.iload_n 0, 1) := by decide +kernel
theorem d_cei_5 : decode jdk_43_method_4_code 5 = .ok (.sipush 255, 3) := by decide +kernel
theorem d_cei_8 : decode jdk_43_method_4_code 8 = .ok (.if_icmp .gt 7, 3) := by decide +kernel
theorem d_cei_11 : decode jdk_43_method_4_code 11 = .ok (.iconst 1, 1) := by decide +kernel
theorem d_cei_12 : decode jdk_43_method_4_code 12 = .ok (.goto 4, 3) := by decide +kernel
theorem d_cei_15 : decode jdk_43_method_4_code 15 = .ok (.iconst 0, 1) := by decide +kernel
theorem d_cei_16 : decode jdk_43_method_4_code 16 = .ok (.ireturn, 1) := by decide +kernel
theorem own_ef_cei (m : MethodId) (p1 : Int32) : entryFrame m #[(.int p1)] 1 = mkF m 0 #[.val (.int p1)] [] := by first | (simp [entryFrame, mkF, argsToLocals, Value.category]; done) | rfl
set_option maxRecDepth 65536 in
set_option maxHeartbeats 40000000 in
theorem own_m_cei (l : Launch) (Z : State) (a0 : Array Value) (hw : ∀ d ∈ tables_1, d.before a0 Z = true) (h0 : Heap) (n0 : Nat) (p1 : Int32) {r : Int32} (hF : own_f_cei p1 = r) : own_Met l Z ⟨"java/lang/StringLatin1", "canEncode", "(I)Z"⟩ jdk_43_method_4_code 1 (some .boolean) [] ({ frames := 0, cells := 0, slots := 0, locals := 0 } : Room) #[(.int p1)] h0 n0 (fun v h => v = some (.int r) ∧ h = h0) := by
  refine own_body (plainFor_of_name own_pn_StringLatin1) ?_
  intro p e s m below meth c T0 X0 hx hby hml hown hnm hZ e0 hret hlk
  have N0 := Fr.nil n0
  refine own_cast (own_ef_cei m p1) ?_
  unfold own_f_cei at hF
  refine own_iloadN X0 hx (hb hby d_cei_0) rfl 1 rfl ?_
  by_cases hc1 : p1 < (0 : Int32)
  · replace hF := own_ifT hc1 hF
    refine own_ifcT X0 hx (hb hby d_cei_1) (tlt hc1).1 15 (by decide) (by decide) ?_
    refine own_iconst X0 hx (z := (0 : Int32)) (hb hby d_cei_15) rfl 16 rfl ?_
    exact own_retN X0 hx hret (Or.inl rfl) hlk (hb hby d_cei_16) (Nat.le_refl _) (Nat.le_refl _) N0 e0 ⟨congrArg (fun z => some (Value.int z)) hF, rfl⟩
  · replace hF := own_ifF hc1 hF
    refine own_ifcF X0 hx (hb hby d_cei_1) (flt hc1).1 4 rfl ?_
    refine own_iloadN X0 hx (hb hby d_cei_4) rfl 5 rfl ?_
    refine own_sipush X0 hx (z := (255 : Int32)) (hb hby d_cei_5) rfl 8 rfl ?_
    by_cases hc2 : (255 : Int32) < p1
    · replace hF := own_ifT hc2 hF
      refine own_icmpT X0 hx (hb hby d_cei_8) (tlt hc2).2.2.1 15 (by decide) (by decide) ?_
      refine own_iconst X0 hx (z := (0 : Int32)) (hb hby d_cei_15) rfl 16 rfl ?_
      exact own_retN X0 hx hret (Or.inl rfl) hlk (hb hby d_cei_16) (Nat.le_refl _) (Nat.le_refl _) N0 e0 ⟨congrArg (fun z => some (Value.int z)) hF, rfl⟩
    · replace hF := own_ifF hc2 hF
      refine own_icmpF X0 hx (hb hby d_cei_8) (flt hc2).2.2.1 11 rfl ?_
      refine own_iconst X0 hx (z := (1 : Int32)) (hb hby d_cei_11) rfl 12 rfl ?_
      refine own_goto X0 hx (hb hby d_cei_12) 16 (by decide) (by decide) ?_
      exact own_retN X0 hx hret (Or.inl rfl) hlk (hb hby d_cei_16) (Nat.le_refl _) (Nat.le_refl _) N0 e0 ⟨congrArg (fun z => some (Value.int z)) hF, rfl⟩
def own_f_max (p1 p2 : Int32) : Int32 :=
  if p1 < p2 then
    p2
  else
    p1
theorem d_max_0 : decode jdk_29_method_65_code 0 = .ok (.iload_n 0, 1) := by decide +kernel
theorem d_max_1 : decode jdk_29_method_65_code 1 = .ok (.iload_n 1, 1) := by decide +kernel
theorem d_max_2 : decode jdk_29_method_65_code 2 = .ok (.if_icmp .lt 7, 3) := by decide +kernel
theorem d_max_5 : decode jdk_29_method_65_code 5 = .ok (.iload_n 0, 1) := by decide +kernel
theorem d_max_6 : decode jdk_29_method_65_code 6 = .ok (.goto 4, 3) := by decide +kernel
theorem d_max_9 : decode jdk_29_method_65_code 9 = .ok (.iload_n 1, 1) := by decide +kernel
theorem d_max_10 : decode jdk_29_method_65_code 10 = .ok (.ireturn, 1) := by decide +kernel
theorem own_ef_max (m : MethodId) (p1 : Int32) (p2 : Int32) : entryFrame m #[(.int p1), (.int p2)] 2 = mkF m 0 #[.val (.int p1), .val (.int p2)] [] := by first | (simp [entryFrame, mkF, argsToLocals, Value.category]; done) | rfl
set_option maxRecDepth 65536 in
set_option maxHeartbeats 40000000 in
theorem own_m_max (l : Launch) (Z : State) (a0 : Array Value) (hw : ∀ d ∈ tables_1, d.before a0 Z = true) (h0 : Heap) (n0 : Nat) (p1 p2 : Int32) {r : Int32} (hF : own_f_max p1 p2 = r) : own_Met l Z ⟨"java/lang/Math", "max", "(II)I"⟩ jdk_29_method_65_code 2 (some .int) [] ({ frames := 0, cells := 0, slots := 0, locals := 0 } : Room) #[(.int p1), (.int p2)] h0 n0 (fun v h => v = some (.int r) ∧ h = h0) := by
  refine own_body (by decide +kernel) ?_
  intro p e s m below meth c T0 X0 hx hby hml hown hnm hZ e0 hret hlk
  have N0 := Fr.nil n0
  refine own_cast (own_ef_max m p1 p2) ?_
  unfold own_f_max at hF
  refine own_iloadN X0 hx (hb hby d_max_0) rfl 1 rfl ?_
  refine own_iloadN X0 hx (hb hby d_max_1) rfl 2 rfl ?_
  by_cases hc1 : p1 < p2
  · replace hF := own_ifT hc1 hF
    refine own_icmpT X0 hx (hb hby d_max_2) (tlt hc1).1 9 (by decide) (by decide) ?_
    refine own_iloadN X0 hx (hb hby d_max_9) rfl 10 rfl ?_
    exact own_retI X0 hx hret hlk (hb hby d_max_10) (Nat.le_refl _) (Nat.le_refl _) N0 e0 ⟨congrArg (fun z => some (Value.int z)) hF, rfl⟩
  · replace hF := own_ifF hc1 hF
    refine own_icmpF X0 hx (hb hby d_max_2) (flt hc1).1 5 rfl ?_
    refine own_iloadN X0 hx (hb hby d_max_5) rfl 6 rfl ?_
    refine own_goto X0 hx (hb hby d_max_6) 10 (by decide) (by decide) ?_
    exact own_retI X0 hx hret hlk (hb hby d_max_10) (Nat.le_refl _) (Nat.le_refl _) N0 e0 ⟨congrArg (fun z => some (Value.int z)) hF, rfl⟩
def own_f_min (p1 p2 : Int32) : Int32 :=
  if p2 < p1 then
    p2
  else
    p1
theorem d_min_0 : decode jdk_29_method_69_code 0 = .ok (.iload_n 0, 1) := by decide +kernel
theorem d_min_1 : decode jdk_29_method_69_code 1 = .ok (.iload_n 1, 1) := by decide +kernel
theorem d_min_2 : decode jdk_29_method_69_code 2 = .ok (.if_icmp .gt 7, 3) := by decide +kernel
theorem d_min_5 : decode jdk_29_method_69_code 5 = .ok (.iload_n 0, 1) := by decide +kernel
theorem d_min_6 : decode jdk_29_method_69_code 6 = .ok (.goto 4, 3) := by decide +kernel
theorem d_min_9 : decode jdk_29_method_69_code 9 = .ok (.iload_n 1, 1) := by decide +kernel
theorem d_min_10 : decode jdk_29_method_69_code 10 = .ok (.ireturn, 1) := by decide +kernel
theorem own_ef_min (m : MethodId) (p1 : Int32) (p2 : Int32) : entryFrame m #[(.int p1), (.int p2)] 2 = mkF m 0 #[.val (.int p1), .val (.int p2)] [] := by first | (simp [entryFrame, mkF, argsToLocals, Value.category]; done) | rfl
set_option maxRecDepth 65536 in
set_option maxHeartbeats 40000000 in
theorem own_m_min (l : Launch) (Z : State) (a0 : Array Value) (hw : ∀ d ∈ tables_1, d.before a0 Z = true) (h0 : Heap) (n0 : Nat) (p1 p2 : Int32) {r : Int32} (hF : own_f_min p1 p2 = r) : own_Met l Z ⟨"java/lang/Math", "min", "(II)I"⟩ jdk_29_method_69_code 2 (some .int) [] ({ frames := 0, cells := 0, slots := 0, locals := 0 } : Room) #[(.int p1), (.int p2)] h0 n0 (fun v h => v = some (.int r) ∧ h = h0) := by
  refine own_body (by decide +kernel) ?_
  intro p e s m below meth c T0 X0 hx hby hml hown hnm hZ e0 hret hlk
  have N0 := Fr.nil n0
  refine own_cast (own_ef_min m p1 p2) ?_
  unfold own_f_min at hF
  refine own_iloadN X0 hx (hb hby d_min_0) rfl 1 rfl ?_
  refine own_iloadN X0 hx (hb hby d_min_1) rfl 2 rfl ?_
  by_cases hc1 : p2 < p1
  · replace hF := own_ifT hc1 hF
    refine own_icmpT X0 hx (hb hby d_min_2) (tlt hc1).2.2.1 9 (by decide) (by decide) ?_
    refine own_iloadN X0 hx (hb hby d_min_9) rfl 10 rfl ?_
    exact own_retI X0 hx hret hlk (hb hby d_min_10) (Nat.le_refl _) (Nat.le_refl _) N0 e0 ⟨congrArg (fun z => some (Value.int z)) hF, rfl⟩
  · replace hF := own_ifF hc1 hF
    refine own_icmpF X0 hx (hb hby d_min_2) (flt hc1).2.2.1 5 rfl ?_
    refine own_iloadN X0 hx (hb hby d_min_5) rfl 6 rfl ?_
    refine own_goto X0 hx (hb hby d_min_6) 10 (by decide) (by decide) ?_
    exact own_retI X0 hx hret hlk (hb hby d_min_10) (Nat.le_refl _) (Nat.le_refl _) N0 e0 ⟨congrArg (fun z => some (Value.int z)) hF, rfl⟩
def own_f_exp (p1 p2 p3 : Int32) : Int32 := if p1 = p2 then p3 else (-1 : Int32)
theorem d_rinit_0 : decode prog_167_method_1_code 0 = .ok (.aload_n 0, 1) := by decide +kernel
theorem d_rinit_1 : decode prog_167_method_1_code 1 = .ok (.invokespecial 1, 3) := by decide +kernel
theorem d_rinit_4 : decode prog_167_method_1_code 4 = .ok (.aload_n 0, 1) := by decide +kernel
theorem d_rinit_5 : decode prog_167_method_1_code 5 = .ok (.iconst (-1), 1) := by decide +kernel
theorem d_rinit_6 : decode prog_167_method_1_code 6 = .ok (.putfield 7, 3) := by decide +kernel
theorem d_rinit_9 : decode prog_167_method_1_code 9 = .ok (.aload_n 0, 1) := by decide +kernel
theorem d_rinit_10 : decode prog_167_method_1_code 10 = .ok (.iconst (-1), 1) := by decide +kernel
theorem d_rinit_11 : decode prog_167_method_1_code 11 = .ok (.putfield 13, 3) := by decide +kernel
theorem d_rinit_14 : decode prog_167_method_1_code 14 = .ok (.return_, 1) := by decide +kernel
theorem own_ef_rinit (m : MethodId) (x : Addr) : entryFrame m #[(.ref x)] 1 = mkF m 0 #[.val (.ref x)] [] := by first | (simp [entryFrame, mkF, argsToLocals, Value.category]; done) | rfl
set_option maxRecDepth 65536 in
set_option maxHeartbeats 40000000 in
theorem own_m_rinit (l : Launch) (Z : State) (a0 : Array Value) (hw : ∀ d ∈ tables_1, d.before a0 Z = true) (h0 : Heap) (n0 : Nat) {x : Addr} (E0 : Exa Z h0 x "com/example/xqwry/xqwry/MarkupName$Resolution") (F1 : Fld Z h0 x "com/example/xqwry/xqwry/MarkupName$Resolution" "name" "I" (.int 0)) (F2 : Fld Z h0 x "com/example/xqwry/xqwry/MarkupName$Resolution" "namespaceChanges" "I" (.int 0)) (gn_x : n0 ≤ x) : own_Met l Z ⟨"com/example/xqwry/xqwry/MarkupName$Resolution", "<init>", "()V"⟩ prog_167_method_1_code 1 none [] ({ frames := 1, cells := 0, slots := 0, locals := 12 } : Room) #[(.ref x)] h0 n0 (fun v h => v = none ∧ Fld Z h x "com/example/xqwry/xqwry/MarkupName$Resolution" "name" "I" (.int (-1)) ∧ Fld Z h x "com/example/xqwry/xqwry/MarkupName$Resolution" "namespaceChanges" "I" (.int (-1)) ∧ Keep h0 h [x]) := by
  refine own_body (plainFor_of_name own_pn_MarkupName_Resolution) ?_
  intro p e s m below meth c T0 X0 hx hby hml hown hnm hZ e0 hret hlk
  have N0 := Fr.nil n0
  have K0 : Keep h0 h0 [x] := Keep.refl _ _
  refine own_cast (own_ef_rinit m x) ?_
  refine own_aloadN X0 hx (hb hby d_rinit_0) rfl rfl 1 rfl ?_
  refine own_initO X0 hx hZ hown (own_w43 hw) (own_w15 hw) (own_w16 hw) e0 (by rw [hml]; rfl) (hb hby d_rinit_1) 0 (by decide) (Nat.le_of_eq rfl) (by decide) 4 rfl (fun T1 X1 e1 => ?_)
  refine own_aloadN X1 hx (hb hby d_rinit_4) rfl rfl 5 rfl ?_
  refine own_iconst X1 hx (z := (-1 : Int32)) (hb hby d_rinit_5) rfl 6 rfl ?_
  refine own_putF X1 hx hZ hown (own_w44 hw) e1 F1 E0 (Or.inl (own_w45 hw)) (own_w38 hw) (ty := .int) (by decide) rfl rfl (hb hby d_rinit_6) N0 gn_x 9 rfl (fun T2 h2 l2 X2 N2 e2 W2 => ?_)
  have E0_2 := E0.wr W2
  have F1_2 := F1.same W2
  have F2_2 := F2.other W2 (Or.inr (slot_ne (Or.inl (own_w47 hw)) (Or.inl (own_w45 hw)) (by decide) (t := .int) (t' := .int) (by decide) (by decide)))
  have K0_2 := K0.wr W2 (Or.inl (List.mem_of_getElem? (i := 0) rfl))
  refine own_aloadN X2 hx (hb hby d_rinit_9) rfl rfl 10 rfl ?_
  refine own_iconst X2 hx (z := (-1 : Int32)) (hb hby d_rinit_10) rfl 11 rfl ?_
  refine own_putF X2 hx hZ hown (own_w46 hw) e2 F2_2 E0_2 (Or.inl (own_w47 hw)) (own_w38 hw) (ty := .int) (by decide) rfl rfl (hb hby d_rinit_11) N2 gn_x 14 rfl (fun T3 h3 l3 X3 N3 e3 W3 => ?_)
  have E0_3 := E0_2.wr W3
  have F1_3 := F1_2.other W3 (Or.inr (slot_ne (Or.inl (own_w45 hw)) (Or.inl (own_w47 hw)) (by decide) (t := .int) (t' := .int) (by decide) (by decide)))
  have F2_3 := F2_2.same W3
  have K0_3 := K0_2.wr W3 (Or.inl (List.mem_of_getElem? (i := 0) rfl))
  exact own_retV X3 hx hret hlk (hb hby d_rinit_14) (by decide) (by decide) N3 e3 ⟨rfl, F1_3, F2_3, K0_3⟩
theorem d_coder_0 : decode jdk_42_method_152_code 0 = .ok (.getstatic 38, 3) := by decide +kernel
theorem d_coder_3 : decode jdk_42_method_152_code 3 = .ok (.ifCond .eq 10, 3) := by decide +kernel
theorem d_coder_6 : decode jdk_42_method_152_code 6 = .ok (.aload_n 0, 1) := by decide +kernel
theorem d_coder_7 : decode jdk_42_method_152_code 7 = .ok (.getfield 15, 3) := by decide +kernel
theorem d_coder_10 : decode jdk_42_method_152_code 10 = .ok (.goto 4, 3) := by decide +kernel
theorem d_coder_14 : decode jdk_42_method_152_code 14 = .ok (.ireturn, 1) := by decide +kernel
theorem own_ef_coder (m : MethodId) (sa : Addr) : entryFrame m #[(.ref sa)] 1 = mkF m 0 #[.val (.ref sa)] [] := by first | (simp [entryFrame, mkF, argsToLocals, Value.category]; done) | rfl
set_option maxRecDepth 65536 in
set_option maxHeartbeats 40000000 in
theorem own_m_coder (l : Launch) (Z : State) (a0 : Array Value) (hw : ∀ d ∈ tables_1, d.before a0 Z = true) (h0 : Heap) (n0 : Nat) {nn : Nat} {sa sb : Addr} {f : Nat → Int32} (E : Exa Z h0 sa "java/lang/String") (C : Fld Z h0 sa "java/lang/String" "coder" "B" (.int 0)) (V : Fld Z h0 sa "java/lang/String" "value" "[B" (.ref sb)) (A : own_A Z h0 sb .byte nn f) {cz : Int32} (hcz : ¬ cz = 0) (SC : Sta Z h0 "java/lang/String" "COMPACT_STRINGS" "Z" (.int cz)) : own_Met l Z ⟨"java/lang/String", "coder", "()B"⟩ jdk_42_method_152_code 1 (some .byte) [] ({ frames := 0, cells := 0, slots := 0, locals := 0 } : Room) #[(.ref sa)] h0 n0 (fun v h => v = some (.int 0) ∧ h = h0) := by
  refine own_body (plainFor_of_name own_pn_String) ?_
  intro p e s m below meth c T0 X0 hx hby hml hown hnm hZ e0 hret hlk
  have N0 := Fr.nil n0
  refine own_cast (own_ef_coder m sa) ?_
  refine own_getS X0 hx hZ hown (own_w17 hw) e0 SC (hb hby d_coder_0) 3 rfl (fun T1 X1 e1 => ?_)
  refine own_ifcF X1 hx (hb hby d_coder_3) (feq hcz).1 6 rfl ?_
  refine own_aloadN X1 hx (hb hby d_coder_6) rfl rfl 7 rfl ?_
  refine own_getF X1 hx hZ hown (own_w29 hw) e1 C (hb hby d_coder_7) 10 rfl (fun T2 X2 e2 => ?_)
  refine own_goto X2 hx (hb hby d_coder_10) 14 (by decide) (by decide) ?_
  exact own_retN X2 hx hret (Or.inr (Or.inl rfl)) hlk (hb hby d_coder_14) (by decide) (by decide) N0 e2 ⟨rfl, rfl⟩
theorem d_slen_0 : decode jdk_42_method_54_code 0 = .ok (.aload_n 0, 1) := by decide +kernel
theorem d_slen_1 : decode jdk_42_method_54_code 1 = .ok (.getfield 9, 3) := by decide +kernel
theorem d_slen_4 : decode jdk_42_method_54_code 4 = .ok (.arraylength, 1) := by decide +kernel
theorem d_slen_5 : decode jdk_42_method_54_code 5 = .ok (.aload_n 0, 1) := by decide +kernel
theorem d_slen_6 : decode jdk_42_method_54_code 6 = .ok (.invokevirtual 335, 3) := by decide +kernel
theorem d_slen_9 : decode jdk_42_method_54_code 9 = .ok (.ishr, 1) := by decide +kernel
theorem d_slen_10 : decode jdk_42_method_54_code 10 = .ok (.ireturn, 1) := by decide +kernel
theorem own_ef_slen (m : MethodId) (sa : Addr) : entryFrame m #[(.ref sa)] 1 = mkF m 0 #[.val (.ref sa)] [] := by first | (simp [entryFrame, mkF, argsToLocals, Value.category]; done) | rfl
set_option maxRecDepth 65536 in
set_option maxHeartbeats 40000000 in
theorem own_m_slen (l : Launch) (Z : State) (a0 : Array Value) (hw : ∀ d ∈ tables_1, d.before a0 Z = true) (h0 : Heap) (n0 : Nat) {nn : Nat} {sa sb : Addr} {f : Nat → Int32} (E : Exa Z h0 sa "java/lang/String") (C : Fld Z h0 sa "java/lang/String" "coder" "B" (.int 0)) (V : Fld Z h0 sa "java/lang/String" "value" "[B" (.ref sb)) (A : own_A Z h0 sb .byte nn f) {cz : Int32} (hcz : ¬ cz = 0) (SC : Sta Z h0 "java/lang/String" "COMPACT_STRINGS" "Z" (.int cz)) {r : Int32} (hr : nn.toInt32 >>> ((0 : Int32) &&& 31) = r) : own_Met l Z ⟨"java/lang/String", "length", "()I"⟩ jdk_42_method_54_code 1 (some .int) [] ({ frames := 1, cells := 0, slots := 0, locals := 13 } : Room) #[(.ref sa)] h0 n0 (fun v h => v = some (.int r) ∧ h = h0) := by
  refine own_body (plainFor_of_name own_pn_String) ?_
  intro p e s m below meth c T0 X0 hx hby hml hown hnm hZ e0 hret hlk
  have N0 := Fr.nil n0
  refine own_cast (own_ef_slen m sa) ?_
  refine own_aloadN X0 hx (hb hby d_slen_0) rfl rfl 1 rfl ?_
  refine own_getF X0 hx hZ hown (own_w31 hw) e0 V (hb hby d_slen_1) 4 rfl (fun T1 X1 e1 => ?_)
  refine own_arrlen X1 hx hZ e1 A (z := nn.toInt32) rfl (hb hby d_slen_4) 5 rfl ?_
  refine own_aloadN X1 hx (hb hby d_slen_5) rfl rfl 6 rfl ?_
  refine own_callV X1 hx hZ hown (own_w74 hw) (own_w75 hw) (own_w77 hw) (own_w76 hw) (own_w6 hw) (own_w78 hw) (by decide) 1 (own_m_coder l Z a0 hw _ n0 E C V A hcz SC) e1 E (by rw [hml]; rfl) [] [(.int nn.toInt32)] rfl (lenOf own_pd_0 rfl) rfl (Nat.le_of_eq rfl) (by decide) (by decide) (by decide) (by decide) (hb hby d_slen_6) N0 9 rfl (fun v2 T2 l2 X2 N2 hP2 => ?_)
  obtain ⟨rfl, e2⟩ := hP2
  show own_G p e below _ (T2.setTop (mkF m 9 #[.val (.ref sa)] [(.int (0 : Int32)), (.int nn.toInt32)]))
  refine own_ishr X2 hx (hb hby d_slen_9) 10 rfl ?_
  exact own_retI X2 hx hret hlk (hb hby d_slen_10) (by decide) (by decide) N2 e2 ⟨congrArg (fun z => some (Value.int z)) hr, rfl⟩
theorem d_isl_0 : decode jdk_42_method_154_code 0 = .ok (.getstatic 38, 3) := by decide +kernel
theorem d_isl_3 : decode jdk_42_method_154_code 3 = .ok (.ifCond .eq 14, 3) := by decide +kernel
theorem d_isl_6 : decode jdk_42_method_154_code 6 = .ok (.aload_n 0, 1) := by decide +kernel
theorem d_isl_7 : decode jdk_42_method_154_code 7 = .ok (.getfield 15, 3) := by decide +kernel
theorem d_isl_10 : decode jdk_42_method_154_code 10 = .ok (.ifCond .ne 7, 3) := by decide +kernel
theorem d_isl_13 : decode jdk_42_method_154_code 13 = .ok (.iconst 1, 1) := by decide +kernel
theorem d_isl_14 : decode jdk_42_method_154_code 14 = .ok (.goto 4, 3) := by decide +kernel
theorem d_isl_18 : decode jdk_42_method_154_code 18 = .ok (.ireturn, 1) := by decide +kernel
theorem own_ef_isl (m : MethodId) (sa : Addr) : entryFrame m #[(.ref sa)] 1 = mkF m 0 #[.val (.ref sa)] [] := by first | (simp [entryFrame, mkF, argsToLocals, Value.category]; done) | rfl
set_option maxRecDepth 65536 in
set_option maxHeartbeats 40000000 in
theorem own_m_isl (l : Launch) (Z : State) (a0 : Array Value) (hw : ∀ d ∈ tables_1, d.before a0 Z = true) (h0 : Heap) (n0 : Nat) {nn : Nat} {sa sb : Addr} {f : Nat → Int32} (E : Exa Z h0 sa "java/lang/String") (C : Fld Z h0 sa "java/lang/String" "coder" "B" (.int 0)) (V : Fld Z h0 sa "java/lang/String" "value" "[B" (.ref sb)) (A : own_A Z h0 sb .byte nn f) {cz : Int32} (hcz : ¬ cz = 0) (SC : Sta Z h0 "java/lang/String" "COMPACT_STRINGS" "Z" (.int cz)) : own_Met l Z ⟨"java/lang/String", "isLatin1", "()Z"⟩ jdk_42_method_154_code 1 (some .boolean) [] ({ frames := 0, cells := 0, slots := 0, locals := 0 } : Room) #[(.ref sa)] h0 n0 (fun v h => v = some (.int 1) ∧ h = h0) := by
  refine own_body (plainFor_of_name own_pn_String) ?_
  intro p e s m below meth c T0 X0 hx hby hml hown hnm hZ e0 hret hlk
  have N0 := Fr.nil n0
  refine own_cast (own_ef_isl m sa) ?_
  refine own_getS X0 hx hZ hown (own_w17 hw) e0 SC (hb hby d_isl_0) 3 rfl (fun T1 X1 e1 => ?_)
  refine own_ifcF X1 hx (hb hby d_isl_3) (feq hcz).1 6 rfl ?_
  refine own_aloadN X1 hx (hb hby d_isl_6) rfl rfl 7 rfl ?_
  refine own_getF X1 hx hZ hown (own_w29 hw) e1 C (hb hby d_isl_7) 10 rfl (fun T2 X2 e2 => ?_)
  refine own_ifcF X2 hx (hb hby d_isl_10) (teq (by decide)).2 13 rfl ?_
  refine own_iconst X2 hx (z := (1 : Int32)) (hb hby d_isl_13) rfl 14 rfl ?_
  refine own_goto X2 hx (hb hby d_isl_14) 18 (by decide) (by decide) ?_
  exact own_retN X2 hx hret (Or.inl rfl) hlk (hb hby d_isl_18) (by decide) (by decide) N0 e2 ⟨rfl, rfl⟩
theorem d_ixc_0 : decode jdk_43_method_23_code 0 = .ok (.iload_n 1, 1) := by decide +kernel
theorem d_ixc_1 : decode jdk_43_method_23_code 1 = .ok (.i2b, 1) := by decide +kernel
theorem d_ixc_2 : decode jdk_43_method_23_code 2 = .ok (.istore 4, 2) := by decide +kernel
theorem d_ixc_4 : decode jdk_43_method_23_code 4 = .ok (.iload_n 2, 1) := by decide +kernel
theorem d_ixc_5 : decode jdk_43_method_23_code 5 = .ok (.istore 5, 2) := by decide +kernel
theorem d_ixc_7 : decode jdk_43_method_23_code 7 = .ok (.iload 5, 2) := by decide +kernel
theorem d_ixc_9 : decode jdk_43_method_23_code 9 = .ok (.iload_n 3, 1) := by decide +kernel
theorem d_ixc_10 : decode jdk_43_method_23_code 10 = .ok (.if_icmp .ge 21, 3) := by decide +kernel
theorem d_ixc_13 : decode jdk_43_method_23_code 13 = .ok (.aload_n 0, 1) := by decide +kernel
theorem d_ixc_14 : decode jdk_43_method_23_code 14 = .ok (.iload 5, 2) := by decide +kernel
theorem d_ixc_16 : decode jdk_43_method_23_code 16 = .ok (.baload, 1) := by decide +kernel
theorem d_ixc_17 : decode jdk_43_method_23_code 17 = .ok (.iload 4, 2) := by decide +kernel
theorem d_ixc_19 : decode jdk_43_method_23_code 19 = .ok (.if_icmp .ne 6, 3) := by decide +kernel
theorem d_ixc_22 : decode jdk_43_method_23_code 22 = .ok (.iload 5, 2) := by decide +kernel
theorem d_ixc_24 : decode jdk_43_method_23_code 24 = .ok (.ireturn, 1) := by decide +kernel
theorem d_ixc_25 : decode jdk_43_method_23_code 25 = .ok (.iinc 5 1, 3) := by decide +kernel
theorem d_ixc_28 : decode jdk_43_method_23_code 28 = .ok (.goto (-21), 3) := by decide +kernel
theorem d_ixc_31 : decode jdk_43_method_23_code 31 = .ok (.iconst (-1), 1) := by decide +kernel
theorem d_ixc_32 : decode jdk_43_method_23_code 32 = .ok (.ireturn, 1) := by decide +kernel
theorem own_ef_ixc (m : MethodId) (sb : Addr) : entryFrame m #[(.ref sb), (.int (58 : Int32)), (.int (0 : Int32)), (.int (2 : Int32))] 6 = mkF m 0 #[.val (.ref sb), .val (.int (58 : Int32)), .val (.int (0 : Int32)), .val (.int (2 : Int32)), .unset, .unset] [] := by first | (simp [entryFrame, mkF, argsToLocals, Value.category]; done) | rfl
set_option maxRecDepth 65536 in
set_option maxHeartbeats 40000000 in
theorem own_m_ixc (l : Launch) (Z : State) (a0 : Array Value) (hw : ∀ d ∈ tables_1, d.before a0 Z = true) (h0 : Heap) (n0 : Nat) {sb : Addr} {f : Nat → Int32} (A : own_A Z h0 sb .byte 2 f) : own_Met l Z ⟨"java/lang/StringLatin1", "indexOfChar", "([BIII)I"⟩ jdk_43_method_23_code 6 (some .int) [] ({ frames := 0, cells := 0, slots := 0, locals := 0 } : Room) #[(.ref sb), (.int (58 : Int32)), (.int (0 : Int32)), (.int (2 : Int32))] h0 n0 (fun v h => ∃ r, v = some (.int r) ∧ h = h0) := by
  refine own_body (plainFor_of_name own_pn_StringLatin1) ?_
  intro p e s m below meth c T0 X0 hx hby hml hown hnm hZ e0 hret hlk
  have N0 := Fr.nil n0
  refine own_cast (own_ef_ixc m sb) ?_
  refine own_iloadN X0 hx (hb hby d_ixc_0) rfl 1 rfl ?_
  refine own_i2b X0 hx (hb hby d_ixc_1) 2 rfl ?_
  refine own_istore X0 hx (#[.val (.ref sb), .val (.int (58 : Int32)), .val (.int (0 : Int32)), .val (.int (2 : Int32)), .val (.int ((58 : Int32).toInt8.toInt32)), .unset]) (hb hby d_ixc_2) rfl 4 rfl ?_
  refine own_iloadN X0 hx (hb hby d_ixc_4) rfl 5 rfl ?_
  refine own_istore X0 hx (#[.val (.ref sb), .val (.int (58 : Int32)), .val (.int (0 : Int32)), .val (.int (2 : Int32)), .val (.int ((58 : Int32).toInt8.toInt32)), .val (.int (0 : Int32))]) (hb hby d_ixc_5) rfl 7 rfl ?_
  refine own_iload X0 hx (hb hby d_ixc_7) rfl 9 rfl ?_
  refine own_iloadN X0 hx (hb hby d_ixc_9) rfl 10 rfl ?_
  refine own_icmpF X0 hx (hb hby d_ixc_10) (tlt (by decide)).2.1 13 rfl ?_
  refine own_aloadN X0 hx (hb hby d_ixc_13) rfl rfl 14 rfl ?_
  refine own_iload X0 hx (hb hby d_ixc_14) rfl 16 rfl ?_
  refine own_baloadE X0 hx hZ e0 A ⟨by decide, by decide⟩ (hb hby d_ixc_16) 17 rfl (fun x1 q1 => ?_)
  refine own_iload X0 hx (hb hby d_ixc_17) rfl 19 rfl ?_
  by_cases hc2 : x1 = ((58 : Int32).toInt8.toInt32)
  · refine own_icmpF X0 hx (hb hby d_ixc_19) (teq hc2).2 22 rfl ?_
    refine own_iload X0 hx (hb hby d_ixc_22) rfl 24 rfl ?_
    exact own_retI X0 hx hret hlk (hb hby d_ixc_24) (by decide) (by decide) N0 e0 ⟨_, rfl, rfl⟩
  · refine own_icmpT X0 hx (hb hby d_ixc_19) (feq hc2).2 25 (by decide) (by decide) ?_
    refine own_iinc X0 hx (z := (1 : Int32)) (#[.val (.ref sb), .val (.int (58 : Int32)), .val (.int (0 : Int32)), .val (.int (2 : Int32)), .val (.int ((58 : Int32).toInt8.toInt32)), .val (.int (1 : Int32))]) (hb hby d_ixc_25) rfl (by decide) rfl 28 rfl ?_
    refine own_goto X0 hx (hb hby d_ixc_28) 7 (by decide) (by decide) ?_
    refine own_iload X0 hx (hb hby d_ixc_7) rfl 9 rfl ?_
    refine own_iloadN X0 hx (hb hby d_ixc_9) rfl 10 rfl ?_
    refine own_icmpF X0 hx (hb hby d_ixc_10) (tlt (by decide)).2.1 13 rfl ?_
    refine own_aloadN X0 hx (hb hby d_ixc_13) rfl rfl 14 rfl ?_
    refine own_iload X0 hx (hb hby d_ixc_14) rfl 16 rfl ?_
    refine own_baloadE X0 hx hZ e0 A ⟨by decide, by decide⟩ (hb hby d_ixc_16) 17 rfl (fun x3 q3 => ?_)
    refine own_iload X0 hx (hb hby d_ixc_17) rfl 19 rfl ?_
    by_cases hc4 : x3 = ((58 : Int32).toInt8.toInt32)
    · refine own_icmpF X0 hx (hb hby d_ixc_19) (teq hc4).2 22 rfl ?_
      refine own_iload X0 hx (hb hby d_ixc_22) rfl 24 rfl ?_
      exact own_retI X0 hx hret hlk (hb hby d_ixc_24) (by decide) (by decide) N0 e0 ⟨_, rfl, rfl⟩
    · refine own_icmpT X0 hx (hb hby d_ixc_19) (feq hc4).2 25 (by decide) (by decide) ?_
      refine own_iinc X0 hx (z := (2 : Int32)) (#[.val (.ref sb), .val (.int (58 : Int32)), .val (.int (0 : Int32)), .val (.int (2 : Int32)), .val (.int ((58 : Int32).toInt8.toInt32)), .val (.int (2 : Int32))]) (hb hby d_ixc_25) rfl (by decide) rfl 28 rfl ?_
      refine own_goto X0 hx (hb hby d_ixc_28) 7 (by decide) (by decide) ?_
      refine own_iload X0 hx (hb hby d_ixc_7) rfl 9 rfl ?_
      refine own_iloadN X0 hx (hb hby d_ixc_9) rfl 10 rfl ?_
      refine own_icmpT X0 hx (hb hby d_ixc_10) (flt (by decide)).2.1 31 (by decide) (by decide) ?_
      refine own_iconst X0 hx (z := (-1 : Int32)) (hb hby d_ixc_31) rfl 32 rfl ?_
      exact own_retI X0 hx hret hlk (hb hby d_ixc_32) (by decide) (by decide) N0 e0 ⟨_, rfl, rfl⟩
theorem d_ix_0 : decode jdk_43_method_22_code 0 = .ok (.iload_n 1, 1) := by decide +kernel
theorem d_ix_1 : decode jdk_43_method_22_code 1 = .ok (.invokestatic 88, 3) := by decide +kernel
theorem d_ix_4 : decode jdk_43_method_22_code 4 = .ok (.ifCond .ne 5, 3) := by decide +kernel
theorem d_ix_9 : decode jdk_43_method_22_code 9 = .ok (.iload_n 2, 1) := by decide +kernel
theorem d_ix_10 : decode jdk_43_method_22_code 10 = .ok (.iconst 0, 1) := by decide +kernel
theorem d_ix_11 : decode jdk_43_method_22_code 11 = .ok (.invokestatic 92, 3) := by decide +kernel
theorem d_ix_14 : decode jdk_43_method_22_code 14 = .ok (.istore_n 2, 1) := by decide +kernel
theorem d_ix_15 : decode jdk_43_method_22_code 15 = .ok (.iload_n 3, 1) := by decide +kernel
theorem d_ix_16 : decode jdk_43_method_22_code 16 = .ok (.aload_n 0, 1) := by decide +kernel
theorem d_ix_17 : decode jdk_43_method_22_code 17 = .ok (.arraylength, 1) := by decide +kernel
theorem d_ix_18 : decode jdk_43_method_22_code 18 = .ok (.invokestatic 38, 3) := by decide +kernel
theorem d_ix_21 : decode jdk_43_method_22_code 21 = .ok (.istore_n 3, 1) := by decide +kernel
theorem d_ix_22 : decode jdk_43_method_22_code 22 = .ok (.iload_n 2, 1) := by decide +kernel
theorem d_ix_23 : decode jdk_43_method_22_code 23 = .ok (.iload_n 3, 1) := by decide +kernel
theorem d_ix_24 : decode jdk_43_method_22_code 24 = .ok (.if_icmp .lt 5, 3) := by decide +kernel
theorem d_ix_29 : decode jdk_43_method_22_code 29 = .ok (.aload_n 0, 1) := by decide +kernel
theorem d_ix_30 : decode jdk_43_method_22_code 30 = .ok (.iload_n 1, 1) := by decide +kernel
theorem d_ix_31 : decode jdk_43_method_22_code 31 = .ok (.iload_n 2, 1) := by decide +kernel
theorem d_ix_32 : decode jdk_43_method_22_code 32 = .ok (.iload_n 3, 1) := by decide +kernel
theorem d_ix_33 : decode jdk_43_method_22_code 33 = .ok (.invokestatic 95, 3) := by decide +kernel
theorem d_ix_36 : decode jdk_43_method_22_code 36 = .ok (.ireturn, 1) := by decide +kernel
theorem own_ef_ix (m : MethodId) (sb : Addr) : entryFrame m #[(.ref sb), (.int (58 : Int32)), (.int (0 : Int32)), (.int (2 : Int32))] 4 = mkF m 0 #[.val (.ref sb), .val (.int (58 : Int32)), .val (.int (0 : Int32)), .val (.int (2 : Int32))] [] := by first | (simp [entryFrame, mkF, argsToLocals, Value.category]; done) | rfl
set_option maxRecDepth 65536 in
set_option maxHeartbeats 40000000 in
theorem own_m_ix (l : Launch) (Z : State) (a0 : Array Value) (hw : ∀ d ∈ tables_1, d.before a0 Z = true) (h0 : Heap) (n0 : Nat) {sb : Addr} {f : Nat → Int32} (A : own_A Z h0 sb .byte 2 f) : own_Met l Z ⟨"java/lang/StringLatin1", "indexOf", "([BIII)I"⟩ jdk_43_method_22_code 4 (some .int) [] ({ frames := 1, cells := 0, slots := 0, locals := 17 } : Room) #[(.ref sb), (.int (58 : Int32)), (.int (0 : Int32)), (.int (2 : Int32))] h0 n0 (fun v h => ∃ r, v = some (.int r) ∧ h = h0) := by
  refine own_body (plainFor_of_name own_pn_StringLatin1) ?_
  intro p e s m below meth c T0 X0 hx hby hml hown hnm hZ e0 hret hlk
  have N0 := Fr.nil n0
  refine own_cast (own_ef_ix m sb) ?_
  refine own_iloadN X0 hx (hb hby d_ix_0) rfl 1 rfl ?_
  refine own_callS X0 hx hZ hown (own_w83 hw) (own_w84 hw) (own_w81 hw) (own_w85 hw) (by decide) 0 (own_m_cei l Z a0 hw _ n0 (58 : Int32) (r := (1 : Int32)) (by decide)) e0 (by rw [hml]; rfl) [(.int (58 : Int32))] [] rfl (lenOf own_pd_1 rfl) rfl (Nat.le_of_eq rfl) (by decide) (by decide) (by decide) (by decide) (hb hby d_ix_1) N0 4 rfl (fun v1 T1 l1 X1 N1 hP1 => ?_)
  obtain ⟨rfl, e1⟩ := hP1
  show own_G p e below _ (T1.setTop (mkF m 4 #[.val (.ref sb), .val (.int (58 : Int32)), .val (.int (0 : Int32)), .val (.int (2 : Int32))] [(.int (1 : Int32))]))
  refine own_ifcT X1 hx (hb hby d_ix_4) (feq (by decide)).2 9 (by decide) (by decide) ?_
  refine own_iloadN X1 hx (hb hby d_ix_9) rfl 10 rfl ?_
  refine own_iconst X1 hx (z := (0 : Int32)) (hb hby d_ix_10) rfl 11 rfl ?_
  refine own_callS X1 hx hZ hown (own_w86 hw) (own_w87 hw) (own_w88 hw) (own_w89 hw) (by decide) 0 (own_m_max l Z a0 hw _ n0 (0 : Int32) (0 : Int32) (r := (0 : Int32)) (by decide)) e1 (by rw [hml]; rfl) [(.int (0 : Int32)), (.int (0 : Int32))] [] rfl (lenOf own_pd_2 rfl) rfl (Nat.le_of_eq rfl) (by decide) (by decide) (by decide) (by decide) (hb hby d_ix_11) N1 14 rfl (fun v2 T2 l2 X2 N2 hP2 => ?_)
  obtain ⟨rfl, e2⟩ := hP2
  show own_G p e below _ (T2.setTop (mkF m 14 #[.val (.ref sb), .val (.int (58 : Int32)), .val (.int (0 : Int32)), .val (.int (2 : Int32))] [(.int (0 : Int32))]))
  refine own_istoreN X2 hx (#[.val (.ref sb), .val (.int (58 : Int32)), .val (.int (0 : Int32)), .val (.int (2 : Int32))]) (hb hby d_ix_14) rfl 15 rfl ?_
  refine own_iloadN X2 hx (hb hby d_ix_15) rfl 16 rfl ?_
  refine own_aloadN X2 hx (hb hby d_ix_16) rfl rfl 17 rfl ?_
  refine own_arrlen X2 hx hZ e2 A (z := (2 : Int32)) rfl (hb hby d_ix_17) 18 rfl ?_
  refine own_callS X2 hx hZ hown (own_w90 hw) (own_w91 hw) (own_w88 hw) (own_w92 hw) (by decide) 0 (own_m_min l Z a0 hw _ n0 (2 : Int32) (2 : Int32) (r := (2 : Int32)) (by decide)) e2 (by rw [hml]; rfl) [(.int (2 : Int32)), (.int (2 : Int32))] [] rfl (lenOf own_pd_2 rfl) rfl (Nat.le_of_eq rfl) (by decide) (by decide) (by decide) (by decide) (hb hby d_ix_18) N2 21 rfl (fun v3 T3 l3 X3 N3 hP3 => ?_)
  obtain ⟨rfl, e3⟩ := hP3
  show own_G p e below _ (T3.setTop (mkF m 21 #[.val (.ref sb), .val (.int (58 : Int32)), .val (.int (0 : Int32)), .val (.int (2 : Int32))] [(.int (2 : Int32))]))
  refine own_istoreN X3 hx (#[.val (.ref sb), .val (.int (58 : Int32)), .val (.int (0 : Int32)), .val (.int (2 : Int32))]) (hb hby d_ix_21) rfl 22 rfl ?_
  refine own_iloadN X3 hx (hb hby d_ix_22) rfl 23 rfl ?_
  refine own_iloadN X3 hx (hb hby d_ix_23) rfl 24 rfl ?_
  refine own_icmpT X3 hx (hb hby d_ix_24) (tlt (by decide)).1 29 (by decide) (by decide) ?_
  refine own_aloadN X3 hx (hb hby d_ix_29) rfl rfl 30 rfl ?_
  refine own_iloadN X3 hx (hb hby d_ix_30) rfl 31 rfl ?_
  refine own_iloadN X3 hx (hb hby d_ix_31) rfl 32 rfl ?_
  refine own_iloadN X3 hx (hb hby d_ix_32) rfl 33 rfl ?_
  refine own_callS X3 hx hZ hown (own_w93 hw) (own_w94 hw) (own_w81 hw) (own_w95 hw) (by decide) 0 (own_m_ixc l Z a0 hw _ n0 A) e3 (by rw [hml]; rfl) [(.ref sb), (.int (58 : Int32)), (.int (0 : Int32)), (.int (2 : Int32))] [] rfl (lenOf own_pd_3 rfl) rfl (Nat.le_of_eq rfl) (by decide) (by decide) (by decide) (by decide) (hb hby d_ix_33) N3 36 rfl (fun v4 T4 l4 X4 N4 hP4 => ?_)
  obtain ⟨r4, rfl, e4⟩ := hP4
  show own_G p e below _ (T4.setTop (mkF m 36 #[.val (.ref sb), .val (.int (58 : Int32)), .val (.int (0 : Int32)), .val (.int (2 : Int32))] [(.int r4)]))
  exact own_retI X4 hx hret hlk (hb hby d_ix_36) (by decide) (by decide) N4 e4 ⟨_, rfl, rfl⟩
theorem d_si2_0 : decode jdk_42_method_80_code 0 = .ok (.aload_n 0, 1) := by decide +kernel
theorem d_si2_1 : decode jdk_42_method_80_code 1 = .ok (.invokevirtual 492, 3) := by decide +kernel
theorem d_si2_4 : decode jdk_42_method_80_code 4 = .ok (.ifCond .eq 19, 3) := by decide +kernel
theorem d_si2_7 : decode jdk_42_method_80_code 7 = .ok (.aload_n 0, 1) := by decide +kernel
theorem d_si2_8 : decode jdk_42_method_80_code 8 = .ok (.getfield 9, 3) := by decide +kernel
theorem d_si2_11 : decode jdk_42_method_80_code 11 = .ok (.iload_n 1, 1) := by decide +kernel
theorem d_si2_12 : decode jdk_42_method_80_code 12 = .ok (.iload_n 2, 1) := by decide +kernel
theorem d_si2_13 : decode jdk_42_method_80_code 13 = .ok (.aload_n 0, 1) := by decide +kernel
theorem d_si2_14 : decode jdk_42_method_80_code 14 = .ok (.invokevirtual 505, 3) := by decide +kernel
theorem d_si2_17 : decode jdk_42_method_80_code 17 = .ok (.invokestatic 637, 3) := by decide +kernel
theorem d_si2_20 : decode jdk_42_method_80_code 20 = .ok (.goto 16, 3) := by decide +kernel
theorem d_si2_36 : decode jdk_42_method_80_code 36 = .ok (.ireturn, 1) := by decide +kernel
theorem own_ef_si2 (m : MethodId) (sa : Addr) : entryFrame m #[(.ref sa), (.int (58 : Int32)), (.int (0 : Int32))] 3 = mkF m 0 #[.val (.ref sa), .val (.int (58 : Int32)), .val (.int (0 : Int32))] [] := by first | (simp [entryFrame, mkF, argsToLocals, Value.category]; done) | rfl
set_option maxRecDepth 65536 in
set_option maxHeartbeats 40000000 in
theorem own_m_si2 (l : Launch) (Z : State) (a0 : Array Value) (hw : ∀ d ∈ tables_1, d.before a0 Z = true) (h0 : Heap) (n0 : Nat) {sa sb : Addr} {f : Nat → Int32} (E : Exa Z h0 sa "java/lang/String") (C : Fld Z h0 sa "java/lang/String" "coder" "B" (.int 0)) (V : Fld Z h0 sa "java/lang/String" "value" "[B" (.ref sb)) (A : own_A Z h0 sb .byte 2 f) {cz : Int32} (hcz : ¬ cz = 0) (SC : Sta Z h0 "java/lang/String" "COMPACT_STRINGS" "Z" (.int cz)) : own_Met l Z ⟨"java/lang/String", "indexOf", "(II)I"⟩ jdk_42_method_80_code 3 (some .int) [] ({ frames := 2, cells := 0, slots := 0, locals := 32 } : Room) #[(.ref sa), (.int (58 : Int32)), (.int (0 : Int32))] h0 n0 (fun v h => ∃ r, v = some (.int r) ∧ h = h0) := by
  refine own_body (plainFor_of_name own_pn_String) ?_
  intro p e s m below meth c T0 X0 hx hby hml hown hnm hZ e0 hret hlk
  have N0 := Fr.nil n0
  refine own_cast (own_ef_si2 m sa) ?_
  refine own_aloadN X0 hx (hb hby d_si2_0) rfl rfl 1 rfl ?_
  refine own_callV X0 hx hZ hown (own_w64 hw) (own_w65 hw) (own_w67 hw) (own_w66 hw) (own_w6 hw) (own_w68 hw) (by decide) 0 (own_m_isl l Z a0 hw _ n0 E C V A hcz SC) e0 E (by rw [hml]; rfl) [] [] rfl (lenOf own_pd_4 rfl) rfl (Nat.le_of_eq rfl) (by decide) (by decide) (by decide) (by decide) (hb hby d_si2_1) N0 4 rfl (fun v1 T1 l1 X1 N1 hP1 => ?_)
  obtain ⟨rfl, e1⟩ := hP1
  show own_G p e below _ (T1.setTop (mkF m 4 #[.val (.ref sa), .val (.int (58 : Int32)), .val (.int (0 : Int32))] [(.int (1 : Int32))]))
  refine own_ifcF X1 hx (hb hby d_si2_4) (feq (by decide)).1 7 rfl ?_
  refine own_aloadN X1 hx (hb hby d_si2_7) rfl rfl 8 rfl ?_
  refine own_getF X1 hx hZ hown (own_w31 hw) e1 V (hb hby d_si2_8) 11 rfl (fun T2 X2 e2 => ?_)
  refine own_iloadN X2 hx (hb hby d_si2_11) rfl 12 rfl ?_
  refine own_iloadN X2 hx (hb hby d_si2_12) rfl 13 rfl ?_
  refine own_aloadN X2 hx (hb hby d_si2_13) rfl rfl 14 rfl ?_
  refine own_callV X2 hx hZ hown (own_w69 hw) (own_w70 hw) (own_w72 hw) (own_w71 hw) (own_w6 hw) (own_w73 hw) (by decide) 3 (own_m_slen l Z a0 hw _ n0 E C V A hcz SC (r := (2 : Int32)) (by decide)) e2 E (by rw [hml]; rfl) [] [(.int (0 : Int32)), (.int (58 : Int32)), (.ref sb)] rfl (lenOf own_pd_5 rfl) rfl (Nat.le_of_eq rfl) (by decide) (by decide) (by decide) (by decide) (hb hby d_si2_14) N1 17 rfl (fun v3 T3 l3 X3 N3 hP3 => ?_)
  obtain ⟨rfl, e3⟩ := hP3
  show own_G p e below _ (T3.setTop (mkF m 17 #[.val (.ref sa), .val (.int (58 : Int32)), .val (.int (0 : Int32))] [(.int (2 : Int32)), (.int (0 : Int32)), (.int (58 : Int32)), (.ref sb)]))
  refine own_callS X3 hx hZ hown (own_w79 hw) (own_w80 hw) (own_w81 hw) (own_w82 hw) (by decide) 0 (own_m_ix l Z a0 hw _ n0 A) e3 (by rw [hml]; rfl) [(.ref sb), (.int (58 : Int32)), (.int (0 : Int32)), (.int (2 : Int32))] [] rfl (lenOf own_pd_3 rfl) rfl (Nat.le_of_eq rfl) (by decide) (by decide) (by decide) (by decide) (hb hby d_si2_17) N3 20 rfl (fun v4 T4 l4 X4 N4 hP4 => ?_)
  obtain ⟨r4, rfl, e4⟩ := hP4
  show own_G p e below _ (T4.setTop (mkF m 20 #[.val (.ref sa), .val (.int (58 : Int32)), .val (.int (0 : Int32))] [(.int r4)]))
  refine own_goto X4 hx (hb hby d_si2_20) 36 (by decide) (by decide) ?_
  exact own_retI X4 hx hret hlk (hb hby d_si2_36) (by decide) (by decide) N4 e4 ⟨_, rfl, rfl⟩
theorem d_si1_0 : decode jdk_42_method_79_code 0 = .ok (.aload_n 0, 1) := by decide +kernel
theorem d_si1_1 : decode jdk_42_method_79_code 1 = .ok (.iload_n 1, 1) := by decide +kernel
theorem d_si1_2 : decode jdk_42_method_79_code 2 = .ok (.iconst 0, 1) := by decide +kernel
theorem d_si1_3 : decode jdk_42_method_79_code 3 = .ok (.invokevirtual 633, 3) := by decide +kernel
theorem d_si1_6 : decode jdk_42_method_79_code 6 = .ok (.ireturn, 1) := by decide +kernel
theorem own_ef_si1 (m : MethodId) (sa : Addr) : entryFrame m #[(.ref sa), (.int (58 : Int32))] 2 = mkF m 0 #[.val (.ref sa), .val (.int (58 : Int32))] [] := by first | (simp [entryFrame, mkF, argsToLocals, Value.category]; done) | rfl
set_option maxRecDepth 65536 in
set_option maxHeartbeats 40000000 in
theorem own_m_si1 (l : Launch) (Z : State) (a0 : Array Value) (hw : ∀ d ∈ tables_1, d.before a0 Z = true) (h0 : Heap) (n0 : Nat) {sa sb : Addr} {f : Nat → Int32} (E : Exa Z h0 sa "java/lang/String") (C : Fld Z h0 sa "java/lang/String" "coder" "B" (.int 0)) (V : Fld Z h0 sa "java/lang/String" "value" "[B" (.ref sb)) (A : own_A Z h0 sb .byte 2 f) {cz : Int32} (hcz : ¬ cz = 0) (SC : Sta Z h0 "java/lang/String" "COMPACT_STRINGS" "Z" (.int cz)) : own_Met l Z ⟨"java/lang/String", "indexOf", "(I)I"⟩ jdk_42_method_79_code 2 (some .int) [] ({ frames := 3, cells := 0, slots := 0, locals := 46 } : Room) #[(.ref sa), (.int (58 : Int32))] h0 n0 (fun v h => ∃ r, v = some (.int r) ∧ h = h0) := by
  refine own_body (plainFor_of_name own_pn_String) ?_
  intro p e s m below meth c T0 X0 hx hby hml hown hnm hZ e0 hret hlk
  have N0 := Fr.nil n0
  refine own_cast (own_ef_si1 m sa) ?_
  refine own_aloadN X0 hx (hb hby d_si1_0) rfl rfl 1 rfl ?_
  refine own_iloadN X0 hx (hb hby d_si1_1) rfl 2 rfl ?_
  refine own_iconst X0 hx (z := (0 : Int32)) (hb hby d_si1_2) rfl 3 rfl ?_
  refine own_callV X0 hx hZ hown (own_w59 hw) (own_w60 hw) (own_w62 hw) (own_w61 hw) (own_w6 hw) (own_w63 hw) (by decide) 0 (own_m_si2 l Z a0 hw _ n0 E C V A hcz SC) e0 E (by rw [hml]; rfl) [(.int (58 : Int32)), (.int (0 : Int32))] [] rfl (lenOf own_pd_2 rfl) rfl (Nat.le_of_eq rfl) (by decide) (by decide) (by decide) (by decide) (hb hby d_si1_3) N0 6 rfl (fun v1 T1 l1 X1 N1 hP1 => ?_)
  obtain ⟨r1, rfl, e1⟩ := hP1
  show own_G p e below _ (T1.setTop (mkF m 6 #[.val (.ref sa), .val (.int (58 : Int32))] [(.int r1)]))
  exact own_retI X1 hx hret hlk (hb hby d_si1_6) (by decide) (by decide) N1 e1 ⟨_, rfl, rfl⟩
theorem d_leq_0 : decode jdk_43_method_13_code 0 = .ok (.aload_n 0, 1) := by decide +kernel
theorem d_leq_1 : decode jdk_43_method_13_code 1 = .ok (.arraylength, 1) := by decide +kernel
theorem d_leq_2 : decode jdk_43_method_13_code 2 = .ok (.aload_n 1, 1) := by decide +kernel
theorem d_leq_3 : decode jdk_43_method_13_code 3 = .ok (.arraylength, 1) := by decide +kernel
theorem d_leq_4 : decode jdk_43_method_13_code 4 = .ok (.if_icmp .ne 30, 3) := by decide +kernel
theorem d_leq_34 : decode jdk_43_method_13_code 34 = .ok (.iconst 0, 1) := by decide +kernel
theorem d_leq_35 : decode jdk_43_method_13_code 35 = .ok (.ireturn, 1) := by decide +kernel
theorem own_ef_leq (m : MethodId) (sb : Addr) (kb : Addr) : entryFrame m #[(.ref sb), (.ref kb)] 3 = mkF m 0 #[.val (.ref sb), .val (.ref kb), .unset] [] := by first | (simp [entryFrame, mkF, argsToLocals, Value.category]; done) | rfl
set_option maxRecDepth 65536 in
set_option maxHeartbeats 40000000 in
theorem own_m_leq (l : Launch) (Z : State) (a0 : Array Value) (hw : ∀ d ∈ tables_1, d.before a0 Z = true) (h0 : Heap) (n0 : Nat) {sb kb : Addr} {f fk : Nat → Int32} (A : own_A Z h0 sb .byte 2 f) (Ak : own_A Z h0 kb .byte 5 fk) : own_Met l Z ⟨"java/lang/StringLatin1", "equals", "([B[B)Z"⟩ jdk_43_method_13_code 3 (some .boolean) [] ({ frames := 0, cells := 0, slots := 0, locals := 0 } : Room) #[(.ref sb), (.ref kb)] h0 n0 (fun v h => v = some (.int 0) ∧ h = h0) := by
  refine own_body (plainFor_of_name own_pn_StringLatin1) ?_
  intro p e s m below meth c T0 X0 hx hby hml hown hnm hZ e0 hret hlk
  have N0 := Fr.nil n0
  refine own_cast (own_ef_leq m sb kb) ?_
  refine own_aloadN X0 hx (hb hby d_leq_0) rfl rfl 1 rfl ?_
  refine own_arrlen X0 hx hZ e0 A (z := (2 : Int32)) rfl (hb hby d_leq_1) 2 rfl ?_
  refine own_aloadN X0 hx (hb hby d_leq_2) rfl rfl 3 rfl ?_
  refine own_arrlen X0 hx hZ e0 Ak (z := (5 : Int32)) rfl (hb hby d_leq_3) 4 rfl ?_
  refine own_icmpT X0 hx (hb hby d_leq_4) (feq (by decide)).2 34 (by decide) (by decide) ?_
  refine own_iconst X0 hx (z := (0 : Int32)) (hb hby d_leq_34) rfl 35 rfl ?_
  exact own_retN X0 hx hret (Or.inl rfl) hlk (hb hby d_leq_35) (by decide) (by decide) N0 e0 ⟨rfl, rfl⟩
theorem d_seq_0 : decode jdk_42_method_66_code 0 = .ok (.aload_n 0, 1) := by decide +kernel
theorem d_seq_1 : decode jdk_42_method_66_code 1 = .ok (.aload_n 1, 1) := by decide +kernel
theorem d_seq_2 : decode jdk_42_method_66_code 2 = .ok (.if_acmp .ne 5, 3) := by decide +kernel
theorem d_seq_7 : decode jdk_42_method_66_code 7 = .ok (.aload_n 1, 1) := by decide +kernel
theorem d_seq_8 : decode jdk_42_method_66_code 8 = .ok (.instanceof 10, 3) := by decide +kernel
theorem d_seq_11 : decode jdk_42_method_66_code 11 = .ok (.ifCond .eq 43, 3) := by decide +kernel
theorem d_seq_14 : decode jdk_42_method_66_code 14 = .ok (.aload_n 1, 1) := by decide +kernel
theorem d_seq_15 : decode jdk_42_method_66_code 15 = .ok (.checkcast 10, 3) := by decide +kernel
theorem d_seq_18 : decode jdk_42_method_66_code 18 = .ok (.astore_n 2, 1) := by decide +kernel
theorem d_seq_19 : decode jdk_42_method_66_code 19 = .ok (.getstatic 38, 3) := by decide +kernel
theorem d_seq_22 : decode jdk_42_method_66_code 22 = .ok (.ifCond .eq 14, 3) := by decide +kernel
theorem d_seq_25 : decode jdk_42_method_66_code 25 = .ok (.aload_n 0, 1) := by decide +kernel
theorem d_seq_26 : decode jdk_42_method_66_code 26 = .ok (.getfield 15, 3) := by decide +kernel
theorem d_seq_29 : decode jdk_42_method_66_code 29 = .ok (.aload_n 2, 1) := by decide +kernel
theorem d_seq_30 : decode jdk_42_method_66_code 30 = .ok (.getfield 15, 3) := by decide +kernel
theorem d_seq_33 : decode jdk_42_method_66_code 33 = .ok (.if_icmp .ne 21, 3) := by decide +kernel
theorem d_seq_36 : decode jdk_42_method_66_code 36 = .ok (.aload_n 0, 1) := by decide +kernel
theorem d_seq_37 : decode jdk_42_method_66_code 37 = .ok (.getfield 9, 3) := by decide +kernel
theorem d_seq_40 : decode jdk_42_method_66_code 40 = .ok (.aload_n 2, 1) := by decide +kernel
theorem d_seq_41 : decode jdk_42_method_66_code 41 = .ok (.getfield 9, 3) := by decide +kernel
theorem d_seq_44 : decode jdk_42_method_66_code 44 = .ok (.invokestatic 541, 3) := by decide +kernel
theorem d_seq_47 : decode jdk_42_method_66_code 47 = .ok (.ifCond .eq 7, 3) := by decide +kernel
theorem d_seq_54 : decode jdk_42_method_66_code 54 = .ok (.iconst 0, 1) := by decide +kernel
theorem d_seq_55 : decode jdk_42_method_66_code 55 = .ok (.ireturn, 1) := by decide +kernel
theorem own_ef_seq (m : MethodId) (sa : Addr) (ka : Addr) : entryFrame m #[(.ref sa), (.ref ka)] 3 = mkF m 0 #[.val (.ref sa), .val (.ref ka), .unset] [] := by first | (simp [entryFrame, mkF, argsToLocals, Value.category]; done) | rfl
set_option maxRecDepth 65536 in
set_option maxHeartbeats 40000000 in
theorem own_m_seq (l : Launch) (Z : State) (a0 : Array Value) (hw : ∀ d ∈ tables_1, d.before a0 Z = true) (h0 : Heap) (n0 : Nat) {sa sb : Addr} {f : Nat → Int32} (E : Exa Z h0 sa "java/lang/String") (C : Fld Z h0 sa "java/lang/String" "coder" "B" (.int 0)) (V : Fld Z h0 sa "java/lang/String" "value" "[B" (.ref sb)) (A : own_A Z h0 sb .byte 2 f) {ka kb : Addr} {fk : Nat → Int32} (Ek : Exa Z h0 ka "java/lang/String") (Ck : Fld Z h0 ka "java/lang/String" "coder" "B" (.int 0)) (Vk : Fld Z h0 ka "java/lang/String" "value" "[B" (.ref kb)) (Ak : own_A Z h0 kb .byte 5 fk) (hne : sa ≠ ka) {cz : Int32} (hcz : ¬ cz = 0) (SC : Sta Z h0 "java/lang/String" "COMPACT_STRINGS" "Z" (.int cz)) : own_Met l Z ⟨"java/lang/String", "equals", "(Ljava/lang/Object;)Z"⟩ jdk_42_method_66_code 3 (some .boolean) [] ({ frames := 1, cells := 0, slots := 0, locals := 14 } : Room) #[(.ref sa), (.ref ka)] h0 n0 (fun v h => v = some (.int 0) ∧ h = h0) := by
  refine own_body (plainFor_of_name own_pn_String) ?_
  intro p e s m below meth c T0 X0 hx hby hml hown hnm hZ e0 hret hlk
  have N0 := Fr.nil n0
  refine own_cast (own_ef_seq m sa ka) ?_
  refine own_aloadN X0 hx (hb hby d_seq_0) rfl rfl 1 rfl ?_
  refine own_aloadN X0 hx (hb hby d_seq_1) rfl rfl 2 rfl ?_
  refine own_acmpT X0 hx (hb hby d_seq_2) (by simp [if_acmp.holds, hne]) 7 (by decide) (by decide) ?_
  refine own_aloadN X0 hx (hb hby d_seq_7) rfl rfl 8 rfl ?_
  refine own_instY X0 hx hZ hown (own_w106 hw) e0 (Ins.self Ek) (hb hby d_seq_8) 11 rfl (fun T1 X1 e1 => ?_)
  refine own_ifcF X1 hx (hb hby d_seq_11) (feq (by decide)).1 14 rfl ?_
  refine own_aloadN X1 hx (hb hby d_seq_14) rfl rfl 15 rfl ?_
  refine own_castY X1 hx hZ hown (own_w106 hw) e1 (Ins.self Ek) (hb hby d_seq_15) 18 rfl (fun T2 X2 e2 => ?_)
  refine own_astoreN X2 hx (#[.val (.ref sa), .val (.ref ka), .val (.ref ka)]) (hb hby d_seq_18) rfl rfl 19 rfl ?_
  refine own_getS X2 hx hZ hown (own_w17 hw) e2 SC (hb hby d_seq_19) 22 rfl (fun T3 X3 e3 => ?_)
  refine own_ifcF X3 hx (hb hby d_seq_22) (feq hcz).1 25 rfl ?_
  refine own_aloadN X3 hx (hb hby d_seq_25) rfl rfl 26 rfl ?_
  refine own_getF X3 hx hZ hown (own_w29 hw) e3 C (hb hby d_seq_26) 29 rfl (fun T4 X4 e4 => ?_)
  refine own_aloadN X4 hx (hb hby d_seq_29) rfl rfl 30 rfl ?_
  refine own_getF X4 hx hZ hown (own_w29 hw) e4 Ck (hb hby d_seq_30) 33 rfl (fun T5 X5 e5 => ?_)
  refine own_icmpF X5 hx (hb hby d_seq_33) (teq (by decide)).2 36 rfl ?_
  refine own_aloadN X5 hx (hb hby d_seq_36) rfl rfl 37 rfl ?_
  refine own_getF X5 hx hZ hown (own_w31 hw) e5 V (hb hby d_seq_37) 40 rfl (fun T6 X6 e6 => ?_)
  refine own_aloadN X6 hx (hb hby d_seq_40) rfl rfl 41 rfl ?_
  refine own_getF X6 hx hZ hown (own_w31 hw) e6 Vk (hb hby d_seq_41) 44 rfl (fun T7 X7 e7 => ?_)
  refine own_callS X7 hx hZ hown (own_w107 hw) (own_w108 hw) (own_w81 hw) (own_w109 hw) (by decide) 0 (own_m_leq l Z a0 hw _ n0 A Ak) e7 (by rw [hml]; rfl) [(.ref sb), (.ref kb)] [] rfl (lenOf own_pd_6 rfl) rfl (Nat.le_of_eq rfl) (by decide) (by decide) (by decide) (by decide) (hb hby d_seq_44) N0 47 rfl (fun v8 T8 l8 X8 N8 hP8 => ?_)
  obtain ⟨rfl, e8⟩ := hP8
  show own_G p e below _ (T8.setTop (mkF m 47 #[.val (.ref sa), .val (.ref ka), .val (.ref ka)] [(.int (0 : Int32))]))
  refine own_ifcT X8 hx (hb hby d_seq_47) (teq (by decide)).1 54 (by decide) (by decide) ?_
  refine own_iconst X8 hx (z := (0 : Int32)) (hb hby d_seq_54) rfl 55 rfl ?_
  exact own_retN X8 hx hret (Or.inl rfl) hlk (hb hby d_seq_55) (by decide) (by decide) N8 e8 ⟨rfl, rfl⟩
theorem own_isubZ {p : Program} {l : Launch} {e : Env} {R : Room} {s : State} {m : MethodId} {args : Array Value} {below : List Frame} {meth : Method} {c : Code} {T : State} {locs : List Loc} {cells slots : Nat} {Q : Outcome → State → Prop} {pc : Nat} {Ls : Array Slot} {st : List Value} (X : Stand p l e R s m args below meth c T locs cells slots) (hx : p.tables.exec = Jvm.exec) {x y z : Int32} (hz : x - y = z) (hd : decode c.code pc = .ok (.isub, 1)) (pc' : Nat) (hp : pc + 1 = pc') (r : own_G p e below Q (T.setTop (mkF m pc' Ls (.int z :: st)))) : own_G p e below Q (T.setTop (mkF m pc Ls (.int y :: .int x :: st))) := by
  subst hz
  exact own_isub X hx hd pc' hp r
theorem d_sw2_0 : decode jdk_42_method_75_code 0 = .ok (.iload_n 2, 1) := by decide +kernel
theorem d_sw2_1 : decode jdk_42_method_75_code 1 = .ok (.ifCond .lt 16, 3) := by decide +kernel
theorem d_sw2_4 : decode jdk_42_method_75_code 4 = .ok (.iload_n 2, 1) := by decide +kernel
theorem d_sw2_5 : decode jdk_42_method_75_code 5 = .ok (.aload_n 0, 1) := by decide +kernel
theorem d_sw2_6 : decode jdk_42_method_75_code 6 = .ok (.invokevirtual 505, 3) := by decide +kernel
theorem d_sw2_9 : decode jdk_42_method_75_code 9 = .ok (.aload_n 1, 1) := by decide +kernel
theorem d_sw2_10 : decode jdk_42_method_75_code 10 = .ok (.invokevirtual 505, 3) := by decide +kernel
theorem d_sw2_13 : decode jdk_42_method_75_code 13 = .ok (.isub, 1) := by decide +kernel
theorem d_sw2_14 : decode jdk_42_method_75_code 14 = .ok (.if_icmp .le 5, 3) := by decide +kernel
theorem d_sw2_17 : decode jdk_42_method_75_code 17 = .ok (.iconst 0, 1) := by decide +kernel
theorem d_sw2_18 : decode jdk_42_method_75_code 18 = .ok (.ireturn, 1) := by decide +kernel
theorem own_ef_sw2 (m : MethodId) (sa ka : Addr) : entryFrame m #[(.ref sa), (.ref ka), (.int (0 : Int32))] 8 = mkF m 0 #[.val (.ref sa), .val (.ref ka), .val (.int (0 : Int32)), .unset, .unset, .unset, .unset, .unset] [] := by first | (simp [entryFrame, mkF, argsToLocals, Value.category]; done) | rfl
set_option maxRecDepth 65536 in
set_option maxHeartbeats 40000000 in
theorem own_m_sw2 (l : Launch) (Z : State) (a0 : Array Value) (hw : ∀ d ∈ tables_1, d.before a0 Z = true) (h0 : Heap) (n0 : Nat) {sa sb : Addr} {f : Nat → Int32} (E : Exa Z h0 sa "java/lang/String") (C : Fld Z h0 sa "java/lang/String" "coder" "B" (.int 0)) (V : Fld Z h0 sa "java/lang/String" "value" "[B" (.ref sb)) (A : own_A Z h0 sb .byte 2 f) {ka kb : Addr} {fk : Nat → Int32} (Ek : Exa Z h0 ka "java/lang/String") (Ck : Fld Z h0 ka "java/lang/String" "coder" "B" (.int 0)) (Vk : Fld Z h0 ka "java/lang/String" "value" "[B" (.ref kb)) (Ak : own_A Z h0 kb .byte 6 fk) {cz : Int32} (hcz : ¬ cz = 0) (SC : Sta Z h0 "java/lang/String" "COMPACT_STRINGS" "Z" (.int cz)) : own_Met l Z ⟨"java/lang/String", "startsWith", "(Ljava/lang/String;I)Z"⟩ jdk_42_method_75_code 8 (some .boolean) [] ({ frames := 2, cells := 0, slots := 0, locals := 27 } : Room) #[(.ref sa), (.ref ka), (.int (0 : Int32))] h0 n0 (fun v h => v = some (.int 0) ∧ h = h0) := by
  refine own_body (plainFor_of_name own_pn_String) ?_
  intro p e s m below meth c T0 X0 hx hby hml hown hnm hZ e0 hret hlk
  have N0 := Fr.nil n0
  refine own_cast (own_ef_sw2 m sa ka) ?_
  refine own_iloadN X0 hx (hb hby d_sw2_0) rfl 1 rfl ?_
  refine own_ifcF X0 hx (hb hby d_sw2_1) (flt (by decide)).1 4 rfl ?_
  refine own_iloadN X0 hx (hb hby d_sw2_4) rfl 5 rfl ?_
  refine own_aloadN X0 hx (hb hby d_sw2_5) rfl rfl 6 rfl ?_
  refine own_callV X0 hx hZ hown (own_w69 hw) (own_w70 hw) (own_w72 hw) (own_w71 hw) (own_w6 hw) (own_w73 hw) (by decide) 1 (own_m_slen l Z a0 hw _ n0 E C V A hcz SC (r := (2 : Int32)) (by decide)) e0 E (by rw [hml]; rfl) [] [(.int (0 : Int32))] rfl (lenOf own_pd_5 rfl) rfl (Nat.le_of_eq rfl) (by decide) (by decide) (by decide) (by decide) (hb hby d_sw2_6) N0 9 rfl (fun v1 T1 l1 X1 N1 hP1 => ?_)
  obtain ⟨rfl, e1⟩ := hP1
  show own_G p e below _ (T1.setTop (mkF m 9 #[.val (.ref sa), .val (.ref ka), .val (.int (0 : Int32)), .unset, .unset, .unset, .unset, .unset] [(.int (2 : Int32)), (.int (0 : Int32))]))
  refine own_aloadN X1 hx (hb hby d_sw2_9) rfl rfl 10 rfl ?_
  refine own_callV X1 hx hZ hown (own_w69 hw) (own_w70 hw) (own_w72 hw) (own_w71 hw) (own_w6 hw) (own_w73 hw) (by decide) 2 (own_m_slen l Z a0 hw _ n0 Ek Ck Vk Ak hcz SC (r := (6 : Int32)) (by decide)) e1 Ek (by rw [hml]; rfl) [] [(.int (2 : Int32)), (.int (0 : Int32))] rfl (lenOf own_pd_5 rfl) rfl (Nat.le_of_eq rfl) (by decide) (by decide) (by decide) (by decide) (hb hby d_sw2_10) N1 13 rfl (fun v2 T2 l2 X2 N2 hP2 => ?_)
  obtain ⟨rfl, e2⟩ := hP2
  show own_G p e below _ (T2.setTop (mkF m 13 #[.val (.ref sa), .val (.ref ka), .val (.int (0 : Int32)), .unset, .unset, .unset, .unset, .unset] [(.int (6 : Int32)), (.int (2 : Int32)), (.int (0 : Int32))]))
  refine own_isubZ X2 hx (z := (-4 : Int32)) (by decide) (hb hby d_sw2_13) 14 rfl ?_
  refine own_icmpF X2 hx (hb hby d_sw2_14) (tlt (by decide)).2.2.2 17 rfl ?_
  refine own_iconst X2 hx (z := (0 : Int32)) (hb hby d_sw2_17) rfl 18 rfl ?_
  exact own_retN X2 hx hret (Or.inl rfl) hlk (hb hby d_sw2_18) (by decide) (by decide) N2 e2 ⟨rfl, rfl⟩
theorem d_sw1_0 : decode jdk_42_method_76_code 0 = .ok (.aload_n 0, 1) := by decide +kernel
theorem d_sw1_1 : decode jdk_42_method_76_code 1 = .ok (.aload_n 1, 1) := by decide +kernel
theorem d_sw1_2 : decode jdk_42_method_76_code 2 = .ok (.iconst 0, 1) := by decide +kernel
theorem d_sw1_3 : decode jdk_42_method_76_code 3 = .ok (.invokevirtual 624, 3) := by decide +kernel
theorem d_sw1_6 : decode jdk_42_method_76_code 6 = .ok (.ireturn, 1) := by decide +kernel
theorem own_ef_sw1 (m : MethodId) (sa ka : Addr) : entryFrame m #[(.ref sa), (.ref ka)] 2 = mkF m 0 #[.val (.ref sa), .val (.ref ka)] [] := by first | (simp [entryFrame, mkF, argsToLocals, Value.category]; done) | rfl
set_option maxRecDepth 65536 in
set_option maxHeartbeats 40000000 in
theorem own_m_sw1 (l : Launch) (Z : State) (a0 : Array Value) (hw : ∀ d ∈ tables_1, d.before a0 Z = true) (h0 : Heap) (n0 : Nat) {sa sb : Addr} {f : Nat → Int32} (E : Exa Z h0 sa "java/lang/String") (C : Fld Z h0 sa "java/lang/String" "coder" "B" (.int 0)) (V : Fld Z h0 sa "java/lang/String" "value" "[B" (.ref sb)) (A : own_A Z h0 sb .byte 2 f) {ka kb : Addr} {fk : Nat → Int32} (Ek : Exa Z h0 ka "java/lang/String") (Ck : Fld Z h0 ka "java/lang/String" "coder" "B" (.int 0)) (Vk : Fld Z h0 ka "java/lang/String" "value" "[B" (.ref kb)) (Ak : own_A Z h0 kb .byte 6 fk) {cz : Int32} (hcz : ¬ cz = 0) (SC : Sta Z h0 "java/lang/String" "COMPACT_STRINGS" "Z" (.int cz)) : own_Met l Z ⟨"java/lang/String", "startsWith", "(Ljava/lang/String;)Z"⟩ jdk_42_method_76_code 2 (some .boolean) [] ({ frames := 3, cells := 0, slots := 0, locals := 46 } : Room) #[(.ref sa), (.ref ka)] h0 n0 (fun v h => v = some (.int 0) ∧ h = h0) := by
  refine own_body (plainFor_of_name own_pn_String) ?_
  intro p e s m below meth c T0 X0 hx hby hml hown hnm hZ e0 hret hlk
  have N0 := Fr.nil n0
  refine own_cast (own_ef_sw1 m sa ka) ?_
  refine own_aloadN X0 hx (hb hby d_sw1_0) rfl rfl 1 rfl ?_
  refine own_aloadN X0 hx (hb hby d_sw1_1) rfl rfl 2 rfl ?_
  refine own_iconst X0 hx (z := (0 : Int32)) (hb hby d_sw1_2) rfl 3 rfl ?_
  refine own_callV X0 hx hZ hown (own_w116 hw) (own_w117 hw) (own_w119 hw) (own_w118 hw) (own_w6 hw) (own_w120 hw) (by decide) 0 (own_m_sw2 l Z a0 hw _ n0 E C V A Ek Ck Vk Ak hcz SC) e0 E (by rw [hml]; rfl) [(.ref ka), (.int (0 : Int32))] [] rfl (lenOf own_pd_7 rfl) rfl (Nat.le_of_eq rfl) (by decide) (by decide) (by decide) (by decide) (hb hby d_sw1_3) N0 6 rfl (fun v1 T1 l1 X1 N1 hP1 => ?_)
  obtain ⟨rfl, e1⟩ := hP1
  show own_G p e below _ (T1.setTop (mkF m 6 #[.val (.ref sa), .val (.ref ka)] [(.int (0 : Int32))]))
  exact own_retN X1 hx hret (Or.inl rfl) hlk (hb hby d_sw1_6) (by decide) (by decide) N1 e1 ⟨rfl, rfl⟩
def own_f_res (p1 p2 nE cE nA cA : Int32) : Int32 :=
  if p1 = (0 : Int32) then
    if cA = p2 then
      nA
    else
      (-1 : Int32)
  else
    if cE = p2 then
      nE
    else
      (-1 : Int32)
theorem d_res_0 : decode prog_166_method_4_code 0 = .ok (.iload_n 1, 1) := by decide +kernel
theorem d_res_1 : decode prog_166_method_4_code 1 = .ok (.ifCond .eq 10, 3) := by decide +kernel
theorem d_res_4 : decode prog_166_method_4_code 4 = .ok (.aload_n 0, 1) := by decide +kernel
theorem d_res_5 : decode prog_166_method_4_code 5 = .ok (.getfield 10, 3) := by decide +kernel
theorem d_res_8 : decode prog_166_method_4_code 8 = .ok (.goto 7, 3) := by decide +kernel
theorem d_res_11 : decode prog_166_method_4_code 11 = .ok (.aload_n 0, 1) := by decide +kernel
theorem d_res_12 : decode prog_166_method_4_code 12 = .ok (.getfield 16, 3) := by decide +kernel
theorem d_res_15 : decode prog_166_method_4_code 15 = .ok (.astore_n 3, 1) := by decide +kernel
theorem d_res_16 : decode prog_166_method_4_code 16 = .ok (.aload_n 3, 1) := by decide +kernel
theorem d_res_17 : decode prog_166_method_4_code 17 = .ok (.getfield 54, 3) := by decide +kernel
theorem d_res_20 : decode prog_166_method_4_code 20 = .ok (.iload_n 2, 1) := by decide +kernel
theorem d_res_21 : decode prog_166_method_4_code 21 = .ok (.if_icmp .ne 10, 3) := by decide +kernel
theorem d_res_24 : decode prog_166_method_4_code 24 = .ok (.aload_n 3, 1) := by decide +kernel
theorem d_res_25 : decode prog_166_method_4_code 25 = .ok (.getfield 58, 3) := by decide +kernel
theorem d_res_28 : decode prog_166_method_4_code 28 = .ok (.goto 4, 3) := by decide +kernel
theorem d_res_31 : decode prog_166_method_4_code 31 = .ok (.iconst (-1), 1) := by decide +kernel
theorem d_res_32 : decode prog_166_method_4_code 32 = .ok (.ireturn, 1) := by decide +kernel
theorem own_ef_res (m : MethodId) (mm : Addr) (p1 : Int32) (p2 : Int32) : entryFrame m #[(.ref mm), (.int p1), (.int p2)] 4 = mkF m 0 #[.val (.ref mm), .val (.int p1), .val (.int p2), .unset] [] := by first | (simp [entryFrame, mkF, argsToLocals, Value.category]; done) | rfl
set_option maxRecDepth 65536 in
set_option maxHeartbeats 40000000 in
theorem own_m_res (l : Launch) (Z : State) (a0 : Array Value) (hw : ∀ d ∈ tables_1, d.before a0 Z = true) (h0 : Heap) (n0 : Nat) {mm re ra : Addr} (FE : Fld Z h0 mm "com/example/xqwry/xqwry/MarkupName" "asElement" "Lcom/example/xqwry/xqwry/MarkupName$Resolution;" (.ref re)) (FA : Fld Z h0 mm "com/example/xqwry/xqwry/MarkupName" "asAttribute" "Lcom/example/xqwry/xqwry/MarkupName$Resolution;" (.ref ra)) {nE cE nA cA : Int32} (F1 : Fld Z h0 re "com/example/xqwry/xqwry/MarkupName$Resolution" "name" "I" (.int nE)) (F2 : Fld Z h0 re "com/example/xqwry/xqwry/MarkupName$Resolution" "namespaceChanges" "I" (.int cE)) (F3 : Fld Z h0 ra "com/example/xqwry/xqwry/MarkupName$Resolution" "name" "I" (.int nA)) (F4 : Fld Z h0 ra "com/example/xqwry/xqwry/MarkupName$Resolution" "namespaceChanges" "I" (.int cA)) (p1 p2 : Int32) {r : Int32} (hF : own_f_res p1 p2 nE cE nA cA = r) : own_Met l Z ⟨"com/example/xqwry/xqwry/MarkupName", "resolved", "(ZI)I"⟩ prog_166_method_4_code 4 (some .int) [] ({ frames := 0, cells := 0, slots := 0, locals := 0 } : Room) #[(.ref mm), (.int p1), (.int p2)] h0 n0 (fun v h => v = some (.int r) ∧ h = h0) := by
  refine own_body (plainFor_of_name own_pn_MarkupName) ?_
  intro p e s m below meth c T0 X0 hx hby hml hown hnm hZ e0 hret hlk
  have N0 := Fr.nil n0
  refine own_cast (own_ef_res m mm p1 p2) ?_
  unfold own_f_res at hF
  refine own_iloadN X0 hx (hb hby d_res_0) rfl 1 rfl ?_
  by_cases hc1 : p1 = (0 : Int32)
  · replace hF := own_ifT hc1 hF
    refine own_ifcT X0 hx (hb hby d_res_1) (teq hc1).1 11 (by decide) (by decide) ?_
    refine own_aloadN X0 hx (hb hby d_res_11) rfl rfl 12 rfl ?_
    refine own_getF X0 hx hZ hown (own_w50 hw) e0 FA (hb hby d_res_12) 15 rfl (fun T2 X2 e2 => ?_)
    refine own_astoreN X2 hx (#[.val (.ref mm), .val (.int p1), .val (.int p2), .val (.ref ra)]) (hb hby d_res_15) rfl rfl 16 rfl ?_
    refine own_aloadN X2 hx (hb hby d_res_16) rfl rfl 17 rfl ?_
    refine own_getFR X2 hx hZ hown (own_w128 hw) e2 F4 (hb hby d_res_17) 20 rfl ?_
    refine own_iloadN X2 hx (hb hby d_res_20) rfl 21 rfl ?_
    by_cases hc3 : cA = p2
    · replace hF := own_ifT hc3 hF
      refine own_icmpF X2 hx (hb hby d_res_21) (teq hc3).2 24 rfl ?_
      refine own_aloadN X2 hx (hb hby d_res_24) rfl rfl 25 rfl ?_
      refine own_getFR X2 hx hZ hown (own_w134 hw) e2 F3 (hb hby d_res_25) 28 rfl ?_
      refine own_goto X2 hx (hb hby d_res_28) 32 (by decide) (by decide) ?_
      exact own_retI X2 hx hret hlk (hb hby d_res_32) (Nat.le_refl _) (Nat.le_refl _) N0 e2 ⟨congrArg (fun z => some (Value.int z)) hF, rfl⟩
    · replace hF := own_ifF hc3 hF
      refine own_icmpT X2 hx (hb hby d_res_21) (feq hc3).2 31 (by decide) (by decide) ?_
      refine own_iconst X2 hx (z := (-1 : Int32)) (hb hby d_res_31) rfl 32 rfl ?_
      exact own_retI X2 hx hret hlk (hb hby d_res_32) (Nat.le_refl _) (Nat.le_refl _) N0 e2 ⟨congrArg (fun z => some (Value.int z)) hF, rfl⟩
  · replace hF := own_ifF hc1 hF
    refine own_ifcF X0 hx (hb hby d_res_1) (feq hc1).1 4 rfl ?_
    refine own_aloadN X0 hx (hb hby d_res_4) rfl rfl 5 rfl ?_
    refine own_getF X0 hx hZ hown (own_w48 hw) e0 FE (hb hby d_res_5) 8 rfl (fun T4 X4 e4 => ?_)
    refine own_goto X4 hx (hb hby d_res_8) 15 (by decide) (by decide) ?_
    refine own_astoreN X4 hx (#[.val (.ref mm), .val (.int p1), .val (.int p2), .val (.ref re)]) (hb hby d_res_15) rfl rfl 16 rfl ?_
    refine own_aloadN X4 hx (hb hby d_res_16) rfl rfl 17 rfl ?_
    refine own_getFR X4 hx hZ hown (own_w128 hw) e4 F2 (hb hby d_res_17) 20 rfl ?_
    refine own_iloadN X4 hx (hb hby d_res_20) rfl 21 rfl ?_
    by_cases hc5 : cE = p2
    · replace hF := own_ifT hc5 hF
      refine own_icmpF X4 hx (hb hby d_res_21) (teq hc5).2 24 rfl ?_
      refine own_aloadN X4 hx (hb hby d_res_24) rfl rfl 25 rfl ?_
      refine own_getFR X4 hx hZ hown (own_w134 hw) e4 F1 (hb hby d_res_25) 28 rfl ?_
      refine own_goto X4 hx (hb hby d_res_28) 32 (by decide) (by decide) ?_
      exact own_retI X4 hx hret hlk (hb hby d_res_32) (Nat.le_refl _) (Nat.le_refl _) N0 e4 ⟨congrArg (fun z => some (Value.int z)) hF, rfl⟩
    · replace hF := own_ifF hc5 hF
      refine own_icmpT X4 hx (hb hby d_res_21) (feq hc5).2 31 (by decide) (by decide) ?_
      refine own_iconst X4 hx (z := (-1 : Int32)) (hb hby d_res_31) rfl 32 rfl ?_
      exact own_retI X4 hx hret hlk (hb hby d_res_32) (Nat.le_refl _) (Nat.le_refl _) N0 e4 ⟨congrArg (fun z => some (Value.int z)) hF, rfl⟩
theorem d_keep1_0 : decode prog_166_method_5_code 0 = .ok (.iload_n 1, 1) := by decide +kernel
theorem d_keep1_1 : decode prog_166_method_5_code 1 = .ok (.ifCond .eq 10, 3) := by decide +kernel
theorem d_keep1_4 : decode prog_166_method_5_code 4 = .ok (.aload_n 0, 1) := by decide +kernel
theorem d_keep1_5 : decode prog_166_method_5_code 5 = .ok (.getfield 10, 3) := by decide +kernel
theorem d_keep1_8 : decode prog_166_method_5_code 8 = .ok (.goto 7, 3) := by decide +kernel
theorem d_keep1_15 : decode prog_166_method_5_code 15 = .ok (.astore 4, 2) := by decide +kernel
theorem d_keep1_17 : decode prog_166_method_5_code 17 = .ok (.aload 4, 2) := by decide +kernel
theorem d_keep1_19 : decode prog_166_method_5_code 19 = .ok (.iload_n 2, 1) := by decide +kernel
theorem d_keep1_20 : decode prog_166_method_5_code 20 = .ok (.putfield 58, 3) := by decide +kernel
theorem d_keep1_23 : decode prog_166_method_5_code 23 = .ok (.aload 4, 2) := by decide +kernel
theorem d_keep1_25 : decode prog_166_method_5_code 25 = .ok (.iload_n 3, 1) := by decide +kernel
theorem d_keep1_26 : decode prog_166_method_5_code 26 = .ok (.putfield 54, 3) := by decide +kernel
theorem d_keep1_29 : decode prog_166_method_5_code 29 = .ok (.return_, 1) := by decide +kernel
theorem own_ef_keep1 (m : MethodId) (mm : Addr) (p1 : Int32) (p2 : Int32) (p3 : Int32) : entryFrame m #[(.ref mm), (.int p1), (.int p2), (.int p3)] 5 = mkF m 0 #[.val (.ref mm), .val (.int p1), .val (.int p2), .val (.int p3), .unset] [] := by first | (simp [entryFrame, mkF, argsToLocals, Value.category]; done) | rfl
set_option maxRecDepth 65536 in
set_option maxHeartbeats 40000000 in
theorem own_m_keep1 (l : Launch) (Z : State) (a0 : Array Value) (hw : ∀ d ∈ tables_1, d.before a0 Z = true) (h0 : Heap) (n0 : Nat) {mm re ra : Addr} (FE : Fld Z h0 mm "com/example/xqwry/xqwry/MarkupName" "asElement" "Lcom/example/xqwry/xqwry/MarkupName$Resolution;" (.ref re)) (FA : Fld Z h0 mm "com/example/xqwry/xqwry/MarkupName" "asAttribute" "Lcom/example/xqwry/xqwry/MarkupName$Resolution;" (.ref ra)) {u1 u2 : Int32} (E0 : Exa Z h0 re "com/example/xqwry/xqwry/MarkupName$Resolution") (F1 : Fld Z h0 re "com/example/xqwry/xqwry/MarkupName$Resolution" "name" "I" (.int u1)) (F2 : Fld Z h0 re "com/example/xqwry/xqwry/MarkupName$Resolution" "namespaceChanges" "I" (.int u2)) (gn_re : n0 ≤ re) (hne : mm ≠ re) (p1 p2 p3 : Int32) (he : ¬ p1 = 0) : own_Met l Z ⟨"com/example/xqwry/xqwry/MarkupName", "keepResolved", "(ZII)V"⟩ prog_166_method_5_code 5 none [] ({ frames := 0, cells := 0, slots := 0, locals := 0 } : Room) #[(.ref mm), (.int p1), (.int p2), (.int p3)] h0 n0 (fun v h => v = none ∧ Fld Z h re "com/example/xqwry/xqwry/MarkupName$Resolution" "name" "I" (.int p2) ∧ Fld Z h re "com/example/xqwry/xqwry/MarkupName$Resolution" "namespaceChanges" "I" (.int p3) ∧ Keep h0 h [re]) := by
  refine own_body (plainFor_of_name own_pn_MarkupName) ?_
  intro p e s m below meth c T0 X0 hx hby hml hown hnm hZ e0 hret hlk
  have N0 := Fr.nil n0
  have K0 : Keep h0 h0 [re] := Keep.refl _ _
  refine own_cast (own_ef_keep1 m mm p1 p2 p3) ?_
  refine own_iloadN X0 hx (hb hby d_keep1_0) rfl 1 rfl ?_
  refine own_ifcF X0 hx (hb hby d_keep1_1) (feq he).1 4 rfl ?_
  refine own_aloadN X0 hx (hb hby d_keep1_4) rfl rfl 5 rfl ?_
  refine own_getF X0 hx hZ hown (own_w48 hw) e0 FE (hb hby d_keep1_5) 8 rfl (fun T1 X1 e1 => ?_)
  refine own_goto X1 hx (hb hby d_keep1_8) 15 (by decide) (by decide) ?_
  refine own_astore X1 hx (#[.val (.ref mm), .val (.int p1), .val (.int p2), .val (.int p3), .val (.ref re)]) (hb hby d_keep1_15) rfl rfl 17 rfl ?_
  refine own_aload X1 hx (hb hby d_keep1_17) rfl rfl 19 rfl ?_
  refine own_iloadN X1 hx (hb hby d_keep1_19) rfl 20 rfl ?_
  refine own_putFR X1 hx hZ hown (own_w134 hw) e1 F1 E0 (own_w45 hw) (own_w38 hw) (ty := .int) (by decide) rfl rfl (hb hby d_keep1_20) N0 gn_re 23 rfl (fun T2 h2 l2 X2 N2 e2 W2 => ?_)
  have FE_2 := FE.other W2 (Or.inl hne)
  have FA_2 := FA.other W2 (Or.inl hne)
  have E0_2 := E0.wr W2
  have F1_2 := F1.same W2
  have F2_2 := F2.other W2 (Or.inr (slot_ne (Or.inl (own_w47 hw)) (Or.inl (own_w45 hw)) (by decide) (t := .int) (t' := .int) (by decide) (by decide)))
  have K0_2 := K0.wr W2 (Or.inl (List.mem_of_getElem? (i := 0) rfl))
  refine own_aload X2 hx (hb hby d_keep1_23) rfl rfl 25 rfl ?_
  refine own_iloadN X2 hx (hb hby d_keep1_25) rfl 26 rfl ?_
  refine own_putFR X2 hx hZ hown (own_w128 hw) e2 F2_2 E0_2 (own_w47 hw) (own_w38 hw) (ty := .int) (by decide) rfl rfl (hb hby d_keep1_26) N2 gn_re 29 rfl (fun T3 h3 l3 X3 N3 e3 W3 => ?_)
  have FE_3 := FE_2.other W3 (Or.inl hne)
  have FA_3 := FA_2.other W3 (Or.inl hne)
  have E0_3 := E0_2.wr W3
  have F1_3 := F1_2.other W3 (Or.inr (slot_ne (Or.inl (own_w45 hw)) (Or.inl (own_w47 hw)) (by decide) (t := .int) (t' := .int) (by decide) (by decide)))
  have F2_3 := F2_2.same W3
  have K0_3 := K0_2.wr W3 (Or.inl (List.mem_of_getElem? (i := 0) rfl))
  exact own_retV X3 hx hret hlk (hb hby d_keep1_29) (by decide) (by decide) N3 e3 ⟨rfl, F1_3, F2_3, K0_3⟩
theorem d_keep0_0 : decode prog_166_method_5_code 0 = .ok (.iload_n 1, 1) := by decide +kernel
theorem d_keep0_1 : decode prog_166_method_5_code 1 = .ok (.ifCond .eq 10, 3) := by decide +kernel
theorem d_keep0_11 : decode prog_166_method_5_code 11 = .ok (.aload_n 0, 1) := by decide +kernel
theorem d_keep0_12 : decode prog_166_method_5_code 12 = .ok (.getfield 16, 3) := by decide +kernel
theorem d_keep0_15 : decode prog_166_method_5_code 15 = .ok (.astore 4, 2) := by decide +kernel
theorem d_keep0_17 : decode prog_166_method_5_code 17 = .ok (.aload 4, 2) := by decide +kernel
theorem d_keep0_19 : decode prog_166_method_5_code 19 = .ok (.iload_n 2, 1) := by decide +kernel
theorem d_keep0_20 : decode prog_166_method_5_code 20 = .ok (.putfield 58, 3) := by decide +kernel
theorem d_keep0_23 : decode prog_166_method_5_code 23 = .ok (.aload 4, 2) := by decide +kernel
theorem d_keep0_25 : decode prog_166_method_5_code 25 = .ok (.iload_n 3, 1) := by decide +kernel
theorem d_keep0_26 : decode prog_166_method_5_code 26 = .ok (.putfield 54, 3) := by decide +kernel
theorem d_keep0_29 : decode prog_166_method_5_code 29 = .ok (.return_, 1) := by decide +kernel
theorem own_ef_keep0 (m : MethodId) (mm : Addr) (p1 : Int32) (p2 : Int32) (p3 : Int32) : entryFrame m #[(.ref mm), (.int p1), (.int p2), (.int p3)] 5 = mkF m 0 #[.val (.ref mm), .val (.int p1), .val (.int p2), .val (.int p3), .unset] [] := by first | (simp [entryFrame, mkF, argsToLocals, Value.category]; done) | rfl
set_option maxRecDepth 65536 in
set_option maxHeartbeats 40000000 in
theorem own_m_keep0 (l : Launch) (Z : State) (a0 : Array Value) (hw : ∀ d ∈ tables_1, d.before a0 Z = true) (h0 : Heap) (n0 : Nat) {mm re ra : Addr} (FE : Fld Z h0 mm "com/example/xqwry/xqwry/MarkupName" "asElement" "Lcom/example/xqwry/xqwry/MarkupName$Resolution;" (.ref re)) (FA : Fld Z h0 mm "com/example/xqwry/xqwry/MarkupName" "asAttribute" "Lcom/example/xqwry/xqwry/MarkupName$Resolution;" (.ref ra)) {u1 u2 : Int32} (E0 : Exa Z h0 ra "com/example/xqwry/xqwry/MarkupName$Resolution") (F1 : Fld Z h0 ra "com/example/xqwry/xqwry/MarkupName$Resolution" "name" "I" (.int u1)) (F2 : Fld Z h0 ra "com/example/xqwry/xqwry/MarkupName$Resolution" "namespaceChanges" "I" (.int u2)) (gn_ra : n0 ≤ ra) (hne : mm ≠ ra) (p1 p2 p3 : Int32) (he : p1 = 0) : own_Met l Z ⟨"com/example/xqwry/xqwry/MarkupName", "keepResolved", "(ZII)V"⟩ prog_166_method_5_code 5 none [] ({ frames := 0, cells := 0, slots := 0, locals := 0 } : Room) #[(.ref mm), (.int p1), (.int p2), (.int p3)] h0 n0 (fun v h => v = none ∧ Fld Z h ra "com/example/xqwry/xqwry/MarkupName$Resolution" "name" "I" (.int p2) ∧ Fld Z h ra "com/example/xqwry/xqwry/MarkupName$Resolution" "namespaceChanges" "I" (.int p3) ∧ Keep h0 h [ra]) := by
  refine own_body (plainFor_of_name own_pn_MarkupName) ?_
  intro p e s m below meth c T0 X0 hx hby hml hown hnm hZ e0 hret hlk
  have N0 := Fr.nil n0
  have K0 : Keep h0 h0 [ra] := Keep.refl _ _
  refine own_cast (own_ef_keep0 m mm p1 p2 p3) ?_
  refine own_iloadN X0 hx (hb hby d_keep0_0) rfl 1 rfl ?_
  refine own_ifcT X0 hx (hb hby d_keep0_1) (teq he).1 11 (by decide) (by decide) ?_
  refine own_aloadN X0 hx (hb hby d_keep0_11) rfl rfl 12 rfl ?_
  refine own_getF X0 hx hZ hown (own_w50 hw) e0 FA (hb hby d_keep0_12) 15 rfl (fun T1 X1 e1 => ?_)
  refine own_astore X1 hx (#[.val (.ref mm), .val (.int p1), .val (.int p2), .val (.int p3), .val (.ref ra)]) (hb hby d_keep0_15) rfl rfl 17 rfl ?_
  refine own_aload X1 hx (hb hby d_keep0_17) rfl rfl 19 rfl ?_
  refine own_iloadN X1 hx (hb hby d_keep0_19) rfl 20 rfl ?_
  refine own_putFR X1 hx hZ hown (own_w134 hw) e1 F1 E0 (own_w45 hw) (own_w38 hw) (ty := .int) (by decide) rfl rfl (hb hby d_keep0_20) N0 gn_ra 23 rfl (fun T2 h2 l2 X2 N2 e2 W2 => ?_)
  have FE_2 := FE.other W2 (Or.inl hne)
  have FA_2 := FA.other W2 (Or.inl hne)
  have E0_2 := E0.wr W2
  have F1_2 := F1.same W2
  have F2_2 := F2.other W2 (Or.inr (slot_ne (Or.inl (own_w47 hw)) (Or.inl (own_w45 hw)) (by decide) (t := .int) (t' := .int) (by decide) (by decide)))
  have K0_2 := K0.wr W2 (Or.inl (List.mem_of_getElem? (i := 0) rfl))
  refine own_aload X2 hx (hb hby d_keep0_23) rfl rfl 25 rfl ?_
  refine own_iloadN X2 hx (hb hby d_keep0_25) rfl 26 rfl ?_
  refine own_putFR X2 hx hZ hown (own_w128 hw) e2 F2_2 E0_2 (own_w47 hw) (own_w38 hw) (ty := .int) (by decide) rfl rfl (hb hby d_keep0_26) N2 gn_ra 29 rfl (fun T3 h3 l3 X3 N3 e3 W3 => ?_)
  have FE_3 := FE_2.other W3 (Or.inl hne)
  have FA_3 := FA_2.other W3 (Or.inl hne)
  have E0_3 := E0_2.wr W3
  have F1_3 := F1_2.other W3 (Or.inr (slot_ne (Or.inl (own_w45 hw)) (Or.inl (own_w47 hw)) (by decide) (t := .int) (t' := .int) (by decide) (by decide)))
  have F2_3 := F2_2.same W3
  have K0_3 := K0_2.wr W3 (Or.inl (List.mem_of_getElem? (i := 0) rfl))
  exact own_retV X3 hx hret hlk (hb hby d_keep0_29) (by decide) (by decide) N3 e3 ⟨rfl, F1_3, F2_3, K0_3⟩
theorem d_minit_0 : decode prog_166_method_1_code 0 = .ok (.aload_n 0, 1) := by decide +kernel
theorem d_minit_1 : decode prog_166_method_1_code 1 = .ok (.invokespecial 1, 3) := by decide +kernel
theorem d_minit_4 : decode prog_166_method_1_code 4 = .ok (.aload_n 0, 1) := by decide +kernel
theorem d_minit_5 : decode prog_166_method_1_code 5 = .ok (.new 7, 3) := by decide +kernel
theorem d_minit_8 : decode prog_166_method_1_code 8 = .ok (.dup, 1) := by decide +kernel
theorem d_minit_9 : decode prog_166_method_1_code 9 = .ok (.invokespecial 9, 3) := by decide +kernel
theorem d_minit_12 : decode prog_166_method_1_code 12 = .ok (.putfield 10, 3) := by decide +kernel
theorem d_minit_15 : decode prog_166_method_1_code 15 = .ok (.aload_n 0, 1) := by decide +kernel
theorem d_minit_16 : decode prog_166_method_1_code 16 = .ok (.new 7, 3) := by decide +kernel
theorem d_minit_19 : decode prog_166_method_1_code 19 = .ok (.dup, 1) := by decide +kernel
theorem d_minit_20 : decode prog_166_method_1_code 20 = .ok (.invokespecial 9, 3) := by decide +kernel
theorem d_minit_23 : decode prog_166_method_1_code 23 = .ok (.putfield 16, 3) := by decide +kernel
theorem d_minit_26 : decode prog_166_method_1_code 26 = .ok (.aload_n 0, 1) := by decide +kernel
theorem d_minit_27 : decode prog_166_method_1_code 27 = .ok (.aload_n 1, 1) := by decide +kernel
theorem d_minit_28 : decode prog_166_method_1_code 28 = .ok (.putfield 19, 3) := by decide +kernel
theorem d_minit_31 : decode prog_166_method_1_code 31 = .ok (.aload_n 0, 1) := by decide +kernel
theorem d_minit_32 : decode prog_166_method_1_code 32 = .ok (.aload_n 1, 1) := by decide +kernel
theorem d_minit_33 : decode prog_166_method_1_code 33 = .ok (.bipush 58, 2) := by decide +kernel
theorem d_minit_35 : decode prog_166_method_1_code 35 = .ok (.invokevirtual 23, 3) := by decide +kernel
theorem d_minit_38 : decode prog_166_method_1_code 38 = .ok (.ifCond .lt 7, 3) := by decide +kernel
theorem d_minit_41 : decode prog_166_method_1_code 41 = .ok (.iconst 1, 1) := by decide +kernel
theorem d_minit_42 : decode prog_166_method_1_code 42 = .ok (.goto 4, 3) := by decide +kernel
theorem d_minit_45 : decode prog_166_method_1_code 45 = .ok (.iconst 0, 1) := by decide +kernel
theorem d_minit_46 : decode prog_166_method_1_code 46 = .ok (.putfield 29, 3) := by decide +kernel
theorem d_minit_49 : decode prog_166_method_1_code 49 = .ok (.aload_n 1, 1) := by decide +kernel
theorem d_minit_50 : decode prog_166_method_1_code 50 = .ok (.ldc 33, 2) := by decide +kernel
theorem d_minit_52 : decode prog_166_method_1_code 52 = .ok (.invokevirtual 35, 3) := by decide +kernel
theorem d_minit_55 : decode prog_166_method_1_code 55 = .ok (.ifCond .eq 12, 3) := by decide +kernel
theorem d_minit_67 : decode prog_166_method_1_code 67 = .ok (.aload_n 1, 1) := by decide +kernel
theorem d_minit_68 : decode prog_166_method_1_code 68 = .ok (.ldc 44, 2) := by decide +kernel
theorem d_minit_70 : decode prog_166_method_1_code 70 = .ok (.invokevirtual 46, 3) := by decide +kernel
theorem d_minit_73 : decode prog_166_method_1_code 73 = .ok (.ifCond .eq 16, 3) := by decide +kernel
theorem d_minit_89 : decode prog_166_method_1_code 89 = .ok (.aload_n 0, 1) := by decide +kernel
theorem d_minit_90 : decode prog_166_method_1_code 90 = .ok (.aconst_null, 1) := by decide +kernel
theorem d_minit_91 : decode prog_166_method_1_code 91 = .ok (.putfield 41, 3) := by decide +kernel
theorem d_minit_94 : decode prog_166_method_1_code 94 = .ok (.return_, 1) := by decide +kernel
theorem own_ef_minit (m : MethodId) (mm : Addr) (sa : Addr) : entryFrame m #[(.ref mm), (.ref sa)] 2 = mkF m 0 #[.val (.ref mm), .val (.ref sa)] [] := by first | (simp [entryFrame, mkF, argsToLocals, Value.category]; done) | rfl
set_option maxRecDepth 65536 in
set_option maxHeartbeats 40000000 in
theorem own_m_minit (l : Launch) (Z : State) (a0 : Array Value) (hw : ∀ d ∈ tables_1, d.before a0 Z = true) (h0 : Heap) (n0 : Nat) {mm : Addr} (E0 : Exa Z h0 mm "com/example/xqwry/xqwry/MarkupName") (F_lexicalName : Fld Z h0 mm "com/example/xqwry/xqwry/MarkupName" "lexicalName" "Ljava/lang/String;" .null) (F_prefixed : Fld Z h0 mm "com/example/xqwry/xqwry/MarkupName" "prefixed" "Z" (.int 0)) (F_declaredPrefix : Fld Z h0 mm "com/example/xqwry/xqwry/MarkupName" "declaredPrefix" "Ljava/lang/String;" .null) (F_asElement : Fld Z h0 mm "com/example/xqwry/xqwry/MarkupName" "asElement" "Lcom/example/xqwry/xqwry/MarkupName$Resolution;" .null) (F_asAttribute : Fld Z h0 mm "com/example/xqwry/xqwry/MarkupName" "asAttribute" "Lcom/example/xqwry/xqwry/MarkupName$Resolution;" .null) {sa sb : Addr} {f : Nat → Int32} (E : Exa Z h0 sa "java/lang/String") (C : Fld Z h0 sa "java/lang/String" "coder" "B" (.int 0)) (V : Fld Z h0 sa "java/lang/String" "value" "[B" (.ref sb)) (A : own_A Z h0 sb .byte 2 f) (gn_mm : n0 ≤ mm) (gn_sa : n0 ≤ sa) (o_mm_sa : mm < sa) (o_sa_sb : sa < sb) (o_mm_sb : mm < sb) (Z0 : n0 ≤ h0.size) (O0 : Old Z n0 h0) (wS : ∀ a ∈ Bundle.stringAtoms, a.before a0 Z = true) (hH33 : Jvm.Lit.constHeld Z "com/example/xqwry/xqwry/MarkupName" 33) (hH44 : Jvm.Lit.constHeld Z "com/example/xqwry/xqwry/MarkupName" 44) (hcw : Jvm.Lit.compactW.before a0 Z = true) {cz : Int32} (hcz : ¬ cz = 0) (SC0 : Sta Z Z.heap "java/lang/String" "COMPACT_STRINGS" "Z" (.int cz)) : own_MetS l Z ⟨"com/example/xqwry/xqwry/MarkupName", "<init>", "(Ljava/lang/String;)V"⟩ prog_166_method_1_code 2 none [] ({ frames := 4, cells := 6, slots := 56, locals := 60 } : Room) #[(.ref mm), (.ref sa)] h0 n0 (fun v h => v = none ∧ ∃ re ra, Fld Z h mm "com/example/xqwry/xqwry/MarkupName" "asElement" "Lcom/example/xqwry/xqwry/MarkupName$Resolution;" (.ref re) ∧ Fld Z h mm "com/example/xqwry/xqwry/MarkupName" "asAttribute" "Lcom/example/xqwry/xqwry/MarkupName$Resolution;" (.ref ra) ∧ Exa Z h re "com/example/xqwry/xqwry/MarkupName$Resolution" ∧ Exa Z h ra "com/example/xqwry/xqwry/MarkupName$Resolution" ∧ Fld Z h re "com/example/xqwry/xqwry/MarkupName$Resolution" "name" "I" (.int (-1)) ∧ Fld Z h re "com/example/xqwry/xqwry/MarkupName$Resolution" "namespaceChanges" "I" (.int (-1)) ∧ Fld Z h ra "com/example/xqwry/xqwry/MarkupName$Resolution" "name" "I" (.int (-1)) ∧ Fld Z h ra "com/example/xqwry/xqwry/MarkupName$Resolution" "namespaceChanges" "I" (.int (-1)) ∧ own_lt mm re ∧ own_lt re ra ∧ Keep h0 h [mm]) := by
  refine own_bodyS (plainFor_of_name own_pn_MarkupName) ?_
  intro p e s m below meth c T0 X0 hx hby hml hown hnm hZ hZH hS I e0 hret hlk
  have N0 := Fr.nil n0
  have K0 : Keep h0 h0 [mm] := Keep.refl _ _
  have H0 : 0 ≤ h0.size := Nat.zero_le _
  refine own_cast (own_ef_minit m mm sa) ?_
  refine own_aloadN X0 hx (hb hby d_minit_0) rfl rfl 1 rfl ?_
  refine own_initO X0 hx hZ hown (own_w36 hw) (own_w15 hw) (own_w16 hw) e0 (by rw [hml]; rfl) (hb hby d_minit_1) 0 (by decide) (Nat.le_of_eq rfl) (by decide) 4 rfl (fun T1 X1 e1 => ?_)
  refine own_aloadN X1 hx (hb hby d_minit_4) rfl rfl 5 rfl ?_
  refine own_newO X1 hx hZ hown (own_w37 hw) (own_w38 hw) (own_w39 hw) e1 (hb hby d_minit_5) (by decide) (by decide) 8 rfl (fun T2 h2 re g2 X2 e2 E2 B2 D2 => ?_)
  have o_mm_re : mm < re := Nat.lt_of_lt_of_eq E0.lt g2.symm
  have o_sa_re : sa < re := Nat.lt_of_lt_of_eq E.lt g2.symm
  have o_sb_re : sb < re := Nat.lt_of_lt_of_eq A.lt g2.symm
  have gn_re : n0 ≤ re := Nat.le_trans Z0 (Nat.le_of_eq g2.symm)
  have sz_re : h0.size ≤ re := Nat.le_trans K0.1 (Nat.le_of_eq g2.symm)
  have E0_2 := E0.ext E2
  have K0_2 := K0.ext E2
  have Z0_2 := Nat.le_trans Z0 E2.1
  have O0_2 := O0.ext E2
  have F_lexicalName_2 := F_lexicalName.ext E2
  have F_prefixed_2 := F_prefixed.ext E2
  have F_declaredPrefix_2 := F_declaredPrefix.ext E2
  have F_asElement_2 := F_asElement.ext E2
  have F_asAttribute_2 := F_asAttribute.ext E2
  have E_2 := E.ext E2
  have C_2 := C.ext E2
  have V_2 := V.ext E2
  have A_2 := A.ext E2
  have H0_2 := Nat.le_trans H0 E2.1
  have F_name_re_2 : Fld Z h2 re "com/example/xqwry/xqwry/MarkupName$Resolution" "name" "I" (.int (0 : Int32)) := D2 (Or.inl (own_w45 hw)) (ty := .int) (by decide)
  have F_namespaceChanges_re_2 : Fld Z h2 re "com/example/xqwry/xqwry/MarkupName$Resolution" "namespaceChanges" "I" (.int (0 : Int32)) := D2 (Or.inl (own_w47 hw)) (ty := .int) (by decide)
  refine own_dup X2 hx (hb hby d_minit_8) rfl 9 rfl ?_
  refine own_callIR X2 hx hZ hown rfl (own_w40 hw) (own_w41 hw) (own_w39 hw) (own_w42 hw) (by decide) 2 (own_m_rinit l Z a0 hw _ n0 B2 F_name_re_2 F_namespaceChanges_re_2 gn_re) e2 (by rw [hml]; rfl) re [] [(.ref re), (.ref mm)] rfl (lenOf own_pd_8 rfl) rfl (Nat.le_of_eq rfl) (by decide) (by decide) (by decide) (by decide) (hb hby d_minit_9) N0 12 rfl (fun v3 T3 l3 X3 N3 hP3 => ?_)
  obtain ⟨rfl, Fn3, Fc3, K3'⟩ := hP3
  have E0_3 := E0_2.keep K3'
  have K0_3 := K0_2.trans K3' (allS (Or.inr sz_re) all0)
  have Z0_3 := Nat.le_trans Z0_2 K3'.1
  have O0_3 := O0_2.keep K3' (allS gn_re all0)
  have F_lexicalName_3 := F_lexicalName_2.keep K3' (ninS (Nat.ne_of_lt o_mm_re) nin0)
  have F_prefixed_3 := F_prefixed_2.keep K3' (ninS (Nat.ne_of_lt o_mm_re) nin0)
  have F_declaredPrefix_3 := F_declaredPrefix_2.keep K3' (ninS (Nat.ne_of_lt o_mm_re) nin0)
  have F_asElement_3 := F_asElement_2.keep K3' (ninS (Nat.ne_of_lt o_mm_re) nin0)
  have F_asAttribute_3 := F_asAttribute_2.keep K3' (ninS (Nat.ne_of_lt o_mm_re) nin0)
  have E_3 := E_2.keep K3'
  have C_3 := C_2.keep K3' (ninS (Nat.ne_of_lt o_sa_re) nin0)
  have V_3 := V_2.keep K3' (ninS (Nat.ne_of_lt o_sa_re) nin0)
  have A_3 := A_2.keep K3' (ninS (Nat.ne_of_lt o_sb_re) nin0)
  have H0_3 := Nat.le_trans H0_2 K3'.1
  have B2_3 := B2.keep K3'
  show own_G p e below _ (T3.setTop (mkF m 12 #[.val (.ref mm), .val (.ref sa)] [(.ref re), (.ref mm)]))
  refine own_putF X3 hx hZ hown (own_w48 hw) rfl F_asElement_3 E0_3 (Or.inr ⟨(own_w49 hw), rfl, hnm⟩) (own_w2 hw) (ty := (.object "com/example/xqwry/xqwry/MarkupName$Resolution")) (by decide) rfl rfl (hb hby d_minit_12) N3 gn_mm 15 rfl (fun T4 h4 l4 X4 N4 e4 W4 => ?_)
  have E0_4 := E0_3.wr W4
  have K0_4 := K0_3.wr W4 (Or.inl (List.mem_of_getElem? (i := 0) rfl))
  have Z0_4 := Nat.le_trans Z0_3 (Nat.le_of_eq W4.size.symm)
  have O0_4 := O0_3.wr W4 gn_mm
  have F_lexicalName_4 := F_lexicalName_3.other W4 (Or.inr (slot_ne (Or.inr (own_w53 hw)) (Or.inr (own_w49 hw)) (by decide) (t := (.object "java/lang/String")) (t' := (.object "com/example/xqwry/xqwry/MarkupName$Resolution")) (by decide) (by decide)))
  have F_prefixed_4 := F_prefixed_3.other W4 (Or.inr (slot_ne (Or.inr (own_w97 hw)) (Or.inr (own_w49 hw)) (by decide) (t := .boolean) (t' := (.object "com/example/xqwry/xqwry/MarkupName$Resolution")) (by decide) (by decide)))
  have F_declaredPrefix_4 := F_declaredPrefix_3.other W4 (Or.inr (slot_ne (Or.inr (own_w122 hw)) (Or.inr (own_w49 hw)) (by decide) (t := (.object "java/lang/String")) (t' := (.object "com/example/xqwry/xqwry/MarkupName$Resolution")) (by decide) (by decide)))
  have F_asElement_4 := F_asElement_3.same W4
  have F_asAttribute_4 := F_asAttribute_3.other W4 (Or.inr (slot_ne (Or.inr (own_w51 hw)) (Or.inr (own_w49 hw)) (by decide) (t := (.object "com/example/xqwry/xqwry/MarkupName$Resolution")) (t' := (.object "com/example/xqwry/xqwry/MarkupName$Resolution")) (by decide) (by decide)))
  have E_4 := E_3.wr W4
  have C_4 := C_3.other W4 (Or.inl (Nat.ne_of_gt o_mm_sa))
  have V_4 := V_3.other W4 (Or.inl (Nat.ne_of_gt o_mm_sa))
  have A_4 := A_3.other W4 (Nat.ne_of_gt o_mm_sb)
  have H0_4 := Nat.le_trans H0_3 (Nat.le_of_eq W4.size.symm)
  have B2_4 := B2_3.wr W4
  have Fn3_4 := Fn3.other W4 (Or.inl (Nat.ne_of_gt o_mm_re))
  have Fc3_4 := Fc3.other W4 (Or.inl (Nat.ne_of_gt o_mm_re))
  refine own_aloadN X4 hx (hb hby d_minit_15) rfl rfl 16 rfl ?_
  refine own_newO X4 hx hZ hown (own_w37 hw) (own_w38 hw) (own_w39 hw) e4 (hb hby d_minit_16) (by decide) (by decide) 19 rfl (fun T5 h5 ra g5 X5 e5 E5 B5 D5 => ?_)
  have o_mm_ra : mm < ra := Nat.lt_of_lt_of_eq E0_4.lt g5.symm
  have o_sa_ra : sa < ra := Nat.lt_of_lt_of_eq E_4.lt g5.symm
  have o_sb_ra : sb < ra := Nat.lt_of_lt_of_eq A_4.lt g5.symm
  have o_re_ra : re < ra := Nat.lt_of_lt_of_eq B2_4.lt g5.symm
  have gn_ra : n0 ≤ ra := Nat.le_trans Z0_4 (Nat.le_of_eq g5.symm)
  have sz_ra : h0.size ≤ ra := Nat.le_trans K0_4.1 (Nat.le_of_eq g5.symm)
  have E0_5 := E0_4.ext E5
  have K0_5 := K0_4.ext E5
  have Z0_5 := Nat.le_trans Z0_4 E5.1
  have O0_5 := O0_4.ext E5
  have F_lexicalName_5 := F_lexicalName_4.ext E5
  have F_prefixed_5 := F_prefixed_4.ext E5
  have F_declaredPrefix_5 := F_declaredPrefix_4.ext E5
  have F_asElement_5 := F_asElement_4.ext E5
  have F_asAttribute_5 := F_asAttribute_4.ext E5
  have E_5 := E_4.ext E5
  have C_5 := C_4.ext E5
  have V_5 := V_4.ext E5
  have A_5 := A_4.ext E5
  have H0_5 := Nat.le_trans H0_4 E5.1
  have B2_5 := B2_4.ext E5
  have Fn3_5 := Fn3_4.ext E5
  have Fc3_5 := Fc3_4.ext E5
  have F_name_ra_5 : Fld Z h5 ra "com/example/xqwry/xqwry/MarkupName$Resolution" "name" "I" (.int (0 : Int32)) := D5 (Or.inl (own_w45 hw)) (ty := .int) (by decide)
  have F_namespaceChanges_ra_5 : Fld Z h5 ra "com/example/xqwry/xqwry/MarkupName$Resolution" "namespaceChanges" "I" (.int (0 : Int32)) := D5 (Or.inl (own_w47 hw)) (ty := .int) (by decide)
  refine own_dup X5 hx (hb hby d_minit_19) rfl 20 rfl ?_
  refine own_callIR X5 hx hZ hown rfl (own_w40 hw) (own_w41 hw) (own_w39 hw) (own_w42 hw) (by decide) 2 (own_m_rinit l Z a0 hw _ n0 B5 F_name_ra_5 F_namespaceChanges_ra_5 gn_ra) e5 (by rw [hml]; rfl) ra [] [(.ref ra), (.ref mm)] rfl (lenOf own_pd_8 rfl) rfl (Nat.le_of_eq rfl) (by decide) (by decide) (by decide) (by decide) (hb hby d_minit_20) N4 23 rfl (fun v6 T6 l6 X6 N6 hP6 => ?_)
  obtain ⟨rfl, Fn6, Fc6, K6'⟩ := hP6
  have E0_6 := E0_5.keep K6'
  have K0_6 := K0_5.trans K6' (allS (Or.inr sz_ra) all0)
  have Z0_6 := Nat.le_trans Z0_5 K6'.1
  have O0_6 := O0_5.keep K6' (allS gn_ra all0)
  have F_lexicalName_6 := F_lexicalName_5.keep K6' (ninS (Nat.ne_of_lt o_mm_ra) nin0)
  have F_prefixed_6 := F_prefixed_5.keep K6' (ninS (Nat.ne_of_lt o_mm_ra) nin0)
  have F_declaredPrefix_6 := F_declaredPrefix_5.keep K6' (ninS (Nat.ne_of_lt o_mm_ra) nin0)
  have F_asElement_6 := F_asElement_5.keep K6' (ninS (Nat.ne_of_lt o_mm_ra) nin0)
  have F_asAttribute_6 := F_asAttribute_5.keep K6' (ninS (Nat.ne_of_lt o_mm_ra) nin0)
  have E_6 := E_5.keep K6'
  have C_6 := C_5.keep K6' (ninS (Nat.ne_of_lt o_sa_ra) nin0)
  have V_6 := V_5.keep K6' (ninS (Nat.ne_of_lt o_sa_ra) nin0)
  have A_6 := A_5.keep K6' (ninS (Nat.ne_of_lt o_sb_ra) nin0)
  have H0_6 := Nat.le_trans H0_5 K6'.1
  have B2_6 := B2_5.keep K6'
  have Fn3_6 := Fn3_5.keep K6' (ninS (Nat.ne_of_lt o_re_ra) nin0)
  have Fc3_6 := Fc3_5.keep K6' (ninS (Nat.ne_of_lt o_re_ra) nin0)
  have B5_6 := B5.keep K6'
  show own_G p e below _ (T6.setTop (mkF m 23 #[.val (.ref mm), .val (.ref sa)] [(.ref ra), (.ref mm)]))
  refine own_putF X6 hx hZ hown (own_w50 hw) rfl F_asAttribute_6 E0_6 (Or.inr ⟨(own_w51 hw), rfl, hnm⟩) (own_w2 hw) (ty := (.object "com/example/xqwry/xqwry/MarkupName$Resolution")) (by decide) rfl rfl (hb hby d_minit_23) N6 gn_mm 26 rfl (fun T7 h7 l7 X7 N7 e7 W7 => ?_)
  have E0_7 := E0_6.wr W7
  have K0_7 := K0_6.wr W7 (Or.inl (List.mem_of_getElem? (i := 0) rfl))
  have Z0_7 := Nat.le_trans Z0_6 (Nat.le_of_eq W7.size.symm)
  have O0_7 := O0_6.wr W7 gn_mm
  have F_lexicalName_7 := F_lexicalName_6.other W7 (Or.inr (slot_ne (Or.inr (own_w53 hw)) (Or.inr (own_w51 hw)) (by decide) (t := (.object "java/lang/String")) (t' := (.object "com/example/xqwry/xqwry/MarkupName$Resolution")) (by decide) (by decide)))
  have F_prefixed_7 := F_prefixed_6.other W7 (Or.inr (slot_ne (Or.inr (own_w97 hw)) (Or.inr (own_w51 hw)) (by decide) (t := .boolean) (t' := (.object "com/example/xqwry/xqwry/MarkupName$Resolution")) (by decide) (by decide)))
  have F_declaredPrefix_7 := F_declaredPrefix_6.other W7 (Or.inr (slot_ne (Or.inr (own_w122 hw)) (Or.inr (own_w51 hw)) (by decide) (t := (.object "java/lang/String")) (t' := (.object "com/example/xqwry/xqwry/MarkupName$Resolution")) (by decide) (by decide)))
  have F_asElement_7 := F_asElement_6.other W7 (Or.inr (slot_ne (Or.inr (own_w49 hw)) (Or.inr (own_w51 hw)) (by decide) (t := (.object "com/example/xqwry/xqwry/MarkupName$Resolution")) (t' := (.object "com/example/xqwry/xqwry/MarkupName$Resolution")) (by decide) (by decide)))
  have F_asAttribute_7 := F_asAttribute_6.same W7
  have E_7 := E_6.wr W7
  have C_7 := C_6.other W7 (Or.inl (Nat.ne_of_gt o_mm_sa))
  have V_7 := V_6.other W7 (Or.inl (Nat.ne_of_gt o_mm_sa))
  have A_7 := A_6.other W7 (Nat.ne_of_gt o_mm_sb)
  have H0_7 := Nat.le_trans H0_6 (Nat.le_of_eq W7.size.symm)
  have B2_7 := B2_6.wr W7
  have Fn3_7 := Fn3_6.other W7 (Or.inl (Nat.ne_of_gt o_mm_re))
  have Fc3_7 := Fc3_6.other W7 (Or.inl (Nat.ne_of_gt o_mm_re))
  have B5_7 := B5_6.wr W7
  have Fn6_7 := Fn6.other W7 (Or.inl (Nat.ne_of_gt o_mm_ra))
  have Fc6_7 := Fc6.other W7 (Or.inl (Nat.ne_of_gt o_mm_ra))
  refine own_aloadN X7 hx (hb hby d_minit_26) rfl rfl 27 rfl ?_
  refine own_aloadN X7 hx (hb hby d_minit_27) rfl rfl 28 rfl ?_
  refine own_putF X7 hx hZ hown (own_w52 hw) e7 F_lexicalName_7 E0_7 (Or.inr ⟨(own_w53 hw), rfl, hnm⟩) (own_w2 hw) (ty := (.object "java/lang/String")) (by decide) rfl rfl (hb hby d_minit_28) N7 gn_mm 31 rfl (fun T8 h8 l8 X8 N8 e8 W8 => ?_)
  have E0_8 := E0_7.wr W8
  have K0_8 := K0_7.wr W8 (Or.inl (List.mem_of_getElem? (i := 0) rfl))
  have Z0_8 := Nat.le_trans Z0_7 (Nat.le_of_eq W8.size.symm)
  have O0_8 := O0_7.wr W8 gn_mm
  have F_lexicalName_8 := F_lexicalName_7.same W8
  have F_prefixed_8 := F_prefixed_7.other W8 (Or.inr (slot_ne (Or.inr (own_w97 hw)) (Or.inr (own_w53 hw)) (by decide) (t := .boolean) (t' := (.object "java/lang/String")) (by decide) (by decide)))
  have F_declaredPrefix_8 := F_declaredPrefix_7.other W8 (Or.inr (slot_ne (Or.inr (own_w122 hw)) (Or.inr (own_w53 hw)) (by decide) (t := (.object "java/lang/String")) (t' := (.object "java/lang/String")) (by decide) (by decide)))
  have F_asElement_8 := F_asElement_7.other W8 (Or.inr (slot_ne (Or.inr (own_w49 hw)) (Or.inr (own_w53 hw)) (by decide) (t := (.object "com/example/xqwry/xqwry/MarkupName$Resolution")) (t' := (.object "java/lang/String")) (by decide) (by decide)))
  have F_asAttribute_8 := F_asAttribute_7.other W8 (Or.inr (slot_ne (Or.inr (own_w51 hw)) (Or.inr (own_w53 hw)) (by decide) (t := (.object "com/example/xqwry/xqwry/MarkupName$Resolution")) (t' := (.object "java/lang/String")) (by decide) (by decide)))
  have E_8 := E_7.wr W8
  have C_8 := C_7.other W8 (Or.inl (Nat.ne_of_gt o_mm_sa))
  have V_8 := V_7.other W8 (Or.inl (Nat.ne_of_gt o_mm_sa))
  have A_8 := A_7.other W8 (Nat.ne_of_gt o_mm_sb)
  have H0_8 := Nat.le_trans H0_7 (Nat.le_of_eq W8.size.symm)
  have B2_8 := B2_7.wr W8
  have Fn3_8 := Fn3_7.other W8 (Or.inl (Nat.ne_of_gt o_mm_re))
  have Fc3_8 := Fc3_7.other W8 (Or.inl (Nat.ne_of_gt o_mm_re))
  have B5_8 := B5_7.wr W8
  have Fn6_8 := Fn6_7.other W8 (Or.inl (Nat.ne_of_gt o_mm_ra))
  have Fc6_8 := Fc6_7.other W8 (Or.inl (Nat.ne_of_gt o_mm_ra))
  refine own_aloadN X8 hx (hb hby d_minit_31) rfl rfl 32 rfl ?_
  refine own_aloadN X8 hx (hb hby d_minit_32) rfl rfl 33 rfl ?_
  refine own_bipush X8 hx (z := (58 : Int32)) (hb hby d_minit_33) rfl 35 rfl ?_
  refine own_callV X8 hx hZ hown (own_w54 hw) (own_w55 hw) (own_w57 hw) (own_w56 hw) (own_w6 hw) (own_w58 hw) (by decide) 1 (own_m_si1 l Z a0 hw _ n0 E_8 C_8 V_8 A_8 hcz (SC0.ext O0_8.2)) e8 E_8 (by rw [hml]; rfl) [(.int (58 : Int32))] [(.ref mm)] rfl (lenOf own_pd_9 rfl) rfl (Nat.le_of_eq rfl) (by decide) (by decide) (by decide) (by decide) (hb hby d_minit_35) N8 38 rfl (fun v9 T9 l9 X9 N9 hP9 => ?_)
  obtain ⟨r9, rfl, e9⟩ := hP9
  show own_G p e below _ (T9.setTop (mkF m 38 #[.val (.ref mm), .val (.ref sa)] [(.int r9), (.ref mm)]))
  by_cases hc10 : r9 < (0 : Int32)
  · refine own_ifcT X9 hx (hb hby d_minit_38) (tlt hc10).1 45 (by decide) (by decide) ?_
    refine own_iconst X9 hx (z := (0 : Int32)) (hb hby d_minit_45) rfl 46 rfl ?_
    refine own_putFN X9 hx hZ hown (own_w96 hw) e9 F_prefixed_8 E0_8 (Or.inr ⟨(own_w97 hw), rfl, hnm⟩) (own_w2 hw) (ty := .boolean) (v' := (.int (0 : Int32))) (by decide) rfl rfl (hb hby d_minit_46) N9 gn_mm 49 rfl (fun T11 h11 l11 X11 N11 e11 W11 => ?_)
    have E0_11 := E0_8.wr W11
    have K0_11 := K0_8.wr W11 (Or.inl (List.mem_of_getElem? (i := 0) rfl))
    have Z0_11 := Nat.le_trans Z0_8 (Nat.le_of_eq W11.size.symm)
    have O0_11 := O0_8.wr W11 gn_mm
    have F_lexicalName_11 := F_lexicalName_8.other W11 (Or.inr (slot_ne (Or.inr (own_w53 hw)) (Or.inr (own_w97 hw)) (by decide) (t := (.object "java/lang/String")) (t' := .boolean) (by decide) (by decide)))
    have F_prefixed_11 := F_prefixed_8.same W11
    have F_declaredPrefix_11 := F_declaredPrefix_8.other W11 (Or.inr (slot_ne (Or.inr (own_w122 hw)) (Or.inr (own_w97 hw)) (by decide) (t := (.object "java/lang/String")) (t' := .boolean) (by decide) (by decide)))
    have F_asElement_11 := F_asElement_8.other W11 (Or.inr (slot_ne (Or.inr (own_w49 hw)) (Or.inr (own_w97 hw)) (by decide) (t := (.object "com/example/xqwry/xqwry/MarkupName$Resolution")) (t' := .boolean) (by decide) (by decide)))
    have F_asAttribute_11 := F_asAttribute_8.other W11 (Or.inr (slot_ne (Or.inr (own_w51 hw)) (Or.inr (own_w97 hw)) (by decide) (t := (.object "com/example/xqwry/xqwry/MarkupName$Resolution")) (t' := .boolean) (by decide) (by decide)))
    have E_11 := E_8.wr W11
    have C_11 := C_8.other W11 (Or.inl (Nat.ne_of_gt o_mm_sa))
    have V_11 := V_8.other W11 (Or.inl (Nat.ne_of_gt o_mm_sa))
    have A_11 := A_8.other W11 (Nat.ne_of_gt o_mm_sb)
    have H0_11 := Nat.le_trans H0_8 (Nat.le_of_eq W11.size.symm)
    have B2_11 := B2_8.wr W11
    have Fn3_11 := Fn3_8.other W11 (Or.inl (Nat.ne_of_gt o_mm_re))
    have Fc3_11 := Fc3_8.other W11 (Or.inl (Nat.ne_of_gt o_mm_re))
    have B5_11 := B5_8.wr W11
    have Fn6_11 := Fn6_8.other W11 (Or.inl (Nat.ne_of_gt o_mm_ra))
    have Fc6_11 := Fc6_8.other W11 (Or.inl (Nat.ne_of_gt o_mm_ra))
    refine own_aloadN X11 hx (hb hby d_minit_49) rfl rfl 50 rfl ?_
    refine own_ldcS X11 hx hZ hown (own_w98 hw) wS e11 hS H0_11 O0_11 I (by decide) hH33 hcw (by decide +kernel) (hb hby d_minit_50) (n := 20) (by decide +kernel) (by decide) (by decide) (by decide) 52 rfl (fun k12 kb12 f12 T12 h12 X12 e12 E12 hS hZ hown I far12 B12 C12 V12 A12 => ?_)
    have ne_sa_k12 : sa ≠ k12 := own_far far12 gn_sa E_11.lt
    have E0_12 := E0_11.ext E12
    have K0_12 := K0_11.ext E12
    have Z0_12 := Nat.le_trans Z0_11 E12.1
    have O0_12 := O0_11.ext E12
    have F_lexicalName_12 := F_lexicalName_11.ext E12
    have F_prefixed_12 := F_prefixed_11.ext E12
    have F_declaredPrefix_12 := F_declaredPrefix_11.ext E12
    have F_asElement_12 := F_asElement_11.ext E12
    have F_asAttribute_12 := F_asAttribute_11.ext E12
    have E_12 := E_11.ext E12
    have C_12 := C_11.ext E12
    have V_12 := V_11.ext E12
    have A_12 := A_11.ext E12
    have H0_12 := Nat.le_trans H0_11 E12.1
    have B2_12 := B2_11.ext E12
    have Fn3_12 := Fn3_11.ext E12
    have Fc3_12 := Fc3_11.ext E12
    have B5_12 := B5_11.ext E12
    have Fn6_12 := Fn6_11.ext E12
    have Fc6_12 := Fc6_11.ext E12
    have Hk12 := Nat.le_refl h12.size
    replace A12 : own_A Z h12 kb12 .byte 5 f12 := own_An (by decide +kernel) A12
    refine own_callV X12 hx hZ hown (own_w101 hw) (own_w102 hw) (own_w104 hw) (own_w103 hw) (own_w6 hw) (own_w105 hw) (by decide) 0 (own_m_seq l Z a0 hw _ n0 E_12 C_12 V_12 A_12 B12 C12 V12 A12 ne_sa_k12 hcz (SC0.ext O0_12.2)) e12 E_12 (by rw [hml]; rfl) [(.ref k12)] [] rfl (lenOf own_pd_10 rfl) rfl (Nat.le_of_eq rfl) (by decide) (by decide) (by decide) (by decide) (hb hby d_minit_52) N11 55 rfl (fun v13 T13 l13 X13 N13 hP13 => ?_)
    obtain ⟨rfl, e13⟩ := hP13
    show own_G p e below _ (T13.setTop (mkF m 55 #[.val (.ref mm), .val (.ref sa)] [(.int (0 : Int32))]))
    refine own_ifcT X13 hx (hb hby d_minit_55) (teq (by decide)).1 67 (by decide) (by decide) ?_
    refine own_aloadN X13 hx (hb hby d_minit_67) rfl rfl 68 rfl ?_
    refine own_ldcS X13 hx hZ hown (own_w110 hw) wS e13 hS Hk12 O0_12 I (by decide) hH44 hcw (by decide +kernel) (hb hby d_minit_68) (n := 24) (by decide +kernel) (by decide) (by decide) (by decide) 70 rfl (fun k14 kb14 f14 T14 h14 X14 e14 E14 hS hZ hown I far14 B14 C14 V14 A14 => ?_)
    have ne_sa_k14 : sa ≠ k14 := own_far far14 gn_sa E_12.lt
    have E0_14 := E0_12.ext E14
    have K0_14 := K0_12.ext E14
    have Z0_14 := Nat.le_trans Z0_12 E14.1
    have O0_14 := O0_12.ext E14
    have F_lexicalName_14 := F_lexicalName_12.ext E14
    have F_prefixed_14 := F_prefixed_12.ext E14
    have F_declaredPrefix_14 := F_declaredPrefix_12.ext E14
    have F_asElement_14 := F_asElement_12.ext E14
    have F_asAttribute_14 := F_asAttribute_12.ext E14
    have E_14 := E_12.ext E14
    have C_14 := C_12.ext E14
    have V_14 := V_12.ext E14
    have A_14 := A_12.ext E14
    have Hk12_14 := Nat.le_trans Hk12 E14.1
    have B2_14 := B2_12.ext E14
    have Fn3_14 := Fn3_12.ext E14
    have Fc3_14 := Fc3_12.ext E14
    have B5_14 := B5_12.ext E14
    have Fn6_14 := Fn6_12.ext E14
    have Fc6_14 := Fc6_12.ext E14
    have Hk14 := Nat.le_refl h14.size
    replace A14 : own_A Z h14 kb14 .byte 6 f14 := own_An (by decide +kernel) A14
    refine own_callV X14 hx hZ hown (own_w111 hw) (own_w112 hw) (own_w114 hw) (own_w113 hw) (own_w6 hw) (own_w115 hw) (by decide) 0 (own_m_sw1 l Z a0 hw _ n0 E_14 C_14 V_14 A_14 B14 C14 V14 A14 hcz (SC0.ext O0_14.2)) e14 E_14 (by rw [hml]; rfl) [(.ref k14)] [] rfl (lenOf own_pd_11 rfl) rfl (Nat.le_of_eq rfl) (by decide) (by decide) (by decide) (by decide) (hb hby d_minit_70) N13 73 rfl (fun v15 T15 l15 X15 N15 hP15 => ?_)
    obtain ⟨rfl, e15⟩ := hP15
    show own_G p e below _ (T15.setTop (mkF m 73 #[.val (.ref mm), .val (.ref sa)] [(.int (0 : Int32))]))
    refine own_ifcT X15 hx (hb hby d_minit_73) (teq (by decide)).1 89 (by decide) (by decide) ?_
    refine own_aloadN X15 hx (hb hby d_minit_89) rfl rfl 90 rfl ?_
    refine own_aconstNull X15 hx (hb hby d_minit_90) 91 rfl ?_
    refine own_putF X15 hx hZ hown (own_w121 hw) e15 F_declaredPrefix_14 E0_14 (Or.inr ⟨(own_w122 hw), rfl, hnm⟩) (own_w2 hw) (ty := (.object "java/lang/String")) (by decide) rfl rfl (hb hby d_minit_91) N15 gn_mm 94 rfl (fun T16 h16 l16 X16 N16 e16 W16 => ?_)
    have E0_16 := E0_14.wr W16
    have K0_16 := K0_14.wr W16 (Or.inl (List.mem_of_getElem? (i := 0) rfl))
    have Z0_16 := Nat.le_trans Z0_14 (Nat.le_of_eq W16.size.symm)
    have O0_16 := O0_14.wr W16 gn_mm
    have F_lexicalName_16 := F_lexicalName_14.other W16 (Or.inr (slot_ne (Or.inr (own_w53 hw)) (Or.inr (own_w122 hw)) (by decide) (t := (.object "java/lang/String")) (t' := (.object "java/lang/String")) (by decide) (by decide)))
    have F_prefixed_16 := F_prefixed_14.other W16 (Or.inr (slot_ne (Or.inr (own_w97 hw)) (Or.inr (own_w122 hw)) (by decide) (t := .boolean) (t' := (.object "java/lang/String")) (by decide) (by decide)))
    have F_declaredPrefix_16 := F_declaredPrefix_14.same W16
    have F_asElement_16 := F_asElement_14.other W16 (Or.inr (slot_ne (Or.inr (own_w49 hw)) (Or.inr (own_w122 hw)) (by decide) (t := (.object "com/example/xqwry/xqwry/MarkupName$Resolution")) (t' := (.object "java/lang/String")) (by decide) (by decide)))
    have F_asAttribute_16 := F_asAttribute_14.other W16 (Or.inr (slot_ne (Or.inr (own_w51 hw)) (Or.inr (own_w122 hw)) (by decide) (t := (.object "com/example/xqwry/xqwry/MarkupName$Resolution")) (t' := (.object "java/lang/String")) (by decide) (by decide)))
    have E_16 := E_14.wr W16
    have C_16 := C_14.other W16 (Or.inl (Nat.ne_of_gt o_mm_sa))
    have V_16 := V_14.other W16 (Or.inl (Nat.ne_of_gt o_mm_sa))
    have A_16 := A_14.other W16 (Nat.ne_of_gt o_mm_sb)
    have Hk14_16 := Nat.le_trans Hk14 (Nat.le_of_eq W16.size.symm)
    have B2_16 := B2_14.wr W16
    have Fn3_16 := Fn3_14.other W16 (Or.inl (Nat.ne_of_gt o_mm_re))
    have Fc3_16 := Fc3_14.other W16 (Or.inl (Nat.ne_of_gt o_mm_re))
    have B5_16 := B5_14.wr W16
    have Fn6_16 := Fn6_14.other W16 (Or.inl (Nat.ne_of_gt o_mm_ra))
    have Fc6_16 := Fc6_14.other W16 (Or.inl (Nat.ne_of_gt o_mm_ra))
    exact own_retVS X16 hx hS hret hlk (hb hby d_minit_94) (by decide) (by decide) N16 e16 Hk14_16 ⟨rfl, re, ra, F_asElement_16, F_asAttribute_16, B2_16, B5_16, Fn3_16, Fc3_16, Fn6_16, Fc6_16, o_mm_re, o_re_ra, K0_16⟩
  · refine own_ifcF X9 hx (hb hby d_minit_38) (flt hc10).1 41 rfl ?_
    refine own_iconst X9 hx (z := (1 : Int32)) (hb hby d_minit_41) rfl 42 rfl ?_
    refine own_goto X9 hx (hb hby d_minit_42) 46 (by decide) (by decide) ?_
    refine own_putFN X9 hx hZ hown (own_w96 hw) e9 F_prefixed_8 E0_8 (Or.inr ⟨(own_w97 hw), rfl, hnm⟩) (own_w2 hw) (ty := .boolean) (v' := (.int (1 : Int32))) (by decide) rfl rfl (hb hby d_minit_46) N9 gn_mm 49 rfl (fun T17 h17 l17 X17 N17 e17 W17 => ?_)
    have E0_17 := E0_8.wr W17
    have K0_17 := K0_8.wr W17 (Or.inl (List.mem_of_getElem? (i := 0) rfl))
    have Z0_17 := Nat.le_trans Z0_8 (Nat.le_of_eq W17.size.symm)
    have O0_17 := O0_8.wr W17 gn_mm
    have F_lexicalName_17 := F_lexicalName_8.other W17 (Or.inr (slot_ne (Or.inr (own_w53 hw)) (Or.inr (own_w97 hw)) (by decide) (t := (.object "java/lang/String")) (t' := .boolean) (by decide) (by decide)))
    have F_prefixed_17 := F_prefixed_8.same W17
    have F_declaredPrefix_17 := F_declaredPrefix_8.other W17 (Or.inr (slot_ne (Or.inr (own_w122 hw)) (Or.inr (own_w97 hw)) (by decide) (t := (.object "java/lang/String")) (t' := .boolean) (by decide) (by decide)))
    have F_asElement_17 := F_asElement_8.other W17 (Or.inr (slot_ne (Or.inr (own_w49 hw)) (Or.inr (own_w97 hw)) (by decide) (t := (.object "com/example/xqwry/xqwry/MarkupName$Resolution")) (t' := .boolean) (by decide) (by decide)))
    have F_asAttribute_17 := F_asAttribute_8.other W17 (Or.inr (slot_ne (Or.inr (own_w51 hw)) (Or.inr (own_w97 hw)) (by decide) (t := (.object "com/example/xqwry/xqwry/MarkupName$Resolution")) (t' := .boolean) (by decide) (by decide)))
    have E_17 := E_8.wr W17
    have C_17 := C_8.other W17 (Or.inl (Nat.ne_of_gt o_mm_sa))
    have V_17 := V_8.other W17 (Or.inl (Nat.ne_of_gt o_mm_sa))
    have A_17 := A_8.other W17 (Nat.ne_of_gt o_mm_sb)
    have H0_17 := Nat.le_trans H0_8 (Nat.le_of_eq W17.size.symm)
    have B2_17 := B2_8.wr W17
    have Fn3_17 := Fn3_8.other W17 (Or.inl (Nat.ne_of_gt o_mm_re))
    have Fc3_17 := Fc3_8.other W17 (Or.inl (Nat.ne_of_gt o_mm_re))
    have B5_17 := B5_8.wr W17
    have Fn6_17 := Fn6_8.other W17 (Or.inl (Nat.ne_of_gt o_mm_ra))
    have Fc6_17 := Fc6_8.other W17 (Or.inl (Nat.ne_of_gt o_mm_ra))
    refine own_aloadN X17 hx (hb hby d_minit_49) rfl rfl 50 rfl ?_
    refine own_ldcS X17 hx hZ hown (own_w98 hw) wS e17 hS H0_17 O0_17 I (by decide) hH33 hcw (by decide +kernel) (hb hby d_minit_50) (n := 20) (by decide +kernel) (by decide) (by decide) (by decide) 52 rfl (fun k18 kb18 f18 T18 h18 X18 e18 E18 hS hZ hown I far18 B18 C18 V18 A18 => ?_)
    have ne_sa_k18 : sa ≠ k18 := own_far far18 gn_sa E_17.lt
    have E0_18 := E0_17.ext E18
    have K0_18 := K0_17.ext E18
    have Z0_18 := Nat.le_trans Z0_17 E18.1
    have O0_18 := O0_17.ext E18
    have F_lexicalName_18 := F_lexicalName_17.ext E18
    have F_prefixed_18 := F_prefixed_17.ext E18
    have F_declaredPrefix_18 := F_declaredPrefix_17.ext E18
    have F_asElement_18 := F_asElement_17.ext E18
    have F_asAttribute_18 := F_asAttribute_17.ext E18
    have E_18 := E_17.ext E18
    have C_18 := C_17.ext E18
    have V_18 := V_17.ext E18
    have A_18 := A_17.ext E18
    have H0_18 := Nat.le_trans H0_17 E18.1
    have B2_18 := B2_17.ext E18
    have Fn3_18 := Fn3_17.ext E18
    have Fc3_18 := Fc3_17.ext E18
    have B5_18 := B5_17.ext E18
    have Fn6_18 := Fn6_17.ext E18
    have Fc6_18 := Fc6_17.ext E18
    have Hk18 := Nat.le_refl h18.size
    replace A18 : own_A Z h18 kb18 .byte 5 f18 := own_An (by decide +kernel) A18
    refine own_callV X18 hx hZ hown (own_w101 hw) (own_w102 hw) (own_w104 hw) (own_w103 hw) (own_w6 hw) (own_w105 hw) (by decide) 0 (own_m_seq l Z a0 hw _ n0 E_18 C_18 V_18 A_18 B18 C18 V18 A18 ne_sa_k18 hcz (SC0.ext O0_18.2)) e18 E_18 (by rw [hml]; rfl) [(.ref k18)] [] rfl (lenOf own_pd_10 rfl) rfl (Nat.le_of_eq rfl) (by decide) (by decide) (by decide) (by decide) (hb hby d_minit_52) N17 55 rfl (fun v19 T19 l19 X19 N19 hP19 => ?_)
    obtain ⟨rfl, e19⟩ := hP19
    show own_G p e below _ (T19.setTop (mkF m 55 #[.val (.ref mm), .val (.ref sa)] [(.int (0 : Int32))]))
    refine own_ifcT X19 hx (hb hby d_minit_55) (teq (by decide)).1 67 (by decide) (by decide) ?_
    refine own_aloadN X19 hx (hb hby d_minit_67) rfl rfl 68 rfl ?_
    refine own_ldcS X19 hx hZ hown (own_w110 hw) wS e19 hS Hk18 O0_18 I (by decide) hH44 hcw (by decide +kernel) (hb hby d_minit_68) (n := 24) (by decide +kernel) (by decide) (by decide) (by decide) 70 rfl (fun k20 kb20 f20 T20 h20 X20 e20 E20 hS hZ hown I far20 B20 C20 V20 A20 => ?_)
    have ne_sa_k20 : sa ≠ k20 := own_far far20 gn_sa E_18.lt
    have E0_20 := E0_18.ext E20
    have K0_20 := K0_18.ext E20
    have Z0_20 := Nat.le_trans Z0_18 E20.1
    have O0_20 := O0_18.ext E20
    have F_lexicalName_20 := F_lexicalName_18.ext E20
    have F_prefixed_20 := F_prefixed_18.ext E20
    have F_declaredPrefix_20 := F_declaredPrefix_18.ext E20
    have F_asElement_20 := F_asElement_18.ext E20
    have F_asAttribute_20 := F_asAttribute_18.ext E20
    have E_20 := E_18.ext E20
    have C_20 := C_18.ext E20
    have V_20 := V_18.ext E20
    have A_20 := A_18.ext E20
    have Hk18_20 := Nat.le_trans Hk18 E20.1
    have B2_20 := B2_18.ext E20
    have Fn3_20 := Fn3_18.ext E20
    have Fc3_20 := Fc3_18.ext E20
    have B5_20 := B5_18.ext E20
    have Fn6_20 := Fn6_18.ext E20
    have Fc6_20 := Fc6_18.ext E20
    have Hk20 := Nat.le_refl h20.size
    replace A20 : own_A Z h20 kb20 .byte 6 f20 := own_An (by decide +kernel) A20
    refine own_callV X20 hx hZ hown (own_w111 hw) (own_w112 hw) (own_w114 hw) (own_w113 hw) (own_w6 hw) (own_w115 hw) (by decide) 0 (own_m_sw1 l Z a0 hw _ n0 E_20 C_20 V_20 A_20 B20 C20 V20 A20 hcz (SC0.ext O0_20.2)) e20 E_20 (by rw [hml]; rfl) [(.ref k20)] [] rfl (lenOf own_pd_11 rfl) rfl (Nat.le_of_eq rfl) (by decide) (by decide) (by decide) (by decide) (hb hby d_minit_70) N19 73 rfl (fun v21 T21 l21 X21 N21 hP21 => ?_)
    obtain ⟨rfl, e21⟩ := hP21
    show own_G p e below _ (T21.setTop (mkF m 73 #[.val (.ref mm), .val (.ref sa)] [(.int (0 : Int32))]))
    refine own_ifcT X21 hx (hb hby d_minit_73) (teq (by decide)).1 89 (by decide) (by decide) ?_
    refine own_aloadN X21 hx (hb hby d_minit_89) rfl rfl 90 rfl ?_
    refine own_aconstNull X21 hx (hb hby d_minit_90) 91 rfl ?_
    refine own_putF X21 hx hZ hown (own_w121 hw) e21 F_declaredPrefix_20 E0_20 (Or.inr ⟨(own_w122 hw), rfl, hnm⟩) (own_w2 hw) (ty := (.object "java/lang/String")) (by decide) rfl rfl (hb hby d_minit_91) N21 gn_mm 94 rfl (fun T22 h22 l22 X22 N22 e22 W22 => ?_)
    have E0_22 := E0_20.wr W22
    have K0_22 := K0_20.wr W22 (Or.inl (List.mem_of_getElem? (i := 0) rfl))
    have Z0_22 := Nat.le_trans Z0_20 (Nat.le_of_eq W22.size.symm)
    have O0_22 := O0_20.wr W22 gn_mm
    have F_lexicalName_22 := F_lexicalName_20.other W22 (Or.inr (slot_ne (Or.inr (own_w53 hw)) (Or.inr (own_w122 hw)) (by decide) (t := (.object "java/lang/String")) (t' := (.object "java/lang/String")) (by decide) (by decide)))
    have F_prefixed_22 := F_prefixed_20.other W22 (Or.inr (slot_ne (Or.inr (own_w97 hw)) (Or.inr (own_w122 hw)) (by decide) (t := .boolean) (t' := (.object "java/lang/String")) (by decide) (by decide)))
    have F_declaredPrefix_22 := F_declaredPrefix_20.same W22
    have F_asElement_22 := F_asElement_20.other W22 (Or.inr (slot_ne (Or.inr (own_w49 hw)) (Or.inr (own_w122 hw)) (by decide) (t := (.object "com/example/xqwry/xqwry/MarkupName$Resolution")) (t' := (.object "java/lang/String")) (by decide) (by decide)))
    have F_asAttribute_22 := F_asAttribute_20.other W22 (Or.inr (slot_ne (Or.inr (own_w51 hw)) (Or.inr (own_w122 hw)) (by decide) (t := (.object "com/example/xqwry/xqwry/MarkupName$Resolution")) (t' := (.object "java/lang/String")) (by decide) (by decide)))
    have E_22 := E_20.wr W22
    have C_22 := C_20.other W22 (Or.inl (Nat.ne_of_gt o_mm_sa))
    have V_22 := V_20.other W22 (Or.inl (Nat.ne_of_gt o_mm_sa))
    have A_22 := A_20.other W22 (Nat.ne_of_gt o_mm_sb)
    have Hk20_22 := Nat.le_trans Hk20 (Nat.le_of_eq W22.size.symm)
    have B2_22 := B2_20.wr W22
    have Fn3_22 := Fn3_20.other W22 (Or.inl (Nat.ne_of_gt o_mm_re))
    have Fc3_22 := Fc3_20.other W22 (Or.inl (Nat.ne_of_gt o_mm_re))
    have B5_22 := B5_20.wr W22
    have Fn6_22 := Fn6_20.other W22 (Or.inl (Nat.ne_of_gt o_mm_ra))
    have Fc6_22 := Fc6_20.other W22 (Or.inl (Nat.ne_of_gt o_mm_ra))
    exact own_retVS X22 hx hS hret hlk (hb hby d_minit_94) (by decide) (by decide) N22 e22 Hk20_22 ⟨rfl, re, ra, F_asElement_22, F_asAttribute_22, B2_22, B5_22, Fn3_22, Fc3_22, Fn6_22, Fc6_22, o_mm_re, o_re_ra, K0_22⟩
theorem own_castore {p : Program} {l : Launch} {e : Env} {R : Room} {s : State} {m : MethodId} {args : Array Value} {below : List Frame} {meth : Method} {c : Code} {T : State} {locs : List Loc} {cells slots : Nat} {Q : Outcome → State → Prop} {pc : Nat} {Ls : Array Slot} {st : List Value} {Z : State} {h : Heap} {n0 : Nat} {a : Addr} {n : Nat} {f : Nat → Int32} (X : Stand p l e R s m args below meth c T locs cells slots) (hx : p.tables.exec = Jvm.exec) (hZ : Z.Warmed39 s.vm) (eT : T.heap = h) (A : own_A Z h a .char n f) {j x : Int32} (hj : ¬ j < 0 ∧ j.toNatClampNeg < n) (hd : decode c.code pc = .ok (.castore, 1)) (N : Fr n0 locs) (g : n0 ≤ a) (pc' : Nat) (hp : pc + 1 = pc')
    (k : ∀ T' h' locs', Stand p l e R s m args below meth c T' locs' cells slots → Fr n0 locs' → T'.heap = h' → Wr h h' a j.toNatClampNeg (.int (nar .char x)) → own_G p e below Q (T'.setTop (mkF m pc' Ls st))) : own_G p e below Q (T.setTop (mkF m pc Ls (.int x :: .int j :: .ref a :: st))) := by
  subst hp
  obtain ⟨cl, A, S, H⟩ := A
  obtain ⟨T', h', X', e', W, stp⟩ := stC X hx hZ eT A (own_nin S hj) (g := mkF m pc Ls (.int x :: .int j :: .ref a :: st)) rfl rfl hd
  exact own_st stp (k T' h' _ X' (Fr.snoc X' N g) e' W)
section OwnC
variable {p : Program} {l : Launch} {e : Env} {R : Room} {s : State} {m : MethodId} {args : Array Value} {below : List Frame} {meth : Method} {c : Code} {T : State} {locs : List Loc} {cells slots : Nat} {Q : Outcome → State → Prop} {pc : Nat} {Ls : Array Slot} {st : List Value} {Z : State} {h : Heap} {a : Addr} {n : Nat} {f : Nat → Int32}
theorem own_caload (X : Stand p l e R s m args below meth c T locs cells slots) (hx : p.tables.exec = Jvm.exec) (hZ : Z.Warmed39 s.vm) (eT : T.heap = h) (A : own_A Z h a .char n f) {j : Int32} (hj : ¬ j < 0 ∧ j.toNatClampNeg < n) {x : Int32} (hv : f j.toNatClampNeg = x) (hd : decode c.code pc = .ok (.caload, 1)) (pc' : Nat) (hp : pc + 1 = pc') (r : own_G p e below Q (T.setTop (mkF m pc' Ls (.int x :: st)))) : own_G p e below Q (T.setTop (mkF m pc Ls (.int j :: .ref a :: st))) := by
  subst hp hv
  obtain ⟨cl, A, S, H⟩ := A
  exact own_st (fun t ht => X.caload hx (j := j) (by rw [eT]; exact A.1) (State.isArrayOf_alike hZ.alike A.2.1) A.2.2 (own_nin S hj) (H _ hj.2) (g := mkF m pc Ls (.int j :: .ref a :: st)) rfl rfl hd t ht) r
theorem own_caloadE (X : Stand p l e R s m args below meth c T locs cells slots) (hx : p.tables.exec = Jvm.exec) (hZ : Z.Warmed39 s.vm) (eT : T.heap = h) (A : own_A Z h a .char n f) {j : Int32} (hj : ¬ j < 0 ∧ j.toNatClampNeg < n) (hd : decode c.code pc = .ok (.caload, 1)) (pc' : Nat) (hp : pc + 1 = pc') (r : ∀ x, f j.toNatClampNeg = x → own_G p e below Q (T.setTop (mkF m pc' Ls (.int x :: st)))) : own_G p e below Q (T.setTop (mkF m pc Ls (.int j :: .ref a :: st))) := own_caload X hx hZ eT A hj rfl hd pc' hp (r _ rfl)
end OwnC

theorem d_cmp4_0 : decode jdk_52_method_21_code 0 = .ok (.iconst 0, 1) := by decide +kernel
theorem d_cmp4_1 : decode jdk_52_method_21_code 1 = .ok (.istore 5, 2) := by decide +kernel
theorem d_cmp4_3 : decode jdk_52_method_21_code 3 = .ok (.iload 5, 2) := by decide +kernel
theorem d_cmp4_5 : decode jdk_52_method_21_code 5 = .ok (.iload 4, 2) := by decide +kernel
theorem d_cmp4_7 : decode jdk_52_method_21_code 7 = .ok (.if_icmp .ge 37, 3) := by decide +kernel
theorem d_cmp4_10 : decode jdk_52_method_21_code 10 = .ok (.aload_n 0, 1) := by decide +kernel
theorem d_cmp4_11 : decode jdk_52_method_21_code 11 = .ok (.iload_n 1, 1) := by decide +kernel
theorem d_cmp4_12 : decode jdk_52_method_21_code 12 = .ok (.caload, 1) := by decide +kernel
theorem d_cmp4_13 : decode jdk_52_method_21_code 13 = .ok (.istore 6, 2) := by decide +kernel
theorem d_cmp4_15 : decode jdk_52_method_21_code 15 = .ok (.iload 6, 2) := by decide +kernel
theorem d_cmp4_17 : decode jdk_52_method_21_code 17 = .ok (.sipush 255, 3) := by decide +kernel
theorem d_cmp4_20 : decode jdk_52_method_21_code 20 = .ok (.if_icmp .le 6, 3) := by decide +kernel
theorem d_cmp4_26 : decode jdk_52_method_21_code 26 = .ok (.aload_n 2, 1) := by decide +kernel
theorem d_cmp4_27 : decode jdk_52_method_21_code 27 = .ok (.iload_n 3, 1) := by decide +kernel
theorem d_cmp4_28 : decode jdk_52_method_21_code 28 = .ok (.iload 6, 2) := by decide +kernel
theorem d_cmp4_30 : decode jdk_52_method_21_code 30 = .ok (.i2b, 1) := by decide +kernel
theorem d_cmp4_31 : decode jdk_52_method_21_code 31 = .ok (.bastore, 1) := by decide +kernel
theorem d_cmp4_32 : decode jdk_52_method_21_code 32 = .ok (.iinc 1 1, 3) := by decide +kernel
theorem d_cmp4_35 : decode jdk_52_method_21_code 35 = .ok (.iinc 3 1, 3) := by decide +kernel
theorem d_cmp4_38 : decode jdk_52_method_21_code 38 = .ok (.iinc 5 1, 3) := by decide +kernel
theorem d_cmp4_41 : decode jdk_52_method_21_code 41 = .ok (.goto (-38), 3) := by decide +kernel
theorem d_cmp4_44 : decode jdk_52_method_21_code 44 = .ok (.iload 4, 2) := by decide +kernel
theorem d_cmp4_46 : decode jdk_52_method_21_code 46 = .ok (.ireturn, 1) := by decide +kernel
theorem own_ef_cmp4 (m : MethodId) (ca bb : Addr) : entryFrame m #[(.ref ca), (.int (0 : Int32)), (.ref bb), (.int (0 : Int32)), (.int (2 : Int32))] 7 = mkF m 0 #[.val (.ref ca), .val (.int (0 : Int32)), .val (.ref bb), .val (.int (0 : Int32)), .val (.int (2 : Int32)), .unset, .unset] [] := by first | (simp [entryFrame, mkF, argsToLocals, Value.category]; done) | rfl
set_option maxRecDepth 65536 in
set_option maxHeartbeats 40000000 in
theorem own_m_cmp4 (l : Launch) (Z : State) (a0 : Array Value) (hw : ∀ d ∈ tables_1, d.before a0 Z = true) (h0 : Heap) (n0 : Nat) {ca bb : Addr} {f g : Nat → Int32} (A : own_A Z h0 ca .char 2 f) (B : own_A Z h0 bb .byte 2 g) (gn_bb : n0 ≤ bb) (hne : ca ≠ bb) (hc : ∀ j, j < 2 → ¬ (255 : Int32) < f j) : own_Met l Z ⟨"java/lang/StringUTF16", "compress", "([CI[BII)I"⟩ jdk_52_method_21_code 7 (some .int) [] ({ frames := 0, cells := 0, slots := 0, locals := 0 } : Room) #[(.ref ca), (.int (0 : Int32)), (.ref bb), (.int (0 : Int32)), (.int (2 : Int32))] h0 n0 (fun v h => v = some (.int 2) ∧ ∃ f', own_A Z h bb .byte 2 f' ∧ Keep h0 h [bb]) := by
  refine own_body (plainFor_of_name own_pn_StringUTF16) ?_
  intro p e s m below meth c T0 X0 hx hby hml hown hnm hZ e0 hret hlk
  have N0 := Fr.nil n0
  have K0 : Keep h0 h0 [bb] := Keep.refl _ _
  refine own_cast (own_ef_cmp4 m ca bb) ?_
  refine own_iconst X0 hx (z := (0 : Int32)) (hb hby d_cmp4_0) rfl 1 rfl ?_
  refine own_istore X0 hx (#[.val (.ref ca), .val (.int (0 : Int32)), .val (.ref bb), .val (.int (0 : Int32)), .val (.int (2 : Int32)), .val (.int (0 : Int32)), .unset]) (hb hby d_cmp4_1) rfl 3 rfl ?_
  refine own_iload X0 hx (hb hby d_cmp4_3) rfl 5 rfl ?_
  refine own_iload X0 hx (hb hby d_cmp4_5) rfl 7 rfl ?_
  refine own_icmpF X0 hx (hb hby d_cmp4_7) (tlt (by decide)).2.1 10 rfl ?_
  refine own_aloadN X0 hx (hb hby d_cmp4_10) rfl rfl 11 rfl ?_
  refine own_iloadN X0 hx (hb hby d_cmp4_11) rfl 12 rfl ?_
  refine own_caloadE X0 hx hZ e0 A ⟨by decide, by decide⟩ (hb hby d_cmp4_12) 13 rfl (fun x1 q1 => ?_)
  have u1 : ¬ (255 : Int32) < x1 := q1 ▸ hc _ (by decide)
  refine own_istore X0 hx (#[.val (.ref ca), .val (.int (0 : Int32)), .val (.ref bb), .val (.int (0 : Int32)), .val (.int (2 : Int32)), .val (.int (0 : Int32)), .val (.int x1)]) (hb hby d_cmp4_13) rfl 15 rfl ?_
  refine own_iload X0 hx (hb hby d_cmp4_15) rfl 17 rfl ?_
  refine own_sipush X0 hx (z := (255 : Int32)) (hb hby d_cmp4_17) rfl 20 rfl ?_
  refine own_icmpT X0 hx (hb hby d_cmp4_20) (flt u1).2.2.2 26 (by decide) (by decide) ?_
  refine own_aloadN X0 hx (hb hby d_cmp4_26) rfl rfl 27 rfl ?_
  refine own_iloadN X0 hx (hb hby d_cmp4_27) rfl 28 rfl ?_
  refine own_iload X0 hx (hb hby d_cmp4_28) rfl 30 rfl ?_
  refine own_i2b X0 hx (hb hby d_cmp4_30) 31 rfl ?_
  refine own_bastore X0 hx hZ e0 B ⟨by decide, by decide⟩ (hb hby d_cmp4_31) N0 gn_bb 32 rfl (fun T2 h2 l2 X2 N2 e2 W2 => ?_)
  have B_2 := B.set W2
  have K0_2 := K0.wr W2 (Or.inl (List.mem_of_getElem? (i := 0) rfl))
  have A_2 := A.other W2 hne
  refine own_iinc X2 hx (z := (1 : Int32)) (#[.val (.ref ca), .val (.int (1 : Int32)), .val (.ref bb), .val (.int (0 : Int32)), .val (.int (2 : Int32)), .val (.int (0 : Int32)), .val (.int x1)]) (hb hby d_cmp4_32) rfl (by decide) rfl 35 rfl ?_
  refine own_iinc X2 hx (z := (1 : Int32)) (#[.val (.ref ca), .val (.int (1 : Int32)), .val (.ref bb), .val (.int (1 : Int32)), .val (.int (2 : Int32)), .val (.int (0 : Int32)), .val (.int x1)]) (hb hby d_cmp4_35) rfl (by decide) rfl 38 rfl ?_
  refine own_iinc X2 hx (z := (1 : Int32)) (#[.val (.ref ca), .val (.int (1 : Int32)), .val (.ref bb), .val (.int (1 : Int32)), .val (.int (2 : Int32)), .val (.int (1 : Int32)), .val (.int x1)]) (hb hby d_cmp4_38) rfl (by decide) rfl 41 rfl ?_
  refine own_goto X2 hx (hb hby d_cmp4_41) 3 (by decide) (by decide) ?_
  refine own_iload X2 hx (hb hby d_cmp4_3) rfl 5 rfl ?_
  refine own_iload X2 hx (hb hby d_cmp4_5) rfl 7 rfl ?_
  refine own_icmpF X2 hx (hb hby d_cmp4_7) (tlt (by decide)).2.1 10 rfl ?_
  refine own_aloadN X2 hx (hb hby d_cmp4_10) rfl rfl 11 rfl ?_
  refine own_iloadN X2 hx (hb hby d_cmp4_11) rfl 12 rfl ?_
  refine own_caloadE X2 hx hZ e2 A_2 ⟨by decide, by decide⟩ (hb hby d_cmp4_12) 13 rfl (fun x3 q3 => ?_)
  have u3 : ¬ (255 : Int32) < x3 := q3 ▸ hc _ (by decide)
  refine own_istore X2 hx (#[.val (.ref ca), .val (.int (1 : Int32)), .val (.ref bb), .val (.int (1 : Int32)), .val (.int (2 : Int32)), .val (.int (1 : Int32)), .val (.int x3)]) (hb hby d_cmp4_13) rfl 15 rfl ?_
  refine own_iload X2 hx (hb hby d_cmp4_15) rfl 17 rfl ?_
  refine own_sipush X2 hx (z := (255 : Int32)) (hb hby d_cmp4_17) rfl 20 rfl ?_
  refine own_icmpT X2 hx (hb hby d_cmp4_20) (flt u3).2.2.2 26 (by decide) (by decide) ?_
  refine own_aloadN X2 hx (hb hby d_cmp4_26) rfl rfl 27 rfl ?_
  refine own_iloadN X2 hx (hb hby d_cmp4_27) rfl 28 rfl ?_
  refine own_iload X2 hx (hb hby d_cmp4_28) rfl 30 rfl ?_
  refine own_i2b X2 hx (hb hby d_cmp4_30) 31 rfl ?_
  refine own_bastore X2 hx hZ e2 B_2 ⟨by decide, by decide⟩ (hb hby d_cmp4_31) N2 gn_bb 32 rfl (fun T4 h4 l4 X4 N4 e4 W4 => ?_)
  have B_4 := B_2.set W4
  have K0_4 := K0_2.wr W4 (Or.inl (List.mem_of_getElem? (i := 0) rfl))
  have A_4 := A_2.other W4 hne
  refine own_iinc X4 hx (z := (2 : Int32)) (#[.val (.ref ca), .val (.int (2 : Int32)), .val (.ref bb), .val (.int (1 : Int32)), .val (.int (2 : Int32)), .val (.int (1 : Int32)), .val (.int x3)]) (hb hby d_cmp4_32) rfl (by decide) rfl 35 rfl ?_
  refine own_iinc X4 hx (z := (2 : Int32)) (#[.val (.ref ca), .val (.int (2 : Int32)), .val (.ref bb), .val (.int (2 : Int32)), .val (.int (2 : Int32)), .val (.int (1 : Int32)), .val (.int x3)]) (hb hby d_cmp4_35) rfl (by decide) rfl 38 rfl ?_
  refine own_iinc X4 hx (z := (2 : Int32)) (#[.val (.ref ca), .val (.int (2 : Int32)), .val (.ref bb), .val (.int (2 : Int32)), .val (.int (2 : Int32)), .val (.int (2 : Int32)), .val (.int x3)]) (hb hby d_cmp4_38) rfl (by decide) rfl 41 rfl ?_
  refine own_goto X4 hx (hb hby d_cmp4_41) 3 (by decide) (by decide) ?_
  refine own_iload X4 hx (hb hby d_cmp4_3) rfl 5 rfl ?_
  refine own_iload X4 hx (hb hby d_cmp4_5) rfl 7 rfl ?_
  refine own_icmpT X4 hx (hb hby d_cmp4_7) (flt (by decide)).2.1 44 (by decide) (by decide) ?_
  refine own_iload X4 hx (hb hby d_cmp4_44) rfl 46 rfl ?_
  exact own_retI X4 hx hret hlk (hb hby d_cmp4_46) (by decide) (by decide) N4 e4 ⟨rfl, _, B_4, K0_4⟩
theorem d_cmp3_0 : decode jdk_52_method_16_code 0 = .ok (.iload_n 2, 1) := by decide +kernel
theorem d_cmp3_1 : decode jdk_52_method_16_code 1 = .ok (.newarray .byte, 2) := by decide +kernel
theorem d_cmp3_3 : decode jdk_52_method_16_code 3 = .ok (.astore_n 3, 1) := by decide +kernel
theorem d_cmp3_4 : decode jdk_52_method_16_code 4 = .ok (.aload_n 0, 1) := by decide +kernel
theorem d_cmp3_5 : decode jdk_52_method_16_code 5 = .ok (.iload_n 1, 1) := by decide +kernel
theorem d_cmp3_6 : decode jdk_52_method_16_code 6 = .ok (.aload_n 3, 1) := by decide +kernel
theorem d_cmp3_7 : decode jdk_52_method_16_code 7 = .ok (.iconst 0, 1) := by decide +kernel
theorem d_cmp3_8 : decode jdk_52_method_16_code 8 = .ok (.iload_n 2, 1) := by decide +kernel
theorem d_cmp3_9 : decode jdk_52_method_16_code 9 = .ok (.invokestatic 115, 3) := by decide +kernel
theorem d_cmp3_12 : decode jdk_52_method_16_code 12 = .ok (.istore 4, 2) := by decide +kernel
theorem d_cmp3_14 : decode jdk_52_method_16_code 14 = .ok (.iload 4, 2) := by decide +kernel
theorem d_cmp3_16 : decode jdk_52_method_16_code 16 = .ok (.iload_n 2, 1) := by decide +kernel
theorem d_cmp3_17 : decode jdk_52_method_16_code 17 = .ok (.if_icmp .eq 40, 3) := by decide +kernel
theorem d_cmp3_57 : decode jdk_52_method_16_code 57 = .ok (.aload_n 3, 1) := by decide +kernel
theorem d_cmp3_58 : decode jdk_52_method_16_code 58 = .ok (.areturn, 1) := by decide +kernel
theorem own_ef_cmp3 (m : MethodId) (ca : Addr) : entryFrame m #[(.ref ca), (.int (0 : Int32)), (.int (2 : Int32))] 6 = mkF m 0 #[.val (.ref ca), .val (.int (0 : Int32)), .val (.int (2 : Int32)), .unset, .unset, .unset] [] := by first | (simp [entryFrame, mkF, argsToLocals, Value.category]; done) | rfl
set_option maxRecDepth 65536 in
set_option maxHeartbeats 40000000 in
theorem own_m_cmp3 (l : Launch) (Z : State) (a0 : Array Value) (hw : ∀ d ∈ tables_1, d.before a0 Z = true) (h0 : Heap) (n0 : Nat) {ca : Addr} {f : Nat → Int32} (A : own_A Z h0 ca .char 2 f) (Z0 : n0 ≤ h0.size) (hc : ∀ j, j < 2 → ¬ (255 : Int32) < f j) : own_Met l Z ⟨"java/lang/StringUTF16", "compress", "([CII)[B"⟩ jdk_52_method_16_code 6 (some (.array .byte)) [] ({ frames := 1, cells := 1, slots := 2, locals := 18 } : Room) #[(.ref ca), (.int (0 : Int32)), (.int (2 : Int32))] h0 n0 (fun v h => ∃ b f, v = some (.ref b) ∧ own_A Z h b .byte 2 f ∧ own_le h0.size b ∧ Keep h0 h []) := by
  refine own_body (plainFor_of_name own_pn_StringUTF16) ?_
  intro p e s m below meth c T0 X0 hx hby hml hown hnm hZ e0 hret hlk
  have N0 := Fr.nil n0
  have K0 : Keep h0 h0 [] := Keep.refl _ _
  refine own_cast (own_ef_cmp3 m ca) ?_
  refine own_iloadN X0 hx (hb hby d_cmp3_0) rfl 1 rfl ?_
  refine own_newP (aty := .byte) X0 hx hZ (own_w22 hw) e0 (hb hby d_cmp3_1) (by decide) 2 (by decide) (by decide) (by decide) (by decide) 3 rfl (fun T1 h1 cA1 bb g1 X1 e1 E1 B1 => ?_)
  have o_ca_bb : ca < bb := Nat.lt_of_lt_of_eq A.lt g1.symm
  have gn_bb : n0 ≤ bb := Nat.le_trans Z0 (Nat.le_of_eq g1.symm)
  have sz_bb : h0.size ≤ bb := Nat.le_trans K0.1 (Nat.le_of_eq g1.symm)
  have Z0_1 := Nat.le_trans Z0 E1.1
  have K0_1 := K0.ext E1
  have A_1 := A.ext E1
  have A_bb_1 : own_A Z h1 bb .byte 2 (fun _ => 0) := own_A.new B1 (by decide) rfl
  refine own_astoreN X1 hx (#[.val (.ref ca), .val (.int (0 : Int32)), .val (.int (2 : Int32)), .val (.ref bb), .unset, .unset]) (hb hby d_cmp3_3) rfl rfl 4 rfl ?_
  refine own_aloadN X1 hx (hb hby d_cmp3_4) rfl rfl 5 rfl ?_
  refine own_iloadN X1 hx (hb hby d_cmp3_5) rfl 6 rfl ?_
  refine own_aloadN X1 hx (hb hby d_cmp3_6) rfl rfl 7 rfl ?_
  refine own_iconst X1 hx (z := (0 : Int32)) (hb hby d_cmp3_7) rfl 8 rfl ?_
  refine own_iloadN X1 hx (hb hby d_cmp3_8) rfl 9 rfl ?_
  refine own_callS X1 hx hZ hown (own_w23 hw) (own_w24 hw) (own_w20 hw) (own_w25 hw) (by decide) 0 (own_m_cmp4 l Z a0 hw _ n0 A_1 A_bb_1 gn_bb (Nat.ne_of_lt o_ca_bb) hc) e1 (by rw [hml]; rfl) [(.ref ca), (.int (0 : Int32)), (.ref bb), (.int (0 : Int32)), (.int (2 : Int32))] [] rfl (lenOf own_pd_12 rfl) rfl (Nat.le_of_eq rfl) (by decide) (by decide) (by decide) (by decide) (hb hby d_cmp3_9) N0 12 rfl (fun v2 T2 l2 X2 N2 hP2 => ?_)
  obtain ⟨rfl, fb2, Ab2, K2'⟩ := hP2
  have Z0_2 := Nat.le_trans Z0_1 K2'.1
  have K0_2 := K0_1.trans K2' (allS (Or.inr sz_bb) all0)
  have A_2 := A_1.keep K2' (ninS (Nat.ne_of_lt o_ca_bb) nin0)
  show own_G p e below _ (T2.setTop (mkF m 12 #[.val (.ref ca), .val (.int (0 : Int32)), .val (.int (2 : Int32)), .val (.ref bb), .unset, .unset] [(.int (2 : Int32))]))
  refine own_istore X2 hx (#[.val (.ref ca), .val (.int (0 : Int32)), .val (.int (2 : Int32)), .val (.ref bb), .val (.int (2 : Int32)), .unset]) (hb hby d_cmp3_12) rfl 14 rfl ?_
  refine own_iload X2 hx (hb hby d_cmp3_14) rfl 16 rfl ?_
  refine own_iloadN X2 hx (hb hby d_cmp3_16) rfl 17 rfl ?_
  refine own_icmpT X2 hx (hb hby d_cmp3_17) (teq (by decide)).1 57 (by decide) (by decide) ?_
  refine own_aloadN X2 hx (hb hby d_cmp3_57) rfl rfl 58 rfl ?_
  exact own_retA X2 hx hret rfl rfl rfl hlk (hb hby d_cmp3_58) (by decide) (by decide) N2 rfl ⟨bb, _, rfl, Ab2, sz_bb, K0_2⟩
theorem d_cfal_0 : decode jdk_52_method_15_code 0 = .ok (.iload_n 1, 1) := by decide +kernel
theorem d_cfal_1 : decode jdk_52_method_15_code 1 = .ok (.aload_n 0, 1) := by decide +kernel
theorem d_cfal_2 : decode jdk_52_method_15_code 2 = .ok (.arraylength, 1) := by decide +kernel
theorem d_cfal_3 : decode jdk_52_method_15_code 3 = .ok (.isub, 1) := by decide +kernel
theorem d_cfal_4 : decode jdk_52_method_15_code 4 = .ok (.bipush 31, 2) := by decide +kernel
theorem d_cfal_6 : decode jdk_52_method_15_code 6 = .ok (.iushr, 1) := by decide +kernel
theorem d_cfal_7 : decode jdk_52_method_15_code 7 = .ok (.i2b, 1) := by decide +kernel
theorem d_cfal_8 : decode jdk_52_method_15_code 8 = .ok (.ireturn, 1) := by decide +kernel
theorem own_ef_cfal (m : MethodId) (sb : Addr) : entryFrame m #[(.ref sb), (.int (2 : Int32))] 2 = mkF m 0 #[.val (.ref sb), .val (.int (2 : Int32))] [] := by first | (simp [entryFrame, mkF, argsToLocals, Value.category]; done) | rfl
set_option maxRecDepth 65536 in
set_option maxHeartbeats 40000000 in
theorem own_m_cfal (l : Launch) (Z : State) (a0 : Array Value) (hw : ∀ d ∈ tables_1, d.before a0 Z = true) (h0 : Heap) (n0 : Nat) {sb : Addr} {f : Nat → Int32} (A : own_A Z h0 sb .byte 2 f) : own_Met l Z ⟨"java/lang/StringUTF16", "coderFromArrayLen", "([BI)B"⟩ jdk_52_method_15_code 2 (some .byte) [] ({ frames := 0, cells := 0, slots := 0, locals := 0 } : Room) #[(.ref sb), (.int (2 : Int32))] h0 n0 (fun v h => v = some (.int 0) ∧ h = h0) := by
  refine own_body (plainFor_of_name own_pn_StringUTF16) ?_
  intro p e s m below meth c T0 X0 hx hby hml hown hnm hZ e0 hret hlk
  have N0 := Fr.nil n0
  refine own_cast (own_ef_cfal m sb) ?_
  refine own_iloadN X0 hx (hb hby d_cfal_0) rfl 1 rfl ?_
  refine own_aloadN X0 hx (hb hby d_cfal_1) rfl rfl 2 rfl ?_
  refine own_arrlen X0 hx hZ e0 A (z := (2 : Int32)) rfl (hb hby d_cfal_2) 3 rfl ?_
  refine own_isubZ X0 hx (z := (0 : Int32)) (by decide) (hb hby d_cfal_3) 4 rfl ?_
  refine own_bipush X0 hx (z := (31 : Int32)) (hb hby d_cfal_4) rfl 6 rfl ?_
  refine own_iushr X0 hx (hb hby d_cfal_6) 7 rfl ?_
  refine own_i2b X0 hx (hb hby d_cfal_7) 8 rfl ?_
  exact own_retN X0 hx hret (Or.inr (Or.inl rfl)) hlk (hb hby d_cfal_8) (by decide) (by decide) N0 e0 ⟨congrArg (fun z => some (Value.int z)) (by decide), rfl⟩
theorem d_sic4_0 : decode jdk_42_method_149_code 0 = .ok (.aload_n 0, 1) := by decide +kernel
theorem d_sic4_1 : decode jdk_42_method_149_code 1 = .ok (.invokespecial 1, 3) := by decide +kernel
theorem d_sic4_4 : decode jdk_42_method_149_code 4 = .ok (.iload_n 3, 1) := by decide +kernel
theorem d_sic4_5 : decode jdk_42_method_149_code 5 = .ok (.ifCond .ne 22, 3) := by decide +kernel
theorem d_sic4_27 : decode jdk_42_method_149_code 27 = .ok (.getstatic 38, 3) := by decide +kernel
theorem d_sic4_30 : decode jdk_42_method_149_code 30 = .ok (.ifCond .eq 28, 3) := by decide +kernel
theorem d_sic4_33 : decode jdk_42_method_149_code 33 = .ok (.aload_n 1, 1) := by decide +kernel
theorem d_sic4_34 : decode jdk_42_method_149_code 34 = .ok (.iload_n 2, 1) := by decide +kernel
theorem d_sic4_35 : decode jdk_42_method_149_code 35 = .ok (.iload_n 3, 1) := by decide +kernel
theorem d_sic4_36 : decode jdk_42_method_149_code 36 = .ok (.invokestatic 177, 3) := by decide +kernel
theorem d_sic4_39 : decode jdk_42_method_149_code 39 = .ok (.astore 5, 2) := by decide +kernel
theorem d_sic4_41 : decode jdk_42_method_149_code 41 = .ok (.aload_n 0, 1) := by decide +kernel
theorem d_sic4_42 : decode jdk_42_method_149_code 42 = .ok (.aload 5, 2) := by decide +kernel
theorem d_sic4_44 : decode jdk_42_method_149_code 44 = .ok (.iload_n 3, 1) := by decide +kernel
theorem d_sic4_45 : decode jdk_42_method_149_code 45 = .ok (.invokestatic 47, 3) := by decide +kernel
theorem d_sic4_48 : decode jdk_42_method_149_code 48 = .ok (.putfield 15, 3) := by decide +kernel
theorem d_sic4_51 : decode jdk_42_method_149_code 51 = .ok (.aload_n 0, 1) := by decide +kernel
theorem d_sic4_52 : decode jdk_42_method_149_code 52 = .ok (.aload 5, 2) := by decide +kernel
theorem d_sic4_54 : decode jdk_42_method_149_code 54 = .ok (.putfield 9, 3) := by decide +kernel
theorem d_sic4_57 : decode jdk_42_method_149_code 57 = .ok (.return_, 1) := by decide +kernel
theorem own_ef_sic4 (m : MethodId) (sa ca : Addr) : entryFrame m #[(.ref sa), (.ref ca), (.int (0 : Int32)), (.int (2 : Int32)), .null] 6 = mkF m 0 #[.val (.ref sa), .val (.ref ca), .val (.int (0 : Int32)), .val (.int (2 : Int32)), .val .null, .unset] [] := by first | (simp [entryFrame, mkF, argsToLocals, Value.category]; done) | rfl
set_option maxRecDepth 65536 in
set_option maxHeartbeats 40000000 in
theorem own_m_sic4 (l : Launch) (Z : State) (a0 : Array Value) (hw : ∀ d ∈ tables_1, d.before a0 Z = true) (h0 : Heap) (n0 : Nat) {ca sa : Addr} {f : Nat → Int32} (A : own_A Z h0 ca .char 2 f) (E0 : Exa Z h0 sa "java/lang/String") (F1 : Fld Z h0 sa "java/lang/String" "value" "[B" .null) (F2 : Fld Z h0 sa "java/lang/String" "coder" "B" (.int 0)) (gn_sa : n0 ≤ sa) (hne : ca ≠ sa) (Z0 : n0 ≤ h0.size) (hc : ∀ j, j < 2 → ¬ (255 : Int32) < f j) {cz : Int32} (hcz : ¬ cz = 0) (SC : Sta Z h0 "java/lang/String" "COMPACT_STRINGS" "Z" (.int cz)) : own_Met l Z ⟨"java/lang/String", "<init>", "([CIILjava/lang/Void;)V"⟩ jdk_42_method_149_code 6 none [] ({ frames := 2, cells := 1, slots := 2, locals := 35 } : Room) #[(.ref sa), (.ref ca), (.int (0 : Int32)), (.int (2 : Int32)), .null] h0 n0 (fun v h => v = none ∧ ∃ sb f, Fld Z h sa "java/lang/String" "coder" "B" (.int 0) ∧ Fld Z h sa "java/lang/String" "value" "[B" (.ref sb) ∧ own_A Z h sb .byte 2 f ∧ own_lt sa sb ∧ Keep h0 h [sa]) := by
  refine own_body (plainFor_of_name own_pn_String) ?_
  intro p e s m below meth c T0 X0 hx hby hml hown hnm hZ e0 hret hlk
  have N0 := Fr.nil n0
  have K0 : Keep h0 h0 [sa] := Keep.refl _ _
  refine own_cast (own_ef_sic4 m sa ca) ?_
  refine own_aloadN X0 hx (hb hby d_sic4_0) rfl rfl 1 rfl ?_
  refine own_initO X0 hx hZ hown (own_w14 hw) (own_w15 hw) (own_w16 hw) e0 (by rw [hml]; rfl) (hb hby d_sic4_1) 0 (by decide) (Nat.le_of_eq rfl) (by decide) 4 rfl (fun T1 X1 e1 => ?_)
  refine own_iloadN X1 hx (hb hby d_sic4_4) rfl 5 rfl ?_
  refine own_ifcT X1 hx (hb hby d_sic4_5) (feq (by decide)).2 27 (by decide) (by decide) ?_
  refine own_getS X1 hx hZ hown (own_w17 hw) e1 SC (hb hby d_sic4_27) 30 rfl (fun T2 X2 e2 => ?_)
  refine own_ifcF X2 hx (hb hby d_sic4_30) (feq hcz).1 33 rfl ?_
  refine own_aloadN X2 hx (hb hby d_sic4_33) rfl rfl 34 rfl ?_
  refine own_iloadN X2 hx (hb hby d_sic4_34) rfl 35 rfl ?_
  refine own_iloadN X2 hx (hb hby d_sic4_35) rfl 36 rfl ?_
  refine own_callS X2 hx hZ hown (own_w18 hw) (own_w19 hw) (own_w20 hw) (own_w21 hw) (by decide) 0 (own_m_cmp3 l Z a0 hw _ n0 A Z0 hc) e2 (by rw [hml]; rfl) [(.ref ca), (.int (0 : Int32)), (.int (2 : Int32))] [] rfl (lenOf own_pd_13 rfl) rfl (Nat.le_of_eq rfl) (by decide) (by decide) (by decide) (by decide) (hb hby d_sic4_36) N0 39 rfl (fun v3 T3 l3 X3 N3 hP3 => ?_)
  obtain ⟨sb, fb3, rfl, Ab3, gb3, K3'⟩ := hP3
  have E0_3 := E0.keep K3'
  have F1_3 := F1.keep K3' nin0
  have F2_3 := F2.keep K3' nin0
  have K0_3 := K0.trans K3' all0
  have Z0_3 := Nat.le_trans Z0 K3'.1
  have A_3 := A.keep K3' nin0
  have o_sa_sb : sa < sb := Nat.lt_of_lt_of_le E0.lt gb3
  show own_G p e below _ (T3.setTop (mkF m 39 #[.val (.ref sa), .val (.ref ca), .val (.int (0 : Int32)), .val (.int (2 : Int32)), .val .null, .unset] [(.ref sb)]))
  refine own_astore X3 hx (#[.val (.ref sa), .val (.ref ca), .val (.int (0 : Int32)), .val (.int (2 : Int32)), .val .null, .val (.ref sb)]) (hb hby d_sic4_39) rfl rfl 41 rfl ?_
  refine own_aloadN X3 hx (hb hby d_sic4_41) rfl rfl 42 rfl ?_
  refine own_aload X3 hx (hb hby d_sic4_42) rfl rfl 44 rfl ?_
  refine own_iloadN X3 hx (hb hby d_sic4_44) rfl 45 rfl ?_
  refine own_callS X3 hx hZ hown (own_w26 hw) (own_w27 hw) (own_w20 hw) (own_w28 hw) (by decide) 1 (own_m_cfal l Z a0 hw _ n0 Ab3) rfl (by rw [hml]; rfl) [(.ref sb), (.int (2 : Int32))] [(.ref sa)] rfl (lenOf own_pd_14 rfl) rfl (Nat.le_of_eq rfl) (by decide) (by decide) (by decide) (by decide) (hb hby d_sic4_45) N3 48 rfl (fun v4 T4 l4 X4 N4 hP4 => ?_)
  obtain ⟨rfl, e4⟩ := hP4
  show own_G p e below _ (T4.setTop (mkF m 48 #[.val (.ref sa), .val (.ref ca), .val (.int (0 : Int32)), .val (.int (2 : Int32)), .val .null, .val (.ref sb)] [(.int (0 : Int32)), (.ref sa)]))
  refine own_putFN X4 hx hZ hown (own_w29 hw) e4 F2_3 E0_3 (Or.inr ⟨(own_w30 hw), rfl, hnm⟩) (own_w5 hw) (ty := .byte) (v' := (.int (0 : Int32))) (by decide) rfl rfl (hb hby d_sic4_48) N4 gn_sa 51 rfl (fun T5 h5 l5 X5 N5 e5 W5 => ?_)
  have E0_5 := E0_3.wr W5
  have F1_5 := F1_3.other W5 (Or.inr (slot_ne (Or.inr (own_w32 hw)) (Or.inr (own_w30 hw)) (by decide) (t := (.array .byte)) (t' := .byte) (by decide) (by decide)))
  have F2_5 := F2_3.same W5
  have K0_5 := K0_3.wr W5 (Or.inl (List.mem_of_getElem? (i := 0) rfl))
  have Z0_5 := Nat.le_trans Z0_3 (Nat.le_of_eq W5.size.symm)
  have A_5 := A_3.other W5 hne
  have Ab3_5 := Ab3.other W5 (Nat.ne_of_gt o_sa_sb)
  refine own_aloadN X5 hx (hb hby d_sic4_51) rfl rfl 52 rfl ?_
  refine own_aload X5 hx (hb hby d_sic4_52) rfl rfl 54 rfl ?_
  refine own_putF X5 hx hZ hown (own_w31 hw) e5 F1_5 E0_5 (Or.inr ⟨(own_w32 hw), rfl, hnm⟩) (own_w5 hw) (ty := (.array .byte)) (by decide) rfl rfl (hb hby d_sic4_54) N5 gn_sa 57 rfl (fun T6 h6 l6 X6 N6 e6 W6 => ?_)
  have E0_6 := E0_5.wr W6
  have F1_6 := F1_5.same W6
  have F2_6 := F2_5.other W6 (Or.inr (slot_ne (Or.inr (own_w30 hw)) (Or.inr (own_w32 hw)) (by decide) (t := .byte) (t' := (.array .byte)) (by decide) (by decide)))
  have K0_6 := K0_5.wr W6 (Or.inl (List.mem_of_getElem? (i := 0) rfl))
  have Z0_6 := Nat.le_trans Z0_5 (Nat.le_of_eq W6.size.symm)
  have A_6 := A_5.other W6 hne
  have Ab3_6 := Ab3_5.other W6 (Nat.ne_of_gt o_sa_sb)
  exact own_retV X6 hx hret hlk (hb hby d_sic4_57) (by decide) (by decide) N6 e6 ⟨rfl, sb, _, F2_6, F1_6, Ab3_6, o_sa_sb, K0_6⟩
theorem d_sic1_0 : decode jdk_42_method_3_code 0 = .ok (.aload_n 0, 1) := by decide +kernel
theorem d_sic1_1 : decode jdk_42_method_3_code 1 = .ok (.aload_n 1, 1) := by decide +kernel
theorem d_sic1_2 : decode jdk_42_method_3_code 2 = .ok (.iconst 0, 1) := by decide +kernel
theorem d_sic1_3 : decode jdk_42_method_3_code 3 = .ok (.aload_n 1, 1) := by decide +kernel
theorem d_sic1_4 : decode jdk_42_method_3_code 4 = .ok (.arraylength, 1) := by decide +kernel
theorem d_sic1_5 : decode jdk_42_method_3_code 5 = .ok (.aconst_null, 1) := by decide +kernel
theorem d_sic1_6 : decode jdk_42_method_3_code 6 = .ok (.invokespecial 27, 3) := by decide +kernel
theorem d_sic1_9 : decode jdk_42_method_3_code 9 = .ok (.return_, 1) := by decide +kernel
theorem own_ef_sic1 (m : MethodId) (sa ca : Addr) : entryFrame m #[(.ref sa), (.ref ca)] 2 = mkF m 0 #[.val (.ref sa), .val (.ref ca)] [] := by first | (simp [entryFrame, mkF, argsToLocals, Value.category]; done) | rfl
set_option maxRecDepth 65536 in
set_option maxHeartbeats 40000000 in
theorem own_m_sic1 (l : Launch) (Z : State) (a0 : Array Value) (hw : ∀ d ∈ tables_1, d.before a0 Z = true) (h0 : Heap) (n0 : Nat) {ca sa : Addr} {f : Nat → Int32} (A : own_A Z h0 ca .char 2 f) (E0 : Exa Z h0 sa "java/lang/String") (F1 : Fld Z h0 sa "java/lang/String" "value" "[B" .null) (F2 : Fld Z h0 sa "java/lang/String" "coder" "B" (.int 0)) (gn_sa : n0 ≤ sa) (hne : ca ≠ sa) (Z0 : n0 ≤ h0.size) (hc : ∀ j, j < 2 → ¬ (255 : Int32) < f j) {cz : Int32} (hcz : ¬ cz = 0) (SC : Sta Z h0 "java/lang/String" "COMPACT_STRINGS" "Z" (.int cz)) : own_Met l Z ⟨"java/lang/String", "<init>", "([C)V"⟩ jdk_42_method_3_code 2 none [] ({ frames := 3, cells := 1, slots := 2, locals := 52 } : Room) #[(.ref sa), (.ref ca)] h0 n0 (fun v h => v = none ∧ ∃ sb f, Fld Z h sa "java/lang/String" "coder" "B" (.int 0) ∧ Fld Z h sa "java/lang/String" "value" "[B" (.ref sb) ∧ own_A Z h sb .byte 2 f ∧ own_lt sa sb ∧ Keep h0 h [sa]) := by
  refine own_body (plainFor_of_name own_pn_String) ?_
  intro p e s m below meth c T0 X0 hx hby hml hown hnm hZ e0 hret hlk
  have N0 := Fr.nil n0
  have K0 : Keep h0 h0 [sa] := Keep.refl _ _
  refine own_cast (own_ef_sic1 m sa ca) ?_
  refine own_aloadN X0 hx (hb hby d_sic1_0) rfl rfl 1 rfl ?_
  refine own_aloadN X0 hx (hb hby d_sic1_1) rfl rfl 2 rfl ?_
  refine own_iconst X0 hx (z := (0 : Int32)) (hb hby d_sic1_2) rfl 3 rfl ?_
  refine own_aloadN X0 hx (hb hby d_sic1_3) rfl rfl 4 rfl ?_
  refine own_arrlen X0 hx hZ e0 A (z := (2 : Int32)) rfl (hb hby d_sic1_4) 5 rfl ?_
  refine own_aconstNull X0 hx (hb hby d_sic1_5) 6 rfl ?_
  refine own_callI X0 hx hZ hown rfl (own_w10 hw) (own_w11 hw) (own_w6 hw) (own_w13 hw) (by decide) 0 (own_m_sic4 l Z a0 hw _ n0 A E0 F1 F2 gn_sa hne Z0 hc hcz SC) e0 (by rw [hml]; rfl) sa [(.ref ca), (.int (0 : Int32)), (.int (2 : Int32)), .null] [] rfl (lenOf own_pd_15 rfl) rfl (Nat.le_of_eq rfl) (by decide) (by decide) (by decide) (by decide) (hb hby d_sic1_6) N0 9 rfl (fun v1 T1 l1 X1 N1 hP1 => ?_)
  obtain ⟨rfl, sb, fs1, C_sa, V_sa, A_sb, o_sa_sb, K1'⟩ := hP1
  have E0_1 := E0.keep K1'
  have K0_1 := K0.trans K1' (allS (Or.inl (List.mem_of_getElem? (i := 0) rfl)) all0)
  have Z0_1 := Nat.le_trans Z0 K1'.1
  have A_1 := A.keep K1' (ninS hne nin0)
  show own_G p e below _ (T1.setTop (mkF m 9 #[.val (.ref sa), .val (.ref ca)] []))
  exact own_retV X1 hx hret hlk (hb hby d_sic1_9) (by decide) (by decide) N1 rfl ⟨rfl, sb, _, C_sa, V_sa, A_sb, o_sa_sb, K0_1⟩
theorem own_c255 (y : Int32) : ¬ (255 : Int32) < nar .char ((y &&& (255 : Int32)).toUInt32.toUInt16.toUInt32.toInt32) := by
  show ¬ (255 : Int32) < ((y &&& (255 : Int32)).toUInt32.toUInt16.toUInt32.toInt32).toUInt32.toUInt16.toUInt32.toInt32
  intro h
  have h1 : (y &&& (255 : Int32)).toUInt32.toNat ≤ 255 := by
    have : (y &&& (255 : Int32)).toUInt32 = y.toUInt32 &&& 255 := rfl
    rw [this, UInt32.toNat_and]; exact Nat.and_le_right
  generalize (y &&& (255 : Int32)).toUInt32 = u at h h1
  have h2 : u.toUInt16.toUInt32 = u := by apply UInt32.toNat_inj.mp; simp; omega
  have h3 : u.toInt32.toInt = (u.toNat : Int) := BitVec.toInt_eq_toNat_of_lt (show 2 * u.toNat < 2 ^ 32 by omega)
  have h4 : u.toInt32.toUInt32 = u := rfl
  rw [h2, h4, h2, Int32.lt_iff_toInt_lt, h3, show (255 : Int32).toInt = 255 from rfl] at h
  omega
theorem own_hc (y z : Int32) : ∀ j, j < 2 → ¬ (255 : Int32) < (fun j => if (1 : Int32).toNatClampNeg = j then nar .char ((z &&& (255 : Int32)).toUInt32.toUInt16.toUInt32.toInt32) else (fun j => if (0 : Int32).toNatClampNeg = j then nar .char ((y &&& (255 : Int32)).toUInt32.toUInt16.toUInt32.toInt32) else (fun _ => (0 : Int32)) j) j) j := by
  intro j hj
  dsimp only
  split
  · exact own_c255 z
  · split
    · exact own_c255 y
    · decide
theorem own_exp_T {a b c : Int32} (h : a = b) : own_f_exp a b c = c := if_pos h
theorem own_exp_F {a b c : Int32} (h : ¬ a = b) : own_f_exp a b c = -1 := if_neg h
theorem own_res_m1 (b q : Int32) {n c n' c' : Int32} (h : if b = 0 then n' = -1 else n = -1) : own_f_res b q n c n' c' = -1 := by
  unfold own_f_res
  split at h <;> split <;> simp_all
theorem own_res_n1 (q n n' c' : Int32) : own_f_res 1 q n q n' c' = n := by simp [own_f_res]
theorem own_res_n0 (q n c n' : Int32) : own_f_res 0 q n c n' q = n' := by simp [own_f_res]
theorem own_res_e1 (q n c n' c' : Int32) : own_f_res 1 q n c n' c' = own_f_exp q c n := by
  simp [own_f_res, own_f_exp, eq_comm]
theorem own_res_e0 (q n c n' c' : Int32) : own_f_res 0 q n c n' c' = own_f_exp q c' n' := by
  simp [own_f_res, own_f_exp, eq_comm]
theorem own_unset {p : Program} {l : Launch} {e : Env} {R : Room} {s : State} {m : MethodId} {args : Array Value} {below : List Frame} {meth : Method} {c : Code} {T : State} {locs : List Loc} {cells slots : Nat} (X : Stand p l e R (s.setVm s.vm) m args below meth c T locs cells slots) : Stand p l e R s m args below meth c T locs cells slots := X
theorem own_not_e {c : Cond} {args : Array Value} {first s : State} {o : Option Outcome} {idx : List Nat} (h : (Cond.not c).value args first o s idx = some true) : c.value args first o s idx = some false := by
  simp only [Cond.value] at h
  cases hc : c.value args first o s idx with
  | none => simp [hc] at h
  | some b => cases b <;> simp_all
theorem own_wS (Z : State) (a0 : Array Value) (hw : ∀ d ∈ tables_1, d.before a0 Z = true) : ∀ a ∈ Bundle.stringAtoms, a.before a0 Z = true := by
  intro d hd
  simp only [Bundle.stringAtoms, Bundle.sN, List.mem_cons, List.not_mem_nil, or_false] at hd
  rcases hd with rfl | rfl | rfl | rfl | rfl | rfl | rfl
  · exact (own_w6 hw)
  · exact (own_w5 hw)
  · exact (own_w22 hw)
  · exact (own_w32 hw)
  · exact (own_w30 hw)
  · exact (own_w99 hw)
  · exact (own_w100 hw)

theorem own_ef_law (m : MethodId) (p1 : Int32) (p2 : Int32) (p3 : Int32) (p4 : Int32) (p5 : Int32) (p6 : Int32) : entryFrame m #[(.int p1), (.int p2), (.int p3), (.int p4), (.int p5), (.int p6)] maxLocals = mkF m 0 #[.val (.int p1), .val (.int p2), .val (.int p3), .val (.int p4), .val (.int p5), .val (.int p6), .unset, .unset, .unset, .unset, .unset, .unset, .unset, .unset, .unset, .unset, .unset] [] := by first | (simp [entryFrame, mkF, argsToLocals, Value.category, maxLocals]; done) | rfl
set_option maxRecDepth 65536 in
set_option maxHeartbeats 40000000 in
theorem own_m_law (l : Launch) (Z : State) (a0 : Array Value) (hw : ∀ d ∈ tables_1, d.before a0 Z = true) (h0 : Heap) (n0 : Nat) (Z0 : n0 ≤ h0.size) (O0 : Old Z n0 h0) (wS : ∀ a ∈ Bundle.stringAtoms, a.before a0 Z = true) (hH33 : Jvm.Lit.constHeld Z "com/example/xqwry/xqwry/MarkupName" 33) (hH44 : Jvm.Lit.constHeld Z "com/example/xqwry/xqwry/MarkupName" 44) (hcw : Jvm.Lit.compactW.before a0 Z = true) {cz : Int32} (hcz : ¬ cz = 0) (SC0 : Sta Z Z.heap "java/lang/String" "COMPACT_STRINGS" "Z" (.int cz)) (p1 p2 p3 p4 p5 p6 : Int32) : own_MetS l Z x code maxLocals ret tables_1 room_1 #[.int p1, .int p2, .int p3, .int p4, .int p5, .int p6] h0 n0 (fun v h => v = some (.int 1)) := by
  refine own_bodyS (plainFor_of_name own_pn_MarkupNameResolvedPinLaw) ?_
  intro p e s m below meth c T0 X0 hx hby hml hown hnm hZ hZH hS I e0 hret hlk
  have N0 := Fr.nil n0
  replace X0 := own_unset X0
  refine own_cast (own_ef_law m p1 p2 p3 p4 p5 p6) ?_
  refine own_iloadN X0 hx (hb hby at_0) rfl 1 rfl ?_
  refine own_iconst X0 hx (z := (1 : Int32)) (hb hby at_1) rfl 2 rfl ?_
  refine own_iand X0 hx (hb hby at_2) 3 rfl ?_
  by_cases hc1 : (p1 &&& (1 : Int32)) = (0 : Int32)
  · refine own_ifcT X0 hx (hb hby at_3) (teq hc1).1 10 (by decide) (by decide) ?_
    refine own_iconst X0 hx (z := (0 : Int32)) (hb hby at_10) rfl 11 rfl ?_
    refine own_istore X0 hx (#[.val (.int p1), .val (.int p2), .val (.int p3), .val (.int p4), .val (.int p5), .val (.int p6), .val (.int (0 : Int32)), .unset, .unset, .unset, .unset, .unset, .unset, .unset, .unset, .unset, .unset]) (hb hby at_11) rfl 13 rfl ?_
    refine own_iloadN X0 hx (hb hby at_13) rfl 14 rfl ?_
    refine own_iconst X0 hx (z := (2 : Int32)) (hb hby at_14) rfl 15 rfl ?_
    refine own_iand X0 hx (hb hby at_15) 16 rfl ?_
    by_cases hc2 : (p1 &&& (2 : Int32)) = (0 : Int32)
    · refine own_ifcT X0 hx (hb hby at_16) (teq hc2).1 23 (by decide) (by decide) ?_
      refine own_iconst X0 hx (z := (0 : Int32)) (hb hby at_23) rfl 24 rfl ?_
      refine own_istore X0 hx (#[.val (.int p1), .val (.int p2), .val (.int p3), .val (.int p4), .val (.int p5), .val (.int p6), .val (.int (0 : Int32)), .val (.int (0 : Int32)), .unset, .unset, .unset, .unset, .unset, .unset, .unset, .unset, .unset]) (hb hby at_24) rfl 26 rfl ?_
      refine own_iloadN X0 hx (hb hby at_26) rfl 27 rfl ?_
      refine own_iconst X0 hx (z := (4 : Int32)) (hb hby at_27) rfl 28 rfl ?_
      refine own_iand X0 hx (hb hby at_28) 29 rfl ?_
      by_cases hc3 : (p1 &&& (4 : Int32)) = (0 : Int32)
      · refine own_ifcT X0 hx (hb hby at_29) (teq hc3).1 36 (by decide) (by decide) ?_
        refine own_iconst X0 hx (z := (0 : Int32)) (hb hby at_36) rfl 37 rfl ?_
        refine own_istore X0 hx (#[.val (.int p1), .val (.int p2), .val (.int p3), .val (.int p4), .val (.int p5), .val (.int p6), .val (.int (0 : Int32)), .val (.int (0 : Int32)), .val (.int (0 : Int32)), .unset, .unset, .unset, .unset, .unset, .unset, .unset, .unset]) (hb hby at_37) rfl 39 rfl ?_
        refine own_iloadN X0 hx (hb hby at_39) rfl 40 rfl ?_
        refine own_bipush X0 hx (z := (8 : Int32)) (hb hby at_40) rfl 42 rfl ?_
        refine own_iand X0 hx (hb hby at_42) 43 rfl ?_
        by_cases hc4 : (p1 &&& (8 : Int32)) = (0 : Int32)
        · refine own_ifcT X0 hx (hb hby at_43) (teq hc4).1 50 (by decide) (by decide) ?_
          refine own_iconst X0 hx (z := (0 : Int32)) (hb hby at_50) rfl 51 rfl ?_
          refine own_istore X0 hx (#[.val (.int p1), .val (.int p2), .val (.int p3), .val (.int p4), .val (.int p5), .val (.int p6), .val (.int (0 : Int32)), .val (.int (0 : Int32)), .val (.int (0 : Int32)), .val (.int (0 : Int32)), .unset, .unset, .unset, .unset, .unset, .unset, .unset]) (hb hby at_51) rfl 53 rfl ?_
          refine own_iconst X0 hx (z := (2 : Int32)) (hb hby at_53) rfl 54 rfl ?_
          refine own_newP (aty := .char) X0 hx hZ (own_w0 hw) e0 (hb hby at_54) (by decide) 2 (by decide) (by decide) (by decide) (by decide) 56 rfl (fun T5 h5 cA5 ca g5 X5 e5 E5 B5 => ?_)
          have gn_ca : n0 ≤ ca := Nat.le_trans Z0 (Nat.le_of_eq g5.symm)
          have Z0_5 := Nat.le_trans Z0 E5.1
          have O0_5 := O0.ext E5
          have A_ca_5 : own_A Z h5 ca .char 2 (fun _ => 0) := own_A.new B5 (by decide) rfl
          refine own_dup X5 hx (hb hby at_56) rfl 57 rfl ?_
          refine own_iconst X5 hx (z := (0 : Int32)) (hb hby at_57) rfl 58 rfl ?_
          refine own_iloadN X5 hx (hb hby at_58) rfl 59 rfl ?_
          refine own_bipush X5 hx (z := (8 : Int32)) (hb hby at_59) rfl 61 rfl ?_
          refine own_iushr X5 hx (hb hby at_61) 62 rfl ?_
          refine own_sipush X5 hx (z := (255 : Int32)) (hb hby at_62) rfl 65 rfl ?_
          refine own_iand X5 hx (hb hby at_65) 66 rfl ?_
          refine own_i2c X5 hx (hb hby at_66) 67 rfl ?_
          refine own_castore X5 hx hZ e5 A_ca_5 ⟨by decide, by decide⟩ (hb hby at_67) N0 gn_ca 68 rfl (fun T6 h6 l6 X6 N6 e6 W6 => ?_)
          have Z0_6 := Nat.le_trans Z0_5 (Nat.le_of_eq W6.size.symm)
          have O0_6 := O0_5.wr W6 gn_ca
          have A_ca_6 := A_ca_5.set W6
          refine own_dup X6 hx (hb hby at_68) rfl 69 rfl ?_
          refine own_iconst X6 hx (z := (1 : Int32)) (hb hby at_69) rfl 70 rfl ?_
          refine own_iloadN X6 hx (hb hby at_70) rfl 71 rfl ?_
          refine own_bipush X6 hx (z := (16 : Int32)) (hb hby at_71) rfl 73 rfl ?_
          refine own_iushr X6 hx (hb hby at_73) 74 rfl ?_
          refine own_sipush X6 hx (z := (255 : Int32)) (hb hby at_74) rfl 77 rfl ?_
          refine own_iand X6 hx (hb hby at_77) 78 rfl ?_
          refine own_i2c X6 hx (hb hby at_78) 79 rfl ?_
          refine own_castore X6 hx hZ e6 A_ca_6 ⟨by decide, by decide⟩ (hb hby at_79) N6 gn_ca 80 rfl (fun T7 h7 l7 X7 N7 e7 W7 => ?_)
          have Z0_7 := Nat.le_trans Z0_6 (Nat.le_of_eq W7.size.symm)
          have O0_7 := O0_6.wr W7 gn_ca
          have A_ca_7 := A_ca_6.set W7
          refine own_astore X7 hx (#[.val (.int p1), .val (.int p2), .val (.int p3), .val (.int p4), .val (.int p5), .val (.int p6), .val (.int (0 : Int32)), .val (.int (0 : Int32)), .val (.int (0 : Int32)), .val (.int (0 : Int32)), .val (.ref ca), .unset, .unset, .unset, .unset, .unset, .unset]) (hb hby at_80) rfl rfl 82 rfl ?_
          refine own_newO X7 hx hZ hown (own_w1 hw) (own_w2 hw) (own_w3 hw) e7 (hb hby at_82) (by decide) (by decide) 85 rfl (fun T8 h8 mm g8 X8 e8 E8 B8 D8 => ?_)
          have o_ca_mm : ca < mm := Nat.lt_of_lt_of_eq A_ca_7.lt g8.symm
          have gn_mm : n0 ≤ mm := Nat.le_trans Z0_7 (Nat.le_of_eq g8.symm)
          have Z0_8 := Nat.le_trans Z0_7 E8.1
          have O0_8 := O0_7.ext E8
          have A_ca_8 := A_ca_7.ext E8
          have F_asElement_mm_8 : Fld Z h8 mm "com/example/xqwry/xqwry/MarkupName" "asElement" "Lcom/example/xqwry/xqwry/MarkupName$Resolution;" .null := D8 (Or.inr (own_w49 hw)) (ty := (.object "com/example/xqwry/xqwry/MarkupName$Resolution")) (by decide)
          have F_asAttribute_mm_8 : Fld Z h8 mm "com/example/xqwry/xqwry/MarkupName" "asAttribute" "Lcom/example/xqwry/xqwry/MarkupName$Resolution;" .null := D8 (Or.inr (own_w51 hw)) (ty := (.object "com/example/xqwry/xqwry/MarkupName$Resolution")) (by decide)
          have F_lexicalName_mm_8 : Fld Z h8 mm "com/example/xqwry/xqwry/MarkupName" "lexicalName" "Ljava/lang/String;" .null := D8 (Or.inr (own_w53 hw)) (ty := (.object "java/lang/String")) (by decide)
          have F_prefixed_mm_8 : Fld Z h8 mm "com/example/xqwry/xqwry/MarkupName" "prefixed" "Z" (.int (0 : Int32)) := D8 (Or.inr (own_w97 hw)) (ty := .boolean) (by decide)
          have F_declaredPrefix_mm_8 : Fld Z h8 mm "com/example/xqwry/xqwry/MarkupName" "declaredPrefix" "Ljava/lang/String;" .null := D8 (Or.inr (own_w122 hw)) (ty := (.object "java/lang/String")) (by decide)
          refine own_dup X8 hx (hb hby at_85) rfl 86 rfl ?_
          refine own_newO X8 hx hZ hown (own_w4 hw) (own_w5 hw) (own_w6 hw) e8 (hb hby at_86) (by decide) (by decide) 89 rfl (fun T9 h9 sa g9 X9 e9 E9 B9 D9 => ?_)
          have o_ca_sa : ca < sa := Nat.lt_of_lt_of_eq A_ca_8.lt g9.symm
          have o_mm_sa : mm < sa := Nat.lt_of_lt_of_eq B8.lt g9.symm
          have gn_sa : n0 ≤ sa := Nat.le_trans Z0_8 (Nat.le_of_eq g9.symm)
          have Z0_9 := Nat.le_trans Z0_8 E9.1
          have O0_9 := O0_8.ext E9
          have A_ca_9 := A_ca_8.ext E9
          have B8_9 := B8.ext E9
          have F_asElement_mm_9 := F_asElement_mm_8.ext E9
          have F_asAttribute_mm_9 := F_asAttribute_mm_8.ext E9
          have F_lexicalName_mm_9 := F_lexicalName_mm_8.ext E9
          have F_prefixed_mm_9 := F_prefixed_mm_8.ext E9
          have F_declaredPrefix_mm_9 := F_declaredPrefix_mm_8.ext E9
          have F_coder_sa_9 : Fld Z h9 sa "java/lang/String" "coder" "B" (.int (0 : Int32)) := D9 (Or.inr (own_w30 hw)) (ty := .byte) (by decide)
          have F_value_sa_9 : Fld Z h9 sa "java/lang/String" "value" "[B" .null := D9 (Or.inr (own_w32 hw)) (ty := (.array .byte)) (by decide)
          refine own_dup X9 hx (hb hby at_89) rfl 90 rfl ?_
          refine own_aload X9 hx (hb hby at_90) rfl rfl 92 rfl ?_
          refine own_callI X9 hx hZ hown rfl (own_w7 hw) (own_w8 hw) (own_w6 hw) (own_w9 hw) (by decide) 3 (own_m_sic1 l Z a0 hw _ n0 A_ca_9 B9 F_value_sa_9 F_coder_sa_9 gn_sa (Nat.ne_of_lt o_ca_sa) Z0_9 (own_hc _ _) hcz (SC0.ext O0_9.2)) e9 (by rw [hml]; rfl) sa [(.ref ca)] [(.ref sa), (.ref mm), (.ref mm)] rfl (lenOf own_pd_16 rfl) rfl (Nat.le_of_eq rfl) (by decide) (by decide) (by decide) (by decide) (hb hby at_92) N7 95 rfl (fun v10 T10 l10 X10 N10 hP10 => ?_)
          obtain ⟨rfl, sb, fs10, C_sa, V_sa, A_sb, o_sa_sb, K10'⟩ := hP10
          have Z0_10 := Nat.le_trans Z0_9 K10'.1
          have O0_10 := O0_9.keep K10' (allS gn_sa all0)
          have A_ca_10 := A_ca_9.keep K10' (ninS (Nat.ne_of_lt o_ca_sa) nin0)
          have B8_10 := B8_9.keep K10'
          have F_asElement_mm_10 := F_asElement_mm_9.keep K10' (ninS (Nat.ne_of_lt o_mm_sa) nin0)
          have F_asAttribute_mm_10 := F_asAttribute_mm_9.keep K10' (ninS (Nat.ne_of_lt o_mm_sa) nin0)
          have F_lexicalName_mm_10 := F_lexicalName_mm_9.keep K10' (ninS (Nat.ne_of_lt o_mm_sa) nin0)
          have F_prefixed_mm_10 := F_prefixed_mm_9.keep K10' (ninS (Nat.ne_of_lt o_mm_sa) nin0)
          have F_declaredPrefix_mm_10 := F_declaredPrefix_mm_9.keep K10' (ninS (Nat.ne_of_lt o_mm_sa) nin0)
          have B9_10 := B9.keep K10'
          have o_mm_sb : mm < sb := Nat.lt_trans o_mm_sa o_sa_sb
          show own_G p e below _ (T10.setTop (mkF m 95 #[.val (.int p1), .val (.int p2), .val (.int p3), .val (.int p4), .val (.int p5), .val (.int p6), .val (.int (0 : Int32)), .val (.int (0 : Int32)), .val (.int (0 : Int32)), .val (.int (0 : Int32)), .val (.ref ca), .unset, .unset, .unset, .unset, .unset, .unset] [(.ref sa), (.ref mm), (.ref mm)]))
          refine own_callIS X10 hx hZH hown rfl (own_w33 hw) (own_w34 hw) (own_w3 hw) (own_w35 hw) (by decide) 1 (own_m_minit l Z a0 hw _ n0 B8_10 F_lexicalName_mm_10 F_prefixed_mm_10 F_declaredPrefix_mm_10 F_asElement_mm_10 F_asAttribute_mm_10 B9_10 C_sa V_sa A_sb gn_mm gn_sa o_mm_sa o_sa_sb o_mm_sb Z0_10 O0_10 wS hH33 hH44 hcw hcz SC0) rfl (by rw [hml]; rfl) mm [.ref sa] [(.ref mm)] rfl (lenOf own_pd_17 rfl) rfl (Nat.le_of_eq rfl) (by decide) (by decide) (by decide) (by decide) (hb hby at_95) N10 98 rfl (fun v11 T11 l11 X11 N11 hS hZ hown hP11 => ?_)
          obtain ⟨rfl, re, ra, FE, FA, Ee, Ea, F1, F2, F3, F4, o_mm_re, o_re_ra, K11'⟩ := hP11
          have E_mm := B8_10.keep K11'
          have o_mm_ra : mm < ra := Nat.lt_trans o_mm_re o_re_ra
          have gn_re : n0 ≤ re := Nat.le_trans gn_mm (Nat.le_of_lt o_mm_re)
          have gn_ra : n0 ≤ ra := Nat.le_trans gn_mm (Nat.le_of_lt o_mm_ra)
          have Hk := Nat.le_refl T11.heap.size
          show own_G p e below _ (T11.setTop (mkF m 98 #[.val (.int p1), .val (.int p2), .val (.int p3), .val (.int p4), .val (.int p5), .val (.int p6), .val (.int (0 : Int32)), .val (.int (0 : Int32)), .val (.int (0 : Int32)), .val (.int (0 : Int32)), .val (.ref ca), .unset, .unset, .unset, .unset, .unset, .unset] [(.ref mm)]))
          refine own_astore X11 hx (#[.val (.int p1), .val (.int p2), .val (.int p3), .val (.int p4), .val (.int p5), .val (.int p6), .val (.int (0 : Int32)), .val (.int (0 : Int32)), .val (.int (0 : Int32)), .val (.int (0 : Int32)), .val (.ref ca), .val (.ref mm), .unset, .unset, .unset, .unset, .unset]) (hb hby at_98) rfl rfl 100 rfl ?_
          refine own_iload X11 hx (hb hby at_100) rfl 102 rfl ?_
          refine own_ifcT X11 hx (hb hby at_102) (teq (by decide)).1 113 (by decide) (by decide) ?_
          refine own_iload X11 hx (hb hby at_113) rfl 115 rfl ?_
          refine own_ifcT X11 hx (hb hby at_115) (teq (by decide)).1 127 (by decide) (by decide) ?_
          refine own_iload X11 hx (hb hby at_127) rfl 129 rfl ?_
          refine own_ifcT X11 hx (hb hby at_129) (teq (by decide)).1 159 (by decide) (by decide) ?_
          refine own_iload X11 hx (hb hby at_159) rfl 161 rfl ?_
          refine own_ifcT X11 hx (hb hby at_161) (teq (by decide)).1 168 (by decide) (by decide) ?_
          refine own_iconst X11 hx (z := (-1 : Int32)) (hb hby at_168) rfl 169 rfl ?_
          refine own_istore X11 hx (#[.val (.int p1), .val (.int p2), .val (.int p3), .val (.int p4), .val (.int p5), .val (.int p6), .val (.int (0 : Int32)), .val (.int (0 : Int32)), .val (.int (0 : Int32)), .val (.int (0 : Int32)), .val (.ref ca), .val (.ref mm), .val (.int (-1 : Int32)), .unset, .unset, .unset, .unset]) (hb hby at_169) rfl 171 rfl ?_
          refine own_iload X11 hx (hb hby at_171) rfl 173 rfl ?_
          refine own_ifcT X11 hx (hb hby at_173) (teq (by decide)).1 181 (by decide) (by decide) ?_
          refine own_iconst X11 hx (z := (-1 : Int32)) (hb hby at_181) rfl 182 rfl ?_
          refine own_istore X11 hx (#[.val (.int p1), .val (.int p2), .val (.int p3), .val (.int p4), .val (.int p5), .val (.int p6), .val (.int (0 : Int32)), .val (.int (0 : Int32)), .val (.int (0 : Int32)), .val (.int (0 : Int32)), .val (.ref ca), .val (.ref mm), .val (.int (-1 : Int32)), .val (.int (-1 : Int32)), .unset, .unset, .unset]) (hb hby at_182) rfl 184 rfl ?_
          refine own_iload X11 hx (hb hby at_184) rfl 186 rfl ?_
          refine own_ifcT X11 hx (hb hby at_186) (teq (by decide)).1 194 (by decide) (by decide) ?_
          refine own_iload X11 hx (hb hby at_194) rfl 196 rfl ?_
          refine own_istore X11 hx (#[.val (.int p1), .val (.int p2), .val (.int p3), .val (.int p4), .val (.int p5), .val (.int p6), .val (.int (0 : Int32)), .val (.int (0 : Int32)), .val (.int (0 : Int32)), .val (.int (0 : Int32)), .val (.ref ca), .val (.ref mm), .val (.int (-1 : Int32)), .val (.int (-1 : Int32)), .val (.int p6), .unset, .unset]) (hb hby at_196) rfl 198 rfl ?_
          refine own_aload X11 hx (hb hby at_198) rfl rfl 200 rfl ?_
          refine own_iload X11 hx (hb hby at_200) rfl 202 rfl ?_
          refine own_iload X11 hx (hb hby at_202) rfl 204 rfl ?_
          refine own_callV X11 hx hZ hown (own_w123 hw) (own_w124 hw) (own_w126 hw) (own_w125 hw) (own_w3 hw) (own_w127 hw) (by decide) 0 (own_m_res l Z a0 hw _ n0 FE FA F1 F2 F3 F4 (0 : Int32) p6 (r := (-1 : Int32)) (own_res_m1 _ _ (by simp))) rfl E_mm (by rw [hml]; rfl) [(.int (0 : Int32)), (.int p6)] [] rfl (lenOf own_pd_18 rfl) rfl (Nat.le_of_eq rfl) (by decide) (by decide) (by decide) (by decide) (hb hby at_204) N11 207 rfl (fun v12 T12 l12 X12 N12 hP12 => ?_)
          obtain ⟨rfl, e12⟩ := hP12
          show own_G p e below _ (T12.setTop (mkF m 207 #[.val (.int p1), .val (.int p2), .val (.int p3), .val (.int p4), .val (.int p5), .val (.int p6), .val (.int (0 : Int32)), .val (.int (0 : Int32)), .val (.int (0 : Int32)), .val (.int (0 : Int32)), .val (.ref ca), .val (.ref mm), .val (.int (-1 : Int32)), .val (.int (-1 : Int32)), .val (.int p6), .unset, .unset] [(.int (-1 : Int32))]))
          refine own_istore X12 hx (#[.val (.int p1), .val (.int p2), .val (.int p3), .val (.int p4), .val (.int p5), .val (.int p6), .val (.int (0 : Int32)), .val (.int (0 : Int32)), .val (.int (0 : Int32)), .val (.int (0 : Int32)), .val (.ref ca), .val (.ref mm), .val (.int (-1 : Int32)), .val (.int (-1 : Int32)), .val (.int p6), .val (.int (-1 : Int32)), .unset]) (hb hby at_207) rfl 209 rfl ?_
          refine own_iload X12 hx (hb hby at_209) rfl 211 rfl ?_
          refine own_iload X12 hx (hb hby at_211) rfl 213 rfl ?_
          by_cases hc13 : p6 = (-1 : Int32)
          · refine own_icmpF X12 hx (hb hby at_213) (teq hc13).2 216 rfl ?_
            refine own_iload X12 hx (hb hby at_216) rfl 218 rfl ?_
            refine own_goto X12 hx (hb hby at_218) 222 (by decide) (by decide) ?_
            refine own_istore X12 hx (#[.val (.int p1), .val (.int p2), .val (.int p3), .val (.int p4), .val (.int p5), .val (.int p6), .val (.int (0 : Int32)), .val (.int (0 : Int32)), .val (.int (0 : Int32)), .val (.int (0 : Int32)), .val (.ref ca), .val (.ref mm), .val (.int (-1 : Int32)), .val (.int (-1 : Int32)), .val (.int p6), .val (.int (-1 : Int32)), .val (.int (-1 : Int32))]) (hb hby at_222) rfl 224 rfl ?_
            refine own_iload X12 hx (hb hby at_224) rfl 226 rfl ?_
            refine own_iload X12 hx (hb hby at_226) rfl 228 rfl ?_
            refine own_icmpF X12 hx (hb hby at_228) (teq (by decide)).2 231 rfl ?_
            refine own_iconst X12 hx (z := (1 : Int32)) (hb hby at_231) rfl 232 rfl ?_
            refine own_goto X12 hx (hb hby at_232) 236 (by decide) (by decide) ?_
            exact own_retNS X12 hx hS hret (Or.inl rfl) hlk (hb hby at_236) (by decide) (by decide) N12 e12 Hk rfl
          · refine own_icmpT X12 hx (hb hby at_213) (feq hc13).2 221 (by decide) (by decide) ?_
            refine own_iconst X12 hx (z := (-1 : Int32)) (hb hby at_221) rfl 222 rfl ?_
            refine own_istore X12 hx (#[.val (.int p1), .val (.int p2), .val (.int p3), .val (.int p4), .val (.int p5), .val (.int p6), .val (.int (0 : Int32)), .val (.int (0 : Int32)), .val (.int (0 : Int32)), .val (.int (0 : Int32)), .val (.ref ca), .val (.ref mm), .val (.int (-1 : Int32)), .val (.int (-1 : Int32)), .val (.int p6), .val (.int (-1 : Int32)), .val (.int (-1 : Int32))]) (hb hby at_222) rfl 224 rfl ?_
            refine own_iload X12 hx (hb hby at_224) rfl 226 rfl ?_
            refine own_iload X12 hx (hb hby at_226) rfl 228 rfl ?_
            refine own_icmpF X12 hx (hb hby at_228) (teq (by decide)).2 231 rfl ?_
            refine own_iconst X12 hx (z := (1 : Int32)) (hb hby at_231) rfl 232 rfl ?_
            refine own_goto X12 hx (hb hby at_232) 236 (by decide) (by decide) ?_
            exact own_retNS X12 hx hS hret (Or.inl rfl) hlk (hb hby at_236) (by decide) (by decide) N12 e12 Hk rfl
        · refine own_ifcF X0 hx (hb hby at_43) (feq hc4).1 46 rfl ?_
          refine own_iconst X0 hx (z := (1 : Int32)) (hb hby at_46) rfl 47 rfl ?_
          refine own_goto X0 hx (hb hby at_47) 51 (by decide) (by decide) ?_
          refine own_istore X0 hx (#[.val (.int p1), .val (.int p2), .val (.int p3), .val (.int p4), .val (.int p5), .val (.int p6), .val (.int (0 : Int32)), .val (.int (0 : Int32)), .val (.int (0 : Int32)), .val (.int (1 : Int32)), .unset, .unset, .unset, .unset, .unset, .unset, .unset]) (hb hby at_51) rfl 53 rfl ?_
          refine own_iconst X0 hx (z := (2 : Int32)) (hb hby at_53) rfl 54 rfl ?_
          refine own_newP (aty := .char) X0 hx hZ (own_w0 hw) e0 (hb hby at_54) (by decide) 2 (by decide) (by decide) (by decide) (by decide) 56 rfl (fun T14 h14 cA14 ca g14 X14 e14 E14 B14 => ?_)
          have gn_ca : n0 ≤ ca := Nat.le_trans Z0 (Nat.le_of_eq g14.symm)
          have Z0_14 := Nat.le_trans Z0 E14.1
          have O0_14 := O0.ext E14
          have A_ca_14 : own_A Z h14 ca .char 2 (fun _ => 0) := own_A.new B14 (by decide) rfl
          refine own_dup X14 hx (hb hby at_56) rfl 57 rfl ?_
          refine own_iconst X14 hx (z := (0 : Int32)) (hb hby at_57) rfl 58 rfl ?_
          refine own_iloadN X14 hx (hb hby at_58) rfl 59 rfl ?_
          refine own_bipush X14 hx (z := (8 : Int32)) (hb hby at_59) rfl 61 rfl ?_
          refine own_iushr X14 hx (hb hby at_61) 62 rfl ?_
          refine own_sipush X14 hx (z := (255 : Int32)) (hb hby at_62) rfl 65 rfl ?_
          refine own_iand X14 hx (hb hby at_65) 66 rfl ?_
          refine own_i2c X14 hx (hb hby at_66) 67 rfl ?_
          refine own_castore X14 hx hZ e14 A_ca_14 ⟨by decide, by decide⟩ (hb hby at_67) N0 gn_ca 68 rfl (fun T15 h15 l15 X15 N15 e15 W15 => ?_)
          have Z0_15 := Nat.le_trans Z0_14 (Nat.le_of_eq W15.size.symm)
          have O0_15 := O0_14.wr W15 gn_ca
          have A_ca_15 := A_ca_14.set W15
          refine own_dup X15 hx (hb hby at_68) rfl 69 rfl ?_
          refine own_iconst X15 hx (z := (1 : Int32)) (hb hby at_69) rfl 70 rfl ?_
          refine own_iloadN X15 hx (hb hby at_70) rfl 71 rfl ?_
          refine own_bipush X15 hx (z := (16 : Int32)) (hb hby at_71) rfl 73 rfl ?_
          refine own_iushr X15 hx (hb hby at_73) 74 rfl ?_
          refine own_sipush X15 hx (z := (255 : Int32)) (hb hby at_74) rfl 77 rfl ?_
          refine own_iand X15 hx (hb hby at_77) 78 rfl ?_
          refine own_i2c X15 hx (hb hby at_78) 79 rfl ?_
          refine own_castore X15 hx hZ e15 A_ca_15 ⟨by decide, by decide⟩ (hb hby at_79) N15 gn_ca 80 rfl (fun T16 h16 l16 X16 N16 e16 W16 => ?_)
          have Z0_16 := Nat.le_trans Z0_15 (Nat.le_of_eq W16.size.symm)
          have O0_16 := O0_15.wr W16 gn_ca
          have A_ca_16 := A_ca_15.set W16
          refine own_astore X16 hx (#[.val (.int p1), .val (.int p2), .val (.int p3), .val (.int p4), .val (.int p5), .val (.int p6), .val (.int (0 : Int32)), .val (.int (0 : Int32)), .val (.int (0 : Int32)), .val (.int (1 : Int32)), .val (.ref ca), .unset, .unset, .unset, .unset, .unset, .unset]) (hb hby at_80) rfl rfl 82 rfl ?_
          refine own_newO X16 hx hZ hown (own_w1 hw) (own_w2 hw) (own_w3 hw) e16 (hb hby at_82) (by decide) (by decide) 85 rfl (fun T17 h17 mm g17 X17 e17 E17 B17 D17 => ?_)
          have o_ca_mm : ca < mm := Nat.lt_of_lt_of_eq A_ca_16.lt g17.symm
          have gn_mm : n0 ≤ mm := Nat.le_trans Z0_16 (Nat.le_of_eq g17.symm)
          have Z0_17 := Nat.le_trans Z0_16 E17.1
          have O0_17 := O0_16.ext E17
          have A_ca_17 := A_ca_16.ext E17
          have F_asElement_mm_17 : Fld Z h17 mm "com/example/xqwry/xqwry/MarkupName" "asElement" "Lcom/example/xqwry/xqwry/MarkupName$Resolution;" .null := D17 (Or.inr (own_w49 hw)) (ty := (.object "com/example/xqwry/xqwry/MarkupName$Resolution")) (by decide)
          have F_asAttribute_mm_17 : Fld Z h17 mm "com/example/xqwry/xqwry/MarkupName" "asAttribute" "Lcom/example/xqwry/xqwry/MarkupName$Resolution;" .null := D17 (Or.inr (own_w51 hw)) (ty := (.object "com/example/xqwry/xqwry/MarkupName$Resolution")) (by decide)
          have F_lexicalName_mm_17 : Fld Z h17 mm "com/example/xqwry/xqwry/MarkupName" "lexicalName" "Ljava/lang/String;" .null := D17 (Or.inr (own_w53 hw)) (ty := (.object "java/lang/String")) (by decide)
          have F_prefixed_mm_17 : Fld Z h17 mm "com/example/xqwry/xqwry/MarkupName" "prefixed" "Z" (.int (0 : Int32)) := D17 (Or.inr (own_w97 hw)) (ty := .boolean) (by decide)
          have F_declaredPrefix_mm_17 : Fld Z h17 mm "com/example/xqwry/xqwry/MarkupName" "declaredPrefix" "Ljava/lang/String;" .null := D17 (Or.inr (own_w122 hw)) (ty := (.object "java/lang/String")) (by decide)
          refine own_dup X17 hx (hb hby at_85) rfl 86 rfl ?_
          refine own_newO X17 hx hZ hown (own_w4 hw) (own_w5 hw) (own_w6 hw) e17 (hb hby at_86) (by decide) (by decide) 89 rfl (fun T18 h18 sa g18 X18 e18 E18 B18 D18 => ?_)
          have o_ca_sa : ca < sa := Nat.lt_of_lt_of_eq A_ca_17.lt g18.symm
          have o_mm_sa : mm < sa := Nat.lt_of_lt_of_eq B17.lt g18.symm
          have gn_sa : n0 ≤ sa := Nat.le_trans Z0_17 (Nat.le_of_eq g18.symm)
          have Z0_18 := Nat.le_trans Z0_17 E18.1
          have O0_18 := O0_17.ext E18
          have A_ca_18 := A_ca_17.ext E18
          have B17_18 := B17.ext E18
          have F_asElement_mm_18 := F_asElement_mm_17.ext E18
          have F_asAttribute_mm_18 := F_asAttribute_mm_17.ext E18
          have F_lexicalName_mm_18 := F_lexicalName_mm_17.ext E18
          have F_prefixed_mm_18 := F_prefixed_mm_17.ext E18
          have F_declaredPrefix_mm_18 := F_declaredPrefix_mm_17.ext E18
          have F_coder_sa_18 : Fld Z h18 sa "java/lang/String" "coder" "B" (.int (0 : Int32)) := D18 (Or.inr (own_w30 hw)) (ty := .byte) (by decide)
          have F_value_sa_18 : Fld Z h18 sa "java/lang/String" "value" "[B" .null := D18 (Or.inr (own_w32 hw)) (ty := (.array .byte)) (by decide)
          refine own_dup X18 hx (hb hby at_89) rfl 90 rfl ?_
          refine own_aload X18 hx (hb hby at_90) rfl rfl 92 rfl ?_
          refine own_callI X18 hx hZ hown rfl (own_w7 hw) (own_w8 hw) (own_w6 hw) (own_w9 hw) (by decide) 3 (own_m_sic1 l Z a0 hw _ n0 A_ca_18 B18 F_value_sa_18 F_coder_sa_18 gn_sa (Nat.ne_of_lt o_ca_sa) Z0_18 (own_hc _ _) hcz (SC0.ext O0_18.2)) e18 (by rw [hml]; rfl) sa [(.ref ca)] [(.ref sa), (.ref mm), (.ref mm)] rfl (lenOf own_pd_16 rfl) rfl (Nat.le_of_eq rfl) (by decide) (by decide) (by decide) (by decide) (hb hby at_92) N16 95 rfl (fun v19 T19 l19 X19 N19 hP19 => ?_)
          obtain ⟨rfl, sb, fs19, C_sa, V_sa, A_sb, o_sa_sb, K19'⟩ := hP19
          have Z0_19 := Nat.le_trans Z0_18 K19'.1
          have O0_19 := O0_18.keep K19' (allS gn_sa all0)
          have A_ca_19 := A_ca_18.keep K19' (ninS (Nat.ne_of_lt o_ca_sa) nin0)
          have B17_19 := B17_18.keep K19'
          have F_asElement_mm_19 := F_asElement_mm_18.keep K19' (ninS (Nat.ne_of_lt o_mm_sa) nin0)
          have F_asAttribute_mm_19 := F_asAttribute_mm_18.keep K19' (ninS (Nat.ne_of_lt o_mm_sa) nin0)
          have F_lexicalName_mm_19 := F_lexicalName_mm_18.keep K19' (ninS (Nat.ne_of_lt o_mm_sa) nin0)
          have F_prefixed_mm_19 := F_prefixed_mm_18.keep K19' (ninS (Nat.ne_of_lt o_mm_sa) nin0)
          have F_declaredPrefix_mm_19 := F_declaredPrefix_mm_18.keep K19' (ninS (Nat.ne_of_lt o_mm_sa) nin0)
          have B18_19 := B18.keep K19'
          have o_mm_sb : mm < sb := Nat.lt_trans o_mm_sa o_sa_sb
          show own_G p e below _ (T19.setTop (mkF m 95 #[.val (.int p1), .val (.int p2), .val (.int p3), .val (.int p4), .val (.int p5), .val (.int p6), .val (.int (0 : Int32)), .val (.int (0 : Int32)), .val (.int (0 : Int32)), .val (.int (1 : Int32)), .val (.ref ca), .unset, .unset, .unset, .unset, .unset, .unset] [(.ref sa), (.ref mm), (.ref mm)]))
          refine own_callIS X19 hx hZH hown rfl (own_w33 hw) (own_w34 hw) (own_w3 hw) (own_w35 hw) (by decide) 1 (own_m_minit l Z a0 hw _ n0 B17_19 F_lexicalName_mm_19 F_prefixed_mm_19 F_declaredPrefix_mm_19 F_asElement_mm_19 F_asAttribute_mm_19 B18_19 C_sa V_sa A_sb gn_mm gn_sa o_mm_sa o_sa_sb o_mm_sb Z0_19 O0_19 wS hH33 hH44 hcw hcz SC0) rfl (by rw [hml]; rfl) mm [.ref sa] [(.ref mm)] rfl (lenOf own_pd_17 rfl) rfl (Nat.le_of_eq rfl) (by decide) (by decide) (by decide) (by decide) (hb hby at_95) N19 98 rfl (fun v20 T20 l20 X20 N20 hS hZ hown hP20 => ?_)
          obtain ⟨rfl, re, ra, FE, FA, Ee, Ea, F1, F2, F3, F4, o_mm_re, o_re_ra, K20'⟩ := hP20
          have E_mm := B17_19.keep K20'
          have o_mm_ra : mm < ra := Nat.lt_trans o_mm_re o_re_ra
          have gn_re : n0 ≤ re := Nat.le_trans gn_mm (Nat.le_of_lt o_mm_re)
          have gn_ra : n0 ≤ ra := Nat.le_trans gn_mm (Nat.le_of_lt o_mm_ra)
          have Hk := Nat.le_refl T20.heap.size
          show own_G p e below _ (T20.setTop (mkF m 98 #[.val (.int p1), .val (.int p2), .val (.int p3), .val (.int p4), .val (.int p5), .val (.int p6), .val (.int (0 : Int32)), .val (.int (0 : Int32)), .val (.int (0 : Int32)), .val (.int (1 : Int32)), .val (.ref ca), .unset, .unset, .unset, .unset, .unset, .unset] [(.ref mm)]))
          refine own_astore X20 hx (#[.val (.int p1), .val (.int p2), .val (.int p3), .val (.int p4), .val (.int p5), .val (.int p6), .val (.int (0 : Int32)), .val (.int (0 : Int32)), .val (.int (0 : Int32)), .val (.int (1 : Int32)), .val (.ref ca), .val (.ref mm), .unset, .unset, .unset, .unset, .unset]) (hb hby at_98) rfl rfl 100 rfl ?_
          refine own_iload X20 hx (hb hby at_100) rfl 102 rfl ?_
          refine own_ifcT X20 hx (hb hby at_102) (teq (by decide)).1 113 (by decide) (by decide) ?_
          refine own_iload X20 hx (hb hby at_113) rfl 115 rfl ?_
          refine own_ifcT X20 hx (hb hby at_115) (teq (by decide)).1 127 (by decide) (by decide) ?_
          refine own_iload X20 hx (hb hby at_127) rfl 129 rfl ?_
          refine own_ifcT X20 hx (hb hby at_129) (teq (by decide)).1 159 (by decide) (by decide) ?_
          refine own_iload X20 hx (hb hby at_159) rfl 161 rfl ?_
          refine own_ifcT X20 hx (hb hby at_161) (teq (by decide)).1 168 (by decide) (by decide) ?_
          refine own_iconst X20 hx (z := (-1 : Int32)) (hb hby at_168) rfl 169 rfl ?_
          refine own_istore X20 hx (#[.val (.int p1), .val (.int p2), .val (.int p3), .val (.int p4), .val (.int p5), .val (.int p6), .val (.int (0 : Int32)), .val (.int (0 : Int32)), .val (.int (0 : Int32)), .val (.int (1 : Int32)), .val (.ref ca), .val (.ref mm), .val (.int (-1 : Int32)), .unset, .unset, .unset, .unset]) (hb hby at_169) rfl 171 rfl ?_
          refine own_iload X20 hx (hb hby at_171) rfl 173 rfl ?_
          refine own_ifcT X20 hx (hb hby at_173) (teq (by decide)).1 181 (by decide) (by decide) ?_
          refine own_iconst X20 hx (z := (-1 : Int32)) (hb hby at_181) rfl 182 rfl ?_
          refine own_istore X20 hx (#[.val (.int p1), .val (.int p2), .val (.int p3), .val (.int p4), .val (.int p5), .val (.int p6), .val (.int (0 : Int32)), .val (.int (0 : Int32)), .val (.int (0 : Int32)), .val (.int (1 : Int32)), .val (.ref ca), .val (.ref mm), .val (.int (-1 : Int32)), .val (.int (-1 : Int32)), .unset, .unset, .unset]) (hb hby at_182) rfl 184 rfl ?_
          refine own_iload X20 hx (hb hby at_184) rfl 186 rfl ?_
          refine own_ifcF X20 hx (hb hby at_186) (feq (by decide)).1 189 rfl ?_
          refine own_iload X20 hx (hb hby at_189) rfl 191 rfl ?_
          refine own_goto X20 hx (hb hby at_191) 196 (by decide) (by decide) ?_
          refine own_istore X20 hx (#[.val (.int p1), .val (.int p2), .val (.int p3), .val (.int p4), .val (.int p5), .val (.int p6), .val (.int (0 : Int32)), .val (.int (0 : Int32)), .val (.int (0 : Int32)), .val (.int (1 : Int32)), .val (.ref ca), .val (.ref mm), .val (.int (-1 : Int32)), .val (.int (-1 : Int32)), .val (.int (-1 : Int32)), .unset, .unset]) (hb hby at_196) rfl 198 rfl ?_
          refine own_aload X20 hx (hb hby at_198) rfl rfl 200 rfl ?_
          refine own_iload X20 hx (hb hby at_200) rfl 202 rfl ?_
          refine own_iload X20 hx (hb hby at_202) rfl 204 rfl ?_
          refine own_callV X20 hx hZ hown (own_w123 hw) (own_w124 hw) (own_w126 hw) (own_w125 hw) (own_w3 hw) (own_w127 hw) (by decide) 0 (own_m_res l Z a0 hw _ n0 FE FA F1 F2 F3 F4 (0 : Int32) (-1 : Int32) (r := (-1 : Int32)) (own_res_m1 _ _ (by simp))) rfl E_mm (by rw [hml]; rfl) [(.int (0 : Int32)), (.int (-1 : Int32))] [] rfl (lenOf own_pd_18 rfl) rfl (Nat.le_of_eq rfl) (by decide) (by decide) (by decide) (by decide) (hb hby at_204) N20 207 rfl (fun v21 T21 l21 X21 N21 hP21 => ?_)
          obtain ⟨rfl, e21⟩ := hP21
          show own_G p e below _ (T21.setTop (mkF m 207 #[.val (.int p1), .val (.int p2), .val (.int p3), .val (.int p4), .val (.int p5), .val (.int p6), .val (.int (0 : Int32)), .val (.int (0 : Int32)), .val (.int (0 : Int32)), .val (.int (1 : Int32)), .val (.ref ca), .val (.ref mm), .val (.int (-1 : Int32)), .val (.int (-1 : Int32)), .val (.int (-1 : Int32)), .unset, .unset] [(.int (-1 : Int32))]))
          refine own_istore X21 hx (#[.val (.int p1), .val (.int p2), .val (.int p3), .val (.int p4), .val (.int p5), .val (.int p6), .val (.int (0 : Int32)), .val (.int (0 : Int32)), .val (.int (0 : Int32)), .val (.int (1 : Int32)), .val (.ref ca), .val (.ref mm), .val (.int (-1 : Int32)), .val (.int (-1 : Int32)), .val (.int (-1 : Int32)), .val (.int (-1 : Int32)), .unset]) (hb hby at_207) rfl 209 rfl ?_
          refine own_iload X21 hx (hb hby at_209) rfl 211 rfl ?_
          refine own_iload X21 hx (hb hby at_211) rfl 213 rfl ?_
          refine own_icmpF X21 hx (hb hby at_213) (teq (by decide)).2 216 rfl ?_
          refine own_iload X21 hx (hb hby at_216) rfl 218 rfl ?_
          refine own_goto X21 hx (hb hby at_218) 222 (by decide) (by decide) ?_
          refine own_istore X21 hx (#[.val (.int p1), .val (.int p2), .val (.int p3), .val (.int p4), .val (.int p5), .val (.int p6), .val (.int (0 : Int32)), .val (.int (0 : Int32)), .val (.int (0 : Int32)), .val (.int (1 : Int32)), .val (.ref ca), .val (.ref mm), .val (.int (-1 : Int32)), .val (.int (-1 : Int32)), .val (.int (-1 : Int32)), .val (.int (-1 : Int32)), .val (.int (-1 : Int32))]) (hb hby at_222) rfl 224 rfl ?_
          refine own_iload X21 hx (hb hby at_224) rfl 226 rfl ?_
          refine own_iload X21 hx (hb hby at_226) rfl 228 rfl ?_
          refine own_icmpF X21 hx (hb hby at_228) (teq (by decide)).2 231 rfl ?_
          refine own_iconst X21 hx (z := (1 : Int32)) (hb hby at_231) rfl 232 rfl ?_
          refine own_goto X21 hx (hb hby at_232) 236 (by decide) (by decide) ?_
          exact own_retNS X21 hx hS hret (Or.inl rfl) hlk (hb hby at_236) (by decide) (by decide) N21 e21 Hk rfl
      · refine own_ifcF X0 hx (hb hby at_29) (feq hc3).1 32 rfl ?_
        refine own_iconst X0 hx (z := (1 : Int32)) (hb hby at_32) rfl 33 rfl ?_
        refine own_goto X0 hx (hb hby at_33) 37 (by decide) (by decide) ?_
        refine own_istore X0 hx (#[.val (.int p1), .val (.int p2), .val (.int p3), .val (.int p4), .val (.int p5), .val (.int p6), .val (.int (0 : Int32)), .val (.int (0 : Int32)), .val (.int (1 : Int32)), .unset, .unset, .unset, .unset, .unset, .unset, .unset, .unset]) (hb hby at_37) rfl 39 rfl ?_
        refine own_iloadN X0 hx (hb hby at_39) rfl 40 rfl ?_
        refine own_bipush X0 hx (z := (8 : Int32)) (hb hby at_40) rfl 42 rfl ?_
        refine own_iand X0 hx (hb hby at_42) 43 rfl ?_
        by_cases hc22 : (p1 &&& (8 : Int32)) = (0 : Int32)
        · refine own_ifcT X0 hx (hb hby at_43) (teq hc22).1 50 (by decide) (by decide) ?_
          refine own_iconst X0 hx (z := (0 : Int32)) (hb hby at_50) rfl 51 rfl ?_
          refine own_istore X0 hx (#[.val (.int p1), .val (.int p2), .val (.int p3), .val (.int p4), .val (.int p5), .val (.int p6), .val (.int (0 : Int32)), .val (.int (0 : Int32)), .val (.int (1 : Int32)), .val (.int (0 : Int32)), .unset, .unset, .unset, .unset, .unset, .unset, .unset]) (hb hby at_51) rfl 53 rfl ?_
          refine own_iconst X0 hx (z := (2 : Int32)) (hb hby at_53) rfl 54 rfl ?_
          refine own_newP (aty := .char) X0 hx hZ (own_w0 hw) e0 (hb hby at_54) (by decide) 2 (by decide) (by decide) (by decide) (by decide) 56 rfl (fun T23 h23 cA23 ca g23 X23 e23 E23 B23 => ?_)
          have gn_ca : n0 ≤ ca := Nat.le_trans Z0 (Nat.le_of_eq g23.symm)
          have Z0_23 := Nat.le_trans Z0 E23.1
          have O0_23 := O0.ext E23
          have A_ca_23 : own_A Z h23 ca .char 2 (fun _ => 0) := own_A.new B23 (by decide) rfl
          refine own_dup X23 hx (hb hby at_56) rfl 57 rfl ?_
          refine own_iconst X23 hx (z := (0 : Int32)) (hb hby at_57) rfl 58 rfl ?_
          refine own_iloadN X23 hx (hb hby at_58) rfl 59 rfl ?_
          refine own_bipush X23 hx (z := (8 : Int32)) (hb hby at_59) rfl 61 rfl ?_
          refine own_iushr X23 hx (hb hby at_61) 62 rfl ?_
          refine own_sipush X23 hx (z := (255 : Int32)) (hb hby at_62) rfl 65 rfl ?_
          refine own_iand X23 hx (hb hby at_65) 66 rfl ?_
          refine own_i2c X23 hx (hb hby at_66) 67 rfl ?_
          refine own_castore X23 hx hZ e23 A_ca_23 ⟨by decide, by decide⟩ (hb hby at_67) N0 gn_ca 68 rfl (fun T24 h24 l24 X24 N24 e24 W24 => ?_)
          have Z0_24 := Nat.le_trans Z0_23 (Nat.le_of_eq W24.size.symm)
          have O0_24 := O0_23.wr W24 gn_ca
          have A_ca_24 := A_ca_23.set W24
          refine own_dup X24 hx (hb hby at_68) rfl 69 rfl ?_
          refine own_iconst X24 hx (z := (1 : Int32)) (hb hby at_69) rfl 70 rfl ?_
          refine own_iloadN X24 hx (hb hby at_70) rfl 71 rfl ?_
          refine own_bipush X24 hx (z := (16 : Int32)) (hb hby at_71) rfl 73 rfl ?_
          refine own_iushr X24 hx (hb hby at_73) 74 rfl ?_
          refine own_sipush X24 hx (z := (255 : Int32)) (hb hby at_74) rfl 77 rfl ?_
          refine own_iand X24 hx (hb hby at_77) 78 rfl ?_
          refine own_i2c X24 hx (hb hby at_78) 79 rfl ?_
          refine own_castore X24 hx hZ e24 A_ca_24 ⟨by decide, by decide⟩ (hb hby at_79) N24 gn_ca 80 rfl (fun T25 h25 l25 X25 N25 e25 W25 => ?_)
          have Z0_25 := Nat.le_trans Z0_24 (Nat.le_of_eq W25.size.symm)
          have O0_25 := O0_24.wr W25 gn_ca
          have A_ca_25 := A_ca_24.set W25
          refine own_astore X25 hx (#[.val (.int p1), .val (.int p2), .val (.int p3), .val (.int p4), .val (.int p5), .val (.int p6), .val (.int (0 : Int32)), .val (.int (0 : Int32)), .val (.int (1 : Int32)), .val (.int (0 : Int32)), .val (.ref ca), .unset, .unset, .unset, .unset, .unset, .unset]) (hb hby at_80) rfl rfl 82 rfl ?_
          refine own_newO X25 hx hZ hown (own_w1 hw) (own_w2 hw) (own_w3 hw) e25 (hb hby at_82) (by decide) (by decide) 85 rfl (fun T26 h26 mm g26 X26 e26 E26 B26 D26 => ?_)
          have o_ca_mm : ca < mm := Nat.lt_of_lt_of_eq A_ca_25.lt g26.symm
          have gn_mm : n0 ≤ mm := Nat.le_trans Z0_25 (Nat.le_of_eq g26.symm)
          have Z0_26 := Nat.le_trans Z0_25 E26.1
          have O0_26 := O0_25.ext E26
          have A_ca_26 := A_ca_25.ext E26
          have F_asElement_mm_26 : Fld Z h26 mm "com/example/xqwry/xqwry/MarkupName" "asElement" "Lcom/example/xqwry/xqwry/MarkupName$Resolution;" .null := D26 (Or.inr (own_w49 hw)) (ty := (.object "com/example/xqwry/xqwry/MarkupName$Resolution")) (by decide)
          have F_asAttribute_mm_26 : Fld Z h26 mm "com/example/xqwry/xqwry/MarkupName" "asAttribute" "Lcom/example/xqwry/xqwry/MarkupName$Resolution;" .null := D26 (Or.inr (own_w51 hw)) (ty := (.object "com/example/xqwry/xqwry/MarkupName$Resolution")) (by decide)
          have F_lexicalName_mm_26 : Fld Z h26 mm "com/example/xqwry/xqwry/MarkupName" "lexicalName" "Ljava/lang/String;" .null := D26 (Or.inr (own_w53 hw)) (ty := (.object "java/lang/String")) (by decide)
          have F_prefixed_mm_26 : Fld Z h26 mm "com/example/xqwry/xqwry/MarkupName" "prefixed" "Z" (.int (0 : Int32)) := D26 (Or.inr (own_w97 hw)) (ty := .boolean) (by decide)
          have F_declaredPrefix_mm_26 : Fld Z h26 mm "com/example/xqwry/xqwry/MarkupName" "declaredPrefix" "Ljava/lang/String;" .null := D26 (Or.inr (own_w122 hw)) (ty := (.object "java/lang/String")) (by decide)
          refine own_dup X26 hx (hb hby at_85) rfl 86 rfl ?_
          refine own_newO X26 hx hZ hown (own_w4 hw) (own_w5 hw) (own_w6 hw) e26 (hb hby at_86) (by decide) (by decide) 89 rfl (fun T27 h27 sa g27 X27 e27 E27 B27 D27 => ?_)
          have o_ca_sa : ca < sa := Nat.lt_of_lt_of_eq A_ca_26.lt g27.symm
          have o_mm_sa : mm < sa := Nat.lt_of_lt_of_eq B26.lt g27.symm
          have gn_sa : n0 ≤ sa := Nat.le_trans Z0_26 (Nat.le_of_eq g27.symm)
          have Z0_27 := Nat.le_trans Z0_26 E27.1
          have O0_27 := O0_26.ext E27
          have A_ca_27 := A_ca_26.ext E27
          have B26_27 := B26.ext E27
          have F_asElement_mm_27 := F_asElement_mm_26.ext E27
          have F_asAttribute_mm_27 := F_asAttribute_mm_26.ext E27
          have F_lexicalName_mm_27 := F_lexicalName_mm_26.ext E27
          have F_prefixed_mm_27 := F_prefixed_mm_26.ext E27
          have F_declaredPrefix_mm_27 := F_declaredPrefix_mm_26.ext E27
          have F_coder_sa_27 : Fld Z h27 sa "java/lang/String" "coder" "B" (.int (0 : Int32)) := D27 (Or.inr (own_w30 hw)) (ty := .byte) (by decide)
          have F_value_sa_27 : Fld Z h27 sa "java/lang/String" "value" "[B" .null := D27 (Or.inr (own_w32 hw)) (ty := (.array .byte)) (by decide)
          refine own_dup X27 hx (hb hby at_89) rfl 90 rfl ?_
          refine own_aload X27 hx (hb hby at_90) rfl rfl 92 rfl ?_
          refine own_callI X27 hx hZ hown rfl (own_w7 hw) (own_w8 hw) (own_w6 hw) (own_w9 hw) (by decide) 3 (own_m_sic1 l Z a0 hw _ n0 A_ca_27 B27 F_value_sa_27 F_coder_sa_27 gn_sa (Nat.ne_of_lt o_ca_sa) Z0_27 (own_hc _ _) hcz (SC0.ext O0_27.2)) e27 (by rw [hml]; rfl) sa [(.ref ca)] [(.ref sa), (.ref mm), (.ref mm)] rfl (lenOf own_pd_16 rfl) rfl (Nat.le_of_eq rfl) (by decide) (by decide) (by decide) (by decide) (hb hby at_92) N25 95 rfl (fun v28 T28 l28 X28 N28 hP28 => ?_)
          obtain ⟨rfl, sb, fs28, C_sa, V_sa, A_sb, o_sa_sb, K28'⟩ := hP28
          have Z0_28 := Nat.le_trans Z0_27 K28'.1
          have O0_28 := O0_27.keep K28' (allS gn_sa all0)
          have A_ca_28 := A_ca_27.keep K28' (ninS (Nat.ne_of_lt o_ca_sa) nin0)
          have B26_28 := B26_27.keep K28'
          have F_asElement_mm_28 := F_asElement_mm_27.keep K28' (ninS (Nat.ne_of_lt o_mm_sa) nin0)
          have F_asAttribute_mm_28 := F_asAttribute_mm_27.keep K28' (ninS (Nat.ne_of_lt o_mm_sa) nin0)
          have F_lexicalName_mm_28 := F_lexicalName_mm_27.keep K28' (ninS (Nat.ne_of_lt o_mm_sa) nin0)
          have F_prefixed_mm_28 := F_prefixed_mm_27.keep K28' (ninS (Nat.ne_of_lt o_mm_sa) nin0)
          have F_declaredPrefix_mm_28 := F_declaredPrefix_mm_27.keep K28' (ninS (Nat.ne_of_lt o_mm_sa) nin0)
          have B27_28 := B27.keep K28'
          have o_mm_sb : mm < sb := Nat.lt_trans o_mm_sa o_sa_sb
          show own_G p e below _ (T28.setTop (mkF m 95 #[.val (.int p1), .val (.int p2), .val (.int p3), .val (.int p4), .val (.int p5), .val (.int p6), .val (.int (0 : Int32)), .val (.int (0 : Int32)), .val (.int (1 : Int32)), .val (.int (0 : Int32)), .val (.ref ca), .unset, .unset, .unset, .unset, .unset, .unset] [(.ref sa), (.ref mm), (.ref mm)]))
          refine own_callIS X28 hx hZH hown rfl (own_w33 hw) (own_w34 hw) (own_w3 hw) (own_w35 hw) (by decide) 1 (own_m_minit l Z a0 hw _ n0 B26_28 F_lexicalName_mm_28 F_prefixed_mm_28 F_declaredPrefix_mm_28 F_asElement_mm_28 F_asAttribute_mm_28 B27_28 C_sa V_sa A_sb gn_mm gn_sa o_mm_sa o_sa_sb o_mm_sb Z0_28 O0_28 wS hH33 hH44 hcw hcz SC0) rfl (by rw [hml]; rfl) mm [.ref sa] [(.ref mm)] rfl (lenOf own_pd_17 rfl) rfl (Nat.le_of_eq rfl) (by decide) (by decide) (by decide) (by decide) (hb hby at_95) N28 98 rfl (fun v29 T29 l29 X29 N29 hS hZ hown hP29 => ?_)
          obtain ⟨rfl, re, ra, FE, FA, Ee, Ea, F1, F2, F3, F4, o_mm_re, o_re_ra, K29'⟩ := hP29
          have E_mm := B26_28.keep K29'
          have o_mm_ra : mm < ra := Nat.lt_trans o_mm_re o_re_ra
          have gn_re : n0 ≤ re := Nat.le_trans gn_mm (Nat.le_of_lt o_mm_re)
          have gn_ra : n0 ≤ ra := Nat.le_trans gn_mm (Nat.le_of_lt o_mm_ra)
          have Hk := Nat.le_refl T29.heap.size
          show own_G p e below _ (T29.setTop (mkF m 98 #[.val (.int p1), .val (.int p2), .val (.int p3), .val (.int p4), .val (.int p5), .val (.int p6), .val (.int (0 : Int32)), .val (.int (0 : Int32)), .val (.int (1 : Int32)), .val (.int (0 : Int32)), .val (.ref ca), .unset, .unset, .unset, .unset, .unset, .unset] [(.ref mm)]))
          refine own_astore X29 hx (#[.val (.int p1), .val (.int p2), .val (.int p3), .val (.int p4), .val (.int p5), .val (.int p6), .val (.int (0 : Int32)), .val (.int (0 : Int32)), .val (.int (1 : Int32)), .val (.int (0 : Int32)), .val (.ref ca), .val (.ref mm), .unset, .unset, .unset, .unset, .unset]) (hb hby at_98) rfl rfl 100 rfl ?_
          refine own_iload X29 hx (hb hby at_100) rfl 102 rfl ?_
          refine own_ifcT X29 hx (hb hby at_102) (teq (by decide)).1 113 (by decide) (by decide) ?_
          refine own_iload X29 hx (hb hby at_113) rfl 115 rfl ?_
          refine own_ifcT X29 hx (hb hby at_115) (teq (by decide)).1 127 (by decide) (by decide) ?_
          refine own_iload X29 hx (hb hby at_127) rfl 129 rfl ?_
          refine own_ifcF X29 hx (hb hby at_129) (feq (by decide)).1 132 rfl ?_
          refine own_iload X29 hx (hb hby at_132) rfl 134 rfl ?_
          refine own_ifcT X29 hx (hb hby at_134) (teq (by decide)).1 141 (by decide) (by decide) ?_
          refine own_iconst X29 hx (z := (-1 : Int32)) (hb hby at_141) rfl 142 rfl ?_
          refine own_istore X29 hx (#[.val (.int p1), .val (.int p2), .val (.int p3), .val (.int p4), .val (.int p5), .val (.int p6), .val (.int (0 : Int32)), .val (.int (0 : Int32)), .val (.int (1 : Int32)), .val (.int (0 : Int32)), .val (.ref ca), .val (.ref mm), .val (.int (-1 : Int32)), .unset, .unset, .unset, .unset]) (hb hby at_142) rfl 144 rfl ?_
          refine own_iload X29 hx (hb hby at_144) rfl 146 rfl ?_
          refine own_ifcT X29 hx (hb hby at_146) (teq (by decide)).1 153 (by decide) (by decide) ?_
          refine own_iconst X29 hx (z := (-1 : Int32)) (hb hby at_153) rfl 154 rfl ?_
          refine own_istore X29 hx (#[.val (.int p1), .val (.int p2), .val (.int p3), .val (.int p4), .val (.int p5), .val (.int p6), .val (.int (0 : Int32)), .val (.int (0 : Int32)), .val (.int (1 : Int32)), .val (.int (0 : Int32)), .val (.ref ca), .val (.ref mm), .val (.int (-1 : Int32)), .val (.int (-1 : Int32)), .unset, .unset, .unset]) (hb hby at_154) rfl 156 rfl ?_
          refine own_goto X29 hx (hb hby at_156) 184 (by decide) (by decide) ?_
          refine own_iload X29 hx (hb hby at_184) rfl 186 rfl ?_
          refine own_ifcT X29 hx (hb hby at_186) (teq (by decide)).1 194 (by decide) (by decide) ?_
          refine own_iload X29 hx (hb hby at_194) rfl 196 rfl ?_
          refine own_istore X29 hx (#[.val (.int p1), .val (.int p2), .val (.int p3), .val (.int p4), .val (.int p5), .val (.int p6), .val (.int (0 : Int32)), .val (.int (0 : Int32)), .val (.int (1 : Int32)), .val (.int (0 : Int32)), .val (.ref ca), .val (.ref mm), .val (.int (-1 : Int32)), .val (.int (-1 : Int32)), .val (.int p6), .unset, .unset]) (hb hby at_196) rfl 198 rfl ?_
          refine own_aload X29 hx (hb hby at_198) rfl rfl 200 rfl ?_
          refine own_iload X29 hx (hb hby at_200) rfl 202 rfl ?_
          refine own_iload X29 hx (hb hby at_202) rfl 204 rfl ?_
          refine own_callV X29 hx hZ hown (own_w123 hw) (own_w124 hw) (own_w126 hw) (own_w125 hw) (own_w3 hw) (own_w127 hw) (by decide) 0 (own_m_res l Z a0 hw _ n0 FE FA F1 F2 F3 F4 (1 : Int32) p6 (r := (-1 : Int32)) (own_res_m1 _ _ (by simp))) rfl E_mm (by rw [hml]; rfl) [(.int (1 : Int32)), (.int p6)] [] rfl (lenOf own_pd_18 rfl) rfl (Nat.le_of_eq rfl) (by decide) (by decide) (by decide) (by decide) (hb hby at_204) N29 207 rfl (fun v30 T30 l30 X30 N30 hP30 => ?_)
          obtain ⟨rfl, e30⟩ := hP30
          show own_G p e below _ (T30.setTop (mkF m 207 #[.val (.int p1), .val (.int p2), .val (.int p3), .val (.int p4), .val (.int p5), .val (.int p6), .val (.int (0 : Int32)), .val (.int (0 : Int32)), .val (.int (1 : Int32)), .val (.int (0 : Int32)), .val (.ref ca), .val (.ref mm), .val (.int (-1 : Int32)), .val (.int (-1 : Int32)), .val (.int p6), .unset, .unset] [(.int (-1 : Int32))]))
          refine own_istore X30 hx (#[.val (.int p1), .val (.int p2), .val (.int p3), .val (.int p4), .val (.int p5), .val (.int p6), .val (.int (0 : Int32)), .val (.int (0 : Int32)), .val (.int (1 : Int32)), .val (.int (0 : Int32)), .val (.ref ca), .val (.ref mm), .val (.int (-1 : Int32)), .val (.int (-1 : Int32)), .val (.int p6), .val (.int (-1 : Int32)), .unset]) (hb hby at_207) rfl 209 rfl ?_
          refine own_iload X30 hx (hb hby at_209) rfl 211 rfl ?_
          refine own_iload X30 hx (hb hby at_211) rfl 213 rfl ?_
          by_cases hc31 : p6 = (-1 : Int32)
          · refine own_icmpF X30 hx (hb hby at_213) (teq hc31).2 216 rfl ?_
            refine own_iload X30 hx (hb hby at_216) rfl 218 rfl ?_
            refine own_goto X30 hx (hb hby at_218) 222 (by decide) (by decide) ?_
            refine own_istore X30 hx (#[.val (.int p1), .val (.int p2), .val (.int p3), .val (.int p4), .val (.int p5), .val (.int p6), .val (.int (0 : Int32)), .val (.int (0 : Int32)), .val (.int (1 : Int32)), .val (.int (0 : Int32)), .val (.ref ca), .val (.ref mm), .val (.int (-1 : Int32)), .val (.int (-1 : Int32)), .val (.int p6), .val (.int (-1 : Int32)), .val (.int (-1 : Int32))]) (hb hby at_222) rfl 224 rfl ?_
            refine own_iload X30 hx (hb hby at_224) rfl 226 rfl ?_
            refine own_iload X30 hx (hb hby at_226) rfl 228 rfl ?_
            refine own_icmpF X30 hx (hb hby at_228) (teq (by decide)).2 231 rfl ?_
            refine own_iconst X30 hx (z := (1 : Int32)) (hb hby at_231) rfl 232 rfl ?_
            refine own_goto X30 hx (hb hby at_232) 236 (by decide) (by decide) ?_
            exact own_retNS X30 hx hS hret (Or.inl rfl) hlk (hb hby at_236) (by decide) (by decide) N30 e30 Hk rfl
          · refine own_icmpT X30 hx (hb hby at_213) (feq hc31).2 221 (by decide) (by decide) ?_
            refine own_iconst X30 hx (z := (-1 : Int32)) (hb hby at_221) rfl 222 rfl ?_
            refine own_istore X30 hx (#[.val (.int p1), .val (.int p2), .val (.int p3), .val (.int p4), .val (.int p5), .val (.int p6), .val (.int (0 : Int32)), .val (.int (0 : Int32)), .val (.int (1 : Int32)), .val (.int (0 : Int32)), .val (.ref ca), .val (.ref mm), .val (.int (-1 : Int32)), .val (.int (-1 : Int32)), .val (.int p6), .val (.int (-1 : Int32)), .val (.int (-1 : Int32))]) (hb hby at_222) rfl 224 rfl ?_
            refine own_iload X30 hx (hb hby at_224) rfl 226 rfl ?_
            refine own_iload X30 hx (hb hby at_226) rfl 228 rfl ?_
            refine own_icmpF X30 hx (hb hby at_228) (teq (by decide)).2 231 rfl ?_
            refine own_iconst X30 hx (z := (1 : Int32)) (hb hby at_231) rfl 232 rfl ?_
            refine own_goto X30 hx (hb hby at_232) 236 (by decide) (by decide) ?_
            exact own_retNS X30 hx hS hret (Or.inl rfl) hlk (hb hby at_236) (by decide) (by decide) N30 e30 Hk rfl
        · refine own_ifcF X0 hx (hb hby at_43) (feq hc22).1 46 rfl ?_
          refine own_iconst X0 hx (z := (1 : Int32)) (hb hby at_46) rfl 47 rfl ?_
          refine own_goto X0 hx (hb hby at_47) 51 (by decide) (by decide) ?_
          refine own_istore X0 hx (#[.val (.int p1), .val (.int p2), .val (.int p3), .val (.int p4), .val (.int p5), .val (.int p6), .val (.int (0 : Int32)), .val (.int (0 : Int32)), .val (.int (1 : Int32)), .val (.int (1 : Int32)), .unset, .unset, .unset, .unset, .unset, .unset, .unset]) (hb hby at_51) rfl 53 rfl ?_
          refine own_iconst X0 hx (z := (2 : Int32)) (hb hby at_53) rfl 54 rfl ?_
          refine own_newP (aty := .char) X0 hx hZ (own_w0 hw) e0 (hb hby at_54) (by decide) 2 (by decide) (by decide) (by decide) (by decide) 56 rfl (fun T32 h32 cA32 ca g32 X32 e32 E32 B32 => ?_)
          have gn_ca : n0 ≤ ca := Nat.le_trans Z0 (Nat.le_of_eq g32.symm)
          have Z0_32 := Nat.le_trans Z0 E32.1
          have O0_32 := O0.ext E32
          have A_ca_32 : own_A Z h32 ca .char 2 (fun _ => 0) := own_A.new B32 (by decide) rfl
          refine own_dup X32 hx (hb hby at_56) rfl 57 rfl ?_
          refine own_iconst X32 hx (z := (0 : Int32)) (hb hby at_57) rfl 58 rfl ?_
          refine own_iloadN X32 hx (hb hby at_58) rfl 59 rfl ?_
          refine own_bipush X32 hx (z := (8 : Int32)) (hb hby at_59) rfl 61 rfl ?_
          refine own_iushr X32 hx (hb hby at_61) 62 rfl ?_
          refine own_sipush X32 hx (z := (255 : Int32)) (hb hby at_62) rfl 65 rfl ?_
          refine own_iand X32 hx (hb hby at_65) 66 rfl ?_
          refine own_i2c X32 hx (hb hby at_66) 67 rfl ?_
          refine own_castore X32 hx hZ e32 A_ca_32 ⟨by decide, by decide⟩ (hb hby at_67) N0 gn_ca 68 rfl (fun T33 h33 l33 X33 N33 e33 W33 => ?_)
          have Z0_33 := Nat.le_trans Z0_32 (Nat.le_of_eq W33.size.symm)
          have O0_33 := O0_32.wr W33 gn_ca
          have A_ca_33 := A_ca_32.set W33
          refine own_dup X33 hx (hb hby at_68) rfl 69 rfl ?_
          refine own_iconst X33 hx (z := (1 : Int32)) (hb hby at_69) rfl 70 rfl ?_
          refine own_iloadN X33 hx (hb hby at_70) rfl 71 rfl ?_
          refine own_bipush X33 hx (z := (16 : Int32)) (hb hby at_71) rfl 73 rfl ?_
          refine own_iushr X33 hx (hb hby at_73) 74 rfl ?_
          refine own_sipush X33 hx (z := (255 : Int32)) (hb hby at_74) rfl 77 rfl ?_
          refine own_iand X33 hx (hb hby at_77) 78 rfl ?_
          refine own_i2c X33 hx (hb hby at_78) 79 rfl ?_
          refine own_castore X33 hx hZ e33 A_ca_33 ⟨by decide, by decide⟩ (hb hby at_79) N33 gn_ca 80 rfl (fun T34 h34 l34 X34 N34 e34 W34 => ?_)
          have Z0_34 := Nat.le_trans Z0_33 (Nat.le_of_eq W34.size.symm)
          have O0_34 := O0_33.wr W34 gn_ca
          have A_ca_34 := A_ca_33.set W34
          refine own_astore X34 hx (#[.val (.int p1), .val (.int p2), .val (.int p3), .val (.int p4), .val (.int p5), .val (.int p6), .val (.int (0 : Int32)), .val (.int (0 : Int32)), .val (.int (1 : Int32)), .val (.int (1 : Int32)), .val (.ref ca), .unset, .unset, .unset, .unset, .unset, .unset]) (hb hby at_80) rfl rfl 82 rfl ?_
          refine own_newO X34 hx hZ hown (own_w1 hw) (own_w2 hw) (own_w3 hw) e34 (hb hby at_82) (by decide) (by decide) 85 rfl (fun T35 h35 mm g35 X35 e35 E35 B35 D35 => ?_)
          have o_ca_mm : ca < mm := Nat.lt_of_lt_of_eq A_ca_34.lt g35.symm
          have gn_mm : n0 ≤ mm := Nat.le_trans Z0_34 (Nat.le_of_eq g35.symm)
          have Z0_35 := Nat.le_trans Z0_34 E35.1
          have O0_35 := O0_34.ext E35
          have A_ca_35 := A_ca_34.ext E35
          have F_asElement_mm_35 : Fld Z h35 mm "com/example/xqwry/xqwry/MarkupName" "asElement" "Lcom/example/xqwry/xqwry/MarkupName$Resolution;" .null := D35 (Or.inr (own_w49 hw)) (ty := (.object "com/example/xqwry/xqwry/MarkupName$Resolution")) (by decide)
          have F_asAttribute_mm_35 : Fld Z h35 mm "com/example/xqwry/xqwry/MarkupName" "asAttribute" "Lcom/example/xqwry/xqwry/MarkupName$Resolution;" .null := D35 (Or.inr (own_w51 hw)) (ty := (.object "com/example/xqwry/xqwry/MarkupName$Resolution")) (by decide)
          have F_lexicalName_mm_35 : Fld Z h35 mm "com/example/xqwry/xqwry/MarkupName" "lexicalName" "Ljava/lang/String;" .null := D35 (Or.inr (own_w53 hw)) (ty := (.object "java/lang/String")) (by decide)
          have F_prefixed_mm_35 : Fld Z h35 mm "com/example/xqwry/xqwry/MarkupName" "prefixed" "Z" (.int (0 : Int32)) := D35 (Or.inr (own_w97 hw)) (ty := .boolean) (by decide)
          have F_declaredPrefix_mm_35 : Fld Z h35 mm "com/example/xqwry/xqwry/MarkupName" "declaredPrefix" "Ljava/lang/String;" .null := D35 (Or.inr (own_w122 hw)) (ty := (.object "java/lang/String")) (by decide)
          refine own_dup X35 hx (hb hby at_85) rfl 86 rfl ?_
          refine own_newO X35 hx hZ hown (own_w4 hw) (own_w5 hw) (own_w6 hw) e35 (hb hby at_86) (by decide) (by decide) 89 rfl (fun T36 h36 sa g36 X36 e36 E36 B36 D36 => ?_)
          have o_ca_sa : ca < sa := Nat.lt_of_lt_of_eq A_ca_35.lt g36.symm
          have o_mm_sa : mm < sa := Nat.lt_of_lt_of_eq B35.lt g36.symm
          have gn_sa : n0 ≤ sa := Nat.le_trans Z0_35 (Nat.le_of_eq g36.symm)
          have Z0_36 := Nat.le_trans Z0_35 E36.1
          have O0_36 := O0_35.ext E36
          have A_ca_36 := A_ca_35.ext E36
          have B35_36 := B35.ext E36
          have F_asElement_mm_36 := F_asElement_mm_35.ext E36
          have F_asAttribute_mm_36 := F_asAttribute_mm_35.ext E36
          have F_lexicalName_mm_36 := F_lexicalName_mm_35.ext E36
          have F_prefixed_mm_36 := F_prefixed_mm_35.ext E36
          have F_declaredPrefix_mm_36 := F_declaredPrefix_mm_35.ext E36
          have F_coder_sa_36 : Fld Z h36 sa "java/lang/String" "coder" "B" (.int (0 : Int32)) := D36 (Or.inr (own_w30 hw)) (ty := .byte) (by decide)
          have F_value_sa_36 : Fld Z h36 sa "java/lang/String" "value" "[B" .null := D36 (Or.inr (own_w32 hw)) (ty := (.array .byte)) (by decide)
          refine own_dup X36 hx (hb hby at_89) rfl 90 rfl ?_
          refine own_aload X36 hx (hb hby at_90) rfl rfl 92 rfl ?_
          refine own_callI X36 hx hZ hown rfl (own_w7 hw) (own_w8 hw) (own_w6 hw) (own_w9 hw) (by decide) 3 (own_m_sic1 l Z a0 hw _ n0 A_ca_36 B36 F_value_sa_36 F_coder_sa_36 gn_sa (Nat.ne_of_lt o_ca_sa) Z0_36 (own_hc _ _) hcz (SC0.ext O0_36.2)) e36 (by rw [hml]; rfl) sa [(.ref ca)] [(.ref sa), (.ref mm), (.ref mm)] rfl (lenOf own_pd_16 rfl) rfl (Nat.le_of_eq rfl) (by decide) (by decide) (by decide) (by decide) (hb hby at_92) N34 95 rfl (fun v37 T37 l37 X37 N37 hP37 => ?_)
          obtain ⟨rfl, sb, fs37, C_sa, V_sa, A_sb, o_sa_sb, K37'⟩ := hP37
          have Z0_37 := Nat.le_trans Z0_36 K37'.1
          have O0_37 := O0_36.keep K37' (allS gn_sa all0)
          have A_ca_37 := A_ca_36.keep K37' (ninS (Nat.ne_of_lt o_ca_sa) nin0)
          have B35_37 := B35_36.keep K37'
          have F_asElement_mm_37 := F_asElement_mm_36.keep K37' (ninS (Nat.ne_of_lt o_mm_sa) nin0)
          have F_asAttribute_mm_37 := F_asAttribute_mm_36.keep K37' (ninS (Nat.ne_of_lt o_mm_sa) nin0)
          have F_lexicalName_mm_37 := F_lexicalName_mm_36.keep K37' (ninS (Nat.ne_of_lt o_mm_sa) nin0)
          have F_prefixed_mm_37 := F_prefixed_mm_36.keep K37' (ninS (Nat.ne_of_lt o_mm_sa) nin0)
          have F_declaredPrefix_mm_37 := F_declaredPrefix_mm_36.keep K37' (ninS (Nat.ne_of_lt o_mm_sa) nin0)
          have B36_37 := B36.keep K37'
          have o_mm_sb : mm < sb := Nat.lt_trans o_mm_sa o_sa_sb
          show own_G p e below _ (T37.setTop (mkF m 95 #[.val (.int p1), .val (.int p2), .val (.int p3), .val (.int p4), .val (.int p5), .val (.int p6), .val (.int (0 : Int32)), .val (.int (0 : Int32)), .val (.int (1 : Int32)), .val (.int (1 : Int32)), .val (.ref ca), .unset, .unset, .unset, .unset, .unset, .unset] [(.ref sa), (.ref mm), (.ref mm)]))
          refine own_callIS X37 hx hZH hown rfl (own_w33 hw) (own_w34 hw) (own_w3 hw) (own_w35 hw) (by decide) 1 (own_m_minit l Z a0 hw _ n0 B35_37 F_lexicalName_mm_37 F_prefixed_mm_37 F_declaredPrefix_mm_37 F_asElement_mm_37 F_asAttribute_mm_37 B36_37 C_sa V_sa A_sb gn_mm gn_sa o_mm_sa o_sa_sb o_mm_sb Z0_37 O0_37 wS hH33 hH44 hcw hcz SC0) rfl (by rw [hml]; rfl) mm [.ref sa] [(.ref mm)] rfl (lenOf own_pd_17 rfl) rfl (Nat.le_of_eq rfl) (by decide) (by decide) (by decide) (by decide) (hb hby at_95) N37 98 rfl (fun v38 T38 l38 X38 N38 hS hZ hown hP38 => ?_)
          obtain ⟨rfl, re, ra, FE, FA, Ee, Ea, F1, F2, F3, F4, o_mm_re, o_re_ra, K38'⟩ := hP38
          have E_mm := B35_37.keep K38'
          have o_mm_ra : mm < ra := Nat.lt_trans o_mm_re o_re_ra
          have gn_re : n0 ≤ re := Nat.le_trans gn_mm (Nat.le_of_lt o_mm_re)
          have gn_ra : n0 ≤ ra := Nat.le_trans gn_mm (Nat.le_of_lt o_mm_ra)
          have Hk := Nat.le_refl T38.heap.size
          show own_G p e below _ (T38.setTop (mkF m 98 #[.val (.int p1), .val (.int p2), .val (.int p3), .val (.int p4), .val (.int p5), .val (.int p6), .val (.int (0 : Int32)), .val (.int (0 : Int32)), .val (.int (1 : Int32)), .val (.int (1 : Int32)), .val (.ref ca), .unset, .unset, .unset, .unset, .unset, .unset] [(.ref mm)]))
          refine own_astore X38 hx (#[.val (.int p1), .val (.int p2), .val (.int p3), .val (.int p4), .val (.int p5), .val (.int p6), .val (.int (0 : Int32)), .val (.int (0 : Int32)), .val (.int (1 : Int32)), .val (.int (1 : Int32)), .val (.ref ca), .val (.ref mm), .unset, .unset, .unset, .unset, .unset]) (hb hby at_98) rfl rfl 100 rfl ?_
          refine own_iload X38 hx (hb hby at_100) rfl 102 rfl ?_
          refine own_ifcT X38 hx (hb hby at_102) (teq (by decide)).1 113 (by decide) (by decide) ?_
          refine own_iload X38 hx (hb hby at_113) rfl 115 rfl ?_
          refine own_ifcT X38 hx (hb hby at_115) (teq (by decide)).1 127 (by decide) (by decide) ?_
          refine own_iload X38 hx (hb hby at_127) rfl 129 rfl ?_
          refine own_ifcF X38 hx (hb hby at_129) (feq (by decide)).1 132 rfl ?_
          refine own_iload X38 hx (hb hby at_132) rfl 134 rfl ?_
          refine own_ifcT X38 hx (hb hby at_134) (teq (by decide)).1 141 (by decide) (by decide) ?_
          refine own_iconst X38 hx (z := (-1 : Int32)) (hb hby at_141) rfl 142 rfl ?_
          refine own_istore X38 hx (#[.val (.int p1), .val (.int p2), .val (.int p3), .val (.int p4), .val (.int p5), .val (.int p6), .val (.int (0 : Int32)), .val (.int (0 : Int32)), .val (.int (1 : Int32)), .val (.int (1 : Int32)), .val (.ref ca), .val (.ref mm), .val (.int (-1 : Int32)), .unset, .unset, .unset, .unset]) (hb hby at_142) rfl 144 rfl ?_
          refine own_iload X38 hx (hb hby at_144) rfl 146 rfl ?_
          refine own_ifcT X38 hx (hb hby at_146) (teq (by decide)).1 153 (by decide) (by decide) ?_
          refine own_iconst X38 hx (z := (-1 : Int32)) (hb hby at_153) rfl 154 rfl ?_
          refine own_istore X38 hx (#[.val (.int p1), .val (.int p2), .val (.int p3), .val (.int p4), .val (.int p5), .val (.int p6), .val (.int (0 : Int32)), .val (.int (0 : Int32)), .val (.int (1 : Int32)), .val (.int (1 : Int32)), .val (.ref ca), .val (.ref mm), .val (.int (-1 : Int32)), .val (.int (-1 : Int32)), .unset, .unset, .unset]) (hb hby at_154) rfl 156 rfl ?_
          refine own_goto X38 hx (hb hby at_156) 184 (by decide) (by decide) ?_
          refine own_iload X38 hx (hb hby at_184) rfl 186 rfl ?_
          refine own_ifcF X38 hx (hb hby at_186) (feq (by decide)).1 189 rfl ?_
          refine own_iload X38 hx (hb hby at_189) rfl 191 rfl ?_
          refine own_goto X38 hx (hb hby at_191) 196 (by decide) (by decide) ?_
          refine own_istore X38 hx (#[.val (.int p1), .val (.int p2), .val (.int p3), .val (.int p4), .val (.int p5), .val (.int p6), .val (.int (0 : Int32)), .val (.int (0 : Int32)), .val (.int (1 : Int32)), .val (.int (1 : Int32)), .val (.ref ca), .val (.ref mm), .val (.int (-1 : Int32)), .val (.int (-1 : Int32)), .val (.int (-1 : Int32)), .unset, .unset]) (hb hby at_196) rfl 198 rfl ?_
          refine own_aload X38 hx (hb hby at_198) rfl rfl 200 rfl ?_
          refine own_iload X38 hx (hb hby at_200) rfl 202 rfl ?_
          refine own_iload X38 hx (hb hby at_202) rfl 204 rfl ?_
          refine own_callV X38 hx hZ hown (own_w123 hw) (own_w124 hw) (own_w126 hw) (own_w125 hw) (own_w3 hw) (own_w127 hw) (by decide) 0 (own_m_res l Z a0 hw _ n0 FE FA F1 F2 F3 F4 (1 : Int32) (-1 : Int32) (r := (-1 : Int32)) (own_res_m1 _ _ (by simp))) rfl E_mm (by rw [hml]; rfl) [(.int (1 : Int32)), (.int (-1 : Int32))] [] rfl (lenOf own_pd_18 rfl) rfl (Nat.le_of_eq rfl) (by decide) (by decide) (by decide) (by decide) (hb hby at_204) N38 207 rfl (fun v39 T39 l39 X39 N39 hP39 => ?_)
          obtain ⟨rfl, e39⟩ := hP39
          show own_G p e below _ (T39.setTop (mkF m 207 #[.val (.int p1), .val (.int p2), .val (.int p3), .val (.int p4), .val (.int p5), .val (.int p6), .val (.int (0 : Int32)), .val (.int (0 : Int32)), .val (.int (1 : Int32)), .val (.int (1 : Int32)), .val (.ref ca), .val (.ref mm), .val (.int (-1 : Int32)), .val (.int (-1 : Int32)), .val (.int (-1 : Int32)), .unset, .unset] [(.int (-1 : Int32))]))
          refine own_istore X39 hx (#[.val (.int p1), .val (.int p2), .val (.int p3), .val (.int p4), .val (.int p5), .val (.int p6), .val (.int (0 : Int32)), .val (.int (0 : Int32)), .val (.int (1 : Int32)), .val (.int (1 : Int32)), .val (.ref ca), .val (.ref mm), .val (.int (-1 : Int32)), .val (.int (-1 : Int32)), .val (.int (-1 : Int32)), .val (.int (-1 : Int32)), .unset]) (hb hby at_207) rfl 209 rfl ?_
          refine own_iload X39 hx (hb hby at_209) rfl 211 rfl ?_
          refine own_iload X39 hx (hb hby at_211) rfl 213 rfl ?_
          refine own_icmpF X39 hx (hb hby at_213) (teq (by decide)).2 216 rfl ?_
          refine own_iload X39 hx (hb hby at_216) rfl 218 rfl ?_
          refine own_goto X39 hx (hb hby at_218) 222 (by decide) (by decide) ?_
          refine own_istore X39 hx (#[.val (.int p1), .val (.int p2), .val (.int p3), .val (.int p4), .val (.int p5), .val (.int p6), .val (.int (0 : Int32)), .val (.int (0 : Int32)), .val (.int (1 : Int32)), .val (.int (1 : Int32)), .val (.ref ca), .val (.ref mm), .val (.int (-1 : Int32)), .val (.int (-1 : Int32)), .val (.int (-1 : Int32)), .val (.int (-1 : Int32)), .val (.int (-1 : Int32))]) (hb hby at_222) rfl 224 rfl ?_
          refine own_iload X39 hx (hb hby at_224) rfl 226 rfl ?_
          refine own_iload X39 hx (hb hby at_226) rfl 228 rfl ?_
          refine own_icmpF X39 hx (hb hby at_228) (teq (by decide)).2 231 rfl ?_
          refine own_iconst X39 hx (z := (1 : Int32)) (hb hby at_231) rfl 232 rfl ?_
          refine own_goto X39 hx (hb hby at_232) 236 (by decide) (by decide) ?_
          exact own_retNS X39 hx hS hret (Or.inl rfl) hlk (hb hby at_236) (by decide) (by decide) N39 e39 Hk rfl
    · refine own_ifcF X0 hx (hb hby at_16) (feq hc2).1 19 rfl ?_
      refine own_iconst X0 hx (z := (1 : Int32)) (hb hby at_19) rfl 20 rfl ?_
      refine own_goto X0 hx (hb hby at_20) 24 (by decide) (by decide) ?_
      refine own_istore X0 hx (#[.val (.int p1), .val (.int p2), .val (.int p3), .val (.int p4), .val (.int p5), .val (.int p6), .val (.int (0 : Int32)), .val (.int (1 : Int32)), .unset, .unset, .unset, .unset, .unset, .unset, .unset, .unset, .unset]) (hb hby at_24) rfl 26 rfl ?_
      refine own_iloadN X0 hx (hb hby at_26) rfl 27 rfl ?_
      refine own_iconst X0 hx (z := (4 : Int32)) (hb hby at_27) rfl 28 rfl ?_
      refine own_iand X0 hx (hb hby at_28) 29 rfl ?_
      by_cases hc40 : (p1 &&& (4 : Int32)) = (0 : Int32)
      · refine own_ifcT X0 hx (hb hby at_29) (teq hc40).1 36 (by decide) (by decide) ?_
        refine own_iconst X0 hx (z := (0 : Int32)) (hb hby at_36) rfl 37 rfl ?_
        refine own_istore X0 hx (#[.val (.int p1), .val (.int p2), .val (.int p3), .val (.int p4), .val (.int p5), .val (.int p6), .val (.int (0 : Int32)), .val (.int (1 : Int32)), .val (.int (0 : Int32)), .unset, .unset, .unset, .unset, .unset, .unset, .unset, .unset]) (hb hby at_37) rfl 39 rfl ?_
        refine own_iloadN X0 hx (hb hby at_39) rfl 40 rfl ?_
        refine own_bipush X0 hx (z := (8 : Int32)) (hb hby at_40) rfl 42 rfl ?_
        refine own_iand X0 hx (hb hby at_42) 43 rfl ?_
        by_cases hc41 : (p1 &&& (8 : Int32)) = (0 : Int32)
        · refine own_ifcT X0 hx (hb hby at_43) (teq hc41).1 50 (by decide) (by decide) ?_
          refine own_iconst X0 hx (z := (0 : Int32)) (hb hby at_50) rfl 51 rfl ?_
          refine own_istore X0 hx (#[.val (.int p1), .val (.int p2), .val (.int p3), .val (.int p4), .val (.int p5), .val (.int p6), .val (.int (0 : Int32)), .val (.int (1 : Int32)), .val (.int (0 : Int32)), .val (.int (0 : Int32)), .unset, .unset, .unset, .unset, .unset, .unset, .unset]) (hb hby at_51) rfl 53 rfl ?_
          refine own_iconst X0 hx (z := (2 : Int32)) (hb hby at_53) rfl 54 rfl ?_
          refine own_newP (aty := .char) X0 hx hZ (own_w0 hw) e0 (hb hby at_54) (by decide) 2 (by decide) (by decide) (by decide) (by decide) 56 rfl (fun T42 h42 cA42 ca g42 X42 e42 E42 B42 => ?_)
          have gn_ca : n0 ≤ ca := Nat.le_trans Z0 (Nat.le_of_eq g42.symm)
          have Z0_42 := Nat.le_trans Z0 E42.1
          have O0_42 := O0.ext E42
          have A_ca_42 : own_A Z h42 ca .char 2 (fun _ => 0) := own_A.new B42 (by decide) rfl
          refine own_dup X42 hx (hb hby at_56) rfl 57 rfl ?_
          refine own_iconst X42 hx (z := (0 : Int32)) (hb hby at_57) rfl 58 rfl ?_
          refine own_iloadN X42 hx (hb hby at_58) rfl 59 rfl ?_
          refine own_bipush X42 hx (z := (8 : Int32)) (hb hby at_59) rfl 61 rfl ?_
          refine own_iushr X42 hx (hb hby at_61) 62 rfl ?_
          refine own_sipush X42 hx (z := (255 : Int32)) (hb hby at_62) rfl 65 rfl ?_
          refine own_iand X42 hx (hb hby at_65) 66 rfl ?_
          refine own_i2c X42 hx (hb hby at_66) 67 rfl ?_
          refine own_castore X42 hx hZ e42 A_ca_42 ⟨by decide, by decide⟩ (hb hby at_67) N0 gn_ca 68 rfl (fun T43 h43 l43 X43 N43 e43 W43 => ?_)
          have Z0_43 := Nat.le_trans Z0_42 (Nat.le_of_eq W43.size.symm)
          have O0_43 := O0_42.wr W43 gn_ca
          have A_ca_43 := A_ca_42.set W43
          refine own_dup X43 hx (hb hby at_68) rfl 69 rfl ?_
          refine own_iconst X43 hx (z := (1 : Int32)) (hb hby at_69) rfl 70 rfl ?_
          refine own_iloadN X43 hx (hb hby at_70) rfl 71 rfl ?_
          refine own_bipush X43 hx (z := (16 : Int32)) (hb hby at_71) rfl 73 rfl ?_
          refine own_iushr X43 hx (hb hby at_73) 74 rfl ?_
          refine own_sipush X43 hx (z := (255 : Int32)) (hb hby at_74) rfl 77 rfl ?_
          refine own_iand X43 hx (hb hby at_77) 78 rfl ?_
          refine own_i2c X43 hx (hb hby at_78) 79 rfl ?_
          refine own_castore X43 hx hZ e43 A_ca_43 ⟨by decide, by decide⟩ (hb hby at_79) N43 gn_ca 80 rfl (fun T44 h44 l44 X44 N44 e44 W44 => ?_)
          have Z0_44 := Nat.le_trans Z0_43 (Nat.le_of_eq W44.size.symm)
          have O0_44 := O0_43.wr W44 gn_ca
          have A_ca_44 := A_ca_43.set W44
          refine own_astore X44 hx (#[.val (.int p1), .val (.int p2), .val (.int p3), .val (.int p4), .val (.int p5), .val (.int p6), .val (.int (0 : Int32)), .val (.int (1 : Int32)), .val (.int (0 : Int32)), .val (.int (0 : Int32)), .val (.ref ca), .unset, .unset, .unset, .unset, .unset, .unset]) (hb hby at_80) rfl rfl 82 rfl ?_
          refine own_newO X44 hx hZ hown (own_w1 hw) (own_w2 hw) (own_w3 hw) e44 (hb hby at_82) (by decide) (by decide) 85 rfl (fun T45 h45 mm g45 X45 e45 E45 B45 D45 => ?_)
          have o_ca_mm : ca < mm := Nat.lt_of_lt_of_eq A_ca_44.lt g45.symm
          have gn_mm : n0 ≤ mm := Nat.le_trans Z0_44 (Nat.le_of_eq g45.symm)
          have Z0_45 := Nat.le_trans Z0_44 E45.1
          have O0_45 := O0_44.ext E45
          have A_ca_45 := A_ca_44.ext E45
          have F_asElement_mm_45 : Fld Z h45 mm "com/example/xqwry/xqwry/MarkupName" "asElement" "Lcom/example/xqwry/xqwry/MarkupName$Resolution;" .null := D45 (Or.inr (own_w49 hw)) (ty := (.object "com/example/xqwry/xqwry/MarkupName$Resolution")) (by decide)
          have F_asAttribute_mm_45 : Fld Z h45 mm "com/example/xqwry/xqwry/MarkupName" "asAttribute" "Lcom/example/xqwry/xqwry/MarkupName$Resolution;" .null := D45 (Or.inr (own_w51 hw)) (ty := (.object "com/example/xqwry/xqwry/MarkupName$Resolution")) (by decide)
          have F_lexicalName_mm_45 : Fld Z h45 mm "com/example/xqwry/xqwry/MarkupName" "lexicalName" "Ljava/lang/String;" .null := D45 (Or.inr (own_w53 hw)) (ty := (.object "java/lang/String")) (by decide)
          have F_prefixed_mm_45 : Fld Z h45 mm "com/example/xqwry/xqwry/MarkupName" "prefixed" "Z" (.int (0 : Int32)) := D45 (Or.inr (own_w97 hw)) (ty := .boolean) (by decide)
          have F_declaredPrefix_mm_45 : Fld Z h45 mm "com/example/xqwry/xqwry/MarkupName" "declaredPrefix" "Ljava/lang/String;" .null := D45 (Or.inr (own_w122 hw)) (ty := (.object "java/lang/String")) (by decide)
          refine own_dup X45 hx (hb hby at_85) rfl 86 rfl ?_
          refine own_newO X45 hx hZ hown (own_w4 hw) (own_w5 hw) (own_w6 hw) e45 (hb hby at_86) (by decide) (by decide) 89 rfl (fun T46 h46 sa g46 X46 e46 E46 B46 D46 => ?_)
          have o_ca_sa : ca < sa := Nat.lt_of_lt_of_eq A_ca_45.lt g46.symm
          have o_mm_sa : mm < sa := Nat.lt_of_lt_of_eq B45.lt g46.symm
          have gn_sa : n0 ≤ sa := Nat.le_trans Z0_45 (Nat.le_of_eq g46.symm)
          have Z0_46 := Nat.le_trans Z0_45 E46.1
          have O0_46 := O0_45.ext E46
          have A_ca_46 := A_ca_45.ext E46
          have B45_46 := B45.ext E46
          have F_asElement_mm_46 := F_asElement_mm_45.ext E46
          have F_asAttribute_mm_46 := F_asAttribute_mm_45.ext E46
          have F_lexicalName_mm_46 := F_lexicalName_mm_45.ext E46
          have F_prefixed_mm_46 := F_prefixed_mm_45.ext E46
          have F_declaredPrefix_mm_46 := F_declaredPrefix_mm_45.ext E46
          have F_coder_sa_46 : Fld Z h46 sa "java/lang/String" "coder" "B" (.int (0 : Int32)) := D46 (Or.inr (own_w30 hw)) (ty := .byte) (by decide)
          have F_value_sa_46 : Fld Z h46 sa "java/lang/String" "value" "[B" .null := D46 (Or.inr (own_w32 hw)) (ty := (.array .byte)) (by decide)
          refine own_dup X46 hx (hb hby at_89) rfl 90 rfl ?_
          refine own_aload X46 hx (hb hby at_90) rfl rfl 92 rfl ?_
          refine own_callI X46 hx hZ hown rfl (own_w7 hw) (own_w8 hw) (own_w6 hw) (own_w9 hw) (by decide) 3 (own_m_sic1 l Z a0 hw _ n0 A_ca_46 B46 F_value_sa_46 F_coder_sa_46 gn_sa (Nat.ne_of_lt o_ca_sa) Z0_46 (own_hc _ _) hcz (SC0.ext O0_46.2)) e46 (by rw [hml]; rfl) sa [(.ref ca)] [(.ref sa), (.ref mm), (.ref mm)] rfl (lenOf own_pd_16 rfl) rfl (Nat.le_of_eq rfl) (by decide) (by decide) (by decide) (by decide) (hb hby at_92) N44 95 rfl (fun v47 T47 l47 X47 N47 hP47 => ?_)
          obtain ⟨rfl, sb, fs47, C_sa, V_sa, A_sb, o_sa_sb, K47'⟩ := hP47
          have Z0_47 := Nat.le_trans Z0_46 K47'.1
          have O0_47 := O0_46.keep K47' (allS gn_sa all0)
          have A_ca_47 := A_ca_46.keep K47' (ninS (Nat.ne_of_lt o_ca_sa) nin0)
          have B45_47 := B45_46.keep K47'
          have F_asElement_mm_47 := F_asElement_mm_46.keep K47' (ninS (Nat.ne_of_lt o_mm_sa) nin0)
          have F_asAttribute_mm_47 := F_asAttribute_mm_46.keep K47' (ninS (Nat.ne_of_lt o_mm_sa) nin0)
          have F_lexicalName_mm_47 := F_lexicalName_mm_46.keep K47' (ninS (Nat.ne_of_lt o_mm_sa) nin0)
          have F_prefixed_mm_47 := F_prefixed_mm_46.keep K47' (ninS (Nat.ne_of_lt o_mm_sa) nin0)
          have F_declaredPrefix_mm_47 := F_declaredPrefix_mm_46.keep K47' (ninS (Nat.ne_of_lt o_mm_sa) nin0)
          have B46_47 := B46.keep K47'
          have o_mm_sb : mm < sb := Nat.lt_trans o_mm_sa o_sa_sb
          show own_G p e below _ (T47.setTop (mkF m 95 #[.val (.int p1), .val (.int p2), .val (.int p3), .val (.int p4), .val (.int p5), .val (.int p6), .val (.int (0 : Int32)), .val (.int (1 : Int32)), .val (.int (0 : Int32)), .val (.int (0 : Int32)), .val (.ref ca), .unset, .unset, .unset, .unset, .unset, .unset] [(.ref sa), (.ref mm), (.ref mm)]))
          refine own_callIS X47 hx hZH hown rfl (own_w33 hw) (own_w34 hw) (own_w3 hw) (own_w35 hw) (by decide) 1 (own_m_minit l Z a0 hw _ n0 B45_47 F_lexicalName_mm_47 F_prefixed_mm_47 F_declaredPrefix_mm_47 F_asElement_mm_47 F_asAttribute_mm_47 B46_47 C_sa V_sa A_sb gn_mm gn_sa o_mm_sa o_sa_sb o_mm_sb Z0_47 O0_47 wS hH33 hH44 hcw hcz SC0) rfl (by rw [hml]; rfl) mm [.ref sa] [(.ref mm)] rfl (lenOf own_pd_17 rfl) rfl (Nat.le_of_eq rfl) (by decide) (by decide) (by decide) (by decide) (hb hby at_95) N47 98 rfl (fun v48 T48 l48 X48 N48 hS hZ hown hP48 => ?_)
          obtain ⟨rfl, re, ra, FE, FA, Ee, Ea, F1, F2, F3, F4, o_mm_re, o_re_ra, K48'⟩ := hP48
          have E_mm := B45_47.keep K48'
          have o_mm_ra : mm < ra := Nat.lt_trans o_mm_re o_re_ra
          have gn_re : n0 ≤ re := Nat.le_trans gn_mm (Nat.le_of_lt o_mm_re)
          have gn_ra : n0 ≤ ra := Nat.le_trans gn_mm (Nat.le_of_lt o_mm_ra)
          have Hk := Nat.le_refl T48.heap.size
          show own_G p e below _ (T48.setTop (mkF m 98 #[.val (.int p1), .val (.int p2), .val (.int p3), .val (.int p4), .val (.int p5), .val (.int p6), .val (.int (0 : Int32)), .val (.int (1 : Int32)), .val (.int (0 : Int32)), .val (.int (0 : Int32)), .val (.ref ca), .unset, .unset, .unset, .unset, .unset, .unset] [(.ref mm)]))
          refine own_astore X48 hx (#[.val (.int p1), .val (.int p2), .val (.int p3), .val (.int p4), .val (.int p5), .val (.int p6), .val (.int (0 : Int32)), .val (.int (1 : Int32)), .val (.int (0 : Int32)), .val (.int (0 : Int32)), .val (.ref ca), .val (.ref mm), .unset, .unset, .unset, .unset, .unset]) (hb hby at_98) rfl rfl 100 rfl ?_
          refine own_iload X48 hx (hb hby at_100) rfl 102 rfl ?_
          refine own_ifcT X48 hx (hb hby at_102) (teq (by decide)).1 113 (by decide) (by decide) ?_
          refine own_iload X48 hx (hb hby at_113) rfl 115 rfl ?_
          refine own_ifcF X48 hx (hb hby at_115) (feq (by decide)).1 118 rfl ?_
          refine own_aload X48 hx (hb hby at_118) rfl rfl 120 rfl ?_
          refine own_iconst X48 hx (z := (0 : Int32)) (hb hby at_120) rfl 121 rfl ?_
          refine own_iloadN X48 hx (hb hby at_121) rfl 122 rfl ?_
          refine own_iload X48 hx (hb hby at_122) rfl 124 rfl ?_
          refine own_callV X48 hx hZ hown (own_w129 hw) (own_w130 hw) (own_w132 hw) (own_w131 hw) (own_w3 hw) (own_w133 hw) (by decide) 0 (own_m_keep0 l Z a0 hw _ n0 FE FA Ea F3 F4 gn_ra (Nat.ne_of_lt o_mm_ra) (0 : Int32) p4 p5 (by decide)) rfl E_mm (by rw [hml]; rfl) [(.int (0 : Int32)), (.int p4), (.int p5)] [] rfl (lenOf own_pd_19 rfl) rfl (Nat.le_of_eq rfl) (by decide) (by decide) (by decide) (by decide) (hb hby at_124) N48 127 rfl (fun v49 T49 l49 X49 N49 hP49 => ?_)
          obtain ⟨rfl, Gn49, Gc49, K49'⟩ := hP49
          have Hk_49 := Nat.le_trans Hk K49'.1
          have E_mm_49 := E_mm.keep K49'
          have FE_49 := FE.keep K49' (ninS (Nat.ne_of_lt o_mm_ra) nin0)
          have FA_49 := FA.keep K49' (ninS (Nat.ne_of_lt o_mm_ra) nin0)
          have Ee_49 := Ee.keep K49'
          have Ea_49 := Ea.keep K49'
          have F1_49 := F1.keep K49' (ninS (Nat.ne_of_lt o_re_ra) nin0)
          have F2_49 := F2.keep K49' (ninS (Nat.ne_of_lt o_re_ra) nin0)
          show own_G p e below _ (T49.setTop (mkF m 127 #[.val (.int p1), .val (.int p2), .val (.int p3), .val (.int p4), .val (.int p5), .val (.int p6), .val (.int (0 : Int32)), .val (.int (1 : Int32)), .val (.int (0 : Int32)), .val (.int (0 : Int32)), .val (.ref ca), .val (.ref mm), .unset, .unset, .unset, .unset, .unset] []))
          refine own_iload X49 hx (hb hby at_127) rfl 129 rfl ?_
          refine own_ifcT X49 hx (hb hby at_129) (teq (by decide)).1 159 (by decide) (by decide) ?_
          refine own_iload X49 hx (hb hby at_159) rfl 161 rfl ?_
          refine own_ifcF X49 hx (hb hby at_161) (feq (by decide)).1 164 rfl ?_
          refine own_iloadN X49 hx (hb hby at_164) rfl 165 rfl ?_
          refine own_goto X49 hx (hb hby at_165) 169 (by decide) (by decide) ?_
          refine own_istore X49 hx (#[.val (.int p1), .val (.int p2), .val (.int p3), .val (.int p4), .val (.int p5), .val (.int p6), .val (.int (0 : Int32)), .val (.int (1 : Int32)), .val (.int (0 : Int32)), .val (.int (0 : Int32)), .val (.ref ca), .val (.ref mm), .val (.int p4), .unset, .unset, .unset, .unset]) (hb hby at_169) rfl 171 rfl ?_
          refine own_iload X49 hx (hb hby at_171) rfl 173 rfl ?_
          refine own_ifcF X49 hx (hb hby at_173) (feq (by decide)).1 176 rfl ?_
          refine own_iload X49 hx (hb hby at_176) rfl 178 rfl ?_
          refine own_goto X49 hx (hb hby at_178) 182 (by decide) (by decide) ?_
          refine own_istore X49 hx (#[.val (.int p1), .val (.int p2), .val (.int p3), .val (.int p4), .val (.int p5), .val (.int p6), .val (.int (0 : Int32)), .val (.int (1 : Int32)), .val (.int (0 : Int32)), .val (.int (0 : Int32)), .val (.ref ca), .val (.ref mm), .val (.int p4), .val (.int p5), .unset, .unset, .unset]) (hb hby at_182) rfl 184 rfl ?_
          refine own_iload X49 hx (hb hby at_184) rfl 186 rfl ?_
          refine own_ifcT X49 hx (hb hby at_186) (teq (by decide)).1 194 (by decide) (by decide) ?_
          refine own_iload X49 hx (hb hby at_194) rfl 196 rfl ?_
          refine own_istore X49 hx (#[.val (.int p1), .val (.int p2), .val (.int p3), .val (.int p4), .val (.int p5), .val (.int p6), .val (.int (0 : Int32)), .val (.int (1 : Int32)), .val (.int (0 : Int32)), .val (.int (0 : Int32)), .val (.ref ca), .val (.ref mm), .val (.int p4), .val (.int p5), .val (.int p6), .unset, .unset]) (hb hby at_196) rfl 198 rfl ?_
          refine own_aload X49 hx (hb hby at_198) rfl rfl 200 rfl ?_
          refine own_iload X49 hx (hb hby at_200) rfl 202 rfl ?_
          refine own_iload X49 hx (hb hby at_202) rfl 204 rfl ?_
          refine own_callV X49 hx hZ hown (own_w123 hw) (own_w124 hw) (own_w126 hw) (own_w125 hw) (own_w3 hw) (own_w127 hw) (by decide) 0 (own_m_res l Z a0 hw _ n0 FE_49 FA_49 F1_49 F2_49 Gn49 Gc49 (0 : Int32) p6 (r := (own_f_exp p6 p5 p4)) (own_res_e0 _ _ _ _ _)) rfl E_mm_49 (by rw [hml]; rfl) [(.int (0 : Int32)), (.int p6)] [] rfl (lenOf own_pd_18 rfl) rfl (Nat.le_of_eq rfl) (by decide) (by decide) (by decide) (by decide) (hb hby at_204) N49 207 rfl (fun v50 T50 l50 X50 N50 hP50 => ?_)
          obtain ⟨rfl, e50⟩ := hP50
          show own_G p e below _ (T50.setTop (mkF m 207 #[.val (.int p1), .val (.int p2), .val (.int p3), .val (.int p4), .val (.int p5), .val (.int p6), .val (.int (0 : Int32)), .val (.int (1 : Int32)), .val (.int (0 : Int32)), .val (.int (0 : Int32)), .val (.ref ca), .val (.ref mm), .val (.int p4), .val (.int p5), .val (.int p6), .unset, .unset] [(.int (own_f_exp p6 p5 p4))]))
          refine own_istore X50 hx (#[.val (.int p1), .val (.int p2), .val (.int p3), .val (.int p4), .val (.int p5), .val (.int p6), .val (.int (0 : Int32)), .val (.int (1 : Int32)), .val (.int (0 : Int32)), .val (.int (0 : Int32)), .val (.ref ca), .val (.ref mm), .val (.int p4), .val (.int p5), .val (.int p6), .val (.int (own_f_exp p6 p5 p4)), .unset]) (hb hby at_207) rfl 209 rfl ?_
          refine own_iload X50 hx (hb hby at_209) rfl 211 rfl ?_
          refine own_iload X50 hx (hb hby at_211) rfl 213 rfl ?_
          by_cases hc51 : p6 = p5
          · refine own_icmpF X50 hx (hb hby at_213) (teq hc51).2 216 rfl ?_
            refine own_iload X50 hx (hb hby at_216) rfl 218 rfl ?_
            refine own_goto X50 hx (hb hby at_218) 222 (by decide) (by decide) ?_
            refine own_istore X50 hx (#[.val (.int p1), .val (.int p2), .val (.int p3), .val (.int p4), .val (.int p5), .val (.int p6), .val (.int (0 : Int32)), .val (.int (1 : Int32)), .val (.int (0 : Int32)), .val (.int (0 : Int32)), .val (.ref ca), .val (.ref mm), .val (.int p4), .val (.int p5), .val (.int p6), .val (.int (own_f_exp p6 p5 p4)), .val (.int p4)]) (hb hby at_222) rfl 224 rfl ?_
            refine own_iload X50 hx (hb hby at_224) rfl 226 rfl ?_
            refine own_iload X50 hx (hb hby at_226) rfl 228 rfl ?_
            refine own_icmpF X50 hx (hb hby at_228) (teq (own_exp_T hc51)).2 231 rfl ?_
            refine own_iconst X50 hx (z := (1 : Int32)) (hb hby at_231) rfl 232 rfl ?_
            refine own_goto X50 hx (hb hby at_232) 236 (by decide) (by decide) ?_
            exact own_retNS X50 hx hS hret (Or.inl rfl) hlk (hb hby at_236) (by decide) (by decide) N50 e50 Hk_49 rfl
          · refine own_icmpT X50 hx (hb hby at_213) (feq hc51).2 221 (by decide) (by decide) ?_
            refine own_iconst X50 hx (z := (-1 : Int32)) (hb hby at_221) rfl 222 rfl ?_
            refine own_istore X50 hx (#[.val (.int p1), .val (.int p2), .val (.int p3), .val (.int p4), .val (.int p5), .val (.int p6), .val (.int (0 : Int32)), .val (.int (1 : Int32)), .val (.int (0 : Int32)), .val (.int (0 : Int32)), .val (.ref ca), .val (.ref mm), .val (.int p4), .val (.int p5), .val (.int p6), .val (.int (own_f_exp p6 p5 p4)), .val (.int (-1 : Int32))]) (hb hby at_222) rfl 224 rfl ?_
            refine own_iload X50 hx (hb hby at_224) rfl 226 rfl ?_
            refine own_iload X50 hx (hb hby at_226) rfl 228 rfl ?_
            refine own_icmpF X50 hx (hb hby at_228) (teq (own_exp_F hc51)).2 231 rfl ?_
            refine own_iconst X50 hx (z := (1 : Int32)) (hb hby at_231) rfl 232 rfl ?_
            refine own_goto X50 hx (hb hby at_232) 236 (by decide) (by decide) ?_
            exact own_retNS X50 hx hS hret (Or.inl rfl) hlk (hb hby at_236) (by decide) (by decide) N50 e50 Hk_49 rfl
        · refine own_ifcF X0 hx (hb hby at_43) (feq hc41).1 46 rfl ?_
          refine own_iconst X0 hx (z := (1 : Int32)) (hb hby at_46) rfl 47 rfl ?_
          refine own_goto X0 hx (hb hby at_47) 51 (by decide) (by decide) ?_
          refine own_istore X0 hx (#[.val (.int p1), .val (.int p2), .val (.int p3), .val (.int p4), .val (.int p5), .val (.int p6), .val (.int (0 : Int32)), .val (.int (1 : Int32)), .val (.int (0 : Int32)), .val (.int (1 : Int32)), .unset, .unset, .unset, .unset, .unset, .unset, .unset]) (hb hby at_51) rfl 53 rfl ?_
          refine own_iconst X0 hx (z := (2 : Int32)) (hb hby at_53) rfl 54 rfl ?_
          refine own_newP (aty := .char) X0 hx hZ (own_w0 hw) e0 (hb hby at_54) (by decide) 2 (by decide) (by decide) (by decide) (by decide) 56 rfl (fun T52 h52 cA52 ca g52 X52 e52 E52 B52 => ?_)
          have gn_ca : n0 ≤ ca := Nat.le_trans Z0 (Nat.le_of_eq g52.symm)
          have Z0_52 := Nat.le_trans Z0 E52.1
          have O0_52 := O0.ext E52
          have A_ca_52 : own_A Z h52 ca .char 2 (fun _ => 0) := own_A.new B52 (by decide) rfl
          refine own_dup X52 hx (hb hby at_56) rfl 57 rfl ?_
          refine own_iconst X52 hx (z := (0 : Int32)) (hb hby at_57) rfl 58 rfl ?_
          refine own_iloadN X52 hx (hb hby at_58) rfl 59 rfl ?_
          refine own_bipush X52 hx (z := (8 : Int32)) (hb hby at_59) rfl 61 rfl ?_
          refine own_iushr X52 hx (hb hby at_61) 62 rfl ?_
          refine own_sipush X52 hx (z := (255 : Int32)) (hb hby at_62) rfl 65 rfl ?_
          refine own_iand X52 hx (hb hby at_65) 66 rfl ?_
          refine own_i2c X52 hx (hb hby at_66) 67 rfl ?_
          refine own_castore X52 hx hZ e52 A_ca_52 ⟨by decide, by decide⟩ (hb hby at_67) N0 gn_ca 68 rfl (fun T53 h53 l53 X53 N53 e53 W53 => ?_)
          have Z0_53 := Nat.le_trans Z0_52 (Nat.le_of_eq W53.size.symm)
          have O0_53 := O0_52.wr W53 gn_ca
          have A_ca_53 := A_ca_52.set W53
          refine own_dup X53 hx (hb hby at_68) rfl 69 rfl ?_
          refine own_iconst X53 hx (z := (1 : Int32)) (hb hby at_69) rfl 70 rfl ?_
          refine own_iloadN X53 hx (hb hby at_70) rfl 71 rfl ?_
          refine own_bipush X53 hx (z := (16 : Int32)) (hb hby at_71) rfl 73 rfl ?_
          refine own_iushr X53 hx (hb hby at_73) 74 rfl ?_
          refine own_sipush X53 hx (z := (255 : Int32)) (hb hby at_74) rfl 77 rfl ?_
          refine own_iand X53 hx (hb hby at_77) 78 rfl ?_
          refine own_i2c X53 hx (hb hby at_78) 79 rfl ?_
          refine own_castore X53 hx hZ e53 A_ca_53 ⟨by decide, by decide⟩ (hb hby at_79) N53 gn_ca 80 rfl (fun T54 h54 l54 X54 N54 e54 W54 => ?_)
          have Z0_54 := Nat.le_trans Z0_53 (Nat.le_of_eq W54.size.symm)
          have O0_54 := O0_53.wr W54 gn_ca
          have A_ca_54 := A_ca_53.set W54
          refine own_astore X54 hx (#[.val (.int p1), .val (.int p2), .val (.int p3), .val (.int p4), .val (.int p5), .val (.int p6), .val (.int (0 : Int32)), .val (.int (1 : Int32)), .val (.int (0 : Int32)), .val (.int (1 : Int32)), .val (.ref ca), .unset, .unset, .unset, .unset, .unset, .unset]) (hb hby at_80) rfl rfl 82 rfl ?_
          refine own_newO X54 hx hZ hown (own_w1 hw) (own_w2 hw) (own_w3 hw) e54 (hb hby at_82) (by decide) (by decide) 85 rfl (fun T55 h55 mm g55 X55 e55 E55 B55 D55 => ?_)
          have o_ca_mm : ca < mm := Nat.lt_of_lt_of_eq A_ca_54.lt g55.symm
          have gn_mm : n0 ≤ mm := Nat.le_trans Z0_54 (Nat.le_of_eq g55.symm)
          have Z0_55 := Nat.le_trans Z0_54 E55.1
          have O0_55 := O0_54.ext E55
          have A_ca_55 := A_ca_54.ext E55
          have F_asElement_mm_55 : Fld Z h55 mm "com/example/xqwry/xqwry/MarkupName" "asElement" "Lcom/example/xqwry/xqwry/MarkupName$Resolution;" .null := D55 (Or.inr (own_w49 hw)) (ty := (.object "com/example/xqwry/xqwry/MarkupName$Resolution")) (by decide)
          have F_asAttribute_mm_55 : Fld Z h55 mm "com/example/xqwry/xqwry/MarkupName" "asAttribute" "Lcom/example/xqwry/xqwry/MarkupName$Resolution;" .null := D55 (Or.inr (own_w51 hw)) (ty := (.object "com/example/xqwry/xqwry/MarkupName$Resolution")) (by decide)
          have F_lexicalName_mm_55 : Fld Z h55 mm "com/example/xqwry/xqwry/MarkupName" "lexicalName" "Ljava/lang/String;" .null := D55 (Or.inr (own_w53 hw)) (ty := (.object "java/lang/String")) (by decide)
          have F_prefixed_mm_55 : Fld Z h55 mm "com/example/xqwry/xqwry/MarkupName" "prefixed" "Z" (.int (0 : Int32)) := D55 (Or.inr (own_w97 hw)) (ty := .boolean) (by decide)
          have F_declaredPrefix_mm_55 : Fld Z h55 mm "com/example/xqwry/xqwry/MarkupName" "declaredPrefix" "Ljava/lang/String;" .null := D55 (Or.inr (own_w122 hw)) (ty := (.object "java/lang/String")) (by decide)
          refine own_dup X55 hx (hb hby at_85) rfl 86 rfl ?_
          refine own_newO X55 hx hZ hown (own_w4 hw) (own_w5 hw) (own_w6 hw) e55 (hb hby at_86) (by decide) (by decide) 89 rfl (fun T56 h56 sa g56 X56 e56 E56 B56 D56 => ?_)
          have o_ca_sa : ca < sa := Nat.lt_of_lt_of_eq A_ca_55.lt g56.symm
          have o_mm_sa : mm < sa := Nat.lt_of_lt_of_eq B55.lt g56.symm
          have gn_sa : n0 ≤ sa := Nat.le_trans Z0_55 (Nat.le_of_eq g56.symm)
          have Z0_56 := Nat.le_trans Z0_55 E56.1
          have O0_56 := O0_55.ext E56
          have A_ca_56 := A_ca_55.ext E56
          have B55_56 := B55.ext E56
          have F_asElement_mm_56 := F_asElement_mm_55.ext E56
          have F_asAttribute_mm_56 := F_asAttribute_mm_55.ext E56
          have F_lexicalName_mm_56 := F_lexicalName_mm_55.ext E56
          have F_prefixed_mm_56 := F_prefixed_mm_55.ext E56
          have F_declaredPrefix_mm_56 := F_declaredPrefix_mm_55.ext E56
          have F_coder_sa_56 : Fld Z h56 sa "java/lang/String" "coder" "B" (.int (0 : Int32)) := D56 (Or.inr (own_w30 hw)) (ty := .byte) (by decide)
          have F_value_sa_56 : Fld Z h56 sa "java/lang/String" "value" "[B" .null := D56 (Or.inr (own_w32 hw)) (ty := (.array .byte)) (by decide)
          refine own_dup X56 hx (hb hby at_89) rfl 90 rfl ?_
          refine own_aload X56 hx (hb hby at_90) rfl rfl 92 rfl ?_
          refine own_callI X56 hx hZ hown rfl (own_w7 hw) (own_w8 hw) (own_w6 hw) (own_w9 hw) (by decide) 3 (own_m_sic1 l Z a0 hw _ n0 A_ca_56 B56 F_value_sa_56 F_coder_sa_56 gn_sa (Nat.ne_of_lt o_ca_sa) Z0_56 (own_hc _ _) hcz (SC0.ext O0_56.2)) e56 (by rw [hml]; rfl) sa [(.ref ca)] [(.ref sa), (.ref mm), (.ref mm)] rfl (lenOf own_pd_16 rfl) rfl (Nat.le_of_eq rfl) (by decide) (by decide) (by decide) (by decide) (hb hby at_92) N54 95 rfl (fun v57 T57 l57 X57 N57 hP57 => ?_)
          obtain ⟨rfl, sb, fs57, C_sa, V_sa, A_sb, o_sa_sb, K57'⟩ := hP57
          have Z0_57 := Nat.le_trans Z0_56 K57'.1
          have O0_57 := O0_56.keep K57' (allS gn_sa all0)
          have A_ca_57 := A_ca_56.keep K57' (ninS (Nat.ne_of_lt o_ca_sa) nin0)
          have B55_57 := B55_56.keep K57'
          have F_asElement_mm_57 := F_asElement_mm_56.keep K57' (ninS (Nat.ne_of_lt o_mm_sa) nin0)
          have F_asAttribute_mm_57 := F_asAttribute_mm_56.keep K57' (ninS (Nat.ne_of_lt o_mm_sa) nin0)
          have F_lexicalName_mm_57 := F_lexicalName_mm_56.keep K57' (ninS (Nat.ne_of_lt o_mm_sa) nin0)
          have F_prefixed_mm_57 := F_prefixed_mm_56.keep K57' (ninS (Nat.ne_of_lt o_mm_sa) nin0)
          have F_declaredPrefix_mm_57 := F_declaredPrefix_mm_56.keep K57' (ninS (Nat.ne_of_lt o_mm_sa) nin0)
          have B56_57 := B56.keep K57'
          have o_mm_sb : mm < sb := Nat.lt_trans o_mm_sa o_sa_sb
          show own_G p e below _ (T57.setTop (mkF m 95 #[.val (.int p1), .val (.int p2), .val (.int p3), .val (.int p4), .val (.int p5), .val (.int p6), .val (.int (0 : Int32)), .val (.int (1 : Int32)), .val (.int (0 : Int32)), .val (.int (1 : Int32)), .val (.ref ca), .unset, .unset, .unset, .unset, .unset, .unset] [(.ref sa), (.ref mm), (.ref mm)]))
          refine own_callIS X57 hx hZH hown rfl (own_w33 hw) (own_w34 hw) (own_w3 hw) (own_w35 hw) (by decide) 1 (own_m_minit l Z a0 hw _ n0 B55_57 F_lexicalName_mm_57 F_prefixed_mm_57 F_declaredPrefix_mm_57 F_asElement_mm_57 F_asAttribute_mm_57 B56_57 C_sa V_sa A_sb gn_mm gn_sa o_mm_sa o_sa_sb o_mm_sb Z0_57 O0_57 wS hH33 hH44 hcw hcz SC0) rfl (by rw [hml]; rfl) mm [.ref sa] [(.ref mm)] rfl (lenOf own_pd_17 rfl) rfl (Nat.le_of_eq rfl) (by decide) (by decide) (by decide) (by decide) (hb hby at_95) N57 98 rfl (fun v58 T58 l58 X58 N58 hS hZ hown hP58 => ?_)
          obtain ⟨rfl, re, ra, FE, FA, Ee, Ea, F1, F2, F3, F4, o_mm_re, o_re_ra, K58'⟩ := hP58
          have E_mm := B55_57.keep K58'
          have o_mm_ra : mm < ra := Nat.lt_trans o_mm_re o_re_ra
          have gn_re : n0 ≤ re := Nat.le_trans gn_mm (Nat.le_of_lt o_mm_re)
          have gn_ra : n0 ≤ ra := Nat.le_trans gn_mm (Nat.le_of_lt o_mm_ra)
          have Hk := Nat.le_refl T58.heap.size
          show own_G p e below _ (T58.setTop (mkF m 98 #[.val (.int p1), .val (.int p2), .val (.int p3), .val (.int p4), .val (.int p5), .val (.int p6), .val (.int (0 : Int32)), .val (.int (1 : Int32)), .val (.int (0 : Int32)), .val (.int (1 : Int32)), .val (.ref ca), .unset, .unset, .unset, .unset, .unset, .unset] [(.ref mm)]))
          refine own_astore X58 hx (#[.val (.int p1), .val (.int p2), .val (.int p3), .val (.int p4), .val (.int p5), .val (.int p6), .val (.int (0 : Int32)), .val (.int (1 : Int32)), .val (.int (0 : Int32)), .val (.int (1 : Int32)), .val (.ref ca), .val (.ref mm), .unset, .unset, .unset, .unset, .unset]) (hb hby at_98) rfl rfl 100 rfl ?_
          refine own_iload X58 hx (hb hby at_100) rfl 102 rfl ?_
          refine own_ifcT X58 hx (hb hby at_102) (teq (by decide)).1 113 (by decide) (by decide) ?_
          refine own_iload X58 hx (hb hby at_113) rfl 115 rfl ?_
          refine own_ifcF X58 hx (hb hby at_115) (feq (by decide)).1 118 rfl ?_
          refine own_aload X58 hx (hb hby at_118) rfl rfl 120 rfl ?_
          refine own_iconst X58 hx (z := (0 : Int32)) (hb hby at_120) rfl 121 rfl ?_
          refine own_iloadN X58 hx (hb hby at_121) rfl 122 rfl ?_
          refine own_iload X58 hx (hb hby at_122) rfl 124 rfl ?_
          refine own_callV X58 hx hZ hown (own_w129 hw) (own_w130 hw) (own_w132 hw) (own_w131 hw) (own_w3 hw) (own_w133 hw) (by decide) 0 (own_m_keep0 l Z a0 hw _ n0 FE FA Ea F3 F4 gn_ra (Nat.ne_of_lt o_mm_ra) (0 : Int32) p4 p5 (by decide)) rfl E_mm (by rw [hml]; rfl) [(.int (0 : Int32)), (.int p4), (.int p5)] [] rfl (lenOf own_pd_19 rfl) rfl (Nat.le_of_eq rfl) (by decide) (by decide) (by decide) (by decide) (hb hby at_124) N58 127 rfl (fun v59 T59 l59 X59 N59 hP59 => ?_)
          obtain ⟨rfl, Gn59, Gc59, K59'⟩ := hP59
          have Hk_59 := Nat.le_trans Hk K59'.1
          have E_mm_59 := E_mm.keep K59'
          have FE_59 := FE.keep K59' (ninS (Nat.ne_of_lt o_mm_ra) nin0)
          have FA_59 := FA.keep K59' (ninS (Nat.ne_of_lt o_mm_ra) nin0)
          have Ee_59 := Ee.keep K59'
          have Ea_59 := Ea.keep K59'
          have F1_59 := F1.keep K59' (ninS (Nat.ne_of_lt o_re_ra) nin0)
          have F2_59 := F2.keep K59' (ninS (Nat.ne_of_lt o_re_ra) nin0)
          show own_G p e below _ (T59.setTop (mkF m 127 #[.val (.int p1), .val (.int p2), .val (.int p3), .val (.int p4), .val (.int p5), .val (.int p6), .val (.int (0 : Int32)), .val (.int (1 : Int32)), .val (.int (0 : Int32)), .val (.int (1 : Int32)), .val (.ref ca), .val (.ref mm), .unset, .unset, .unset, .unset, .unset] []))
          refine own_iload X59 hx (hb hby at_127) rfl 129 rfl ?_
          refine own_ifcT X59 hx (hb hby at_129) (teq (by decide)).1 159 (by decide) (by decide) ?_
          refine own_iload X59 hx (hb hby at_159) rfl 161 rfl ?_
          refine own_ifcF X59 hx (hb hby at_161) (feq (by decide)).1 164 rfl ?_
          refine own_iloadN X59 hx (hb hby at_164) rfl 165 rfl ?_
          refine own_goto X59 hx (hb hby at_165) 169 (by decide) (by decide) ?_
          refine own_istore X59 hx (#[.val (.int p1), .val (.int p2), .val (.int p3), .val (.int p4), .val (.int p5), .val (.int p6), .val (.int (0 : Int32)), .val (.int (1 : Int32)), .val (.int (0 : Int32)), .val (.int (1 : Int32)), .val (.ref ca), .val (.ref mm), .val (.int p4), .unset, .unset, .unset, .unset]) (hb hby at_169) rfl 171 rfl ?_
          refine own_iload X59 hx (hb hby at_171) rfl 173 rfl ?_
          refine own_ifcF X59 hx (hb hby at_173) (feq (by decide)).1 176 rfl ?_
          refine own_iload X59 hx (hb hby at_176) rfl 178 rfl ?_
          refine own_goto X59 hx (hb hby at_178) 182 (by decide) (by decide) ?_
          refine own_istore X59 hx (#[.val (.int p1), .val (.int p2), .val (.int p3), .val (.int p4), .val (.int p5), .val (.int p6), .val (.int (0 : Int32)), .val (.int (1 : Int32)), .val (.int (0 : Int32)), .val (.int (1 : Int32)), .val (.ref ca), .val (.ref mm), .val (.int p4), .val (.int p5), .unset, .unset, .unset]) (hb hby at_182) rfl 184 rfl ?_
          refine own_iload X59 hx (hb hby at_184) rfl 186 rfl ?_
          refine own_ifcF X59 hx (hb hby at_186) (feq (by decide)).1 189 rfl ?_
          refine own_iload X59 hx (hb hby at_189) rfl 191 rfl ?_
          refine own_goto X59 hx (hb hby at_191) 196 (by decide) (by decide) ?_
          refine own_istore X59 hx (#[.val (.int p1), .val (.int p2), .val (.int p3), .val (.int p4), .val (.int p5), .val (.int p6), .val (.int (0 : Int32)), .val (.int (1 : Int32)), .val (.int (0 : Int32)), .val (.int (1 : Int32)), .val (.ref ca), .val (.ref mm), .val (.int p4), .val (.int p5), .val (.int p5), .unset, .unset]) (hb hby at_196) rfl 198 rfl ?_
          refine own_aload X59 hx (hb hby at_198) rfl rfl 200 rfl ?_
          refine own_iload X59 hx (hb hby at_200) rfl 202 rfl ?_
          refine own_iload X59 hx (hb hby at_202) rfl 204 rfl ?_
          refine own_callV X59 hx hZ hown (own_w123 hw) (own_w124 hw) (own_w126 hw) (own_w125 hw) (own_w3 hw) (own_w127 hw) (by decide) 0 (own_m_res l Z a0 hw _ n0 FE_59 FA_59 F1_59 F2_59 Gn59 Gc59 (0 : Int32) p5 (r := p4) (own_res_n0 _ _ _ _)) rfl E_mm_59 (by rw [hml]; rfl) [(.int (0 : Int32)), (.int p5)] [] rfl (lenOf own_pd_18 rfl) rfl (Nat.le_of_eq rfl) (by decide) (by decide) (by decide) (by decide) (hb hby at_204) N59 207 rfl (fun v60 T60 l60 X60 N60 hP60 => ?_)
          obtain ⟨rfl, e60⟩ := hP60
          show own_G p e below _ (T60.setTop (mkF m 207 #[.val (.int p1), .val (.int p2), .val (.int p3), .val (.int p4), .val (.int p5), .val (.int p6), .val (.int (0 : Int32)), .val (.int (1 : Int32)), .val (.int (0 : Int32)), .val (.int (1 : Int32)), .val (.ref ca), .val (.ref mm), .val (.int p4), .val (.int p5), .val (.int p5), .unset, .unset] [(.int p4)]))
          refine own_istore X60 hx (#[.val (.int p1), .val (.int p2), .val (.int p3), .val (.int p4), .val (.int p5), .val (.int p6), .val (.int (0 : Int32)), .val (.int (1 : Int32)), .val (.int (0 : Int32)), .val (.int (1 : Int32)), .val (.ref ca), .val (.ref mm), .val (.int p4), .val (.int p5), .val (.int p5), .val (.int p4), .unset]) (hb hby at_207) rfl 209 rfl ?_
          refine own_iload X60 hx (hb hby at_209) rfl 211 rfl ?_
          refine own_iload X60 hx (hb hby at_211) rfl 213 rfl ?_
          refine own_icmpF X60 hx (hb hby at_213) (teq rfl).2 216 rfl ?_
          refine own_iload X60 hx (hb hby at_216) rfl 218 rfl ?_
          refine own_goto X60 hx (hb hby at_218) 222 (by decide) (by decide) ?_
          refine own_istore X60 hx (#[.val (.int p1), .val (.int p2), .val (.int p3), .val (.int p4), .val (.int p5), .val (.int p6), .val (.int (0 : Int32)), .val (.int (1 : Int32)), .val (.int (0 : Int32)), .val (.int (1 : Int32)), .val (.ref ca), .val (.ref mm), .val (.int p4), .val (.int p5), .val (.int p5), .val (.int p4), .val (.int p4)]) (hb hby at_222) rfl 224 rfl ?_
          refine own_iload X60 hx (hb hby at_224) rfl 226 rfl ?_
          refine own_iload X60 hx (hb hby at_226) rfl 228 rfl ?_
          refine own_icmpF X60 hx (hb hby at_228) (teq rfl).2 231 rfl ?_
          refine own_iconst X60 hx (z := (1 : Int32)) (hb hby at_231) rfl 232 rfl ?_
          refine own_goto X60 hx (hb hby at_232) 236 (by decide) (by decide) ?_
          exact own_retNS X60 hx hS hret (Or.inl rfl) hlk (hb hby at_236) (by decide) (by decide) N60 e60 Hk_59 rfl
      · refine own_ifcF X0 hx (hb hby at_29) (feq hc40).1 32 rfl ?_
        refine own_iconst X0 hx (z := (1 : Int32)) (hb hby at_32) rfl 33 rfl ?_
        refine own_goto X0 hx (hb hby at_33) 37 (by decide) (by decide) ?_
        refine own_istore X0 hx (#[.val (.int p1), .val (.int p2), .val (.int p3), .val (.int p4), .val (.int p5), .val (.int p6), .val (.int (0 : Int32)), .val (.int (1 : Int32)), .val (.int (1 : Int32)), .unset, .unset, .unset, .unset, .unset, .unset, .unset, .unset]) (hb hby at_37) rfl 39 rfl ?_
        refine own_iloadN X0 hx (hb hby at_39) rfl 40 rfl ?_
        refine own_bipush X0 hx (z := (8 : Int32)) (hb hby at_40) rfl 42 rfl ?_
        refine own_iand X0 hx (hb hby at_42) 43 rfl ?_
        by_cases hc61 : (p1 &&& (8 : Int32)) = (0 : Int32)
        · refine own_ifcT X0 hx (hb hby at_43) (teq hc61).1 50 (by decide) (by decide) ?_
          refine own_iconst X0 hx (z := (0 : Int32)) (hb hby at_50) rfl 51 rfl ?_
          refine own_istore X0 hx (#[.val (.int p1), .val (.int p2), .val (.int p3), .val (.int p4), .val (.int p5), .val (.int p6), .val (.int (0 : Int32)), .val (.int (1 : Int32)), .val (.int (1 : Int32)), .val (.int (0 : Int32)), .unset, .unset, .unset, .unset, .unset, .unset, .unset]) (hb hby at_51) rfl 53 rfl ?_
          refine own_iconst X0 hx (z := (2 : Int32)) (hb hby at_53) rfl 54 rfl ?_
          refine own_newP (aty := .char) X0 hx hZ (own_w0 hw) e0 (hb hby at_54) (by decide) 2 (by decide) (by decide) (by decide) (by decide) 56 rfl (fun T62 h62 cA62 ca g62 X62 e62 E62 B62 => ?_)
          have gn_ca : n0 ≤ ca := Nat.le_trans Z0 (Nat.le_of_eq g62.symm)
          have Z0_62 := Nat.le_trans Z0 E62.1
          have O0_62 := O0.ext E62
          have A_ca_62 : own_A Z h62 ca .char 2 (fun _ => 0) := own_A.new B62 (by decide) rfl
          refine own_dup X62 hx (hb hby at_56) rfl 57 rfl ?_
          refine own_iconst X62 hx (z := (0 : Int32)) (hb hby at_57) rfl 58 rfl ?_
          refine own_iloadN X62 hx (hb hby at_58) rfl 59 rfl ?_
          refine own_bipush X62 hx (z := (8 : Int32)) (hb hby at_59) rfl 61 rfl ?_
          refine own_iushr X62 hx (hb hby at_61) 62 rfl ?_
          refine own_sipush X62 hx (z := (255 : Int32)) (hb hby at_62) rfl 65 rfl ?_
          refine own_iand X62 hx (hb hby at_65) 66 rfl ?_
          refine own_i2c X62 hx (hb hby at_66) 67 rfl ?_
          refine own_castore X62 hx hZ e62 A_ca_62 ⟨by decide, by decide⟩ (hb hby at_67) N0 gn_ca 68 rfl (fun T63 h63 l63 X63 N63 e63 W63 => ?_)
          have Z0_63 := Nat.le_trans Z0_62 (Nat.le_of_eq W63.size.symm)
          have O0_63 := O0_62.wr W63 gn_ca
          have A_ca_63 := A_ca_62.set W63
          refine own_dup X63 hx (hb hby at_68) rfl 69 rfl ?_
          refine own_iconst X63 hx (z := (1 : Int32)) (hb hby at_69) rfl 70 rfl ?_
          refine own_iloadN X63 hx (hb hby at_70) rfl 71 rfl ?_
          refine own_bipush X63 hx (z := (16 : Int32)) (hb hby at_71) rfl 73 rfl ?_
          refine own_iushr X63 hx (hb hby at_73) 74 rfl ?_
          refine own_sipush X63 hx (z := (255 : Int32)) (hb hby at_74) rfl 77 rfl ?_
          refine own_iand X63 hx (hb hby at_77) 78 rfl ?_
          refine own_i2c X63 hx (hb hby at_78) 79 rfl ?_
          refine own_castore X63 hx hZ e63 A_ca_63 ⟨by decide, by decide⟩ (hb hby at_79) N63 gn_ca 80 rfl (fun T64 h64 l64 X64 N64 e64 W64 => ?_)
          have Z0_64 := Nat.le_trans Z0_63 (Nat.le_of_eq W64.size.symm)
          have O0_64 := O0_63.wr W64 gn_ca
          have A_ca_64 := A_ca_63.set W64
          refine own_astore X64 hx (#[.val (.int p1), .val (.int p2), .val (.int p3), .val (.int p4), .val (.int p5), .val (.int p6), .val (.int (0 : Int32)), .val (.int (1 : Int32)), .val (.int (1 : Int32)), .val (.int (0 : Int32)), .val (.ref ca), .unset, .unset, .unset, .unset, .unset, .unset]) (hb hby at_80) rfl rfl 82 rfl ?_
          refine own_newO X64 hx hZ hown (own_w1 hw) (own_w2 hw) (own_w3 hw) e64 (hb hby at_82) (by decide) (by decide) 85 rfl (fun T65 h65 mm g65 X65 e65 E65 B65 D65 => ?_)
          have o_ca_mm : ca < mm := Nat.lt_of_lt_of_eq A_ca_64.lt g65.symm
          have gn_mm : n0 ≤ mm := Nat.le_trans Z0_64 (Nat.le_of_eq g65.symm)
          have Z0_65 := Nat.le_trans Z0_64 E65.1
          have O0_65 := O0_64.ext E65
          have A_ca_65 := A_ca_64.ext E65
          have F_asElement_mm_65 : Fld Z h65 mm "com/example/xqwry/xqwry/MarkupName" "asElement" "Lcom/example/xqwry/xqwry/MarkupName$Resolution;" .null := D65 (Or.inr (own_w49 hw)) (ty := (.object "com/example/xqwry/xqwry/MarkupName$Resolution")) (by decide)
          have F_asAttribute_mm_65 : Fld Z h65 mm "com/example/xqwry/xqwry/MarkupName" "asAttribute" "Lcom/example/xqwry/xqwry/MarkupName$Resolution;" .null := D65 (Or.inr (own_w51 hw)) (ty := (.object "com/example/xqwry/xqwry/MarkupName$Resolution")) (by decide)
          have F_lexicalName_mm_65 : Fld Z h65 mm "com/example/xqwry/xqwry/MarkupName" "lexicalName" "Ljava/lang/String;" .null := D65 (Or.inr (own_w53 hw)) (ty := (.object "java/lang/String")) (by decide)
          have F_prefixed_mm_65 : Fld Z h65 mm "com/example/xqwry/xqwry/MarkupName" "prefixed" "Z" (.int (0 : Int32)) := D65 (Or.inr (own_w97 hw)) (ty := .boolean) (by decide)
          have F_declaredPrefix_mm_65 : Fld Z h65 mm "com/example/xqwry/xqwry/MarkupName" "declaredPrefix" "Ljava/lang/String;" .null := D65 (Or.inr (own_w122 hw)) (ty := (.object "java/lang/String")) (by decide)
          refine own_dup X65 hx (hb hby at_85) rfl 86 rfl ?_
          refine own_newO X65 hx hZ hown (own_w4 hw) (own_w5 hw) (own_w6 hw) e65 (hb hby at_86) (by decide) (by decide) 89 rfl (fun T66 h66 sa g66 X66 e66 E66 B66 D66 => ?_)
          have o_ca_sa : ca < sa := Nat.lt_of_lt_of_eq A_ca_65.lt g66.symm
          have o_mm_sa : mm < sa := Nat.lt_of_lt_of_eq B65.lt g66.symm
          have gn_sa : n0 ≤ sa := Nat.le_trans Z0_65 (Nat.le_of_eq g66.symm)
          have Z0_66 := Nat.le_trans Z0_65 E66.1
          have O0_66 := O0_65.ext E66
          have A_ca_66 := A_ca_65.ext E66
          have B65_66 := B65.ext E66
          have F_asElement_mm_66 := F_asElement_mm_65.ext E66
          have F_asAttribute_mm_66 := F_asAttribute_mm_65.ext E66
          have F_lexicalName_mm_66 := F_lexicalName_mm_65.ext E66
          have F_prefixed_mm_66 := F_prefixed_mm_65.ext E66
          have F_declaredPrefix_mm_66 := F_declaredPrefix_mm_65.ext E66
          have F_coder_sa_66 : Fld Z h66 sa "java/lang/String" "coder" "B" (.int (0 : Int32)) := D66 (Or.inr (own_w30 hw)) (ty := .byte) (by decide)
          have F_value_sa_66 : Fld Z h66 sa "java/lang/String" "value" "[B" .null := D66 (Or.inr (own_w32 hw)) (ty := (.array .byte)) (by decide)
          refine own_dup X66 hx (hb hby at_89) rfl 90 rfl ?_
          refine own_aload X66 hx (hb hby at_90) rfl rfl 92 rfl ?_
          refine own_callI X66 hx hZ hown rfl (own_w7 hw) (own_w8 hw) (own_w6 hw) (own_w9 hw) (by decide) 3 (own_m_sic1 l Z a0 hw _ n0 A_ca_66 B66 F_value_sa_66 F_coder_sa_66 gn_sa (Nat.ne_of_lt o_ca_sa) Z0_66 (own_hc _ _) hcz (SC0.ext O0_66.2)) e66 (by rw [hml]; rfl) sa [(.ref ca)] [(.ref sa), (.ref mm), (.ref mm)] rfl (lenOf own_pd_16 rfl) rfl (Nat.le_of_eq rfl) (by decide) (by decide) (by decide) (by decide) (hb hby at_92) N64 95 rfl (fun v67 T67 l67 X67 N67 hP67 => ?_)
          obtain ⟨rfl, sb, fs67, C_sa, V_sa, A_sb, o_sa_sb, K67'⟩ := hP67
          have Z0_67 := Nat.le_trans Z0_66 K67'.1
          have O0_67 := O0_66.keep K67' (allS gn_sa all0)
          have A_ca_67 := A_ca_66.keep K67' (ninS (Nat.ne_of_lt o_ca_sa) nin0)
          have B65_67 := B65_66.keep K67'
          have F_asElement_mm_67 := F_asElement_mm_66.keep K67' (ninS (Nat.ne_of_lt o_mm_sa) nin0)
          have F_asAttribute_mm_67 := F_asAttribute_mm_66.keep K67' (ninS (Nat.ne_of_lt o_mm_sa) nin0)
          have F_lexicalName_mm_67 := F_lexicalName_mm_66.keep K67' (ninS (Nat.ne_of_lt o_mm_sa) nin0)
          have F_prefixed_mm_67 := F_prefixed_mm_66.keep K67' (ninS (Nat.ne_of_lt o_mm_sa) nin0)
          have F_declaredPrefix_mm_67 := F_declaredPrefix_mm_66.keep K67' (ninS (Nat.ne_of_lt o_mm_sa) nin0)
          have B66_67 := B66.keep K67'
          have o_mm_sb : mm < sb := Nat.lt_trans o_mm_sa o_sa_sb
          show own_G p e below _ (T67.setTop (mkF m 95 #[.val (.int p1), .val (.int p2), .val (.int p3), .val (.int p4), .val (.int p5), .val (.int p6), .val (.int (0 : Int32)), .val (.int (1 : Int32)), .val (.int (1 : Int32)), .val (.int (0 : Int32)), .val (.ref ca), .unset, .unset, .unset, .unset, .unset, .unset] [(.ref sa), (.ref mm), (.ref mm)]))
          refine own_callIS X67 hx hZH hown rfl (own_w33 hw) (own_w34 hw) (own_w3 hw) (own_w35 hw) (by decide) 1 (own_m_minit l Z a0 hw _ n0 B65_67 F_lexicalName_mm_67 F_prefixed_mm_67 F_declaredPrefix_mm_67 F_asElement_mm_67 F_asAttribute_mm_67 B66_67 C_sa V_sa A_sb gn_mm gn_sa o_mm_sa o_sa_sb o_mm_sb Z0_67 O0_67 wS hH33 hH44 hcw hcz SC0) rfl (by rw [hml]; rfl) mm [.ref sa] [(.ref mm)] rfl (lenOf own_pd_17 rfl) rfl (Nat.le_of_eq rfl) (by decide) (by decide) (by decide) (by decide) (hb hby at_95) N67 98 rfl (fun v68 T68 l68 X68 N68 hS hZ hown hP68 => ?_)
          obtain ⟨rfl, re, ra, FE, FA, Ee, Ea, F1, F2, F3, F4, o_mm_re, o_re_ra, K68'⟩ := hP68
          have E_mm := B65_67.keep K68'
          have o_mm_ra : mm < ra := Nat.lt_trans o_mm_re o_re_ra
          have gn_re : n0 ≤ re := Nat.le_trans gn_mm (Nat.le_of_lt o_mm_re)
          have gn_ra : n0 ≤ ra := Nat.le_trans gn_mm (Nat.le_of_lt o_mm_ra)
          have Hk := Nat.le_refl T68.heap.size
          show own_G p e below _ (T68.setTop (mkF m 98 #[.val (.int p1), .val (.int p2), .val (.int p3), .val (.int p4), .val (.int p5), .val (.int p6), .val (.int (0 : Int32)), .val (.int (1 : Int32)), .val (.int (1 : Int32)), .val (.int (0 : Int32)), .val (.ref ca), .unset, .unset, .unset, .unset, .unset, .unset] [(.ref mm)]))
          refine own_astore X68 hx (#[.val (.int p1), .val (.int p2), .val (.int p3), .val (.int p4), .val (.int p5), .val (.int p6), .val (.int (0 : Int32)), .val (.int (1 : Int32)), .val (.int (1 : Int32)), .val (.int (0 : Int32)), .val (.ref ca), .val (.ref mm), .unset, .unset, .unset, .unset, .unset]) (hb hby at_98) rfl rfl 100 rfl ?_
          refine own_iload X68 hx (hb hby at_100) rfl 102 rfl ?_
          refine own_ifcT X68 hx (hb hby at_102) (teq (by decide)).1 113 (by decide) (by decide) ?_
          refine own_iload X68 hx (hb hby at_113) rfl 115 rfl ?_
          refine own_ifcF X68 hx (hb hby at_115) (feq (by decide)).1 118 rfl ?_
          refine own_aload X68 hx (hb hby at_118) rfl rfl 120 rfl ?_
          refine own_iconst X68 hx (z := (0 : Int32)) (hb hby at_120) rfl 121 rfl ?_
          refine own_iloadN X68 hx (hb hby at_121) rfl 122 rfl ?_
          refine own_iload X68 hx (hb hby at_122) rfl 124 rfl ?_
          refine own_callV X68 hx hZ hown (own_w129 hw) (own_w130 hw) (own_w132 hw) (own_w131 hw) (own_w3 hw) (own_w133 hw) (by decide) 0 (own_m_keep0 l Z a0 hw _ n0 FE FA Ea F3 F4 gn_ra (Nat.ne_of_lt o_mm_ra) (0 : Int32) p4 p5 (by decide)) rfl E_mm (by rw [hml]; rfl) [(.int (0 : Int32)), (.int p4), (.int p5)] [] rfl (lenOf own_pd_19 rfl) rfl (Nat.le_of_eq rfl) (by decide) (by decide) (by decide) (by decide) (hb hby at_124) N68 127 rfl (fun v69 T69 l69 X69 N69 hP69 => ?_)
          obtain ⟨rfl, Gn69, Gc69, K69'⟩ := hP69
          have Hk_69 := Nat.le_trans Hk K69'.1
          have E_mm_69 := E_mm.keep K69'
          have FE_69 := FE.keep K69' (ninS (Nat.ne_of_lt o_mm_ra) nin0)
          have FA_69 := FA.keep K69' (ninS (Nat.ne_of_lt o_mm_ra) nin0)
          have Ee_69 := Ee.keep K69'
          have Ea_69 := Ea.keep K69'
          have F1_69 := F1.keep K69' (ninS (Nat.ne_of_lt o_re_ra) nin0)
          have F2_69 := F2.keep K69' (ninS (Nat.ne_of_lt o_re_ra) nin0)
          show own_G p e below _ (T69.setTop (mkF m 127 #[.val (.int p1), .val (.int p2), .val (.int p3), .val (.int p4), .val (.int p5), .val (.int p6), .val (.int (0 : Int32)), .val (.int (1 : Int32)), .val (.int (1 : Int32)), .val (.int (0 : Int32)), .val (.ref ca), .val (.ref mm), .unset, .unset, .unset, .unset, .unset] []))
          refine own_iload X69 hx (hb hby at_127) rfl 129 rfl ?_
          refine own_ifcF X69 hx (hb hby at_129) (feq (by decide)).1 132 rfl ?_
          refine own_iload X69 hx (hb hby at_132) rfl 134 rfl ?_
          refine own_ifcT X69 hx (hb hby at_134) (teq (by decide)).1 141 (by decide) (by decide) ?_
          refine own_iconst X69 hx (z := (-1 : Int32)) (hb hby at_141) rfl 142 rfl ?_
          refine own_istore X69 hx (#[.val (.int p1), .val (.int p2), .val (.int p3), .val (.int p4), .val (.int p5), .val (.int p6), .val (.int (0 : Int32)), .val (.int (1 : Int32)), .val (.int (1 : Int32)), .val (.int (0 : Int32)), .val (.ref ca), .val (.ref mm), .val (.int (-1 : Int32)), .unset, .unset, .unset, .unset]) (hb hby at_142) rfl 144 rfl ?_
          refine own_iload X69 hx (hb hby at_144) rfl 146 rfl ?_
          refine own_ifcT X69 hx (hb hby at_146) (teq (by decide)).1 153 (by decide) (by decide) ?_
          refine own_iconst X69 hx (z := (-1 : Int32)) (hb hby at_153) rfl 154 rfl ?_
          refine own_istore X69 hx (#[.val (.int p1), .val (.int p2), .val (.int p3), .val (.int p4), .val (.int p5), .val (.int p6), .val (.int (0 : Int32)), .val (.int (1 : Int32)), .val (.int (1 : Int32)), .val (.int (0 : Int32)), .val (.ref ca), .val (.ref mm), .val (.int (-1 : Int32)), .val (.int (-1 : Int32)), .unset, .unset, .unset]) (hb hby at_154) rfl 156 rfl ?_
          refine own_goto X69 hx (hb hby at_156) 184 (by decide) (by decide) ?_
          refine own_iload X69 hx (hb hby at_184) rfl 186 rfl ?_
          refine own_ifcT X69 hx (hb hby at_186) (teq (by decide)).1 194 (by decide) (by decide) ?_
          refine own_iload X69 hx (hb hby at_194) rfl 196 rfl ?_
          refine own_istore X69 hx (#[.val (.int p1), .val (.int p2), .val (.int p3), .val (.int p4), .val (.int p5), .val (.int p6), .val (.int (0 : Int32)), .val (.int (1 : Int32)), .val (.int (1 : Int32)), .val (.int (0 : Int32)), .val (.ref ca), .val (.ref mm), .val (.int (-1 : Int32)), .val (.int (-1 : Int32)), .val (.int p6), .unset, .unset]) (hb hby at_196) rfl 198 rfl ?_
          refine own_aload X69 hx (hb hby at_198) rfl rfl 200 rfl ?_
          refine own_iload X69 hx (hb hby at_200) rfl 202 rfl ?_
          refine own_iload X69 hx (hb hby at_202) rfl 204 rfl ?_
          refine own_callV X69 hx hZ hown (own_w123 hw) (own_w124 hw) (own_w126 hw) (own_w125 hw) (own_w3 hw) (own_w127 hw) (by decide) 0 (own_m_res l Z a0 hw _ n0 FE_69 FA_69 F1_69 F2_69 Gn69 Gc69 (1 : Int32) p6 (r := (-1 : Int32)) (own_res_m1 _ _ (by simp))) rfl E_mm_69 (by rw [hml]; rfl) [(.int (1 : Int32)), (.int p6)] [] rfl (lenOf own_pd_18 rfl) rfl (Nat.le_of_eq rfl) (by decide) (by decide) (by decide) (by decide) (hb hby at_204) N69 207 rfl (fun v70 T70 l70 X70 N70 hP70 => ?_)
          obtain ⟨rfl, e70⟩ := hP70
          show own_G p e below _ (T70.setTop (mkF m 207 #[.val (.int p1), .val (.int p2), .val (.int p3), .val (.int p4), .val (.int p5), .val (.int p6), .val (.int (0 : Int32)), .val (.int (1 : Int32)), .val (.int (1 : Int32)), .val (.int (0 : Int32)), .val (.ref ca), .val (.ref mm), .val (.int (-1 : Int32)), .val (.int (-1 : Int32)), .val (.int p6), .unset, .unset] [(.int (-1 : Int32))]))
          refine own_istore X70 hx (#[.val (.int p1), .val (.int p2), .val (.int p3), .val (.int p4), .val (.int p5), .val (.int p6), .val (.int (0 : Int32)), .val (.int (1 : Int32)), .val (.int (1 : Int32)), .val (.int (0 : Int32)), .val (.ref ca), .val (.ref mm), .val (.int (-1 : Int32)), .val (.int (-1 : Int32)), .val (.int p6), .val (.int (-1 : Int32)), .unset]) (hb hby at_207) rfl 209 rfl ?_
          refine own_iload X70 hx (hb hby at_209) rfl 211 rfl ?_
          refine own_iload X70 hx (hb hby at_211) rfl 213 rfl ?_
          by_cases hc71 : p6 = (-1 : Int32)
          · refine own_icmpF X70 hx (hb hby at_213) (teq hc71).2 216 rfl ?_
            refine own_iload X70 hx (hb hby at_216) rfl 218 rfl ?_
            refine own_goto X70 hx (hb hby at_218) 222 (by decide) (by decide) ?_
            refine own_istore X70 hx (#[.val (.int p1), .val (.int p2), .val (.int p3), .val (.int p4), .val (.int p5), .val (.int p6), .val (.int (0 : Int32)), .val (.int (1 : Int32)), .val (.int (1 : Int32)), .val (.int (0 : Int32)), .val (.ref ca), .val (.ref mm), .val (.int (-1 : Int32)), .val (.int (-1 : Int32)), .val (.int p6), .val (.int (-1 : Int32)), .val (.int (-1 : Int32))]) (hb hby at_222) rfl 224 rfl ?_
            refine own_iload X70 hx (hb hby at_224) rfl 226 rfl ?_
            refine own_iload X70 hx (hb hby at_226) rfl 228 rfl ?_
            refine own_icmpF X70 hx (hb hby at_228) (teq (by decide)).2 231 rfl ?_
            refine own_iconst X70 hx (z := (1 : Int32)) (hb hby at_231) rfl 232 rfl ?_
            refine own_goto X70 hx (hb hby at_232) 236 (by decide) (by decide) ?_
            exact own_retNS X70 hx hS hret (Or.inl rfl) hlk (hb hby at_236) (by decide) (by decide) N70 e70 Hk_69 rfl
          · refine own_icmpT X70 hx (hb hby at_213) (feq hc71).2 221 (by decide) (by decide) ?_
            refine own_iconst X70 hx (z := (-1 : Int32)) (hb hby at_221) rfl 222 rfl ?_
            refine own_istore X70 hx (#[.val (.int p1), .val (.int p2), .val (.int p3), .val (.int p4), .val (.int p5), .val (.int p6), .val (.int (0 : Int32)), .val (.int (1 : Int32)), .val (.int (1 : Int32)), .val (.int (0 : Int32)), .val (.ref ca), .val (.ref mm), .val (.int (-1 : Int32)), .val (.int (-1 : Int32)), .val (.int p6), .val (.int (-1 : Int32)), .val (.int (-1 : Int32))]) (hb hby at_222) rfl 224 rfl ?_
            refine own_iload X70 hx (hb hby at_224) rfl 226 rfl ?_
            refine own_iload X70 hx (hb hby at_226) rfl 228 rfl ?_
            refine own_icmpF X70 hx (hb hby at_228) (teq (by decide)).2 231 rfl ?_
            refine own_iconst X70 hx (z := (1 : Int32)) (hb hby at_231) rfl 232 rfl ?_
            refine own_goto X70 hx (hb hby at_232) 236 (by decide) (by decide) ?_
            exact own_retNS X70 hx hS hret (Or.inl rfl) hlk (hb hby at_236) (by decide) (by decide) N70 e70 Hk_69 rfl
        · refine own_ifcF X0 hx (hb hby at_43) (feq hc61).1 46 rfl ?_
          refine own_iconst X0 hx (z := (1 : Int32)) (hb hby at_46) rfl 47 rfl ?_
          refine own_goto X0 hx (hb hby at_47) 51 (by decide) (by decide) ?_
          refine own_istore X0 hx (#[.val (.int p1), .val (.int p2), .val (.int p3), .val (.int p4), .val (.int p5), .val (.int p6), .val (.int (0 : Int32)), .val (.int (1 : Int32)), .val (.int (1 : Int32)), .val (.int (1 : Int32)), .unset, .unset, .unset, .unset, .unset, .unset, .unset]) (hb hby at_51) rfl 53 rfl ?_
          refine own_iconst X0 hx (z := (2 : Int32)) (hb hby at_53) rfl 54 rfl ?_
          refine own_newP (aty := .char) X0 hx hZ (own_w0 hw) e0 (hb hby at_54) (by decide) 2 (by decide) (by decide) (by decide) (by decide) 56 rfl (fun T72 h72 cA72 ca g72 X72 e72 E72 B72 => ?_)
          have gn_ca : n0 ≤ ca := Nat.le_trans Z0 (Nat.le_of_eq g72.symm)
          have Z0_72 := Nat.le_trans Z0 E72.1
          have O0_72 := O0.ext E72
          have A_ca_72 : own_A Z h72 ca .char 2 (fun _ => 0) := own_A.new B72 (by decide) rfl
          refine own_dup X72 hx (hb hby at_56) rfl 57 rfl ?_
          refine own_iconst X72 hx (z := (0 : Int32)) (hb hby at_57) rfl 58 rfl ?_
          refine own_iloadN X72 hx (hb hby at_58) rfl 59 rfl ?_
          refine own_bipush X72 hx (z := (8 : Int32)) (hb hby at_59) rfl 61 rfl ?_
          refine own_iushr X72 hx (hb hby at_61) 62 rfl ?_
          refine own_sipush X72 hx (z := (255 : Int32)) (hb hby at_62) rfl 65 rfl ?_
          refine own_iand X72 hx (hb hby at_65) 66 rfl ?_
          refine own_i2c X72 hx (hb hby at_66) 67 rfl ?_
          refine own_castore X72 hx hZ e72 A_ca_72 ⟨by decide, by decide⟩ (hb hby at_67) N0 gn_ca 68 rfl (fun T73 h73 l73 X73 N73 e73 W73 => ?_)
          have Z0_73 := Nat.le_trans Z0_72 (Nat.le_of_eq W73.size.symm)
          have O0_73 := O0_72.wr W73 gn_ca
          have A_ca_73 := A_ca_72.set W73
          refine own_dup X73 hx (hb hby at_68) rfl 69 rfl ?_
          refine own_iconst X73 hx (z := (1 : Int32)) (hb hby at_69) rfl 70 rfl ?_
          refine own_iloadN X73 hx (hb hby at_70) rfl 71 rfl ?_
          refine own_bipush X73 hx (z := (16 : Int32)) (hb hby at_71) rfl 73 rfl ?_
          refine own_iushr X73 hx (hb hby at_73) 74 rfl ?_
          refine own_sipush X73 hx (z := (255 : Int32)) (hb hby at_74) rfl 77 rfl ?_
          refine own_iand X73 hx (hb hby at_77) 78 rfl ?_
          refine own_i2c X73 hx (hb hby at_78) 79 rfl ?_
          refine own_castore X73 hx hZ e73 A_ca_73 ⟨by decide, by decide⟩ (hb hby at_79) N73 gn_ca 80 rfl (fun T74 h74 l74 X74 N74 e74 W74 => ?_)
          have Z0_74 := Nat.le_trans Z0_73 (Nat.le_of_eq W74.size.symm)
          have O0_74 := O0_73.wr W74 gn_ca
          have A_ca_74 := A_ca_73.set W74
          refine own_astore X74 hx (#[.val (.int p1), .val (.int p2), .val (.int p3), .val (.int p4), .val (.int p5), .val (.int p6), .val (.int (0 : Int32)), .val (.int (1 : Int32)), .val (.int (1 : Int32)), .val (.int (1 : Int32)), .val (.ref ca), .unset, .unset, .unset, .unset, .unset, .unset]) (hb hby at_80) rfl rfl 82 rfl ?_
          refine own_newO X74 hx hZ hown (own_w1 hw) (own_w2 hw) (own_w3 hw) e74 (hb hby at_82) (by decide) (by decide) 85 rfl (fun T75 h75 mm g75 X75 e75 E75 B75 D75 => ?_)
          have o_ca_mm : ca < mm := Nat.lt_of_lt_of_eq A_ca_74.lt g75.symm
          have gn_mm : n0 ≤ mm := Nat.le_trans Z0_74 (Nat.le_of_eq g75.symm)
          have Z0_75 := Nat.le_trans Z0_74 E75.1
          have O0_75 := O0_74.ext E75
          have A_ca_75 := A_ca_74.ext E75
          have F_asElement_mm_75 : Fld Z h75 mm "com/example/xqwry/xqwry/MarkupName" "asElement" "Lcom/example/xqwry/xqwry/MarkupName$Resolution;" .null := D75 (Or.inr (own_w49 hw)) (ty := (.object "com/example/xqwry/xqwry/MarkupName$Resolution")) (by decide)
          have F_asAttribute_mm_75 : Fld Z h75 mm "com/example/xqwry/xqwry/MarkupName" "asAttribute" "Lcom/example/xqwry/xqwry/MarkupName$Resolution;" .null := D75 (Or.inr (own_w51 hw)) (ty := (.object "com/example/xqwry/xqwry/MarkupName$Resolution")) (by decide)
          have F_lexicalName_mm_75 : Fld Z h75 mm "com/example/xqwry/xqwry/MarkupName" "lexicalName" "Ljava/lang/String;" .null := D75 (Or.inr (own_w53 hw)) (ty := (.object "java/lang/String")) (by decide)
          have F_prefixed_mm_75 : Fld Z h75 mm "com/example/xqwry/xqwry/MarkupName" "prefixed" "Z" (.int (0 : Int32)) := D75 (Or.inr (own_w97 hw)) (ty := .boolean) (by decide)
          have F_declaredPrefix_mm_75 : Fld Z h75 mm "com/example/xqwry/xqwry/MarkupName" "declaredPrefix" "Ljava/lang/String;" .null := D75 (Or.inr (own_w122 hw)) (ty := (.object "java/lang/String")) (by decide)
          refine own_dup X75 hx (hb hby at_85) rfl 86 rfl ?_
          refine own_newO X75 hx hZ hown (own_w4 hw) (own_w5 hw) (own_w6 hw) e75 (hb hby at_86) (by decide) (by decide) 89 rfl (fun T76 h76 sa g76 X76 e76 E76 B76 D76 => ?_)
          have o_ca_sa : ca < sa := Nat.lt_of_lt_of_eq A_ca_75.lt g76.symm
          have o_mm_sa : mm < sa := Nat.lt_of_lt_of_eq B75.lt g76.symm
          have gn_sa : n0 ≤ sa := Nat.le_trans Z0_75 (Nat.le_of_eq g76.symm)
          have Z0_76 := Nat.le_trans Z0_75 E76.1
          have O0_76 := O0_75.ext E76
          have A_ca_76 := A_ca_75.ext E76
          have B75_76 := B75.ext E76
          have F_asElement_mm_76 := F_asElement_mm_75.ext E76
          have F_asAttribute_mm_76 := F_asAttribute_mm_75.ext E76
          have F_lexicalName_mm_76 := F_lexicalName_mm_75.ext E76
          have F_prefixed_mm_76 := F_prefixed_mm_75.ext E76
          have F_declaredPrefix_mm_76 := F_declaredPrefix_mm_75.ext E76
          have F_coder_sa_76 : Fld Z h76 sa "java/lang/String" "coder" "B" (.int (0 : Int32)) := D76 (Or.inr (own_w30 hw)) (ty := .byte) (by decide)
          have F_value_sa_76 : Fld Z h76 sa "java/lang/String" "value" "[B" .null := D76 (Or.inr (own_w32 hw)) (ty := (.array .byte)) (by decide)
          refine own_dup X76 hx (hb hby at_89) rfl 90 rfl ?_
          refine own_aload X76 hx (hb hby at_90) rfl rfl 92 rfl ?_
          refine own_callI X76 hx hZ hown rfl (own_w7 hw) (own_w8 hw) (own_w6 hw) (own_w9 hw) (by decide) 3 (own_m_sic1 l Z a0 hw _ n0 A_ca_76 B76 F_value_sa_76 F_coder_sa_76 gn_sa (Nat.ne_of_lt o_ca_sa) Z0_76 (own_hc _ _) hcz (SC0.ext O0_76.2)) e76 (by rw [hml]; rfl) sa [(.ref ca)] [(.ref sa), (.ref mm), (.ref mm)] rfl (lenOf own_pd_16 rfl) rfl (Nat.le_of_eq rfl) (by decide) (by decide) (by decide) (by decide) (hb hby at_92) N74 95 rfl (fun v77 T77 l77 X77 N77 hP77 => ?_)
          obtain ⟨rfl, sb, fs77, C_sa, V_sa, A_sb, o_sa_sb, K77'⟩ := hP77
          have Z0_77 := Nat.le_trans Z0_76 K77'.1
          have O0_77 := O0_76.keep K77' (allS gn_sa all0)
          have A_ca_77 := A_ca_76.keep K77' (ninS (Nat.ne_of_lt o_ca_sa) nin0)
          have B75_77 := B75_76.keep K77'
          have F_asElement_mm_77 := F_asElement_mm_76.keep K77' (ninS (Nat.ne_of_lt o_mm_sa) nin0)
          have F_asAttribute_mm_77 := F_asAttribute_mm_76.keep K77' (ninS (Nat.ne_of_lt o_mm_sa) nin0)
          have F_lexicalName_mm_77 := F_lexicalName_mm_76.keep K77' (ninS (Nat.ne_of_lt o_mm_sa) nin0)
          have F_prefixed_mm_77 := F_prefixed_mm_76.keep K77' (ninS (Nat.ne_of_lt o_mm_sa) nin0)
          have F_declaredPrefix_mm_77 := F_declaredPrefix_mm_76.keep K77' (ninS (Nat.ne_of_lt o_mm_sa) nin0)
          have B76_77 := B76.keep K77'
          have o_mm_sb : mm < sb := Nat.lt_trans o_mm_sa o_sa_sb
          show own_G p e below _ (T77.setTop (mkF m 95 #[.val (.int p1), .val (.int p2), .val (.int p3), .val (.int p4), .val (.int p5), .val (.int p6), .val (.int (0 : Int32)), .val (.int (1 : Int32)), .val (.int (1 : Int32)), .val (.int (1 : Int32)), .val (.ref ca), .unset, .unset, .unset, .unset, .unset, .unset] [(.ref sa), (.ref mm), (.ref mm)]))
          refine own_callIS X77 hx hZH hown rfl (own_w33 hw) (own_w34 hw) (own_w3 hw) (own_w35 hw) (by decide) 1 (own_m_minit l Z a0 hw _ n0 B75_77 F_lexicalName_mm_77 F_prefixed_mm_77 F_declaredPrefix_mm_77 F_asElement_mm_77 F_asAttribute_mm_77 B76_77 C_sa V_sa A_sb gn_mm gn_sa o_mm_sa o_sa_sb o_mm_sb Z0_77 O0_77 wS hH33 hH44 hcw hcz SC0) rfl (by rw [hml]; rfl) mm [.ref sa] [(.ref mm)] rfl (lenOf own_pd_17 rfl) rfl (Nat.le_of_eq rfl) (by decide) (by decide) (by decide) (by decide) (hb hby at_95) N77 98 rfl (fun v78 T78 l78 X78 N78 hS hZ hown hP78 => ?_)
          obtain ⟨rfl, re, ra, FE, FA, Ee, Ea, F1, F2, F3, F4, o_mm_re, o_re_ra, K78'⟩ := hP78
          have E_mm := B75_77.keep K78'
          have o_mm_ra : mm < ra := Nat.lt_trans o_mm_re o_re_ra
          have gn_re : n0 ≤ re := Nat.le_trans gn_mm (Nat.le_of_lt o_mm_re)
          have gn_ra : n0 ≤ ra := Nat.le_trans gn_mm (Nat.le_of_lt o_mm_ra)
          have Hk := Nat.le_refl T78.heap.size
          show own_G p e below _ (T78.setTop (mkF m 98 #[.val (.int p1), .val (.int p2), .val (.int p3), .val (.int p4), .val (.int p5), .val (.int p6), .val (.int (0 : Int32)), .val (.int (1 : Int32)), .val (.int (1 : Int32)), .val (.int (1 : Int32)), .val (.ref ca), .unset, .unset, .unset, .unset, .unset, .unset] [(.ref mm)]))
          refine own_astore X78 hx (#[.val (.int p1), .val (.int p2), .val (.int p3), .val (.int p4), .val (.int p5), .val (.int p6), .val (.int (0 : Int32)), .val (.int (1 : Int32)), .val (.int (1 : Int32)), .val (.int (1 : Int32)), .val (.ref ca), .val (.ref mm), .unset, .unset, .unset, .unset, .unset]) (hb hby at_98) rfl rfl 100 rfl ?_
          refine own_iload X78 hx (hb hby at_100) rfl 102 rfl ?_
          refine own_ifcT X78 hx (hb hby at_102) (teq (by decide)).1 113 (by decide) (by decide) ?_
          refine own_iload X78 hx (hb hby at_113) rfl 115 rfl ?_
          refine own_ifcF X78 hx (hb hby at_115) (feq (by decide)).1 118 rfl ?_
          refine own_aload X78 hx (hb hby at_118) rfl rfl 120 rfl ?_
          refine own_iconst X78 hx (z := (0 : Int32)) (hb hby at_120) rfl 121 rfl ?_
          refine own_iloadN X78 hx (hb hby at_121) rfl 122 rfl ?_
          refine own_iload X78 hx (hb hby at_122) rfl 124 rfl ?_
          refine own_callV X78 hx hZ hown (own_w129 hw) (own_w130 hw) (own_w132 hw) (own_w131 hw) (own_w3 hw) (own_w133 hw) (by decide) 0 (own_m_keep0 l Z a0 hw _ n0 FE FA Ea F3 F4 gn_ra (Nat.ne_of_lt o_mm_ra) (0 : Int32) p4 p5 (by decide)) rfl E_mm (by rw [hml]; rfl) [(.int (0 : Int32)), (.int p4), (.int p5)] [] rfl (lenOf own_pd_19 rfl) rfl (Nat.le_of_eq rfl) (by decide) (by decide) (by decide) (by decide) (hb hby at_124) N78 127 rfl (fun v79 T79 l79 X79 N79 hP79 => ?_)
          obtain ⟨rfl, Gn79, Gc79, K79'⟩ := hP79
          have Hk_79 := Nat.le_trans Hk K79'.1
          have E_mm_79 := E_mm.keep K79'
          have FE_79 := FE.keep K79' (ninS (Nat.ne_of_lt o_mm_ra) nin0)
          have FA_79 := FA.keep K79' (ninS (Nat.ne_of_lt o_mm_ra) nin0)
          have Ee_79 := Ee.keep K79'
          have Ea_79 := Ea.keep K79'
          have F1_79 := F1.keep K79' (ninS (Nat.ne_of_lt o_re_ra) nin0)
          have F2_79 := F2.keep K79' (ninS (Nat.ne_of_lt o_re_ra) nin0)
          show own_G p e below _ (T79.setTop (mkF m 127 #[.val (.int p1), .val (.int p2), .val (.int p3), .val (.int p4), .val (.int p5), .val (.int p6), .val (.int (0 : Int32)), .val (.int (1 : Int32)), .val (.int (1 : Int32)), .val (.int (1 : Int32)), .val (.ref ca), .val (.ref mm), .unset, .unset, .unset, .unset, .unset] []))
          refine own_iload X79 hx (hb hby at_127) rfl 129 rfl ?_
          refine own_ifcF X79 hx (hb hby at_129) (feq (by decide)).1 132 rfl ?_
          refine own_iload X79 hx (hb hby at_132) rfl 134 rfl ?_
          refine own_ifcT X79 hx (hb hby at_134) (teq (by decide)).1 141 (by decide) (by decide) ?_
          refine own_iconst X79 hx (z := (-1 : Int32)) (hb hby at_141) rfl 142 rfl ?_
          refine own_istore X79 hx (#[.val (.int p1), .val (.int p2), .val (.int p3), .val (.int p4), .val (.int p5), .val (.int p6), .val (.int (0 : Int32)), .val (.int (1 : Int32)), .val (.int (1 : Int32)), .val (.int (1 : Int32)), .val (.ref ca), .val (.ref mm), .val (.int (-1 : Int32)), .unset, .unset, .unset, .unset]) (hb hby at_142) rfl 144 rfl ?_
          refine own_iload X79 hx (hb hby at_144) rfl 146 rfl ?_
          refine own_ifcT X79 hx (hb hby at_146) (teq (by decide)).1 153 (by decide) (by decide) ?_
          refine own_iconst X79 hx (z := (-1 : Int32)) (hb hby at_153) rfl 154 rfl ?_
          refine own_istore X79 hx (#[.val (.int p1), .val (.int p2), .val (.int p3), .val (.int p4), .val (.int p5), .val (.int p6), .val (.int (0 : Int32)), .val (.int (1 : Int32)), .val (.int (1 : Int32)), .val (.int (1 : Int32)), .val (.ref ca), .val (.ref mm), .val (.int (-1 : Int32)), .val (.int (-1 : Int32)), .unset, .unset, .unset]) (hb hby at_154) rfl 156 rfl ?_
          refine own_goto X79 hx (hb hby at_156) 184 (by decide) (by decide) ?_
          refine own_iload X79 hx (hb hby at_184) rfl 186 rfl ?_
          refine own_ifcF X79 hx (hb hby at_186) (feq (by decide)).1 189 rfl ?_
          refine own_iload X79 hx (hb hby at_189) rfl 191 rfl ?_
          refine own_goto X79 hx (hb hby at_191) 196 (by decide) (by decide) ?_
          refine own_istore X79 hx (#[.val (.int p1), .val (.int p2), .val (.int p3), .val (.int p4), .val (.int p5), .val (.int p6), .val (.int (0 : Int32)), .val (.int (1 : Int32)), .val (.int (1 : Int32)), .val (.int (1 : Int32)), .val (.ref ca), .val (.ref mm), .val (.int (-1 : Int32)), .val (.int (-1 : Int32)), .val (.int (-1 : Int32)), .unset, .unset]) (hb hby at_196) rfl 198 rfl ?_
          refine own_aload X79 hx (hb hby at_198) rfl rfl 200 rfl ?_
          refine own_iload X79 hx (hb hby at_200) rfl 202 rfl ?_
          refine own_iload X79 hx (hb hby at_202) rfl 204 rfl ?_
          refine own_callV X79 hx hZ hown (own_w123 hw) (own_w124 hw) (own_w126 hw) (own_w125 hw) (own_w3 hw) (own_w127 hw) (by decide) 0 (own_m_res l Z a0 hw _ n0 FE_79 FA_79 F1_79 F2_79 Gn79 Gc79 (1 : Int32) (-1 : Int32) (r := (-1 : Int32)) (own_res_m1 _ _ (by simp))) rfl E_mm_79 (by rw [hml]; rfl) [(.int (1 : Int32)), (.int (-1 : Int32))] [] rfl (lenOf own_pd_18 rfl) rfl (Nat.le_of_eq rfl) (by decide) (by decide) (by decide) (by decide) (hb hby at_204) N79 207 rfl (fun v80 T80 l80 X80 N80 hP80 => ?_)
          obtain ⟨rfl, e80⟩ := hP80
          show own_G p e below _ (T80.setTop (mkF m 207 #[.val (.int p1), .val (.int p2), .val (.int p3), .val (.int p4), .val (.int p5), .val (.int p6), .val (.int (0 : Int32)), .val (.int (1 : Int32)), .val (.int (1 : Int32)), .val (.int (1 : Int32)), .val (.ref ca), .val (.ref mm), .val (.int (-1 : Int32)), .val (.int (-1 : Int32)), .val (.int (-1 : Int32)), .unset, .unset] [(.int (-1 : Int32))]))
          refine own_istore X80 hx (#[.val (.int p1), .val (.int p2), .val (.int p3), .val (.int p4), .val (.int p5), .val (.int p6), .val (.int (0 : Int32)), .val (.int (1 : Int32)), .val (.int (1 : Int32)), .val (.int (1 : Int32)), .val (.ref ca), .val (.ref mm), .val (.int (-1 : Int32)), .val (.int (-1 : Int32)), .val (.int (-1 : Int32)), .val (.int (-1 : Int32)), .unset]) (hb hby at_207) rfl 209 rfl ?_
          refine own_iload X80 hx (hb hby at_209) rfl 211 rfl ?_
          refine own_iload X80 hx (hb hby at_211) rfl 213 rfl ?_
          refine own_icmpF X80 hx (hb hby at_213) (teq (by decide)).2 216 rfl ?_
          refine own_iload X80 hx (hb hby at_216) rfl 218 rfl ?_
          refine own_goto X80 hx (hb hby at_218) 222 (by decide) (by decide) ?_
          refine own_istore X80 hx (#[.val (.int p1), .val (.int p2), .val (.int p3), .val (.int p4), .val (.int p5), .val (.int p6), .val (.int (0 : Int32)), .val (.int (1 : Int32)), .val (.int (1 : Int32)), .val (.int (1 : Int32)), .val (.ref ca), .val (.ref mm), .val (.int (-1 : Int32)), .val (.int (-1 : Int32)), .val (.int (-1 : Int32)), .val (.int (-1 : Int32)), .val (.int (-1 : Int32))]) (hb hby at_222) rfl 224 rfl ?_
          refine own_iload X80 hx (hb hby at_224) rfl 226 rfl ?_
          refine own_iload X80 hx (hb hby at_226) rfl 228 rfl ?_
          refine own_icmpF X80 hx (hb hby at_228) (teq (by decide)).2 231 rfl ?_
          refine own_iconst X80 hx (z := (1 : Int32)) (hb hby at_231) rfl 232 rfl ?_
          refine own_goto X80 hx (hb hby at_232) 236 (by decide) (by decide) ?_
          exact own_retNS X80 hx hS hret (Or.inl rfl) hlk (hb hby at_236) (by decide) (by decide) N80 e80 Hk_79 rfl
  · refine own_ifcF X0 hx (hb hby at_3) (feq hc1).1 6 rfl ?_
    refine own_iconst X0 hx (z := (1 : Int32)) (hb hby at_6) rfl 7 rfl ?_
    refine own_goto X0 hx (hb hby at_7) 11 (by decide) (by decide) ?_
    refine own_istore X0 hx (#[.val (.int p1), .val (.int p2), .val (.int p3), .val (.int p4), .val (.int p5), .val (.int p6), .val (.int (1 : Int32)), .unset, .unset, .unset, .unset, .unset, .unset, .unset, .unset, .unset, .unset]) (hb hby at_11) rfl 13 rfl ?_
    refine own_iloadN X0 hx (hb hby at_13) rfl 14 rfl ?_
    refine own_iconst X0 hx (z := (2 : Int32)) (hb hby at_14) rfl 15 rfl ?_
    refine own_iand X0 hx (hb hby at_15) 16 rfl ?_
    by_cases hc81 : (p1 &&& (2 : Int32)) = (0 : Int32)
    · refine own_ifcT X0 hx (hb hby at_16) (teq hc81).1 23 (by decide) (by decide) ?_
      refine own_iconst X0 hx (z := (0 : Int32)) (hb hby at_23) rfl 24 rfl ?_
      refine own_istore X0 hx (#[.val (.int p1), .val (.int p2), .val (.int p3), .val (.int p4), .val (.int p5), .val (.int p6), .val (.int (1 : Int32)), .val (.int (0 : Int32)), .unset, .unset, .unset, .unset, .unset, .unset, .unset, .unset, .unset]) (hb hby at_24) rfl 26 rfl ?_
      refine own_iloadN X0 hx (hb hby at_26) rfl 27 rfl ?_
      refine own_iconst X0 hx (z := (4 : Int32)) (hb hby at_27) rfl 28 rfl ?_
      refine own_iand X0 hx (hb hby at_28) 29 rfl ?_
      by_cases hc82 : (p1 &&& (4 : Int32)) = (0 : Int32)
      · refine own_ifcT X0 hx (hb hby at_29) (teq hc82).1 36 (by decide) (by decide) ?_
        refine own_iconst X0 hx (z := (0 : Int32)) (hb hby at_36) rfl 37 rfl ?_
        refine own_istore X0 hx (#[.val (.int p1), .val (.int p2), .val (.int p3), .val (.int p4), .val (.int p5), .val (.int p6), .val (.int (1 : Int32)), .val (.int (0 : Int32)), .val (.int (0 : Int32)), .unset, .unset, .unset, .unset, .unset, .unset, .unset, .unset]) (hb hby at_37) rfl 39 rfl ?_
        refine own_iloadN X0 hx (hb hby at_39) rfl 40 rfl ?_
        refine own_bipush X0 hx (z := (8 : Int32)) (hb hby at_40) rfl 42 rfl ?_
        refine own_iand X0 hx (hb hby at_42) 43 rfl ?_
        by_cases hc83 : (p1 &&& (8 : Int32)) = (0 : Int32)
        · refine own_ifcT X0 hx (hb hby at_43) (teq hc83).1 50 (by decide) (by decide) ?_
          refine own_iconst X0 hx (z := (0 : Int32)) (hb hby at_50) rfl 51 rfl ?_
          refine own_istore X0 hx (#[.val (.int p1), .val (.int p2), .val (.int p3), .val (.int p4), .val (.int p5), .val (.int p6), .val (.int (1 : Int32)), .val (.int (0 : Int32)), .val (.int (0 : Int32)), .val (.int (0 : Int32)), .unset, .unset, .unset, .unset, .unset, .unset, .unset]) (hb hby at_51) rfl 53 rfl ?_
          refine own_iconst X0 hx (z := (2 : Int32)) (hb hby at_53) rfl 54 rfl ?_
          refine own_newP (aty := .char) X0 hx hZ (own_w0 hw) e0 (hb hby at_54) (by decide) 2 (by decide) (by decide) (by decide) (by decide) 56 rfl (fun T84 h84 cA84 ca g84 X84 e84 E84 B84 => ?_)
          have gn_ca : n0 ≤ ca := Nat.le_trans Z0 (Nat.le_of_eq g84.symm)
          have Z0_84 := Nat.le_trans Z0 E84.1
          have O0_84 := O0.ext E84
          have A_ca_84 : own_A Z h84 ca .char 2 (fun _ => 0) := own_A.new B84 (by decide) rfl
          refine own_dup X84 hx (hb hby at_56) rfl 57 rfl ?_
          refine own_iconst X84 hx (z := (0 : Int32)) (hb hby at_57) rfl 58 rfl ?_
          refine own_iloadN X84 hx (hb hby at_58) rfl 59 rfl ?_
          refine own_bipush X84 hx (z := (8 : Int32)) (hb hby at_59) rfl 61 rfl ?_
          refine own_iushr X84 hx (hb hby at_61) 62 rfl ?_
          refine own_sipush X84 hx (z := (255 : Int32)) (hb hby at_62) rfl 65 rfl ?_
          refine own_iand X84 hx (hb hby at_65) 66 rfl ?_
          refine own_i2c X84 hx (hb hby at_66) 67 rfl ?_
          refine own_castore X84 hx hZ e84 A_ca_84 ⟨by decide, by decide⟩ (hb hby at_67) N0 gn_ca 68 rfl (fun T85 h85 l85 X85 N85 e85 W85 => ?_)
          have Z0_85 := Nat.le_trans Z0_84 (Nat.le_of_eq W85.size.symm)
          have O0_85 := O0_84.wr W85 gn_ca
          have A_ca_85 := A_ca_84.set W85
          refine own_dup X85 hx (hb hby at_68) rfl 69 rfl ?_
          refine own_iconst X85 hx (z := (1 : Int32)) (hb hby at_69) rfl 70 rfl ?_
          refine own_iloadN X85 hx (hb hby at_70) rfl 71 rfl ?_
          refine own_bipush X85 hx (z := (16 : Int32)) (hb hby at_71) rfl 73 rfl ?_
          refine own_iushr X85 hx (hb hby at_73) 74 rfl ?_
          refine own_sipush X85 hx (z := (255 : Int32)) (hb hby at_74) rfl 77 rfl ?_
          refine own_iand X85 hx (hb hby at_77) 78 rfl ?_
          refine own_i2c X85 hx (hb hby at_78) 79 rfl ?_
          refine own_castore X85 hx hZ e85 A_ca_85 ⟨by decide, by decide⟩ (hb hby at_79) N85 gn_ca 80 rfl (fun T86 h86 l86 X86 N86 e86 W86 => ?_)
          have Z0_86 := Nat.le_trans Z0_85 (Nat.le_of_eq W86.size.symm)
          have O0_86 := O0_85.wr W86 gn_ca
          have A_ca_86 := A_ca_85.set W86
          refine own_astore X86 hx (#[.val (.int p1), .val (.int p2), .val (.int p3), .val (.int p4), .val (.int p5), .val (.int p6), .val (.int (1 : Int32)), .val (.int (0 : Int32)), .val (.int (0 : Int32)), .val (.int (0 : Int32)), .val (.ref ca), .unset, .unset, .unset, .unset, .unset, .unset]) (hb hby at_80) rfl rfl 82 rfl ?_
          refine own_newO X86 hx hZ hown (own_w1 hw) (own_w2 hw) (own_w3 hw) e86 (hb hby at_82) (by decide) (by decide) 85 rfl (fun T87 h87 mm g87 X87 e87 E87 B87 D87 => ?_)
          have o_ca_mm : ca < mm := Nat.lt_of_lt_of_eq A_ca_86.lt g87.symm
          have gn_mm : n0 ≤ mm := Nat.le_trans Z0_86 (Nat.le_of_eq g87.symm)
          have Z0_87 := Nat.le_trans Z0_86 E87.1
          have O0_87 := O0_86.ext E87
          have A_ca_87 := A_ca_86.ext E87
          have F_asElement_mm_87 : Fld Z h87 mm "com/example/xqwry/xqwry/MarkupName" "asElement" "Lcom/example/xqwry/xqwry/MarkupName$Resolution;" .null := D87 (Or.inr (own_w49 hw)) (ty := (.object "com/example/xqwry/xqwry/MarkupName$Resolution")) (by decide)
          have F_asAttribute_mm_87 : Fld Z h87 mm "com/example/xqwry/xqwry/MarkupName" "asAttribute" "Lcom/example/xqwry/xqwry/MarkupName$Resolution;" .null := D87 (Or.inr (own_w51 hw)) (ty := (.object "com/example/xqwry/xqwry/MarkupName$Resolution")) (by decide)
          have F_lexicalName_mm_87 : Fld Z h87 mm "com/example/xqwry/xqwry/MarkupName" "lexicalName" "Ljava/lang/String;" .null := D87 (Or.inr (own_w53 hw)) (ty := (.object "java/lang/String")) (by decide)
          have F_prefixed_mm_87 : Fld Z h87 mm "com/example/xqwry/xqwry/MarkupName" "prefixed" "Z" (.int (0 : Int32)) := D87 (Or.inr (own_w97 hw)) (ty := .boolean) (by decide)
          have F_declaredPrefix_mm_87 : Fld Z h87 mm "com/example/xqwry/xqwry/MarkupName" "declaredPrefix" "Ljava/lang/String;" .null := D87 (Or.inr (own_w122 hw)) (ty := (.object "java/lang/String")) (by decide)
          refine own_dup X87 hx (hb hby at_85) rfl 86 rfl ?_
          refine own_newO X87 hx hZ hown (own_w4 hw) (own_w5 hw) (own_w6 hw) e87 (hb hby at_86) (by decide) (by decide) 89 rfl (fun T88 h88 sa g88 X88 e88 E88 B88 D88 => ?_)
          have o_ca_sa : ca < sa := Nat.lt_of_lt_of_eq A_ca_87.lt g88.symm
          have o_mm_sa : mm < sa := Nat.lt_of_lt_of_eq B87.lt g88.symm
          have gn_sa : n0 ≤ sa := Nat.le_trans Z0_87 (Nat.le_of_eq g88.symm)
          have Z0_88 := Nat.le_trans Z0_87 E88.1
          have O0_88 := O0_87.ext E88
          have A_ca_88 := A_ca_87.ext E88
          have B87_88 := B87.ext E88
          have F_asElement_mm_88 := F_asElement_mm_87.ext E88
          have F_asAttribute_mm_88 := F_asAttribute_mm_87.ext E88
          have F_lexicalName_mm_88 := F_lexicalName_mm_87.ext E88
          have F_prefixed_mm_88 := F_prefixed_mm_87.ext E88
          have F_declaredPrefix_mm_88 := F_declaredPrefix_mm_87.ext E88
          have F_coder_sa_88 : Fld Z h88 sa "java/lang/String" "coder" "B" (.int (0 : Int32)) := D88 (Or.inr (own_w30 hw)) (ty := .byte) (by decide)
          have F_value_sa_88 : Fld Z h88 sa "java/lang/String" "value" "[B" .null := D88 (Or.inr (own_w32 hw)) (ty := (.array .byte)) (by decide)
          refine own_dup X88 hx (hb hby at_89) rfl 90 rfl ?_
          refine own_aload X88 hx (hb hby at_90) rfl rfl 92 rfl ?_
          refine own_callI X88 hx hZ hown rfl (own_w7 hw) (own_w8 hw) (own_w6 hw) (own_w9 hw) (by decide) 3 (own_m_sic1 l Z a0 hw _ n0 A_ca_88 B88 F_value_sa_88 F_coder_sa_88 gn_sa (Nat.ne_of_lt o_ca_sa) Z0_88 (own_hc _ _) hcz (SC0.ext O0_88.2)) e88 (by rw [hml]; rfl) sa [(.ref ca)] [(.ref sa), (.ref mm), (.ref mm)] rfl (lenOf own_pd_16 rfl) rfl (Nat.le_of_eq rfl) (by decide) (by decide) (by decide) (by decide) (hb hby at_92) N86 95 rfl (fun v89 T89 l89 X89 N89 hP89 => ?_)
          obtain ⟨rfl, sb, fs89, C_sa, V_sa, A_sb, o_sa_sb, K89'⟩ := hP89
          have Z0_89 := Nat.le_trans Z0_88 K89'.1
          have O0_89 := O0_88.keep K89' (allS gn_sa all0)
          have A_ca_89 := A_ca_88.keep K89' (ninS (Nat.ne_of_lt o_ca_sa) nin0)
          have B87_89 := B87_88.keep K89'
          have F_asElement_mm_89 := F_asElement_mm_88.keep K89' (ninS (Nat.ne_of_lt o_mm_sa) nin0)
          have F_asAttribute_mm_89 := F_asAttribute_mm_88.keep K89' (ninS (Nat.ne_of_lt o_mm_sa) nin0)
          have F_lexicalName_mm_89 := F_lexicalName_mm_88.keep K89' (ninS (Nat.ne_of_lt o_mm_sa) nin0)
          have F_prefixed_mm_89 := F_prefixed_mm_88.keep K89' (ninS (Nat.ne_of_lt o_mm_sa) nin0)
          have F_declaredPrefix_mm_89 := F_declaredPrefix_mm_88.keep K89' (ninS (Nat.ne_of_lt o_mm_sa) nin0)
          have B88_89 := B88.keep K89'
          have o_mm_sb : mm < sb := Nat.lt_trans o_mm_sa o_sa_sb
          show own_G p e below _ (T89.setTop (mkF m 95 #[.val (.int p1), .val (.int p2), .val (.int p3), .val (.int p4), .val (.int p5), .val (.int p6), .val (.int (1 : Int32)), .val (.int (0 : Int32)), .val (.int (0 : Int32)), .val (.int (0 : Int32)), .val (.ref ca), .unset, .unset, .unset, .unset, .unset, .unset] [(.ref sa), (.ref mm), (.ref mm)]))
          refine own_callIS X89 hx hZH hown rfl (own_w33 hw) (own_w34 hw) (own_w3 hw) (own_w35 hw) (by decide) 1 (own_m_minit l Z a0 hw _ n0 B87_89 F_lexicalName_mm_89 F_prefixed_mm_89 F_declaredPrefix_mm_89 F_asElement_mm_89 F_asAttribute_mm_89 B88_89 C_sa V_sa A_sb gn_mm gn_sa o_mm_sa o_sa_sb o_mm_sb Z0_89 O0_89 wS hH33 hH44 hcw hcz SC0) rfl (by rw [hml]; rfl) mm [.ref sa] [(.ref mm)] rfl (lenOf own_pd_17 rfl) rfl (Nat.le_of_eq rfl) (by decide) (by decide) (by decide) (by decide) (hb hby at_95) N89 98 rfl (fun v90 T90 l90 X90 N90 hS hZ hown hP90 => ?_)
          obtain ⟨rfl, re, ra, FE, FA, Ee, Ea, F1, F2, F3, F4, o_mm_re, o_re_ra, K90'⟩ := hP90
          have E_mm := B87_89.keep K90'
          have o_mm_ra : mm < ra := Nat.lt_trans o_mm_re o_re_ra
          have gn_re : n0 ≤ re := Nat.le_trans gn_mm (Nat.le_of_lt o_mm_re)
          have gn_ra : n0 ≤ ra := Nat.le_trans gn_mm (Nat.le_of_lt o_mm_ra)
          have Hk := Nat.le_refl T90.heap.size
          show own_G p e below _ (T90.setTop (mkF m 98 #[.val (.int p1), .val (.int p2), .val (.int p3), .val (.int p4), .val (.int p5), .val (.int p6), .val (.int (1 : Int32)), .val (.int (0 : Int32)), .val (.int (0 : Int32)), .val (.int (0 : Int32)), .val (.ref ca), .unset, .unset, .unset, .unset, .unset, .unset] [(.ref mm)]))
          refine own_astore X90 hx (#[.val (.int p1), .val (.int p2), .val (.int p3), .val (.int p4), .val (.int p5), .val (.int p6), .val (.int (1 : Int32)), .val (.int (0 : Int32)), .val (.int (0 : Int32)), .val (.int (0 : Int32)), .val (.ref ca), .val (.ref mm), .unset, .unset, .unset, .unset, .unset]) (hb hby at_98) rfl rfl 100 rfl ?_
          refine own_iload X90 hx (hb hby at_100) rfl 102 rfl ?_
          refine own_ifcF X90 hx (hb hby at_102) (feq (by decide)).1 105 rfl ?_
          refine own_aload X90 hx (hb hby at_105) rfl rfl 107 rfl ?_
          refine own_iconst X90 hx (z := (1 : Int32)) (hb hby at_107) rfl 108 rfl ?_
          refine own_iloadN X90 hx (hb hby at_108) rfl 109 rfl ?_
          refine own_iloadN X90 hx (hb hby at_109) rfl 110 rfl ?_
          refine own_callV X90 hx hZ hown (own_w129 hw) (own_w130 hw) (own_w132 hw) (own_w131 hw) (own_w3 hw) (own_w133 hw) (by decide) 0 (own_m_keep1 l Z a0 hw _ n0 FE FA Ee F1 F2 gn_re (Nat.ne_of_lt o_mm_re) (1 : Int32) p2 p3 (by decide)) rfl E_mm (by rw [hml]; rfl) [(.int (1 : Int32)), (.int p2), (.int p3)] [] rfl (lenOf own_pd_19 rfl) rfl (Nat.le_of_eq rfl) (by decide) (by decide) (by decide) (by decide) (hb hby at_110) N90 113 rfl (fun v91 T91 l91 X91 N91 hP91 => ?_)
          obtain ⟨rfl, Gn91, Gc91, K91'⟩ := hP91
          have Hk_91 := Nat.le_trans Hk K91'.1
          have E_mm_91 := E_mm.keep K91'
          have FE_91 := FE.keep K91' (ninS (Nat.ne_of_lt o_mm_re) nin0)
          have FA_91 := FA.keep K91' (ninS (Nat.ne_of_lt o_mm_re) nin0)
          have Ee_91 := Ee.keep K91'
          have Ea_91 := Ea.keep K91'
          have F3_91 := F3.keep K91' (ninS (Nat.ne_of_gt o_re_ra) nin0)
          have F4_91 := F4.keep K91' (ninS (Nat.ne_of_gt o_re_ra) nin0)
          show own_G p e below _ (T91.setTop (mkF m 113 #[.val (.int p1), .val (.int p2), .val (.int p3), .val (.int p4), .val (.int p5), .val (.int p6), .val (.int (1 : Int32)), .val (.int (0 : Int32)), .val (.int (0 : Int32)), .val (.int (0 : Int32)), .val (.ref ca), .val (.ref mm), .unset, .unset, .unset, .unset, .unset] []))
          refine own_iload X91 hx (hb hby at_113) rfl 115 rfl ?_
          refine own_ifcT X91 hx (hb hby at_115) (teq (by decide)).1 127 (by decide) (by decide) ?_
          refine own_iload X91 hx (hb hby at_127) rfl 129 rfl ?_
          refine own_ifcT X91 hx (hb hby at_129) (teq (by decide)).1 159 (by decide) (by decide) ?_
          refine own_iload X91 hx (hb hby at_159) rfl 161 rfl ?_
          refine own_ifcT X91 hx (hb hby at_161) (teq (by decide)).1 168 (by decide) (by decide) ?_
          refine own_iconst X91 hx (z := (-1 : Int32)) (hb hby at_168) rfl 169 rfl ?_
          refine own_istore X91 hx (#[.val (.int p1), .val (.int p2), .val (.int p3), .val (.int p4), .val (.int p5), .val (.int p6), .val (.int (1 : Int32)), .val (.int (0 : Int32)), .val (.int (0 : Int32)), .val (.int (0 : Int32)), .val (.ref ca), .val (.ref mm), .val (.int (-1 : Int32)), .unset, .unset, .unset, .unset]) (hb hby at_169) rfl 171 rfl ?_
          refine own_iload X91 hx (hb hby at_171) rfl 173 rfl ?_
          refine own_ifcT X91 hx (hb hby at_173) (teq (by decide)).1 181 (by decide) (by decide) ?_
          refine own_iconst X91 hx (z := (-1 : Int32)) (hb hby at_181) rfl 182 rfl ?_
          refine own_istore X91 hx (#[.val (.int p1), .val (.int p2), .val (.int p3), .val (.int p4), .val (.int p5), .val (.int p6), .val (.int (1 : Int32)), .val (.int (0 : Int32)), .val (.int (0 : Int32)), .val (.int (0 : Int32)), .val (.ref ca), .val (.ref mm), .val (.int (-1 : Int32)), .val (.int (-1 : Int32)), .unset, .unset, .unset]) (hb hby at_182) rfl 184 rfl ?_
          refine own_iload X91 hx (hb hby at_184) rfl 186 rfl ?_
          refine own_ifcT X91 hx (hb hby at_186) (teq (by decide)).1 194 (by decide) (by decide) ?_
          refine own_iload X91 hx (hb hby at_194) rfl 196 rfl ?_
          refine own_istore X91 hx (#[.val (.int p1), .val (.int p2), .val (.int p3), .val (.int p4), .val (.int p5), .val (.int p6), .val (.int (1 : Int32)), .val (.int (0 : Int32)), .val (.int (0 : Int32)), .val (.int (0 : Int32)), .val (.ref ca), .val (.ref mm), .val (.int (-1 : Int32)), .val (.int (-1 : Int32)), .val (.int p6), .unset, .unset]) (hb hby at_196) rfl 198 rfl ?_
          refine own_aload X91 hx (hb hby at_198) rfl rfl 200 rfl ?_
          refine own_iload X91 hx (hb hby at_200) rfl 202 rfl ?_
          refine own_iload X91 hx (hb hby at_202) rfl 204 rfl ?_
          refine own_callV X91 hx hZ hown (own_w123 hw) (own_w124 hw) (own_w126 hw) (own_w125 hw) (own_w3 hw) (own_w127 hw) (by decide) 0 (own_m_res l Z a0 hw _ n0 FE_91 FA_91 Gn91 Gc91 F3_91 F4_91 (0 : Int32) p6 (r := (-1 : Int32)) (own_res_m1 _ _ (by simp))) rfl E_mm_91 (by rw [hml]; rfl) [(.int (0 : Int32)), (.int p6)] [] rfl (lenOf own_pd_18 rfl) rfl (Nat.le_of_eq rfl) (by decide) (by decide) (by decide) (by decide) (hb hby at_204) N91 207 rfl (fun v92 T92 l92 X92 N92 hP92 => ?_)
          obtain ⟨rfl, e92⟩ := hP92
          show own_G p e below _ (T92.setTop (mkF m 207 #[.val (.int p1), .val (.int p2), .val (.int p3), .val (.int p4), .val (.int p5), .val (.int p6), .val (.int (1 : Int32)), .val (.int (0 : Int32)), .val (.int (0 : Int32)), .val (.int (0 : Int32)), .val (.ref ca), .val (.ref mm), .val (.int (-1 : Int32)), .val (.int (-1 : Int32)), .val (.int p6), .unset, .unset] [(.int (-1 : Int32))]))
          refine own_istore X92 hx (#[.val (.int p1), .val (.int p2), .val (.int p3), .val (.int p4), .val (.int p5), .val (.int p6), .val (.int (1 : Int32)), .val (.int (0 : Int32)), .val (.int (0 : Int32)), .val (.int (0 : Int32)), .val (.ref ca), .val (.ref mm), .val (.int (-1 : Int32)), .val (.int (-1 : Int32)), .val (.int p6), .val (.int (-1 : Int32)), .unset]) (hb hby at_207) rfl 209 rfl ?_
          refine own_iload X92 hx (hb hby at_209) rfl 211 rfl ?_
          refine own_iload X92 hx (hb hby at_211) rfl 213 rfl ?_
          by_cases hc93 : p6 = (-1 : Int32)
          · refine own_icmpF X92 hx (hb hby at_213) (teq hc93).2 216 rfl ?_
            refine own_iload X92 hx (hb hby at_216) rfl 218 rfl ?_
            refine own_goto X92 hx (hb hby at_218) 222 (by decide) (by decide) ?_
            refine own_istore X92 hx (#[.val (.int p1), .val (.int p2), .val (.int p3), .val (.int p4), .val (.int p5), .val (.int p6), .val (.int (1 : Int32)), .val (.int (0 : Int32)), .val (.int (0 : Int32)), .val (.int (0 : Int32)), .val (.ref ca), .val (.ref mm), .val (.int (-1 : Int32)), .val (.int (-1 : Int32)), .val (.int p6), .val (.int (-1 : Int32)), .val (.int (-1 : Int32))]) (hb hby at_222) rfl 224 rfl ?_
            refine own_iload X92 hx (hb hby at_224) rfl 226 rfl ?_
            refine own_iload X92 hx (hb hby at_226) rfl 228 rfl ?_
            refine own_icmpF X92 hx (hb hby at_228) (teq (by decide)).2 231 rfl ?_
            refine own_iconst X92 hx (z := (1 : Int32)) (hb hby at_231) rfl 232 rfl ?_
            refine own_goto X92 hx (hb hby at_232) 236 (by decide) (by decide) ?_
            exact own_retNS X92 hx hS hret (Or.inl rfl) hlk (hb hby at_236) (by decide) (by decide) N92 e92 Hk_91 rfl
          · refine own_icmpT X92 hx (hb hby at_213) (feq hc93).2 221 (by decide) (by decide) ?_
            refine own_iconst X92 hx (z := (-1 : Int32)) (hb hby at_221) rfl 222 rfl ?_
            refine own_istore X92 hx (#[.val (.int p1), .val (.int p2), .val (.int p3), .val (.int p4), .val (.int p5), .val (.int p6), .val (.int (1 : Int32)), .val (.int (0 : Int32)), .val (.int (0 : Int32)), .val (.int (0 : Int32)), .val (.ref ca), .val (.ref mm), .val (.int (-1 : Int32)), .val (.int (-1 : Int32)), .val (.int p6), .val (.int (-1 : Int32)), .val (.int (-1 : Int32))]) (hb hby at_222) rfl 224 rfl ?_
            refine own_iload X92 hx (hb hby at_224) rfl 226 rfl ?_
            refine own_iload X92 hx (hb hby at_226) rfl 228 rfl ?_
            refine own_icmpF X92 hx (hb hby at_228) (teq (by decide)).2 231 rfl ?_
            refine own_iconst X92 hx (z := (1 : Int32)) (hb hby at_231) rfl 232 rfl ?_
            refine own_goto X92 hx (hb hby at_232) 236 (by decide) (by decide) ?_
            exact own_retNS X92 hx hS hret (Or.inl rfl) hlk (hb hby at_236) (by decide) (by decide) N92 e92 Hk_91 rfl
        · refine own_ifcF X0 hx (hb hby at_43) (feq hc83).1 46 rfl ?_
          refine own_iconst X0 hx (z := (1 : Int32)) (hb hby at_46) rfl 47 rfl ?_
          refine own_goto X0 hx (hb hby at_47) 51 (by decide) (by decide) ?_
          refine own_istore X0 hx (#[.val (.int p1), .val (.int p2), .val (.int p3), .val (.int p4), .val (.int p5), .val (.int p6), .val (.int (1 : Int32)), .val (.int (0 : Int32)), .val (.int (0 : Int32)), .val (.int (1 : Int32)), .unset, .unset, .unset, .unset, .unset, .unset, .unset]) (hb hby at_51) rfl 53 rfl ?_
          refine own_iconst X0 hx (z := (2 : Int32)) (hb hby at_53) rfl 54 rfl ?_
          refine own_newP (aty := .char) X0 hx hZ (own_w0 hw) e0 (hb hby at_54) (by decide) 2 (by decide) (by decide) (by decide) (by decide) 56 rfl (fun T94 h94 cA94 ca g94 X94 e94 E94 B94 => ?_)
          have gn_ca : n0 ≤ ca := Nat.le_trans Z0 (Nat.le_of_eq g94.symm)
          have Z0_94 := Nat.le_trans Z0 E94.1
          have O0_94 := O0.ext E94
          have A_ca_94 : own_A Z h94 ca .char 2 (fun _ => 0) := own_A.new B94 (by decide) rfl
          refine own_dup X94 hx (hb hby at_56) rfl 57 rfl ?_
          refine own_iconst X94 hx (z := (0 : Int32)) (hb hby at_57) rfl 58 rfl ?_
          refine own_iloadN X94 hx (hb hby at_58) rfl 59 rfl ?_
          refine own_bipush X94 hx (z := (8 : Int32)) (hb hby at_59) rfl 61 rfl ?_
          refine own_iushr X94 hx (hb hby at_61) 62 rfl ?_
          refine own_sipush X94 hx (z := (255 : Int32)) (hb hby at_62) rfl 65 rfl ?_
          refine own_iand X94 hx (hb hby at_65) 66 rfl ?_
          refine own_i2c X94 hx (hb hby at_66) 67 rfl ?_
          refine own_castore X94 hx hZ e94 A_ca_94 ⟨by decide, by decide⟩ (hb hby at_67) N0 gn_ca 68 rfl (fun T95 h95 l95 X95 N95 e95 W95 => ?_)
          have Z0_95 := Nat.le_trans Z0_94 (Nat.le_of_eq W95.size.symm)
          have O0_95 := O0_94.wr W95 gn_ca
          have A_ca_95 := A_ca_94.set W95
          refine own_dup X95 hx (hb hby at_68) rfl 69 rfl ?_
          refine own_iconst X95 hx (z := (1 : Int32)) (hb hby at_69) rfl 70 rfl ?_
          refine own_iloadN X95 hx (hb hby at_70) rfl 71 rfl ?_
          refine own_bipush X95 hx (z := (16 : Int32)) (hb hby at_71) rfl 73 rfl ?_
          refine own_iushr X95 hx (hb hby at_73) 74 rfl ?_
          refine own_sipush X95 hx (z := (255 : Int32)) (hb hby at_74) rfl 77 rfl ?_
          refine own_iand X95 hx (hb hby at_77) 78 rfl ?_
          refine own_i2c X95 hx (hb hby at_78) 79 rfl ?_
          refine own_castore X95 hx hZ e95 A_ca_95 ⟨by decide, by decide⟩ (hb hby at_79) N95 gn_ca 80 rfl (fun T96 h96 l96 X96 N96 e96 W96 => ?_)
          have Z0_96 := Nat.le_trans Z0_95 (Nat.le_of_eq W96.size.symm)
          have O0_96 := O0_95.wr W96 gn_ca
          have A_ca_96 := A_ca_95.set W96
          refine own_astore X96 hx (#[.val (.int p1), .val (.int p2), .val (.int p3), .val (.int p4), .val (.int p5), .val (.int p6), .val (.int (1 : Int32)), .val (.int (0 : Int32)), .val (.int (0 : Int32)), .val (.int (1 : Int32)), .val (.ref ca), .unset, .unset, .unset, .unset, .unset, .unset]) (hb hby at_80) rfl rfl 82 rfl ?_
          refine own_newO X96 hx hZ hown (own_w1 hw) (own_w2 hw) (own_w3 hw) e96 (hb hby at_82) (by decide) (by decide) 85 rfl (fun T97 h97 mm g97 X97 e97 E97 B97 D97 => ?_)
          have o_ca_mm : ca < mm := Nat.lt_of_lt_of_eq A_ca_96.lt g97.symm
          have gn_mm : n0 ≤ mm := Nat.le_trans Z0_96 (Nat.le_of_eq g97.symm)
          have Z0_97 := Nat.le_trans Z0_96 E97.1
          have O0_97 := O0_96.ext E97
          have A_ca_97 := A_ca_96.ext E97
          have F_asElement_mm_97 : Fld Z h97 mm "com/example/xqwry/xqwry/MarkupName" "asElement" "Lcom/example/xqwry/xqwry/MarkupName$Resolution;" .null := D97 (Or.inr (own_w49 hw)) (ty := (.object "com/example/xqwry/xqwry/MarkupName$Resolution")) (by decide)
          have F_asAttribute_mm_97 : Fld Z h97 mm "com/example/xqwry/xqwry/MarkupName" "asAttribute" "Lcom/example/xqwry/xqwry/MarkupName$Resolution;" .null := D97 (Or.inr (own_w51 hw)) (ty := (.object "com/example/xqwry/xqwry/MarkupName$Resolution")) (by decide)
          have F_lexicalName_mm_97 : Fld Z h97 mm "com/example/xqwry/xqwry/MarkupName" "lexicalName" "Ljava/lang/String;" .null := D97 (Or.inr (own_w53 hw)) (ty := (.object "java/lang/String")) (by decide)
          have F_prefixed_mm_97 : Fld Z h97 mm "com/example/xqwry/xqwry/MarkupName" "prefixed" "Z" (.int (0 : Int32)) := D97 (Or.inr (own_w97 hw)) (ty := .boolean) (by decide)
          have F_declaredPrefix_mm_97 : Fld Z h97 mm "com/example/xqwry/xqwry/MarkupName" "declaredPrefix" "Ljava/lang/String;" .null := D97 (Or.inr (own_w122 hw)) (ty := (.object "java/lang/String")) (by decide)
          refine own_dup X97 hx (hb hby at_85) rfl 86 rfl ?_
          refine own_newO X97 hx hZ hown (own_w4 hw) (own_w5 hw) (own_w6 hw) e97 (hb hby at_86) (by decide) (by decide) 89 rfl (fun T98 h98 sa g98 X98 e98 E98 B98 D98 => ?_)
          have o_ca_sa : ca < sa := Nat.lt_of_lt_of_eq A_ca_97.lt g98.symm
          have o_mm_sa : mm < sa := Nat.lt_of_lt_of_eq B97.lt g98.symm
          have gn_sa : n0 ≤ sa := Nat.le_trans Z0_97 (Nat.le_of_eq g98.symm)
          have Z0_98 := Nat.le_trans Z0_97 E98.1
          have O0_98 := O0_97.ext E98
          have A_ca_98 := A_ca_97.ext E98
          have B97_98 := B97.ext E98
          have F_asElement_mm_98 := F_asElement_mm_97.ext E98
          have F_asAttribute_mm_98 := F_asAttribute_mm_97.ext E98
          have F_lexicalName_mm_98 := F_lexicalName_mm_97.ext E98
          have F_prefixed_mm_98 := F_prefixed_mm_97.ext E98
          have F_declaredPrefix_mm_98 := F_declaredPrefix_mm_97.ext E98
          have F_coder_sa_98 : Fld Z h98 sa "java/lang/String" "coder" "B" (.int (0 : Int32)) := D98 (Or.inr (own_w30 hw)) (ty := .byte) (by decide)
          have F_value_sa_98 : Fld Z h98 sa "java/lang/String" "value" "[B" .null := D98 (Or.inr (own_w32 hw)) (ty := (.array .byte)) (by decide)
          refine own_dup X98 hx (hb hby at_89) rfl 90 rfl ?_
          refine own_aload X98 hx (hb hby at_90) rfl rfl 92 rfl ?_
          refine own_callI X98 hx hZ hown rfl (own_w7 hw) (own_w8 hw) (own_w6 hw) (own_w9 hw) (by decide) 3 (own_m_sic1 l Z a0 hw _ n0 A_ca_98 B98 F_value_sa_98 F_coder_sa_98 gn_sa (Nat.ne_of_lt o_ca_sa) Z0_98 (own_hc _ _) hcz (SC0.ext O0_98.2)) e98 (by rw [hml]; rfl) sa [(.ref ca)] [(.ref sa), (.ref mm), (.ref mm)] rfl (lenOf own_pd_16 rfl) rfl (Nat.le_of_eq rfl) (by decide) (by decide) (by decide) (by decide) (hb hby at_92) N96 95 rfl (fun v99 T99 l99 X99 N99 hP99 => ?_)
          obtain ⟨rfl, sb, fs99, C_sa, V_sa, A_sb, o_sa_sb, K99'⟩ := hP99
          have Z0_99 := Nat.le_trans Z0_98 K99'.1
          have O0_99 := O0_98.keep K99' (allS gn_sa all0)
          have A_ca_99 := A_ca_98.keep K99' (ninS (Nat.ne_of_lt o_ca_sa) nin0)
          have B97_99 := B97_98.keep K99'
          have F_asElement_mm_99 := F_asElement_mm_98.keep K99' (ninS (Nat.ne_of_lt o_mm_sa) nin0)
          have F_asAttribute_mm_99 := F_asAttribute_mm_98.keep K99' (ninS (Nat.ne_of_lt o_mm_sa) nin0)
          have F_lexicalName_mm_99 := F_lexicalName_mm_98.keep K99' (ninS (Nat.ne_of_lt o_mm_sa) nin0)
          have F_prefixed_mm_99 := F_prefixed_mm_98.keep K99' (ninS (Nat.ne_of_lt o_mm_sa) nin0)
          have F_declaredPrefix_mm_99 := F_declaredPrefix_mm_98.keep K99' (ninS (Nat.ne_of_lt o_mm_sa) nin0)
          have B98_99 := B98.keep K99'
          have o_mm_sb : mm < sb := Nat.lt_trans o_mm_sa o_sa_sb
          show own_G p e below _ (T99.setTop (mkF m 95 #[.val (.int p1), .val (.int p2), .val (.int p3), .val (.int p4), .val (.int p5), .val (.int p6), .val (.int (1 : Int32)), .val (.int (0 : Int32)), .val (.int (0 : Int32)), .val (.int (1 : Int32)), .val (.ref ca), .unset, .unset, .unset, .unset, .unset, .unset] [(.ref sa), (.ref mm), (.ref mm)]))
          refine own_callIS X99 hx hZH hown rfl (own_w33 hw) (own_w34 hw) (own_w3 hw) (own_w35 hw) (by decide) 1 (own_m_minit l Z a0 hw _ n0 B97_99 F_lexicalName_mm_99 F_prefixed_mm_99 F_declaredPrefix_mm_99 F_asElement_mm_99 F_asAttribute_mm_99 B98_99 C_sa V_sa A_sb gn_mm gn_sa o_mm_sa o_sa_sb o_mm_sb Z0_99 O0_99 wS hH33 hH44 hcw hcz SC0) rfl (by rw [hml]; rfl) mm [.ref sa] [(.ref mm)] rfl (lenOf own_pd_17 rfl) rfl (Nat.le_of_eq rfl) (by decide) (by decide) (by decide) (by decide) (hb hby at_95) N99 98 rfl (fun v100 T100 l100 X100 N100 hS hZ hown hP100 => ?_)
          obtain ⟨rfl, re, ra, FE, FA, Ee, Ea, F1, F2, F3, F4, o_mm_re, o_re_ra, K100'⟩ := hP100
          have E_mm := B97_99.keep K100'
          have o_mm_ra : mm < ra := Nat.lt_trans o_mm_re o_re_ra
          have gn_re : n0 ≤ re := Nat.le_trans gn_mm (Nat.le_of_lt o_mm_re)
          have gn_ra : n0 ≤ ra := Nat.le_trans gn_mm (Nat.le_of_lt o_mm_ra)
          have Hk := Nat.le_refl T100.heap.size
          show own_G p e below _ (T100.setTop (mkF m 98 #[.val (.int p1), .val (.int p2), .val (.int p3), .val (.int p4), .val (.int p5), .val (.int p6), .val (.int (1 : Int32)), .val (.int (0 : Int32)), .val (.int (0 : Int32)), .val (.int (1 : Int32)), .val (.ref ca), .unset, .unset, .unset, .unset, .unset, .unset] [(.ref mm)]))
          refine own_astore X100 hx (#[.val (.int p1), .val (.int p2), .val (.int p3), .val (.int p4), .val (.int p5), .val (.int p6), .val (.int (1 : Int32)), .val (.int (0 : Int32)), .val (.int (0 : Int32)), .val (.int (1 : Int32)), .val (.ref ca), .val (.ref mm), .unset, .unset, .unset, .unset, .unset]) (hb hby at_98) rfl rfl 100 rfl ?_
          refine own_iload X100 hx (hb hby at_100) rfl 102 rfl ?_
          refine own_ifcF X100 hx (hb hby at_102) (feq (by decide)).1 105 rfl ?_
          refine own_aload X100 hx (hb hby at_105) rfl rfl 107 rfl ?_
          refine own_iconst X100 hx (z := (1 : Int32)) (hb hby at_107) rfl 108 rfl ?_
          refine own_iloadN X100 hx (hb hby at_108) rfl 109 rfl ?_
          refine own_iloadN X100 hx (hb hby at_109) rfl 110 rfl ?_
          refine own_callV X100 hx hZ hown (own_w129 hw) (own_w130 hw) (own_w132 hw) (own_w131 hw) (own_w3 hw) (own_w133 hw) (by decide) 0 (own_m_keep1 l Z a0 hw _ n0 FE FA Ee F1 F2 gn_re (Nat.ne_of_lt o_mm_re) (1 : Int32) p2 p3 (by decide)) rfl E_mm (by rw [hml]; rfl) [(.int (1 : Int32)), (.int p2), (.int p3)] [] rfl (lenOf own_pd_19 rfl) rfl (Nat.le_of_eq rfl) (by decide) (by decide) (by decide) (by decide) (hb hby at_110) N100 113 rfl (fun v101 T101 l101 X101 N101 hP101 => ?_)
          obtain ⟨rfl, Gn101, Gc101, K101'⟩ := hP101
          have Hk_101 := Nat.le_trans Hk K101'.1
          have E_mm_101 := E_mm.keep K101'
          have FE_101 := FE.keep K101' (ninS (Nat.ne_of_lt o_mm_re) nin0)
          have FA_101 := FA.keep K101' (ninS (Nat.ne_of_lt o_mm_re) nin0)
          have Ee_101 := Ee.keep K101'
          have Ea_101 := Ea.keep K101'
          have F3_101 := F3.keep K101' (ninS (Nat.ne_of_gt o_re_ra) nin0)
          have F4_101 := F4.keep K101' (ninS (Nat.ne_of_gt o_re_ra) nin0)
          show own_G p e below _ (T101.setTop (mkF m 113 #[.val (.int p1), .val (.int p2), .val (.int p3), .val (.int p4), .val (.int p5), .val (.int p6), .val (.int (1 : Int32)), .val (.int (0 : Int32)), .val (.int (0 : Int32)), .val (.int (1 : Int32)), .val (.ref ca), .val (.ref mm), .unset, .unset, .unset, .unset, .unset] []))
          refine own_iload X101 hx (hb hby at_113) rfl 115 rfl ?_
          refine own_ifcT X101 hx (hb hby at_115) (teq (by decide)).1 127 (by decide) (by decide) ?_
          refine own_iload X101 hx (hb hby at_127) rfl 129 rfl ?_
          refine own_ifcT X101 hx (hb hby at_129) (teq (by decide)).1 159 (by decide) (by decide) ?_
          refine own_iload X101 hx (hb hby at_159) rfl 161 rfl ?_
          refine own_ifcT X101 hx (hb hby at_161) (teq (by decide)).1 168 (by decide) (by decide) ?_
          refine own_iconst X101 hx (z := (-1 : Int32)) (hb hby at_168) rfl 169 rfl ?_
          refine own_istore X101 hx (#[.val (.int p1), .val (.int p2), .val (.int p3), .val (.int p4), .val (.int p5), .val (.int p6), .val (.int (1 : Int32)), .val (.int (0 : Int32)), .val (.int (0 : Int32)), .val (.int (1 : Int32)), .val (.ref ca), .val (.ref mm), .val (.int (-1 : Int32)), .unset, .unset, .unset, .unset]) (hb hby at_169) rfl 171 rfl ?_
          refine own_iload X101 hx (hb hby at_171) rfl 173 rfl ?_
          refine own_ifcT X101 hx (hb hby at_173) (teq (by decide)).1 181 (by decide) (by decide) ?_
          refine own_iconst X101 hx (z := (-1 : Int32)) (hb hby at_181) rfl 182 rfl ?_
          refine own_istore X101 hx (#[.val (.int p1), .val (.int p2), .val (.int p3), .val (.int p4), .val (.int p5), .val (.int p6), .val (.int (1 : Int32)), .val (.int (0 : Int32)), .val (.int (0 : Int32)), .val (.int (1 : Int32)), .val (.ref ca), .val (.ref mm), .val (.int (-1 : Int32)), .val (.int (-1 : Int32)), .unset, .unset, .unset]) (hb hby at_182) rfl 184 rfl ?_
          refine own_iload X101 hx (hb hby at_184) rfl 186 rfl ?_
          refine own_ifcF X101 hx (hb hby at_186) (feq (by decide)).1 189 rfl ?_
          refine own_iload X101 hx (hb hby at_189) rfl 191 rfl ?_
          refine own_goto X101 hx (hb hby at_191) 196 (by decide) (by decide) ?_
          refine own_istore X101 hx (#[.val (.int p1), .val (.int p2), .val (.int p3), .val (.int p4), .val (.int p5), .val (.int p6), .val (.int (1 : Int32)), .val (.int (0 : Int32)), .val (.int (0 : Int32)), .val (.int (1 : Int32)), .val (.ref ca), .val (.ref mm), .val (.int (-1 : Int32)), .val (.int (-1 : Int32)), .val (.int (-1 : Int32)), .unset, .unset]) (hb hby at_196) rfl 198 rfl ?_
          refine own_aload X101 hx (hb hby at_198) rfl rfl 200 rfl ?_
          refine own_iload X101 hx (hb hby at_200) rfl 202 rfl ?_
          refine own_iload X101 hx (hb hby at_202) rfl 204 rfl ?_
          refine own_callV X101 hx hZ hown (own_w123 hw) (own_w124 hw) (own_w126 hw) (own_w125 hw) (own_w3 hw) (own_w127 hw) (by decide) 0 (own_m_res l Z a0 hw _ n0 FE_101 FA_101 Gn101 Gc101 F3_101 F4_101 (0 : Int32) (-1 : Int32) (r := (-1 : Int32)) (own_res_m1 _ _ (by simp))) rfl E_mm_101 (by rw [hml]; rfl) [(.int (0 : Int32)), (.int (-1 : Int32))] [] rfl (lenOf own_pd_18 rfl) rfl (Nat.le_of_eq rfl) (by decide) (by decide) (by decide) (by decide) (hb hby at_204) N101 207 rfl (fun v102 T102 l102 X102 N102 hP102 => ?_)
          obtain ⟨rfl, e102⟩ := hP102
          show own_G p e below _ (T102.setTop (mkF m 207 #[.val (.int p1), .val (.int p2), .val (.int p3), .val (.int p4), .val (.int p5), .val (.int p6), .val (.int (1 : Int32)), .val (.int (0 : Int32)), .val (.int (0 : Int32)), .val (.int (1 : Int32)), .val (.ref ca), .val (.ref mm), .val (.int (-1 : Int32)), .val (.int (-1 : Int32)), .val (.int (-1 : Int32)), .unset, .unset] [(.int (-1 : Int32))]))
          refine own_istore X102 hx (#[.val (.int p1), .val (.int p2), .val (.int p3), .val (.int p4), .val (.int p5), .val (.int p6), .val (.int (1 : Int32)), .val (.int (0 : Int32)), .val (.int (0 : Int32)), .val (.int (1 : Int32)), .val (.ref ca), .val (.ref mm), .val (.int (-1 : Int32)), .val (.int (-1 : Int32)), .val (.int (-1 : Int32)), .val (.int (-1 : Int32)), .unset]) (hb hby at_207) rfl 209 rfl ?_
          refine own_iload X102 hx (hb hby at_209) rfl 211 rfl ?_
          refine own_iload X102 hx (hb hby at_211) rfl 213 rfl ?_
          refine own_icmpF X102 hx (hb hby at_213) (teq (by decide)).2 216 rfl ?_
          refine own_iload X102 hx (hb hby at_216) rfl 218 rfl ?_
          refine own_goto X102 hx (hb hby at_218) 222 (by decide) (by decide) ?_
          refine own_istore X102 hx (#[.val (.int p1), .val (.int p2), .val (.int p3), .val (.int p4), .val (.int p5), .val (.int p6), .val (.int (1 : Int32)), .val (.int (0 : Int32)), .val (.int (0 : Int32)), .val (.int (1 : Int32)), .val (.ref ca), .val (.ref mm), .val (.int (-1 : Int32)), .val (.int (-1 : Int32)), .val (.int (-1 : Int32)), .val (.int (-1 : Int32)), .val (.int (-1 : Int32))]) (hb hby at_222) rfl 224 rfl ?_
          refine own_iload X102 hx (hb hby at_224) rfl 226 rfl ?_
          refine own_iload X102 hx (hb hby at_226) rfl 228 rfl ?_
          refine own_icmpF X102 hx (hb hby at_228) (teq (by decide)).2 231 rfl ?_
          refine own_iconst X102 hx (z := (1 : Int32)) (hb hby at_231) rfl 232 rfl ?_
          refine own_goto X102 hx (hb hby at_232) 236 (by decide) (by decide) ?_
          exact own_retNS X102 hx hS hret (Or.inl rfl) hlk (hb hby at_236) (by decide) (by decide) N102 e102 Hk_101 rfl
      · refine own_ifcF X0 hx (hb hby at_29) (feq hc82).1 32 rfl ?_
        refine own_iconst X0 hx (z := (1 : Int32)) (hb hby at_32) rfl 33 rfl ?_
        refine own_goto X0 hx (hb hby at_33) 37 (by decide) (by decide) ?_
        refine own_istore X0 hx (#[.val (.int p1), .val (.int p2), .val (.int p3), .val (.int p4), .val (.int p5), .val (.int p6), .val (.int (1 : Int32)), .val (.int (0 : Int32)), .val (.int (1 : Int32)), .unset, .unset, .unset, .unset, .unset, .unset, .unset, .unset]) (hb hby at_37) rfl 39 rfl ?_
        refine own_iloadN X0 hx (hb hby at_39) rfl 40 rfl ?_
        refine own_bipush X0 hx (z := (8 : Int32)) (hb hby at_40) rfl 42 rfl ?_
        refine own_iand X0 hx (hb hby at_42) 43 rfl ?_
        by_cases hc103 : (p1 &&& (8 : Int32)) = (0 : Int32)
        · refine own_ifcT X0 hx (hb hby at_43) (teq hc103).1 50 (by decide) (by decide) ?_
          refine own_iconst X0 hx (z := (0 : Int32)) (hb hby at_50) rfl 51 rfl ?_
          refine own_istore X0 hx (#[.val (.int p1), .val (.int p2), .val (.int p3), .val (.int p4), .val (.int p5), .val (.int p6), .val (.int (1 : Int32)), .val (.int (0 : Int32)), .val (.int (1 : Int32)), .val (.int (0 : Int32)), .unset, .unset, .unset, .unset, .unset, .unset, .unset]) (hb hby at_51) rfl 53 rfl ?_
          refine own_iconst X0 hx (z := (2 : Int32)) (hb hby at_53) rfl 54 rfl ?_
          refine own_newP (aty := .char) X0 hx hZ (own_w0 hw) e0 (hb hby at_54) (by decide) 2 (by decide) (by decide) (by decide) (by decide) 56 rfl (fun T104 h104 cA104 ca g104 X104 e104 E104 B104 => ?_)
          have gn_ca : n0 ≤ ca := Nat.le_trans Z0 (Nat.le_of_eq g104.symm)
          have Z0_104 := Nat.le_trans Z0 E104.1
          have O0_104 := O0.ext E104
          have A_ca_104 : own_A Z h104 ca .char 2 (fun _ => 0) := own_A.new B104 (by decide) rfl
          refine own_dup X104 hx (hb hby at_56) rfl 57 rfl ?_
          refine own_iconst X104 hx (z := (0 : Int32)) (hb hby at_57) rfl 58 rfl ?_
          refine own_iloadN X104 hx (hb hby at_58) rfl 59 rfl ?_
          refine own_bipush X104 hx (z := (8 : Int32)) (hb hby at_59) rfl 61 rfl ?_
          refine own_iushr X104 hx (hb hby at_61) 62 rfl ?_
          refine own_sipush X104 hx (z := (255 : Int32)) (hb hby at_62) rfl 65 rfl ?_
          refine own_iand X104 hx (hb hby at_65) 66 rfl ?_
          refine own_i2c X104 hx (hb hby at_66) 67 rfl ?_
          refine own_castore X104 hx hZ e104 A_ca_104 ⟨by decide, by decide⟩ (hb hby at_67) N0 gn_ca 68 rfl (fun T105 h105 l105 X105 N105 e105 W105 => ?_)
          have Z0_105 := Nat.le_trans Z0_104 (Nat.le_of_eq W105.size.symm)
          have O0_105 := O0_104.wr W105 gn_ca
          have A_ca_105 := A_ca_104.set W105
          refine own_dup X105 hx (hb hby at_68) rfl 69 rfl ?_
          refine own_iconst X105 hx (z := (1 : Int32)) (hb hby at_69) rfl 70 rfl ?_
          refine own_iloadN X105 hx (hb hby at_70) rfl 71 rfl ?_
          refine own_bipush X105 hx (z := (16 : Int32)) (hb hby at_71) rfl 73 rfl ?_
          refine own_iushr X105 hx (hb hby at_73) 74 rfl ?_
          refine own_sipush X105 hx (z := (255 : Int32)) (hb hby at_74) rfl 77 rfl ?_
          refine own_iand X105 hx (hb hby at_77) 78 rfl ?_
          refine own_i2c X105 hx (hb hby at_78) 79 rfl ?_
          refine own_castore X105 hx hZ e105 A_ca_105 ⟨by decide, by decide⟩ (hb hby at_79) N105 gn_ca 80 rfl (fun T106 h106 l106 X106 N106 e106 W106 => ?_)
          have Z0_106 := Nat.le_trans Z0_105 (Nat.le_of_eq W106.size.symm)
          have O0_106 := O0_105.wr W106 gn_ca
          have A_ca_106 := A_ca_105.set W106
          refine own_astore X106 hx (#[.val (.int p1), .val (.int p2), .val (.int p3), .val (.int p4), .val (.int p5), .val (.int p6), .val (.int (1 : Int32)), .val (.int (0 : Int32)), .val (.int (1 : Int32)), .val (.int (0 : Int32)), .val (.ref ca), .unset, .unset, .unset, .unset, .unset, .unset]) (hb hby at_80) rfl rfl 82 rfl ?_
          refine own_newO X106 hx hZ hown (own_w1 hw) (own_w2 hw) (own_w3 hw) e106 (hb hby at_82) (by decide) (by decide) 85 rfl (fun T107 h107 mm g107 X107 e107 E107 B107 D107 => ?_)
          have o_ca_mm : ca < mm := Nat.lt_of_lt_of_eq A_ca_106.lt g107.symm
          have gn_mm : n0 ≤ mm := Nat.le_trans Z0_106 (Nat.le_of_eq g107.symm)
          have Z0_107 := Nat.le_trans Z0_106 E107.1
          have O0_107 := O0_106.ext E107
          have A_ca_107 := A_ca_106.ext E107
          have F_asElement_mm_107 : Fld Z h107 mm "com/example/xqwry/xqwry/MarkupName" "asElement" "Lcom/example/xqwry/xqwry/MarkupName$Resolution;" .null := D107 (Or.inr (own_w49 hw)) (ty := (.object "com/example/xqwry/xqwry/MarkupName$Resolution")) (by decide)
          have F_asAttribute_mm_107 : Fld Z h107 mm "com/example/xqwry/xqwry/MarkupName" "asAttribute" "Lcom/example/xqwry/xqwry/MarkupName$Resolution;" .null := D107 (Or.inr (own_w51 hw)) (ty := (.object "com/example/xqwry/xqwry/MarkupName$Resolution")) (by decide)
          have F_lexicalName_mm_107 : Fld Z h107 mm "com/example/xqwry/xqwry/MarkupName" "lexicalName" "Ljava/lang/String;" .null := D107 (Or.inr (own_w53 hw)) (ty := (.object "java/lang/String")) (by decide)
          have F_prefixed_mm_107 : Fld Z h107 mm "com/example/xqwry/xqwry/MarkupName" "prefixed" "Z" (.int (0 : Int32)) := D107 (Or.inr (own_w97 hw)) (ty := .boolean) (by decide)
          have F_declaredPrefix_mm_107 : Fld Z h107 mm "com/example/xqwry/xqwry/MarkupName" "declaredPrefix" "Ljava/lang/String;" .null := D107 (Or.inr (own_w122 hw)) (ty := (.object "java/lang/String")) (by decide)
          refine own_dup X107 hx (hb hby at_85) rfl 86 rfl ?_
          refine own_newO X107 hx hZ hown (own_w4 hw) (own_w5 hw) (own_w6 hw) e107 (hb hby at_86) (by decide) (by decide) 89 rfl (fun T108 h108 sa g108 X108 e108 E108 B108 D108 => ?_)
          have o_ca_sa : ca < sa := Nat.lt_of_lt_of_eq A_ca_107.lt g108.symm
          have o_mm_sa : mm < sa := Nat.lt_of_lt_of_eq B107.lt g108.symm
          have gn_sa : n0 ≤ sa := Nat.le_trans Z0_107 (Nat.le_of_eq g108.symm)
          have Z0_108 := Nat.le_trans Z0_107 E108.1
          have O0_108 := O0_107.ext E108
          have A_ca_108 := A_ca_107.ext E108
          have B107_108 := B107.ext E108
          have F_asElement_mm_108 := F_asElement_mm_107.ext E108
          have F_asAttribute_mm_108 := F_asAttribute_mm_107.ext E108
          have F_lexicalName_mm_108 := F_lexicalName_mm_107.ext E108
          have F_prefixed_mm_108 := F_prefixed_mm_107.ext E108
          have F_declaredPrefix_mm_108 := F_declaredPrefix_mm_107.ext E108
          have F_coder_sa_108 : Fld Z h108 sa "java/lang/String" "coder" "B" (.int (0 : Int32)) := D108 (Or.inr (own_w30 hw)) (ty := .byte) (by decide)
          have F_value_sa_108 : Fld Z h108 sa "java/lang/String" "value" "[B" .null := D108 (Or.inr (own_w32 hw)) (ty := (.array .byte)) (by decide)
          refine own_dup X108 hx (hb hby at_89) rfl 90 rfl ?_
          refine own_aload X108 hx (hb hby at_90) rfl rfl 92 rfl ?_
          refine own_callI X108 hx hZ hown rfl (own_w7 hw) (own_w8 hw) (own_w6 hw) (own_w9 hw) (by decide) 3 (own_m_sic1 l Z a0 hw _ n0 A_ca_108 B108 F_value_sa_108 F_coder_sa_108 gn_sa (Nat.ne_of_lt o_ca_sa) Z0_108 (own_hc _ _) hcz (SC0.ext O0_108.2)) e108 (by rw [hml]; rfl) sa [(.ref ca)] [(.ref sa), (.ref mm), (.ref mm)] rfl (lenOf own_pd_16 rfl) rfl (Nat.le_of_eq rfl) (by decide) (by decide) (by decide) (by decide) (hb hby at_92) N106 95 rfl (fun v109 T109 l109 X109 N109 hP109 => ?_)
          obtain ⟨rfl, sb, fs109, C_sa, V_sa, A_sb, o_sa_sb, K109'⟩ := hP109
          have Z0_109 := Nat.le_trans Z0_108 K109'.1
          have O0_109 := O0_108.keep K109' (allS gn_sa all0)
          have A_ca_109 := A_ca_108.keep K109' (ninS (Nat.ne_of_lt o_ca_sa) nin0)
          have B107_109 := B107_108.keep K109'
          have F_asElement_mm_109 := F_asElement_mm_108.keep K109' (ninS (Nat.ne_of_lt o_mm_sa) nin0)
          have F_asAttribute_mm_109 := F_asAttribute_mm_108.keep K109' (ninS (Nat.ne_of_lt o_mm_sa) nin0)
          have F_lexicalName_mm_109 := F_lexicalName_mm_108.keep K109' (ninS (Nat.ne_of_lt o_mm_sa) nin0)
          have F_prefixed_mm_109 := F_prefixed_mm_108.keep K109' (ninS (Nat.ne_of_lt o_mm_sa) nin0)
          have F_declaredPrefix_mm_109 := F_declaredPrefix_mm_108.keep K109' (ninS (Nat.ne_of_lt o_mm_sa) nin0)
          have B108_109 := B108.keep K109'
          have o_mm_sb : mm < sb := Nat.lt_trans o_mm_sa o_sa_sb
          show own_G p e below _ (T109.setTop (mkF m 95 #[.val (.int p1), .val (.int p2), .val (.int p3), .val (.int p4), .val (.int p5), .val (.int p6), .val (.int (1 : Int32)), .val (.int (0 : Int32)), .val (.int (1 : Int32)), .val (.int (0 : Int32)), .val (.ref ca), .unset, .unset, .unset, .unset, .unset, .unset] [(.ref sa), (.ref mm), (.ref mm)]))
          refine own_callIS X109 hx hZH hown rfl (own_w33 hw) (own_w34 hw) (own_w3 hw) (own_w35 hw) (by decide) 1 (own_m_minit l Z a0 hw _ n0 B107_109 F_lexicalName_mm_109 F_prefixed_mm_109 F_declaredPrefix_mm_109 F_asElement_mm_109 F_asAttribute_mm_109 B108_109 C_sa V_sa A_sb gn_mm gn_sa o_mm_sa o_sa_sb o_mm_sb Z0_109 O0_109 wS hH33 hH44 hcw hcz SC0) rfl (by rw [hml]; rfl) mm [.ref sa] [(.ref mm)] rfl (lenOf own_pd_17 rfl) rfl (Nat.le_of_eq rfl) (by decide) (by decide) (by decide) (by decide) (hb hby at_95) N109 98 rfl (fun v110 T110 l110 X110 N110 hS hZ hown hP110 => ?_)
          obtain ⟨rfl, re, ra, FE, FA, Ee, Ea, F1, F2, F3, F4, o_mm_re, o_re_ra, K110'⟩ := hP110
          have E_mm := B107_109.keep K110'
          have o_mm_ra : mm < ra := Nat.lt_trans o_mm_re o_re_ra
          have gn_re : n0 ≤ re := Nat.le_trans gn_mm (Nat.le_of_lt o_mm_re)
          have gn_ra : n0 ≤ ra := Nat.le_trans gn_mm (Nat.le_of_lt o_mm_ra)
          have Hk := Nat.le_refl T110.heap.size
          show own_G p e below _ (T110.setTop (mkF m 98 #[.val (.int p1), .val (.int p2), .val (.int p3), .val (.int p4), .val (.int p5), .val (.int p6), .val (.int (1 : Int32)), .val (.int (0 : Int32)), .val (.int (1 : Int32)), .val (.int (0 : Int32)), .val (.ref ca), .unset, .unset, .unset, .unset, .unset, .unset] [(.ref mm)]))
          refine own_astore X110 hx (#[.val (.int p1), .val (.int p2), .val (.int p3), .val (.int p4), .val (.int p5), .val (.int p6), .val (.int (1 : Int32)), .val (.int (0 : Int32)), .val (.int (1 : Int32)), .val (.int (0 : Int32)), .val (.ref ca), .val (.ref mm), .unset, .unset, .unset, .unset, .unset]) (hb hby at_98) rfl rfl 100 rfl ?_
          refine own_iload X110 hx (hb hby at_100) rfl 102 rfl ?_
          refine own_ifcF X110 hx (hb hby at_102) (feq (by decide)).1 105 rfl ?_
          refine own_aload X110 hx (hb hby at_105) rfl rfl 107 rfl ?_
          refine own_iconst X110 hx (z := (1 : Int32)) (hb hby at_107) rfl 108 rfl ?_
          refine own_iloadN X110 hx (hb hby at_108) rfl 109 rfl ?_
          refine own_iloadN X110 hx (hb hby at_109) rfl 110 rfl ?_
          refine own_callV X110 hx hZ hown (own_w129 hw) (own_w130 hw) (own_w132 hw) (own_w131 hw) (own_w3 hw) (own_w133 hw) (by decide) 0 (own_m_keep1 l Z a0 hw _ n0 FE FA Ee F1 F2 gn_re (Nat.ne_of_lt o_mm_re) (1 : Int32) p2 p3 (by decide)) rfl E_mm (by rw [hml]; rfl) [(.int (1 : Int32)), (.int p2), (.int p3)] [] rfl (lenOf own_pd_19 rfl) rfl (Nat.le_of_eq rfl) (by decide) (by decide) (by decide) (by decide) (hb hby at_110) N110 113 rfl (fun v111 T111 l111 X111 N111 hP111 => ?_)
          obtain ⟨rfl, Gn111, Gc111, K111'⟩ := hP111
          have Hk_111 := Nat.le_trans Hk K111'.1
          have E_mm_111 := E_mm.keep K111'
          have FE_111 := FE.keep K111' (ninS (Nat.ne_of_lt o_mm_re) nin0)
          have FA_111 := FA.keep K111' (ninS (Nat.ne_of_lt o_mm_re) nin0)
          have Ee_111 := Ee.keep K111'
          have Ea_111 := Ea.keep K111'
          have F3_111 := F3.keep K111' (ninS (Nat.ne_of_gt o_re_ra) nin0)
          have F4_111 := F4.keep K111' (ninS (Nat.ne_of_gt o_re_ra) nin0)
          show own_G p e below _ (T111.setTop (mkF m 113 #[.val (.int p1), .val (.int p2), .val (.int p3), .val (.int p4), .val (.int p5), .val (.int p6), .val (.int (1 : Int32)), .val (.int (0 : Int32)), .val (.int (1 : Int32)), .val (.int (0 : Int32)), .val (.ref ca), .val (.ref mm), .unset, .unset, .unset, .unset, .unset] []))
          refine own_iload X111 hx (hb hby at_113) rfl 115 rfl ?_
          refine own_ifcT X111 hx (hb hby at_115) (teq (by decide)).1 127 (by decide) (by decide) ?_
          refine own_iload X111 hx (hb hby at_127) rfl 129 rfl ?_
          refine own_ifcF X111 hx (hb hby at_129) (feq (by decide)).1 132 rfl ?_
          refine own_iload X111 hx (hb hby at_132) rfl 134 rfl ?_
          refine own_ifcF X111 hx (hb hby at_134) (feq (by decide)).1 137 rfl ?_
          refine own_iloadN X111 hx (hb hby at_137) rfl 138 rfl ?_
          refine own_goto X111 hx (hb hby at_138) 142 (by decide) (by decide) ?_
          refine own_istore X111 hx (#[.val (.int p1), .val (.int p2), .val (.int p3), .val (.int p4), .val (.int p5), .val (.int p6), .val (.int (1 : Int32)), .val (.int (0 : Int32)), .val (.int (1 : Int32)), .val (.int (0 : Int32)), .val (.ref ca), .val (.ref mm), .val (.int p2), .unset, .unset, .unset, .unset]) (hb hby at_142) rfl 144 rfl ?_
          refine own_iload X111 hx (hb hby at_144) rfl 146 rfl ?_
          refine own_ifcF X111 hx (hb hby at_146) (feq (by decide)).1 149 rfl ?_
          refine own_iloadN X111 hx (hb hby at_149) rfl 150 rfl ?_
          refine own_goto X111 hx (hb hby at_150) 154 (by decide) (by decide) ?_
          refine own_istore X111 hx (#[.val (.int p1), .val (.int p2), .val (.int p3), .val (.int p4), .val (.int p5), .val (.int p6), .val (.int (1 : Int32)), .val (.int (0 : Int32)), .val (.int (1 : Int32)), .val (.int (0 : Int32)), .val (.ref ca), .val (.ref mm), .val (.int p2), .val (.int p3), .unset, .unset, .unset]) (hb hby at_154) rfl 156 rfl ?_
          refine own_goto X111 hx (hb hby at_156) 184 (by decide) (by decide) ?_
          refine own_iload X111 hx (hb hby at_184) rfl 186 rfl ?_
          refine own_ifcT X111 hx (hb hby at_186) (teq (by decide)).1 194 (by decide) (by decide) ?_
          refine own_iload X111 hx (hb hby at_194) rfl 196 rfl ?_
          refine own_istore X111 hx (#[.val (.int p1), .val (.int p2), .val (.int p3), .val (.int p4), .val (.int p5), .val (.int p6), .val (.int (1 : Int32)), .val (.int (0 : Int32)), .val (.int (1 : Int32)), .val (.int (0 : Int32)), .val (.ref ca), .val (.ref mm), .val (.int p2), .val (.int p3), .val (.int p6), .unset, .unset]) (hb hby at_196) rfl 198 rfl ?_
          refine own_aload X111 hx (hb hby at_198) rfl rfl 200 rfl ?_
          refine own_iload X111 hx (hb hby at_200) rfl 202 rfl ?_
          refine own_iload X111 hx (hb hby at_202) rfl 204 rfl ?_
          refine own_callV X111 hx hZ hown (own_w123 hw) (own_w124 hw) (own_w126 hw) (own_w125 hw) (own_w3 hw) (own_w127 hw) (by decide) 0 (own_m_res l Z a0 hw _ n0 FE_111 FA_111 Gn111 Gc111 F3_111 F4_111 (1 : Int32) p6 (r := (own_f_exp p6 p3 p2)) (own_res_e1 _ _ _ _ _)) rfl E_mm_111 (by rw [hml]; rfl) [(.int (1 : Int32)), (.int p6)] [] rfl (lenOf own_pd_18 rfl) rfl (Nat.le_of_eq rfl) (by decide) (by decide) (by decide) (by decide) (hb hby at_204) N111 207 rfl (fun v112 T112 l112 X112 N112 hP112 => ?_)
          obtain ⟨rfl, e112⟩ := hP112
          show own_G p e below _ (T112.setTop (mkF m 207 #[.val (.int p1), .val (.int p2), .val (.int p3), .val (.int p4), .val (.int p5), .val (.int p6), .val (.int (1 : Int32)), .val (.int (0 : Int32)), .val (.int (1 : Int32)), .val (.int (0 : Int32)), .val (.ref ca), .val (.ref mm), .val (.int p2), .val (.int p3), .val (.int p6), .unset, .unset] [(.int (own_f_exp p6 p3 p2))]))
          refine own_istore X112 hx (#[.val (.int p1), .val (.int p2), .val (.int p3), .val (.int p4), .val (.int p5), .val (.int p6), .val (.int (1 : Int32)), .val (.int (0 : Int32)), .val (.int (1 : Int32)), .val (.int (0 : Int32)), .val (.ref ca), .val (.ref mm), .val (.int p2), .val (.int p3), .val (.int p6), .val (.int (own_f_exp p6 p3 p2)), .unset]) (hb hby at_207) rfl 209 rfl ?_
          refine own_iload X112 hx (hb hby at_209) rfl 211 rfl ?_
          refine own_iload X112 hx (hb hby at_211) rfl 213 rfl ?_
          by_cases hc113 : p6 = p3
          · refine own_icmpF X112 hx (hb hby at_213) (teq hc113).2 216 rfl ?_
            refine own_iload X112 hx (hb hby at_216) rfl 218 rfl ?_
            refine own_goto X112 hx (hb hby at_218) 222 (by decide) (by decide) ?_
            refine own_istore X112 hx (#[.val (.int p1), .val (.int p2), .val (.int p3), .val (.int p4), .val (.int p5), .val (.int p6), .val (.int (1 : Int32)), .val (.int (0 : Int32)), .val (.int (1 : Int32)), .val (.int (0 : Int32)), .val (.ref ca), .val (.ref mm), .val (.int p2), .val (.int p3), .val (.int p6), .val (.int (own_f_exp p6 p3 p2)), .val (.int p2)]) (hb hby at_222) rfl 224 rfl ?_
            refine own_iload X112 hx (hb hby at_224) rfl 226 rfl ?_
            refine own_iload X112 hx (hb hby at_226) rfl 228 rfl ?_
            refine own_icmpF X112 hx (hb hby at_228) (teq (own_exp_T hc113)).2 231 rfl ?_
            refine own_iconst X112 hx (z := (1 : Int32)) (hb hby at_231) rfl 232 rfl ?_
            refine own_goto X112 hx (hb hby at_232) 236 (by decide) (by decide) ?_
            exact own_retNS X112 hx hS hret (Or.inl rfl) hlk (hb hby at_236) (by decide) (by decide) N112 e112 Hk_111 rfl
          · refine own_icmpT X112 hx (hb hby at_213) (feq hc113).2 221 (by decide) (by decide) ?_
            refine own_iconst X112 hx (z := (-1 : Int32)) (hb hby at_221) rfl 222 rfl ?_
            refine own_istore X112 hx (#[.val (.int p1), .val (.int p2), .val (.int p3), .val (.int p4), .val (.int p5), .val (.int p6), .val (.int (1 : Int32)), .val (.int (0 : Int32)), .val (.int (1 : Int32)), .val (.int (0 : Int32)), .val (.ref ca), .val (.ref mm), .val (.int p2), .val (.int p3), .val (.int p6), .val (.int (own_f_exp p6 p3 p2)), .val (.int (-1 : Int32))]) (hb hby at_222) rfl 224 rfl ?_
            refine own_iload X112 hx (hb hby at_224) rfl 226 rfl ?_
            refine own_iload X112 hx (hb hby at_226) rfl 228 rfl ?_
            refine own_icmpF X112 hx (hb hby at_228) (teq (own_exp_F hc113)).2 231 rfl ?_
            refine own_iconst X112 hx (z := (1 : Int32)) (hb hby at_231) rfl 232 rfl ?_
            refine own_goto X112 hx (hb hby at_232) 236 (by decide) (by decide) ?_
            exact own_retNS X112 hx hS hret (Or.inl rfl) hlk (hb hby at_236) (by decide) (by decide) N112 e112 Hk_111 rfl
        · refine own_ifcF X0 hx (hb hby at_43) (feq hc103).1 46 rfl ?_
          refine own_iconst X0 hx (z := (1 : Int32)) (hb hby at_46) rfl 47 rfl ?_
          refine own_goto X0 hx (hb hby at_47) 51 (by decide) (by decide) ?_
          refine own_istore X0 hx (#[.val (.int p1), .val (.int p2), .val (.int p3), .val (.int p4), .val (.int p5), .val (.int p6), .val (.int (1 : Int32)), .val (.int (0 : Int32)), .val (.int (1 : Int32)), .val (.int (1 : Int32)), .unset, .unset, .unset, .unset, .unset, .unset, .unset]) (hb hby at_51) rfl 53 rfl ?_
          refine own_iconst X0 hx (z := (2 : Int32)) (hb hby at_53) rfl 54 rfl ?_
          refine own_newP (aty := .char) X0 hx hZ (own_w0 hw) e0 (hb hby at_54) (by decide) 2 (by decide) (by decide) (by decide) (by decide) 56 rfl (fun T114 h114 cA114 ca g114 X114 e114 E114 B114 => ?_)
          have gn_ca : n0 ≤ ca := Nat.le_trans Z0 (Nat.le_of_eq g114.symm)
          have Z0_114 := Nat.le_trans Z0 E114.1
          have O0_114 := O0.ext E114
          have A_ca_114 : own_A Z h114 ca .char 2 (fun _ => 0) := own_A.new B114 (by decide) rfl
          refine own_dup X114 hx (hb hby at_56) rfl 57 rfl ?_
          refine own_iconst X114 hx (z := (0 : Int32)) (hb hby at_57) rfl 58 rfl ?_
          refine own_iloadN X114 hx (hb hby at_58) rfl 59 rfl ?_
          refine own_bipush X114 hx (z := (8 : Int32)) (hb hby at_59) rfl 61 rfl ?_
          refine own_iushr X114 hx (hb hby at_61) 62 rfl ?_
          refine own_sipush X114 hx (z := (255 : Int32)) (hb hby at_62) rfl 65 rfl ?_
          refine own_iand X114 hx (hb hby at_65) 66 rfl ?_
          refine own_i2c X114 hx (hb hby at_66) 67 rfl ?_
          refine own_castore X114 hx hZ e114 A_ca_114 ⟨by decide, by decide⟩ (hb hby at_67) N0 gn_ca 68 rfl (fun T115 h115 l115 X115 N115 e115 W115 => ?_)
          have Z0_115 := Nat.le_trans Z0_114 (Nat.le_of_eq W115.size.symm)
          have O0_115 := O0_114.wr W115 gn_ca
          have A_ca_115 := A_ca_114.set W115
          refine own_dup X115 hx (hb hby at_68) rfl 69 rfl ?_
          refine own_iconst X115 hx (z := (1 : Int32)) (hb hby at_69) rfl 70 rfl ?_
          refine own_iloadN X115 hx (hb hby at_70) rfl 71 rfl ?_
          refine own_bipush X115 hx (z := (16 : Int32)) (hb hby at_71) rfl 73 rfl ?_
          refine own_iushr X115 hx (hb hby at_73) 74 rfl ?_
          refine own_sipush X115 hx (z := (255 : Int32)) (hb hby at_74) rfl 77 rfl ?_
          refine own_iand X115 hx (hb hby at_77) 78 rfl ?_
          refine own_i2c X115 hx (hb hby at_78) 79 rfl ?_
          refine own_castore X115 hx hZ e115 A_ca_115 ⟨by decide, by decide⟩ (hb hby at_79) N115 gn_ca 80 rfl (fun T116 h116 l116 X116 N116 e116 W116 => ?_)
          have Z0_116 := Nat.le_trans Z0_115 (Nat.le_of_eq W116.size.symm)
          have O0_116 := O0_115.wr W116 gn_ca
          have A_ca_116 := A_ca_115.set W116
          refine own_astore X116 hx (#[.val (.int p1), .val (.int p2), .val (.int p3), .val (.int p4), .val (.int p5), .val (.int p6), .val (.int (1 : Int32)), .val (.int (0 : Int32)), .val (.int (1 : Int32)), .val (.int (1 : Int32)), .val (.ref ca), .unset, .unset, .unset, .unset, .unset, .unset]) (hb hby at_80) rfl rfl 82 rfl ?_
          refine own_newO X116 hx hZ hown (own_w1 hw) (own_w2 hw) (own_w3 hw) e116 (hb hby at_82) (by decide) (by decide) 85 rfl (fun T117 h117 mm g117 X117 e117 E117 B117 D117 => ?_)
          have o_ca_mm : ca < mm := Nat.lt_of_lt_of_eq A_ca_116.lt g117.symm
          have gn_mm : n0 ≤ mm := Nat.le_trans Z0_116 (Nat.le_of_eq g117.symm)
          have Z0_117 := Nat.le_trans Z0_116 E117.1
          have O0_117 := O0_116.ext E117
          have A_ca_117 := A_ca_116.ext E117
          have F_asElement_mm_117 : Fld Z h117 mm "com/example/xqwry/xqwry/MarkupName" "asElement" "Lcom/example/xqwry/xqwry/MarkupName$Resolution;" .null := D117 (Or.inr (own_w49 hw)) (ty := (.object "com/example/xqwry/xqwry/MarkupName$Resolution")) (by decide)
          have F_asAttribute_mm_117 : Fld Z h117 mm "com/example/xqwry/xqwry/MarkupName" "asAttribute" "Lcom/example/xqwry/xqwry/MarkupName$Resolution;" .null := D117 (Or.inr (own_w51 hw)) (ty := (.object "com/example/xqwry/xqwry/MarkupName$Resolution")) (by decide)
          have F_lexicalName_mm_117 : Fld Z h117 mm "com/example/xqwry/xqwry/MarkupName" "lexicalName" "Ljava/lang/String;" .null := D117 (Or.inr (own_w53 hw)) (ty := (.object "java/lang/String")) (by decide)
          have F_prefixed_mm_117 : Fld Z h117 mm "com/example/xqwry/xqwry/MarkupName" "prefixed" "Z" (.int (0 : Int32)) := D117 (Or.inr (own_w97 hw)) (ty := .boolean) (by decide)
          have F_declaredPrefix_mm_117 : Fld Z h117 mm "com/example/xqwry/xqwry/MarkupName" "declaredPrefix" "Ljava/lang/String;" .null := D117 (Or.inr (own_w122 hw)) (ty := (.object "java/lang/String")) (by decide)
          refine own_dup X117 hx (hb hby at_85) rfl 86 rfl ?_
          refine own_newO X117 hx hZ hown (own_w4 hw) (own_w5 hw) (own_w6 hw) e117 (hb hby at_86) (by decide) (by decide) 89 rfl (fun T118 h118 sa g118 X118 e118 E118 B118 D118 => ?_)
          have o_ca_sa : ca < sa := Nat.lt_of_lt_of_eq A_ca_117.lt g118.symm
          have o_mm_sa : mm < sa := Nat.lt_of_lt_of_eq B117.lt g118.symm
          have gn_sa : n0 ≤ sa := Nat.le_trans Z0_117 (Nat.le_of_eq g118.symm)
          have Z0_118 := Nat.le_trans Z0_117 E118.1
          have O0_118 := O0_117.ext E118
          have A_ca_118 := A_ca_117.ext E118
          have B117_118 := B117.ext E118
          have F_asElement_mm_118 := F_asElement_mm_117.ext E118
          have F_asAttribute_mm_118 := F_asAttribute_mm_117.ext E118
          have F_lexicalName_mm_118 := F_lexicalName_mm_117.ext E118
          have F_prefixed_mm_118 := F_prefixed_mm_117.ext E118
          have F_declaredPrefix_mm_118 := F_declaredPrefix_mm_117.ext E118
          have F_coder_sa_118 : Fld Z h118 sa "java/lang/String" "coder" "B" (.int (0 : Int32)) := D118 (Or.inr (own_w30 hw)) (ty := .byte) (by decide)
          have F_value_sa_118 : Fld Z h118 sa "java/lang/String" "value" "[B" .null := D118 (Or.inr (own_w32 hw)) (ty := (.array .byte)) (by decide)
          refine own_dup X118 hx (hb hby at_89) rfl 90 rfl ?_
          refine own_aload X118 hx (hb hby at_90) rfl rfl 92 rfl ?_
          refine own_callI X118 hx hZ hown rfl (own_w7 hw) (own_w8 hw) (own_w6 hw) (own_w9 hw) (by decide) 3 (own_m_sic1 l Z a0 hw _ n0 A_ca_118 B118 F_value_sa_118 F_coder_sa_118 gn_sa (Nat.ne_of_lt o_ca_sa) Z0_118 (own_hc _ _) hcz (SC0.ext O0_118.2)) e118 (by rw [hml]; rfl) sa [(.ref ca)] [(.ref sa), (.ref mm), (.ref mm)] rfl (lenOf own_pd_16 rfl) rfl (Nat.le_of_eq rfl) (by decide) (by decide) (by decide) (by decide) (hb hby at_92) N116 95 rfl (fun v119 T119 l119 X119 N119 hP119 => ?_)
          obtain ⟨rfl, sb, fs119, C_sa, V_sa, A_sb, o_sa_sb, K119'⟩ := hP119
          have Z0_119 := Nat.le_trans Z0_118 K119'.1
          have O0_119 := O0_118.keep K119' (allS gn_sa all0)
          have A_ca_119 := A_ca_118.keep K119' (ninS (Nat.ne_of_lt o_ca_sa) nin0)
          have B117_119 := B117_118.keep K119'
          have F_asElement_mm_119 := F_asElement_mm_118.keep K119' (ninS (Nat.ne_of_lt o_mm_sa) nin0)
          have F_asAttribute_mm_119 := F_asAttribute_mm_118.keep K119' (ninS (Nat.ne_of_lt o_mm_sa) nin0)
          have F_lexicalName_mm_119 := F_lexicalName_mm_118.keep K119' (ninS (Nat.ne_of_lt o_mm_sa) nin0)
          have F_prefixed_mm_119 := F_prefixed_mm_118.keep K119' (ninS (Nat.ne_of_lt o_mm_sa) nin0)
          have F_declaredPrefix_mm_119 := F_declaredPrefix_mm_118.keep K119' (ninS (Nat.ne_of_lt o_mm_sa) nin0)
          have B118_119 := B118.keep K119'
          have o_mm_sb : mm < sb := Nat.lt_trans o_mm_sa o_sa_sb
          show own_G p e below _ (T119.setTop (mkF m 95 #[.val (.int p1), .val (.int p2), .val (.int p3), .val (.int p4), .val (.int p5), .val (.int p6), .val (.int (1 : Int32)), .val (.int (0 : Int32)), .val (.int (1 : Int32)), .val (.int (1 : Int32)), .val (.ref ca), .unset, .unset, .unset, .unset, .unset, .unset] [(.ref sa), (.ref mm), (.ref mm)]))
          refine own_callIS X119 hx hZH hown rfl (own_w33 hw) (own_w34 hw) (own_w3 hw) (own_w35 hw) (by decide) 1 (own_m_minit l Z a0 hw _ n0 B117_119 F_lexicalName_mm_119 F_prefixed_mm_119 F_declaredPrefix_mm_119 F_asElement_mm_119 F_asAttribute_mm_119 B118_119 C_sa V_sa A_sb gn_mm gn_sa o_mm_sa o_sa_sb o_mm_sb Z0_119 O0_119 wS hH33 hH44 hcw hcz SC0) rfl (by rw [hml]; rfl) mm [.ref sa] [(.ref mm)] rfl (lenOf own_pd_17 rfl) rfl (Nat.le_of_eq rfl) (by decide) (by decide) (by decide) (by decide) (hb hby at_95) N119 98 rfl (fun v120 T120 l120 X120 N120 hS hZ hown hP120 => ?_)
          obtain ⟨rfl, re, ra, FE, FA, Ee, Ea, F1, F2, F3, F4, o_mm_re, o_re_ra, K120'⟩ := hP120
          have E_mm := B117_119.keep K120'
          have o_mm_ra : mm < ra := Nat.lt_trans o_mm_re o_re_ra
          have gn_re : n0 ≤ re := Nat.le_trans gn_mm (Nat.le_of_lt o_mm_re)
          have gn_ra : n0 ≤ ra := Nat.le_trans gn_mm (Nat.le_of_lt o_mm_ra)
          have Hk := Nat.le_refl T120.heap.size
          show own_G p e below _ (T120.setTop (mkF m 98 #[.val (.int p1), .val (.int p2), .val (.int p3), .val (.int p4), .val (.int p5), .val (.int p6), .val (.int (1 : Int32)), .val (.int (0 : Int32)), .val (.int (1 : Int32)), .val (.int (1 : Int32)), .val (.ref ca), .unset, .unset, .unset, .unset, .unset, .unset] [(.ref mm)]))
          refine own_astore X120 hx (#[.val (.int p1), .val (.int p2), .val (.int p3), .val (.int p4), .val (.int p5), .val (.int p6), .val (.int (1 : Int32)), .val (.int (0 : Int32)), .val (.int (1 : Int32)), .val (.int (1 : Int32)), .val (.ref ca), .val (.ref mm), .unset, .unset, .unset, .unset, .unset]) (hb hby at_98) rfl rfl 100 rfl ?_
          refine own_iload X120 hx (hb hby at_100) rfl 102 rfl ?_
          refine own_ifcF X120 hx (hb hby at_102) (feq (by decide)).1 105 rfl ?_
          refine own_aload X120 hx (hb hby at_105) rfl rfl 107 rfl ?_
          refine own_iconst X120 hx (z := (1 : Int32)) (hb hby at_107) rfl 108 rfl ?_
          refine own_iloadN X120 hx (hb hby at_108) rfl 109 rfl ?_
          refine own_iloadN X120 hx (hb hby at_109) rfl 110 rfl ?_
          refine own_callV X120 hx hZ hown (own_w129 hw) (own_w130 hw) (own_w132 hw) (own_w131 hw) (own_w3 hw) (own_w133 hw) (by decide) 0 (own_m_keep1 l Z a0 hw _ n0 FE FA Ee F1 F2 gn_re (Nat.ne_of_lt o_mm_re) (1 : Int32) p2 p3 (by decide)) rfl E_mm (by rw [hml]; rfl) [(.int (1 : Int32)), (.int p2), (.int p3)] [] rfl (lenOf own_pd_19 rfl) rfl (Nat.le_of_eq rfl) (by decide) (by decide) (by decide) (by decide) (hb hby at_110) N120 113 rfl (fun v121 T121 l121 X121 N121 hP121 => ?_)
          obtain ⟨rfl, Gn121, Gc121, K121'⟩ := hP121
          have Hk_121 := Nat.le_trans Hk K121'.1
          have E_mm_121 := E_mm.keep K121'
          have FE_121 := FE.keep K121' (ninS (Nat.ne_of_lt o_mm_re) nin0)
          have FA_121 := FA.keep K121' (ninS (Nat.ne_of_lt o_mm_re) nin0)
          have Ee_121 := Ee.keep K121'
          have Ea_121 := Ea.keep K121'
          have F3_121 := F3.keep K121' (ninS (Nat.ne_of_gt o_re_ra) nin0)
          have F4_121 := F4.keep K121' (ninS (Nat.ne_of_gt o_re_ra) nin0)
          show own_G p e below _ (T121.setTop (mkF m 113 #[.val (.int p1), .val (.int p2), .val (.int p3), .val (.int p4), .val (.int p5), .val (.int p6), .val (.int (1 : Int32)), .val (.int (0 : Int32)), .val (.int (1 : Int32)), .val (.int (1 : Int32)), .val (.ref ca), .val (.ref mm), .unset, .unset, .unset, .unset, .unset] []))
          refine own_iload X121 hx (hb hby at_113) rfl 115 rfl ?_
          refine own_ifcT X121 hx (hb hby at_115) (teq (by decide)).1 127 (by decide) (by decide) ?_
          refine own_iload X121 hx (hb hby at_127) rfl 129 rfl ?_
          refine own_ifcF X121 hx (hb hby at_129) (feq (by decide)).1 132 rfl ?_
          refine own_iload X121 hx (hb hby at_132) rfl 134 rfl ?_
          refine own_ifcF X121 hx (hb hby at_134) (feq (by decide)).1 137 rfl ?_
          refine own_iloadN X121 hx (hb hby at_137) rfl 138 rfl ?_
          refine own_goto X121 hx (hb hby at_138) 142 (by decide) (by decide) ?_
          refine own_istore X121 hx (#[.val (.int p1), .val (.int p2), .val (.int p3), .val (.int p4), .val (.int p5), .val (.int p6), .val (.int (1 : Int32)), .val (.int (0 : Int32)), .val (.int (1 : Int32)), .val (.int (1 : Int32)), .val (.ref ca), .val (.ref mm), .val (.int p2), .unset, .unset, .unset, .unset]) (hb hby at_142) rfl 144 rfl ?_
          refine own_iload X121 hx (hb hby at_144) rfl 146 rfl ?_
          refine own_ifcF X121 hx (hb hby at_146) (feq (by decide)).1 149 rfl ?_
          refine own_iloadN X121 hx (hb hby at_149) rfl 150 rfl ?_
          refine own_goto X121 hx (hb hby at_150) 154 (by decide) (by decide) ?_
          refine own_istore X121 hx (#[.val (.int p1), .val (.int p2), .val (.int p3), .val (.int p4), .val (.int p5), .val (.int p6), .val (.int (1 : Int32)), .val (.int (0 : Int32)), .val (.int (1 : Int32)), .val (.int (1 : Int32)), .val (.ref ca), .val (.ref mm), .val (.int p2), .val (.int p3), .unset, .unset, .unset]) (hb hby at_154) rfl 156 rfl ?_
          refine own_goto X121 hx (hb hby at_156) 184 (by decide) (by decide) ?_
          refine own_iload X121 hx (hb hby at_184) rfl 186 rfl ?_
          refine own_ifcF X121 hx (hb hby at_186) (feq (by decide)).1 189 rfl ?_
          refine own_iload X121 hx (hb hby at_189) rfl 191 rfl ?_
          refine own_goto X121 hx (hb hby at_191) 196 (by decide) (by decide) ?_
          refine own_istore X121 hx (#[.val (.int p1), .val (.int p2), .val (.int p3), .val (.int p4), .val (.int p5), .val (.int p6), .val (.int (1 : Int32)), .val (.int (0 : Int32)), .val (.int (1 : Int32)), .val (.int (1 : Int32)), .val (.ref ca), .val (.ref mm), .val (.int p2), .val (.int p3), .val (.int p3), .unset, .unset]) (hb hby at_196) rfl 198 rfl ?_
          refine own_aload X121 hx (hb hby at_198) rfl rfl 200 rfl ?_
          refine own_iload X121 hx (hb hby at_200) rfl 202 rfl ?_
          refine own_iload X121 hx (hb hby at_202) rfl 204 rfl ?_
          refine own_callV X121 hx hZ hown (own_w123 hw) (own_w124 hw) (own_w126 hw) (own_w125 hw) (own_w3 hw) (own_w127 hw) (by decide) 0 (own_m_res l Z a0 hw _ n0 FE_121 FA_121 Gn121 Gc121 F3_121 F4_121 (1 : Int32) p3 (r := p2) (own_res_n1 _ _ _ _)) rfl E_mm_121 (by rw [hml]; rfl) [(.int (1 : Int32)), (.int p3)] [] rfl (lenOf own_pd_18 rfl) rfl (Nat.le_of_eq rfl) (by decide) (by decide) (by decide) (by decide) (hb hby at_204) N121 207 rfl (fun v122 T122 l122 X122 N122 hP122 => ?_)
          obtain ⟨rfl, e122⟩ := hP122
          show own_G p e below _ (T122.setTop (mkF m 207 #[.val (.int p1), .val (.int p2), .val (.int p3), .val (.int p4), .val (.int p5), .val (.int p6), .val (.int (1 : Int32)), .val (.int (0 : Int32)), .val (.int (1 : Int32)), .val (.int (1 : Int32)), .val (.ref ca), .val (.ref mm), .val (.int p2), .val (.int p3), .val (.int p3), .unset, .unset] [(.int p2)]))
          refine own_istore X122 hx (#[.val (.int p1), .val (.int p2), .val (.int p3), .val (.int p4), .val (.int p5), .val (.int p6), .val (.int (1 : Int32)), .val (.int (0 : Int32)), .val (.int (1 : Int32)), .val (.int (1 : Int32)), .val (.ref ca), .val (.ref mm), .val (.int p2), .val (.int p3), .val (.int p3), .val (.int p2), .unset]) (hb hby at_207) rfl 209 rfl ?_
          refine own_iload X122 hx (hb hby at_209) rfl 211 rfl ?_
          refine own_iload X122 hx (hb hby at_211) rfl 213 rfl ?_
          refine own_icmpF X122 hx (hb hby at_213) (teq rfl).2 216 rfl ?_
          refine own_iload X122 hx (hb hby at_216) rfl 218 rfl ?_
          refine own_goto X122 hx (hb hby at_218) 222 (by decide) (by decide) ?_
          refine own_istore X122 hx (#[.val (.int p1), .val (.int p2), .val (.int p3), .val (.int p4), .val (.int p5), .val (.int p6), .val (.int (1 : Int32)), .val (.int (0 : Int32)), .val (.int (1 : Int32)), .val (.int (1 : Int32)), .val (.ref ca), .val (.ref mm), .val (.int p2), .val (.int p3), .val (.int p3), .val (.int p2), .val (.int p2)]) (hb hby at_222) rfl 224 rfl ?_
          refine own_iload X122 hx (hb hby at_224) rfl 226 rfl ?_
          refine own_iload X122 hx (hb hby at_226) rfl 228 rfl ?_
          refine own_icmpF X122 hx (hb hby at_228) (teq rfl).2 231 rfl ?_
          refine own_iconst X122 hx (z := (1 : Int32)) (hb hby at_231) rfl 232 rfl ?_
          refine own_goto X122 hx (hb hby at_232) 236 (by decide) (by decide) ?_
          exact own_retNS X122 hx hS hret (Or.inl rfl) hlk (hb hby at_236) (by decide) (by decide) N122 e122 Hk_121 rfl
    · refine own_ifcF X0 hx (hb hby at_16) (feq hc81).1 19 rfl ?_
      refine own_iconst X0 hx (z := (1 : Int32)) (hb hby at_19) rfl 20 rfl ?_
      refine own_goto X0 hx (hb hby at_20) 24 (by decide) (by decide) ?_
      refine own_istore X0 hx (#[.val (.int p1), .val (.int p2), .val (.int p3), .val (.int p4), .val (.int p5), .val (.int p6), .val (.int (1 : Int32)), .val (.int (1 : Int32)), .unset, .unset, .unset, .unset, .unset, .unset, .unset, .unset, .unset]) (hb hby at_24) rfl 26 rfl ?_
      refine own_iloadN X0 hx (hb hby at_26) rfl 27 rfl ?_
      refine own_iconst X0 hx (z := (4 : Int32)) (hb hby at_27) rfl 28 rfl ?_
      refine own_iand X0 hx (hb hby at_28) 29 rfl ?_
      by_cases hc123 : (p1 &&& (4 : Int32)) = (0 : Int32)
      · refine own_ifcT X0 hx (hb hby at_29) (teq hc123).1 36 (by decide) (by decide) ?_
        refine own_iconst X0 hx (z := (0 : Int32)) (hb hby at_36) rfl 37 rfl ?_
        refine own_istore X0 hx (#[.val (.int p1), .val (.int p2), .val (.int p3), .val (.int p4), .val (.int p5), .val (.int p6), .val (.int (1 : Int32)), .val (.int (1 : Int32)), .val (.int (0 : Int32)), .unset, .unset, .unset, .unset, .unset, .unset, .unset, .unset]) (hb hby at_37) rfl 39 rfl ?_
        refine own_iloadN X0 hx (hb hby at_39) rfl 40 rfl ?_
        refine own_bipush X0 hx (z := (8 : Int32)) (hb hby at_40) rfl 42 rfl ?_
        refine own_iand X0 hx (hb hby at_42) 43 rfl ?_
        by_cases hc124 : (p1 &&& (8 : Int32)) = (0 : Int32)
        · refine own_ifcT X0 hx (hb hby at_43) (teq hc124).1 50 (by decide) (by decide) ?_
          refine own_iconst X0 hx (z := (0 : Int32)) (hb hby at_50) rfl 51 rfl ?_
          refine own_istore X0 hx (#[.val (.int p1), .val (.int p2), .val (.int p3), .val (.int p4), .val (.int p5), .val (.int p6), .val (.int (1 : Int32)), .val (.int (1 : Int32)), .val (.int (0 : Int32)), .val (.int (0 : Int32)), .unset, .unset, .unset, .unset, .unset, .unset, .unset]) (hb hby at_51) rfl 53 rfl ?_
          refine own_iconst X0 hx (z := (2 : Int32)) (hb hby at_53) rfl 54 rfl ?_
          refine own_newP (aty := .char) X0 hx hZ (own_w0 hw) e0 (hb hby at_54) (by decide) 2 (by decide) (by decide) (by decide) (by decide) 56 rfl (fun T125 h125 cA125 ca g125 X125 e125 E125 B125 => ?_)
          have gn_ca : n0 ≤ ca := Nat.le_trans Z0 (Nat.le_of_eq g125.symm)
          have Z0_125 := Nat.le_trans Z0 E125.1
          have O0_125 := O0.ext E125
          have A_ca_125 : own_A Z h125 ca .char 2 (fun _ => 0) := own_A.new B125 (by decide) rfl
          refine own_dup X125 hx (hb hby at_56) rfl 57 rfl ?_
          refine own_iconst X125 hx (z := (0 : Int32)) (hb hby at_57) rfl 58 rfl ?_
          refine own_iloadN X125 hx (hb hby at_58) rfl 59 rfl ?_
          refine own_bipush X125 hx (z := (8 : Int32)) (hb hby at_59) rfl 61 rfl ?_
          refine own_iushr X125 hx (hb hby at_61) 62 rfl ?_
          refine own_sipush X125 hx (z := (255 : Int32)) (hb hby at_62) rfl 65 rfl ?_
          refine own_iand X125 hx (hb hby at_65) 66 rfl ?_
          refine own_i2c X125 hx (hb hby at_66) 67 rfl ?_
          refine own_castore X125 hx hZ e125 A_ca_125 ⟨by decide, by decide⟩ (hb hby at_67) N0 gn_ca 68 rfl (fun T126 h126 l126 X126 N126 e126 W126 => ?_)
          have Z0_126 := Nat.le_trans Z0_125 (Nat.le_of_eq W126.size.symm)
          have O0_126 := O0_125.wr W126 gn_ca
          have A_ca_126 := A_ca_125.set W126
          refine own_dup X126 hx (hb hby at_68) rfl 69 rfl ?_
          refine own_iconst X126 hx (z := (1 : Int32)) (hb hby at_69) rfl 70 rfl ?_
          refine own_iloadN X126 hx (hb hby at_70) rfl 71 rfl ?_
          refine own_bipush X126 hx (z := (16 : Int32)) (hb hby at_71) rfl 73 rfl ?_
          refine own_iushr X126 hx (hb hby at_73) 74 rfl ?_
          refine own_sipush X126 hx (z := (255 : Int32)) (hb hby at_74) rfl 77 rfl ?_
          refine own_iand X126 hx (hb hby at_77) 78 rfl ?_
          refine own_i2c X126 hx (hb hby at_78) 79 rfl ?_
          refine own_castore X126 hx hZ e126 A_ca_126 ⟨by decide, by decide⟩ (hb hby at_79) N126 gn_ca 80 rfl (fun T127 h127 l127 X127 N127 e127 W127 => ?_)
          have Z0_127 := Nat.le_trans Z0_126 (Nat.le_of_eq W127.size.symm)
          have O0_127 := O0_126.wr W127 gn_ca
          have A_ca_127 := A_ca_126.set W127
          refine own_astore X127 hx (#[.val (.int p1), .val (.int p2), .val (.int p3), .val (.int p4), .val (.int p5), .val (.int p6), .val (.int (1 : Int32)), .val (.int (1 : Int32)), .val (.int (0 : Int32)), .val (.int (0 : Int32)), .val (.ref ca), .unset, .unset, .unset, .unset, .unset, .unset]) (hb hby at_80) rfl rfl 82 rfl ?_
          refine own_newO X127 hx hZ hown (own_w1 hw) (own_w2 hw) (own_w3 hw) e127 (hb hby at_82) (by decide) (by decide) 85 rfl (fun T128 h128 mm g128 X128 e128 E128 B128 D128 => ?_)
          have o_ca_mm : ca < mm := Nat.lt_of_lt_of_eq A_ca_127.lt g128.symm
          have gn_mm : n0 ≤ mm := Nat.le_trans Z0_127 (Nat.le_of_eq g128.symm)
          have Z0_128 := Nat.le_trans Z0_127 E128.1
          have O0_128 := O0_127.ext E128
          have A_ca_128 := A_ca_127.ext E128
          have F_asElement_mm_128 : Fld Z h128 mm "com/example/xqwry/xqwry/MarkupName" "asElement" "Lcom/example/xqwry/xqwry/MarkupName$Resolution;" .null := D128 (Or.inr (own_w49 hw)) (ty := (.object "com/example/xqwry/xqwry/MarkupName$Resolution")) (by decide)
          have F_asAttribute_mm_128 : Fld Z h128 mm "com/example/xqwry/xqwry/MarkupName" "asAttribute" "Lcom/example/xqwry/xqwry/MarkupName$Resolution;" .null := D128 (Or.inr (own_w51 hw)) (ty := (.object "com/example/xqwry/xqwry/MarkupName$Resolution")) (by decide)
          have F_lexicalName_mm_128 : Fld Z h128 mm "com/example/xqwry/xqwry/MarkupName" "lexicalName" "Ljava/lang/String;" .null := D128 (Or.inr (own_w53 hw)) (ty := (.object "java/lang/String")) (by decide)
          have F_prefixed_mm_128 : Fld Z h128 mm "com/example/xqwry/xqwry/MarkupName" "prefixed" "Z" (.int (0 : Int32)) := D128 (Or.inr (own_w97 hw)) (ty := .boolean) (by decide)
          have F_declaredPrefix_mm_128 : Fld Z h128 mm "com/example/xqwry/xqwry/MarkupName" "declaredPrefix" "Ljava/lang/String;" .null := D128 (Or.inr (own_w122 hw)) (ty := (.object "java/lang/String")) (by decide)
          refine own_dup X128 hx (hb hby at_85) rfl 86 rfl ?_
          refine own_newO X128 hx hZ hown (own_w4 hw) (own_w5 hw) (own_w6 hw) e128 (hb hby at_86) (by decide) (by decide) 89 rfl (fun T129 h129 sa g129 X129 e129 E129 B129 D129 => ?_)
          have o_ca_sa : ca < sa := Nat.lt_of_lt_of_eq A_ca_128.lt g129.symm
          have o_mm_sa : mm < sa := Nat.lt_of_lt_of_eq B128.lt g129.symm
          have gn_sa : n0 ≤ sa := Nat.le_trans Z0_128 (Nat.le_of_eq g129.symm)
          have Z0_129 := Nat.le_trans Z0_128 E129.1
          have O0_129 := O0_128.ext E129
          have A_ca_129 := A_ca_128.ext E129
          have B128_129 := B128.ext E129
          have F_asElement_mm_129 := F_asElement_mm_128.ext E129
          have F_asAttribute_mm_129 := F_asAttribute_mm_128.ext E129
          have F_lexicalName_mm_129 := F_lexicalName_mm_128.ext E129
          have F_prefixed_mm_129 := F_prefixed_mm_128.ext E129
          have F_declaredPrefix_mm_129 := F_declaredPrefix_mm_128.ext E129
          have F_coder_sa_129 : Fld Z h129 sa "java/lang/String" "coder" "B" (.int (0 : Int32)) := D129 (Or.inr (own_w30 hw)) (ty := .byte) (by decide)
          have F_value_sa_129 : Fld Z h129 sa "java/lang/String" "value" "[B" .null := D129 (Or.inr (own_w32 hw)) (ty := (.array .byte)) (by decide)
          refine own_dup X129 hx (hb hby at_89) rfl 90 rfl ?_
          refine own_aload X129 hx (hb hby at_90) rfl rfl 92 rfl ?_
          refine own_callI X129 hx hZ hown rfl (own_w7 hw) (own_w8 hw) (own_w6 hw) (own_w9 hw) (by decide) 3 (own_m_sic1 l Z a0 hw _ n0 A_ca_129 B129 F_value_sa_129 F_coder_sa_129 gn_sa (Nat.ne_of_lt o_ca_sa) Z0_129 (own_hc _ _) hcz (SC0.ext O0_129.2)) e129 (by rw [hml]; rfl) sa [(.ref ca)] [(.ref sa), (.ref mm), (.ref mm)] rfl (lenOf own_pd_16 rfl) rfl (Nat.le_of_eq rfl) (by decide) (by decide) (by decide) (by decide) (hb hby at_92) N127 95 rfl (fun v130 T130 l130 X130 N130 hP130 => ?_)
          obtain ⟨rfl, sb, fs130, C_sa, V_sa, A_sb, o_sa_sb, K130'⟩ := hP130
          have Z0_130 := Nat.le_trans Z0_129 K130'.1
          have O0_130 := O0_129.keep K130' (allS gn_sa all0)
          have A_ca_130 := A_ca_129.keep K130' (ninS (Nat.ne_of_lt o_ca_sa) nin0)
          have B128_130 := B128_129.keep K130'
          have F_asElement_mm_130 := F_asElement_mm_129.keep K130' (ninS (Nat.ne_of_lt o_mm_sa) nin0)
          have F_asAttribute_mm_130 := F_asAttribute_mm_129.keep K130' (ninS (Nat.ne_of_lt o_mm_sa) nin0)
          have F_lexicalName_mm_130 := F_lexicalName_mm_129.keep K130' (ninS (Nat.ne_of_lt o_mm_sa) nin0)
          have F_prefixed_mm_130 := F_prefixed_mm_129.keep K130' (ninS (Nat.ne_of_lt o_mm_sa) nin0)
          have F_declaredPrefix_mm_130 := F_declaredPrefix_mm_129.keep K130' (ninS (Nat.ne_of_lt o_mm_sa) nin0)
          have B129_130 := B129.keep K130'
          have o_mm_sb : mm < sb := Nat.lt_trans o_mm_sa o_sa_sb
          show own_G p e below _ (T130.setTop (mkF m 95 #[.val (.int p1), .val (.int p2), .val (.int p3), .val (.int p4), .val (.int p5), .val (.int p6), .val (.int (1 : Int32)), .val (.int (1 : Int32)), .val (.int (0 : Int32)), .val (.int (0 : Int32)), .val (.ref ca), .unset, .unset, .unset, .unset, .unset, .unset] [(.ref sa), (.ref mm), (.ref mm)]))
          refine own_callIS X130 hx hZH hown rfl (own_w33 hw) (own_w34 hw) (own_w3 hw) (own_w35 hw) (by decide) 1 (own_m_minit l Z a0 hw _ n0 B128_130 F_lexicalName_mm_130 F_prefixed_mm_130 F_declaredPrefix_mm_130 F_asElement_mm_130 F_asAttribute_mm_130 B129_130 C_sa V_sa A_sb gn_mm gn_sa o_mm_sa o_sa_sb o_mm_sb Z0_130 O0_130 wS hH33 hH44 hcw hcz SC0) rfl (by rw [hml]; rfl) mm [.ref sa] [(.ref mm)] rfl (lenOf own_pd_17 rfl) rfl (Nat.le_of_eq rfl) (by decide) (by decide) (by decide) (by decide) (hb hby at_95) N130 98 rfl (fun v131 T131 l131 X131 N131 hS hZ hown hP131 => ?_)
          obtain ⟨rfl, re, ra, FE, FA, Ee, Ea, F1, F2, F3, F4, o_mm_re, o_re_ra, K131'⟩ := hP131
          have E_mm := B128_130.keep K131'
          have o_mm_ra : mm < ra := Nat.lt_trans o_mm_re o_re_ra
          have gn_re : n0 ≤ re := Nat.le_trans gn_mm (Nat.le_of_lt o_mm_re)
          have gn_ra : n0 ≤ ra := Nat.le_trans gn_mm (Nat.le_of_lt o_mm_ra)
          have Hk := Nat.le_refl T131.heap.size
          show own_G p e below _ (T131.setTop (mkF m 98 #[.val (.int p1), .val (.int p2), .val (.int p3), .val (.int p4), .val (.int p5), .val (.int p6), .val (.int (1 : Int32)), .val (.int (1 : Int32)), .val (.int (0 : Int32)), .val (.int (0 : Int32)), .val (.ref ca), .unset, .unset, .unset, .unset, .unset, .unset] [(.ref mm)]))
          refine own_astore X131 hx (#[.val (.int p1), .val (.int p2), .val (.int p3), .val (.int p4), .val (.int p5), .val (.int p6), .val (.int (1 : Int32)), .val (.int (1 : Int32)), .val (.int (0 : Int32)), .val (.int (0 : Int32)), .val (.ref ca), .val (.ref mm), .unset, .unset, .unset, .unset, .unset]) (hb hby at_98) rfl rfl 100 rfl ?_
          refine own_iload X131 hx (hb hby at_100) rfl 102 rfl ?_
          refine own_ifcF X131 hx (hb hby at_102) (feq (by decide)).1 105 rfl ?_
          refine own_aload X131 hx (hb hby at_105) rfl rfl 107 rfl ?_
          refine own_iconst X131 hx (z := (1 : Int32)) (hb hby at_107) rfl 108 rfl ?_
          refine own_iloadN X131 hx (hb hby at_108) rfl 109 rfl ?_
          refine own_iloadN X131 hx (hb hby at_109) rfl 110 rfl ?_
          refine own_callV X131 hx hZ hown (own_w129 hw) (own_w130 hw) (own_w132 hw) (own_w131 hw) (own_w3 hw) (own_w133 hw) (by decide) 0 (own_m_keep1 l Z a0 hw _ n0 FE FA Ee F1 F2 gn_re (Nat.ne_of_lt o_mm_re) (1 : Int32) p2 p3 (by decide)) rfl E_mm (by rw [hml]; rfl) [(.int (1 : Int32)), (.int p2), (.int p3)] [] rfl (lenOf own_pd_19 rfl) rfl (Nat.le_of_eq rfl) (by decide) (by decide) (by decide) (by decide) (hb hby at_110) N131 113 rfl (fun v132 T132 l132 X132 N132 hP132 => ?_)
          obtain ⟨rfl, Gn132, Gc132, K132'⟩ := hP132
          have Hk_132 := Nat.le_trans Hk K132'.1
          have E_mm_132 := E_mm.keep K132'
          have FE_132 := FE.keep K132' (ninS (Nat.ne_of_lt o_mm_re) nin0)
          have FA_132 := FA.keep K132' (ninS (Nat.ne_of_lt o_mm_re) nin0)
          have Ee_132 := Ee.keep K132'
          have Ea_132 := Ea.keep K132'
          have F3_132 := F3.keep K132' (ninS (Nat.ne_of_gt o_re_ra) nin0)
          have F4_132 := F4.keep K132' (ninS (Nat.ne_of_gt o_re_ra) nin0)
          show own_G p e below _ (T132.setTop (mkF m 113 #[.val (.int p1), .val (.int p2), .val (.int p3), .val (.int p4), .val (.int p5), .val (.int p6), .val (.int (1 : Int32)), .val (.int (1 : Int32)), .val (.int (0 : Int32)), .val (.int (0 : Int32)), .val (.ref ca), .val (.ref mm), .unset, .unset, .unset, .unset, .unset] []))
          refine own_iload X132 hx (hb hby at_113) rfl 115 rfl ?_
          refine own_ifcF X132 hx (hb hby at_115) (feq (by decide)).1 118 rfl ?_
          refine own_aload X132 hx (hb hby at_118) rfl rfl 120 rfl ?_
          refine own_iconst X132 hx (z := (0 : Int32)) (hb hby at_120) rfl 121 rfl ?_
          refine own_iloadN X132 hx (hb hby at_121) rfl 122 rfl ?_
          refine own_iload X132 hx (hb hby at_122) rfl 124 rfl ?_
          refine own_callV X132 hx hZ hown (own_w129 hw) (own_w130 hw) (own_w132 hw) (own_w131 hw) (own_w3 hw) (own_w133 hw) (by decide) 0 (own_m_keep0 l Z a0 hw _ n0 FE_132 FA_132 Ea_132 F3_132 F4_132 gn_ra (Nat.ne_of_lt o_mm_ra) (0 : Int32) p4 p5 (by decide)) rfl E_mm_132 (by rw [hml]; rfl) [(.int (0 : Int32)), (.int p4), (.int p5)] [] rfl (lenOf own_pd_19 rfl) rfl (Nat.le_of_eq rfl) (by decide) (by decide) (by decide) (by decide) (hb hby at_124) N132 127 rfl (fun v133 T133 l133 X133 N133 hP133 => ?_)
          obtain ⟨rfl, Gn133, Gc133, K133'⟩ := hP133
          have Hk_133 := Nat.le_trans Hk_132 K133'.1
          have E_mm_133 := E_mm_132.keep K133'
          have FE_133 := FE_132.keep K133' (ninS (Nat.ne_of_lt o_mm_ra) nin0)
          have FA_133 := FA_132.keep K133' (ninS (Nat.ne_of_lt o_mm_ra) nin0)
          have Ee_133 := Ee_132.keep K133'
          have Ea_133 := Ea_132.keep K133'
          have Gn132_133 := Gn132.keep K133' (ninS (Nat.ne_of_lt o_re_ra) nin0)
          have Gc132_133 := Gc132.keep K133' (ninS (Nat.ne_of_lt o_re_ra) nin0)
          show own_G p e below _ (T133.setTop (mkF m 127 #[.val (.int p1), .val (.int p2), .val (.int p3), .val (.int p4), .val (.int p5), .val (.int p6), .val (.int (1 : Int32)), .val (.int (1 : Int32)), .val (.int (0 : Int32)), .val (.int (0 : Int32)), .val (.ref ca), .val (.ref mm), .unset, .unset, .unset, .unset, .unset] []))
          refine own_iload X133 hx (hb hby at_127) rfl 129 rfl ?_
          refine own_ifcT X133 hx (hb hby at_129) (teq (by decide)).1 159 (by decide) (by decide) ?_
          refine own_iload X133 hx (hb hby at_159) rfl 161 rfl ?_
          refine own_ifcF X133 hx (hb hby at_161) (feq (by decide)).1 164 rfl ?_
          refine own_iloadN X133 hx (hb hby at_164) rfl 165 rfl ?_
          refine own_goto X133 hx (hb hby at_165) 169 (by decide) (by decide) ?_
          refine own_istore X133 hx (#[.val (.int p1), .val (.int p2), .val (.int p3), .val (.int p4), .val (.int p5), .val (.int p6), .val (.int (1 : Int32)), .val (.int (1 : Int32)), .val (.int (0 : Int32)), .val (.int (0 : Int32)), .val (.ref ca), .val (.ref mm), .val (.int p4), .unset, .unset, .unset, .unset]) (hb hby at_169) rfl 171 rfl ?_
          refine own_iload X133 hx (hb hby at_171) rfl 173 rfl ?_
          refine own_ifcF X133 hx (hb hby at_173) (feq (by decide)).1 176 rfl ?_
          refine own_iload X133 hx (hb hby at_176) rfl 178 rfl ?_
          refine own_goto X133 hx (hb hby at_178) 182 (by decide) (by decide) ?_
          refine own_istore X133 hx (#[.val (.int p1), .val (.int p2), .val (.int p3), .val (.int p4), .val (.int p5), .val (.int p6), .val (.int (1 : Int32)), .val (.int (1 : Int32)), .val (.int (0 : Int32)), .val (.int (0 : Int32)), .val (.ref ca), .val (.ref mm), .val (.int p4), .val (.int p5), .unset, .unset, .unset]) (hb hby at_182) rfl 184 rfl ?_
          refine own_iload X133 hx (hb hby at_184) rfl 186 rfl ?_
          refine own_ifcT X133 hx (hb hby at_186) (teq (by decide)).1 194 (by decide) (by decide) ?_
          refine own_iload X133 hx (hb hby at_194) rfl 196 rfl ?_
          refine own_istore X133 hx (#[.val (.int p1), .val (.int p2), .val (.int p3), .val (.int p4), .val (.int p5), .val (.int p6), .val (.int (1 : Int32)), .val (.int (1 : Int32)), .val (.int (0 : Int32)), .val (.int (0 : Int32)), .val (.ref ca), .val (.ref mm), .val (.int p4), .val (.int p5), .val (.int p6), .unset, .unset]) (hb hby at_196) rfl 198 rfl ?_
          refine own_aload X133 hx (hb hby at_198) rfl rfl 200 rfl ?_
          refine own_iload X133 hx (hb hby at_200) rfl 202 rfl ?_
          refine own_iload X133 hx (hb hby at_202) rfl 204 rfl ?_
          refine own_callV X133 hx hZ hown (own_w123 hw) (own_w124 hw) (own_w126 hw) (own_w125 hw) (own_w3 hw) (own_w127 hw) (by decide) 0 (own_m_res l Z a0 hw _ n0 FE_133 FA_133 Gn132_133 Gc132_133 Gn133 Gc133 (0 : Int32) p6 (r := (own_f_exp p6 p5 p4)) (own_res_e0 _ _ _ _ _)) rfl E_mm_133 (by rw [hml]; rfl) [(.int (0 : Int32)), (.int p6)] [] rfl (lenOf own_pd_18 rfl) rfl (Nat.le_of_eq rfl) (by decide) (by decide) (by decide) (by decide) (hb hby at_204) N133 207 rfl (fun v134 T134 l134 X134 N134 hP134 => ?_)
          obtain ⟨rfl, e134⟩ := hP134
          show own_G p e below _ (T134.setTop (mkF m 207 #[.val (.int p1), .val (.int p2), .val (.int p3), .val (.int p4), .val (.int p5), .val (.int p6), .val (.int (1 : Int32)), .val (.int (1 : Int32)), .val (.int (0 : Int32)), .val (.int (0 : Int32)), .val (.ref ca), .val (.ref mm), .val (.int p4), .val (.int p5), .val (.int p6), .unset, .unset] [(.int (own_f_exp p6 p5 p4))]))
          refine own_istore X134 hx (#[.val (.int p1), .val (.int p2), .val (.int p3), .val (.int p4), .val (.int p5), .val (.int p6), .val (.int (1 : Int32)), .val (.int (1 : Int32)), .val (.int (0 : Int32)), .val (.int (0 : Int32)), .val (.ref ca), .val (.ref mm), .val (.int p4), .val (.int p5), .val (.int p6), .val (.int (own_f_exp p6 p5 p4)), .unset]) (hb hby at_207) rfl 209 rfl ?_
          refine own_iload X134 hx (hb hby at_209) rfl 211 rfl ?_
          refine own_iload X134 hx (hb hby at_211) rfl 213 rfl ?_
          by_cases hc135 : p6 = p5
          · refine own_icmpF X134 hx (hb hby at_213) (teq hc135).2 216 rfl ?_
            refine own_iload X134 hx (hb hby at_216) rfl 218 rfl ?_
            refine own_goto X134 hx (hb hby at_218) 222 (by decide) (by decide) ?_
            refine own_istore X134 hx (#[.val (.int p1), .val (.int p2), .val (.int p3), .val (.int p4), .val (.int p5), .val (.int p6), .val (.int (1 : Int32)), .val (.int (1 : Int32)), .val (.int (0 : Int32)), .val (.int (0 : Int32)), .val (.ref ca), .val (.ref mm), .val (.int p4), .val (.int p5), .val (.int p6), .val (.int (own_f_exp p6 p5 p4)), .val (.int p4)]) (hb hby at_222) rfl 224 rfl ?_
            refine own_iload X134 hx (hb hby at_224) rfl 226 rfl ?_
            refine own_iload X134 hx (hb hby at_226) rfl 228 rfl ?_
            refine own_icmpF X134 hx (hb hby at_228) (teq (own_exp_T hc135)).2 231 rfl ?_
            refine own_iconst X134 hx (z := (1 : Int32)) (hb hby at_231) rfl 232 rfl ?_
            refine own_goto X134 hx (hb hby at_232) 236 (by decide) (by decide) ?_
            exact own_retNS X134 hx hS hret (Or.inl rfl) hlk (hb hby at_236) (by decide) (by decide) N134 e134 Hk_133 rfl
          · refine own_icmpT X134 hx (hb hby at_213) (feq hc135).2 221 (by decide) (by decide) ?_
            refine own_iconst X134 hx (z := (-1 : Int32)) (hb hby at_221) rfl 222 rfl ?_
            refine own_istore X134 hx (#[.val (.int p1), .val (.int p2), .val (.int p3), .val (.int p4), .val (.int p5), .val (.int p6), .val (.int (1 : Int32)), .val (.int (1 : Int32)), .val (.int (0 : Int32)), .val (.int (0 : Int32)), .val (.ref ca), .val (.ref mm), .val (.int p4), .val (.int p5), .val (.int p6), .val (.int (own_f_exp p6 p5 p4)), .val (.int (-1 : Int32))]) (hb hby at_222) rfl 224 rfl ?_
            refine own_iload X134 hx (hb hby at_224) rfl 226 rfl ?_
            refine own_iload X134 hx (hb hby at_226) rfl 228 rfl ?_
            refine own_icmpF X134 hx (hb hby at_228) (teq (own_exp_F hc135)).2 231 rfl ?_
            refine own_iconst X134 hx (z := (1 : Int32)) (hb hby at_231) rfl 232 rfl ?_
            refine own_goto X134 hx (hb hby at_232) 236 (by decide) (by decide) ?_
            exact own_retNS X134 hx hS hret (Or.inl rfl) hlk (hb hby at_236) (by decide) (by decide) N134 e134 Hk_133 rfl
        · refine own_ifcF X0 hx (hb hby at_43) (feq hc124).1 46 rfl ?_
          refine own_iconst X0 hx (z := (1 : Int32)) (hb hby at_46) rfl 47 rfl ?_
          refine own_goto X0 hx (hb hby at_47) 51 (by decide) (by decide) ?_
          refine own_istore X0 hx (#[.val (.int p1), .val (.int p2), .val (.int p3), .val (.int p4), .val (.int p5), .val (.int p6), .val (.int (1 : Int32)), .val (.int (1 : Int32)), .val (.int (0 : Int32)), .val (.int (1 : Int32)), .unset, .unset, .unset, .unset, .unset, .unset, .unset]) (hb hby at_51) rfl 53 rfl ?_
          refine own_iconst X0 hx (z := (2 : Int32)) (hb hby at_53) rfl 54 rfl ?_
          refine own_newP (aty := .char) X0 hx hZ (own_w0 hw) e0 (hb hby at_54) (by decide) 2 (by decide) (by decide) (by decide) (by decide) 56 rfl (fun T136 h136 cA136 ca g136 X136 e136 E136 B136 => ?_)
          have gn_ca : n0 ≤ ca := Nat.le_trans Z0 (Nat.le_of_eq g136.symm)
          have Z0_136 := Nat.le_trans Z0 E136.1
          have O0_136 := O0.ext E136
          have A_ca_136 : own_A Z h136 ca .char 2 (fun _ => 0) := own_A.new B136 (by decide) rfl
          refine own_dup X136 hx (hb hby at_56) rfl 57 rfl ?_
          refine own_iconst X136 hx (z := (0 : Int32)) (hb hby at_57) rfl 58 rfl ?_
          refine own_iloadN X136 hx (hb hby at_58) rfl 59 rfl ?_
          refine own_bipush X136 hx (z := (8 : Int32)) (hb hby at_59) rfl 61 rfl ?_
          refine own_iushr X136 hx (hb hby at_61) 62 rfl ?_
          refine own_sipush X136 hx (z := (255 : Int32)) (hb hby at_62) rfl 65 rfl ?_
          refine own_iand X136 hx (hb hby at_65) 66 rfl ?_
          refine own_i2c X136 hx (hb hby at_66) 67 rfl ?_
          refine own_castore X136 hx hZ e136 A_ca_136 ⟨by decide, by decide⟩ (hb hby at_67) N0 gn_ca 68 rfl (fun T137 h137 l137 X137 N137 e137 W137 => ?_)
          have Z0_137 := Nat.le_trans Z0_136 (Nat.le_of_eq W137.size.symm)
          have O0_137 := O0_136.wr W137 gn_ca
          have A_ca_137 := A_ca_136.set W137
          refine own_dup X137 hx (hb hby at_68) rfl 69 rfl ?_
          refine own_iconst X137 hx (z := (1 : Int32)) (hb hby at_69) rfl 70 rfl ?_
          refine own_iloadN X137 hx (hb hby at_70) rfl 71 rfl ?_
          refine own_bipush X137 hx (z := (16 : Int32)) (hb hby at_71) rfl 73 rfl ?_
          refine own_iushr X137 hx (hb hby at_73) 74 rfl ?_
          refine own_sipush X137 hx (z := (255 : Int32)) (hb hby at_74) rfl 77 rfl ?_
          refine own_iand X137 hx (hb hby at_77) 78 rfl ?_
          refine own_i2c X137 hx (hb hby at_78) 79 rfl ?_
          refine own_castore X137 hx hZ e137 A_ca_137 ⟨by decide, by decide⟩ (hb hby at_79) N137 gn_ca 80 rfl (fun T138 h138 l138 X138 N138 e138 W138 => ?_)
          have Z0_138 := Nat.le_trans Z0_137 (Nat.le_of_eq W138.size.symm)
          have O0_138 := O0_137.wr W138 gn_ca
          have A_ca_138 := A_ca_137.set W138
          refine own_astore X138 hx (#[.val (.int p1), .val (.int p2), .val (.int p3), .val (.int p4), .val (.int p5), .val (.int p6), .val (.int (1 : Int32)), .val (.int (1 : Int32)), .val (.int (0 : Int32)), .val (.int (1 : Int32)), .val (.ref ca), .unset, .unset, .unset, .unset, .unset, .unset]) (hb hby at_80) rfl rfl 82 rfl ?_
          refine own_newO X138 hx hZ hown (own_w1 hw) (own_w2 hw) (own_w3 hw) e138 (hb hby at_82) (by decide) (by decide) 85 rfl (fun T139 h139 mm g139 X139 e139 E139 B139 D139 => ?_)
          have o_ca_mm : ca < mm := Nat.lt_of_lt_of_eq A_ca_138.lt g139.symm
          have gn_mm : n0 ≤ mm := Nat.le_trans Z0_138 (Nat.le_of_eq g139.symm)
          have Z0_139 := Nat.le_trans Z0_138 E139.1
          have O0_139 := O0_138.ext E139
          have A_ca_139 := A_ca_138.ext E139
          have F_asElement_mm_139 : Fld Z h139 mm "com/example/xqwry/xqwry/MarkupName" "asElement" "Lcom/example/xqwry/xqwry/MarkupName$Resolution;" .null := D139 (Or.inr (own_w49 hw)) (ty := (.object "com/example/xqwry/xqwry/MarkupName$Resolution")) (by decide)
          have F_asAttribute_mm_139 : Fld Z h139 mm "com/example/xqwry/xqwry/MarkupName" "asAttribute" "Lcom/example/xqwry/xqwry/MarkupName$Resolution;" .null := D139 (Or.inr (own_w51 hw)) (ty := (.object "com/example/xqwry/xqwry/MarkupName$Resolution")) (by decide)
          have F_lexicalName_mm_139 : Fld Z h139 mm "com/example/xqwry/xqwry/MarkupName" "lexicalName" "Ljava/lang/String;" .null := D139 (Or.inr (own_w53 hw)) (ty := (.object "java/lang/String")) (by decide)
          have F_prefixed_mm_139 : Fld Z h139 mm "com/example/xqwry/xqwry/MarkupName" "prefixed" "Z" (.int (0 : Int32)) := D139 (Or.inr (own_w97 hw)) (ty := .boolean) (by decide)
          have F_declaredPrefix_mm_139 : Fld Z h139 mm "com/example/xqwry/xqwry/MarkupName" "declaredPrefix" "Ljava/lang/String;" .null := D139 (Or.inr (own_w122 hw)) (ty := (.object "java/lang/String")) (by decide)
          refine own_dup X139 hx (hb hby at_85) rfl 86 rfl ?_
          refine own_newO X139 hx hZ hown (own_w4 hw) (own_w5 hw) (own_w6 hw) e139 (hb hby at_86) (by decide) (by decide) 89 rfl (fun T140 h140 sa g140 X140 e140 E140 B140 D140 => ?_)
          have o_ca_sa : ca < sa := Nat.lt_of_lt_of_eq A_ca_139.lt g140.symm
          have o_mm_sa : mm < sa := Nat.lt_of_lt_of_eq B139.lt g140.symm
          have gn_sa : n0 ≤ sa := Nat.le_trans Z0_139 (Nat.le_of_eq g140.symm)
          have Z0_140 := Nat.le_trans Z0_139 E140.1
          have O0_140 := O0_139.ext E140
          have A_ca_140 := A_ca_139.ext E140
          have B139_140 := B139.ext E140
          have F_asElement_mm_140 := F_asElement_mm_139.ext E140
          have F_asAttribute_mm_140 := F_asAttribute_mm_139.ext E140
          have F_lexicalName_mm_140 := F_lexicalName_mm_139.ext E140
          have F_prefixed_mm_140 := F_prefixed_mm_139.ext E140
          have F_declaredPrefix_mm_140 := F_declaredPrefix_mm_139.ext E140
          have F_coder_sa_140 : Fld Z h140 sa "java/lang/String" "coder" "B" (.int (0 : Int32)) := D140 (Or.inr (own_w30 hw)) (ty := .byte) (by decide)
          have F_value_sa_140 : Fld Z h140 sa "java/lang/String" "value" "[B" .null := D140 (Or.inr (own_w32 hw)) (ty := (.array .byte)) (by decide)
          refine own_dup X140 hx (hb hby at_89) rfl 90 rfl ?_
          refine own_aload X140 hx (hb hby at_90) rfl rfl 92 rfl ?_
          refine own_callI X140 hx hZ hown rfl (own_w7 hw) (own_w8 hw) (own_w6 hw) (own_w9 hw) (by decide) 3 (own_m_sic1 l Z a0 hw _ n0 A_ca_140 B140 F_value_sa_140 F_coder_sa_140 gn_sa (Nat.ne_of_lt o_ca_sa) Z0_140 (own_hc _ _) hcz (SC0.ext O0_140.2)) e140 (by rw [hml]; rfl) sa [(.ref ca)] [(.ref sa), (.ref mm), (.ref mm)] rfl (lenOf own_pd_16 rfl) rfl (Nat.le_of_eq rfl) (by decide) (by decide) (by decide) (by decide) (hb hby at_92) N138 95 rfl (fun v141 T141 l141 X141 N141 hP141 => ?_)
          obtain ⟨rfl, sb, fs141, C_sa, V_sa, A_sb, o_sa_sb, K141'⟩ := hP141
          have Z0_141 := Nat.le_trans Z0_140 K141'.1
          have O0_141 := O0_140.keep K141' (allS gn_sa all0)
          have A_ca_141 := A_ca_140.keep K141' (ninS (Nat.ne_of_lt o_ca_sa) nin0)
          have B139_141 := B139_140.keep K141'
          have F_asElement_mm_141 := F_asElement_mm_140.keep K141' (ninS (Nat.ne_of_lt o_mm_sa) nin0)
          have F_asAttribute_mm_141 := F_asAttribute_mm_140.keep K141' (ninS (Nat.ne_of_lt o_mm_sa) nin0)
          have F_lexicalName_mm_141 := F_lexicalName_mm_140.keep K141' (ninS (Nat.ne_of_lt o_mm_sa) nin0)
          have F_prefixed_mm_141 := F_prefixed_mm_140.keep K141' (ninS (Nat.ne_of_lt o_mm_sa) nin0)
          have F_declaredPrefix_mm_141 := F_declaredPrefix_mm_140.keep K141' (ninS (Nat.ne_of_lt o_mm_sa) nin0)
          have B140_141 := B140.keep K141'
          have o_mm_sb : mm < sb := Nat.lt_trans o_mm_sa o_sa_sb
          show own_G p e below _ (T141.setTop (mkF m 95 #[.val (.int p1), .val (.int p2), .val (.int p3), .val (.int p4), .val (.int p5), .val (.int p6), .val (.int (1 : Int32)), .val (.int (1 : Int32)), .val (.int (0 : Int32)), .val (.int (1 : Int32)), .val (.ref ca), .unset, .unset, .unset, .unset, .unset, .unset] [(.ref sa), (.ref mm), (.ref mm)]))
          refine own_callIS X141 hx hZH hown rfl (own_w33 hw) (own_w34 hw) (own_w3 hw) (own_w35 hw) (by decide) 1 (own_m_minit l Z a0 hw _ n0 B139_141 F_lexicalName_mm_141 F_prefixed_mm_141 F_declaredPrefix_mm_141 F_asElement_mm_141 F_asAttribute_mm_141 B140_141 C_sa V_sa A_sb gn_mm gn_sa o_mm_sa o_sa_sb o_mm_sb Z0_141 O0_141 wS hH33 hH44 hcw hcz SC0) rfl (by rw [hml]; rfl) mm [.ref sa] [(.ref mm)] rfl (lenOf own_pd_17 rfl) rfl (Nat.le_of_eq rfl) (by decide) (by decide) (by decide) (by decide) (hb hby at_95) N141 98 rfl (fun v142 T142 l142 X142 N142 hS hZ hown hP142 => ?_)
          obtain ⟨rfl, re, ra, FE, FA, Ee, Ea, F1, F2, F3, F4, o_mm_re, o_re_ra, K142'⟩ := hP142
          have E_mm := B139_141.keep K142'
          have o_mm_ra : mm < ra := Nat.lt_trans o_mm_re o_re_ra
          have gn_re : n0 ≤ re := Nat.le_trans gn_mm (Nat.le_of_lt o_mm_re)
          have gn_ra : n0 ≤ ra := Nat.le_trans gn_mm (Nat.le_of_lt o_mm_ra)
          have Hk := Nat.le_refl T142.heap.size
          show own_G p e below _ (T142.setTop (mkF m 98 #[.val (.int p1), .val (.int p2), .val (.int p3), .val (.int p4), .val (.int p5), .val (.int p6), .val (.int (1 : Int32)), .val (.int (1 : Int32)), .val (.int (0 : Int32)), .val (.int (1 : Int32)), .val (.ref ca), .unset, .unset, .unset, .unset, .unset, .unset] [(.ref mm)]))
          refine own_astore X142 hx (#[.val (.int p1), .val (.int p2), .val (.int p3), .val (.int p4), .val (.int p5), .val (.int p6), .val (.int (1 : Int32)), .val (.int (1 : Int32)), .val (.int (0 : Int32)), .val (.int (1 : Int32)), .val (.ref ca), .val (.ref mm), .unset, .unset, .unset, .unset, .unset]) (hb hby at_98) rfl rfl 100 rfl ?_
          refine own_iload X142 hx (hb hby at_100) rfl 102 rfl ?_
          refine own_ifcF X142 hx (hb hby at_102) (feq (by decide)).1 105 rfl ?_
          refine own_aload X142 hx (hb hby at_105) rfl rfl 107 rfl ?_
          refine own_iconst X142 hx (z := (1 : Int32)) (hb hby at_107) rfl 108 rfl ?_
          refine own_iloadN X142 hx (hb hby at_108) rfl 109 rfl ?_
          refine own_iloadN X142 hx (hb hby at_109) rfl 110 rfl ?_
          refine own_callV X142 hx hZ hown (own_w129 hw) (own_w130 hw) (own_w132 hw) (own_w131 hw) (own_w3 hw) (own_w133 hw) (by decide) 0 (own_m_keep1 l Z a0 hw _ n0 FE FA Ee F1 F2 gn_re (Nat.ne_of_lt o_mm_re) (1 : Int32) p2 p3 (by decide)) rfl E_mm (by rw [hml]; rfl) [(.int (1 : Int32)), (.int p2), (.int p3)] [] rfl (lenOf own_pd_19 rfl) rfl (Nat.le_of_eq rfl) (by decide) (by decide) (by decide) (by decide) (hb hby at_110) N142 113 rfl (fun v143 T143 l143 X143 N143 hP143 => ?_)
          obtain ⟨rfl, Gn143, Gc143, K143'⟩ := hP143
          have Hk_143 := Nat.le_trans Hk K143'.1
          have E_mm_143 := E_mm.keep K143'
          have FE_143 := FE.keep K143' (ninS (Nat.ne_of_lt o_mm_re) nin0)
          have FA_143 := FA.keep K143' (ninS (Nat.ne_of_lt o_mm_re) nin0)
          have Ee_143 := Ee.keep K143'
          have Ea_143 := Ea.keep K143'
          have F3_143 := F3.keep K143' (ninS (Nat.ne_of_gt o_re_ra) nin0)
          have F4_143 := F4.keep K143' (ninS (Nat.ne_of_gt o_re_ra) nin0)
          show own_G p e below _ (T143.setTop (mkF m 113 #[.val (.int p1), .val (.int p2), .val (.int p3), .val (.int p4), .val (.int p5), .val (.int p6), .val (.int (1 : Int32)), .val (.int (1 : Int32)), .val (.int (0 : Int32)), .val (.int (1 : Int32)), .val (.ref ca), .val (.ref mm), .unset, .unset, .unset, .unset, .unset] []))
          refine own_iload X143 hx (hb hby at_113) rfl 115 rfl ?_
          refine own_ifcF X143 hx (hb hby at_115) (feq (by decide)).1 118 rfl ?_
          refine own_aload X143 hx (hb hby at_118) rfl rfl 120 rfl ?_
          refine own_iconst X143 hx (z := (0 : Int32)) (hb hby at_120) rfl 121 rfl ?_
          refine own_iloadN X143 hx (hb hby at_121) rfl 122 rfl ?_
          refine own_iload X143 hx (hb hby at_122) rfl 124 rfl ?_
          refine own_callV X143 hx hZ hown (own_w129 hw) (own_w130 hw) (own_w132 hw) (own_w131 hw) (own_w3 hw) (own_w133 hw) (by decide) 0 (own_m_keep0 l Z a0 hw _ n0 FE_143 FA_143 Ea_143 F3_143 F4_143 gn_ra (Nat.ne_of_lt o_mm_ra) (0 : Int32) p4 p5 (by decide)) rfl E_mm_143 (by rw [hml]; rfl) [(.int (0 : Int32)), (.int p4), (.int p5)] [] rfl (lenOf own_pd_19 rfl) rfl (Nat.le_of_eq rfl) (by decide) (by decide) (by decide) (by decide) (hb hby at_124) N143 127 rfl (fun v144 T144 l144 X144 N144 hP144 => ?_)
          obtain ⟨rfl, Gn144, Gc144, K144'⟩ := hP144
          have Hk_144 := Nat.le_trans Hk_143 K144'.1
          have E_mm_144 := E_mm_143.keep K144'
          have FE_144 := FE_143.keep K144' (ninS (Nat.ne_of_lt o_mm_ra) nin0)
          have FA_144 := FA_143.keep K144' (ninS (Nat.ne_of_lt o_mm_ra) nin0)
          have Ee_144 := Ee_143.keep K144'
          have Ea_144 := Ea_143.keep K144'
          have Gn143_144 := Gn143.keep K144' (ninS (Nat.ne_of_lt o_re_ra) nin0)
          have Gc143_144 := Gc143.keep K144' (ninS (Nat.ne_of_lt o_re_ra) nin0)
          show own_G p e below _ (T144.setTop (mkF m 127 #[.val (.int p1), .val (.int p2), .val (.int p3), .val (.int p4), .val (.int p5), .val (.int p6), .val (.int (1 : Int32)), .val (.int (1 : Int32)), .val (.int (0 : Int32)), .val (.int (1 : Int32)), .val (.ref ca), .val (.ref mm), .unset, .unset, .unset, .unset, .unset] []))
          refine own_iload X144 hx (hb hby at_127) rfl 129 rfl ?_
          refine own_ifcT X144 hx (hb hby at_129) (teq (by decide)).1 159 (by decide) (by decide) ?_
          refine own_iload X144 hx (hb hby at_159) rfl 161 rfl ?_
          refine own_ifcF X144 hx (hb hby at_161) (feq (by decide)).1 164 rfl ?_
          refine own_iloadN X144 hx (hb hby at_164) rfl 165 rfl ?_
          refine own_goto X144 hx (hb hby at_165) 169 (by decide) (by decide) ?_
          refine own_istore X144 hx (#[.val (.int p1), .val (.int p2), .val (.int p3), .val (.int p4), .val (.int p5), .val (.int p6), .val (.int (1 : Int32)), .val (.int (1 : Int32)), .val (.int (0 : Int32)), .val (.int (1 : Int32)), .val (.ref ca), .val (.ref mm), .val (.int p4), .unset, .unset, .unset, .unset]) (hb hby at_169) rfl 171 rfl ?_
          refine own_iload X144 hx (hb hby at_171) rfl 173 rfl ?_
          refine own_ifcF X144 hx (hb hby at_173) (feq (by decide)).1 176 rfl ?_
          refine own_iload X144 hx (hb hby at_176) rfl 178 rfl ?_
          refine own_goto X144 hx (hb hby at_178) 182 (by decide) (by decide) ?_
          refine own_istore X144 hx (#[.val (.int p1), .val (.int p2), .val (.int p3), .val (.int p4), .val (.int p5), .val (.int p6), .val (.int (1 : Int32)), .val (.int (1 : Int32)), .val (.int (0 : Int32)), .val (.int (1 : Int32)), .val (.ref ca), .val (.ref mm), .val (.int p4), .val (.int p5), .unset, .unset, .unset]) (hb hby at_182) rfl 184 rfl ?_
          refine own_iload X144 hx (hb hby at_184) rfl 186 rfl ?_
          refine own_ifcF X144 hx (hb hby at_186) (feq (by decide)).1 189 rfl ?_
          refine own_iload X144 hx (hb hby at_189) rfl 191 rfl ?_
          refine own_goto X144 hx (hb hby at_191) 196 (by decide) (by decide) ?_
          refine own_istore X144 hx (#[.val (.int p1), .val (.int p2), .val (.int p3), .val (.int p4), .val (.int p5), .val (.int p6), .val (.int (1 : Int32)), .val (.int (1 : Int32)), .val (.int (0 : Int32)), .val (.int (1 : Int32)), .val (.ref ca), .val (.ref mm), .val (.int p4), .val (.int p5), .val (.int p5), .unset, .unset]) (hb hby at_196) rfl 198 rfl ?_
          refine own_aload X144 hx (hb hby at_198) rfl rfl 200 rfl ?_
          refine own_iload X144 hx (hb hby at_200) rfl 202 rfl ?_
          refine own_iload X144 hx (hb hby at_202) rfl 204 rfl ?_
          refine own_callV X144 hx hZ hown (own_w123 hw) (own_w124 hw) (own_w126 hw) (own_w125 hw) (own_w3 hw) (own_w127 hw) (by decide) 0 (own_m_res l Z a0 hw _ n0 FE_144 FA_144 Gn143_144 Gc143_144 Gn144 Gc144 (0 : Int32) p5 (r := p4) (own_res_n0 _ _ _ _)) rfl E_mm_144 (by rw [hml]; rfl) [(.int (0 : Int32)), (.int p5)] [] rfl (lenOf own_pd_18 rfl) rfl (Nat.le_of_eq rfl) (by decide) (by decide) (by decide) (by decide) (hb hby at_204) N144 207 rfl (fun v145 T145 l145 X145 N145 hP145 => ?_)
          obtain ⟨rfl, e145⟩ := hP145
          show own_G p e below _ (T145.setTop (mkF m 207 #[.val (.int p1), .val (.int p2), .val (.int p3), .val (.int p4), .val (.int p5), .val (.int p6), .val (.int (1 : Int32)), .val (.int (1 : Int32)), .val (.int (0 : Int32)), .val (.int (1 : Int32)), .val (.ref ca), .val (.ref mm), .val (.int p4), .val (.int p5), .val (.int p5), .unset, .unset] [(.int p4)]))
          refine own_istore X145 hx (#[.val (.int p1), .val (.int p2), .val (.int p3), .val (.int p4), .val (.int p5), .val (.int p6), .val (.int (1 : Int32)), .val (.int (1 : Int32)), .val (.int (0 : Int32)), .val (.int (1 : Int32)), .val (.ref ca), .val (.ref mm), .val (.int p4), .val (.int p5), .val (.int p5), .val (.int p4), .unset]) (hb hby at_207) rfl 209 rfl ?_
          refine own_iload X145 hx (hb hby at_209) rfl 211 rfl ?_
          refine own_iload X145 hx (hb hby at_211) rfl 213 rfl ?_
          refine own_icmpF X145 hx (hb hby at_213) (teq rfl).2 216 rfl ?_
          refine own_iload X145 hx (hb hby at_216) rfl 218 rfl ?_
          refine own_goto X145 hx (hb hby at_218) 222 (by decide) (by decide) ?_
          refine own_istore X145 hx (#[.val (.int p1), .val (.int p2), .val (.int p3), .val (.int p4), .val (.int p5), .val (.int p6), .val (.int (1 : Int32)), .val (.int (1 : Int32)), .val (.int (0 : Int32)), .val (.int (1 : Int32)), .val (.ref ca), .val (.ref mm), .val (.int p4), .val (.int p5), .val (.int p5), .val (.int p4), .val (.int p4)]) (hb hby at_222) rfl 224 rfl ?_
          refine own_iload X145 hx (hb hby at_224) rfl 226 rfl ?_
          refine own_iload X145 hx (hb hby at_226) rfl 228 rfl ?_
          refine own_icmpF X145 hx (hb hby at_228) (teq rfl).2 231 rfl ?_
          refine own_iconst X145 hx (z := (1 : Int32)) (hb hby at_231) rfl 232 rfl ?_
          refine own_goto X145 hx (hb hby at_232) 236 (by decide) (by decide) ?_
          exact own_retNS X145 hx hS hret (Or.inl rfl) hlk (hb hby at_236) (by decide) (by decide) N145 e145 Hk_144 rfl
      · refine own_ifcF X0 hx (hb hby at_29) (feq hc123).1 32 rfl ?_
        refine own_iconst X0 hx (z := (1 : Int32)) (hb hby at_32) rfl 33 rfl ?_
        refine own_goto X0 hx (hb hby at_33) 37 (by decide) (by decide) ?_
        refine own_istore X0 hx (#[.val (.int p1), .val (.int p2), .val (.int p3), .val (.int p4), .val (.int p5), .val (.int p6), .val (.int (1 : Int32)), .val (.int (1 : Int32)), .val (.int (1 : Int32)), .unset, .unset, .unset, .unset, .unset, .unset, .unset, .unset]) (hb hby at_37) rfl 39 rfl ?_
        refine own_iloadN X0 hx (hb hby at_39) rfl 40 rfl ?_
        refine own_bipush X0 hx (z := (8 : Int32)) (hb hby at_40) rfl 42 rfl ?_
        refine own_iand X0 hx (hb hby at_42) 43 rfl ?_
        by_cases hc146 : (p1 &&& (8 : Int32)) = (0 : Int32)
        · refine own_ifcT X0 hx (hb hby at_43) (teq hc146).1 50 (by decide) (by decide) ?_
          refine own_iconst X0 hx (z := (0 : Int32)) (hb hby at_50) rfl 51 rfl ?_
          refine own_istore X0 hx (#[.val (.int p1), .val (.int p2), .val (.int p3), .val (.int p4), .val (.int p5), .val (.int p6), .val (.int (1 : Int32)), .val (.int (1 : Int32)), .val (.int (1 : Int32)), .val (.int (0 : Int32)), .unset, .unset, .unset, .unset, .unset, .unset, .unset]) (hb hby at_51) rfl 53 rfl ?_
          refine own_iconst X0 hx (z := (2 : Int32)) (hb hby at_53) rfl 54 rfl ?_
          refine own_newP (aty := .char) X0 hx hZ (own_w0 hw) e0 (hb hby at_54) (by decide) 2 (by decide) (by decide) (by decide) (by decide) 56 rfl (fun T147 h147 cA147 ca g147 X147 e147 E147 B147 => ?_)
          have gn_ca : n0 ≤ ca := Nat.le_trans Z0 (Nat.le_of_eq g147.symm)
          have Z0_147 := Nat.le_trans Z0 E147.1
          have O0_147 := O0.ext E147
          have A_ca_147 : own_A Z h147 ca .char 2 (fun _ => 0) := own_A.new B147 (by decide) rfl
          refine own_dup X147 hx (hb hby at_56) rfl 57 rfl ?_
          refine own_iconst X147 hx (z := (0 : Int32)) (hb hby at_57) rfl 58 rfl ?_
          refine own_iloadN X147 hx (hb hby at_58) rfl 59 rfl ?_
          refine own_bipush X147 hx (z := (8 : Int32)) (hb hby at_59) rfl 61 rfl ?_
          refine own_iushr X147 hx (hb hby at_61) 62 rfl ?_
          refine own_sipush X147 hx (z := (255 : Int32)) (hb hby at_62) rfl 65 rfl ?_
          refine own_iand X147 hx (hb hby at_65) 66 rfl ?_
          refine own_i2c X147 hx (hb hby at_66) 67 rfl ?_
          refine own_castore X147 hx hZ e147 A_ca_147 ⟨by decide, by decide⟩ (hb hby at_67) N0 gn_ca 68 rfl (fun T148 h148 l148 X148 N148 e148 W148 => ?_)
          have Z0_148 := Nat.le_trans Z0_147 (Nat.le_of_eq W148.size.symm)
          have O0_148 := O0_147.wr W148 gn_ca
          have A_ca_148 := A_ca_147.set W148
          refine own_dup X148 hx (hb hby at_68) rfl 69 rfl ?_
          refine own_iconst X148 hx (z := (1 : Int32)) (hb hby at_69) rfl 70 rfl ?_
          refine own_iloadN X148 hx (hb hby at_70) rfl 71 rfl ?_
          refine own_bipush X148 hx (z := (16 : Int32)) (hb hby at_71) rfl 73 rfl ?_
          refine own_iushr X148 hx (hb hby at_73) 74 rfl ?_
          refine own_sipush X148 hx (z := (255 : Int32)) (hb hby at_74) rfl 77 rfl ?_
          refine own_iand X148 hx (hb hby at_77) 78 rfl ?_
          refine own_i2c X148 hx (hb hby at_78) 79 rfl ?_
          refine own_castore X148 hx hZ e148 A_ca_148 ⟨by decide, by decide⟩ (hb hby at_79) N148 gn_ca 80 rfl (fun T149 h149 l149 X149 N149 e149 W149 => ?_)
          have Z0_149 := Nat.le_trans Z0_148 (Nat.le_of_eq W149.size.symm)
          have O0_149 := O0_148.wr W149 gn_ca
          have A_ca_149 := A_ca_148.set W149
          refine own_astore X149 hx (#[.val (.int p1), .val (.int p2), .val (.int p3), .val (.int p4), .val (.int p5), .val (.int p6), .val (.int (1 : Int32)), .val (.int (1 : Int32)), .val (.int (1 : Int32)), .val (.int (0 : Int32)), .val (.ref ca), .unset, .unset, .unset, .unset, .unset, .unset]) (hb hby at_80) rfl rfl 82 rfl ?_
          refine own_newO X149 hx hZ hown (own_w1 hw) (own_w2 hw) (own_w3 hw) e149 (hb hby at_82) (by decide) (by decide) 85 rfl (fun T150 h150 mm g150 X150 e150 E150 B150 D150 => ?_)
          have o_ca_mm : ca < mm := Nat.lt_of_lt_of_eq A_ca_149.lt g150.symm
          have gn_mm : n0 ≤ mm := Nat.le_trans Z0_149 (Nat.le_of_eq g150.symm)
          have Z0_150 := Nat.le_trans Z0_149 E150.1
          have O0_150 := O0_149.ext E150
          have A_ca_150 := A_ca_149.ext E150
          have F_asElement_mm_150 : Fld Z h150 mm "com/example/xqwry/xqwry/MarkupName" "asElement" "Lcom/example/xqwry/xqwry/MarkupName$Resolution;" .null := D150 (Or.inr (own_w49 hw)) (ty := (.object "com/example/xqwry/xqwry/MarkupName$Resolution")) (by decide)
          have F_asAttribute_mm_150 : Fld Z h150 mm "com/example/xqwry/xqwry/MarkupName" "asAttribute" "Lcom/example/xqwry/xqwry/MarkupName$Resolution;" .null := D150 (Or.inr (own_w51 hw)) (ty := (.object "com/example/xqwry/xqwry/MarkupName$Resolution")) (by decide)
          have F_lexicalName_mm_150 : Fld Z h150 mm "com/example/xqwry/xqwry/MarkupName" "lexicalName" "Ljava/lang/String;" .null := D150 (Or.inr (own_w53 hw)) (ty := (.object "java/lang/String")) (by decide)
          have F_prefixed_mm_150 : Fld Z h150 mm "com/example/xqwry/xqwry/MarkupName" "prefixed" "Z" (.int (0 : Int32)) := D150 (Or.inr (own_w97 hw)) (ty := .boolean) (by decide)
          have F_declaredPrefix_mm_150 : Fld Z h150 mm "com/example/xqwry/xqwry/MarkupName" "declaredPrefix" "Ljava/lang/String;" .null := D150 (Or.inr (own_w122 hw)) (ty := (.object "java/lang/String")) (by decide)
          refine own_dup X150 hx (hb hby at_85) rfl 86 rfl ?_
          refine own_newO X150 hx hZ hown (own_w4 hw) (own_w5 hw) (own_w6 hw) e150 (hb hby at_86) (by decide) (by decide) 89 rfl (fun T151 h151 sa g151 X151 e151 E151 B151 D151 => ?_)
          have o_ca_sa : ca < sa := Nat.lt_of_lt_of_eq A_ca_150.lt g151.symm
          have o_mm_sa : mm < sa := Nat.lt_of_lt_of_eq B150.lt g151.symm
          have gn_sa : n0 ≤ sa := Nat.le_trans Z0_150 (Nat.le_of_eq g151.symm)
          have Z0_151 := Nat.le_trans Z0_150 E151.1
          have O0_151 := O0_150.ext E151
          have A_ca_151 := A_ca_150.ext E151
          have B150_151 := B150.ext E151
          have F_asElement_mm_151 := F_asElement_mm_150.ext E151
          have F_asAttribute_mm_151 := F_asAttribute_mm_150.ext E151
          have F_lexicalName_mm_151 := F_lexicalName_mm_150.ext E151
          have F_prefixed_mm_151 := F_prefixed_mm_150.ext E151
          have F_declaredPrefix_mm_151 := F_declaredPrefix_mm_150.ext E151
          have F_coder_sa_151 : Fld Z h151 sa "java/lang/String" "coder" "B" (.int (0 : Int32)) := D151 (Or.inr (own_w30 hw)) (ty := .byte) (by decide)
          have F_value_sa_151 : Fld Z h151 sa "java/lang/String" "value" "[B" .null := D151 (Or.inr (own_w32 hw)) (ty := (.array .byte)) (by decide)
          refine own_dup X151 hx (hb hby at_89) rfl 90 rfl ?_
          refine own_aload X151 hx (hb hby at_90) rfl rfl 92 rfl ?_
          refine own_callI X151 hx hZ hown rfl (own_w7 hw) (own_w8 hw) (own_w6 hw) (own_w9 hw) (by decide) 3 (own_m_sic1 l Z a0 hw _ n0 A_ca_151 B151 F_value_sa_151 F_coder_sa_151 gn_sa (Nat.ne_of_lt o_ca_sa) Z0_151 (own_hc _ _) hcz (SC0.ext O0_151.2)) e151 (by rw [hml]; rfl) sa [(.ref ca)] [(.ref sa), (.ref mm), (.ref mm)] rfl (lenOf own_pd_16 rfl) rfl (Nat.le_of_eq rfl) (by decide) (by decide) (by decide) (by decide) (hb hby at_92) N149 95 rfl (fun v152 T152 l152 X152 N152 hP152 => ?_)
          obtain ⟨rfl, sb, fs152, C_sa, V_sa, A_sb, o_sa_sb, K152'⟩ := hP152
          have Z0_152 := Nat.le_trans Z0_151 K152'.1
          have O0_152 := O0_151.keep K152' (allS gn_sa all0)
          have A_ca_152 := A_ca_151.keep K152' (ninS (Nat.ne_of_lt o_ca_sa) nin0)
          have B150_152 := B150_151.keep K152'
          have F_asElement_mm_152 := F_asElement_mm_151.keep K152' (ninS (Nat.ne_of_lt o_mm_sa) nin0)
          have F_asAttribute_mm_152 := F_asAttribute_mm_151.keep K152' (ninS (Nat.ne_of_lt o_mm_sa) nin0)
          have F_lexicalName_mm_152 := F_lexicalName_mm_151.keep K152' (ninS (Nat.ne_of_lt o_mm_sa) nin0)
          have F_prefixed_mm_152 := F_prefixed_mm_151.keep K152' (ninS (Nat.ne_of_lt o_mm_sa) nin0)
          have F_declaredPrefix_mm_152 := F_declaredPrefix_mm_151.keep K152' (ninS (Nat.ne_of_lt o_mm_sa) nin0)
          have B151_152 := B151.keep K152'
          have o_mm_sb : mm < sb := Nat.lt_trans o_mm_sa o_sa_sb
          show own_G p e below _ (T152.setTop (mkF m 95 #[.val (.int p1), .val (.int p2), .val (.int p3), .val (.int p4), .val (.int p5), .val (.int p6), .val (.int (1 : Int32)), .val (.int (1 : Int32)), .val (.int (1 : Int32)), .val (.int (0 : Int32)), .val (.ref ca), .unset, .unset, .unset, .unset, .unset, .unset] [(.ref sa), (.ref mm), (.ref mm)]))
          refine own_callIS X152 hx hZH hown rfl (own_w33 hw) (own_w34 hw) (own_w3 hw) (own_w35 hw) (by decide) 1 (own_m_minit l Z a0 hw _ n0 B150_152 F_lexicalName_mm_152 F_prefixed_mm_152 F_declaredPrefix_mm_152 F_asElement_mm_152 F_asAttribute_mm_152 B151_152 C_sa V_sa A_sb gn_mm gn_sa o_mm_sa o_sa_sb o_mm_sb Z0_152 O0_152 wS hH33 hH44 hcw hcz SC0) rfl (by rw [hml]; rfl) mm [.ref sa] [(.ref mm)] rfl (lenOf own_pd_17 rfl) rfl (Nat.le_of_eq rfl) (by decide) (by decide) (by decide) (by decide) (hb hby at_95) N152 98 rfl (fun v153 T153 l153 X153 N153 hS hZ hown hP153 => ?_)
          obtain ⟨rfl, re, ra, FE, FA, Ee, Ea, F1, F2, F3, F4, o_mm_re, o_re_ra, K153'⟩ := hP153
          have E_mm := B150_152.keep K153'
          have o_mm_ra : mm < ra := Nat.lt_trans o_mm_re o_re_ra
          have gn_re : n0 ≤ re := Nat.le_trans gn_mm (Nat.le_of_lt o_mm_re)
          have gn_ra : n0 ≤ ra := Nat.le_trans gn_mm (Nat.le_of_lt o_mm_ra)
          have Hk := Nat.le_refl T153.heap.size
          show own_G p e below _ (T153.setTop (mkF m 98 #[.val (.int p1), .val (.int p2), .val (.int p3), .val (.int p4), .val (.int p5), .val (.int p6), .val (.int (1 : Int32)), .val (.int (1 : Int32)), .val (.int (1 : Int32)), .val (.int (0 : Int32)), .val (.ref ca), .unset, .unset, .unset, .unset, .unset, .unset] [(.ref mm)]))
          refine own_astore X153 hx (#[.val (.int p1), .val (.int p2), .val (.int p3), .val (.int p4), .val (.int p5), .val (.int p6), .val (.int (1 : Int32)), .val (.int (1 : Int32)), .val (.int (1 : Int32)), .val (.int (0 : Int32)), .val (.ref ca), .val (.ref mm), .unset, .unset, .unset, .unset, .unset]) (hb hby at_98) rfl rfl 100 rfl ?_
          refine own_iload X153 hx (hb hby at_100) rfl 102 rfl ?_
          refine own_ifcF X153 hx (hb hby at_102) (feq (by decide)).1 105 rfl ?_
          refine own_aload X153 hx (hb hby at_105) rfl rfl 107 rfl ?_
          refine own_iconst X153 hx (z := (1 : Int32)) (hb hby at_107) rfl 108 rfl ?_
          refine own_iloadN X153 hx (hb hby at_108) rfl 109 rfl ?_
          refine own_iloadN X153 hx (hb hby at_109) rfl 110 rfl ?_
          refine own_callV X153 hx hZ hown (own_w129 hw) (own_w130 hw) (own_w132 hw) (own_w131 hw) (own_w3 hw) (own_w133 hw) (by decide) 0 (own_m_keep1 l Z a0 hw _ n0 FE FA Ee F1 F2 gn_re (Nat.ne_of_lt o_mm_re) (1 : Int32) p2 p3 (by decide)) rfl E_mm (by rw [hml]; rfl) [(.int (1 : Int32)), (.int p2), (.int p3)] [] rfl (lenOf own_pd_19 rfl) rfl (Nat.le_of_eq rfl) (by decide) (by decide) (by decide) (by decide) (hb hby at_110) N153 113 rfl (fun v154 T154 l154 X154 N154 hP154 => ?_)
          obtain ⟨rfl, Gn154, Gc154, K154'⟩ := hP154
          have Hk_154 := Nat.le_trans Hk K154'.1
          have E_mm_154 := E_mm.keep K154'
          have FE_154 := FE.keep K154' (ninS (Nat.ne_of_lt o_mm_re) nin0)
          have FA_154 := FA.keep K154' (ninS (Nat.ne_of_lt o_mm_re) nin0)
          have Ee_154 := Ee.keep K154'
          have Ea_154 := Ea.keep K154'
          have F3_154 := F3.keep K154' (ninS (Nat.ne_of_gt o_re_ra) nin0)
          have F4_154 := F4.keep K154' (ninS (Nat.ne_of_gt o_re_ra) nin0)
          show own_G p e below _ (T154.setTop (mkF m 113 #[.val (.int p1), .val (.int p2), .val (.int p3), .val (.int p4), .val (.int p5), .val (.int p6), .val (.int (1 : Int32)), .val (.int (1 : Int32)), .val (.int (1 : Int32)), .val (.int (0 : Int32)), .val (.ref ca), .val (.ref mm), .unset, .unset, .unset, .unset, .unset] []))
          refine own_iload X154 hx (hb hby at_113) rfl 115 rfl ?_
          refine own_ifcF X154 hx (hb hby at_115) (feq (by decide)).1 118 rfl ?_
          refine own_aload X154 hx (hb hby at_118) rfl rfl 120 rfl ?_
          refine own_iconst X154 hx (z := (0 : Int32)) (hb hby at_120) rfl 121 rfl ?_
          refine own_iloadN X154 hx (hb hby at_121) rfl 122 rfl ?_
          refine own_iload X154 hx (hb hby at_122) rfl 124 rfl ?_
          refine own_callV X154 hx hZ hown (own_w129 hw) (own_w130 hw) (own_w132 hw) (own_w131 hw) (own_w3 hw) (own_w133 hw) (by decide) 0 (own_m_keep0 l Z a0 hw _ n0 FE_154 FA_154 Ea_154 F3_154 F4_154 gn_ra (Nat.ne_of_lt o_mm_ra) (0 : Int32) p4 p5 (by decide)) rfl E_mm_154 (by rw [hml]; rfl) [(.int (0 : Int32)), (.int p4), (.int p5)] [] rfl (lenOf own_pd_19 rfl) rfl (Nat.le_of_eq rfl) (by decide) (by decide) (by decide) (by decide) (hb hby at_124) N154 127 rfl (fun v155 T155 l155 X155 N155 hP155 => ?_)
          obtain ⟨rfl, Gn155, Gc155, K155'⟩ := hP155
          have Hk_155 := Nat.le_trans Hk_154 K155'.1
          have E_mm_155 := E_mm_154.keep K155'
          have FE_155 := FE_154.keep K155' (ninS (Nat.ne_of_lt o_mm_ra) nin0)
          have FA_155 := FA_154.keep K155' (ninS (Nat.ne_of_lt o_mm_ra) nin0)
          have Ee_155 := Ee_154.keep K155'
          have Ea_155 := Ea_154.keep K155'
          have Gn154_155 := Gn154.keep K155' (ninS (Nat.ne_of_lt o_re_ra) nin0)
          have Gc154_155 := Gc154.keep K155' (ninS (Nat.ne_of_lt o_re_ra) nin0)
          show own_G p e below _ (T155.setTop (mkF m 127 #[.val (.int p1), .val (.int p2), .val (.int p3), .val (.int p4), .val (.int p5), .val (.int p6), .val (.int (1 : Int32)), .val (.int (1 : Int32)), .val (.int (1 : Int32)), .val (.int (0 : Int32)), .val (.ref ca), .val (.ref mm), .unset, .unset, .unset, .unset, .unset] []))
          refine own_iload X155 hx (hb hby at_127) rfl 129 rfl ?_
          refine own_ifcF X155 hx (hb hby at_129) (feq (by decide)).1 132 rfl ?_
          refine own_iload X155 hx (hb hby at_132) rfl 134 rfl ?_
          refine own_ifcF X155 hx (hb hby at_134) (feq (by decide)).1 137 rfl ?_
          refine own_iloadN X155 hx (hb hby at_137) rfl 138 rfl ?_
          refine own_goto X155 hx (hb hby at_138) 142 (by decide) (by decide) ?_
          refine own_istore X155 hx (#[.val (.int p1), .val (.int p2), .val (.int p3), .val (.int p4), .val (.int p5), .val (.int p6), .val (.int (1 : Int32)), .val (.int (1 : Int32)), .val (.int (1 : Int32)), .val (.int (0 : Int32)), .val (.ref ca), .val (.ref mm), .val (.int p2), .unset, .unset, .unset, .unset]) (hb hby at_142) rfl 144 rfl ?_
          refine own_iload X155 hx (hb hby at_144) rfl 146 rfl ?_
          refine own_ifcF X155 hx (hb hby at_146) (feq (by decide)).1 149 rfl ?_
          refine own_iloadN X155 hx (hb hby at_149) rfl 150 rfl ?_
          refine own_goto X155 hx (hb hby at_150) 154 (by decide) (by decide) ?_
          refine own_istore X155 hx (#[.val (.int p1), .val (.int p2), .val (.int p3), .val (.int p4), .val (.int p5), .val (.int p6), .val (.int (1 : Int32)), .val (.int (1 : Int32)), .val (.int (1 : Int32)), .val (.int (0 : Int32)), .val (.ref ca), .val (.ref mm), .val (.int p2), .val (.int p3), .unset, .unset, .unset]) (hb hby at_154) rfl 156 rfl ?_
          refine own_goto X155 hx (hb hby at_156) 184 (by decide) (by decide) ?_
          refine own_iload X155 hx (hb hby at_184) rfl 186 rfl ?_
          refine own_ifcT X155 hx (hb hby at_186) (teq (by decide)).1 194 (by decide) (by decide) ?_
          refine own_iload X155 hx (hb hby at_194) rfl 196 rfl ?_
          refine own_istore X155 hx (#[.val (.int p1), .val (.int p2), .val (.int p3), .val (.int p4), .val (.int p5), .val (.int p6), .val (.int (1 : Int32)), .val (.int (1 : Int32)), .val (.int (1 : Int32)), .val (.int (0 : Int32)), .val (.ref ca), .val (.ref mm), .val (.int p2), .val (.int p3), .val (.int p6), .unset, .unset]) (hb hby at_196) rfl 198 rfl ?_
          refine own_aload X155 hx (hb hby at_198) rfl rfl 200 rfl ?_
          refine own_iload X155 hx (hb hby at_200) rfl 202 rfl ?_
          refine own_iload X155 hx (hb hby at_202) rfl 204 rfl ?_
          refine own_callV X155 hx hZ hown (own_w123 hw) (own_w124 hw) (own_w126 hw) (own_w125 hw) (own_w3 hw) (own_w127 hw) (by decide) 0 (own_m_res l Z a0 hw _ n0 FE_155 FA_155 Gn154_155 Gc154_155 Gn155 Gc155 (1 : Int32) p6 (r := (own_f_exp p6 p3 p2)) (own_res_e1 _ _ _ _ _)) rfl E_mm_155 (by rw [hml]; rfl) [(.int (1 : Int32)), (.int p6)] [] rfl (lenOf own_pd_18 rfl) rfl (Nat.le_of_eq rfl) (by decide) (by decide) (by decide) (by decide) (hb hby at_204) N155 207 rfl (fun v156 T156 l156 X156 N156 hP156 => ?_)
          obtain ⟨rfl, e156⟩ := hP156
          show own_G p e below _ (T156.setTop (mkF m 207 #[.val (.int p1), .val (.int p2), .val (.int p3), .val (.int p4), .val (.int p5), .val (.int p6), .val (.int (1 : Int32)), .val (.int (1 : Int32)), .val (.int (1 : Int32)), .val (.int (0 : Int32)), .val (.ref ca), .val (.ref mm), .val (.int p2), .val (.int p3), .val (.int p6), .unset, .unset] [(.int (own_f_exp p6 p3 p2))]))
          refine own_istore X156 hx (#[.val (.int p1), .val (.int p2), .val (.int p3), .val (.int p4), .val (.int p5), .val (.int p6), .val (.int (1 : Int32)), .val (.int (1 : Int32)), .val (.int (1 : Int32)), .val (.int (0 : Int32)), .val (.ref ca), .val (.ref mm), .val (.int p2), .val (.int p3), .val (.int p6), .val (.int (own_f_exp p6 p3 p2)), .unset]) (hb hby at_207) rfl 209 rfl ?_
          refine own_iload X156 hx (hb hby at_209) rfl 211 rfl ?_
          refine own_iload X156 hx (hb hby at_211) rfl 213 rfl ?_
          by_cases hc157 : p6 = p3
          · refine own_icmpF X156 hx (hb hby at_213) (teq hc157).2 216 rfl ?_
            refine own_iload X156 hx (hb hby at_216) rfl 218 rfl ?_
            refine own_goto X156 hx (hb hby at_218) 222 (by decide) (by decide) ?_
            refine own_istore X156 hx (#[.val (.int p1), .val (.int p2), .val (.int p3), .val (.int p4), .val (.int p5), .val (.int p6), .val (.int (1 : Int32)), .val (.int (1 : Int32)), .val (.int (1 : Int32)), .val (.int (0 : Int32)), .val (.ref ca), .val (.ref mm), .val (.int p2), .val (.int p3), .val (.int p6), .val (.int (own_f_exp p6 p3 p2)), .val (.int p2)]) (hb hby at_222) rfl 224 rfl ?_
            refine own_iload X156 hx (hb hby at_224) rfl 226 rfl ?_
            refine own_iload X156 hx (hb hby at_226) rfl 228 rfl ?_
            refine own_icmpF X156 hx (hb hby at_228) (teq (own_exp_T hc157)).2 231 rfl ?_
            refine own_iconst X156 hx (z := (1 : Int32)) (hb hby at_231) rfl 232 rfl ?_
            refine own_goto X156 hx (hb hby at_232) 236 (by decide) (by decide) ?_
            exact own_retNS X156 hx hS hret (Or.inl rfl) hlk (hb hby at_236) (by decide) (by decide) N156 e156 Hk_155 rfl
          · refine own_icmpT X156 hx (hb hby at_213) (feq hc157).2 221 (by decide) (by decide) ?_
            refine own_iconst X156 hx (z := (-1 : Int32)) (hb hby at_221) rfl 222 rfl ?_
            refine own_istore X156 hx (#[.val (.int p1), .val (.int p2), .val (.int p3), .val (.int p4), .val (.int p5), .val (.int p6), .val (.int (1 : Int32)), .val (.int (1 : Int32)), .val (.int (1 : Int32)), .val (.int (0 : Int32)), .val (.ref ca), .val (.ref mm), .val (.int p2), .val (.int p3), .val (.int p6), .val (.int (own_f_exp p6 p3 p2)), .val (.int (-1 : Int32))]) (hb hby at_222) rfl 224 rfl ?_
            refine own_iload X156 hx (hb hby at_224) rfl 226 rfl ?_
            refine own_iload X156 hx (hb hby at_226) rfl 228 rfl ?_
            refine own_icmpF X156 hx (hb hby at_228) (teq (own_exp_F hc157)).2 231 rfl ?_
            refine own_iconst X156 hx (z := (1 : Int32)) (hb hby at_231) rfl 232 rfl ?_
            refine own_goto X156 hx (hb hby at_232) 236 (by decide) (by decide) ?_
            exact own_retNS X156 hx hS hret (Or.inl rfl) hlk (hb hby at_236) (by decide) (by decide) N156 e156 Hk_155 rfl
        · refine own_ifcF X0 hx (hb hby at_43) (feq hc146).1 46 rfl ?_
          refine own_iconst X0 hx (z := (1 : Int32)) (hb hby at_46) rfl 47 rfl ?_
          refine own_goto X0 hx (hb hby at_47) 51 (by decide) (by decide) ?_
          refine own_istore X0 hx (#[.val (.int p1), .val (.int p2), .val (.int p3), .val (.int p4), .val (.int p5), .val (.int p6), .val (.int (1 : Int32)), .val (.int (1 : Int32)), .val (.int (1 : Int32)), .val (.int (1 : Int32)), .unset, .unset, .unset, .unset, .unset, .unset, .unset]) (hb hby at_51) rfl 53 rfl ?_
          refine own_iconst X0 hx (z := (2 : Int32)) (hb hby at_53) rfl 54 rfl ?_
          refine own_newP (aty := .char) X0 hx hZ (own_w0 hw) e0 (hb hby at_54) (by decide) 2 (by decide) (by decide) (by decide) (by decide) 56 rfl (fun T158 h158 cA158 ca g158 X158 e158 E158 B158 => ?_)
          have gn_ca : n0 ≤ ca := Nat.le_trans Z0 (Nat.le_of_eq g158.symm)
          have Z0_158 := Nat.le_trans Z0 E158.1
          have O0_158 := O0.ext E158
          have A_ca_158 : own_A Z h158 ca .char 2 (fun _ => 0) := own_A.new B158 (by decide) rfl
          refine own_dup X158 hx (hb hby at_56) rfl 57 rfl ?_
          refine own_iconst X158 hx (z := (0 : Int32)) (hb hby at_57) rfl 58 rfl ?_
          refine own_iloadN X158 hx (hb hby at_58) rfl 59 rfl ?_
          refine own_bipush X158 hx (z := (8 : Int32)) (hb hby at_59) rfl 61 rfl ?_
          refine own_iushr X158 hx (hb hby at_61) 62 rfl ?_
          refine own_sipush X158 hx (z := (255 : Int32)) (hb hby at_62) rfl 65 rfl ?_
          refine own_iand X158 hx (hb hby at_65) 66 rfl ?_
          refine own_i2c X158 hx (hb hby at_66) 67 rfl ?_
          refine own_castore X158 hx hZ e158 A_ca_158 ⟨by decide, by decide⟩ (hb hby at_67) N0 gn_ca 68 rfl (fun T159 h159 l159 X159 N159 e159 W159 => ?_)
          have Z0_159 := Nat.le_trans Z0_158 (Nat.le_of_eq W159.size.symm)
          have O0_159 := O0_158.wr W159 gn_ca
          have A_ca_159 := A_ca_158.set W159
          refine own_dup X159 hx (hb hby at_68) rfl 69 rfl ?_
          refine own_iconst X159 hx (z := (1 : Int32)) (hb hby at_69) rfl 70 rfl ?_
          refine own_iloadN X159 hx (hb hby at_70) rfl 71 rfl ?_
          refine own_bipush X159 hx (z := (16 : Int32)) (hb hby at_71) rfl 73 rfl ?_
          refine own_iushr X159 hx (hb hby at_73) 74 rfl ?_
          refine own_sipush X159 hx (z := (255 : Int32)) (hb hby at_74) rfl 77 rfl ?_
          refine own_iand X159 hx (hb hby at_77) 78 rfl ?_
          refine own_i2c X159 hx (hb hby at_78) 79 rfl ?_
          refine own_castore X159 hx hZ e159 A_ca_159 ⟨by decide, by decide⟩ (hb hby at_79) N159 gn_ca 80 rfl (fun T160 h160 l160 X160 N160 e160 W160 => ?_)
          have Z0_160 := Nat.le_trans Z0_159 (Nat.le_of_eq W160.size.symm)
          have O0_160 := O0_159.wr W160 gn_ca
          have A_ca_160 := A_ca_159.set W160
          refine own_astore X160 hx (#[.val (.int p1), .val (.int p2), .val (.int p3), .val (.int p4), .val (.int p5), .val (.int p6), .val (.int (1 : Int32)), .val (.int (1 : Int32)), .val (.int (1 : Int32)), .val (.int (1 : Int32)), .val (.ref ca), .unset, .unset, .unset, .unset, .unset, .unset]) (hb hby at_80) rfl rfl 82 rfl ?_
          refine own_newO X160 hx hZ hown (own_w1 hw) (own_w2 hw) (own_w3 hw) e160 (hb hby at_82) (by decide) (by decide) 85 rfl (fun T161 h161 mm g161 X161 e161 E161 B161 D161 => ?_)
          have o_ca_mm : ca < mm := Nat.lt_of_lt_of_eq A_ca_160.lt g161.symm
          have gn_mm : n0 ≤ mm := Nat.le_trans Z0_160 (Nat.le_of_eq g161.symm)
          have Z0_161 := Nat.le_trans Z0_160 E161.1
          have O0_161 := O0_160.ext E161
          have A_ca_161 := A_ca_160.ext E161
          have F_asElement_mm_161 : Fld Z h161 mm "com/example/xqwry/xqwry/MarkupName" "asElement" "Lcom/example/xqwry/xqwry/MarkupName$Resolution;" .null := D161 (Or.inr (own_w49 hw)) (ty := (.object "com/example/xqwry/xqwry/MarkupName$Resolution")) (by decide)
          have F_asAttribute_mm_161 : Fld Z h161 mm "com/example/xqwry/xqwry/MarkupName" "asAttribute" "Lcom/example/xqwry/xqwry/MarkupName$Resolution;" .null := D161 (Or.inr (own_w51 hw)) (ty := (.object "com/example/xqwry/xqwry/MarkupName$Resolution")) (by decide)
          have F_lexicalName_mm_161 : Fld Z h161 mm "com/example/xqwry/xqwry/MarkupName" "lexicalName" "Ljava/lang/String;" .null := D161 (Or.inr (own_w53 hw)) (ty := (.object "java/lang/String")) (by decide)
          have F_prefixed_mm_161 : Fld Z h161 mm "com/example/xqwry/xqwry/MarkupName" "prefixed" "Z" (.int (0 : Int32)) := D161 (Or.inr (own_w97 hw)) (ty := .boolean) (by decide)
          have F_declaredPrefix_mm_161 : Fld Z h161 mm "com/example/xqwry/xqwry/MarkupName" "declaredPrefix" "Ljava/lang/String;" .null := D161 (Or.inr (own_w122 hw)) (ty := (.object "java/lang/String")) (by decide)
          refine own_dup X161 hx (hb hby at_85) rfl 86 rfl ?_
          refine own_newO X161 hx hZ hown (own_w4 hw) (own_w5 hw) (own_w6 hw) e161 (hb hby at_86) (by decide) (by decide) 89 rfl (fun T162 h162 sa g162 X162 e162 E162 B162 D162 => ?_)
          have o_ca_sa : ca < sa := Nat.lt_of_lt_of_eq A_ca_161.lt g162.symm
          have o_mm_sa : mm < sa := Nat.lt_of_lt_of_eq B161.lt g162.symm
          have gn_sa : n0 ≤ sa := Nat.le_trans Z0_161 (Nat.le_of_eq g162.symm)
          have Z0_162 := Nat.le_trans Z0_161 E162.1
          have O0_162 := O0_161.ext E162
          have A_ca_162 := A_ca_161.ext E162
          have B161_162 := B161.ext E162
          have F_asElement_mm_162 := F_asElement_mm_161.ext E162
          have F_asAttribute_mm_162 := F_asAttribute_mm_161.ext E162
          have F_lexicalName_mm_162 := F_lexicalName_mm_161.ext E162
          have F_prefixed_mm_162 := F_prefixed_mm_161.ext E162
          have F_declaredPrefix_mm_162 := F_declaredPrefix_mm_161.ext E162
          have F_coder_sa_162 : Fld Z h162 sa "java/lang/String" "coder" "B" (.int (0 : Int32)) := D162 (Or.inr (own_w30 hw)) (ty := .byte) (by decide)
          have F_value_sa_162 : Fld Z h162 sa "java/lang/String" "value" "[B" .null := D162 (Or.inr (own_w32 hw)) (ty := (.array .byte)) (by decide)
          refine own_dup X162 hx (hb hby at_89) rfl 90 rfl ?_
          refine own_aload X162 hx (hb hby at_90) rfl rfl 92 rfl ?_
          refine own_callI X162 hx hZ hown rfl (own_w7 hw) (own_w8 hw) (own_w6 hw) (own_w9 hw) (by decide) 3 (own_m_sic1 l Z a0 hw _ n0 A_ca_162 B162 F_value_sa_162 F_coder_sa_162 gn_sa (Nat.ne_of_lt o_ca_sa) Z0_162 (own_hc _ _) hcz (SC0.ext O0_162.2)) e162 (by rw [hml]; rfl) sa [(.ref ca)] [(.ref sa), (.ref mm), (.ref mm)] rfl (lenOf own_pd_16 rfl) rfl (Nat.le_of_eq rfl) (by decide) (by decide) (by decide) (by decide) (hb hby at_92) N160 95 rfl (fun v163 T163 l163 X163 N163 hP163 => ?_)
          obtain ⟨rfl, sb, fs163, C_sa, V_sa, A_sb, o_sa_sb, K163'⟩ := hP163
          have Z0_163 := Nat.le_trans Z0_162 K163'.1
          have O0_163 := O0_162.keep K163' (allS gn_sa all0)
          have A_ca_163 := A_ca_162.keep K163' (ninS (Nat.ne_of_lt o_ca_sa) nin0)
          have B161_163 := B161_162.keep K163'
          have F_asElement_mm_163 := F_asElement_mm_162.keep K163' (ninS (Nat.ne_of_lt o_mm_sa) nin0)
          have F_asAttribute_mm_163 := F_asAttribute_mm_162.keep K163' (ninS (Nat.ne_of_lt o_mm_sa) nin0)
          have F_lexicalName_mm_163 := F_lexicalName_mm_162.keep K163' (ninS (Nat.ne_of_lt o_mm_sa) nin0)
          have F_prefixed_mm_163 := F_prefixed_mm_162.keep K163' (ninS (Nat.ne_of_lt o_mm_sa) nin0)
          have F_declaredPrefix_mm_163 := F_declaredPrefix_mm_162.keep K163' (ninS (Nat.ne_of_lt o_mm_sa) nin0)
          have B162_163 := B162.keep K163'
          have o_mm_sb : mm < sb := Nat.lt_trans o_mm_sa o_sa_sb
          show own_G p e below _ (T163.setTop (mkF m 95 #[.val (.int p1), .val (.int p2), .val (.int p3), .val (.int p4), .val (.int p5), .val (.int p6), .val (.int (1 : Int32)), .val (.int (1 : Int32)), .val (.int (1 : Int32)), .val (.int (1 : Int32)), .val (.ref ca), .unset, .unset, .unset, .unset, .unset, .unset] [(.ref sa), (.ref mm), (.ref mm)]))
          refine own_callIS X163 hx hZH hown rfl (own_w33 hw) (own_w34 hw) (own_w3 hw) (own_w35 hw) (by decide) 1 (own_m_minit l Z a0 hw _ n0 B161_163 F_lexicalName_mm_163 F_prefixed_mm_163 F_declaredPrefix_mm_163 F_asElement_mm_163 F_asAttribute_mm_163 B162_163 C_sa V_sa A_sb gn_mm gn_sa o_mm_sa o_sa_sb o_mm_sb Z0_163 O0_163 wS hH33 hH44 hcw hcz SC0) rfl (by rw [hml]; rfl) mm [.ref sa] [(.ref mm)] rfl (lenOf own_pd_17 rfl) rfl (Nat.le_of_eq rfl) (by decide) (by decide) (by decide) (by decide) (hb hby at_95) N163 98 rfl (fun v164 T164 l164 X164 N164 hS hZ hown hP164 => ?_)
          obtain ⟨rfl, re, ra, FE, FA, Ee, Ea, F1, F2, F3, F4, o_mm_re, o_re_ra, K164'⟩ := hP164
          have E_mm := B161_163.keep K164'
          have o_mm_ra : mm < ra := Nat.lt_trans o_mm_re o_re_ra
          have gn_re : n0 ≤ re := Nat.le_trans gn_mm (Nat.le_of_lt o_mm_re)
          have gn_ra : n0 ≤ ra := Nat.le_trans gn_mm (Nat.le_of_lt o_mm_ra)
          have Hk := Nat.le_refl T164.heap.size
          show own_G p e below _ (T164.setTop (mkF m 98 #[.val (.int p1), .val (.int p2), .val (.int p3), .val (.int p4), .val (.int p5), .val (.int p6), .val (.int (1 : Int32)), .val (.int (1 : Int32)), .val (.int (1 : Int32)), .val (.int (1 : Int32)), .val (.ref ca), .unset, .unset, .unset, .unset, .unset, .unset] [(.ref mm)]))
          refine own_astore X164 hx (#[.val (.int p1), .val (.int p2), .val (.int p3), .val (.int p4), .val (.int p5), .val (.int p6), .val (.int (1 : Int32)), .val (.int (1 : Int32)), .val (.int (1 : Int32)), .val (.int (1 : Int32)), .val (.ref ca), .val (.ref mm), .unset, .unset, .unset, .unset, .unset]) (hb hby at_98) rfl rfl 100 rfl ?_
          refine own_iload X164 hx (hb hby at_100) rfl 102 rfl ?_
          refine own_ifcF X164 hx (hb hby at_102) (feq (by decide)).1 105 rfl ?_
          refine own_aload X164 hx (hb hby at_105) rfl rfl 107 rfl ?_
          refine own_iconst X164 hx (z := (1 : Int32)) (hb hby at_107) rfl 108 rfl ?_
          refine own_iloadN X164 hx (hb hby at_108) rfl 109 rfl ?_
          refine own_iloadN X164 hx (hb hby at_109) rfl 110 rfl ?_
          refine own_callV X164 hx hZ hown (own_w129 hw) (own_w130 hw) (own_w132 hw) (own_w131 hw) (own_w3 hw) (own_w133 hw) (by decide) 0 (own_m_keep1 l Z a0 hw _ n0 FE FA Ee F1 F2 gn_re (Nat.ne_of_lt o_mm_re) (1 : Int32) p2 p3 (by decide)) rfl E_mm (by rw [hml]; rfl) [(.int (1 : Int32)), (.int p2), (.int p3)] [] rfl (lenOf own_pd_19 rfl) rfl (Nat.le_of_eq rfl) (by decide) (by decide) (by decide) (by decide) (hb hby at_110) N164 113 rfl (fun v165 T165 l165 X165 N165 hP165 => ?_)
          obtain ⟨rfl, Gn165, Gc165, K165'⟩ := hP165
          have Hk_165 := Nat.le_trans Hk K165'.1
          have E_mm_165 := E_mm.keep K165'
          have FE_165 := FE.keep K165' (ninS (Nat.ne_of_lt o_mm_re) nin0)
          have FA_165 := FA.keep K165' (ninS (Nat.ne_of_lt o_mm_re) nin0)
          have Ee_165 := Ee.keep K165'
          have Ea_165 := Ea.keep K165'
          have F3_165 := F3.keep K165' (ninS (Nat.ne_of_gt o_re_ra) nin0)
          have F4_165 := F4.keep K165' (ninS (Nat.ne_of_gt o_re_ra) nin0)
          show own_G p e below _ (T165.setTop (mkF m 113 #[.val (.int p1), .val (.int p2), .val (.int p3), .val (.int p4), .val (.int p5), .val (.int p6), .val (.int (1 : Int32)), .val (.int (1 : Int32)), .val (.int (1 : Int32)), .val (.int (1 : Int32)), .val (.ref ca), .val (.ref mm), .unset, .unset, .unset, .unset, .unset] []))
          refine own_iload X165 hx (hb hby at_113) rfl 115 rfl ?_
          refine own_ifcF X165 hx (hb hby at_115) (feq (by decide)).1 118 rfl ?_
          refine own_aload X165 hx (hb hby at_118) rfl rfl 120 rfl ?_
          refine own_iconst X165 hx (z := (0 : Int32)) (hb hby at_120) rfl 121 rfl ?_
          refine own_iloadN X165 hx (hb hby at_121) rfl 122 rfl ?_
          refine own_iload X165 hx (hb hby at_122) rfl 124 rfl ?_
          refine own_callV X165 hx hZ hown (own_w129 hw) (own_w130 hw) (own_w132 hw) (own_w131 hw) (own_w3 hw) (own_w133 hw) (by decide) 0 (own_m_keep0 l Z a0 hw _ n0 FE_165 FA_165 Ea_165 F3_165 F4_165 gn_ra (Nat.ne_of_lt o_mm_ra) (0 : Int32) p4 p5 (by decide)) rfl E_mm_165 (by rw [hml]; rfl) [(.int (0 : Int32)), (.int p4), (.int p5)] [] rfl (lenOf own_pd_19 rfl) rfl (Nat.le_of_eq rfl) (by decide) (by decide) (by decide) (by decide) (hb hby at_124) N165 127 rfl (fun v166 T166 l166 X166 N166 hP166 => ?_)
          obtain ⟨rfl, Gn166, Gc166, K166'⟩ := hP166
          have Hk_166 := Nat.le_trans Hk_165 K166'.1
          have E_mm_166 := E_mm_165.keep K166'
          have FE_166 := FE_165.keep K166' (ninS (Nat.ne_of_lt o_mm_ra) nin0)
          have FA_166 := FA_165.keep K166' (ninS (Nat.ne_of_lt o_mm_ra) nin0)
          have Ee_166 := Ee_165.keep K166'
          have Ea_166 := Ea_165.keep K166'
          have Gn165_166 := Gn165.keep K166' (ninS (Nat.ne_of_lt o_re_ra) nin0)
          have Gc165_166 := Gc165.keep K166' (ninS (Nat.ne_of_lt o_re_ra) nin0)
          show own_G p e below _ (T166.setTop (mkF m 127 #[.val (.int p1), .val (.int p2), .val (.int p3), .val (.int p4), .val (.int p5), .val (.int p6), .val (.int (1 : Int32)), .val (.int (1 : Int32)), .val (.int (1 : Int32)), .val (.int (1 : Int32)), .val (.ref ca), .val (.ref mm), .unset, .unset, .unset, .unset, .unset] []))
          refine own_iload X166 hx (hb hby at_127) rfl 129 rfl ?_
          refine own_ifcF X166 hx (hb hby at_129) (feq (by decide)).1 132 rfl ?_
          refine own_iload X166 hx (hb hby at_132) rfl 134 rfl ?_
          refine own_ifcF X166 hx (hb hby at_134) (feq (by decide)).1 137 rfl ?_
          refine own_iloadN X166 hx (hb hby at_137) rfl 138 rfl ?_
          refine own_goto X166 hx (hb hby at_138) 142 (by decide) (by decide) ?_
          refine own_istore X166 hx (#[.val (.int p1), .val (.int p2), .val (.int p3), .val (.int p4), .val (.int p5), .val (.int p6), .val (.int (1 : Int32)), .val (.int (1 : Int32)), .val (.int (1 : Int32)), .val (.int (1 : Int32)), .val (.ref ca), .val (.ref mm), .val (.int p2), .unset, .unset, .unset, .unset]) (hb hby at_142) rfl 144 rfl ?_
          refine own_iload X166 hx (hb hby at_144) rfl 146 rfl ?_
          refine own_ifcF X166 hx (hb hby at_146) (feq (by decide)).1 149 rfl ?_
          refine own_iloadN X166 hx (hb hby at_149) rfl 150 rfl ?_
          refine own_goto X166 hx (hb hby at_150) 154 (by decide) (by decide) ?_
          refine own_istore X166 hx (#[.val (.int p1), .val (.int p2), .val (.int p3), .val (.int p4), .val (.int p5), .val (.int p6), .val (.int (1 : Int32)), .val (.int (1 : Int32)), .val (.int (1 : Int32)), .val (.int (1 : Int32)), .val (.ref ca), .val (.ref mm), .val (.int p2), .val (.int p3), .unset, .unset, .unset]) (hb hby at_154) rfl 156 rfl ?_
          refine own_goto X166 hx (hb hby at_156) 184 (by decide) (by decide) ?_
          refine own_iload X166 hx (hb hby at_184) rfl 186 rfl ?_
          refine own_ifcF X166 hx (hb hby at_186) (feq (by decide)).1 189 rfl ?_
          refine own_iload X166 hx (hb hby at_189) rfl 191 rfl ?_
          refine own_goto X166 hx (hb hby at_191) 196 (by decide) (by decide) ?_
          refine own_istore X166 hx (#[.val (.int p1), .val (.int p2), .val (.int p3), .val (.int p4), .val (.int p5), .val (.int p6), .val (.int (1 : Int32)), .val (.int (1 : Int32)), .val (.int (1 : Int32)), .val (.int (1 : Int32)), .val (.ref ca), .val (.ref mm), .val (.int p2), .val (.int p3), .val (.int p3), .unset, .unset]) (hb hby at_196) rfl 198 rfl ?_
          refine own_aload X166 hx (hb hby at_198) rfl rfl 200 rfl ?_
          refine own_iload X166 hx (hb hby at_200) rfl 202 rfl ?_
          refine own_iload X166 hx (hb hby at_202) rfl 204 rfl ?_
          refine own_callV X166 hx hZ hown (own_w123 hw) (own_w124 hw) (own_w126 hw) (own_w125 hw) (own_w3 hw) (own_w127 hw) (by decide) 0 (own_m_res l Z a0 hw _ n0 FE_166 FA_166 Gn165_166 Gc165_166 Gn166 Gc166 (1 : Int32) p3 (r := p2) (own_res_n1 _ _ _ _)) rfl E_mm_166 (by rw [hml]; rfl) [(.int (1 : Int32)), (.int p3)] [] rfl (lenOf own_pd_18 rfl) rfl (Nat.le_of_eq rfl) (by decide) (by decide) (by decide) (by decide) (hb hby at_204) N166 207 rfl (fun v167 T167 l167 X167 N167 hP167 => ?_)
          obtain ⟨rfl, e167⟩ := hP167
          show own_G p e below _ (T167.setTop (mkF m 207 #[.val (.int p1), .val (.int p2), .val (.int p3), .val (.int p4), .val (.int p5), .val (.int p6), .val (.int (1 : Int32)), .val (.int (1 : Int32)), .val (.int (1 : Int32)), .val (.int (1 : Int32)), .val (.ref ca), .val (.ref mm), .val (.int p2), .val (.int p3), .val (.int p3), .unset, .unset] [(.int p2)]))
          refine own_istore X167 hx (#[.val (.int p1), .val (.int p2), .val (.int p3), .val (.int p4), .val (.int p5), .val (.int p6), .val (.int (1 : Int32)), .val (.int (1 : Int32)), .val (.int (1 : Int32)), .val (.int (1 : Int32)), .val (.ref ca), .val (.ref mm), .val (.int p2), .val (.int p3), .val (.int p3), .val (.int p2), .unset]) (hb hby at_207) rfl 209 rfl ?_
          refine own_iload X167 hx (hb hby at_209) rfl 211 rfl ?_
          refine own_iload X167 hx (hb hby at_211) rfl 213 rfl ?_
          refine own_icmpF X167 hx (hb hby at_213) (teq rfl).2 216 rfl ?_
          refine own_iload X167 hx (hb hby at_216) rfl 218 rfl ?_
          refine own_goto X167 hx (hb hby at_218) 222 (by decide) (by decide) ?_
          refine own_istore X167 hx (#[.val (.int p1), .val (.int p2), .val (.int p3), .val (.int p4), .val (.int p5), .val (.int p6), .val (.int (1 : Int32)), .val (.int (1 : Int32)), .val (.int (1 : Int32)), .val (.int (1 : Int32)), .val (.ref ca), .val (.ref mm), .val (.int p2), .val (.int p3), .val (.int p3), .val (.int p2), .val (.int p2)]) (hb hby at_222) rfl 224 rfl ?_
          refine own_iload X167 hx (hb hby at_224) rfl 226 rfl ?_
          refine own_iload X167 hx (hb hby at_226) rfl 228 rfl ?_
          refine own_icmpF X167 hx (hb hby at_228) (teq rfl).2 231 rfl ?_
          refine own_iconst X167 hx (z := (1 : Int32)) (hb hby at_231) rfl 232 rfl ?_
          refine own_goto X167 hx (hb hby at_232) 236 (by decide) (by decide) ?_
          exact own_retNS X167 hx hS hret (Or.inl rfl) hlk (hb hby at_236) (by decide) (by decide) N167 e167 Hk_166 rfl
set_option maxRecDepth 65536 in
set_option maxHeartbeats 40000000 in
theorem own_comes {Post : Tables → Env → Array Value → State → Outcome → State → Prop} (hpost : ∀ tb e args s v u, (limb_1_1.after args s (.returned v) u = true ∧ limb_1_2.after args s (.returned v) u = true ∧ True) → Jvm.D.FramedW s (.returned v) u (Jvm.fieldLocs frame_1_writes args s ++ Jvm.arrayLocs frame_1_arrays args s ++ Jvm.staticLocs frame_1_statics s) 24 2176 → Post tb e args s (.returned v) u) :
    ArmFor flags0 classFile x code maxLocals ret World_1 tables_1 room_1 Calls_1 rest_1 Pre_1 Post := by
  intro l hfl _ _ p e ha hc hk s m args below hf hA hF happ hP
  obtain ⟨hcalls, hrest, hpre⟩ := hP
  obtain ⟨-, -, -, hnamed, -, -, -, hat⟩ := (Spec.applies_iff hf).mp happ
  obtain ⟨hg, hn⟩ := and_e (Cond.before_iff.mp (show (Jvm.Cond.and given_1 narrow_1).before args s = true from hpre))
  obtain ⟨g0, q0⟩ := and_e hg
  obtain ⟨g1, q1⟩ := and_e q0
  obtain ⟨g2, q2⟩ := and_e q1
  obtain ⟨g3, q3⟩ := and_e q2
  obtain ⟨g4, q4⟩ := and_e q3
  obtain ⟨g5, q5⟩ := and_e q4
  obtain ⟨w0, w1, w2, w3, w4, w5, rfl⟩ : ∃ w0 w1 w2 w3 w4 w5 : Value, args = #[w0, w1, w2, w3, w4, w5] := by
    have hs : args.size = 6 := by simpa [Cond.value, given_1] using g0
    obtain ⟨L⟩ := args
    match L, hs with
    | [w0, w1, w2, w3, w4, w5], _ => exact ⟨w0, w1, w2, w3, w4, w5, rfl⟩
  have hw := fun d (hd : d ∈ tables_1) => atoms_spec (ws := Jvm.Cond.code x code maxLocals ret :: tables_1) hat d (List.mem_cons_of_mem _ hd)
  obtain ⟨i0, z0⟩ := is_v g1
  obtain rfl : w0 = (.int i0) := Option.some.inj z0
  obtain ⟨i1, z1⟩ := is_v g2
  obtain rfl : w1 = (.int i1) := Option.some.inj z1
  obtain ⟨i2, z2⟩ := is_v g3
  obtain rfl : w2 = (.int i2) := Option.some.inj z2
  obtain ⟨i3, z3⟩ := is_v g4
  obtain rfl : w3 = (.int i3) := Option.some.inj z3
  obtain ⟨i4, z4⟩ := is_v g5
  obtain rfl : w4 = (.int i4) := Option.some.inj z4
  obtain ⟨i5, z5⟩ := is_v q5
  obtain rfl : w5 = (.int i5) := Option.some.inj z5
  have hrest' := Cond.before_iff.mp (show rest_1_c.before _ s = true from hrest)
  obtain ⟨r0, hrest'⟩ := and_e hrest'
  obtain ⟨r1, hrest'⟩ := and_e hrest'
  obtain ⟨r2, hrest'⟩ := and_e hrest'
  obtain ⟨cz, ev⟩ := is_v r1
  have hcz : ¬ cz = 0 := by
    intro hc
    subst hc
    exact absurd ((eq_i ev (Term.int_eval 0) rfl).symm.trans (own_not_e r2)) (by decide)
  have wS := own_wS s _ hw
  obtain ⟨n, o, h1, h2, h3, v, L, rfl, ⟨N, rfl⟩, hq⟩ := own_m_law l s _ hw s.heap s.heap.size (Nat.le_refl _) ⟨rfl, Nat.le_refl _, fun _ _ q => q⟩ wS (hcalls.1 _ (List.mem_of_getElem? (i := 0) rfl)) (hcalls.1 _ (List.mem_of_getElem? (i := 1) rfl)) (Cond.before_iff.mpr r2) hcz (Sta.start ev (Or.inl (Cond.before_iff.mpr r0))) i0 i1 i2 i3 i4 i5 p e ha hc hk s m _ below hf ((Spec.applies_iff_loose hf).mp happ).1 ⟨rfl, State.WarmedH.refl s, rfl⟩ trivial
  exact ⟨n, _, h1, h2, h3, hpost _ _ _ _ _ _ ⟨Cond.after_iff.mpr rfl, Cond.after_iff.mpr (eq_i res_at (Term.int_eval (1)) rfl), trivial⟩ ⟨hq.1, hq.2.1, hq.2.2.1, (hq.2.2.2.sift fun y hy => Or.inr (N y hy)).mono (by decide) (by decide)⟩⟩
theorem main_1_1 : Claimed_1_1 := own_comes fun _ _ _ _ _ _ h hF => ⟨h.1, hF⟩
theorem main_1_2 : Claimed_1_2 := own_comes fun _ _ _ _ _ _ h hF => ⟨h.2.1, hF⟩

end Jvm.Pilot.@@N@@
namespace Jvm.Pilot.@@N@@
open Jvm Jvm.ClassFile Sem Op Lib Jvm.Free Jvm.Stand Jvm.Pilot.@@N@@.Jvm.D
/-! MADE BY PROGRAM (witnessworld.py) out of the Statement's table words and the real class files: 22 classes; the members and pool entries that the words name. The judged class is class 1, her method 1. -/
namespace start1
open Jvm.ClassFile
def u (s : String) : CpInfo := .utf8 (stringToUtf16 s)
/-- a pool by its gaps: so many unusable entries, then the entry; so many at the end -/
def gap : Nat → List CpInfo → List CpInfo
  | 0, r => r
  | n + 1, r => .unusable :: gap n r
def poolList (es : List (Nat × CpInfo)) (last : Nat) : List CpInfo := es.foldr (fun e r => gap e.1 (e.2 :: r)) (gap last [])
def pool (es : List (Nat × CpInfo)) (last : Nat) : Array CpInfo := ⟨poolList es last⟩
def fileOf (pool : Array CpInfo) (this : Nat) (attrs : Array Attribute := #[]) (ms : Array MethodInfo := #[]) (fl : Nat := 33) (sup : Nat := 0) (ifs : Array Nat := #[]) (fds : Array FieldInfo := #[]) : ClassFile where
  minorVersion := 0
  majorVersion := 65
  constantPool := pool
  accessFlags := fl
  thisClass := this
  superClass := sup
  interfaces := ifs
  fields := fds
  methods := ms
  attributes := attrs
def plain (name : String) (sup : Option ClassId) : Class where
  name := name
  kind := .ordinary
  loader := none
  accessFlags := 33
  super := sup
  interfaces := #[]
  cf := none
  fields := #[]
  methods := #[]
  instanceTypes := #[]
  staticTypes := #[]
  resolved := #[]
  callSites := []
  init := .initialized
  statics := none
  mirror := none

def pool0 : Array CpInfo := pool [(5, u "<init>"), (0, u "()V"), (1, .class_ 10), (1, u "java/lang/Object")] 113

def k0c0 : Code := { maxStack := 0, maxLocals := 1, code := object_method_1_code, exceptionTable := #[], attributes := #[] }
def k0m0 : Method := { name := "<init>", desc := "()V", sig := { parameters := [], returnType := none }, accessFlags := 1, code := some k0c0 }
/-- java/lang/Object -/
def k0 : Class := { plain "java/lang/Object" none with
  accessFlags := 33
  interfaces := #[]
  cf := some (fileOf pool0 8 #[] #[{ accessFlags := 1, nameIndex := 5, descriptorIndex := 6, attributes := #[] }] 33 0 #[] #[])
  fields := #[]
  methods := #[k0m0]
  instanceTypes := #[]
  staticTypes := #[]
  resolved := Array.replicate 124 none
  statics := none }

def pool1 : Array CpInfo := pool [(2, .class_ 4), (1, u "java/lang/Object"), (0, u "<init>"), (0, u "()V"), (0, .class_ 8), (0, u "com/example/xqwry/xqwry/MarkupName"), (0, .class_ 10), (0, u "java/lang/String"), (0, .methodref 9 12), (0, .nameAndType 5 13), (0, u "([C)V"), (0, .methodref 7 15), (0, .nameAndType 5 16), (0, u "(Ljava/lang/String;)V"), (0, .methodref 7 18), (0, .nameAndType 19 20), (0, u "keepResolved"), (0, u "(ZII)V"), (0, .methodref 7 22), (0, .nameAndType 23 24), (0, u "resolved"), (0, u "(ZI)I"), (0, .class_ 26), (0, u "com/example/xqwry/xqwry/MarkupNameResolvedPinLaw"), (2, u "law"), (0, u "(IIIIII)Z")] 5

def k1m0 : Method := { name := "<init>", desc := "()V", sig := { parameters := [], returnType := none }, accessFlags := 1, code := none }
def k1c1 : Code := { maxStack := 5, maxLocals := 17, code := code, exceptionTable := #[], attributes := #[] }
def k1m1 : Method := { name := "law", desc := "(IIIIII)Z", sig := { parameters := [.int, .int, .int, .int, .int, .int], returnType := some .boolean }, accessFlags := 9, code := some k1c1 }
/-- com/example/xqwry/xqwry/MarkupNameResolvedPinLaw -/
def k1 : Class := { plain "com/example/xqwry/xqwry/MarkupNameResolvedPinLaw" (some 0) with
  accessFlags := 49
  interfaces := #[]
  cf := some (fileOf pool1 25 #[] #[{ accessFlags := 1, nameIndex := 5, descriptorIndex := 6, attributes := #[] }, { accessFlags := 9, nameIndex := 29, descriptorIndex := 30, attributes := #[] }] 49 2 #[] #[])
  fields := #[]
  methods := #[k1m0, k1m1]
  instanceTypes := #[]
  staticTypes := #[]
  resolved := Array.replicate 36 none
  statics := none }

def pool2 : Array CpInfo := pool [(1, .methodref 2 3), (0, .class_ 4), (0, .nameAndType 5 6), (0, u "java/lang/Object"), (0, u "<init>"), (0, u "()V"), (0, .class_ 8), (0, u "com/example/xqwry/xqwry/MarkupName$Resolution"), (0, .methodref 7 3), (0, .fieldref 11 12), (0, .class_ 13), (0, .nameAndType 14 15), (0, u "com/example/xqwry/xqwry/MarkupName"), (0, u "asElement"), (0, u "Lcom/example/xqwry/xqwry/MarkupName$Resolution;"), (0, .fieldref 11 17), (0, .nameAndType 18 15), (0, u "asAttribute"), (0, .fieldref 11 20), (0, .nameAndType 21 22), (0, u "lexicalName"), (0, u "Ljava/lang/String;"), (0, .methodref 24 25), (0, .class_ 26), (0, .nameAndType 27 28), (0, u "java/lang/String"), (0, u "indexOf"), (0, u "(I)I"), (0, .fieldref 11 30), (0, .nameAndType 31 32), (0, u "prefixed"), (0, u "Z"), (0, .string 34), (0, u "xmlns"), (0, .methodref 24 36), (0, .nameAndType 37 38), (0, u "equals"), (0, u "(Ljava/lang/Object;)Z"), (2, .fieldref 11 42), (0, .nameAndType 43 22), (0, u "declaredPrefix"), (0, .string 45), (0, u "xmlns:"), (0, .methodref 24 47), (0, .nameAndType 48 49), (0, u "startsWith"), (0, u "(Ljava/lang/String;)Z"), (4, .fieldref 7 55), (0, .nameAndType 56 57), (0, u "namespaceChanges"), (0, u "I"), (0, .fieldref 7 59), (0, .nameAndType 60 57), (0, u "name"), (2, u "lastTag"), (0, u "(Ljava/lang/String;)V"), (7, u "resolved"), (0, u "(ZI)I"), (0, u "keepResolved"), (0, u "(ZII)V")] 8

def k2c0 : Code := { maxStack := 3, maxLocals := 2, code := prog_166_method_1_code, exceptionTable := #[], attributes := #[] }
def k2m0 : Method := { name := "<init>", desc := "(Ljava/lang/String;)V", sig := { parameters := [(.object "java/lang/String")], returnType := none }, accessFlags := 0, code := some k2c0 }
def k2c1 : Code := { maxStack := 2, maxLocals := 4, code := prog_166_method_4_code, exceptionTable := #[], attributes := #[] }
def k2m1 : Method := { name := "resolved", desc := "(ZI)I", sig := { parameters := [.boolean, .int], returnType := some .int }, accessFlags := 0, code := some k2c1 }
def k2c2 : Code := { maxStack := 2, maxLocals := 5, code := prog_166_method_5_code, exceptionTable := #[], attributes := #[] }
def k2m2 : Method := { name := "keepResolved", desc := "(ZII)V", sig := { parameters := [.boolean, .int, .int], returnType := none }, accessFlags := 0, code := some k2c2 }
/-- com/example/xqwry/xqwry/MarkupName -/
def k2 : Class := { plain "com/example/xqwry/xqwry/MarkupName" (some 0) with
  accessFlags := 32
  interfaces := #[]
  cf := some (fileOf pool2 11 #[.nestMembers #[7]] #[{ accessFlags := 0, nameIndex := 5, descriptorIndex := 64, attributes := #[] }, { accessFlags := 0, nameIndex := 72, descriptorIndex := 73, attributes := #[] }, { accessFlags := 0, nameIndex := 74, descriptorIndex := 75, attributes := #[] }] 32 2 #[] #[{ accessFlags := 18, nameIndex := 21, descriptorIndex := 22, attributes := #[] }, { accessFlags := 18, nameIndex := 31, descriptorIndex := 32, attributes := #[] }, { accessFlags := 18, nameIndex := 43, descriptorIndex := 22, attributes := #[] }, { accessFlags := 18, nameIndex := 14, descriptorIndex := 15, attributes := #[] }, { accessFlags := 18, nameIndex := 18, descriptorIndex := 15, attributes := #[] }, { accessFlags := 2, nameIndex := 63, descriptorIndex := 57, attributes := #[] }])
  fields := #[{ name := "lexicalName", type := (.object "java/lang/String"), accessFlags := 18, slot := 0, constantValue := 0 }, { name := "prefixed", type := .boolean, accessFlags := 18, slot := 1, constantValue := 0 }, { name := "declaredPrefix", type := (.object "java/lang/String"), accessFlags := 18, slot := 2, constantValue := 0 }, { name := "asElement", type := (.object "com/example/xqwry/xqwry/MarkupName$Resolution"), accessFlags := 18, slot := 3, constantValue := 0 }, { name := "asAttribute", type := (.object "com/example/xqwry/xqwry/MarkupName$Resolution"), accessFlags := 18, slot := 4, constantValue := 0 }, { name := "lastTag", type := .int, accessFlags := 2, slot := 5, constantValue := 0 }]
  methods := #[k2m0, k2m1, k2m2]
  instanceTypes := #[(.object "java/lang/String"), .boolean, (.object "java/lang/String"), (.object "com/example/xqwry/xqwry/MarkupName$Resolution"), (.object "com/example/xqwry/xqwry/MarkupName$Resolution"), .int]
  staticTypes := #[]
  resolved := ((((Array.replicate 84 none).setIfInBounds 7 (some (.cls 10))).setIfInBounds 9 (some (.method ⟨10, 0⟩))).setIfInBounds 54 (some (.field 10 1))).setIfInBounds 58 (some (.field 10 0))
  statics := none }

def pool3 : Array CpInfo := pool [(1, .class_ 2), (0, u "java/io/Serializable"), (0, .class_ 4), (0, u "java/lang/Object")] 2

/-- java/io/Serializable -/
def k3 : Class := { plain "java/io/Serializable" (some 0) with
  accessFlags := 1537
  interfaces := #[]
  cf := some (fileOf pool3 1 #[] #[] 1537 3 #[] #[])
  fields := #[]
  methods := #[]
  instanceTypes := #[]
  staticTypes := #[]
  resolved := Array.replicate 7 none
  statics := none }

def pool4 : Array CpInfo := pool [(1, .class_ 2), (0, u "java/lang/Comparable"), (0, .class_ 4), (0, u "java/lang/Object")] 7

/-- java/lang/Comparable -/
def k4 : Class := { plain "java/lang/Comparable" (some 0) with
  accessFlags := 1537
  interfaces := #[]
  cf := some (fileOf pool4 1 #[] #[] 1537 3 #[] #[])
  fields := #[]
  methods := #[]
  instanceTypes := #[]
  staticTypes := #[]
  resolved := Array.replicate 12 none
  statics := none }

def pool5 : Array CpInfo := pool [(2, .class_ 4), (1, u "java/lang/CharSequence"), (42, .class_ 48), (0, u "java/lang/CharSequence$1CodePointIterator"), (10, .class_ 60), (0, u "java/lang/CharSequence$1CharIterator"), (5, .class_ 67), (0, u "java/lang/Object")] 63

/-- java/lang/CharSequence -/
def k5 : Class := { plain "java/lang/CharSequence" (some 0) with
  accessFlags := 1537
  interfaces := #[]
  cf := some (fileOf pool5 2 #[.nestMembers #[47, 59]] #[] 1537 66 #[] #[])
  fields := #[]
  methods := #[]
  instanceTypes := #[]
  staticTypes := #[]
  resolved := Array.replicate 131 none
  statics := none }

def pool6 : Array CpInfo := pool [(1, .class_ 2), (0, u "java/lang/constant/Constable"), (0, .class_ 4), (0, u "java/lang/Object")] 6

/-- java/lang/constant/Constable -/
def k6 : Class := { plain "java/lang/constant/Constable" (some 0) with
  accessFlags := 1537
  interfaces := #[]
  cf := some (fileOf pool6 1 #[] #[] 1537 3 #[] #[])
  fields := #[]
  methods := #[]
  instanceTypes := #[]
  staticTypes := #[]
  resolved := Array.replicate 11 none
  statics := none }

def pool7 : Array CpInfo := pool [(1, .class_ 2), (0, u "java/lang/constant/ConstantDesc"), (0, .class_ 4), (0, u "java/lang/Object")] 32

/-- java/lang/constant/ConstantDesc -/
def k7 : Class := { plain "java/lang/constant/ConstantDesc" (some 0) with
  accessFlags := 1537
  interfaces := #[]
  cf := some (fileOf pool7 1 #[] #[] 1537 3 #[] #[])
  fields := #[]
  methods := #[]
  instanceTypes := #[]
  staticTypes := #[]
  resolved := Array.replicate 37 none
  statics := none }

def pool8 : Array CpInfo := pool [(1, .methodref 2 3), (0, .class_ 4), (0, .nameAndType 5 6), (0, u "java/lang/Object"), (0, u "<init>"), (0, u "()V"), (2, .fieldref 10 11), (0, .class_ 12), (0, .nameAndType 13 14), (0, u "java/lang/String"), (0, u "value"), (0, u "[B"), (0, .fieldref 10 16), (0, .nameAndType 17 18), (0, u "coder"), (0, u "B"), (2, u "hash"), (0, u "I"), (2, u "hashIsZero"), (0, u "Z"), (0, .methodref 10 28), (0, .nameAndType 5 29), (0, u "([CIILjava/lang/Void;)V"), (8, .fieldref 10 39), (0, .nameAndType 40 26), (0, u "COMPACT_STRINGS"), (1, .class_ 44), (1, u "java/lang/StringUTF16"), (0, u "compress"), (1, .methodref 42 48), (0, .nameAndType 49 50), (0, u "coderFromArrayLen"), (0, u "([BI)B"), (56, .class_ 109), (1, u "java/lang/StringLatin1"), (32, u "()Z"), (34, .methodref 42 178), (0, .nameAndType 45 179), (0, u "([CII)[B"), (154, u "()I"), (0, .methodref 10 336), (0, .nameAndType 17 337), (0, u "()B"), (154, .methodref 10 493), (0, .nameAndType 494 142), (0, u "isLatin1"), (10, .methodref 10 506), (0, .nameAndType 507 334), (0, u "length"), (33, .methodref 107 542), (0, .nameAndType 543 544), (0, u "equals"), (0, u "([B[B)Z"), (28, u "(Ljava/lang/Object;)Z"), (1, .class_ 576), (0, u "java/lang/CharSequence"), (22, u "CASE_INSENSITIVE_ORDER"), (0, u "Ljava/util/Comparator;"), (23, .methodref 10 625), (0, .nameAndType 626 627), (0, u "startsWith"), (0, u "(Ljava/lang/String;I)Z"), (5, .methodref 10 634), (0, .nameAndType 635 636), (0, u "indexOf"), (0, u "(II)I"), (0, .methodref 107 638), (0, .nameAndType 635 639), (0, u "([BIII)I"), (125, u "(I)I"), (244, u "([C)V"), (90, u "serialPersistentFields"), (0, u "[Ljava/io/ObjectStreamField;"), (0, .class_ 1104), (0, u "java/lang/String$CaseInsensitiveComparator"), (1, .class_ 1107), (0, u "java/io/Serializable"), (0, .class_ 1109), (0, u "java/lang/Comparable"), (0, .class_ 1111), (0, u "java/lang/constant/Constable"), (0, .class_ 1113), (0, u "java/lang/constant/ConstantDesc"), (2, u "serialVersionUID"), (0, u "J"), (3, u "REPL"), (0, u "C"), (2, u "LATIN1"), (1, u "UTF16"), (129, u "(Ljava/lang/String;)Z")] 193

def k8m0 : Method := { name := "<init>", desc := "()V", sig := { parameters := [], returnType := none }, accessFlags := 1, code := none }
def k8c1 : Code := { maxStack := 5, maxLocals := 2, code := jdk_42_method_3_code, exceptionTable := #[], attributes := #[] }
def k8m1 : Method := { name := "<init>", desc := "([C)V", sig := { parameters := [(.array .char)], returnType := none }, accessFlags := 1, code := some k8c1 }
def k8c2 : Code := { maxStack := 2, maxLocals := 1, code := jdk_42_method_54_code, exceptionTable := #[], attributes := #[] }
def k8m2 : Method := { name := "length", desc := "()I", sig := { parameters := [], returnType := some .int }, accessFlags := 1, code := some k8c2 }
def k8c3 : Code := { maxStack := 2, maxLocals := 3, code := jdk_42_method_66_code, exceptionTable := #[], attributes := #[] }
def k8m3 : Method := { name := "equals", desc := "(Ljava/lang/Object;)Z", sig := { parameters := [(.object "java/lang/Object")], returnType := some .boolean }, accessFlags := 1, code := some k8c3 }
def k8c4 : Code := { maxStack := 5, maxLocals := 8, code := jdk_42_method_75_code, exceptionTable := #[], attributes := #[] }
def k8m4 : Method := { name := "startsWith", desc := "(Ljava/lang/String;I)Z", sig := { parameters := [(.object "java/lang/String"), .int], returnType := some .boolean }, accessFlags := 1, code := some k8c4 }
def k8c5 : Code := { maxStack := 3, maxLocals := 2, code := jdk_42_method_76_code, exceptionTable := #[], attributes := #[] }
def k8m5 : Method := { name := "startsWith", desc := "(Ljava/lang/String;)Z", sig := { parameters := [(.object "java/lang/String")], returnType := some .boolean }, accessFlags := 1, code := some k8c5 }
def k8c6 : Code := { maxStack := 3, maxLocals := 2, code := jdk_42_method_79_code, exceptionTable := #[], attributes := #[] }
def k8m6 : Method := { name := "indexOf", desc := "(I)I", sig := { parameters := [.int], returnType := some .int }, accessFlags := 1, code := some k8c6 }
def k8c7 : Code := { maxStack := 4, maxLocals := 3, code := jdk_42_method_80_code, exceptionTable := #[], attributes := #[] }
def k8m7 : Method := { name := "indexOf", desc := "(II)I", sig := { parameters := [.int, .int], returnType := some .int }, accessFlags := 1, code := some k8c7 }
def k8c8 : Code := { maxStack := 4, maxLocals := 6, code := jdk_42_method_149_code, exceptionTable := #[], attributes := #[] }
def k8m8 : Method := { name := "<init>", desc := "([CIILjava/lang/Void;)V", sig := { parameters := [(.array .char), .int, .int, (.object "java/lang/Void")], returnType := none }, accessFlags := 2, code := some k8c8 }
def k8c9 : Code := { maxStack := 1, maxLocals := 1, code := jdk_42_method_152_code, exceptionTable := #[], attributes := #[] }
def k8m9 : Method := { name := "coder", desc := "()B", sig := { parameters := [], returnType := some .byte }, accessFlags := 0, code := some k8c9 }
def k8c10 : Code := { maxStack := 1, maxLocals := 1, code := jdk_42_method_154_code, exceptionTable := #[], attributes := #[] }
def k8m10 : Method := { name := "isLatin1", desc := "()Z", sig := { parameters := [], returnType := some .boolean }, accessFlags := 0, code := some k8c10 }
/-- java/lang/String -/
def k8 : Class := { plain "java/lang/String" (some 0) with
  accessFlags := 49
  interfaces := #[3, 4, 5, 6, 7]
  cf := some (fileOf pool8 10 #[.nestMembers #[1103]] #[{ accessFlags := 1, nameIndex := 5, descriptorIndex := 6, attributes := #[] }, { accessFlags := 1, nameIndex := 5, descriptorIndex := 1010, attributes := #[] }, { accessFlags := 1, nameIndex := 507, descriptorIndex := 334, attributes := #[] }, { accessFlags := 1, nameIndex := 543, descriptorIndex := 573, attributes := #[] }, { accessFlags := 1, nameIndex := 626, descriptorIndex := 627, attributes := #[] }, { accessFlags := 1, nameIndex := 626, descriptorIndex := 1257, attributes := #[] }, { accessFlags := 1, nameIndex := 635, descriptorIndex := 765, attributes := #[] }, { accessFlags := 1, nameIndex := 635, descriptorIndex := 636, attributes := #[] }, { accessFlags := 2, nameIndex := 5, descriptorIndex := 29, attributes := #[] }, { accessFlags := 0, nameIndex := 17, descriptorIndex := 337, attributes := #[] }, { accessFlags := 0, nameIndex := 494, descriptorIndex := 142, attributes := #[] }] 49 2 #[1106, 1108, 575, 1110, 1112] #[{ accessFlags := 18, nameIndex := 13, descriptorIndex := 14, attributes := #[] }, { accessFlags := 18, nameIndex := 17, descriptorIndex := 18, attributes := #[] }, { accessFlags := 2, nameIndex := 21, descriptorIndex := 22, attributes := #[] }, { accessFlags := 2, nameIndex := 25, descriptorIndex := 26, attributes := #[] }, { accessFlags := 26, nameIndex := 1116, descriptorIndex := 1117, attributes := #[] }, { accessFlags := 24, nameIndex := 40, descriptorIndex := 26, attributes := #[] }, { accessFlags := 26, nameIndex := 1101, descriptorIndex := 1102, attributes := #[] }, { accessFlags := 26, nameIndex := 1121, descriptorIndex := 1122, attributes := #[] }, { accessFlags := 25, nameIndex := 599, descriptorIndex := 600, attributes := #[] }, { accessFlags := 24, nameIndex := 1125, descriptorIndex := 18, attributes := #[] }, { accessFlags := 24, nameIndex := 1127, descriptorIndex := 18, attributes := #[] }])
  fields := #[{ name := "value", type := (.array .byte), accessFlags := 18, slot := 0, constantValue := 0 }, { name := "coder", type := .byte, accessFlags := 18, slot := 1, constantValue := 0 }, { name := "hash", type := .int, accessFlags := 2, slot := 2, constantValue := 0 }, { name := "hashIsZero", type := .boolean, accessFlags := 2, slot := 3, constantValue := 0 }, { name := "serialVersionUID", type := .long, accessFlags := 26, slot := 0, constantValue := 0 }, { name := "COMPACT_STRINGS", type := .boolean, accessFlags := 24, slot := 1, constantValue := 0 }, { name := "serialPersistentFields", type := (.array (.object "java/io/ObjectStreamField")), accessFlags := 26, slot := 2, constantValue := 0 }, { name := "REPL", type := .char, accessFlags := 26, slot := 3, constantValue := 0 }, { name := "CASE_INSENSITIVE_ORDER", type := (.object "java/util/Comparator"), accessFlags := 25, slot := 4, constantValue := 0 }, { name := "LATIN1", type := .byte, accessFlags := 24, slot := 5, constantValue := 0 }, { name := "UTF16", type := .byte, accessFlags := 24, slot := 6, constantValue := 0 }]
  methods := #[k8m0, k8m1, k8m2, k8m3, k8m4, k8m5, k8m6, k8m7, k8m8, k8m9, k8m10]
  instanceTypes := #[(.array .byte), .byte, .int, .boolean]
  staticTypes := #[.long, .boolean, (.array (.object "java/io/ObjectStreamField")), .char, (.object "java/util/Comparator"), .byte, .byte]
  resolved := Array.replicate 1451 none
  statics := some 0 }

def pool9 : Array CpInfo := pool [(6, .class_ 8), (1, u "java/lang/Object"), (0, u "<init>"), (0, u "()V"), (1, .class_ 14), (1, u "java/lang/StringUTF16"), (31, u "$assertionsDisabled"), (0, u "Z"), (13, u "HI_BYTE_SHIFT"), (0, u "I"), (2, u "LO_BYTE_SHIFT"), (49, .methodref 12 116), (0, .nameAndType 117 118), (0, u "compress"), (0, u "([CI[BII)I"), (3, u "([CII)[B"), (138, u "coderFromArrayLen"), (0, u "([BI)B"), (106, .class_ 371), (1, u "java/lang/StringUTF16$LinesSpliterator"), (58, u "MAX_LENGTH"), (196, .class_ 628), (0, u "java/lang/StringUTF16$CodePointsSpliterator"), (0, .class_ 630), (0, u "java/lang/StringUTF16$CharsSpliterator")] 4

def k9m0 : Method := { name := "<init>", desc := "()V", sig := { parameters := [], returnType := none }, accessFlags := 0, code := none }
def k9c1 : Code := { maxStack := 2, maxLocals := 2, code := jdk_52_method_15_code, exceptionTable := #[], attributes := #[] }
def k9m1 : Method := { name := "coderFromArrayLen", desc := "([BI)B", sig := { parameters := [(.array .byte), .int], returnType := some .byte }, accessFlags := 8, code := some k9c1 }
def k9c2 : Code := { maxStack := 5, maxLocals := 6, code := jdk_52_method_16_code, exceptionTable := #[], attributes := #[] }
def k9m2 : Method := { name := "compress", desc := "([CII)[B", sig := { parameters := [(.array .char), .int, .int], returnType := some (.array .byte) }, accessFlags := 9, code := some k9c2 }
def k9c3 : Code := { maxStack := 3, maxLocals := 7, code := jdk_52_method_21_code, exceptionTable := #[], attributes := #[] }
def k9m3 : Method := { name := "compress", desc := "([CI[BII)I", sig := { parameters := [(.array .char), .int, (.array .byte), .int, .int], returnType := some .int }, accessFlags := 9, code := some k9c3 }
/-- java/lang/StringUTF16 -/
def k9 : Class := { plain "java/lang/StringUTF16" (some 0) with
  accessFlags := 48
  interfaces := #[]
  cf := some (fileOf pool9 12 #[.nestMembers #[627, 629, 369]] #[{ accessFlags := 0, nameIndex := 9, descriptorIndex := 10, attributes := #[] }, { accessFlags := 8, nameIndex := 261, descriptorIndex := 262, attributes := #[] }, { accessFlags := 9, nameIndex := 117, descriptorIndex := 122, attributes := #[] }, { accessFlags := 9, nameIndex := 117, descriptorIndex := 118, attributes := #[] }] 48 6 #[] #[{ accessFlags := 26, nameIndex := 61, descriptorIndex := 62, attributes := #[] }, { accessFlags := 26, nameIndex := 65, descriptorIndex := 62, attributes := #[] }, { accessFlags := 24, nameIndex := 430, descriptorIndex := 62, attributes := #[] }, { accessFlags := 4120, nameIndex := 46, descriptorIndex := 47, attributes := #[] }])
  fields := #[{ name := "HI_BYTE_SHIFT", type := .int, accessFlags := 26, slot := 0, constantValue := 0 }, { name := "LO_BYTE_SHIFT", type := .int, accessFlags := 26, slot := 1, constantValue := 0 }, { name := "MAX_LENGTH", type := .int, accessFlags := 24, slot := 2, constantValue := 0 }, { name := "$assertionsDisabled", type := .boolean, accessFlags := 4120, slot := 3, constantValue := 0 }]
  methods := #[k9m0, k9m1, k9m2, k9m3]
  instanceTypes := #[]
  staticTypes := #[.int, .int, .int, .boolean]
  resolved := Array.replicate 635 none
  statics := none }

def pool10 : Array CpInfo := pool [(1, .methodref 2 3), (0, .class_ 4), (0, .nameAndType 5 6), (0, u "java/lang/Object"), (0, u "<init>"), (0, u "()V"), (0, .fieldref 8 9), (0, .class_ 10), (0, .nameAndType 11 12), (0, u "com/example/xqwry/xqwry/MarkupName$Resolution"), (0, u "name"), (0, u "I"), (0, .fieldref 8 14), (0, .nameAndType 15 12), (0, u "namespaceChanges"), (5, .class_ 22), (0, u "com/example/xqwry/xqwry/MarkupName")] 2

def k10c0 : Code := { maxStack := 2, maxLocals := 1, code := prog_167_method_1_code, exceptionTable := #[], attributes := #[] }
def k10m0 : Method := { name := "<init>", desc := "()V", sig := { parameters := [], returnType := none }, accessFlags := 2, code := some k10c0 }
/-- com/example/xqwry/xqwry/MarkupName$Resolution -/
def k10 : Class := { plain "com/example/xqwry/xqwry/MarkupName$Resolution" (some 0) with
  accessFlags := 32
  interfaces := #[]
  cf := some (fileOf pool10 8 #[.nestHost 21] #[{ accessFlags := 2, nameIndex := 5, descriptorIndex := 6, attributes := #[] }] 32 2 #[] #[{ accessFlags := 2, nameIndex := 11, descriptorIndex := 12, attributes := #[] }, { accessFlags := 2, nameIndex := 15, descriptorIndex := 12, attributes := #[] }])
  fields := #[{ name := "name", type := .int, accessFlags := 2, slot := 0, constantValue := 0 }, { name := "namespaceChanges", type := .int, accessFlags := 2, slot := 1, constantValue := 0 }]
  methods := #[k10m0]
  instanceTypes := #[.int, .int]
  staticTypes := #[]
  resolved := Array.replicate 25 none
  statics := none }

def pool11 : Array CpInfo := pool [(4, .class_ 6), (1, u "java/lang/Object"), (0, u "<init>"), (0, u "()V"), (5, .class_ 16), (1, u "java/lang/StringLatin1"), (21, .methodref 39 40), (0, .class_ 41), (0, .nameAndType 42 43), (0, u "java/lang/Math"), (0, u "min"), (0, u "(II)I"), (44, .methodref 14 89), (0, .nameAndType 90 91), (0, u "canEncode"), (0, u "(I)Z"), (0, .methodref 39 93), (0, .nameAndType 94 43), (0, u "max"), (0, .methodref 14 96), (0, .nameAndType 97 98), (0, u "indexOfChar"), (0, u "([BIII)I"), (2, u "indexOf"), (19, u "$assertionsDisabled"), (0, u "Z"), (98, .class_ 223), (1, u "java/lang/StringLatin1$LinesSpliterator"), (57, u "equals"), (0, u "([B[B)Z"), (107, .class_ 391), (0, u "java/lang/StringLatin1$CharsSpliterator")] 3

def k11m0 : Method := { name := "<init>", desc := "()V", sig := { parameters := [], returnType := none }, accessFlags := 0, code := none }
def k11c1 : Code := { maxStack := 2, maxLocals := 1, code := jdk_43_method_4_code, exceptionTable := #[], attributes := #[] }
def k11m1 : Method := { name := "canEncode", desc := "(I)Z", sig := { parameters := [.int], returnType := some .boolean }, accessFlags := 9, code := some k11c1 }
def k11c2 : Code := { maxStack := 3, maxLocals := 3, code := jdk_43_method_13_code, exceptionTable := #[], attributes := #[] }
def k11m2 : Method := { name := "equals", desc := "([B[B)Z", sig := { parameters := [(.array .byte), (.array .byte)], returnType := some .boolean }, accessFlags := 9, code := some k11c2 }
def k11c3 : Code := { maxStack := 4, maxLocals := 4, code := jdk_43_method_22_code, exceptionTable := #[], attributes := #[] }
def k11m3 : Method := { name := "indexOf", desc := "([BIII)I", sig := { parameters := [(.array .byte), .int, .int, .int], returnType := some .int }, accessFlags := 9, code := some k11c3 }
def k11c4 : Code := { maxStack := 2, maxLocals := 6, code := jdk_43_method_23_code, exceptionTable := #[], attributes := #[] }
def k11m4 : Method := { name := "indexOfChar", desc := "([BIII)I", sig := { parameters := [(.array .byte), .int, .int, .int], returnType := some .int }, accessFlags := 10, code := some k11c4 }
/-- java/lang/StringLatin1 -/
def k11 : Class := { plain "java/lang/StringLatin1" (some 0) with
  accessFlags := 48
  interfaces := #[]
  cf := some (fileOf pool11 14 #[.nestMembers #[390, 221]] #[{ accessFlags := 0, nameIndex := 7, descriptorIndex := 8, attributes := #[] }, { accessFlags := 9, nameIndex := 90, descriptorIndex := 91, attributes := #[] }, { accessFlags := 9, nameIndex := 281, descriptorIndex := 282, attributes := #[] }, { accessFlags := 9, nameIndex := 101, descriptorIndex := 98, attributes := #[] }, { accessFlags := 10, nameIndex := 97, descriptorIndex := 98, attributes := #[] }] 48 4 #[] #[{ accessFlags := 4120, nameIndex := 121, descriptorIndex := 122, attributes := #[] }])
  fields := #[{ name := "$assertionsDisabled", type := .boolean, accessFlags := 4120, slot := 0, constantValue := 0 }]
  methods := #[k11m0, k11m1, k11m2, k11m3, k11m4]
  instanceTypes := #[]
  staticTypes := #[.boolean]
  resolved := Array.replicate 395 none
  statics := none }

def pool12 : Array CpInfo := pool [(1, .class_ 2), (0, u "java/lang/Math"), (1, .class_ 6), (1, u "java/lang/Object"), (0, u "<init>"), (0, u "()V"), (89, .class_ 100), (1, u "java/lang/Math$RandomNumberGeneratorHolder"), (71, u "negativeZeroFloatBits"), (0, u "J"), (2, u "negativeZeroDoubleBits"), (21, u "max"), (2, u "min"), (43, u "$assertionsDisabled"), (0, u "Z"), (88, u "(II)I"), (2, u "twoToTheDoubleScaleDown"), (0, u "D"), (4, u "twoToTheDoubleScaleUp"), (9, u "E"), (3, u "PI"), (2, u "TAU"), (2, u "DEGREES_TO_RADIANS"), (0, u "RADIANS_TO_DEGREES")] 94

def k12m0 : Method := { name := "<init>", desc := "()V", sig := { parameters := [], returnType := none }, accessFlags := 2, code := none }
def k12c1 : Code := { maxStack := 2, maxLocals := 2, code := jdk_29_method_65_code, exceptionTable := #[], attributes := #[] }
def k12m1 : Method := { name := "max", desc := "(II)I", sig := { parameters := [.int, .int], returnType := some .int }, accessFlags := 9, code := some k12c1 }
def k12c2 : Code := { maxStack := 2, maxLocals := 2, code := jdk_29_method_69_code, exceptionTable := #[], attributes := #[] }
def k12m2 : Method := { name := "min", desc := "(II)I", sig := { parameters := [.int, .int], returnType := some .int }, accessFlags := 9, code := some k12c2 }
/-- java/lang/Math -/
def k12 : Class := { plain "java/lang/Math" (some 0) with
  accessFlags := 49
  interfaces := #[]
  cf := some (fileOf pool12 1 #[.nestMembers #[98]] #[{ accessFlags := 2, nameIndex := 7, descriptorIndex := 8, attributes := #[] }, { accessFlags := 9, nameIndex := 198, descriptorIndex := 335, attributes := #[] }, { accessFlags := 9, nameIndex := 201, descriptorIndex := 335, attributes := #[] }] 49 4 #[] #[{ accessFlags := 25, nameIndex := 354, descriptorIndex := 339, attributes := #[] }, { accessFlags := 25, nameIndex := 358, descriptorIndex := 339, attributes := #[] }, { accessFlags := 25, nameIndex := 361, descriptorIndex := 339, attributes := #[] }, { accessFlags := 26, nameIndex := 364, descriptorIndex := 339, attributes := #[] }, { accessFlags := 26, nameIndex := 365, descriptorIndex := 339, attributes := #[] }, { accessFlags := 26, nameIndex := 172, descriptorIndex := 173, attributes := #[] }, { accessFlags := 26, nameIndex := 176, descriptorIndex := 173, attributes := #[] }, { accessFlags := 8, nameIndex := 344, descriptorIndex := 339, attributes := #[] }, { accessFlags := 8, nameIndex := 338, descriptorIndex := 339, attributes := #[] }, { accessFlags := 4120, nameIndex := 245, descriptorIndex := 246, attributes := #[] }])
  fields := #[{ name := "E", type := .double, accessFlags := 25, slot := 0, constantValue := 0 }, { name := "PI", type := .double, accessFlags := 25, slot := 1, constantValue := 0 }, { name := "TAU", type := .double, accessFlags := 25, slot := 2, constantValue := 0 }, { name := "DEGREES_TO_RADIANS", type := .double, accessFlags := 26, slot := 3, constantValue := 0 }, { name := "RADIANS_TO_DEGREES", type := .double, accessFlags := 26, slot := 4, constantValue := 0 }, { name := "negativeZeroFloatBits", type := .long, accessFlags := 26, slot := 5, constantValue := 0 }, { name := "negativeZeroDoubleBits", type := .long, accessFlags := 26, slot := 6, constantValue := 0 }, { name := "twoToTheDoubleScaleUp", type := .double, accessFlags := 8, slot := 7, constantValue := 0 }, { name := "twoToTheDoubleScaleDown", type := .double, accessFlags := 8, slot := 8, constantValue := 0 }, { name := "$assertionsDisabled", type := .boolean, accessFlags := 4120, slot := 9, constantValue := 0 }]
  methods := #[k12m0, k12m1, k12m2]
  instanceTypes := #[]
  staticTypes := #[.double, .double, .double, .double, .double, .long, .long, .double, .double, .boolean]
  resolved := Array.replicate 460 none
  statics := none }

def pool13 : Array CpInfo := pool [(2, .class_ 4), (1, u "java/lang/Object"), (0, u "<init>"), (0, u "()V"), (17, .class_ 26), (1, u "jdk/internal/util/Preconditions"), (28, .class_ 56), (0, u "jdk/internal/util/Preconditions$4"), (57, .class_ 115), (0, u "jdk/internal/util/Preconditions$1"), (7, u "SIOOBE_FORMATTER"), (0, u "Ljava/util/function/BiFunction;"), (0, .class_ 126), (0, u "jdk/internal/util/Preconditions$2"), (3, u "AIOOBE_FORMATTER"), (0, .class_ 132), (0, u "jdk/internal/util/Preconditions$3"), (3, u "IOOBE_FORMATTER")] 57

def k13m0 : Method := { name := "<init>", desc := "()V", sig := { parameters := [], returnType := none }, accessFlags := 1, code := none }
/-- jdk/internal/util/Preconditions -/
def k13 : Class := { plain "jdk/internal/util/Preconditions" (some 0) with
  accessFlags := 33
  interfaces := #[]
  cf := some (fileOf pool13 24 #[.nestMembers #[55, 131, 125, 114]] #[{ accessFlags := 1, nameIndex := 5, descriptorIndex := 6, attributes := #[] }] 33 2 #[] #[{ accessFlags := 25, nameIndex := 123, descriptorIndex := 124, attributes := #[] }, { accessFlags := 25, nameIndex := 130, descriptorIndex := 124, attributes := #[] }, { accessFlags := 25, nameIndex := 136, descriptorIndex := 124, attributes := #[] }])
  fields := #[{ name := "SIOOBE_FORMATTER", type := (.object "java/util/function/BiFunction"), accessFlags := 25, slot := 0, constantValue := 0 }, { name := "AIOOBE_FORMATTER", type := (.object "java/util/function/BiFunction"), accessFlags := 25, slot := 1, constantValue := 0 }, { name := "IOOBE_FORMATTER", type := (.object "java/util/function/BiFunction"), accessFlags := 25, slot := 2, constantValue := 0 }]
  methods := #[k13m0]
  instanceTypes := #[]
  staticTypes := #[(.object "java/util/function/BiFunction"), (.object "java/util/function/BiFunction"), (.object "java/util/function/BiFunction")]
  resolved := Array.replicate 194 none
  statics := some 1 }

def pool14 : Array CpInfo := pool [(9, u "<init>"), (6, .class_ 18), (1, u "java/lang/Object"), (0, u "()V"), (1, .class_ 23), (1, u "jdk/internal/util/ArraysSupport"), (0, u "LOG2_ARRAY_LONG_INDEX_SCALE"), (0, u "I"), (2, u "U"), (0, u "Ljdk/internal/misc/Unsafe;"), (8, u "BIG_ENDIAN"), (0, u "Z"), (8, u "LOG2_BYTE_BIT_SIZE"), (4, u "LOG2_ARRAY_INT_INDEX_SCALE"), (54, u "JLA"), (0, u "Ljdk/internal/access/JavaLangAccess;"), (11, u "LOG2_ARRAY_BOOLEAN_INDEX_SCALE"), (9, u "LOG2_ARRAY_BYTE_INDEX_SCALE"), (5, u "LOG2_ARRAY_CHAR_INDEX_SCALE"), (5, u "LOG2_ARRAY_SHORT_INDEX_SCALE"), (18, u "LOG2_ARRAY_FLOAT_INDEX_SCALE"), (24, u "LOG2_ARRAY_DOUBLE_INDEX_SCALE"), (89, u "T_BOOLEAN"), (2, u "T_CHAR"), (1, u "T_FLOAT"), (1, u "T_DOUBLE"), (1, u "T_BYTE"), (1, u "T_SHORT"), (1, u "T_INT"), (1, u "T_LONG"), (1, u "SOFT_MAX_ARRAY_LENGTH")] 83

def k14m0 : Method := { name := "<init>", desc := "()V", sig := { parameters := [], returnType := none }, accessFlags := 2, code := none }
/-- jdk/internal/util/ArraysSupport -/
def k14 : Class := { plain "jdk/internal/util/ArraysSupport" (some 0) with
  accessFlags := 33
  interfaces := #[]
  cf := some (fileOf pool14 21 #[] #[{ accessFlags := 2, nameIndex := 9, descriptorIndex := 19, attributes := #[] }] 33 16 #[] #[{ accessFlags := 24, nameIndex := 28, descriptorIndex := 29, attributes := #[] }, { accessFlags := 26, nameIndex := 38, descriptorIndex := 39, attributes := #[] }, { accessFlags := 25, nameIndex := 121, descriptorIndex := 25, attributes := #[] }, { accessFlags := 25, nameIndex := 131, descriptorIndex := 25, attributes := #[] }, { accessFlags := 25, nameIndex := 137, descriptorIndex := 25, attributes := #[] }, { accessFlags := 25, nameIndex := 143, descriptorIndex := 25, attributes := #[] }, { accessFlags := 25, nameIndex := 53, descriptorIndex := 25, attributes := #[] }, { accessFlags := 25, nameIndex := 24, descriptorIndex := 25, attributes := #[] }, { accessFlags := 25, nameIndex := 162, descriptorIndex := 25, attributes := #[] }, { accessFlags := 25, nameIndex := 187, descriptorIndex := 25, attributes := #[] }, { accessFlags := 26, nameIndex := 48, descriptorIndex := 25, attributes := #[] }, { accessFlags := 25, nameIndex := 277, descriptorIndex := 25, attributes := #[] }, { accessFlags := 25, nameIndex := 280, descriptorIndex := 25, attributes := #[] }, { accessFlags := 25, nameIndex := 282, descriptorIndex := 25, attributes := #[] }, { accessFlags := 25, nameIndex := 284, descriptorIndex := 25, attributes := #[] }, { accessFlags := 25, nameIndex := 286, descriptorIndex := 25, attributes := #[] }, { accessFlags := 25, nameIndex := 288, descriptorIndex := 25, attributes := #[] }, { accessFlags := 25, nameIndex := 290, descriptorIndex := 25, attributes := #[] }, { accessFlags := 25, nameIndex := 292, descriptorIndex := 25, attributes := #[] }, { accessFlags := 26, nameIndex := 108, descriptorIndex := 109, attributes := #[] }, { accessFlags := 25, nameIndex := 294, descriptorIndex := 25, attributes := #[] }])
  fields := #[{ name := "U", type := (.object "jdk/internal/misc/Unsafe"), accessFlags := 24, slot := 0, constantValue := 0 }, { name := "BIG_ENDIAN", type := .boolean, accessFlags := 26, slot := 1, constantValue := 0 }, { name := "LOG2_ARRAY_BOOLEAN_INDEX_SCALE", type := .int, accessFlags := 25, slot := 2, constantValue := 0 }, { name := "LOG2_ARRAY_BYTE_INDEX_SCALE", type := .int, accessFlags := 25, slot := 3, constantValue := 0 }, { name := "LOG2_ARRAY_CHAR_INDEX_SCALE", type := .int, accessFlags := 25, slot := 4, constantValue := 0 }, { name := "LOG2_ARRAY_SHORT_INDEX_SCALE", type := .int, accessFlags := 25, slot := 5, constantValue := 0 }, { name := "LOG2_ARRAY_INT_INDEX_SCALE", type := .int, accessFlags := 25, slot := 6, constantValue := 0 }, { name := "LOG2_ARRAY_LONG_INDEX_SCALE", type := .int, accessFlags := 25, slot := 7, constantValue := 0 }, { name := "LOG2_ARRAY_FLOAT_INDEX_SCALE", type := .int, accessFlags := 25, slot := 8, constantValue := 0 }, { name := "LOG2_ARRAY_DOUBLE_INDEX_SCALE", type := .int, accessFlags := 25, slot := 9, constantValue := 0 }, { name := "LOG2_BYTE_BIT_SIZE", type := .int, accessFlags := 26, slot := 10, constantValue := 0 }, { name := "T_BOOLEAN", type := .int, accessFlags := 25, slot := 11, constantValue := 0 }, { name := "T_CHAR", type := .int, accessFlags := 25, slot := 12, constantValue := 0 }, { name := "T_FLOAT", type := .int, accessFlags := 25, slot := 13, constantValue := 0 }, { name := "T_DOUBLE", type := .int, accessFlags := 25, slot := 14, constantValue := 0 }, { name := "T_BYTE", type := .int, accessFlags := 25, slot := 15, constantValue := 0 }, { name := "T_SHORT", type := .int, accessFlags := 25, slot := 16, constantValue := 0 }, { name := "T_INT", type := .int, accessFlags := 25, slot := 17, constantValue := 0 }, { name := "T_LONG", type := .int, accessFlags := 25, slot := 18, constantValue := 0 }, { name := "JLA", type := (.object "jdk/internal/access/JavaLangAccess"), accessFlags := 26, slot := 19, constantValue := 0 }, { name := "SOFT_MAX_ARRAY_LENGTH", type := .int, accessFlags := 25, slot := 20, constantValue := 0 }]
  methods := #[k14m0]
  instanceTypes := #[]
  staticTypes := #[(.object "jdk/internal/misc/Unsafe"), .boolean, .int, .int, .int, .int, .int, .int, .int, .int, .int, .int, .int, .int, .int, .int, .int, .int, .int, (.object "jdk/internal/access/JavaLangAccess"), .int]
  resolved := Array.replicate 378 none
  statics := none }

def pool15 : Array CpInfo := pool [(1, u "java/lang/Cloneable"), (0, .class_ 1), (0, u "java/lang/Object"), (0, .class_ 3)] 3

/-- java/lang/Cloneable -/
def k15 : Class := { plain "java/lang/Cloneable" (some 0) with
  accessFlags := 1537
  interfaces := #[]
  cf := some (fileOf pool15 2 #[] #[] 1537 4 #[] #[])
  fields := #[]
  methods := #[]
  instanceTypes := #[]
  staticTypes := #[]
  resolved := Array.replicate 8 none
  statics := none }

/-- the primitive byte -/
def k16 : Class := { plain "byte" none with kind := .primitive 'B', accessFlags := 0x411 }
/-- [B -/
def k17 : Class := { plain "[B" (some 0) with kind := .array 16 .byte, interfaces := #[15, 3], accessFlags := 1041 }

/-- the primitive char -/
def k18 : Class := { plain "char" none with kind := .primitive 'C', accessFlags := 0x411 }
/-- [C -/
def k19 : Class := { plain "[C" (some 0) with kind := .array 18 .char, interfaces := #[15, 3], accessFlags := 1041 }

/-- the primitive int -/
def k20 : Class := { plain "int" none with kind := .primitive 'I', accessFlags := 0x411 }
/-- [I -/
def k21 : Class := { plain "[I" (some 0) with kind := .array 20 .int, interfaces := #[15, 3], accessFlags := 1041 }

def heap : Heap := #[{ cls := 8, slots := #[.long 0, .int 1, .null, .int 0, .null, .int 0, .int 0], vm := .statics 8 },
  { cls := 13, slots := #[.null, .null, .null], vm := .statics 13 }]
def classes : Array Class := #[k0, k1, k2, k3, k4, k5, k6, k7, k8, k9, k10, k11, k12, k13, k14, k15, k16, k17, k18, k19, k20, k21]
def interned : List (Array UInt16 × Addr) := []
def slotsUsed : Nat := 10
def theMethod : MethodId := ⟨1, 1⟩
def args0 : Array Value := #[.int 5, .int 1, .int 2, .int 3, .int 4, .int 5]
def aboutOver (below : List Frame) : State where
  vm := { classes := classes, interned := interned.toArray }
  heap := heap
  slotsUsed := slotsUsed
  threads := #[{ frames := .invoking theMethod args0 :: below }]
def below0 : List Frame := [.native { method := ⟨0, 0⟩, args := #[] }]
def about1 : State := aboutOver below0
def p0 : Program := .bare "" "" ""
def e0 : Env := launch0.env 0 0 0
theorem w_frames : about1.frames = Frame.invoking theMethod args0 :: below0 := rfl
set_option maxRecDepth 65536 in
theorem w_args : argsFit about1.vm theMethod args0 = true := by decide +kernel
set_option maxRecDepth 65536 in
theorem w_heap : heapFits about1 = true := by decide +kernel
set_option maxRecDepth 65536 in
theorem w_runnable : about1.curStatus? = some .runnable := by decide +kernel
set_option maxRecDepth 65536 in
theorem w_alone : about1.alone = true := by decide +kernel
set_option maxRecDepth 65536 in
theorem w_named : about1.methodNamed? x = some theMethod := by decide +kernel
set_option maxRecDepth 65536 in
theorem w_hears : about1.hears theMethod below0 = true := by decide +kernel
set_option maxRecDepth 65536 in
theorem w_ripe : about1.ripe theMethod args0 below0 = true := by decide +kernel
theorem w_running : about1.status = .running := rfl
set_option maxRecDepth 65536 in
theorem w_room : about1.hasRoom e0.platform room_1 = true :=
  launch0.hasRoom_least _ room_1 (by decide +kernel) (by decide +kernel) (by decide +kernel) (by decide +kernel) (by decide +kernel) (by decide +kernel)
theorem allAtoms_all (ts : List Jvm.Cond) (a : Array Jvm.Value) (st : Jvm.State) : (allAtoms ts).before a st = ts.all (fun c => c.before a st) := by
  induction ts with
  | nil => rfl
  | cons c t ih =>
    show (Jvm.Cond.and c (allAtoms t)).before a st = _
    rw [Jvm.Cond.before_and, ih, List.all_cons]
def words1 : List Jvm.Cond := Jvm.Cond.code x code maxLocals ret :: tables_1
/-- a 'code' word, met by the world's own term for the bytes: nothing is compared byte by byte -/
theorem code_word {y : MethodName} {bytes : ByteArray} {mx : Nat} {rt : Option FieldType} {a : Array Value} {s : State} {m : MethodId} {meth : Method} {c : Code} (h1 : s.methodNamed? y = some m) (h2 : s.vm.method? m = some meth) (h3 : meth.code = some c) (h4 : c.code = bytes)
    (h5 : (c.maxLocals == mx && c.exceptionTable.isEmpty && decide (c.maxStack ≤ mostOperands) && decide (meth.sig.returnType = rt) && !meth.locks && decide (parseMethodDescriptor y.desc = some meth.sig)) = true) : (Jvm.Cond.code y bytes mx rt).before a s = true := by
  simp only [Bool.and_eq_true, beq_iff_eq, Bool.not_eq_true', decide_eq_true_eq] at h5
  obtain ⟨⟨⟨⟨⟨g1, g2⟩, g3⟩, g4⟩, g5⟩, g6⟩ := h5
  simp [Cond.before, Cond.holds, Cond.value, h1, h2, h3, h4, g1, g2, g3, g4, g5, g6]
def isCode : Jvm.Cond → Bool
  | .code _ _ _ _ => true
  | _ => false
theorem all_split {L : List Jvm.Cond} {P : Jvm.Cond → Bool} (h1 : L.all (fun c => isCode c || P c) = true) (h2 : ∀ c ∈ L.filter isCode, P c = true) : L.all P = true := by
  refine List.all_eq_true.mpr fun c hc => ?_
  have h := List.all_eq_true.mp h1 c hc
  rcases Bool.eq_false_or_eq_true (isCode c) with hi | hi
  · exact h2 c (List.mem_filter.mpr ⟨hc, hi⟩)
  · simpa [hi] using h
set_option maxRecDepth 65536 in
theorem w_c0 : (Jvm.Cond.code x code maxLocals ret).before args0 about1 = true := code_word (m := ⟨1, 1⟩) (meth := k1m1) (c := k1c1) (by decide +kernel) rfl rfl rfl (by decide +kernel)
set_option maxRecDepth 65536 in
theorem w_c1 : (Jvm.Cond.code ({ cls := "java/lang/String", name := "<init>", desc := "([C)V" } : Jvm.MethodName) jdk_42_method_3_code (2 : Nat) (Option.none : Option Jvm.ClassFile.FieldType)).before args0 about1 = true := code_word (m := ⟨8, 1⟩) (meth := k8m1) (c := k8c1) (by decide +kernel) rfl rfl rfl (by decide +kernel)
set_option maxRecDepth 65536 in
theorem w_c2 : (Jvm.Cond.code ({ cls := "java/lang/String", name := "<init>", desc := "([CIILjava/lang/Void;)V" } : Jvm.MethodName) jdk_42_method_149_code (6 : Nat) (Option.none : Option Jvm.ClassFile.FieldType)).before args0 about1 = true := code_word (m := ⟨8, 8⟩) (meth := k8m8) (c := k8c8) (by decide +kernel) rfl rfl rfl (by decide +kernel)
set_option maxRecDepth 65536 in
theorem w_c3 : (Jvm.Cond.code ({ cls := "java/lang/Object", name := "<init>", desc := "()V" } : Jvm.MethodName) object_method_1_code (1 : Nat) (Option.none : Option Jvm.ClassFile.FieldType)).before args0 about1 = true := code_word (m := ⟨0, 0⟩) (meth := k0m0) (c := k0c0) (by decide +kernel) rfl rfl rfl (by decide +kernel)
set_option maxRecDepth 65536 in
theorem w_c4 : (Jvm.Cond.code ({ cls := "java/lang/StringUTF16", name := "compress", desc := "([CII)[B" } : Jvm.MethodName) jdk_52_method_16_code (6 : Nat) (Option.some (Jvm.ClassFile.FieldType.array Jvm.ClassFile.FieldType.byte))).before args0 about1 = true := code_word (m := ⟨9, 2⟩) (meth := k9m2) (c := k9c2) (by decide +kernel) rfl rfl rfl (by decide +kernel)
set_option maxRecDepth 65536 in
theorem w_c5 : (Jvm.Cond.code ({ cls := "java/lang/StringUTF16", name := "compress", desc := "([CI[BII)I" } : Jvm.MethodName) jdk_52_method_21_code (7 : Nat) (Option.some Jvm.ClassFile.FieldType.int)).before args0 about1 = true := code_word (m := ⟨9, 3⟩) (meth := k9m3) (c := k9c3) (by decide +kernel) rfl rfl rfl (by decide +kernel)
set_option maxRecDepth 65536 in
theorem w_c6 : (Jvm.Cond.code ({ cls := "java/lang/StringUTF16", name := "coderFromArrayLen", desc := "([BI)B" } : Jvm.MethodName) jdk_52_method_15_code (2 : Nat) (Option.some Jvm.ClassFile.FieldType.byte)).before args0 about1 = true := code_word (m := ⟨9, 1⟩) (meth := k9m1) (c := k9c1) (by decide +kernel) rfl rfl rfl (by decide +kernel)
set_option maxRecDepth 65536 in
theorem w_c7 : (Jvm.Cond.code ({ cls := "com/example/xqwry/xqwry/MarkupName", name := "<init>", desc := "(Ljava/lang/String;)V" } : Jvm.MethodName) prog_166_method_1_code (2 : Nat) (Option.none : Option Jvm.ClassFile.FieldType)).before args0 about1 = true := code_word (m := ⟨2, 0⟩) (meth := k2m0) (c := k2c0) (by decide +kernel) rfl rfl rfl (by decide +kernel)
set_option maxRecDepth 65536 in
theorem w_c8 : (Jvm.Cond.code ({ cls := "com/example/xqwry/xqwry/MarkupName$Resolution", name := "<init>", desc := "()V" } : Jvm.MethodName) prog_167_method_1_code (1 : Nat) (Option.none : Option Jvm.ClassFile.FieldType)).before args0 about1 = true := code_word (m := ⟨10, 0⟩) (meth := k10m0) (c := k10c0) (by decide +kernel) rfl rfl rfl (by decide +kernel)
set_option maxRecDepth 65536 in
theorem w_c9 : (Jvm.Cond.code ({ cls := "java/lang/String", name := "indexOf", desc := "(I)I" } : Jvm.MethodName) jdk_42_method_79_code (2 : Nat) (Option.some Jvm.ClassFile.FieldType.int)).before args0 about1 = true := code_word (m := ⟨8, 6⟩) (meth := k8m6) (c := k8c6) (by decide +kernel) rfl rfl rfl (by decide +kernel)
set_option maxRecDepth 65536 in
theorem w_c10 : (Jvm.Cond.code ({ cls := "java/lang/String", name := "indexOf", desc := "(II)I" } : Jvm.MethodName) jdk_42_method_80_code (3 : Nat) (Option.some Jvm.ClassFile.FieldType.int)).before args0 about1 = true := code_word (m := ⟨8, 7⟩) (meth := k8m7) (c := k8c7) (by decide +kernel) rfl rfl rfl (by decide +kernel)
set_option maxRecDepth 65536 in
theorem w_c11 : (Jvm.Cond.code ({ cls := "java/lang/String", name := "isLatin1", desc := "()Z" } : Jvm.MethodName) jdk_42_method_154_code (1 : Nat) (Option.some Jvm.ClassFile.FieldType.boolean)).before args0 about1 = true := code_word (m := ⟨8, 10⟩) (meth := k8m10) (c := k8c10) (by decide +kernel) rfl rfl rfl (by decide +kernel)
set_option maxRecDepth 65536 in
theorem w_c12 : (Jvm.Cond.code ({ cls := "java/lang/String", name := "length", desc := "()I" } : Jvm.MethodName) jdk_42_method_54_code (1 : Nat) (Option.some Jvm.ClassFile.FieldType.int)).before args0 about1 = true := code_word (m := ⟨8, 2⟩) (meth := k8m2) (c := k8c2) (by decide +kernel) rfl rfl rfl (by decide +kernel)
set_option maxRecDepth 65536 in
theorem w_c13 : (Jvm.Cond.code ({ cls := "java/lang/String", name := "coder", desc := "()B" } : Jvm.MethodName) jdk_42_method_152_code (1 : Nat) (Option.some Jvm.ClassFile.FieldType.byte)).before args0 about1 = true := code_word (m := ⟨8, 9⟩) (meth := k8m9) (c := k8c9) (by decide +kernel) rfl rfl rfl (by decide +kernel)
set_option maxRecDepth 65536 in
theorem w_c14 : (Jvm.Cond.code ({ cls := "java/lang/StringLatin1", name := "indexOf", desc := "([BIII)I" } : Jvm.MethodName) jdk_43_method_22_code (4 : Nat) (Option.some Jvm.ClassFile.FieldType.int)).before args0 about1 = true := code_word (m := ⟨11, 3⟩) (meth := k11m3) (c := k11c3) (by decide +kernel) rfl rfl rfl (by decide +kernel)
set_option maxRecDepth 65536 in
theorem w_c15 : (Jvm.Cond.code ({ cls := "java/lang/StringLatin1", name := "canEncode", desc := "(I)Z" } : Jvm.MethodName) jdk_43_method_4_code (1 : Nat) (Option.some Jvm.ClassFile.FieldType.boolean)).before args0 about1 = true := code_word (m := ⟨11, 1⟩) (meth := k11m1) (c := k11c1) (by decide +kernel) rfl rfl rfl (by decide +kernel)
set_option maxRecDepth 65536 in
theorem w_c16 : (Jvm.Cond.code ({ cls := "java/lang/Math", name := "max", desc := "(II)I" } : Jvm.MethodName) jdk_29_method_65_code (2 : Nat) (Option.some Jvm.ClassFile.FieldType.int)).before args0 about1 = true := code_word (m := ⟨12, 1⟩) (meth := k12m1) (c := k12c1) (by decide +kernel) rfl rfl rfl (by decide +kernel)
set_option maxRecDepth 65536 in
theorem w_c17 : (Jvm.Cond.code ({ cls := "java/lang/Math", name := "min", desc := "(II)I" } : Jvm.MethodName) jdk_29_method_69_code (2 : Nat) (Option.some Jvm.ClassFile.FieldType.int)).before args0 about1 = true := code_word (m := ⟨12, 2⟩) (meth := k12m2) (c := k12c2) (by decide +kernel) rfl rfl rfl (by decide +kernel)
set_option maxRecDepth 65536 in
theorem w_c18 : (Jvm.Cond.code ({ cls := "java/lang/StringLatin1", name := "indexOfChar", desc := "([BIII)I" } : Jvm.MethodName) jdk_43_method_23_code (6 : Nat) (Option.some Jvm.ClassFile.FieldType.int)).before args0 about1 = true := code_word (m := ⟨11, 4⟩) (meth := k11m4) (c := k11c4) (by decide +kernel) rfl rfl rfl (by decide +kernel)
set_option maxRecDepth 65536 in
theorem w_c19 : (Jvm.Cond.code ({ cls := "java/lang/String", name := "equals", desc := "(Ljava/lang/Object;)Z" } : Jvm.MethodName) jdk_42_method_66_code (3 : Nat) (Option.some Jvm.ClassFile.FieldType.boolean)).before args0 about1 = true := code_word (m := ⟨8, 3⟩) (meth := k8m3) (c := k8c3) (by decide +kernel) rfl rfl rfl (by decide +kernel)
set_option maxRecDepth 65536 in
theorem w_c20 : (Jvm.Cond.code ({ cls := "java/lang/StringLatin1", name := "equals", desc := "([B[B)Z" } : Jvm.MethodName) jdk_43_method_13_code (3 : Nat) (Option.some Jvm.ClassFile.FieldType.boolean)).before args0 about1 = true := code_word (m := ⟨11, 2⟩) (meth := k11m2) (c := k11c2) (by decide +kernel) rfl rfl rfl (by decide +kernel)
set_option maxRecDepth 65536 in
theorem w_c21 : (Jvm.Cond.code ({ cls := "java/lang/String", name := "startsWith", desc := "(Ljava/lang/String;)Z" } : Jvm.MethodName) jdk_42_method_76_code (2 : Nat) (Option.some Jvm.ClassFile.FieldType.boolean)).before args0 about1 = true := code_word (m := ⟨8, 5⟩) (meth := k8m5) (c := k8c5) (by decide +kernel) rfl rfl rfl (by decide +kernel)
set_option maxRecDepth 65536 in
theorem w_c22 : (Jvm.Cond.code ({ cls := "java/lang/String", name := "startsWith", desc := "(Ljava/lang/String;I)Z" } : Jvm.MethodName) jdk_42_method_75_code (8 : Nat) (Option.some Jvm.ClassFile.FieldType.boolean)).before args0 about1 = true := code_word (m := ⟨8, 4⟩) (meth := k8m4) (c := k8c4) (by decide +kernel) rfl rfl rfl (by decide +kernel)
set_option maxRecDepth 65536 in
theorem w_c23 : (Jvm.Cond.code ({ cls := "com/example/xqwry/xqwry/MarkupName", name := "resolved", desc := "(ZI)I" } : Jvm.MethodName) prog_166_method_4_code (4 : Nat) (Option.some Jvm.ClassFile.FieldType.int)).before args0 about1 = true := code_word (m := ⟨2, 1⟩) (meth := k2m1) (c := k2c1) (by decide +kernel) rfl rfl rfl (by decide +kernel)
set_option maxRecDepth 65536 in
theorem w_c24 : (Jvm.Cond.code ({ cls := "com/example/xqwry/xqwry/MarkupName", name := "keepResolved", desc := "(ZII)V" } : Jvm.MethodName) prog_166_method_5_code (5 : Nat) (Option.none : Option Jvm.ClassFile.FieldType)).before args0 about1 = true := code_word (m := ⟨2, 2⟩) (meth := k2m2) (c := k2c2) (by decide +kernel) rfl rfl rfl (by decide +kernel)
def codes1 : List Jvm.Cond := [Jvm.Cond.code x code maxLocals ret, Jvm.Cond.code ({ cls := "java/lang/String", name := "<init>", desc := "([C)V" } : Jvm.MethodName) jdk_42_method_3_code (2 : Nat) (Option.none : Option Jvm.ClassFile.FieldType), Jvm.Cond.code ({ cls := "java/lang/String", name := "<init>", desc := "([CIILjava/lang/Void;)V" } : Jvm.MethodName) jdk_42_method_149_code (6 : Nat) (Option.none : Option Jvm.ClassFile.FieldType), Jvm.Cond.code ({ cls := "java/lang/Object", name := "<init>", desc := "()V" } : Jvm.MethodName) object_method_1_code (1 : Nat) (Option.none : Option Jvm.ClassFile.FieldType), Jvm.Cond.code ({ cls := "java/lang/StringUTF16", name := "compress", desc := "([CII)[B" } : Jvm.MethodName) jdk_52_method_16_code (6 : Nat) (Option.some (Jvm.ClassFile.FieldType.array Jvm.ClassFile.FieldType.byte)), Jvm.Cond.code ({ cls := "java/lang/StringUTF16", name := "compress", desc := "([CI[BII)I" } : Jvm.MethodName) jdk_52_method_21_code (7 : Nat) (Option.some Jvm.ClassFile.FieldType.int), Jvm.Cond.code ({ cls := "java/lang/StringUTF16", name := "coderFromArrayLen", desc := "([BI)B" } : Jvm.MethodName) jdk_52_method_15_code (2 : Nat) (Option.some Jvm.ClassFile.FieldType.byte), Jvm.Cond.code ({ cls := "com/example/xqwry/xqwry/MarkupName", name := "<init>", desc := "(Ljava/lang/String;)V" } : Jvm.MethodName) prog_166_method_1_code (2 : Nat) (Option.none : Option Jvm.ClassFile.FieldType), Jvm.Cond.code ({ cls := "com/example/xqwry/xqwry/MarkupName$Resolution", name := "<init>", desc := "()V" } : Jvm.MethodName) prog_167_method_1_code (1 : Nat) (Option.none : Option Jvm.ClassFile.FieldType), Jvm.Cond.code ({ cls := "java/lang/String", name := "indexOf", desc := "(I)I" } : Jvm.MethodName) jdk_42_method_79_code (2 : Nat) (Option.some Jvm.ClassFile.FieldType.int), Jvm.Cond.code ({ cls := "java/lang/String", name := "indexOf", desc := "(II)I" } : Jvm.MethodName) jdk_42_method_80_code (3 : Nat) (Option.some Jvm.ClassFile.FieldType.int), Jvm.Cond.code ({ cls := "java/lang/String", name := "isLatin1", desc := "()Z" } : Jvm.MethodName) jdk_42_method_154_code (1 : Nat) (Option.some Jvm.ClassFile.FieldType.boolean), Jvm.Cond.code ({ cls := "java/lang/String", name := "length", desc := "()I" } : Jvm.MethodName) jdk_42_method_54_code (1 : Nat) (Option.some Jvm.ClassFile.FieldType.int), Jvm.Cond.code ({ cls := "java/lang/String", name := "coder", desc := "()B" } : Jvm.MethodName) jdk_42_method_152_code (1 : Nat) (Option.some Jvm.ClassFile.FieldType.byte), Jvm.Cond.code ({ cls := "java/lang/StringLatin1", name := "indexOf", desc := "([BIII)I" } : Jvm.MethodName) jdk_43_method_22_code (4 : Nat) (Option.some Jvm.ClassFile.FieldType.int), Jvm.Cond.code ({ cls := "java/lang/StringLatin1", name := "canEncode", desc := "(I)Z" } : Jvm.MethodName) jdk_43_method_4_code (1 : Nat) (Option.some Jvm.ClassFile.FieldType.boolean), Jvm.Cond.code ({ cls := "java/lang/Math", name := "max", desc := "(II)I" } : Jvm.MethodName) jdk_29_method_65_code (2 : Nat) (Option.some Jvm.ClassFile.FieldType.int), Jvm.Cond.code ({ cls := "java/lang/Math", name := "min", desc := "(II)I" } : Jvm.MethodName) jdk_29_method_69_code (2 : Nat) (Option.some Jvm.ClassFile.FieldType.int), Jvm.Cond.code ({ cls := "java/lang/StringLatin1", name := "indexOfChar", desc := "([BIII)I" } : Jvm.MethodName) jdk_43_method_23_code (6 : Nat) (Option.some Jvm.ClassFile.FieldType.int), Jvm.Cond.code ({ cls := "java/lang/String", name := "equals", desc := "(Ljava/lang/Object;)Z" } : Jvm.MethodName) jdk_42_method_66_code (3 : Nat) (Option.some Jvm.ClassFile.FieldType.boolean), Jvm.Cond.code ({ cls := "java/lang/StringLatin1", name := "equals", desc := "([B[B)Z" } : Jvm.MethodName) jdk_43_method_13_code (3 : Nat) (Option.some Jvm.ClassFile.FieldType.boolean), Jvm.Cond.code ({ cls := "java/lang/String", name := "startsWith", desc := "(Ljava/lang/String;)Z" } : Jvm.MethodName) jdk_42_method_76_code (2 : Nat) (Option.some Jvm.ClassFile.FieldType.boolean), Jvm.Cond.code ({ cls := "java/lang/String", name := "startsWith", desc := "(Ljava/lang/String;I)Z" } : Jvm.MethodName) jdk_42_method_75_code (8 : Nat) (Option.some Jvm.ClassFile.FieldType.boolean), Jvm.Cond.code ({ cls := "com/example/xqwry/xqwry/MarkupName", name := "resolved", desc := "(ZI)I" } : Jvm.MethodName) prog_166_method_4_code (4 : Nat) (Option.some Jvm.ClassFile.FieldType.int), Jvm.Cond.code ({ cls := "com/example/xqwry/xqwry/MarkupName", name := "keepResolved", desc := "(ZII)V" } : Jvm.MethodName) prog_166_method_5_code (5 : Nat) (Option.none : Option Jvm.ClassFile.FieldType)]
set_option maxRecDepth 65536 in
theorem codes_eq : words1.filter isCode = codes1 := rfl
theorem w_codes : ∀ c ∈ words1.filter isCode, c.before args0 about1 = true := by
  rw [codes_eq]
  intro c hc
  simp only [codes1, List.mem_cons, List.not_mem_nil, or_false] at hc
  rcases hc with rfl | rfl | rfl | rfl | rfl | rfl | rfl | rfl | rfl | rfl | rfl | rfl | rfl | rfl | rfl | rfl | rfl | rfl | rfl | rfl | rfl | rfl | rfl | rfl | rfl
  · exact w_c0
  · exact w_c1
  · exact w_c2
  · exact w_c3
  · exact w_c4
  · exact w_c5
  · exact w_c6
  · exact w_c7
  · exact w_c8
  · exact w_c9
  · exact w_c10
  · exact w_c11
  · exact w_c12
  · exact w_c13
  · exact w_c14
  · exact w_c15
  · exact w_c16
  · exact w_c17
  · exact w_c18
  · exact w_c19
  · exact w_c20
  · exact w_c21
  · exact w_c22
  · exact w_c23
  · exact w_c24
set_option maxRecDepth 65536 in
theorem w_t1 : (words1.take 24).all (fun c => isCode c || c.before args0 about1) = true := by decide +kernel
set_option maxRecDepth 65536 in
theorem w_t2 : ((words1.drop 24).take 24).all (fun c => isCode c || c.before args0 about1) = true := by decide +kernel
set_option maxRecDepth 65536 in
theorem w_t3 : (((words1.drop 24).drop 24).take 24).all (fun c => isCode c || c.before args0 about1) = true := by decide +kernel
set_option maxRecDepth 65536 in
theorem w_t4 : ((((words1.drop 24).drop 24).drop 24).take 24).all (fun c => isCode c || c.before args0 about1) = true := by decide +kernel
set_option maxRecDepth 65536 in
theorem w_t5 : (((((words1.drop 24).drop 24).drop 24).drop 24).take 24).all (fun c => isCode c || c.before args0 about1) = true := by decide +kernel
set_option maxRecDepth 65536 in
theorem w_t6 : (((((words1.drop 24).drop 24).drop 24).drop 24).drop 24).all (fun c => isCode c || c.before args0 about1) = true := by decide +kernel
theorem w_tables : (allAtoms (Jvm.Cond.code x code maxLocals ret :: tables_1)).before args0 about1 = true := by
  rw [allAtoms_all]
  show words1.all (fun c => c.before args0 about1) = true
  refine all_split ?_ w_codes
  rw [← List.take_append_drop 24 words1, List.all_append, w_t1, ← List.take_append_drop 24 (words1.drop 24), List.all_append, w_t2, ← List.take_append_drop 24 ((words1.drop 24).drop 24), List.all_append, w_t3, ← List.take_append_drop 24 (((words1.drop 24).drop 24).drop 24), List.all_append, w_t4, ← List.take_append_drop 24 ((((words1.drop 24).drop 24).drop 24).drop 24), List.all_append, w_t5, w_t6]
  rfl
set_option maxRecDepth 65536 in
theorem w_rest : rest_1_c.before args0 about1 = true := by decide +kernel
set_option maxRecDepth 65536 in
theorem w_case : (Jvm.Cond.and given_1 narrow_1).before args0 about1 = true := by decide +kernel
set_option maxRecDepth 65536 in
theorem w_consts : constsHeld consts_1 about1 := Jvm.Lit.constsHeldB_iff.mp (by decide +kernel)
theorem w_applies : (headSpec (Jvm.Cond.code x code maxLocals ret :: tables_1) room_1).applies x e0.platform about1 = true :=
  (Spec.applies_iff w_frames).mpr ⟨w_running, w_runnable, w_alone, w_named, w_hears, w_ripe, w_room, w_tables⟩
theorem atStart : AtStart classFile x code maxLocals ret World_1 tables_1 room_1 Calls_1 rest_1 Pre_1 launch0 p0 e0 about1 theMethod args0 below0 :=
  ⟨lists_1, trivial, launch0.admits_env _ _ _, launch0.least_env, fairChoices_fair.cas, fairChoices_fair.clock, w_frames, w_args, w_heap, w_applies, ⟨w_consts, trivial⟩, w_rest, w_case⟩
end start1
theorem witness_1 : WitnessClaimed_1 := ⟨start1.p0, start1.e0, start1.about1, start1.theMethod, start1.args0, start1.below0, start1.atStart⟩
end Jvm.Pilot.@@N@@
