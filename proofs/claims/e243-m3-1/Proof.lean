import JvmDerived
import JvmDerived.Shelf42.JG7
import JvmDerived.Pilot.@@N@@Statement
import JvmDerived.Pilot.@@N@@Code
set_option linter.unusedVariables false
set_option linter.unusedSimpArgs false
namespace Jvm.Pilot.@@N@@
open Jvm Jvm.ClassFile Sem Op Lib Jvm.Free Jvm.Stand Jvm.LawKit Jvm.RoadKit Bundle Jvm.Pilot.@@N@@.Jvm.D
section OwnBase
variable {p : Program} {l : Launch} {e : Env} {R : Room} {s : State} {m : MethodId} {args : Array Value} {below : List Frame} {meth : Method} {c : Code} {T : State} {locs : List Loc} {cells slots : Nat} {Q : Outcome → State → Prop} {pc : Nat} {Ls : Array Slot} {st : List Value} {Z : State} {a0 : Array Value} {h : Heap}
/-- from S the body's invocation ends, and Q holds then -/
def own_G (p : Program) (e : Env) (below : List Frame) (Q : Outcome → State → Prop) (S : State) : Prop := ∃ t o, Steps p.tables e below S t ∧ t.status = .running ∧ Ended t below o ∧ Q o t
theorem own_st {S S' : State} (h : ∀ t, Steps p.tables e below S' t → Steps p.tables e below S t) (k : own_G p e below Q S') : own_G p e below Q S := by
  obtain ⟨t, o, h1, h2⟩ := k
  exact ⟨t, o, h t h1, h2⟩
theorem own_cast {g g' : JFrame} (q : g = g') (k : own_G p e below Q (T.setTop g')) : own_G p e below Q (T.setTop g) := q ▸ k
theorem own_iloadN (X : Stand p l e R s m args below meth c T locs cells slots) (hx : p.tables.exec = Jvm.exec) {k : Fin 4} {v : Int32} (hd : decode c.code pc = .ok (.iload_n k, 1)) (hl : Ls[k.val]? = some (.val (.int v))) (pc' : Nat) (hp : pc + 1 = pc') (r : own_G p e below Q (T.setTop (mkF m pc' Ls (.int v :: st)))) : own_G p e below Q (T.setTop (mkF m pc Ls (st))) := by
  subst hp
  exact own_st (fun t ht => XS.iloadN X.here hx rfl hd hl ht) r
theorem own_aloadN (X : Stand p l e R s m args below meth c T locs cells slots) (hx : p.tables.exec = Jvm.exec) {k : Fin 4} {v : Value} (hd : decode c.code pc = .ok (.aload_n k, 1)) (hl : Ls[k.val]? = some (.val v)) (hv : v.isRef = true) (pc' : Nat) (hp : pc + 1 = pc') (r : own_G p e below Q (T.setTop (mkF m pc' Ls (v :: st)))) : own_G p e below Q (T.setTop (mkF m pc Ls (st))) := by
  subst hp
  exact own_st (fun t ht => XS.aloadN X.here hx rfl hd hl hv ht) r
theorem own_istoreN (X : Stand p l e R s m args below meth c T locs cells slots) (hx : p.tables.exec = Jvm.exec) {k : Fin 4} {v : Int32} (Lt : Array Slot) (hd : decode c.code pc = .ok (.istore_n k, 1)) (hl : storeLocals Ls k.val (.int v) = some Lt) (pc' : Nat) (hp : pc + 1 = pc') (r : own_G p e below Q (T.setTop (mkF m pc' Lt (st)))) : own_G p e below Q (T.setTop (mkF m pc Ls (.int v :: st))) := by
  subst hp
  exact own_st (fun t ht => XS.istoreN X.here hx rfl hd rfl hl ht) r
theorem own_astoreN (X : Stand p l e R s m args below meth c T locs cells slots) (hx : p.tables.exec = Jvm.exec) {k : Fin 4} {v : Value} (Lt : Array Slot) (hd : decode c.code pc = .ok (.astore_n k, 1)) (hv : v.isRef = true) (hl : storeLocals Ls k.val v = some Lt) (pc' : Nat) (hp : pc + 1 = pc') (r : own_G p e below Q (T.setTop (mkF m pc' Lt (st)))) : own_G p e below Q (T.setTop (mkF m pc Ls (v :: st))) := by
  subst hp
  exact own_st (fun t ht => XS.astoreN X.here hx rfl hd rfl hv hl ht) r
theorem own_iload (X : Stand p l e R s m args below meth c T locs cells slots) (hx : p.tables.exec = Jvm.exec) {k : Nat} {v : Int32} (hd : decode c.code pc = .ok (.iload k, 2)) (hl : Ls[k]? = some (.val (.int v))) (pc' : Nat) (hp : pc + 2 = pc') (r : own_G p e below Q (T.setTop (mkF m pc' Ls (.int v :: st)))) : own_G p e below Q (T.setTop (mkF m pc Ls (st))) := by
  subst hp
  exact own_st (fun t ht => XS.iload X.here hx rfl hd hl ht) r
theorem own_aload (X : Stand p l e R s m args below meth c T locs cells slots) (hx : p.tables.exec = Jvm.exec) {k : Nat} {v : Value} (hd : decode c.code pc = .ok (.aload k, 2)) (hl : Ls[k]? = some (.val v)) (hv : v.isRef = true) (pc' : Nat) (hp : pc + 2 = pc') (r : own_G p e below Q (T.setTop (mkF m pc' Ls (v :: st)))) : own_G p e below Q (T.setTop (mkF m pc Ls (st))) := by
  subst hp
  exact own_st (fun t ht => XS.aload X.here hx rfl hd hl hv ht) r
theorem own_istore (X : Stand p l e R s m args below meth c T locs cells slots) (hx : p.tables.exec = Jvm.exec) {k : Nat} {v : Int32} (Lt : Array Slot) (hd : decode c.code pc = .ok (.istore k, 2)) (hl : storeLocals Ls k (.int v) = some Lt) (pc' : Nat) (hp : pc + 2 = pc') (r : own_G p e below Q (T.setTop (mkF m pc' Lt (st)))) : own_G p e below Q (T.setTop (mkF m pc Ls (.int v :: st))) := by
  subst hp
  exact own_st (fun t ht => XS.istore X.here hx rfl hd rfl hl ht) r
theorem own_astore (X : Stand p l e R s m args below meth c T locs cells slots) (hx : p.tables.exec = Jvm.exec) {k : Nat} {v : Value} (Lt : Array Slot) (hd : decode c.code pc = .ok (.astore k, 2)) (hv : v.isRef = true) (hl : storeLocals Ls k v = some Lt) (pc' : Nat) (hp : pc + 2 = pc') (r : own_G p e below Q (T.setTop (mkF m pc' Lt (st)))) : own_G p e below Q (T.setTop (mkF m pc Ls (v :: st))) := by
  subst hp
  exact own_st (fun t ht => XS.astore X.here hx rfl hd rfl hv hl ht) r
theorem own_iconst (X : Stand p l e R s m args below meth c T locs cells slots) (hx : p.tables.exec = Jvm.exec) {i : Int} {z : Int32} (hd : decode c.code pc = .ok (.iconst i, 1)) (hz : Int32.ofInt i = z) (pc' : Nat) (hp : pc + 1 = pc') (r : own_G p e below Q (T.setTop (mkF m pc' Ls (.int z :: st)))) : own_G p e below Q (T.setTop (mkF m pc Ls (st))) := by
  subst hp
  subst hz
  exact own_st (fun t ht => XS.iconst X.here hx rfl hd ht) r
theorem own_bipush (X : Stand p l e R s m args below meth c T locs cells slots) (hx : p.tables.exec = Jvm.exec) {i : Int} {z : Int32} (hd : decode c.code pc = .ok (.bipush i, 2)) (hz : (Int8.ofInt i).toInt32 = z) (pc' : Nat) (hp : pc + 2 = pc') (r : own_G p e below Q (T.setTop (mkF m pc' Ls (.int z :: st)))) : own_G p e below Q (T.setTop (mkF m pc Ls (st))) := by
  subst hp
  subst hz
  exact own_st (fun t ht => XS.bipush X.here hx rfl hd ht) r
theorem own_sipush (X : Stand p l e R s m args below meth c T locs cells slots) (hx : p.tables.exec = Jvm.exec) {i : Int} {z : Int32} (hd : decode c.code pc = .ok (.sipush i, 3)) (hz : (Int16.ofInt i).toInt32 = z) (pc' : Nat) (hp : pc + 3 = pc') (r : own_G p e below Q (T.setTop (mkF m pc' Ls (.int z :: st)))) : own_G p e below Q (T.setTop (mkF m pc Ls (st))) := by
  subst hp
  subst hz
  exact own_st (fun t ht => XS.sipush X.here hx rfl hd ht) r
theorem own_aconstNull (X : Stand p l e R s m args below meth c T locs cells slots) (hx : p.tables.exec = Jvm.exec)  (hd : decode c.code pc = .ok (.aconst_null, 1))  (pc' : Nat) (hp : pc + 1 = pc') (r : own_G p e below Q (T.setTop (mkF m pc' Ls (.null :: st)))) : own_G p e below Q (T.setTop (mkF m pc Ls (st))) := by
  subst hp
  exact own_st (fun t ht => XS.aconstNull X.here hx rfl hd ht) r
theorem own_iadd (X : Stand p l e R s m args below meth c T locs cells slots) (hx : p.tables.exec = Jvm.exec) {x y : Int32} (hd : decode c.code pc = .ok (.iadd, 1))  (pc' : Nat) (hp : pc + 1 = pc') (r : own_G p e below Q (T.setTop (mkF m pc' Ls (.int (x + y) :: st)))) : own_G p e below Q (T.setTop (mkF m pc Ls (.int y :: .int x :: st))) := by
  subst hp
  exact own_st (fun t ht => XS.iadd X.here hx rfl hd rfl ht) r
theorem own_isub (X : Stand p l e R s m args below meth c T locs cells slots) (hx : p.tables.exec = Jvm.exec) {x y : Int32} (hd : decode c.code pc = .ok (.isub, 1))  (pc' : Nat) (hp : pc + 1 = pc') (r : own_G p e below Q (T.setTop (mkF m pc' Ls (.int (x - y) :: st)))) : own_G p e below Q (T.setTop (mkF m pc Ls (.int y :: .int x :: st))) := by
  subst hp
  exact own_st (fun t ht => XS.isub X.here hx rfl hd rfl ht) r
theorem own_imul (X : Stand p l e R s m args below meth c T locs cells slots) (hx : p.tables.exec = Jvm.exec) {x y : Int32} (hd : decode c.code pc = .ok (.imul, 1))  (pc' : Nat) (hp : pc + 1 = pc') (r : own_G p e below Q (T.setTop (mkF m pc' Ls (.int (x * y) :: st)))) : own_G p e below Q (T.setTop (mkF m pc Ls (.int y :: .int x :: st))) := by
  subst hp
  exact own_st (fun t ht => XS.imul X.here hx rfl hd rfl ht) r
theorem own_iand (X : Stand p l e R s m args below meth c T locs cells slots) (hx : p.tables.exec = Jvm.exec) {x y : Int32} (hd : decode c.code pc = .ok (.iand, 1))  (pc' : Nat) (hp : pc + 1 = pc') (r : own_G p e below Q (T.setTop (mkF m pc' Ls (.int (x &&& y) :: st)))) : own_G p e below Q (T.setTop (mkF m pc Ls (.int y :: .int x :: st))) := by
  subst hp
  exact own_st (fun t ht => XS.iand X.here hx rfl hd rfl ht) r
theorem own_ior (X : Stand p l e R s m args below meth c T locs cells slots) (hx : p.tables.exec = Jvm.exec) {x y : Int32} (hd : decode c.code pc = .ok (.ior, 1))  (pc' : Nat) (hp : pc + 1 = pc') (r : own_G p e below Q (T.setTop (mkF m pc' Ls (.int (x ||| y) :: st)))) : own_G p e below Q (T.setTop (mkF m pc Ls (.int y :: .int x :: st))) := by
  subst hp
  exact own_st (fun t ht => XS.ior X.here hx rfl hd rfl ht) r
theorem own_ixor (X : Stand p l e R s m args below meth c T locs cells slots) (hx : p.tables.exec = Jvm.exec) {x y : Int32} (hd : decode c.code pc = .ok (.ixor, 1))  (pc' : Nat) (hp : pc + 1 = pc') (r : own_G p e below Q (T.setTop (mkF m pc' Ls (.int (x ^^^ y) :: st)))) : own_G p e below Q (T.setTop (mkF m pc Ls (.int y :: .int x :: st))) := by
  subst hp
  exact own_st (fun t ht => XS.ixor X.here hx rfl hd rfl ht) r
theorem own_ishl (X : Stand p l e R s m args below meth c T locs cells slots) (hx : p.tables.exec = Jvm.exec) {x y : Int32} (hd : decode c.code pc = .ok (.ishl, 1))  (pc' : Nat) (hp : pc + 1 = pc') (r : own_G p e below Q (T.setTop (mkF m pc' Ls (.int (x <<< (y &&& 31)) :: st)))) : own_G p e below Q (T.setTop (mkF m pc Ls (.int y :: .int x :: st))) := by
  subst hp
  exact own_st (fun t ht => XS.ishl X.here hx rfl hd rfl ht) r
theorem own_ishr (X : Stand p l e R s m args below meth c T locs cells slots) (hx : p.tables.exec = Jvm.exec) {x y : Int32} (hd : decode c.code pc = .ok (.ishr, 1))  (pc' : Nat) (hp : pc + 1 = pc') (r : own_G p e below Q (T.setTop (mkF m pc' Ls (.int (x >>> (y &&& 31)) :: st)))) : own_G p e below Q (T.setTop (mkF m pc Ls (.int y :: .int x :: st))) := by
  subst hp
  exact own_st (fun t ht => XS.ishr X.here hx rfl hd rfl ht) r
theorem own_iushr (X : Stand p l e R s m args below meth c T locs cells slots) (hx : p.tables.exec = Jvm.exec) {x y : Int32} (hd : decode c.code pc = .ok (.iushr, 1))  (pc' : Nat) (hp : pc + 1 = pc') (r : own_G p e below Q (T.setTop (mkF m pc' Ls (.int ((x.toUInt32 >>> (y &&& 31).toUInt32).toInt32) :: st)))) : own_G p e below Q (T.setTop (mkF m pc Ls (.int y :: .int x :: st))) := by
  subst hp
  exact own_st (fun t ht => XS.iushr X.here hx rfl hd rfl ht) r
theorem own_idiv (X : Stand p l e R s m args below meth c T locs cells slots) (hx : p.tables.exec = Jvm.exec) {x y : Int32} (hd : decode c.code pc = .ok (.idiv, 1)) (hy : y ≠ 0) (pc' : Nat) (hp : pc + 1 = pc') (r : own_G p e below Q (T.setTop (mkF m pc' Ls (.int (x / y) :: st)))) : own_G p e below Q (T.setTop (mkF m pc Ls (.int y :: .int x :: st))) := by
  subst hp
  exact own_st (fun t ht => XS.idiv X.here hx rfl hd rfl hy ht) r
theorem own_irem (X : Stand p l e R s m args below meth c T locs cells slots) (hx : p.tables.exec = Jvm.exec) {x y : Int32} (hd : decode c.code pc = .ok (.irem, 1)) (hy : y ≠ 0) (pc' : Nat) (hp : pc + 1 = pc') (r : own_G p e below Q (T.setTop (mkF m pc' Ls (.int (x % y) :: st)))) : own_G p e below Q (T.setTop (mkF m pc Ls (.int y :: .int x :: st))) := by
  subst hp
  exact own_st (fun t ht => iremM X hx rfl hd rfl hy ht) r
theorem own_ineg (X : Stand p l e R s m args below meth c T locs cells slots) (hx : p.tables.exec = Jvm.exec) {x : Int32} (hd : decode c.code pc = .ok (.ineg, 1))  (pc' : Nat) (hp : pc + 1 = pc') (r : own_G p e below Q (T.setTop (mkF m pc' Ls (.int (-x) :: st)))) : own_G p e below Q (T.setTop (mkF m pc Ls (.int x :: st))) := by
  subst hp
  exact own_st (fun t ht => XS.ineg X.here hx rfl hd rfl ht) r
theorem own_i2c (X : Stand p l e R s m args below meth c T locs cells slots) (hx : p.tables.exec = Jvm.exec) {x : Int32} (hd : decode c.code pc = .ok (.i2c, 1))  (pc' : Nat) (hp : pc + 1 = pc') (r : own_G p e below Q (T.setTop (mkF m pc' Ls (.int (x.toUInt32.toUInt16.toUInt32.toInt32) :: st)))) : own_G p e below Q (T.setTop (mkF m pc Ls (.int x :: st))) := by
  subst hp
  exact own_st (fun t ht => XS.i2c X.here hx rfl hd rfl ht) r
theorem own_i2b (X : Stand p l e R s m args below meth c T locs cells slots) (hx : p.tables.exec = Jvm.exec) {x : Int32} (hd : decode c.code pc = .ok (.i2b, 1))  (pc' : Nat) (hp : pc + 1 = pc') (r : own_G p e below Q (T.setTop (mkF m pc' Ls (.int (x.toInt8.toInt32) :: st)))) : own_G p e below Q (T.setTop (mkF m pc Ls (.int x :: st))) := by
  subst hp
  exact own_st (fun t ht => XS.i2b X.here hx rfl hd rfl ht) r
theorem own_dup (X : Stand p l e R s m args below meth c T locs cells slots) (hx : p.tables.exec = Jvm.exec) {x : Value} (hd : decode c.code pc = .ok (.dup, 1)) (hc : x.category = 1) (pc' : Nat) (hp : pc + 1 = pc') (r : own_G p e below Q (T.setTop (mkF m pc' Ls (x :: x :: st)))) : own_G p e below Q (T.setTop (mkF m pc Ls (x :: st))) := by
  subst hp
  exact own_st (fun t ht => XS.dup X.here hx rfl hd rfl hc ht) r
theorem own_dupX1 (X : Stand p l e R s m args below meth c T locs cells slots) (hx : p.tables.exec = Jvm.exec) {x y : Value} (hd : decode c.code pc = .ok (.dup_x1, 1)) (hc : x.category = 1) (hc2 : y.category = 1) (pc' : Nat) (hp : pc + 1 = pc') (r : own_G p e below Q (T.setTop (mkF m pc' Ls (x :: y :: x :: st)))) : own_G p e below Q (T.setTop (mkF m pc Ls (x :: y :: st))) := by
  subst hp
  exact own_st (fun t ht => XS.dupX1 X.here hx rfl hd rfl hc hc2 ht) r
theorem own_pop (X : Stand p l e R s m args below meth c T locs cells slots) (hx : p.tables.exec = Jvm.exec) {x : Value} (hd : decode c.code pc = .ok (.pop, 1)) (hc : x.category = 1) (pc' : Nat) (hp : pc + 1 = pc') (r : own_G p e below Q (T.setTop (mkF m pc' Ls (st)))) : own_G p e below Q (T.setTop (mkF m pc Ls (x :: st))) := by
  subst hp
  exact own_st (fun t ht => XS.pop X.here hx rfl hd rfl hc ht) r
theorem own_iinc (X : Stand p l e R s m args below meth c T locs cells slots) (hx : p.tables.exec = Jvm.exec) {k : Nat} {cst : Int} {x z : Int32} (Lt : Array Slot) (hd : decode c.code pc = .ok (.iinc k cst, 3)) (hl : Ls[k]? = some (.val (.int x))) (hz : x + Int32.ofInt cst = z) (hl' : storeLocals Ls k (.int z) = some Lt) (pc' : Nat) (hp : pc + 3 = pc') (r : own_G p e below Q (T.setTop (mkF m pc' Lt (st)))) : own_G p e below Q (T.setTop (mkF m pc Ls (st))) := by
  subst hp
  subst hz
  exact own_st (fun t ht => XS.iinc X.here hx rfl hd hl hl' ht) r
theorem own_goto (X : Stand p l e R s m args below meth c T locs cells slots) (hx : p.tables.exec = Jvm.exec)  {o : Int} (hd : decode c.code pc = .ok (.goto o, 3))  (pc' : Nat) (ho : 0 ≤ (pc : Int) + o) (hp : ((pc : Int) + o).toNat = pc') (r : own_G p e below Q (T.setTop (mkF m pc' Ls (st)))) : own_G p e below Q (T.setTop (mkF m pc Ls (st))) := own_st (fun t ht => XS.goto X.here hx rfl rfl hd ho hp ht) r
theorem own_ifcT (X : Stand p l e R s m args below meth c T locs cells slots) (hx : p.tables.exec = Jvm.exec) {cd : ClassFile.Cond} {x : Int32} {o : Int} (hd : decode c.code pc = .ok (.ifCond cd o, 3)) (hc : if_icmp.holds cd x 0 = true) (pc' : Nat) (ho : 0 ≤ (pc : Int) + o) (hp : ((pc : Int) + o).toNat = pc') (r : own_G p e below Q (T.setTop (mkF m pc' Ls (st)))) : own_G p e below Q (T.setTop (mkF m pc Ls (.int x :: st))) := own_st (fun t ht => XS.ifYes X.here hx rfl rfl hd rfl ((if0 _ _).trans hc) ho hp ht) r
theorem own_ifcF (X : Stand p l e R s m args below meth c T locs cells slots) (hx : p.tables.exec = Jvm.exec) {cd : ClassFile.Cond} {x : Int32} {o : Int} (hd : decode c.code pc = .ok (.ifCond cd o, 3)) (hc : if_icmp.holds cd x 0 = false) (pc' : Nat) (hp : pc + 3 = pc') (r : own_G p e below Q (T.setTop (mkF m pc' Ls (st)))) : own_G p e below Q (T.setTop (mkF m pc Ls (.int x :: st))) := by
  subst hp
  exact own_st (fun t ht => XS.ifNo X.here hx rfl hd rfl ((if0 _ _).trans hc) ht) r
theorem own_icmpT (X : Stand p l e R s m args below meth c T locs cells slots) (hx : p.tables.exec = Jvm.exec) {cd : ClassFile.Cond} {x y : Int32} {o : Int} (hd : decode c.code pc = .ok (.if_icmp cd o, 3)) (hc : if_icmp.holds cd x y = true) (pc' : Nat) (ho : 0 ≤ (pc : Int) + o) (hp : ((pc : Int) + o).toNat = pc') (r : own_G p e below Q (T.setTop (mkF m pc' Ls (st)))) : own_G p e below Q (T.setTop (mkF m pc Ls (.int y :: .int x :: st))) := own_st (fun t ht => XS.icmpYes X.here hx rfl rfl hd rfl hc ho hp ht) r
theorem own_icmpF (X : Stand p l e R s m args below meth c T locs cells slots) (hx : p.tables.exec = Jvm.exec) {cd : ClassFile.Cond} {x y : Int32} {o : Int} (hd : decode c.code pc = .ok (.if_icmp cd o, 3)) (hc : if_icmp.holds cd x y = false) (pc' : Nat) (hp : pc + 3 = pc') (r : own_G p e below Q (T.setTop (mkF m pc' Ls (st)))) : own_G p e below Q (T.setTop (mkF m pc Ls (.int y :: .int x :: st))) := by
  subst hp
  exact own_st (fun t ht => XS.icmpNo X.here hx rfl hd rfl hc ht) r
theorem own_ifnullT (X : Stand p l e R s m args below meth c T locs cells slots) (hx : p.tables.exec = Jvm.exec)  {o : Int} (hd : decode c.code pc = .ok (.ifnull o, 3))  (pc' : Nat) (ho : 0 ≤ (pc : Int) + o) (hp : ((pc : Int) + o).toNat = pc') (r : own_G p e below Q (T.setTop (mkF m pc' Ls (st)))) : own_G p e below Q (T.setTop (mkF m pc Ls (.null :: st))) := own_st (fun t ht => XS.ifnullYes X.here hx rfl rfl hd rfl ho hp ht) r
theorem own_ifnullF (X : Stand p l e R s m args below meth c T locs cells slots) (hx : p.tables.exec = Jvm.exec) {b : Addr} {o : Int} (hd : decode c.code pc = .ok (.ifnull o, 3))  (pc' : Nat) (hp : pc + 3 = pc') (r : own_G p e below Q (T.setTop (mkF m pc' Ls (st)))) : own_G p e below Q (T.setTop (mkF m pc Ls (.ref b :: st))) := by
  subst hp
  exact own_st (fun t ht => XS.ifnullNo X.here hx rfl hd rfl ht) r
theorem own_ifnonnullT (X : Stand p l e R s m args below meth c T locs cells slots) (hx : p.tables.exec = Jvm.exec) {b : Addr} {o : Int} (hd : decode c.code pc = .ok (.ifnonnull o, 3))  (pc' : Nat) (ho : 0 ≤ (pc : Int) + o) (hp : ((pc : Int) + o).toNat = pc') (r : own_G p e below Q (T.setTop (mkF m pc' Ls (st)))) : own_G p e below Q (T.setTop (mkF m pc Ls (.ref b :: st))) := own_st (fun t ht => XS.ifnonnullYes X.here hx rfl rfl hd rfl ho hp ht) r
theorem own_ifnonnullF (X : Stand p l e R s m args below meth c T locs cells slots) (hx : p.tables.exec = Jvm.exec)  {o : Int} (hd : decode c.code pc = .ok (.ifnonnull o, 3))  (pc' : Nat) (hp : pc + 3 = pc') (r : own_G p e below Q (T.setTop (mkF m pc' Ls (st)))) : own_G p e below Q (T.setTop (mkF m pc Ls (.null :: st))) := by
  subst hp
  exact own_st (fun t ht => XS.ifnonnullNo X.here hx rfl hd rfl ht) r
theorem own_acmpT (X : Stand p l e R s m args below meth c T locs cells slots) (hx : p.tables.exec = Jvm.exec) {cd : ClassFile.ACond} {a b : Addr} {o : Int} (hd : decode c.code pc = .ok (.if_acmp cd o, 3)) (hc : if_acmp.holds cd (some a) (some b) = true) (pc' : Nat) (ho : 0 ≤ (pc : Int) + o) (hp : ((pc : Int) + o).toNat = pc') (r : own_G p e below Q (T.setTop (mkF m pc' Ls (st)))) : own_G p e below Q (T.setTop (mkF m pc Ls (.ref b :: .ref a :: st))) := own_st (fun t ht => XS.acmpYes X.here hx rfl rfl hd rfl hc ho hp ht) r
theorem own_acmpF (X : Stand p l e R s m args below meth c T locs cells slots) (hx : p.tables.exec = Jvm.exec) {cd : ClassFile.ACond} {a b : Addr} {o : Int} (hd : decode c.code pc = .ok (.if_acmp cd o, 3)) (hc : if_acmp.holds cd (some a) (some b) = false) (pc' : Nat) (hp : pc + 3 = pc') (r : own_G p e below Q (T.setTop (mkF m pc' Ls (st)))) : own_G p e below Q (T.setTop (mkF m pc Ls (.ref b :: .ref a :: st))) := by
  subst hp
  exact own_st (fun t ht => XS.acmpNo X.here hx rfl hd rfl hc ht) r
theorem own_ldcI (X : Stand p l e R s m args below meth c T locs cells slots) (hx : p.tables.exec = Jvm.exec) (hZ : Z.Warmed39 s.vm) {own : String} (hown : s.vm.findClass own = some m.cls) {index : Nat} {v : Int32} (w : (Cond.constant own index v).before a0 Z = true) (hd : decode c.code pc = .ok (.ldc index, 2)) (pc' : Nat) (hp : pc + 2 = pc') (r : own_G p e below Q (T.setTop (mkF m pc' Ls (.int v :: st)))) : own_G p e below Q (T.setTop (mkF m pc Ls (st))) := by
  subst hp
  exact own_st (fun t ht => X.ldcInt hx hown (mvT hZ w) (g := mkF m pc Ls st) rfl hd t ht) r
theorem own_ldcwI (X : Stand p l e R s m args below meth c T locs cells slots) (hx : p.tables.exec = Jvm.exec) (hZ : Z.Warmed39 s.vm) {own : String} (hown : s.vm.findClass own = some m.cls) {index : Nat} {v : Int32} (w : (Cond.constant own index v).before a0 Z = true) (hd : decode c.code pc = .ok (.ldc_w index, 3)) (pc' : Nat) (hp : pc + 3 = pc') (r : own_G p e below Q (T.setTop (mkF m pc' Ls (.int v :: st)))) : own_G p e below Q (T.setTop (mkF m pc Ls (st))) := by
  subst hp
  exact own_st (fun t ht => X.ldcwInt hx hown (mvT hZ w) (g := mkF m pc Ls st) rfl hd t ht) r
theorem own_ifT {α : Type} {c : Prop} [Decidable c] {a b r : α} (hc : c) (h : (if c then a else b) = r) : a = r := (if_pos hc).symm.trans h
theorem own_ifF {α : Type} {c : Prop} [Decidable c] {a b r : α} (hc : ¬ c) (h : (if c then a else b) = r) : b = r := (if_neg hc).symm.trans h
/-- what a body leaves -/
def own_End (s : State) (rm : Room) (n0 : Nat) (P : Option Value → Heap → Prop) (o : Outcome) (t : State) : Prop := ∃ v L, o = .returned v ∧ (Fr n0 L ∧ P v t.heap) ∧ FrameEnd s o t L rm.cells rm.slots
/-- a body's contract -/
def own_Met (l : Launch) (Z : State) (y : MethodName) (bytes : ByteArray) (maxL : Nat) (ret : Option FieldType) (ws : List Jvm.Cond) (rm : Room) (as' : Array Value) (h0 : Heap) (n0 : Nat) (P : Option Value → Heap → Prop) : Prop :=
  MetFree l y (head1 (Jvm.Cond.code y bytes maxL ret :: ws) rm) (fun a U => a = as' ∧ Z.Warmed39 U.vm ∧ U.heap = h0) (fun _ _ _ _ _ => True) (fun _ U o U' => own_End U rm n0 P o U')
variable {y : MethodName} {bytes : ByteArray} {maxL : Nat} {ret : Option FieldType} {ws : List Jvm.Cond} {rm : Room} {as' : Array Value} {h0 : Heap} {n0 : Nat} {P : Option Value → Heap → Prop}
theorem own_body (pf : plainFor y = true) (body : ∀ p e s m below meth c T, Stand p l e rm s m as' below meth c T [] 0 0 → p.tables.exec = Jvm.exec → c.code = bytes → c.maxLocals = maxL → s.vm.findClass y.cls = some m.cls → meth.name = y.name → Z.Warmed39 s.vm → T.heap = h0 → meth.sig.returnType = ret → meth.locks = false →
    own_G p e below (own_End s rm n0 P) (T.setTop (entryFrame m as' maxL))) : own_Met l Z y bytes maxL ret ws rm as' h0 n0 P := by
  refine MetFree.of_bodySF pf hisR ?_
  intro p e s m args below meth c s₁ Bd hml0 hP hK
  obtain ⟨e1, hZ, hh⟩ := hP
  cases e1
  exact body p e s m below meth c s₁ (Stand.of_body Bd) Bd.exec Bd.bytes hml0 (findClass_of_methodNamed Bd.named) (name_of_methodNamed Bd.named Bd.method).1 hZ (by rw [← hh, Bd.state]; rfl) Bd.returns Bd.notSynchronized
theorem own_stepI (X : Stand p l e R s m args below meth c T locs cells slots) (hx : p.tables.exec = Jvm.exec) {z : Int32} (hret : meth.sig.returnType = some .int) (hd : decode c.code pc = .ok (.ireturn, 1)) {fs : List Frame}
    (hl : ∀ (f : JFrame) (acts : List Action), f.method = m → f.locked = none → f.entered = [] → (doReturn e (T.setTop f) acts (some (.int z))).1 = T.setFrames fs) : Steps p.tables e below (T.setTop (mkF m pc Ls (.int z :: st))) (T.setFrames fs) :=
  retOut X hx hret rfl (Or.inl ⟨rfl, Or.inl rfl, z, rfl⟩) hd hl
theorem own_retI (X : Stand p l e R s m args below meth c T locs cells slots) (hx : p.tables.exec = Jvm.exec) {z : Int32} (hret : meth.sig.returnType = some .int) (hlk : meth.locks = false) (hd : decode c.code pc = .ok (.ireturn, 1)) (hc : cells ≤ rm.cells) (hs : slots ≤ rm.slots) (N : Fr n0 locs) (eT : T.heap = h) (hq : P (some (.int z)) h) :
    own_G p e below (own_End s rm n0 P) (T.setTop (mkF m pc Ls (.int z :: st))) := by
  subst eT
  obtain ⟨fs, hr, hrun, hended, hW, hsame⟩ := X.leave (v := some (.int z)) (fun h => by rw [hret] at h; cases h) hlk
  exact ⟨_, _, own_stepI X hx hret hd hr, hrun, hended, _, _, rfl, ⟨N, hq⟩, ⟨_, rfl⟩, hW, hsame.mono hc hs⟩
theorem own_retN (X : Stand p l e R s m args below meth c T locs cells slots) (hx : p.tables.exec = Jvm.exec) {z : Int32} {t : FieldType} (hret : meth.sig.returnType = some t) (ht : t = .boolean ∨ t = .byte ∨ t = .char ∨ t = .short) (hlk : meth.locks = false) (hd : decode c.code pc = .ok (.ireturn, 1)) (hc : cells ≤ rm.cells) (hs : slots ≤ rm.slots) (N : Fr n0 locs) (eT : T.heap = h) (hq : P (some (.int (nar t z))) h) :
    own_G p e below (own_End s rm n0 P) (T.setTop (mkF m pc Ls (.int z :: st))) := by
  subst eT
  obtain ⟨fs, hr, hrun, hended, hW, hsame⟩ := X.leave (v := some (.int (nar t z))) (fun h => by rw [hret] at h; cases h) hlk
  exact ⟨_, _, retN X hx hret ht hd hr, hrun, hended, _, _, rfl, ⟨N, hq⟩, ⟨_, rfl⟩, hW, hsame.mono hc hs⟩
theorem own_retA (X : Stand p l e R s m args below meth c T locs cells slots) (hx : p.tables.exec = Jvm.exec) {v : Value} {t : FieldType} (hret : meth.sig.returnType = some t) (ht : t.isReference = true) (hv : v.isRef = true) (hn : narrow t v = v) (hlk : meth.locks = false) (hd : decode c.code pc = .ok (.areturn, 1)) (hc : cells ≤ rm.cells) (hs : slots ≤ rm.slots) (N : Fr n0 locs) (eT : T.heap = h) (hq : P (some v) h) :
    own_G p e below (own_End s rm n0 P) (T.setTop (mkF m pc Ls (v :: st))) := by
  subst eT
  obtain ⟨fs, hr, hrun, hended, hW, hsame⟩ := X.leave (v := some v) (fun h => by rw [hret] at h; cases h) hlk
  exact ⟨_, _, retOut X hx hret hn (Or.inr (Or.inr (Or.inr (Or.inr ⟨rfl, ht, hv⟩)))) hd hr, hrun, hended, _, _, rfl, ⟨N, hq⟩, ⟨_, rfl⟩, hW, hsame.mono hc hs⟩
theorem own_retV (X : Stand p l e R s m args below meth c T locs cells slots) (hx : p.tables.exec = Jvm.exec) (hret : meth.sig.returnType = none) (hlk : meth.locks = false) (hd : decode c.code pc = .ok (.return_, 1)) (hc : cells ≤ rm.cells) (hs : slots ≤ rm.slots) (N : Fr n0 locs) (eT : T.heap = h) (hq : P none h) :
    own_G p e below (own_End s rm n0 P) (T.setTop (mkF m pc Ls [])) := by
  subst eT
  obtain ⟨fs, hr, hrun, hended, hW, hsame⟩ := X.leave (v := none) (fun _ => rfl) hlk
  exact ⟨_, _, X.returnOut hx hret hd hr, hrun, hended, _, _, rfl, ⟨N, hq⟩, ⟨_, rfl⟩, hW, hsame.mono hc hs⟩
/-- the callee's contract as the premise that a call by contract takes -/
theorem own_back {below' : List Frame} {W : Nat} {len : Nat} (M : own_Met l Z y bytes maxL ret [] rm as' h n0 P) (hZ : Z.Warmed39 s.vm) (wc : (Cond.code y bytes maxL ret).before a0 Z = true) (wz : (Cond.initialized y.cls).before a0 Z = true) (hf : rm.frames + 1 ≤ R.frames) (hl : W + (maxL + 11) + rm.locals ≤ R.locals) :
    Back l R p e below s args y len W (fun A a => a = as' ∧ A.U.heap = h ∧ A.cells + rm.cells ≤ R.cells ∧ A.slots + rm.slots ≤ R.slots)
      (fun A _ v B => ∃ L, (Fr n0 L ∧ P v B.U.heap) ∧ B.locs = A.locs ++ L ∧ B.cells = A.cells + rm.cells ∧ B.slots = A.slots + rm.slots) :=
  backOf (Q := fun v h L => Fr n0 L ∧ P v h) M hZ wc wz hf hl
theorem own_callS (X : Stand p l e R s m args below meth c T locs cells slots) (hx : p.tables.exec = Jvm.exec) (hZ : Z.Warmed39 s.vm) {own : String} {index : Nat} (hown : s.vm.findClass own = some m.cls) (w1 : (Cond.methodLink own index y).before a0 Z = true) (w2 : (Cond.static y).before a0 Z = true) (wz : (Cond.initialized y.cls).before a0 Z = true) (wc : (Cond.code y bytes maxL ret).before a0 Z = true)
    (hy : y.cls ≠ "java/lang/invoke/MethodHandle" ∧ y.cls ≠ "java/lang/invoke/VarHandle") (W : Nat) (M : own_Met l Z y bytes maxL ret [] rm as' h n0 P) (eT : T.heap = h) (hml : Ls.size = c.maxLocals) (argsL rest : List Value) (ha : argsL.toArray = as') (hlen : ∀ sig, parseMethodDescriptor y.desc = some sig → argsL.length = sig.parameters.length)
    (hst : st = argsL.reverse ++ rest) (hW : (rest.map fun v => v.category).sum ≤ W) (hf : rm.frames + 1 ≤ R.frames) (hl : W + (maxL + 11) + rm.locals ≤ R.locals) (hcl : cells + rm.cells ≤ R.cells) (hsl : slots + rm.slots ≤ R.slots) (hd : decode c.code pc = .ok (.invokestatic index, 3)) (N : Fr n0 locs) (pc' : Nat) (hp : pc + 3 = pc')
    (k : ∀ v T' locs', Stand p l e R s m args below meth c T' locs' (cells + rm.cells) (slots + rm.slots) → Fr n0 locs' → P v T'.heap → own_G p e below Q (T'.setTop (mkF m pc' Ls (v.toList ++ rest)))) : own_G p e below Q (T.setTop (mkF m pc Ls st)) := by
  subst hp
  obtain ⟨v, _, ⟨T', L', k', n'⟩, -, X', ⟨Lc, hQ, l1, y1, z1⟩, stp⟩ := Jvm.LawKit.callS X hx (y := y) hown (mvT hZ w1) (mvT hZ w2) (mvT hZ wz) (mvT hZ wc) hy (own_back (below' := below) (W := W) M hZ wc wz hf hl) (g := mkF m pc Ls st) rfl hml (argsL := argsL) (rest := rest) hlen hst (by show 2 * 0 + _ ≤ _; omega) hd (fun _ _ => ⟨ha, eT, hcl, hsl⟩)
  dsimp only [Pt.U, Pt.locs, Pt.cells, Pt.slots] at X' l1 y1 z1 stp hQ
  subst l1 y1 z1
  exact own_st stp (k v T' _ X' (N.app hQ.1) hQ.2)
theorem own_callI (X : Stand p l e R s m args below meth c T locs cells slots) (hx : p.tables.exec = Jvm.exec) (hZ : Z.Warmed39 s.vm) {own : String} {index : Nat} (hown : s.vm.findClass own = some m.cls) (hi : y.name = "<init>") (w1 : (Cond.methodLink own index y).before a0 Z = true) (w2 : (Cond.instanceMethod y).before a0 Z = true) (wz : (Cond.initialized y.cls).before a0 Z = true) (wc : (Cond.code y bytes maxL none).before a0 Z = true)
    (hy : y.cls ≠ "java/lang/invoke/MethodHandle" ∧ y.cls ≠ "java/lang/invoke/VarHandle") (W : Nat) (M : own_Met l Z y bytes maxL none [] rm as' h n0 P) (eT : T.heap = h) (hml : Ls.size = c.maxLocals) (a : Addr) (argsL rest : List Value) (ha : (Value.ref a :: argsL).toArray = as') (hlen : ∀ sig, parseMethodDescriptor y.desc = some sig → argsL.length = sig.parameters.length)
    (hst : st = argsL.reverse ++ .ref a :: rest) (hW : (rest.map fun v => v.category).sum ≤ W) (hf : rm.frames + 1 ≤ R.frames) (hl : W + (maxL + 11) + rm.locals ≤ R.locals) (hcl : cells + rm.cells ≤ R.cells) (hsl : slots + rm.slots ≤ R.slots) (hd : decode c.code pc = .ok (.invokespecial index, 3)) (N : Fr n0 locs) (pc' : Nat) (hp : pc + 3 = pc')
    (k : ∀ v T' locs', Stand p l e R s m args below meth c T' locs' (cells + rm.cells) (slots + rm.slots) → Fr n0 locs' → P v T'.heap → own_G p e below Q (T'.setTop (mkF m pc' Ls (v.toList ++ rest)))) : own_G p e below Q (T.setTop (mkF m pc Ls st)) := by
  subst hp
  obtain ⟨v, _, ⟨T', L', k', n'⟩, -, X', ⟨Lc, hQ, l1, y1, z1⟩, stp⟩ := X.specialBack hx (y := y) hi hown (mvT hZ w1) (mvT hZ w2) (mvT hZ wc) hy (own_back (below' := below) (W := W) M hZ wc wz hf hl) (g := mkF m pc Ls st) rfl hml (Steps.refl _) (a := a) (argsL := argsL) (rest := rest) hlen hst (by show 2 * 0 + _ ≤ _; omega) hd (fun _ _ => ⟨ha, eT, hcl, hsl⟩)
  dsimp only [Pt.U, Pt.locs, Pt.cells, Pt.slots] at X' l1 y1 z1 stp hQ
  subst l1 y1 z1
  exact own_st (fun t ht => stp.trans ht) (k v T' _ X' (N.app hQ.1) hQ.2)
theorem own_callV (X : Stand p l e R s m args below meth c T locs cells slots) (hx : p.tables.exec = Jvm.exec) (hZ : Z.Warmed39 s.vm) {own C : String} {index : Nat} (hown : s.vm.findClass own = some m.cls) (w1 : (Cond.methodLink own index y).before a0 Z = true) (w2 : (Cond.declares y).before a0 Z = true) (w3 : (Cond.selects C y y).before a0 Z = true) (w4 : (Cond.instanceMethod y).before a0 Z = true) (wz : (Cond.initialized y.cls).before a0 Z = true) (wc : (Cond.code y bytes maxL ret).before a0 Z = true)
    (hy : y.cls ≠ "java/lang/invoke/MethodHandle" ∧ y.cls ≠ "java/lang/invoke/VarHandle") (W : Nat) (M : own_Met l Z y bytes maxL ret [] rm as' h n0 P) (eT : T.heap = h) {a : Addr} (E : Exa Z h a C) (hml : Ls.size = c.maxLocals) (argsL rest : List Value) (ha : (Value.ref a :: argsL).toArray = as') (hlen : ∀ sig, parseMethodDescriptor y.desc = some sig → argsL.length = sig.parameters.length)
    (hst : st = argsL.reverse ++ .ref a :: rest) (hW : (rest.map fun v => v.category).sum ≤ W) (hf : rm.frames + 1 ≤ R.frames) (hl : W + (maxL + 11) + rm.locals ≤ R.locals) (hcl : cells + rm.cells ≤ R.cells) (hsl : slots + rm.slots ≤ R.slots) (hd : decode c.code pc = .ok (.invokevirtual index, 3)) (N : Fr n0 locs) (pc' : Nat) (hp : pc + 3 = pc')
    (k : ∀ v T' locs', Stand p l e R s m args below meth c T' locs' (cells + rm.cells) (slots + rm.slots) → Fr n0 locs' → P v T'.heap → own_G p e below Q (T'.setTop (mkF m pc' Ls (v.toList ++ rest)))) : own_G p e below Q (T.setTop (mkF m pc Ls st)) := by
  subst hp
  obtain ⟨_, _, qa, _, qc⟩ := isOf hZ eT E
  obtain ⟨v, _, ⟨T', L', k', n'⟩, -, X', ⟨Lc, hQ, l1, y1, z1⟩, stp⟩ := X.virtualBack hx (y := y) (z := y) hown (mvT hZ w1) (mvT hZ w2) (notFace_of_selects (args := #[]) (mvT hZ w3)) (mvT hZ w3) (mvT hZ w4) hy (own_back (below' := below) (W := W) M hZ wc wz hf hl) qa qc (g := mkF m pc Ls st) rfl hml (Steps.refl _) (argsL := argsL) (rest := rest) hlen hst (by show 2 * 0 + _ ≤ _; omega) hd (fun _ _ => ⟨ha, eT, hcl, hsl⟩)
  dsimp only [Pt.U, Pt.locs, Pt.cells, Pt.slots] at X' l1 y1 z1 stp hQ
  subst l1 y1 z1
  exact own_st (fun t ht => stp.trans ht) (k v T' _ X' (N.app hQ.1) hQ.2)
/-- an 'invokevirtual' of a private method, by its contract; that its class is no interface is read off the 'instantiable' word -/
theorem own_callP (X : Stand p l e R s m args below meth c T locs cells slots) (hx : p.tables.exec = Jvm.exec) (hZ : Z.Warmed39 s.vm) {own : String} {index kk : Nat} (hown : s.vm.findClass own = some m.cls) (w1 : (Cond.methodLink own index y).before a0 Z = true) (w4 : (Cond.instanceMethod y).before a0 Z = true) (w5 : (Cond.privateMethod y).before a0 Z = true) (w6 : (Cond.instantiable y.cls kk).before a0 Z = true) (wz : (Cond.initialized y.cls).before a0 Z = true) (wc : (Cond.code y bytes maxL ret).before a0 Z = true)
    (hy : y.cls ≠ "java/lang/invoke/MethodHandle" ∧ y.cls ≠ "java/lang/invoke/VarHandle") (W : Nat) (M : own_Met l Z y bytes maxL ret [] rm as' h n0 P) (eT : T.heap = h) {a : Addr} {C : String} (E : Exa Z h a C) (hml : Ls.size = c.maxLocals) (argsL rest : List Value) (ha : (Value.ref a :: argsL).toArray = as') (hlen : ∀ sig, parseMethodDescriptor y.desc = some sig → argsL.length = sig.parameters.length)
    (hst : st = argsL.reverse ++ .ref a :: rest) (hW : (rest.map fun v => v.category).sum ≤ W) (hf : rm.frames + 1 ≤ R.frames) (hl : W + (maxL + 11) + rm.locals ≤ R.locals) (hcl : cells + rm.cells ≤ R.cells) (hsl : slots + rm.slots ≤ R.slots) (hd : decode c.code pc = .ok (.invokevirtual index, 3)) (N : Fr n0 locs) (pc' : Nat) (hp : pc + 3 = pc')
    (k : ∀ v T' locs', Stand p l e R s m args below meth c T' locs' (cells + rm.cells) (slots + rm.slots) → Fr n0 locs' → P v T'.heap → own_G p e below Q (T'.setTop (mkF m pc' Ls (v.toList ++ rest)))) : own_G p e below Q (T.setTop (mkF m pc Ls st)) := by
  subst hp
  obtain ⟨cell, q1, q2⟩ := E.cell
  obtain ⟨mk, methM, hnamed, hmethM, hstM, habM⟩ := Cond.instanceMethod_spec (mvT (args := args) hZ w4)
  obtain ⟨methM', cM, hmethM', -, -, -, -, -, -, hsigM⟩ := Cond.code_spec hnamed (mvT (args := args) hZ wc)
  cases hmethM.symm.trans hmethM'
  obtain ⟨cC, kP, i1, hkP, -, i4, -⟩ := Cond.instantiable_spec (mvT (args := args) hZ w6)
  cases i1.symm.trans (findClass_of_methodNamed hnamed)
  have hkPi : kP.isInterface = false := by
    simp only [Bool.or_eq_false_iff] at i4
    exact i4.1
  have hpriv := Cond.privateMethod_at (mvP (args := args) hZ w5)
  obtain ⟨vm₁, X₁, hstep⟩ := X.invokevirtual hx hown (mvT hZ w1) hnamed hmethM hstM hkP hkPi hy (a := a) (cell := cell) (by rw [eT]; exact q1) q2 (selectMethod_private hmethM (hpriv mk methM hnamed hmethM)) hmethM habM hkP hkPi (g := mkF m pc Ls st) rfl (argsL := argsL) (rest := rest) (hlen _ hsigM) hst hd
  obtain ⟨v, ⟨T', L', k', n'⟩, X', ⟨Lc, hQ, l1, y1, z1⟩, stp⟩ := own_back (below' := below) (W := W) (len := 3) M hZ wc wz hf hl m meth c ⟨T.setVm vm₁, locs, cells, slots⟩ { (mkF m pc Ls st) with stack := rest } (.invokevirtual index) mk (.ref a :: argsL).toArray X₁ rfl hml hd (by show 2 * 0 + (rest.map fun v => v.category).sum ≤ W; omega) (X₁.named hnamed) ⟨ha, eT, hcl, hsl⟩
  dsimp only [Pt.U, Pt.locs, Pt.cells, Pt.slots] at X' l1 y1 z1 stp hQ
  subst l1 y1 z1
  exact own_st (fun t ht => hstep _ fun acts => by rw [doInvoke_state]; exact stp.trans ht) (k v T' _ X' (N.app hQ.1) hQ.2)
theorem own_getF (X : Stand p l e R s m args below meth c T locs cells slots) (hx : p.tables.exec = Jvm.exec) (hZ : Z.Warmed39 s.vm) {own : String} (hown : s.vm.findClass own = some m.cls) {O n d : String} {index : Nat} (w : (Cond.fieldLink own index O n d).before a0 Z = true) (eT : T.heap = h) {a : Addr} {v : Value} (F : Fld Z h a O n d v) (hd : decode c.code pc = .ok (.getfield index, 3)) (pc' : Nat) (hp : pc + 3 = pc')
    (k : ∀ T', Stand p l e R s m args below meth c T' locs cells slots → T'.heap = h → own_G p e below Q (T'.setTop (mkF m pc' Ls (v :: st)))) : own_G p e below Q (T.setTop (mkF m pc Ls (.ref a :: st))) := by
  subst hp
  obtain ⟨T', X', e', stp⟩ := getF X hx hZ hown (host := "") (Or.inl w) Via.refl eT F (g := mkF m pc Ls (.ref a :: st)) rfl rfl hd
  exact own_st stp (k T' X' e')
theorem own_putF (X : Stand p l e R s m args below meth c T locs cells slots) (hx : p.tables.exec = Jvm.exec) (hZ : Z.Warmed39 s.vm) {own : String} (hown : s.vm.findClass own = some m.cls) {O n d C : String} {index kk : Nat} {ty : FieldType} (w : (Cond.fieldLink own index O n d).before a0 Z = true) (eT : T.heap = h) {a : Addr} {v old : Value} (F : Fld Z h a O n d old) (E : Exa Z h a C) (L : (Cond.lays C O n d).before a0 Z = true ∨ ((Cond.laysFinal C O n d).before a0 Z = true ∧ own = O ∧ meth.name = "<init>")) (wi : (Cond.instantiable C kk).before a0 Z = true)
    (hty : parseFieldDescriptor d = some ty) (hn : narrow ty v = v) (hf : fits ty v = true) (hd : decode c.code pc = .ok (.putfield index, 3)) (N : Fr n0 locs) (g : n0 ≤ a) (pc' : Nat) (hp : pc + 3 = pc')
    (k : ∀ T' h' locs', Stand p l e R s m args below meth c T' locs' cells slots → Fr n0 locs' → T'.heap = h' → Wr h h' a (Jvm.RoadKit.slotOf Z O n d) v → own_G p e below Q (T'.setTop (mkF m pc' Ls st))) : own_G p e below Q (T.setTop (mkF m pc Ls (v :: .ref a :: st))) := by
  subst hp
  obtain ⟨T', h', X', e', W, stp⟩ := putF X hx hZ hown (host := "") (Or.inl w) Via.refl eT F E L wi hty hn hf (g := mkF m pc Ls (v :: .ref a :: st)) rfl rfl hd
  exact own_st stp (k T' h' _ X' (Fr.snoc X' N g) e' W)
/-- putfield of a boolean, byte, char or short: v' is what the field then holds -/
theorem own_putFN (X : Stand p l e R s m args below meth c T locs cells slots) (hx : p.tables.exec = Jvm.exec) (hZ : Z.Warmed39 s.vm) {own : String} (hown : s.vm.findClass own = some m.cls) {O n d C : String} {index kk : Nat} {ty : FieldType} (w : (Cond.fieldLink own index O n d).before a0 Z = true) (eT : T.heap = h) {a : Addr} {v v' old : Value} (F : Fld Z h a O n d old) (E : Exa Z h a C) (L : (Cond.lays C O n d).before a0 Z = true ∨ ((Cond.laysFinal C O n d).before a0 Z = true ∧ own = O ∧ meth.name = "<init>")) (wi : (Cond.instantiable C kk).before a0 Z = true)
    (hty : parseFieldDescriptor d = some ty) (hn : narrow ty v = v') (hf : fits ty v' = true) (hd : decode c.code pc = .ok (.putfield index, 3)) (N : Fr n0 locs) (g : n0 ≤ a) (pc' : Nat) (hp : pc + 3 = pc')
    (k : ∀ T' h' locs', Stand p l e R s m args below meth c T' locs' cells slots → Fr n0 locs' → T'.heap = h' → Wr h h' a (Jvm.RoadKit.slotOf Z O n d) v' → own_G p e below Q (T'.setTop (mkF m pc' Ls st))) : own_G p e below Q (T.setTop (mkF m pc Ls (v :: .ref a :: st))) := by
  subst hp
  obtain ⟨T', h', X', e', W, stp⟩ := putFN X hx hZ hown w Via.refl eT F E L wi hty hn hf (g := mkF m pc Ls (v :: .ref a :: st)) rfl rfl hd
  exact own_st stp (k T' h' _ X' (Fr.snoc X' N g) e' W)
theorem own_initO (X : Stand p l e R s m args below meth c T locs cells slots) (hx : p.tables.exec = Jvm.exec) (hZ : Z.Warmed39 s.vm) {own : String} (hown : s.vm.findClass own = some m.cls) {index : Nat} (w1 : (Cond.methodLink own index ⟨"java/lang/Object", "<init>", "()V"⟩).before a0 Z = true) (w2 : (Cond.instanceMethod ⟨"java/lang/Object", "<init>", "()V"⟩).before a0 Z = true) (w3 : (Cond.code ⟨"java/lang/Object", "<init>", "()V"⟩ object_method_1_code 1 none).before a0 Z = true) (eT : T.heap = h) (hml : Ls.size = c.maxLocals) {a : Addr} (hd : decode c.code pc = .ok (.invokespecial index, 3)) (W : Nat) (hf : 1 ≤ R.frames) (hW : (st.map fun v => v.category).sum ≤ W) (hl : W + 12 ≤ R.locals) (pc' : Nat) (hp : pc + 3 = pc')
    (k : ∀ T', Stand p l e R s m args below meth c T' locs cells slots → T'.heap = h → own_G p e below Q (T'.setTop (mkF m pc' Ls st))) : own_G p e below Q (T.setTop (mkF m pc Ls (.ref a :: st))) := by
  subst hp
  obtain ⟨T', X', e', stp⟩ := initO X hx hZ hown w1 w2 w3 eT (g := mkF m pc Ls (.ref a :: st)) rfl hml rfl hd hf (W := W) (by show 2 * 0 + _ ≤ _; omega) hl
  exact own_st stp (k T' X' e')
theorem own_getS (X : Stand p l e R s m args below meth c T locs cells slots) (hx : p.tables.exec = Jvm.exec) (hZ : Z.Warmed39 s.vm) {own : String} (hown : s.vm.findClass own = some m.cls) {O n d : String} {index : Nat} (w : (Cond.fieldLink own index O n d).before a0 Z = true) (eT : T.heap = h) {v : Value} (F : Sta Z h O n d v) (hd : decode c.code pc = .ok (.getstatic index, 3)) (pc' : Nat) (hp : pc + 3 = pc')
    (k : ∀ T', Stand p l e R s m args below meth c T' locs cells slots → T'.heap = h → own_G p e below Q (T'.setTop (mkF m pc' Ls (v :: st)))) : own_G p e below Q (T.setTop (mkF m pc Ls st)) := by
  subst hp
  obtain ⟨T', X', e', stp⟩ := getS2 X hx hZ hown (host := "") (Or.inl w) Via.refl eT F (g := mkF m pc Ls st) rfl hd
  exact own_st stp (k T' X' e')
theorem own_instY (X : Stand p l e R s m args below meth c T locs cells slots) (hx : p.tables.exec = Jvm.exec) (hZ : Z.Warmed39 s.vm) {own : String} (hown : s.vm.findClass own = some m.cls) {K : String} {index : Nat} (w : (Cond.classLink own index K).before a0 Z = true) (eT : T.heap = h) {a : Addr} (F : Ins Z h a K true) (hd : decode c.code pc = .ok (.instanceof index, 3)) (pc' : Nat) (hp : pc + 3 = pc')
    (k : ∀ T', Stand p l e R s m args below meth c T' locs cells slots → T'.heap = h → own_G p e below Q (T'.setTop (mkF m pc' Ls (.int 1 :: st)))) : own_G p e below Q (T.setTop (mkF m pc Ls (.ref a :: st))) := by
  subst hp
  obtain ⟨T', X', e', stp⟩ := instY X hx hZ hown w eT F (g := mkF m pc Ls (.ref a :: st)) rfl rfl hd
  exact own_st stp (k T' X' e')
theorem own_instNo (X : Stand p l e R s m args below meth c T locs cells slots) (hx : p.tables.exec = Jvm.exec) (hZ : Z.Warmed39 s.vm) {own : String} (hown : s.vm.findClass own = some m.cls) {K C : String} {index : Nat} (w : (Cond.classLink own index K).before a0 Z = true) (eT : T.heap = h) {a : Addr} (E : Exa Z h a C) (F : ∃ c t, Z.vm.findClass C = some c ∧ Z.vm.findClass K = some t ∧ Z.vm.assignable c t = false) (hd : decode c.code pc = .ok (.instanceof index, 3)) (pc' : Nat) (hp : pc + 3 = pc')
    (k : ∀ T', Stand p l e R s m args below meth c T' locs cells slots → T'.heap = h → own_G p e below Q (T'.setTop (mkF m pc' Ls (.int 0 :: st)))) : own_G p e below Q (T.setTop (mkF m pc Ls (.ref a :: st))) := by
  subst hp
  obtain ⟨T', X', e', stp⟩ := instNo X hx hZ hown w eT E F (g := mkF m pc Ls (.ref a :: st)) rfl rfl hd
  exact own_st stp (k T' X' e')
theorem own_instNull (X : Stand p l e R s m args below meth c T locs cells slots) (hx : p.tables.exec = Jvm.exec) {index : Nat} (hd : decode c.code pc = .ok (.instanceof index, 3)) (pc' : Nat) (hp : pc + 3 = pc') (r : own_G p e below Q (T.setTop (mkF m pc' Ls (.int 0 :: st)))) : own_G p e below Q (T.setTop (mkF m pc Ls (.null :: st))) := by
  subst hp
  exact own_st (fun t ht => X.instanceofNull hx (g := mkF m pc Ls (.null :: st)) rfl rfl hd t ht) r
theorem own_castY (X : Stand p l e R s m args below meth c T locs cells slots) (hx : p.tables.exec = Jvm.exec) (hZ : Z.Warmed39 s.vm) {own : String} (hown : s.vm.findClass own = some m.cls) {K : String} {index : Nat} (w : (Cond.classLink own index K).before a0 Z = true) (eT : T.heap = h) {a : Addr} (F : Ins Z h a K true) (hd : decode c.code pc = .ok (.checkcast index, 3)) (pc' : Nat) (hp : pc + 3 = pc')
    (k : ∀ T', Stand p l e R s m args below meth c T' locs cells slots → T'.heap = h → own_G p e below Q (T'.setTop (mkF m pc' Ls (.ref a :: st)))) : own_G p e below Q (T.setTop (mkF m pc Ls (.ref a :: st))) := by
  subst hp
  obtain ⟨T', X', e', stp⟩ := castY X hx hZ hown w eT F (g := mkF m pc Ls (.ref a :: st)) rfl rfl hd
  exact own_st stp (k T' X' e')
theorem own_aaload (X : Stand p l e R s m args below meth c T locs cells slots) (hx : p.tables.exec = Jvm.exec) (hZ : Z.Warmed39 s.vm) (eT : T.heap = h) {a : Addr} {cl : Cell} {K : String} (A : Arr Z h a cl (.object K)) {j : Int32} {v : Value} (hj : ¬ (j < 0 ∨ cl.slots.size ≤ j.toNatClampNeg)) (hv : cl.slots[j.toNatClampNeg]? = some v) (hd : decode c.code pc = .ok (.aaload, 1)) (pc' : Nat) (hp : pc + 1 = pc') (r : own_G p e below Q (T.setTop (mkF m pc' Ls (v :: st)))) : own_G p e below Q (T.setTop (mkF m pc Ls (.int j :: .ref a :: st))) := by
  subst hp
  exact own_st (fun t ht => X.aaload hx (j := j) (by rw [eT]; exact A.1) (State.isArrayOf_alike hZ.alike A.2.1) rfl A.2.2 hj hv (g := mkF m pc Ls (.int j :: .ref a :: st)) rfl rfl hd t ht) r
theorem own_newO (X : Stand p l e R s m args below meth c T locs cells slots) (hx : p.tables.exec = Jvm.exec) (hZ : Z.Warmed39 s.vm) {own : String} (hown : s.vm.findClass own = some m.cls) {C : String} {index n : Nat} (w : (Cond.classLink own index C).before a0 Z = true) (wi : (Cond.instantiable C n).before a0 Z = true) (wz : (Cond.initialized C).before a0 Z = true) (eT : T.heap = h) (hd : decode c.code pc = .ok (.new index, 3)) (hc : cells + 1 ≤ R.cells) (hl : slots + n ≤ R.slots) (pc' : Nat) (hp : pc + 3 = pc')
    (k : ∀ T' h' a, a = h.size → Stand p l e R s m args below meth c T' locs (cells + 1) (slots + n) → T'.heap = h' → Ext h h' → Exa Z h' a C → (∀ {O nm d : String} {ty : FieldType}, Laid Z a0 C O nm d → parseFieldDescriptor d = some ty → Fld Z h' a O nm d (defaultValue ty)) → own_G p e below Q (T'.setTop (mkF m pc' Ls (.ref a :: st)))) : own_G p e below Q (T.setTop (mkF m pc Ls st)) := by
  subst hp
  obtain ⟨T', h', X', e', E, A, D, -, stp⟩ := newO X hx hZ hown w wi wz eT (g := mkF m pc Ls st) rfl hd hc hl
  exact own_st stp (k T' h' _ rfl X' e' E A D)
theorem own_newP (X : Stand p l e R s m args below meth c T locs cells slots) (hx : p.tables.exec = Jvm.exec) (hZ : Z.Warmed39 s.vm) {aty : ArrayType} (w : (Cond.arrayClass (newarray.typeOf aty)).before a0 Z = true) (eT : T.heap = h) (hd : decode c.code pc = .ok (.newarray aty, 2)) {n : Int32} (hn : ¬ n < 0) (cap : Nat) (hcap : n.toNatClampNeg ≤ cap) (hb : cap * 8 ≤ 536870912) (hc : cells + 1 ≤ R.cells) (hl : slots + cap ≤ R.slots) (pc' : Nat) (hp : pc + 2 = pc')
    (k : ∀ T' h' cA a, a = h.size → Stand p l e R s m args below meth c T' locs (cells + 1) (slots + cap) → T'.heap = h' → Ext h h' → Arr Z h' a (newA cA (newarray.typeOf aty) n) (newarray.typeOf aty) → own_G p e below Q (T'.setTop (mkF m pc' Ls (.ref a :: st)))) : own_G p e below Q (T.setTop (mkF m pc Ls (.int n :: st))) := by
  subst hp
  obtain ⟨T', h', cA, X', e', E, A, stp⟩ := newP X hx hZ w eT (g := mkF m pc Ls (.int n :: st)) rfl hd rfl hn hcap hb hc hl
  exact own_st stp (k T' h' cA _ rfl X' e' E A)
theorem own_newR (X : Stand p l e R s m args below meth c T locs cells slots) (hx : p.tables.exec = Jvm.exec) (hZ : Z.Warmed39 s.vm) {own : String} (hown : s.vm.findClass own = some m.cls) {C : String} {index : Nat} (w1 : (Cond.classLink own index C).before a0 Z = true) (w2 : (Cond.arrayOver (.object C)).before a0 Z = true) (eT : T.heap = h) (hd : decode c.code pc = .ok (.anewarray index, 3)) {n : Int32} (hn : ¬ n < 0) (cap : Nat) (hcap : n.toNatClampNeg ≤ cap) (hb : cap * 8 ≤ 536870912) (hc : cells + 1 ≤ R.cells) (hl : slots + cap ≤ R.slots) (pc' : Nat) (hp : pc + 3 = pc')
    (k : ∀ T' h' cA a, a = h.size → Stand p l e R s m args below meth c T' locs (cells + 1) (slots + cap) → T'.heap = h' → Ext h h' → Arr Z h' a (newA cA (.object C) n) (.object C) → own_G p e below Q (T'.setTop (mkF m pc' Ls (.ref a :: st)))) : own_G p e below Q (T.setTop (mkF m pc Ls (.int n :: st))) := by
  subst hp
  obtain ⟨T', h', cA, X', e', E, A, -, stp⟩ := newR X hx hZ hown w1 w2 eT (g := mkF m pc Ls (.int n :: st)) rfl hd rfl hn hcap hb hc hl
  exact own_st stp (k T' h' cA _ rfl X' e' E A)
/-- an array of ints, bytes, chars or booleans (as ints): its length, what place j holds -/
def own_A (Z : State) (h : Heap) (a : Addr) (ty : FieldType) (n : Nat) (f : Nat → Int32) : Prop := ∃ c : Cell, Arr Z h a c ty ∧ c.slots.size = n ∧ ∀ j, j < n → c.slots[j]? = some (.int (f j))
variable {h' : Heap} {a b : Addr} {ty : FieldType} {n : Nat} {f : Nat → Int32} {sl : Nat} {v : Value} {wl : List Addr}
theorem own_A.lt (A : own_A Z h a ty n f) : a < h.size := by obtain ⟨c, A, -⟩ := A; exact A.lt
theorem own_A.ext (A : own_A Z h a ty n f) (E : Ext h h') : own_A Z h' a ty n f := by obtain ⟨c, A, r⟩ := A; exact ⟨c, A.ext E, r⟩
theorem own_A.other (A : own_A Z h a ty n f) (W : Wr h h' b sl v) (q : a ≠ b) : own_A Z h' a ty n f := by obtain ⟨c, A, r⟩ := A; exact ⟨c, A.other W q, r⟩
theorem own_A.keep (A : own_A Z h a ty n f) (K : Keep h h' wl) (q : a ∉ wl) : own_A Z h' a ty n f := by obtain ⟨c, A, r⟩ := A; exact ⟨c, ⟨K.2.1 a c A.1 q, A.2⟩, r⟩
theorem own_A.set (A : own_A Z h a ty n f) {i : Nat} {x : Int32} (W : Wr h h' a i (.int x)) : own_A Z h' a ty n (fun j => if i = j then x else f j) := by
  obtain ⟨c, A, S, H⟩ := A
  refine ⟨_, A.same W, by rw [sz_set]; exact S, fun j hj => ?_⟩
  by_cases q : i = j
  · subst q
    simp [Cell.setSlot, S, hj]
  · simp only [Cell.setSlot, q, if_false]
    rw [Array.getElem?_setIfInBounds_ne q]
    exact H j hj
theorem own_A.congr (A : own_A Z h a ty n f) {g : Nat → Int32} (q : ∀ j, j < n → f j = g j) : own_A Z h a ty n g := by
  obtain ⟨c, A, S, H⟩ := A
  exact ⟨c, A, S, fun j hj => by rw [← q j hj]; exact H j hj⟩
theorem own_A.new {cA : ClassId} {z : Int32} (A : Arr Z h a (newA cA ty z) ty) (hz : z.toNatClampNeg = n) (hd : defaultValue ty = .int 0) : own_A Z h a ty n (fun _ => 0) := by
  refine ⟨_, A, by rw [sz_new]; exact hz, fun j hj => ?_⟩
  simp [newA, hz, hj, hd]
theorem own_nin {z : Int32} {nn : Nat} {cl : Cell} (S : cl.slots.size = nn) (q : ¬ z < 0 ∧ z.toNatClampNeg < nn) : ¬ (z < 0 ∨ cl.slots.size ≤ z.toNatClampNeg) := fun w => w.elim q.1 fun u => Nat.not_lt.mpr (S ▸ u) q.2
theorem own_iaload (X : Stand p l e R s m args below meth c T locs cells slots) (hx : p.tables.exec = Jvm.exec) (hZ : Z.Warmed39 s.vm) (eT : T.heap = h) (A : own_A Z h a .int n f) {j : Int32} (hj : ¬ j < 0 ∧ j.toNatClampNeg < n) {x : Int32} (hv : f j.toNatClampNeg = x) (hd : decode c.code pc = .ok (.iaload, 1)) (pc' : Nat) (hp : pc + 1 = pc') (r : own_G p e below Q (T.setTop (mkF m pc' Ls (.int x :: st)))) : own_G p e below Q (T.setTop (mkF m pc Ls (.int j :: .ref a :: st))) := by
  subst hp hv
  obtain ⟨cl, A, S, H⟩ := A
  exact own_st (fun t ht => X.iaload hx (j := j) (by rw [eT]; exact A.1) (State.isArrayOf_alike hZ.alike A.2.1) A.2.2 (own_nin S hj) (H _ hj.2) (g := mkF m pc Ls (.int j :: .ref a :: st)) rfl rfl hd t ht) r
theorem own_zaload (X : Stand p l e R s m args below meth c T locs cells slots) (hx : p.tables.exec = Jvm.exec) (hZ : Z.Warmed39 s.vm) (eT : T.heap = h) (A : own_A Z h a .boolean n f) {j : Int32} (hj : ¬ j < 0 ∧ j.toNatClampNeg < n) {x : Int32} (hv : f j.toNatClampNeg = x) (hd : decode c.code pc = .ok (.baload, 1)) (pc' : Nat) (hp : pc + 1 = pc') (r : own_G p e below Q (T.setTop (mkF m pc' Ls (.int x :: st)))) : own_G p e below Q (T.setTop (mkF m pc Ls (.int j :: .ref a :: st))) := by
  subst hp hv
  obtain ⟨cl, A, S, H⟩ := A
  exact own_st (fun t ht => X.baloadBooleans hx (j := j) (by rw [eT]; exact A.1) (State.isArrayOf_alike hZ.alike A.2.1) A.2.2 (own_nin S hj) (H _ hj.2) (g := mkF m pc Ls (.int j :: .ref a :: st)) rfl rfl hd t ht) r
theorem own_baload (X : Stand p l e R s m args below meth c T locs cells slots) (hx : p.tables.exec = Jvm.exec) (hZ : Z.Warmed39 s.vm) (eT : T.heap = h) (A : own_A Z h a .byte n f) {j : Int32} (hj : ¬ j < 0 ∧ j.toNatClampNeg < n) {x : Int32} (hv : f j.toNatClampNeg = x) (hd : decode c.code pc = .ok (.baload, 1)) (pc' : Nat) (hp : pc + 1 = pc') (r : own_G p e below Q (T.setTop (mkF m pc' Ls (.int x :: st)))) : own_G p e below Q (T.setTop (mkF m pc Ls (.int j :: .ref a :: st))) := by
  subst hp hv
  obtain ⟨cl, A, S, H⟩ := A
  exact own_st (fun t ht => X.baloadBytes hx (j := j) (by rw [eT]; exact A.1) (State.isArrayOf_alike hZ.alike A.2.1) A.2.2 (own_nin S hj) (H _ hj.2) (g := mkF m pc Ls (.int j :: .ref a :: st)) rfl rfl hd t ht) r
theorem own_ialoadE (X : Stand p l e R s m args below meth c T locs cells slots) (hx : p.tables.exec = Jvm.exec) (hZ : Z.Warmed39 s.vm) (eT : T.heap = h) (A : own_A Z h a .int n f) {j : Int32} (hj : ¬ j < 0 ∧ j.toNatClampNeg < n) (hd : decode c.code pc = .ok (.iaload, 1)) (pc' : Nat) (hp : pc + 1 = pc') (r : ∀ x, f j.toNatClampNeg = x → own_G p e below Q (T.setTop (mkF m pc' Ls (.int x :: st)))) : own_G p e below Q (T.setTop (mkF m pc Ls (.int j :: .ref a :: st))) := own_iaload X hx hZ eT A hj rfl hd pc' hp (r _ rfl)
theorem own_zaloadE (X : Stand p l e R s m args below meth c T locs cells slots) (hx : p.tables.exec = Jvm.exec) (hZ : Z.Warmed39 s.vm) (eT : T.heap = h) (A : own_A Z h a .boolean n f) {j : Int32} (hj : ¬ j < 0 ∧ j.toNatClampNeg < n) (hd : decode c.code pc = .ok (.baload, 1)) (pc' : Nat) (hp : pc + 1 = pc') (r : ∀ x, f j.toNatClampNeg = x → own_G p e below Q (T.setTop (mkF m pc' Ls (.int x :: st)))) : own_G p e below Q (T.setTop (mkF m pc Ls (.int j :: .ref a :: st))) := own_zaload X hx hZ eT A hj rfl hd pc' hp (r _ rfl)
theorem own_baloadE (X : Stand p l e R s m args below meth c T locs cells slots) (hx : p.tables.exec = Jvm.exec) (hZ : Z.Warmed39 s.vm) (eT : T.heap = h) (A : own_A Z h a .byte n f) {j : Int32} (hj : ¬ j < 0 ∧ j.toNatClampNeg < n) (hd : decode c.code pc = .ok (.baload, 1)) (pc' : Nat) (hp : pc + 1 = pc') (r : ∀ x, f j.toNatClampNeg = x → own_G p e below Q (T.setTop (mkF m pc' Ls (.int x :: st)))) : own_G p e below Q (T.setTop (mkF m pc Ls (.int j :: .ref a :: st))) := own_baload X hx hZ eT A hj rfl hd pc' hp (r _ rfl)
theorem own_arrlen (X : Stand p l e R s m args below meth c T locs cells slots) (hx : p.tables.exec = Jvm.exec) (hZ : Z.Warmed39 s.vm) (eT : T.heap = h) (A : own_A Z h a ty n f) {z : Int32} (hz : n.toInt32 = z) (hd : decode c.code pc = .ok (.arraylength, 1)) (pc' : Nat) (hp : pc + 1 = pc') (r : own_G p e below Q (T.setTop (mkF m pc' Ls (.int z :: st)))) : own_G p e below Q (T.setTop (mkF m pc Ls (.ref a :: st))) := by
  subst hp hz
  obtain ⟨cl, A, S, H⟩ := A
  subst S
  exact own_st (fun t ht => X.arraylength hx (by rw [eT]; exact A.1) (State.isArrayOf_alike hZ.alike A.2.1) (g := mkF m pc Ls (.ref a :: st)) rfl rfl hd t ht) r
theorem own_iastore (X : Stand p l e R s m args below meth c T locs cells slots) (hx : p.tables.exec = Jvm.exec) (hZ : Z.Warmed39 s.vm) (eT : T.heap = h) (A : own_A Z h a .int n f) {j x : Int32} (hj : ¬ j < 0 ∧ j.toNatClampNeg < n) (hd : decode c.code pc = .ok (.iastore, 1)) (N : Fr n0 locs) (g : n0 ≤ a) (pc' : Nat) (hp : pc + 1 = pc')
    (k : ∀ T' h' locs', Stand p l e R s m args below meth c T' locs' cells slots → Fr n0 locs' → T'.heap = h' → Wr h h' a j.toNatClampNeg (.int x) → own_G p e below Q (T'.setTop (mkF m pc' Ls st))) : own_G p e below Q (T.setTop (mkF m pc Ls (.int x :: .int j :: .ref a :: st))) := by
  subst hp
  obtain ⟨cl, A, S, H⟩ := A
  obtain ⟨T', h', X', e', W, stp⟩ := stI X hx hZ eT A (own_nin S hj) (g := mkF m pc Ls (.int x :: .int j :: .ref a :: st)) rfl rfl hd
  exact own_st stp (k T' h' _ X' (Fr.snoc X' N g) e' W)
theorem own_zastore (X : Stand p l e R s m args below meth c T locs cells slots) (hx : p.tables.exec = Jvm.exec) (hZ : Z.Warmed39 s.vm) (eT : T.heap = h) (A : own_A Z h a .boolean n f) {j x : Int32} (hj : ¬ j < 0 ∧ j.toNatClampNeg < n) (hd : decode c.code pc = .ok (.bastore, 1)) (N : Fr n0 locs) (g : n0 ≤ a) (pc' : Nat) (hp : pc + 1 = pc')
    (k : ∀ T' h' locs', Stand p l e R s m args below meth c T' locs' cells slots → Fr n0 locs' → T'.heap = h' → Wr h h' a j.toNatClampNeg (.int (nar .boolean x)) → own_G p e below Q (T'.setTop (mkF m pc' Ls st))) : own_G p e below Q (T.setTop (mkF m pc Ls (.int x :: .int j :: .ref a :: st))) := by
  subst hp
  obtain ⟨cl, A, S, H⟩ := A
  obtain ⟨T', h', X', e', W, stp⟩ := stZ X hx hZ eT A (own_nin S hj) (g := mkF m pc Ls (.int x :: .int j :: .ref a :: st)) rfl rfl hd
  exact own_st stp (k T' h' _ X' (Fr.snoc X' N g) e' W)
end OwnBase
theorem own_ready {p : Program} {l : Launch} {e : Env} {R : Room} {s : State} {m : MethodId} {args : Array Value} {below : List Frame} {meth : Method} {c : Code} {T : State} {locs : List Loc} {cells slots : Nat} {Z : State} {a0 : Array Value} (X : Stand p l e R s m args below meth c T locs cells slots) (hZ : Z.Warmed39 s.vm) {own : String} (hown : s.vm.findClass own = some m.cls) {O n d : String} {index : Nat} (w : (Cond.fieldRef own index O n d).before a0 Z = true) {cf i : Nat} {k : Class} {f : Field} (hf : Z.fieldFound? O n d = some (cf, k, i, f)) : T.vm.fieldReady m.cls index cf f := by
  have hT : Z.Warmed39 T.vm := wtrans hZ X.warmed
  have w' := Cond.fieldRef_warmed39 hT w
  have hcur : (Z.setVm T.vm).vm.findClass own = some m.cls := by
    show T.vm.findClass own = some m.cls
    rw [X.warmed.alike.findClass]; exact hown
  obtain ⟨c', k', i', f', h1, h2⟩ := Cond.fieldRef_spec hcur w'
  obtain ⟨k2, h3, -⟩ := State.fieldFound?_setVm (s := Z) hT.alike hf
  cases h3.symm.trans h1
  exact h2
section OwnRef
variable {p : Program} {l : Launch} {e : Env} {R : Room} {s : State} {m : MethodId} {args : Array Value} {below : List Frame} {meth : Method} {c : Code} {T : State} {locs : List Loc} {cells slots : Nat} {Q : Outcome → State → Prop} {pc : Nat} {Ls : Array Slot} {st : List Value} {Z : State} {a0 : Array Value} {h : Heap} {n0 : Nat}
theorem own_getFR (X : Stand p l e R s m args below meth c T locs cells slots) (hx : p.tables.exec = Jvm.exec) (hZ : Z.Warmed39 s.vm) {own : String} (hown : s.vm.findClass own = some m.cls) {O n d : String} {index : Nat} (w : (Cond.fieldRef own index O n d).before a0 Z = true) (eT : T.heap = h) {a : Addr} {v : Value} (F : Fld Z h a O n d v) (hd : decode c.code pc = .ok (.getfield index, 3)) (pc' : Nat) (hp : pc + 3 = pc')
    (r : own_G p e below Q (T.setTop (mkF m pc' Ls (v :: st)))) : own_G p e below Q (T.setTop (mkF m pc Ls (.ref a :: st))) := by
  subst hp
  obtain ⟨cell, cf, k, i, f, h1, h2, h3, h4, h5, h6, h7⟩ := F
  have hr := own_ready X hZ hown w h2
  refine own_st (fun t ht => ?_) r
  have hc : T.heap[a]? = some cell := by rw [eT]; exact h1
  jvm_step X.here [hx, hd, getfield.wp_ready (e := e) (s := T) (f := mkF m pc Ls (.ref a :: st)) X.here.top hr h3 rfl hc h4 h7]
  exact ht
theorem own_putFR (X : Stand p l e R s m args below meth c T locs cells slots) (hx : p.tables.exec = Jvm.exec) (hZ : Z.Warmed39 s.vm) {own : String} (hown : s.vm.findClass own = some m.cls) {O n d C : String} {index kk : Nat} {ty : FieldType} (w : (Cond.fieldRef own index O n d).before a0 Z = true) (eT : T.heap = h) {a : Addr} {v old : Value} (F : Fld Z h a O n d old) (E : Exa Z h a C) (L : (Cond.lays C O n d).before a0 Z = true) (wi : (Cond.instantiable C kk).before a0 Z = true)
    (hty : parseFieldDescriptor d = some ty) (hn : narrow ty v = v) (hf : fits ty v = true) (hd : decode c.code pc = .ok (.putfield index, 3)) (N : Fr n0 locs) (g : n0 ≤ a) (pc' : Nat) (hp : pc + 3 = pc')
    (k : ∀ T' h' locs', Stand p l e R s m args below meth c T' locs' cells slots → Fr n0 locs' → T'.heap = h' → Wr h h' a (Jvm.RoadKit.slotOf Z O n d) v → own_G p e below Q (T'.setTop (mkF m pc' Ls st))) : own_G p e below Q (T.setTop (mkF m pc Ls (v :: .ref a :: st))) := by
  subst hp
  obtain ⟨cell, cf, kf, i, f, h1, h2, h3, h4, h5, -, h7⟩ := F
  have hr := own_ready X hZ hown w h2
  obtain ⟨cell', kc, e1, e2, e3, -⟩ := E
  cases h1.symm.trans e1
  obtain ⟨c1, k1, cf1, kf1, i1, f1, a1, a2, a3, -, a5, -, a6, -⟩ := Cond.lays_spec L
  cases h2.symm.trans a3
  cases e2.symm.trans a1
  obtain ⟨c2, k2, j1, j2, j3, -⟩ := Cond.instantiable_spec wi
  cases e2.symm.trans j1
  cases a2.symm.trans j2
  have ht := (State.fieldFound?_type h2 hty).2
  have hfit : Z.fitsSlot cell.cls cell.vm f.slot v = true := by
    have q : Z.slotType? cell.cls cell.vm f.slot = some ty := by
      simp only [State.slotType?, a2, Option.bind_eq_bind, Option.bind_some, j3]
      cases hq : cell.vm <;> first | (rw [hq] at h5; exact Bool.noConfusion h5) | (rw [a6, ht])
    simp [State.fitsSlot, q, hf]
  have hlt : f.slot < cell.slots.size := (Array.getElem?_eq_some_iff.mp h7).1
  have hc : T.heap[a]? = some cell := by rw [eT]; exact h1
  have hT : Z.Warmed39 T.vm := wtrans hZ X.warmed
  have hfitT : T.fitsSlot cell.cls cell.vm f.slot v = true := by
    show (Z.setVm T.vm).fitsSlot cell.cls cell.vm f.slot v = true
    rw [State.fitsSlot_setVm hT.alike]; exact hfit
  have X' := X.stored hc f.slot v
  have es : Jvm.RoadKit.slotOf Z O n d = f.slot := by simp [Jvm.RoadKit.slotOf, h2]
  refine own_st (fun t ht' => ?_) (k _ _ _ X' (Fr.snoc X' N g) rfl ⟨cell, h1, h5, by rw [es]; exact hlt, by rw [es, ← eT]; rfl⟩)
  have hn' : narrow f.type v = v := by rw [ht]; exact hn
  jvm_step X.here [hx, hd, putfield.wp_ready (e := e) (s := T) (f := mkF m pc Ls (v :: .ref a :: st)) X.here.top hr h3 a5 rfl hc h4, hn', hlt, hfitT]
  exact ht'
end OwnRef
section OwnRef2
variable {p : Program} {l : Launch} {e : Env} {R : Room} {s : State} {m : MethodId} {args : Array Value} {below : List Frame} {meth : Method} {c : Code} {T : State} {locs : List Loc} {cells slots : Nat} {Q : Outcome → State → Prop} {pc : Nat} {Ls : Array Slot} {st : List Value} {Z : State} {a0 : Array Value} {h : Heap} {n0 : Nat} {y : MethodName} {bytes : ByteArray} {maxL : Nat} {rm : Room} {as' : Array Value} {P : Option Value → Heap → Prop}
/-- 'invokespecial' of a constructor through an entry that is resolved -/
theorem own_callIR (X : Stand p l e R s m args below meth c T locs cells slots) (hx : p.tables.exec = Jvm.exec) (hZ : Z.Warmed39 s.vm) {own : String} {index : Nat} (hown : s.vm.findClass own = some m.cls) (hi : y.name = "<init>") (w1 : (Cond.methodRef own index y).before a0 Z = true) (w2 : (Cond.instanceMethod y).before a0 Z = true) (wz : (Cond.initialized y.cls).before a0 Z = true) (wc : (Cond.code y bytes maxL none).before a0 Z = true)
    (hy : y.cls ≠ "java/lang/invoke/MethodHandle" ∧ y.cls ≠ "java/lang/invoke/VarHandle") (W : Nat) (M : own_Met l Z y bytes maxL none [] rm as' h n0 P) (eT : T.heap = h) (hml : Ls.size = c.maxLocals) (a : Addr) (argsL rest : List Value) (ha : (Value.ref a :: argsL).toArray = as') (hlen : ∀ sig, parseMethodDescriptor y.desc = some sig → argsL.length = sig.parameters.length)
    (hst : st = argsL.reverse ++ .ref a :: rest) (hW : (rest.map fun v => v.category).sum ≤ W) (hf : rm.frames + 1 ≤ R.frames) (hl : W + (maxL + 11) + rm.locals ≤ R.locals) (hcl : cells + rm.cells ≤ R.cells) (hsl : slots + rm.slots ≤ R.slots) (hd : decode c.code pc = .ok (.invokespecial index, 3)) (N : Fr n0 locs) (pc' : Nat) (hp : pc + 3 = pc')
    (k : ∀ v T' locs', Stand p l e R s m args below meth c T' locs' (cells + rm.cells) (slots + rm.slots) → Fr n0 locs' → P v T'.heap → own_G p e below Q (T'.setTop (mkF m pc' Ls (v.toList ++ rest)))) : own_G p e below Q (T.setTop (mkF m pc Ls st)) := by
  subst hp
  have hT : Z.Warmed39 T.vm := wtrans hZ X.warmed
  obtain ⟨mz, methZ, hnZ, hmZ, hstZ, habZ⟩ := Cond.instanceMethod_spec w2
  have w1' := Cond.methodRef_warmed39 hT hnZ hy w1
  have hcur : (Z.setVm T.vm).vm.findClass own = some m.cls := by
    show T.vm.findClass own = some m.cls
    rw [X.warmed.alike.findClass]; exact hown
  obtain ⟨m', c', hf', hready, hfind, hres⟩ := Cond.methodRef_named e hcur w1'
  have hnT : (Z.setVm T.vm).methodNamed? y = some mz := by rw [State.methodNamed?_setVm hT.alike]; exact hnZ
  cases (State.methodFound?_of_named hnT hy).symm.trans hf'
  cases (findClass_of_methodNamed hnT).symm.trans hfind
  obtain ⟨methC, cC, hmC, hcC, -, -, -, -, -, hsig⟩ := Cond.code_spec hnZ wc
  cases hmZ.symm.trans hmC
  have hmT : (Z.setVm T.vm).vm.method? mz = some methZ := by
    show T.vm.method? mz = _
    rw [hT.alike.method?]; exact hmZ
  obtain ⟨kk, hkk, -⟩ := className_of_methodNamed hnT
  obtain ⟨q1, q2⟩ := name_of_methodNamed hnT hmT
  have hfound : lookupSpecial T.vm mz.cls "<init>" methZ.desc = .method mz := by
    rw [q2, ← hi]
    exact lookupSpecial_of_named hnT hmT hstZ
  obtain ⟨v, ⟨T', L', k', n'⟩, X', ⟨Lc, hQ, l1, y1, z1⟩, stp⟩ := own_back (below' := below) (W := W) (len := 3) M hZ wc wz hf hl m meth c ⟨T, locs, cells, slots⟩ { (mkF m pc Ls st) with stack := rest } (.invokespecial index) mz (.ref a :: argsL).toArray X rfl hml hd (by show 2 * 0 + (rest.map fun v => v.category).sum ≤ W; omega) hnT ⟨ha, eT, hcl, hsl⟩
  dsimp only [Pt.U, Pt.locs, Pt.cells, Pt.slots] at X' l1 y1 z1 stp hQ
  subst l1 y1 z1
  refine own_st (fun t ht => ?_) (k v T' _ X' (N.app hQ.1) hQ.2)
  have hrest : ∀ acts, Steps p.tables e below (doInvoke e (T.setTop { (mkF m pc Ls st) with stack := rest }) acts mz (.ref a :: argsL).toArray).1 t := fun acts => by rw [doInvoke_state]; exact stp.trans ht
  jvm_step X.here [hx, hd, invokespecial.wp_init (e := e) (s := T) (f := mkF m pc Ls st) (m := mz) (k := kk) (meth := methZ) (a := a) (args := argsL) (rest := rest) X.here.top hres hready hkk hmT (q1.trans hi) hstZ habZ hfound (hlen _ hsig) hst]
  exact hrest
end OwnRef2
/-- a Latin-1 String at a whose bytes are those of units, read over the tables of the start -/
theorem own_str {Z W : State} {a : Addr} {units : Array UInt16} (hal : Z.vm.Alike W.vm) (hlat : units.all (· < 256) = true) (S : SlOf W a units) :
    ∃ (b : Addr) (f : Nat → Int32), Exa Z W.heap a "java/lang/String" ∧ Fld Z W.heap a "java/lang/String" "coder" "B" (.int 0) ∧ Fld Z W.heap a "java/lang/String" "value" "[B" (.ref b) ∧ own_A Z W.heap b .byte units.size f := by
  obtain ⟨q, cS, hqa, ⟨⟨s1, s2, s3, ⟨cv, kv, iv, s4, s4'⟩, ⟨cc, kc, ic, s5, s5'⟩, s6, s7, s8, s9, s10, s11, s12, s13, s14, s15, s16⟩, hfS, hcS⟩, ⟨kS, k1, k2, k3⟩, hB, hbyt⟩ := S
  subst hqa
  obtain ⟨kv', z4⟩ := ff_back hal s4
  obtain ⟨kc', z5⟩ := ff_back hal s5
  have hfZ : Z.vm.findClass "java/lang/String" = some q.sC.cls := by rw [← hal.findClass, hcS]; exact hfS
  obtain ⟨kz, hkz, -⟩ := Vm.findClass_spec hfZ
  obtain ⟨kz', hkz', ekz⟩ := hal.2.2 _ _ hkz
  have ekS : kz' = kS := Option.some.inj (hkz'.symm.trans (hcS ▸ k1))
  have hBZ : Z.vm.findClass "[B" = some q.SA.cls := by rw [← hal.findClass]; exact hB
  obtain ⟨kb, hkb, -⟩ := Vm.findClass_spec hBZ
  obtain ⟨kb', hkb', ekb⟩ := hal.2.2 _ _ hkb
  obtain ⟨hst, k9, hk9, comp, hkind9⟩ := s11
  have ek9 : k9 = kb' := Option.some.inj (hk9.symm.trans hkb')
  have hAZ : Z.isArrayOf q.SA .byte := ⟨hst, kb, hkb, comp, by rw [ek9, ekb] at hkind9; exact hkind9⟩
  have hsl : q.SA.slots = units.map fun u => Value.int (Jvm.Lit.byteI u) := by rw [hbyt, SBG.stringBytes_lat hlat]; rfl
  refine ⟨q.sd, fun j => Jvm.Lit.byteI (units.getD j 0), ⟨q.sC, kz, s1, hfZ, hkz, s3, fun ho => by rw [k3, ← ekS, ekz]⟩, ⟨q.sC, cc, kc', ic, q.fSC, s1, z5, s7, s2, s3, by rw [← hal.assignable]; exact s5', s9⟩, ⟨q.sC, cv, kv', iv, q.fSV, s1, z4, s6, s2, s3, by rw [← hal.assignable]; exact s4', s8⟩, ⟨q.SA, ⟨s10, hAZ, s12⟩, by rw [hsl, Array.size_map], fun j hj => ?_⟩⟩
  rw [hsl]
  simp [hj]
section OwnLdc
variable {p : Program} {l : Launch} {e : Env} {R : Room} {s : State} {vm0 : Vm} {m : MethodId} {args : Array Value} {below : List Frame} {meth : Method} {c : Code} {T : State} {locs : List Loc} {cells slots : Nat} {Q : Outcome → State → Prop} {pc : Nat} {Ls : Array Slot} {st : List Value} {Z : State} {a0 : Array Value} {h : Heap} {n0 : Nat}
/-- 'ldc' of a String constant: the String that the JVM holds, or a new one; its length -/
theorem own_ldcS (X : Stand p l e R (s.setVm vm0) m args below meth c T locs cells slots) (hx : p.tables.exec = Jvm.exec) (hZ : Z.Warmed39 vm0) {own text : String} {index : Nat} (hown : vm0.findClass own = some m.cls) (w : (Cond.stringLink own index text).before a0 Z = true) (wS : ∀ a ∈ Bundle.stringAtoms, a.before a0 Z = true)
    (eT : T.heap = h) {k0 : Nat} (hS : s.Since vm0 k0) (hk : k0 ≤ h.size) (O : Old Z n0 h) {Ts : List String} (I : IB Z vm0 Ts) (hnot : text ∉ Ts) (hh : Jvm.Lit.constHeld Z own index) (hcw : Jvm.Lit.compactW.before a0 Z = true) (ht : ∀ c ∈ text.toList, c.toNat < 256)
    (hd : decode c.code pc = .ok (.ldc index, 2)) {n : Nat} (hn : 4 * text.toList.length ≤ n) (hbig : n ≤ 536870912) (hc : cells + 2 ≤ R.cells) (hl : slots + (n + 4) ≤ R.slots) (pc' : Nat) (hp : pc + 2 = pc')
    (k : ∀ (a b : Addr) (f : Nat → Int32) (T' : State) (h' : Heap), Stand p l e R (s.setVm T'.vm) m args below meth c T' locs (cells + 2) (slots + (n + 4)) → T'.heap = h' → Ext h h' → s.Since T'.vm h'.size → Z.Warmed39 T'.vm → T'.vm.findClass own = some m.cls → IB Z T'.vm (text :: Ts) →
      (a < n0 ∨ h.size ≤ a) → Exa Z h' a "java/lang/String" → Fld Z h' a "java/lang/String" "coder" "B" (.int 0) → Fld Z h' a "java/lang/String" "value" "[B" (.ref b) → own_A Z h' b .byte text.toList.length f → own_G p e below Q (T'.setTop (mkF m pc' Ls (.ref a :: st)))) : own_G p e below Q (T.setTop (mkF m pc Ls st)) := by
  subst hp
  have wi : (Cond.instantiable "java/lang/String" 4).before a0 Z = true := wS _ (by simp [Bundle.stringAtoms, Bundle.sN])
  have wa : (Cond.arrayClass .byte).before a0 Z = true := wS _ (by simp [Bundle.stringAtoms])
  have hH : ConstHeldL (Z.setVm vm0) own index := heldCarry (s := Z) hZ w I hnot (fun _ _ q => q) (heldStart hh w ht hcw wa wi)
  have hS' : ∀ a ∈ Bundle.stringAtoms, a.before args (s.setVm vm0) = true := fun d hd => by
    have q := wS d hd
    simp only [Bundle.stringAtoms, List.mem_cons, List.not_mem_nil, or_false] at hd
    rcases hd with rfl | rfl | rfl | rfl | rfl | rfl | rfl
    · exact mv (s := s.setVm vm0) hZ q
    · exact mv (s := s.setVm vm0) hZ q
    · exact mvA (s := s.setVm vm0) hZ q
    · exact mv (s := s.setVm vm0) hZ q
    · exact mv (s := s.setVm vm0) hZ q
    · exact mv (s := s.setVm vm0) hZ q
    · exact mv (s := s.setVm vm0) hZ q
  obtain ⟨a, T', X', hS2, -, hkeep, -, hint, ⟨units, htext, hroad⟩, stp⟩ := X.ldcRoads hx (own := own) hown (mvS hZ w) hS' (g := mkF m pc Ls st) rfl hd hn hbig hc hl
  subst eT
  have E := ext_of hkeep
  have hW : Z.Warmed39 T'.vm := State.Warmed39.trans (t := s.setVm vm0) hZ hS2.1
  have hlat := Jvm.ClassFile.lat_of_text htext ht
  have hTi : T.vm.interned = vm0.interned := X.warmed.interned_eq
  have hsz : units.size = text.toList.length := by
    have := congrArg List.length (Jvm.ClassFile.units_of_text htext ht)
    simpa using this
  have hS3 : s.Since T'.vm T'.heap.size := hS.trans hS2 (Nat.le_trans hk E.1)
  have key : SlOf T' a units ∧ (a < n0 ∨ T.heap.size ≤ a) := by
    rcases hroad with ⟨⟨cc, kk, cf, i, u1, u2, u3, u4, u5, u6⟩, hh'⟩ | M
    · have S1 := hH cc kk cf i units a u1 u2 u3 u4 u5 u6
      refine ⟨S1.moved (W := T') (hZ.alike.symm.trans hW.alike) (fun b cl q => E.2 b cl (O.2.2 b cl q)), Or.inl ?_⟩
      obtain ⟨q, cS, hqa, ⟨⟨s1, -⟩, -⟩, -⟩ := S1
      subst hqa
      exact O.1 ▸ (Array.getElem?_eq_some_iff.mp s1).1
    · obtain ⟨Zs, kS', LZ, n4, hty, -, -, h31, ha, hh2⟩ := M
      subst ha
      have hb : T'.heap[T.heap.size]? = some (bytesOf Zs.cB units) := by rw [hh2]; simp [Array.getElem?_push]
      have hs2 : T'.heap[T.heap.size + 1]? = some (stringAt Zs.cS kS' Zs.fv Zs.fc units T.heap.size) := by
        rw [hh2, Array.getElem?_push, if_pos (by rw [Array.size_push])]
      obtain ⟨q, cS, r1, r2, r3, r4, r5, -⟩ := made_sl hS' LZ n4 hty hS2.1.alike hb hs2 hlat h31 0
      exact ⟨⟨q, cS, r1, r2, r3, r4, r5⟩, Or.inr (Nat.le_succ _)⟩
  obtain ⟨b, f, g1, g2, g3, g4⟩ := own_str hW.alike hlat key.1
  refine own_st stp (k a b f T' _ X' rfl E hS3 hW (by rw [hS2.1.alike.findClass]; exact hown) (I.step (by rw [← hTi]; exact hint)) key.2 g1 g2 g3 (hsz ▸ g4))
end OwnLdc
section OwnWide
variable {p : Program} {l : Launch} {e : Env} {R : Room} {s : State} {vm0 : Vm} {m : MethodId} {args : Array Value} {below : List Frame} {meth : Method} {c : Code} {T : State} {locs : List Loc} {cells slots : Nat} {Q : Outcome → State → Prop} {pc : Nat} {Ls : Array Slot} {st : List Value} {Z : State} {a0 : Array Value} {h : Heap}
def own_EndS (s : State) (rm : Room) (n0 : Nat) (P : Option Value → Heap → Prop) (o : Outcome) (t : State) : Prop := ∃ v L, o = .returned v ∧ (Fr n0 L ∧ P v t.heap) ∧ ReturnedEndW s o t L rm.cells rm.slots
/-- a contract of a body that may intern; it begins where nothing has been interned since the start -/
def own_MetS (l : Launch) (Z : State) (y : MethodName) (bytes : ByteArray) (maxL : Nat) (ret : Option FieldType) (ws : List Jvm.Cond) (rm : Room) (as' : Array Value) (h0 : Heap) (n0 : Nat) (P : Option Value → Heap → Prop) : Prop :=
  MetFree l y (head1 (Jvm.Cond.code y bytes maxL ret :: ws) rm) (fun a U => a = as' ∧ Z.WarmedH U.vm ∧ U.heap = h0) (fun _ _ _ _ _ => True) (fun _ U o U' => own_EndS U rm n0 P o U')
variable {y : MethodName} {bytes : ByteArray} {maxL : Nat} {ret : Option FieldType} {ws : List Jvm.Cond} {rm : Room} {as' : Array Value} {h0 : Heap} {n0 : Nat} {P : Option Value → Heap → Prop}
theorem own_bodyS (pf : plainFor y = true) (body : ∀ p e s m below meth c T, Stand p l e rm (s.setVm s.vm) m as' below meth c T [] 0 0 → p.tables.exec = Jvm.exec → c.code = bytes → c.maxLocals = maxL → s.vm.findClass y.cls = some m.cls → meth.name = y.name → Z.Warmed39 s.vm → Z.WarmedH s.vm → s.Since s.vm 0 → IB Z s.vm [] → T.heap = h0 → meth.sig.returnType = ret → meth.locks = false →
    own_G p e below (own_EndS s rm n0 P) (T.setTop (entryFrame m as' maxL))) : own_MetS l Z y bytes maxL ret ws rm as' h0 n0 P := by
  refine MetFree.of_bodySF pf hisR ?_
  intro p e s m args below meth c s₁ Bd hml0 hP hK
  obtain ⟨e1, hZ, hh⟩ := hP
  cases e1
  exact body p e s m below meth c s₁ (Stand.of_body Bd) Bd.exec Bd.bytes hml0 (findClass_of_methodNamed Bd.named) (name_of_methodNamed Bd.named Bd.method).1 hZ.wide hZ ((State.WarmedH.refl s).since 0) ⟨#[], by rw [hZ.interned_eq]; simp, fun q hq => by simp at hq⟩ (by rw [← hh, Bd.state]; rfl) Bd.returns Bd.notSynchronized
theorem own_retVS (X : Stand p l e R (s.setVm vm0) m args below meth c T locs cells slots) (hx : p.tables.exec = Jvm.exec) {k0 : Nat} (hS : s.Since vm0 k0) (hret : meth.sig.returnType = none) (hlk : meth.locks = false) (hd : decode c.code pc = .ok (.return_, 1)) (hc : cells ≤ rm.cells) (hs : slots ≤ rm.slots) (N : Fr n0 locs) (eT : T.heap = h) (hk : k0 ≤ h.size) (hq : P none h) :
    own_G p e below (own_EndS s rm n0 P) (T.setTop (mkF m pc Ls [])) := by
  subst eT
  obtain ⟨fs, hr, hrun, hended, q1, q2, q3, q4⟩ := X.leaveW hS hk (v := none) (fun _ => rfl) hlk
  exact ⟨_, _, X.returnOut hx hret hd hr, hrun, hended, _, _, rfl, ⟨N, hq⟩, q1, q2, q3, q4.mono hc hs⟩
theorem own_retNS (X : Stand p l e R (s.setVm vm0) m args below meth c T locs cells slots) (hx : p.tables.exec = Jvm.exec) {k0 : Nat} (hS : s.Since vm0 k0) {z : Int32} {t : FieldType} (hret : meth.sig.returnType = some t) (ht : t = .boolean ∨ t = .byte ∨ t = .char ∨ t = .short) (hlk : meth.locks = false) (hd : decode c.code pc = .ok (.ireturn, 1)) (hc : cells ≤ rm.cells) (hs : slots ≤ rm.slots) (N : Fr n0 locs) (eT : T.heap = h) (hk : k0 ≤ h.size) (hq : P (some (.int (nar t z))) h) :
    own_G p e below (own_EndS s rm n0 P) (T.setTop (mkF m pc Ls (.int z :: st))) := by
  subst eT
  obtain ⟨fs, hr, hrun, hended, q1, q2, q3, q4⟩ := X.leaveW hS hk (v := some (.int (nar t z))) (fun h => by rw [hret] at h; cases h) hlk
  exact ⟨_, _, retN X hx hret ht hd hr, hrun, hended, _, _, rfl, ⟨N, hq⟩, q1, q2, q3, q4.mono hc hs⟩
theorem own_backS {W : Nat} {len : Nat} (M : own_MetS l Z y bytes maxL ret [] rm as' h n0 P) (hZ : Z.WarmedH s.vm) (wc : (Cond.code y bytes maxL ret).before a0 Z = true) (wz : (Cond.initialized y.cls).before a0 Z = true) (hf : rm.frames + 1 ≤ R.frames) (hl : W + (maxL + 11) + rm.locals ≤ R.locals) :
    BackS l R p e below s args y len W (fun A a => a = as' ∧ A.U.heap = h ∧ A.cells + rm.cells ≤ R.cells ∧ A.slots + rm.slots ≤ R.slots)
      (fun A _ v B => ∃ L, (Fr n0 L ∧ P v B.U.heap) ∧ B.locs = A.locs ++ L ∧ B.cells = A.cells + rm.cells ∧ B.slots = A.slots + rm.slots) :=
  BackS.of_freeW (bytes := bytes) (maxL := maxL) (ret := ret) (E := fun _ _ o t L k n => k = rm.cells ∧ n = rm.slots ∧ ∃ v, o = .returned v ∧ (Fr n0 L ∧ P v t.heap)) M hf hl
    (fun m meth c A a Y hp => have hU : Z.Warmed39 A.U.vm := wtrans hZ.wide Y.warmed
      ⟨by show (Cond.and _ .tt).before a A.U = true; rw [Cond.before_and, mv hU wc]; rfl, mv hU wc, mv hU wz, hp.2.2.1, hp.2.2.2⟩)
    (fun m meth c A a g mk Y hp => ⟨hp.1, State.WarmedH.trans hZ Y.warmed, hp.2.1⟩) (fun _ _ _ _ _ _ _ _ _ => trivial)
    (fun _ _ _ _ ⟨v, L, h1, h2, h3⟩ => ⟨L, _, _, h3, rfl, rfl, v, h1, h2⟩)
    (fun m meth c A a g mk v t L k n Y hp _ _ ⟨e1, e2, v', e3, e4⟩ => by cases e3; subst e1 e2; exact ⟨L, e4, rfl, rfl, rfl⟩)
/-- the call of a constructor that may intern -/
theorem own_callIS (X : Stand p l e R s m args below meth c T locs cells slots) (hx : p.tables.exec = Jvm.exec) (hZH : Z.WarmedH s.vm) {own : String} {index : Nat} (hown : s.vm.findClass own = some m.cls) (hi : y.name = "<init>") (w1 : (Cond.methodLink own index y).before a0 Z = true) (w2 : (Cond.instanceMethod y).before a0 Z = true) (wz : (Cond.initialized y.cls).before a0 Z = true) (wc : (Cond.code y bytes maxL none).before a0 Z = true)
    (hy : y.cls ≠ "java/lang/invoke/MethodHandle" ∧ y.cls ≠ "java/lang/invoke/VarHandle") (W : Nat) (M : own_MetS l Z y bytes maxL none [] rm as' h n0 P) (eT : T.heap = h) (hml : Ls.size = c.maxLocals) (a : Addr) (argsL rest : List Value) (ha : (Value.ref a :: argsL).toArray = as') (hlen : ∀ sig, parseMethodDescriptor y.desc = some sig → argsL.length = sig.parameters.length)
    (hst : st = argsL.reverse ++ .ref a :: rest) (hW : (rest.map fun v => v.category).sum ≤ W) (hf : rm.frames + 1 ≤ R.frames) (hl : W + (maxL + 11) + rm.locals ≤ R.locals) (hcl : cells + rm.cells ≤ R.cells) (hsl : slots + rm.slots ≤ R.slots) (hd : decode c.code pc = .ok (.invokespecial index, 3)) (N : Fr n0 locs) (pc' : Nat) (hp : pc + 3 = pc')
    (k : ∀ v T' locs', Stand p l e R (s.setVm T'.vm) m args below meth c T' locs' (cells + rm.cells) (slots + rm.slots) → Fr n0 locs' → s.Since T'.vm T'.heap.size → Z.Warmed39 (s.setVm T'.vm).vm → (s.setVm T'.vm).vm.findClass own = some m.cls → P v T'.heap → own_G p e below Q (T'.setTop (mkF m pc' Ls (v.toList ++ rest)))) : own_G p e below Q (T.setTop (mkF m pc Ls st)) := by
  subst hp
  have hZ := hZH.wide
  obtain ⟨v, _, ⟨T', L', k', n'⟩, -, X', hS, -, ⟨Lc, hQ, l1, y1, z1⟩, stp⟩ := X.specialBackS hx (y := y) hi hown (mvT hZ w1) (mvT hZ w2) (mvT hZ wc) hy (own_backS (W := W) M hZH wc wz hf hl) (g := mkF m pc Ls st) rfl hml (Steps.refl _) (a := a) (argsL := argsL) (rest := rest) hlen hst (by show 2 * 0 + _ ≤ _; omega) hd (fun _ _ => ⟨ha, eT, hcl, hsl⟩)
  dsimp only [Pt.U, Pt.locs, Pt.cells, Pt.slots] at X' l1 y1 z1 stp hQ hS
  subst l1 y1 z1
  exact own_st (fun t ht => stp.trans ht) (k v T' _ X' (N.app hQ.1) hS (State.Warmed39.trans hZ hS.1) (by rw [show (s.setVm T'.vm).vm = T'.vm from rfl, hS.1.alike.findClass]; exact hown) hQ.2)
end OwnWide
abbrev own_lt (a b : Nat) : Prop := a < b
abbrev own_le (a b : Nat) : Prop := a ≤ b
theorem own_far {n0 y k : Nat} {h : Heap} (f : k < n0 ∨ h.size ≤ k) (g : n0 ≤ y) (q : y < h.size) : y ≠ k := by omega
theorem own_An {Z : State} {h : Heap} {b : Addr} {t : FieldType} {n n' : Nat} {f : Nat → Int32} (e : n = n') (A : own_A Z h b t n f) : own_A Z h b t n' f := e ▸ A
theorem own_bastore {p : Program} {l : Launch} {e : Env} {R : Room} {s : State} {m : MethodId} {args : Array Value} {below : List Frame} {meth : Method} {c : Code} {T : State} {locs : List Loc} {cells slots : Nat} {Q : Outcome → State → Prop} {pc : Nat} {Ls : Array Slot} {st : List Value} {Z : State} {h : Heap} {n0 : Nat} {a : Addr} {n : Nat} {f : Nat → Int32} (X : Stand p l e R s m args below meth c T locs cells slots) (hx : p.tables.exec = Jvm.exec) (hZ : Z.Warmed39 s.vm) (eT : T.heap = h) (A : own_A Z h a .byte n f) {j x : Int32} (hj : ¬ j < 0 ∧ j.toNatClampNeg < n) (hd : decode c.code pc = .ok (.bastore, 1)) (N : Fr n0 locs) (g : n0 ≤ a) (pc' : Nat) (hp : pc + 1 = pc')
    (k : ∀ T' h' locs', Stand p l e R s m args below meth c T' locs' cells slots → Fr n0 locs' → T'.heap = h' → Wr h h' a j.toNatClampNeg (.int (nar .byte x)) → own_G p e below Q (T'.setTop (mkF m pc' Ls st))) : own_G p e below Q (T.setTop (mkF m pc Ls (.int x :: .int j :: .ref a :: st))) := by
  subst hp
  obtain ⟨cl, A, S, H⟩ := A
  obtain ⟨T', h', X', e', W, stp⟩ := stB X hx hZ eT A (own_nin S hj) (g := mkF m pc Ls (.int x :: .int j :: .ref a :: st)) rfl rfl hd
  exact own_st stp (k T' h' _ X' (Fr.snoc X' N g) e' W)
theorem own_pn_MarkupName : plainName "com/example/xqwry/xqwry/MarkupName" = true := by first | (simp [plainName, overriddenIn]; done) | decide +kernel
theorem own_pn_MarkupName_Resolution : plainName "com/example/xqwry/xqwry/MarkupName$Resolution" = true := by first | (simp [plainName, overriddenIn]; done) | decide +kernel
theorem own_pn_MarkupNameKeepResolvedPinLaw : plainName "com/example/xqwry/xqwry/MarkupNameKeepResolvedPinLaw" = true := by first | (simp [plainName, overriddenIn]; done) | decide +kernel

theorem own_pn_String : plainName "java/lang/String" = true := by first | (simp [plainName, overriddenIn]; done) | decide +kernel
theorem own_pn_StringLatin1 : plainName "java/lang/StringLatin1" = true := by first | (simp [plainName, overriddenIn]; done) | decide +kernel
theorem own_w0 {Z : State} {a0 : Array Value} (hw : ∀ d ∈ tables_1, d.before a0 Z = true) : ((Jvm.Cond.classLink "com/example/xqwry/xqwry/MarkupNameKeepResolvedPinLaw" (7 : Nat) "com/example/xqwry/xqwry/MarkupName")).before a0 Z = true := hw _ (List.mem_of_getElem? (i := 0) rfl)
theorem own_w1 {Z : State} {a0 : Array Value} (hw : ∀ d ∈ tables_1, d.before a0 Z = true) : ((Jvm.Cond.instantiable "com/example/xqwry/xqwry/MarkupName" (6 : Nat))).before a0 Z = true := hw _ (List.mem_of_getElem? (i := 1) rfl)
theorem own_w2 {Z : State} {a0 : Array Value} (hw : ∀ d ∈ tables_1, d.before a0 Z = true) : ((Jvm.Cond.initialized "com/example/xqwry/xqwry/MarkupName")).before a0 Z = true := hw _ (List.mem_of_getElem? (i := 2) rfl)
theorem own_w3 {Z : State} {a0 : Array Value} (hw : ∀ d ∈ tables_1, d.before a0 Z = true) : ((Jvm.Cond.methodLink "com/example/xqwry/xqwry/MarkupNameKeepResolvedPinLaw" (9 : Nat) ({ cls := "java/lang/String", name := "valueOf", desc := "(C)Ljava/lang/String;" } : Jvm.MethodName))).before a0 Z = true := hw _ (List.mem_of_getElem? (i := 3) rfl)
theorem own_w4 {Z : State} {a0 : Array Value} (hw : ∀ d ∈ tables_1, d.before a0 Z = true) : ((Jvm.Cond.static ({ cls := "java/lang/String", name := "valueOf", desc := "(C)Ljava/lang/String;" } : Jvm.MethodName))).before a0 Z = true := hw _ (List.mem_of_getElem? (i := 4) rfl)
theorem own_w5 {Z : State} {a0 : Array Value} (hw : ∀ d ∈ tables_1, d.before a0 Z = true) : ((Jvm.Cond.initialized "java/lang/String")).before a0 Z = true := hw _ (List.mem_of_getElem? (i := 5) rfl)
theorem own_w6 {Z : State} {a0 : Array Value} (hw : ∀ d ∈ tables_1, d.before a0 Z = true) : ((Jvm.Cond.code ({ cls := "java/lang/String", name := "valueOf", desc := "(C)Ljava/lang/String;" } : Jvm.MethodName) jdk_42_method_139_code (1 : Nat) (Option.some (Jvm.ClassFile.FieldType.object "java/lang/String")))).before a0 Z = true := hw _ (List.mem_of_getElem? (i := 6) rfl)
theorem own_w7 {Z : State} {a0 : Array Value} (hw : ∀ d ∈ tables_1, d.before a0 Z = true) : ((Jvm.Cond.fieldLink "java/lang/String" (38 : Nat) "java/lang/String" "COMPACT_STRINGS" "Z")).before a0 Z = true := hw _ (List.mem_of_getElem? (i := 7) rfl)
theorem own_w8 {Z : State} {a0 : Array Value} (hw : ∀ d ∈ tables_1, d.before a0 Z = true) : ((Jvm.Cond.methodLink "java/lang/String" (1015 : Nat) ({ cls := "java/lang/StringLatin1", name := "canEncode", desc := "(C)Z" } : Jvm.MethodName))).before a0 Z = true := hw _ (List.mem_of_getElem? (i := 8) rfl)
theorem own_w9 {Z : State} {a0 : Array Value} (hw : ∀ d ∈ tables_1, d.before a0 Z = true) : ((Jvm.Cond.static ({ cls := "java/lang/StringLatin1", name := "canEncode", desc := "(C)Z" } : Jvm.MethodName))).before a0 Z = true := hw _ (List.mem_of_getElem? (i := 9) rfl)
theorem own_w10 {Z : State} {a0 : Array Value} (hw : ∀ d ∈ tables_1, d.before a0 Z = true) : ((Jvm.Cond.initialized "java/lang/StringLatin1")).before a0 Z = true := hw _ (List.mem_of_getElem? (i := 10) rfl)
theorem own_w11 {Z : State} {a0 : Array Value} (hw : ∀ d ∈ tables_1, d.before a0 Z = true) : ((Jvm.Cond.code ({ cls := "java/lang/StringLatin1", name := "canEncode", desc := "(C)Z" } : Jvm.MethodName) jdk_43_method_3_code (1 : Nat) (Option.some Jvm.ClassFile.FieldType.boolean))).before a0 Z = true := hw _ (List.mem_of_getElem? (i := 11) rfl)
theorem own_w12 {Z : State} {a0 : Array Value} (hw : ∀ d ∈ tables_1, d.before a0 Z = true) : ((Jvm.Cond.classLink "java/lang/String" (10 : Nat) "java/lang/String")).before a0 Z = true := hw _ (List.mem_of_getElem? (i := 12) rfl)
theorem own_w13 {Z : State} {a0 : Array Value} (hw : ∀ d ∈ tables_1, d.before a0 Z = true) : ((Jvm.Cond.instantiable "java/lang/String" (4 : Nat))).before a0 Z = true := hw _ (List.mem_of_getElem? (i := 13) rfl)
theorem own_w14 {Z : State} {a0 : Array Value} (hw : ∀ d ∈ tables_1, d.before a0 Z = true) : ((Jvm.Cond.methodLink "java/lang/String" (1018 : Nat) ({ cls := "java/lang/StringLatin1", name := "toBytes", desc := "(C)[B" } : Jvm.MethodName))).before a0 Z = true := hw _ (List.mem_of_getElem? (i := 14) rfl)
theorem own_w15 {Z : State} {a0 : Array Value} (hw : ∀ d ∈ tables_1, d.before a0 Z = true) : ((Jvm.Cond.static ({ cls := "java/lang/StringLatin1", name := "toBytes", desc := "(C)[B" } : Jvm.MethodName))).before a0 Z = true := hw _ (List.mem_of_getElem? (i := 15) rfl)
theorem own_w16 {Z : State} {a0 : Array Value} (hw : ∀ d ∈ tables_1, d.before a0 Z = true) : ((Jvm.Cond.code ({ cls := "java/lang/StringLatin1", name := "toBytes", desc := "(C)[B" } : Jvm.MethodName) jdk_43_method_46_code (1 : Nat) (Option.some (Jvm.ClassFile.FieldType.array Jvm.ClassFile.FieldType.byte)))).before a0 Z = true := hw _ (List.mem_of_getElem? (i := 16) rfl)
theorem own_w17 {Z : State} {a0 : Array Value} (hw : ∀ d ∈ tables_1, d.before a0 Z = true) : ((Jvm.Cond.arrayClass Jvm.ClassFile.FieldType.byte)).before a0 Z = true := hw _ (List.mem_of_getElem? (i := 17) rfl)
theorem own_w18 {Z : State} {a0 : Array Value} (hw : ∀ d ∈ tables_1, d.before a0 Z = true) : ((Jvm.Cond.methodLink "java/lang/String" (209 : Nat) ({ cls := "java/lang/String", name := "<init>", desc := "([BB)V" } : Jvm.MethodName))).before a0 Z = true := hw _ (List.mem_of_getElem? (i := 18) rfl)
theorem own_w19 {Z : State} {a0 : Array Value} (hw : ∀ d ∈ tables_1, d.before a0 Z = true) : ((Jvm.Cond.instanceMethod ({ cls := "java/lang/String", name := "<init>", desc := "([BB)V" } : Jvm.MethodName))).before a0 Z = true := hw _ (List.mem_of_getElem? (i := 19) rfl)
theorem own_w21 {Z : State} {a0 : Array Value} (hw : ∀ d ∈ tables_1, d.before a0 Z = true) : ((Jvm.Cond.code ({ cls := "java/lang/String", name := "<init>", desc := "([BB)V" } : Jvm.MethodName) jdk_42_method_151_code (3 : Nat) (Option.none : Option Jvm.ClassFile.FieldType))).before a0 Z = true := hw _ (List.mem_of_getElem? (i := 21) rfl)
theorem own_w22 {Z : State} {a0 : Array Value} (hw : ∀ d ∈ tables_1, d.before a0 Z = true) : ((Jvm.Cond.methodLink "java/lang/String" (1 : Nat) ({ cls := "java/lang/Object", name := "<init>", desc := "()V" } : Jvm.MethodName))).before a0 Z = true := hw _ (List.mem_of_getElem? (i := 22) rfl)
theorem own_w23 {Z : State} {a0 : Array Value} (hw : ∀ d ∈ tables_1, d.before a0 Z = true) : ((Jvm.Cond.instanceMethod ({ cls := "java/lang/Object", name := "<init>", desc := "()V" } : Jvm.MethodName))).before a0 Z = true := hw _ (List.mem_of_getElem? (i := 23) rfl)
theorem own_w24 {Z : State} {a0 : Array Value} (hw : ∀ d ∈ tables_1, d.before a0 Z = true) : ((Jvm.Cond.code ({ cls := "java/lang/Object", name := "<init>", desc := "()V" } : Jvm.MethodName) object_method_1_code (1 : Nat) (Option.none : Option Jvm.ClassFile.FieldType))).before a0 Z = true := hw _ (List.mem_of_getElem? (i := 24) rfl)
theorem own_w25 {Z : State} {a0 : Array Value} (hw : ∀ d ∈ tables_1, d.before a0 Z = true) : ((Jvm.Cond.fieldLink "java/lang/String" (9 : Nat) "java/lang/String" "value" "[B")).before a0 Z = true := hw _ (List.mem_of_getElem? (i := 25) rfl)
theorem own_w26 {Z : State} {a0 : Array Value} (hw : ∀ d ∈ tables_1, d.before a0 Z = true) : ((Jvm.Cond.laysFinal "java/lang/String" "java/lang/String" "value" "[B")).before a0 Z = true := hw _ (List.mem_of_getElem? (i := 26) rfl)
theorem own_w27 {Z : State} {a0 : Array Value} (hw : ∀ d ∈ tables_1, d.before a0 Z = true) : ((Jvm.Cond.fieldLink "java/lang/String" (15 : Nat) "java/lang/String" "coder" "B")).before a0 Z = true := hw _ (List.mem_of_getElem? (i := 27) rfl)
theorem own_w28 {Z : State} {a0 : Array Value} (hw : ∀ d ∈ tables_1, d.before a0 Z = true) : ((Jvm.Cond.laysFinal "java/lang/String" "java/lang/String" "coder" "B")).before a0 Z = true := hw _ (List.mem_of_getElem? (i := 28) rfl)
theorem own_w29 {Z : State} {a0 : Array Value} (hw : ∀ d ∈ tables_1, d.before a0 Z = true) : ((Jvm.Cond.methodLink "com/example/xqwry/xqwry/MarkupNameKeepResolvedPinLaw" (15 : Nat) ({ cls := "com/example/xqwry/xqwry/MarkupName", name := "<init>", desc := "(Ljava/lang/String;)V" } : Jvm.MethodName))).before a0 Z = true := hw _ (List.mem_of_getElem? (i := 29) rfl)
theorem own_w30 {Z : State} {a0 : Array Value} (hw : ∀ d ∈ tables_1, d.before a0 Z = true) : ((Jvm.Cond.instanceMethod ({ cls := "com/example/xqwry/xqwry/MarkupName", name := "<init>", desc := "(Ljava/lang/String;)V" } : Jvm.MethodName))).before a0 Z = true := hw _ (List.mem_of_getElem? (i := 30) rfl)
theorem own_w31 {Z : State} {a0 : Array Value} (hw : ∀ d ∈ tables_1, d.before a0 Z = true) : ((Jvm.Cond.code ({ cls := "com/example/xqwry/xqwry/MarkupName", name := "<init>", desc := "(Ljava/lang/String;)V" } : Jvm.MethodName) prog_166_method_1_code (2 : Nat) (Option.none : Option Jvm.ClassFile.FieldType))).before a0 Z = true := hw _ (List.mem_of_getElem? (i := 31) rfl)
theorem own_w32 {Z : State} {a0 : Array Value} (hw : ∀ d ∈ tables_1, d.before a0 Z = true) : ((Jvm.Cond.methodLink "com/example/xqwry/xqwry/MarkupName" (1 : Nat) ({ cls := "java/lang/Object", name := "<init>", desc := "()V" } : Jvm.MethodName))).before a0 Z = true := hw _ (List.mem_of_getElem? (i := 32) rfl)
theorem own_w33 {Z : State} {a0 : Array Value} (hw : ∀ d ∈ tables_1, d.before a0 Z = true) : ((Jvm.Cond.classLink "com/example/xqwry/xqwry/MarkupName" (7 : Nat) "com/example/xqwry/xqwry/MarkupName$Resolution")).before a0 Z = true := hw _ (List.mem_of_getElem? (i := 33) rfl)
theorem own_w34 {Z : State} {a0 : Array Value} (hw : ∀ d ∈ tables_1, d.before a0 Z = true) : ((Jvm.Cond.instantiable "com/example/xqwry/xqwry/MarkupName$Resolution" (2 : Nat))).before a0 Z = true := hw _ (List.mem_of_getElem? (i := 34) rfl)
theorem own_w35 {Z : State} {a0 : Array Value} (hw : ∀ d ∈ tables_1, d.before a0 Z = true) : ((Jvm.Cond.initialized "com/example/xqwry/xqwry/MarkupName$Resolution")).before a0 Z = true := hw _ (List.mem_of_getElem? (i := 35) rfl)
theorem own_w36 {Z : State} {a0 : Array Value} (hw : ∀ d ∈ tables_1, d.before a0 Z = true) : ((Jvm.Cond.methodRef "com/example/xqwry/xqwry/MarkupName" (9 : Nat) ({ cls := "com/example/xqwry/xqwry/MarkupName$Resolution", name := "<init>", desc := "()V" } : Jvm.MethodName))).before a0 Z = true := hw _ (List.mem_of_getElem? (i := 36) rfl)
theorem own_w37 {Z : State} {a0 : Array Value} (hw : ∀ d ∈ tables_1, d.before a0 Z = true) : ((Jvm.Cond.instanceMethod ({ cls := "com/example/xqwry/xqwry/MarkupName$Resolution", name := "<init>", desc := "()V" } : Jvm.MethodName))).before a0 Z = true := hw _ (List.mem_of_getElem? (i := 37) rfl)
theorem own_w38 {Z : State} {a0 : Array Value} (hw : ∀ d ∈ tables_1, d.before a0 Z = true) : ((Jvm.Cond.code ({ cls := "com/example/xqwry/xqwry/MarkupName$Resolution", name := "<init>", desc := "()V" } : Jvm.MethodName) prog_167_method_1_code (1 : Nat) (Option.none : Option Jvm.ClassFile.FieldType))).before a0 Z = true := hw _ (List.mem_of_getElem? (i := 38) rfl)
theorem own_w39 {Z : State} {a0 : Array Value} (hw : ∀ d ∈ tables_1, d.before a0 Z = true) : ((Jvm.Cond.methodLink "com/example/xqwry/xqwry/MarkupName$Resolution" (1 : Nat) ({ cls := "java/lang/Object", name := "<init>", desc := "()V" } : Jvm.MethodName))).before a0 Z = true := hw _ (List.mem_of_getElem? (i := 39) rfl)
theorem own_w40 {Z : State} {a0 : Array Value} (hw : ∀ d ∈ tables_1, d.before a0 Z = true) : ((Jvm.Cond.fieldLink "com/example/xqwry/xqwry/MarkupName$Resolution" (7 : Nat) "com/example/xqwry/xqwry/MarkupName$Resolution" "name" "I")).before a0 Z = true := hw _ (List.mem_of_getElem? (i := 40) rfl)
theorem own_w41 {Z : State} {a0 : Array Value} (hw : ∀ d ∈ tables_1, d.before a0 Z = true) : ((Jvm.Cond.lays "com/example/xqwry/xqwry/MarkupName$Resolution" "com/example/xqwry/xqwry/MarkupName$Resolution" "name" "I")).before a0 Z = true := hw _ (List.mem_of_getElem? (i := 41) rfl)
theorem own_w42 {Z : State} {a0 : Array Value} (hw : ∀ d ∈ tables_1, d.before a0 Z = true) : ((Jvm.Cond.fieldLink "com/example/xqwry/xqwry/MarkupName$Resolution" (13 : Nat) "com/example/xqwry/xqwry/MarkupName$Resolution" "namespaceChanges" "I")).before a0 Z = true := hw _ (List.mem_of_getElem? (i := 42) rfl)
theorem own_w43 {Z : State} {a0 : Array Value} (hw : ∀ d ∈ tables_1, d.before a0 Z = true) : ((Jvm.Cond.lays "com/example/xqwry/xqwry/MarkupName$Resolution" "com/example/xqwry/xqwry/MarkupName$Resolution" "namespaceChanges" "I")).before a0 Z = true := hw _ (List.mem_of_getElem? (i := 43) rfl)
theorem own_w44 {Z : State} {a0 : Array Value} (hw : ∀ d ∈ tables_1, d.before a0 Z = true) : ((Jvm.Cond.fieldLink "com/example/xqwry/xqwry/MarkupName" (10 : Nat) "com/example/xqwry/xqwry/MarkupName" "asElement" "Lcom/example/xqwry/xqwry/MarkupName$Resolution;")).before a0 Z = true := hw _ (List.mem_of_getElem? (i := 44) rfl)
theorem own_w45 {Z : State} {a0 : Array Value} (hw : ∀ d ∈ tables_1, d.before a0 Z = true) : ((Jvm.Cond.laysFinal "com/example/xqwry/xqwry/MarkupName" "com/example/xqwry/xqwry/MarkupName" "asElement" "Lcom/example/xqwry/xqwry/MarkupName$Resolution;")).before a0 Z = true := hw _ (List.mem_of_getElem? (i := 45) rfl)
theorem own_w46 {Z : State} {a0 : Array Value} (hw : ∀ d ∈ tables_1, d.before a0 Z = true) : ((Jvm.Cond.fieldLink "com/example/xqwry/xqwry/MarkupName" (16 : Nat) "com/example/xqwry/xqwry/MarkupName" "asAttribute" "Lcom/example/xqwry/xqwry/MarkupName$Resolution;")).before a0 Z = true := hw _ (List.mem_of_getElem? (i := 46) rfl)
theorem own_w47 {Z : State} {a0 : Array Value} (hw : ∀ d ∈ tables_1, d.before a0 Z = true) : ((Jvm.Cond.laysFinal "com/example/xqwry/xqwry/MarkupName" "com/example/xqwry/xqwry/MarkupName" "asAttribute" "Lcom/example/xqwry/xqwry/MarkupName$Resolution;")).before a0 Z = true := hw _ (List.mem_of_getElem? (i := 47) rfl)
theorem own_w48 {Z : State} {a0 : Array Value} (hw : ∀ d ∈ tables_1, d.before a0 Z = true) : ((Jvm.Cond.fieldLink "com/example/xqwry/xqwry/MarkupName" (19 : Nat) "com/example/xqwry/xqwry/MarkupName" "lexicalName" "Ljava/lang/String;")).before a0 Z = true := hw _ (List.mem_of_getElem? (i := 48) rfl)
theorem own_w49 {Z : State} {a0 : Array Value} (hw : ∀ d ∈ tables_1, d.before a0 Z = true) : ((Jvm.Cond.laysFinal "com/example/xqwry/xqwry/MarkupName" "com/example/xqwry/xqwry/MarkupName" "lexicalName" "Ljava/lang/String;")).before a0 Z = true := hw _ (List.mem_of_getElem? (i := 49) rfl)
theorem own_w50 {Z : State} {a0 : Array Value} (hw : ∀ d ∈ tables_1, d.before a0 Z = true) : ((Jvm.Cond.methodLink "com/example/xqwry/xqwry/MarkupName" (23 : Nat) ({ cls := "java/lang/String", name := "indexOf", desc := "(I)I" } : Jvm.MethodName))).before a0 Z = true := hw _ (List.mem_of_getElem? (i := 50) rfl)
theorem own_w51 {Z : State} {a0 : Array Value} (hw : ∀ d ∈ tables_1, d.before a0 Z = true) : ((Jvm.Cond.declares ({ cls := "java/lang/String", name := "indexOf", desc := "(I)I" } : Jvm.MethodName))).before a0 Z = true := hw _ (List.mem_of_getElem? (i := 51) rfl)
theorem own_w52 {Z : State} {a0 : Array Value} (hw : ∀ d ∈ tables_1, d.before a0 Z = true) : ((Jvm.Cond.instanceMethod ({ cls := "java/lang/String", name := "indexOf", desc := "(I)I" } : Jvm.MethodName))).before a0 Z = true := hw _ (List.mem_of_getElem? (i := 52) rfl)
theorem own_w53 {Z : State} {a0 : Array Value} (hw : ∀ d ∈ tables_1, d.before a0 Z = true) : ((Jvm.Cond.selects "java/lang/String" ({ cls := "java/lang/String", name := "indexOf", desc := "(I)I" } : Jvm.MethodName) ({ cls := "java/lang/String", name := "indexOf", desc := "(I)I" } : Jvm.MethodName))).before a0 Z = true := hw _ (List.mem_of_getElem? (i := 53) rfl)
theorem own_w54 {Z : State} {a0 : Array Value} (hw : ∀ d ∈ tables_1, d.before a0 Z = true) : ((Jvm.Cond.code ({ cls := "java/lang/String", name := "indexOf", desc := "(I)I" } : Jvm.MethodName) jdk_42_method_79_code (2 : Nat) (Option.some Jvm.ClassFile.FieldType.int))).before a0 Z = true := hw _ (List.mem_of_getElem? (i := 54) rfl)
theorem own_w55 {Z : State} {a0 : Array Value} (hw : ∀ d ∈ tables_1, d.before a0 Z = true) : ((Jvm.Cond.methodLink "java/lang/String" (633 : Nat) ({ cls := "java/lang/String", name := "indexOf", desc := "(II)I" } : Jvm.MethodName))).before a0 Z = true := hw _ (List.mem_of_getElem? (i := 55) rfl)
theorem own_w56 {Z : State} {a0 : Array Value} (hw : ∀ d ∈ tables_1, d.before a0 Z = true) : ((Jvm.Cond.declares ({ cls := "java/lang/String", name := "indexOf", desc := "(II)I" } : Jvm.MethodName))).before a0 Z = true := hw _ (List.mem_of_getElem? (i := 56) rfl)
theorem own_w57 {Z : State} {a0 : Array Value} (hw : ∀ d ∈ tables_1, d.before a0 Z = true) : ((Jvm.Cond.instanceMethod ({ cls := "java/lang/String", name := "indexOf", desc := "(II)I" } : Jvm.MethodName))).before a0 Z = true := hw _ (List.mem_of_getElem? (i := 57) rfl)
theorem own_w58 {Z : State} {a0 : Array Value} (hw : ∀ d ∈ tables_1, d.before a0 Z = true) : ((Jvm.Cond.selects "java/lang/String" ({ cls := "java/lang/String", name := "indexOf", desc := "(II)I" } : Jvm.MethodName) ({ cls := "java/lang/String", name := "indexOf", desc := "(II)I" } : Jvm.MethodName))).before a0 Z = true := hw _ (List.mem_of_getElem? (i := 58) rfl)
theorem own_w59 {Z : State} {a0 : Array Value} (hw : ∀ d ∈ tables_1, d.before a0 Z = true) : ((Jvm.Cond.code ({ cls := "java/lang/String", name := "indexOf", desc := "(II)I" } : Jvm.MethodName) jdk_42_method_80_code (3 : Nat) (Option.some Jvm.ClassFile.FieldType.int))).before a0 Z = true := hw _ (List.mem_of_getElem? (i := 59) rfl)
theorem own_w60 {Z : State} {a0 : Array Value} (hw : ∀ d ∈ tables_1, d.before a0 Z = true) : ((Jvm.Cond.methodLink "java/lang/String" (492 : Nat) ({ cls := "java/lang/String", name := "isLatin1", desc := "()Z" } : Jvm.MethodName))).before a0 Z = true := hw _ (List.mem_of_getElem? (i := 60) rfl)
theorem own_w61 {Z : State} {a0 : Array Value} (hw : ∀ d ∈ tables_1, d.before a0 Z = true) : ((Jvm.Cond.declares ({ cls := "java/lang/String", name := "isLatin1", desc := "()Z" } : Jvm.MethodName))).before a0 Z = true := hw _ (List.mem_of_getElem? (i := 61) rfl)
theorem own_w62 {Z : State} {a0 : Array Value} (hw : ∀ d ∈ tables_1, d.before a0 Z = true) : ((Jvm.Cond.instanceMethod ({ cls := "java/lang/String", name := "isLatin1", desc := "()Z" } : Jvm.MethodName))).before a0 Z = true := hw _ (List.mem_of_getElem? (i := 62) rfl)
theorem own_w63 {Z : State} {a0 : Array Value} (hw : ∀ d ∈ tables_1, d.before a0 Z = true) : ((Jvm.Cond.selects "java/lang/String" ({ cls := "java/lang/String", name := "isLatin1", desc := "()Z" } : Jvm.MethodName) ({ cls := "java/lang/String", name := "isLatin1", desc := "()Z" } : Jvm.MethodName))).before a0 Z = true := hw _ (List.mem_of_getElem? (i := 63) rfl)
theorem own_w64 {Z : State} {a0 : Array Value} (hw : ∀ d ∈ tables_1, d.before a0 Z = true) : ((Jvm.Cond.code ({ cls := "java/lang/String", name := "isLatin1", desc := "()Z" } : Jvm.MethodName) jdk_42_method_154_code (1 : Nat) (Option.some Jvm.ClassFile.FieldType.boolean))).before a0 Z = true := hw _ (List.mem_of_getElem? (i := 64) rfl)
theorem own_w65 {Z : State} {a0 : Array Value} (hw : ∀ d ∈ tables_1, d.before a0 Z = true) : ((Jvm.Cond.methodLink "java/lang/String" (505 : Nat) ({ cls := "java/lang/String", name := "length", desc := "()I" } : Jvm.MethodName))).before a0 Z = true := hw _ (List.mem_of_getElem? (i := 65) rfl)
theorem own_w66 {Z : State} {a0 : Array Value} (hw : ∀ d ∈ tables_1, d.before a0 Z = true) : ((Jvm.Cond.declares ({ cls := "java/lang/String", name := "length", desc := "()I" } : Jvm.MethodName))).before a0 Z = true := hw _ (List.mem_of_getElem? (i := 66) rfl)
theorem own_w67 {Z : State} {a0 : Array Value} (hw : ∀ d ∈ tables_1, d.before a0 Z = true) : ((Jvm.Cond.instanceMethod ({ cls := "java/lang/String", name := "length", desc := "()I" } : Jvm.MethodName))).before a0 Z = true := hw _ (List.mem_of_getElem? (i := 67) rfl)
theorem own_w68 {Z : State} {a0 : Array Value} (hw : ∀ d ∈ tables_1, d.before a0 Z = true) : ((Jvm.Cond.selects "java/lang/String" ({ cls := "java/lang/String", name := "length", desc := "()I" } : Jvm.MethodName) ({ cls := "java/lang/String", name := "length", desc := "()I" } : Jvm.MethodName))).before a0 Z = true := hw _ (List.mem_of_getElem? (i := 68) rfl)
theorem own_w69 {Z : State} {a0 : Array Value} (hw : ∀ d ∈ tables_1, d.before a0 Z = true) : ((Jvm.Cond.code ({ cls := "java/lang/String", name := "length", desc := "()I" } : Jvm.MethodName) jdk_42_method_54_code (1 : Nat) (Option.some Jvm.ClassFile.FieldType.int))).before a0 Z = true := hw _ (List.mem_of_getElem? (i := 69) rfl)
theorem own_w70 {Z : State} {a0 : Array Value} (hw : ∀ d ∈ tables_1, d.before a0 Z = true) : ((Jvm.Cond.methodLink "java/lang/String" (335 : Nat) ({ cls := "java/lang/String", name := "coder", desc := "()B" } : Jvm.MethodName))).before a0 Z = true := hw _ (List.mem_of_getElem? (i := 70) rfl)
theorem own_w71 {Z : State} {a0 : Array Value} (hw : ∀ d ∈ tables_1, d.before a0 Z = true) : ((Jvm.Cond.declares ({ cls := "java/lang/String", name := "coder", desc := "()B" } : Jvm.MethodName))).before a0 Z = true := hw _ (List.mem_of_getElem? (i := 71) rfl)
theorem own_w72 {Z : State} {a0 : Array Value} (hw : ∀ d ∈ tables_1, d.before a0 Z = true) : ((Jvm.Cond.instanceMethod ({ cls := "java/lang/String", name := "coder", desc := "()B" } : Jvm.MethodName))).before a0 Z = true := hw _ (List.mem_of_getElem? (i := 72) rfl)
theorem own_w73 {Z : State} {a0 : Array Value} (hw : ∀ d ∈ tables_1, d.before a0 Z = true) : ((Jvm.Cond.selects "java/lang/String" ({ cls := "java/lang/String", name := "coder", desc := "()B" } : Jvm.MethodName) ({ cls := "java/lang/String", name := "coder", desc := "()B" } : Jvm.MethodName))).before a0 Z = true := hw _ (List.mem_of_getElem? (i := 73) rfl)
theorem own_w74 {Z : State} {a0 : Array Value} (hw : ∀ d ∈ tables_1, d.before a0 Z = true) : ((Jvm.Cond.code ({ cls := "java/lang/String", name := "coder", desc := "()B" } : Jvm.MethodName) jdk_42_method_152_code (1 : Nat) (Option.some Jvm.ClassFile.FieldType.byte))).before a0 Z = true := hw _ (List.mem_of_getElem? (i := 74) rfl)
theorem own_w75 {Z : State} {a0 : Array Value} (hw : ∀ d ∈ tables_1, d.before a0 Z = true) : ((Jvm.Cond.methodLink "java/lang/String" (637 : Nat) ({ cls := "java/lang/StringLatin1", name := "indexOf", desc := "([BIII)I" } : Jvm.MethodName))).before a0 Z = true := hw _ (List.mem_of_getElem? (i := 75) rfl)
theorem own_w76 {Z : State} {a0 : Array Value} (hw : ∀ d ∈ tables_1, d.before a0 Z = true) : ((Jvm.Cond.static ({ cls := "java/lang/StringLatin1", name := "indexOf", desc := "([BIII)I" } : Jvm.MethodName))).before a0 Z = true := hw _ (List.mem_of_getElem? (i := 76) rfl)
theorem own_w77 {Z : State} {a0 : Array Value} (hw : ∀ d ∈ tables_1, d.before a0 Z = true) : ((Jvm.Cond.code ({ cls := "java/lang/StringLatin1", name := "indexOf", desc := "([BIII)I" } : Jvm.MethodName) jdk_43_method_22_code (4 : Nat) (Option.some Jvm.ClassFile.FieldType.int))).before a0 Z = true := hw _ (List.mem_of_getElem? (i := 77) rfl)
theorem own_w78 {Z : State} {a0 : Array Value} (hw : ∀ d ∈ tables_1, d.before a0 Z = true) : ((Jvm.Cond.methodLink "java/lang/StringLatin1" (88 : Nat) ({ cls := "java/lang/StringLatin1", name := "canEncode", desc := "(I)Z" } : Jvm.MethodName))).before a0 Z = true := hw _ (List.mem_of_getElem? (i := 78) rfl)
theorem own_w79 {Z : State} {a0 : Array Value} (hw : ∀ d ∈ tables_1, d.before a0 Z = true) : ((Jvm.Cond.static ({ cls := "java/lang/StringLatin1", name := "canEncode", desc := "(I)Z" } : Jvm.MethodName))).before a0 Z = true := hw _ (List.mem_of_getElem? (i := 79) rfl)
theorem own_w80 {Z : State} {a0 : Array Value} (hw : ∀ d ∈ tables_1, d.before a0 Z = true) : ((Jvm.Cond.code ({ cls := "java/lang/StringLatin1", name := "canEncode", desc := "(I)Z" } : Jvm.MethodName) jdk_43_method_4_code (1 : Nat) (Option.some Jvm.ClassFile.FieldType.boolean))).before a0 Z = true := hw _ (List.mem_of_getElem? (i := 80) rfl)
theorem own_w81 {Z : State} {a0 : Array Value} (hw : ∀ d ∈ tables_1, d.before a0 Z = true) : ((Jvm.Cond.methodLink "java/lang/StringLatin1" (92 : Nat) ({ cls := "java/lang/Math", name := "max", desc := "(II)I" } : Jvm.MethodName))).before a0 Z = true := hw _ (List.mem_of_getElem? (i := 81) rfl)
theorem own_w82 {Z : State} {a0 : Array Value} (hw : ∀ d ∈ tables_1, d.before a0 Z = true) : ((Jvm.Cond.static ({ cls := "java/lang/Math", name := "max", desc := "(II)I" } : Jvm.MethodName))).before a0 Z = true := hw _ (List.mem_of_getElem? (i := 82) rfl)
theorem own_w83 {Z : State} {a0 : Array Value} (hw : ∀ d ∈ tables_1, d.before a0 Z = true) : ((Jvm.Cond.initialized "java/lang/Math")).before a0 Z = true := hw _ (List.mem_of_getElem? (i := 83) rfl)
theorem own_w84 {Z : State} {a0 : Array Value} (hw : ∀ d ∈ tables_1, d.before a0 Z = true) : ((Jvm.Cond.code ({ cls := "java/lang/Math", name := "max", desc := "(II)I" } : Jvm.MethodName) jdk_29_method_65_code (2 : Nat) (Option.some Jvm.ClassFile.FieldType.int))).before a0 Z = true := hw _ (List.mem_of_getElem? (i := 84) rfl)
theorem own_w85 {Z : State} {a0 : Array Value} (hw : ∀ d ∈ tables_1, d.before a0 Z = true) : ((Jvm.Cond.methodLink "java/lang/StringLatin1" (38 : Nat) ({ cls := "java/lang/Math", name := "min", desc := "(II)I" } : Jvm.MethodName))).before a0 Z = true := hw _ (List.mem_of_getElem? (i := 85) rfl)
theorem own_w86 {Z : State} {a0 : Array Value} (hw : ∀ d ∈ tables_1, d.before a0 Z = true) : ((Jvm.Cond.static ({ cls := "java/lang/Math", name := "min", desc := "(II)I" } : Jvm.MethodName))).before a0 Z = true := hw _ (List.mem_of_getElem? (i := 86) rfl)
theorem own_w87 {Z : State} {a0 : Array Value} (hw : ∀ d ∈ tables_1, d.before a0 Z = true) : ((Jvm.Cond.code ({ cls := "java/lang/Math", name := "min", desc := "(II)I" } : Jvm.MethodName) jdk_29_method_69_code (2 : Nat) (Option.some Jvm.ClassFile.FieldType.int))).before a0 Z = true := hw _ (List.mem_of_getElem? (i := 87) rfl)
theorem own_w88 {Z : State} {a0 : Array Value} (hw : ∀ d ∈ tables_1, d.before a0 Z = true) : ((Jvm.Cond.methodLink "java/lang/StringLatin1" (95 : Nat) ({ cls := "java/lang/StringLatin1", name := "indexOfChar", desc := "([BIII)I" } : Jvm.MethodName))).before a0 Z = true := hw _ (List.mem_of_getElem? (i := 88) rfl)
theorem own_w89 {Z : State} {a0 : Array Value} (hw : ∀ d ∈ tables_1, d.before a0 Z = true) : ((Jvm.Cond.static ({ cls := "java/lang/StringLatin1", name := "indexOfChar", desc := "([BIII)I" } : Jvm.MethodName))).before a0 Z = true := hw _ (List.mem_of_getElem? (i := 89) rfl)
theorem own_w90 {Z : State} {a0 : Array Value} (hw : ∀ d ∈ tables_1, d.before a0 Z = true) : ((Jvm.Cond.code ({ cls := "java/lang/StringLatin1", name := "indexOfChar", desc := "([BIII)I" } : Jvm.MethodName) jdk_43_method_23_code (6 : Nat) (Option.some Jvm.ClassFile.FieldType.int))).before a0 Z = true := hw _ (List.mem_of_getElem? (i := 90) rfl)
theorem own_w91 {Z : State} {a0 : Array Value} (hw : ∀ d ∈ tables_1, d.before a0 Z = true) : ((Jvm.Cond.fieldLink "com/example/xqwry/xqwry/MarkupName" (29 : Nat) "com/example/xqwry/xqwry/MarkupName" "prefixed" "Z")).before a0 Z = true := hw _ (List.mem_of_getElem? (i := 91) rfl)
theorem own_w92 {Z : State} {a0 : Array Value} (hw : ∀ d ∈ tables_1, d.before a0 Z = true) : ((Jvm.Cond.laysFinal "com/example/xqwry/xqwry/MarkupName" "com/example/xqwry/xqwry/MarkupName" "prefixed" "Z")).before a0 Z = true := hw _ (List.mem_of_getElem? (i := 92) rfl)
theorem own_w93 {Z : State} {a0 : Array Value} (hw : ∀ d ∈ tables_1, d.before a0 Z = true) : ((Jvm.Cond.stringLink "com/example/xqwry/xqwry/MarkupName" (33 : Nat) "xmlns")).before a0 Z = true := hw _ (List.mem_of_getElem? (i := 93) rfl)
theorem own_w94 {Z : State} {a0 : Array Value} (hw : ∀ d ∈ tables_1, d.before a0 Z = true) : ((Jvm.Cond.soleField "java/lang/String" "value")).before a0 Z = true := hw _ (List.mem_of_getElem? (i := 94) rfl)
theorem own_w95 {Z : State} {a0 : Array Value} (hw : ∀ d ∈ tables_1, d.before a0 Z = true) : ((Jvm.Cond.soleField "java/lang/String" "coder")).before a0 Z = true := hw _ (List.mem_of_getElem? (i := 95) rfl)
theorem own_w96 {Z : State} {a0 : Array Value} (hw : ∀ d ∈ tables_1, d.before a0 Z = true) : ((Jvm.Cond.methodLink "com/example/xqwry/xqwry/MarkupName" (35 : Nat) ({ cls := "java/lang/String", name := "equals", desc := "(Ljava/lang/Object;)Z" } : Jvm.MethodName))).before a0 Z = true := hw _ (List.mem_of_getElem? (i := 96) rfl)
theorem own_w97 {Z : State} {a0 : Array Value} (hw : ∀ d ∈ tables_1, d.before a0 Z = true) : ((Jvm.Cond.declares ({ cls := "java/lang/String", name := "equals", desc := "(Ljava/lang/Object;)Z" } : Jvm.MethodName))).before a0 Z = true := hw _ (List.mem_of_getElem? (i := 97) rfl)
theorem own_w98 {Z : State} {a0 : Array Value} (hw : ∀ d ∈ tables_1, d.before a0 Z = true) : ((Jvm.Cond.instanceMethod ({ cls := "java/lang/String", name := "equals", desc := "(Ljava/lang/Object;)Z" } : Jvm.MethodName))).before a0 Z = true := hw _ (List.mem_of_getElem? (i := 98) rfl)
theorem own_w99 {Z : State} {a0 : Array Value} (hw : ∀ d ∈ tables_1, d.before a0 Z = true) : ((Jvm.Cond.selects "java/lang/String" ({ cls := "java/lang/String", name := "equals", desc := "(Ljava/lang/Object;)Z" } : Jvm.MethodName) ({ cls := "java/lang/String", name := "equals", desc := "(Ljava/lang/Object;)Z" } : Jvm.MethodName))).before a0 Z = true := hw _ (List.mem_of_getElem? (i := 99) rfl)
theorem own_w100 {Z : State} {a0 : Array Value} (hw : ∀ d ∈ tables_1, d.before a0 Z = true) : ((Jvm.Cond.code ({ cls := "java/lang/String", name := "equals", desc := "(Ljava/lang/Object;)Z" } : Jvm.MethodName) jdk_42_method_66_code (3 : Nat) (Option.some Jvm.ClassFile.FieldType.boolean))).before a0 Z = true := hw _ (List.mem_of_getElem? (i := 100) rfl)
theorem own_w101 {Z : State} {a0 : Array Value} (hw : ∀ d ∈ tables_1, d.before a0 Z = true) : ((Jvm.Cond.methodLink "java/lang/String" (541 : Nat) ({ cls := "java/lang/StringLatin1", name := "equals", desc := "([B[B)Z" } : Jvm.MethodName))).before a0 Z = true := hw _ (List.mem_of_getElem? (i := 101) rfl)
theorem own_w102 {Z : State} {a0 : Array Value} (hw : ∀ d ∈ tables_1, d.before a0 Z = true) : ((Jvm.Cond.static ({ cls := "java/lang/StringLatin1", name := "equals", desc := "([B[B)Z" } : Jvm.MethodName))).before a0 Z = true := hw _ (List.mem_of_getElem? (i := 102) rfl)
theorem own_w103 {Z : State} {a0 : Array Value} (hw : ∀ d ∈ tables_1, d.before a0 Z = true) : ((Jvm.Cond.code ({ cls := "java/lang/StringLatin1", name := "equals", desc := "([B[B)Z" } : Jvm.MethodName) jdk_43_method_13_code (3 : Nat) (Option.some Jvm.ClassFile.FieldType.boolean))).before a0 Z = true := hw _ (List.mem_of_getElem? (i := 103) rfl)
theorem own_w104 {Z : State} {a0 : Array Value} (hw : ∀ d ∈ tables_1, d.before a0 Z = true) : ((Jvm.Cond.stringLink "com/example/xqwry/xqwry/MarkupName" (44 : Nat) "xmlns:")).before a0 Z = true := hw _ (List.mem_of_getElem? (i := 104) rfl)
theorem own_w105 {Z : State} {a0 : Array Value} (hw : ∀ d ∈ tables_1, d.before a0 Z = true) : ((Jvm.Cond.methodLink "com/example/xqwry/xqwry/MarkupName" (46 : Nat) ({ cls := "java/lang/String", name := "startsWith", desc := "(Ljava/lang/String;)Z" } : Jvm.MethodName))).before a0 Z = true := hw _ (List.mem_of_getElem? (i := 105) rfl)
theorem own_w106 {Z : State} {a0 : Array Value} (hw : ∀ d ∈ tables_1, d.before a0 Z = true) : ((Jvm.Cond.declares ({ cls := "java/lang/String", name := "startsWith", desc := "(Ljava/lang/String;)Z" } : Jvm.MethodName))).before a0 Z = true := hw _ (List.mem_of_getElem? (i := 106) rfl)
theorem own_w107 {Z : State} {a0 : Array Value} (hw : ∀ d ∈ tables_1, d.before a0 Z = true) : ((Jvm.Cond.instanceMethod ({ cls := "java/lang/String", name := "startsWith", desc := "(Ljava/lang/String;)Z" } : Jvm.MethodName))).before a0 Z = true := hw _ (List.mem_of_getElem? (i := 107) rfl)
theorem own_w108 {Z : State} {a0 : Array Value} (hw : ∀ d ∈ tables_1, d.before a0 Z = true) : ((Jvm.Cond.selects "java/lang/String" ({ cls := "java/lang/String", name := "startsWith", desc := "(Ljava/lang/String;)Z" } : Jvm.MethodName) ({ cls := "java/lang/String", name := "startsWith", desc := "(Ljava/lang/String;)Z" } : Jvm.MethodName))).before a0 Z = true := hw _ (List.mem_of_getElem? (i := 108) rfl)
theorem own_w109 {Z : State} {a0 : Array Value} (hw : ∀ d ∈ tables_1, d.before a0 Z = true) : ((Jvm.Cond.code ({ cls := "java/lang/String", name := "startsWith", desc := "(Ljava/lang/String;)Z" } : Jvm.MethodName) jdk_42_method_76_code (2 : Nat) (Option.some Jvm.ClassFile.FieldType.boolean))).before a0 Z = true := hw _ (List.mem_of_getElem? (i := 109) rfl)
theorem own_w110 {Z : State} {a0 : Array Value} (hw : ∀ d ∈ tables_1, d.before a0 Z = true) : ((Jvm.Cond.methodLink "java/lang/String" (624 : Nat) ({ cls := "java/lang/String", name := "startsWith", desc := "(Ljava/lang/String;I)Z" } : Jvm.MethodName))).before a0 Z = true := hw _ (List.mem_of_getElem? (i := 110) rfl)
theorem own_w111 {Z : State} {a0 : Array Value} (hw : ∀ d ∈ tables_1, d.before a0 Z = true) : ((Jvm.Cond.declares ({ cls := "java/lang/String", name := "startsWith", desc := "(Ljava/lang/String;I)Z" } : Jvm.MethodName))).before a0 Z = true := hw _ (List.mem_of_getElem? (i := 111) rfl)
theorem own_w112 {Z : State} {a0 : Array Value} (hw : ∀ d ∈ tables_1, d.before a0 Z = true) : ((Jvm.Cond.instanceMethod ({ cls := "java/lang/String", name := "startsWith", desc := "(Ljava/lang/String;I)Z" } : Jvm.MethodName))).before a0 Z = true := hw _ (List.mem_of_getElem? (i := 112) rfl)
theorem own_w113 {Z : State} {a0 : Array Value} (hw : ∀ d ∈ tables_1, d.before a0 Z = true) : ((Jvm.Cond.selects "java/lang/String" ({ cls := "java/lang/String", name := "startsWith", desc := "(Ljava/lang/String;I)Z" } : Jvm.MethodName) ({ cls := "java/lang/String", name := "startsWith", desc := "(Ljava/lang/String;I)Z" } : Jvm.MethodName))).before a0 Z = true := hw _ (List.mem_of_getElem? (i := 113) rfl)
theorem own_w114 {Z : State} {a0 : Array Value} (hw : ∀ d ∈ tables_1, d.before a0 Z = true) : ((Jvm.Cond.code ({ cls := "java/lang/String", name := "startsWith", desc := "(Ljava/lang/String;I)Z" } : Jvm.MethodName) jdk_42_method_75_code (8 : Nat) (Option.some Jvm.ClassFile.FieldType.boolean))).before a0 Z = true := hw _ (List.mem_of_getElem? (i := 114) rfl)
theorem own_w115 {Z : State} {a0 : Array Value} (hw : ∀ d ∈ tables_1, d.before a0 Z = true) : ((Jvm.Cond.fieldLink "com/example/xqwry/xqwry/MarkupName" (41 : Nat) "com/example/xqwry/xqwry/MarkupName" "declaredPrefix" "Ljava/lang/String;")).before a0 Z = true := hw _ (List.mem_of_getElem? (i := 115) rfl)
theorem own_w116 {Z : State} {a0 : Array Value} (hw : ∀ d ∈ tables_1, d.before a0 Z = true) : ((Jvm.Cond.laysFinal "com/example/xqwry/xqwry/MarkupName" "com/example/xqwry/xqwry/MarkupName" "declaredPrefix" "Ljava/lang/String;")).before a0 Z = true := hw _ (List.mem_of_getElem? (i := 116) rfl)
theorem own_w117 {Z : State} {a0 : Array Value} (hw : ∀ d ∈ tables_1, d.before a0 Z = true) : ((Jvm.Cond.methodLink "com/example/xqwry/xqwry/MarkupNameKeepResolvedPinLaw" (18 : Nat) ({ cls := "com/example/xqwry/xqwry/MarkupName", name := "resolved", desc := "(ZI)I" } : Jvm.MethodName))).before a0 Z = true := hw _ (List.mem_of_getElem? (i := 117) rfl)
theorem own_w118 {Z : State} {a0 : Array Value} (hw : ∀ d ∈ tables_1, d.before a0 Z = true) : ((Jvm.Cond.declares ({ cls := "com/example/xqwry/xqwry/MarkupName", name := "resolved", desc := "(ZI)I" } : Jvm.MethodName))).before a0 Z = true := hw _ (List.mem_of_getElem? (i := 118) rfl)
theorem own_w119 {Z : State} {a0 : Array Value} (hw : ∀ d ∈ tables_1, d.before a0 Z = true) : ((Jvm.Cond.instanceMethod ({ cls := "com/example/xqwry/xqwry/MarkupName", name := "resolved", desc := "(ZI)I" } : Jvm.MethodName))).before a0 Z = true := hw _ (List.mem_of_getElem? (i := 119) rfl)
theorem own_w120 {Z : State} {a0 : Array Value} (hw : ∀ d ∈ tables_1, d.before a0 Z = true) : ((Jvm.Cond.selects "com/example/xqwry/xqwry/MarkupName" ({ cls := "com/example/xqwry/xqwry/MarkupName", name := "resolved", desc := "(ZI)I" } : Jvm.MethodName) ({ cls := "com/example/xqwry/xqwry/MarkupName", name := "resolved", desc := "(ZI)I" } : Jvm.MethodName))).before a0 Z = true := hw _ (List.mem_of_getElem? (i := 120) rfl)
theorem own_w121 {Z : State} {a0 : Array Value} (hw : ∀ d ∈ tables_1, d.before a0 Z = true) : ((Jvm.Cond.code ({ cls := "com/example/xqwry/xqwry/MarkupName", name := "resolved", desc := "(ZI)I" } : Jvm.MethodName) prog_166_method_4_code (4 : Nat) (Option.some Jvm.ClassFile.FieldType.int))).before a0 Z = true := hw _ (List.mem_of_getElem? (i := 121) rfl)
theorem own_w122 {Z : State} {a0 : Array Value} (hw : ∀ d ∈ tables_1, d.before a0 Z = true) : ((Jvm.Cond.fieldRef "com/example/xqwry/xqwry/MarkupName" (54 : Nat) "com/example/xqwry/xqwry/MarkupName$Resolution" "namespaceChanges" "I")).before a0 Z = true := hw _ (List.mem_of_getElem? (i := 122) rfl)
theorem own_w123 {Z : State} {a0 : Array Value} (hw : ∀ d ∈ tables_1, d.before a0 Z = true) : ((Jvm.Cond.methodLink "com/example/xqwry/xqwry/MarkupNameKeepResolvedPinLaw" (22 : Nat) ({ cls := "com/example/xqwry/xqwry/MarkupName", name := "keepResolved", desc := "(ZII)V" } : Jvm.MethodName))).before a0 Z = true := hw _ (List.mem_of_getElem? (i := 123) rfl)
theorem own_w124 {Z : State} {a0 : Array Value} (hw : ∀ d ∈ tables_1, d.before a0 Z = true) : ((Jvm.Cond.declares ({ cls := "com/example/xqwry/xqwry/MarkupName", name := "keepResolved", desc := "(ZII)V" } : Jvm.MethodName))).before a0 Z = true := hw _ (List.mem_of_getElem? (i := 124) rfl)
theorem own_w125 {Z : State} {a0 : Array Value} (hw : ∀ d ∈ tables_1, d.before a0 Z = true) : ((Jvm.Cond.instanceMethod ({ cls := "com/example/xqwry/xqwry/MarkupName", name := "keepResolved", desc := "(ZII)V" } : Jvm.MethodName))).before a0 Z = true := hw _ (List.mem_of_getElem? (i := 125) rfl)
theorem own_w126 {Z : State} {a0 : Array Value} (hw : ∀ d ∈ tables_1, d.before a0 Z = true) : ((Jvm.Cond.selects "com/example/xqwry/xqwry/MarkupName" ({ cls := "com/example/xqwry/xqwry/MarkupName", name := "keepResolved", desc := "(ZII)V" } : Jvm.MethodName) ({ cls := "com/example/xqwry/xqwry/MarkupName", name := "keepResolved", desc := "(ZII)V" } : Jvm.MethodName))).before a0 Z = true := hw _ (List.mem_of_getElem? (i := 126) rfl)
theorem own_w127 {Z : State} {a0 : Array Value} (hw : ∀ d ∈ tables_1, d.before a0 Z = true) : ((Jvm.Cond.code ({ cls := "com/example/xqwry/xqwry/MarkupName", name := "keepResolved", desc := "(ZII)V" } : Jvm.MethodName) prog_166_method_5_code (5 : Nat) (Option.none : Option Jvm.ClassFile.FieldType))).before a0 Z = true := hw _ (List.mem_of_getElem? (i := 127) rfl)
theorem own_w128 {Z : State} {a0 : Array Value} (hw : ∀ d ∈ tables_1, d.before a0 Z = true) : ((Jvm.Cond.fieldRef "com/example/xqwry/xqwry/MarkupName" (58 : Nat) "com/example/xqwry/xqwry/MarkupName$Resolution" "name" "I")).before a0 Z = true := hw _ (List.mem_of_getElem? (i := 128) rfl)
theorem own_w129 {Z : State} {a0 : Array Value} (hw : ∀ d ∈ tables_1, d.before a0 Z = true) : ((Jvm.Cond.methodLink "com/example/xqwry/xqwry/MarkupNameKeepResolvedPinLaw" (26 : Nat) ({ cls := "com/example/xqwry/xqwry/MarkupNameKeepResolvedPinLaw", name := "expect", desc := "(III)I" } : Jvm.MethodName))).before a0 Z = true := hw _ (List.mem_of_getElem? (i := 129) rfl)
theorem own_w130 {Z : State} {a0 : Array Value} (hw : ∀ d ∈ tables_1, d.before a0 Z = true) : ((Jvm.Cond.static ({ cls := "com/example/xqwry/xqwry/MarkupNameKeepResolvedPinLaw", name := "expect", desc := "(III)I" } : Jvm.MethodName))).before a0 Z = true := hw _ (List.mem_of_getElem? (i := 130) rfl)
theorem own_w131 {Z : State} {a0 : Array Value} (hw : ∀ d ∈ tables_1, d.before a0 Z = true) : ((Jvm.Cond.initialized "com/example/xqwry/xqwry/MarkupNameKeepResolvedPinLaw")).before a0 Z = true := hw _ (List.mem_of_getElem? (i := 131) rfl)
theorem own_w132 {Z : State} {a0 : Array Value} (hw : ∀ d ∈ tables_1, d.before a0 Z = true) : ((Jvm.Cond.code ({ cls := "com/example/xqwry/xqwry/MarkupNameKeepResolvedPinLaw", name := "expect", desc := "(III)I" } : Jvm.MethodName) method_2_code (3 : Nat) (Option.some Jvm.ClassFile.FieldType.int))).before a0 Z = true := hw _ (List.mem_of_getElem? (i := 132) rfl)
theorem own_pd_0 : parseMethodDescriptor "(C)Z" = some ⟨[.char], some .boolean⟩ := by decide +kernel
theorem own_pd_1 : parseMethodDescriptor "(C)[B" = some ⟨[.char], some (.array .byte)⟩ := by decide +kernel
theorem own_pd_2 : parseMethodDescriptor "([BB)V" = some ⟨[(.array .byte), .byte], none⟩ := by decide +kernel
theorem own_pd_3 : parseMethodDescriptor "()B" = some ⟨[], some .byte⟩ := by decide +kernel
theorem own_pd_4 : parseMethodDescriptor "(I)Z" = some ⟨[.int], some .boolean⟩ := by decide +kernel
theorem own_pd_5 : parseMethodDescriptor "(II)I" = some ⟨[.int, .int], some .int⟩ := by decide +kernel
theorem own_pd_6 : parseMethodDescriptor "([BIII)I" = some ⟨[(.array .byte), .int, .int, .int], some .int⟩ := by decide +kernel
theorem own_pd_7 : parseMethodDescriptor "()Z" = some ⟨[], some .boolean⟩ := by decide +kernel
theorem own_pd_8 : parseMethodDescriptor "()I" = some ⟨[], some .int⟩ := by decide +kernel
theorem own_pd_9 : parseMethodDescriptor "([B[B)Z" = some ⟨[(.array .byte), (.array .byte)], some .boolean⟩ := by decide +kernel
theorem own_pd_10 : parseMethodDescriptor "(Ljava/lang/String;I)Z" = some ⟨[(.object "java/lang/String"), .int], some .boolean⟩ := by decide +kernel
theorem own_pd_11 : parseMethodDescriptor "()V" = some ⟨[], none⟩ := by decide +kernel
theorem own_pd_12 : parseMethodDescriptor "(I)I" = some ⟨[.int], some .int⟩ := by decide +kernel
theorem own_pd_13 : parseMethodDescriptor "(Ljava/lang/Object;)Z" = some ⟨[(.object "java/lang/Object")], some .boolean⟩ := by decide +kernel
theorem own_pd_14 : parseMethodDescriptor "(Ljava/lang/String;)Z" = some ⟨[(.object "java/lang/String")], some .boolean⟩ := by decide +kernel
theorem own_pd_15 : parseMethodDescriptor "(C)Ljava/lang/String;" = some ⟨[.char], some (.object "java/lang/String")⟩ := by decide +kernel
theorem own_pd_16 : parseMethodDescriptor "(Ljava/lang/String;)V" = some ⟨[(.object "java/lang/String")], none⟩ := by decide +kernel
theorem own_pd_17 : parseMethodDescriptor "(ZI)I" = some ⟨[.boolean, .int], some .int⟩ := by decide +kernel
theorem own_pd_18 : parseMethodDescriptor "(ZII)V" = some ⟨[.boolean, .int, .int], none⟩ := by decide +kernel
theorem own_pd_19 : parseMethodDescriptor "(III)I" = some ⟨[.int, .int, .int], some .int⟩ := by decide +kernel
def own_f_cec (p1 : Int32) : Int32 :=
  if (255 : Int32) < p1 then
    (0 : Int32)
  else
    (1 : Int32)
theorem d_cec_0 : decode jdk_43_method_3_code 0 = .ok (.iload_n 0, 1) := by decide +kernel
theorem d_cec_1 : decode jdk_43_method_3_code 1 = .ok (.sipush 255, 3) := by decide +kernel
theorem d_cec_4 : decode jdk_43_method_3_code 4 = .ok (.if_icmp .gt 7, 3) := by decide +kernel
theorem d_cec_7 : decode jdk_43_method_3_code 7 = .ok (.iconst 1, 1) := by decide +kernel
theorem d_cec_8 : decode jdk_43_method_3_code 8 = .ok (.goto 4, 3) := by decide +kernel
theorem d_cec_11 : decode jdk_43_method_3_code 11 = .ok (.iconst 0, 1) := by decide +kernel
theorem d_cec_12 : decode jdk_43_method_3_code 12 = .ok (.ireturn, 1) := by decide +kernel
theorem own_ef_cec (m : MethodId) (p1 : Int32) : entryFrame m #[(.int p1)] 1 = mkF m 0 #[.val (.int p1)] [] := by first | (simp [entryFrame, mkF, argsToLocals, Value.category]; done) | rfl
set_option maxRecDepth 65536 in
set_option maxHeartbeats 40000000 in
theorem own_m_cec (l : Launch) (Z : State) (a0 : Array Value) (hw : ∀ d ∈ tables_1, d.before a0 Z = true) (h0 : Heap) (n0 : Nat) (p1 : Int32) {r : Int32} (hF : own_f_cec p1 = r) : own_Met l Z ⟨"java/lang/StringLatin1", "canEncode", "(C)Z"⟩ jdk_43_method_3_code 1 (some .boolean) [] ({ frames := 0, cells := 0, slots := 0, locals := 0 } : Room) #[(.int p1)] h0 n0 (fun v h => v = some (.int r) ∧ h = h0) := by
  refine own_body (plainFor_of_name own_pn_StringLatin1) ?_
  intro p e s m below meth c T0 X0 hx hby hml hown hnm hZ e0 hret hlk
  have N0 := Fr.nil n0
  refine own_cast (own_ef_cec m p1) ?_
  unfold own_f_cec at hF
  refine own_iloadN X0 hx (hb hby d_cec_0) rfl 1 rfl ?_
  refine own_sipush X0 hx (z := (255 : Int32)) (hb hby d_cec_1) rfl 4 rfl ?_
  by_cases hc1 : (255 : Int32) < p1
  · replace hF := own_ifT hc1 hF
    refine own_icmpT X0 hx (hb hby d_cec_4) (tlt hc1).2.2.1 11 (by decide) (by decide) ?_
    refine own_iconst X0 hx (z := (0 : Int32)) (hb hby d_cec_11) rfl 12 rfl ?_
    exact own_retN X0 hx hret (Or.inl rfl) hlk (hb hby d_cec_12) (Nat.le_refl _) (Nat.le_refl _) N0 e0 ⟨congrArg (fun z => some (Value.int z)) hF, rfl⟩
  · replace hF := own_ifF hc1 hF
    refine own_icmpF X0 hx (hb hby d_cec_4) (flt hc1).2.2.1 7 rfl ?_
    refine own_iconst X0 hx (z := (1 : Int32)) (hb hby d_cec_7) rfl 8 rfl ?_
    refine own_goto X0 hx (hb hby d_cec_8) 12 (by decide) (by decide) ?_
    exact own_retN X0 hx hret (Or.inl rfl) hlk (hb hby d_cec_12) (Nat.le_refl _) (Nat.le_refl _) N0 e0 ⟨congrArg (fun z => some (Value.int z)) hF, rfl⟩
def own_f_cei (p1 : Int32) : Int32 :=
  if p1 < (0 : Int32) then
    (0 : Int32)
  else
    if (255 : Int32) < p1 then
      (0 : Int32)
    else
      (1 : Int32)
theorem d_cei_0 : decode jdk_43_method_4_code 0 = .ok (.iload_n 0, 1) := by decide +kernel
theorem d_cei_1 : decode jdk_43_method_4_code 1 = .ok (.ifCond .lt 14, 3) := by decide +kernel
theorem d_cei_4 : decode jdk_43_method_4_code 4 = .ok (.iload_n 0, 1) := by decide +kernel
theorem d_cei_5 : decode jdk_43_method_4_code 5 = .ok (.sipush 255, 3) := by decide +kernel
theorem d_cei_8 : decode jdk_43_method_4_code 8 = .ok (.if_icmp .gt 7, 3) := by decide +kernel
theorem d_cei_11 : decode jdk_43_method_4_code 11 = .ok (.iconst 1, 1) := by decide +kernel
theorem d_cei_12 : decode jdk_43_method_4_code 12 = .ok (.goto 4, 3) := by decide +kernel
theorem d_cei_15 : decode jdk_43_method_4_code 15 = .ok (.iconst 0, 1) := by decide +kernel
theorem d_cei_16 : decode jdk_43_method_4_code 16 = .ok (.ireturn, 1) := by decide +kernel
theorem own_ef_cei (m : MethodId) (p1 : Int32) : entryFrame m #[(.int p1)] 1 = mkF m 0 #[.val (.int p1)] [] := by first | (simp [entryFrame, mkF, argsToLocals, Value.category]; done) | rfl
set_option maxRecDepth 65536 in
set_option maxHeartbeats 40000000 in
theorem own_m_cei (l : Launch) (Z : State) (a0 : Array Value) (hw : ∀ d ∈ tables_1, d.before a0 Z = true) (h0 : Heap) (n0 : Nat) (p1 : Int32) {r : Int32} (hF : own_f_cei p1 = r) : own_Met l Z ⟨"java/lang/StringLatin1", "canEncode", "(I)Z"⟩ jdk_43_method_4_code 1 (some .boolean) [] ({ frames := 0, cells := 0, slots := 0, locals := 0 } : Room) #[(.int p1)] h0 n0 (fun v h => v = some (.int r) ∧ h = h0) := by
  refine own_body (plainFor_of_name own_pn_StringLatin1) ?_
  intro p e s m below meth c T0 X0 hx hby hml hown hnm hZ e0 hret hlk
  have N0 := Fr.nil n0
  refine own_cast (own_ef_cei m p1) ?_
  unfold own_f_cei at hF
  refine own_iloadN X0 hx (hb hby d_cei_0) rfl 1 rfl ?_
  by_cases hc1 : p1 < (0 : Int32)
  · replace hF := own_ifT hc1 hF
    refine own_ifcT X0 hx (hb hby d_cei_1) (tlt hc1).1 15 (by decide) (by decide) ?_
    refine own_iconst X0 hx (z := (0 : Int32)) (hb hby d_cei_15) rfl 16 rfl ?_
    exact own_retN X0 hx hret (Or.inl rfl) hlk (hb hby d_cei_16) (Nat.le_refl _) (Nat.le_refl _) N0 e0 ⟨congrArg (fun z => some (Value.int z)) hF, rfl⟩
  · replace hF := own_ifF hc1 hF
    refine own_ifcF X0 hx (hb hby d_cei_1) (flt hc1).1 4 rfl ?_
    refine own_iloadN X0 hx (hb hby d_cei_4) rfl 5 rfl ?_
    refine own_sipush X0 hx (z := (255 : Int32)) (hb hby d_cei_5) rfl 8 rfl ?_
    by_cases hc2 : (255 : Int32) < p1
    · replace hF := own_ifT hc2 hF
      refine own_icmpT X0 hx (hb hby d_cei_8) (tlt hc2).2.2.1 15 (by decide) (by decide) ?_
      refine own_iconst X0 hx (z := (0 : Int32)) (hb hby d_cei_15) rfl 16 rfl ?_
      exact own_retN X0 hx hret (Or.inl rfl) hlk (hb hby d_cei_16) (Nat.le_refl _) (Nat.le_refl _) N0 e0 ⟨congrArg (fun z => some (Value.int z)) hF, rfl⟩
    · replace hF := own_ifF hc2 hF
      refine own_icmpF X0 hx (hb hby d_cei_8) (flt hc2).2.2.1 11 rfl ?_
      refine own_iconst X0 hx (z := (1 : Int32)) (hb hby d_cei_11) rfl 12 rfl ?_
      refine own_goto X0 hx (hb hby d_cei_12) 16 (by decide) (by decide) ?_
      exact own_retN X0 hx hret (Or.inl rfl) hlk (hb hby d_cei_16) (Nat.le_refl _) (Nat.le_refl _) N0 e0 ⟨congrArg (fun z => some (Value.int z)) hF, rfl⟩
def own_f_max (p1 p2 : Int32) : Int32 :=
  if p1 < p2 then
    p2
  else
    p1
theorem d_max_0 : decode jdk_29_method_65_code 0 = .ok (.iload_n 0, 1) := by decide +kernel
theorem d_max_1 : decode jdk_29_method_65_code 1 = .ok (.iload_n 1, 1) := by decide +kernel
theorem d_max_2 : decode jdk_29_method_65_code 2 = .ok (.if_icmp .lt 7, 3) := by decide +kernel
theorem d_max_5 : decode jdk_29_method_65_code 5 = .ok (.iload_n 0, 1) := by decide +kernel
theorem d_max_6 : decode jdk_29_method_65_code 6 = .ok (.goto 4, 3) := by decide +kernel
theorem d_max_9 : decode jdk_29_method_65_code 9 = .ok (.iload_n 1, 1) := by decide +kernel
theorem d_max_10 : decode jdk_29_method_65_code 10 = .ok (.ireturn, 1) := by decide +kernel
theorem own_ef_max (m : MethodId) (p1 : Int32) (p2 : Int32) : entryFrame m #[(.int p1), (.int p2)] 2 = mkF m 0 #[.val (.int p1), .val (.int p2)] [] := by first | (simp [entryFrame, mkF, argsToLocals, Value.category]; done) | rfl
set_option maxRecDepth 65536 in
set_option maxHeartbeats 40000000 in
theorem own_m_max (l : Launch) (Z : State) (a0 : Array Value) (hw : ∀ d ∈ tables_1, d.before a0 Z = true) (h0 : Heap) (n0 : Nat) (p1 p2 : Int32) {r : Int32} (hF : own_f_max p1 p2 = r) : own_Met l Z ⟨"java/lang/Math", "max", "(II)I"⟩ jdk_29_method_65_code 2 (some .int) [] ({ frames := 0, cells := 0, slots := 0, locals := 0 } : Room) #[(.int p1), (.int p2)] h0 n0 (fun v h => v = some (.int r) ∧ h = h0) := by
  refine own_body (by decide +kernel) ?_
  intro p e s m below meth c T0 X0 hx hby hml hown hnm hZ e0 hret hlk
  have N0 := Fr.nil n0
  refine own_cast (own_ef_max m p1 p2) ?_
  unfold own_f_max at hF
  refine own_iloadN X0 hx (hb hby d_max_0) rfl 1 rfl ?_
  refine own_iloadN X0 hx (hb hby d_max_1) rfl 2 rfl ?_
  by_cases hc1 : p1 < p2
  · replace hF := own_ifT hc1 hF
    refine own_icmpT X0 hx (hb hby d_max_2) (tlt hc1).1 9 (by decide) (by decide) ?_
    refine own_iloadN X0 hx (hb hby d_max_9) rfl 10 rfl ?_
    exact own_retI X0 hx hret hlk (hb hby d_max_10) (Nat.le_refl _) (Nat.le_refl _) N0 e0 ⟨congrArg (fun z => some (Value.int z)) hF, rfl⟩
  · replace hF := own_ifF hc1 hF
    refine own_icmpF X0 hx (hb hby d_max_2) (flt hc1).1 5 rfl ?_
    refine own_iloadN X0 hx (hb hby d_max_5) rfl 6 rfl ?_
    refine own_goto X0 hx (hb hby d_max_6) 10 (by decide) (by decide) ?_
    exact own_retI X0 hx hret hlk (hb hby d_max_10) (Nat.le_refl _) (Nat.le_refl _) N0 e0 ⟨congrArg (fun z => some (Value.int z)) hF, rfl⟩
def own_f_min (p1 p2 : Int32) : Int32 :=
  if p2 < p1 then
    p2
  else
    p1
theorem d_min_0 : decode jdk_29_method_69_code 0 = .ok (.iload_n 0, 1) := by decide +kernel
theorem d_min_1 : decode jdk_29_method_69_code 1 = .ok (.iload_n 1, 1) := by decide +kernel
theorem d_min_2 : decode jdk_29_method_69_code 2 = .ok (.if_icmp .gt 7, 3) := by decide +kernel
theorem d_min_5 : decode jdk_29_method_69_code 5 = .ok (.iload_n 0, 1) := by decide +kernel
theorem d_min_6 : decode jdk_29_method_69_code 6 = .ok (.goto 4, 3) := by decide +kernel
theorem d_min_9 : decode jdk_29_method_69_code 9 = .ok (.iload_n 1, 1) := by decide +kernel
theorem d_min_10 : decode jdk_29_method_69_code 10 = .ok (.ireturn, 1) := by decide +kernel
theorem own_ef_min (m : MethodId) (p1 : Int32) (p2 : Int32) : entryFrame m #[(.int p1), (.int p2)] 2 = mkF m 0 #[.val (.int p1), .val (.int p2)] [] := by first | (simp [entryFrame, mkF, argsToLocals, Value.category]; done) | rfl
set_option maxRecDepth 65536 in
set_option maxHeartbeats 40000000 in
theorem own_m_min (l : Launch) (Z : State) (a0 : Array Value) (hw : ∀ d ∈ tables_1, d.before a0 Z = true) (h0 : Heap) (n0 : Nat) (p1 p2 : Int32) {r : Int32} (hF : own_f_min p1 p2 = r) : own_Met l Z ⟨"java/lang/Math", "min", "(II)I"⟩ jdk_29_method_69_code 2 (some .int) [] ({ frames := 0, cells := 0, slots := 0, locals := 0 } : Room) #[(.int p1), (.int p2)] h0 n0 (fun v h => v = some (.int r) ∧ h = h0) := by
  refine own_body (by decide +kernel) ?_
  intro p e s m below meth c T0 X0 hx hby hml hown hnm hZ e0 hret hlk
  have N0 := Fr.nil n0
  refine own_cast (own_ef_min m p1 p2) ?_
  unfold own_f_min at hF
  refine own_iloadN X0 hx (hb hby d_min_0) rfl 1 rfl ?_
  refine own_iloadN X0 hx (hb hby d_min_1) rfl 2 rfl ?_
  by_cases hc1 : p2 < p1
  · replace hF := own_ifT hc1 hF
    refine own_icmpT X0 hx (hb hby d_min_2) (tlt hc1).2.2.1 9 (by decide) (by decide) ?_
    refine own_iloadN X0 hx (hb hby d_min_9) rfl 10 rfl ?_
    exact own_retI X0 hx hret hlk (hb hby d_min_10) (Nat.le_refl _) (Nat.le_refl _) N0 e0 ⟨congrArg (fun z => some (Value.int z)) hF, rfl⟩
  · replace hF := own_ifF hc1 hF
    refine own_icmpF X0 hx (hb hby d_min_2) (flt hc1).2.2.1 5 rfl ?_
    refine own_iloadN X0 hx (hb hby d_min_5) rfl 6 rfl ?_
    refine own_goto X0 hx (hb hby d_min_6) 10 (by decide) (by decide) ?_
    exact own_retI X0 hx hret hlk (hb hby d_min_10) (Nat.le_refl _) (Nat.le_refl _) N0 e0 ⟨congrArg (fun z => some (Value.int z)) hF, rfl⟩
def own_f_exp (p1 p2 p3 : Int32) : Int32 :=
  if p1 = p2 then
    p3
  else
    (-1 : Int32)
theorem d_exp_0 : decode method_2_code 0 = .ok (.iload_n 0, 1) := by decide +kernel
theorem d_exp_1 : decode method_2_code 1 = .ok (.iload_n 1, 1) := by decide +kernel
theorem d_exp_2 : decode method_2_code 2 = .ok (.if_icmp .ne 5, 3) := by decide +kernel
theorem d_exp_5 : decode method_2_code 5 = .ok (.iload_n 2, 1) := by decide +kernel
theorem d_exp_6 : decode method_2_code 6 = .ok (.ireturn, 1) := by decide +kernel
theorem d_exp_7 : decode method_2_code 7 = .ok (.iconst (-1), 1) := by decide +kernel
theorem d_exp_8 : decode method_2_code 8 = .ok (.ireturn, 1) := by decide +kernel
theorem own_ef_exp (m : MethodId) (p1 : Int32) (p2 : Int32) (p3 : Int32) : entryFrame m #[(.int p1), (.int p2), (.int p3)] 3 = mkF m 0 #[.val (.int p1), .val (.int p2), .val (.int p3)] [] := by first | (simp [entryFrame, mkF, argsToLocals, Value.category]; done) | rfl
set_option maxRecDepth 65536 in
set_option maxHeartbeats 40000000 in
theorem own_m_exp (l : Launch) (Z : State) (a0 : Array Value) (hw : ∀ d ∈ tables_1, d.before a0 Z = true) (h0 : Heap) (n0 : Nat) (p1 p2 p3 : Int32) {r : Int32} (hF : own_f_exp p1 p2 p3 = r) : own_Met l Z ⟨"com/example/xqwry/xqwry/MarkupNameKeepResolvedPinLaw", "expect", "(III)I"⟩ method_2_code 3 (some .int) [] ({ frames := 0, cells := 0, slots := 0, locals := 0 } : Room) #[(.int p1), (.int p2), (.int p3)] h0 n0 (fun v h => v = some (.int r) ∧ h = h0) := by
  refine own_body (plainFor_of_name own_pn_MarkupNameKeepResolvedPinLaw) ?_
  intro p e s m below meth c T0 X0 hx hby hml hown hnm hZ e0 hret hlk
  have N0 := Fr.nil n0
  refine own_cast (own_ef_exp m p1 p2 p3) ?_
  unfold own_f_exp at hF
  refine own_iloadN X0 hx (hb hby d_exp_0) rfl 1 rfl ?_
  refine own_iloadN X0 hx (hb hby d_exp_1) rfl 2 rfl ?_
  by_cases hc1 : p1 = p2
  · replace hF := own_ifT hc1 hF
    refine own_icmpF X0 hx (hb hby d_exp_2) (teq hc1).2 5 rfl ?_
    refine own_iloadN X0 hx (hb hby d_exp_5) rfl 6 rfl ?_
    exact own_retI X0 hx hret hlk (hb hby d_exp_6) (Nat.le_refl _) (Nat.le_refl _) N0 e0 ⟨congrArg (fun z => some (Value.int z)) hF, rfl⟩
  · replace hF := own_ifF hc1 hF
    refine own_icmpT X0 hx (hb hby d_exp_2) (feq hc1).2 7 (by decide) (by decide) ?_
    refine own_iconst X0 hx (z := (-1 : Int32)) (hb hby d_exp_7) rfl 8 rfl ?_
    exact own_retI X0 hx hret hlk (hb hby d_exp_8) (Nat.le_refl _) (Nat.le_refl _) N0 e0 ⟨congrArg (fun z => some (Value.int z)) hF, rfl⟩
theorem d_tob_0 : decode jdk_43_method_46_code 0 = .ok (.iconst 1, 1) := by decide +kernel
theorem d_tob_1 : decode jdk_43_method_46_code 1 = .ok (.newarray .byte, 2) := by decide +kernel
theorem d_tob_3 : decode jdk_43_method_46_code 3 = .ok (.dup, 1) := by decide +kernel
theorem d_tob_4 : decode jdk_43_method_46_code 4 = .ok (.iconst 0, 1) := by decide +kernel
theorem d_tob_5 : decode jdk_43_method_46_code 5 = .ok (.iload_n 0, 1) := by decide +kernel
theorem d_tob_6 : decode jdk_43_method_46_code 6 = .ok (.i2b, 1) := by decide +kernel
theorem d_tob_7 : decode jdk_43_method_46_code 7 = .ok (.bastore, 1) := by decide +kernel
theorem d_tob_8 : decode jdk_43_method_46_code 8 = .ok (.areturn, 1) := by decide +kernel
theorem own_ef_tob (m : MethodId) (p1 : Int32) : entryFrame m #[(.int p1)] 1 = mkF m 0 #[.val (.int p1)] [] := by first | (simp [entryFrame, mkF, argsToLocals, Value.category]; done) | rfl
set_option maxRecDepth 65536 in
set_option maxHeartbeats 40000000 in
theorem own_m_tob (l : Launch) (Z : State) (a0 : Array Value) (hw : ∀ d ∈ tables_1, d.before a0 Z = true) (h0 : Heap) (n0 : Nat) (p1 : Int32) (Z0 : n0 ≤ h0.size) : own_Met l Z ⟨"java/lang/StringLatin1", "toBytes", "(C)[B"⟩ jdk_43_method_46_code 1 (some (.array .byte)) [] ({ frames := 0, cells := 1, slots := 1, locals := 0 } : Room) #[(.int p1)] h0 n0 (fun v h => ∃ b f, v = some (.ref b) ∧ own_A Z h b .byte 1 f ∧ own_le h0.size b ∧ Keep h0 h []) := by
  refine own_body (plainFor_of_name own_pn_StringLatin1) ?_
  intro p e s m below meth c T0 X0 hx hby hml hown hnm hZ e0 hret hlk
  have N0 := Fr.nil n0
  have K0 : Keep h0 h0 [] := Keep.refl _ _
  refine own_cast (own_ef_tob m p1) ?_
  refine own_iconst X0 hx (z := (1 : Int32)) (hb hby d_tob_0) rfl 1 rfl ?_
  refine own_newP (aty := .byte) X0 hx hZ (own_w17 hw) e0 (hb hby d_tob_1) (by decide) 1 (by decide) (by decide) (by decide) (by decide) 3 rfl (fun T1 h1 cA1 b g1 X1 e1 E1 B1 => ?_)
  have gn_b : n0 ≤ b := Nat.le_trans Z0 (Nat.le_of_eq g1.symm)
  have sz_b : h0.size ≤ b := Nat.le_trans K0.1 (Nat.le_of_eq g1.symm)
  have Z0_1 := Nat.le_trans Z0 E1.1
  have K0_1 := K0.ext E1
  have A_b_1 : own_A Z h1 b .byte 1 (fun _ => 0) := own_A.new B1 (by decide) rfl
  refine own_dup X1 hx (hb hby d_tob_3) rfl 4 rfl ?_
  refine own_iconst X1 hx (z := (0 : Int32)) (hb hby d_tob_4) rfl 5 rfl ?_
  refine own_iloadN X1 hx (hb hby d_tob_5) rfl 6 rfl ?_
  refine own_i2b X1 hx (hb hby d_tob_6) 7 rfl ?_
  refine own_bastore X1 hx hZ e1 A_b_1 ⟨by decide, by decide⟩ (hb hby d_tob_7) N0 gn_b 8 rfl (fun T2 h2 l2 X2 N2 e2 W2 => ?_)
  have Z0_2 := Nat.le_trans Z0_1 (Nat.le_of_eq W2.size.symm)
  have K0_2 := K0_1.wr W2 (Or.inr sz_b)
  have A_b_2 := A_b_1.set W2
  exact own_retA X2 hx hret rfl rfl rfl hlk (hb hby d_tob_8) (by decide) (by decide) N2 e2 ⟨b, _, rfl, A_b_2, sz_b, K0_2⟩
theorem d_sinit_0 : decode jdk_42_method_151_code 0 = .ok (.aload_n 0, 1) := by decide +kernel
theorem d_sinit_1 : decode jdk_42_method_151_code 1 = .ok (.invokespecial 1, 3) := by decide +kernel
theorem d_sinit_4 : decode jdk_42_method_151_code 4 = .ok (.aload_n 0, 1) := by decide +kernel
theorem d_sinit_5 : decode jdk_42_method_151_code 5 = .ok (.aload_n 1, 1) := by decide +kernel
theorem d_sinit_6 : decode jdk_42_method_151_code 6 = .ok (.putfield 9, 3) := by decide +kernel
theorem d_sinit_9 : decode jdk_42_method_151_code 9 = .ok (.aload_n 0, 1) := by decide +kernel
theorem d_sinit_10 : decode jdk_42_method_151_code 10 = .ok (.iload_n 2, 1) := by decide +kernel
theorem d_sinit_11 : decode jdk_42_method_151_code 11 = .ok (.putfield 15, 3) := by decide +kernel
theorem d_sinit_14 : decode jdk_42_method_151_code 14 = .ok (.return_, 1) := by decide +kernel
theorem own_ef_sinit (m : MethodId) (sa sb : Addr) : entryFrame m #[(.ref sa), (.ref sb), (.int (0 : Int32))] 3 = mkF m 0 #[.val (.ref sa), .val (.ref sb), .val (.int (0 : Int32))] [] := by first | (simp [entryFrame, mkF, argsToLocals, Value.category]; done) | rfl
set_option maxRecDepth 65536 in
set_option maxHeartbeats 40000000 in
theorem own_m_sinit (l : Launch) (Z : State) (a0 : Array Value) (hw : ∀ d ∈ tables_1, d.before a0 Z = true) (h0 : Heap) (n0 : Nat) {sa sb : Addr} (E0 : Exa Z h0 sa "java/lang/String") (F1 : Fld Z h0 sa "java/lang/String" "value" "[B" .null) (F2 : Fld Z h0 sa "java/lang/String" "coder" "B" (.int 0)) (gn_sa : n0 ≤ sa) : own_Met l Z ⟨"java/lang/String", "<init>", "([BB)V"⟩ jdk_42_method_151_code 3 none [] ({ frames := 1, cells := 0, slots := 0, locals := 12 } : Room) #[.ref sa, .ref sb, .int (0 : Int32)] h0 n0 (fun v h => v = none ∧ Fld Z h sa "java/lang/String" "value" "[B" (.ref sb) ∧ Fld Z h sa "java/lang/String" "coder" "B" (.int 0) ∧ Keep h0 h [sa]) := by
  refine own_body (plainFor_of_name own_pn_String) ?_
  intro p e s m below meth c T0 X0 hx hby hml hown hnm hZ e0 hret hlk
  have N0 := Fr.nil n0
  have K0 : Keep h0 h0 [sa] := Keep.refl _ _
  refine own_cast (own_ef_sinit m sa sb) ?_
  refine own_aloadN X0 hx (hb hby d_sinit_0) rfl rfl 1 rfl ?_
  refine own_initO X0 hx hZ hown (own_w22 hw) (own_w23 hw) (own_w24 hw) e0 (by rw [hml]; rfl) (hb hby d_sinit_1) 0 (by decide) (Nat.le_of_eq rfl) (by decide) 4 rfl (fun T1 X1 e1 => ?_)
  refine own_aloadN X1 hx (hb hby d_sinit_4) rfl rfl 5 rfl ?_
  refine own_aloadN X1 hx (hb hby d_sinit_5) rfl rfl 6 rfl ?_
  refine own_putF X1 hx hZ hown (own_w25 hw) e1 F1 E0 (Or.inr ⟨(own_w26 hw), rfl, hnm⟩) (own_w13 hw) (ty := (.array .byte)) (by decide) rfl rfl (hb hby d_sinit_6) N0 gn_sa 9 rfl (fun T2 h2 l2 X2 N2 e2 W2 => ?_)
  have E0_2 := E0.wr W2
  have F1_2 := F1.same W2
  have F2_2 := F2.other W2 (Or.inr (slot_ne (Or.inr (own_w28 hw)) (Or.inr (own_w26 hw)) (by decide) (t := .byte) (t' := (.array .byte)) (by decide) (by decide)))
  have K0_2 := K0.wr W2 (Or.inl (List.mem_of_getElem? (i := 0) rfl))
  refine own_aloadN X2 hx (hb hby d_sinit_9) rfl rfl 10 rfl ?_
  refine own_iloadN X2 hx (hb hby d_sinit_10) rfl 11 rfl ?_
  refine own_putFN X2 hx hZ hown (own_w27 hw) e2 F2_2 E0_2 (Or.inr ⟨(own_w28 hw), rfl, hnm⟩) (own_w13 hw) (ty := .byte) (v' := (.int (0 : Int32))) (by decide) rfl rfl (hb hby d_sinit_11) N2 gn_sa 14 rfl (fun T3 h3 l3 X3 N3 e3 W3 => ?_)
  have E0_3 := E0_2.wr W3
  have F1_3 := F1_2.other W3 (Or.inr (slot_ne (Or.inr (own_w26 hw)) (Or.inr (own_w28 hw)) (by decide) (t := (.array .byte)) (t' := .byte) (by decide) (by decide)))
  have F2_3 := F2_2.same W3
  have K0_3 := K0_2.wr W3 (Or.inl (List.mem_of_getElem? (i := 0) rfl))
  exact own_retV X3 hx hret hlk (hb hby d_sinit_14) (by decide) (by decide) N3 e3 ⟨rfl, F1_3, F2_3, K0_3⟩
theorem d_sval_0 : decode jdk_42_method_139_code 0 = .ok (.getstatic 38, 3) := by decide +kernel
theorem d_sval_3 : decode jdk_42_method_139_code 3 = .ok (.ifCond .eq 23, 3) := by decide +kernel
theorem d_sval_6 : decode jdk_42_method_139_code 6 = .ok (.iload_n 0, 1) := by decide +kernel
theorem d_sval_7 : decode jdk_42_method_139_code 7 = .ok (.invokestatic 1015, 3) := by decide +kernel
theorem d_sval_10 : decode jdk_42_method_139_code 10 = .ok (.ifCond .eq 16, 3) := by decide +kernel
theorem d_sval_13 : decode jdk_42_method_139_code 13 = .ok (.new 10, 3) := by decide +kernel
theorem d_sval_16 : decode jdk_42_method_139_code 16 = .ok (.dup, 1) := by decide +kernel
theorem d_sval_17 : decode jdk_42_method_139_code 17 = .ok (.iload_n 0, 1) := by decide +kernel
theorem d_sval_18 : decode jdk_42_method_139_code 18 = .ok (.invokestatic 1018, 3) := by decide +kernel
theorem d_sval_21 : decode jdk_42_method_139_code 21 = .ok (.iconst 0, 1) := by decide +kernel
theorem d_sval_22 : decode jdk_42_method_139_code 22 = .ok (.invokespecial 209, 3) := by decide +kernel
theorem d_sval_25 : decode jdk_42_method_139_code 25 = .ok (.areturn, 1) := by decide +kernel
theorem own_ef_sval (m : MethodId) (p1 : Int32) : entryFrame m #[(.int p1)] 1 = mkF m 0 #[.val (.int p1)] [] := by first | (simp [entryFrame, mkF, argsToLocals, Value.category]; done) | rfl
set_option maxRecDepth 65536 in
set_option maxHeartbeats 40000000 in
theorem own_m_sval (l : Launch) (Z : State) (a0 : Array Value) (hw : ∀ d ∈ tables_1, d.before a0 Z = true) (h0 : Heap) (n0 : Nat) (p1 : Int32) (hce : own_f_cec p1 = 1) {cz : Int32} (hcz : ¬ cz = 0) (Z0 : n0 ≤ h0.size) (SC : Sta Z h0 "java/lang/String" "COMPACT_STRINGS" "Z" (.int cz)) : own_Met l Z ⟨"java/lang/String", "valueOf", "(C)Ljava/lang/String;"⟩ jdk_42_method_139_code 1 (some (.object "java/lang/String")) [] ({ frames := 2, cells := 2, slots := 5, locals := 27 } : Room) #[(.int p1)] h0 n0 (fun v h => ∃ sa sb f, v = some (.ref sa) ∧ Exa Z h sa "java/lang/String" ∧ Fld Z h sa "java/lang/String" "coder" "B" (.int 0) ∧ Fld Z h sa "java/lang/String" "value" "[B" (.ref sb) ∧ own_A Z h sb .byte 1 f ∧ own_le h0.size sa ∧ own_lt sa sb ∧ Keep h0 h []) := by
  refine own_body (plainFor_of_name own_pn_String) ?_
  intro p e s m below meth c T0 X0 hx hby hml hown hnm hZ e0 hret hlk
  have N0 := Fr.nil n0
  have K0 : Keep h0 h0 [] := Keep.refl _ _
  refine own_cast (own_ef_sval m p1) ?_
  refine own_getS X0 hx hZ hown (own_w7 hw) e0 SC (hb hby d_sval_0) 3 rfl (fun T1 X1 e1 => ?_)
  refine own_ifcF X1 hx (hb hby d_sval_3) (feq hcz).1 6 rfl ?_
  refine own_iloadN X1 hx (hb hby d_sval_6) rfl 7 rfl ?_
  refine own_callS X1 hx hZ hown (own_w8 hw) (own_w9 hw) (own_w10 hw) (own_w11 hw) (by decide) 0 (own_m_cec l Z a0 hw _ n0 p1 (r := (1 : Int32)) hce) e1 (by rw [hml]; rfl) [(.int p1)] [] rfl (lenOf own_pd_0 rfl) rfl (Nat.le_of_eq rfl) (by decide) (by decide) (by decide) (by decide) (hb hby d_sval_7) N0 10 rfl (fun v2 T2 l2 X2 N2 hP2 => ?_)
  obtain ⟨rfl, e2⟩ := hP2
  show own_G p e below _ (T2.setTop (mkF m 10 #[.val (.int p1)] [(.int (1 : Int32))]))
  refine own_ifcF X2 hx (hb hby d_sval_10) (feq (by decide)).1 13 rfl ?_
  refine own_newO X2 hx hZ hown (own_w12 hw) (own_w13 hw) (own_w5 hw) e2 (hb hby d_sval_13) (by decide) (by decide) 16 rfl (fun T3 h3 sa g3 X3 e3 E3 B3 D3 => ?_)
  have gn_sa : n0 ≤ sa := Nat.le_trans Z0 (Nat.le_of_eq g3.symm)
  have sz_sa : h0.size ≤ sa := Nat.le_trans K0.1 (Nat.le_of_eq g3.symm)
  have Z0_3 := Nat.le_trans Z0 E3.1
  have K0_3 := K0.ext E3
  have F_value_sa_3 : Fld Z h3 sa "java/lang/String" "value" "[B" .null := D3 (Or.inr (own_w26 hw)) (ty := (.array .byte)) (by decide)
  have F_coder_sa_3 : Fld Z h3 sa "java/lang/String" "coder" "B" (.int (0 : Int32)) := D3 (Or.inr (own_w28 hw)) (ty := .byte) (by decide)
  refine own_dup X3 hx (hb hby d_sval_16) rfl 17 rfl ?_
  refine own_iloadN X3 hx (hb hby d_sval_17) rfl 18 rfl ?_
  refine own_callS X3 hx hZ hown (own_w14 hw) (own_w15 hw) (own_w10 hw) (own_w16 hw) (by decide) 2 (own_m_tob l Z a0 hw _ n0 p1 Z0_3) e3 (by rw [hml]; rfl) [(.int p1)] [(.ref sa), (.ref sa)] rfl (lenOf own_pd_1 rfl) rfl (Nat.le_of_eq rfl) (by decide) (by decide) (by decide) (by decide) (hb hby d_sval_18) N2 21 rfl (fun v4 T4 l4 X4 N4 hP4 => ?_)
  obtain ⟨sb, fb4, rfl, Ab4, gb4, K4'⟩ := hP4
  have Z0_4 := Nat.le_trans Z0_3 K4'.1
  have K0_4 := K0_3.trans K4' all0
  have B3_4 := B3.keep K4'
  have F_value_sa_4 := F_value_sa_3.keep K4' nin0
  have F_coder_sa_4 := F_coder_sa_3.keep K4' nin0
  have o_sa_sb : sa < sb := Nat.lt_of_lt_of_le B3.lt gb4
  show own_G p e below _ (T4.setTop (mkF m 21 #[.val (.int p1)] [(.ref sb), (.ref sa), (.ref sa)]))
  refine own_iconst X4 hx (z := (0 : Int32)) (hb hby d_sval_21) rfl 22 rfl ?_
  refine own_callI X4 hx hZ hown rfl (own_w18 hw) (own_w19 hw) (own_w5 hw) (own_w21 hw) (by decide) 1 (own_m_sinit l Z a0 hw _ n0 (sb := sb) B3_4 F_value_sa_4 F_coder_sa_4 gn_sa) rfl (by rw [hml]; rfl) sa [(.ref sb), (.int (0 : Int32))] [(.ref sa)] rfl (lenOf own_pd_2 rfl) rfl (Nat.le_of_eq rfl) (by decide) (by decide) (by decide) (by decide) (hb hby d_sval_22) N4 25 rfl (fun v5 T5 l5 X5 N5 hP5 => ?_)
  obtain ⟨rfl, Fv5, Fc5, K5'⟩ := hP5
  have Z0_5 := Nat.le_trans Z0_4 K5'.1
  have K0_5 := K0_4.trans K5' (allS (Or.inr sz_sa) all0)
  have B3_5 := B3_4.keep K5'
  have Ab4_5 := Ab4.keep K5' (ninS (Nat.ne_of_gt o_sa_sb) nin0)
  show own_G p e below _ (T5.setTop (mkF m 25 #[.val (.int p1)] [(.ref sa)]))
  exact own_retA X5 hx hret rfl rfl rfl hlk (hb hby d_sval_25) (by decide) (by decide) N5 rfl ⟨sa, sb, _, rfl, B3_5, Fc5, Fv5, Ab4_5, sz_sa, o_sa_sb, K0_5⟩
theorem d_rinit_0 : decode prog_167_method_1_code 0 = .ok (.aload_n 0, 1) := by decide +kernel
theorem d_rinit_1 : decode prog_167_method_1_code 1 = .ok (.invokespecial 1, 3) := by decide +kernel
theorem d_rinit_4 : decode prog_167_method_1_code 4 = .ok (.aload_n 0, 1) := by decide +kernel
theorem d_rinit_5 : decode prog_167_method_1_code 5 = .ok (.iconst (-1), 1) := by decide +kernel
theorem d_rinit_6 : decode prog_167_method_1_code 6 = .ok (.putfield 7, 3) := by decide +kernel
theorem d_rinit_9 : decode prog_167_method_1_code 9 = .ok (.aload_n 0, 1) := by decide +kernel
theorem d_rinit_10 : decode prog_167_method_1_code 10 = .ok (.iconst (-1), 1) := by decide +kernel
theorem d_rinit_11 : decode prog_167_method_1_code 11 = .ok (.putfield 13, 3) := by decide +kernel
theorem d_rinit_14 : decode prog_167_method_1_code 14 = .ok (.return_, 1) := by decide +kernel
theorem own_ef_rinit (m : MethodId) (x : Addr) : entryFrame m #[(.ref x)] 1 = mkF m 0 #[.val (.ref x)] [] := by first | (simp [entryFrame, mkF, argsToLocals, Value.category]; done) | rfl
set_option maxRecDepth 65536 in
set_option maxHeartbeats 40000000 in
theorem own_m_rinit (l : Launch) (Z : State) (a0 : Array Value) (hw : ∀ d ∈ tables_1, d.before a0 Z = true) (h0 : Heap) (n0 : Nat) {x : Addr} (E0 : Exa Z h0 x "com/example/xqwry/xqwry/MarkupName$Resolution") (F1 : Fld Z h0 x "com/example/xqwry/xqwry/MarkupName$Resolution" "name" "I" (.int 0)) (F2 : Fld Z h0 x "com/example/xqwry/xqwry/MarkupName$Resolution" "namespaceChanges" "I" (.int 0)) (gn_x : n0 ≤ x) : own_Met l Z ⟨"com/example/xqwry/xqwry/MarkupName$Resolution", "<init>", "()V"⟩ prog_167_method_1_code 1 none [] ({ frames := 1, cells := 0, slots := 0, locals := 12 } : Room) #[(.ref x)] h0 n0 (fun v h => v = none ∧ Fld Z h x "com/example/xqwry/xqwry/MarkupName$Resolution" "name" "I" (.int (-1)) ∧ Fld Z h x "com/example/xqwry/xqwry/MarkupName$Resolution" "namespaceChanges" "I" (.int (-1)) ∧ Keep h0 h [x]) := by
  refine own_body (plainFor_of_name own_pn_MarkupName_Resolution) ?_
  intro p e s m below meth c T0 X0 hx hby hml hown hnm hZ e0 hret hlk
  have N0 := Fr.nil n0
  have K0 : Keep h0 h0 [x] := Keep.refl _ _
  refine own_cast (own_ef_rinit m x) ?_
  refine own_aloadN X0 hx (hb hby d_rinit_0) rfl rfl 1 rfl ?_
  refine own_initO X0 hx hZ hown (own_w39 hw) (own_w23 hw) (own_w24 hw) e0 (by rw [hml]; rfl) (hb hby d_rinit_1) 0 (by decide) (Nat.le_of_eq rfl) (by decide) 4 rfl (fun T1 X1 e1 => ?_)
  refine own_aloadN X1 hx (hb hby d_rinit_4) rfl rfl 5 rfl ?_
  refine own_iconst X1 hx (z := (-1 : Int32)) (hb hby d_rinit_5) rfl 6 rfl ?_
  refine own_putF X1 hx hZ hown (own_w40 hw) e1 F1 E0 (Or.inl (own_w41 hw)) (own_w34 hw) (ty := .int) (by decide) rfl rfl (hb hby d_rinit_6) N0 gn_x 9 rfl (fun T2 h2 l2 X2 N2 e2 W2 => ?_)
  have E0_2 := E0.wr W2
  have F1_2 := F1.same W2
  have F2_2 := F2.other W2 (Or.inr (slot_ne (Or.inl (own_w43 hw)) (Or.inl (own_w41 hw)) (by decide) (t := .int) (t' := .int) (by decide) (by decide)))
  have K0_2 := K0.wr W2 (Or.inl (List.mem_of_getElem? (i := 0) rfl))
  refine own_aloadN X2 hx (hb hby d_rinit_9) rfl rfl 10 rfl ?_
  refine own_iconst X2 hx (z := (-1 : Int32)) (hb hby d_rinit_10) rfl 11 rfl ?_
  refine own_putF X2 hx hZ hown (own_w42 hw) e2 F2_2 E0_2 (Or.inl (own_w43 hw)) (own_w34 hw) (ty := .int) (by decide) rfl rfl (hb hby d_rinit_11) N2 gn_x 14 rfl (fun T3 h3 l3 X3 N3 e3 W3 => ?_)
  have E0_3 := E0_2.wr W3
  have F1_3 := F1_2.other W3 (Or.inr (slot_ne (Or.inl (own_w41 hw)) (Or.inl (own_w43 hw)) (by decide) (t := .int) (t' := .int) (by decide) (by decide)))
  have F2_3 := F2_2.same W3
  have K0_3 := K0_2.wr W3 (Or.inl (List.mem_of_getElem? (i := 0) rfl))
  exact own_retV X3 hx hret hlk (hb hby d_rinit_14) (by decide) (by decide) N3 e3 ⟨rfl, F1_3, F2_3, K0_3⟩
theorem d_coder_0 : decode jdk_42_method_152_code 0 = .ok (.getstatic 38, 3) := by decide +kernel
theorem d_coder_3 : decode jdk_42_method_152_code 3 = .ok (.ifCond .eq 10, 3) := by decide +kernel
theorem d_coder_6 : decode jdk_42_method_152_code 6 = .ok (.aload_n 0, 1) := by decide +kernel
theorem d_coder_7 : decode jdk_42_method_152_code 7 = .ok (.getfield 15, 3) := by decide +kernel
theorem d_coder_10 : decode jdk_42_method_152_code 10 = .ok (.goto 4, 3) := by decide +kernel
theorem d_coder_14 : decode jdk_42_method_152_code 14 = .ok (.ireturn, 1) := by decide +kernel
theorem own_ef_coder (m : MethodId) (sa : Addr) : entryFrame m #[(.ref sa)] 1 = mkF m 0 #[.val (.ref sa)] [] := by first | (simp [entryFrame, mkF, argsToLocals, Value.category]; done) | rfl
set_option maxRecDepth 65536 in
set_option maxHeartbeats 40000000 in
theorem own_m_coder (l : Launch) (Z : State) (a0 : Array Value) (hw : ∀ d ∈ tables_1, d.before a0 Z = true) (h0 : Heap) (n0 : Nat) {nn : Nat} {sa sb : Addr} {f : Nat → Int32} (E : Exa Z h0 sa "java/lang/String") (C : Fld Z h0 sa "java/lang/String" "coder" "B" (.int 0)) (V : Fld Z h0 sa "java/lang/String" "value" "[B" (.ref sb)) (A : own_A Z h0 sb .byte nn f) {cz : Int32} (hcz : ¬ cz = 0) (SC : Sta Z h0 "java/lang/String" "COMPACT_STRINGS" "Z" (.int cz)) : own_Met l Z ⟨"java/lang/String", "coder", "()B"⟩ jdk_42_method_152_code 1 (some .byte) [] ({ frames := 0, cells := 0, slots := 0, locals := 0 } : Room) #[(.ref sa)] h0 n0 (fun v h => v = some (.int 0) ∧ h = h0) := by
  refine own_body (plainFor_of_name own_pn_String) ?_
  intro p e s m below meth c T0 X0 hx hby hml hown hnm hZ e0 hret hlk
  have N0 := Fr.nil n0
  refine own_cast (own_ef_coder m sa) ?_
  refine own_getS X0 hx hZ hown (own_w7 hw) e0 SC (hb hby d_coder_0) 3 rfl (fun T1 X1 e1 => ?_)
  refine own_ifcF X1 hx (hb hby d_coder_3) (feq hcz).1 6 rfl ?_
  refine own_aloadN X1 hx (hb hby d_coder_6) rfl rfl 7 rfl ?_
  refine own_getF X1 hx hZ hown (own_w27 hw) e1 C (hb hby d_coder_7) 10 rfl (fun T2 X2 e2 => ?_)
  refine own_goto X2 hx (hb hby d_coder_10) 14 (by decide) (by decide) ?_
  exact own_retN X2 hx hret (Or.inr (Or.inl rfl)) hlk (hb hby d_coder_14) (by decide) (by decide) N0 e2 ⟨rfl, rfl⟩
theorem d_slen_0 : decode jdk_42_method_54_code 0 = .ok (.aload_n 0, 1) := by decide +kernel
theorem d_slen_1 : decode jdk_42_method_54_code 1 = .ok (.getfield 9, 3) := by decide +kernel
theorem d_slen_4 : decode jdk_42_method_54_code 4 = .ok (.arraylength, 1) := by decide +kernel
theorem d_slen_5 : decode jdk_42_method_54_code 5 = .ok (.aload_n 0, 1) := by decide +kernel
theorem d_slen_6 : decode jdk_42_method_54_code 6 = .ok (.invokevirtual 335, 3) := by decide +kernel
theorem d_slen_9 : decode jdk_42_method_54_code 9 = .ok (.ishr, 1) := by decide +kernel
theorem d_slen_10 : decode jdk_42_method_54_code 10 = .ok (.ireturn, 1) := by decide +kernel
theorem own_ef_slen (m : MethodId) (sa : Addr) : entryFrame m #[(.ref sa)] 1 = mkF m 0 #[.val (.ref sa)] [] := by first | (simp [entryFrame, mkF, argsToLocals, Value.category]; done) | rfl
set_option maxRecDepth 65536 in
set_option maxHeartbeats 40000000 in
theorem own_m_slen (l : Launch) (Z : State) (a0 : Array Value) (hw : ∀ d ∈ tables_1, d.before a0 Z = true) (h0 : Heap) (n0 : Nat) {nn : Nat} {sa sb : Addr} {f : Nat → Int32} (E : Exa Z h0 sa "java/lang/String") (C : Fld Z h0 sa "java/lang/String" "coder" "B" (.int 0)) (V : Fld Z h0 sa "java/lang/String" "value" "[B" (.ref sb)) (A : own_A Z h0 sb .byte nn f) {cz : Int32} (hcz : ¬ cz = 0) (SC : Sta Z h0 "java/lang/String" "COMPACT_STRINGS" "Z" (.int cz)) {r : Int32} (hr : nn.toInt32 >>> ((0 : Int32) &&& 31) = r) : own_Met l Z ⟨"java/lang/String", "length", "()I"⟩ jdk_42_method_54_code 1 (some .int) [] ({ frames := 1, cells := 0, slots := 0, locals := 13 } : Room) #[(.ref sa)] h0 n0 (fun v h => v = some (.int r) ∧ h = h0) := by
  refine own_body (plainFor_of_name own_pn_String) ?_
  intro p e s m below meth c T0 X0 hx hby hml hown hnm hZ e0 hret hlk
  have N0 := Fr.nil n0
  refine own_cast (own_ef_slen m sa) ?_
  refine own_aloadN X0 hx (hb hby d_slen_0) rfl rfl 1 rfl ?_
  refine own_getF X0 hx hZ hown (own_w25 hw) e0 V (hb hby d_slen_1) 4 rfl (fun T1 X1 e1 => ?_)
  refine own_arrlen X1 hx hZ e1 A (z := nn.toInt32) rfl (hb hby d_slen_4) 5 rfl ?_
  refine own_aloadN X1 hx (hb hby d_slen_5) rfl rfl 6 rfl ?_
  refine own_callV X1 hx hZ hown (own_w70 hw) (own_w71 hw) (own_w73 hw) (own_w72 hw) (own_w5 hw) (own_w74 hw) (by decide) 1 (own_m_coder l Z a0 hw _ n0 E C V A hcz SC) e1 E (by rw [hml]; rfl) [] [(.int nn.toInt32)] rfl (lenOf own_pd_3 rfl) rfl (Nat.le_of_eq rfl) (by decide) (by decide) (by decide) (by decide) (hb hby d_slen_6) N0 9 rfl (fun v2 T2 l2 X2 N2 hP2 => ?_)
  obtain ⟨rfl, e2⟩ := hP2
  show own_G p e below _ (T2.setTop (mkF m 9 #[.val (.ref sa)] [(.int (0 : Int32)), (.int nn.toInt32)]))
  refine own_ishr X2 hx (hb hby d_slen_9) 10 rfl ?_
  exact own_retI X2 hx hret hlk (hb hby d_slen_10) (by decide) (by decide) N2 e2 ⟨congrArg (fun z => some (Value.int z)) hr, rfl⟩
theorem d_isl_0 : decode jdk_42_method_154_code 0 = .ok (.getstatic 38, 3) := by decide +kernel
theorem d_isl_3 : decode jdk_42_method_154_code 3 = .ok (.ifCond .eq 14, 3) := by decide +kernel
theorem d_isl_6 : decode jdk_42_method_154_code 6 = .ok (.aload_n 0, 1) := by decide +kernel
theorem d_isl_7 : decode jdk_42_method_154_code 7 = .ok (.getfield 15, 3) := by decide +kernel
theorem d_isl_10 : decode jdk_42_method_154_code 10 = .ok (.ifCond .ne 7, 3) := by decide +kernel
theorem d_isl_13 : decode jdk_42_method_154_code 13 = .ok (.iconst 1, 1) := by decide +kernel
theorem d_isl_14 : decode jdk_42_method_154_code 14 = .ok (.goto 4, 3) := by decide +kernel
theorem d_isl_18 : decode jdk_42_method_154_code 18 = .ok (.ireturn, 1) := by decide +kernel
theorem own_ef_isl (m : MethodId) (sa : Addr) : entryFrame m #[(.ref sa)] 1 = mkF m 0 #[.val (.ref sa)] [] := by first | (simp [entryFrame, mkF, argsToLocals, Value.category]; done) | rfl
set_option maxRecDepth 65536 in
set_option maxHeartbeats 40000000 in
theorem own_m_isl (l : Launch) (Z : State) (a0 : Array Value) (hw : ∀ d ∈ tables_1, d.before a0 Z = true) (h0 : Heap) (n0 : Nat) {nn : Nat} {sa sb : Addr} {f : Nat → Int32} (E : Exa Z h0 sa "java/lang/String") (C : Fld Z h0 sa "java/lang/String" "coder" "B" (.int 0)) (V : Fld Z h0 sa "java/lang/String" "value" "[B" (.ref sb)) (A : own_A Z h0 sb .byte nn f) {cz : Int32} (hcz : ¬ cz = 0) (SC : Sta Z h0 "java/lang/String" "COMPACT_STRINGS" "Z" (.int cz)) : own_Met l Z ⟨"java/lang/String", "isLatin1", "()Z"⟩ jdk_42_method_154_code 1 (some .boolean) [] ({ frames := 0, cells := 0, slots := 0, locals := 0 } : Room) #[(.ref sa)] h0 n0 (fun v h => v = some (.int 1) ∧ h = h0) := by
  refine own_body (plainFor_of_name own_pn_String) ?_
  intro p e s m below meth c T0 X0 hx hby hml hown hnm hZ e0 hret hlk
  have N0 := Fr.nil n0
  refine own_cast (own_ef_isl m sa) ?_
  refine own_getS X0 hx hZ hown (own_w7 hw) e0 SC (hb hby d_isl_0) 3 rfl (fun T1 X1 e1 => ?_)
  refine own_ifcF X1 hx (hb hby d_isl_3) (feq hcz).1 6 rfl ?_
  refine own_aloadN X1 hx (hb hby d_isl_6) rfl rfl 7 rfl ?_
  refine own_getF X1 hx hZ hown (own_w27 hw) e1 C (hb hby d_isl_7) 10 rfl (fun T2 X2 e2 => ?_)
  refine own_ifcF X2 hx (hb hby d_isl_10) (teq (by decide)).2 13 rfl ?_
  refine own_iconst X2 hx (z := (1 : Int32)) (hb hby d_isl_13) rfl 14 rfl ?_
  refine own_goto X2 hx (hb hby d_isl_14) 18 (by decide) (by decide) ?_
  exact own_retN X2 hx hret (Or.inl rfl) hlk (hb hby d_isl_18) (by decide) (by decide) N0 e2 ⟨rfl, rfl⟩
theorem d_ixc_0 : decode jdk_43_method_23_code 0 = .ok (.iload_n 1, 1) := by decide +kernel
theorem d_ixc_1 : decode jdk_43_method_23_code 1 = .ok (.i2b, 1) := by decide +kernel
theorem d_ixc_2 : decode jdk_43_method_23_code 2 = .ok (.istore 4, 2) := by decide +kernel
theorem d_ixc_4 : decode jdk_43_method_23_code 4 = .ok (.iload_n 2, 1) := by decide +kernel
theorem d_ixc_5 : decode jdk_43_method_23_code 5 = .ok (.istore 5, 2) := by decide +kernel
theorem d_ixc_7 : decode jdk_43_method_23_code 7 = .ok (.iload 5, 2) := by decide +kernel
theorem d_ixc_9 : decode jdk_43_method_23_code 9 = .ok (.iload_n 3, 1) := by decide +kernel
theorem d_ixc_10 : decode jdk_43_method_23_code 10 = .ok (.if_icmp .ge 21, 3) := by decide +kernel
theorem d_ixc_13 : decode jdk_43_method_23_code 13 = .ok (.aload_n 0, 1) := by decide +kernel
theorem d_ixc_14 : decode jdk_43_method_23_code 14 = .ok (.iload 5, 2) := by decide +kernel
theorem d_ixc_16 : decode jdk_43_method_23_code 16 = .ok (.baload, 1) := by decide +kernel
theorem d_ixc_17 : decode jdk_43_method_23_code 17 = .ok (.iload 4, 2) := by decide +kernel
theorem d_ixc_19 : decode jdk_43_method_23_code 19 = .ok (.if_icmp .ne 6, 3) := by decide +kernel
theorem d_ixc_22 : decode jdk_43_method_23_code 22 = .ok (.iload 5, 2) := by decide +kernel
theorem d_ixc_24 : decode jdk_43_method_23_code 24 = .ok (.ireturn, 1) := by decide +kernel
theorem d_ixc_25 : decode jdk_43_method_23_code 25 = .ok (.iinc 5 1, 3) := by decide +kernel
theorem d_ixc_28 : decode jdk_43_method_23_code 28 = .ok (.goto (-21), 3) := by decide +kernel
theorem d_ixc_31 : decode jdk_43_method_23_code 31 = .ok (.iconst (-1), 1) := by decide +kernel
theorem d_ixc_32 : decode jdk_43_method_23_code 32 = .ok (.ireturn, 1) := by decide +kernel
theorem own_ef_ixc (m : MethodId) (sb : Addr) : entryFrame m #[(.ref sb), (.int (58 : Int32)), (.int (0 : Int32)), (.int (1 : Int32))] 6 = mkF m 0 #[.val (.ref sb), .val (.int (58 : Int32)), .val (.int (0 : Int32)), .val (.int (1 : Int32)), .unset, .unset] [] := by first | (simp [entryFrame, mkF, argsToLocals, Value.category]; done) | rfl
set_option maxRecDepth 65536 in
set_option maxHeartbeats 40000000 in
theorem own_m_ixc (l : Launch) (Z : State) (a0 : Array Value) (hw : ∀ d ∈ tables_1, d.before a0 Z = true) (h0 : Heap) (n0 : Nat) {sb : Addr} {f : Nat → Int32} (A : own_A Z h0 sb .byte 1 f) : own_Met l Z ⟨"java/lang/StringLatin1", "indexOfChar", "([BIII)I"⟩ jdk_43_method_23_code 6 (some .int) [] ({ frames := 0, cells := 0, slots := 0, locals := 0 } : Room) #[(.ref sb), (.int (58 : Int32)), (.int (0 : Int32)), (.int (1 : Int32))] h0 n0 (fun v h => ∃ r, v = some (.int r) ∧ h = h0) := by
  refine own_body (plainFor_of_name own_pn_StringLatin1) ?_
  intro p e s m below meth c T0 X0 hx hby hml hown hnm hZ e0 hret hlk
  have N0 := Fr.nil n0
  refine own_cast (own_ef_ixc m sb) ?_
  refine own_iloadN X0 hx (hb hby d_ixc_0) rfl 1 rfl ?_
  refine own_i2b X0 hx (hb hby d_ixc_1) 2 rfl ?_
  refine own_istore X0 hx (#[.val (.ref sb), .val (.int (58 : Int32)), .val (.int (0 : Int32)), .val (.int (1 : Int32)), .val (.int ((58 : Int32).toInt8.toInt32)), .unset]) (hb hby d_ixc_2) rfl 4 rfl ?_
  refine own_iloadN X0 hx (hb hby d_ixc_4) rfl 5 rfl ?_
  refine own_istore X0 hx (#[.val (.ref sb), .val (.int (58 : Int32)), .val (.int (0 : Int32)), .val (.int (1 : Int32)), .val (.int ((58 : Int32).toInt8.toInt32)), .val (.int (0 : Int32))]) (hb hby d_ixc_5) rfl 7 rfl ?_
  refine own_iload X0 hx (hb hby d_ixc_7) rfl 9 rfl ?_
  refine own_iloadN X0 hx (hb hby d_ixc_9) rfl 10 rfl ?_
  refine own_icmpF X0 hx (hb hby d_ixc_10) (tlt (by decide)).2.1 13 rfl ?_
  refine own_aloadN X0 hx (hb hby d_ixc_13) rfl rfl 14 rfl ?_
  refine own_iload X0 hx (hb hby d_ixc_14) rfl 16 rfl ?_
  refine own_baloadE X0 hx hZ e0 A ⟨by decide, by decide⟩ (hb hby d_ixc_16) 17 rfl (fun x1 q1 => ?_)
  refine own_iload X0 hx (hb hby d_ixc_17) rfl 19 rfl ?_
  by_cases hc2 : x1 = ((58 : Int32).toInt8.toInt32)
  · refine own_icmpF X0 hx (hb hby d_ixc_19) (teq hc2).2 22 rfl ?_
    refine own_iload X0 hx (hb hby d_ixc_22) rfl 24 rfl ?_
    exact own_retI X0 hx hret hlk (hb hby d_ixc_24) (by decide) (by decide) N0 e0 ⟨_, rfl, rfl⟩
  · refine own_icmpT X0 hx (hb hby d_ixc_19) (feq hc2).2 25 (by decide) (by decide) ?_
    refine own_iinc X0 hx (z := (1 : Int32)) (#[.val (.ref sb), .val (.int (58 : Int32)), .val (.int (0 : Int32)), .val (.int (1 : Int32)), .val (.int ((58 : Int32).toInt8.toInt32)), .val (.int (1 : Int32))]) (hb hby d_ixc_25) rfl (by decide) rfl 28 rfl ?_
    refine own_goto X0 hx (hb hby d_ixc_28) 7 (by decide) (by decide) ?_
    refine own_iload X0 hx (hb hby d_ixc_7) rfl 9 rfl ?_
    refine own_iloadN X0 hx (hb hby d_ixc_9) rfl 10 rfl ?_
    refine own_icmpT X0 hx (hb hby d_ixc_10) (flt (by decide)).2.1 31 (by decide) (by decide) ?_
    refine own_iconst X0 hx (z := (-1 : Int32)) (hb hby d_ixc_31) rfl 32 rfl ?_
    exact own_retI X0 hx hret hlk (hb hby d_ixc_32) (by decide) (by decide) N0 e0 ⟨_, rfl, rfl⟩
theorem d_ix_0 : decode jdk_43_method_22_code 0 = .ok (.iload_n 1, 1) := by decide +kernel
theorem d_ix_1 : decode jdk_43_method_22_code 1 = .ok (.invokestatic 88, 3) := by decide +kernel
theorem d_ix_4 : decode jdk_43_method_22_code 4 = .ok (.ifCond .ne 5, 3) := by decide +kernel
theorem d_ix_9 : decode jdk_43_method_22_code 9 = .ok (.iload_n 2, 1) := by decide +kernel
theorem d_ix_10 : decode jdk_43_method_22_code 10 = .ok (.iconst 0, 1) := by decide +kernel
theorem d_ix_11 : decode jdk_43_method_22_code 11 = .ok (.invokestatic 92, 3) := by decide +kernel
theorem d_ix_14 : decode jdk_43_method_22_code 14 = .ok (.istore_n 2, 1) := by decide +kernel
theorem d_ix_15 : decode jdk_43_method_22_code 15 = .ok (.iload_n 3, 1) := by decide +kernel
theorem d_ix_16 : decode jdk_43_method_22_code 16 = .ok (.aload_n 0, 1) := by decide +kernel
theorem d_ix_17 : decode jdk_43_method_22_code 17 = .ok (.arraylength, 1) := by decide +kernel
theorem d_ix_18 : decode jdk_43_method_22_code 18 = .ok (.invokestatic 38, 3) := by decide +kernel
theorem d_ix_21 : decode jdk_43_method_22_code 21 = .ok (.istore_n 3, 1) := by decide +kernel
theorem d_ix_22 : decode jdk_43_method_22_code 22 = .ok (.iload_n 2, 1) := by decide +kernel
theorem d_ix_23 : decode jdk_43_method_22_code 23 = .ok (.iload_n 3, 1) := by decide +kernel
theorem d_ix_24 : decode jdk_43_method_22_code 24 = .ok (.if_icmp .lt 5, 3) := by decide +kernel
theorem d_ix_29 : decode jdk_43_method_22_code 29 = .ok (.aload_n 0, 1) := by decide +kernel
theorem d_ix_30 : decode jdk_43_method_22_code 30 = .ok (.iload_n 1, 1) := by decide +kernel
theorem d_ix_31 : decode jdk_43_method_22_code 31 = .ok (.iload_n 2, 1) := by decide +kernel
theorem d_ix_32 : decode jdk_43_method_22_code 32 = .ok (.iload_n 3, 1) := by decide +kernel
theorem d_ix_33 : decode jdk_43_method_22_code 33 = .ok (.invokestatic 95, 3) := by decide +kernel
theorem d_ix_36 : decode jdk_43_method_22_code 36 = .ok (.ireturn, 1) := by decide +kernel
theorem own_ef_ix (m : MethodId) (sb : Addr) : entryFrame m #[(.ref sb), (.int (58 : Int32)), (.int (0 : Int32)), (.int (1 : Int32))] 4 = mkF m 0 #[.val (.ref sb), .val (.int (58 : Int32)), .val (.int (0 : Int32)), .val (.int (1 : Int32))] [] := by first | (simp [entryFrame, mkF, argsToLocals, Value.category]; done) | rfl
set_option maxRecDepth 65536 in
set_option maxHeartbeats 40000000 in
theorem own_m_ix (l : Launch) (Z : State) (a0 : Array Value) (hw : ∀ d ∈ tables_1, d.before a0 Z = true) (h0 : Heap) (n0 : Nat) {sb : Addr} {f : Nat → Int32} (A : own_A Z h0 sb .byte 1 f) : own_Met l Z ⟨"java/lang/StringLatin1", "indexOf", "([BIII)I"⟩ jdk_43_method_22_code 4 (some .int) [] ({ frames := 1, cells := 0, slots := 0, locals := 17 } : Room) #[(.ref sb), (.int (58 : Int32)), (.int (0 : Int32)), (.int (1 : Int32))] h0 n0 (fun v h => ∃ r, v = some (.int r) ∧ h = h0) := by
  refine own_body (plainFor_of_name own_pn_StringLatin1) ?_
  intro p e s m below meth c T0 X0 hx hby hml hown hnm hZ e0 hret hlk
  have N0 := Fr.nil n0
  refine own_cast (own_ef_ix m sb) ?_
  refine own_iloadN X0 hx (hb hby d_ix_0) rfl 1 rfl ?_
  refine own_callS X0 hx hZ hown (own_w78 hw) (own_w79 hw) (own_w10 hw) (own_w80 hw) (by decide) 0 (own_m_cei l Z a0 hw _ n0 (58 : Int32) (r := (1 : Int32)) (by decide)) e0 (by rw [hml]; rfl) [(.int (58 : Int32))] [] rfl (lenOf own_pd_4 rfl) rfl (Nat.le_of_eq rfl) (by decide) (by decide) (by decide) (by decide) (hb hby d_ix_1) N0 4 rfl (fun v1 T1 l1 X1 N1 hP1 => ?_)
  obtain ⟨rfl, e1⟩ := hP1
  show own_G p e below _ (T1.setTop (mkF m 4 #[.val (.ref sb), .val (.int (58 : Int32)), .val (.int (0 : Int32)), .val (.int (1 : Int32))] [(.int (1 : Int32))]))
  refine own_ifcT X1 hx (hb hby d_ix_4) (feq (by decide)).2 9 (by decide) (by decide) ?_
  refine own_iloadN X1 hx (hb hby d_ix_9) rfl 10 rfl ?_
  refine own_iconst X1 hx (z := (0 : Int32)) (hb hby d_ix_10) rfl 11 rfl ?_
  refine own_callS X1 hx hZ hown (own_w81 hw) (own_w82 hw) (own_w83 hw) (own_w84 hw) (by decide) 0 (own_m_max l Z a0 hw _ n0 (0 : Int32) (0 : Int32) (r := (0 : Int32)) (by decide)) e1 (by rw [hml]; rfl) [(.int (0 : Int32)), (.int (0 : Int32))] [] rfl (lenOf own_pd_5 rfl) rfl (Nat.le_of_eq rfl) (by decide) (by decide) (by decide) (by decide) (hb hby d_ix_11) N1 14 rfl (fun v2 T2 l2 X2 N2 hP2 => ?_)
  obtain ⟨rfl, e2⟩ := hP2
  show own_G p e below _ (T2.setTop (mkF m 14 #[.val (.ref sb), .val (.int (58 : Int32)), .val (.int (0 : Int32)), .val (.int (1 : Int32))] [(.int (0 : Int32))]))
  refine own_istoreN X2 hx (#[.val (.ref sb), .val (.int (58 : Int32)), .val (.int (0 : Int32)), .val (.int (1 : Int32))]) (hb hby d_ix_14) rfl 15 rfl ?_
  refine own_iloadN X2 hx (hb hby d_ix_15) rfl 16 rfl ?_
  refine own_aloadN X2 hx (hb hby d_ix_16) rfl rfl 17 rfl ?_
  refine own_arrlen X2 hx hZ e2 A (z := (1 : Int32)) rfl (hb hby d_ix_17) 18 rfl ?_
  refine own_callS X2 hx hZ hown (own_w85 hw) (own_w86 hw) (own_w83 hw) (own_w87 hw) (by decide) 0 (own_m_min l Z a0 hw _ n0 (1 : Int32) (1 : Int32) (r := (1 : Int32)) (by decide)) e2 (by rw [hml]; rfl) [(.int (1 : Int32)), (.int (1 : Int32))] [] rfl (lenOf own_pd_5 rfl) rfl (Nat.le_of_eq rfl) (by decide) (by decide) (by decide) (by decide) (hb hby d_ix_18) N2 21 rfl (fun v3 T3 l3 X3 N3 hP3 => ?_)
  obtain ⟨rfl, e3⟩ := hP3
  show own_G p e below _ (T3.setTop (mkF m 21 #[.val (.ref sb), .val (.int (58 : Int32)), .val (.int (0 : Int32)), .val (.int (1 : Int32))] [(.int (1 : Int32))]))
  refine own_istoreN X3 hx (#[.val (.ref sb), .val (.int (58 : Int32)), .val (.int (0 : Int32)), .val (.int (1 : Int32))]) (hb hby d_ix_21) rfl 22 rfl ?_
  refine own_iloadN X3 hx (hb hby d_ix_22) rfl 23 rfl ?_
  refine own_iloadN X3 hx (hb hby d_ix_23) rfl 24 rfl ?_
  refine own_icmpT X3 hx (hb hby d_ix_24) (tlt (by decide)).1 29 (by decide) (by decide) ?_
  refine own_aloadN X3 hx (hb hby d_ix_29) rfl rfl 30 rfl ?_
  refine own_iloadN X3 hx (hb hby d_ix_30) rfl 31 rfl ?_
  refine own_iloadN X3 hx (hb hby d_ix_31) rfl 32 rfl ?_
  refine own_iloadN X3 hx (hb hby d_ix_32) rfl 33 rfl ?_
  refine own_callS X3 hx hZ hown (own_w88 hw) (own_w89 hw) (own_w10 hw) (own_w90 hw) (by decide) 0 (own_m_ixc l Z a0 hw _ n0 A) e3 (by rw [hml]; rfl) [(.ref sb), (.int (58 : Int32)), (.int (0 : Int32)), (.int (1 : Int32))] [] rfl (lenOf own_pd_6 rfl) rfl (Nat.le_of_eq rfl) (by decide) (by decide) (by decide) (by decide) (hb hby d_ix_33) N3 36 rfl (fun v4 T4 l4 X4 N4 hP4 => ?_)
  obtain ⟨r4, rfl, e4⟩ := hP4
  show own_G p e below _ (T4.setTop (mkF m 36 #[.val (.ref sb), .val (.int (58 : Int32)), .val (.int (0 : Int32)), .val (.int (1 : Int32))] [(.int r4)]))
  exact own_retI X4 hx hret hlk (hb hby d_ix_36) (by decide) (by decide) N4 e4 ⟨_, rfl, rfl⟩
theorem d_si2_0 : decode jdk_42_method_80_code 0 = .ok (.aload_n 0, 1) := by decide +kernel
theorem d_si2_1 : decode jdk_42_method_80_code 1 = .ok (.invokevirtual 492, 3) := by decide +kernel
theorem d_si2_4 : decode jdk_42_method_80_code 4 = .ok (.ifCond .eq 19, 3) := by decide +kernel
theorem d_si2_7 : decode jdk_42_method_80_code 7 = .ok (.aload_n 0, 1) := by decide +kernel
theorem d_si2_8 : decode jdk_42_method_80_code 8 = .ok (.getfield 9, 3) := by decide +kernel
theorem d_si2_11 : decode jdk_42_method_80_code 11 = .ok (.iload_n 1, 1) := by decide +kernel
theorem d_si2_12 : decode jdk_42_method_80_code 12 = .ok (.iload_n 2, 1) := by decide +kernel
theorem d_si2_13 : decode jdk_42_method_80_code 13 = .ok (.aload_n 0, 1) := by decide +kernel
theorem d_si2_14 : decode jdk_42_method_80_code 14 = .ok (.invokevirtual 505, 3) := by decide +kernel
theorem d_si2_17 : decode jdk_42_method_80_code 17 = .ok (.invokestatic 637, 3) := by decide +kernel
theorem d_si2_20 : decode jdk_42_method_80_code 20 = .ok (.goto 16, 3) := by decide +kernel
theorem d_si2_36 : decode jdk_42_method_80_code 36 = .ok (.ireturn, 1) := by decide +kernel
theorem own_ef_si2 (m : MethodId) (sa : Addr) : entryFrame m #[(.ref sa), (.int (58 : Int32)), (.int (0 : Int32))] 3 = mkF m 0 #[.val (.ref sa), .val (.int (58 : Int32)), .val (.int (0 : Int32))] [] := by first | (simp [entryFrame, mkF, argsToLocals, Value.category]; done) | rfl
set_option maxRecDepth 65536 in
set_option maxHeartbeats 40000000 in
theorem own_m_si2 (l : Launch) (Z : State) (a0 : Array Value) (hw : ∀ d ∈ tables_1, d.before a0 Z = true) (h0 : Heap) (n0 : Nat) {sa sb : Addr} {f : Nat → Int32} (E : Exa Z h0 sa "java/lang/String") (C : Fld Z h0 sa "java/lang/String" "coder" "B" (.int 0)) (V : Fld Z h0 sa "java/lang/String" "value" "[B" (.ref sb)) (A : own_A Z h0 sb .byte 1 f) {cz : Int32} (hcz : ¬ cz = 0) (SC : Sta Z h0 "java/lang/String" "COMPACT_STRINGS" "Z" (.int cz)) : own_Met l Z ⟨"java/lang/String", "indexOf", "(II)I"⟩ jdk_42_method_80_code 3 (some .int) [] ({ frames := 2, cells := 0, slots := 0, locals := 32 } : Room) #[(.ref sa), (.int (58 : Int32)), (.int (0 : Int32))] h0 n0 (fun v h => ∃ r, v = some (.int r) ∧ h = h0) := by
  refine own_body (plainFor_of_name own_pn_String) ?_
  intro p e s m below meth c T0 X0 hx hby hml hown hnm hZ e0 hret hlk
  have N0 := Fr.nil n0
  refine own_cast (own_ef_si2 m sa) ?_
  refine own_aloadN X0 hx (hb hby d_si2_0) rfl rfl 1 rfl ?_
  refine own_callV X0 hx hZ hown (own_w60 hw) (own_w61 hw) (own_w63 hw) (own_w62 hw) (own_w5 hw) (own_w64 hw) (by decide) 0 (own_m_isl l Z a0 hw _ n0 E C V A hcz SC) e0 E (by rw [hml]; rfl) [] [] rfl (lenOf own_pd_7 rfl) rfl (Nat.le_of_eq rfl) (by decide) (by decide) (by decide) (by decide) (hb hby d_si2_1) N0 4 rfl (fun v1 T1 l1 X1 N1 hP1 => ?_)
  obtain ⟨rfl, e1⟩ := hP1
  show own_G p e below _ (T1.setTop (mkF m 4 #[.val (.ref sa), .val (.int (58 : Int32)), .val (.int (0 : Int32))] [(.int (1 : Int32))]))
  refine own_ifcF X1 hx (hb hby d_si2_4) (feq (by decide)).1 7 rfl ?_
  refine own_aloadN X1 hx (hb hby d_si2_7) rfl rfl 8 rfl ?_
  refine own_getF X1 hx hZ hown (own_w25 hw) e1 V (hb hby d_si2_8) 11 rfl (fun T2 X2 e2 => ?_)
  refine own_iloadN X2 hx (hb hby d_si2_11) rfl 12 rfl ?_
  refine own_iloadN X2 hx (hb hby d_si2_12) rfl 13 rfl ?_
  refine own_aloadN X2 hx (hb hby d_si2_13) rfl rfl 14 rfl ?_
  refine own_callV X2 hx hZ hown (own_w65 hw) (own_w66 hw) (own_w68 hw) (own_w67 hw) (own_w5 hw) (own_w69 hw) (by decide) 3 (own_m_slen l Z a0 hw _ n0 E C V A hcz SC (r := (1 : Int32)) (by decide)) e2 E (by rw [hml]; rfl) [] [(.int (0 : Int32)), (.int (58 : Int32)), (.ref sb)] rfl (lenOf own_pd_8 rfl) rfl (Nat.le_of_eq rfl) (by decide) (by decide) (by decide) (by decide) (hb hby d_si2_14) N1 17 rfl (fun v3 T3 l3 X3 N3 hP3 => ?_)
  obtain ⟨rfl, e3⟩ := hP3
  show own_G p e below _ (T3.setTop (mkF m 17 #[.val (.ref sa), .val (.int (58 : Int32)), .val (.int (0 : Int32))] [(.int (1 : Int32)), (.int (0 : Int32)), (.int (58 : Int32)), (.ref sb)]))
  refine own_callS X3 hx hZ hown (own_w75 hw) (own_w76 hw) (own_w10 hw) (own_w77 hw) (by decide) 0 (own_m_ix l Z a0 hw _ n0 A) e3 (by rw [hml]; rfl) [(.ref sb), (.int (58 : Int32)), (.int (0 : Int32)), (.int (1 : Int32))] [] rfl (lenOf own_pd_6 rfl) rfl (Nat.le_of_eq rfl) (by decide) (by decide) (by decide) (by decide) (hb hby d_si2_17) N3 20 rfl (fun v4 T4 l4 X4 N4 hP4 => ?_)
  obtain ⟨r4, rfl, e4⟩ := hP4
  show own_G p e below _ (T4.setTop (mkF m 20 #[.val (.ref sa), .val (.int (58 : Int32)), .val (.int (0 : Int32))] [(.int r4)]))
  refine own_goto X4 hx (hb hby d_si2_20) 36 (by decide) (by decide) ?_
  exact own_retI X4 hx hret hlk (hb hby d_si2_36) (by decide) (by decide) N4 e4 ⟨_, rfl, rfl⟩
theorem d_si1_0 : decode jdk_42_method_79_code 0 = .ok (.aload_n 0, 1) := by decide +kernel
theorem d_si1_1 : decode jdk_42_method_79_code 1 = .ok (.iload_n 1, 1) := by decide +kernel
theorem d_si1_2 : decode jdk_42_method_79_code 2 = .ok (.iconst 0, 1) := by decide +kernel
theorem d_si1_3 : decode jdk_42_method_79_code 3 = .ok (.invokevirtual 633, 3) := by decide +kernel
theorem d_si1_6 : decode jdk_42_method_79_code 6 = .ok (.ireturn, 1) := by decide +kernel
theorem own_ef_si1 (m : MethodId) (sa : Addr) : entryFrame m #[(.ref sa), (.int (58 : Int32))] 2 = mkF m 0 #[.val (.ref sa), .val (.int (58 : Int32))] [] := by first | (simp [entryFrame, mkF, argsToLocals, Value.category]; done) | rfl
set_option maxRecDepth 65536 in
set_option maxHeartbeats 40000000 in
theorem own_m_si1 (l : Launch) (Z : State) (a0 : Array Value) (hw : ∀ d ∈ tables_1, d.before a0 Z = true) (h0 : Heap) (n0 : Nat) {sa sb : Addr} {f : Nat → Int32} (E : Exa Z h0 sa "java/lang/String") (C : Fld Z h0 sa "java/lang/String" "coder" "B" (.int 0)) (V : Fld Z h0 sa "java/lang/String" "value" "[B" (.ref sb)) (A : own_A Z h0 sb .byte 1 f) {cz : Int32} (hcz : ¬ cz = 0) (SC : Sta Z h0 "java/lang/String" "COMPACT_STRINGS" "Z" (.int cz)) : own_Met l Z ⟨"java/lang/String", "indexOf", "(I)I"⟩ jdk_42_method_79_code 2 (some .int) [] ({ frames := 3, cells := 0, slots := 0, locals := 46 } : Room) #[(.ref sa), (.int (58 : Int32))] h0 n0 (fun v h => ∃ r, v = some (.int r) ∧ h = h0) := by
  refine own_body (plainFor_of_name own_pn_String) ?_
  intro p e s m below meth c T0 X0 hx hby hml hown hnm hZ e0 hret hlk
  have N0 := Fr.nil n0
  refine own_cast (own_ef_si1 m sa) ?_
  refine own_aloadN X0 hx (hb hby d_si1_0) rfl rfl 1 rfl ?_
  refine own_iloadN X0 hx (hb hby d_si1_1) rfl 2 rfl ?_
  refine own_iconst X0 hx (z := (0 : Int32)) (hb hby d_si1_2) rfl 3 rfl ?_
  refine own_callV X0 hx hZ hown (own_w55 hw) (own_w56 hw) (own_w58 hw) (own_w57 hw) (own_w5 hw) (own_w59 hw) (by decide) 0 (own_m_si2 l Z a0 hw _ n0 E C V A hcz SC) e0 E (by rw [hml]; rfl) [(.int (58 : Int32)), (.int (0 : Int32))] [] rfl (lenOf own_pd_5 rfl) rfl (Nat.le_of_eq rfl) (by decide) (by decide) (by decide) (by decide) (hb hby d_si1_3) N0 6 rfl (fun v1 T1 l1 X1 N1 hP1 => ?_)
  obtain ⟨r1, rfl, e1⟩ := hP1
  show own_G p e below _ (T1.setTop (mkF m 6 #[.val (.ref sa), .val (.int (58 : Int32))] [(.int r1)]))
  exact own_retI X1 hx hret hlk (hb hby d_si1_6) (by decide) (by decide) N1 e1 ⟨_, rfl, rfl⟩
theorem d_leq_0 : decode jdk_43_method_13_code 0 = .ok (.aload_n 0, 1) := by decide +kernel
theorem d_leq_1 : decode jdk_43_method_13_code 1 = .ok (.arraylength, 1) := by decide +kernel
theorem d_leq_2 : decode jdk_43_method_13_code 2 = .ok (.aload_n 1, 1) := by decide +kernel
theorem d_leq_3 : decode jdk_43_method_13_code 3 = .ok (.arraylength, 1) := by decide +kernel
theorem d_leq_4 : decode jdk_43_method_13_code 4 = .ok (.if_icmp .ne 30, 3) := by decide +kernel
theorem d_leq_34 : decode jdk_43_method_13_code 34 = .ok (.iconst 0, 1) := by decide +kernel
theorem d_leq_35 : decode jdk_43_method_13_code 35 = .ok (.ireturn, 1) := by decide +kernel
theorem own_ef_leq (m : MethodId) (sb : Addr) (kb : Addr) : entryFrame m #[(.ref sb), (.ref kb)] 3 = mkF m 0 #[.val (.ref sb), .val (.ref kb), .unset] [] := by first | (simp [entryFrame, mkF, argsToLocals, Value.category]; done) | rfl
set_option maxRecDepth 65536 in
set_option maxHeartbeats 40000000 in
theorem own_m_leq (l : Launch) (Z : State) (a0 : Array Value) (hw : ∀ d ∈ tables_1, d.before a0 Z = true) (h0 : Heap) (n0 : Nat) {sb kb : Addr} {f fk : Nat → Int32} (A : own_A Z h0 sb .byte 1 f) (Ak : own_A Z h0 kb .byte 5 fk) : own_Met l Z ⟨"java/lang/StringLatin1", "equals", "([B[B)Z"⟩ jdk_43_method_13_code 3 (some .boolean) [] ({ frames := 0, cells := 0, slots := 0, locals := 0 } : Room) #[(.ref sb), (.ref kb)] h0 n0 (fun v h => v = some (.int 0) ∧ h = h0) := by
  refine own_body (plainFor_of_name own_pn_StringLatin1) ?_
  intro p e s m below meth c T0 X0 hx hby hml hown hnm hZ e0 hret hlk
  have N0 := Fr.nil n0
  refine own_cast (own_ef_leq m sb kb) ?_
  refine own_aloadN X0 hx (hb hby d_leq_0) rfl rfl 1 rfl ?_
  refine own_arrlen X0 hx hZ e0 A (z := (1 : Int32)) rfl (hb hby d_leq_1) 2 rfl ?_
  refine own_aloadN X0 hx (hb hby d_leq_2) rfl rfl 3 rfl ?_
  refine own_arrlen X0 hx hZ e0 Ak (z := (5 : Int32)) rfl (hb hby d_leq_3) 4 rfl ?_
  refine own_icmpT X0 hx (hb hby d_leq_4) (feq (by decide)).2 34 (by decide) (by decide) ?_
  refine own_iconst X0 hx (z := (0 : Int32)) (hb hby d_leq_34) rfl 35 rfl ?_
  exact own_retN X0 hx hret (Or.inl rfl) hlk (hb hby d_leq_35) (by decide) (by decide) N0 e0 ⟨rfl, rfl⟩
theorem d_seq_0 : decode jdk_42_method_66_code 0 = .ok (.aload_n 0, 1) := by decide +kernel
theorem d_seq_1 : decode jdk_42_method_66_code 1 = .ok (.aload_n 1, 1) := by decide +kernel
theorem d_seq_2 : decode jdk_42_method_66_code 2 = .ok (.if_acmp .ne 5, 3) := by decide +kernel
theorem d_seq_7 : decode jdk_42_method_66_code 7 = .ok (.aload_n 1, 1) := by decide +kernel
theorem d_seq_8 : decode jdk_42_method_66_code 8 = .ok (.instanceof 10, 3) := by decide +kernel
theorem d_seq_11 : decode jdk_42_method_66_code 11 = .ok (.ifCond .eq 43, 3) := by decide +kernel
theorem d_seq_14 : decode jdk_42_method_66_code 14 = .ok (.aload_n 1, 1) := by decide +kernel
theorem d_seq_15 : decode jdk_42_method_66_code 15 = .ok (.checkcast 10, 3) := by decide +kernel
theorem d_seq_18 : decode jdk_42_method_66_code 18 = .ok (.astore_n 2, 1) := by decide +kernel
theorem d_seq_19 : decode jdk_42_method_66_code 19 = .ok (.getstatic 38, 3) := by decide +kernel
theorem d_seq_22 : decode jdk_42_method_66_code 22 = .ok (.ifCond .eq 14, 3) := by decide +kernel
theorem d_seq_25 : decode jdk_42_method_66_code 25 = .ok (.aload_n 0, 1) := by decide +kernel
theorem d_seq_26 : decode jdk_42_method_66_code 26 = .ok (.getfield 15, 3) := by decide +kernel
theorem d_seq_29 : decode jdk_42_method_66_code 29 = .ok (.aload_n 2, 1) := by decide +kernel
theorem d_seq_30 : decode jdk_42_method_66_code 30 = .ok (.getfield 15, 3) := by decide +kernel
theorem d_seq_33 : decode jdk_42_method_66_code 33 = .ok (.if_icmp .ne 21, 3) := by decide +kernel
theorem d_seq_36 : decode jdk_42_method_66_code 36 = .ok (.aload_n 0, 1) := by decide +kernel
theorem d_seq_37 : decode jdk_42_method_66_code 37 = .ok (.getfield 9, 3) := by decide +kernel
theorem d_seq_40 : decode jdk_42_method_66_code 40 = .ok (.aload_n 2, 1) := by decide +kernel
theorem d_seq_41 : decode jdk_42_method_66_code 41 = .ok (.getfield 9, 3) := by decide +kernel
theorem d_seq_44 : decode jdk_42_method_66_code 44 = .ok (.invokestatic 541, 3) := by decide +kernel
theorem d_seq_47 : decode jdk_42_method_66_code 47 = .ok (.ifCond .eq 7, 3) := by decide +kernel
theorem d_seq_54 : decode jdk_42_method_66_code 54 = .ok (.iconst 0, 1) := by decide +kernel
theorem d_seq_55 : decode jdk_42_method_66_code 55 = .ok (.ireturn, 1) := by decide +kernel
theorem own_ef_seq (m : MethodId) (sa : Addr) (ka : Addr) : entryFrame m #[(.ref sa), (.ref ka)] 3 = mkF m 0 #[.val (.ref sa), .val (.ref ka), .unset] [] := by first | (simp [entryFrame, mkF, argsToLocals, Value.category]; done) | rfl
set_option maxRecDepth 65536 in
set_option maxHeartbeats 40000000 in
theorem own_m_seq (l : Launch) (Z : State) (a0 : Array Value) (hw : ∀ d ∈ tables_1, d.before a0 Z = true) (h0 : Heap) (n0 : Nat) {sa sb : Addr} {f : Nat → Int32} (E : Exa Z h0 sa "java/lang/String") (C : Fld Z h0 sa "java/lang/String" "coder" "B" (.int 0)) (V : Fld Z h0 sa "java/lang/String" "value" "[B" (.ref sb)) (A : own_A Z h0 sb .byte 1 f) {ka kb : Addr} {fk : Nat → Int32} (Ek : Exa Z h0 ka "java/lang/String") (Ck : Fld Z h0 ka "java/lang/String" "coder" "B" (.int 0)) (Vk : Fld Z h0 ka "java/lang/String" "value" "[B" (.ref kb)) (Ak : own_A Z h0 kb .byte 5 fk) (hne : sa ≠ ka) {cz : Int32} (hcz : ¬ cz = 0) (SC : Sta Z h0 "java/lang/String" "COMPACT_STRINGS" "Z" (.int cz)) : own_Met l Z ⟨"java/lang/String", "equals", "(Ljava/lang/Object;)Z"⟩ jdk_42_method_66_code 3 (some .boolean) [] ({ frames := 1, cells := 0, slots := 0, locals := 14 } : Room) #[(.ref sa), (.ref ka)] h0 n0 (fun v h => v = some (.int 0) ∧ h = h0) := by
  refine own_body (plainFor_of_name own_pn_String) ?_
  intro p e s m below meth c T0 X0 hx hby hml hown hnm hZ e0 hret hlk
  have N0 := Fr.nil n0
  refine own_cast (own_ef_seq m sa ka) ?_
  refine own_aloadN X0 hx (hb hby d_seq_0) rfl rfl 1 rfl ?_
  refine own_aloadN X0 hx (hb hby d_seq_1) rfl rfl 2 rfl ?_
  refine own_acmpT X0 hx (hb hby d_seq_2) (by simp [if_acmp.holds, hne]) 7 (by decide) (by decide) ?_
  refine own_aloadN X0 hx (hb hby d_seq_7) rfl rfl 8 rfl ?_
  refine own_instY X0 hx hZ hown (own_w12 hw) e0 (Ins.self Ek) (hb hby d_seq_8) 11 rfl (fun T1 X1 e1 => ?_)
  refine own_ifcF X1 hx (hb hby d_seq_11) (feq (by decide)).1 14 rfl ?_
  refine own_aloadN X1 hx (hb hby d_seq_14) rfl rfl 15 rfl ?_
  refine own_castY X1 hx hZ hown (own_w12 hw) e1 (Ins.self Ek) (hb hby d_seq_15) 18 rfl (fun T2 X2 e2 => ?_)
  refine own_astoreN X2 hx (#[.val (.ref sa), .val (.ref ka), .val (.ref ka)]) (hb hby d_seq_18) rfl rfl 19 rfl ?_
  refine own_getS X2 hx hZ hown (own_w7 hw) e2 SC (hb hby d_seq_19) 22 rfl (fun T3 X3 e3 => ?_)
  refine own_ifcF X3 hx (hb hby d_seq_22) (feq hcz).1 25 rfl ?_
  refine own_aloadN X3 hx (hb hby d_seq_25) rfl rfl 26 rfl ?_
  refine own_getF X3 hx hZ hown (own_w27 hw) e3 C (hb hby d_seq_26) 29 rfl (fun T4 X4 e4 => ?_)
  refine own_aloadN X4 hx (hb hby d_seq_29) rfl rfl 30 rfl ?_
  refine own_getF X4 hx hZ hown (own_w27 hw) e4 Ck (hb hby d_seq_30) 33 rfl (fun T5 X5 e5 => ?_)
  refine own_icmpF X5 hx (hb hby d_seq_33) (teq (by decide)).2 36 rfl ?_
  refine own_aloadN X5 hx (hb hby d_seq_36) rfl rfl 37 rfl ?_
  refine own_getF X5 hx hZ hown (own_w25 hw) e5 V (hb hby d_seq_37) 40 rfl (fun T6 X6 e6 => ?_)
  refine own_aloadN X6 hx (hb hby d_seq_40) rfl rfl 41 rfl ?_
  refine own_getF X6 hx hZ hown (own_w25 hw) e6 Vk (hb hby d_seq_41) 44 rfl (fun T7 X7 e7 => ?_)
  refine own_callS X7 hx hZ hown (own_w101 hw) (own_w102 hw) (own_w10 hw) (own_w103 hw) (by decide) 0 (own_m_leq l Z a0 hw _ n0 A Ak) e7 (by rw [hml]; rfl) [(.ref sb), (.ref kb)] [] rfl (lenOf own_pd_9 rfl) rfl (Nat.le_of_eq rfl) (by decide) (by decide) (by decide) (by decide) (hb hby d_seq_44) N0 47 rfl (fun v8 T8 l8 X8 N8 hP8 => ?_)
  obtain ⟨rfl, e8⟩ := hP8
  show own_G p e below _ (T8.setTop (mkF m 47 #[.val (.ref sa), .val (.ref ka), .val (.ref ka)] [(.int (0 : Int32))]))
  refine own_ifcT X8 hx (hb hby d_seq_47) (teq (by decide)).1 54 (by decide) (by decide) ?_
  refine own_iconst X8 hx (z := (0 : Int32)) (hb hby d_seq_54) rfl 55 rfl ?_
  exact own_retN X8 hx hret (Or.inl rfl) hlk (hb hby d_seq_55) (by decide) (by decide) N8 e8 ⟨rfl, rfl⟩
theorem own_isubZ {p : Program} {l : Launch} {e : Env} {R : Room} {s : State} {m : MethodId} {args : Array Value} {below : List Frame} {meth : Method} {c : Code} {T : State} {locs : List Loc} {cells slots : Nat} {Q : Outcome → State → Prop} {pc : Nat} {Ls : Array Slot} {st : List Value} (X : Stand p l e R s m args below meth c T locs cells slots) (hx : p.tables.exec = Jvm.exec) {x y z : Int32} (hz : x - y = z) (hd : decode c.code pc = .ok (.isub, 1)) (pc' : Nat) (hp : pc + 1 = pc') (r : own_G p e below Q (T.setTop (mkF m pc' Ls (.int z :: st)))) : own_G p e below Q (T.setTop (mkF m pc Ls (.int y :: .int x :: st))) := by
  subst hz
  exact own_isub X hx hd pc' hp r
theorem d_sw2_0 : decode jdk_42_method_75_code 0 = .ok (.iload_n 2, 1) := by decide +kernel
theorem d_sw2_1 : decode jdk_42_method_75_code 1 = .ok (.ifCond .lt 16, 3) := by decide +kernel
theorem d_sw2_4 : decode jdk_42_method_75_code 4 = .ok (.iload_n 2, 1) := by decide +kernel
theorem d_sw2_5 : decode jdk_42_method_75_code 5 = .ok (.aload_n 0, 1) := by decide +kernel
theorem d_sw2_6 : decode jdk_42_method_75_code 6 = .ok (.invokevirtual 505, 3) := by decide +kernel
theorem d_sw2_9 : decode jdk_42_method_75_code 9 = .ok (.aload_n 1, 1) := by decide +kernel
theorem d_sw2_10 : decode jdk_42_method_75_code 10 = .ok (.invokevirtual 505, 3) := by decide +kernel
theorem d_sw2_13 : decode jdk_42_method_75_code 13 = .ok (.isub, 1) := by decide +kernel
theorem d_sw2_14 : decode jdk_42_method_75_code 14 = .ok (.if_icmp .le 5, 3) := by decide +kernel
theorem d_sw2_17 : decode jdk_42_method_75_code 17 = .ok (.iconst 0, 1) := by decide +kernel
theorem d_sw2_18 : decode jdk_42_method_75_code 18 = .ok (.ireturn, 1) := by decide +kernel
theorem own_ef_sw2 (m : MethodId) (sa ka : Addr) : entryFrame m #[(.ref sa), (.ref ka), (.int (0 : Int32))] 8 = mkF m 0 #[.val (.ref sa), .val (.ref ka), .val (.int (0 : Int32)), .unset, .unset, .unset, .unset, .unset] [] := by first | (simp [entryFrame, mkF, argsToLocals, Value.category]; done) | rfl
set_option maxRecDepth 65536 in
set_option maxHeartbeats 40000000 in
theorem own_m_sw2 (l : Launch) (Z : State) (a0 : Array Value) (hw : ∀ d ∈ tables_1, d.before a0 Z = true) (h0 : Heap) (n0 : Nat) {sa sb : Addr} {f : Nat → Int32} (E : Exa Z h0 sa "java/lang/String") (C : Fld Z h0 sa "java/lang/String" "coder" "B" (.int 0)) (V : Fld Z h0 sa "java/lang/String" "value" "[B" (.ref sb)) (A : own_A Z h0 sb .byte 1 f) {ka kb : Addr} {fk : Nat → Int32} (Ek : Exa Z h0 ka "java/lang/String") (Ck : Fld Z h0 ka "java/lang/String" "coder" "B" (.int 0)) (Vk : Fld Z h0 ka "java/lang/String" "value" "[B" (.ref kb)) (Ak : own_A Z h0 kb .byte 6 fk) {cz : Int32} (hcz : ¬ cz = 0) (SC : Sta Z h0 "java/lang/String" "COMPACT_STRINGS" "Z" (.int cz)) : own_Met l Z ⟨"java/lang/String", "startsWith", "(Ljava/lang/String;I)Z"⟩ jdk_42_method_75_code 8 (some .boolean) [] ({ frames := 2, cells := 0, slots := 0, locals := 27 } : Room) #[(.ref sa), (.ref ka), (.int (0 : Int32))] h0 n0 (fun v h => v = some (.int 0) ∧ h = h0) := by
  refine own_body (plainFor_of_name own_pn_String) ?_
  intro p e s m below meth c T0 X0 hx hby hml hown hnm hZ e0 hret hlk
  have N0 := Fr.nil n0
  refine own_cast (own_ef_sw2 m sa ka) ?_
  refine own_iloadN X0 hx (hb hby d_sw2_0) rfl 1 rfl ?_
  refine own_ifcF X0 hx (hb hby d_sw2_1) (flt (by decide)).1 4 rfl ?_
  refine own_iloadN X0 hx (hb hby d_sw2_4) rfl 5 rfl ?_
  refine own_aloadN X0 hx (hb hby d_sw2_5) rfl rfl 6 rfl ?_
  refine own_callV X0 hx hZ hown (own_w65 hw) (own_w66 hw) (own_w68 hw) (own_w67 hw) (own_w5 hw) (own_w69 hw) (by decide) 1 (own_m_slen l Z a0 hw _ n0 E C V A hcz SC (r := (1 : Int32)) (by decide)) e0 E (by rw [hml]; rfl) [] [(.int (0 : Int32))] rfl (lenOf own_pd_8 rfl) rfl (Nat.le_of_eq rfl) (by decide) (by decide) (by decide) (by decide) (hb hby d_sw2_6) N0 9 rfl (fun v1 T1 l1 X1 N1 hP1 => ?_)
  obtain ⟨rfl, e1⟩ := hP1
  show own_G p e below _ (T1.setTop (mkF m 9 #[.val (.ref sa), .val (.ref ka), .val (.int (0 : Int32)), .unset, .unset, .unset, .unset, .unset] [(.int (1 : Int32)), (.int (0 : Int32))]))
  refine own_aloadN X1 hx (hb hby d_sw2_9) rfl rfl 10 rfl ?_
  refine own_callV X1 hx hZ hown (own_w65 hw) (own_w66 hw) (own_w68 hw) (own_w67 hw) (own_w5 hw) (own_w69 hw) (by decide) 2 (own_m_slen l Z a0 hw _ n0 Ek Ck Vk Ak hcz SC (r := (6 : Int32)) (by decide)) e1 Ek (by rw [hml]; rfl) [] [(.int (1 : Int32)), (.int (0 : Int32))] rfl (lenOf own_pd_8 rfl) rfl (Nat.le_of_eq rfl) (by decide) (by decide) (by decide) (by decide) (hb hby d_sw2_10) N1 13 rfl (fun v2 T2 l2 X2 N2 hP2 => ?_)
  obtain ⟨rfl, e2⟩ := hP2
  show own_G p e below _ (T2.setTop (mkF m 13 #[.val (.ref sa), .val (.ref ka), .val (.int (0 : Int32)), .unset, .unset, .unset, .unset, .unset] [(.int (6 : Int32)), (.int (1 : Int32)), (.int (0 : Int32))]))
  refine own_isubZ X2 hx (z := (-5 : Int32)) (by decide) (hb hby d_sw2_13) 14 rfl ?_
  refine own_icmpF X2 hx (hb hby d_sw2_14) (tlt (by decide)).2.2.2 17 rfl ?_
  refine own_iconst X2 hx (z := (0 : Int32)) (hb hby d_sw2_17) rfl 18 rfl ?_
  exact own_retN X2 hx hret (Or.inl rfl) hlk (hb hby d_sw2_18) (by decide) (by decide) N2 e2 ⟨rfl, rfl⟩
theorem d_sw1_0 : decode jdk_42_method_76_code 0 = .ok (.aload_n 0, 1) := by decide +kernel
theorem d_sw1_1 : decode jdk_42_method_76_code 1 = .ok (.aload_n 1, 1) := by decide +kernel
theorem d_sw1_2 : decode jdk_42_method_76_code 2 = .ok (.iconst 0, 1) := by decide +kernel
theorem d_sw1_3 : decode jdk_42_method_76_code 3 = .ok (.invokevirtual 624, 3) := by decide +kernel
theorem d_sw1_6 : decode jdk_42_method_76_code 6 = .ok (.ireturn, 1) := by decide +kernel
theorem own_ef_sw1 (m : MethodId) (sa ka : Addr) : entryFrame m #[(.ref sa), (.ref ka)] 2 = mkF m 0 #[.val (.ref sa), .val (.ref ka)] [] := by first | (simp [entryFrame, mkF, argsToLocals, Value.category]; done) | rfl
set_option maxRecDepth 65536 in
set_option maxHeartbeats 40000000 in
theorem own_m_sw1 (l : Launch) (Z : State) (a0 : Array Value) (hw : ∀ d ∈ tables_1, d.before a0 Z = true) (h0 : Heap) (n0 : Nat) {sa sb : Addr} {f : Nat → Int32} (E : Exa Z h0 sa "java/lang/String") (C : Fld Z h0 sa "java/lang/String" "coder" "B" (.int 0)) (V : Fld Z h0 sa "java/lang/String" "value" "[B" (.ref sb)) (A : own_A Z h0 sb .byte 1 f) {ka kb : Addr} {fk : Nat → Int32} (Ek : Exa Z h0 ka "java/lang/String") (Ck : Fld Z h0 ka "java/lang/String" "coder" "B" (.int 0)) (Vk : Fld Z h0 ka "java/lang/String" "value" "[B" (.ref kb)) (Ak : own_A Z h0 kb .byte 6 fk) {cz : Int32} (hcz : ¬ cz = 0) (SC : Sta Z h0 "java/lang/String" "COMPACT_STRINGS" "Z" (.int cz)) : own_Met l Z ⟨"java/lang/String", "startsWith", "(Ljava/lang/String;)Z"⟩ jdk_42_method_76_code 2 (some .boolean) [] ({ frames := 3, cells := 0, slots := 0, locals := 46 } : Room) #[(.ref sa), (.ref ka)] h0 n0 (fun v h => v = some (.int 0) ∧ h = h0) := by
  refine own_body (plainFor_of_name own_pn_String) ?_
  intro p e s m below meth c T0 X0 hx hby hml hown hnm hZ e0 hret hlk
  have N0 := Fr.nil n0
  refine own_cast (own_ef_sw1 m sa ka) ?_
  refine own_aloadN X0 hx (hb hby d_sw1_0) rfl rfl 1 rfl ?_
  refine own_aloadN X0 hx (hb hby d_sw1_1) rfl rfl 2 rfl ?_
  refine own_iconst X0 hx (z := (0 : Int32)) (hb hby d_sw1_2) rfl 3 rfl ?_
  refine own_callV X0 hx hZ hown (own_w110 hw) (own_w111 hw) (own_w113 hw) (own_w112 hw) (own_w5 hw) (own_w114 hw) (by decide) 0 (own_m_sw2 l Z a0 hw _ n0 E C V A Ek Ck Vk Ak hcz SC) e0 E (by rw [hml]; rfl) [(.ref ka), (.int (0 : Int32))] [] rfl (lenOf own_pd_10 rfl) rfl (Nat.le_of_eq rfl) (by decide) (by decide) (by decide) (by decide) (hb hby d_sw1_3) N0 6 rfl (fun v1 T1 l1 X1 N1 hP1 => ?_)
  obtain ⟨rfl, e1⟩ := hP1
  show own_G p e below _ (T1.setTop (mkF m 6 #[.val (.ref sa), .val (.ref ka)] [(.int (0 : Int32))]))
  exact own_retN X1 hx hret (Or.inl rfl) hlk (hb hby d_sw1_6) (by decide) (by decide) N1 e1 ⟨rfl, rfl⟩
def own_f_res (p1 p2 nE cE nA cA : Int32) : Int32 :=
  if p1 = (0 : Int32) then
    if cA = p2 then
      nA
    else
      (-1 : Int32)
  else
    if cE = p2 then
      nE
    else
      (-1 : Int32)
theorem d_res_0 : decode prog_166_method_4_code 0 = .ok (.iload_n 1, 1) := by decide +kernel
theorem d_res_1 : decode prog_166_method_4_code 1 = .ok (.ifCond .eq 10, 3) := by decide +kernel
theorem d_res_4 : decode prog_166_method_4_code 4 = .ok (.aload_n 0, 1) := by decide +kernel
theorem d_res_5 : decode prog_166_method_4_code 5 = .ok (.getfield 10, 3) := by decide +kernel
theorem d_res_8 : decode prog_166_method_4_code 8 = .ok (.goto 7, 3) := by decide +kernel
theorem d_res_11 : decode prog_166_method_4_code 11 = .ok (.aload_n 0, 1) := by decide +kernel
theorem d_res_12 : decode prog_166_method_4_code 12 = .ok (.getfield 16, 3) := by decide +kernel
theorem d_res_15 : decode prog_166_method_4_code 15 = .ok (.astore_n 3, 1) := by decide +kernel
theorem d_res_16 : decode prog_166_method_4_code 16 = .ok (.aload_n 3, 1) := by decide +kernel
theorem d_res_17 : decode prog_166_method_4_code 17 = .ok (.getfield 54, 3) := by decide +kernel
theorem d_res_20 : decode prog_166_method_4_code 20 = .ok (.iload_n 2, 1) := by decide +kernel
theorem d_res_21 : decode prog_166_method_4_code 21 = .ok (.if_icmp .ne 10, 3) := by decide +kernel
theorem d_res_24 : decode prog_166_method_4_code 24 = .ok (.aload_n 3, 1) := by decide +kernel
theorem d_res_25 : decode prog_166_method_4_code 25 = .ok (.getfield 58, 3) := by decide +kernel
theorem d_res_28 : decode prog_166_method_4_code 28 = .ok (.goto 4, 3) := by decide +kernel
theorem d_res_31 : decode prog_166_method_4_code 31 = .ok (.iconst (-1), 1) := by decide +kernel
theorem d_res_32 : decode prog_166_method_4_code 32 = .ok (.ireturn, 1) := by decide +kernel
theorem own_ef_res (m : MethodId) (mm : Addr) (p1 : Int32) (p2 : Int32) : entryFrame m #[(.ref mm), (.int p1), (.int p2)] 4 = mkF m 0 #[.val (.ref mm), .val (.int p1), .val (.int p2), .unset] [] := by first | (simp [entryFrame, mkF, argsToLocals, Value.category]; done) | rfl
set_option maxRecDepth 65536 in
set_option maxHeartbeats 40000000 in
theorem own_m_res (l : Launch) (Z : State) (a0 : Array Value) (hw : ∀ d ∈ tables_1, d.before a0 Z = true) (h0 : Heap) (n0 : Nat) {mm re ra : Addr} (FE : Fld Z h0 mm "com/example/xqwry/xqwry/MarkupName" "asElement" "Lcom/example/xqwry/xqwry/MarkupName$Resolution;" (.ref re)) (FA : Fld Z h0 mm "com/example/xqwry/xqwry/MarkupName" "asAttribute" "Lcom/example/xqwry/xqwry/MarkupName$Resolution;" (.ref ra)) {nE cE nA cA : Int32} (F1 : Fld Z h0 re "com/example/xqwry/xqwry/MarkupName$Resolution" "name" "I" (.int nE)) (F2 : Fld Z h0 re "com/example/xqwry/xqwry/MarkupName$Resolution" "namespaceChanges" "I" (.int cE)) (F3 : Fld Z h0 ra "com/example/xqwry/xqwry/MarkupName$Resolution" "name" "I" (.int nA)) (F4 : Fld Z h0 ra "com/example/xqwry/xqwry/MarkupName$Resolution" "namespaceChanges" "I" (.int cA)) (p1 p2 : Int32) {r : Int32} (hF : own_f_res p1 p2 nE cE nA cA = r) : own_Met l Z ⟨"com/example/xqwry/xqwry/MarkupName", "resolved", "(ZI)I"⟩ prog_166_method_4_code 4 (some .int) [] ({ frames := 0, cells := 0, slots := 0, locals := 0 } : Room) #[(.ref mm), (.int p1), (.int p2)] h0 n0 (fun v h => v = some (.int r) ∧ h = h0) := by
  refine own_body (plainFor_of_name own_pn_MarkupName) ?_
  intro p e s m below meth c T0 X0 hx hby hml hown hnm hZ e0 hret hlk
  have N0 := Fr.nil n0
  refine own_cast (own_ef_res m mm p1 p2) ?_
  unfold own_f_res at hF
  refine own_iloadN X0 hx (hb hby d_res_0) rfl 1 rfl ?_
  by_cases hc1 : p1 = (0 : Int32)
  · replace hF := own_ifT hc1 hF
    refine own_ifcT X0 hx (hb hby d_res_1) (teq hc1).1 11 (by decide) (by decide) ?_
    refine own_aloadN X0 hx (hb hby d_res_11) rfl rfl 12 rfl ?_
    refine own_getF X0 hx hZ hown (own_w46 hw) e0 FA (hb hby d_res_12) 15 rfl (fun T2 X2 e2 => ?_)
    refine own_astoreN X2 hx (#[.val (.ref mm), .val (.int p1), .val (.int p2), .val (.ref ra)]) (hb hby d_res_15) rfl rfl 16 rfl ?_
    refine own_aloadN X2 hx (hb hby d_res_16) rfl rfl 17 rfl ?_
    refine own_getFR X2 hx hZ hown (own_w122 hw) e2 F4 (hb hby d_res_17) 20 rfl ?_
    refine own_iloadN X2 hx (hb hby d_res_20) rfl 21 rfl ?_
    by_cases hc3 : cA = p2
    · replace hF := own_ifT hc3 hF
      refine own_icmpF X2 hx (hb hby d_res_21) (teq hc3).2 24 rfl ?_
      refine own_aloadN X2 hx (hb hby d_res_24) rfl rfl 25 rfl ?_
      refine own_getFR X2 hx hZ hown (own_w128 hw) e2 F3 (hb hby d_res_25) 28 rfl ?_
      refine own_goto X2 hx (hb hby d_res_28) 32 (by decide) (by decide) ?_
      exact own_retI X2 hx hret hlk (hb hby d_res_32) (Nat.le_refl _) (Nat.le_refl _) N0 e2 ⟨congrArg (fun z => some (Value.int z)) hF, rfl⟩
    · replace hF := own_ifF hc3 hF
      refine own_icmpT X2 hx (hb hby d_res_21) (feq hc3).2 31 (by decide) (by decide) ?_
      refine own_iconst X2 hx (z := (-1 : Int32)) (hb hby d_res_31) rfl 32 rfl ?_
      exact own_retI X2 hx hret hlk (hb hby d_res_32) (Nat.le_refl _) (Nat.le_refl _) N0 e2 ⟨congrArg (fun z => some (Value.int z)) hF, rfl⟩
  · replace hF := own_ifF hc1 hF
    refine own_ifcF X0 hx (hb hby d_res_1) (feq hc1).1 4 rfl ?_
    refine own_aloadN X0 hx (hb hby d_res_4) rfl rfl 5 rfl ?_
    refine own_getF X0 hx hZ hown (own_w44 hw) e0 FE (hb hby d_res_5) 8 rfl (fun T4 X4 e4 => ?_)
    refine own_goto X4 hx (hb hby d_res_8) 15 (by decide) (by decide) ?_
    refine own_astoreN X4 hx (#[.val (.ref mm), .val (.int p1), .val (.int p2), .val (.ref re)]) (hb hby d_res_15) rfl rfl 16 rfl ?_
    refine own_aloadN X4 hx (hb hby d_res_16) rfl rfl 17 rfl ?_
    refine own_getFR X4 hx hZ hown (own_w122 hw) e4 F2 (hb hby d_res_17) 20 rfl ?_
    refine own_iloadN X4 hx (hb hby d_res_20) rfl 21 rfl ?_
    by_cases hc5 : cE = p2
    · replace hF := own_ifT hc5 hF
      refine own_icmpF X4 hx (hb hby d_res_21) (teq hc5).2 24 rfl ?_
      refine own_aloadN X4 hx (hb hby d_res_24) rfl rfl 25 rfl ?_
      refine own_getFR X4 hx hZ hown (own_w128 hw) e4 F1 (hb hby d_res_25) 28 rfl ?_
      refine own_goto X4 hx (hb hby d_res_28) 32 (by decide) (by decide) ?_
      exact own_retI X4 hx hret hlk (hb hby d_res_32) (Nat.le_refl _) (Nat.le_refl _) N0 e4 ⟨congrArg (fun z => some (Value.int z)) hF, rfl⟩
    · replace hF := own_ifF hc5 hF
      refine own_icmpT X4 hx (hb hby d_res_21) (feq hc5).2 31 (by decide) (by decide) ?_
      refine own_iconst X4 hx (z := (-1 : Int32)) (hb hby d_res_31) rfl 32 rfl ?_
      exact own_retI X4 hx hret hlk (hb hby d_res_32) (Nat.le_refl _) (Nat.le_refl _) N0 e4 ⟨congrArg (fun z => some (Value.int z)) hF, rfl⟩
theorem d_keep1_0 : decode prog_166_method_5_code 0 = .ok (.iload_n 1, 1) := by decide +kernel
theorem d_keep1_1 : decode prog_166_method_5_code 1 = .ok (.ifCond .eq 10, 3) := by decide +kernel
theorem d_keep1_4 : decode prog_166_method_5_code 4 = .ok (.aload_n 0, 1) := by decide +kernel
theorem d_keep1_5 : decode prog_166_method_5_code 5 = .ok (.getfield 10, 3) := by decide +kernel
theorem d_keep1_8 : decode prog_166_method_5_code 8 = .ok (.goto 7, 3) := by decide +kernel
theorem d_keep1_15 : decode prog_166_method_5_code 15 = .ok (.astore 4, 2) := by decide +kernel
theorem d_keep1_17 : decode prog_166_method_5_code 17 = .ok (.aload 4, 2) := by decide +kernel
theorem d_keep1_19 : decode prog_166_method_5_code 19 = .ok (.iload_n 2, 1) := by decide +kernel
theorem d_keep1_20 : decode prog_166_method_5_code 20 = .ok (.putfield 58, 3) := by decide +kernel
theorem d_keep1_23 : decode prog_166_method_5_code 23 = .ok (.aload 4, 2) := by decide +kernel
theorem d_keep1_25 : decode prog_166_method_5_code 25 = .ok (.iload_n 3, 1) := by decide +kernel
theorem d_keep1_26 : decode prog_166_method_5_code 26 = .ok (.putfield 54, 3) := by decide +kernel
theorem d_keep1_29 : decode prog_166_method_5_code 29 = .ok (.return_, 1) := by decide +kernel
theorem own_ef_keep1 (m : MethodId) (mm : Addr) (p1 : Int32) (p2 : Int32) (p3 : Int32) : entryFrame m #[(.ref mm), (.int p1), (.int p2), (.int p3)] 5 = mkF m 0 #[.val (.ref mm), .val (.int p1), .val (.int p2), .val (.int p3), .unset] [] := by first | (simp [entryFrame, mkF, argsToLocals, Value.category]; done) | rfl
set_option maxRecDepth 65536 in
set_option maxHeartbeats 40000000 in
theorem own_m_keep1 (l : Launch) (Z : State) (a0 : Array Value) (hw : ∀ d ∈ tables_1, d.before a0 Z = true) (h0 : Heap) (n0 : Nat) {mm re ra : Addr} (FE : Fld Z h0 mm "com/example/xqwry/xqwry/MarkupName" "asElement" "Lcom/example/xqwry/xqwry/MarkupName$Resolution;" (.ref re)) (FA : Fld Z h0 mm "com/example/xqwry/xqwry/MarkupName" "asAttribute" "Lcom/example/xqwry/xqwry/MarkupName$Resolution;" (.ref ra)) {u1 u2 : Int32} (E0 : Exa Z h0 re "com/example/xqwry/xqwry/MarkupName$Resolution") (F1 : Fld Z h0 re "com/example/xqwry/xqwry/MarkupName$Resolution" "name" "I" (.int u1)) (F2 : Fld Z h0 re "com/example/xqwry/xqwry/MarkupName$Resolution" "namespaceChanges" "I" (.int u2)) (gn_re : n0 ≤ re) (hne : mm ≠ re) (p1 p2 p3 : Int32) (he : ¬ p1 = 0) : own_Met l Z ⟨"com/example/xqwry/xqwry/MarkupName", "keepResolved", "(ZII)V"⟩ prog_166_method_5_code 5 none [] ({ frames := 0, cells := 0, slots := 0, locals := 0 } : Room) #[(.ref mm), (.int p1), (.int p2), (.int p3)] h0 n0 (fun v h => v = none ∧ Fld Z h re "com/example/xqwry/xqwry/MarkupName$Resolution" "name" "I" (.int p2) ∧ Fld Z h re "com/example/xqwry/xqwry/MarkupName$Resolution" "namespaceChanges" "I" (.int p3) ∧ Keep h0 h [re]) := by
  refine own_body (plainFor_of_name own_pn_MarkupName) ?_
  intro p e s m below meth c T0 X0 hx hby hml hown hnm hZ e0 hret hlk
  have N0 := Fr.nil n0
  have K0 : Keep h0 h0 [re] := Keep.refl _ _
  refine own_cast (own_ef_keep1 m mm p1 p2 p3) ?_
  refine own_iloadN X0 hx (hb hby d_keep1_0) rfl 1 rfl ?_
  refine own_ifcF X0 hx (hb hby d_keep1_1) (feq he).1 4 rfl ?_
  refine own_aloadN X0 hx (hb hby d_keep1_4) rfl rfl 5 rfl ?_
  refine own_getF X0 hx hZ hown (own_w44 hw) e0 FE (hb hby d_keep1_5) 8 rfl (fun T1 X1 e1 => ?_)
  refine own_goto X1 hx (hb hby d_keep1_8) 15 (by decide) (by decide) ?_
  refine own_astore X1 hx (#[.val (.ref mm), .val (.int p1), .val (.int p2), .val (.int p3), .val (.ref re)]) (hb hby d_keep1_15) rfl rfl 17 rfl ?_
  refine own_aload X1 hx (hb hby d_keep1_17) rfl rfl 19 rfl ?_
  refine own_iloadN X1 hx (hb hby d_keep1_19) rfl 20 rfl ?_
  refine own_putFR X1 hx hZ hown (own_w128 hw) e1 F1 E0 (own_w41 hw) (own_w34 hw) (ty := .int) (by decide) rfl rfl (hb hby d_keep1_20) N0 gn_re 23 rfl (fun T2 h2 l2 X2 N2 e2 W2 => ?_)
  have FE_2 := FE.other W2 (Or.inl hne)
  have FA_2 := FA.other W2 (Or.inl hne)
  have E0_2 := E0.wr W2
  have F1_2 := F1.same W2
  have F2_2 := F2.other W2 (Or.inr (slot_ne (Or.inl (own_w43 hw)) (Or.inl (own_w41 hw)) (by decide) (t := .int) (t' := .int) (by decide) (by decide)))
  have K0_2 := K0.wr W2 (Or.inl (List.mem_of_getElem? (i := 0) rfl))
  refine own_aload X2 hx (hb hby d_keep1_23) rfl rfl 25 rfl ?_
  refine own_iloadN X2 hx (hb hby d_keep1_25) rfl 26 rfl ?_
  refine own_putFR X2 hx hZ hown (own_w122 hw) e2 F2_2 E0_2 (own_w43 hw) (own_w34 hw) (ty := .int) (by decide) rfl rfl (hb hby d_keep1_26) N2 gn_re 29 rfl (fun T3 h3 l3 X3 N3 e3 W3 => ?_)
  have FE_3 := FE_2.other W3 (Or.inl hne)
  have FA_3 := FA_2.other W3 (Or.inl hne)
  have E0_3 := E0_2.wr W3
  have F1_3 := F1_2.other W3 (Or.inr (slot_ne (Or.inl (own_w41 hw)) (Or.inl (own_w43 hw)) (by decide) (t := .int) (t' := .int) (by decide) (by decide)))
  have F2_3 := F2_2.same W3
  have K0_3 := K0_2.wr W3 (Or.inl (List.mem_of_getElem? (i := 0) rfl))
  exact own_retV X3 hx hret hlk (hb hby d_keep1_29) (by decide) (by decide) N3 e3 ⟨rfl, F1_3, F2_3, K0_3⟩
theorem d_keep0_0 : decode prog_166_method_5_code 0 = .ok (.iload_n 1, 1) := by decide +kernel
theorem d_keep0_1 : decode prog_166_method_5_code 1 = .ok (.ifCond .eq 10, 3) := by decide +kernel
theorem d_keep0_11 : decode prog_166_method_5_code 11 = .ok (.aload_n 0, 1) := by decide +kernel
theorem d_keep0_12 : decode prog_166_method_5_code 12 = .ok (.getfield 16, 3) := by decide +kernel
theorem d_keep0_15 : decode prog_166_method_5_code 15 = .ok (.astore 4, 2) := by decide +kernel
theorem d_keep0_17 : decode prog_166_method_5_code 17 = .ok (.aload 4, 2) := by decide +kernel
theorem d_keep0_19 : decode prog_166_method_5_code 19 = .ok (.iload_n 2, 1) := by decide +kernel
theorem d_keep0_20 : decode prog_166_method_5_code 20 = .ok (.putfield 58, 3) := by decide +kernel
theorem d_keep0_23 : decode prog_166_method_5_code 23 = .ok (.aload 4, 2) := by decide +kernel
theorem d_keep0_25 : decode prog_166_method_5_code 25 = .ok (.iload_n 3, 1) := by decide +kernel
theorem d_keep0_26 : decode prog_166_method_5_code 26 = .ok (.putfield 54, 3) := by decide +kernel
theorem d_keep0_29 : decode prog_166_method_5_code 29 = .ok (.return_, 1) := by decide +kernel
theorem own_ef_keep0 (m : MethodId) (mm : Addr) (p1 : Int32) (p2 : Int32) (p3 : Int32) : entryFrame m #[(.ref mm), (.int p1), (.int p2), (.int p3)] 5 = mkF m 0 #[.val (.ref mm), .val (.int p1), .val (.int p2), .val (.int p3), .unset] [] := by first | (simp [entryFrame, mkF, argsToLocals, Value.category]; done) | rfl
set_option maxRecDepth 65536 in
set_option maxHeartbeats 40000000 in
theorem own_m_keep0 (l : Launch) (Z : State) (a0 : Array Value) (hw : ∀ d ∈ tables_1, d.before a0 Z = true) (h0 : Heap) (n0 : Nat) {mm re ra : Addr} (FE : Fld Z h0 mm "com/example/xqwry/xqwry/MarkupName" "asElement" "Lcom/example/xqwry/xqwry/MarkupName$Resolution;" (.ref re)) (FA : Fld Z h0 mm "com/example/xqwry/xqwry/MarkupName" "asAttribute" "Lcom/example/xqwry/xqwry/MarkupName$Resolution;" (.ref ra)) {u1 u2 : Int32} (E0 : Exa Z h0 ra "com/example/xqwry/xqwry/MarkupName$Resolution") (F1 : Fld Z h0 ra "com/example/xqwry/xqwry/MarkupName$Resolution" "name" "I" (.int u1)) (F2 : Fld Z h0 ra "com/example/xqwry/xqwry/MarkupName$Resolution" "namespaceChanges" "I" (.int u2)) (gn_ra : n0 ≤ ra) (hne : mm ≠ ra) (p1 p2 p3 : Int32) (he : p1 = 0) : own_Met l Z ⟨"com/example/xqwry/xqwry/MarkupName", "keepResolved", "(ZII)V"⟩ prog_166_method_5_code 5 none [] ({ frames := 0, cells := 0, slots := 0, locals := 0 } : Room) #[(.ref mm), (.int p1), (.int p2), (.int p3)] h0 n0 (fun v h => v = none ∧ Fld Z h ra "com/example/xqwry/xqwry/MarkupName$Resolution" "name" "I" (.int p2) ∧ Fld Z h ra "com/example/xqwry/xqwry/MarkupName$Resolution" "namespaceChanges" "I" (.int p3) ∧ Keep h0 h [ra]) := by
  refine own_body (plainFor_of_name own_pn_MarkupName) ?_
  intro p e s m below meth c T0 X0 hx hby hml hown hnm hZ e0 hret hlk
  have N0 := Fr.nil n0
  have K0 : Keep h0 h0 [ra] := Keep.refl _ _
  refine own_cast (own_ef_keep0 m mm p1 p2 p3) ?_
  refine own_iloadN X0 hx (hb hby d_keep0_0) rfl 1 rfl ?_
  refine own_ifcT X0 hx (hb hby d_keep0_1) (teq he).1 11 (by decide) (by decide) ?_
  refine own_aloadN X0 hx (hb hby d_keep0_11) rfl rfl 12 rfl ?_
  refine own_getF X0 hx hZ hown (own_w46 hw) e0 FA (hb hby d_keep0_12) 15 rfl (fun T1 X1 e1 => ?_)
  refine own_astore X1 hx (#[.val (.ref mm), .val (.int p1), .val (.int p2), .val (.int p3), .val (.ref ra)]) (hb hby d_keep0_15) rfl rfl 17 rfl ?_
  refine own_aload X1 hx (hb hby d_keep0_17) rfl rfl 19 rfl ?_
  refine own_iloadN X1 hx (hb hby d_keep0_19) rfl 20 rfl ?_
  refine own_putFR X1 hx hZ hown (own_w128 hw) e1 F1 E0 (own_w41 hw) (own_w34 hw) (ty := .int) (by decide) rfl rfl (hb hby d_keep0_20) N0 gn_ra 23 rfl (fun T2 h2 l2 X2 N2 e2 W2 => ?_)
  have FE_2 := FE.other W2 (Or.inl hne)
  have FA_2 := FA.other W2 (Or.inl hne)
  have E0_2 := E0.wr W2
  have F1_2 := F1.same W2
  have F2_2 := F2.other W2 (Or.inr (slot_ne (Or.inl (own_w43 hw)) (Or.inl (own_w41 hw)) (by decide) (t := .int) (t' := .int) (by decide) (by decide)))
  have K0_2 := K0.wr W2 (Or.inl (List.mem_of_getElem? (i := 0) rfl))
  refine own_aload X2 hx (hb hby d_keep0_23) rfl rfl 25 rfl ?_
  refine own_iloadN X2 hx (hb hby d_keep0_25) rfl 26 rfl ?_
  refine own_putFR X2 hx hZ hown (own_w122 hw) e2 F2_2 E0_2 (own_w43 hw) (own_w34 hw) (ty := .int) (by decide) rfl rfl (hb hby d_keep0_26) N2 gn_ra 29 rfl (fun T3 h3 l3 X3 N3 e3 W3 => ?_)
  have FE_3 := FE_2.other W3 (Or.inl hne)
  have FA_3 := FA_2.other W3 (Or.inl hne)
  have E0_3 := E0_2.wr W3
  have F1_3 := F1_2.other W3 (Or.inr (slot_ne (Or.inl (own_w41 hw)) (Or.inl (own_w43 hw)) (by decide) (t := .int) (t' := .int) (by decide) (by decide)))
  have F2_3 := F2_2.same W3
  have K0_3 := K0_2.wr W3 (Or.inl (List.mem_of_getElem? (i := 0) rfl))
  exact own_retV X3 hx hret hlk (hb hby d_keep0_29) (by decide) (by decide) N3 e3 ⟨rfl, F1_3, F2_3, K0_3⟩
theorem d_minit_0 : decode prog_166_method_1_code 0 = .ok (.aload_n 0, 1) := by decide +kernel
theorem d_minit_1 : decode prog_166_method_1_code 1 = .ok (.invokespecial 1, 3) := by decide +kernel
theorem d_minit_4 : decode prog_166_method_1_code 4 = .ok (.aload_n 0, 1) := by decide +kernel
theorem d_minit_5 : decode prog_166_method_1_code 5 = .ok (.new 7, 3) := by decide +kernel
theorem d_minit_8 : decode prog_166_method_1_code 8 = .ok (.dup, 1) := by decide +kernel
theorem d_minit_9 : decode prog_166_method_1_code 9 = .ok (.invokespecial 9, 3) := by decide +kernel
theorem d_minit_12 : decode prog_166_method_1_code 12 = .ok (.putfield 10, 3) := by decide +kernel
theorem d_minit_15 : decode prog_166_method_1_code 15 = .ok (.aload_n 0, 1) := by decide +kernel
theorem d_minit_16 : decode prog_166_method_1_code 16 = .ok (.new 7, 3) := by decide +kernel
theorem d_minit_19 : decode prog_166_method_1_code 19 = .ok (.dup, 1) := by decide +kernel
theorem d_minit_20 : decode prog_166_method_1_code 20 = .ok (.invokespecial 9, 3) := by decide +kernel
theorem d_minit_23 : decode prog_166_method_1_code 23 = .ok (.putfield 16, 3) := by decide +kernel
theorem d_minit_26 : decode prog_166_method_1_code 26 = .ok (.aload_n 0, 1) := by decide +kernel
theorem d_minit_27 : decode prog_166_method_1_code 27 = .ok (.aload_n 1, 1) := by decide +kernel
theorem d_minit_28 : decode prog_166_method_1_code 28 = .ok (.putfield 19, 3) := by decide +kernel
theorem d_minit_31 : decode prog_166_method_1_code 31 = .ok (.aload_n 0, 1) := by decide +kernel
theorem d_minit_32 : decode prog_166_method_1_code 32 = .ok (.aload_n 1, 1) := by decide +kernel
theorem d_minit_33 : decode prog_166_method_1_code 33 = .ok (.bipush 58, 2) := by decide +kernel
theorem d_minit_35 : decode prog_166_method_1_code 35 = .ok (.invokevirtual 23, 3) := by decide +kernel
theorem d_minit_38 : decode prog_166_method_1_code 38 = .ok (.ifCond .lt 7, 3) := by decide +kernel
theorem d_minit_41 : decode prog_166_method_1_code 41 = .ok (.iconst 1, 1) := by decide +kernel
theorem d_minit_42 : decode prog_166_method_1_code 42 = .ok (.goto 4, 3) := by decide +kernel
theorem d_minit_45 : decode prog_166_method_1_code 45 = .ok (.iconst 0, 1) := by decide +kernel
theorem d_minit_46 : decode prog_166_method_1_code 46 = .ok (.putfield 29, 3) := by decide +kernel
theorem d_minit_49 : decode prog_166_method_1_code 49 = .ok (.aload_n 1, 1) := by decide +kernel
theorem d_minit_50 : decode prog_166_method_1_code 50 = .ok (.ldc 33, 2) := by decide +kernel
theorem d_minit_52 : decode prog_166_method_1_code 52 = .ok (.invokevirtual 35, 3) := by decide +kernel
theorem d_minit_55 : decode prog_166_method_1_code 55 = .ok (.ifCond .eq 12, 3) := by decide +kernel
theorem d_minit_67 : decode prog_166_method_1_code 67 = .ok (.aload_n 1, 1) := by decide +kernel
theorem d_minit_68 : decode prog_166_method_1_code 68 = .ok (.ldc 44, 2) := by decide +kernel
theorem d_minit_70 : decode prog_166_method_1_code 70 = .ok (.invokevirtual 46, 3) := by decide +kernel
theorem d_minit_73 : decode prog_166_method_1_code 73 = .ok (.ifCond .eq 16, 3) := by decide +kernel
theorem d_minit_89 : decode prog_166_method_1_code 89 = .ok (.aload_n 0, 1) := by decide +kernel
theorem d_minit_90 : decode prog_166_method_1_code 90 = .ok (.aconst_null, 1) := by decide +kernel
theorem d_minit_91 : decode prog_166_method_1_code 91 = .ok (.putfield 41, 3) := by decide +kernel
theorem d_minit_94 : decode prog_166_method_1_code 94 = .ok (.return_, 1) := by decide +kernel
theorem own_ef_minit (m : MethodId) (mm : Addr) (sa : Addr) : entryFrame m #[(.ref mm), (.ref sa)] 2 = mkF m 0 #[.val (.ref mm), .val (.ref sa)] [] := by first | (simp [entryFrame, mkF, argsToLocals, Value.category]; done) | rfl
set_option maxRecDepth 65536 in
set_option maxHeartbeats 40000000 in
theorem own_m_minit (l : Launch) (Z : State) (a0 : Array Value) (hw : ∀ d ∈ tables_1, d.before a0 Z = true) (h0 : Heap) (n0 : Nat) {mm : Addr} (E0 : Exa Z h0 mm "com/example/xqwry/xqwry/MarkupName") (F_lexicalName : Fld Z h0 mm "com/example/xqwry/xqwry/MarkupName" "lexicalName" "Ljava/lang/String;" .null) (F_prefixed : Fld Z h0 mm "com/example/xqwry/xqwry/MarkupName" "prefixed" "Z" (.int 0)) (F_declaredPrefix : Fld Z h0 mm "com/example/xqwry/xqwry/MarkupName" "declaredPrefix" "Ljava/lang/String;" .null) (F_asElement : Fld Z h0 mm "com/example/xqwry/xqwry/MarkupName" "asElement" "Lcom/example/xqwry/xqwry/MarkupName$Resolution;" .null) (F_asAttribute : Fld Z h0 mm "com/example/xqwry/xqwry/MarkupName" "asAttribute" "Lcom/example/xqwry/xqwry/MarkupName$Resolution;" .null) {sa sb : Addr} {f : Nat → Int32} (E : Exa Z h0 sa "java/lang/String") (C : Fld Z h0 sa "java/lang/String" "coder" "B" (.int 0)) (V : Fld Z h0 sa "java/lang/String" "value" "[B" (.ref sb)) (A : own_A Z h0 sb .byte 1 f) (gn_mm : n0 ≤ mm) (gn_sa : n0 ≤ sa) (o_mm_sa : mm < sa) (o_sa_sb : sa < sb) (o_mm_sb : mm < sb) (Z0 : n0 ≤ h0.size) (O0 : Old Z n0 h0) (wS : ∀ a ∈ Bundle.stringAtoms, a.before a0 Z = true) (hH33 : Jvm.Lit.constHeld Z "com/example/xqwry/xqwry/MarkupName" 33) (hH44 : Jvm.Lit.constHeld Z "com/example/xqwry/xqwry/MarkupName" 44) (hcw : Jvm.Lit.compactW.before a0 Z = true) {cz : Int32} (hcz : ¬ cz = 0) (SC0 : Sta Z Z.heap "java/lang/String" "COMPACT_STRINGS" "Z" (.int cz)) : own_MetS l Z ⟨"com/example/xqwry/xqwry/MarkupName", "<init>", "(Ljava/lang/String;)V"⟩ prog_166_method_1_code 2 none [] ({ frames := 4, cells := 6, slots := 56, locals := 60 } : Room) #[(.ref mm), (.ref sa)] h0 n0 (fun v h => v = none ∧ ∃ re ra, Fld Z h mm "com/example/xqwry/xqwry/MarkupName" "asElement" "Lcom/example/xqwry/xqwry/MarkupName$Resolution;" (.ref re) ∧ Fld Z h mm "com/example/xqwry/xqwry/MarkupName" "asAttribute" "Lcom/example/xqwry/xqwry/MarkupName$Resolution;" (.ref ra) ∧ Exa Z h re "com/example/xqwry/xqwry/MarkupName$Resolution" ∧ Exa Z h ra "com/example/xqwry/xqwry/MarkupName$Resolution" ∧ Fld Z h re "com/example/xqwry/xqwry/MarkupName$Resolution" "name" "I" (.int (-1)) ∧ Fld Z h re "com/example/xqwry/xqwry/MarkupName$Resolution" "namespaceChanges" "I" (.int (-1)) ∧ Fld Z h ra "com/example/xqwry/xqwry/MarkupName$Resolution" "name" "I" (.int (-1)) ∧ Fld Z h ra "com/example/xqwry/xqwry/MarkupName$Resolution" "namespaceChanges" "I" (.int (-1)) ∧ own_lt mm re ∧ own_lt re ra ∧ Keep h0 h [mm]) := by
  refine own_bodyS (plainFor_of_name own_pn_MarkupName) ?_
  intro p e s m below meth c T0 X0 hx hby hml hown hnm hZ hZH hS I e0 hret hlk
  have N0 := Fr.nil n0
  have K0 : Keep h0 h0 [mm] := Keep.refl _ _
  have H0 : 0 ≤ h0.size := Nat.zero_le _
  refine own_cast (own_ef_minit m mm sa) ?_
  refine own_aloadN X0 hx (hb hby d_minit_0) rfl rfl 1 rfl ?_
  refine own_initO X0 hx hZ hown (own_w32 hw) (own_w23 hw) (own_w24 hw) e0 (by rw [hml]; rfl) (hb hby d_minit_1) 0 (by decide) (Nat.le_of_eq rfl) (by decide) 4 rfl (fun T1 X1 e1 => ?_)
  refine own_aloadN X1 hx (hb hby d_minit_4) rfl rfl 5 rfl ?_
  refine own_newO X1 hx hZ hown (own_w33 hw) (own_w34 hw) (own_w35 hw) e1 (hb hby d_minit_5) (by decide) (by decide) 8 rfl (fun T2 h2 re g2 X2 e2 E2 B2 D2 => ?_)
  have o_mm_re : mm < re := Nat.lt_of_lt_of_eq E0.lt g2.symm
  have o_sa_re : sa < re := Nat.lt_of_lt_of_eq E.lt g2.symm
  have o_sb_re : sb < re := Nat.lt_of_lt_of_eq A.lt g2.symm
  have gn_re : n0 ≤ re := Nat.le_trans Z0 (Nat.le_of_eq g2.symm)
  have sz_re : h0.size ≤ re := Nat.le_trans K0.1 (Nat.le_of_eq g2.symm)
  have E0_2 := E0.ext E2
  have K0_2 := K0.ext E2
  have Z0_2 := Nat.le_trans Z0 E2.1
  have O0_2 := O0.ext E2
  have F_lexicalName_2 := F_lexicalName.ext E2
  have F_prefixed_2 := F_prefixed.ext E2
  have F_declaredPrefix_2 := F_declaredPrefix.ext E2
  have F_asElement_2 := F_asElement.ext E2
  have F_asAttribute_2 := F_asAttribute.ext E2
  have E_2 := E.ext E2
  have C_2 := C.ext E2
  have V_2 := V.ext E2
  have A_2 := A.ext E2
  have H0_2 := Nat.le_trans H0 E2.1
  have F_name_re_2 : Fld Z h2 re "com/example/xqwry/xqwry/MarkupName$Resolution" "name" "I" (.int (0 : Int32)) := D2 (Or.inl (own_w41 hw)) (ty := .int) (by decide)
  have F_namespaceChanges_re_2 : Fld Z h2 re "com/example/xqwry/xqwry/MarkupName$Resolution" "namespaceChanges" "I" (.int (0 : Int32)) := D2 (Or.inl (own_w43 hw)) (ty := .int) (by decide)
  refine own_dup X2 hx (hb hby d_minit_8) rfl 9 rfl ?_
  refine own_callIR X2 hx hZ hown rfl (own_w36 hw) (own_w37 hw) (own_w35 hw) (own_w38 hw) (by decide) 2 (own_m_rinit l Z a0 hw _ n0 B2 F_name_re_2 F_namespaceChanges_re_2 gn_re) e2 (by rw [hml]; rfl) re [] [(.ref re), (.ref mm)] rfl (lenOf own_pd_11 rfl) rfl (Nat.le_of_eq rfl) (by decide) (by decide) (by decide) (by decide) (hb hby d_minit_9) N0 12 rfl (fun v3 T3 l3 X3 N3 hP3 => ?_)
  obtain ⟨rfl, Fn3, Fc3, K3'⟩ := hP3
  have E0_3 := E0_2.keep K3'
  have K0_3 := K0_2.trans K3' (allS (Or.inr sz_re) all0)
  have Z0_3 := Nat.le_trans Z0_2 K3'.1
  have O0_3 := O0_2.keep K3' (allS gn_re all0)
  have F_lexicalName_3 := F_lexicalName_2.keep K3' (ninS (Nat.ne_of_lt o_mm_re) nin0)
  have F_prefixed_3 := F_prefixed_2.keep K3' (ninS (Nat.ne_of_lt o_mm_re) nin0)
  have F_declaredPrefix_3 := F_declaredPrefix_2.keep K3' (ninS (Nat.ne_of_lt o_mm_re) nin0)
  have F_asElement_3 := F_asElement_2.keep K3' (ninS (Nat.ne_of_lt o_mm_re) nin0)
  have F_asAttribute_3 := F_asAttribute_2.keep K3' (ninS (Nat.ne_of_lt o_mm_re) nin0)
  have E_3 := E_2.keep K3'
  have C_3 := C_2.keep K3' (ninS (Nat.ne_of_lt o_sa_re) nin0)
  have V_3 := V_2.keep K3' (ninS (Nat.ne_of_lt o_sa_re) nin0)
  have A_3 := A_2.keep K3' (ninS (Nat.ne_of_lt o_sb_re) nin0)
  have H0_3 := Nat.le_trans H0_2 K3'.1
  have B2_3 := B2.keep K3'
  show own_G p e below _ (T3.setTop (mkF m 12 #[.val (.ref mm), .val (.ref sa)] [(.ref re), (.ref mm)]))
  refine own_putF X3 hx hZ hown (own_w44 hw) rfl F_asElement_3 E0_3 (Or.inr ⟨(own_w45 hw), rfl, hnm⟩) (own_w1 hw) (ty := (.object "com/example/xqwry/xqwry/MarkupName$Resolution")) (by decide) rfl rfl (hb hby d_minit_12) N3 gn_mm 15 rfl (fun T4 h4 l4 X4 N4 e4 W4 => ?_)
  have E0_4 := E0_3.wr W4
  have K0_4 := K0_3.wr W4 (Or.inl (List.mem_of_getElem? (i := 0) rfl))
  have Z0_4 := Nat.le_trans Z0_3 (Nat.le_of_eq W4.size.symm)
  have O0_4 := O0_3.wr W4 gn_mm
  have F_lexicalName_4 := F_lexicalName_3.other W4 (Or.inr (slot_ne (Or.inr (own_w49 hw)) (Or.inr (own_w45 hw)) (by decide) (t := (.object "java/lang/String")) (t' := (.object "com/example/xqwry/xqwry/MarkupName$Resolution")) (by decide) (by decide)))
  have F_prefixed_4 := F_prefixed_3.other W4 (Or.inr (slot_ne (Or.inr (own_w92 hw)) (Or.inr (own_w45 hw)) (by decide) (t := .boolean) (t' := (.object "com/example/xqwry/xqwry/MarkupName$Resolution")) (by decide) (by decide)))
  have F_declaredPrefix_4 := F_declaredPrefix_3.other W4 (Or.inr (slot_ne (Or.inr (own_w116 hw)) (Or.inr (own_w45 hw)) (by decide) (t := (.object "java/lang/String")) (t' := (.object "com/example/xqwry/xqwry/MarkupName$Resolution")) (by decide) (by decide)))
  have F_asElement_4 := F_asElement_3.same W4
  have F_asAttribute_4 := F_asAttribute_3.other W4 (Or.inr (slot_ne (Or.inr (own_w47 hw)) (Or.inr (own_w45 hw)) (by decide) (t := (.object "com/example/xqwry/xqwry/MarkupName$Resolution")) (t' := (.object "com/example/xqwry/xqwry/MarkupName$Resolution")) (by decide) (by decide)))
  have E_4 := E_3.wr W4
  have C_4 := C_3.other W4 (Or.inl (Nat.ne_of_gt o_mm_sa))
  have V_4 := V_3.other W4 (Or.inl (Nat.ne_of_gt o_mm_sa))
  have A_4 := A_3.other W4 (Nat.ne_of_gt o_mm_sb)
  have H0_4 := Nat.le_trans H0_3 (Nat.le_of_eq W4.size.symm)
  have B2_4 := B2_3.wr W4
  have Fn3_4 := Fn3.other W4 (Or.inl (Nat.ne_of_gt o_mm_re))
  have Fc3_4 := Fc3.other W4 (Or.inl (Nat.ne_of_gt o_mm_re))
  refine own_aloadN X4 hx (hb hby d_minit_15) rfl rfl 16 rfl ?_
  refine own_newO X4 hx hZ hown (own_w33 hw) (own_w34 hw) (own_w35 hw) e4 (hb hby d_minit_16) (by decide) (by decide) 19 rfl (fun T5 h5 ra g5 X5 e5 E5 B5 D5 => ?_)
  have o_mm_ra : mm < ra := Nat.lt_of_lt_of_eq E0_4.lt g5.symm
  have o_sa_ra : sa < ra := Nat.lt_of_lt_of_eq E_4.lt g5.symm
  have o_sb_ra : sb < ra := Nat.lt_of_lt_of_eq A_4.lt g5.symm
  have o_re_ra : re < ra := Nat.lt_of_lt_of_eq B2_4.lt g5.symm
  have gn_ra : n0 ≤ ra := Nat.le_trans Z0_4 (Nat.le_of_eq g5.symm)
  have sz_ra : h0.size ≤ ra := Nat.le_trans K0_4.1 (Nat.le_of_eq g5.symm)
  have E0_5 := E0_4.ext E5
  have K0_5 := K0_4.ext E5
  have Z0_5 := Nat.le_trans Z0_4 E5.1
  have O0_5 := O0_4.ext E5
  have F_lexicalName_5 := F_lexicalName_4.ext E5
  have F_prefixed_5 := F_prefixed_4.ext E5
  have F_declaredPrefix_5 := F_declaredPrefix_4.ext E5
  have F_asElement_5 := F_asElement_4.ext E5
  have F_asAttribute_5 := F_asAttribute_4.ext E5
  have E_5 := E_4.ext E5
  have C_5 := C_4.ext E5
  have V_5 := V_4.ext E5
  have A_5 := A_4.ext E5
  have H0_5 := Nat.le_trans H0_4 E5.1
  have B2_5 := B2_4.ext E5
  have Fn3_5 := Fn3_4.ext E5
  have Fc3_5 := Fc3_4.ext E5
  have F_name_ra_5 : Fld Z h5 ra "com/example/xqwry/xqwry/MarkupName$Resolution" "name" "I" (.int (0 : Int32)) := D5 (Or.inl (own_w41 hw)) (ty := .int) (by decide)
  have F_namespaceChanges_ra_5 : Fld Z h5 ra "com/example/xqwry/xqwry/MarkupName$Resolution" "namespaceChanges" "I" (.int (0 : Int32)) := D5 (Or.inl (own_w43 hw)) (ty := .int) (by decide)
  refine own_dup X5 hx (hb hby d_minit_19) rfl 20 rfl ?_
  refine own_callIR X5 hx hZ hown rfl (own_w36 hw) (own_w37 hw) (own_w35 hw) (own_w38 hw) (by decide) 2 (own_m_rinit l Z a0 hw _ n0 B5 F_name_ra_5 F_namespaceChanges_ra_5 gn_ra) e5 (by rw [hml]; rfl) ra [] [(.ref ra), (.ref mm)] rfl (lenOf own_pd_11 rfl) rfl (Nat.le_of_eq rfl) (by decide) (by decide) (by decide) (by decide) (hb hby d_minit_20) N4 23 rfl (fun v6 T6 l6 X6 N6 hP6 => ?_)
  obtain ⟨rfl, Fn6, Fc6, K6'⟩ := hP6
  have E0_6 := E0_5.keep K6'
  have K0_6 := K0_5.trans K6' (allS (Or.inr sz_ra) all0)
  have Z0_6 := Nat.le_trans Z0_5 K6'.1
  have O0_6 := O0_5.keep K6' (allS gn_ra all0)
  have F_lexicalName_6 := F_lexicalName_5.keep K6' (ninS (Nat.ne_of_lt o_mm_ra) nin0)
  have F_prefixed_6 := F_prefixed_5.keep K6' (ninS (Nat.ne_of_lt o_mm_ra) nin0)
  have F_declaredPrefix_6 := F_declaredPrefix_5.keep K6' (ninS (Nat.ne_of_lt o_mm_ra) nin0)
  have F_asElement_6 := F_asElement_5.keep K6' (ninS (Nat.ne_of_lt o_mm_ra) nin0)
  have F_asAttribute_6 := F_asAttribute_5.keep K6' (ninS (Nat.ne_of_lt o_mm_ra) nin0)
  have E_6 := E_5.keep K6'
  have C_6 := C_5.keep K6' (ninS (Nat.ne_of_lt o_sa_ra) nin0)
  have V_6 := V_5.keep K6' (ninS (Nat.ne_of_lt o_sa_ra) nin0)
  have A_6 := A_5.keep K6' (ninS (Nat.ne_of_lt o_sb_ra) nin0)
  have H0_6 := Nat.le_trans H0_5 K6'.1
  have B2_6 := B2_5.keep K6'
  have Fn3_6 := Fn3_5.keep K6' (ninS (Nat.ne_of_lt o_re_ra) nin0)
  have Fc3_6 := Fc3_5.keep K6' (ninS (Nat.ne_of_lt o_re_ra) nin0)
  have B5_6 := B5.keep K6'
  show own_G p e below _ (T6.setTop (mkF m 23 #[.val (.ref mm), .val (.ref sa)] [(.ref ra), (.ref mm)]))
  refine own_putF X6 hx hZ hown (own_w46 hw) rfl F_asAttribute_6 E0_6 (Or.inr ⟨(own_w47 hw), rfl, hnm⟩) (own_w1 hw) (ty := (.object "com/example/xqwry/xqwry/MarkupName$Resolution")) (by decide) rfl rfl (hb hby d_minit_23) N6 gn_mm 26 rfl (fun T7 h7 l7 X7 N7 e7 W7 => ?_)
  have E0_7 := E0_6.wr W7
  have K0_7 := K0_6.wr W7 (Or.inl (List.mem_of_getElem? (i := 0) rfl))
  have Z0_7 := Nat.le_trans Z0_6 (Nat.le_of_eq W7.size.symm)
  have O0_7 := O0_6.wr W7 gn_mm
  have F_lexicalName_7 := F_lexicalName_6.other W7 (Or.inr (slot_ne (Or.inr (own_w49 hw)) (Or.inr (own_w47 hw)) (by decide) (t := (.object "java/lang/String")) (t' := (.object "com/example/xqwry/xqwry/MarkupName$Resolution")) (by decide) (by decide)))
  have F_prefixed_7 := F_prefixed_6.other W7 (Or.inr (slot_ne (Or.inr (own_w92 hw)) (Or.inr (own_w47 hw)) (by decide) (t := .boolean) (t' := (.object "com/example/xqwry/xqwry/MarkupName$Resolution")) (by decide) (by decide)))
  have F_declaredPrefix_7 := F_declaredPrefix_6.other W7 (Or.inr (slot_ne (Or.inr (own_w116 hw)) (Or.inr (own_w47 hw)) (by decide) (t := (.object "java/lang/String")) (t' := (.object "com/example/xqwry/xqwry/MarkupName$Resolution")) (by decide) (by decide)))
  have F_asElement_7 := F_asElement_6.other W7 (Or.inr (slot_ne (Or.inr (own_w45 hw)) (Or.inr (own_w47 hw)) (by decide) (t := (.object "com/example/xqwry/xqwry/MarkupName$Resolution")) (t' := (.object "com/example/xqwry/xqwry/MarkupName$Resolution")) (by decide) (by decide)))
  have F_asAttribute_7 := F_asAttribute_6.same W7
  have E_7 := E_6.wr W7
  have C_7 := C_6.other W7 (Or.inl (Nat.ne_of_gt o_mm_sa))
  have V_7 := V_6.other W7 (Or.inl (Nat.ne_of_gt o_mm_sa))
  have A_7 := A_6.other W7 (Nat.ne_of_gt o_mm_sb)
  have H0_7 := Nat.le_trans H0_6 (Nat.le_of_eq W7.size.symm)
  have B2_7 := B2_6.wr W7
  have Fn3_7 := Fn3_6.other W7 (Or.inl (Nat.ne_of_gt o_mm_re))
  have Fc3_7 := Fc3_6.other W7 (Or.inl (Nat.ne_of_gt o_mm_re))
  have B5_7 := B5_6.wr W7
  have Fn6_7 := Fn6.other W7 (Or.inl (Nat.ne_of_gt o_mm_ra))
  have Fc6_7 := Fc6.other W7 (Or.inl (Nat.ne_of_gt o_mm_ra))
  refine own_aloadN X7 hx (hb hby d_minit_26) rfl rfl 27 rfl ?_
  refine own_aloadN X7 hx (hb hby d_minit_27) rfl rfl 28 rfl ?_
  refine own_putF X7 hx hZ hown (own_w48 hw) e7 F_lexicalName_7 E0_7 (Or.inr ⟨(own_w49 hw), rfl, hnm⟩) (own_w1 hw) (ty := (.object "java/lang/String")) (by decide) rfl rfl (hb hby d_minit_28) N7 gn_mm 31 rfl (fun T8 h8 l8 X8 N8 e8 W8 => ?_)
  have E0_8 := E0_7.wr W8
  have K0_8 := K0_7.wr W8 (Or.inl (List.mem_of_getElem? (i := 0) rfl))
  have Z0_8 := Nat.le_trans Z0_7 (Nat.le_of_eq W8.size.symm)
  have O0_8 := O0_7.wr W8 gn_mm
  have F_lexicalName_8 := F_lexicalName_7.same W8
  have F_prefixed_8 := F_prefixed_7.other W8 (Or.inr (slot_ne (Or.inr (own_w92 hw)) (Or.inr (own_w49 hw)) (by decide) (t := .boolean) (t' := (.object "java/lang/String")) (by decide) (by decide)))
  have F_declaredPrefix_8 := F_declaredPrefix_7.other W8 (Or.inr (slot_ne (Or.inr (own_w116 hw)) (Or.inr (own_w49 hw)) (by decide) (t := (.object "java/lang/String")) (t' := (.object "java/lang/String")) (by decide) (by decide)))
  have F_asElement_8 := F_asElement_7.other W8 (Or.inr (slot_ne (Or.inr (own_w45 hw)) (Or.inr (own_w49 hw)) (by decide) (t := (.object "com/example/xqwry/xqwry/MarkupName$Resolution")) (t' := (.object "java/lang/String")) (by decide) (by decide)))
  have F_asAttribute_8 := F_asAttribute_7.other W8 (Or.inr (slot_ne (Or.inr (own_w47 hw)) (Or.inr (own_w49 hw)) (by decide) (t := (.object "com/example/xqwry/xqwry/MarkupName$Resolution")) (t' := (.object "java/lang/String")) (by decide) (by decide)))
  have E_8 := E_7.wr W8
  have C_8 := C_7.other W8 (Or.inl (Nat.ne_of_gt o_mm_sa))
  have V_8 := V_7.other W8 (Or.inl (Nat.ne_of_gt o_mm_sa))
  have A_8 := A_7.other W8 (Nat.ne_of_gt o_mm_sb)
  have H0_8 := Nat.le_trans H0_7 (Nat.le_of_eq W8.size.symm)
  have B2_8 := B2_7.wr W8
  have Fn3_8 := Fn3_7.other W8 (Or.inl (Nat.ne_of_gt o_mm_re))
  have Fc3_8 := Fc3_7.other W8 (Or.inl (Nat.ne_of_gt o_mm_re))
  have B5_8 := B5_7.wr W8
  have Fn6_8 := Fn6_7.other W8 (Or.inl (Nat.ne_of_gt o_mm_ra))
  have Fc6_8 := Fc6_7.other W8 (Or.inl (Nat.ne_of_gt o_mm_ra))
  refine own_aloadN X8 hx (hb hby d_minit_31) rfl rfl 32 rfl ?_
  refine own_aloadN X8 hx (hb hby d_minit_32) rfl rfl 33 rfl ?_
  refine own_bipush X8 hx (z := (58 : Int32)) (hb hby d_minit_33) rfl 35 rfl ?_
  refine own_callV X8 hx hZ hown (own_w50 hw) (own_w51 hw) (own_w53 hw) (own_w52 hw) (own_w5 hw) (own_w54 hw) (by decide) 1 (own_m_si1 l Z a0 hw _ n0 E_8 C_8 V_8 A_8 hcz (SC0.ext O0_8.2)) e8 E_8 (by rw [hml]; rfl) [(.int (58 : Int32))] [(.ref mm)] rfl (lenOf own_pd_12 rfl) rfl (Nat.le_of_eq rfl) (by decide) (by decide) (by decide) (by decide) (hb hby d_minit_35) N8 38 rfl (fun v9 T9 l9 X9 N9 hP9 => ?_)
  obtain ⟨r9, rfl, e9⟩ := hP9
  show own_G p e below _ (T9.setTop (mkF m 38 #[.val (.ref mm), .val (.ref sa)] [(.int r9), (.ref mm)]))
  by_cases hc10 : r9 < (0 : Int32)
  · refine own_ifcT X9 hx (hb hby d_minit_38) (tlt hc10).1 45 (by decide) (by decide) ?_
    refine own_iconst X9 hx (z := (0 : Int32)) (hb hby d_minit_45) rfl 46 rfl ?_
    refine own_putFN X9 hx hZ hown (own_w91 hw) e9 F_prefixed_8 E0_8 (Or.inr ⟨(own_w92 hw), rfl, hnm⟩) (own_w1 hw) (ty := .boolean) (v' := (.int (0 : Int32))) (by decide) rfl rfl (hb hby d_minit_46) N9 gn_mm 49 rfl (fun T11 h11 l11 X11 N11 e11 W11 => ?_)
    have E0_11 := E0_8.wr W11
    have K0_11 := K0_8.wr W11 (Or.inl (List.mem_of_getElem? (i := 0) rfl))
    have Z0_11 := Nat.le_trans Z0_8 (Nat.le_of_eq W11.size.symm)
    have O0_11 := O0_8.wr W11 gn_mm
    have F_lexicalName_11 := F_lexicalName_8.other W11 (Or.inr (slot_ne (Or.inr (own_w49 hw)) (Or.inr (own_w92 hw)) (by decide) (t := (.object "java/lang/String")) (t' := .boolean) (by decide) (by decide)))
    have F_prefixed_11 := F_prefixed_8.same W11
    have F_declaredPrefix_11 := F_declaredPrefix_8.other W11 (Or.inr (slot_ne (Or.inr (own_w116 hw)) (Or.inr (own_w92 hw)) (by decide) (t := (.object "java/lang/String")) (t' := .boolean) (by decide) (by decide)))
    have F_asElement_11 := F_asElement_8.other W11 (Or.inr (slot_ne (Or.inr (own_w45 hw)) (Or.inr (own_w92 hw)) (by decide) (t := (.object "com/example/xqwry/xqwry/MarkupName$Resolution")) (t' := .boolean) (by decide) (by decide)))
    have F_asAttribute_11 := F_asAttribute_8.other W11 (Or.inr (slot_ne (Or.inr (own_w47 hw)) (Or.inr (own_w92 hw)) (by decide) (t := (.object "com/example/xqwry/xqwry/MarkupName$Resolution")) (t' := .boolean) (by decide) (by decide)))
    have E_11 := E_8.wr W11
    have C_11 := C_8.other W11 (Or.inl (Nat.ne_of_gt o_mm_sa))
    have V_11 := V_8.other W11 (Or.inl (Nat.ne_of_gt o_mm_sa))
    have A_11 := A_8.other W11 (Nat.ne_of_gt o_mm_sb)
    have H0_11 := Nat.le_trans H0_8 (Nat.le_of_eq W11.size.symm)
    have B2_11 := B2_8.wr W11
    have Fn3_11 := Fn3_8.other W11 (Or.inl (Nat.ne_of_gt o_mm_re))
    have Fc3_11 := Fc3_8.other W11 (Or.inl (Nat.ne_of_gt o_mm_re))
    have B5_11 := B5_8.wr W11
    have Fn6_11 := Fn6_8.other W11 (Or.inl (Nat.ne_of_gt o_mm_ra))
    have Fc6_11 := Fc6_8.other W11 (Or.inl (Nat.ne_of_gt o_mm_ra))
    refine own_aloadN X11 hx (hb hby d_minit_49) rfl rfl 50 rfl ?_
    refine own_ldcS X11 hx hZ hown (own_w93 hw) wS e11 hS H0_11 O0_11 I (by decide) hH33 hcw (by decide +kernel) (hb hby d_minit_50) (n := 20) (by decide +kernel) (by decide) (by decide) (by decide) 52 rfl (fun k12 kb12 f12 T12 h12 X12 e12 E12 hS hZ hown I far12 B12 C12 V12 A12 => ?_)
    have ne_sa_k12 : sa ≠ k12 := own_far far12 gn_sa E_11.lt
    have E0_12 := E0_11.ext E12
    have K0_12 := K0_11.ext E12
    have Z0_12 := Nat.le_trans Z0_11 E12.1
    have O0_12 := O0_11.ext E12
    have F_lexicalName_12 := F_lexicalName_11.ext E12
    have F_prefixed_12 := F_prefixed_11.ext E12
    have F_declaredPrefix_12 := F_declaredPrefix_11.ext E12
    have F_asElement_12 := F_asElement_11.ext E12
    have F_asAttribute_12 := F_asAttribute_11.ext E12
    have E_12 := E_11.ext E12
    have C_12 := C_11.ext E12
    have V_12 := V_11.ext E12
    have A_12 := A_11.ext E12
    have H0_12 := Nat.le_trans H0_11 E12.1
    have B2_12 := B2_11.ext E12
    have Fn3_12 := Fn3_11.ext E12
    have Fc3_12 := Fc3_11.ext E12
    have B5_12 := B5_11.ext E12
    have Fn6_12 := Fn6_11.ext E12
    have Fc6_12 := Fc6_11.ext E12
    have Hk12 := Nat.le_refl h12.size
    replace A12 : own_A Z h12 kb12 .byte 5 f12 := own_An (by decide +kernel) A12
    refine own_callV X12 hx hZ hown (own_w96 hw) (own_w97 hw) (own_w99 hw) (own_w98 hw) (own_w5 hw) (own_w100 hw) (by decide) 0 (own_m_seq l Z a0 hw _ n0 E_12 C_12 V_12 A_12 B12 C12 V12 A12 ne_sa_k12 hcz (SC0.ext O0_12.2)) e12 E_12 (by rw [hml]; rfl) [(.ref k12)] [] rfl (lenOf own_pd_13 rfl) rfl (Nat.le_of_eq rfl) (by decide) (by decide) (by decide) (by decide) (hb hby d_minit_52) N11 55 rfl (fun v13 T13 l13 X13 N13 hP13 => ?_)
    obtain ⟨rfl, e13⟩ := hP13
    show own_G p e below _ (T13.setTop (mkF m 55 #[.val (.ref mm), .val (.ref sa)] [(.int (0 : Int32))]))
    refine own_ifcT X13 hx (hb hby d_minit_55) (teq (by decide)).1 67 (by decide) (by decide) ?_
    refine own_aloadN X13 hx (hb hby d_minit_67) rfl rfl 68 rfl ?_
    refine own_ldcS X13 hx hZ hown (own_w104 hw) wS e13 hS Hk12 O0_12 I (by decide) hH44 hcw (by decide +kernel) (hb hby d_minit_68) (n := 24) (by decide +kernel) (by decide) (by decide) (by decide) 70 rfl (fun k14 kb14 f14 T14 h14 X14 e14 E14 hS hZ hown I far14 B14 C14 V14 A14 => ?_)
    have ne_sa_k14 : sa ≠ k14 := own_far far14 gn_sa E_12.lt
    have E0_14 := E0_12.ext E14
    have K0_14 := K0_12.ext E14
    have Z0_14 := Nat.le_trans Z0_12 E14.1
    have O0_14 := O0_12.ext E14
    have F_lexicalName_14 := F_lexicalName_12.ext E14
    have F_prefixed_14 := F_prefixed_12.ext E14
    have F_declaredPrefix_14 := F_declaredPrefix_12.ext E14
    have F_asElement_14 := F_asElement_12.ext E14
    have F_asAttribute_14 := F_asAttribute_12.ext E14
    have E_14 := E_12.ext E14
    have C_14 := C_12.ext E14
    have V_14 := V_12.ext E14
    have A_14 := A_12.ext E14
    have Hk12_14 := Nat.le_trans Hk12 E14.1
    have B2_14 := B2_12.ext E14
    have Fn3_14 := Fn3_12.ext E14
    have Fc3_14 := Fc3_12.ext E14
    have B5_14 := B5_12.ext E14
    have Fn6_14 := Fn6_12.ext E14
    have Fc6_14 := Fc6_12.ext E14
    have Hk14 := Nat.le_refl h14.size
    replace A14 : own_A Z h14 kb14 .byte 6 f14 := own_An (by decide +kernel) A14
    refine own_callV X14 hx hZ hown (own_w105 hw) (own_w106 hw) (own_w108 hw) (own_w107 hw) (own_w5 hw) (own_w109 hw) (by decide) 0 (own_m_sw1 l Z a0 hw _ n0 E_14 C_14 V_14 A_14 B14 C14 V14 A14 hcz (SC0.ext O0_14.2)) e14 E_14 (by rw [hml]; rfl) [(.ref k14)] [] rfl (lenOf own_pd_14 rfl) rfl (Nat.le_of_eq rfl) (by decide) (by decide) (by decide) (by decide) (hb hby d_minit_70) N13 73 rfl (fun v15 T15 l15 X15 N15 hP15 => ?_)
    obtain ⟨rfl, e15⟩ := hP15
    show own_G p e below _ (T15.setTop (mkF m 73 #[.val (.ref mm), .val (.ref sa)] [(.int (0 : Int32))]))
    refine own_ifcT X15 hx (hb hby d_minit_73) (teq (by decide)).1 89 (by decide) (by decide) ?_
    refine own_aloadN X15 hx (hb hby d_minit_89) rfl rfl 90 rfl ?_
    refine own_aconstNull X15 hx (hb hby d_minit_90) 91 rfl ?_
    refine own_putF X15 hx hZ hown (own_w115 hw) e15 F_declaredPrefix_14 E0_14 (Or.inr ⟨(own_w116 hw), rfl, hnm⟩) (own_w1 hw) (ty := (.object "java/lang/String")) (by decide) rfl rfl (hb hby d_minit_91) N15 gn_mm 94 rfl (fun T16 h16 l16 X16 N16 e16 W16 => ?_)
    have E0_16 := E0_14.wr W16
    have K0_16 := K0_14.wr W16 (Or.inl (List.mem_of_getElem? (i := 0) rfl))
    have Z0_16 := Nat.le_trans Z0_14 (Nat.le_of_eq W16.size.symm)
    have O0_16 := O0_14.wr W16 gn_mm
    have F_lexicalName_16 := F_lexicalName_14.other W16 (Or.inr (slot_ne (Or.inr (own_w49 hw)) (Or.inr (own_w116 hw)) (by decide) (t := (.object "java/lang/String")) (t' := (.object "java/lang/String")) (by decide) (by decide)))
    have F_prefixed_16 := F_prefixed_14.other W16 (Or.inr (slot_ne (Or.inr (own_w92 hw)) (Or.inr (own_w116 hw)) (by decide) (t := .boolean) (t' := (.object "java/lang/String")) (by decide) (by decide)))
    have F_declaredPrefix_16 := F_declaredPrefix_14.same W16
    have F_asElement_16 := F_asElement_14.other W16 (Or.inr (slot_ne (Or.inr (own_w45 hw)) (Or.inr (own_w116 hw)) (by decide) (t := (.object "com/example/xqwry/xqwry/MarkupName$Resolution")) (t' := (.object "java/lang/String")) (by decide) (by decide)))
    have F_asAttribute_16 := F_asAttribute_14.other W16 (Or.inr (slot_ne (Or.inr (own_w47 hw)) (Or.inr (own_w116 hw)) (by decide) (t := (.object "com/example/xqwry/xqwry/MarkupName$Resolution")) (t' := (.object "java/lang/String")) (by decide) (by decide)))
    have E_16 := E_14.wr W16
    have C_16 := C_14.other W16 (Or.inl (Nat.ne_of_gt o_mm_sa))
    have V_16 := V_14.other W16 (Or.inl (Nat.ne_of_gt o_mm_sa))
    have A_16 := A_14.other W16 (Nat.ne_of_gt o_mm_sb)
    have Hk14_16 := Nat.le_trans Hk14 (Nat.le_of_eq W16.size.symm)
    have B2_16 := B2_14.wr W16
    have Fn3_16 := Fn3_14.other W16 (Or.inl (Nat.ne_of_gt o_mm_re))
    have Fc3_16 := Fc3_14.other W16 (Or.inl (Nat.ne_of_gt o_mm_re))
    have B5_16 := B5_14.wr W16
    have Fn6_16 := Fn6_14.other W16 (Or.inl (Nat.ne_of_gt o_mm_ra))
    have Fc6_16 := Fc6_14.other W16 (Or.inl (Nat.ne_of_gt o_mm_ra))
    exact own_retVS X16 hx hS hret hlk (hb hby d_minit_94) (by decide) (by decide) N16 e16 Hk14_16 ⟨rfl, re, ra, F_asElement_16, F_asAttribute_16, B2_16, B5_16, Fn3_16, Fc3_16, Fn6_16, Fc6_16, o_mm_re, o_re_ra, K0_16⟩
  · refine own_ifcF X9 hx (hb hby d_minit_38) (flt hc10).1 41 rfl ?_
    refine own_iconst X9 hx (z := (1 : Int32)) (hb hby d_minit_41) rfl 42 rfl ?_
    refine own_goto X9 hx (hb hby d_minit_42) 46 (by decide) (by decide) ?_
    refine own_putFN X9 hx hZ hown (own_w91 hw) e9 F_prefixed_8 E0_8 (Or.inr ⟨(own_w92 hw), rfl, hnm⟩) (own_w1 hw) (ty := .boolean) (v' := (.int (1 : Int32))) (by decide) rfl rfl (hb hby d_minit_46) N9 gn_mm 49 rfl (fun T17 h17 l17 X17 N17 e17 W17 => ?_)
    have E0_17 := E0_8.wr W17
    have K0_17 := K0_8.wr W17 (Or.inl (List.mem_of_getElem? (i := 0) rfl))
    have Z0_17 := Nat.le_trans Z0_8 (Nat.le_of_eq W17.size.symm)
    have O0_17 := O0_8.wr W17 gn_mm
    have F_lexicalName_17 := F_lexicalName_8.other W17 (Or.inr (slot_ne (Or.inr (own_w49 hw)) (Or.inr (own_w92 hw)) (by decide) (t := (.object "java/lang/String")) (t' := .boolean) (by decide) (by decide)))
    have F_prefixed_17 := F_prefixed_8.same W17
    have F_declaredPrefix_17 := F_declaredPrefix_8.other W17 (Or.inr (slot_ne (Or.inr (own_w116 hw)) (Or.inr (own_w92 hw)) (by decide) (t := (.object "java/lang/String")) (t' := .boolean) (by decide) (by decide)))
    have F_asElement_17 := F_asElement_8.other W17 (Or.inr (slot_ne (Or.inr (own_w45 hw)) (Or.inr (own_w92 hw)) (by decide) (t := (.object "com/example/xqwry/xqwry/MarkupName$Resolution")) (t' := .boolean) (by decide) (by decide)))
    have F_asAttribute_17 := F_asAttribute_8.other W17 (Or.inr (slot_ne (Or.inr (own_w47 hw)) (Or.inr (own_w92 hw)) (by decide) (t := (.object "com/example/xqwry/xqwry/MarkupName$Resolution")) (t' := .boolean) (by decide) (by decide)))
    have E_17 := E_8.wr W17
    have C_17 := C_8.other W17 (Or.inl (Nat.ne_of_gt o_mm_sa))
    have V_17 := V_8.other W17 (Or.inl (Nat.ne_of_gt o_mm_sa))
    have A_17 := A_8.other W17 (Nat.ne_of_gt o_mm_sb)
    have H0_17 := Nat.le_trans H0_8 (Nat.le_of_eq W17.size.symm)
    have B2_17 := B2_8.wr W17
    have Fn3_17 := Fn3_8.other W17 (Or.inl (Nat.ne_of_gt o_mm_re))
    have Fc3_17 := Fc3_8.other W17 (Or.inl (Nat.ne_of_gt o_mm_re))
    have B5_17 := B5_8.wr W17
    have Fn6_17 := Fn6_8.other W17 (Or.inl (Nat.ne_of_gt o_mm_ra))
    have Fc6_17 := Fc6_8.other W17 (Or.inl (Nat.ne_of_gt o_mm_ra))
    refine own_aloadN X17 hx (hb hby d_minit_49) rfl rfl 50 rfl ?_
    refine own_ldcS X17 hx hZ hown (own_w93 hw) wS e17 hS H0_17 O0_17 I (by decide) hH33 hcw (by decide +kernel) (hb hby d_minit_50) (n := 20) (by decide +kernel) (by decide) (by decide) (by decide) 52 rfl (fun k18 kb18 f18 T18 h18 X18 e18 E18 hS hZ hown I far18 B18 C18 V18 A18 => ?_)
    have ne_sa_k18 : sa ≠ k18 := own_far far18 gn_sa E_17.lt
    have E0_18 := E0_17.ext E18
    have K0_18 := K0_17.ext E18
    have Z0_18 := Nat.le_trans Z0_17 E18.1
    have O0_18 := O0_17.ext E18
    have F_lexicalName_18 := F_lexicalName_17.ext E18
    have F_prefixed_18 := F_prefixed_17.ext E18
    have F_declaredPrefix_18 := F_declaredPrefix_17.ext E18
    have F_asElement_18 := F_asElement_17.ext E18
    have F_asAttribute_18 := F_asAttribute_17.ext E18
    have E_18 := E_17.ext E18
    have C_18 := C_17.ext E18
    have V_18 := V_17.ext E18
    have A_18 := A_17.ext E18
    have H0_18 := Nat.le_trans H0_17 E18.1
    have B2_18 := B2_17.ext E18
    have Fn3_18 := Fn3_17.ext E18
    have Fc3_18 := Fc3_17.ext E18
    have B5_18 := B5_17.ext E18
    have Fn6_18 := Fn6_17.ext E18
    have Fc6_18 := Fc6_17.ext E18
    have Hk18 := Nat.le_refl h18.size
    replace A18 : own_A Z h18 kb18 .byte 5 f18 := own_An (by decide +kernel) A18
    refine own_callV X18 hx hZ hown (own_w96 hw) (own_w97 hw) (own_w99 hw) (own_w98 hw) (own_w5 hw) (own_w100 hw) (by decide) 0 (own_m_seq l Z a0 hw _ n0 E_18 C_18 V_18 A_18 B18 C18 V18 A18 ne_sa_k18 hcz (SC0.ext O0_18.2)) e18 E_18 (by rw [hml]; rfl) [(.ref k18)] [] rfl (lenOf own_pd_13 rfl) rfl (Nat.le_of_eq rfl) (by decide) (by decide) (by decide) (by decide) (hb hby d_minit_52) N17 55 rfl (fun v19 T19 l19 X19 N19 hP19 => ?_)
    obtain ⟨rfl, e19⟩ := hP19
    show own_G p e below _ (T19.setTop (mkF m 55 #[.val (.ref mm), .val (.ref sa)] [(.int (0 : Int32))]))
    refine own_ifcT X19 hx (hb hby d_minit_55) (teq (by decide)).1 67 (by decide) (by decide) ?_
    refine own_aloadN X19 hx (hb hby d_minit_67) rfl rfl 68 rfl ?_
    refine own_ldcS X19 hx hZ hown (own_w104 hw) wS e19 hS Hk18 O0_18 I (by decide) hH44 hcw (by decide +kernel) (hb hby d_minit_68) (n := 24) (by decide +kernel) (by decide) (by decide) (by decide) 70 rfl (fun k20 kb20 f20 T20 h20 X20 e20 E20 hS hZ hown I far20 B20 C20 V20 A20 => ?_)
    have ne_sa_k20 : sa ≠ k20 := own_far far20 gn_sa E_18.lt
    have E0_20 := E0_18.ext E20
    have K0_20 := K0_18.ext E20
    have Z0_20 := Nat.le_trans Z0_18 E20.1
    have O0_20 := O0_18.ext E20
    have F_lexicalName_20 := F_lexicalName_18.ext E20
    have F_prefixed_20 := F_prefixed_18.ext E20
    have F_declaredPrefix_20 := F_declaredPrefix_18.ext E20
    have F_asElement_20 := F_asElement_18.ext E20
    have F_asAttribute_20 := F_asAttribute_18.ext E20
    have E_20 := E_18.ext E20
    have C_20 := C_18.ext E20
    have V_20 := V_18.ext E20
    have A_20 := A_18.ext E20
    have Hk18_20 := Nat.le_trans Hk18 E20.1
    have B2_20 := B2_18.ext E20
    have Fn3_20 := Fn3_18.ext E20
    have Fc3_20 := Fc3_18.ext E20
    have B5_20 := B5_18.ext E20
    have Fn6_20 := Fn6_18.ext E20
    have Fc6_20 := Fc6_18.ext E20
    have Hk20 := Nat.le_refl h20.size
    replace A20 : own_A Z h20 kb20 .byte 6 f20 := own_An (by decide +kernel) A20
    refine own_callV X20 hx hZ hown (own_w105 hw) (own_w106 hw) (own_w108 hw) (own_w107 hw) (own_w5 hw) (own_w109 hw) (by decide) 0 (own_m_sw1 l Z a0 hw _ n0 E_20 C_20 V_20 A_20 B20 C20 V20 A20 hcz (SC0.ext O0_20.2)) e20 E_20 (by rw [hml]; rfl) [(.ref k20)] [] rfl (lenOf own_pd_14 rfl) rfl (Nat.le_of_eq rfl) (by decide) (by decide) (by decide) (by decide) (hb hby d_minit_70) N19 73 rfl (fun v21 T21 l21 X21 N21 hP21 => ?_)
    obtain ⟨rfl, e21⟩ := hP21
    show own_G p e below _ (T21.setTop (mkF m 73 #[.val (.ref mm), .val (.ref sa)] [(.int (0 : Int32))]))
    refine own_ifcT X21 hx (hb hby d_minit_73) (teq (by decide)).1 89 (by decide) (by decide) ?_
    refine own_aloadN X21 hx (hb hby d_minit_89) rfl rfl 90 rfl ?_
    refine own_aconstNull X21 hx (hb hby d_minit_90) 91 rfl ?_
    refine own_putF X21 hx hZ hown (own_w115 hw) e21 F_declaredPrefix_20 E0_20 (Or.inr ⟨(own_w116 hw), rfl, hnm⟩) (own_w1 hw) (ty := (.object "java/lang/String")) (by decide) rfl rfl (hb hby d_minit_91) N21 gn_mm 94 rfl (fun T22 h22 l22 X22 N22 e22 W22 => ?_)
    have E0_22 := E0_20.wr W22
    have K0_22 := K0_20.wr W22 (Or.inl (List.mem_of_getElem? (i := 0) rfl))
    have Z0_22 := Nat.le_trans Z0_20 (Nat.le_of_eq W22.size.symm)
    have O0_22 := O0_20.wr W22 gn_mm
    have F_lexicalName_22 := F_lexicalName_20.other W22 (Or.inr (slot_ne (Or.inr (own_w49 hw)) (Or.inr (own_w116 hw)) (by decide) (t := (.object "java/lang/String")) (t' := (.object "java/lang/String")) (by decide) (by decide)))
    have F_prefixed_22 := F_prefixed_20.other W22 (Or.inr (slot_ne (Or.inr (own_w92 hw)) (Or.inr (own_w116 hw)) (by decide) (t := .boolean) (t' := (.object "java/lang/String")) (by decide) (by decide)))
    have F_declaredPrefix_22 := F_declaredPrefix_20.same W22
    have F_asElement_22 := F_asElement_20.other W22 (Or.inr (slot_ne (Or.inr (own_w45 hw)) (Or.inr (own_w116 hw)) (by decide) (t := (.object "com/example/xqwry/xqwry/MarkupName$Resolution")) (t' := (.object "java/lang/String")) (by decide) (by decide)))
    have F_asAttribute_22 := F_asAttribute_20.other W22 (Or.inr (slot_ne (Or.inr (own_w47 hw)) (Or.inr (own_w116 hw)) (by decide) (t := (.object "com/example/xqwry/xqwry/MarkupName$Resolution")) (t' := (.object "java/lang/String")) (by decide) (by decide)))
    have E_22 := E_20.wr W22
    have C_22 := C_20.other W22 (Or.inl (Nat.ne_of_gt o_mm_sa))
    have V_22 := V_20.other W22 (Or.inl (Nat.ne_of_gt o_mm_sa))
    have A_22 := A_20.other W22 (Nat.ne_of_gt o_mm_sb)
    have Hk20_22 := Nat.le_trans Hk20 (Nat.le_of_eq W22.size.symm)
    have B2_22 := B2_20.wr W22
    have Fn3_22 := Fn3_20.other W22 (Or.inl (Nat.ne_of_gt o_mm_re))
    have Fc3_22 := Fc3_20.other W22 (Or.inl (Nat.ne_of_gt o_mm_re))
    have B5_22 := B5_20.wr W22
    have Fn6_22 := Fn6_20.other W22 (Or.inl (Nat.ne_of_gt o_mm_ra))
    have Fc6_22 := Fc6_20.other W22 (Or.inl (Nat.ne_of_gt o_mm_ra))
    exact own_retVS X22 hx hS hret hlk (hb hby d_minit_94) (by decide) (by decide) N22 e22 Hk20_22 ⟨rfl, re, ra, F_asElement_22, F_asAttribute_22, B2_22, B5_22, Fn3_22, Fc3_22, Fn6_22, Fc6_22, o_mm_re, o_re_ra, K0_22⟩
theorem own_cec255 (y : Int32) : own_f_cec ((y &&& (255 : Int32)).toUInt32.toUInt16.toUInt32.toInt32) = 1 := by
  unfold own_f_cec
  rw [if_neg]
  intro h
  have h1 : (y &&& (255 : Int32)).toUInt32.toNat ≤ 255 := by
    have : (y &&& (255 : Int32)).toUInt32 = y.toUInt32 &&& 255 := rfl
    rw [this, UInt32.toNat_and]; exact Nat.and_le_right
  generalize (y &&& (255 : Int32)).toUInt32 = u at h h1
  have h2 : u.toUInt16.toUInt32 = u := by apply UInt32.toNat_inj.mp; simp; omega
  have h3 : u.toInt32.toInt = (u.toNat : Int) := BitVec.toInt_eq_toNat_of_lt (show 2 * u.toNat < 2 ^ 32 by omega)
  rw [h2, Int32.lt_iff_toInt_lt, h3, show (255 : Int32).toInt = 255 from rfl] at h
  omega
theorem own_res_m1 (b q : Int32) {n c n' c' : Int32} (h : if b = 0 then n' = -1 else n = -1) : own_f_res b q n c n' c' = -1 := by
  unfold own_f_res
  split at h <;> split <;> simp_all
theorem own_res_n1 (q n n' c' : Int32) : own_f_res 1 q n q n' c' = n := by simp [own_f_res]
theorem own_res_n0 (q n c n' : Int32) : own_f_res 0 q n c n' q = n' := by simp [own_f_res]
theorem own_res_e1 (q n c n' c' : Int32) : own_f_res 1 q n c n' c' = own_f_exp q c n := by
  simp [own_f_res, own_f_exp, eq_comm]
theorem own_res_e0 (q n c n' c' : Int32) : own_f_res 0 q n c n' c' = own_f_exp q c' n' := by
  simp [own_f_res, own_f_exp, eq_comm]
theorem own_unset {p : Program} {l : Launch} {e : Env} {R : Room} {s : State} {m : MethodId} {args : Array Value} {below : List Frame} {meth : Method} {c : Code} {T : State} {locs : List Loc} {cells slots : Nat} (X : Stand p l e R (s.setVm s.vm) m args below meth c T locs cells slots) : Stand p l e R s m args below meth c T locs cells slots := X
theorem own_not_e {c : Cond} {args : Array Value} {first s : State} {o : Option Outcome} {idx : List Nat} (h : (Cond.not c).value args first o s idx = some true) : c.value args first o s idx = some false := by
  simp only [Cond.value] at h
  cases hc : c.value args first o s idx with
  | none => simp [hc] at h
  | some b => cases b <;> simp_all
theorem own_wS (Z : State) (a0 : Array Value) (hw : ∀ d ∈ tables_1, d.before a0 Z = true) : ∀ a ∈ Bundle.stringAtoms, a.before a0 Z = true := by
  intro d hd
  simp only [Bundle.stringAtoms, Bundle.sN, List.mem_cons, List.not_mem_nil, or_false] at hd
  rcases hd with rfl | rfl | rfl | rfl | rfl | rfl | rfl
  · exact (own_w5 hw)
  · exact (own_w13 hw)
  · exact (own_w17 hw)
  · exact (own_w26 hw)
  · exact (own_w28 hw)
  · exact (own_w94 hw)
  · exact (own_w95 hw)

theorem own_ef_law (m : MethodId) (p1 : Int32) (p2 : Int32) (p3 : Int32) (p4 : Int32) (p5 : Int32) (p6 : Int32) : entryFrame m #[(.int p1), (.int p2), (.int p3), (.int p4), (.int p5), (.int p6)] maxLocals = mkF m 0 #[.val (.int p1), .val (.int p2), .val (.int p3), .val (.int p4), .val (.int p5), .val (.int p6), .unset, .unset, .unset, .unset] [] := by first | (simp [entryFrame, mkF, argsToLocals, Value.category, maxLocals]; done) | rfl
set_option maxRecDepth 65536 in
set_option maxHeartbeats 40000000 in
theorem own_m_law (l : Launch) (Z : State) (a0 : Array Value) (hw : ∀ d ∈ tables_1, d.before a0 Z = true) (h0 : Heap) (n0 : Nat) (Z0 : n0 ≤ h0.size) (O0 : Old Z n0 h0) (wS : ∀ a ∈ Bundle.stringAtoms, a.before a0 Z = true) (hH33 : Jvm.Lit.constHeld Z "com/example/xqwry/xqwry/MarkupName" 33) (hH44 : Jvm.Lit.constHeld Z "com/example/xqwry/xqwry/MarkupName" 44) (hcw : Jvm.Lit.compactW.before a0 Z = true) {cz : Int32} (hcz : ¬ cz = 0) (SC0 : Sta Z Z.heap "java/lang/String" "COMPACT_STRINGS" "Z" (.int cz)) (p1 p2 p3 p4 p5 p6 : Int32) : own_MetS l Z x code maxLocals ret tables_1 room_1 #[.int p1, .int p2, .int p3, .int p4, .int p5, .int p6] h0 n0 (fun v h => v = some (.int 1)) := by
  refine own_bodyS (plainFor_of_name own_pn_MarkupNameKeepResolvedPinLaw) ?_
  intro p e s m below meth c T0 X0 hx hby hml hown hnm hZ hZH hS I e0 hret hlk
  have N0 := Fr.nil n0
  replace X0 := own_unset X0
  refine own_cast (own_ef_law m p1 p2 p3 p4 p5 p6) ?_
  refine own_iloadN X0 hx (hb hby at_0) rfl 1 rfl ?_
  refine own_iconst X0 hx (z := (1 : Int32)) (hb hby at_1) rfl 2 rfl ?_
  refine own_iand X0 hx (hb hby at_2) 3 rfl ?_
  by_cases hc1 : (p1 &&& (1 : Int32)) = (0 : Int32)
  · refine own_ifcT X0 hx (hb hby at_3) (teq hc1).1 10 (by decide) (by decide) ?_
    refine own_iconst X0 hx (z := (0 : Int32)) (hb hby at_10) rfl 11 rfl ?_
    refine own_istore X0 hx (#[.val (.int p1), .val (.int p2), .val (.int p3), .val (.int p4), .val (.int p5), .val (.int p6), .val (.int (0 : Int32)), .unset, .unset, .unset]) (hb hby at_11) rfl 13 rfl ?_
    refine own_iloadN X0 hx (hb hby at_13) rfl 14 rfl ?_
    refine own_iconst X0 hx (z := (2 : Int32)) (hb hby at_14) rfl 15 rfl ?_
    refine own_iand X0 hx (hb hby at_15) 16 rfl ?_
    by_cases hc2 : (p1 &&& (2 : Int32)) = (0 : Int32)
    · refine own_ifcT X0 hx (hb hby at_16) (teq hc2).1 23 (by decide) (by decide) ?_
      refine own_iconst X0 hx (z := (0 : Int32)) (hb hby at_23) rfl 24 rfl ?_
      refine own_istore X0 hx (#[.val (.int p1), .val (.int p2), .val (.int p3), .val (.int p4), .val (.int p5), .val (.int p6), .val (.int (0 : Int32)), .val (.int (0 : Int32)), .unset, .unset]) (hb hby at_24) rfl 26 rfl ?_
      refine own_newO X0 hx hZ hown (own_w0 hw) (own_w1 hw) (own_w2 hw) e0 (hb hby at_26) (by decide) (by decide) 29 rfl (fun T3 h3 mm g3 X3 e3 E3 B3 D3 => ?_)
      have gn_mm : n0 ≤ mm := Nat.le_trans Z0 (Nat.le_of_eq g3.symm)
      have Z0_3 := Nat.le_trans Z0 E3.1
      have O0_3 := O0.ext E3
      have F_asElement_mm_3 : Fld Z h3 mm "com/example/xqwry/xqwry/MarkupName" "asElement" "Lcom/example/xqwry/xqwry/MarkupName$Resolution;" .null := D3 (Or.inr (own_w45 hw)) (ty := (.object "com/example/xqwry/xqwry/MarkupName$Resolution")) (by decide)
      have F_asAttribute_mm_3 : Fld Z h3 mm "com/example/xqwry/xqwry/MarkupName" "asAttribute" "Lcom/example/xqwry/xqwry/MarkupName$Resolution;" .null := D3 (Or.inr (own_w47 hw)) (ty := (.object "com/example/xqwry/xqwry/MarkupName$Resolution")) (by decide)
      have F_lexicalName_mm_3 : Fld Z h3 mm "com/example/xqwry/xqwry/MarkupName" "lexicalName" "Ljava/lang/String;" .null := D3 (Or.inr (own_w49 hw)) (ty := (.object "java/lang/String")) (by decide)
      have F_prefixed_mm_3 : Fld Z h3 mm "com/example/xqwry/xqwry/MarkupName" "prefixed" "Z" (.int (0 : Int32)) := D3 (Or.inr (own_w92 hw)) (ty := .boolean) (by decide)
      have F_declaredPrefix_mm_3 : Fld Z h3 mm "com/example/xqwry/xqwry/MarkupName" "declaredPrefix" "Ljava/lang/String;" .null := D3 (Or.inr (own_w116 hw)) (ty := (.object "java/lang/String")) (by decide)
      refine own_dup X3 hx (hb hby at_29) rfl 30 rfl ?_
      refine own_iloadN X3 hx (hb hby at_30) rfl 31 rfl ?_
      refine own_iconst X3 hx (z := (2 : Int32)) (hb hby at_31) rfl 32 rfl ?_
      refine own_iushr X3 hx (hb hby at_32) 33 rfl ?_
      refine own_sipush X3 hx (z := (255 : Int32)) (hb hby at_33) rfl 36 rfl ?_
      refine own_iand X3 hx (hb hby at_36) 37 rfl ?_
      refine own_i2c X3 hx (hb hby at_37) 38 rfl ?_
      refine own_callS X3 hx hZ hown (own_w3 hw) (own_w4 hw) (own_w5 hw) (own_w6 hw) (by decide) 2 (own_m_sval l Z a0 hw _ n0 ((((p1.toUInt32 >>> ((2 : Int32) &&& 31).toUInt32).toInt32) &&& (255 : Int32)).toUInt32.toUInt16.toUInt32.toInt32) (own_cec255 _) hcz Z0_3 (SC0.ext O0_3.2)) e3 (by rw [hml]; rfl) [(.int ((((p1.toUInt32 >>> ((2 : Int32) &&& 31).toUInt32).toInt32) &&& (255 : Int32)).toUInt32.toUInt16.toUInt32.toInt32))] [(.ref mm), (.ref mm)] rfl (lenOf own_pd_15 rfl) rfl (Nat.le_of_eq rfl) (by decide) (by decide) (by decide) (by decide) (hb hby at_38) N0 41 rfl (fun v4 T4 l4 X4 N4 hP4 => ?_)
      obtain ⟨sa, sb, fs4, rfl, E_sa, C_sa, V_sa, A_sb, gs4, o_sa_sb, K4'⟩ := hP4
      have Z0_4 := Nat.le_trans Z0_3 K4'.1
      have O0_4 := O0_3.keep K4' all0
      have B3_4 := B3.keep K4'
      have F_asElement_mm_4 := F_asElement_mm_3.keep K4' nin0
      have F_asAttribute_mm_4 := F_asAttribute_mm_3.keep K4' nin0
      have F_lexicalName_mm_4 := F_lexicalName_mm_3.keep K4' nin0
      have F_prefixed_mm_4 := F_prefixed_mm_3.keep K4' nin0
      have F_declaredPrefix_mm_4 := F_declaredPrefix_mm_3.keep K4' nin0
      have o_mm_sa : mm < sa := Nat.lt_of_lt_of_le B3.lt gs4
      have o_mm_sb : mm < sb := Nat.lt_trans o_mm_sa o_sa_sb
      have gn_sa : n0 ≤ sa := Nat.le_trans gn_mm (Nat.le_of_lt o_mm_sa)
      show own_G p e below _ (T4.setTop (mkF m 41 #[.val (.int p1), .val (.int p2), .val (.int p3), .val (.int p4), .val (.int p5), .val (.int p6), .val (.int (0 : Int32)), .val (.int (0 : Int32)), .unset, .unset] [(.ref sa), (.ref mm), (.ref mm)]))
      refine own_callIS X4 hx hZH hown rfl (own_w29 hw) (own_w30 hw) (own_w2 hw) (own_w31 hw) (by decide) 1 (own_m_minit l Z a0 hw _ n0 B3_4 F_lexicalName_mm_4 F_prefixed_mm_4 F_declaredPrefix_mm_4 F_asElement_mm_4 F_asAttribute_mm_4 E_sa C_sa V_sa A_sb gn_mm gn_sa o_mm_sa o_sa_sb o_mm_sb Z0_4 O0_4 wS hH33 hH44 hcw hcz SC0) rfl (by rw [hml]; rfl) mm [.ref sa] [(.ref mm)] rfl (lenOf own_pd_16 rfl) rfl (Nat.le_of_eq rfl) (by decide) (by decide) (by decide) (by decide) (hb hby at_41) N4 44 rfl (fun v5 T5 l5 X5 N5 hS hZ hown hP5 => ?_)
      obtain ⟨rfl, re, ra, FE, FA, Ee, Ea, F1, F2, F3, F4, o_mm_re, o_re_ra, K5'⟩ := hP5
      have E_mm := B3_4.keep K5'
      have o_mm_ra : mm < ra := Nat.lt_trans o_mm_re o_re_ra
      have gn_re : n0 ≤ re := Nat.le_trans gn_mm (Nat.le_of_lt o_mm_re)
      have gn_ra : n0 ≤ ra := Nat.le_trans gn_mm (Nat.le_of_lt o_mm_ra)
      have Hk := Nat.le_refl T5.heap.size
      show own_G p e below _ (T5.setTop (mkF m 44 #[.val (.int p1), .val (.int p2), .val (.int p3), .val (.int p4), .val (.int p5), .val (.int p6), .val (.int (0 : Int32)), .val (.int (0 : Int32)), .unset, .unset] [(.ref mm)]))
      refine own_astore X5 hx (#[.val (.int p1), .val (.int p2), .val (.int p3), .val (.int p4), .val (.int p5), .val (.int p6), .val (.int (0 : Int32)), .val (.int (0 : Int32)), .val (.ref mm), .unset]) (hb hby at_44) rfl rfl 46 rfl ?_
      refine own_aload X5 hx (hb hby at_46) rfl rfl 48 rfl ?_
      refine own_iload X5 hx (hb hby at_48) rfl 50 rfl ?_
      refine own_ifcF X5 hx (hb hby at_50) (teq (by decide)).2 53 rfl ?_
      refine own_iconst X5 hx (z := (1 : Int32)) (hb hby at_53) rfl 54 rfl ?_
      refine own_goto X5 hx (hb hby at_54) 58 (by decide) (by decide) ?_
      refine own_iloadN X5 hx (hb hby at_58) rfl 59 rfl ?_
      refine own_callV X5 hx hZ hown (own_w117 hw) (own_w118 hw) (own_w120 hw) (own_w119 hw) (own_w2 hw) (own_w121 hw) (by decide) 0 (own_m_res l Z a0 hw _ n0 FE FA F1 F2 F3 F4 (1 : Int32) p4 (r := (-1 : Int32)) (own_res_m1 _ _ (by simp))) rfl E_mm (by rw [hml]; rfl) [(.int (1 : Int32)), (.int p4)] [] rfl (lenOf own_pd_17 rfl) rfl (Nat.le_of_eq rfl) (by decide) (by decide) (by decide) (by decide) (hb hby at_59) N5 62 rfl (fun v6 T6 l6 X6 N6 hP6 => ?_)
      obtain ⟨rfl, e6⟩ := hP6
      show own_G p e below _ (T6.setTop (mkF m 62 #[.val (.int p1), .val (.int p2), .val (.int p3), .val (.int p4), .val (.int p5), .val (.int p6), .val (.int (0 : Int32)), .val (.int (0 : Int32)), .val (.ref mm), .unset] [(.int (-1 : Int32))]))
      refine own_iconst X6 hx (z := (-1 : Int32)) (hb hby at_62) rfl 63 rfl ?_
      refine own_icmpF X6 hx (hb hby at_63) (teq (by decide)).2 66 rfl ?_
      refine own_iconst X6 hx (z := (1 : Int32)) (hb hby at_66) rfl 67 rfl ?_
      refine own_goto X6 hx (hb hby at_67) 71 (by decide) (by decide) ?_
      refine own_istore X6 hx (#[.val (.int p1), .val (.int p2), .val (.int p3), .val (.int p4), .val (.int p5), .val (.int p6), .val (.int (0 : Int32)), .val (.int (0 : Int32)), .val (.ref mm), .val (.int (1 : Int32))]) (hb hby at_71) rfl 73 rfl ?_
      refine own_iload X6 hx (hb hby at_73) rfl 75 rfl ?_
      refine own_ifcF X6 hx (hb hby at_75) (feq (by decide)).1 78 rfl ?_
      refine own_aload X6 hx (hb hby at_78) rfl rfl 80 rfl ?_
      refine own_iload X6 hx (hb hby at_80) rfl 82 rfl ?_
      refine own_iloadN X6 hx (hb hby at_82) rfl 83 rfl ?_
      refine own_callV X6 hx hZ hown (own_w117 hw) (own_w118 hw) (own_w120 hw) (own_w119 hw) (own_w2 hw) (own_w121 hw) (by decide) 0 (own_m_res l Z a0 hw _ n0 FE FA F1 F2 F3 F4 (0 : Int32) p4 (r := (-1 : Int32)) (own_res_m1 _ _ (by simp))) e6 E_mm (by rw [hml]; rfl) [(.int (0 : Int32)), (.int p4)] [] rfl (lenOf own_pd_17 rfl) rfl (Nat.le_of_eq rfl) (by decide) (by decide) (by decide) (by decide) (hb hby at_83) N6 86 rfl (fun v7 T7 l7 X7 N7 hP7 => ?_)
      obtain ⟨rfl, e7⟩ := hP7
      show own_G p e below _ (T7.setTop (mkF m 86 #[.val (.int p1), .val (.int p2), .val (.int p3), .val (.int p4), .val (.int p5), .val (.int p6), .val (.int (0 : Int32)), .val (.int (0 : Int32)), .val (.ref mm), .val (.int (1 : Int32))] [(.int (-1 : Int32))]))
      refine own_iconst X7 hx (z := (-1 : Int32)) (hb hby at_86) rfl 87 rfl ?_
      refine own_icmpF X7 hx (hb hby at_87) (teq (by decide)).2 90 rfl ?_
      refine own_iconst X7 hx (z := (1 : Int32)) (hb hby at_90) rfl 91 rfl ?_
      refine own_goto X7 hx (hb hby at_91) 95 (by decide) (by decide) ?_
      refine own_istore X7 hx (#[.val (.int p1), .val (.int p2), .val (.int p3), .val (.int p4), .val (.int p5), .val (.int p6), .val (.int (0 : Int32)), .val (.int (0 : Int32)), .val (.ref mm), .val (.int (1 : Int32))]) (hb hby at_95) rfl 97 rfl ?_
      refine own_aload X7 hx (hb hby at_97) rfl rfl 99 rfl ?_
      refine own_iload X7 hx (hb hby at_99) rfl 101 rfl ?_
      refine own_iloadN X7 hx (hb hby at_101) rfl 102 rfl ?_
      refine own_iloadN X7 hx (hb hby at_102) rfl 103 rfl ?_
      refine own_callV X7 hx hZ hown (own_w123 hw) (own_w124 hw) (own_w126 hw) (own_w125 hw) (own_w2 hw) (own_w127 hw) (by decide) 0 (own_m_keep0 l Z a0 hw _ n0 FE FA Ea F3 F4 gn_ra (Nat.ne_of_lt o_mm_ra) (0 : Int32) p2 p3 (by decide)) e7 E_mm (by rw [hml]; rfl) [(.int (0 : Int32)), (.int p2), (.int p3)] [] rfl (lenOf own_pd_18 rfl) rfl (Nat.le_of_eq rfl) (by decide) (by decide) (by decide) (by decide) (hb hby at_103) N7 106 rfl (fun v8 T8 l8 X8 N8 hP8 => ?_)
      obtain ⟨rfl, Gn8, Gc8, K8'⟩ := hP8
      have Hk_8 := Nat.le_trans Hk K8'.1
      have E_mm_8 := E_mm.keep K8'
      have FE_8 := FE.keep K8' (ninS (Nat.ne_of_lt o_mm_ra) nin0)
      have FA_8 := FA.keep K8' (ninS (Nat.ne_of_lt o_mm_ra) nin0)
      have Ee_8 := Ee.keep K8'
      have Ea_8 := Ea.keep K8'
      have F1_8 := F1.keep K8' (ninS (Nat.ne_of_lt o_re_ra) nin0)
      have F2_8 := F2.keep K8' (ninS (Nat.ne_of_lt o_re_ra) nin0)
      show own_G p e below _ (T8.setTop (mkF m 106 #[.val (.int p1), .val (.int p2), .val (.int p3), .val (.int p4), .val (.int p5), .val (.int p6), .val (.int (0 : Int32)), .val (.int (0 : Int32)), .val (.ref mm), .val (.int (1 : Int32))] []))
      refine own_iload X8 hx (hb hby at_106) rfl 108 rfl ?_
      refine own_ifcF X8 hx (hb hby at_108) (feq (by decide)).1 111 rfl ?_
      refine own_aload X8 hx (hb hby at_111) rfl rfl 113 rfl ?_
      refine own_iload X8 hx (hb hby at_113) rfl 115 rfl ?_
      refine own_iloadN X8 hx (hb hby at_115) rfl 116 rfl ?_
      refine own_callV X8 hx hZ hown (own_w117 hw) (own_w118 hw) (own_w120 hw) (own_w119 hw) (own_w2 hw) (own_w121 hw) (by decide) 0 (own_m_res l Z a0 hw _ n0 FE_8 FA_8 F1_8 F2_8 Gn8 Gc8 (0 : Int32) p3 (r := p2) (own_res_n0 _ _ _ _)) rfl E_mm_8 (by rw [hml]; rfl) [(.int (0 : Int32)), (.int p3)] [] rfl (lenOf own_pd_17 rfl) rfl (Nat.le_of_eq rfl) (by decide) (by decide) (by decide) (by decide) (hb hby at_116) N8 119 rfl (fun v9 T9 l9 X9 N9 hP9 => ?_)
      obtain ⟨rfl, e9⟩ := hP9
      show own_G p e below _ (T9.setTop (mkF m 119 #[.val (.int p1), .val (.int p2), .val (.int p3), .val (.int p4), .val (.int p5), .val (.int p6), .val (.int (0 : Int32)), .val (.int (0 : Int32)), .val (.ref mm), .val (.int (1 : Int32))] [(.int p2)]))
      refine own_iloadN X9 hx (hb hby at_119) rfl 120 rfl ?_
      refine own_icmpF X9 hx (hb hby at_120) (teq rfl).2 123 rfl ?_
      refine own_iconst X9 hx (z := (1 : Int32)) (hb hby at_123) rfl 124 rfl ?_
      refine own_goto X9 hx (hb hby at_124) 128 (by decide) (by decide) ?_
      refine own_istore X9 hx (#[.val (.int p1), .val (.int p2), .val (.int p3), .val (.int p4), .val (.int p5), .val (.int p6), .val (.int (0 : Int32)), .val (.int (0 : Int32)), .val (.ref mm), .val (.int (1 : Int32))]) (hb hby at_128) rfl 130 rfl ?_
      refine own_iload X9 hx (hb hby at_130) rfl 132 rfl ?_
      refine own_ifcF X9 hx (hb hby at_132) (feq (by decide)).1 135 rfl ?_
      refine own_aload X9 hx (hb hby at_135) rfl rfl 137 rfl ?_
      refine own_iload X9 hx (hb hby at_137) rfl 139 rfl ?_
      refine own_iloadN X9 hx (hb hby at_139) rfl 140 rfl ?_
      refine own_callV X9 hx hZ hown (own_w117 hw) (own_w118 hw) (own_w120 hw) (own_w119 hw) (own_w2 hw) (own_w121 hw) (by decide) 0 (own_m_res l Z a0 hw _ n0 FE_8 FA_8 F1_8 F2_8 Gn8 Gc8 (0 : Int32) p4 (r := (own_f_exp p4 p3 p2)) (own_res_e0 _ _ _ _ _)) e9 E_mm_8 (by rw [hml]; rfl) [(.int (0 : Int32)), (.int p4)] [] rfl (lenOf own_pd_17 rfl) rfl (Nat.le_of_eq rfl) (by decide) (by decide) (by decide) (by decide) (hb hby at_140) N9 143 rfl (fun v10 T10 l10 X10 N10 hP10 => ?_)
      obtain ⟨rfl, e10⟩ := hP10
      show own_G p e below _ (T10.setTop (mkF m 143 #[.val (.int p1), .val (.int p2), .val (.int p3), .val (.int p4), .val (.int p5), .val (.int p6), .val (.int (0 : Int32)), .val (.int (0 : Int32)), .val (.ref mm), .val (.int (1 : Int32))] [(.int (own_f_exp p4 p3 p2))]))
      refine own_iloadN X10 hx (hb hby at_143) rfl 144 rfl ?_
      refine own_iloadN X10 hx (hb hby at_144) rfl 145 rfl ?_
      refine own_iloadN X10 hx (hb hby at_145) rfl 146 rfl ?_
      refine own_callS X10 hx hZ hown (own_w129 hw) (own_w130 hw) (own_w131 hw) (own_w132 hw) (by decide) 1 (own_m_exp l Z a0 hw _ n0 p4 p3 p2 (r := (own_f_exp p4 p3 p2)) rfl) e10 (by rw [hml]; rfl) [(.int p4), (.int p3), (.int p2)] [(.int (own_f_exp p4 p3 p2))] rfl (lenOf own_pd_19 rfl) rfl (Nat.le_of_eq rfl) (by decide) (by decide) (by decide) (by decide) (hb hby at_146) N10 149 rfl (fun v11 T11 l11 X11 N11 hP11 => ?_)
      obtain ⟨rfl, e11⟩ := hP11
      show own_G p e below _ (T11.setTop (mkF m 149 #[.val (.int p1), .val (.int p2), .val (.int p3), .val (.int p4), .val (.int p5), .val (.int p6), .val (.int (0 : Int32)), .val (.int (0 : Int32)), .val (.ref mm), .val (.int (1 : Int32))] [(.int (own_f_exp p4 p3 p2)), (.int (own_f_exp p4 p3 p2))]))
      refine own_icmpF X11 hx (hb hby at_149) (teq rfl).2 152 rfl ?_
      refine own_iconst X11 hx (z := (1 : Int32)) (hb hby at_152) rfl 153 rfl ?_
      refine own_goto X11 hx (hb hby at_153) 157 (by decide) (by decide) ?_
      refine own_istore X11 hx (#[.val (.int p1), .val (.int p2), .val (.int p3), .val (.int p4), .val (.int p5), .val (.int p6), .val (.int (0 : Int32)), .val (.int (0 : Int32)), .val (.ref mm), .val (.int (1 : Int32))]) (hb hby at_157) rfl 159 rfl ?_
      refine own_iload X11 hx (hb hby at_159) rfl 161 rfl ?_
      refine own_ifcF X11 hx (hb hby at_161) (feq (by decide)).1 164 rfl ?_
      refine own_aload X11 hx (hb hby at_164) rfl rfl 166 rfl ?_
      refine own_iload X11 hx (hb hby at_166) rfl 168 rfl ?_
      refine own_ifcF X11 hx (hb hby at_168) (teq (by decide)).2 171 rfl ?_
      refine own_iconst X11 hx (z := (1 : Int32)) (hb hby at_171) rfl 172 rfl ?_
      refine own_goto X11 hx (hb hby at_172) 176 (by decide) (by decide) ?_
      refine own_iloadN X11 hx (hb hby at_176) rfl 177 rfl ?_
      refine own_callV X11 hx hZ hown (own_w117 hw) (own_w118 hw) (own_w120 hw) (own_w119 hw) (own_w2 hw) (own_w121 hw) (by decide) 0 (own_m_res l Z a0 hw _ n0 FE_8 FA_8 F1_8 F2_8 Gn8 Gc8 (1 : Int32) p4 (r := (-1 : Int32)) (own_res_m1 _ _ (by simp))) e11 E_mm_8 (by rw [hml]; rfl) [(.int (1 : Int32)), (.int p4)] [] rfl (lenOf own_pd_17 rfl) rfl (Nat.le_of_eq rfl) (by decide) (by decide) (by decide) (by decide) (hb hby at_177) N11 180 rfl (fun v12 T12 l12 X12 N12 hP12 => ?_)
      obtain ⟨rfl, e12⟩ := hP12
      show own_G p e below _ (T12.setTop (mkF m 180 #[.val (.int p1), .val (.int p2), .val (.int p3), .val (.int p4), .val (.int p5), .val (.int p6), .val (.int (0 : Int32)), .val (.int (0 : Int32)), .val (.ref mm), .val (.int (1 : Int32))] [(.int (-1 : Int32))]))
      refine own_iconst X12 hx (z := (-1 : Int32)) (hb hby at_180) rfl 181 rfl ?_
      refine own_icmpF X12 hx (hb hby at_181) (teq (by decide)).2 184 rfl ?_
      refine own_iconst X12 hx (z := (1 : Int32)) (hb hby at_184) rfl 185 rfl ?_
      refine own_goto X12 hx (hb hby at_185) 189 (by decide) (by decide) ?_
      refine own_istore X12 hx (#[.val (.int p1), .val (.int p2), .val (.int p3), .val (.int p4), .val (.int p5), .val (.int p6), .val (.int (0 : Int32)), .val (.int (0 : Int32)), .val (.ref mm), .val (.int (1 : Int32))]) (hb hby at_189) rfl 191 rfl ?_
      refine own_iload X12 hx (hb hby at_191) rfl 193 rfl ?_
      refine own_ifcT X12 hx (hb hby at_193) (teq (by decide)).1 286 (by decide) (by decide) ?_
      refine own_aload X12 hx (hb hby at_286) rfl rfl 288 rfl ?_
      refine own_iload X12 hx (hb hby at_288) rfl 290 rfl ?_
      refine own_iload X12 hx (hb hby at_290) rfl 292 rfl ?_
      refine own_iload X12 hx (hb hby at_292) rfl 294 rfl ?_
      refine own_callV X12 hx hZ hown (own_w123 hw) (own_w124 hw) (own_w126 hw) (own_w125 hw) (own_w2 hw) (own_w127 hw) (by decide) 0 (own_m_keep0 l Z a0 hw _ n0 FE_8 FA_8 Ea_8 Gn8 Gc8 gn_ra (Nat.ne_of_lt o_mm_ra) (0 : Int32) p5 p6 (by decide)) e12 E_mm_8 (by rw [hml]; rfl) [(.int (0 : Int32)), (.int p5), (.int p6)] [] rfl (lenOf own_pd_18 rfl) rfl (Nat.le_of_eq rfl) (by decide) (by decide) (by decide) (by decide) (hb hby at_294) N12 297 rfl (fun v13 T13 l13 X13 N13 hP13 => ?_)
      obtain ⟨rfl, Gn13, Gc13, K13'⟩ := hP13
      have Hk_13 := Nat.le_trans Hk_8 K13'.1
      have E_mm_13 := E_mm_8.keep K13'
      have FE_13 := FE_8.keep K13' (ninS (Nat.ne_of_lt o_mm_ra) nin0)
      have FA_13 := FA_8.keep K13' (ninS (Nat.ne_of_lt o_mm_ra) nin0)
      have Ee_13 := Ee_8.keep K13'
      have Ea_13 := Ea_8.keep K13'
      have F1_13 := F1_8.keep K13' (ninS (Nat.ne_of_lt o_re_ra) nin0)
      have F2_13 := F2_8.keep K13' (ninS (Nat.ne_of_lt o_re_ra) nin0)
      show own_G p e below _ (T13.setTop (mkF m 297 #[.val (.int p1), .val (.int p2), .val (.int p3), .val (.int p4), .val (.int p5), .val (.int p6), .val (.int (0 : Int32)), .val (.int (0 : Int32)), .val (.ref mm), .val (.int (1 : Int32))] []))
      refine own_iload X13 hx (hb hby at_297) rfl 299 rfl ?_
      refine own_ifcF X13 hx (hb hby at_299) (feq (by decide)).1 302 rfl ?_
      refine own_aload X13 hx (hb hby at_302) rfl rfl 304 rfl ?_
      refine own_iload X13 hx (hb hby at_304) rfl 306 rfl ?_
      refine own_iloadN X13 hx (hb hby at_306) rfl 307 rfl ?_
      refine own_callV X13 hx hZ hown (own_w117 hw) (own_w118 hw) (own_w120 hw) (own_w119 hw) (own_w2 hw) (own_w121 hw) (by decide) 0 (own_m_res l Z a0 hw _ n0 FE_13 FA_13 F1_13 F2_13 Gn13 Gc13 (0 : Int32) p4 (r := (own_f_exp p4 p6 p5)) (own_res_e0 _ _ _ _ _)) rfl E_mm_13 (by rw [hml]; rfl) [(.int (0 : Int32)), (.int p4)] [] rfl (lenOf own_pd_17 rfl) rfl (Nat.le_of_eq rfl) (by decide) (by decide) (by decide) (by decide) (hb hby at_307) N13 310 rfl (fun v14 T14 l14 X14 N14 hP14 => ?_)
      obtain ⟨rfl, e14⟩ := hP14
      show own_G p e below _ (T14.setTop (mkF m 310 #[.val (.int p1), .val (.int p2), .val (.int p3), .val (.int p4), .val (.int p5), .val (.int p6), .val (.int (0 : Int32)), .val (.int (0 : Int32)), .val (.ref mm), .val (.int (1 : Int32))] [(.int (own_f_exp p4 p6 p5))]))
      refine own_iloadN X14 hx (hb hby at_310) rfl 311 rfl ?_
      refine own_iload X14 hx (hb hby at_311) rfl 313 rfl ?_
      refine own_iload X14 hx (hb hby at_313) rfl 315 rfl ?_
      refine own_callS X14 hx hZ hown (own_w129 hw) (own_w130 hw) (own_w131 hw) (own_w132 hw) (by decide) 1 (own_m_exp l Z a0 hw _ n0 p4 p6 p5 (r := (own_f_exp p4 p6 p5)) rfl) e14 (by rw [hml]; rfl) [(.int p4), (.int p6), (.int p5)] [(.int (own_f_exp p4 p6 p5))] rfl (lenOf own_pd_19 rfl) rfl (Nat.le_of_eq rfl) (by decide) (by decide) (by decide) (by decide) (hb hby at_315) N14 318 rfl (fun v15 T15 l15 X15 N15 hP15 => ?_)
      obtain ⟨rfl, e15⟩ := hP15
      show own_G p e below _ (T15.setTop (mkF m 318 #[.val (.int p1), .val (.int p2), .val (.int p3), .val (.int p4), .val (.int p5), .val (.int p6), .val (.int (0 : Int32)), .val (.int (0 : Int32)), .val (.ref mm), .val (.int (1 : Int32))] [(.int (own_f_exp p4 p6 p5)), (.int (own_f_exp p4 p6 p5))]))
      refine own_icmpF X15 hx (hb hby at_318) (teq rfl).2 321 rfl ?_
      refine own_iconst X15 hx (z := (1 : Int32)) (hb hby at_321) rfl 322 rfl ?_
      refine own_goto X15 hx (hb hby at_322) 326 (by decide) (by decide) ?_
      refine own_istore X15 hx (#[.val (.int p1), .val (.int p2), .val (.int p3), .val (.int p4), .val (.int p5), .val (.int p6), .val (.int (0 : Int32)), .val (.int (0 : Int32)), .val (.ref mm), .val (.int (1 : Int32))]) (hb hby at_326) rfl 328 rfl ?_
      refine own_iload X15 hx (hb hby at_328) rfl 330 rfl ?_
      refine own_ifcF X15 hx (hb hby at_330) (feq (by decide)).1 333 rfl ?_
      refine own_aload X15 hx (hb hby at_333) rfl rfl 335 rfl ?_
      refine own_iload X15 hx (hb hby at_335) rfl 337 rfl ?_
      refine own_ifcF X15 hx (hb hby at_337) (teq (by decide)).2 340 rfl ?_
      refine own_iconst X15 hx (z := (1 : Int32)) (hb hby at_340) rfl 341 rfl ?_
      refine own_goto X15 hx (hb hby at_341) 345 (by decide) (by decide) ?_
      refine own_iloadN X15 hx (hb hby at_345) rfl 346 rfl ?_
      refine own_callV X15 hx hZ hown (own_w117 hw) (own_w118 hw) (own_w120 hw) (own_w119 hw) (own_w2 hw) (own_w121 hw) (by decide) 0 (own_m_res l Z a0 hw _ n0 FE_13 FA_13 F1_13 F2_13 Gn13 Gc13 (1 : Int32) p4 (r := (-1 : Int32)) (own_res_m1 _ _ (by simp))) e15 E_mm_13 (by rw [hml]; rfl) [(.int (1 : Int32)), (.int p4)] [] rfl (lenOf own_pd_17 rfl) rfl (Nat.le_of_eq rfl) (by decide) (by decide) (by decide) (by decide) (hb hby at_346) N15 349 rfl (fun v16 T16 l16 X16 N16 hP16 => ?_)
      obtain ⟨rfl, e16⟩ := hP16
      show own_G p e below _ (T16.setTop (mkF m 349 #[.val (.int p1), .val (.int p2), .val (.int p3), .val (.int p4), .val (.int p5), .val (.int p6), .val (.int (0 : Int32)), .val (.int (0 : Int32)), .val (.ref mm), .val (.int (1 : Int32))] [(.int (-1 : Int32))]))
      refine own_iconst X16 hx (z := (-1 : Int32)) (hb hby at_349) rfl 350 rfl ?_
      refine own_icmpF X16 hx (hb hby at_350) (teq (by decide)).2 353 rfl ?_
      refine own_iconst X16 hx (z := (1 : Int32)) (hb hby at_353) rfl 354 rfl ?_
      refine own_goto X16 hx (hb hby at_354) 358 (by decide) (by decide) ?_
      refine own_istore X16 hx (#[.val (.int p1), .val (.int p2), .val (.int p3), .val (.int p4), .val (.int p5), .val (.int p6), .val (.int (0 : Int32)), .val (.int (0 : Int32)), .val (.ref mm), .val (.int (1 : Int32))]) (hb hby at_358) rfl 360 rfl ?_
      refine own_iload X16 hx (hb hby at_360) rfl 362 rfl ?_
      exact own_retNS X16 hx hS hret (Or.inl rfl) hlk (hb hby at_362) (by decide) (by decide) N16 e16 Hk_13 rfl
    · refine own_ifcF X0 hx (hb hby at_16) (feq hc2).1 19 rfl ?_
      refine own_iconst X0 hx (z := (1 : Int32)) (hb hby at_19) rfl 20 rfl ?_
      refine own_goto X0 hx (hb hby at_20) 24 (by decide) (by decide) ?_
      refine own_istore X0 hx (#[.val (.int p1), .val (.int p2), .val (.int p3), .val (.int p4), .val (.int p5), .val (.int p6), .val (.int (0 : Int32)), .val (.int (1 : Int32)), .unset, .unset]) (hb hby at_24) rfl 26 rfl ?_
      refine own_newO X0 hx hZ hown (own_w0 hw) (own_w1 hw) (own_w2 hw) e0 (hb hby at_26) (by decide) (by decide) 29 rfl (fun T17 h17 mm g17 X17 e17 E17 B17 D17 => ?_)
      have gn_mm : n0 ≤ mm := Nat.le_trans Z0 (Nat.le_of_eq g17.symm)
      have Z0_17 := Nat.le_trans Z0 E17.1
      have O0_17 := O0.ext E17
      have F_asElement_mm_17 : Fld Z h17 mm "com/example/xqwry/xqwry/MarkupName" "asElement" "Lcom/example/xqwry/xqwry/MarkupName$Resolution;" .null := D17 (Or.inr (own_w45 hw)) (ty := (.object "com/example/xqwry/xqwry/MarkupName$Resolution")) (by decide)
      have F_asAttribute_mm_17 : Fld Z h17 mm "com/example/xqwry/xqwry/MarkupName" "asAttribute" "Lcom/example/xqwry/xqwry/MarkupName$Resolution;" .null := D17 (Or.inr (own_w47 hw)) (ty := (.object "com/example/xqwry/xqwry/MarkupName$Resolution")) (by decide)
      have F_lexicalName_mm_17 : Fld Z h17 mm "com/example/xqwry/xqwry/MarkupName" "lexicalName" "Ljava/lang/String;" .null := D17 (Or.inr (own_w49 hw)) (ty := (.object "java/lang/String")) (by decide)
      have F_prefixed_mm_17 : Fld Z h17 mm "com/example/xqwry/xqwry/MarkupName" "prefixed" "Z" (.int (0 : Int32)) := D17 (Or.inr (own_w92 hw)) (ty := .boolean) (by decide)
      have F_declaredPrefix_mm_17 : Fld Z h17 mm "com/example/xqwry/xqwry/MarkupName" "declaredPrefix" "Ljava/lang/String;" .null := D17 (Or.inr (own_w116 hw)) (ty := (.object "java/lang/String")) (by decide)
      refine own_dup X17 hx (hb hby at_29) rfl 30 rfl ?_
      refine own_iloadN X17 hx (hb hby at_30) rfl 31 rfl ?_
      refine own_iconst X17 hx (z := (2 : Int32)) (hb hby at_31) rfl 32 rfl ?_
      refine own_iushr X17 hx (hb hby at_32) 33 rfl ?_
      refine own_sipush X17 hx (z := (255 : Int32)) (hb hby at_33) rfl 36 rfl ?_
      refine own_iand X17 hx (hb hby at_36) 37 rfl ?_
      refine own_i2c X17 hx (hb hby at_37) 38 rfl ?_
      refine own_callS X17 hx hZ hown (own_w3 hw) (own_w4 hw) (own_w5 hw) (own_w6 hw) (by decide) 2 (own_m_sval l Z a0 hw _ n0 ((((p1.toUInt32 >>> ((2 : Int32) &&& 31).toUInt32).toInt32) &&& (255 : Int32)).toUInt32.toUInt16.toUInt32.toInt32) (own_cec255 _) hcz Z0_17 (SC0.ext O0_17.2)) e17 (by rw [hml]; rfl) [(.int ((((p1.toUInt32 >>> ((2 : Int32) &&& 31).toUInt32).toInt32) &&& (255 : Int32)).toUInt32.toUInt16.toUInt32.toInt32))] [(.ref mm), (.ref mm)] rfl (lenOf own_pd_15 rfl) rfl (Nat.le_of_eq rfl) (by decide) (by decide) (by decide) (by decide) (hb hby at_38) N0 41 rfl (fun v18 T18 l18 X18 N18 hP18 => ?_)
      obtain ⟨sa, sb, fs18, rfl, E_sa, C_sa, V_sa, A_sb, gs18, o_sa_sb, K18'⟩ := hP18
      have Z0_18 := Nat.le_trans Z0_17 K18'.1
      have O0_18 := O0_17.keep K18' all0
      have B17_18 := B17.keep K18'
      have F_asElement_mm_18 := F_asElement_mm_17.keep K18' nin0
      have F_asAttribute_mm_18 := F_asAttribute_mm_17.keep K18' nin0
      have F_lexicalName_mm_18 := F_lexicalName_mm_17.keep K18' nin0
      have F_prefixed_mm_18 := F_prefixed_mm_17.keep K18' nin0
      have F_declaredPrefix_mm_18 := F_declaredPrefix_mm_17.keep K18' nin0
      have o_mm_sa : mm < sa := Nat.lt_of_lt_of_le B17.lt gs18
      have o_mm_sb : mm < sb := Nat.lt_trans o_mm_sa o_sa_sb
      have gn_sa : n0 ≤ sa := Nat.le_trans gn_mm (Nat.le_of_lt o_mm_sa)
      show own_G p e below _ (T18.setTop (mkF m 41 #[.val (.int p1), .val (.int p2), .val (.int p3), .val (.int p4), .val (.int p5), .val (.int p6), .val (.int (0 : Int32)), .val (.int (1 : Int32)), .unset, .unset] [(.ref sa), (.ref mm), (.ref mm)]))
      refine own_callIS X18 hx hZH hown rfl (own_w29 hw) (own_w30 hw) (own_w2 hw) (own_w31 hw) (by decide) 1 (own_m_minit l Z a0 hw _ n0 B17_18 F_lexicalName_mm_18 F_prefixed_mm_18 F_declaredPrefix_mm_18 F_asElement_mm_18 F_asAttribute_mm_18 E_sa C_sa V_sa A_sb gn_mm gn_sa o_mm_sa o_sa_sb o_mm_sb Z0_18 O0_18 wS hH33 hH44 hcw hcz SC0) rfl (by rw [hml]; rfl) mm [.ref sa] [(.ref mm)] rfl (lenOf own_pd_16 rfl) rfl (Nat.le_of_eq rfl) (by decide) (by decide) (by decide) (by decide) (hb hby at_41) N18 44 rfl (fun v19 T19 l19 X19 N19 hS hZ hown hP19 => ?_)
      obtain ⟨rfl, re, ra, FE, FA, Ee, Ea, F1, F2, F3, F4, o_mm_re, o_re_ra, K19'⟩ := hP19
      have E_mm := B17_18.keep K19'
      have o_mm_ra : mm < ra := Nat.lt_trans o_mm_re o_re_ra
      have gn_re : n0 ≤ re := Nat.le_trans gn_mm (Nat.le_of_lt o_mm_re)
      have gn_ra : n0 ≤ ra := Nat.le_trans gn_mm (Nat.le_of_lt o_mm_ra)
      have Hk := Nat.le_refl T19.heap.size
      show own_G p e below _ (T19.setTop (mkF m 44 #[.val (.int p1), .val (.int p2), .val (.int p3), .val (.int p4), .val (.int p5), .val (.int p6), .val (.int (0 : Int32)), .val (.int (1 : Int32)), .unset, .unset] [(.ref mm)]))
      refine own_astore X19 hx (#[.val (.int p1), .val (.int p2), .val (.int p3), .val (.int p4), .val (.int p5), .val (.int p6), .val (.int (0 : Int32)), .val (.int (1 : Int32)), .val (.ref mm), .unset]) (hb hby at_44) rfl rfl 46 rfl ?_
      refine own_aload X19 hx (hb hby at_46) rfl rfl 48 rfl ?_
      refine own_iload X19 hx (hb hby at_48) rfl 50 rfl ?_
      refine own_ifcF X19 hx (hb hby at_50) (teq (by decide)).2 53 rfl ?_
      refine own_iconst X19 hx (z := (1 : Int32)) (hb hby at_53) rfl 54 rfl ?_
      refine own_goto X19 hx (hb hby at_54) 58 (by decide) (by decide) ?_
      refine own_iloadN X19 hx (hb hby at_58) rfl 59 rfl ?_
      refine own_callV X19 hx hZ hown (own_w117 hw) (own_w118 hw) (own_w120 hw) (own_w119 hw) (own_w2 hw) (own_w121 hw) (by decide) 0 (own_m_res l Z a0 hw _ n0 FE FA F1 F2 F3 F4 (1 : Int32) p4 (r := (-1 : Int32)) (own_res_m1 _ _ (by simp))) rfl E_mm (by rw [hml]; rfl) [(.int (1 : Int32)), (.int p4)] [] rfl (lenOf own_pd_17 rfl) rfl (Nat.le_of_eq rfl) (by decide) (by decide) (by decide) (by decide) (hb hby at_59) N19 62 rfl (fun v20 T20 l20 X20 N20 hP20 => ?_)
      obtain ⟨rfl, e20⟩ := hP20
      show own_G p e below _ (T20.setTop (mkF m 62 #[.val (.int p1), .val (.int p2), .val (.int p3), .val (.int p4), .val (.int p5), .val (.int p6), .val (.int (0 : Int32)), .val (.int (1 : Int32)), .val (.ref mm), .unset] [(.int (-1 : Int32))]))
      refine own_iconst X20 hx (z := (-1 : Int32)) (hb hby at_62) rfl 63 rfl ?_
      refine own_icmpF X20 hx (hb hby at_63) (teq (by decide)).2 66 rfl ?_
      refine own_iconst X20 hx (z := (1 : Int32)) (hb hby at_66) rfl 67 rfl ?_
      refine own_goto X20 hx (hb hby at_67) 71 (by decide) (by decide) ?_
      refine own_istore X20 hx (#[.val (.int p1), .val (.int p2), .val (.int p3), .val (.int p4), .val (.int p5), .val (.int p6), .val (.int (0 : Int32)), .val (.int (1 : Int32)), .val (.ref mm), .val (.int (1 : Int32))]) (hb hby at_71) rfl 73 rfl ?_
      refine own_iload X20 hx (hb hby at_73) rfl 75 rfl ?_
      refine own_ifcF X20 hx (hb hby at_75) (feq (by decide)).1 78 rfl ?_
      refine own_aload X20 hx (hb hby at_78) rfl rfl 80 rfl ?_
      refine own_iload X20 hx (hb hby at_80) rfl 82 rfl ?_
      refine own_iloadN X20 hx (hb hby at_82) rfl 83 rfl ?_
      refine own_callV X20 hx hZ hown (own_w117 hw) (own_w118 hw) (own_w120 hw) (own_w119 hw) (own_w2 hw) (own_w121 hw) (by decide) 0 (own_m_res l Z a0 hw _ n0 FE FA F1 F2 F3 F4 (0 : Int32) p4 (r := (-1 : Int32)) (own_res_m1 _ _ (by simp))) e20 E_mm (by rw [hml]; rfl) [(.int (0 : Int32)), (.int p4)] [] rfl (lenOf own_pd_17 rfl) rfl (Nat.le_of_eq rfl) (by decide) (by decide) (by decide) (by decide) (hb hby at_83) N20 86 rfl (fun v21 T21 l21 X21 N21 hP21 => ?_)
      obtain ⟨rfl, e21⟩ := hP21
      show own_G p e below _ (T21.setTop (mkF m 86 #[.val (.int p1), .val (.int p2), .val (.int p3), .val (.int p4), .val (.int p5), .val (.int p6), .val (.int (0 : Int32)), .val (.int (1 : Int32)), .val (.ref mm), .val (.int (1 : Int32))] [(.int (-1 : Int32))]))
      refine own_iconst X21 hx (z := (-1 : Int32)) (hb hby at_86) rfl 87 rfl ?_
      refine own_icmpF X21 hx (hb hby at_87) (teq (by decide)).2 90 rfl ?_
      refine own_iconst X21 hx (z := (1 : Int32)) (hb hby at_90) rfl 91 rfl ?_
      refine own_goto X21 hx (hb hby at_91) 95 (by decide) (by decide) ?_
      refine own_istore X21 hx (#[.val (.int p1), .val (.int p2), .val (.int p3), .val (.int p4), .val (.int p5), .val (.int p6), .val (.int (0 : Int32)), .val (.int (1 : Int32)), .val (.ref mm), .val (.int (1 : Int32))]) (hb hby at_95) rfl 97 rfl ?_
      refine own_aload X21 hx (hb hby at_97) rfl rfl 99 rfl ?_
      refine own_iload X21 hx (hb hby at_99) rfl 101 rfl ?_
      refine own_iloadN X21 hx (hb hby at_101) rfl 102 rfl ?_
      refine own_iloadN X21 hx (hb hby at_102) rfl 103 rfl ?_
      refine own_callV X21 hx hZ hown (own_w123 hw) (own_w124 hw) (own_w126 hw) (own_w125 hw) (own_w2 hw) (own_w127 hw) (by decide) 0 (own_m_keep0 l Z a0 hw _ n0 FE FA Ea F3 F4 gn_ra (Nat.ne_of_lt o_mm_ra) (0 : Int32) p2 p3 (by decide)) e21 E_mm (by rw [hml]; rfl) [(.int (0 : Int32)), (.int p2), (.int p3)] [] rfl (lenOf own_pd_18 rfl) rfl (Nat.le_of_eq rfl) (by decide) (by decide) (by decide) (by decide) (hb hby at_103) N21 106 rfl (fun v22 T22 l22 X22 N22 hP22 => ?_)
      obtain ⟨rfl, Gn22, Gc22, K22'⟩ := hP22
      have Hk_22 := Nat.le_trans Hk K22'.1
      have E_mm_22 := E_mm.keep K22'
      have FE_22 := FE.keep K22' (ninS (Nat.ne_of_lt o_mm_ra) nin0)
      have FA_22 := FA.keep K22' (ninS (Nat.ne_of_lt o_mm_ra) nin0)
      have Ee_22 := Ee.keep K22'
      have Ea_22 := Ea.keep K22'
      have F1_22 := F1.keep K22' (ninS (Nat.ne_of_lt o_re_ra) nin0)
      have F2_22 := F2.keep K22' (ninS (Nat.ne_of_lt o_re_ra) nin0)
      show own_G p e below _ (T22.setTop (mkF m 106 #[.val (.int p1), .val (.int p2), .val (.int p3), .val (.int p4), .val (.int p5), .val (.int p6), .val (.int (0 : Int32)), .val (.int (1 : Int32)), .val (.ref mm), .val (.int (1 : Int32))] []))
      refine own_iload X22 hx (hb hby at_106) rfl 108 rfl ?_
      refine own_ifcF X22 hx (hb hby at_108) (feq (by decide)).1 111 rfl ?_
      refine own_aload X22 hx (hb hby at_111) rfl rfl 113 rfl ?_
      refine own_iload X22 hx (hb hby at_113) rfl 115 rfl ?_
      refine own_iloadN X22 hx (hb hby at_115) rfl 116 rfl ?_
      refine own_callV X22 hx hZ hown (own_w117 hw) (own_w118 hw) (own_w120 hw) (own_w119 hw) (own_w2 hw) (own_w121 hw) (by decide) 0 (own_m_res l Z a0 hw _ n0 FE_22 FA_22 F1_22 F2_22 Gn22 Gc22 (0 : Int32) p3 (r := p2) (own_res_n0 _ _ _ _)) rfl E_mm_22 (by rw [hml]; rfl) [(.int (0 : Int32)), (.int p3)] [] rfl (lenOf own_pd_17 rfl) rfl (Nat.le_of_eq rfl) (by decide) (by decide) (by decide) (by decide) (hb hby at_116) N22 119 rfl (fun v23 T23 l23 X23 N23 hP23 => ?_)
      obtain ⟨rfl, e23⟩ := hP23
      show own_G p e below _ (T23.setTop (mkF m 119 #[.val (.int p1), .val (.int p2), .val (.int p3), .val (.int p4), .val (.int p5), .val (.int p6), .val (.int (0 : Int32)), .val (.int (1 : Int32)), .val (.ref mm), .val (.int (1 : Int32))] [(.int p2)]))
      refine own_iloadN X23 hx (hb hby at_119) rfl 120 rfl ?_
      refine own_icmpF X23 hx (hb hby at_120) (teq rfl).2 123 rfl ?_
      refine own_iconst X23 hx (z := (1 : Int32)) (hb hby at_123) rfl 124 rfl ?_
      refine own_goto X23 hx (hb hby at_124) 128 (by decide) (by decide) ?_
      refine own_istore X23 hx (#[.val (.int p1), .val (.int p2), .val (.int p3), .val (.int p4), .val (.int p5), .val (.int p6), .val (.int (0 : Int32)), .val (.int (1 : Int32)), .val (.ref mm), .val (.int (1 : Int32))]) (hb hby at_128) rfl 130 rfl ?_
      refine own_iload X23 hx (hb hby at_130) rfl 132 rfl ?_
      refine own_ifcF X23 hx (hb hby at_132) (feq (by decide)).1 135 rfl ?_
      refine own_aload X23 hx (hb hby at_135) rfl rfl 137 rfl ?_
      refine own_iload X23 hx (hb hby at_137) rfl 139 rfl ?_
      refine own_iloadN X23 hx (hb hby at_139) rfl 140 rfl ?_
      refine own_callV X23 hx hZ hown (own_w117 hw) (own_w118 hw) (own_w120 hw) (own_w119 hw) (own_w2 hw) (own_w121 hw) (by decide) 0 (own_m_res l Z a0 hw _ n0 FE_22 FA_22 F1_22 F2_22 Gn22 Gc22 (0 : Int32) p4 (r := (own_f_exp p4 p3 p2)) (own_res_e0 _ _ _ _ _)) e23 E_mm_22 (by rw [hml]; rfl) [(.int (0 : Int32)), (.int p4)] [] rfl (lenOf own_pd_17 rfl) rfl (Nat.le_of_eq rfl) (by decide) (by decide) (by decide) (by decide) (hb hby at_140) N23 143 rfl (fun v24 T24 l24 X24 N24 hP24 => ?_)
      obtain ⟨rfl, e24⟩ := hP24
      show own_G p e below _ (T24.setTop (mkF m 143 #[.val (.int p1), .val (.int p2), .val (.int p3), .val (.int p4), .val (.int p5), .val (.int p6), .val (.int (0 : Int32)), .val (.int (1 : Int32)), .val (.ref mm), .val (.int (1 : Int32))] [(.int (own_f_exp p4 p3 p2))]))
      refine own_iloadN X24 hx (hb hby at_143) rfl 144 rfl ?_
      refine own_iloadN X24 hx (hb hby at_144) rfl 145 rfl ?_
      refine own_iloadN X24 hx (hb hby at_145) rfl 146 rfl ?_
      refine own_callS X24 hx hZ hown (own_w129 hw) (own_w130 hw) (own_w131 hw) (own_w132 hw) (by decide) 1 (own_m_exp l Z a0 hw _ n0 p4 p3 p2 (r := (own_f_exp p4 p3 p2)) rfl) e24 (by rw [hml]; rfl) [(.int p4), (.int p3), (.int p2)] [(.int (own_f_exp p4 p3 p2))] rfl (lenOf own_pd_19 rfl) rfl (Nat.le_of_eq rfl) (by decide) (by decide) (by decide) (by decide) (hb hby at_146) N24 149 rfl (fun v25 T25 l25 X25 N25 hP25 => ?_)
      obtain ⟨rfl, e25⟩ := hP25
      show own_G p e below _ (T25.setTop (mkF m 149 #[.val (.int p1), .val (.int p2), .val (.int p3), .val (.int p4), .val (.int p5), .val (.int p6), .val (.int (0 : Int32)), .val (.int (1 : Int32)), .val (.ref mm), .val (.int (1 : Int32))] [(.int (own_f_exp p4 p3 p2)), (.int (own_f_exp p4 p3 p2))]))
      refine own_icmpF X25 hx (hb hby at_149) (teq rfl).2 152 rfl ?_
      refine own_iconst X25 hx (z := (1 : Int32)) (hb hby at_152) rfl 153 rfl ?_
      refine own_goto X25 hx (hb hby at_153) 157 (by decide) (by decide) ?_
      refine own_istore X25 hx (#[.val (.int p1), .val (.int p2), .val (.int p3), .val (.int p4), .val (.int p5), .val (.int p6), .val (.int (0 : Int32)), .val (.int (1 : Int32)), .val (.ref mm), .val (.int (1 : Int32))]) (hb hby at_157) rfl 159 rfl ?_
      refine own_iload X25 hx (hb hby at_159) rfl 161 rfl ?_
      refine own_ifcF X25 hx (hb hby at_161) (feq (by decide)).1 164 rfl ?_
      refine own_aload X25 hx (hb hby at_164) rfl rfl 166 rfl ?_
      refine own_iload X25 hx (hb hby at_166) rfl 168 rfl ?_
      refine own_ifcF X25 hx (hb hby at_168) (teq (by decide)).2 171 rfl ?_
      refine own_iconst X25 hx (z := (1 : Int32)) (hb hby at_171) rfl 172 rfl ?_
      refine own_goto X25 hx (hb hby at_172) 176 (by decide) (by decide) ?_
      refine own_iloadN X25 hx (hb hby at_176) rfl 177 rfl ?_
      refine own_callV X25 hx hZ hown (own_w117 hw) (own_w118 hw) (own_w120 hw) (own_w119 hw) (own_w2 hw) (own_w121 hw) (by decide) 0 (own_m_res l Z a0 hw _ n0 FE_22 FA_22 F1_22 F2_22 Gn22 Gc22 (1 : Int32) p4 (r := (-1 : Int32)) (own_res_m1 _ _ (by simp))) e25 E_mm_22 (by rw [hml]; rfl) [(.int (1 : Int32)), (.int p4)] [] rfl (lenOf own_pd_17 rfl) rfl (Nat.le_of_eq rfl) (by decide) (by decide) (by decide) (by decide) (hb hby at_177) N25 180 rfl (fun v26 T26 l26 X26 N26 hP26 => ?_)
      obtain ⟨rfl, e26⟩ := hP26
      show own_G p e below _ (T26.setTop (mkF m 180 #[.val (.int p1), .val (.int p2), .val (.int p3), .val (.int p4), .val (.int p5), .val (.int p6), .val (.int (0 : Int32)), .val (.int (1 : Int32)), .val (.ref mm), .val (.int (1 : Int32))] [(.int (-1 : Int32))]))
      refine own_iconst X26 hx (z := (-1 : Int32)) (hb hby at_180) rfl 181 rfl ?_
      refine own_icmpF X26 hx (hb hby at_181) (teq (by decide)).2 184 rfl ?_
      refine own_iconst X26 hx (z := (1 : Int32)) (hb hby at_184) rfl 185 rfl ?_
      refine own_goto X26 hx (hb hby at_185) 189 (by decide) (by decide) ?_
      refine own_istore X26 hx (#[.val (.int p1), .val (.int p2), .val (.int p3), .val (.int p4), .val (.int p5), .val (.int p6), .val (.int (0 : Int32)), .val (.int (1 : Int32)), .val (.ref mm), .val (.int (1 : Int32))]) (hb hby at_189) rfl 191 rfl ?_
      refine own_iload X26 hx (hb hby at_191) rfl 193 rfl ?_
      refine own_ifcF X26 hx (hb hby at_193) (feq (by decide)).1 196 rfl ?_
      refine own_aload X26 hx (hb hby at_196) rfl rfl 198 rfl ?_
      refine own_iload X26 hx (hb hby at_198) rfl 200 rfl ?_
      refine own_ifcF X26 hx (hb hby at_200) (teq (by decide)).2 203 rfl ?_
      refine own_iconst X26 hx (z := (1 : Int32)) (hb hby at_203) rfl 204 rfl ?_
      refine own_goto X26 hx (hb hby at_204) 208 (by decide) (by decide) ?_
      refine own_iload X26 hx (hb hby at_208) rfl 210 rfl ?_
      refine own_iload X26 hx (hb hby at_210) rfl 212 rfl ?_
      refine own_callV X26 hx hZ hown (own_w123 hw) (own_w124 hw) (own_w126 hw) (own_w125 hw) (own_w2 hw) (own_w127 hw) (by decide) 0 (own_m_keep1 l Z a0 hw _ n0 FE_22 FA_22 Ee_22 F1_22 F2_22 gn_re (Nat.ne_of_lt o_mm_re) (1 : Int32) p5 p6 (by decide)) e26 E_mm_22 (by rw [hml]; rfl) [(.int (1 : Int32)), (.int p5), (.int p6)] [] rfl (lenOf own_pd_18 rfl) rfl (Nat.le_of_eq rfl) (by decide) (by decide) (by decide) (by decide) (hb hby at_212) N26 215 rfl (fun v27 T27 l27 X27 N27 hP27 => ?_)
      obtain ⟨rfl, Gn27, Gc27, K27'⟩ := hP27
      have Hk_27 := Nat.le_trans Hk_22 K27'.1
      have E_mm_27 := E_mm_22.keep K27'
      have FE_27 := FE_22.keep K27' (ninS (Nat.ne_of_lt o_mm_re) nin0)
      have FA_27 := FA_22.keep K27' (ninS (Nat.ne_of_lt o_mm_re) nin0)
      have Ee_27 := Ee_22.keep K27'
      have Ea_27 := Ea_22.keep K27'
      have Gn22_27 := Gn22.keep K27' (ninS (Nat.ne_of_gt o_re_ra) nin0)
      have Gc22_27 := Gc22.keep K27' (ninS (Nat.ne_of_gt o_re_ra) nin0)
      show own_G p e below _ (T27.setTop (mkF m 215 #[.val (.int p1), .val (.int p2), .val (.int p3), .val (.int p4), .val (.int p5), .val (.int p6), .val (.int (0 : Int32)), .val (.int (1 : Int32)), .val (.ref mm), .val (.int (1 : Int32))] []))
      refine own_iload X27 hx (hb hby at_215) rfl 217 rfl ?_
      refine own_ifcF X27 hx (hb hby at_217) (feq (by decide)).1 220 rfl ?_
      refine own_aload X27 hx (hb hby at_220) rfl rfl 222 rfl ?_
      refine own_iload X27 hx (hb hby at_222) rfl 224 rfl ?_
      refine own_ifcF X27 hx (hb hby at_224) (teq (by decide)).2 227 rfl ?_
      refine own_iconst X27 hx (z := (1 : Int32)) (hb hby at_227) rfl 228 rfl ?_
      refine own_goto X27 hx (hb hby at_228) 232 (by decide) (by decide) ?_
      refine own_iloadN X27 hx (hb hby at_232) rfl 233 rfl ?_
      refine own_callV X27 hx hZ hown (own_w117 hw) (own_w118 hw) (own_w120 hw) (own_w119 hw) (own_w2 hw) (own_w121 hw) (by decide) 0 (own_m_res l Z a0 hw _ n0 FE_27 FA_27 Gn27 Gc27 Gn22_27 Gc22_27 (1 : Int32) p4 (r := (own_f_exp p4 p6 p5)) (own_res_e1 _ _ _ _ _)) rfl E_mm_27 (by rw [hml]; rfl) [(.int (1 : Int32)), (.int p4)] [] rfl (lenOf own_pd_17 rfl) rfl (Nat.le_of_eq rfl) (by decide) (by decide) (by decide) (by decide) (hb hby at_233) N27 236 rfl (fun v28 T28 l28 X28 N28 hP28 => ?_)
      obtain ⟨rfl, e28⟩ := hP28
      show own_G p e below _ (T28.setTop (mkF m 236 #[.val (.int p1), .val (.int p2), .val (.int p3), .val (.int p4), .val (.int p5), .val (.int p6), .val (.int (0 : Int32)), .val (.int (1 : Int32)), .val (.ref mm), .val (.int (1 : Int32))] [(.int (own_f_exp p4 p6 p5))]))
      refine own_iloadN X28 hx (hb hby at_236) rfl 237 rfl ?_
      refine own_iload X28 hx (hb hby at_237) rfl 239 rfl ?_
      refine own_iload X28 hx (hb hby at_239) rfl 241 rfl ?_
      refine own_callS X28 hx hZ hown (own_w129 hw) (own_w130 hw) (own_w131 hw) (own_w132 hw) (by decide) 1 (own_m_exp l Z a0 hw _ n0 p4 p6 p5 (r := (own_f_exp p4 p6 p5)) rfl) e28 (by rw [hml]; rfl) [(.int p4), (.int p6), (.int p5)] [(.int (own_f_exp p4 p6 p5))] rfl (lenOf own_pd_19 rfl) rfl (Nat.le_of_eq rfl) (by decide) (by decide) (by decide) (by decide) (hb hby at_241) N28 244 rfl (fun v29 T29 l29 X29 N29 hP29 => ?_)
      obtain ⟨rfl, e29⟩ := hP29
      show own_G p e below _ (T29.setTop (mkF m 244 #[.val (.int p1), .val (.int p2), .val (.int p3), .val (.int p4), .val (.int p5), .val (.int p6), .val (.int (0 : Int32)), .val (.int (1 : Int32)), .val (.ref mm), .val (.int (1 : Int32))] [(.int (own_f_exp p4 p6 p5)), (.int (own_f_exp p4 p6 p5))]))
      refine own_icmpF X29 hx (hb hby at_244) (teq rfl).2 247 rfl ?_
      refine own_iconst X29 hx (z := (1 : Int32)) (hb hby at_247) rfl 248 rfl ?_
      refine own_goto X29 hx (hb hby at_248) 252 (by decide) (by decide) ?_
      refine own_istore X29 hx (#[.val (.int p1), .val (.int p2), .val (.int p3), .val (.int p4), .val (.int p5), .val (.int p6), .val (.int (0 : Int32)), .val (.int (1 : Int32)), .val (.ref mm), .val (.int (1 : Int32))]) (hb hby at_252) rfl 254 rfl ?_
      refine own_iload X29 hx (hb hby at_254) rfl 256 rfl ?_
      refine own_ifcF X29 hx (hb hby at_256) (feq (by decide)).1 259 rfl ?_
      refine own_aload X29 hx (hb hby at_259) rfl rfl 261 rfl ?_
      refine own_iload X29 hx (hb hby at_261) rfl 263 rfl ?_
      refine own_iloadN X29 hx (hb hby at_263) rfl 264 rfl ?_
      refine own_callV X29 hx hZ hown (own_w117 hw) (own_w118 hw) (own_w120 hw) (own_w119 hw) (own_w2 hw) (own_w121 hw) (by decide) 0 (own_m_res l Z a0 hw _ n0 FE_27 FA_27 Gn27 Gc27 Gn22_27 Gc22_27 (0 : Int32) p4 (r := (own_f_exp p4 p3 p2)) (own_res_e0 _ _ _ _ _)) e29 E_mm_27 (by rw [hml]; rfl) [(.int (0 : Int32)), (.int p4)] [] rfl (lenOf own_pd_17 rfl) rfl (Nat.le_of_eq rfl) (by decide) (by decide) (by decide) (by decide) (hb hby at_264) N29 267 rfl (fun v30 T30 l30 X30 N30 hP30 => ?_)
      obtain ⟨rfl, e30⟩ := hP30
      show own_G p e below _ (T30.setTop (mkF m 267 #[.val (.int p1), .val (.int p2), .val (.int p3), .val (.int p4), .val (.int p5), .val (.int p6), .val (.int (0 : Int32)), .val (.int (1 : Int32)), .val (.ref mm), .val (.int (1 : Int32))] [(.int (own_f_exp p4 p3 p2))]))
      refine own_iloadN X30 hx (hb hby at_267) rfl 268 rfl ?_
      refine own_iloadN X30 hx (hb hby at_268) rfl 269 rfl ?_
      refine own_iloadN X30 hx (hb hby at_269) rfl 270 rfl ?_
      refine own_callS X30 hx hZ hown (own_w129 hw) (own_w130 hw) (own_w131 hw) (own_w132 hw) (by decide) 1 (own_m_exp l Z a0 hw _ n0 p4 p3 p2 (r := (own_f_exp p4 p3 p2)) rfl) e30 (by rw [hml]; rfl) [(.int p4), (.int p3), (.int p2)] [(.int (own_f_exp p4 p3 p2))] rfl (lenOf own_pd_19 rfl) rfl (Nat.le_of_eq rfl) (by decide) (by decide) (by decide) (by decide) (hb hby at_270) N30 273 rfl (fun v31 T31 l31 X31 N31 hP31 => ?_)
      obtain ⟨rfl, e31⟩ := hP31
      show own_G p e below _ (T31.setTop (mkF m 273 #[.val (.int p1), .val (.int p2), .val (.int p3), .val (.int p4), .val (.int p5), .val (.int p6), .val (.int (0 : Int32)), .val (.int (1 : Int32)), .val (.ref mm), .val (.int (1 : Int32))] [(.int (own_f_exp p4 p3 p2)), (.int (own_f_exp p4 p3 p2))]))
      refine own_icmpF X31 hx (hb hby at_273) (teq rfl).2 276 rfl ?_
      refine own_iconst X31 hx (z := (1 : Int32)) (hb hby at_276) rfl 277 rfl ?_
      refine own_goto X31 hx (hb hby at_277) 281 (by decide) (by decide) ?_
      refine own_istore X31 hx (#[.val (.int p1), .val (.int p2), .val (.int p3), .val (.int p4), .val (.int p5), .val (.int p6), .val (.int (0 : Int32)), .val (.int (1 : Int32)), .val (.ref mm), .val (.int (1 : Int32))]) (hb hby at_281) rfl 283 rfl ?_
      refine own_goto X31 hx (hb hby at_283) 360 (by decide) (by decide) ?_
      refine own_iload X31 hx (hb hby at_360) rfl 362 rfl ?_
      exact own_retNS X31 hx hS hret (Or.inl rfl) hlk (hb hby at_362) (by decide) (by decide) N31 e31 Hk_27 rfl
  · refine own_ifcF X0 hx (hb hby at_3) (feq hc1).1 6 rfl ?_
    refine own_iconst X0 hx (z := (1 : Int32)) (hb hby at_6) rfl 7 rfl ?_
    refine own_goto X0 hx (hb hby at_7) 11 (by decide) (by decide) ?_
    refine own_istore X0 hx (#[.val (.int p1), .val (.int p2), .val (.int p3), .val (.int p4), .val (.int p5), .val (.int p6), .val (.int (1 : Int32)), .unset, .unset, .unset]) (hb hby at_11) rfl 13 rfl ?_
    refine own_iloadN X0 hx (hb hby at_13) rfl 14 rfl ?_
    refine own_iconst X0 hx (z := (2 : Int32)) (hb hby at_14) rfl 15 rfl ?_
    refine own_iand X0 hx (hb hby at_15) 16 rfl ?_
    by_cases hc32 : (p1 &&& (2 : Int32)) = (0 : Int32)
    · refine own_ifcT X0 hx (hb hby at_16) (teq hc32).1 23 (by decide) (by decide) ?_
      refine own_iconst X0 hx (z := (0 : Int32)) (hb hby at_23) rfl 24 rfl ?_
      refine own_istore X0 hx (#[.val (.int p1), .val (.int p2), .val (.int p3), .val (.int p4), .val (.int p5), .val (.int p6), .val (.int (1 : Int32)), .val (.int (0 : Int32)), .unset, .unset]) (hb hby at_24) rfl 26 rfl ?_
      refine own_newO X0 hx hZ hown (own_w0 hw) (own_w1 hw) (own_w2 hw) e0 (hb hby at_26) (by decide) (by decide) 29 rfl (fun T33 h33 mm g33 X33 e33 E33 B33 D33 => ?_)
      have gn_mm : n0 ≤ mm := Nat.le_trans Z0 (Nat.le_of_eq g33.symm)
      have Z0_33 := Nat.le_trans Z0 E33.1
      have O0_33 := O0.ext E33
      have F_asElement_mm_33 : Fld Z h33 mm "com/example/xqwry/xqwry/MarkupName" "asElement" "Lcom/example/xqwry/xqwry/MarkupName$Resolution;" .null := D33 (Or.inr (own_w45 hw)) (ty := (.object "com/example/xqwry/xqwry/MarkupName$Resolution")) (by decide)
      have F_asAttribute_mm_33 : Fld Z h33 mm "com/example/xqwry/xqwry/MarkupName" "asAttribute" "Lcom/example/xqwry/xqwry/MarkupName$Resolution;" .null := D33 (Or.inr (own_w47 hw)) (ty := (.object "com/example/xqwry/xqwry/MarkupName$Resolution")) (by decide)
      have F_lexicalName_mm_33 : Fld Z h33 mm "com/example/xqwry/xqwry/MarkupName" "lexicalName" "Ljava/lang/String;" .null := D33 (Or.inr (own_w49 hw)) (ty := (.object "java/lang/String")) (by decide)
      have F_prefixed_mm_33 : Fld Z h33 mm "com/example/xqwry/xqwry/MarkupName" "prefixed" "Z" (.int (0 : Int32)) := D33 (Or.inr (own_w92 hw)) (ty := .boolean) (by decide)
      have F_declaredPrefix_mm_33 : Fld Z h33 mm "com/example/xqwry/xqwry/MarkupName" "declaredPrefix" "Ljava/lang/String;" .null := D33 (Or.inr (own_w116 hw)) (ty := (.object "java/lang/String")) (by decide)
      refine own_dup X33 hx (hb hby at_29) rfl 30 rfl ?_
      refine own_iloadN X33 hx (hb hby at_30) rfl 31 rfl ?_
      refine own_iconst X33 hx (z := (2 : Int32)) (hb hby at_31) rfl 32 rfl ?_
      refine own_iushr X33 hx (hb hby at_32) 33 rfl ?_
      refine own_sipush X33 hx (z := (255 : Int32)) (hb hby at_33) rfl 36 rfl ?_
      refine own_iand X33 hx (hb hby at_36) 37 rfl ?_
      refine own_i2c X33 hx (hb hby at_37) 38 rfl ?_
      refine own_callS X33 hx hZ hown (own_w3 hw) (own_w4 hw) (own_w5 hw) (own_w6 hw) (by decide) 2 (own_m_sval l Z a0 hw _ n0 ((((p1.toUInt32 >>> ((2 : Int32) &&& 31).toUInt32).toInt32) &&& (255 : Int32)).toUInt32.toUInt16.toUInt32.toInt32) (own_cec255 _) hcz Z0_33 (SC0.ext O0_33.2)) e33 (by rw [hml]; rfl) [(.int ((((p1.toUInt32 >>> ((2 : Int32) &&& 31).toUInt32).toInt32) &&& (255 : Int32)).toUInt32.toUInt16.toUInt32.toInt32))] [(.ref mm), (.ref mm)] rfl (lenOf own_pd_15 rfl) rfl (Nat.le_of_eq rfl) (by decide) (by decide) (by decide) (by decide) (hb hby at_38) N0 41 rfl (fun v34 T34 l34 X34 N34 hP34 => ?_)
      obtain ⟨sa, sb, fs34, rfl, E_sa, C_sa, V_sa, A_sb, gs34, o_sa_sb, K34'⟩ := hP34
      have Z0_34 := Nat.le_trans Z0_33 K34'.1
      have O0_34 := O0_33.keep K34' all0
      have B33_34 := B33.keep K34'
      have F_asElement_mm_34 := F_asElement_mm_33.keep K34' nin0
      have F_asAttribute_mm_34 := F_asAttribute_mm_33.keep K34' nin0
      have F_lexicalName_mm_34 := F_lexicalName_mm_33.keep K34' nin0
      have F_prefixed_mm_34 := F_prefixed_mm_33.keep K34' nin0
      have F_declaredPrefix_mm_34 := F_declaredPrefix_mm_33.keep K34' nin0
      have o_mm_sa : mm < sa := Nat.lt_of_lt_of_le B33.lt gs34
      have o_mm_sb : mm < sb := Nat.lt_trans o_mm_sa o_sa_sb
      have gn_sa : n0 ≤ sa := Nat.le_trans gn_mm (Nat.le_of_lt o_mm_sa)
      show own_G p e below _ (T34.setTop (mkF m 41 #[.val (.int p1), .val (.int p2), .val (.int p3), .val (.int p4), .val (.int p5), .val (.int p6), .val (.int (1 : Int32)), .val (.int (0 : Int32)), .unset, .unset] [(.ref sa), (.ref mm), (.ref mm)]))
      refine own_callIS X34 hx hZH hown rfl (own_w29 hw) (own_w30 hw) (own_w2 hw) (own_w31 hw) (by decide) 1 (own_m_minit l Z a0 hw _ n0 B33_34 F_lexicalName_mm_34 F_prefixed_mm_34 F_declaredPrefix_mm_34 F_asElement_mm_34 F_asAttribute_mm_34 E_sa C_sa V_sa A_sb gn_mm gn_sa o_mm_sa o_sa_sb o_mm_sb Z0_34 O0_34 wS hH33 hH44 hcw hcz SC0) rfl (by rw [hml]; rfl) mm [.ref sa] [(.ref mm)] rfl (lenOf own_pd_16 rfl) rfl (Nat.le_of_eq rfl) (by decide) (by decide) (by decide) (by decide) (hb hby at_41) N34 44 rfl (fun v35 T35 l35 X35 N35 hS hZ hown hP35 => ?_)
      obtain ⟨rfl, re, ra, FE, FA, Ee, Ea, F1, F2, F3, F4, o_mm_re, o_re_ra, K35'⟩ := hP35
      have E_mm := B33_34.keep K35'
      have o_mm_ra : mm < ra := Nat.lt_trans o_mm_re o_re_ra
      have gn_re : n0 ≤ re := Nat.le_trans gn_mm (Nat.le_of_lt o_mm_re)
      have gn_ra : n0 ≤ ra := Nat.le_trans gn_mm (Nat.le_of_lt o_mm_ra)
      have Hk := Nat.le_refl T35.heap.size
      show own_G p e below _ (T35.setTop (mkF m 44 #[.val (.int p1), .val (.int p2), .val (.int p3), .val (.int p4), .val (.int p5), .val (.int p6), .val (.int (1 : Int32)), .val (.int (0 : Int32)), .unset, .unset] [(.ref mm)]))
      refine own_astore X35 hx (#[.val (.int p1), .val (.int p2), .val (.int p3), .val (.int p4), .val (.int p5), .val (.int p6), .val (.int (1 : Int32)), .val (.int (0 : Int32)), .val (.ref mm), .unset]) (hb hby at_44) rfl rfl 46 rfl ?_
      refine own_aload X35 hx (hb hby at_46) rfl rfl 48 rfl ?_
      refine own_iload X35 hx (hb hby at_48) rfl 50 rfl ?_
      refine own_ifcT X35 hx (hb hby at_50) (feq (by decide)).2 57 (by decide) (by decide) ?_
      refine own_iconst X35 hx (z := (0 : Int32)) (hb hby at_57) rfl 58 rfl ?_
      refine own_iloadN X35 hx (hb hby at_58) rfl 59 rfl ?_
      refine own_callV X35 hx hZ hown (own_w117 hw) (own_w118 hw) (own_w120 hw) (own_w119 hw) (own_w2 hw) (own_w121 hw) (by decide) 0 (own_m_res l Z a0 hw _ n0 FE FA F1 F2 F3 F4 (0 : Int32) p4 (r := (-1 : Int32)) (own_res_m1 _ _ (by simp))) rfl E_mm (by rw [hml]; rfl) [(.int (0 : Int32)), (.int p4)] [] rfl (lenOf own_pd_17 rfl) rfl (Nat.le_of_eq rfl) (by decide) (by decide) (by decide) (by decide) (hb hby at_59) N35 62 rfl (fun v36 T36 l36 X36 N36 hP36 => ?_)
      obtain ⟨rfl, e36⟩ := hP36
      show own_G p e below _ (T36.setTop (mkF m 62 #[.val (.int p1), .val (.int p2), .val (.int p3), .val (.int p4), .val (.int p5), .val (.int p6), .val (.int (1 : Int32)), .val (.int (0 : Int32)), .val (.ref mm), .unset] [(.int (-1 : Int32))]))
      refine own_iconst X36 hx (z := (-1 : Int32)) (hb hby at_62) rfl 63 rfl ?_
      refine own_icmpF X36 hx (hb hby at_63) (teq (by decide)).2 66 rfl ?_
      refine own_iconst X36 hx (z := (1 : Int32)) (hb hby at_66) rfl 67 rfl ?_
      refine own_goto X36 hx (hb hby at_67) 71 (by decide) (by decide) ?_
      refine own_istore X36 hx (#[.val (.int p1), .val (.int p2), .val (.int p3), .val (.int p4), .val (.int p5), .val (.int p6), .val (.int (1 : Int32)), .val (.int (0 : Int32)), .val (.ref mm), .val (.int (1 : Int32))]) (hb hby at_71) rfl 73 rfl ?_
      refine own_iload X36 hx (hb hby at_73) rfl 75 rfl ?_
      refine own_ifcF X36 hx (hb hby at_75) (feq (by decide)).1 78 rfl ?_
      refine own_aload X36 hx (hb hby at_78) rfl rfl 80 rfl ?_
      refine own_iload X36 hx (hb hby at_80) rfl 82 rfl ?_
      refine own_iloadN X36 hx (hb hby at_82) rfl 83 rfl ?_
      refine own_callV X36 hx hZ hown (own_w117 hw) (own_w118 hw) (own_w120 hw) (own_w119 hw) (own_w2 hw) (own_w121 hw) (by decide) 0 (own_m_res l Z a0 hw _ n0 FE FA F1 F2 F3 F4 (1 : Int32) p4 (r := (-1 : Int32)) (own_res_m1 _ _ (by simp))) e36 E_mm (by rw [hml]; rfl) [(.int (1 : Int32)), (.int p4)] [] rfl (lenOf own_pd_17 rfl) rfl (Nat.le_of_eq rfl) (by decide) (by decide) (by decide) (by decide) (hb hby at_83) N36 86 rfl (fun v37 T37 l37 X37 N37 hP37 => ?_)
      obtain ⟨rfl, e37⟩ := hP37
      show own_G p e below _ (T37.setTop (mkF m 86 #[.val (.int p1), .val (.int p2), .val (.int p3), .val (.int p4), .val (.int p5), .val (.int p6), .val (.int (1 : Int32)), .val (.int (0 : Int32)), .val (.ref mm), .val (.int (1 : Int32))] [(.int (-1 : Int32))]))
      refine own_iconst X37 hx (z := (-1 : Int32)) (hb hby at_86) rfl 87 rfl ?_
      refine own_icmpF X37 hx (hb hby at_87) (teq (by decide)).2 90 rfl ?_
      refine own_iconst X37 hx (z := (1 : Int32)) (hb hby at_90) rfl 91 rfl ?_
      refine own_goto X37 hx (hb hby at_91) 95 (by decide) (by decide) ?_
      refine own_istore X37 hx (#[.val (.int p1), .val (.int p2), .val (.int p3), .val (.int p4), .val (.int p5), .val (.int p6), .val (.int (1 : Int32)), .val (.int (0 : Int32)), .val (.ref mm), .val (.int (1 : Int32))]) (hb hby at_95) rfl 97 rfl ?_
      refine own_aload X37 hx (hb hby at_97) rfl rfl 99 rfl ?_
      refine own_iload X37 hx (hb hby at_99) rfl 101 rfl ?_
      refine own_iloadN X37 hx (hb hby at_101) rfl 102 rfl ?_
      refine own_iloadN X37 hx (hb hby at_102) rfl 103 rfl ?_
      refine own_callV X37 hx hZ hown (own_w123 hw) (own_w124 hw) (own_w126 hw) (own_w125 hw) (own_w2 hw) (own_w127 hw) (by decide) 0 (own_m_keep1 l Z a0 hw _ n0 FE FA Ee F1 F2 gn_re (Nat.ne_of_lt o_mm_re) (1 : Int32) p2 p3 (by decide)) e37 E_mm (by rw [hml]; rfl) [(.int (1 : Int32)), (.int p2), (.int p3)] [] rfl (lenOf own_pd_18 rfl) rfl (Nat.le_of_eq rfl) (by decide) (by decide) (by decide) (by decide) (hb hby at_103) N37 106 rfl (fun v38 T38 l38 X38 N38 hP38 => ?_)
      obtain ⟨rfl, Gn38, Gc38, K38'⟩ := hP38
      have Hk_38 := Nat.le_trans Hk K38'.1
      have E_mm_38 := E_mm.keep K38'
      have FE_38 := FE.keep K38' (ninS (Nat.ne_of_lt o_mm_re) nin0)
      have FA_38 := FA.keep K38' (ninS (Nat.ne_of_lt o_mm_re) nin0)
      have Ee_38 := Ee.keep K38'
      have Ea_38 := Ea.keep K38'
      have F3_38 := F3.keep K38' (ninS (Nat.ne_of_gt o_re_ra) nin0)
      have F4_38 := F4.keep K38' (ninS (Nat.ne_of_gt o_re_ra) nin0)
      show own_G p e below _ (T38.setTop (mkF m 106 #[.val (.int p1), .val (.int p2), .val (.int p3), .val (.int p4), .val (.int p5), .val (.int p6), .val (.int (1 : Int32)), .val (.int (0 : Int32)), .val (.ref mm), .val (.int (1 : Int32))] []))
      refine own_iload X38 hx (hb hby at_106) rfl 108 rfl ?_
      refine own_ifcF X38 hx (hb hby at_108) (feq (by decide)).1 111 rfl ?_
      refine own_aload X38 hx (hb hby at_111) rfl rfl 113 rfl ?_
      refine own_iload X38 hx (hb hby at_113) rfl 115 rfl ?_
      refine own_iloadN X38 hx (hb hby at_115) rfl 116 rfl ?_
      refine own_callV X38 hx hZ hown (own_w117 hw) (own_w118 hw) (own_w120 hw) (own_w119 hw) (own_w2 hw) (own_w121 hw) (by decide) 0 (own_m_res l Z a0 hw _ n0 FE_38 FA_38 Gn38 Gc38 F3_38 F4_38 (1 : Int32) p3 (r := p2) (own_res_n1 _ _ _ _)) rfl E_mm_38 (by rw [hml]; rfl) [(.int (1 : Int32)), (.int p3)] [] rfl (lenOf own_pd_17 rfl) rfl (Nat.le_of_eq rfl) (by decide) (by decide) (by decide) (by decide) (hb hby at_116) N38 119 rfl (fun v39 T39 l39 X39 N39 hP39 => ?_)
      obtain ⟨rfl, e39⟩ := hP39
      show own_G p e below _ (T39.setTop (mkF m 119 #[.val (.int p1), .val (.int p2), .val (.int p3), .val (.int p4), .val (.int p5), .val (.int p6), .val (.int (1 : Int32)), .val (.int (0 : Int32)), .val (.ref mm), .val (.int (1 : Int32))] [(.int p2)]))
      refine own_iloadN X39 hx (hb hby at_119) rfl 120 rfl ?_
      refine own_icmpF X39 hx (hb hby at_120) (teq rfl).2 123 rfl ?_
      refine own_iconst X39 hx (z := (1 : Int32)) (hb hby at_123) rfl 124 rfl ?_
      refine own_goto X39 hx (hb hby at_124) 128 (by decide) (by decide) ?_
      refine own_istore X39 hx (#[.val (.int p1), .val (.int p2), .val (.int p3), .val (.int p4), .val (.int p5), .val (.int p6), .val (.int (1 : Int32)), .val (.int (0 : Int32)), .val (.ref mm), .val (.int (1 : Int32))]) (hb hby at_128) rfl 130 rfl ?_
      refine own_iload X39 hx (hb hby at_130) rfl 132 rfl ?_
      refine own_ifcF X39 hx (hb hby at_132) (feq (by decide)).1 135 rfl ?_
      refine own_aload X39 hx (hb hby at_135) rfl rfl 137 rfl ?_
      refine own_iload X39 hx (hb hby at_137) rfl 139 rfl ?_
      refine own_iloadN X39 hx (hb hby at_139) rfl 140 rfl ?_
      refine own_callV X39 hx hZ hown (own_w117 hw) (own_w118 hw) (own_w120 hw) (own_w119 hw) (own_w2 hw) (own_w121 hw) (by decide) 0 (own_m_res l Z a0 hw _ n0 FE_38 FA_38 Gn38 Gc38 F3_38 F4_38 (1 : Int32) p4 (r := (own_f_exp p4 p3 p2)) (own_res_e1 _ _ _ _ _)) e39 E_mm_38 (by rw [hml]; rfl) [(.int (1 : Int32)), (.int p4)] [] rfl (lenOf own_pd_17 rfl) rfl (Nat.le_of_eq rfl) (by decide) (by decide) (by decide) (by decide) (hb hby at_140) N39 143 rfl (fun v40 T40 l40 X40 N40 hP40 => ?_)
      obtain ⟨rfl, e40⟩ := hP40
      show own_G p e below _ (T40.setTop (mkF m 143 #[.val (.int p1), .val (.int p2), .val (.int p3), .val (.int p4), .val (.int p5), .val (.int p6), .val (.int (1 : Int32)), .val (.int (0 : Int32)), .val (.ref mm), .val (.int (1 : Int32))] [(.int (own_f_exp p4 p3 p2))]))
      refine own_iloadN X40 hx (hb hby at_143) rfl 144 rfl ?_
      refine own_iloadN X40 hx (hb hby at_144) rfl 145 rfl ?_
      refine own_iloadN X40 hx (hb hby at_145) rfl 146 rfl ?_
      refine own_callS X40 hx hZ hown (own_w129 hw) (own_w130 hw) (own_w131 hw) (own_w132 hw) (by decide) 1 (own_m_exp l Z a0 hw _ n0 p4 p3 p2 (r := (own_f_exp p4 p3 p2)) rfl) e40 (by rw [hml]; rfl) [(.int p4), (.int p3), (.int p2)] [(.int (own_f_exp p4 p3 p2))] rfl (lenOf own_pd_19 rfl) rfl (Nat.le_of_eq rfl) (by decide) (by decide) (by decide) (by decide) (hb hby at_146) N40 149 rfl (fun v41 T41 l41 X41 N41 hP41 => ?_)
      obtain ⟨rfl, e41⟩ := hP41
      show own_G p e below _ (T41.setTop (mkF m 149 #[.val (.int p1), .val (.int p2), .val (.int p3), .val (.int p4), .val (.int p5), .val (.int p6), .val (.int (1 : Int32)), .val (.int (0 : Int32)), .val (.ref mm), .val (.int (1 : Int32))] [(.int (own_f_exp p4 p3 p2)), (.int (own_f_exp p4 p3 p2))]))
      refine own_icmpF X41 hx (hb hby at_149) (teq rfl).2 152 rfl ?_
      refine own_iconst X41 hx (z := (1 : Int32)) (hb hby at_152) rfl 153 rfl ?_
      refine own_goto X41 hx (hb hby at_153) 157 (by decide) (by decide) ?_
      refine own_istore X41 hx (#[.val (.int p1), .val (.int p2), .val (.int p3), .val (.int p4), .val (.int p5), .val (.int p6), .val (.int (1 : Int32)), .val (.int (0 : Int32)), .val (.ref mm), .val (.int (1 : Int32))]) (hb hby at_157) rfl 159 rfl ?_
      refine own_iload X41 hx (hb hby at_159) rfl 161 rfl ?_
      refine own_ifcF X41 hx (hb hby at_161) (feq (by decide)).1 164 rfl ?_
      refine own_aload X41 hx (hb hby at_164) rfl rfl 166 rfl ?_
      refine own_iload X41 hx (hb hby at_166) rfl 168 rfl ?_
      refine own_ifcT X41 hx (hb hby at_168) (feq (by decide)).2 175 (by decide) (by decide) ?_
      refine own_iconst X41 hx (z := (0 : Int32)) (hb hby at_175) rfl 176 rfl ?_
      refine own_iloadN X41 hx (hb hby at_176) rfl 177 rfl ?_
      refine own_callV X41 hx hZ hown (own_w117 hw) (own_w118 hw) (own_w120 hw) (own_w119 hw) (own_w2 hw) (own_w121 hw) (by decide) 0 (own_m_res l Z a0 hw _ n0 FE_38 FA_38 Gn38 Gc38 F3_38 F4_38 (0 : Int32) p4 (r := (-1 : Int32)) (own_res_m1 _ _ (by simp))) e41 E_mm_38 (by rw [hml]; rfl) [(.int (0 : Int32)), (.int p4)] [] rfl (lenOf own_pd_17 rfl) rfl (Nat.le_of_eq rfl) (by decide) (by decide) (by decide) (by decide) (hb hby at_177) N41 180 rfl (fun v42 T42 l42 X42 N42 hP42 => ?_)
      obtain ⟨rfl, e42⟩ := hP42
      show own_G p e below _ (T42.setTop (mkF m 180 #[.val (.int p1), .val (.int p2), .val (.int p3), .val (.int p4), .val (.int p5), .val (.int p6), .val (.int (1 : Int32)), .val (.int (0 : Int32)), .val (.ref mm), .val (.int (1 : Int32))] [(.int (-1 : Int32))]))
      refine own_iconst X42 hx (z := (-1 : Int32)) (hb hby at_180) rfl 181 rfl ?_
      refine own_icmpF X42 hx (hb hby at_181) (teq (by decide)).2 184 rfl ?_
      refine own_iconst X42 hx (z := (1 : Int32)) (hb hby at_184) rfl 185 rfl ?_
      refine own_goto X42 hx (hb hby at_185) 189 (by decide) (by decide) ?_
      refine own_istore X42 hx (#[.val (.int p1), .val (.int p2), .val (.int p3), .val (.int p4), .val (.int p5), .val (.int p6), .val (.int (1 : Int32)), .val (.int (0 : Int32)), .val (.ref mm), .val (.int (1 : Int32))]) (hb hby at_189) rfl 191 rfl ?_
      refine own_iload X42 hx (hb hby at_191) rfl 193 rfl ?_
      refine own_ifcT X42 hx (hb hby at_193) (teq (by decide)).1 286 (by decide) (by decide) ?_
      refine own_aload X42 hx (hb hby at_286) rfl rfl 288 rfl ?_
      refine own_iload X42 hx (hb hby at_288) rfl 290 rfl ?_
      refine own_iload X42 hx (hb hby at_290) rfl 292 rfl ?_
      refine own_iload X42 hx (hb hby at_292) rfl 294 rfl ?_
      refine own_callV X42 hx hZ hown (own_w123 hw) (own_w124 hw) (own_w126 hw) (own_w125 hw) (own_w2 hw) (own_w127 hw) (by decide) 0 (own_m_keep1 l Z a0 hw _ n0 FE_38 FA_38 Ee_38 Gn38 Gc38 gn_re (Nat.ne_of_lt o_mm_re) (1 : Int32) p5 p6 (by decide)) e42 E_mm_38 (by rw [hml]; rfl) [(.int (1 : Int32)), (.int p5), (.int p6)] [] rfl (lenOf own_pd_18 rfl) rfl (Nat.le_of_eq rfl) (by decide) (by decide) (by decide) (by decide) (hb hby at_294) N42 297 rfl (fun v43 T43 l43 X43 N43 hP43 => ?_)
      obtain ⟨rfl, Gn43, Gc43, K43'⟩ := hP43
      have Hk_43 := Nat.le_trans Hk_38 K43'.1
      have E_mm_43 := E_mm_38.keep K43'
      have FE_43 := FE_38.keep K43' (ninS (Nat.ne_of_lt o_mm_re) nin0)
      have FA_43 := FA_38.keep K43' (ninS (Nat.ne_of_lt o_mm_re) nin0)
      have Ee_43 := Ee_38.keep K43'
      have Ea_43 := Ea_38.keep K43'
      have F3_43 := F3_38.keep K43' (ninS (Nat.ne_of_gt o_re_ra) nin0)
      have F4_43 := F4_38.keep K43' (ninS (Nat.ne_of_gt o_re_ra) nin0)
      show own_G p e below _ (T43.setTop (mkF m 297 #[.val (.int p1), .val (.int p2), .val (.int p3), .val (.int p4), .val (.int p5), .val (.int p6), .val (.int (1 : Int32)), .val (.int (0 : Int32)), .val (.ref mm), .val (.int (1 : Int32))] []))
      refine own_iload X43 hx (hb hby at_297) rfl 299 rfl ?_
      refine own_ifcF X43 hx (hb hby at_299) (feq (by decide)).1 302 rfl ?_
      refine own_aload X43 hx (hb hby at_302) rfl rfl 304 rfl ?_
      refine own_iload X43 hx (hb hby at_304) rfl 306 rfl ?_
      refine own_iloadN X43 hx (hb hby at_306) rfl 307 rfl ?_
      refine own_callV X43 hx hZ hown (own_w117 hw) (own_w118 hw) (own_w120 hw) (own_w119 hw) (own_w2 hw) (own_w121 hw) (by decide) 0 (own_m_res l Z a0 hw _ n0 FE_43 FA_43 Gn43 Gc43 F3_43 F4_43 (1 : Int32) p4 (r := (own_f_exp p4 p6 p5)) (own_res_e1 _ _ _ _ _)) rfl E_mm_43 (by rw [hml]; rfl) [(.int (1 : Int32)), (.int p4)] [] rfl (lenOf own_pd_17 rfl) rfl (Nat.le_of_eq rfl) (by decide) (by decide) (by decide) (by decide) (hb hby at_307) N43 310 rfl (fun v44 T44 l44 X44 N44 hP44 => ?_)
      obtain ⟨rfl, e44⟩ := hP44
      show own_G p e below _ (T44.setTop (mkF m 310 #[.val (.int p1), .val (.int p2), .val (.int p3), .val (.int p4), .val (.int p5), .val (.int p6), .val (.int (1 : Int32)), .val (.int (0 : Int32)), .val (.ref mm), .val (.int (1 : Int32))] [(.int (own_f_exp p4 p6 p5))]))
      refine own_iloadN X44 hx (hb hby at_310) rfl 311 rfl ?_
      refine own_iload X44 hx (hb hby at_311) rfl 313 rfl ?_
      refine own_iload X44 hx (hb hby at_313) rfl 315 rfl ?_
      refine own_callS X44 hx hZ hown (own_w129 hw) (own_w130 hw) (own_w131 hw) (own_w132 hw) (by decide) 1 (own_m_exp l Z a0 hw _ n0 p4 p6 p5 (r := (own_f_exp p4 p6 p5)) rfl) e44 (by rw [hml]; rfl) [(.int p4), (.int p6), (.int p5)] [(.int (own_f_exp p4 p6 p5))] rfl (lenOf own_pd_19 rfl) rfl (Nat.le_of_eq rfl) (by decide) (by decide) (by decide) (by decide) (hb hby at_315) N44 318 rfl (fun v45 T45 l45 X45 N45 hP45 => ?_)
      obtain ⟨rfl, e45⟩ := hP45
      show own_G p e below _ (T45.setTop (mkF m 318 #[.val (.int p1), .val (.int p2), .val (.int p3), .val (.int p4), .val (.int p5), .val (.int p6), .val (.int (1 : Int32)), .val (.int (0 : Int32)), .val (.ref mm), .val (.int (1 : Int32))] [(.int (own_f_exp p4 p6 p5)), (.int (own_f_exp p4 p6 p5))]))
      refine own_icmpF X45 hx (hb hby at_318) (teq rfl).2 321 rfl ?_
      refine own_iconst X45 hx (z := (1 : Int32)) (hb hby at_321) rfl 322 rfl ?_
      refine own_goto X45 hx (hb hby at_322) 326 (by decide) (by decide) ?_
      refine own_istore X45 hx (#[.val (.int p1), .val (.int p2), .val (.int p3), .val (.int p4), .val (.int p5), .val (.int p6), .val (.int (1 : Int32)), .val (.int (0 : Int32)), .val (.ref mm), .val (.int (1 : Int32))]) (hb hby at_326) rfl 328 rfl ?_
      refine own_iload X45 hx (hb hby at_328) rfl 330 rfl ?_
      refine own_ifcF X45 hx (hb hby at_330) (feq (by decide)).1 333 rfl ?_
      refine own_aload X45 hx (hb hby at_333) rfl rfl 335 rfl ?_
      refine own_iload X45 hx (hb hby at_335) rfl 337 rfl ?_
      refine own_ifcT X45 hx (hb hby at_337) (feq (by decide)).2 344 (by decide) (by decide) ?_
      refine own_iconst X45 hx (z := (0 : Int32)) (hb hby at_344) rfl 345 rfl ?_
      refine own_iloadN X45 hx (hb hby at_345) rfl 346 rfl ?_
      refine own_callV X45 hx hZ hown (own_w117 hw) (own_w118 hw) (own_w120 hw) (own_w119 hw) (own_w2 hw) (own_w121 hw) (by decide) 0 (own_m_res l Z a0 hw _ n0 FE_43 FA_43 Gn43 Gc43 F3_43 F4_43 (0 : Int32) p4 (r := (-1 : Int32)) (own_res_m1 _ _ (by simp))) e45 E_mm_43 (by rw [hml]; rfl) [(.int (0 : Int32)), (.int p4)] [] rfl (lenOf own_pd_17 rfl) rfl (Nat.le_of_eq rfl) (by decide) (by decide) (by decide) (by decide) (hb hby at_346) N45 349 rfl (fun v46 T46 l46 X46 N46 hP46 => ?_)
      obtain ⟨rfl, e46⟩ := hP46
      show own_G p e below _ (T46.setTop (mkF m 349 #[.val (.int p1), .val (.int p2), .val (.int p3), .val (.int p4), .val (.int p5), .val (.int p6), .val (.int (1 : Int32)), .val (.int (0 : Int32)), .val (.ref mm), .val (.int (1 : Int32))] [(.int (-1 : Int32))]))
      refine own_iconst X46 hx (z := (-1 : Int32)) (hb hby at_349) rfl 350 rfl ?_
      refine own_icmpF X46 hx (hb hby at_350) (teq (by decide)).2 353 rfl ?_
      refine own_iconst X46 hx (z := (1 : Int32)) (hb hby at_353) rfl 354 rfl ?_
      refine own_goto X46 hx (hb hby at_354) 358 (by decide) (by decide) ?_
      refine own_istore X46 hx (#[.val (.int p1), .val (.int p2), .val (.int p3), .val (.int p4), .val (.int p5), .val (.int p6), .val (.int (1 : Int32)), .val (.int (0 : Int32)), .val (.ref mm), .val (.int (1 : Int32))]) (hb hby at_358) rfl 360 rfl ?_
      refine own_iload X46 hx (hb hby at_360) rfl 362 rfl ?_
      exact own_retNS X46 hx hS hret (Or.inl rfl) hlk (hb hby at_362) (by decide) (by decide) N46 e46 Hk_43 rfl
    · refine own_ifcF X0 hx (hb hby at_16) (feq hc32).1 19 rfl ?_
      refine own_iconst X0 hx (z := (1 : Int32)) (hb hby at_19) rfl 20 rfl ?_
      refine own_goto X0 hx (hb hby at_20) 24 (by decide) (by decide) ?_
      refine own_istore X0 hx (#[.val (.int p1), .val (.int p2), .val (.int p3), .val (.int p4), .val (.int p5), .val (.int p6), .val (.int (1 : Int32)), .val (.int (1 : Int32)), .unset, .unset]) (hb hby at_24) rfl 26 rfl ?_
      refine own_newO X0 hx hZ hown (own_w0 hw) (own_w1 hw) (own_w2 hw) e0 (hb hby at_26) (by decide) (by decide) 29 rfl (fun T47 h47 mm g47 X47 e47 E47 B47 D47 => ?_)
      have gn_mm : n0 ≤ mm := Nat.le_trans Z0 (Nat.le_of_eq g47.symm)
      have Z0_47 := Nat.le_trans Z0 E47.1
      have O0_47 := O0.ext E47
      have F_asElement_mm_47 : Fld Z h47 mm "com/example/xqwry/xqwry/MarkupName" "asElement" "Lcom/example/xqwry/xqwry/MarkupName$Resolution;" .null := D47 (Or.inr (own_w45 hw)) (ty := (.object "com/example/xqwry/xqwry/MarkupName$Resolution")) (by decide)
      have F_asAttribute_mm_47 : Fld Z h47 mm "com/example/xqwry/xqwry/MarkupName" "asAttribute" "Lcom/example/xqwry/xqwry/MarkupName$Resolution;" .null := D47 (Or.inr (own_w47 hw)) (ty := (.object "com/example/xqwry/xqwry/MarkupName$Resolution")) (by decide)
      have F_lexicalName_mm_47 : Fld Z h47 mm "com/example/xqwry/xqwry/MarkupName" "lexicalName" "Ljava/lang/String;" .null := D47 (Or.inr (own_w49 hw)) (ty := (.object "java/lang/String")) (by decide)
      have F_prefixed_mm_47 : Fld Z h47 mm "com/example/xqwry/xqwry/MarkupName" "prefixed" "Z" (.int (0 : Int32)) := D47 (Or.inr (own_w92 hw)) (ty := .boolean) (by decide)
      have F_declaredPrefix_mm_47 : Fld Z h47 mm "com/example/xqwry/xqwry/MarkupName" "declaredPrefix" "Ljava/lang/String;" .null := D47 (Or.inr (own_w116 hw)) (ty := (.object "java/lang/String")) (by decide)
      refine own_dup X47 hx (hb hby at_29) rfl 30 rfl ?_
      refine own_iloadN X47 hx (hb hby at_30) rfl 31 rfl ?_
      refine own_iconst X47 hx (z := (2 : Int32)) (hb hby at_31) rfl 32 rfl ?_
      refine own_iushr X47 hx (hb hby at_32) 33 rfl ?_
      refine own_sipush X47 hx (z := (255 : Int32)) (hb hby at_33) rfl 36 rfl ?_
      refine own_iand X47 hx (hb hby at_36) 37 rfl ?_
      refine own_i2c X47 hx (hb hby at_37) 38 rfl ?_
      refine own_callS X47 hx hZ hown (own_w3 hw) (own_w4 hw) (own_w5 hw) (own_w6 hw) (by decide) 2 (own_m_sval l Z a0 hw _ n0 ((((p1.toUInt32 >>> ((2 : Int32) &&& 31).toUInt32).toInt32) &&& (255 : Int32)).toUInt32.toUInt16.toUInt32.toInt32) (own_cec255 _) hcz Z0_47 (SC0.ext O0_47.2)) e47 (by rw [hml]; rfl) [(.int ((((p1.toUInt32 >>> ((2 : Int32) &&& 31).toUInt32).toInt32) &&& (255 : Int32)).toUInt32.toUInt16.toUInt32.toInt32))] [(.ref mm), (.ref mm)] rfl (lenOf own_pd_15 rfl) rfl (Nat.le_of_eq rfl) (by decide) (by decide) (by decide) (by decide) (hb hby at_38) N0 41 rfl (fun v48 T48 l48 X48 N48 hP48 => ?_)
      obtain ⟨sa, sb, fs48, rfl, E_sa, C_sa, V_sa, A_sb, gs48, o_sa_sb, K48'⟩ := hP48
      have Z0_48 := Nat.le_trans Z0_47 K48'.1
      have O0_48 := O0_47.keep K48' all0
      have B47_48 := B47.keep K48'
      have F_asElement_mm_48 := F_asElement_mm_47.keep K48' nin0
      have F_asAttribute_mm_48 := F_asAttribute_mm_47.keep K48' nin0
      have F_lexicalName_mm_48 := F_lexicalName_mm_47.keep K48' nin0
      have F_prefixed_mm_48 := F_prefixed_mm_47.keep K48' nin0
      have F_declaredPrefix_mm_48 := F_declaredPrefix_mm_47.keep K48' nin0
      have o_mm_sa : mm < sa := Nat.lt_of_lt_of_le B47.lt gs48
      have o_mm_sb : mm < sb := Nat.lt_trans o_mm_sa o_sa_sb
      have gn_sa : n0 ≤ sa := Nat.le_trans gn_mm (Nat.le_of_lt o_mm_sa)
      show own_G p e below _ (T48.setTop (mkF m 41 #[.val (.int p1), .val (.int p2), .val (.int p3), .val (.int p4), .val (.int p5), .val (.int p6), .val (.int (1 : Int32)), .val (.int (1 : Int32)), .unset, .unset] [(.ref sa), (.ref mm), (.ref mm)]))
      refine own_callIS X48 hx hZH hown rfl (own_w29 hw) (own_w30 hw) (own_w2 hw) (own_w31 hw) (by decide) 1 (own_m_minit l Z a0 hw _ n0 B47_48 F_lexicalName_mm_48 F_prefixed_mm_48 F_declaredPrefix_mm_48 F_asElement_mm_48 F_asAttribute_mm_48 E_sa C_sa V_sa A_sb gn_mm gn_sa o_mm_sa o_sa_sb o_mm_sb Z0_48 O0_48 wS hH33 hH44 hcw hcz SC0) rfl (by rw [hml]; rfl) mm [.ref sa] [(.ref mm)] rfl (lenOf own_pd_16 rfl) rfl (Nat.le_of_eq rfl) (by decide) (by decide) (by decide) (by decide) (hb hby at_41) N48 44 rfl (fun v49 T49 l49 X49 N49 hS hZ hown hP49 => ?_)
      obtain ⟨rfl, re, ra, FE, FA, Ee, Ea, F1, F2, F3, F4, o_mm_re, o_re_ra, K49'⟩ := hP49
      have E_mm := B47_48.keep K49'
      have o_mm_ra : mm < ra := Nat.lt_trans o_mm_re o_re_ra
      have gn_re : n0 ≤ re := Nat.le_trans gn_mm (Nat.le_of_lt o_mm_re)
      have gn_ra : n0 ≤ ra := Nat.le_trans gn_mm (Nat.le_of_lt o_mm_ra)
      have Hk := Nat.le_refl T49.heap.size
      show own_G p e below _ (T49.setTop (mkF m 44 #[.val (.int p1), .val (.int p2), .val (.int p3), .val (.int p4), .val (.int p5), .val (.int p6), .val (.int (1 : Int32)), .val (.int (1 : Int32)), .unset, .unset] [(.ref mm)]))
      refine own_astore X49 hx (#[.val (.int p1), .val (.int p2), .val (.int p3), .val (.int p4), .val (.int p5), .val (.int p6), .val (.int (1 : Int32)), .val (.int (1 : Int32)), .val (.ref mm), .unset]) (hb hby at_44) rfl rfl 46 rfl ?_
      refine own_aload X49 hx (hb hby at_46) rfl rfl 48 rfl ?_
      refine own_iload X49 hx (hb hby at_48) rfl 50 rfl ?_
      refine own_ifcT X49 hx (hb hby at_50) (feq (by decide)).2 57 (by decide) (by decide) ?_
      refine own_iconst X49 hx (z := (0 : Int32)) (hb hby at_57) rfl 58 rfl ?_
      refine own_iloadN X49 hx (hb hby at_58) rfl 59 rfl ?_
      refine own_callV X49 hx hZ hown (own_w117 hw) (own_w118 hw) (own_w120 hw) (own_w119 hw) (own_w2 hw) (own_w121 hw) (by decide) 0 (own_m_res l Z a0 hw _ n0 FE FA F1 F2 F3 F4 (0 : Int32) p4 (r := (-1 : Int32)) (own_res_m1 _ _ (by simp))) rfl E_mm (by rw [hml]; rfl) [(.int (0 : Int32)), (.int p4)] [] rfl (lenOf own_pd_17 rfl) rfl (Nat.le_of_eq rfl) (by decide) (by decide) (by decide) (by decide) (hb hby at_59) N49 62 rfl (fun v50 T50 l50 X50 N50 hP50 => ?_)
      obtain ⟨rfl, e50⟩ := hP50
      show own_G p e below _ (T50.setTop (mkF m 62 #[.val (.int p1), .val (.int p2), .val (.int p3), .val (.int p4), .val (.int p5), .val (.int p6), .val (.int (1 : Int32)), .val (.int (1 : Int32)), .val (.ref mm), .unset] [(.int (-1 : Int32))]))
      refine own_iconst X50 hx (z := (-1 : Int32)) (hb hby at_62) rfl 63 rfl ?_
      refine own_icmpF X50 hx (hb hby at_63) (teq (by decide)).2 66 rfl ?_
      refine own_iconst X50 hx (z := (1 : Int32)) (hb hby at_66) rfl 67 rfl ?_
      refine own_goto X50 hx (hb hby at_67) 71 (by decide) (by decide) ?_
      refine own_istore X50 hx (#[.val (.int p1), .val (.int p2), .val (.int p3), .val (.int p4), .val (.int p5), .val (.int p6), .val (.int (1 : Int32)), .val (.int (1 : Int32)), .val (.ref mm), .val (.int (1 : Int32))]) (hb hby at_71) rfl 73 rfl ?_
      refine own_iload X50 hx (hb hby at_73) rfl 75 rfl ?_
      refine own_ifcF X50 hx (hb hby at_75) (feq (by decide)).1 78 rfl ?_
      refine own_aload X50 hx (hb hby at_78) rfl rfl 80 rfl ?_
      refine own_iload X50 hx (hb hby at_80) rfl 82 rfl ?_
      refine own_iloadN X50 hx (hb hby at_82) rfl 83 rfl ?_
      refine own_callV X50 hx hZ hown (own_w117 hw) (own_w118 hw) (own_w120 hw) (own_w119 hw) (own_w2 hw) (own_w121 hw) (by decide) 0 (own_m_res l Z a0 hw _ n0 FE FA F1 F2 F3 F4 (1 : Int32) p4 (r := (-1 : Int32)) (own_res_m1 _ _ (by simp))) e50 E_mm (by rw [hml]; rfl) [(.int (1 : Int32)), (.int p4)] [] rfl (lenOf own_pd_17 rfl) rfl (Nat.le_of_eq rfl) (by decide) (by decide) (by decide) (by decide) (hb hby at_83) N50 86 rfl (fun v51 T51 l51 X51 N51 hP51 => ?_)
      obtain ⟨rfl, e51⟩ := hP51
      show own_G p e below _ (T51.setTop (mkF m 86 #[.val (.int p1), .val (.int p2), .val (.int p3), .val (.int p4), .val (.int p5), .val (.int p6), .val (.int (1 : Int32)), .val (.int (1 : Int32)), .val (.ref mm), .val (.int (1 : Int32))] [(.int (-1 : Int32))]))
      refine own_iconst X51 hx (z := (-1 : Int32)) (hb hby at_86) rfl 87 rfl ?_
      refine own_icmpF X51 hx (hb hby at_87) (teq (by decide)).2 90 rfl ?_
      refine own_iconst X51 hx (z := (1 : Int32)) (hb hby at_90) rfl 91 rfl ?_
      refine own_goto X51 hx (hb hby at_91) 95 (by decide) (by decide) ?_
      refine own_istore X51 hx (#[.val (.int p1), .val (.int p2), .val (.int p3), .val (.int p4), .val (.int p5), .val (.int p6), .val (.int (1 : Int32)), .val (.int (1 : Int32)), .val (.ref mm), .val (.int (1 : Int32))]) (hb hby at_95) rfl 97 rfl ?_
      refine own_aload X51 hx (hb hby at_97) rfl rfl 99 rfl ?_
      refine own_iload X51 hx (hb hby at_99) rfl 101 rfl ?_
      refine own_iloadN X51 hx (hb hby at_101) rfl 102 rfl ?_
      refine own_iloadN X51 hx (hb hby at_102) rfl 103 rfl ?_
      refine own_callV X51 hx hZ hown (own_w123 hw) (own_w124 hw) (own_w126 hw) (own_w125 hw) (own_w2 hw) (own_w127 hw) (by decide) 0 (own_m_keep1 l Z a0 hw _ n0 FE FA Ee F1 F2 gn_re (Nat.ne_of_lt o_mm_re) (1 : Int32) p2 p3 (by decide)) e51 E_mm (by rw [hml]; rfl) [(.int (1 : Int32)), (.int p2), (.int p3)] [] rfl (lenOf own_pd_18 rfl) rfl (Nat.le_of_eq rfl) (by decide) (by decide) (by decide) (by decide) (hb hby at_103) N51 106 rfl (fun v52 T52 l52 X52 N52 hP52 => ?_)
      obtain ⟨rfl, Gn52, Gc52, K52'⟩ := hP52
      have Hk_52 := Nat.le_trans Hk K52'.1
      have E_mm_52 := E_mm.keep K52'
      have FE_52 := FE.keep K52' (ninS (Nat.ne_of_lt o_mm_re) nin0)
      have FA_52 := FA.keep K52' (ninS (Nat.ne_of_lt o_mm_re) nin0)
      have Ee_52 := Ee.keep K52'
      have Ea_52 := Ea.keep K52'
      have F3_52 := F3.keep K52' (ninS (Nat.ne_of_gt o_re_ra) nin0)
      have F4_52 := F4.keep K52' (ninS (Nat.ne_of_gt o_re_ra) nin0)
      show own_G p e below _ (T52.setTop (mkF m 106 #[.val (.int p1), .val (.int p2), .val (.int p3), .val (.int p4), .val (.int p5), .val (.int p6), .val (.int (1 : Int32)), .val (.int (1 : Int32)), .val (.ref mm), .val (.int (1 : Int32))] []))
      refine own_iload X52 hx (hb hby at_106) rfl 108 rfl ?_
      refine own_ifcF X52 hx (hb hby at_108) (feq (by decide)).1 111 rfl ?_
      refine own_aload X52 hx (hb hby at_111) rfl rfl 113 rfl ?_
      refine own_iload X52 hx (hb hby at_113) rfl 115 rfl ?_
      refine own_iloadN X52 hx (hb hby at_115) rfl 116 rfl ?_
      refine own_callV X52 hx hZ hown (own_w117 hw) (own_w118 hw) (own_w120 hw) (own_w119 hw) (own_w2 hw) (own_w121 hw) (by decide) 0 (own_m_res l Z a0 hw _ n0 FE_52 FA_52 Gn52 Gc52 F3_52 F4_52 (1 : Int32) p3 (r := p2) (own_res_n1 _ _ _ _)) rfl E_mm_52 (by rw [hml]; rfl) [(.int (1 : Int32)), (.int p3)] [] rfl (lenOf own_pd_17 rfl) rfl (Nat.le_of_eq rfl) (by decide) (by decide) (by decide) (by decide) (hb hby at_116) N52 119 rfl (fun v53 T53 l53 X53 N53 hP53 => ?_)
      obtain ⟨rfl, e53⟩ := hP53
      show own_G p e below _ (T53.setTop (mkF m 119 #[.val (.int p1), .val (.int p2), .val (.int p3), .val (.int p4), .val (.int p5), .val (.int p6), .val (.int (1 : Int32)), .val (.int (1 : Int32)), .val (.ref mm), .val (.int (1 : Int32))] [(.int p2)]))
      refine own_iloadN X53 hx (hb hby at_119) rfl 120 rfl ?_
      refine own_icmpF X53 hx (hb hby at_120) (teq rfl).2 123 rfl ?_
      refine own_iconst X53 hx (z := (1 : Int32)) (hb hby at_123) rfl 124 rfl ?_
      refine own_goto X53 hx (hb hby at_124) 128 (by decide) (by decide) ?_
      refine own_istore X53 hx (#[.val (.int p1), .val (.int p2), .val (.int p3), .val (.int p4), .val (.int p5), .val (.int p6), .val (.int (1 : Int32)), .val (.int (1 : Int32)), .val (.ref mm), .val (.int (1 : Int32))]) (hb hby at_128) rfl 130 rfl ?_
      refine own_iload X53 hx (hb hby at_130) rfl 132 rfl ?_
      refine own_ifcF X53 hx (hb hby at_132) (feq (by decide)).1 135 rfl ?_
      refine own_aload X53 hx (hb hby at_135) rfl rfl 137 rfl ?_
      refine own_iload X53 hx (hb hby at_137) rfl 139 rfl ?_
      refine own_iloadN X53 hx (hb hby at_139) rfl 140 rfl ?_
      refine own_callV X53 hx hZ hown (own_w117 hw) (own_w118 hw) (own_w120 hw) (own_w119 hw) (own_w2 hw) (own_w121 hw) (by decide) 0 (own_m_res l Z a0 hw _ n0 FE_52 FA_52 Gn52 Gc52 F3_52 F4_52 (1 : Int32) p4 (r := (own_f_exp p4 p3 p2)) (own_res_e1 _ _ _ _ _)) e53 E_mm_52 (by rw [hml]; rfl) [(.int (1 : Int32)), (.int p4)] [] rfl (lenOf own_pd_17 rfl) rfl (Nat.le_of_eq rfl) (by decide) (by decide) (by decide) (by decide) (hb hby at_140) N53 143 rfl (fun v54 T54 l54 X54 N54 hP54 => ?_)
      obtain ⟨rfl, e54⟩ := hP54
      show own_G p e below _ (T54.setTop (mkF m 143 #[.val (.int p1), .val (.int p2), .val (.int p3), .val (.int p4), .val (.int p5), .val (.int p6), .val (.int (1 : Int32)), .val (.int (1 : Int32)), .val (.ref mm), .val (.int (1 : Int32))] [(.int (own_f_exp p4 p3 p2))]))
      refine own_iloadN X54 hx (hb hby at_143) rfl 144 rfl ?_
      refine own_iloadN X54 hx (hb hby at_144) rfl 145 rfl ?_
      refine own_iloadN X54 hx (hb hby at_145) rfl 146 rfl ?_
      refine own_callS X54 hx hZ hown (own_w129 hw) (own_w130 hw) (own_w131 hw) (own_w132 hw) (by decide) 1 (own_m_exp l Z a0 hw _ n0 p4 p3 p2 (r := (own_f_exp p4 p3 p2)) rfl) e54 (by rw [hml]; rfl) [(.int p4), (.int p3), (.int p2)] [(.int (own_f_exp p4 p3 p2))] rfl (lenOf own_pd_19 rfl) rfl (Nat.le_of_eq rfl) (by decide) (by decide) (by decide) (by decide) (hb hby at_146) N54 149 rfl (fun v55 T55 l55 X55 N55 hP55 => ?_)
      obtain ⟨rfl, e55⟩ := hP55
      show own_G p e below _ (T55.setTop (mkF m 149 #[.val (.int p1), .val (.int p2), .val (.int p3), .val (.int p4), .val (.int p5), .val (.int p6), .val (.int (1 : Int32)), .val (.int (1 : Int32)), .val (.ref mm), .val (.int (1 : Int32))] [(.int (own_f_exp p4 p3 p2)), (.int (own_f_exp p4 p3 p2))]))
      refine own_icmpF X55 hx (hb hby at_149) (teq rfl).2 152 rfl ?_
      refine own_iconst X55 hx (z := (1 : Int32)) (hb hby at_152) rfl 153 rfl ?_
      refine own_goto X55 hx (hb hby at_153) 157 (by decide) (by decide) ?_
      refine own_istore X55 hx (#[.val (.int p1), .val (.int p2), .val (.int p3), .val (.int p4), .val (.int p5), .val (.int p6), .val (.int (1 : Int32)), .val (.int (1 : Int32)), .val (.ref mm), .val (.int (1 : Int32))]) (hb hby at_157) rfl 159 rfl ?_
      refine own_iload X55 hx (hb hby at_159) rfl 161 rfl ?_
      refine own_ifcF X55 hx (hb hby at_161) (feq (by decide)).1 164 rfl ?_
      refine own_aload X55 hx (hb hby at_164) rfl rfl 166 rfl ?_
      refine own_iload X55 hx (hb hby at_166) rfl 168 rfl ?_
      refine own_ifcT X55 hx (hb hby at_168) (feq (by decide)).2 175 (by decide) (by decide) ?_
      refine own_iconst X55 hx (z := (0 : Int32)) (hb hby at_175) rfl 176 rfl ?_
      refine own_iloadN X55 hx (hb hby at_176) rfl 177 rfl ?_
      refine own_callV X55 hx hZ hown (own_w117 hw) (own_w118 hw) (own_w120 hw) (own_w119 hw) (own_w2 hw) (own_w121 hw) (by decide) 0 (own_m_res l Z a0 hw _ n0 FE_52 FA_52 Gn52 Gc52 F3_52 F4_52 (0 : Int32) p4 (r := (-1 : Int32)) (own_res_m1 _ _ (by simp))) e55 E_mm_52 (by rw [hml]; rfl) [(.int (0 : Int32)), (.int p4)] [] rfl (lenOf own_pd_17 rfl) rfl (Nat.le_of_eq rfl) (by decide) (by decide) (by decide) (by decide) (hb hby at_177) N55 180 rfl (fun v56 T56 l56 X56 N56 hP56 => ?_)
      obtain ⟨rfl, e56⟩ := hP56
      show own_G p e below _ (T56.setTop (mkF m 180 #[.val (.int p1), .val (.int p2), .val (.int p3), .val (.int p4), .val (.int p5), .val (.int p6), .val (.int (1 : Int32)), .val (.int (1 : Int32)), .val (.ref mm), .val (.int (1 : Int32))] [(.int (-1 : Int32))]))
      refine own_iconst X56 hx (z := (-1 : Int32)) (hb hby at_180) rfl 181 rfl ?_
      refine own_icmpF X56 hx (hb hby at_181) (teq (by decide)).2 184 rfl ?_
      refine own_iconst X56 hx (z := (1 : Int32)) (hb hby at_184) rfl 185 rfl ?_
      refine own_goto X56 hx (hb hby at_185) 189 (by decide) (by decide) ?_
      refine own_istore X56 hx (#[.val (.int p1), .val (.int p2), .val (.int p3), .val (.int p4), .val (.int p5), .val (.int p6), .val (.int (1 : Int32)), .val (.int (1 : Int32)), .val (.ref mm), .val (.int (1 : Int32))]) (hb hby at_189) rfl 191 rfl ?_
      refine own_iload X56 hx (hb hby at_191) rfl 193 rfl ?_
      refine own_ifcF X56 hx (hb hby at_193) (feq (by decide)).1 196 rfl ?_
      refine own_aload X56 hx (hb hby at_196) rfl rfl 198 rfl ?_
      refine own_iload X56 hx (hb hby at_198) rfl 200 rfl ?_
      refine own_ifcT X56 hx (hb hby at_200) (feq (by decide)).2 207 (by decide) (by decide) ?_
      refine own_iconst X56 hx (z := (0 : Int32)) (hb hby at_207) rfl 208 rfl ?_
      refine own_iload X56 hx (hb hby at_208) rfl 210 rfl ?_
      refine own_iload X56 hx (hb hby at_210) rfl 212 rfl ?_
      refine own_callV X56 hx hZ hown (own_w123 hw) (own_w124 hw) (own_w126 hw) (own_w125 hw) (own_w2 hw) (own_w127 hw) (by decide) 0 (own_m_keep0 l Z a0 hw _ n0 FE_52 FA_52 Ea_52 F3_52 F4_52 gn_ra (Nat.ne_of_lt o_mm_ra) (0 : Int32) p5 p6 (by decide)) e56 E_mm_52 (by rw [hml]; rfl) [(.int (0 : Int32)), (.int p5), (.int p6)] [] rfl (lenOf own_pd_18 rfl) rfl (Nat.le_of_eq rfl) (by decide) (by decide) (by decide) (by decide) (hb hby at_212) N56 215 rfl (fun v57 T57 l57 X57 N57 hP57 => ?_)
      obtain ⟨rfl, Gn57, Gc57, K57'⟩ := hP57
      have Hk_57 := Nat.le_trans Hk_52 K57'.1
      have E_mm_57 := E_mm_52.keep K57'
      have FE_57 := FE_52.keep K57' (ninS (Nat.ne_of_lt o_mm_ra) nin0)
      have FA_57 := FA_52.keep K57' (ninS (Nat.ne_of_lt o_mm_ra) nin0)
      have Ee_57 := Ee_52.keep K57'
      have Ea_57 := Ea_52.keep K57'
      have Gn52_57 := Gn52.keep K57' (ninS (Nat.ne_of_lt o_re_ra) nin0)
      have Gc52_57 := Gc52.keep K57' (ninS (Nat.ne_of_lt o_re_ra) nin0)
      show own_G p e below _ (T57.setTop (mkF m 215 #[.val (.int p1), .val (.int p2), .val (.int p3), .val (.int p4), .val (.int p5), .val (.int p6), .val (.int (1 : Int32)), .val (.int (1 : Int32)), .val (.ref mm), .val (.int (1 : Int32))] []))
      refine own_iload X57 hx (hb hby at_215) rfl 217 rfl ?_
      refine own_ifcF X57 hx (hb hby at_217) (feq (by decide)).1 220 rfl ?_
      refine own_aload X57 hx (hb hby at_220) rfl rfl 222 rfl ?_
      refine own_iload X57 hx (hb hby at_222) rfl 224 rfl ?_
      refine own_ifcT X57 hx (hb hby at_224) (feq (by decide)).2 231 (by decide) (by decide) ?_
      refine own_iconst X57 hx (z := (0 : Int32)) (hb hby at_231) rfl 232 rfl ?_
      refine own_iloadN X57 hx (hb hby at_232) rfl 233 rfl ?_
      refine own_callV X57 hx hZ hown (own_w117 hw) (own_w118 hw) (own_w120 hw) (own_w119 hw) (own_w2 hw) (own_w121 hw) (by decide) 0 (own_m_res l Z a0 hw _ n0 FE_57 FA_57 Gn52_57 Gc52_57 Gn57 Gc57 (0 : Int32) p4 (r := (own_f_exp p4 p6 p5)) (own_res_e0 _ _ _ _ _)) rfl E_mm_57 (by rw [hml]; rfl) [(.int (0 : Int32)), (.int p4)] [] rfl (lenOf own_pd_17 rfl) rfl (Nat.le_of_eq rfl) (by decide) (by decide) (by decide) (by decide) (hb hby at_233) N57 236 rfl (fun v58 T58 l58 X58 N58 hP58 => ?_)
      obtain ⟨rfl, e58⟩ := hP58
      show own_G p e below _ (T58.setTop (mkF m 236 #[.val (.int p1), .val (.int p2), .val (.int p3), .val (.int p4), .val (.int p5), .val (.int p6), .val (.int (1 : Int32)), .val (.int (1 : Int32)), .val (.ref mm), .val (.int (1 : Int32))] [(.int (own_f_exp p4 p6 p5))]))
      refine own_iloadN X58 hx (hb hby at_236) rfl 237 rfl ?_
      refine own_iload X58 hx (hb hby at_237) rfl 239 rfl ?_
      refine own_iload X58 hx (hb hby at_239) rfl 241 rfl ?_
      refine own_callS X58 hx hZ hown (own_w129 hw) (own_w130 hw) (own_w131 hw) (own_w132 hw) (by decide) 1 (own_m_exp l Z a0 hw _ n0 p4 p6 p5 (r := (own_f_exp p4 p6 p5)) rfl) e58 (by rw [hml]; rfl) [(.int p4), (.int p6), (.int p5)] [(.int (own_f_exp p4 p6 p5))] rfl (lenOf own_pd_19 rfl) rfl (Nat.le_of_eq rfl) (by decide) (by decide) (by decide) (by decide) (hb hby at_241) N58 244 rfl (fun v59 T59 l59 X59 N59 hP59 => ?_)
      obtain ⟨rfl, e59⟩ := hP59
      show own_G p e below _ (T59.setTop (mkF m 244 #[.val (.int p1), .val (.int p2), .val (.int p3), .val (.int p4), .val (.int p5), .val (.int p6), .val (.int (1 : Int32)), .val (.int (1 : Int32)), .val (.ref mm), .val (.int (1 : Int32))] [(.int (own_f_exp p4 p6 p5)), (.int (own_f_exp p4 p6 p5))]))
      refine own_icmpF X59 hx (hb hby at_244) (teq rfl).2 247 rfl ?_
      refine own_iconst X59 hx (z := (1 : Int32)) (hb hby at_247) rfl 248 rfl ?_
      refine own_goto X59 hx (hb hby at_248) 252 (by decide) (by decide) ?_
      refine own_istore X59 hx (#[.val (.int p1), .val (.int p2), .val (.int p3), .val (.int p4), .val (.int p5), .val (.int p6), .val (.int (1 : Int32)), .val (.int (1 : Int32)), .val (.ref mm), .val (.int (1 : Int32))]) (hb hby at_252) rfl 254 rfl ?_
      refine own_iload X59 hx (hb hby at_254) rfl 256 rfl ?_
      refine own_ifcF X59 hx (hb hby at_256) (feq (by decide)).1 259 rfl ?_
      refine own_aload X59 hx (hb hby at_259) rfl rfl 261 rfl ?_
      refine own_iload X59 hx (hb hby at_261) rfl 263 rfl ?_
      refine own_iloadN X59 hx (hb hby at_263) rfl 264 rfl ?_
      refine own_callV X59 hx hZ hown (own_w117 hw) (own_w118 hw) (own_w120 hw) (own_w119 hw) (own_w2 hw) (own_w121 hw) (by decide) 0 (own_m_res l Z a0 hw _ n0 FE_57 FA_57 Gn52_57 Gc52_57 Gn57 Gc57 (1 : Int32) p4 (r := (own_f_exp p4 p3 p2)) (own_res_e1 _ _ _ _ _)) e59 E_mm_57 (by rw [hml]; rfl) [(.int (1 : Int32)), (.int p4)] [] rfl (lenOf own_pd_17 rfl) rfl (Nat.le_of_eq rfl) (by decide) (by decide) (by decide) (by decide) (hb hby at_264) N59 267 rfl (fun v60 T60 l60 X60 N60 hP60 => ?_)
      obtain ⟨rfl, e60⟩ := hP60
      show own_G p e below _ (T60.setTop (mkF m 267 #[.val (.int p1), .val (.int p2), .val (.int p3), .val (.int p4), .val (.int p5), .val (.int p6), .val (.int (1 : Int32)), .val (.int (1 : Int32)), .val (.ref mm), .val (.int (1 : Int32))] [(.int (own_f_exp p4 p3 p2))]))
      refine own_iloadN X60 hx (hb hby at_267) rfl 268 rfl ?_
      refine own_iloadN X60 hx (hb hby at_268) rfl 269 rfl ?_
      refine own_iloadN X60 hx (hb hby at_269) rfl 270 rfl ?_
      refine own_callS X60 hx hZ hown (own_w129 hw) (own_w130 hw) (own_w131 hw) (own_w132 hw) (by decide) 1 (own_m_exp l Z a0 hw _ n0 p4 p3 p2 (r := (own_f_exp p4 p3 p2)) rfl) e60 (by rw [hml]; rfl) [(.int p4), (.int p3), (.int p2)] [(.int (own_f_exp p4 p3 p2))] rfl (lenOf own_pd_19 rfl) rfl (Nat.le_of_eq rfl) (by decide) (by decide) (by decide) (by decide) (hb hby at_270) N60 273 rfl (fun v61 T61 l61 X61 N61 hP61 => ?_)
      obtain ⟨rfl, e61⟩ := hP61
      show own_G p e below _ (T61.setTop (mkF m 273 #[.val (.int p1), .val (.int p2), .val (.int p3), .val (.int p4), .val (.int p5), .val (.int p6), .val (.int (1 : Int32)), .val (.int (1 : Int32)), .val (.ref mm), .val (.int (1 : Int32))] [(.int (own_f_exp p4 p3 p2)), (.int (own_f_exp p4 p3 p2))]))
      refine own_icmpF X61 hx (hb hby at_273) (teq rfl).2 276 rfl ?_
      refine own_iconst X61 hx (z := (1 : Int32)) (hb hby at_276) rfl 277 rfl ?_
      refine own_goto X61 hx (hb hby at_277) 281 (by decide) (by decide) ?_
      refine own_istore X61 hx (#[.val (.int p1), .val (.int p2), .val (.int p3), .val (.int p4), .val (.int p5), .val (.int p6), .val (.int (1 : Int32)), .val (.int (1 : Int32)), .val (.ref mm), .val (.int (1 : Int32))]) (hb hby at_281) rfl 283 rfl ?_
      refine own_goto X61 hx (hb hby at_283) 360 (by decide) (by decide) ?_
      refine own_iload X61 hx (hb hby at_360) rfl 362 rfl ?_
      exact own_retNS X61 hx hS hret (Or.inl rfl) hlk (hb hby at_362) (by decide) (by decide) N61 e61 Hk_57 rfl
set_option maxRecDepth 65536 in
set_option maxHeartbeats 40000000 in
theorem own_comes {Post : Tables → Env → Array Value → State → Outcome → State → Prop} (hpost : ∀ tb e args s v u, (limb_1_1.after args s (.returned v) u = true ∧ limb_1_2.after args s (.returned v) u = true ∧ True) → Jvm.D.FramedW s (.returned v) u (Jvm.fieldLocs frame_1_writes args s ++ Jvm.arrayLocs frame_1_arrays args s ++ Jvm.staticLocs frame_1_statics s) 24 2176 → Post tb e args s (.returned v) u) :
    ArmFor flags0 classFile x code maxLocals ret World_1 tables_1 room_1 Calls_1 rest_1 Pre_1 Post := by
  intro l hfl _ _ p e ha hc hk s m args below hf hA hF happ hP
  obtain ⟨hcalls, hrest, hpre⟩ := hP
  obtain ⟨-, -, -, hnamed, -, -, -, hat⟩ := (Spec.applies_iff hf).mp happ
  obtain ⟨hg, hn⟩ := and_e (Cond.before_iff.mp (show (Jvm.Cond.and given_1 narrow_1).before args s = true from hpre))
  obtain ⟨g0, q0⟩ := and_e hg
  obtain ⟨g1, q1⟩ := and_e q0
  obtain ⟨g2, q2⟩ := and_e q1
  obtain ⟨g3, q3⟩ := and_e q2
  obtain ⟨g4, q4⟩ := and_e q3
  obtain ⟨g5, q5⟩ := and_e q4
  obtain ⟨w0, w1, w2, w3, w4, w5, rfl⟩ : ∃ w0 w1 w2 w3 w4 w5 : Value, args = #[w0, w1, w2, w3, w4, w5] := by
    have hs : args.size = 6 := by simpa [Cond.value, given_1] using g0
    obtain ⟨L⟩ := args
    match L, hs with
    | [w0, w1, w2, w3, w4, w5], _ => exact ⟨w0, w1, w2, w3, w4, w5, rfl⟩
  have hw := fun d (hd : d ∈ tables_1) => atoms_spec (ws := Jvm.Cond.code x code maxLocals ret :: tables_1) hat d (List.mem_cons_of_mem _ hd)
  obtain ⟨i0, z0⟩ := is_v g1
  obtain rfl : w0 = (.int i0) := Option.some.inj z0
  obtain ⟨i1, z1⟩ := is_v g2
  obtain rfl : w1 = (.int i1) := Option.some.inj z1
  obtain ⟨i2, z2⟩ := is_v g3
  obtain rfl : w2 = (.int i2) := Option.some.inj z2
  obtain ⟨i3, z3⟩ := is_v g4
  obtain rfl : w3 = (.int i3) := Option.some.inj z3
  obtain ⟨i4, z4⟩ := is_v g5
  obtain rfl : w4 = (.int i4) := Option.some.inj z4
  obtain ⟨i5, z5⟩ := is_v q5
  obtain rfl : w5 = (.int i5) := Option.some.inj z5
  have hrest' := Cond.before_iff.mp (show rest_1_c.before _ s = true from hrest)
  obtain ⟨r0, hrest'⟩ := and_e hrest'
  obtain ⟨r1, hrest'⟩ := and_e hrest'
  obtain ⟨r2, hrest'⟩ := and_e hrest'
  obtain ⟨cz, ev⟩ := is_v r1
  have hcz : ¬ cz = 0 := by
    intro hc
    subst hc
    exact absurd ((eq_i ev (Term.int_eval 0) rfl).symm.trans (own_not_e r2)) (by decide)
  have wS := own_wS s _ hw
  obtain ⟨n, o, h1, h2, h3, v, L, rfl, ⟨N, rfl⟩, hq⟩ := own_m_law l s _ hw s.heap s.heap.size (Nat.le_refl _) ⟨rfl, Nat.le_refl _, fun _ _ q => q⟩ wS (hcalls.1 _ (List.mem_of_getElem? (i := 0) rfl)) (hcalls.1 _ (List.mem_of_getElem? (i := 1) rfl)) (Cond.before_iff.mpr r2) hcz (Sta.start ev (Or.inl (Cond.before_iff.mpr r0))) i0 i1 i2 i3 i4 i5 p e ha hc hk s m _ below hf ((Spec.applies_iff_loose hf).mp happ).1 ⟨rfl, State.WarmedH.refl s, rfl⟩ trivial
  exact ⟨n, _, h1, h2, h3, hpost _ _ _ _ _ _ ⟨Cond.after_iff.mpr rfl, Cond.after_iff.mpr (eq_i res_at (Term.int_eval (1)) rfl), trivial⟩ ⟨hq.1, hq.2.1, hq.2.2.1, (hq.2.2.2.sift fun y hy => Or.inr (N y hy)).mono (by decide) (by decide)⟩⟩
theorem main_1_1 : Claimed_1_1 := own_comes fun _ _ _ _ _ _ h hF => ⟨h.1, hF⟩
theorem main_1_2 : Claimed_1_2 := own_comes fun _ _ _ _ _ _ h hF => ⟨h.2.1, hF⟩

end Jvm.Pilot.@@N@@
namespace Jvm.Pilot.@@N@@
open Jvm Jvm.ClassFile Sem Op Lib Jvm.Free Jvm.Stand Jvm.Pilot.@@N@@.Jvm.D
/-! MADE BY PROGRAM (witnessworld.py) out of the Statement's table words and the real class files: 19 classes; the members and pool entries that the words name. The judged class is class 1, her method 2. -/
namespace start1
open Jvm.ClassFile
def u (s : String) : CpInfo := .utf8 (stringToUtf16 s)
/-- a pool by its gaps: so many unusable entries, then the entry; so many at the end -/
def gap : Nat → List CpInfo → List CpInfo
  | 0, r => r
  | n + 1, r => .unusable :: gap n r
def poolList (es : List (Nat × CpInfo)) (last : Nat) : List CpInfo := es.foldr (fun e r => gap e.1 (e.2 :: r)) (gap last [])
def pool (es : List (Nat × CpInfo)) (last : Nat) : Array CpInfo := ⟨poolList es last⟩
def fileOf (pool : Array CpInfo) (this : Nat) (attrs : Array Attribute := #[]) (ms : Array MethodInfo := #[]) (fl : Nat := 33) (sup : Nat := 0) (ifs : Array Nat := #[]) (fds : Array FieldInfo := #[]) : ClassFile where
  minorVersion := 0
  majorVersion := 65
  constantPool := pool
  accessFlags := fl
  thisClass := this
  superClass := sup
  interfaces := ifs
  fields := fds
  methods := ms
  attributes := attrs
def plain (name : String) (sup : Option ClassId) : Class where
  name := name
  kind := .ordinary
  loader := none
  accessFlags := 33
  super := sup
  interfaces := #[]
  cf := none
  fields := #[]
  methods := #[]
  instanceTypes := #[]
  staticTypes := #[]
  resolved := #[]
  callSites := []
  init := .initialized
  statics := none
  mirror := none

def pool0 : Array CpInfo := pool [(5, u "<init>"), (0, u "()V"), (1, .class_ 10), (1, u "java/lang/Object")] 113

def k0c0 : Code := { maxStack := 0, maxLocals := 1, code := object_method_1_code, exceptionTable := #[], attributes := #[] }
def k0m0 : Method := { name := "<init>", desc := "()V", sig := { parameters := [], returnType := none }, accessFlags := 1, code := some k0c0 }
/-- java/lang/Object -/
def k0 : Class := { plain "java/lang/Object" none with
  accessFlags := 33
  interfaces := #[]
  cf := some (fileOf pool0 8 #[] #[{ accessFlags := 1, nameIndex := 5, descriptorIndex := 6, attributes := #[] }] 33 0 #[] #[])
  fields := #[]
  methods := #[k0m0]
  instanceTypes := #[]
  staticTypes := #[]
  resolved := Array.replicate 124 none
  statics := none }

def pool1 : Array CpInfo := pool [(2, .class_ 4), (1, u "java/lang/Object"), (0, u "<init>"), (0, u "()V"), (0, .class_ 8), (0, u "com/example/xqwry/xqwry/MarkupName"), (0, .methodref 10 11), (0, .class_ 12), (0, .nameAndType 13 14), (0, u "java/lang/String"), (0, u "valueOf"), (0, u "(C)Ljava/lang/String;"), (0, .methodref 7 16), (0, .nameAndType 5 17), (0, u "(Ljava/lang/String;)V"), (0, .methodref 7 19), (0, .nameAndType 20 21), (0, u "resolved"), (0, u "(ZI)I"), (0, .methodref 7 23), (0, .nameAndType 24 25), (0, u "keepResolved"), (0, u "(ZII)V"), (0, .methodref 27 28), (0, .class_ 29), (0, .nameAndType 30 31), (0, u "com/example/xqwry/xqwry/MarkupNameKeepResolvedPinLaw"), (0, u "expect"), (0, u "(III)I"), (3, u "law"), (0, u "(IIIIII)Z")] 2

def k1m0 : Method := { name := "<init>", desc := "()V", sig := { parameters := [], returnType := none }, accessFlags := 1, code := none }
def k1c1 : Code := { maxStack := 2, maxLocals := 3, code := method_2_code, exceptionTable := #[], attributes := #[] }
def k1m1 : Method := { name := "expect", desc := "(III)I", sig := { parameters := [.int, .int, .int], returnType := some .int }, accessFlags := 10, code := some k1c1 }
def k1c2 : Code := { maxStack := 4, maxLocals := 10, code := code, exceptionTable := #[], attributes := #[] }
def k1m2 : Method := { name := "law", desc := "(IIIIII)Z", sig := { parameters := [.int, .int, .int, .int, .int, .int], returnType := some .boolean }, accessFlags := 9, code := some k1c2 }
/-- com/example/xqwry/xqwry/MarkupNameKeepResolvedPinLaw -/
def k1 : Class := { plain "com/example/xqwry/xqwry/MarkupNameKeepResolvedPinLaw" (some 0) with
  accessFlags := 49
  interfaces := #[]
  cf := some (fileOf pool1 27 #[] #[{ accessFlags := 1, nameIndex := 5, descriptorIndex := 6, attributes := #[] }, { accessFlags := 10, nameIndex := 30, descriptorIndex := 31, attributes := #[] }, { accessFlags := 9, nameIndex := 35, descriptorIndex := 36, attributes := #[] }] 49 2 #[] #[])
  fields := #[]
  methods := #[k1m0, k1m1, k1m2]
  instanceTypes := #[]
  staticTypes := #[]
  resolved := Array.replicate 39 none
  statics := none }

def pool2 : Array CpInfo := pool [(1, .methodref 2 3), (0, .class_ 4), (0, .nameAndType 5 6), (0, u "java/lang/Object"), (0, u "<init>"), (0, u "()V"), (0, .class_ 8), (0, u "com/example/xqwry/xqwry/MarkupName$Resolution"), (0, .methodref 7 3), (0, .fieldref 11 12), (0, .class_ 13), (0, .nameAndType 14 15), (0, u "com/example/xqwry/xqwry/MarkupName"), (0, u "asElement"), (0, u "Lcom/example/xqwry/xqwry/MarkupName$Resolution;"), (0, .fieldref 11 17), (0, .nameAndType 18 15), (0, u "asAttribute"), (0, .fieldref 11 20), (0, .nameAndType 21 22), (0, u "lexicalName"), (0, u "Ljava/lang/String;"), (0, .methodref 24 25), (0, .class_ 26), (0, .nameAndType 27 28), (0, u "java/lang/String"), (0, u "indexOf"), (0, u "(I)I"), (0, .fieldref 11 30), (0, .nameAndType 31 32), (0, u "prefixed"), (0, u "Z"), (0, .string 34), (0, u "xmlns"), (0, .methodref 24 36), (0, .nameAndType 37 38), (0, u "equals"), (0, u "(Ljava/lang/Object;)Z"), (2, .fieldref 11 42), (0, .nameAndType 43 22), (0, u "declaredPrefix"), (0, .string 45), (0, u "xmlns:"), (0, .methodref 24 47), (0, .nameAndType 48 49), (0, u "startsWith"), (0, u "(Ljava/lang/String;)Z"), (4, .fieldref 7 55), (0, .nameAndType 56 57), (0, u "namespaceChanges"), (0, u "I"), (0, .fieldref 7 59), (0, .nameAndType 60 57), (0, u "name"), (2, u "lastTag"), (0, u "(Ljava/lang/String;)V"), (7, u "resolved"), (0, u "(ZI)I"), (0, u "keepResolved"), (0, u "(ZII)V")] 8

def k2c0 : Code := { maxStack := 3, maxLocals := 2, code := prog_166_method_1_code, exceptionTable := #[], attributes := #[] }
def k2m0 : Method := { name := "<init>", desc := "(Ljava/lang/String;)V", sig := { parameters := [(.object "java/lang/String")], returnType := none }, accessFlags := 0, code := some k2c0 }
def k2c1 : Code := { maxStack := 2, maxLocals := 4, code := prog_166_method_4_code, exceptionTable := #[], attributes := #[] }
def k2m1 : Method := { name := "resolved", desc := "(ZI)I", sig := { parameters := [.boolean, .int], returnType := some .int }, accessFlags := 0, code := some k2c1 }
def k2c2 : Code := { maxStack := 2, maxLocals := 5, code := prog_166_method_5_code, exceptionTable := #[], attributes := #[] }
def k2m2 : Method := { name := "keepResolved", desc := "(ZII)V", sig := { parameters := [.boolean, .int, .int], returnType := none }, accessFlags := 0, code := some k2c2 }
/-- com/example/xqwry/xqwry/MarkupName -/
def k2 : Class := { plain "com/example/xqwry/xqwry/MarkupName" (some 0) with
  accessFlags := 32
  interfaces := #[]
  cf := some (fileOf pool2 11 #[.nestMembers #[7]] #[{ accessFlags := 0, nameIndex := 5, descriptorIndex := 64, attributes := #[] }, { accessFlags := 0, nameIndex := 72, descriptorIndex := 73, attributes := #[] }, { accessFlags := 0, nameIndex := 74, descriptorIndex := 75, attributes := #[] }] 32 2 #[] #[{ accessFlags := 18, nameIndex := 21, descriptorIndex := 22, attributes := #[] }, { accessFlags := 18, nameIndex := 31, descriptorIndex := 32, attributes := #[] }, { accessFlags := 18, nameIndex := 43, descriptorIndex := 22, attributes := #[] }, { accessFlags := 18, nameIndex := 14, descriptorIndex := 15, attributes := #[] }, { accessFlags := 18, nameIndex := 18, descriptorIndex := 15, attributes := #[] }, { accessFlags := 2, nameIndex := 63, descriptorIndex := 57, attributes := #[] }])
  fields := #[{ name := "lexicalName", type := (.object "java/lang/String"), accessFlags := 18, slot := 0, constantValue := 0 }, { name := "prefixed", type := .boolean, accessFlags := 18, slot := 1, constantValue := 0 }, { name := "declaredPrefix", type := (.object "java/lang/String"), accessFlags := 18, slot := 2, constantValue := 0 }, { name := "asElement", type := (.object "com/example/xqwry/xqwry/MarkupName$Resolution"), accessFlags := 18, slot := 3, constantValue := 0 }, { name := "asAttribute", type := (.object "com/example/xqwry/xqwry/MarkupName$Resolution"), accessFlags := 18, slot := 4, constantValue := 0 }, { name := "lastTag", type := .int, accessFlags := 2, slot := 5, constantValue := 0 }]
  methods := #[k2m0, k2m1, k2m2]
  instanceTypes := #[(.object "java/lang/String"), .boolean, (.object "java/lang/String"), (.object "com/example/xqwry/xqwry/MarkupName$Resolution"), (.object "com/example/xqwry/xqwry/MarkupName$Resolution"), .int]
  staticTypes := #[]
  resolved := ((((Array.replicate 84 none).setIfInBounds 7 (some (.cls 10))).setIfInBounds 9 (some (.method ⟨10, 0⟩))).setIfInBounds 54 (some (.field 10 1))).setIfInBounds 58 (some (.field 10 0))
  statics := none }

def pool3 : Array CpInfo := pool [(1, .class_ 2), (0, u "java/io/Serializable"), (0, .class_ 4), (0, u "java/lang/Object")] 2

/-- java/io/Serializable -/
def k3 : Class := { plain "java/io/Serializable" (some 0) with
  accessFlags := 1537
  interfaces := #[]
  cf := some (fileOf pool3 1 #[] #[] 1537 3 #[] #[])
  fields := #[]
  methods := #[]
  instanceTypes := #[]
  staticTypes := #[]
  resolved := Array.replicate 7 none
  statics := none }

def pool4 : Array CpInfo := pool [(1, .class_ 2), (0, u "java/lang/Comparable"), (0, .class_ 4), (0, u "java/lang/Object")] 7

/-- java/lang/Comparable -/
def k4 : Class := { plain "java/lang/Comparable" (some 0) with
  accessFlags := 1537
  interfaces := #[]
  cf := some (fileOf pool4 1 #[] #[] 1537 3 #[] #[])
  fields := #[]
  methods := #[]
  instanceTypes := #[]
  staticTypes := #[]
  resolved := Array.replicate 12 none
  statics := none }

def pool5 : Array CpInfo := pool [(2, .class_ 4), (1, u "java/lang/CharSequence"), (42, .class_ 48), (0, u "java/lang/CharSequence$1CodePointIterator"), (10, .class_ 60), (0, u "java/lang/CharSequence$1CharIterator"), (5, .class_ 67), (0, u "java/lang/Object")] 63

/-- java/lang/CharSequence -/
def k5 : Class := { plain "java/lang/CharSequence" (some 0) with
  accessFlags := 1537
  interfaces := #[]
  cf := some (fileOf pool5 2 #[.nestMembers #[47, 59]] #[] 1537 66 #[] #[])
  fields := #[]
  methods := #[]
  instanceTypes := #[]
  staticTypes := #[]
  resolved := Array.replicate 131 none
  statics := none }

def pool6 : Array CpInfo := pool [(1, .class_ 2), (0, u "java/lang/constant/Constable"), (0, .class_ 4), (0, u "java/lang/Object")] 6

/-- java/lang/constant/Constable -/
def k6 : Class := { plain "java/lang/constant/Constable" (some 0) with
  accessFlags := 1537
  interfaces := #[]
  cf := some (fileOf pool6 1 #[] #[] 1537 3 #[] #[])
  fields := #[]
  methods := #[]
  instanceTypes := #[]
  staticTypes := #[]
  resolved := Array.replicate 11 none
  statics := none }

def pool7 : Array CpInfo := pool [(1, .class_ 2), (0, u "java/lang/constant/ConstantDesc"), (0, .class_ 4), (0, u "java/lang/Object")] 32

/-- java/lang/constant/ConstantDesc -/
def k7 : Class := { plain "java/lang/constant/ConstantDesc" (some 0) with
  accessFlags := 1537
  interfaces := #[]
  cf := some (fileOf pool7 1 #[] #[] 1537 3 #[] #[])
  fields := #[]
  methods := #[]
  instanceTypes := #[]
  staticTypes := #[]
  resolved := Array.replicate 37 none
  statics := none }

def pool8 : Array CpInfo := pool [(1, .methodref 2 3), (0, .class_ 4), (0, .nameAndType 5 6), (0, u "java/lang/Object"), (0, u "<init>"), (0, u "()V"), (2, .fieldref 10 11), (0, .class_ 12), (0, .nameAndType 13 14), (0, u "java/lang/String"), (0, u "value"), (0, u "[B"), (0, .fieldref 10 16), (0, .nameAndType 17 18), (0, u "coder"), (0, u "B"), (2, u "hash"), (0, u "I"), (2, u "hashIsZero"), (0, u "Z"), (11, .fieldref 10 39), (0, .nameAndType 40 26), (0, u "COMPACT_STRINGS"), (12, u "toBytes"), (53, .class_ 109), (1, u "java/lang/StringLatin1"), (32, u "()Z"), (66, .methodref 10 210), (0, .nameAndType 5 211), (0, u "([BB)V"), (122, u "()I"), (0, .methodref 10 336), (0, .nameAndType 17 337), (0, u "()B"), (31, u "(C)Z"), (122, .methodref 10 493), (0, .nameAndType 494 142), (0, u "isLatin1"), (10, .methodref 10 506), (0, .nameAndType 507 334), (0, u "length"), (33, .methodref 107 542), (0, .nameAndType 543 544), (0, u "equals"), (0, u "([B[B)Z"), (28, u "(Ljava/lang/Object;)Z"), (1, .class_ 576), (0, u "java/lang/CharSequence"), (22, u "CASE_INSENSITIVE_ORDER"), (0, u "Ljava/util/Comparator;"), (23, .methodref 10 625), (0, .nameAndType 626 627), (0, u "startsWith"), (0, u "(Ljava/lang/String;I)Z"), (5, .methodref 10 634), (0, .nameAndType 635 636), (0, u "indexOf"), (0, u "(II)I"), (0, .methodref 107 638), (0, .nameAndType 635 639), (0, u "([BIII)I"), (125, u "(I)I"), (16, u "valueOf"), (0, u "(C)Ljava/lang/String;"), (231, .methodref 107 1016), (0, .nameAndType 1017 369), (0, u "canEncode"), (0, .methodref 107 1019), (0, .nameAndType 53 1020), (0, u "(C)[B"), (80, u "serialPersistentFields"), (0, u "[Ljava/io/ObjectStreamField;"), (0, .class_ 1104), (0, u "java/lang/String$CaseInsensitiveComparator"), (1, .class_ 1107), (0, u "java/io/Serializable"), (0, .class_ 1109), (0, u "java/lang/Comparable"), (0, .class_ 1111), (0, u "java/lang/constant/Constable"), (0, .class_ 1113), (0, u "java/lang/constant/ConstantDesc"), (2, u "serialVersionUID"), (0, u "J"), (3, u "REPL"), (0, u "C"), (2, u "LATIN1"), (1, u "UTF16"), (129, u "(Ljava/lang/String;)Z")] 193

def k8m0 : Method := { name := "<init>", desc := "()V", sig := { parameters := [], returnType := none }, accessFlags := 1, code := none }
def k8c1 : Code := { maxStack := 2, maxLocals := 1, code := jdk_42_method_54_code, exceptionTable := #[], attributes := #[] }
def k8m1 : Method := { name := "length", desc := "()I", sig := { parameters := [], returnType := some .int }, accessFlags := 1, code := some k8c1 }
def k8c2 : Code := { maxStack := 2, maxLocals := 3, code := jdk_42_method_66_code, exceptionTable := #[], attributes := #[] }
def k8m2 : Method := { name := "equals", desc := "(Ljava/lang/Object;)Z", sig := { parameters := [(.object "java/lang/Object")], returnType := some .boolean }, accessFlags := 1, code := some k8c2 }
def k8c3 : Code := { maxStack := 5, maxLocals := 8, code := jdk_42_method_75_code, exceptionTable := #[], attributes := #[] }
def k8m3 : Method := { name := "startsWith", desc := "(Ljava/lang/String;I)Z", sig := { parameters := [(.object "java/lang/String"), .int], returnType := some .boolean }, accessFlags := 1, code := some k8c3 }
def k8c4 : Code := { maxStack := 3, maxLocals := 2, code := jdk_42_method_76_code, exceptionTable := #[], attributes := #[] }
def k8m4 : Method := { name := "startsWith", desc := "(Ljava/lang/String;)Z", sig := { parameters := [(.object "java/lang/String")], returnType := some .boolean }, accessFlags := 1, code := some k8c4 }
def k8c5 : Code := { maxStack := 3, maxLocals := 2, code := jdk_42_method_79_code, exceptionTable := #[], attributes := #[] }
def k8m5 : Method := { name := "indexOf", desc := "(I)I", sig := { parameters := [.int], returnType := some .int }, accessFlags := 1, code := some k8c5 }
def k8c6 : Code := { maxStack := 4, maxLocals := 3, code := jdk_42_method_80_code, exceptionTable := #[], attributes := #[] }
def k8m6 : Method := { name := "indexOf", desc := "(II)I", sig := { parameters := [.int, .int], returnType := some .int }, accessFlags := 1, code := some k8c6 }
def k8c7 : Code := { maxStack := 4, maxLocals := 1, code := jdk_42_method_139_code, exceptionTable := #[], attributes := #[] }
def k8m7 : Method := { name := "valueOf", desc := "(C)Ljava/lang/String;", sig := { parameters := [.char], returnType := some (.object "java/lang/String") }, accessFlags := 9, code := some k8c7 }
def k8c8 : Code := { maxStack := 2, maxLocals := 3, code := jdk_42_method_151_code, exceptionTable := #[], attributes := #[] }
def k8m8 : Method := { name := "<init>", desc := "([BB)V", sig := { parameters := [(.array .byte), .byte], returnType := none }, accessFlags := 0, code := some k8c8 }
def k8c9 : Code := { maxStack := 1, maxLocals := 1, code := jdk_42_method_152_code, exceptionTable := #[], attributes := #[] }
def k8m9 : Method := { name := "coder", desc := "()B", sig := { parameters := [], returnType := some .byte }, accessFlags := 0, code := some k8c9 }
def k8c10 : Code := { maxStack := 1, maxLocals := 1, code := jdk_42_method_154_code, exceptionTable := #[], attributes := #[] }
def k8m10 : Method := { name := "isLatin1", desc := "()Z", sig := { parameters := [], returnType := some .boolean }, accessFlags := 0, code := some k8c10 }
/-- java/lang/String -/
def k8 : Class := { plain "java/lang/String" (some 0) with
  accessFlags := 49
  interfaces := #[3, 4, 5, 6, 7]
  cf := some (fileOf pool8 10 #[.nestMembers #[1103]] #[{ accessFlags := 1, nameIndex := 5, descriptorIndex := 6, attributes := #[] }, { accessFlags := 1, nameIndex := 507, descriptorIndex := 334, attributes := #[] }, { accessFlags := 1, nameIndex := 543, descriptorIndex := 573, attributes := #[] }, { accessFlags := 1, nameIndex := 626, descriptorIndex := 627, attributes := #[] }, { accessFlags := 1, nameIndex := 626, descriptorIndex := 1257, attributes := #[] }, { accessFlags := 1, nameIndex := 635, descriptorIndex := 765, attributes := #[] }, { accessFlags := 1, nameIndex := 635, descriptorIndex := 636, attributes := #[] }, { accessFlags := 9, nameIndex := 782, descriptorIndex := 783, attributes := #[] }, { accessFlags := 0, nameIndex := 5, descriptorIndex := 211, attributes := #[] }, { accessFlags := 0, nameIndex := 17, descriptorIndex := 337, attributes := #[] }, { accessFlags := 0, nameIndex := 494, descriptorIndex := 142, attributes := #[] }] 49 2 #[1106, 1108, 575, 1110, 1112] #[{ accessFlags := 18, nameIndex := 13, descriptorIndex := 14, attributes := #[] }, { accessFlags := 18, nameIndex := 17, descriptorIndex := 18, attributes := #[] }, { accessFlags := 2, nameIndex := 21, descriptorIndex := 22, attributes := #[] }, { accessFlags := 2, nameIndex := 25, descriptorIndex := 26, attributes := #[] }, { accessFlags := 26, nameIndex := 1116, descriptorIndex := 1117, attributes := #[] }, { accessFlags := 24, nameIndex := 40, descriptorIndex := 26, attributes := #[] }, { accessFlags := 26, nameIndex := 1101, descriptorIndex := 1102, attributes := #[] }, { accessFlags := 26, nameIndex := 1121, descriptorIndex := 1122, attributes := #[] }, { accessFlags := 25, nameIndex := 599, descriptorIndex := 600, attributes := #[] }, { accessFlags := 24, nameIndex := 1125, descriptorIndex := 18, attributes := #[] }, { accessFlags := 24, nameIndex := 1127, descriptorIndex := 18, attributes := #[] }])
  fields := #[{ name := "value", type := (.array .byte), accessFlags := 18, slot := 0, constantValue := 0 }, { name := "coder", type := .byte, accessFlags := 18, slot := 1, constantValue := 0 }, { name := "hash", type := .int, accessFlags := 2, slot := 2, constantValue := 0 }, { name := "hashIsZero", type := .boolean, accessFlags := 2, slot := 3, constantValue := 0 }, { name := "serialVersionUID", type := .long, accessFlags := 26, slot := 0, constantValue := 0 }, { name := "COMPACT_STRINGS", type := .boolean, accessFlags := 24, slot := 1, constantValue := 0 }, { name := "serialPersistentFields", type := (.array (.object "java/io/ObjectStreamField")), accessFlags := 26, slot := 2, constantValue := 0 }, { name := "REPL", type := .char, accessFlags := 26, slot := 3, constantValue := 0 }, { name := "CASE_INSENSITIVE_ORDER", type := (.object "java/util/Comparator"), accessFlags := 25, slot := 4, constantValue := 0 }, { name := "LATIN1", type := .byte, accessFlags := 24, slot := 5, constantValue := 0 }, { name := "UTF16", type := .byte, accessFlags := 24, slot := 6, constantValue := 0 }]
  methods := #[k8m0, k8m1, k8m2, k8m3, k8m4, k8m5, k8m6, k8m7, k8m8, k8m9, k8m10]
  instanceTypes := #[(.array .byte), .byte, .int, .boolean]
  staticTypes := #[.long, .boolean, (.array (.object "java/io/ObjectStreamField")), .char, (.object "java/util/Comparator"), .byte, .byte]
  resolved := Array.replicate 1451 none
  statics := some 0 }

def pool9 : Array CpInfo := pool [(4, .class_ 6), (1, u "java/lang/Object"), (0, u "<init>"), (0, u "()V"), (5, .class_ 16), (1, u "java/lang/StringLatin1"), (21, .methodref 39 40), (0, .class_ 41), (0, .nameAndType 42 43), (0, u "java/lang/Math"), (0, u "min"), (0, u "(II)I"), (44, .methodref 14 89), (0, .nameAndType 90 91), (0, u "canEncode"), (0, u "(I)Z"), (0, .methodref 39 93), (0, .nameAndType 94 43), (0, u "max"), (0, .methodref 14 96), (0, .nameAndType 97 98), (0, u "indexOfChar"), (0, u "([BIII)I"), (2, u "indexOf"), (3, u "(C)Z"), (15, u "$assertionsDisabled"), (0, u "Z"), (98, .class_ 223), (1, u "java/lang/StringLatin1$LinesSpliterator"), (57, u "equals"), (0, u "([B[B)Z"), (97, u "toBytes"), (1, u "(C)[B"), (7, .class_ 391), (0, u "java/lang/StringLatin1$CharsSpliterator")] 3

def k9m0 : Method := { name := "<init>", desc := "()V", sig := { parameters := [], returnType := none }, accessFlags := 0, code := none }
def k9c1 : Code := { maxStack := 2, maxLocals := 1, code := jdk_43_method_3_code, exceptionTable := #[], attributes := #[] }
def k9m1 : Method := { name := "canEncode", desc := "(C)Z", sig := { parameters := [.char], returnType := some .boolean }, accessFlags := 9, code := some k9c1 }
def k9c2 : Code := { maxStack := 2, maxLocals := 1, code := jdk_43_method_4_code, exceptionTable := #[], attributes := #[] }
def k9m2 : Method := { name := "canEncode", desc := "(I)Z", sig := { parameters := [.int], returnType := some .boolean }, accessFlags := 9, code := some k9c2 }
def k9c3 : Code := { maxStack := 3, maxLocals := 3, code := jdk_43_method_13_code, exceptionTable := #[], attributes := #[] }
def k9m3 : Method := { name := "equals", desc := "([B[B)Z", sig := { parameters := [(.array .byte), (.array .byte)], returnType := some .boolean }, accessFlags := 9, code := some k9c3 }
def k9c4 : Code := { maxStack := 4, maxLocals := 4, code := jdk_43_method_22_code, exceptionTable := #[], attributes := #[] }
def k9m4 : Method := { name := "indexOf", desc := "([BIII)I", sig := { parameters := [(.array .byte), .int, .int, .int], returnType := some .int }, accessFlags := 9, code := some k9c4 }
def k9c5 : Code := { maxStack := 2, maxLocals := 6, code := jdk_43_method_23_code, exceptionTable := #[], attributes := #[] }
def k9m5 : Method := { name := "indexOfChar", desc := "([BIII)I", sig := { parameters := [(.array .byte), .int, .int, .int], returnType := some .int }, accessFlags := 10, code := some k9c5 }
def k9c6 : Code := { maxStack := 4, maxLocals := 1, code := jdk_43_method_46_code, exceptionTable := #[], attributes := #[] }
def k9m6 : Method := { name := "toBytes", desc := "(C)[B", sig := { parameters := [.char], returnType := some (.array .byte) }, accessFlags := 9, code := some k9c6 }
/-- java/lang/StringLatin1 -/
def k9 : Class := { plain "java/lang/StringLatin1" (some 0) with
  accessFlags := 48
  interfaces := #[]
  cf := some (fileOf pool9 14 #[.nestMembers #[390, 221]] #[{ accessFlags := 0, nameIndex := 7, descriptorIndex := 8, attributes := #[] }, { accessFlags := 9, nameIndex := 90, descriptorIndex := 105, attributes := #[] }, { accessFlags := 9, nameIndex := 90, descriptorIndex := 91, attributes := #[] }, { accessFlags := 9, nameIndex := 281, descriptorIndex := 282, attributes := #[] }, { accessFlags := 9, nameIndex := 101, descriptorIndex := 98, attributes := #[] }, { accessFlags := 10, nameIndex := 97, descriptorIndex := 98, attributes := #[] }, { accessFlags := 9, nameIndex := 380, descriptorIndex := 382, attributes := #[] }] 48 4 #[] #[{ accessFlags := 4120, nameIndex := 121, descriptorIndex := 122, attributes := #[] }])
  fields := #[{ name := "$assertionsDisabled", type := .boolean, accessFlags := 4120, slot := 0, constantValue := 0 }]
  methods := #[k9m0, k9m1, k9m2, k9m3, k9m4, k9m5, k9m6]
  instanceTypes := #[]
  staticTypes := #[.boolean]
  resolved := Array.replicate 395 none
  statics := none }

def pool10 : Array CpInfo := pool [(1, .methodref 2 3), (0, .class_ 4), (0, .nameAndType 5 6), (0, u "java/lang/Object"), (0, u "<init>"), (0, u "()V"), (0, .fieldref 8 9), (0, .class_ 10), (0, .nameAndType 11 12), (0, u "com/example/xqwry/xqwry/MarkupName$Resolution"), (0, u "name"), (0, u "I"), (0, .fieldref 8 14), (0, .nameAndType 15 12), (0, u "namespaceChanges"), (5, .class_ 22), (0, u "com/example/xqwry/xqwry/MarkupName")] 2

def k10c0 : Code := { maxStack := 2, maxLocals := 1, code := prog_167_method_1_code, exceptionTable := #[], attributes := #[] }
def k10m0 : Method := { name := "<init>", desc := "()V", sig := { parameters := [], returnType := none }, accessFlags := 2, code := some k10c0 }
/-- com/example/xqwry/xqwry/MarkupName$Resolution -/
def k10 : Class := { plain "com/example/xqwry/xqwry/MarkupName$Resolution" (some 0) with
  accessFlags := 32
  interfaces := #[]
  cf := some (fileOf pool10 8 #[.nestHost 21] #[{ accessFlags := 2, nameIndex := 5, descriptorIndex := 6, attributes := #[] }] 32 2 #[] #[{ accessFlags := 2, nameIndex := 11, descriptorIndex := 12, attributes := #[] }, { accessFlags := 2, nameIndex := 15, descriptorIndex := 12, attributes := #[] }])
  fields := #[{ name := "name", type := .int, accessFlags := 2, slot := 0, constantValue := 0 }, { name := "namespaceChanges", type := .int, accessFlags := 2, slot := 1, constantValue := 0 }]
  methods := #[k10m0]
  instanceTypes := #[.int, .int]
  staticTypes := #[]
  resolved := Array.replicate 25 none
  statics := none }

def pool11 : Array CpInfo := pool [(1, .class_ 2), (0, u "java/lang/Math"), (1, .class_ 6), (1, u "java/lang/Object"), (0, u "<init>"), (0, u "()V"), (89, .class_ 100), (1, u "java/lang/Math$RandomNumberGeneratorHolder"), (71, u "negativeZeroFloatBits"), (0, u "J"), (2, u "negativeZeroDoubleBits"), (21, u "max"), (2, u "min"), (43, u "$assertionsDisabled"), (0, u "Z"), (88, u "(II)I"), (2, u "twoToTheDoubleScaleDown"), (0, u "D"), (4, u "twoToTheDoubleScaleUp"), (9, u "E"), (3, u "PI"), (2, u "TAU"), (2, u "DEGREES_TO_RADIANS"), (0, u "RADIANS_TO_DEGREES")] 94

def k11m0 : Method := { name := "<init>", desc := "()V", sig := { parameters := [], returnType := none }, accessFlags := 2, code := none }
def k11c1 : Code := { maxStack := 2, maxLocals := 2, code := jdk_29_method_65_code, exceptionTable := #[], attributes := #[] }
def k11m1 : Method := { name := "max", desc := "(II)I", sig := { parameters := [.int, .int], returnType := some .int }, accessFlags := 9, code := some k11c1 }
def k11c2 : Code := { maxStack := 2, maxLocals := 2, code := jdk_29_method_69_code, exceptionTable := #[], attributes := #[] }
def k11m2 : Method := { name := "min", desc := "(II)I", sig := { parameters := [.int, .int], returnType := some .int }, accessFlags := 9, code := some k11c2 }
/-- java/lang/Math -/
def k11 : Class := { plain "java/lang/Math" (some 0) with
  accessFlags := 49
  interfaces := #[]
  cf := some (fileOf pool11 1 #[.nestMembers #[98]] #[{ accessFlags := 2, nameIndex := 7, descriptorIndex := 8, attributes := #[] }, { accessFlags := 9, nameIndex := 198, descriptorIndex := 335, attributes := #[] }, { accessFlags := 9, nameIndex := 201, descriptorIndex := 335, attributes := #[] }] 49 4 #[] #[{ accessFlags := 25, nameIndex := 354, descriptorIndex := 339, attributes := #[] }, { accessFlags := 25, nameIndex := 358, descriptorIndex := 339, attributes := #[] }, { accessFlags := 25, nameIndex := 361, descriptorIndex := 339, attributes := #[] }, { accessFlags := 26, nameIndex := 364, descriptorIndex := 339, attributes := #[] }, { accessFlags := 26, nameIndex := 365, descriptorIndex := 339, attributes := #[] }, { accessFlags := 26, nameIndex := 172, descriptorIndex := 173, attributes := #[] }, { accessFlags := 26, nameIndex := 176, descriptorIndex := 173, attributes := #[] }, { accessFlags := 8, nameIndex := 344, descriptorIndex := 339, attributes := #[] }, { accessFlags := 8, nameIndex := 338, descriptorIndex := 339, attributes := #[] }, { accessFlags := 4120, nameIndex := 245, descriptorIndex := 246, attributes := #[] }])
  fields := #[{ name := "E", type := .double, accessFlags := 25, slot := 0, constantValue := 0 }, { name := "PI", type := .double, accessFlags := 25, slot := 1, constantValue := 0 }, { name := "TAU", type := .double, accessFlags := 25, slot := 2, constantValue := 0 }, { name := "DEGREES_TO_RADIANS", type := .double, accessFlags := 26, slot := 3, constantValue := 0 }, { name := "RADIANS_TO_DEGREES", type := .double, accessFlags := 26, slot := 4, constantValue := 0 }, { name := "negativeZeroFloatBits", type := .long, accessFlags := 26, slot := 5, constantValue := 0 }, { name := "negativeZeroDoubleBits", type := .long, accessFlags := 26, slot := 6, constantValue := 0 }, { name := "twoToTheDoubleScaleUp", type := .double, accessFlags := 8, slot := 7, constantValue := 0 }, { name := "twoToTheDoubleScaleDown", type := .double, accessFlags := 8, slot := 8, constantValue := 0 }, { name := "$assertionsDisabled", type := .boolean, accessFlags := 4120, slot := 9, constantValue := 0 }]
  methods := #[k11m0, k11m1, k11m2]
  instanceTypes := #[]
  staticTypes := #[.double, .double, .double, .double, .double, .long, .long, .double, .double, .boolean]
  resolved := Array.replicate 460 none
  statics := none }

def pool12 : Array CpInfo := pool [(2, .class_ 4), (1, u "java/lang/Object"), (0, u "<init>"), (0, u "()V"), (17, .class_ 26), (1, u "jdk/internal/util/Preconditions"), (28, .class_ 56), (0, u "jdk/internal/util/Preconditions$4"), (57, .class_ 115), (0, u "jdk/internal/util/Preconditions$1"), (7, u "SIOOBE_FORMATTER"), (0, u "Ljava/util/function/BiFunction;"), (0, .class_ 126), (0, u "jdk/internal/util/Preconditions$2"), (3, u "AIOOBE_FORMATTER"), (0, .class_ 132), (0, u "jdk/internal/util/Preconditions$3"), (3, u "IOOBE_FORMATTER")] 57

def k12m0 : Method := { name := "<init>", desc := "()V", sig := { parameters := [], returnType := none }, accessFlags := 1, code := none }
/-- jdk/internal/util/Preconditions -/
def k12 : Class := { plain "jdk/internal/util/Preconditions" (some 0) with
  accessFlags := 33
  interfaces := #[]
  cf := some (fileOf pool12 24 #[.nestMembers #[55, 131, 125, 114]] #[{ accessFlags := 1, nameIndex := 5, descriptorIndex := 6, attributes := #[] }] 33 2 #[] #[{ accessFlags := 25, nameIndex := 123, descriptorIndex := 124, attributes := #[] }, { accessFlags := 25, nameIndex := 130, descriptorIndex := 124, attributes := #[] }, { accessFlags := 25, nameIndex := 136, descriptorIndex := 124, attributes := #[] }])
  fields := #[{ name := "SIOOBE_FORMATTER", type := (.object "java/util/function/BiFunction"), accessFlags := 25, slot := 0, constantValue := 0 }, { name := "AIOOBE_FORMATTER", type := (.object "java/util/function/BiFunction"), accessFlags := 25, slot := 1, constantValue := 0 }, { name := "IOOBE_FORMATTER", type := (.object "java/util/function/BiFunction"), accessFlags := 25, slot := 2, constantValue := 0 }]
  methods := #[k12m0]
  instanceTypes := #[]
  staticTypes := #[(.object "java/util/function/BiFunction"), (.object "java/util/function/BiFunction"), (.object "java/util/function/BiFunction")]
  resolved := Array.replicate 194 none
  statics := some 1 }

def pool13 : Array CpInfo := pool [(9, u "<init>"), (6, .class_ 18), (1, u "java/lang/Object"), (0, u "()V"), (1, .class_ 23), (1, u "jdk/internal/util/ArraysSupport"), (0, u "LOG2_ARRAY_LONG_INDEX_SCALE"), (0, u "I"), (2, u "U"), (0, u "Ljdk/internal/misc/Unsafe;"), (8, u "BIG_ENDIAN"), (0, u "Z"), (8, u "LOG2_BYTE_BIT_SIZE"), (4, u "LOG2_ARRAY_INT_INDEX_SCALE"), (54, u "JLA"), (0, u "Ljdk/internal/access/JavaLangAccess;"), (11, u "LOG2_ARRAY_BOOLEAN_INDEX_SCALE"), (9, u "LOG2_ARRAY_BYTE_INDEX_SCALE"), (5, u "LOG2_ARRAY_CHAR_INDEX_SCALE"), (5, u "LOG2_ARRAY_SHORT_INDEX_SCALE"), (18, u "LOG2_ARRAY_FLOAT_INDEX_SCALE"), (24, u "LOG2_ARRAY_DOUBLE_INDEX_SCALE"), (89, u "T_BOOLEAN"), (2, u "T_CHAR"), (1, u "T_FLOAT"), (1, u "T_DOUBLE"), (1, u "T_BYTE"), (1, u "T_SHORT"), (1, u "T_INT"), (1, u "T_LONG"), (1, u "SOFT_MAX_ARRAY_LENGTH")] 83

def k13m0 : Method := { name := "<init>", desc := "()V", sig := { parameters := [], returnType := none }, accessFlags := 2, code := none }
/-- jdk/internal/util/ArraysSupport -/
def k13 : Class := { plain "jdk/internal/util/ArraysSupport" (some 0) with
  accessFlags := 33
  interfaces := #[]
  cf := some (fileOf pool13 21 #[] #[{ accessFlags := 2, nameIndex := 9, descriptorIndex := 19, attributes := #[] }] 33 16 #[] #[{ accessFlags := 24, nameIndex := 28, descriptorIndex := 29, attributes := #[] }, { accessFlags := 26, nameIndex := 38, descriptorIndex := 39, attributes := #[] }, { accessFlags := 25, nameIndex := 121, descriptorIndex := 25, attributes := #[] }, { accessFlags := 25, nameIndex := 131, descriptorIndex := 25, attributes := #[] }, { accessFlags := 25, nameIndex := 137, descriptorIndex := 25, attributes := #[] }, { accessFlags := 25, nameIndex := 143, descriptorIndex := 25, attributes := #[] }, { accessFlags := 25, nameIndex := 53, descriptorIndex := 25, attributes := #[] }, { accessFlags := 25, nameIndex := 24, descriptorIndex := 25, attributes := #[] }, { accessFlags := 25, nameIndex := 162, descriptorIndex := 25, attributes := #[] }, { accessFlags := 25, nameIndex := 187, descriptorIndex := 25, attributes := #[] }, { accessFlags := 26, nameIndex := 48, descriptorIndex := 25, attributes := #[] }, { accessFlags := 25, nameIndex := 277, descriptorIndex := 25, attributes := #[] }, { accessFlags := 25, nameIndex := 280, descriptorIndex := 25, attributes := #[] }, { accessFlags := 25, nameIndex := 282, descriptorIndex := 25, attributes := #[] }, { accessFlags := 25, nameIndex := 284, descriptorIndex := 25, attributes := #[] }, { accessFlags := 25, nameIndex := 286, descriptorIndex := 25, attributes := #[] }, { accessFlags := 25, nameIndex := 288, descriptorIndex := 25, attributes := #[] }, { accessFlags := 25, nameIndex := 290, descriptorIndex := 25, attributes := #[] }, { accessFlags := 25, nameIndex := 292, descriptorIndex := 25, attributes := #[] }, { accessFlags := 26, nameIndex := 108, descriptorIndex := 109, attributes := #[] }, { accessFlags := 25, nameIndex := 294, descriptorIndex := 25, attributes := #[] }])
  fields := #[{ name := "U", type := (.object "jdk/internal/misc/Unsafe"), accessFlags := 24, slot := 0, constantValue := 0 }, { name := "BIG_ENDIAN", type := .boolean, accessFlags := 26, slot := 1, constantValue := 0 }, { name := "LOG2_ARRAY_BOOLEAN_INDEX_SCALE", type := .int, accessFlags := 25, slot := 2, constantValue := 0 }, { name := "LOG2_ARRAY_BYTE_INDEX_SCALE", type := .int, accessFlags := 25, slot := 3, constantValue := 0 }, { name := "LOG2_ARRAY_CHAR_INDEX_SCALE", type := .int, accessFlags := 25, slot := 4, constantValue := 0 }, { name := "LOG2_ARRAY_SHORT_INDEX_SCALE", type := .int, accessFlags := 25, slot := 5, constantValue := 0 }, { name := "LOG2_ARRAY_INT_INDEX_SCALE", type := .int, accessFlags := 25, slot := 6, constantValue := 0 }, { name := "LOG2_ARRAY_LONG_INDEX_SCALE", type := .int, accessFlags := 25, slot := 7, constantValue := 0 }, { name := "LOG2_ARRAY_FLOAT_INDEX_SCALE", type := .int, accessFlags := 25, slot := 8, constantValue := 0 }, { name := "LOG2_ARRAY_DOUBLE_INDEX_SCALE", type := .int, accessFlags := 25, slot := 9, constantValue := 0 }, { name := "LOG2_BYTE_BIT_SIZE", type := .int, accessFlags := 26, slot := 10, constantValue := 0 }, { name := "T_BOOLEAN", type := .int, accessFlags := 25, slot := 11, constantValue := 0 }, { name := "T_CHAR", type := .int, accessFlags := 25, slot := 12, constantValue := 0 }, { name := "T_FLOAT", type := .int, accessFlags := 25, slot := 13, constantValue := 0 }, { name := "T_DOUBLE", type := .int, accessFlags := 25, slot := 14, constantValue := 0 }, { name := "T_BYTE", type := .int, accessFlags := 25, slot := 15, constantValue := 0 }, { name := "T_SHORT", type := .int, accessFlags := 25, slot := 16, constantValue := 0 }, { name := "T_INT", type := .int, accessFlags := 25, slot := 17, constantValue := 0 }, { name := "T_LONG", type := .int, accessFlags := 25, slot := 18, constantValue := 0 }, { name := "JLA", type := (.object "jdk/internal/access/JavaLangAccess"), accessFlags := 26, slot := 19, constantValue := 0 }, { name := "SOFT_MAX_ARRAY_LENGTH", type := .int, accessFlags := 25, slot := 20, constantValue := 0 }]
  methods := #[k13m0]
  instanceTypes := #[]
  staticTypes := #[(.object "jdk/internal/misc/Unsafe"), .boolean, .int, .int, .int, .int, .int, .int, .int, .int, .int, .int, .int, .int, .int, .int, .int, .int, .int, (.object "jdk/internal/access/JavaLangAccess"), .int]
  resolved := Array.replicate 378 none
  statics := none }

def pool14 : Array CpInfo := pool [(1, u "java/lang/Cloneable"), (0, .class_ 1), (0, u "java/lang/Object"), (0, .class_ 3)] 3

/-- java/lang/Cloneable -/
def k14 : Class := { plain "java/lang/Cloneable" (some 0) with
  accessFlags := 1537
  interfaces := #[]
  cf := some (fileOf pool14 2 #[] #[] 1537 4 #[] #[])
  fields := #[]
  methods := #[]
  instanceTypes := #[]
  staticTypes := #[]
  resolved := Array.replicate 8 none
  statics := none }

/-- the primitive byte -/
def k15 : Class := { plain "byte" none with kind := .primitive 'B', accessFlags := 0x411 }
/-- [B -/
def k16 : Class := { plain "[B" (some 0) with kind := .array 15 .byte, interfaces := #[14, 3], accessFlags := 1041 }

/-- the primitive int -/
def k17 : Class := { plain "int" none with kind := .primitive 'I', accessFlags := 0x411 }
/-- [I -/
def k18 : Class := { plain "[I" (some 0) with kind := .array 17 .int, interfaces := #[14, 3], accessFlags := 1041 }

def heap : Heap := #[{ cls := 8, slots := #[.long 0, .int 1, .null, .int 0, .null, .int 0, .int 0], vm := .statics 8 },
  { cls := 12, slots := #[.null, .null, .null], vm := .statics 12 }]
def classes : Array Class := #[k0, k1, k2, k3, k4, k5, k6, k7, k8, k9, k10, k11, k12, k13, k14, k15, k16, k17, k18]
def interned : List (Array UInt16 × Addr) := []
def slotsUsed : Nat := 10
def theMethod : MethodId := ⟨1, 2⟩
def args0 : Array Value := #[.int 5, .int 1, .int 2, .int 3, .int 4, .int 5]
def aboutOver (below : List Frame) : State where
  vm := { classes := classes, interned := interned.toArray }
  heap := heap
  slotsUsed := slotsUsed
  threads := #[{ frames := .invoking theMethod args0 :: below }]
def below0 : List Frame := [.native { method := ⟨0, 0⟩, args := #[] }]
def about1 : State := aboutOver below0
def p0 : Program := .bare "" "" ""
def e0 : Env := launch0.env 0 0 0
theorem w_frames : about1.frames = Frame.invoking theMethod args0 :: below0 := rfl
set_option maxRecDepth 65536 in
theorem w_args : argsFit about1.vm theMethod args0 = true := by decide +kernel
set_option maxRecDepth 65536 in
theorem w_heap : heapFits about1 = true := by decide +kernel
set_option maxRecDepth 65536 in
theorem w_runnable : about1.curStatus? = some .runnable := by decide +kernel
set_option maxRecDepth 65536 in
theorem w_alone : about1.alone = true := by decide +kernel
set_option maxRecDepth 65536 in
theorem w_named : about1.methodNamed? x = some theMethod := by decide +kernel
set_option maxRecDepth 65536 in
theorem w_hears : about1.hears theMethod below0 = true := by decide +kernel
set_option maxRecDepth 65536 in
theorem w_ripe : about1.ripe theMethod args0 below0 = true := by decide +kernel
theorem w_running : about1.status = .running := rfl
set_option maxRecDepth 65536 in
theorem w_room : about1.hasRoom e0.platform room_1 = true :=
  launch0.hasRoom_least _ room_1 (by decide +kernel) (by decide +kernel) (by decide +kernel) (by decide +kernel) (by decide +kernel) (by decide +kernel)
theorem allAtoms_all (ts : List Jvm.Cond) (a : Array Jvm.Value) (st : Jvm.State) : (allAtoms ts).before a st = ts.all (fun c => c.before a st) := by
  induction ts with
  | nil => rfl
  | cons c t ih =>
    show (Jvm.Cond.and c (allAtoms t)).before a st = _
    rw [Jvm.Cond.before_and, ih, List.all_cons]
def words1 : List Jvm.Cond := Jvm.Cond.code x code maxLocals ret :: tables_1
/-- a 'code' word, met by the world's own term for the bytes: nothing is compared byte by byte -/
theorem code_word {y : MethodName} {bytes : ByteArray} {mx : Nat} {rt : Option FieldType} {a : Array Value} {s : State} {m : MethodId} {meth : Method} {c : Code} (h1 : s.methodNamed? y = some m) (h2 : s.vm.method? m = some meth) (h3 : meth.code = some c) (h4 : c.code = bytes)
    (h5 : (c.maxLocals == mx && c.exceptionTable.isEmpty && decide (c.maxStack ≤ mostOperands) && decide (meth.sig.returnType = rt) && !meth.locks && decide (parseMethodDescriptor y.desc = some meth.sig)) = true) : (Jvm.Cond.code y bytes mx rt).before a s = true := by
  simp only [Bool.and_eq_true, beq_iff_eq, Bool.not_eq_true', decide_eq_true_eq] at h5
  obtain ⟨⟨⟨⟨⟨g1, g2⟩, g3⟩, g4⟩, g5⟩, g6⟩ := h5
  simp [Cond.before, Cond.holds, Cond.value, h1, h2, h3, h4, g1, g2, g3, g4, g5, g6]
def isCode : Jvm.Cond → Bool
  | .code _ _ _ _ => true
  | _ => false
theorem all_split {L : List Jvm.Cond} {P : Jvm.Cond → Bool} (h1 : L.all (fun c => isCode c || P c) = true) (h2 : ∀ c ∈ L.filter isCode, P c = true) : L.all P = true := by
  refine List.all_eq_true.mpr fun c hc => ?_
  have h := List.all_eq_true.mp h1 c hc
  rcases Bool.eq_false_or_eq_true (isCode c) with hi | hi
  · exact h2 c (List.mem_filter.mpr ⟨hc, hi⟩)
  · simpa [hi] using h
set_option maxRecDepth 65536 in
theorem w_c0 : (Jvm.Cond.code x code maxLocals ret).before args0 about1 = true := code_word (m := ⟨1, 2⟩) (meth := k1m2) (c := k1c2) (by decide +kernel) rfl rfl rfl (by decide +kernel)
set_option maxRecDepth 65536 in
theorem w_c1 : (Jvm.Cond.code ({ cls := "java/lang/String", name := "valueOf", desc := "(C)Ljava/lang/String;" } : Jvm.MethodName) jdk_42_method_139_code (1 : Nat) (Option.some (Jvm.ClassFile.FieldType.object "java/lang/String"))).before args0 about1 = true := code_word (m := ⟨8, 7⟩) (meth := k8m7) (c := k8c7) (by decide +kernel) rfl rfl rfl (by decide +kernel)
set_option maxRecDepth 65536 in
theorem w_c2 : (Jvm.Cond.code ({ cls := "java/lang/StringLatin1", name := "canEncode", desc := "(C)Z" } : Jvm.MethodName) jdk_43_method_3_code (1 : Nat) (Option.some Jvm.ClassFile.FieldType.boolean)).before args0 about1 = true := code_word (m := ⟨9, 1⟩) (meth := k9m1) (c := k9c1) (by decide +kernel) rfl rfl rfl (by decide +kernel)
set_option maxRecDepth 65536 in
theorem w_c3 : (Jvm.Cond.code ({ cls := "java/lang/StringLatin1", name := "toBytes", desc := "(C)[B" } : Jvm.MethodName) jdk_43_method_46_code (1 : Nat) (Option.some (Jvm.ClassFile.FieldType.array Jvm.ClassFile.FieldType.byte))).before args0 about1 = true := code_word (m := ⟨9, 6⟩) (meth := k9m6) (c := k9c6) (by decide +kernel) rfl rfl rfl (by decide +kernel)
set_option maxRecDepth 65536 in
theorem w_c4 : (Jvm.Cond.code ({ cls := "java/lang/String", name := "<init>", desc := "([BB)V" } : Jvm.MethodName) jdk_42_method_151_code (3 : Nat) (Option.none : Option Jvm.ClassFile.FieldType)).before args0 about1 = true := code_word (m := ⟨8, 8⟩) (meth := k8m8) (c := k8c8) (by decide +kernel) rfl rfl rfl (by decide +kernel)
set_option maxRecDepth 65536 in
theorem w_c5 : (Jvm.Cond.code ({ cls := "java/lang/Object", name := "<init>", desc := "()V" } : Jvm.MethodName) object_method_1_code (1 : Nat) (Option.none : Option Jvm.ClassFile.FieldType)).before args0 about1 = true := code_word (m := ⟨0, 0⟩) (meth := k0m0) (c := k0c0) (by decide +kernel) rfl rfl rfl (by decide +kernel)
set_option maxRecDepth 65536 in
theorem w_c6 : (Jvm.Cond.code ({ cls := "com/example/xqwry/xqwry/MarkupName", name := "<init>", desc := "(Ljava/lang/String;)V" } : Jvm.MethodName) prog_166_method_1_code (2 : Nat) (Option.none : Option Jvm.ClassFile.FieldType)).before args0 about1 = true := code_word (m := ⟨2, 0⟩) (meth := k2m0) (c := k2c0) (by decide +kernel) rfl rfl rfl (by decide +kernel)
set_option maxRecDepth 65536 in
theorem w_c7 : (Jvm.Cond.code ({ cls := "com/example/xqwry/xqwry/MarkupName$Resolution", name := "<init>", desc := "()V" } : Jvm.MethodName) prog_167_method_1_code (1 : Nat) (Option.none : Option Jvm.ClassFile.FieldType)).before args0 about1 = true := code_word (m := ⟨10, 0⟩) (meth := k10m0) (c := k10c0) (by decide +kernel) rfl rfl rfl (by decide +kernel)
set_option maxRecDepth 65536 in
theorem w_c8 : (Jvm.Cond.code ({ cls := "java/lang/String", name := "indexOf", desc := "(I)I" } : Jvm.MethodName) jdk_42_method_79_code (2 : Nat) (Option.some Jvm.ClassFile.FieldType.int)).before args0 about1 = true := code_word (m := ⟨8, 5⟩) (meth := k8m5) (c := k8c5) (by decide +kernel) rfl rfl rfl (by decide +kernel)
set_option maxRecDepth 65536 in
theorem w_c9 : (Jvm.Cond.code ({ cls := "java/lang/String", name := "indexOf", desc := "(II)I" } : Jvm.MethodName) jdk_42_method_80_code (3 : Nat) (Option.some Jvm.ClassFile.FieldType.int)).before args0 about1 = true := code_word (m := ⟨8, 6⟩) (meth := k8m6) (c := k8c6) (by decide +kernel) rfl rfl rfl (by decide +kernel)
set_option maxRecDepth 65536 in
theorem w_c10 : (Jvm.Cond.code ({ cls := "java/lang/String", name := "isLatin1", desc := "()Z" } : Jvm.MethodName) jdk_42_method_154_code (1 : Nat) (Option.some Jvm.ClassFile.FieldType.boolean)).before args0 about1 = true := code_word (m := ⟨8, 10⟩) (meth := k8m10) (c := k8c10) (by decide +kernel) rfl rfl rfl (by decide +kernel)
set_option maxRecDepth 65536 in
theorem w_c11 : (Jvm.Cond.code ({ cls := "java/lang/String", name := "length", desc := "()I" } : Jvm.MethodName) jdk_42_method_54_code (1 : Nat) (Option.some Jvm.ClassFile.FieldType.int)).before args0 about1 = true := code_word (m := ⟨8, 1⟩) (meth := k8m1) (c := k8c1) (by decide +kernel) rfl rfl rfl (by decide +kernel)
set_option maxRecDepth 65536 in
theorem w_c12 : (Jvm.Cond.code ({ cls := "java/lang/String", name := "coder", desc := "()B" } : Jvm.MethodName) jdk_42_method_152_code (1 : Nat) (Option.some Jvm.ClassFile.FieldType.byte)).before args0 about1 = true := code_word (m := ⟨8, 9⟩) (meth := k8m9) (c := k8c9) (by decide +kernel) rfl rfl rfl (by decide +kernel)
set_option maxRecDepth 65536 in
theorem w_c13 : (Jvm.Cond.code ({ cls := "java/lang/StringLatin1", name := "indexOf", desc := "([BIII)I" } : Jvm.MethodName) jdk_43_method_22_code (4 : Nat) (Option.some Jvm.ClassFile.FieldType.int)).before args0 about1 = true := code_word (m := ⟨9, 4⟩) (meth := k9m4) (c := k9c4) (by decide +kernel) rfl rfl rfl (by decide +kernel)
set_option maxRecDepth 65536 in
theorem w_c14 : (Jvm.Cond.code ({ cls := "java/lang/StringLatin1", name := "canEncode", desc := "(I)Z" } : Jvm.MethodName) jdk_43_method_4_code (1 : Nat) (Option.some Jvm.ClassFile.FieldType.boolean)).before args0 about1 = true := code_word (m := ⟨9, 2⟩) (meth := k9m2) (c := k9c2) (by decide +kernel) rfl rfl rfl (by decide +kernel)
set_option maxRecDepth 65536 in
theorem w_c15 : (Jvm.Cond.code ({ cls := "java/lang/Math", name := "max", desc := "(II)I" } : Jvm.MethodName) jdk_29_method_65_code (2 : Nat) (Option.some Jvm.ClassFile.FieldType.int)).before args0 about1 = true := code_word (m := ⟨11, 1⟩) (meth := k11m1) (c := k11c1) (by decide +kernel) rfl rfl rfl (by decide +kernel)
set_option maxRecDepth 65536 in
theorem w_c16 : (Jvm.Cond.code ({ cls := "java/lang/Math", name := "min", desc := "(II)I" } : Jvm.MethodName) jdk_29_method_69_code (2 : Nat) (Option.some Jvm.ClassFile.FieldType.int)).before args0 about1 = true := code_word (m := ⟨11, 2⟩) (meth := k11m2) (c := k11c2) (by decide +kernel) rfl rfl rfl (by decide +kernel)
set_option maxRecDepth 65536 in
theorem w_c17 : (Jvm.Cond.code ({ cls := "java/lang/StringLatin1", name := "indexOfChar", desc := "([BIII)I" } : Jvm.MethodName) jdk_43_method_23_code (6 : Nat) (Option.some Jvm.ClassFile.FieldType.int)).before args0 about1 = true := code_word (m := ⟨9, 5⟩) (meth := k9m5) (c := k9c5) (by decide +kernel) rfl rfl rfl (by decide +kernel)
set_option maxRecDepth 65536 in
theorem w_c18 : (Jvm.Cond.code ({ cls := "java/lang/String", name := "equals", desc := "(Ljava/lang/Object;)Z" } : Jvm.MethodName) jdk_42_method_66_code (3 : Nat) (Option.some Jvm.ClassFile.FieldType.boolean)).before args0 about1 = true := code_word (m := ⟨8, 2⟩) (meth := k8m2) (c := k8c2) (by decide +kernel) rfl rfl rfl (by decide +kernel)
set_option maxRecDepth 65536 in
theorem w_c19 : (Jvm.Cond.code ({ cls := "java/lang/StringLatin1", name := "equals", desc := "([B[B)Z" } : Jvm.MethodName) jdk_43_method_13_code (3 : Nat) (Option.some Jvm.ClassFile.FieldType.boolean)).before args0 about1 = true := code_word (m := ⟨9, 3⟩) (meth := k9m3) (c := k9c3) (by decide +kernel) rfl rfl rfl (by decide +kernel)
set_option maxRecDepth 65536 in
theorem w_c20 : (Jvm.Cond.code ({ cls := "java/lang/String", name := "startsWith", desc := "(Ljava/lang/String;)Z" } : Jvm.MethodName) jdk_42_method_76_code (2 : Nat) (Option.some Jvm.ClassFile.FieldType.boolean)).before args0 about1 = true := code_word (m := ⟨8, 4⟩) (meth := k8m4) (c := k8c4) (by decide +kernel) rfl rfl rfl (by decide +kernel)
set_option maxRecDepth 65536 in
theorem w_c21 : (Jvm.Cond.code ({ cls := "java/lang/String", name := "startsWith", desc := "(Ljava/lang/String;I)Z" } : Jvm.MethodName) jdk_42_method_75_code (8 : Nat) (Option.some Jvm.ClassFile.FieldType.boolean)).before args0 about1 = true := code_word (m := ⟨8, 3⟩) (meth := k8m3) (c := k8c3) (by decide +kernel) rfl rfl rfl (by decide +kernel)
set_option maxRecDepth 65536 in
theorem w_c22 : (Jvm.Cond.code ({ cls := "com/example/xqwry/xqwry/MarkupName", name := "resolved", desc := "(ZI)I" } : Jvm.MethodName) prog_166_method_4_code (4 : Nat) (Option.some Jvm.ClassFile.FieldType.int)).before args0 about1 = true := code_word (m := ⟨2, 1⟩) (meth := k2m1) (c := k2c1) (by decide +kernel) rfl rfl rfl (by decide +kernel)
set_option maxRecDepth 65536 in
theorem w_c23 : (Jvm.Cond.code ({ cls := "com/example/xqwry/xqwry/MarkupName", name := "keepResolved", desc := "(ZII)V" } : Jvm.MethodName) prog_166_method_5_code (5 : Nat) (Option.none : Option Jvm.ClassFile.FieldType)).before args0 about1 = true := code_word (m := ⟨2, 2⟩) (meth := k2m2) (c := k2c2) (by decide +kernel) rfl rfl rfl (by decide +kernel)
set_option maxRecDepth 65536 in
theorem w_c24 : (Jvm.Cond.code ({ cls := "com/example/xqwry/xqwry/MarkupNameKeepResolvedPinLaw", name := "expect", desc := "(III)I" } : Jvm.MethodName) method_2_code (3 : Nat) (Option.some Jvm.ClassFile.FieldType.int)).before args0 about1 = true := code_word (m := ⟨1, 1⟩) (meth := k1m1) (c := k1c1) (by decide +kernel) rfl rfl rfl (by decide +kernel)
def codes1 : List Jvm.Cond := [Jvm.Cond.code x code maxLocals ret, Jvm.Cond.code ({ cls := "java/lang/String", name := "valueOf", desc := "(C)Ljava/lang/String;" } : Jvm.MethodName) jdk_42_method_139_code (1 : Nat) (Option.some (Jvm.ClassFile.FieldType.object "java/lang/String")), Jvm.Cond.code ({ cls := "java/lang/StringLatin1", name := "canEncode", desc := "(C)Z" } : Jvm.MethodName) jdk_43_method_3_code (1 : Nat) (Option.some Jvm.ClassFile.FieldType.boolean), Jvm.Cond.code ({ cls := "java/lang/StringLatin1", name := "toBytes", desc := "(C)[B" } : Jvm.MethodName) jdk_43_method_46_code (1 : Nat) (Option.some (Jvm.ClassFile.FieldType.array Jvm.ClassFile.FieldType.byte)), Jvm.Cond.code ({ cls := "java/lang/String", name := "<init>", desc := "([BB)V" } : Jvm.MethodName) jdk_42_method_151_code (3 : Nat) (Option.none : Option Jvm.ClassFile.FieldType), Jvm.Cond.code ({ cls := "java/lang/Object", name := "<init>", desc := "()V" } : Jvm.MethodName) object_method_1_code (1 : Nat) (Option.none : Option Jvm.ClassFile.FieldType), Jvm.Cond.code ({ cls := "com/example/xqwry/xqwry/MarkupName", name := "<init>", desc := "(Ljava/lang/String;)V" } : Jvm.MethodName) prog_166_method_1_code (2 : Nat) (Option.none : Option Jvm.ClassFile.FieldType), Jvm.Cond.code ({ cls := "com/example/xqwry/xqwry/MarkupName$Resolution", name := "<init>", desc := "()V" } : Jvm.MethodName) prog_167_method_1_code (1 : Nat) (Option.none : Option Jvm.ClassFile.FieldType), Jvm.Cond.code ({ cls := "java/lang/String", name := "indexOf", desc := "(I)I" } : Jvm.MethodName) jdk_42_method_79_code (2 : Nat) (Option.some Jvm.ClassFile.FieldType.int), Jvm.Cond.code ({ cls := "java/lang/String", name := "indexOf", desc := "(II)I" } : Jvm.MethodName) jdk_42_method_80_code (3 : Nat) (Option.some Jvm.ClassFile.FieldType.int), Jvm.Cond.code ({ cls := "java/lang/String", name := "isLatin1", desc := "()Z" } : Jvm.MethodName) jdk_42_method_154_code (1 : Nat) (Option.some Jvm.ClassFile.FieldType.boolean), Jvm.Cond.code ({ cls := "java/lang/String", name := "length", desc := "()I" } : Jvm.MethodName) jdk_42_method_54_code (1 : Nat) (Option.some Jvm.ClassFile.FieldType.int), Jvm.Cond.code ({ cls := "java/lang/String", name := "coder", desc := "()B" } : Jvm.MethodName) jdk_42_method_152_code (1 : Nat) (Option.some Jvm.ClassFile.FieldType.byte), Jvm.Cond.code ({ cls := "java/lang/StringLatin1", name := "indexOf", desc := "([BIII)I" } : Jvm.MethodName) jdk_43_method_22_code (4 : Nat) (Option.some Jvm.ClassFile.FieldType.int), Jvm.Cond.code ({ cls := "java/lang/StringLatin1", name := "canEncode", desc := "(I)Z" } : Jvm.MethodName) jdk_43_method_4_code (1 : Nat) (Option.some Jvm.ClassFile.FieldType.boolean), Jvm.Cond.code ({ cls := "java/lang/Math", name := "max", desc := "(II)I" } : Jvm.MethodName) jdk_29_method_65_code (2 : Nat) (Option.some Jvm.ClassFile.FieldType.int), Jvm.Cond.code ({ cls := "java/lang/Math", name := "min", desc := "(II)I" } : Jvm.MethodName) jdk_29_method_69_code (2 : Nat) (Option.some Jvm.ClassFile.FieldType.int), Jvm.Cond.code ({ cls := "java/lang/StringLatin1", name := "indexOfChar", desc := "([BIII)I" } : Jvm.MethodName) jdk_43_method_23_code (6 : Nat) (Option.some Jvm.ClassFile.FieldType.int), Jvm.Cond.code ({ cls := "java/lang/String", name := "equals", desc := "(Ljava/lang/Object;)Z" } : Jvm.MethodName) jdk_42_method_66_code (3 : Nat) (Option.some Jvm.ClassFile.FieldType.boolean), Jvm.Cond.code ({ cls := "java/lang/StringLatin1", name := "equals", desc := "([B[B)Z" } : Jvm.MethodName) jdk_43_method_13_code (3 : Nat) (Option.some Jvm.ClassFile.FieldType.boolean), Jvm.Cond.code ({ cls := "java/lang/String", name := "startsWith", desc := "(Ljava/lang/String;)Z" } : Jvm.MethodName) jdk_42_method_76_code (2 : Nat) (Option.some Jvm.ClassFile.FieldType.boolean), Jvm.Cond.code ({ cls := "java/lang/String", name := "startsWith", desc := "(Ljava/lang/String;I)Z" } : Jvm.MethodName) jdk_42_method_75_code (8 : Nat) (Option.some Jvm.ClassFile.FieldType.boolean), Jvm.Cond.code ({ cls := "com/example/xqwry/xqwry/MarkupName", name := "resolved", desc := "(ZI)I" } : Jvm.MethodName) prog_166_method_4_code (4 : Nat) (Option.some Jvm.ClassFile.FieldType.int), Jvm.Cond.code ({ cls := "com/example/xqwry/xqwry/MarkupName", name := "keepResolved", desc := "(ZII)V" } : Jvm.MethodName) prog_166_method_5_code (5 : Nat) (Option.none : Option Jvm.ClassFile.FieldType), Jvm.Cond.code ({ cls := "com/example/xqwry/xqwry/MarkupNameKeepResolvedPinLaw", name := "expect", desc := "(III)I" } : Jvm.MethodName) method_2_code (3 : Nat) (Option.some Jvm.ClassFile.FieldType.int)]
set_option maxRecDepth 65536 in
theorem codes_eq : words1.filter isCode = codes1 := rfl
theorem w_codes : ∀ c ∈ words1.filter isCode, c.before args0 about1 = true := by
  rw [codes_eq]
  intro c hc
  simp only [codes1, List.mem_cons, List.not_mem_nil, or_false] at hc
  rcases hc with rfl | rfl | rfl | rfl | rfl | rfl | rfl | rfl | rfl | rfl | rfl | rfl | rfl | rfl | rfl | rfl | rfl | rfl | rfl | rfl | rfl | rfl | rfl | rfl | rfl
  · exact w_c0
  · exact w_c1
  · exact w_c2
  · exact w_c3
  · exact w_c4
  · exact w_c5
  · exact w_c6
  · exact w_c7
  · exact w_c8
  · exact w_c9
  · exact w_c10
  · exact w_c11
  · exact w_c12
  · exact w_c13
  · exact w_c14
  · exact w_c15
  · exact w_c16
  · exact w_c17
  · exact w_c18
  · exact w_c19
  · exact w_c20
  · exact w_c21
  · exact w_c22
  · exact w_c23
  · exact w_c24
set_option maxRecDepth 65536 in
theorem w_t1 : (words1.take 24).all (fun c => isCode c || c.before args0 about1) = true := by decide +kernel
set_option maxRecDepth 65536 in
theorem w_t2 : ((words1.drop 24).take 24).all (fun c => isCode c || c.before args0 about1) = true := by decide +kernel
set_option maxRecDepth 65536 in
theorem w_t3 : (((words1.drop 24).drop 24).take 24).all (fun c => isCode c || c.before args0 about1) = true := by decide +kernel
set_option maxRecDepth 65536 in
theorem w_t4 : ((((words1.drop 24).drop 24).drop 24).take 24).all (fun c => isCode c || c.before args0 about1) = true := by decide +kernel
set_option maxRecDepth 65536 in
theorem w_t5 : (((((words1.drop 24).drop 24).drop 24).drop 24).take 24).all (fun c => isCode c || c.before args0 about1) = true := by decide +kernel
set_option maxRecDepth 65536 in
theorem w_t6 : (((((words1.drop 24).drop 24).drop 24).drop 24).drop 24).all (fun c => isCode c || c.before args0 about1) = true := by decide +kernel
theorem w_tables : (allAtoms (Jvm.Cond.code x code maxLocals ret :: tables_1)).before args0 about1 = true := by
  rw [allAtoms_all]
  show words1.all (fun c => c.before args0 about1) = true
  refine all_split ?_ w_codes
  rw [← List.take_append_drop 24 words1, List.all_append, w_t1, ← List.take_append_drop 24 (words1.drop 24), List.all_append, w_t2, ← List.take_append_drop 24 ((words1.drop 24).drop 24), List.all_append, w_t3, ← List.take_append_drop 24 (((words1.drop 24).drop 24).drop 24), List.all_append, w_t4, ← List.take_append_drop 24 ((((words1.drop 24).drop 24).drop 24).drop 24), List.all_append, w_t5, w_t6]
  rfl
set_option maxRecDepth 65536 in
theorem w_rest : rest_1_c.before args0 about1 = true := by decide +kernel
set_option maxRecDepth 65536 in
theorem w_case : (Jvm.Cond.and given_1 narrow_1).before args0 about1 = true := by decide +kernel
set_option maxRecDepth 65536 in
theorem w_consts : constsHeld consts_1 about1 := Jvm.Lit.constsHeldB_iff.mp (by decide +kernel)
theorem w_applies : (headSpec (Jvm.Cond.code x code maxLocals ret :: tables_1) room_1).applies x e0.platform about1 = true :=
  (Spec.applies_iff w_frames).mpr ⟨w_running, w_runnable, w_alone, w_named, w_hears, w_ripe, w_room, w_tables⟩
theorem atStart : AtStart classFile x code maxLocals ret World_1 tables_1 room_1 Calls_1 rest_1 Pre_1 launch0 p0 e0 about1 theMethod args0 below0 :=
  ⟨lists_1, trivial, launch0.admits_env _ _ _, launch0.least_env, fairChoices_fair.cas, fairChoices_fair.clock, w_frames, w_args, w_heap, w_applies, ⟨w_consts, trivial⟩, w_rest, w_case⟩
end start1
theorem witness_1 : WitnessClaimed_1 := ⟨start1.p0, start1.e0, start1.about1, start1.theMethod, start1.args0, start1.below0, start1.atStart⟩
end Jvm.Pilot.@@N@@
