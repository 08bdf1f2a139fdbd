import JvmDerived
import JvmDerived.Pilot.@@N@@Statement
import JvmDerived.Pilot.@@N@@Code
set_option linter.unusedVariables false
set_option linter.unusedSimpArgs false
namespace Jvm.Pilot.@@N@@
open Jvm Jvm.ClassFile Sem Op Lib Jvm.Free Jvm.Stand Jvm.LawKit Jvm.RoadKit Bundle Jvm.Pilot.@@N@@.Jvm.D
section OwnBase
variable {p : Program} {l : Launch} {e : Env} {R : Room} {s : State} {m : MethodId} {args : Array Value} {below : List Frame} {meth : Method} {c : Code} {T : State} {locs : List Loc} {cells slots : Nat} {Q : Outcome → State → Prop} {pc : Nat} {Ls : Array Slot} {st : List Value} {Z : State} {a0 : Array Value} {h : Heap}
/-- from S the body's invocation ends, and Q holds then -/
def own_G (p : Program) (e : Env) (below : List Frame) (Q : Outcome → State → Prop) (S : State) : Prop := ∃ t o, Steps p.tables e below S t ∧ t.status = .running ∧ Ended t below o ∧ Q o t
theorem own_st {S S' : State} (h : ∀ t, Steps p.tables e below S' t → Steps p.tables e below S t) (k : own_G p e below Q S') : own_G p e below Q S := by
  obtain ⟨t, o, h1, h2⟩ := k
  exact ⟨t, o, h t h1, h2⟩
theorem own_cast {g g' : JFrame} (q : g = g') (k : own_G p e below Q (T.setTop g')) : own_G p e below Q (T.setTop g) := q ▸ k
theorem own_iloadN (X : Stand p l e R s m args below meth c T locs cells slots) (hx : p.tables.exec = Jvm.exec) {k : Fin 4} {v : Int32} (hd : decode c.code pc = .ok (.iload_n k, 1)) (hl : Ls[k.val]? = some (.val (.int v))) (pc' : Nat) (hp : pc + 1 = pc') (r : own_G p e below Q (T.setTop (mkF m pc' Ls (.int v :: st)))) : own_G p e below Q (T.setTop (mkF m pc Ls (st))) := by
  subst hp
  exact own_st (fun t ht => XS.iloadN X.here hx rfl hd hl ht) r
theorem own_aloadN (X : Stand p l e R s m args below meth c T locs cells slots) (hx : p.tables.exec = Jvm.exec) {k : Fin 4} {v : Value} (hd : decode c.code pc = .ok (.aload_n k, 1)) (hl : Ls[k.val]? = some (.val v)) (hv : v.isRef = true) (pc' : Nat) (hp : pc + 1 = pc') (r : own_G p e below Q (T.setTop (mkF m pc' Ls (v :: st)))) : own_G p e below Q (T.setTop (mkF m pc Ls (st))) := by
  subst hp
  exact own_st (fun t ht => XS.aloadN X.here hx rfl hd hl hv ht) r
theorem own_istoreN (X : Stand p l e R s m args below meth c T locs cells slots) (hx : p.tables.exec = Jvm.exec) {k : Fin 4} {v : Int32} (Lt : Array Slot) (hd : decode c.code pc = .ok (.istore_n k, 1)) (hl : storeLocals Ls k.val (.int v) = some Lt) (pc' : Nat) (hp : pc + 1 = pc') (r : own_G p e below Q (T.setTop (mkF m pc' Lt (st)))) : own_G p e below Q (T.setTop (mkF m pc Ls (.int v :: st))) := by
  subst hp
  exact own_st (fun t ht => XS.istoreN X.here hx rfl hd rfl hl ht) r
theorem own_astoreN (X : Stand p l e R s m args below meth c T locs cells slots) (hx : p.tables.exec = Jvm.exec) {k : Fin 4} {v : Value} (Lt : Array Slot) (hd : decode c.code pc = .ok (.astore_n k, 1)) (hv : v.isRef = true) (hl : storeLocals Ls k.val v = some Lt) (pc' : Nat) (hp : pc + 1 = pc') (r : own_G p e below Q (T.setTop (mkF m pc' Lt (st)))) : own_G p e below Q (T.setTop (mkF m pc Ls (v :: st))) := by
  subst hp
  exact own_st (fun t ht => XS.astoreN X.here hx rfl hd rfl hv hl ht) r
theorem own_iload (X : Stand p l e R s m args below meth c T locs cells slots) (hx : p.tables.exec = Jvm.exec) {k : Nat} {v : Int32} (hd : decode c.code pc = .ok (.iload k, 2)) (hl : Ls[k]? = some (.val (.int v))) (pc' : Nat) (hp : pc + 2 = pc') (r : own_G p e below Q (T.setTop (mkF m pc' Ls (.int v :: st)))) : own_G p e below Q (T.setTop (mkF m pc Ls (st))) := by
  subst hp
  exact own_st (fun t ht => XS.iload X.here hx rfl hd hl ht) r
theorem own_aload (X : Stand p l e R s m args below meth c T locs cells slots) (hx : p.tables.exec = Jvm.exec) {k : Nat} {v : Value} (hd : decode c.code pc = .ok (.aload k, 2)) (hl : Ls[k]? = some (.val v)) (hv : v.isRef = true) (pc' : Nat) (hp : pc + 2 = pc') (r : own_G p e below Q (T.setTop (mkF m pc' Ls (v :: st)))) : own_G p e below Q (T.setTop (mkF m pc Ls (st))) := by
  subst hp
  exact own_st (fun t ht => XS.aload X.here hx rfl hd hl hv ht) r
theorem own_istore (X : Stand p l e R s m args below meth c T locs cells slots) (hx : p.tables.exec = Jvm.exec) {k : Nat} {v : Int32} (Lt : Array Slot) (hd : decode c.code pc = .ok (.istore k, 2)) (hl : storeLocals Ls k (.int v) = some Lt) (pc' : Nat) (hp : pc + 2 = pc') (r : own_G p e below Q (T.setTop (mkF m pc' Lt (st)))) : own_G p e below Q (T.setTop (mkF m pc Ls (.int v :: st))) := by
  subst hp
  exact own_st (fun t ht => XS.istore X.here hx rfl hd rfl hl ht) r
theorem own_astore (X : Stand p l e R s m args below meth c T locs cells slots) (hx : p.tables.exec = Jvm.exec) {k : Nat} {v : Value} (Lt : Array Slot) (hd : decode c.code pc = .ok (.astore k, 2)) (hv : v.isRef = true) (hl : storeLocals Ls k v = some Lt) (pc' : Nat) (hp : pc + 2 = pc') (r : own_G p e below Q (T.setTop (mkF m pc' Lt (st)))) : own_G p e below Q (T.setTop (mkF m pc Ls (v :: st))) := by
  subst hp
  exact own_st (fun t ht => XS.astore X.here hx rfl hd rfl hv hl ht) r
theorem own_iconst (X : Stand p l e R s m args below meth c T locs cells slots) (hx : p.tables.exec = Jvm.exec) {i : Int} {z : Int32} (hd : decode c.code pc = .ok (.iconst i, 1)) (hz : Int32.ofInt i = z) (pc' : Nat) (hp : pc + 1 = pc') (r : own_G p e below Q (T.setTop (mkF m pc' Ls (.int z :: st)))) : own_G p e below Q (T.setTop (mkF m pc Ls (st))) := by
  subst hp
  subst hz
  exact own_st (fun t ht => XS.iconst X.here hx rfl hd ht) r
theorem own_bipush (X : Stand p l e R s m args below meth c T locs cells slots) (hx : p.tables.exec = Jvm.exec) {i : Int} {z : Int32} (hd : decode c.code pc = .ok (.bipush i, 2)) (hz : (Int8.ofInt i).toInt32 = z) (pc' : Nat) (hp : pc + 2 = pc') (r : own_G p e below Q (T.setTop (mkF m pc' Ls (.int z :: st)))) : own_G p e below Q (T.setTop (mkF m pc Ls (st))) := by
  subst hp
  subst hz
  exact own_st (fun t ht => XS.bipush X.here hx rfl hd ht) r
theorem own_sipush (X : Stand p l e R s m args below meth c T locs cells slots) (hx : p.tables.exec = Jvm.exec) {i : Int} {z : Int32} (hd : decode c.code pc = .ok (.sipush i, 3)) (hz : (Int16.ofInt i).toInt32 = z) (pc' : Nat) (hp : pc + 3 = pc') (r : own_G p e below Q (T.setTop (mkF m pc' Ls (.int z :: st)))) : own_G p e below Q (T.setTop (mkF m pc Ls (st))) := by
  subst hp
  subst hz
  exact own_st (fun t ht => XS.sipush X.here hx rfl hd ht) r
theorem own_aconstNull (X : Stand p l e R s m args below meth c T locs cells slots) (hx : p.tables.exec = Jvm.exec)  (hd : decode c.code pc = .ok (.aconst_null, 1))  (pc' : Nat) (hp : pc + 1 = pc') (r : own_G p e below Q (T.setTop (mkF m pc' Ls (.null :: st)))) : own_G p e below Q (T.setTop (mkF m pc Ls (st))) := by
  subst hp
  exact own_st (fun t ht => XS.aconstNull X.here hx rfl hd ht) r
theorem own_iadd (X : Stand p l e R s m args below meth c T locs cells slots) (hx : p.tables.exec = Jvm.exec) {x y : Int32} (hd : decode c.code pc = .ok (.iadd, 1))  (pc' : Nat) (hp : pc + 1 = pc') (r : own_G p e below Q (T.setTop (mkF m pc' Ls (.int (x + y) :: st)))) : own_G p e below Q (T.setTop (mkF m pc Ls (.int y :: .int x :: st))) := by
  subst hp
  exact own_st (fun t ht => XS.iadd X.here hx rfl hd rfl ht) r
theorem own_isub (X : Stand p l e R s m args below meth c T locs cells slots) (hx : p.tables.exec = Jvm.exec) {x y : Int32} (hd : decode c.code pc = .ok (.isub, 1))  (pc' : Nat) (hp : pc + 1 = pc') (r : own_G p e below Q (T.setTop (mkF m pc' Ls (.int (x - y) :: st)))) : own_G p e below Q (T.setTop (mkF m pc Ls (.int y :: .int x :: st))) := by
  subst hp
  exact own_st (fun t ht => XS.isub X.here hx rfl hd rfl ht) r
theorem own_imul (X : Stand p l e R s m args below meth c T locs cells slots) (hx : p.tables.exec = Jvm.exec) {x y : Int32} (hd : decode c.code pc = .ok (.imul, 1))  (pc' : Nat) (hp : pc + 1 = pc') (r : own_G p e below Q (T.setTop (mkF m pc' Ls (.int (x * y) :: st)))) : own_G p e below Q (T.setTop (mkF m pc Ls (.int y :: .int x :: st))) := by
  subst hp
  exact own_st (fun t ht => XS.imul X.here hx rfl hd rfl ht) r
theorem own_iand (X : Stand p l e R s m args below meth c T locs cells slots) (hx : p.tables.exec = Jvm.exec) {x y : Int32} (hd : decode c.code pc = .ok (.iand, 1))  (pc' : Nat) (hp : pc + 1 = pc') (r : own_G p e below Q (T.setTop (mkF m pc' Ls (.int (x &&& y) :: st)))) : own_G p e below Q (T.setTop (mkF m pc Ls (.int y :: .int x :: st))) := by
  subst hp
  exact own_st (fun t ht => XS.iand X.here hx rfl hd rfl ht) r
theorem own_ior (X : Stand p l e R s m args below meth c T locs cells slots) (hx : p.tables.exec = Jvm.exec) {x y : Int32} (hd : decode c.code pc = .ok (.ior, 1))  (pc' : Nat) (hp : pc + 1 = pc') (r : own_G p e below Q (T.setTop (mkF m pc' Ls (.int (x ||| y) :: st)))) : own_G p e below Q (T.setTop (mkF m pc Ls (.int y :: .int x :: st))) := by
  subst hp
  exact own_st (fun t ht => XS.ior X.here hx rfl hd rfl ht) r
theorem own_ixor (X : Stand p l e R s m args below meth c T locs cells slots) (hx : p.tables.exec = Jvm.exec) {x y : Int32} (hd : decode c.code pc = .ok (.ixor, 1))  (pc' : Nat) (hp : pc + 1 = pc') (r : own_G p e below Q (T.setTop (mkF m pc' Ls (.int (x ^^^ y) :: st)))) : own_G p e below Q (T.setTop (mkF m pc Ls (.int y :: .int x :: st))) := by
  subst hp
  exact own_st (fun t ht => XS.ixor X.here hx rfl hd rfl ht) r
theorem own_ishl (X : Stand p l e R s m args below meth c T locs cells slots) (hx : p.tables.exec = Jvm.exec) {x y : Int32} (hd : decode c.code pc = .ok (.ishl, 1))  (pc' : Nat) (hp : pc + 1 = pc') (r : own_G p e below Q (T.setTop (mkF m pc' Ls (.int (x <<< (y &&& 31)) :: st)))) : own_G p e below Q (T.setTop (mkF m pc Ls (.int y :: .int x :: st))) := by
  subst hp
  exact own_st (fun t ht => XS.ishl X.here hx rfl hd rfl ht) r
theorem own_ishr (X : Stand p l e R s m args below meth c T locs cells slots) (hx : p.tables.exec = Jvm.exec) {x y : Int32} (hd : decode c.code pc = .ok (.ishr, 1))  (pc' : Nat) (hp : pc + 1 = pc') (r : own_G p e below Q (T.setTop (mkF m pc' Ls (.int (x >>> (y &&& 31)) :: st)))) : own_G p e below Q (T.setTop (mkF m pc Ls (.int y :: .int x :: st))) := by
  subst hp
  exact own_st (fun t ht => XS.ishr X.here hx rfl hd rfl ht) r
theorem own_iushr (X : Stand p l e R s m args below meth c T locs cells slots) (hx : p.tables.exec = Jvm.exec) {x y : Int32} (hd : decode c.code pc = .ok (.iushr, 1))  (pc' : Nat) (hp : pc + 1 = pc') (r : own_G p e below Q (T.setTop (mkF m pc' Ls (.int ((x.toUInt32 >>> (y &&& 31).toUInt32).toInt32) :: st)))) : own_G p e below Q (T.setTop (mkF m pc Ls (.int y :: .int x :: st))) := by
  subst hp
  exact own_st (fun t ht => XS.iushr X.here hx rfl hd rfl ht) r
theorem own_idiv (X : Stand p l e R s m args below meth c T locs cells slots) (hx : p.tables.exec = Jvm.exec) {x y : Int32} (hd : decode c.code pc = .ok (.idiv, 1)) (hy : y ≠ 0) (pc' : Nat) (hp : pc + 1 = pc') (r : own_G p e below Q (T.setTop (mkF m pc' Ls (.int (x / y) :: st)))) : own_G p e below Q (T.setTop (mkF m pc Ls (.int y :: .int x :: st))) := by
  subst hp
  exact own_st (fun t ht => XS.idiv X.here hx rfl hd rfl hy ht) r
theorem own_irem (X : Stand p l e R s m args below meth c T locs cells slots) (hx : p.tables.exec = Jvm.exec) {x y : Int32} (hd : decode c.code pc = .ok (.irem, 1)) (hy : y ≠ 0) (pc' : Nat) (hp : pc + 1 = pc') (r : own_G p e below Q (T.setTop (mkF m pc' Ls (.int (x % y) :: st)))) : own_G p e below Q (T.setTop (mkF m pc Ls (.int y :: .int x :: st))) := by
  subst hp
  exact own_st (fun t ht => iremM X hx rfl hd rfl hy ht) r
theorem own_ineg (X : Stand p l e R s m args below meth c T locs cells slots) (hx : p.tables.exec = Jvm.exec) {x : Int32} (hd : decode c.code pc = .ok (.ineg, 1))  (pc' : Nat) (hp : pc + 1 = pc') (r : own_G p e below Q (T.setTop (mkF m pc' Ls (.int (-x) :: st)))) : own_G p e below Q (T.setTop (mkF m pc Ls (.int x :: st))) := by
  subst hp
  exact own_st (fun t ht => XS.ineg X.here hx rfl hd rfl ht) r
theorem own_i2c (X : Stand p l e R s m args below meth c T locs cells slots) (hx : p.tables.exec = Jvm.exec) {x : Int32} (hd : decode c.code pc = .ok (.i2c, 1))  (pc' : Nat) (hp : pc + 1 = pc') (r : own_G p e below Q (T.setTop (mkF m pc' Ls (.int (x.toUInt32.toUInt16.toUInt32.toInt32) :: st)))) : own_G p e below Q (T.setTop (mkF m pc Ls (.int x :: st))) := by
  subst hp
  exact own_st (fun t ht => XS.i2c X.here hx rfl hd rfl ht) r
theorem own_i2b (X : Stand p l e R s m args below meth c T locs cells slots) (hx : p.tables.exec = Jvm.exec) {x : Int32} (hd : decode c.code pc = .ok (.i2b, 1))  (pc' : Nat) (hp : pc + 1 = pc') (r : own_G p e below Q (T.setTop (mkF m pc' Ls (.int (x.toInt8.toInt32) :: st)))) : own_G p e below Q (T.setTop (mkF m pc Ls (.int x :: st))) := by
  subst hp
  exact own_st (fun t ht => XS.i2b X.here hx rfl hd rfl ht) r
theorem own_dup (X : Stand p l e R s m args below meth c T locs cells slots) (hx : p.tables.exec = Jvm.exec) {x : Value} (hd : decode c.code pc = .ok (.dup, 1)) (hc : x.category = 1) (pc' : Nat) (hp : pc + 1 = pc') (r : own_G p e below Q (T.setTop (mkF m pc' Ls (x :: x :: st)))) : own_G p e below Q (T.setTop (mkF m pc Ls (x :: st))) := by
  subst hp
  exact own_st (fun t ht => XS.dup X.here hx rfl hd rfl hc ht) r
theorem own_dupX1 (X : Stand p l e R s m args below meth c T locs cells slots) (hx : p.tables.exec = Jvm.exec) {x y : Value} (hd : decode c.code pc = .ok (.dup_x1, 1)) (hc : x.category = 1) (hc2 : y.category = 1) (pc' : Nat) (hp : pc + 1 = pc') (r : own_G p e below Q (T.setTop (mkF m pc' Ls (x :: y :: x :: st)))) : own_G p e below Q (T.setTop (mkF m pc Ls (x :: y :: st))) := by
  subst hp
  exact own_st (fun t ht => XS.dupX1 X.here hx rfl hd rfl hc hc2 ht) r
theorem own_pop (X : Stand p l e R s m args below meth c T locs cells slots) (hx : p.tables.exec = Jvm.exec) {x : Value} (hd : decode c.code pc = .ok (.pop, 1)) (hc : x.category = 1) (pc' : Nat) (hp : pc + 1 = pc') (r : own_G p e below Q (T.setTop (mkF m pc' Ls (st)))) : own_G p e below Q (T.setTop (mkF m pc Ls (x :: st))) := by
  subst hp
  exact own_st (fun t ht => XS.pop X.here hx rfl hd rfl hc ht) r
theorem own_iinc (X : Stand p l e R s m args below meth c T locs cells slots) (hx : p.tables.exec = Jvm.exec) {k : Nat} {cst : Int} {x z : Int32} (Lt : Array Slot) (hd : decode c.code pc = .ok (.iinc k cst, 3)) (hl : Ls[k]? = some (.val (.int x))) (hz : x + Int32.ofInt cst = z) (hl' : storeLocals Ls k (.int z) = some Lt) (pc' : Nat) (hp : pc + 3 = pc') (r : own_G p e below Q (T.setTop (mkF m pc' Lt (st)))) : own_G p e below Q (T.setTop (mkF m pc Ls (st))) := by
  subst hp
  subst hz
  exact own_st (fun t ht => XS.iinc X.here hx rfl hd hl hl' ht) r
theorem own_goto (X : Stand p l e R s m args below meth c T locs cells slots) (hx : p.tables.exec = Jvm.exec)  {o : Int} (hd : decode c.code pc = .ok (.goto o, 3))  (pc' : Nat) (ho : 0 ≤ (pc : Int) + o) (hp : ((pc : Int) + o).toNat = pc') (r : own_G p e below Q (T.setTop (mkF m pc' Ls (st)))) : own_G p e below Q (T.setTop (mkF m pc Ls (st))) := own_st (fun t ht => XS.goto X.here hx rfl rfl hd ho hp ht) r
theorem own_ifcT (X : Stand p l e R s m args below meth c T locs cells slots) (hx : p.tables.exec = Jvm.exec) {cd : ClassFile.Cond} {x : Int32} {o : Int} (hd : decode c.code pc = .ok (.ifCond cd o, 3)) (hc : if_icmp.holds cd x 0 = true) (pc' : Nat) (ho : 0 ≤ (pc : Int) + o) (hp : ((pc : Int) + o).toNat = pc') (r : own_G p e below Q (T.setTop (mkF m pc' Ls (st)))) : own_G p e below Q (T.setTop (mkF m pc Ls (.int x :: st))) := own_st (fun t ht => XS.ifYes X.here hx rfl rfl hd rfl ((if0 _ _).trans hc) ho hp ht) r
theorem own_ifcF (X : Stand p l e R s m args below meth c T locs cells slots) (hx : p.tables.exec = Jvm.exec) {cd : ClassFile.Cond} {x : Int32} {o : Int} (hd : decode c.code pc = .ok (.ifCond cd o, 3)) (hc : if_icmp.holds cd x 0 = false) (pc' : Nat) (hp : pc + 3 = pc') (r : own_G p e below Q (T.setTop (mkF m pc' Ls (st)))) : own_G p e below Q (T.setTop (mkF m pc Ls (.int x :: st))) := by
  subst hp
  exact own_st (fun t ht => XS.ifNo X.here hx rfl hd rfl ((if0 _ _).trans hc) ht) r
theorem own_icmpT (X : Stand p l e R s m args below meth c T locs cells slots) (hx : p.tables.exec = Jvm.exec) {cd : ClassFile.Cond} {x y : Int32} {o : Int} (hd : decode c.code pc = .ok (.if_icmp cd o, 3)) (hc : if_icmp.holds cd x y = true) (pc' : Nat) (ho : 0 ≤ (pc : Int) + o) (hp : ((pc : Int) + o).toNat = pc') (r : own_G p e below Q (T.setTop (mkF m pc' Ls (st)))) : own_G p e below Q (T.setTop (mkF m pc Ls (.int y :: .int x :: st))) := own_st (fun t ht => XS.icmpYes X.here hx rfl rfl hd rfl hc ho hp ht) r
theorem own_icmpF (X : Stand p l e R s m args below meth c T locs cells slots) (hx : p.tables.exec = Jvm.exec) {cd : ClassFile.Cond} {x y : Int32} {o : Int} (hd : decode c.code pc = .ok (.if_icmp cd o, 3)) (hc : if_icmp.holds cd x y = false) (pc' : Nat) (hp : pc + 3 = pc') (r : own_G p e below Q (T.setTop (mkF m pc' Ls (st)))) : own_G p e below Q (T.setTop (mkF m pc Ls (.int y :: .int x :: st))) := by
  subst hp
  exact own_st (fun t ht => XS.icmpNo X.here hx rfl hd rfl hc ht) r
theorem own_ifnullT (X : Stand p l e R s m args below meth c T locs cells slots) (hx : p.tables.exec = Jvm.exec)  {o : Int} (hd : decode c.code pc = .ok (.ifnull o, 3))  (pc' : Nat) (ho : 0 ≤ (pc : Int) + o) (hp : ((pc : Int) + o).toNat = pc') (r : own_G p e below Q (T.setTop (mkF m pc' Ls (st)))) : own_G p e below Q (T.setTop (mkF m pc Ls (.null :: st))) := own_st (fun t ht => XS.ifnullYes X.here hx rfl rfl hd rfl ho hp ht) r
theorem own_ifnullF (X : Stand p l e R s m args below meth c T locs cells slots) (hx : p.tables.exec = Jvm.exec) {b : Addr} {o : Int} (hd : decode c.code pc = .ok (.ifnull o, 3))  (pc' : Nat) (hp : pc + 3 = pc') (r : own_G p e below Q (T.setTop (mkF m pc' Ls (st)))) : own_G p e below Q (T.setTop (mkF m pc Ls (.ref b :: st))) := by
  subst hp
  exact own_st (fun t ht => XS.ifnullNo X.here hx rfl hd rfl ht) r
theorem own_ifnonnullT (X : Stand p l e R s m args below meth c T locs cells slots) (hx : p.tables.exec = Jvm.exec) {b : Addr} {o : Int} (hd : decode c.code pc = .ok (.ifnonnull o, 3))  (pc' : Nat) (ho : 0 ≤ (pc : Int) + o) (hp : ((pc : Int) + o).toNat = pc') (r : own_G p e below Q (T.setTop (mkF m pc' Ls (st)))) : own_G p e below Q (T.setTop (mkF m pc Ls (.ref b :: st))) := own_st (fun t ht => XS.ifnonnullYes X.here hx rfl rfl hd rfl ho hp ht) r
theorem own_ifnonnullF (X : Stand p l e R s m args below meth c T locs cells slots) (hx : p.tables.exec = Jvm.exec)  {o : Int} (hd : decode c.code pc = .ok (.ifnonnull o, 3))  (pc' : Nat) (hp : pc + 3 = pc') (r : own_G p e below Q (T.setTop (mkF m pc' Ls (st)))) : own_G p e below Q (T.setTop (mkF m pc Ls (.null :: st))) := by
  subst hp
  exact own_st (fun t ht => XS.ifnonnullNo X.here hx rfl hd rfl ht) r
theorem own_acmpT (X : Stand p l e R s m args below meth c T locs cells slots) (hx : p.tables.exec = Jvm.exec) {cd : ClassFile.ACond} {a b : Addr} {o : Int} (hd : decode c.code pc = .ok (.if_acmp cd o, 3)) (hc : if_acmp.holds cd (some a) (some b) = true) (pc' : Nat) (ho : 0 ≤ (pc : Int) + o) (hp : ((pc : Int) + o).toNat = pc') (r : own_G p e below Q (T.setTop (mkF m pc' Ls (st)))) : own_G p e below Q (T.setTop (mkF m pc Ls (.ref b :: .ref a :: st))) := own_st (fun t ht => XS.acmpYes X.here hx rfl rfl hd rfl hc ho hp ht) r
theorem own_acmpF (X : Stand p l e R s m args below meth c T locs cells slots) (hx : p.tables.exec = Jvm.exec) {cd : ClassFile.ACond} {a b : Addr} {o : Int} (hd : decode c.code pc = .ok (.if_acmp cd o, 3)) (hc : if_acmp.holds cd (some a) (some b) = false) (pc' : Nat) (hp : pc + 3 = pc') (r : own_G p e below Q (T.setTop (mkF m pc' Ls (st)))) : own_G p e below Q (T.setTop (mkF m pc Ls (.ref b :: .ref a :: st))) := by
  subst hp
  exact own_st (fun t ht => XS.acmpNo X.here hx rfl hd rfl hc ht) r
theorem own_ldcI (X : Stand p l e R s m args below meth c T locs cells slots) (hx : p.tables.exec = Jvm.exec) (hZ : Z.Warmed39 s.vm) {own : String} (hown : s.vm.findClass own = some m.cls) {index : Nat} {v : Int32} (w : (Cond.constant own index v).before a0 Z = true) (hd : decode c.code pc = .ok (.ldc index, 2)) (pc' : Nat) (hp : pc + 2 = pc') (r : own_G p e below Q (T.setTop (mkF m pc' Ls (.int v :: st)))) : own_G p e below Q (T.setTop (mkF m pc Ls (st))) := by
  subst hp
  exact own_st (fun t ht => X.ldcInt hx hown (mvT hZ w) (g := mkF m pc Ls st) rfl hd t ht) r
theorem own_ldcwI (X : Stand p l e R s m args below meth c T locs cells slots) (hx : p.tables.exec = Jvm.exec) (hZ : Z.Warmed39 s.vm) {own : String} (hown : s.vm.findClass own = some m.cls) {index : Nat} {v : Int32} (w : (Cond.constant own index v).before a0 Z = true) (hd : decode c.code pc = .ok (.ldc_w index, 3)) (pc' : Nat) (hp : pc + 3 = pc') (r : own_G p e below Q (T.setTop (mkF m pc' Ls (.int v :: st)))) : own_G p e below Q (T.setTop (mkF m pc Ls (st))) := by
  subst hp
  exact own_st (fun t ht => X.ldcwInt hx hown (mvT hZ w) (g := mkF m pc Ls st) rfl hd t ht) r
theorem own_ifT {α : Type} {c : Prop} [Decidable c] {a b r : α} (hc : c) (h : (if c then a else b) = r) : a = r := (if_pos hc).symm.trans h
theorem own_ifF {α : Type} {c : Prop} [Decidable c] {a b r : α} (hc : ¬ c) (h : (if c then a else b) = r) : b = r := (if_neg hc).symm.trans h
/-- what a body leaves -/
def own_End (s : State) (rm : Room) (n0 : Nat) (P : Option Value → Heap → Prop) (o : Outcome) (t : State) : Prop := ∃ v L, o = .returned v ∧ (Fr n0 L ∧ P v t.heap) ∧ FrameEnd s o t L rm.cells rm.slots
/-- a body's contract -/
def own_Met (l : Launch) (Z : State) (y : MethodName) (bytes : ByteArray) (maxL : Nat) (ret : Option FieldType) (ws : List Jvm.Cond) (rm : Room) (as' : Array Value) (h0 : Heap) (n0 : Nat) (P : Option Value → Heap → Prop) : Prop :=
  MetFree l y (head1 (Jvm.Cond.code y bytes maxL ret :: ws) rm) (fun a U => a = as' ∧ Z.Warmed39 U.vm ∧ U.heap = h0) (fun _ _ _ _ _ => True) (fun _ U o U' => own_End U rm n0 P o U')
variable {y : MethodName} {bytes : ByteArray} {maxL : Nat} {ret : Option FieldType} {ws : List Jvm.Cond} {rm : Room} {as' : Array Value} {h0 : Heap} {n0 : Nat} {P : Option Value → Heap → Prop}
theorem own_body (pf : plainFor y = true) (body : ∀ p e s m below meth c T, Stand p l e rm s m as' below meth c T [] 0 0 → p.tables.exec = Jvm.exec → c.code = bytes → c.maxLocals = maxL → s.vm.findClass y.cls = some m.cls → meth.name = y.name → Z.Warmed39 s.vm → T.heap = h0 → meth.sig.returnType = ret → meth.locks = false →
    own_G p e below (own_End s rm n0 P) (T.setTop (entryFrame m as' maxL))) : own_Met l Z y bytes maxL ret ws rm as' h0 n0 P := by
  refine MetFree.of_bodySF pf hisR ?_
  intro p e s m args below meth c s₁ Bd hml0 hP hK
  obtain ⟨e1, hZ, hh⟩ := hP
  cases e1
  exact body p e s m below meth c s₁ (Stand.of_body Bd) Bd.exec Bd.bytes hml0 (findClass_of_methodNamed Bd.named) (name_of_methodNamed Bd.named Bd.method).1 hZ (by rw [← hh, Bd.state]; rfl) Bd.returns Bd.notSynchronized
theorem own_stepI (X : Stand p l e R s m args below meth c T locs cells slots) (hx : p.tables.exec = Jvm.exec) {z : Int32} (hret : meth.sig.returnType = some .int) (hd : decode c.code pc = .ok (.ireturn, 1)) {fs : List Frame}
    (hl : ∀ (f : JFrame) (acts : List Action), f.method = m → f.locked = none → f.entered = [] → (doReturn e (T.setTop f) acts (some (.int z))).1 = T.setFrames fs) : Steps p.tables e below (T.setTop (mkF m pc Ls (.int z :: st))) (T.setFrames fs) :=
  retOut X hx hret rfl (Or.inl ⟨rfl, Or.inl rfl, z, rfl⟩) hd hl
theorem own_retI (X : Stand p l e R s m args below meth c T locs cells slots) (hx : p.tables.exec = Jvm.exec) {z : Int32} (hret : meth.sig.returnType = some .int) (hlk : meth.locks = false) (hd : decode c.code pc = .ok (.ireturn, 1)) (hc : cells ≤ rm.cells) (hs : slots ≤ rm.slots) (N : Fr n0 locs) (eT : T.heap = h) (hq : P (some (.int z)) h) :
    own_G p e below (own_End s rm n0 P) (T.setTop (mkF m pc Ls (.int z :: st))) := by
  subst eT
  obtain ⟨fs, hr, hrun, hended, hW, hsame⟩ := X.leave (v := some (.int z)) (fun h => by rw [hret] at h; cases h) hlk
  exact ⟨_, _, own_stepI X hx hret hd hr, hrun, hended, _, _, rfl, ⟨N, hq⟩, ⟨_, rfl⟩, hW, hsame.mono hc hs⟩
theorem own_retN (X : Stand p l e R s m args below meth c T locs cells slots) (hx : p.tables.exec = Jvm.exec) {z : Int32} {t : FieldType} (hret : meth.sig.returnType = some t) (ht : t = .boolean ∨ t = .byte ∨ t = .char ∨ t = .short) (hlk : meth.locks = false) (hd : decode c.code pc = .ok (.ireturn, 1)) (hc : cells ≤ rm.cells) (hs : slots ≤ rm.slots) (N : Fr n0 locs) (eT : T.heap = h) (hq : P (some (.int (nar t z))) h) :
    own_G p e below (own_End s rm n0 P) (T.setTop (mkF m pc Ls (.int z :: st))) := by
  subst eT
  obtain ⟨fs, hr, hrun, hended, hW, hsame⟩ := X.leave (v := some (.int (nar t z))) (fun h => by rw [hret] at h; cases h) hlk
  exact ⟨_, _, retN X hx hret ht hd hr, hrun, hended, _, _, rfl, ⟨N, hq⟩, ⟨_, rfl⟩, hW, hsame.mono hc hs⟩
theorem own_retA (X : Stand p l e R s m args below meth c T locs cells slots) (hx : p.tables.exec = Jvm.exec) {v : Value} {t : FieldType} (hret : meth.sig.returnType = some t) (ht : t.isReference = true) (hv : v.isRef = true) (hn : narrow t v = v) (hlk : meth.locks = false) (hd : decode c.code pc = .ok (.areturn, 1)) (hc : cells ≤ rm.cells) (hs : slots ≤ rm.slots) (N : Fr n0 locs) (eT : T.heap = h) (hq : P (some v) h) :
    own_G p e below (own_End s rm n0 P) (T.setTop (mkF m pc Ls (v :: st))) := by
  subst eT
  obtain ⟨fs, hr, hrun, hended, hW, hsame⟩ := X.leave (v := some v) (fun h => by rw [hret] at h; cases h) hlk
  exact ⟨_, _, retOut X hx hret hn (Or.inr (Or.inr (Or.inr (Or.inr ⟨rfl, ht, hv⟩)))) hd hr, hrun, hended, _, _, rfl, ⟨N, hq⟩, ⟨_, rfl⟩, hW, hsame.mono hc hs⟩
theorem own_retV (X : Stand p l e R s m args below meth c T locs cells slots) (hx : p.tables.exec = Jvm.exec) (hret : meth.sig.returnType = none) (hlk : meth.locks = false) (hd : decode c.code pc = .ok (.return_, 1)) (hc : cells ≤ rm.cells) (hs : slots ≤ rm.slots) (N : Fr n0 locs) (eT : T.heap = h) (hq : P none h) :
    own_G p e below (own_End s rm n0 P) (T.setTop (mkF m pc Ls [])) := by
  subst eT
  obtain ⟨fs, hr, hrun, hended, hW, hsame⟩ := X.leave (v := none) (fun _ => rfl) hlk
  exact ⟨_, _, X.returnOut hx hret hd hr, hrun, hended, _, _, rfl, ⟨N, hq⟩, ⟨_, rfl⟩, hW, hsame.mono hc hs⟩
/-- the callee's contract as the premise that a call by contract takes -/
theorem own_back {below' : List Frame} {W : Nat} {len : Nat} (M : own_Met l Z y bytes maxL ret [] rm as' h n0 P) (hZ : Z.Warmed39 s.vm) (wc : (Cond.code y bytes maxL ret).before a0 Z = true) (wz : (Cond.initialized y.cls).before a0 Z = true) (hf : rm.frames + 1 ≤ R.frames) (hl : W + (maxL + 11) + rm.locals ≤ R.locals) :
    Back l R p e below s args y len W (fun A a => a = as' ∧ A.U.heap = h ∧ A.cells + rm.cells ≤ R.cells ∧ A.slots + rm.slots ≤ R.slots)
      (fun A _ v B => ∃ L, (Fr n0 L ∧ P v B.U.heap) ∧ B.locs = A.locs ++ L ∧ B.cells = A.cells + rm.cells ∧ B.slots = A.slots + rm.slots) :=
  backOf (Q := fun v h L => Fr n0 L ∧ P v h) M hZ wc wz hf hl
theorem own_callS (X : Stand p l e R s m args below meth c T locs cells slots) (hx : p.tables.exec = Jvm.exec) (hZ : Z.Warmed39 s.vm) {own : String} {index : Nat} (hown : s.vm.findClass own = some m.cls) (w1 : (Cond.methodLink own index y).before a0 Z = true) (w2 : (Cond.static y).before a0 Z = true) (wz : (Cond.initialized y.cls).before a0 Z = true) (wc : (Cond.code y bytes maxL ret).before a0 Z = true)
    (hy : y.cls ≠ "java/lang/invoke/MethodHandle" ∧ y.cls ≠ "java/lang/invoke/VarHandle") (W : Nat) (M : own_Met l Z y bytes maxL ret [] rm as' h n0 P) (eT : T.heap = h) (hml : Ls.size = c.maxLocals) (argsL rest : List Value) (ha : argsL.toArray = as') (hlen : ∀ sig, parseMethodDescriptor y.desc = some sig → argsL.length = sig.parameters.length)
    (hst : st = argsL.reverse ++ rest) (hW : (rest.map fun v => v.category).sum ≤ W) (hf : rm.frames + 1 ≤ R.frames) (hl : W + (maxL + 11) + rm.locals ≤ R.locals) (hcl : cells + rm.cells ≤ R.cells) (hsl : slots + rm.slots ≤ R.slots) (hd : decode c.code pc = .ok (.invokestatic index, 3)) (N : Fr n0 locs) (pc' : Nat) (hp : pc + 3 = pc')
    (k : ∀ v T' locs', Stand p l e R s m args below meth c T' locs' (cells + rm.cells) (slots + rm.slots) → Fr n0 locs' → P v T'.heap → own_G p e below Q (T'.setTop (mkF m pc' Ls (v.toList ++ rest)))) : own_G p e below Q (T.setTop (mkF m pc Ls st)) := by
  subst hp
  obtain ⟨v, _, ⟨T', L', k', n'⟩, -, X', ⟨Lc, hQ, l1, y1, z1⟩, stp⟩ := Jvm.LawKit.callS X hx (y := y) hown (mvT hZ w1) (mvT hZ w2) (mvT hZ wz) (mvT hZ wc) hy (own_back (below' := below) (W := W) M hZ wc wz hf hl) (g := mkF m pc Ls st) rfl hml (argsL := argsL) (rest := rest) hlen hst (by show 2 * 0 + _ ≤ _; omega) hd (fun _ _ => ⟨ha, eT, hcl, hsl⟩)
  dsimp only [Pt.U, Pt.locs, Pt.cells, Pt.slots] at X' l1 y1 z1 stp hQ
  subst l1 y1 z1
  exact own_st stp (k v T' _ X' (N.app hQ.1) hQ.2)
theorem own_callI (X : Stand p l e R s m args below meth c T locs cells slots) (hx : p.tables.exec = Jvm.exec) (hZ : Z.Warmed39 s.vm) {own : String} {index : Nat} (hown : s.vm.findClass own = some m.cls) (hi : y.name = "<init>") (w1 : (Cond.methodLink own index y).before a0 Z = true) (w2 : (Cond.instanceMethod y).before a0 Z = true) (wz : (Cond.initialized y.cls).before a0 Z = true) (wc : (Cond.code y bytes maxL none).before a0 Z = true)
    (hy : y.cls ≠ "java/lang/invoke/MethodHandle" ∧ y.cls ≠ "java/lang/invoke/VarHandle") (W : Nat) (M : own_Met l Z y bytes maxL none [] rm as' h n0 P) (eT : T.heap = h) (hml : Ls.size = c.maxLocals) (a : Addr) (argsL rest : List Value) (ha : (Value.ref a :: argsL).toArray = as') (hlen : ∀ sig, parseMethodDescriptor y.desc = some sig → argsL.length = sig.parameters.length)
    (hst : st = argsL.reverse ++ .ref a :: rest) (hW : (rest.map fun v => v.category).sum ≤ W) (hf : rm.frames + 1 ≤ R.frames) (hl : W + (maxL + 11) + rm.locals ≤ R.locals) (hcl : cells + rm.cells ≤ R.cells) (hsl : slots + rm.slots ≤ R.slots) (hd : decode c.code pc = .ok (.invokespecial index, 3)) (N : Fr n0 locs) (pc' : Nat) (hp : pc + 3 = pc')
    (k : ∀ v T' locs', Stand p l e R s m args below meth c T' locs' (cells + rm.cells) (slots + rm.slots) → Fr n0 locs' → P v T'.heap → own_G p e below Q (T'.setTop (mkF m pc' Ls (v.toList ++ rest)))) : own_G p e below Q (T.setTop (mkF m pc Ls st)) := by
  subst hp
  obtain ⟨v, _, ⟨T', L', k', n'⟩, -, X', ⟨Lc, hQ, l1, y1, z1⟩, stp⟩ := X.specialBack hx (y := y) hi hown (mvT hZ w1) (mvT hZ w2) (mvT hZ wc) hy (own_back (below' := below) (W := W) M hZ wc wz hf hl) (g := mkF m pc Ls st) rfl hml (Steps.refl _) (a := a) (argsL := argsL) (rest := rest) hlen hst (by show 2 * 0 + _ ≤ _; omega) hd (fun _ _ => ⟨ha, eT, hcl, hsl⟩)
  dsimp only [Pt.U, Pt.locs, Pt.cells, Pt.slots] at X' l1 y1 z1 stp hQ
  subst l1 y1 z1
  exact own_st (fun t ht => stp.trans ht) (k v T' _ X' (N.app hQ.1) hQ.2)
theorem own_callV (X : Stand p l e R s m args below meth c T locs cells slots) (hx : p.tables.exec = Jvm.exec) (hZ : Z.Warmed39 s.vm) {own C : String} {index : Nat} (hown : s.vm.findClass own = some m.cls) (w1 : (Cond.methodLink own index y).before a0 Z = true) (w2 : (Cond.declares y).before a0 Z = true) (w3 : (Cond.selects C y y).before a0 Z = true) (w4 : (Cond.instanceMethod y).before a0 Z = true) (wz : (Cond.initialized y.cls).before a0 Z = true) (wc : (Cond.code y bytes maxL ret).before a0 Z = true)
    (hy : y.cls ≠ "java/lang/invoke/MethodHandle" ∧ y.cls ≠ "java/lang/invoke/VarHandle") (W : Nat) (M : own_Met l Z y bytes maxL ret [] rm as' h n0 P) (eT : T.heap = h) {a : Addr} (E : Exa Z h a C) (hml : Ls.size = c.maxLocals) (argsL rest : List Value) (ha : (Value.ref a :: argsL).toArray = as') (hlen : ∀ sig, parseMethodDescriptor y.desc = some sig → argsL.length = sig.parameters.length)
    (hst : st = argsL.reverse ++ .ref a :: rest) (hW : (rest.map fun v => v.category).sum ≤ W) (hf : rm.frames + 1 ≤ R.frames) (hl : W + (maxL + 11) + rm.locals ≤ R.locals) (hcl : cells + rm.cells ≤ R.cells) (hsl : slots + rm.slots ≤ R.slots) (hd : decode c.code pc = .ok (.invokevirtual index, 3)) (N : Fr n0 locs) (pc' : Nat) (hp : pc + 3 = pc')
    (k : ∀ v T' locs', Stand p l e R s m args below meth c T' locs' (cells + rm.cells) (slots + rm.slots) → Fr n0 locs' → P v T'.heap → own_G p e below Q (T'.setTop (mkF m pc' Ls (v.toList ++ rest)))) : own_G p e below Q (T.setTop (mkF m pc Ls st)) := by
  subst hp
  obtain ⟨_, _, qa, _, qc⟩ := isOf hZ eT E
  obtain ⟨v, _, ⟨T', L', k', n'⟩, -, X', ⟨Lc, hQ, l1, y1, z1⟩, stp⟩ := X.virtualBack hx (y := y) (z := y) hown (mvT hZ w1) (mvT hZ w2) (notFace_of_selects (args := #[]) (mvT hZ w3)) (mvT hZ w3) (mvT hZ w4) hy (own_back (below' := below) (W := W) M hZ wc wz hf hl) qa qc (g := mkF m pc Ls st) rfl hml (Steps.refl _) (argsL := argsL) (rest := rest) hlen hst (by show 2 * 0 + _ ≤ _; omega) hd (fun _ _ => ⟨ha, eT, hcl, hsl⟩)
  dsimp only [Pt.U, Pt.locs, Pt.cells, Pt.slots] at X' l1 y1 z1 stp hQ
  subst l1 y1 z1
  exact own_st (fun t ht => stp.trans ht) (k v T' _ X' (N.app hQ.1) hQ.2)
/-- an 'invokevirtual' of a private method, by its contract; that its class is no interface is read off the 'instantiable' word -/
theorem own_callP (X : Stand p l e R s m args below meth c T locs cells slots) (hx : p.tables.exec = Jvm.exec) (hZ : Z.Warmed39 s.vm) {own : String} {index kk : Nat} (hown : s.vm.findClass own = some m.cls) (w1 : (Cond.methodLink own index y).before a0 Z = true) (w4 : (Cond.instanceMethod y).before a0 Z = true) (w5 : (Cond.privateMethod y).before a0 Z = true) (w6 : (Cond.instantiable y.cls kk).before a0 Z = true) (wz : (Cond.initialized y.cls).before a0 Z = true) (wc : (Cond.code y bytes maxL ret).before a0 Z = true)
    (hy : y.cls ≠ "java/lang/invoke/MethodHandle" ∧ y.cls ≠ "java/lang/invoke/VarHandle") (W : Nat) (M : own_Met l Z y bytes maxL ret [] rm as' h n0 P) (eT : T.heap = h) {a : Addr} {C : String} (E : Exa Z h a C) (hml : Ls.size = c.maxLocals) (argsL rest : List Value) (ha : (Value.ref a :: argsL).toArray = as') (hlen : ∀ sig, parseMethodDescriptor y.desc = some sig → argsL.length = sig.parameters.length)
    (hst : st = argsL.reverse ++ .ref a :: rest) (hW : (rest.map fun v => v.category).sum ≤ W) (hf : rm.frames + 1 ≤ R.frames) (hl : W + (maxL + 11) + rm.locals ≤ R.locals) (hcl : cells + rm.cells ≤ R.cells) (hsl : slots + rm.slots ≤ R.slots) (hd : decode c.code pc = .ok (.invokevirtual index, 3)) (N : Fr n0 locs) (pc' : Nat) (hp : pc + 3 = pc')
    (k : ∀ v T' locs', Stand p l e R s m args below meth c T' locs' (cells + rm.cells) (slots + rm.slots) → Fr n0 locs' → P v T'.heap → own_G p e below Q (T'.setTop (mkF m pc' Ls (v.toList ++ rest)))) : own_G p e below Q (T.setTop (mkF m pc Ls st)) := by
  subst hp
  obtain ⟨cell, q1, q2⟩ := E.cell
  obtain ⟨mk, methM, hnamed, hmethM, hstM, habM⟩ := Cond.instanceMethod_spec (mvT (args := args) hZ w4)
  obtain ⟨methM', cM, hmethM', -, -, -, -, -, -, hsigM⟩ := Cond.code_spec hnamed (mvT (args := args) hZ wc)
  cases hmethM.symm.trans hmethM'
  obtain ⟨cC, kP, i1, hkP, -, i4, -⟩ := Cond.instantiable_spec (mvT (args := args) hZ w6)
  cases i1.symm.trans (findClass_of_methodNamed hnamed)
  have hkPi : kP.isInterface = false := by
    simp only [Bool.or_eq_false_iff] at i4
    exact i4.1
  have hpriv := Cond.privateMethod_at (mvP (args := args) hZ w5)
  obtain ⟨vm₁, X₁, hstep⟩ := X.invokevirtual hx hown (mvT hZ w1) hnamed hmethM hstM hkP hkPi hy (a := a) (cell := cell) (by rw [eT]; exact q1) q2 (selectMethod_private hmethM (hpriv mk methM hnamed hmethM)) hmethM habM hkP hkPi (g := mkF m pc Ls st) rfl (argsL := argsL) (rest := rest) (hlen _ hsigM) hst hd
  obtain ⟨v, ⟨T', L', k', n'⟩, X', ⟨Lc, hQ, l1, y1, z1⟩, stp⟩ := own_back (below' := below) (W := W) (len := 3) M hZ wc wz hf hl m meth c ⟨T.setVm vm₁, locs, cells, slots⟩ { (mkF m pc Ls st) with stack := rest } (.invokevirtual index) mk (.ref a :: argsL).toArray X₁ rfl hml hd (by show 2 * 0 + (rest.map fun v => v.category).sum ≤ W; omega) (X₁.named hnamed) ⟨ha, eT, hcl, hsl⟩
  dsimp only [Pt.U, Pt.locs, Pt.cells, Pt.slots] at X' l1 y1 z1 stp hQ
  subst l1 y1 z1
  exact own_st (fun t ht => hstep _ fun acts => by rw [doInvoke_state]; exact stp.trans ht) (k v T' _ X' (N.app hQ.1) hQ.2)
theorem own_getF (X : Stand p l e R s m args below meth c T locs cells slots) (hx : p.tables.exec = Jvm.exec) (hZ : Z.Warmed39 s.vm) {own : String} (hown : s.vm.findClass own = some m.cls) {O n d : String} {index : Nat} (w : (Cond.fieldLink own index O n d).before a0 Z = true) (eT : T.heap = h) {a : Addr} {v : Value} (F : Fld Z h a O n d v) (hd : decode c.code pc = .ok (.getfield index, 3)) (pc' : Nat) (hp : pc + 3 = pc')
    (k : ∀ T', Stand p l e R s m args below meth c T' locs cells slots → T'.heap = h → own_G p e below Q (T'.setTop (mkF m pc' Ls (v :: st)))) : own_G p e below Q (T.setTop (mkF m pc Ls (.ref a :: st))) := by
  subst hp
  obtain ⟨T', X', e', stp⟩ := getF X hx hZ hown (host := "") (Or.inl w) Via.refl eT F (g := mkF m pc Ls (.ref a :: st)) rfl rfl hd
  exact own_st stp (k T' X' e')
theorem own_putF (X : Stand p l e R s m args below meth c T locs cells slots) (hx : p.tables.exec = Jvm.exec) (hZ : Z.Warmed39 s.vm) {own : String} (hown : s.vm.findClass own = some m.cls) {O n d C : String} {index kk : Nat} {ty : FieldType} (w : (Cond.fieldLink own index O n d).before a0 Z = true) (eT : T.heap = h) {a : Addr} {v old : Value} (F : Fld Z h a O n d old) (E : Exa Z h a C) (L : (Cond.lays C O n d).before a0 Z = true ∨ ((Cond.laysFinal C O n d).before a0 Z = true ∧ own = O ∧ meth.name = "<init>")) (wi : (Cond.instantiable C kk).before a0 Z = true)
    (hty : parseFieldDescriptor d = some ty) (hn : narrow ty v = v) (hf : fits ty v = true) (hd : decode c.code pc = .ok (.putfield index, 3)) (N : Fr n0 locs) (g : n0 ≤ a) (pc' : Nat) (hp : pc + 3 = pc')
    (k : ∀ T' h' locs', Stand p l e R s m args below meth c T' locs' cells slots → Fr n0 locs' → T'.heap = h' → Wr h h' a (Jvm.RoadKit.slotOf Z O n d) v → own_G p e below Q (T'.setTop (mkF m pc' Ls st))) : own_G p e below Q (T.setTop (mkF m pc Ls (v :: .ref a :: st))) := by
  subst hp
  obtain ⟨T', h', X', e', W, stp⟩ := putF X hx hZ hown (host := "") (Or.inl w) Via.refl eT F E L wi hty hn hf (g := mkF m pc Ls (v :: .ref a :: st)) rfl rfl hd
  exact own_st stp (k T' h' _ X' (Fr.snoc X' N g) e' W)
/-- putfield of a boolean, byte, char or short: v' is what the field then holds -/
theorem own_putFN (X : Stand p l e R s m args below meth c T locs cells slots) (hx : p.tables.exec = Jvm.exec) (hZ : Z.Warmed39 s.vm) {own : String} (hown : s.vm.findClass own = some m.cls) {O n d C : String} {index kk : Nat} {ty : FieldType} (w : (Cond.fieldLink own index O n d).before a0 Z = true) (eT : T.heap = h) {a : Addr} {v v' old : Value} (F : Fld Z h a O n d old) (E : Exa Z h a C) (L : (Cond.lays C O n d).before a0 Z = true ∨ ((Cond.laysFinal C O n d).before a0 Z = true ∧ own = O ∧ meth.name = "<init>")) (wi : (Cond.instantiable C kk).before a0 Z = true)
    (hty : parseFieldDescriptor d = some ty) (hn : narrow ty v = v') (hf : fits ty v' = true) (hd : decode c.code pc = .ok (.putfield index, 3)) (N : Fr n0 locs) (g : n0 ≤ a) (pc' : Nat) (hp : pc + 3 = pc')
    (k : ∀ T' h' locs', Stand p l e R s m args below meth c T' locs' cells slots → Fr n0 locs' → T'.heap = h' → Wr h h' a (Jvm.RoadKit.slotOf Z O n d) v' → own_G p e below Q (T'.setTop (mkF m pc' Ls st))) : own_G p e below Q (T.setTop (mkF m pc Ls (v :: .ref a :: st))) := by
  subst hp
  obtain ⟨T', h', X', e', W, stp⟩ := putFN X hx hZ hown w Via.refl eT F E L wi hty hn hf (g := mkF m pc Ls (v :: .ref a :: st)) rfl rfl hd
  exact own_st stp (k T' h' _ X' (Fr.snoc X' N g) e' W)
theorem own_initO (X : Stand p l e R s m args below meth c T locs cells slots) (hx : p.tables.exec = Jvm.exec) (hZ : Z.Warmed39 s.vm) {own : String} (hown : s.vm.findClass own = some m.cls) {index : Nat} (w1 : (Cond.methodLink own index ⟨"java/lang/Object", "<init>", "()V"⟩).before a0 Z = true) (w2 : (Cond.instanceMethod ⟨"java/lang/Object", "<init>", "()V"⟩).before a0 Z = true) (w3 : (Cond.code ⟨"java/lang/Object", "<init>", "()V"⟩ object_method_1_code 1 none).before a0 Z = true) (eT : T.heap = h) (hml : Ls.size = c.maxLocals) {a : Addr} (hd : decode c.code pc = .ok (.invokespecial index, 3)) (W : Nat) (hf : 1 ≤ R.frames) (hW : (st.map fun v => v.category).sum ≤ W) (hl : W + 12 ≤ R.locals) (pc' : Nat) (hp : pc + 3 = pc')
    (k : ∀ T', Stand p l e R s m args below meth c T' locs cells slots → T'.heap = h → own_G p e below Q (T'.setTop (mkF m pc' Ls st))) : own_G p e below Q (T.setTop (mkF m pc Ls (.ref a :: st))) := by
  subst hp
  obtain ⟨T', X', e', stp⟩ := initO X hx hZ hown w1 w2 w3 eT (g := mkF m pc Ls (.ref a :: st)) rfl hml rfl hd hf (W := W) (by show 2 * 0 + _ ≤ _; omega) hl
  exact own_st stp (k T' X' e')
theorem own_getS (X : Stand p l e R s m args below meth c T locs cells slots) (hx : p.tables.exec = Jvm.exec) (hZ : Z.Warmed39 s.vm) {own : String} (hown : s.vm.findClass own = some m.cls) {O n d : String} {index : Nat} (w : (Cond.fieldLink own index O n d).before a0 Z = true) (eT : T.heap = h) {v : Value} (F : Sta Z h O n d v) (hd : decode c.code pc = .ok (.getstatic index, 3)) (pc' : Nat) (hp : pc + 3 = pc')
    (k : ∀ T', Stand p l e R s m args below meth c T' locs cells slots → T'.heap = h → own_G p e below Q (T'.setTop (mkF m pc' Ls (v :: st)))) : own_G p e below Q (T.setTop (mkF m pc Ls st)) := by
  subst hp
  obtain ⟨T', X', e', stp⟩ := getS2 X hx hZ hown (host := "") (Or.inl w) Via.refl eT F (g := mkF m pc Ls st) rfl hd
  exact own_st stp (k T' X' e')
theorem own_instY (X : Stand p l e R s m args below meth c T locs cells slots) (hx : p.tables.exec = Jvm.exec) (hZ : Z.Warmed39 s.vm) {own : String} (hown : s.vm.findClass own = some m.cls) {K : String} {index : Nat} (w : (Cond.classLink own index K).before a0 Z = true) (eT : T.heap = h) {a : Addr} (F : Ins Z h a K true) (hd : decode c.code pc = .ok (.instanceof index, 3)) (pc' : Nat) (hp : pc + 3 = pc')
    (k : ∀ T', Stand p l e R s m args below meth c T' locs cells slots → T'.heap = h → own_G p e below Q (T'.setTop (mkF m pc' Ls (.int 1 :: st)))) : own_G p e below Q (T.setTop (mkF m pc Ls (.ref a :: st))) := by
  subst hp
  obtain ⟨T', X', e', stp⟩ := instY X hx hZ hown w eT F (g := mkF m pc Ls (.ref a :: st)) rfl rfl hd
  exact own_st stp (k T' X' e')
theorem own_instNo (X : Stand p l e R s m args below meth c T locs cells slots) (hx : p.tables.exec = Jvm.exec) (hZ : Z.Warmed39 s.vm) {own : String} (hown : s.vm.findClass own = some m.cls) {K C : String} {index : Nat} (w : (Cond.classLink own index K).before a0 Z = true) (eT : T.heap = h) {a : Addr} (E : Exa Z h a C) (F : ∃ c t, Z.vm.findClass C = some c ∧ Z.vm.findClass K = some t ∧ Z.vm.assignable c t = false) (hd : decode c.code pc = .ok (.instanceof index, 3)) (pc' : Nat) (hp : pc + 3 = pc')
    (k : ∀ T', Stand p l e R s m args below meth c T' locs cells slots → T'.heap = h → own_G p e below Q (T'.setTop (mkF m pc' Ls (.int 0 :: st)))) : own_G p e below Q (T.setTop (mkF m pc Ls (.ref a :: st))) := by
  subst hp
  obtain ⟨T', X', e', stp⟩ := instNo X hx hZ hown w eT E F (g := mkF m pc Ls (.ref a :: st)) rfl rfl hd
  exact own_st stp (k T' X' e')
theorem own_instNull (X : Stand p l e R s m args below meth c T locs cells slots) (hx : p.tables.exec = Jvm.exec) {index : Nat} (hd : decode c.code pc = .ok (.instanceof index, 3)) (pc' : Nat) (hp : pc + 3 = pc') (r : own_G p e below Q (T.setTop (mkF m pc' Ls (.int 0 :: st)))) : own_G p e below Q (T.setTop (mkF m pc Ls (.null :: st))) := by
  subst hp
  exact own_st (fun t ht => X.instanceofNull hx (g := mkF m pc Ls (.null :: st)) rfl rfl hd t ht) r
theorem own_castY (X : Stand p l e R s m args below meth c T locs cells slots) (hx : p.tables.exec = Jvm.exec) (hZ : Z.Warmed39 s.vm) {own : String} (hown : s.vm.findClass own = some m.cls) {K : String} {index : Nat} (w : (Cond.classLink own index K).before a0 Z = true) (eT : T.heap = h) {a : Addr} (F : Ins Z h a K true) (hd : decode c.code pc = .ok (.checkcast index, 3)) (pc' : Nat) (hp : pc + 3 = pc')
    (k : ∀ T', Stand p l e R s m args below meth c T' locs cells slots → T'.heap = h → own_G p e below Q (T'.setTop (mkF m pc' Ls (.ref a :: st)))) : own_G p e below Q (T.setTop (mkF m pc Ls (.ref a :: st))) := by
  subst hp
  obtain ⟨T', X', e', stp⟩ := castY X hx hZ hown w eT F (g := mkF m pc Ls (.ref a :: st)) rfl rfl hd
  exact own_st stp (k T' X' e')
theorem own_aaload (X : Stand p l e R s m args below meth c T locs cells slots) (hx : p.tables.exec = Jvm.exec) (hZ : Z.Warmed39 s.vm) (eT : T.heap = h) {a : Addr} {cl : Cell} {K : String} (A : Arr Z h a cl (.object K)) {j : Int32} {v : Value} (hj : ¬ (j < 0 ∨ cl.slots.size ≤ j.toNatClampNeg)) (hv : cl.slots[j.toNatClampNeg]? = some v) (hd : decode c.code pc = .ok (.aaload, 1)) (pc' : Nat) (hp : pc + 1 = pc') (r : own_G p e below Q (T.setTop (mkF m pc' Ls (v :: st)))) : own_G p e below Q (T.setTop (mkF m pc Ls (.int j :: .ref a :: st))) := by
  subst hp
  exact own_st (fun t ht => X.aaload hx (j := j) (by rw [eT]; exact A.1) (State.isArrayOf_alike hZ.alike A.2.1) rfl A.2.2 hj hv (g := mkF m pc Ls (.int j :: .ref a :: st)) rfl rfl hd t ht) r
theorem own_newO (X : Stand p l e R s m args below meth c T locs cells slots) (hx : p.tables.exec = Jvm.exec) (hZ : Z.Warmed39 s.vm) {own : String} (hown : s.vm.findClass own = some m.cls) {C : String} {index n : Nat} (w : (Cond.classLink own index C).before a0 Z = true) (wi : (Cond.instantiable C n).before a0 Z = true) (wz : (Cond.initialized C).before a0 Z = true) (eT : T.heap = h) (hd : decode c.code pc = .ok (.new index, 3)) (hc : cells + 1 ≤ R.cells) (hl : slots + n ≤ R.slots) (pc' : Nat) (hp : pc + 3 = pc')
    (k : ∀ T' h' a, a = h.size → Stand p l e R s m args below meth c T' locs (cells + 1) (slots + n) → T'.heap = h' → Ext h h' → Exa Z h' a C → (∀ {O nm d : String} {ty : FieldType}, Laid Z a0 C O nm d → parseFieldDescriptor d = some ty → Fld Z h' a O nm d (defaultValue ty)) → own_G p e below Q (T'.setTop (mkF m pc' Ls (.ref a :: st)))) : own_G p e below Q (T.setTop (mkF m pc Ls st)) := by
  subst hp
  obtain ⟨T', h', X', e', E, A, D, -, stp⟩ := newO X hx hZ hown w wi wz eT (g := mkF m pc Ls st) rfl hd hc hl
  exact own_st stp (k T' h' _ rfl X' e' E A D)
theorem own_newP (X : Stand p l e R s m args below meth c T locs cells slots) (hx : p.tables.exec = Jvm.exec) (hZ : Z.Warmed39 s.vm) {aty : ArrayType} (w : (Cond.arrayClass (newarray.typeOf aty)).before a0 Z = true) (eT : T.heap = h) (hd : decode c.code pc = .ok (.newarray aty, 2)) {n : Int32} (hn : ¬ n < 0) (cap : Nat) (hcap : n.toNatClampNeg ≤ cap) (hb : cap * 8 ≤ 536870912) (hc : cells + 1 ≤ R.cells) (hl : slots + cap ≤ R.slots) (pc' : Nat) (hp : pc + 2 = pc')
    (k : ∀ T' h' cA a, a = h.size → Stand p l e R s m args below meth c T' locs (cells + 1) (slots + cap) → T'.heap = h' → Ext h h' → Arr Z h' a (newA cA (newarray.typeOf aty) n) (newarray.typeOf aty) → own_G p e below Q (T'.setTop (mkF m pc' Ls (.ref a :: st)))) : own_G p e below Q (T.setTop (mkF m pc Ls (.int n :: st))) := by
  subst hp
  obtain ⟨T', h', cA, X', e', E, A, stp⟩ := newP X hx hZ w eT (g := mkF m pc Ls (.int n :: st)) rfl hd rfl hn hcap hb hc hl
  exact own_st stp (k T' h' cA _ rfl X' e' E A)
theorem own_newR (X : Stand p l e R s m args below meth c T locs cells slots) (hx : p.tables.exec = Jvm.exec) (hZ : Z.Warmed39 s.vm) {own : String} (hown : s.vm.findClass own = some m.cls) {C : String} {index : Nat} (w1 : (Cond.classLink own index C).before a0 Z = true) (w2 : (Cond.arrayOver (.object C)).before a0 Z = true) (eT : T.heap = h) (hd : decode c.code pc = .ok (.anewarray index, 3)) {n : Int32} (hn : ¬ n < 0) (cap : Nat) (hcap : n.toNatClampNeg ≤ cap) (hb : cap * 8 ≤ 536870912) (hc : cells + 1 ≤ R.cells) (hl : slots + cap ≤ R.slots) (pc' : Nat) (hp : pc + 3 = pc')
    (k : ∀ T' h' cA a, a = h.size → Stand p l e R s m args below meth c T' locs (cells + 1) (slots + cap) → T'.heap = h' → Ext h h' → Arr Z h' a (newA cA (.object C) n) (.object C) → own_G p e below Q (T'.setTop (mkF m pc' Ls (.ref a :: st)))) : own_G p e below Q (T.setTop (mkF m pc Ls (.int n :: st))) := by
  subst hp
  obtain ⟨T', h', cA, X', e', E, A, -, stp⟩ := newR X hx hZ hown w1 w2 eT (g := mkF m pc Ls (.int n :: st)) rfl hd rfl hn hcap hb hc hl
  exact own_st stp (k T' h' cA _ rfl X' e' E A)
/-- an array of ints, bytes, chars or booleans (as ints): its length, what place j holds -/
def own_A (Z : State) (h : Heap) (a : Addr) (ty : FieldType) (n : Nat) (f : Nat → Int32) : Prop := ∃ c : Cell, Arr Z h a c ty ∧ c.slots.size = n ∧ ∀ j, j < n → c.slots[j]? = some (.int (f j))
variable {h' : Heap} {a b : Addr} {ty : FieldType} {n : Nat} {f : Nat → Int32} {sl : Nat} {v : Value} {wl : List Addr}
theorem own_A.lt (A : own_A Z h a ty n f) : a < h.size := by obtain ⟨c, A, -⟩ := A; exact A.lt
theorem own_A.ext (A : own_A Z h a ty n f) (E : Ext h h') : own_A Z h' a ty n f := by obtain ⟨c, A, r⟩ := A; exact ⟨c, A.ext E, r⟩
theorem own_A.other (A : own_A Z h a ty n f) (W : Wr h h' b sl v) (q : a ≠ b) : own_A Z h' a ty n f := by obtain ⟨c, A, r⟩ := A; exact ⟨c, A.other W q, r⟩
theorem own_A.keep (A : own_A Z h a ty n f) (K : Keep h h' wl) (q : a ∉ wl) : own_A Z h' a ty n f := by obtain ⟨c, A, r⟩ := A; exact ⟨c, ⟨K.2.1 a c A.1 q, A.2⟩, r⟩
theorem own_A.set (A : own_A Z h a ty n f) {i : Nat} {x : Int32} (W : Wr h h' a i (.int x)) : own_A Z h' a ty n (fun j => if i = j then x else f j) := by
  obtain ⟨c, A, S, H⟩ := A
  refine ⟨_, A.same W, by rw [sz_set]; exact S, fun j hj => ?_⟩
  by_cases q : i = j
  · subst q
    simp [Cell.setSlot, S, hj]
  · simp only [Cell.setSlot, q, if_false]
    rw [Array.getElem?_setIfInBounds_ne q]
    exact H j hj
theorem own_A.congr (A : own_A Z h a ty n f) {g : Nat → Int32} (q : ∀ j, j < n → f j = g j) : own_A Z h a ty n g := by
  obtain ⟨c, A, S, H⟩ := A
  exact ⟨c, A, S, fun j hj => by rw [← q j hj]; exact H j hj⟩
theorem own_A.new {cA : ClassId} {z : Int32} (A : Arr Z h a (newA cA ty z) ty) (hz : z.toNatClampNeg = n) (hd : defaultValue ty = .int 0) : own_A Z h a ty n (fun _ => 0) := by
  refine ⟨_, A, by rw [sz_new]; exact hz, fun j hj => ?_⟩
  simp [newA, hz, hj, hd]
theorem own_nin {z : Int32} {nn : Nat} {cl : Cell} (S : cl.slots.size = nn) (q : ¬ z < 0 ∧ z.toNatClampNeg < nn) : ¬ (z < 0 ∨ cl.slots.size ≤ z.toNatClampNeg) := fun w => w.elim q.1 fun u => Nat.not_lt.mpr (S ▸ u) q.2
theorem own_iaload (X : Stand p l e R s m args below meth c T locs cells slots) (hx : p.tables.exec = Jvm.exec) (hZ : Z.Warmed39 s.vm) (eT : T.heap = h) (A : own_A Z h a .int n f) {j : Int32} (hj : ¬ j < 0 ∧ j.toNatClampNeg < n) {x : Int32} (hv : f j.toNatClampNeg = x) (hd : decode c.code pc = .ok (.iaload, 1)) (pc' : Nat) (hp : pc + 1 = pc') (r : own_G p e below Q (T.setTop (mkF m pc' Ls (.int x :: st)))) : own_G p e below Q (T.setTop (mkF m pc Ls (.int j :: .ref a :: st))) := by
  subst hp hv
  obtain ⟨cl, A, S, H⟩ := A
  exact own_st (fun t ht => X.iaload hx (j := j) (by rw [eT]; exact A.1) (State.isArrayOf_alike hZ.alike A.2.1) A.2.2 (own_nin S hj) (H _ hj.2) (g := mkF m pc Ls (.int j :: .ref a :: st)) rfl rfl hd t ht) r
theorem own_zaload (X : Stand p l e R s m args below meth c T locs cells slots) (hx : p.tables.exec = Jvm.exec) (hZ : Z.Warmed39 s.vm) (eT : T.heap = h) (A : own_A Z h a .boolean n f) {j : Int32} (hj : ¬ j < 0 ∧ j.toNatClampNeg < n) {x : Int32} (hv : f j.toNatClampNeg = x) (hd : decode c.code pc = .ok (.baload, 1)) (pc' : Nat) (hp : pc + 1 = pc') (r : own_G p e below Q (T.setTop (mkF m pc' Ls (.int x :: st)))) : own_G p e below Q (T.setTop (mkF m pc Ls (.int j :: .ref a :: st))) := by
  subst hp hv
  obtain ⟨cl, A, S, H⟩ := A
  exact own_st (fun t ht => X.baloadBooleans hx (j := j) (by rw [eT]; exact A.1) (State.isArrayOf_alike hZ.alike A.2.1) A.2.2 (own_nin S hj) (H _ hj.2) (g := mkF m pc Ls (.int j :: .ref a :: st)) rfl rfl hd t ht) r
theorem own_baload (X : Stand p l e R s m args below meth c T locs cells slots) (hx : p.tables.exec = Jvm.exec) (hZ : Z.Warmed39 s.vm) (eT : T.heap = h) (A : own_A Z h a .byte n f) {j : Int32} (hj : ¬ j < 0 ∧ j.toNatClampNeg < n) {x : Int32} (hv : f j.toNatClampNeg = x) (hd : decode c.code pc = .ok (.baload, 1)) (pc' : Nat) (hp : pc + 1 = pc') (r : own_G p e below Q (T.setTop (mkF m pc' Ls (.int x :: st)))) : own_G p e below Q (T.setTop (mkF m pc Ls (.int j :: .ref a :: st))) := by
  subst hp hv
  obtain ⟨cl, A, S, H⟩ := A
  exact own_st (fun t ht => X.baloadBytes hx (j := j) (by rw [eT]; exact A.1) (State.isArrayOf_alike hZ.alike A.2.1) A.2.2 (own_nin S hj) (H _ hj.2) (g := mkF m pc Ls (.int j :: .ref a :: st)) rfl rfl hd t ht) r
theorem own_ialoadE (X : Stand p l e R s m args below meth c T locs cells slots) (hx : p.tables.exec = Jvm.exec) (hZ : Z.Warmed39 s.vm) (eT : T.heap = h) (A : own_A Z h a .int n f) {j : Int32} (hj : ¬ j < 0 ∧ j.toNatClampNeg < n) (hd : decode c.code pc = .ok (.iaload, 1)) (pc' : Nat) (hp : pc + 1 = pc') (r : ∀ x, f j.toNatClampNeg = x → own_G p e below Q (T.setTop (mkF m pc' Ls (.int x :: st)))) : own_G p e below Q (T.setTop (mkF m pc Ls (.int j :: .ref a :: st))) := own_iaload X hx hZ eT A hj rfl hd pc' hp (r _ rfl)
theorem own_zaloadE (X : Stand p l e R s m args below meth c T locs cells slots) (hx : p.tables.exec = Jvm.exec) (hZ : Z.Warmed39 s.vm) (eT : T.heap = h) (A : own_A Z h a .boolean n f) {j : Int32} (hj : ¬ j < 0 ∧ j.toNatClampNeg < n) (hd : decode c.code pc = .ok (.baload, 1)) (pc' : Nat) (hp : pc + 1 = pc') (r : ∀ x, f j.toNatClampNeg = x → own_G p e below Q (T.setTop (mkF m pc' Ls (.int x :: st)))) : own_G p e below Q (T.setTop (mkF m pc Ls (.int j :: .ref a :: st))) := own_zaload X hx hZ eT A hj rfl hd pc' hp (r _ rfl)
theorem own_baloadE (X : Stand p l e R s m args below meth c T locs cells slots) (hx : p.tables.exec = Jvm.exec) (hZ : Z.Warmed39 s.vm) (eT : T.heap = h) (A : own_A Z h a .byte n f) {j : Int32} (hj : ¬ j < 0 ∧ j.toNatClampNeg < n) (hd : decode c.code pc = .ok (.baload, 1)) (pc' : Nat) (hp : pc + 1 = pc') (r : ∀ x, f j.toNatClampNeg = x → own_G p e below Q (T.setTop (mkF m pc' Ls (.int x :: st)))) : own_G p e below Q (T.setTop (mkF m pc Ls (.int j :: .ref a :: st))) := own_baload X hx hZ eT A hj rfl hd pc' hp (r _ rfl)
theorem own_arrlen (X : Stand p l e R s m args below meth c T locs cells slots) (hx : p.tables.exec = Jvm.exec) (hZ : Z.Warmed39 s.vm) (eT : T.heap = h) (A : own_A Z h a ty n f) {z : Int32} (hz : n.toInt32 = z) (hd : decode c.code pc = .ok (.arraylength, 1)) (pc' : Nat) (hp : pc + 1 = pc') (r : own_G p e below Q (T.setTop (mkF m pc' Ls (.int z :: st)))) : own_G p e below Q (T.setTop (mkF m pc Ls (.ref a :: st))) := by
  subst hp hz
  obtain ⟨cl, A, S, H⟩ := A
  subst S
  exact own_st (fun t ht => X.arraylength hx (by rw [eT]; exact A.1) (State.isArrayOf_alike hZ.alike A.2.1) (g := mkF m pc Ls (.ref a :: st)) rfl rfl hd t ht) r
theorem own_iastore (X : Stand p l e R s m args below meth c T locs cells slots) (hx : p.tables.exec = Jvm.exec) (hZ : Z.Warmed39 s.vm) (eT : T.heap = h) (A : own_A Z h a .int n f) {j x : Int32} (hj : ¬ j < 0 ∧ j.toNatClampNeg < n) (hd : decode c.code pc = .ok (.iastore, 1)) (N : Fr n0 locs) (g : n0 ≤ a) (pc' : Nat) (hp : pc + 1 = pc')
    (k : ∀ T' h' locs', Stand p l e R s m args below meth c T' locs' cells slots → Fr n0 locs' → T'.heap = h' → Wr h h' a j.toNatClampNeg (.int x) → own_G p e below Q (T'.setTop (mkF m pc' Ls st))) : own_G p e below Q (T.setTop (mkF m pc Ls (.int x :: .int j :: .ref a :: st))) := by
  subst hp
  obtain ⟨cl, A, S, H⟩ := A
  obtain ⟨T', h', X', e', W, stp⟩ := stI X hx hZ eT A (own_nin S hj) (g := mkF m pc Ls (.int x :: .int j :: .ref a :: st)) rfl rfl hd
  exact own_st stp (k T' h' _ X' (Fr.snoc X' N g) e' W)
theorem own_zastore (X : Stand p l e R s m args below meth c T locs cells slots) (hx : p.tables.exec = Jvm.exec) (hZ : Z.Warmed39 s.vm) (eT : T.heap = h) (A : own_A Z h a .boolean n f) {j x : Int32} (hj : ¬ j < 0 ∧ j.toNatClampNeg < n) (hd : decode c.code pc = .ok (.bastore, 1)) (N : Fr n0 locs) (g : n0 ≤ a) (pc' : Nat) (hp : pc + 1 = pc')
    (k : ∀ T' h' locs', Stand p l e R s m args below meth c T' locs' cells slots → Fr n0 locs' → T'.heap = h' → Wr h h' a j.toNatClampNeg (.int (nar .boolean x)) → own_G p e below Q (T'.setTop (mkF m pc' Ls st))) : own_G p e below Q (T.setTop (mkF m pc Ls (.int x :: .int j :: .ref a :: st))) := by
  subst hp
  obtain ⟨cl, A, S, H⟩ := A
  obtain ⟨T', h', X', e', W, stp⟩ := stZ X hx hZ eT A (own_nin S hj) (g := mkF m pc Ls (.int x :: .int j :: .ref a :: st)) rfl rfl hd
  exact own_st stp (k T' h' _ X' (Fr.snoc X' N g) e' W)
end OwnBase

theorem own_pn_Diagrams : plainName "com/example/orbweaver/orbweaver/synthesis/Diagrams" = true := by first | (simp [plainName, overriddenIn]; done) | decide +kernel

theorem own_pn_Arrays : plainName "java/util/Arrays" = true := by first | (simp [plainName, overriddenIn]; done) | decide +kernel
theorem own_pn_Diagrams_1 : plainName "com/example/orbweaver/orbweaver/synthesis/Diagrams$1" = true := by first | (simp [plainName, overriddenIn]; done) | decide +kernel
theorem own_pn_DiagramsGivenPinLaw : plainName "com/example/orbweaver/orbweaver/synthesis/DiagramsGivenPinLaw" = true := by first | (simp [plainName, overriddenIn]; done) | decide +kernel
theorem own_w0 {Z : State} {a0 : Array Value} (hw : ∀ d ∈ tables_1, d.before a0 Z = true) : ((Jvm.Cond.arrayClass Jvm.ClassFile.FieldType.boolean)).before a0 Z = true := hw _ (List.mem_of_getElem? (i := 0) rfl)
theorem own_w1 {Z : State} {a0 : Array Value} (hw : ∀ d ∈ tables_1, d.before a0 Z = true) : ((Jvm.Cond.classLink "com/example/orbweaver/orbweaver/synthesis/DiagramsGivenPinLaw" (7 : Nat) "com/example/orbweaver/orbweaver/synthesis/Diagrams")).before a0 Z = true := hw _ (List.mem_of_getElem? (i := 1) rfl)
theorem own_w2 {Z : State} {a0 : Array Value} (hw : ∀ d ∈ tables_1, d.before a0 Z = true) : ((Jvm.Cond.instantiable "com/example/orbweaver/orbweaver/synthesis/Diagrams" (13 : Nat))).before a0 Z = true := hw _ (List.mem_of_getElem? (i := 2) rfl)
theorem own_w3 {Z : State} {a0 : Array Value} (hw : ∀ d ∈ tables_1, d.before a0 Z = true) : ((Jvm.Cond.initialized "com/example/orbweaver/orbweaver/synthesis/Diagrams")).before a0 Z = true := hw _ (List.mem_of_getElem? (i := 3) rfl)
theorem own_w4 {Z : State} {a0 : Array Value} (hw : ∀ d ∈ tables_1, d.before a0 Z = true) : ((Jvm.Cond.methodLink "com/example/orbweaver/orbweaver/synthesis/DiagramsGivenPinLaw" (9 : Nat) ({ cls := "com/example/orbweaver/orbweaver/synthesis/Diagrams", name := "<init>", desc := "(III)V" } : Jvm.MethodName))).before a0 Z = true := hw _ (List.mem_of_getElem? (i := 4) rfl)
theorem own_w5 {Z : State} {a0 : Array Value} (hw : ∀ d ∈ tables_1, d.before a0 Z = true) : ((Jvm.Cond.instanceMethod ({ cls := "com/example/orbweaver/orbweaver/synthesis/Diagrams", name := "<init>", desc := "(III)V" } : Jvm.MethodName))).before a0 Z = true := hw _ (List.mem_of_getElem? (i := 5) rfl)
theorem own_w6 {Z : State} {a0 : Array Value} (hw : ∀ d ∈ tables_1, d.before a0 Z = true) : ((Jvm.Cond.code ({ cls := "com/example/orbweaver/orbweaver/synthesis/Diagrams", name := "<init>", desc := "(III)V" } : Jvm.MethodName) prog_81_method_2_code (4 : Nat) (Option.none : Option Jvm.ClassFile.FieldType))).before a0 Z = true := hw _ (List.mem_of_getElem? (i := 6) rfl)
theorem own_w7 {Z : State} {a0 : Array Value} (hw : ∀ d ∈ tables_1, d.before a0 Z = true) : ((Jvm.Cond.methodLink "com/example/orbweaver/orbweaver/synthesis/Diagrams" (7 : Nat) ({ cls := "java/lang/Object", name := "<init>", desc := "()V" } : Jvm.MethodName))).before a0 Z = true := hw _ (List.mem_of_getElem? (i := 7) rfl)
theorem own_w8 {Z : State} {a0 : Array Value} (hw : ∀ d ∈ tables_1, d.before a0 Z = true) : ((Jvm.Cond.instanceMethod ({ cls := "java/lang/Object", name := "<init>", desc := "()V" } : Jvm.MethodName))).before a0 Z = true := hw _ (List.mem_of_getElem? (i := 8) rfl)
theorem own_w9 {Z : State} {a0 : Array Value} (hw : ∀ d ∈ tables_1, d.before a0 Z = true) : ((Jvm.Cond.code ({ cls := "java/lang/Object", name := "<init>", desc := "()V" } : Jvm.MethodName) object_method_1_code (1 : Nat) (Option.none : Option Jvm.ClassFile.FieldType))).before a0 Z = true := hw _ (List.mem_of_getElem? (i := 9) rfl)
theorem own_w10 {Z : State} {a0 : Array Value} (hw : ∀ d ∈ tables_1, d.before a0 Z = true) : ((Jvm.Cond.classLink "com/example/orbweaver/orbweaver/synthesis/Diagrams" (12 : Nat) "com/example/orbweaver/orbweaver/synthesis/Diagrams$1")).before a0 Z = true := hw _ (List.mem_of_getElem? (i := 10) rfl)
theorem own_w11 {Z : State} {a0 : Array Value} (hw : ∀ d ∈ tables_1, d.before a0 Z = true) : ((Jvm.Cond.instantiable "com/example/orbweaver/orbweaver/synthesis/Diagrams$1" (1 : Nat))).before a0 Z = true := hw _ (List.mem_of_getElem? (i := 11) rfl)
theorem own_w12 {Z : State} {a0 : Array Value} (hw : ∀ d ∈ tables_1, d.before a0 Z = true) : ((Jvm.Cond.initialized "com/example/orbweaver/orbweaver/synthesis/Diagrams$1")).before a0 Z = true := hw _ (List.mem_of_getElem? (i := 12) rfl)
theorem own_w13 {Z : State} {a0 : Array Value} (hw : ∀ d ∈ tables_1, d.before a0 Z = true) : ((Jvm.Cond.methodLink "com/example/orbweaver/orbweaver/synthesis/Diagrams" (14 : Nat) ({ cls := "com/example/orbweaver/orbweaver/synthesis/Diagrams$1", name := "<init>", desc := "(Lcom/example/orbweaver/orbweaver/synthesis/Diagrams;)V" } : Jvm.MethodName))).before a0 Z = true := hw _ (List.mem_of_getElem? (i := 13) rfl)
theorem own_w14 {Z : State} {a0 : Array Value} (hw : ∀ d ∈ tables_1, d.before a0 Z = true) : ((Jvm.Cond.instanceMethod ({ cls := "com/example/orbweaver/orbweaver/synthesis/Diagrams$1", name := "<init>", desc := "(Lcom/example/orbweaver/orbweaver/synthesis/Diagrams;)V" } : Jvm.MethodName))).before a0 Z = true := hw _ (List.mem_of_getElem? (i := 14) rfl)
theorem own_w15 {Z : State} {a0 : Array Value} (hw : ∀ d ∈ tables_1, d.before a0 Z = true) : ((Jvm.Cond.code ({ cls := "com/example/orbweaver/orbweaver/synthesis/Diagrams$1", name := "<init>", desc := "(Lcom/example/orbweaver/orbweaver/synthesis/Diagrams;)V" } : Jvm.MethodName) prog_82_method_1_code (2 : Nat) (Option.none : Option Jvm.ClassFile.FieldType))).before a0 Z = true := hw _ (List.mem_of_getElem? (i := 15) rfl)
theorem own_w16 {Z : State} {a0 : Array Value} (hw : ∀ d ∈ tables_1, d.before a0 Z = true) : ((Jvm.Cond.fieldLink "com/example/orbweaver/orbweaver/synthesis/Diagrams$1" (3 : Nat) "com/example/orbweaver/orbweaver/synthesis/Diagrams$1" "this$0" "Lcom/example/orbweaver/orbweaver/synthesis/Diagrams;")).before a0 Z = true := hw _ (List.mem_of_getElem? (i := 16) rfl)
theorem own_w17 {Z : State} {a0 : Array Value} (hw : ∀ d ∈ tables_1, d.before a0 Z = true) : ((Jvm.Cond.laysFinal "com/example/orbweaver/orbweaver/synthesis/Diagrams$1" "com/example/orbweaver/orbweaver/synthesis/Diagrams$1" "this$0" "Lcom/example/orbweaver/orbweaver/synthesis/Diagrams;")).before a0 Z = true := hw _ (List.mem_of_getElem? (i := 17) rfl)
theorem own_w18 {Z : State} {a0 : Array Value} (hw : ∀ d ∈ tables_1, d.before a0 Z = true) : ((Jvm.Cond.methodLink "com/example/orbweaver/orbweaver/synthesis/Diagrams$1" (9 : Nat) ({ cls := "java/lang/Object", name := "<init>", desc := "()V" } : Jvm.MethodName))).before a0 Z = true := hw _ (List.mem_of_getElem? (i := 18) rfl)
theorem own_w19 {Z : State} {a0 : Array Value} (hw : ∀ d ∈ tables_1, d.before a0 Z = true) : ((Jvm.Cond.fieldLink "com/example/orbweaver/orbweaver/synthesis/Diagrams" (17 : Nat) "com/example/orbweaver/orbweaver/synthesis/Diagrams" "logic" "Lcom/example/orbweaver/orbweaver/spec/Logic;")).before a0 Z = true := hw _ (List.mem_of_getElem? (i := 19) rfl)
theorem own_w20 {Z : State} {a0 : Array Value} (hw : ∀ d ∈ tables_1, d.before a0 Z = true) : ((Jvm.Cond.laysFinal "com/example/orbweaver/orbweaver/synthesis/Diagrams" "com/example/orbweaver/orbweaver/synthesis/Diagrams" "logic" "Lcom/example/orbweaver/orbweaver/spec/Logic;")).before a0 Z = true := hw _ (List.mem_of_getElem? (i := 20) rfl)
theorem own_w21 {Z : State} {a0 : Array Value} (hw : ∀ d ∈ tables_1, d.before a0 Z = true) : ((Jvm.Cond.classLink "com/example/orbweaver/orbweaver/synthesis/Diagrams" (21 : Nat) "com/example/orbweaver/orbweaver/synthesis/Valuations")).before a0 Z = true := hw _ (List.mem_of_getElem? (i := 21) rfl)
theorem own_w22 {Z : State} {a0 : Array Value} (hw : ∀ d ∈ tables_1, d.before a0 Z = true) : ((Jvm.Cond.arrayOver (Jvm.ClassFile.FieldType.object "com/example/orbweaver/orbweaver/synthesis/Valuations"))).before a0 Z = true := hw _ (List.mem_of_getElem? (i := 22) rfl)
theorem own_w23 {Z : State} {a0 : Array Value} (hw : ∀ d ∈ tables_1, d.before a0 Z = true) : ((Jvm.Cond.fieldLink "com/example/orbweaver/orbweaver/synthesis/Diagrams" (23 : Nat) "com/example/orbweaver/orbweaver/synthesis/Diagrams" "sets" "[Lcom/example/orbweaver/orbweaver/synthesis/Valuations;")).before a0 Z = true := hw _ (List.mem_of_getElem? (i := 23) rfl)
theorem own_w24 {Z : State} {a0 : Array Value} (hw : ∀ d ∈ tables_1, d.before a0 Z = true) : ((Jvm.Cond.lays "com/example/orbweaver/orbweaver/synthesis/Diagrams" "com/example/orbweaver/orbweaver/synthesis/Diagrams" "sets" "[Lcom/example/orbweaver/orbweaver/synthesis/Valuations;")).before a0 Z = true := hw _ (List.mem_of_getElem? (i := 24) rfl)
theorem own_w25 {Z : State} {a0 : Array Value} (hw : ∀ d ∈ tables_1, d.before a0 Z = true) : ((Jvm.Cond.arrayClass Jvm.ClassFile.FieldType.int)).before a0 Z = true := hw _ (List.mem_of_getElem? (i := 25) rfl)
theorem own_w26 {Z : State} {a0 : Array Value} (hw : ∀ d ∈ tables_1, d.before a0 Z = true) : ((Jvm.Cond.fieldLink "com/example/orbweaver/orbweaver/synthesis/Diagrams" (27 : Nat) "com/example/orbweaver/orbweaver/synthesis/Diagrams" "work" "[I")).before a0 Z = true := hw _ (List.mem_of_getElem? (i := 26) rfl)
theorem own_w27 {Z : State} {a0 : Array Value} (hw : ∀ d ∈ tables_1, d.before a0 Z = true) : ((Jvm.Cond.lays "com/example/orbweaver/orbweaver/synthesis/Diagrams" "com/example/orbweaver/orbweaver/synthesis/Diagrams" "work" "[I")).before a0 Z = true := hw _ (List.mem_of_getElem? (i := 27) rfl)
theorem own_w28 {Z : State} {a0 : Array Value} (hw : ∀ d ∈ tables_1, d.before a0 Z = true) : ((Jvm.Cond.fieldLink "com/example/orbweaver/orbweaver/synthesis/Diagrams" (31 : Nat) "com/example/orbweaver/orbweaver/synthesis/Diagrams" "results" "[I")).before a0 Z = true := hw _ (List.mem_of_getElem? (i := 28) rfl)
theorem own_w29 {Z : State} {a0 : Array Value} (hw : ∀ d ∈ tables_1, d.before a0 Z = true) : ((Jvm.Cond.lays "com/example/orbweaver/orbweaver/synthesis/Diagrams" "com/example/orbweaver/orbweaver/synthesis/Diagrams" "results" "[I")).before a0 Z = true := hw _ (List.mem_of_getElem? (i := 29) rfl)
theorem own_w30 {Z : State} {a0 : Array Value} (hw : ∀ d ∈ tables_1, d.before a0 Z = true) : ((Jvm.Cond.fieldLink "com/example/orbweaver/orbweaver/synthesis/Diagrams" (34 : Nat) "com/example/orbweaver/orbweaver/synthesis/Diagrams" "variables" "I")).before a0 Z = true := hw _ (List.mem_of_getElem? (i := 30) rfl)
theorem own_w31 {Z : State} {a0 : Array Value} (hw : ∀ d ∈ tables_1, d.before a0 Z = true) : ((Jvm.Cond.laysFinal "com/example/orbweaver/orbweaver/synthesis/Diagrams" "com/example/orbweaver/orbweaver/synthesis/Diagrams" "variables" "I")).before a0 Z = true := hw _ (List.mem_of_getElem? (i := 31) rfl)
theorem own_w32 {Z : State} {a0 : Array Value} (hw : ∀ d ∈ tables_1, d.before a0 Z = true) : ((Jvm.Cond.fieldLink "com/example/orbweaver/orbweaver/synthesis/Diagrams" (38 : Nat) "com/example/orbweaver/orbweaver/synthesis/Diagrams" "terms" "I")).before a0 Z = true := hw _ (List.mem_of_getElem? (i := 32) rfl)
theorem own_w33 {Z : State} {a0 : Array Value} (hw : ∀ d ∈ tables_1, d.before a0 Z = true) : ((Jvm.Cond.laysFinal "com/example/orbweaver/orbweaver/synthesis/Diagrams" "com/example/orbweaver/orbweaver/synthesis/Diagrams" "terms" "I")).before a0 Z = true := hw _ (List.mem_of_getElem? (i := 33) rfl)
theorem own_w34 {Z : State} {a0 : Array Value} (hw : ∀ d ∈ tables_1, d.before a0 Z = true) : ((Jvm.Cond.fieldLink "com/example/orbweaver/orbweaver/synthesis/Diagrams" (41 : Nat) "com/example/orbweaver/orbweaver/synthesis/Diagrams" "limit" "I")).before a0 Z = true := hw _ (List.mem_of_getElem? (i := 34) rfl)
theorem own_w35 {Z : State} {a0 : Array Value} (hw : ∀ d ∈ tables_1, d.before a0 Z = true) : ((Jvm.Cond.lays "com/example/orbweaver/orbweaver/synthesis/Diagrams" "com/example/orbweaver/orbweaver/synthesis/Diagrams" "limit" "I")).before a0 Z = true := hw _ (List.mem_of_getElem? (i := 35) rfl)
theorem own_w36 {Z : State} {a0 : Array Value} (hw : ∀ d ∈ tables_1, d.before a0 Z = true) : ((Jvm.Cond.fieldLink "com/example/orbweaver/orbweaver/synthesis/Diagrams" (44 : Nat) "com/example/orbweaver/orbweaver/synthesis/Diagrams" "level" "[I")).before a0 Z = true := hw _ (List.mem_of_getElem? (i := 36) rfl)
theorem own_w37 {Z : State} {a0 : Array Value} (hw : ∀ d ∈ tables_1, d.before a0 Z = true) : ((Jvm.Cond.lays "com/example/orbweaver/orbweaver/synthesis/Diagrams" "com/example/orbweaver/orbweaver/synthesis/Diagrams" "level" "[I")).before a0 Z = true := hw _ (List.mem_of_getElem? (i := 37) rfl)
theorem own_w38 {Z : State} {a0 : Array Value} (hw : ∀ d ∈ tables_1, d.before a0 Z = true) : ((Jvm.Cond.fieldLink "com/example/orbweaver/orbweaver/synthesis/Diagrams" (47 : Nat) "com/example/orbweaver/orbweaver/synthesis/Diagrams" "low" "[I")).before a0 Z = true := hw _ (List.mem_of_getElem? (i := 38) rfl)
theorem own_w39 {Z : State} {a0 : Array Value} (hw : ∀ d ∈ tables_1, d.before a0 Z = true) : ((Jvm.Cond.lays "com/example/orbweaver/orbweaver/synthesis/Diagrams" "com/example/orbweaver/orbweaver/synthesis/Diagrams" "low" "[I")).before a0 Z = true := hw _ (List.mem_of_getElem? (i := 39) rfl)
theorem own_w40 {Z : State} {a0 : Array Value} (hw : ∀ d ∈ tables_1, d.before a0 Z = true) : ((Jvm.Cond.fieldLink "com/example/orbweaver/orbweaver/synthesis/Diagrams" (50 : Nat) "com/example/orbweaver/orbweaver/synthesis/Diagrams" "high" "[I")).before a0 Z = true := hw _ (List.mem_of_getElem? (i := 40) rfl)
theorem own_w41 {Z : State} {a0 : Array Value} (hw : ∀ d ∈ tables_1, d.before a0 Z = true) : ((Jvm.Cond.lays "com/example/orbweaver/orbweaver/synthesis/Diagrams" "com/example/orbweaver/orbweaver/synthesis/Diagrams" "high" "[I")).before a0 Z = true := hw _ (List.mem_of_getElem? (i := 41) rfl)
theorem own_w42 {Z : State} {a0 : Array Value} (hw : ∀ d ∈ tables_1, d.before a0 Z = true) : ((Jvm.Cond.fieldLink "com/example/orbweaver/orbweaver/synthesis/Diagrams" (53 : Nat) "com/example/orbweaver/orbweaver/synthesis/Diagrams" "size" "I")).before a0 Z = true := hw _ (List.mem_of_getElem? (i := 42) rfl)
theorem own_w43 {Z : State} {a0 : Array Value} (hw : ∀ d ∈ tables_1, d.before a0 Z = true) : ((Jvm.Cond.lays "com/example/orbweaver/orbweaver/synthesis/Diagrams" "com/example/orbweaver/orbweaver/synthesis/Diagrams" "size" "I")).before a0 Z = true := hw _ (List.mem_of_getElem? (i := 43) rfl)
theorem own_w44 {Z : State} {a0 : Array Value} (hw : ∀ d ∈ tables_1, d.before a0 Z = true) : ((Jvm.Cond.fieldLink "com/example/orbweaver/orbweaver/synthesis/Diagrams" (56 : Nat) "com/example/orbweaver/orbweaver/synthesis/Diagrams" "unique" "[I")).before a0 Z = true := hw _ (List.mem_of_getElem? (i := 44) rfl)
theorem own_w45 {Z : State} {a0 : Array Value} (hw : ∀ d ∈ tables_1, d.before a0 Z = true) : ((Jvm.Cond.lays "com/example/orbweaver/orbweaver/synthesis/Diagrams" "com/example/orbweaver/orbweaver/synthesis/Diagrams" "unique" "[I")).before a0 Z = true := hw _ (List.mem_of_getElem? (i := 45) rfl)
theorem own_w46 {Z : State} {a0 : Array Value} (hw : ∀ d ∈ tables_1, d.before a0 Z = true) : ((Jvm.Cond.fieldLink "com/example/orbweaver/orbweaver/synthesis/Diagrams" (59 : Nat) "com/example/orbweaver/orbweaver/synthesis/Diagrams" "cache" "[I")).before a0 Z = true := hw _ (List.mem_of_getElem? (i := 46) rfl)
theorem own_w47 {Z : State} {a0 : Array Value} (hw : ∀ d ∈ tables_1, d.before a0 Z = true) : ((Jvm.Cond.lays "com/example/orbweaver/orbweaver/synthesis/Diagrams" "com/example/orbweaver/orbweaver/synthesis/Diagrams" "cache" "[I")).before a0 Z = true := hw _ (List.mem_of_getElem? (i := 47) rfl)
theorem own_w48 {Z : State} {a0 : Array Value} (hw : ∀ d ∈ tables_1, d.before a0 Z = true) : ((Jvm.Cond.methodLink "com/example/orbweaver/orbweaver/synthesis/Diagrams" (62 : Nat) ({ cls := "java/util/Arrays", name := "fill", desc := "([II)V" } : Jvm.MethodName))).before a0 Z = true := hw _ (List.mem_of_getElem? (i := 48) rfl)
theorem own_w49 {Z : State} {a0 : Array Value} (hw : ∀ d ∈ tables_1, d.before a0 Z = true) : ((Jvm.Cond.static ({ cls := "java/util/Arrays", name := "fill", desc := "([II)V" } : Jvm.MethodName))).before a0 Z = true := hw _ (List.mem_of_getElem? (i := 49) rfl)
theorem own_w50 {Z : State} {a0 : Array Value} (hw : ∀ d ∈ tables_1, d.before a0 Z = true) : ((Jvm.Cond.initialized "java/util/Arrays")).before a0 Z = true := hw _ (List.mem_of_getElem? (i := 50) rfl)
theorem own_w51 {Z : State} {a0 : Array Value} (hw : ∀ d ∈ tables_1, d.before a0 Z = true) : ((Jvm.Cond.code ({ cls := "java/util/Arrays", name := "fill", desc := "([II)V" } : Jvm.MethodName) jdk_65_method_103_code (4 : Nat) (Option.none : Option Jvm.ClassFile.FieldType))).before a0 Z = true := hw _ (List.mem_of_getElem? (i := 51) rfl)
theorem own_w52 {Z : State} {a0 : Array Value} (hw : ∀ d ∈ tables_1, d.before a0 Z = true) : ((Jvm.Cond.methodLink "com/example/orbweaver/orbweaver/synthesis/DiagramsGivenPinLaw" (12 : Nat) ({ cls := "com/example/orbweaver/orbweaver/synthesis/Diagrams", name := "variable", desc := "(I)I" } : Jvm.MethodName))).before a0 Z = true := hw _ (List.mem_of_getElem? (i := 52) rfl)
theorem own_w53 {Z : State} {a0 : Array Value} (hw : ∀ d ∈ tables_1, d.before a0 Z = true) : ((Jvm.Cond.declares ({ cls := "com/example/orbweaver/orbweaver/synthesis/Diagrams", name := "variable", desc := "(I)I" } : Jvm.MethodName))).before a0 Z = true := hw _ (List.mem_of_getElem? (i := 53) rfl)
theorem own_w54 {Z : State} {a0 : Array Value} (hw : ∀ d ∈ tables_1, d.before a0 Z = true) : ((Jvm.Cond.instanceMethod ({ cls := "com/example/orbweaver/orbweaver/synthesis/Diagrams", name := "variable", desc := "(I)I" } : Jvm.MethodName))).before a0 Z = true := hw _ (List.mem_of_getElem? (i := 54) rfl)
theorem own_w55 {Z : State} {a0 : Array Value} (hw : ∀ d ∈ tables_1, d.before a0 Z = true) : ((Jvm.Cond.selects "com/example/orbweaver/orbweaver/synthesis/Diagrams" ({ cls := "com/example/orbweaver/orbweaver/synthesis/Diagrams", name := "variable", desc := "(I)I" } : Jvm.MethodName) ({ cls := "com/example/orbweaver/orbweaver/synthesis/Diagrams", name := "variable", desc := "(I)I" } : Jvm.MethodName))).before a0 Z = true := hw _ (List.mem_of_getElem? (i := 55) rfl)
theorem own_w56 {Z : State} {a0 : Array Value} (hw : ∀ d ∈ tables_1, d.before a0 Z = true) : ((Jvm.Cond.code ({ cls := "com/example/orbweaver/orbweaver/synthesis/Diagrams", name := "variable", desc := "(I)I" } : Jvm.MethodName) prog_81_method_8_code (2 : Nat) (Option.some Jvm.ClassFile.FieldType.int))).before a0 Z = true := hw _ (List.mem_of_getElem? (i := 56) rfl)
theorem own_w57 {Z : State} {a0 : Array Value} (hw : ∀ d ∈ tables_1, d.before a0 Z = true) : ((Jvm.Cond.methodLink "com/example/orbweaver/orbweaver/synthesis/Diagrams" (79 : Nat) ({ cls := "com/example/orbweaver/orbweaver/synthesis/Diagrams", name := "node", desc := "(III)I" } : Jvm.MethodName))).before a0 Z = true := hw _ (List.mem_of_getElem? (i := 57) rfl)
theorem own_w58 {Z : State} {a0 : Array Value} (hw : ∀ d ∈ tables_1, d.before a0 Z = true) : ((Jvm.Cond.instanceMethod ({ cls := "com/example/orbweaver/orbweaver/synthesis/Diagrams", name := "node", desc := "(III)I" } : Jvm.MethodName))).before a0 Z = true := hw _ (List.mem_of_getElem? (i := 58) rfl)
theorem own_w59 {Z : State} {a0 : Array Value} (hw : ∀ d ∈ tables_1, d.before a0 Z = true) : ((Jvm.Cond.privateMethod ({ cls := "com/example/orbweaver/orbweaver/synthesis/Diagrams", name := "node", desc := "(III)I" } : Jvm.MethodName))).before a0 Z = true := hw _ (List.mem_of_getElem? (i := 59) rfl)
theorem own_w60 {Z : State} {a0 : Array Value} (hw : ∀ d ∈ tables_1, d.before a0 Z = true) : ((Jvm.Cond.code ({ cls := "com/example/orbweaver/orbweaver/synthesis/Diagrams", name := "node", desc := "(III)I" } : Jvm.MethodName) prog_81_method_32_code (7 : Nat) (Option.some Jvm.ClassFile.FieldType.int))).before a0 Z = true := hw _ (List.mem_of_getElem? (i := 60) rfl)
theorem own_w61 {Z : State} {a0 : Array Value} (hw : ∀ d ∈ tables_1, d.before a0 Z = true) : ((Jvm.Cond.methodLink "com/example/orbweaver/orbweaver/synthesis/Diagrams" (251 : Nat) ({ cls := "com/example/orbweaver/orbweaver/synthesis/Diagrams", name := "hash", desc := "(III)I" } : Jvm.MethodName))).before a0 Z = true := hw _ (List.mem_of_getElem? (i := 61) rfl)
theorem own_w62 {Z : State} {a0 : Array Value} (hw : ∀ d ∈ tables_1, d.before a0 Z = true) : ((Jvm.Cond.static ({ cls := "com/example/orbweaver/orbweaver/synthesis/Diagrams", name := "hash", desc := "(III)I" } : Jvm.MethodName))).before a0 Z = true := hw _ (List.mem_of_getElem? (i := 62) rfl)
theorem own_w63 {Z : State} {a0 : Array Value} (hw : ∀ d ∈ tables_1, d.before a0 Z = true) : ((Jvm.Cond.code ({ cls := "com/example/orbweaver/orbweaver/synthesis/Diagrams", name := "hash", desc := "(III)I" } : Jvm.MethodName) prog_81_method_34_code (4 : Nat) (Option.some Jvm.ClassFile.FieldType.int))).before a0 Z = true := hw _ (List.mem_of_getElem? (i := 63) rfl)
theorem own_w64 {Z : State} {a0 : Array Value} (hw : ∀ d ∈ tables_1, d.before a0 Z = true) : ((Jvm.Cond.constant "com/example/orbweaver/orbweaver/synthesis/Diagrams" (259 : Nat) (-1640531535 : Int32))).before a0 Z = true := hw _ (List.mem_of_getElem? (i := 64) rfl)
theorem own_w65 {Z : State} {a0 : Array Value} (hw : ∀ d ∈ tables_1, d.before a0 Z = true) : ((Jvm.Cond.constant "com/example/orbweaver/orbweaver/synthesis/Diagrams" (260 : Nat) (-2048144777 : Int32))).before a0 Z = true := hw _ (List.mem_of_getElem? (i := 65) rfl)
theorem own_w66 {Z : State} {a0 : Array Value} (hw : ∀ d ∈ tables_1, d.before a0 Z = true) : ((Jvm.Cond.methodLink "com/example/orbweaver/orbweaver/synthesis/DiagramsGivenPinLaw" (16 : Nat) ({ cls := "com/example/orbweaver/orbweaver/synthesis/DiagramsGivenPinLaw", name := "combine", desc := "(Lcom/example/orbweaver/orbweaver/synthesis/Diagrams;III)I" } : Jvm.MethodName))).before a0 Z = true := hw _ (List.mem_of_getElem? (i := 66) rfl)
theorem own_w67 {Z : State} {a0 : Array Value} (hw : ∀ d ∈ tables_1, d.before a0 Z = true) : ((Jvm.Cond.static ({ cls := "com/example/orbweaver/orbweaver/synthesis/DiagramsGivenPinLaw", name := "combine", desc := "(Lcom/example/orbweaver/orbweaver/synthesis/Diagrams;III)I" } : Jvm.MethodName))).before a0 Z = true := hw _ (List.mem_of_getElem? (i := 67) rfl)
theorem own_w68 {Z : State} {a0 : Array Value} (hw : ∀ d ∈ tables_1, d.before a0 Z = true) : ((Jvm.Cond.initialized "com/example/orbweaver/orbweaver/synthesis/DiagramsGivenPinLaw")).before a0 Z = true := hw _ (List.mem_of_getElem? (i := 68) rfl)
theorem own_w69 {Z : State} {a0 : Array Value} (hw : ∀ d ∈ tables_1, d.before a0 Z = true) : ((Jvm.Cond.code ({ cls := "com/example/orbweaver/orbweaver/synthesis/DiagramsGivenPinLaw", name := "combine", desc := "(Lcom/example/orbweaver/orbweaver/synthesis/Diagrams;III)I" } : Jvm.MethodName) method_3_code (4 : Nat) (Option.some Jvm.ClassFile.FieldType.int))).before a0 Z = true := hw _ (List.mem_of_getElem? (i := 69) rfl)
theorem own_w70 {Z : State} {a0 : Array Value} (hw : ∀ d ∈ tables_1, d.before a0 Z = true) : ((Jvm.Cond.methodLink "com/example/orbweaver/orbweaver/synthesis/DiagramsGivenPinLaw" (38 : Nat) ({ cls := "com/example/orbweaver/orbweaver/synthesis/Diagrams", name := "and", desc := "(II)I" } : Jvm.MethodName))).before a0 Z = true := hw _ (List.mem_of_getElem? (i := 70) rfl)
theorem own_w71 {Z : State} {a0 : Array Value} (hw : ∀ d ∈ tables_1, d.before a0 Z = true) : ((Jvm.Cond.declares ({ cls := "com/example/orbweaver/orbweaver/synthesis/Diagrams", name := "and", desc := "(II)I" } : Jvm.MethodName))).before a0 Z = true := hw _ (List.mem_of_getElem? (i := 71) rfl)
theorem own_w72 {Z : State} {a0 : Array Value} (hw : ∀ d ∈ tables_1, d.before a0 Z = true) : ((Jvm.Cond.instanceMethod ({ cls := "com/example/orbweaver/orbweaver/synthesis/Diagrams", name := "and", desc := "(II)I" } : Jvm.MethodName))).before a0 Z = true := hw _ (List.mem_of_getElem? (i := 72) rfl)
theorem own_w73 {Z : State} {a0 : Array Value} (hw : ∀ d ∈ tables_1, d.before a0 Z = true) : ((Jvm.Cond.selects "com/example/orbweaver/orbweaver/synthesis/Diagrams" ({ cls := "com/example/orbweaver/orbweaver/synthesis/Diagrams", name := "and", desc := "(II)I" } : Jvm.MethodName) ({ cls := "com/example/orbweaver/orbweaver/synthesis/Diagrams", name := "and", desc := "(II)I" } : Jvm.MethodName))).before a0 Z = true := hw _ (List.mem_of_getElem? (i := 73) rfl)
theorem own_w74 {Z : State} {a0 : Array Value} (hw : ∀ d ∈ tables_1, d.before a0 Z = true) : ((Jvm.Cond.code ({ cls := "com/example/orbweaver/orbweaver/synthesis/Diagrams", name := "and", desc := "(II)I" } : Jvm.MethodName) prog_81_method_10_code (3 : Nat) (Option.some Jvm.ClassFile.FieldType.int))).before a0 Z = true := hw _ (List.mem_of_getElem? (i := 74) rfl)
theorem own_w75 {Z : State} {a0 : Array Value} (hw : ∀ d ∈ tables_1, d.before a0 Z = true) : ((Jvm.Cond.methodLink "com/example/orbweaver/orbweaver/synthesis/Diagrams" (87 : Nat) ({ cls := "com/example/orbweaver/orbweaver/synthesis/Diagrams", name := "apply", desc := "(III)I" } : Jvm.MethodName))).before a0 Z = true := hw _ (List.mem_of_getElem? (i := 75) rfl)
theorem own_w76 {Z : State} {a0 : Array Value} (hw : ∀ d ∈ tables_1, d.before a0 Z = true) : ((Jvm.Cond.instanceMethod ({ cls := "com/example/orbweaver/orbweaver/synthesis/Diagrams", name := "apply", desc := "(III)I" } : Jvm.MethodName))).before a0 Z = true := hw _ (List.mem_of_getElem? (i := 76) rfl)
theorem own_w77 {Z : State} {a0 : Array Value} (hw : ∀ d ∈ tables_1, d.before a0 Z = true) : ((Jvm.Cond.privateMethod ({ cls := "com/example/orbweaver/orbweaver/synthesis/Diagrams", name := "apply", desc := "(III)I" } : Jvm.MethodName))).before a0 Z = true := hw _ (List.mem_of_getElem? (i := 77) rfl)
theorem own_w78 {Z : State} {a0 : Array Value} (hw : ∀ d ∈ tables_1, d.before a0 Z = true) : ((Jvm.Cond.code ({ cls := "com/example/orbweaver/orbweaver/synthesis/Diagrams", name := "apply", desc := "(III)I" } : Jvm.MethodName) prog_81_method_15_code (13 : Nat) (Option.some Jvm.ClassFile.FieldType.int))).before a0 Z = true := hw _ (List.mem_of_getElem? (i := 78) rfl)
theorem own_w79 {Z : State} {a0 : Array Value} (hw : ∀ d ∈ tables_1, d.before a0 Z = true) : ((Jvm.Cond.methodLink "com/example/orbweaver/orbweaver/synthesis/Diagrams" (97 : Nat) ({ cls := "com/example/orbweaver/orbweaver/synthesis/Diagrams", name := "push", desc := "(IIIIII)I" } : Jvm.MethodName))).before a0 Z = true := hw _ (List.mem_of_getElem? (i := 79) rfl)
theorem own_w80 {Z : State} {a0 : Array Value} (hw : ∀ d ∈ tables_1, d.before a0 Z = true) : ((Jvm.Cond.instanceMethod ({ cls := "com/example/orbweaver/orbweaver/synthesis/Diagrams", name := "push", desc := "(IIIIII)I" } : Jvm.MethodName))).before a0 Z = true := hw _ (List.mem_of_getElem? (i := 80) rfl)
theorem own_w81 {Z : State} {a0 : Array Value} (hw : ∀ d ∈ tables_1, d.before a0 Z = true) : ((Jvm.Cond.privateMethod ({ cls := "com/example/orbweaver/orbweaver/synthesis/Diagrams", name := "push", desc := "(IIIIII)I" } : Jvm.MethodName))).before a0 Z = true := hw _ (List.mem_of_getElem? (i := 81) rfl)
theorem own_w82 {Z : State} {a0 : Array Value} (hw : ∀ d ∈ tables_1, d.before a0 Z = true) : ((Jvm.Cond.code ({ cls := "com/example/orbweaver/orbweaver/synthesis/Diagrams", name := "push", desc := "(IIIIII)I" } : Jvm.MethodName) prog_81_method_17_code (7 : Nat) (Option.some Jvm.ClassFile.FieldType.int))).before a0 Z = true := hw _ (List.mem_of_getElem? (i := 82) rfl)
theorem own_w83 {Z : State} {a0 : Array Value} (hw : ∀ d ∈ tables_1, d.before a0 Z = true) : ((Jvm.Cond.methodLink "com/example/orbweaver/orbweaver/synthesis/Diagrams" (101 : Nat) ({ cls := "com/example/orbweaver/orbweaver/synthesis/Diagrams", name := "decided", desc := "(III)I" } : Jvm.MethodName))).before a0 Z = true := hw _ (List.mem_of_getElem? (i := 83) rfl)
theorem own_w84 {Z : State} {a0 : Array Value} (hw : ∀ d ∈ tables_1, d.before a0 Z = true) : ((Jvm.Cond.instanceMethod ({ cls := "com/example/orbweaver/orbweaver/synthesis/Diagrams", name := "decided", desc := "(III)I" } : Jvm.MethodName))).before a0 Z = true := hw _ (List.mem_of_getElem? (i := 84) rfl)
theorem own_w85 {Z : State} {a0 : Array Value} (hw : ∀ d ∈ tables_1, d.before a0 Z = true) : ((Jvm.Cond.privateMethod ({ cls := "com/example/orbweaver/orbweaver/synthesis/Diagrams", name := "decided", desc := "(III)I" } : Jvm.MethodName))).before a0 Z = true := hw _ (List.mem_of_getElem? (i := 85) rfl)
theorem own_w86 {Z : State} {a0 : Array Value} (hw : ∀ d ∈ tables_1, d.before a0 Z = true) : ((Jvm.Cond.code ({ cls := "com/example/orbweaver/orbweaver/synthesis/Diagrams", name := "decided", desc := "(III)I" } : Jvm.MethodName) prog_81_method_18_code (6 : Nat) (Option.some Jvm.ClassFile.FieldType.int))).before a0 Z = true := hw _ (List.mem_of_getElem? (i := 86) rfl)
theorem own_w87 {Z : State} {a0 : Array Value} (hw : ∀ d ∈ tables_1, d.before a0 Z = true) : ((Jvm.Cond.methodLink "com/example/orbweaver/orbweaver/synthesis/DiagramsGivenPinLaw" (22 : Nat) ({ cls := "com/example/orbweaver/orbweaver/synthesis/Diagrams", name := "given", desc := "(I[Z)I" } : Jvm.MethodName))).before a0 Z = true := hw _ (List.mem_of_getElem? (i := 87) rfl)
theorem own_w88 {Z : State} {a0 : Array Value} (hw : ∀ d ∈ tables_1, d.before a0 Z = true) : ((Jvm.Cond.declares ({ cls := "com/example/orbweaver/orbweaver/synthesis/Diagrams", name := "given", desc := "(I[Z)I" } : Jvm.MethodName))).before a0 Z = true := hw _ (List.mem_of_getElem? (i := 88) rfl)
theorem own_w89 {Z : State} {a0 : Array Value} (hw : ∀ d ∈ tables_1, d.before a0 Z = true) : ((Jvm.Cond.instanceMethod ({ cls := "com/example/orbweaver/orbweaver/synthesis/Diagrams", name := "given", desc := "(I[Z)I" } : Jvm.MethodName))).before a0 Z = true := hw _ (List.mem_of_getElem? (i := 89) rfl)
theorem own_w90 {Z : State} {a0 : Array Value} (hw : ∀ d ∈ tables_1, d.before a0 Z = true) : ((Jvm.Cond.selects "com/example/orbweaver/orbweaver/synthesis/Diagrams" ({ cls := "com/example/orbweaver/orbweaver/synthesis/Diagrams", name := "given", desc := "(I[Z)I" } : Jvm.MethodName) ({ cls := "com/example/orbweaver/orbweaver/synthesis/Diagrams", name := "given", desc := "(I[Z)I" } : Jvm.MethodName))).before a0 Z = true := hw _ (List.mem_of_getElem? (i := 90) rfl)
theorem own_w91 {Z : State} {a0 : Array Value} (hw : ∀ d ∈ tables_1, d.before a0 Z = true) : ((Jvm.Cond.code ({ cls := "com/example/orbweaver/orbweaver/synthesis/Diagrams", name := "given", desc := "(I[Z)I" } : Jvm.MethodName) prog_81_method_28_code (4 : Nat) (Option.some Jvm.ClassFile.FieldType.int))).before a0 Z = true := hw _ (List.mem_of_getElem? (i := 91) rfl)
theorem own_w92 {Z : State} {a0 : Array Value} (hw : ∀ d ∈ tables_1, d.before a0 Z = true) : ((Jvm.Cond.methodLink "com/example/orbweaver/orbweaver/synthesis/DiagramsGivenPinLaw" (26 : Nat) ({ cls := "com/example/orbweaver/orbweaver/synthesis/Diagrams", name := "holds", desc := "(I[Z)Z" } : Jvm.MethodName))).before a0 Z = true := hw _ (List.mem_of_getElem? (i := 92) rfl)
theorem own_w93 {Z : State} {a0 : Array Value} (hw : ∀ d ∈ tables_1, d.before a0 Z = true) : ((Jvm.Cond.declares ({ cls := "com/example/orbweaver/orbweaver/synthesis/Diagrams", name := "holds", desc := "(I[Z)Z" } : Jvm.MethodName))).before a0 Z = true := hw _ (List.mem_of_getElem? (i := 93) rfl)
theorem own_w94 {Z : State} {a0 : Array Value} (hw : ∀ d ∈ tables_1, d.before a0 Z = true) : ((Jvm.Cond.instanceMethod ({ cls := "com/example/orbweaver/orbweaver/synthesis/Diagrams", name := "holds", desc := "(I[Z)Z" } : Jvm.MethodName))).before a0 Z = true := hw _ (List.mem_of_getElem? (i := 94) rfl)
theorem own_w95 {Z : State} {a0 : Array Value} (hw : ∀ d ∈ tables_1, d.before a0 Z = true) : ((Jvm.Cond.selects "com/example/orbweaver/orbweaver/synthesis/Diagrams" ({ cls := "com/example/orbweaver/orbweaver/synthesis/Diagrams", name := "holds", desc := "(I[Z)Z" } : Jvm.MethodName) ({ cls := "com/example/orbweaver/orbweaver/synthesis/Diagrams", name := "holds", desc := "(I[Z)Z" } : Jvm.MethodName))).before a0 Z = true := hw _ (List.mem_of_getElem? (i := 95) rfl)
theorem own_w96 {Z : State} {a0 : Array Value} (hw : ∀ d ∈ tables_1, d.before a0 Z = true) : ((Jvm.Cond.code ({ cls := "com/example/orbweaver/orbweaver/synthesis/Diagrams", name := "holds", desc := "(I[Z)Z" } : Jvm.MethodName) prog_81_method_29_code (4 : Nat) (Option.some Jvm.ClassFile.FieldType.boolean))).before a0 Z = true := hw _ (List.mem_of_getElem? (i := 96) rfl)
theorem own_w97 {Z : State} {a0 : Array Value} (hw : ∀ d ∈ tables_1, d.before a0 Z = true) : ((Jvm.Cond.methodLink "com/example/orbweaver/orbweaver/synthesis/DiagramsGivenPinLaw" (30 : Nat) ({ cls := "com/example/orbweaver/orbweaver/synthesis/DiagramsGivenPinLaw", name := "pick", desc := "(IZZZ)Z" } : Jvm.MethodName))).before a0 Z = true := hw _ (List.mem_of_getElem? (i := 97) rfl)
theorem own_w98 {Z : State} {a0 : Array Value} (hw : ∀ d ∈ tables_1, d.before a0 Z = true) : ((Jvm.Cond.static ({ cls := "com/example/orbweaver/orbweaver/synthesis/DiagramsGivenPinLaw", name := "pick", desc := "(IZZZ)Z" } : Jvm.MethodName))).before a0 Z = true := hw _ (List.mem_of_getElem? (i := 98) rfl)
theorem own_w99 {Z : State} {a0 : Array Value} (hw : ∀ d ∈ tables_1, d.before a0 Z = true) : ((Jvm.Cond.code ({ cls := "com/example/orbweaver/orbweaver/synthesis/DiagramsGivenPinLaw", name := "pick", desc := "(IZZZ)Z" } : Jvm.MethodName) method_5_code (4 : Nat) (Option.some Jvm.ClassFile.FieldType.boolean))).before a0 Z = true := hw _ (List.mem_of_getElem? (i := 99) rfl)
theorem own_w100 {Z : State} {a0 : Array Value} (hw : ∀ d ∈ tables_1, d.before a0 Z = true) : ((Jvm.Cond.methodLink "com/example/orbweaver/orbweaver/synthesis/DiagramsGivenPinLaw" (34 : Nat) ({ cls := "com/example/orbweaver/orbweaver/synthesis/DiagramsGivenPinLaw", name := "op", desc := "(IZZ)Z" } : Jvm.MethodName))).before a0 Z = true := hw _ (List.mem_of_getElem? (i := 100) rfl)
theorem own_w101 {Z : State} {a0 : Array Value} (hw : ∀ d ∈ tables_1, d.before a0 Z = true) : ((Jvm.Cond.static ({ cls := "com/example/orbweaver/orbweaver/synthesis/DiagramsGivenPinLaw", name := "op", desc := "(IZZ)Z" } : Jvm.MethodName))).before a0 Z = true := hw _ (List.mem_of_getElem? (i := 101) rfl)
theorem own_w102 {Z : State} {a0 : Array Value} (hw : ∀ d ∈ tables_1, d.before a0 Z = true) : ((Jvm.Cond.code ({ cls := "com/example/orbweaver/orbweaver/synthesis/DiagramsGivenPinLaw", name := "op", desc := "(IZZ)Z" } : Jvm.MethodName) method_4_code (3 : Nat) (Option.some Jvm.ClassFile.FieldType.boolean))).before a0 Z = true := hw _ (List.mem_of_getElem? (i := 102) rfl)
theorem own_w103 {Z : State} {a0 : Array Value} (hw : ∀ d ∈ tables_1, d.before a0 Z = true) : ((Jvm.Cond.methodLink "com/example/orbweaver/orbweaver/synthesis/DiagramsGivenPinLaw" (42 : Nat) ({ cls := "com/example/orbweaver/orbweaver/synthesis/Diagrams", name := "or", desc := "(II)I" } : Jvm.MethodName))).before a0 Z = true := hw _ (List.mem_of_getElem? (i := 103) rfl)
theorem own_w104 {Z : State} {a0 : Array Value} (hw : ∀ d ∈ tables_1, d.before a0 Z = true) : ((Jvm.Cond.declares ({ cls := "com/example/orbweaver/orbweaver/synthesis/Diagrams", name := "or", desc := "(II)I" } : Jvm.MethodName))).before a0 Z = true := hw _ (List.mem_of_getElem? (i := 104) rfl)
theorem own_w105 {Z : State} {a0 : Array Value} (hw : ∀ d ∈ tables_1, d.before a0 Z = true) : ((Jvm.Cond.instanceMethod ({ cls := "com/example/orbweaver/orbweaver/synthesis/Diagrams", name := "or", desc := "(II)I" } : Jvm.MethodName))).before a0 Z = true := hw _ (List.mem_of_getElem? (i := 105) rfl)
theorem own_w106 {Z : State} {a0 : Array Value} (hw : ∀ d ∈ tables_1, d.before a0 Z = true) : ((Jvm.Cond.selects "com/example/orbweaver/orbweaver/synthesis/Diagrams" ({ cls := "com/example/orbweaver/orbweaver/synthesis/Diagrams", name := "or", desc := "(II)I" } : Jvm.MethodName) ({ cls := "com/example/orbweaver/orbweaver/synthesis/Diagrams", name := "or", desc := "(II)I" } : Jvm.MethodName))).before a0 Z = true := hw _ (List.mem_of_getElem? (i := 106) rfl)
theorem own_w107 {Z : State} {a0 : Array Value} (hw : ∀ d ∈ tables_1, d.before a0 Z = true) : ((Jvm.Cond.code ({ cls := "com/example/orbweaver/orbweaver/synthesis/Diagrams", name := "or", desc := "(II)I" } : Jvm.MethodName) prog_81_method_11_code (3 : Nat) (Option.some Jvm.ClassFile.FieldType.int))).before a0 Z = true := hw _ (List.mem_of_getElem? (i := 107) rfl)
theorem own_w108 {Z : State} {a0 : Array Value} (hw : ∀ d ∈ tables_1, d.before a0 Z = true) : ((Jvm.Cond.methodLink "com/example/orbweaver/orbweaver/synthesis/Diagrams" (104 : Nat) ({ cls := "com/example/orbweaver/orbweaver/synthesis/Diagrams", name := "cached", desc := "(III)I" } : Jvm.MethodName))).before a0 Z = true := hw _ (List.mem_of_getElem? (i := 108) rfl)
theorem own_w109 {Z : State} {a0 : Array Value} (hw : ∀ d ∈ tables_1, d.before a0 Z = true) : ((Jvm.Cond.instanceMethod ({ cls := "com/example/orbweaver/orbweaver/synthesis/Diagrams", name := "cached", desc := "(III)I" } : Jvm.MethodName))).before a0 Z = true := hw _ (List.mem_of_getElem? (i := 109) rfl)
theorem own_w110 {Z : State} {a0 : Array Value} (hw : ∀ d ∈ tables_1, d.before a0 Z = true) : ((Jvm.Cond.privateMethod ({ cls := "com/example/orbweaver/orbweaver/synthesis/Diagrams", name := "cached", desc := "(III)I" } : Jvm.MethodName))).before a0 Z = true := hw _ (List.mem_of_getElem? (i := 110) rfl)
theorem own_w111 {Z : State} {a0 : Array Value} (hw : ∀ d ∈ tables_1, d.before a0 Z = true) : ((Jvm.Cond.code ({ cls := "com/example/orbweaver/orbweaver/synthesis/Diagrams", name := "cached", desc := "(III)I" } : Jvm.MethodName) prog_81_method_35_code (6 : Nat) (Option.some Jvm.ClassFile.FieldType.int))).before a0 Z = true := hw _ (List.mem_of_getElem? (i := 111) rfl)
theorem own_w112 {Z : State} {a0 : Array Value} (hw : ∀ d ∈ tables_1, d.before a0 Z = true) : ((Jvm.Cond.methodLink "com/example/orbweaver/orbweaver/synthesis/Diagrams" (107 : Nat) ({ cls := "com/example/orbweaver/orbweaver/synthesis/Diagrams", name := "descend", desc := "(IIII)I" } : Jvm.MethodName))).before a0 Z = true := hw _ (List.mem_of_getElem? (i := 112) rfl)
theorem own_w113 {Z : State} {a0 : Array Value} (hw : ∀ d ∈ tables_1, d.before a0 Z = true) : ((Jvm.Cond.instanceMethod ({ cls := "com/example/orbweaver/orbweaver/synthesis/Diagrams", name := "descend", desc := "(IIII)I" } : Jvm.MethodName))).before a0 Z = true := hw _ (List.mem_of_getElem? (i := 113) rfl)
theorem own_w114 {Z : State} {a0 : Array Value} (hw : ∀ d ∈ tables_1, d.before a0 Z = true) : ((Jvm.Cond.privateMethod ({ cls := "com/example/orbweaver/orbweaver/synthesis/Diagrams", name := "descend", desc := "(IIII)I" } : Jvm.MethodName))).before a0 Z = true := hw _ (List.mem_of_getElem? (i := 114) rfl)
theorem own_w115 {Z : State} {a0 : Array Value} (hw : ∀ d ∈ tables_1, d.before a0 Z = true) : ((Jvm.Cond.code ({ cls := "com/example/orbweaver/orbweaver/synthesis/Diagrams", name := "descend", desc := "(IIII)I" } : Jvm.MethodName) prog_81_method_16_code (13 : Nat) (Option.some Jvm.ClassFile.FieldType.int))).before a0 Z = true := hw _ (List.mem_of_getElem? (i := 115) rfl)
theorem own_w116 {Z : State} {a0 : Array Value} (hw : ∀ d ∈ tables_1, d.before a0 Z = true) : ((Jvm.Cond.methodLink "com/example/orbweaver/orbweaver/synthesis/Diagrams" (118 : Nat) ({ cls := "java/lang/Math", name := "min", desc := "(II)I" } : Jvm.MethodName))).before a0 Z = true := hw _ (List.mem_of_getElem? (i := 116) rfl)
theorem own_w117 {Z : State} {a0 : Array Value} (hw : ∀ d ∈ tables_1, d.before a0 Z = true) : ((Jvm.Cond.static ({ cls := "java/lang/Math", name := "min", desc := "(II)I" } : Jvm.MethodName))).before a0 Z = true := hw _ (List.mem_of_getElem? (i := 117) rfl)
theorem own_w118 {Z : State} {a0 : Array Value} (hw : ∀ d ∈ tables_1, d.before a0 Z = true) : ((Jvm.Cond.initialized "java/lang/Math")).before a0 Z = true := hw _ (List.mem_of_getElem? (i := 118) rfl)
theorem own_w119 {Z : State} {a0 : Array Value} (hw : ∀ d ∈ tables_1, d.before a0 Z = true) : ((Jvm.Cond.code ({ cls := "java/lang/Math", name := "min", desc := "(II)I" } : Jvm.MethodName) jdk_29_method_69_code (2 : Nat) (Option.some Jvm.ClassFile.FieldType.int))).before a0 Z = true := hw _ (List.mem_of_getElem? (i := 119) rfl)
theorem own_w120 {Z : State} {a0 : Array Value} (hw : ∀ d ∈ tables_1, d.before a0 Z = true) : ((Jvm.Cond.methodLink "com/example/orbweaver/orbweaver/synthesis/Diagrams" (123 : Nat) ({ cls := "com/example/orbweaver/orbweaver/synthesis/Diagrams", name := "cofactor", desc := "(IIZ)I" } : Jvm.MethodName))).before a0 Z = true := hw _ (List.mem_of_getElem? (i := 120) rfl)
theorem own_w121 {Z : State} {a0 : Array Value} (hw : ∀ d ∈ tables_1, d.before a0 Z = true) : ((Jvm.Cond.instanceMethod ({ cls := "com/example/orbweaver/orbweaver/synthesis/Diagrams", name := "cofactor", desc := "(IIZ)I" } : Jvm.MethodName))).before a0 Z = true := hw _ (List.mem_of_getElem? (i := 121) rfl)
theorem own_w122 {Z : State} {a0 : Array Value} (hw : ∀ d ∈ tables_1, d.before a0 Z = true) : ((Jvm.Cond.privateMethod ({ cls := "com/example/orbweaver/orbweaver/synthesis/Diagrams", name := "cofactor", desc := "(IIZ)I" } : Jvm.MethodName))).before a0 Z = true := hw _ (List.mem_of_getElem? (i := 122) rfl)
theorem own_w123 {Z : State} {a0 : Array Value} (hw : ∀ d ∈ tables_1, d.before a0 Z = true) : ((Jvm.Cond.code ({ cls := "com/example/orbweaver/orbweaver/synthesis/Diagrams", name := "cofactor", desc := "(IIZ)I" } : Jvm.MethodName) prog_81_method_19_code (5 : Nat) (Option.some Jvm.ClassFile.FieldType.int))).before a0 Z = true := hw _ (List.mem_of_getElem? (i := 123) rfl)
theorem own_w124 {Z : State} {a0 : Array Value} (hw : ∀ d ∈ tables_1, d.before a0 Z = true) : ((Jvm.Cond.methodLink "com/example/orbweaver/orbweaver/synthesis/Diagrams" (111 : Nat) ({ cls := "com/example/orbweaver/orbweaver/synthesis/Diagrams", name := "remember", desc := "(IIII)V" } : Jvm.MethodName))).before a0 Z = true := hw _ (List.mem_of_getElem? (i := 124) rfl)
theorem own_w125 {Z : State} {a0 : Array Value} (hw : ∀ d ∈ tables_1, d.before a0 Z = true) : ((Jvm.Cond.instanceMethod ({ cls := "com/example/orbweaver/orbweaver/synthesis/Diagrams", name := "remember", desc := "(IIII)V" } : Jvm.MethodName))).before a0 Z = true := hw _ (List.mem_of_getElem? (i := 125) rfl)
theorem own_w126 {Z : State} {a0 : Array Value} (hw : ∀ d ∈ tables_1, d.before a0 Z = true) : ((Jvm.Cond.privateMethod ({ cls := "com/example/orbweaver/orbweaver/synthesis/Diagrams", name := "remember", desc := "(IIII)V" } : Jvm.MethodName))).before a0 Z = true := hw _ (List.mem_of_getElem? (i := 126) rfl)
theorem own_w127 {Z : State} {a0 : Array Value} (hw : ∀ d ∈ tables_1, d.before a0 Z = true) : ((Jvm.Cond.code ({ cls := "com/example/orbweaver/orbweaver/synthesis/Diagrams", name := "remember", desc := "(IIII)V" } : Jvm.MethodName) prog_81_method_36_code (6 : Nat) (Option.none : Option Jvm.ClassFile.FieldType))).before a0 Z = true := hw _ (List.mem_of_getElem? (i := 127) rfl)
theorem own_w128 {Z : State} {a0 : Array Value} (hw : ∀ d ∈ tables_1, d.before a0 Z = true) : ((Jvm.Cond.methodLink "com/example/orbweaver/orbweaver/synthesis/DiagramsGivenPinLaw" (45 : Nat) ({ cls := "com/example/orbweaver/orbweaver/synthesis/Diagrams", name := "iff", desc := "(II)I" } : Jvm.MethodName))).before a0 Z = true := hw _ (List.mem_of_getElem? (i := 128) rfl)
theorem own_w129 {Z : State} {a0 : Array Value} (hw : ∀ d ∈ tables_1, d.before a0 Z = true) : ((Jvm.Cond.declares ({ cls := "com/example/orbweaver/orbweaver/synthesis/Diagrams", name := "iff", desc := "(II)I" } : Jvm.MethodName))).before a0 Z = true := hw _ (List.mem_of_getElem? (i := 129) rfl)
theorem own_w130 {Z : State} {a0 : Array Value} (hw : ∀ d ∈ tables_1, d.before a0 Z = true) : ((Jvm.Cond.instanceMethod ({ cls := "com/example/orbweaver/orbweaver/synthesis/Diagrams", name := "iff", desc := "(II)I" } : Jvm.MethodName))).before a0 Z = true := hw _ (List.mem_of_getElem? (i := 130) rfl)
theorem own_w131 {Z : State} {a0 : Array Value} (hw : ∀ d ∈ tables_1, d.before a0 Z = true) : ((Jvm.Cond.selects "com/example/orbweaver/orbweaver/synthesis/Diagrams" ({ cls := "com/example/orbweaver/orbweaver/synthesis/Diagrams", name := "iff", desc := "(II)I" } : Jvm.MethodName) ({ cls := "com/example/orbweaver/orbweaver/synthesis/Diagrams", name := "iff", desc := "(II)I" } : Jvm.MethodName))).before a0 Z = true := hw _ (List.mem_of_getElem? (i := 131) rfl)
theorem own_w132 {Z : State} {a0 : Array Value} (hw : ∀ d ∈ tables_1, d.before a0 Z = true) : ((Jvm.Cond.code ({ cls := "com/example/orbweaver/orbweaver/synthesis/Diagrams", name := "iff", desc := "(II)I" } : Jvm.MethodName) prog_81_method_12_code (3 : Nat) (Option.some Jvm.ClassFile.FieldType.int))).before a0 Z = true := hw _ (List.mem_of_getElem? (i := 132) rfl)
theorem own_pd_0 : parseMethodDescriptor "(Lcom/example/orbweaver/orbweaver/synthesis/Diagrams;)V" = some ⟨[(.object "com/example/orbweaver/orbweaver/synthesis/Diagrams")], none⟩ := by decide +kernel
theorem own_pd_1 : parseMethodDescriptor "([II)V" = some ⟨[(.array .int), .int], none⟩ := by decide +kernel
theorem own_pd_2 : parseMethodDescriptor "(III)I" = some ⟨[.int, .int, .int], some .int⟩ := by decide +kernel
theorem own_pd_3 : parseMethodDescriptor "(IIZ)I" = some ⟨[.int, .int, .boolean], some .int⟩ := by decide +kernel
theorem own_pd_4 : parseMethodDescriptor "(IIIIII)I" = some ⟨[.int, .int, .int, .int, .int, .int], some .int⟩ := by decide +kernel
theorem own_pd_5 : parseMethodDescriptor "(II)I" = some ⟨[.int, .int], some .int⟩ := by decide +kernel
theorem own_pd_6 : parseMethodDescriptor "(IIII)I" = some ⟨[.int, .int, .int, .int], some .int⟩ := by decide +kernel
theorem own_pd_7 : parseMethodDescriptor "(IIII)V" = some ⟨[.int, .int, .int, .int], none⟩ := by decide +kernel
theorem own_pd_8 : parseMethodDescriptor "(III)V" = some ⟨[.int, .int, .int], none⟩ := by decide +kernel
theorem own_pd_9 : parseMethodDescriptor "(I)I" = some ⟨[.int], some .int⟩ := by decide +kernel
theorem own_pd_10 : parseMethodDescriptor "(Lcom/example/orbweaver/orbweaver/synthesis/Diagrams;III)I" = some ⟨[(.object "com/example/orbweaver/orbweaver/synthesis/Diagrams"), .int, .int, .int], some .int⟩ := by decide +kernel
theorem own_pd_11 : parseMethodDescriptor "(I[Z)I" = some ⟨[.int, (.array .boolean)], some .int⟩ := by decide +kernel
theorem own_pd_12 : parseMethodDescriptor "(I[Z)Z" = some ⟨[.int, (.array .boolean)], some .boolean⟩ := by decide +kernel
theorem own_pd_13 : parseMethodDescriptor "(IZZZ)Z" = some ⟨[.int, .boolean, .boolean, .boolean], some .boolean⟩ := by decide +kernel
theorem own_pd_14 : parseMethodDescriptor "(IZZ)Z" = some ⟨[.int, .boolean, .boolean], some .boolean⟩ := by decide +kernel
def own_b1 {α1 β : Type} (o : Option (α1)) (f : α1 → Option β) : Option β := o.bind fun q => f (q)
theorem own_b1_some {α1 β : Type} {o : Option (α1)} {f : α1 → Option β} {r : β} (h : own_b1 o f = some r) : ∃ a1, o = some a1 ∧ f a1 = some r := by
  cases o with
  | none => cases h
  | some q => exact ⟨q, rfl, h⟩
def own_b2 {α1 α2 β : Type} (o : Option (α1 × α2)) (f : α1 → α2 → Option β) : Option β := o.bind fun q => f (q.1) (q.2)
theorem own_b2_some {α1 α2 β : Type} {o : Option (α1 × α2)} {f : α1 → α2 → Option β} {r : β} (h : own_b2 o f = some r) : ∃ a1 a2, o = some (a1, a2) ∧ f a1 a2 = some r := by
  cases o with
  | none => cases h
  | some q => exact ⟨q.1, q.2, rfl, h⟩
def own_b3 {α1 α2 α3 β : Type} (o : Option (α1 × α2 × α3)) (f : α1 → α2 → α3 → Option β) : Option β := o.bind fun q => f (q.1) (q.2.1) (q.2.2)
theorem own_b3_some {α1 α2 α3 β : Type} {o : Option (α1 × α2 × α3)} {f : α1 → α2 → α3 → Option β} {r : β} (h : own_b3 o f = some r) : ∃ a1 a2 a3, o = some (a1, a2, a3) ∧ f a1 a2 a3 = some r := by
  cases o with
  | none => cases h
  | some q => exact ⟨q.1, q.2.1, q.2.2, rfl, h⟩
def own_b4 {α1 α2 α3 α4 β : Type} (o : Option (α1 × α2 × α3 × α4)) (f : α1 → α2 → α3 → α4 → Option β) : Option β := o.bind fun q => f (q.1) (q.2.1) (q.2.2.1) (q.2.2.2)
theorem own_b4_some {α1 α2 α3 α4 β : Type} {o : Option (α1 × α2 × α3 × α4)} {f : α1 → α2 → α3 → α4 → Option β} {r : β} (h : own_b4 o f = some r) : ∃ a1 a2 a3 a4, o = some (a1, a2, a3, a4) ∧ f a1 a2 a3 a4 = some r := by
  cases o with
  | none => cases h
  | some q => exact ⟨q.1, q.2.1, q.2.2.1, q.2.2.2, rfl, h⟩
def own_b5 {α1 α2 α3 α4 α5 β : Type} (o : Option (α1 × α2 × α3 × α4 × α5)) (f : α1 → α2 → α3 → α4 → α5 → Option β) : Option β := o.bind fun q => f (q.1) (q.2.1) (q.2.2.1) (q.2.2.2.1) (q.2.2.2.2)
theorem own_b5_some {α1 α2 α3 α4 α5 β : Type} {o : Option (α1 × α2 × α3 × α4 × α5)} {f : α1 → α2 → α3 → α4 → α5 → Option β} {r : β} (h : own_b5 o f = some r) : ∃ a1 a2 a3 a4 a5, o = some (a1, a2, a3, a4, a5) ∧ f a1 a2 a3 a4 a5 = some r := by
  cases o with
  | none => cases h
  | some q => exact ⟨q.1, q.2.1, q.2.2.1, q.2.2.2.1, q.2.2.2.2, rfl, h⟩
def own_b6 {α1 α2 α3 α4 α5 α6 β : Type} (o : Option (α1 × α2 × α3 × α4 × α5 × α6)) (f : α1 → α2 → α3 → α4 → α5 → α6 → Option β) : Option β := o.bind fun q => f (q.1) (q.2.1) (q.2.2.1) (q.2.2.2.1) (q.2.2.2.2.1) (q.2.2.2.2.2)
theorem own_b6_some {α1 α2 α3 α4 α5 α6 β : Type} {o : Option (α1 × α2 × α3 × α4 × α5 × α6)} {f : α1 → α2 → α3 → α4 → α5 → α6 → Option β} {r : β} (h : own_b6 o f = some r) : ∃ a1 a2 a3 a4 a5 a6, o = some (a1, a2, a3, a4, a5, a6) ∧ f a1 a2 a3 a4 a5 a6 = some r := by
  cases o with
  | none => cases h
  | some q => exact ⟨q.1, q.2.1, q.2.2.1, q.2.2.2.1, q.2.2.2.2.1, q.2.2.2.2.2, rfl, h⟩
def own_b7 {α1 α2 α3 α4 α5 α6 α7 β : Type} (o : Option (α1 × α2 × α3 × α4 × α5 × α6 × α7)) (f : α1 → α2 → α3 → α4 → α5 → α6 → α7 → Option β) : Option β := o.bind fun q => f (q.1) (q.2.1) (q.2.2.1) (q.2.2.2.1) (q.2.2.2.2.1) (q.2.2.2.2.2.1) (q.2.2.2.2.2.2)
theorem own_b7_some {α1 α2 α3 α4 α5 α6 α7 β : Type} {o : Option (α1 × α2 × α3 × α4 × α5 × α6 × α7)} {f : α1 → α2 → α3 → α4 → α5 → α6 → α7 → Option β} {r : β} (h : own_b7 o f = some r) : ∃ a1 a2 a3 a4 a5 a6 a7, o = some (a1, a2, a3, a4, a5, a6, a7) ∧ f a1 a2 a3 a4 a5 a6 a7 = some r := by
  cases o with
  | none => cases h
  | some q => exact ⟨q.1, q.2.1, q.2.2.1, q.2.2.2.1, q.2.2.2.2.1, q.2.2.2.2.2.1, q.2.2.2.2.2.2, rfl, h⟩
def own_b8 {α1 α2 α3 α4 α5 α6 α7 α8 β : Type} (o : Option (α1 × α2 × α3 × α4 × α5 × α6 × α7 × α8)) (f : α1 → α2 → α3 → α4 → α5 → α6 → α7 → α8 → Option β) : Option β := o.bind fun q => f (q.1) (q.2.1) (q.2.2.1) (q.2.2.2.1) (q.2.2.2.2.1) (q.2.2.2.2.2.1) (q.2.2.2.2.2.2.1) (q.2.2.2.2.2.2.2)
theorem own_b8_some {α1 α2 α3 α4 α5 α6 α7 α8 β : Type} {o : Option (α1 × α2 × α3 × α4 × α5 × α6 × α7 × α8)} {f : α1 → α2 → α3 → α4 → α5 → α6 → α7 → α8 → Option β} {r : β} (h : own_b8 o f = some r) : ∃ a1 a2 a3 a4 a5 a6 a7 a8, o = some (a1, a2, a3, a4, a5, a6, a7, a8) ∧ f a1 a2 a3 a4 a5 a6 a7 a8 = some r := by
  cases o with
  | none => cases h
  | some q => exact ⟨q.1, q.2.1, q.2.2.1, q.2.2.2.1, q.2.2.2.2.1, q.2.2.2.2.2.1, q.2.2.2.2.2.2.1, q.2.2.2.2.2.2.2, rfl, h⟩
def own_b9 {α1 α2 α3 α4 α5 α6 α7 α8 α9 β : Type} (o : Option (α1 × α2 × α3 × α4 × α5 × α6 × α7 × α8 × α9)) (f : α1 → α2 → α3 → α4 → α5 → α6 → α7 → α8 → α9 → Option β) : Option β := o.bind fun q => f (q.1) (q.2.1) (q.2.2.1) (q.2.2.2.1) (q.2.2.2.2.1) (q.2.2.2.2.2.1) (q.2.2.2.2.2.2.1) (q.2.2.2.2.2.2.2.1) (q.2.2.2.2.2.2.2.2)
theorem own_b9_mk {α1 α2 α3 α4 α5 α6 α7 α8 α9 β : Type} {f : α1 → α2 → α3 → α4 → α5 → α6 → α7 → α8 → α9 → Option β} {a1 : α1} {a2 : α2} {a3 : α3} {a4 : α4} {a5 : α5} {a6 : α6} {a7 : α7} {a8 : α8} {a9 : α9} : own_b9 (some (a1, a2, a3, a4, a5, a6, a7, a8, a9)) f = f a1 a2 a3 a4 a5 a6 a7 a8 a9 := rfl
theorem own_b9_some {α1 α2 α3 α4 α5 α6 α7 α8 α9 β : Type} {o : Option (α1 × α2 × α3 × α4 × α5 × α6 × α7 × α8 × α9)} {f : α1 → α2 → α3 → α4 → α5 → α6 → α7 → α8 → α9 → Option β} {r : β} (h : own_b9 o f = some r) : ∃ a1 a2 a3 a4 a5 a6 a7 a8 a9, o = some (a1, a2, a3, a4, a5, a6, a7, a8, a9) ∧ f a1 a2 a3 a4 a5 a6 a7 a8 a9 = some r := by
  cases o with
  | none => cases h
  | some q => exact ⟨q.1, q.2.1, q.2.2.1, q.2.2.2.1, q.2.2.2.2.1, q.2.2.2.2.2.1, q.2.2.2.2.2.2.1, q.2.2.2.2.2.2.2.1, q.2.2.2.2.2.2.2.2, rfl, h⟩
theorem own_inj9 {α1 α2 α3 α4 α5 α6 α7 α8 α9 : Type} {a1 b1 : α1} {a2 b2 : α2} {a3 b3 : α3} {a4 b4 : α4} {a5 b5 : α5} {a6 b6 : α6} {a7 b7 : α7} {a8 b8 : α8} {a9 b9 : α9} (h : some (a1, a2, a3, a4, a5, a6, a7, a8, a9) = some (b1, b2, b3, b4, b5, b6, b7, b8, b9)) : a1 = b1 ∧ a2 = b2 ∧ a3 = b3 ∧ a4 = b4 ∧ a5 = b5 ∧ a6 = b6 ∧ a7 = b7 ∧ a8 = b8 ∧ a9 = b9 := by
  cases h
  exact ⟨rfl, rfl, rfl, rfl, rfl, rfl, rfl, rfl, rfl⟩
abbrev own_L := List (Nat × Int32)
/-- what place i holds: the last write's value, else d -/
def own_look (d : Int32) (i : Nat) (l : own_L) : Int32 := l.foldr (fun q acc => bif Nat.beq q.1 i then q.2 else acc) d
def own_get (n : Nat) (d : Int32) (l : own_L) (i : Int32) : Option Int32 := if ¬ i < 0 ∧ i.toNatClampNeg < n then some (own_look d i.toNatClampNeg l) else none
def own_set (n : Nat) (l : own_L) (i x : Int32) : Option own_L := if ¬ i < 0 ∧ i.toNatClampNeg < n then some ((i.toNatClampNeg, x) :: l) else none
theorem own_get_in {n : Nat} {d : Int32} {l : own_L} {i x : Int32} (g : own_get n d l i = some x) : ¬ i < 0 ∧ i.toNatClampNeg < n := by
  unfold own_get at g
  split at g
  · assumption
  · cases g
theorem own_get_val {n : Nat} {d : Int32} {l : own_L} {i x : Int32} (g : own_get n d l i = some x) : own_look d i.toNatClampNeg l = x := by
  unfold own_get at g
  split at g
  · exact Option.some.inj g
  · cases g
theorem own_set_in {n : Nat} {l l' : own_L} {i x : Int32} (g : own_set n l i x = some l') : ¬ i < 0 ∧ i.toNatClampNeg < n := by
  unfold own_set at g
  split at g
  · assumption
  · cases g
theorem own_set_val {n : Nat} {l l' : own_L} {i x : Int32} (g : own_set n l i x = some l') : (i.toNatClampNeg, x) :: l = l' := by
  unfold own_set at g
  split at g
  · exact Option.some.inj g
  · cases g
theorem own_look_set (d : Int32) (i j : Nat) (x : Int32) (l : own_L) : own_look d j ((i, x) :: l) = if i = j then x else own_look d j l := by
  show (bif Nat.beq i j then x else own_look d j l) = _
  by_cases h : i = j
  · subst h
    simp
  · have : Nat.beq i j = false := by
      cases hb : Nat.beq i j with
      | false => rfl
      | true => exact absurd (Nat.eq_of_beq_eq_true hb) h
    simp [this, h]
/-- place i of an array of n places that holds f -/
def own_at (n : Nat) (f : Nat → Int32) (i : Int32) : Option Int32 := if ¬ i < 0 ∧ i.toNatClampNeg < n then some (f i.toNatClampNeg) else none
theorem own_at_in {n : Nat} {f : Nat → Int32} {i x : Int32} (g : own_at n f i = some x) : ¬ i < 0 ∧ i.toNatClampNeg < n := by
  unfold own_at at g
  split at g
  · assumption
  · cases g
theorem own_at_val {n : Nat} {f : Nat → Int32} {i x : Int32} (g : own_at n f i = some x) : f i.toNatClampNeg = x := by
  unfold own_at at g
  split at g
  · exact Option.some.inj g
  · cases g
theorem own_A.put {Z : State} {h h' : Heap} {a : Addr} {n : Nat} {d : Int32} {l l' : own_L} {i x : Int32} (A : own_A Z h a .int n (fun j => own_look d j l)) (W : Wr h h' a i.toNatClampNeg (.int x)) (g : own_set n l i x = some l') : own_A Z h' a .int n (fun j => own_look d j l') := by
  have q := own_set_val g
  subst q
  exact (A.set W).congr fun j _ => (own_look_set d _ j x l).symm

abbrev own_lt (a b : Nat) : Prop := a < b
abbrev own_le (a b : Nat) : Prop := a ≤ b
/-- the store at d: its fields, its arrays; where they lie -/
def own_Dg (Z : State) (n0 : Nat) (h : Heap) (d al ao ah au ac aw ar : Addr) (lim sz : Int32) (lv lo hi un ca wo re : own_L) : Prop :=
  (own_le n0 d ∧ own_lt d aw ∧ own_lt aw ar ∧ own_lt ar al ∧ own_lt al ao ∧ own_lt ao ah ∧ own_lt ah au ∧ own_lt au ac) ∧ Exa Z h d "com/example/orbweaver/orbweaver/synthesis/Diagrams" ∧ Fld Z h d "com/example/orbweaver/orbweaver/synthesis/Diagrams" "limit" "I" (.int lim) ∧ Fld Z h d "com/example/orbweaver/orbweaver/synthesis/Diagrams" "size" "I" (.int sz) ∧ Fld Z h d "com/example/orbweaver/orbweaver/synthesis/Diagrams" "level" "[I" (.ref al) ∧ Fld Z h d "com/example/orbweaver/orbweaver/synthesis/Diagrams" "low" "[I" (.ref ao) ∧ Fld Z h d "com/example/orbweaver/orbweaver/synthesis/Diagrams" "high" "[I" (.ref ah) ∧ Fld Z h d "com/example/orbweaver/orbweaver/synthesis/Diagrams" "unique" "[I" (.ref au) ∧ Fld Z h d "com/example/orbweaver/orbweaver/synthesis/Diagrams" "cache" "[I" (.ref ac) ∧ Fld Z h d "com/example/orbweaver/orbweaver/synthesis/Diagrams" "work" "[I" (.ref aw) ∧ Fld Z h d "com/example/orbweaver/orbweaver/synthesis/Diagrams" "results" "[I" (.ref ar) ∧ own_A Z h al .int 4096 (fun j => own_look 0 j lv) ∧ own_A Z h ao .int 4096 (fun j => own_look 0 j lo) ∧ own_A Z h ah .int 4096 (fun j => own_look 0 j hi) ∧ own_A Z h au .int 8192 (fun j => own_look 0 j un) ∧ own_A Z h ac .int 16384 (fun j => own_look (-1) j ca) ∧ own_A Z h aw .int 320 (fun j => own_look 0 j wo) ∧ own_A Z h ar .int 64 (fun j => own_look 0 j re)
section OwnDg
variable {Z : State} {n0 : Nat} {h h' : Heap} {d al ao ah au ac aw ar : Addr} {lim sz : Int32} {lv lo hi un ca wo re : own_L}
theorem own_D_exa (D : own_Dg Z n0 h d al ao ah au ac aw ar lim sz lv lo hi un ca wo re) : Exa Z h d "com/example/orbweaver/orbweaver/synthesis/Diagrams" := D.2.1
theorem own_D_f_limit (D : own_Dg Z n0 h d al ao ah au ac aw ar lim sz lv lo hi un ca wo re) : Fld Z h d "com/example/orbweaver/orbweaver/synthesis/Diagrams" "limit" "I" (.int lim) := D.2.2.1
theorem own_D_f_size (D : own_Dg Z n0 h d al ao ah au ac aw ar lim sz lv lo hi un ca wo re) : Fld Z h d "com/example/orbweaver/orbweaver/synthesis/Diagrams" "size" "I" (.int sz) := D.2.2.2.1
theorem own_D_f_level (D : own_Dg Z n0 h d al ao ah au ac aw ar lim sz lv lo hi un ca wo re) : Fld Z h d "com/example/orbweaver/orbweaver/synthesis/Diagrams" "level" "[I" (.ref al) := D.2.2.2.2.1
theorem own_D_f_low (D : own_Dg Z n0 h d al ao ah au ac aw ar lim sz lv lo hi un ca wo re) : Fld Z h d "com/example/orbweaver/orbweaver/synthesis/Diagrams" "low" "[I" (.ref ao) := D.2.2.2.2.2.1
theorem own_D_f_high (D : own_Dg Z n0 h d al ao ah au ac aw ar lim sz lv lo hi un ca wo re) : Fld Z h d "com/example/orbweaver/orbweaver/synthesis/Diagrams" "high" "[I" (.ref ah) := D.2.2.2.2.2.2.1
theorem own_D_f_unique (D : own_Dg Z n0 h d al ao ah au ac aw ar lim sz lv lo hi un ca wo re) : Fld Z h d "com/example/orbweaver/orbweaver/synthesis/Diagrams" "unique" "[I" (.ref au) := D.2.2.2.2.2.2.2.1
theorem own_D_f_cache (D : own_Dg Z n0 h d al ao ah au ac aw ar lim sz lv lo hi un ca wo re) : Fld Z h d "com/example/orbweaver/orbweaver/synthesis/Diagrams" "cache" "[I" (.ref ac) := D.2.2.2.2.2.2.2.2.1
theorem own_D_f_work (D : own_Dg Z n0 h d al ao ah au ac aw ar lim sz lv lo hi un ca wo re) : Fld Z h d "com/example/orbweaver/orbweaver/synthesis/Diagrams" "work" "[I" (.ref aw) := D.2.2.2.2.2.2.2.2.2.1
theorem own_D_f_results (D : own_Dg Z n0 h d al ao ah au ac aw ar lim sz lv lo hi un ca wo re) : Fld Z h d "com/example/orbweaver/orbweaver/synthesis/Diagrams" "results" "[I" (.ref ar) := D.2.2.2.2.2.2.2.2.2.2.1
theorem own_D_a_al (D : own_Dg Z n0 h d al ao ah au ac aw ar lim sz lv lo hi un ca wo re) : own_A Z h al .int 4096 (fun j => own_look 0 j lv) := D.2.2.2.2.2.2.2.2.2.2.2.1
theorem own_D_a_ao (D : own_Dg Z n0 h d al ao ah au ac aw ar lim sz lv lo hi un ca wo re) : own_A Z h ao .int 4096 (fun j => own_look 0 j lo) := D.2.2.2.2.2.2.2.2.2.2.2.2.1
theorem own_D_a_ah (D : own_Dg Z n0 h d al ao ah au ac aw ar lim sz lv lo hi un ca wo re) : own_A Z h ah .int 4096 (fun j => own_look 0 j hi) := D.2.2.2.2.2.2.2.2.2.2.2.2.2.1
theorem own_D_a_au (D : own_Dg Z n0 h d al ao ah au ac aw ar lim sz lv lo hi un ca wo re) : own_A Z h au .int 8192 (fun j => own_look 0 j un) := D.2.2.2.2.2.2.2.2.2.2.2.2.2.2.1
theorem own_D_a_ac (D : own_Dg Z n0 h d al ao ah au ac aw ar lim sz lv lo hi un ca wo re) : own_A Z h ac .int 16384 (fun j => own_look (-1) j ca) := D.2.2.2.2.2.2.2.2.2.2.2.2.2.2.2.1
theorem own_D_a_aw (D : own_Dg Z n0 h d al ao ah au ac aw ar lim sz lv lo hi un ca wo re) : own_A Z h aw .int 320 (fun j => own_look 0 j wo) := D.2.2.2.2.2.2.2.2.2.2.2.2.2.2.2.2.1
theorem own_D_a_ar (D : own_Dg Z n0 h d al ao ah au ac aw ar lim sz lv lo hi un ca wo re) : own_A Z h ar .int 64 (fun j => own_look 0 j re) := D.2.2.2.2.2.2.2.2.2.2.2.2.2.2.2.2.2
theorem own_D_g_d (D : own_Dg Z n0 h d al ao ah au ac aw ar lim sz lv lo hi un ca wo re) : n0 ≤ d := by
  obtain ⟨⟨o0, o1, o2, o3, o4, o5, o6, o7⟩, -⟩ := D
  show own_le n0 d
  omega
theorem own_D_g_al (D : own_Dg Z n0 h d al ao ah au ac aw ar lim sz lv lo hi un ca wo re) : n0 ≤ al := by
  obtain ⟨⟨o0, o1, o2, o3, o4, o5, o6, o7⟩, -⟩ := D
  show own_le n0 al
  omega
theorem own_D_g_ao (D : own_Dg Z n0 h d al ao ah au ac aw ar lim sz lv lo hi un ca wo re) : n0 ≤ ao := by
  obtain ⟨⟨o0, o1, o2, o3, o4, o5, o6, o7⟩, -⟩ := D
  show own_le n0 ao
  omega
theorem own_D_g_ah (D : own_Dg Z n0 h d al ao ah au ac aw ar lim sz lv lo hi un ca wo re) : n0 ≤ ah := by
  obtain ⟨⟨o0, o1, o2, o3, o4, o5, o6, o7⟩, -⟩ := D
  show own_le n0 ah
  omega
theorem own_D_g_au (D : own_Dg Z n0 h d al ao ah au ac aw ar lim sz lv lo hi un ca wo re) : n0 ≤ au := by
  obtain ⟨⟨o0, o1, o2, o3, o4, o5, o6, o7⟩, -⟩ := D
  show own_le n0 au
  omega
theorem own_D_g_ac (D : own_Dg Z n0 h d al ao ah au ac aw ar lim sz lv lo hi un ca wo re) : n0 ≤ ac := by
  obtain ⟨⟨o0, o1, o2, o3, o4, o5, o6, o7⟩, -⟩ := D
  show own_le n0 ac
  omega
theorem own_D_g_aw (D : own_Dg Z n0 h d al ao ah au ac aw ar lim sz lv lo hi un ca wo re) : n0 ≤ aw := by
  obtain ⟨⟨o0, o1, o2, o3, o4, o5, o6, o7⟩, -⟩ := D
  show own_le n0 aw
  omega
theorem own_D_g_ar (D : own_Dg Z n0 h d al ao ah au ac aw ar lim sz lv lo hi un ca wo re) : n0 ≤ ar := by
  obtain ⟨⟨o0, o1, o2, o3, o4, o5, o6, o7⟩, -⟩ := D
  show own_le n0 ar
  omega
theorem own_D_w_al {l' : own_L} {i x : Int32} (D : own_Dg Z n0 h d al ao ah au ac aw ar lim sz lv lo hi un ca wo re) (W : Wr h h' al i.toNatClampNeg (.int x)) (g : own_set 4096 lv i x = some l') : own_Dg Z n0 h' d al ao ah au ac aw ar lim sz l' lo hi un ca wo re := by
  obtain ⟨⟨o0, o1, o2, o3, o4, o5, o6, o7⟩, E, F0, F1, F2, F3, F4, F5, F6, F7, F8, A0, A1, A2, A3, A4, A5, A6⟩ := D
  exact ⟨⟨o0, o1, o2, o3, o4, o5, o6, o7⟩, E.wr W, F0.other W (Or.inl (by show @Ne Nat _ _; omega)), F1.other W (Or.inl (by show @Ne Nat _ _; omega)), F2.other W (Or.inl (by show @Ne Nat _ _; omega)), F3.other W (Or.inl (by show @Ne Nat _ _; omega)), F4.other W (Or.inl (by show @Ne Nat _ _; omega)), F5.other W (Or.inl (by show @Ne Nat _ _; omega)), F6.other W (Or.inl (by show @Ne Nat _ _; omega)), F7.other W (Or.inl (by show @Ne Nat _ _; omega)), F8.other W (Or.inl (by show @Ne Nat _ _; omega)), A0.put W g, A1.other W (by show @Ne Nat _ _; omega), A2.other W (by show @Ne Nat _ _; omega), A3.other W (by show @Ne Nat _ _; omega), A4.other W (by show @Ne Nat _ _; omega), A5.other W (by show @Ne Nat _ _; omega), A6.other W (by show @Ne Nat _ _; omega)⟩
theorem own_D_w_ao {l' : own_L} {i x : Int32} (D : own_Dg Z n0 h d al ao ah au ac aw ar lim sz lv lo hi un ca wo re) (W : Wr h h' ao i.toNatClampNeg (.int x)) (g : own_set 4096 lo i x = some l') : own_Dg Z n0 h' d al ao ah au ac aw ar lim sz lv l' hi un ca wo re := by
  obtain ⟨⟨o0, o1, o2, o3, o4, o5, o6, o7⟩, E, F0, F1, F2, F3, F4, F5, F6, F7, F8, A0, A1, A2, A3, A4, A5, A6⟩ := D
  exact ⟨⟨o0, o1, o2, o3, o4, o5, o6, o7⟩, E.wr W, F0.other W (Or.inl (by show @Ne Nat _ _; omega)), F1.other W (Or.inl (by show @Ne Nat _ _; omega)), F2.other W (Or.inl (by show @Ne Nat _ _; omega)), F3.other W (Or.inl (by show @Ne Nat _ _; omega)), F4.other W (Or.inl (by show @Ne Nat _ _; omega)), F5.other W (Or.inl (by show @Ne Nat _ _; omega)), F6.other W (Or.inl (by show @Ne Nat _ _; omega)), F7.other W (Or.inl (by show @Ne Nat _ _; omega)), F8.other W (Or.inl (by show @Ne Nat _ _; omega)), A0.other W (by show @Ne Nat _ _; omega), A1.put W g, A2.other W (by show @Ne Nat _ _; omega), A3.other W (by show @Ne Nat _ _; omega), A4.other W (by show @Ne Nat _ _; omega), A5.other W (by show @Ne Nat _ _; omega), A6.other W (by show @Ne Nat _ _; omega)⟩
theorem own_D_w_ah {l' : own_L} {i x : Int32} (D : own_Dg Z n0 h d al ao ah au ac aw ar lim sz lv lo hi un ca wo re) (W : Wr h h' ah i.toNatClampNeg (.int x)) (g : own_set 4096 hi i x = some l') : own_Dg Z n0 h' d al ao ah au ac aw ar lim sz lv lo l' un ca wo re := by
  obtain ⟨⟨o0, o1, o2, o3, o4, o5, o6, o7⟩, E, F0, F1, F2, F3, F4, F5, F6, F7, F8, A0, A1, A2, A3, A4, A5, A6⟩ := D
  exact ⟨⟨o0, o1, o2, o3, o4, o5, o6, o7⟩, E.wr W, F0.other W (Or.inl (by show @Ne Nat _ _; omega)), F1.other W (Or.inl (by show @Ne Nat _ _; omega)), F2.other W (Or.inl (by show @Ne Nat _ _; omega)), F3.other W (Or.inl (by show @Ne Nat _ _; omega)), F4.other W (Or.inl (by show @Ne Nat _ _; omega)), F5.other W (Or.inl (by show @Ne Nat _ _; omega)), F6.other W (Or.inl (by show @Ne Nat _ _; omega)), F7.other W (Or.inl (by show @Ne Nat _ _; omega)), F8.other W (Or.inl (by show @Ne Nat _ _; omega)), A0.other W (by show @Ne Nat _ _; omega), A1.other W (by show @Ne Nat _ _; omega), A2.put W g, A3.other W (by show @Ne Nat _ _; omega), A4.other W (by show @Ne Nat _ _; omega), A5.other W (by show @Ne Nat _ _; omega), A6.other W (by show @Ne Nat _ _; omega)⟩
theorem own_D_w_au {l' : own_L} {i x : Int32} (D : own_Dg Z n0 h d al ao ah au ac aw ar lim sz lv lo hi un ca wo re) (W : Wr h h' au i.toNatClampNeg (.int x)) (g : own_set 8192 un i x = some l') : own_Dg Z n0 h' d al ao ah au ac aw ar lim sz lv lo hi l' ca wo re := by
  obtain ⟨⟨o0, o1, o2, o3, o4, o5, o6, o7⟩, E, F0, F1, F2, F3, F4, F5, F6, F7, F8, A0, A1, A2, A3, A4, A5, A6⟩ := D
  exact ⟨⟨o0, o1, o2, o3, o4, o5, o6, o7⟩, E.wr W, F0.other W (Or.inl (by show @Ne Nat _ _; omega)), F1.other W (Or.inl (by show @Ne Nat _ _; omega)), F2.other W (Or.inl (by show @Ne Nat _ _; omega)), F3.other W (Or.inl (by show @Ne Nat _ _; omega)), F4.other W (Or.inl (by show @Ne Nat _ _; omega)), F5.other W (Or.inl (by show @Ne Nat _ _; omega)), F6.other W (Or.inl (by show @Ne Nat _ _; omega)), F7.other W (Or.inl (by show @Ne Nat _ _; omega)), F8.other W (Or.inl (by show @Ne Nat _ _; omega)), A0.other W (by show @Ne Nat _ _; omega), A1.other W (by show @Ne Nat _ _; omega), A2.other W (by show @Ne Nat _ _; omega), A3.put W g, A4.other W (by show @Ne Nat _ _; omega), A5.other W (by show @Ne Nat _ _; omega), A6.other W (by show @Ne Nat _ _; omega)⟩
theorem own_D_w_ac {l' : own_L} {i x : Int32} (D : own_Dg Z n0 h d al ao ah au ac aw ar lim sz lv lo hi un ca wo re) (W : Wr h h' ac i.toNatClampNeg (.int x)) (g : own_set 16384 ca i x = some l') : own_Dg Z n0 h' d al ao ah au ac aw ar lim sz lv lo hi un l' wo re := by
  obtain ⟨⟨o0, o1, o2, o3, o4, o5, o6, o7⟩, E, F0, F1, F2, F3, F4, F5, F6, F7, F8, A0, A1, A2, A3, A4, A5, A6⟩ := D
  exact ⟨⟨o0, o1, o2, o3, o4, o5, o6, o7⟩, E.wr W, F0.other W (Or.inl (by show @Ne Nat _ _; omega)), F1.other W (Or.inl (by show @Ne Nat _ _; omega)), F2.other W (Or.inl (by show @Ne Nat _ _; omega)), F3.other W (Or.inl (by show @Ne Nat _ _; omega)), F4.other W (Or.inl (by show @Ne Nat _ _; omega)), F5.other W (Or.inl (by show @Ne Nat _ _; omega)), F6.other W (Or.inl (by show @Ne Nat _ _; omega)), F7.other W (Or.inl (by show @Ne Nat _ _; omega)), F8.other W (Or.inl (by show @Ne Nat _ _; omega)), A0.other W (by show @Ne Nat _ _; omega), A1.other W (by show @Ne Nat _ _; omega), A2.other W (by show @Ne Nat _ _; omega), A3.other W (by show @Ne Nat _ _; omega), A4.put W g, A5.other W (by show @Ne Nat _ _; omega), A6.other W (by show @Ne Nat _ _; omega)⟩
theorem own_D_w_aw {l' : own_L} {i x : Int32} (D : own_Dg Z n0 h d al ao ah au ac aw ar lim sz lv lo hi un ca wo re) (W : Wr h h' aw i.toNatClampNeg (.int x)) (g : own_set 320 wo i x = some l') : own_Dg Z n0 h' d al ao ah au ac aw ar lim sz lv lo hi un ca l' re := by
  obtain ⟨⟨o0, o1, o2, o3, o4, o5, o6, o7⟩, E, F0, F1, F2, F3, F4, F5, F6, F7, F8, A0, A1, A2, A3, A4, A5, A6⟩ := D
  exact ⟨⟨o0, o1, o2, o3, o4, o5, o6, o7⟩, E.wr W, F0.other W (Or.inl (by show @Ne Nat _ _; omega)), F1.other W (Or.inl (by show @Ne Nat _ _; omega)), F2.other W (Or.inl (by show @Ne Nat _ _; omega)), F3.other W (Or.inl (by show @Ne Nat _ _; omega)), F4.other W (Or.inl (by show @Ne Nat _ _; omega)), F5.other W (Or.inl (by show @Ne Nat _ _; omega)), F6.other W (Or.inl (by show @Ne Nat _ _; omega)), F7.other W (Or.inl (by show @Ne Nat _ _; omega)), F8.other W (Or.inl (by show @Ne Nat _ _; omega)), A0.other W (by show @Ne Nat _ _; omega), A1.other W (by show @Ne Nat _ _; omega), A2.other W (by show @Ne Nat _ _; omega), A3.other W (by show @Ne Nat _ _; omega), A4.other W (by show @Ne Nat _ _; omega), A5.put W g, A6.other W (by show @Ne Nat _ _; omega)⟩
theorem own_D_w_ar {l' : own_L} {i x : Int32} (D : own_Dg Z n0 h d al ao ah au ac aw ar lim sz lv lo hi un ca wo re) (W : Wr h h' ar i.toNatClampNeg (.int x)) (g : own_set 64 re i x = some l') : own_Dg Z n0 h' d al ao ah au ac aw ar lim sz lv lo hi un ca wo l' := by
  obtain ⟨⟨o0, o1, o2, o3, o4, o5, o6, o7⟩, E, F0, F1, F2, F3, F4, F5, F6, F7, F8, A0, A1, A2, A3, A4, A5, A6⟩ := D
  exact ⟨⟨o0, o1, o2, o3, o4, o5, o6, o7⟩, E.wr W, F0.other W (Or.inl (by show @Ne Nat _ _; omega)), F1.other W (Or.inl (by show @Ne Nat _ _; omega)), F2.other W (Or.inl (by show @Ne Nat _ _; omega)), F3.other W (Or.inl (by show @Ne Nat _ _; omega)), F4.other W (Or.inl (by show @Ne Nat _ _; omega)), F5.other W (Or.inl (by show @Ne Nat _ _; omega)), F6.other W (Or.inl (by show @Ne Nat _ _; omega)), F7.other W (Or.inl (by show @Ne Nat _ _; omega)), F8.other W (Or.inl (by show @Ne Nat _ _; omega)), A0.other W (by show @Ne Nat _ _; omega), A1.other W (by show @Ne Nat _ _; omega), A2.other W (by show @Ne Nat _ _; omega), A3.other W (by show @Ne Nat _ _; omega), A4.other W (by show @Ne Nat _ _; omega), A5.other W (by show @Ne Nat _ _; omega), A6.put W g⟩
theorem own_D_w_size {a0 : Array Value} {x : Int32} (hw : ∀ d ∈ tables_1, d.before a0 Z = true) (D : own_Dg Z n0 h d al ao ah au ac aw ar lim sz lv lo hi un ca wo re) (W : Wr h h' d (Jvm.RoadKit.slotOf Z "com/example/orbweaver/orbweaver/synthesis/Diagrams" "size" "I") (.int x)) : own_Dg Z n0 h' d al ao ah au ac aw ar lim x lv lo hi un ca wo re := by
  obtain ⟨⟨o0, o1, o2, o3, o4, o5, o6, o7⟩, E, F0, F1, F2, F3, F4, F5, F6, F7, F8, A0, A1, A2, A3, A4, A5, A6⟩ := D
  exact ⟨⟨o0, o1, o2, o3, o4, o5, o6, o7⟩, E.wr W, F0.other W (Or.inr (slot_ne (Or.inl (own_w35 hw)) (Or.inl (own_w43 hw)) (by decide) (t := .int) (t' := .int) (by decide) (by decide))), F1.same W, F2.other W (Or.inr (slot_ne (Or.inl (own_w37 hw)) (Or.inl (own_w43 hw)) (by decide) (t := (.array .int)) (t' := .int) (by decide) (by decide))), F3.other W (Or.inr (slot_ne (Or.inl (own_w39 hw)) (Or.inl (own_w43 hw)) (by decide) (t := (.array .int)) (t' := .int) (by decide) (by decide))), F4.other W (Or.inr (slot_ne (Or.inl (own_w41 hw)) (Or.inl (own_w43 hw)) (by decide) (t := (.array .int)) (t' := .int) (by decide) (by decide))), F5.other W (Or.inr (slot_ne (Or.inl (own_w45 hw)) (Or.inl (own_w43 hw)) (by decide) (t := (.array .int)) (t' := .int) (by decide) (by decide))), F6.other W (Or.inr (slot_ne (Or.inl (own_w47 hw)) (Or.inl (own_w43 hw)) (by decide) (t := (.array .int)) (t' := .int) (by decide) (by decide))), F7.other W (Or.inr (slot_ne (Or.inl (own_w27 hw)) (Or.inl (own_w43 hw)) (by decide) (t := (.array .int)) (t' := .int) (by decide) (by decide))), F8.other W (Or.inr (slot_ne (Or.inl (own_w29 hw)) (Or.inl (own_w43 hw)) (by decide) (t := (.array .int)) (t' := .int) (by decide) (by decide))), A0.other W (by show @Ne Nat _ _; omega), A1.other W (by show @Ne Nat _ _; omega), A2.other W (by show @Ne Nat _ _; omega), A3.other W (by show @Ne Nat _ _; omega), A4.other W (by show @Ne Nat _ _; omega), A5.other W (by show @Ne Nat _ _; omega), A6.other W (by show @Ne Nat _ _; omega)⟩
theorem own_D_nin {z : Addr} (D : own_Dg Z n0 h d al ao ah au ac aw ar lim sz lv lo hi un ca wo re) (q : own_lt z d) : z ∉ [d, al, ao, ah, au, ac, aw, ar] := by
  obtain ⟨⟨o0, o1, o2, o3, o4, o5, o6, o7⟩, -⟩ := D
  intro hz
  simp only [List.mem_cons, List.not_mem_nil, or_false] at hz
  rcases hz with rfl | rfl | rfl | rfl | rfl | rfl | rfl | rfl <;> omega
end OwnDg
theorem own_n_lt {i n : Nat} (hi : i < n) (hn : n < 2 ^ 31) : Int32.ofNat i < Int32.ofNat n := by
  rw [Int32.lt_iff_toInt_lt, Int32.toInt_ofNat_of_lt (by omega), Int32.toInt_ofNat_of_lt (by omega)]
  omega
theorem own_n_ge {n : Nat} : ¬ Int32.ofNat n < Int32.ofNat n := by
  rw [Int32.lt_iff_toInt_lt]
  omega
theorem own_n_nat {i : Nat} (hi : i < 2 ^ 31) : (Int32.ofNat i).toNatClampNeg = i := by
  rw [Int32.toNatClampNeg, Int32.toInt_ofNat_of_lt (by omega)]; rfl
theorem own_n_nn {i : Nat} (hi : i < 2 ^ 31) : ¬ Int32.ofNat i < 0 := by
  rw [Int32.lt_iff_toInt_lt, Int32.toInt_ofNat_of_lt (by omega), show (0 : Int32).toInt = 0 from rfl]
  omega
theorem own_n_one (i : Nat) : Int32.ofNat i + Int32.ofInt 1 = Int32.ofNat (i + 1) := (Int32.ofNat_add i 1).symm

theorem d_fill_0 : decode jdk_65_method_103_code 0 = .ok (.iconst 0, 1) := by decide +kernel
theorem d_fill_1 : decode jdk_65_method_103_code 1 = .ok (.istore_n 2, 1) := by decide +kernel
theorem d_fill_2 : decode jdk_65_method_103_code 2 = .ok (.aload_n 0, 1) := by decide +kernel
theorem d_fill_3 : decode jdk_65_method_103_code 3 = .ok (.arraylength, 1) := by decide +kernel
theorem d_fill_4 : decode jdk_65_method_103_code 4 = .ok (.istore_n 3, 1) := by decide +kernel
theorem d_fill_5 : decode jdk_65_method_103_code 5 = .ok (.iload_n 2, 1) := by decide +kernel
theorem d_fill_6 : decode jdk_65_method_103_code 6 = .ok (.iload_n 3, 1) := by decide +kernel
theorem d_fill_7 : decode jdk_65_method_103_code 7 = .ok (.if_icmp .ge 13, 3) := by decide +kernel
theorem d_fill_10 : decode jdk_65_method_103_code 10 = .ok (.aload_n 0, 1) := by decide +kernel
theorem d_fill_11 : decode jdk_65_method_103_code 11 = .ok (.iload_n 2, 1) := by decide +kernel
theorem d_fill_12 : decode jdk_65_method_103_code 12 = .ok (.iload_n 1, 1) := by decide +kernel
theorem d_fill_13 : decode jdk_65_method_103_code 13 = .ok (.iastore, 1) := by decide +kernel
theorem d_fill_14 : decode jdk_65_method_103_code 14 = .ok (.iinc 2 1, 3) := by decide +kernel
theorem d_fill_17 : decode jdk_65_method_103_code 17 = .ok (.goto (-12), 3) := by decide +kernel
theorem d_fill_20 : decode jdk_65_method_103_code 20 = .ok (.return_, 1) := by decide +kernel
theorem own_ef_fill (m : MethodId) (a : Addr) (x : Int32) : entryFrame m #[(.ref a), (.int x)] 4 = mkF m 0 #[.val (.ref a), .val (.int x), .unset, .unset] [] := by first | (simp [entryFrame, mkF, argsToLocals, Value.category]; done) | rfl
set_option maxRecDepth 65536 in
set_option maxHeartbeats 40000000 in
theorem own_m_fill (l : Launch) (Z : State) (a0 : Array Value) (hw : ∀ d ∈ tables_1, d.before a0 Z = true) (h0 : Heap) (n0 : Nat) {a : Addr} {n : Nat} {f : Nat → Int32} (hn : n < 2 ^ 31) (A : own_A Z h0 a .int n f) (ga : n0 ≤ a) (x : Int32) : own_Met l Z ⟨"java/util/Arrays", "fill", "([II)V"⟩ jdk_65_method_103_code 4 none [] ({ frames := 0, cells := 0, slots := 0, locals := 0 } : Room) #[.ref a, .int x] h0 n0 (fun v h => v = none ∧ own_A Z h a .int n (fun _ => x) ∧ Keep h0 h [a]) := by
  refine own_body own_pn_Arrays ?_
  intro p e s m below meth c T0 X0 hx hby hml hown hnm hZ e0 hret hlk
  have N0 := Fr.nil n0
  have loop : ∀ (k i : Nat) (T : State) (h : Heap) (locs : List Loc), i + k = n → Stand p l e ({ frames := 0, cells := 0, slots := 0, locals := 0 } : Room) s m #[.ref a, .int x] below meth c T locs 0 0 → Fr n0 locs → T.heap = h → own_A Z h a .int n (fun j => if j < i then x else f j) → Keep h0 h [a] → own_G p e below (own_End s ({ frames := 0, cells := 0, slots := 0, locals := 0 } : Room) n0 (fun v h => v = none ∧ own_A Z h a .int n (fun _ => x) ∧ Keep h0 h [a])) (T.setTop (mkF m 5 #[.val (.ref a), .val (.int x), .val (.int (Int32.ofNat i)), .val (.int (Int32.ofNat n))] [])) := by
    intro k
    induction k with
    | zero =>
      intro i T h locs hk X N eT B K
      have hi : i = n := hk
      subst hi
      refine own_iloadN X hx (hb hby d_fill_5) rfl 6 rfl ?_
      refine own_iloadN X hx (hb hby d_fill_6) rfl 7 rfl ?_
      refine own_icmpT X hx (hb hby d_fill_7) (flt own_n_ge).2.1 20 (by decide) (by decide) ?_
      exact own_retV X hx hret hlk (hb hby d_fill_20) (Nat.le_refl _) (Nat.le_refl _) N eT ⟨rfl, B.congr (fun j hj => if_pos hj), K⟩
    | succ k ih =>
      intro i T h locs hk X N eT B K
      have hi : i < n := by omega
      refine own_iloadN X hx (hb hby d_fill_5) rfl 6 rfl ?_
      refine own_iloadN X hx (hb hby d_fill_6) rfl 7 rfl ?_
      refine own_icmpF X hx (hb hby d_fill_7) (tlt (own_n_lt hi hn)).2.1 10 rfl ?_
      refine own_aloadN X hx (hb hby d_fill_10) rfl rfl 11 rfl ?_
      refine own_iloadN X hx (hb hby d_fill_11) rfl 12 rfl ?_
      refine own_iloadN X hx (hb hby d_fill_12) rfl 13 rfl ?_
      refine own_iastore X hx hZ eT B ⟨own_n_nn (by omega), by rw [own_n_nat (by omega)]; exact hi⟩ (hb hby d_fill_13) N ga 14 rfl (fun T1 h1 l1 X1 N1 e1 W1 => ?_)
      refine own_iinc X1 hx (z := Int32.ofNat (i + 1)) (#[.val (.ref a), .val (.int x), .val (.int (Int32.ofNat (i + 1))), .val (.int (Int32.ofNat n))]) (hb hby d_fill_14) rfl (own_n_one i) rfl 17 rfl ?_
      refine own_goto X1 hx (hb hby d_fill_17) 5 (by decide) (by decide) ?_
      refine ih (i + 1) T1 h1 _ (by omega) X1 N1 e1 ?_ (K.wr W1 (Or.inl (List.mem_of_getElem? (i := 0) rfl)))
      rw [own_n_nat (by omega)] at W1
      refine (B.set W1).congr fun j hj => ?_
      by_cases q : i = j
      · subst q
        rw [if_pos rfl, if_pos (by omega)]
      · rw [if_neg q]
        by_cases r : j < i
        · rw [if_pos r, if_pos (by omega)]
        · rw [if_neg r, if_neg (by omega)]
  refine own_cast (own_ef_fill m a x) ?_
  refine own_iconst X0 hx (z := Int32.ofNat 0) (hb hby d_fill_0) rfl 1 rfl ?_
  refine own_istoreN X0 hx (#[.val (.ref a), .val (.int x), .val (.int (Int32.ofNat 0)), .unset]) (hb hby d_fill_1) rfl 2 rfl ?_
  refine own_aloadN X0 hx (hb hby d_fill_2) rfl rfl 3 rfl ?_
  refine own_arrlen X0 hx hZ e0 A (z := Int32.ofNat n) rfl (hb hby d_fill_3) 4 rfl ?_
  refine own_istoreN X0 hx (#[.val (.ref a), .val (.int x), .val (.int (Int32.ofNat 0)), .val (.int (Int32.ofNat n))]) (hb hby d_fill_4) rfl 5 rfl ?_
  exact loop n 0 T0 h0 _ (Nat.zero_add n) X0 N0 e0 (A.congr fun j hj => (if_neg (Nat.not_lt_zero j)).symm) (Keep.refl _ _)
theorem d_d1init_0 : decode prog_82_method_1_code 0 = .ok (.aload_n 0, 1) := by decide +kernel
theorem d_d1init_1 : decode prog_82_method_1_code 1 = .ok (.aload_n 1, 1) := by decide +kernel
theorem d_d1init_2 : decode prog_82_method_1_code 2 = .ok (.putfield 3, 3) := by decide +kernel
theorem d_d1init_5 : decode prog_82_method_1_code 5 = .ok (.aload_n 0, 1) := by decide +kernel
theorem d_d1init_6 : decode prog_82_method_1_code 6 = .ok (.invokespecial 9, 3) := by decide +kernel
theorem d_d1init_9 : decode prog_82_method_1_code 9 = .ok (.return_, 1) := by decide +kernel
theorem own_ef_d1init (m : MethodId) (b : Addr) (d : Addr) : entryFrame m #[(.ref b), (.ref d)] 2 = mkF m 0 #[.val (.ref b), .val (.ref d)] [] := by first | (simp [entryFrame, mkF, argsToLocals, Value.category]; done) | rfl
set_option maxRecDepth 65536 in
set_option maxHeartbeats 40000000 in
theorem own_m_d1init (l : Launch) (Z : State) (a0 : Array Value) (hw : ∀ d ∈ tables_1, d.before a0 Z = true) (h0 : Heap) (n0 : Nat) {b d : Addr} (E0 : Exa Z h0 b "com/example/orbweaver/orbweaver/synthesis/Diagrams$1") (F0 : Fld Z h0 b "com/example/orbweaver/orbweaver/synthesis/Diagrams$1" "this$0" "Lcom/example/orbweaver/orbweaver/synthesis/Diagrams;" .null) (gn_b : n0 ≤ b) : own_Met l Z ⟨"com/example/orbweaver/orbweaver/synthesis/Diagrams$1", "<init>", "(Lcom/example/orbweaver/orbweaver/synthesis/Diagrams;)V"⟩ prog_82_method_1_code 2 none [] ({ frames := 1, cells := 0, slots := 0, locals := 12 } : Room) #[.ref b, .ref d] h0 n0 (fun v h => v = none ∧ Keep h0 h [b]) := by
  refine own_body (plainFor_of_name own_pn_Diagrams_1) ?_
  intro p e s m below meth c T0 X0 hx hby hml hown hnm hZ e0 hret hlk
  have N0 := Fr.nil n0
  have K0 : Keep h0 h0 [b] := Keep.refl _ _
  refine own_cast (own_ef_d1init m b d) ?_
  refine own_aloadN X0 hx (hb hby d_d1init_0) rfl rfl 1 rfl ?_
  refine own_aloadN X0 hx (hb hby d_d1init_1) rfl rfl 2 rfl ?_
  refine own_putF X0 hx hZ hown (own_w16 hw) e0 F0 E0 (Or.inr ⟨(own_w17 hw), rfl, hnm⟩) (own_w11 hw) (ty := (.object "com/example/orbweaver/orbweaver/synthesis/Diagrams")) (by decide) rfl rfl (hb hby d_d1init_2) N0 gn_b 5 rfl (fun T1 h1 l1 X1 N1 e1 W1 => ?_)
  have E0_1 := E0.wr W1
  have F0_1 := F0.same W1
  have K0_1 := K0.wr W1 (Or.inl (List.mem_of_getElem? (i := 0) rfl))
  refine own_aloadN X1 hx (hb hby d_d1init_5) rfl rfl 6 rfl ?_
  refine own_initO X1 hx hZ hown (own_w18 hw) (own_w8 hw) (own_w9 hw) e1 (by rw [hml]; rfl) (hb hby d_d1init_6) 0 (by decide) (Nat.le_of_eq rfl) (by decide) 9 rfl (fun T2 X2 e2 => ?_)
  exact own_retV X2 hx hret hlk (hb hby d_d1init_9) (Nat.le_refl _) (Nat.le_refl _) N1 e2 ⟨rfl, K0_1⟩
theorem d_dinit_0 : decode prog_81_method_2_code 0 = .ok (.aload_n 0, 1) := by decide +kernel
theorem d_dinit_1 : decode prog_81_method_2_code 1 = .ok (.invokespecial 7, 3) := by decide +kernel
theorem d_dinit_4 : decode prog_81_method_2_code 4 = .ok (.aload_n 0, 1) := by decide +kernel
theorem d_dinit_5 : decode prog_81_method_2_code 5 = .ok (.new 12, 3) := by decide +kernel
theorem d_dinit_8 : decode prog_81_method_2_code 8 = .ok (.dup, 1) := by decide +kernel
theorem d_dinit_9 : decode prog_81_method_2_code 9 = .ok (.aload_n 0, 1) := by decide +kernel
theorem d_dinit_10 : decode prog_81_method_2_code 10 = .ok (.invokespecial 14, 3) := by decide +kernel
theorem d_dinit_13 : decode prog_81_method_2_code 13 = .ok (.putfield 17, 3) := by decide +kernel
theorem d_dinit_16 : decode prog_81_method_2_code 16 = .ok (.aload_n 0, 1) := by decide +kernel
theorem d_dinit_17 : decode prog_81_method_2_code 17 = .ok (.sipush 4096, 3) := by decide +kernel
theorem d_dinit_20 : decode prog_81_method_2_code 20 = .ok (.anewarray 21, 3) := by decide +kernel
theorem d_dinit_23 : decode prog_81_method_2_code 23 = .ok (.putfield 23, 3) := by decide +kernel
theorem d_dinit_26 : decode prog_81_method_2_code 26 = .ok (.aload_n 0, 1) := by decide +kernel
theorem d_dinit_27 : decode prog_81_method_2_code 27 = .ok (.sipush 320, 3) := by decide +kernel
theorem d_dinit_30 : decode prog_81_method_2_code 30 = .ok (.newarray .int, 2) := by decide +kernel
theorem d_dinit_32 : decode prog_81_method_2_code 32 = .ok (.putfield 27, 3) := by decide +kernel
theorem d_dinit_35 : decode prog_81_method_2_code 35 = .ok (.aload_n 0, 1) := by decide +kernel
theorem d_dinit_36 : decode prog_81_method_2_code 36 = .ok (.bipush 64, 2) := by decide +kernel
theorem d_dinit_38 : decode prog_81_method_2_code 38 = .ok (.newarray .int, 2) := by decide +kernel
theorem d_dinit_40 : decode prog_81_method_2_code 40 = .ok (.putfield 31, 3) := by decide +kernel
theorem d_dinit_43 : decode prog_81_method_2_code 43 = .ok (.aload_n 0, 1) := by decide +kernel
theorem d_dinit_44 : decode prog_81_method_2_code 44 = .ok (.iload_n 2, 1) := by decide +kernel
theorem d_dinit_45 : decode prog_81_method_2_code 45 = .ok (.putfield 34, 3) := by decide +kernel
theorem d_dinit_48 : decode prog_81_method_2_code 48 = .ok (.aload_n 0, 1) := by decide +kernel
theorem d_dinit_49 : decode prog_81_method_2_code 49 = .ok (.iload_n 1, 1) := by decide +kernel
theorem d_dinit_50 : decode prog_81_method_2_code 50 = .ok (.putfield 38, 3) := by decide +kernel
theorem d_dinit_53 : decode prog_81_method_2_code 53 = .ok (.aload_n 0, 1) := by decide +kernel
theorem d_dinit_54 : decode prog_81_method_2_code 54 = .ok (.iload_n 3, 1) := by decide +kernel
theorem d_dinit_55 : decode prog_81_method_2_code 55 = .ok (.putfield 41, 3) := by decide +kernel
theorem d_dinit_58 : decode prog_81_method_2_code 58 = .ok (.aload_n 0, 1) := by decide +kernel
theorem d_dinit_59 : decode prog_81_method_2_code 59 = .ok (.sipush 4096, 3) := by decide +kernel
theorem d_dinit_62 : decode prog_81_method_2_code 62 = .ok (.newarray .int, 2) := by decide +kernel
theorem d_dinit_64 : decode prog_81_method_2_code 64 = .ok (.putfield 44, 3) := by decide +kernel
theorem d_dinit_67 : decode prog_81_method_2_code 67 = .ok (.aload_n 0, 1) := by decide +kernel
theorem d_dinit_68 : decode prog_81_method_2_code 68 = .ok (.sipush 4096, 3) := by decide +kernel
theorem d_dinit_71 : decode prog_81_method_2_code 71 = .ok (.newarray .int, 2) := by decide +kernel
theorem d_dinit_73 : decode prog_81_method_2_code 73 = .ok (.putfield 47, 3) := by decide +kernel
theorem d_dinit_76 : decode prog_81_method_2_code 76 = .ok (.aload_n 0, 1) := by decide +kernel
theorem d_dinit_77 : decode prog_81_method_2_code 77 = .ok (.sipush 4096, 3) := by decide +kernel
theorem d_dinit_80 : decode prog_81_method_2_code 80 = .ok (.newarray .int, 2) := by decide +kernel
theorem d_dinit_82 : decode prog_81_method_2_code 82 = .ok (.putfield 50, 3) := by decide +kernel
theorem d_dinit_85 : decode prog_81_method_2_code 85 = .ok (.aload_n 0, 1) := by decide +kernel
theorem d_dinit_86 : decode prog_81_method_2_code 86 = .ok (.getfield 44, 3) := by decide +kernel
theorem d_dinit_89 : decode prog_81_method_2_code 89 = .ok (.iconst 0, 1) := by decide +kernel
theorem d_dinit_90 : decode prog_81_method_2_code 90 = .ok (.iload_n 2, 1) := by decide +kernel
theorem d_dinit_91 : decode prog_81_method_2_code 91 = .ok (.iastore, 1) := by decide +kernel
theorem d_dinit_92 : decode prog_81_method_2_code 92 = .ok (.aload_n 0, 1) := by decide +kernel
theorem d_dinit_93 : decode prog_81_method_2_code 93 = .ok (.getfield 44, 3) := by decide +kernel
theorem d_dinit_96 : decode prog_81_method_2_code 96 = .ok (.iconst 1, 1) := by decide +kernel
theorem d_dinit_97 : decode prog_81_method_2_code 97 = .ok (.iload_n 2, 1) := by decide +kernel
theorem d_dinit_98 : decode prog_81_method_2_code 98 = .ok (.iastore, 1) := by decide +kernel
theorem d_dinit_99 : decode prog_81_method_2_code 99 = .ok (.aload_n 0, 1) := by decide +kernel
theorem d_dinit_100 : decode prog_81_method_2_code 100 = .ok (.getfield 47, 3) := by decide +kernel
theorem d_dinit_103 : decode prog_81_method_2_code 103 = .ok (.iconst 1, 1) := by decide +kernel
theorem d_dinit_104 : decode prog_81_method_2_code 104 = .ok (.iconst 1, 1) := by decide +kernel
theorem d_dinit_105 : decode prog_81_method_2_code 105 = .ok (.iastore, 1) := by decide +kernel
theorem d_dinit_106 : decode prog_81_method_2_code 106 = .ok (.aload_n 0, 1) := by decide +kernel
theorem d_dinit_107 : decode prog_81_method_2_code 107 = .ok (.getfield 50, 3) := by decide +kernel
theorem d_dinit_110 : decode prog_81_method_2_code 110 = .ok (.iconst 1, 1) := by decide +kernel
theorem d_dinit_111 : decode prog_81_method_2_code 111 = .ok (.iconst 1, 1) := by decide +kernel
theorem d_dinit_112 : decode prog_81_method_2_code 112 = .ok (.iastore, 1) := by decide +kernel
theorem d_dinit_113 : decode prog_81_method_2_code 113 = .ok (.aload_n 0, 1) := by decide +kernel
theorem d_dinit_114 : decode prog_81_method_2_code 114 = .ok (.iconst 2, 1) := by decide +kernel
theorem d_dinit_115 : decode prog_81_method_2_code 115 = .ok (.putfield 53, 3) := by decide +kernel
theorem d_dinit_118 : decode prog_81_method_2_code 118 = .ok (.aload_n 0, 1) := by decide +kernel
theorem d_dinit_119 : decode prog_81_method_2_code 119 = .ok (.sipush 8192, 3) := by decide +kernel
theorem d_dinit_122 : decode prog_81_method_2_code 122 = .ok (.newarray .int, 2) := by decide +kernel
theorem d_dinit_124 : decode prog_81_method_2_code 124 = .ok (.putfield 56, 3) := by decide +kernel
theorem d_dinit_127 : decode prog_81_method_2_code 127 = .ok (.aload_n 0, 1) := by decide +kernel
theorem d_dinit_128 : decode prog_81_method_2_code 128 = .ok (.sipush 16384, 3) := by decide +kernel
theorem d_dinit_131 : decode prog_81_method_2_code 131 = .ok (.newarray .int, 2) := by decide +kernel
theorem d_dinit_133 : decode prog_81_method_2_code 133 = .ok (.putfield 59, 3) := by decide +kernel
theorem d_dinit_136 : decode prog_81_method_2_code 136 = .ok (.aload_n 0, 1) := by decide +kernel
theorem d_dinit_137 : decode prog_81_method_2_code 137 = .ok (.getfield 59, 3) := by decide +kernel
theorem d_dinit_140 : decode prog_81_method_2_code 140 = .ok (.iconst (-1), 1) := by decide +kernel
theorem d_dinit_141 : decode prog_81_method_2_code 141 = .ok (.invokestatic 62, 3) := by decide +kernel
theorem d_dinit_144 : decode prog_81_method_2_code 144 = .ok (.return_, 1) := by decide +kernel
theorem own_ef_dinit (m : MethodId) (d : Addr) (p1 : Int32) (p2 : Int32) (p3 : Int32) : entryFrame m #[(.ref d), (.int p1), (.int p2), (.int p3)] 4 = mkF m 0 #[.val (.ref d), .val (.int p1), .val (.int p2), .val (.int p3)] [] := by first | (simp [entryFrame, mkF, argsToLocals, Value.category]; done) | rfl
set_option maxRecDepth 65536 in
set_option maxHeartbeats 40000000 in
theorem own_m_dinit (l : Launch) (Z : State) (a0 : Array Value) (hw : ∀ d ∈ tables_1, d.before a0 Z = true) (h0 : Heap) (n0 : Nat) {d : Addr} (p1 p2 p3 : Int32) (E0 : Exa Z h0 d "com/example/orbweaver/orbweaver/synthesis/Diagrams") (F_logic : Fld Z h0 d "com/example/orbweaver/orbweaver/synthesis/Diagrams" "logic" "Lcom/example/orbweaver/orbweaver/spec/Logic;" .null) (F_sets : Fld Z h0 d "com/example/orbweaver/orbweaver/synthesis/Diagrams" "sets" "[Lcom/example/orbweaver/orbweaver/synthesis/Valuations;" .null) (F_work : Fld Z h0 d "com/example/orbweaver/orbweaver/synthesis/Diagrams" "work" "[I" .null) (F_results : Fld Z h0 d "com/example/orbweaver/orbweaver/synthesis/Diagrams" "results" "[I" .null) (F_variables : Fld Z h0 d "com/example/orbweaver/orbweaver/synthesis/Diagrams" "variables" "I" (.int 0)) (F_terms : Fld Z h0 d "com/example/orbweaver/orbweaver/synthesis/Diagrams" "terms" "I" (.int 0)) (F_limit : Fld Z h0 d "com/example/orbweaver/orbweaver/synthesis/Diagrams" "limit" "I" (.int 0)) (F_level : Fld Z h0 d "com/example/orbweaver/orbweaver/synthesis/Diagrams" "level" "[I" .null) (F_low : Fld Z h0 d "com/example/orbweaver/orbweaver/synthesis/Diagrams" "low" "[I" .null) (F_high : Fld Z h0 d "com/example/orbweaver/orbweaver/synthesis/Diagrams" "high" "[I" .null) (F_size : Fld Z h0 d "com/example/orbweaver/orbweaver/synthesis/Diagrams" "size" "I" (.int 0)) (F_unique : Fld Z h0 d "com/example/orbweaver/orbweaver/synthesis/Diagrams" "unique" "[I" .null) (F_cache : Fld Z h0 d "com/example/orbweaver/orbweaver/synthesis/Diagrams" "cache" "[I" .null) (gn_d : n0 ≤ d) : own_Met l Z ⟨"com/example/orbweaver/orbweaver/synthesis/Diagrams", "<init>", "(III)V"⟩ prog_81_method_2_code 4 none [] ({ frames := 2, cells := 9, slots := 41345, locals := 27 } : Room) #[.ref d, .int p1, .int p2, .int p3] h0 n0 (fun v h => v = none ∧ (∃ al ao ah au ac aw ar, own_Dg Z n0 h d al ao ah au ac aw ar p3 2 [(1, p2), (0, p2)] [(1, 1)] [(1, 1)] [] [] [] []) ∧ Keep h0 h [d]) := by
  refine own_body (plainFor_of_name own_pn_Diagrams) ?_
  intro p e s m below meth c T0 X0 hx hby hml hown hnm hZ e0 hret hlk
  have N0 := Fr.nil n0
  have K0 : Keep h0 h0 [d] := Keep.refl _ _
  have Z0 : n0 ≤ h0.size := Nat.le_trans gn_d (Nat.le_of_lt E0.lt)
  refine own_cast (own_ef_dinit m d p1 p2 p3) ?_
  refine own_aloadN X0 hx (hb hby d_dinit_0) rfl rfl 1 rfl ?_
  refine own_initO X0 hx hZ hown (own_w7 hw) (own_w8 hw) (own_w9 hw) e0 (by rw [hml]; rfl) (hb hby d_dinit_1) 0 (by decide) (Nat.le_of_eq rfl) (by decide) 4 rfl (fun T1 X1 e1 => ?_)
  refine own_aloadN X1 hx (hb hby d_dinit_4) rfl rfl 5 rfl ?_
  refine own_newO X1 hx hZ hown (own_w10 hw) (own_w11 hw) (own_w12 hw) e1 (hb hby d_dinit_5) (by decide) (by decide) 8 rfl (fun T2 h2 b2 g2 X2 e2 E2 B2 D2 => ?_)
  have o_d_b2 : d < b2 := Nat.lt_of_lt_of_eq E0.lt g2.symm
  have gn_b2 : n0 ≤ b2 := Nat.le_trans Z0 (Nat.le_of_eq g2.symm)
  have sz_b2 : h0.size ≤ b2 := Nat.le_trans K0.1 (Nat.le_of_eq g2.symm)
  have E0_2 := E0.ext E2
  have K0_2 := K0.ext E2
  have Z0_2 := Nat.le_trans Z0 E2.1
  have F_logic_2 := F_logic.ext E2
  have F_sets_2 := F_sets.ext E2
  have F_work_2 := F_work.ext E2
  have F_results_2 := F_results.ext E2
  have F_variables_2 := F_variables.ext E2
  have F_terms_2 := F_terms.ext E2
  have F_limit_2 := F_limit.ext E2
  have F_level_2 := F_level.ext E2
  have F_low_2 := F_low.ext E2
  have F_high_2 := F_high.ext E2
  have F_size_2 := F_size.ext E2
  have F_unique_2 := F_unique.ext E2
  have F_cache_2 := F_cache.ext E2
  have F_this_0_b2_2 : Fld Z h2 b2 "com/example/orbweaver/orbweaver/synthesis/Diagrams$1" "this$0" "Lcom/example/orbweaver/orbweaver/synthesis/Diagrams;" .null := D2 (Or.inr (own_w17 hw)) (ty := (.object "com/example/orbweaver/orbweaver/synthesis/Diagrams")) (by decide)
  refine own_dup X2 hx (hb hby d_dinit_8) rfl 9 rfl ?_
  refine own_aloadN X2 hx (hb hby d_dinit_9) rfl rfl 10 rfl ?_
  refine own_callI X2 hx hZ hown rfl (own_w13 hw) (own_w14 hw) (own_w12 hw) (own_w15 hw) (by decide) 2 (own_m_d1init l Z a0 hw _ n0 B2 F_this_0_b2_2 gn_b2) e2 (by rw [hml]; rfl) b2 [(.ref d)] [(.ref b2), (.ref d)] rfl (lenOf own_pd_0 rfl) rfl (Nat.le_of_eq rfl) (by decide) (by decide) (by decide) (by decide) (hb hby d_dinit_10) N0 13 rfl (fun v3 T3 l3 X3 N3 hP3 => ?_)
  obtain ⟨rfl, K3'⟩ := hP3
  have E0_3 := E0_2.keep K3'
  have K0_3 := K0_2.trans K3' (allS (Or.inr sz_b2) all0)
  have Z0_3 := Nat.le_trans Z0_2 K3'.1
  have F_logic_3 := F_logic_2.keep K3' (ninS (Nat.ne_of_lt o_d_b2) nin0)
  have F_sets_3 := F_sets_2.keep K3' (ninS (Nat.ne_of_lt o_d_b2) nin0)
  have F_work_3 := F_work_2.keep K3' (ninS (Nat.ne_of_lt o_d_b2) nin0)
  have F_results_3 := F_results_2.keep K3' (ninS (Nat.ne_of_lt o_d_b2) nin0)
  have F_variables_3 := F_variables_2.keep K3' (ninS (Nat.ne_of_lt o_d_b2) nin0)
  have F_terms_3 := F_terms_2.keep K3' (ninS (Nat.ne_of_lt o_d_b2) nin0)
  have F_limit_3 := F_limit_2.keep K3' (ninS (Nat.ne_of_lt o_d_b2) nin0)
  have F_level_3 := F_level_2.keep K3' (ninS (Nat.ne_of_lt o_d_b2) nin0)
  have F_low_3 := F_low_2.keep K3' (ninS (Nat.ne_of_lt o_d_b2) nin0)
  have F_high_3 := F_high_2.keep K3' (ninS (Nat.ne_of_lt o_d_b2) nin0)
  have F_size_3 := F_size_2.keep K3' (ninS (Nat.ne_of_lt o_d_b2) nin0)
  have F_unique_3 := F_unique_2.keep K3' (ninS (Nat.ne_of_lt o_d_b2) nin0)
  have F_cache_3 := F_cache_2.keep K3' (ninS (Nat.ne_of_lt o_d_b2) nin0)
  have B2_3 := B2.keep K3'
  show own_G p e below _ (T3.setTop (mkF m 13 #[.val (.ref d), .val (.int p1), .val (.int p2), .val (.int p3)] [(.ref b2), (.ref d)]))
  refine own_putF X3 hx hZ hown (own_w19 hw) rfl F_logic_3 E0_3 (Or.inr ⟨(own_w20 hw), rfl, hnm⟩) (own_w2 hw) (ty := (.object "com/example/orbweaver/orbweaver/spec/Logic")) (by decide) rfl rfl (hb hby d_dinit_13) N3 gn_d 16 rfl (fun T4 h4 l4 X4 N4 e4 W4 => ?_)
  have E0_4 := E0_3.wr W4
  have K0_4 := K0_3.wr W4 (Or.inl (List.mem_of_getElem? (i := 0) rfl))
  have Z0_4 := Nat.le_trans Z0_3 (Nat.le_of_eq W4.size.symm)
  have F_logic_4 := F_logic_3.same W4
  have F_sets_4 := F_sets_3.other W4 (Or.inr (slot_ne (Or.inl (own_w24 hw)) (Or.inr (own_w20 hw)) (by decide) (t := (.array (.object "com/example/orbweaver/orbweaver/synthesis/Valuations"))) (t' := (.object "com/example/orbweaver/orbweaver/spec/Logic")) (by decide) (by decide)))
  have F_work_4 := F_work_3.other W4 (Or.inr (slot_ne (Or.inl (own_w27 hw)) (Or.inr (own_w20 hw)) (by decide) (t := (.array .int)) (t' := (.object "com/example/orbweaver/orbweaver/spec/Logic")) (by decide) (by decide)))
  have F_results_4 := F_results_3.other W4 (Or.inr (slot_ne (Or.inl (own_w29 hw)) (Or.inr (own_w20 hw)) (by decide) (t := (.array .int)) (t' := (.object "com/example/orbweaver/orbweaver/spec/Logic")) (by decide) (by decide)))
  have F_variables_4 := F_variables_3.other W4 (Or.inr (slot_ne (Or.inr (own_w31 hw)) (Or.inr (own_w20 hw)) (by decide) (t := .int) (t' := (.object "com/example/orbweaver/orbweaver/spec/Logic")) (by decide) (by decide)))
  have F_terms_4 := F_terms_3.other W4 (Or.inr (slot_ne (Or.inr (own_w33 hw)) (Or.inr (own_w20 hw)) (by decide) (t := .int) (t' := (.object "com/example/orbweaver/orbweaver/spec/Logic")) (by decide) (by decide)))
  have F_limit_4 := F_limit_3.other W4 (Or.inr (slot_ne (Or.inl (own_w35 hw)) (Or.inr (own_w20 hw)) (by decide) (t := .int) (t' := (.object "com/example/orbweaver/orbweaver/spec/Logic")) (by decide) (by decide)))
  have F_level_4 := F_level_3.other W4 (Or.inr (slot_ne (Or.inl (own_w37 hw)) (Or.inr (own_w20 hw)) (by decide) (t := (.array .int)) (t' := (.object "com/example/orbweaver/orbweaver/spec/Logic")) (by decide) (by decide)))
  have F_low_4 := F_low_3.other W4 (Or.inr (slot_ne (Or.inl (own_w39 hw)) (Or.inr (own_w20 hw)) (by decide) (t := (.array .int)) (t' := (.object "com/example/orbweaver/orbweaver/spec/Logic")) (by decide) (by decide)))
  have F_high_4 := F_high_3.other W4 (Or.inr (slot_ne (Or.inl (own_w41 hw)) (Or.inr (own_w20 hw)) (by decide) (t := (.array .int)) (t' := (.object "com/example/orbweaver/orbweaver/spec/Logic")) (by decide) (by decide)))
  have F_size_4 := F_size_3.other W4 (Or.inr (slot_ne (Or.inl (own_w43 hw)) (Or.inr (own_w20 hw)) (by decide) (t := .int) (t' := (.object "com/example/orbweaver/orbweaver/spec/Logic")) (by decide) (by decide)))
  have F_unique_4 := F_unique_3.other W4 (Or.inr (slot_ne (Or.inl (own_w45 hw)) (Or.inr (own_w20 hw)) (by decide) (t := (.array .int)) (t' := (.object "com/example/orbweaver/orbweaver/spec/Logic")) (by decide) (by decide)))
  have F_cache_4 := F_cache_3.other W4 (Or.inr (slot_ne (Or.inl (own_w47 hw)) (Or.inr (own_w20 hw)) (by decide) (t := (.array .int)) (t' := (.object "com/example/orbweaver/orbweaver/spec/Logic")) (by decide) (by decide)))
  have B2_4 := B2_3.wr W4
  refine own_aloadN X4 hx (hb hby d_dinit_16) rfl rfl 17 rfl ?_
  refine own_sipush X4 hx (z := (4096 : Int32)) (hb hby d_dinit_17) rfl 20 rfl ?_
  refine own_newR X4 hx hZ hown (own_w21 hw) (own_w22 hw) e4 (hb hby d_dinit_20) (by decide) 4096 (by decide) (by decide) (by decide) (by decide) 23 rfl (fun T5 h5 cA5 b5 g5 X5 e5 E5 B5 => ?_)
  have o_d_b5 : d < b5 := Nat.lt_of_lt_of_eq E0_4.lt g5.symm
  have o_b2_b5 : b2 < b5 := Nat.lt_of_lt_of_eq B2_4.lt g5.symm
  have gn_b5 : n0 ≤ b5 := Nat.le_trans Z0_4 (Nat.le_of_eq g5.symm)
  have sz_b5 : h0.size ≤ b5 := Nat.le_trans K0_4.1 (Nat.le_of_eq g5.symm)
  have E0_5 := E0_4.ext E5
  have K0_5 := K0_4.ext E5
  have Z0_5 := Nat.le_trans Z0_4 E5.1
  have F_logic_5 := F_logic_4.ext E5
  have F_sets_5 := F_sets_4.ext E5
  have F_work_5 := F_work_4.ext E5
  have F_results_5 := F_results_4.ext E5
  have F_variables_5 := F_variables_4.ext E5
  have F_terms_5 := F_terms_4.ext E5
  have F_limit_5 := F_limit_4.ext E5
  have F_level_5 := F_level_4.ext E5
  have F_low_5 := F_low_4.ext E5
  have F_high_5 := F_high_4.ext E5
  have F_size_5 := F_size_4.ext E5
  have F_unique_5 := F_unique_4.ext E5
  have F_cache_5 := F_cache_4.ext E5
  have B2_5 := B2_4.ext E5
  refine own_putF X5 hx hZ hown (own_w23 hw) e5 F_sets_5 E0_5 (Or.inl (own_w24 hw)) (own_w2 hw) (ty := (.array (.object "com/example/orbweaver/orbweaver/synthesis/Valuations"))) (by decide) rfl rfl (hb hby d_dinit_23) N4 gn_d 26 rfl (fun T6 h6 l6 X6 N6 e6 W6 => ?_)
  have E0_6 := E0_5.wr W6
  have K0_6 := K0_5.wr W6 (Or.inl (List.mem_of_getElem? (i := 0) rfl))
  have Z0_6 := Nat.le_trans Z0_5 (Nat.le_of_eq W6.size.symm)
  have F_logic_6 := F_logic_5.other W6 (Or.inr (slot_ne (Or.inr (own_w20 hw)) (Or.inl (own_w24 hw)) (by decide) (t := (.object "com/example/orbweaver/orbweaver/spec/Logic")) (t' := (.array (.object "com/example/orbweaver/orbweaver/synthesis/Valuations"))) (by decide) (by decide)))
  have F_sets_6 := F_sets_5.same W6
  have F_work_6 := F_work_5.other W6 (Or.inr (slot_ne (Or.inl (own_w27 hw)) (Or.inl (own_w24 hw)) (by decide) (t := (.array .int)) (t' := (.array (.object "com/example/orbweaver/orbweaver/synthesis/Valuations"))) (by decide) (by decide)))
  have F_results_6 := F_results_5.other W6 (Or.inr (slot_ne (Or.inl (own_w29 hw)) (Or.inl (own_w24 hw)) (by decide) (t := (.array .int)) (t' := (.array (.object "com/example/orbweaver/orbweaver/synthesis/Valuations"))) (by decide) (by decide)))
  have F_variables_6 := F_variables_5.other W6 (Or.inr (slot_ne (Or.inr (own_w31 hw)) (Or.inl (own_w24 hw)) (by decide) (t := .int) (t' := (.array (.object "com/example/orbweaver/orbweaver/synthesis/Valuations"))) (by decide) (by decide)))
  have F_terms_6 := F_terms_5.other W6 (Or.inr (slot_ne (Or.inr (own_w33 hw)) (Or.inl (own_w24 hw)) (by decide) (t := .int) (t' := (.array (.object "com/example/orbweaver/orbweaver/synthesis/Valuations"))) (by decide) (by decide)))
  have F_limit_6 := F_limit_5.other W6 (Or.inr (slot_ne (Or.inl (own_w35 hw)) (Or.inl (own_w24 hw)) (by decide) (t := .int) (t' := (.array (.object "com/example/orbweaver/orbweaver/synthesis/Valuations"))) (by decide) (by decide)))
  have F_level_6 := F_level_5.other W6 (Or.inr (slot_ne (Or.inl (own_w37 hw)) (Or.inl (own_w24 hw)) (by decide) (t := (.array .int)) (t' := (.array (.object "com/example/orbweaver/orbweaver/synthesis/Valuations"))) (by decide) (by decide)))
  have F_low_6 := F_low_5.other W6 (Or.inr (slot_ne (Or.inl (own_w39 hw)) (Or.inl (own_w24 hw)) (by decide) (t := (.array .int)) (t' := (.array (.object "com/example/orbweaver/orbweaver/synthesis/Valuations"))) (by decide) (by decide)))
  have F_high_6 := F_high_5.other W6 (Or.inr (slot_ne (Or.inl (own_w41 hw)) (Or.inl (own_w24 hw)) (by decide) (t := (.array .int)) (t' := (.array (.object "com/example/orbweaver/orbweaver/synthesis/Valuations"))) (by decide) (by decide)))
  have F_size_6 := F_size_5.other W6 (Or.inr (slot_ne (Or.inl (own_w43 hw)) (Or.inl (own_w24 hw)) (by decide) (t := .int) (t' := (.array (.object "com/example/orbweaver/orbweaver/synthesis/Valuations"))) (by decide) (by decide)))
  have F_unique_6 := F_unique_5.other W6 (Or.inr (slot_ne (Or.inl (own_w45 hw)) (Or.inl (own_w24 hw)) (by decide) (t := (.array .int)) (t' := (.array (.object "com/example/orbweaver/orbweaver/synthesis/Valuations"))) (by decide) (by decide)))
  have F_cache_6 := F_cache_5.other W6 (Or.inr (slot_ne (Or.inl (own_w47 hw)) (Or.inl (own_w24 hw)) (by decide) (t := (.array .int)) (t' := (.array (.object "com/example/orbweaver/orbweaver/synthesis/Valuations"))) (by decide) (by decide)))
  have B2_6 := B2_5.wr W6
  refine own_aloadN X6 hx (hb hby d_dinit_26) rfl rfl 27 rfl ?_
  refine own_sipush X6 hx (z := (320 : Int32)) (hb hby d_dinit_27) rfl 30 rfl ?_
  refine own_newP (aty := .int) X6 hx hZ (own_w25 hw) e6 (hb hby d_dinit_30) (by decide) 320 (by decide) (by decide) (by decide) (by decide) 32 rfl (fun T7 h7 cA7 b7 g7 X7 e7 E7 B7 => ?_)
  have o_d_b7 : d < b7 := Nat.lt_of_lt_of_eq E0_6.lt g7.symm
  have o_b2_b7 : b2 < b7 := Nat.lt_of_lt_of_eq B2_6.lt g7.symm
  have gn_b7 : n0 ≤ b7 := Nat.le_trans Z0_6 (Nat.le_of_eq g7.symm)
  have sz_b7 : h0.size ≤ b7 := Nat.le_trans K0_6.1 (Nat.le_of_eq g7.symm)
  have E0_7 := E0_6.ext E7
  have K0_7 := K0_6.ext E7
  have Z0_7 := Nat.le_trans Z0_6 E7.1
  have F_logic_7 := F_logic_6.ext E7
  have F_sets_7 := F_sets_6.ext E7
  have F_work_7 := F_work_6.ext E7
  have F_results_7 := F_results_6.ext E7
  have F_variables_7 := F_variables_6.ext E7
  have F_terms_7 := F_terms_6.ext E7
  have F_limit_7 := F_limit_6.ext E7
  have F_level_7 := F_level_6.ext E7
  have F_low_7 := F_low_6.ext E7
  have F_high_7 := F_high_6.ext E7
  have F_size_7 := F_size_6.ext E7
  have F_unique_7 := F_unique_6.ext E7
  have F_cache_7 := F_cache_6.ext E7
  have B2_7 := B2_6.ext E7
  have A_b7_7 : own_A Z h7 b7 .int 320 (fun _ => 0) := own_A.new B7 (by decide) rfl
  refine own_putF X7 hx hZ hown (own_w26 hw) e7 F_work_7 E0_7 (Or.inl (own_w27 hw)) (own_w2 hw) (ty := (.array .int)) (by decide) rfl rfl (hb hby d_dinit_32) N6 gn_d 35 rfl (fun T8 h8 l8 X8 N8 e8 W8 => ?_)
  have E0_8 := E0_7.wr W8
  have K0_8 := K0_7.wr W8 (Or.inl (List.mem_of_getElem? (i := 0) rfl))
  have Z0_8 := Nat.le_trans Z0_7 (Nat.le_of_eq W8.size.symm)
  have F_logic_8 := F_logic_7.other W8 (Or.inr (slot_ne (Or.inr (own_w20 hw)) (Or.inl (own_w27 hw)) (by decide) (t := (.object "com/example/orbweaver/orbweaver/spec/Logic")) (t' := (.array .int)) (by decide) (by decide)))
  have F_sets_8 := F_sets_7.other W8 (Or.inr (slot_ne (Or.inl (own_w24 hw)) (Or.inl (own_w27 hw)) (by decide) (t := (.array (.object "com/example/orbweaver/orbweaver/synthesis/Valuations"))) (t' := (.array .int)) (by decide) (by decide)))
  have F_work_8 := F_work_7.same W8
  have F_results_8 := F_results_7.other W8 (Or.inr (slot_ne (Or.inl (own_w29 hw)) (Or.inl (own_w27 hw)) (by decide) (t := (.array .int)) (t' := (.array .int)) (by decide) (by decide)))
  have F_variables_8 := F_variables_7.other W8 (Or.inr (slot_ne (Or.inr (own_w31 hw)) (Or.inl (own_w27 hw)) (by decide) (t := .int) (t' := (.array .int)) (by decide) (by decide)))
  have F_terms_8 := F_terms_7.other W8 (Or.inr (slot_ne (Or.inr (own_w33 hw)) (Or.inl (own_w27 hw)) (by decide) (t := .int) (t' := (.array .int)) (by decide) (by decide)))
  have F_limit_8 := F_limit_7.other W8 (Or.inr (slot_ne (Or.inl (own_w35 hw)) (Or.inl (own_w27 hw)) (by decide) (t := .int) (t' := (.array .int)) (by decide) (by decide)))
  have F_level_8 := F_level_7.other W8 (Or.inr (slot_ne (Or.inl (own_w37 hw)) (Or.inl (own_w27 hw)) (by decide) (t := (.array .int)) (t' := (.array .int)) (by decide) (by decide)))
  have F_low_8 := F_low_7.other W8 (Or.inr (slot_ne (Or.inl (own_w39 hw)) (Or.inl (own_w27 hw)) (by decide) (t := (.array .int)) (t' := (.array .int)) (by decide) (by decide)))
  have F_high_8 := F_high_7.other W8 (Or.inr (slot_ne (Or.inl (own_w41 hw)) (Or.inl (own_w27 hw)) (by decide) (t := (.array .int)) (t' := (.array .int)) (by decide) (by decide)))
  have F_size_8 := F_size_7.other W8 (Or.inr (slot_ne (Or.inl (own_w43 hw)) (Or.inl (own_w27 hw)) (by decide) (t := .int) (t' := (.array .int)) (by decide) (by decide)))
  have F_unique_8 := F_unique_7.other W8 (Or.inr (slot_ne (Or.inl (own_w45 hw)) (Or.inl (own_w27 hw)) (by decide) (t := (.array .int)) (t' := (.array .int)) (by decide) (by decide)))
  have F_cache_8 := F_cache_7.other W8 (Or.inr (slot_ne (Or.inl (own_w47 hw)) (Or.inl (own_w27 hw)) (by decide) (t := (.array .int)) (t' := (.array .int)) (by decide) (by decide)))
  have B2_8 := B2_7.wr W8
  have A_b7_8 := A_b7_7.other W8 (Nat.ne_of_gt o_d_b7)
  refine own_aloadN X8 hx (hb hby d_dinit_35) rfl rfl 36 rfl ?_
  refine own_bipush X8 hx (z := (64 : Int32)) (hb hby d_dinit_36) rfl 38 rfl ?_
  refine own_newP (aty := .int) X8 hx hZ (own_w25 hw) e8 (hb hby d_dinit_38) (by decide) 64 (by decide) (by decide) (by decide) (by decide) 40 rfl (fun T9 h9 cA9 b9 g9 X9 e9 E9 B9 => ?_)
  have o_d_b9 : d < b9 := Nat.lt_of_lt_of_eq E0_8.lt g9.symm
  have o_b2_b9 : b2 < b9 := Nat.lt_of_lt_of_eq B2_8.lt g9.symm
  have o_b7_b9 : b7 < b9 := Nat.lt_of_lt_of_eq A_b7_8.lt g9.symm
  have gn_b9 : n0 ≤ b9 := Nat.le_trans Z0_8 (Nat.le_of_eq g9.symm)
  have sz_b9 : h0.size ≤ b9 := Nat.le_trans K0_8.1 (Nat.le_of_eq g9.symm)
  have E0_9 := E0_8.ext E9
  have K0_9 := K0_8.ext E9
  have Z0_9 := Nat.le_trans Z0_8 E9.1
  have F_logic_9 := F_logic_8.ext E9
  have F_sets_9 := F_sets_8.ext E9
  have F_work_9 := F_work_8.ext E9
  have F_results_9 := F_results_8.ext E9
  have F_variables_9 := F_variables_8.ext E9
  have F_terms_9 := F_terms_8.ext E9
  have F_limit_9 := F_limit_8.ext E9
  have F_level_9 := F_level_8.ext E9
  have F_low_9 := F_low_8.ext E9
  have F_high_9 := F_high_8.ext E9
  have F_size_9 := F_size_8.ext E9
  have F_unique_9 := F_unique_8.ext E9
  have F_cache_9 := F_cache_8.ext E9
  have B2_9 := B2_8.ext E9
  have A_b7_9 := A_b7_8.ext E9
  have A_b9_9 : own_A Z h9 b9 .int 64 (fun _ => 0) := own_A.new B9 (by decide) rfl
  refine own_putF X9 hx hZ hown (own_w28 hw) e9 F_results_9 E0_9 (Or.inl (own_w29 hw)) (own_w2 hw) (ty := (.array .int)) (by decide) rfl rfl (hb hby d_dinit_40) N8 gn_d 43 rfl (fun T10 h10 l10 X10 N10 e10 W10 => ?_)
  have E0_10 := E0_9.wr W10
  have K0_10 := K0_9.wr W10 (Or.inl (List.mem_of_getElem? (i := 0) rfl))
  have Z0_10 := Nat.le_trans Z0_9 (Nat.le_of_eq W10.size.symm)
  have F_logic_10 := F_logic_9.other W10 (Or.inr (slot_ne (Or.inr (own_w20 hw)) (Or.inl (own_w29 hw)) (by decide) (t := (.object "com/example/orbweaver/orbweaver/spec/Logic")) (t' := (.array .int)) (by decide) (by decide)))
  have F_sets_10 := F_sets_9.other W10 (Or.inr (slot_ne (Or.inl (own_w24 hw)) (Or.inl (own_w29 hw)) (by decide) (t := (.array (.object "com/example/orbweaver/orbweaver/synthesis/Valuations"))) (t' := (.array .int)) (by decide) (by decide)))
  have F_work_10 := F_work_9.other W10 (Or.inr (slot_ne (Or.inl (own_w27 hw)) (Or.inl (own_w29 hw)) (by decide) (t := (.array .int)) (t' := (.array .int)) (by decide) (by decide)))
  have F_results_10 := F_results_9.same W10
  have F_variables_10 := F_variables_9.other W10 (Or.inr (slot_ne (Or.inr (own_w31 hw)) (Or.inl (own_w29 hw)) (by decide) (t := .int) (t' := (.array .int)) (by decide) (by decide)))
  have F_terms_10 := F_terms_9.other W10 (Or.inr (slot_ne (Or.inr (own_w33 hw)) (Or.inl (own_w29 hw)) (by decide) (t := .int) (t' := (.array .int)) (by decide) (by decide)))
  have F_limit_10 := F_limit_9.other W10 (Or.inr (slot_ne (Or.inl (own_w35 hw)) (Or.inl (own_w29 hw)) (by decide) (t := .int) (t' := (.array .int)) (by decide) (by decide)))
  have F_level_10 := F_level_9.other W10 (Or.inr (slot_ne (Or.inl (own_w37 hw)) (Or.inl (own_w29 hw)) (by decide) (t := (.array .int)) (t' := (.array .int)) (by decide) (by decide)))
  have F_low_10 := F_low_9.other W10 (Or.inr (slot_ne (Or.inl (own_w39 hw)) (Or.inl (own_w29 hw)) (by decide) (t := (.array .int)) (t' := (.array .int)) (by decide) (by decide)))
  have F_high_10 := F_high_9.other W10 (Or.inr (slot_ne (Or.inl (own_w41 hw)) (Or.inl (own_w29 hw)) (by decide) (t := (.array .int)) (t' := (.array .int)) (by decide) (by decide)))
  have F_size_10 := F_size_9.other W10 (Or.inr (slot_ne (Or.inl (own_w43 hw)) (Or.inl (own_w29 hw)) (by decide) (t := .int) (t' := (.array .int)) (by decide) (by decide)))
  have F_unique_10 := F_unique_9.other W10 (Or.inr (slot_ne (Or.inl (own_w45 hw)) (Or.inl (own_w29 hw)) (by decide) (t := (.array .int)) (t' := (.array .int)) (by decide) (by decide)))
  have F_cache_10 := F_cache_9.other W10 (Or.inr (slot_ne (Or.inl (own_w47 hw)) (Or.inl (own_w29 hw)) (by decide) (t := (.array .int)) (t' := (.array .int)) (by decide) (by decide)))
  have B2_10 := B2_9.wr W10
  have A_b7_10 := A_b7_9.other W10 (Nat.ne_of_gt o_d_b7)
  have A_b9_10 := A_b9_9.other W10 (Nat.ne_of_gt o_d_b9)
  refine own_aloadN X10 hx (hb hby d_dinit_43) rfl rfl 44 rfl ?_
  refine own_iloadN X10 hx (hb hby d_dinit_44) rfl 45 rfl ?_
  refine own_putF X10 hx hZ hown (own_w30 hw) e10 F_variables_10 E0_10 (Or.inr ⟨(own_w31 hw), rfl, hnm⟩) (own_w2 hw) (ty := .int) (by decide) rfl rfl (hb hby d_dinit_45) N10 gn_d 48 rfl (fun T11 h11 l11 X11 N11 e11 W11 => ?_)
  have E0_11 := E0_10.wr W11
  have K0_11 := K0_10.wr W11 (Or.inl (List.mem_of_getElem? (i := 0) rfl))
  have Z0_11 := Nat.le_trans Z0_10 (Nat.le_of_eq W11.size.symm)
  have F_logic_11 := F_logic_10.other W11 (Or.inr (slot_ne (Or.inr (own_w20 hw)) (Or.inr (own_w31 hw)) (by decide) (t := (.object "com/example/orbweaver/orbweaver/spec/Logic")) (t' := .int) (by decide) (by decide)))
  have F_sets_11 := F_sets_10.other W11 (Or.inr (slot_ne (Or.inl (own_w24 hw)) (Or.inr (own_w31 hw)) (by decide) (t := (.array (.object "com/example/orbweaver/orbweaver/synthesis/Valuations"))) (t' := .int) (by decide) (by decide)))
  have F_work_11 := F_work_10.other W11 (Or.inr (slot_ne (Or.inl (own_w27 hw)) (Or.inr (own_w31 hw)) (by decide) (t := (.array .int)) (t' := .int) (by decide) (by decide)))
  have F_results_11 := F_results_10.other W11 (Or.inr (slot_ne (Or.inl (own_w29 hw)) (Or.inr (own_w31 hw)) (by decide) (t := (.array .int)) (t' := .int) (by decide) (by decide)))
  have F_variables_11 := F_variables_10.same W11
  have F_terms_11 := F_terms_10.other W11 (Or.inr (slot_ne (Or.inr (own_w33 hw)) (Or.inr (own_w31 hw)) (by decide) (t := .int) (t' := .int) (by decide) (by decide)))
  have F_limit_11 := F_limit_10.other W11 (Or.inr (slot_ne (Or.inl (own_w35 hw)) (Or.inr (own_w31 hw)) (by decide) (t := .int) (t' := .int) (by decide) (by decide)))
  have F_level_11 := F_level_10.other W11 (Or.inr (slot_ne (Or.inl (own_w37 hw)) (Or.inr (own_w31 hw)) (by decide) (t := (.array .int)) (t' := .int) (by decide) (by decide)))
  have F_low_11 := F_low_10.other W11 (Or.inr (slot_ne (Or.inl (own_w39 hw)) (Or.inr (own_w31 hw)) (by decide) (t := (.array .int)) (t' := .int) (by decide) (by decide)))
  have F_high_11 := F_high_10.other W11 (Or.inr (slot_ne (Or.inl (own_w41 hw)) (Or.inr (own_w31 hw)) (by decide) (t := (.array .int)) (t' := .int) (by decide) (by decide)))
  have F_size_11 := F_size_10.other W11 (Or.inr (slot_ne (Or.inl (own_w43 hw)) (Or.inr (own_w31 hw)) (by decide) (t := .int) (t' := .int) (by decide) (by decide)))
  have F_unique_11 := F_unique_10.other W11 (Or.inr (slot_ne (Or.inl (own_w45 hw)) (Or.inr (own_w31 hw)) (by decide) (t := (.array .int)) (t' := .int) (by decide) (by decide)))
  have F_cache_11 := F_cache_10.other W11 (Or.inr (slot_ne (Or.inl (own_w47 hw)) (Or.inr (own_w31 hw)) (by decide) (t := (.array .int)) (t' := .int) (by decide) (by decide)))
  have B2_11 := B2_10.wr W11
  have A_b7_11 := A_b7_10.other W11 (Nat.ne_of_gt o_d_b7)
  have A_b9_11 := A_b9_10.other W11 (Nat.ne_of_gt o_d_b9)
  refine own_aloadN X11 hx (hb hby d_dinit_48) rfl rfl 49 rfl ?_
  refine own_iloadN X11 hx (hb hby d_dinit_49) rfl 50 rfl ?_
  refine own_putF X11 hx hZ hown (own_w32 hw) e11 F_terms_11 E0_11 (Or.inr ⟨(own_w33 hw), rfl, hnm⟩) (own_w2 hw) (ty := .int) (by decide) rfl rfl (hb hby d_dinit_50) N11 gn_d 53 rfl (fun T12 h12 l12 X12 N12 e12 W12 => ?_)
  have E0_12 := E0_11.wr W12
  have K0_12 := K0_11.wr W12 (Or.inl (List.mem_of_getElem? (i := 0) rfl))
  have Z0_12 := Nat.le_trans Z0_11 (Nat.le_of_eq W12.size.symm)
  have F_logic_12 := F_logic_11.other W12 (Or.inr (slot_ne (Or.inr (own_w20 hw)) (Or.inr (own_w33 hw)) (by decide) (t := (.object "com/example/orbweaver/orbweaver/spec/Logic")) (t' := .int) (by decide) (by decide)))
  have F_sets_12 := F_sets_11.other W12 (Or.inr (slot_ne (Or.inl (own_w24 hw)) (Or.inr (own_w33 hw)) (by decide) (t := (.array (.object "com/example/orbweaver/orbweaver/synthesis/Valuations"))) (t' := .int) (by decide) (by decide)))
  have F_work_12 := F_work_11.other W12 (Or.inr (slot_ne (Or.inl (own_w27 hw)) (Or.inr (own_w33 hw)) (by decide) (t := (.array .int)) (t' := .int) (by decide) (by decide)))
  have F_results_12 := F_results_11.other W12 (Or.inr (slot_ne (Or.inl (own_w29 hw)) (Or.inr (own_w33 hw)) (by decide) (t := (.array .int)) (t' := .int) (by decide) (by decide)))
  have F_variables_12 := F_variables_11.other W12 (Or.inr (slot_ne (Or.inr (own_w31 hw)) (Or.inr (own_w33 hw)) (by decide) (t := .int) (t' := .int) (by decide) (by decide)))
  have F_terms_12 := F_terms_11.same W12
  have F_limit_12 := F_limit_11.other W12 (Or.inr (slot_ne (Or.inl (own_w35 hw)) (Or.inr (own_w33 hw)) (by decide) (t := .int) (t' := .int) (by decide) (by decide)))
  have F_level_12 := F_level_11.other W12 (Or.inr (slot_ne (Or.inl (own_w37 hw)) (Or.inr (own_w33 hw)) (by decide) (t := (.array .int)) (t' := .int) (by decide) (by decide)))
  have F_low_12 := F_low_11.other W12 (Or.inr (slot_ne (Or.inl (own_w39 hw)) (Or.inr (own_w33 hw)) (by decide) (t := (.array .int)) (t' := .int) (by decide) (by decide)))
  have F_high_12 := F_high_11.other W12 (Or.inr (slot_ne (Or.inl (own_w41 hw)) (Or.inr (own_w33 hw)) (by decide) (t := (.array .int)) (t' := .int) (by decide) (by decide)))
  have F_size_12 := F_size_11.other W12 (Or.inr (slot_ne (Or.inl (own_w43 hw)) (Or.inr (own_w33 hw)) (by decide) (t := .int) (t' := .int) (by decide) (by decide)))
  have F_unique_12 := F_unique_11.other W12 (Or.inr (slot_ne (Or.inl (own_w45 hw)) (Or.inr (own_w33 hw)) (by decide) (t := (.array .int)) (t' := .int) (by decide) (by decide)))
  have F_cache_12 := F_cache_11.other W12 (Or.inr (slot_ne (Or.inl (own_w47 hw)) (Or.inr (own_w33 hw)) (by decide) (t := (.array .int)) (t' := .int) (by decide) (by decide)))
  have B2_12 := B2_11.wr W12
  have A_b7_12 := A_b7_11.other W12 (Nat.ne_of_gt o_d_b7)
  have A_b9_12 := A_b9_11.other W12 (Nat.ne_of_gt o_d_b9)
  refine own_aloadN X12 hx (hb hby d_dinit_53) rfl rfl 54 rfl ?_
  refine own_iloadN X12 hx (hb hby d_dinit_54) rfl 55 rfl ?_
  refine own_putF X12 hx hZ hown (own_w34 hw) e12 F_limit_12 E0_12 (Or.inl (own_w35 hw)) (own_w2 hw) (ty := .int) (by decide) rfl rfl (hb hby d_dinit_55) N12 gn_d 58 rfl (fun T13 h13 l13 X13 N13 e13 W13 => ?_)
  have E0_13 := E0_12.wr W13
  have K0_13 := K0_12.wr W13 (Or.inl (List.mem_of_getElem? (i := 0) rfl))
  have Z0_13 := Nat.le_trans Z0_12 (Nat.le_of_eq W13.size.symm)
  have F_logic_13 := F_logic_12.other W13 (Or.inr (slot_ne (Or.inr (own_w20 hw)) (Or.inl (own_w35 hw)) (by decide) (t := (.object "com/example/orbweaver/orbweaver/spec/Logic")) (t' := .int) (by decide) (by decide)))
  have F_sets_13 := F_sets_12.other W13 (Or.inr (slot_ne (Or.inl (own_w24 hw)) (Or.inl (own_w35 hw)) (by decide) (t := (.array (.object "com/example/orbweaver/orbweaver/synthesis/Valuations"))) (t' := .int) (by decide) (by decide)))
  have F_work_13 := F_work_12.other W13 (Or.inr (slot_ne (Or.inl (own_w27 hw)) (Or.inl (own_w35 hw)) (by decide) (t := (.array .int)) (t' := .int) (by decide) (by decide)))
  have F_results_13 := F_results_12.other W13 (Or.inr (slot_ne (Or.inl (own_w29 hw)) (Or.inl (own_w35 hw)) (by decide) (t := (.array .int)) (t' := .int) (by decide) (by decide)))
  have F_variables_13 := F_variables_12.other W13 (Or.inr (slot_ne (Or.inr (own_w31 hw)) (Or.inl (own_w35 hw)) (by decide) (t := .int) (t' := .int) (by decide) (by decide)))
  have F_terms_13 := F_terms_12.other W13 (Or.inr (slot_ne (Or.inr (own_w33 hw)) (Or.inl (own_w35 hw)) (by decide) (t := .int) (t' := .int) (by decide) (by decide)))
  have F_limit_13 := F_limit_12.same W13
  have F_level_13 := F_level_12.other W13 (Or.inr (slot_ne (Or.inl (own_w37 hw)) (Or.inl (own_w35 hw)) (by decide) (t := (.array .int)) (t' := .int) (by decide) (by decide)))
  have F_low_13 := F_low_12.other W13 (Or.inr (slot_ne (Or.inl (own_w39 hw)) (Or.inl (own_w35 hw)) (by decide) (t := (.array .int)) (t' := .int) (by decide) (by decide)))
  have F_high_13 := F_high_12.other W13 (Or.inr (slot_ne (Or.inl (own_w41 hw)) (Or.inl (own_w35 hw)) (by decide) (t := (.array .int)) (t' := .int) (by decide) (by decide)))
  have F_size_13 := F_size_12.other W13 (Or.inr (slot_ne (Or.inl (own_w43 hw)) (Or.inl (own_w35 hw)) (by decide) (t := .int) (t' := .int) (by decide) (by decide)))
  have F_unique_13 := F_unique_12.other W13 (Or.inr (slot_ne (Or.inl (own_w45 hw)) (Or.inl (own_w35 hw)) (by decide) (t := (.array .int)) (t' := .int) (by decide) (by decide)))
  have F_cache_13 := F_cache_12.other W13 (Or.inr (slot_ne (Or.inl (own_w47 hw)) (Or.inl (own_w35 hw)) (by decide) (t := (.array .int)) (t' := .int) (by decide) (by decide)))
  have B2_13 := B2_12.wr W13
  have A_b7_13 := A_b7_12.other W13 (Nat.ne_of_gt o_d_b7)
  have A_b9_13 := A_b9_12.other W13 (Nat.ne_of_gt o_d_b9)
  refine own_aloadN X13 hx (hb hby d_dinit_58) rfl rfl 59 rfl ?_
  refine own_sipush X13 hx (z := (4096 : Int32)) (hb hby d_dinit_59) rfl 62 rfl ?_
  refine own_newP (aty := .int) X13 hx hZ (own_w25 hw) e13 (hb hby d_dinit_62) (by decide) 4096 (by decide) (by decide) (by decide) (by decide) 64 rfl (fun T14 h14 cA14 b14 g14 X14 e14 E14 B14 => ?_)
  have o_d_b14 : d < b14 := Nat.lt_of_lt_of_eq E0_13.lt g14.symm
  have o_b2_b14 : b2 < b14 := Nat.lt_of_lt_of_eq B2_13.lt g14.symm
  have o_b7_b14 : b7 < b14 := Nat.lt_of_lt_of_eq A_b7_13.lt g14.symm
  have o_b9_b14 : b9 < b14 := Nat.lt_of_lt_of_eq A_b9_13.lt g14.symm
  have gn_b14 : n0 ≤ b14 := Nat.le_trans Z0_13 (Nat.le_of_eq g14.symm)
  have sz_b14 : h0.size ≤ b14 := Nat.le_trans K0_13.1 (Nat.le_of_eq g14.symm)
  have E0_14 := E0_13.ext E14
  have K0_14 := K0_13.ext E14
  have Z0_14 := Nat.le_trans Z0_13 E14.1
  have F_logic_14 := F_logic_13.ext E14
  have F_sets_14 := F_sets_13.ext E14
  have F_work_14 := F_work_13.ext E14
  have F_results_14 := F_results_13.ext E14
  have F_variables_14 := F_variables_13.ext E14
  have F_terms_14 := F_terms_13.ext E14
  have F_limit_14 := F_limit_13.ext E14
  have F_level_14 := F_level_13.ext E14
  have F_low_14 := F_low_13.ext E14
  have F_high_14 := F_high_13.ext E14
  have F_size_14 := F_size_13.ext E14
  have F_unique_14 := F_unique_13.ext E14
  have F_cache_14 := F_cache_13.ext E14
  have B2_14 := B2_13.ext E14
  have A_b7_14 := A_b7_13.ext E14
  have A_b9_14 := A_b9_13.ext E14
  have A_b14_14 : own_A Z h14 b14 .int 4096 (fun _ => 0) := own_A.new B14 (by decide) rfl
  refine own_putF X14 hx hZ hown (own_w36 hw) e14 F_level_14 E0_14 (Or.inl (own_w37 hw)) (own_w2 hw) (ty := (.array .int)) (by decide) rfl rfl (hb hby d_dinit_64) N13 gn_d 67 rfl (fun T15 h15 l15 X15 N15 e15 W15 => ?_)
  have E0_15 := E0_14.wr W15
  have K0_15 := K0_14.wr W15 (Or.inl (List.mem_of_getElem? (i := 0) rfl))
  have Z0_15 := Nat.le_trans Z0_14 (Nat.le_of_eq W15.size.symm)
  have F_logic_15 := F_logic_14.other W15 (Or.inr (slot_ne (Or.inr (own_w20 hw)) (Or.inl (own_w37 hw)) (by decide) (t := (.object "com/example/orbweaver/orbweaver/spec/Logic")) (t' := (.array .int)) (by decide) (by decide)))
  have F_sets_15 := F_sets_14.other W15 (Or.inr (slot_ne (Or.inl (own_w24 hw)) (Or.inl (own_w37 hw)) (by decide) (t := (.array (.object "com/example/orbweaver/orbweaver/synthesis/Valuations"))) (t' := (.array .int)) (by decide) (by decide)))
  have F_work_15 := F_work_14.other W15 (Or.inr (slot_ne (Or.inl (own_w27 hw)) (Or.inl (own_w37 hw)) (by decide) (t := (.array .int)) (t' := (.array .int)) (by decide) (by decide)))
  have F_results_15 := F_results_14.other W15 (Or.inr (slot_ne (Or.inl (own_w29 hw)) (Or.inl (own_w37 hw)) (by decide) (t := (.array .int)) (t' := (.array .int)) (by decide) (by decide)))
  have F_variables_15 := F_variables_14.other W15 (Or.inr (slot_ne (Or.inr (own_w31 hw)) (Or.inl (own_w37 hw)) (by decide) (t := .int) (t' := (.array .int)) (by decide) (by decide)))
  have F_terms_15 := F_terms_14.other W15 (Or.inr (slot_ne (Or.inr (own_w33 hw)) (Or.inl (own_w37 hw)) (by decide) (t := .int) (t' := (.array .int)) (by decide) (by decide)))
  have F_limit_15 := F_limit_14.other W15 (Or.inr (slot_ne (Or.inl (own_w35 hw)) (Or.inl (own_w37 hw)) (by decide) (t := .int) (t' := (.array .int)) (by decide) (by decide)))
  have F_level_15 := F_level_14.same W15
  have F_low_15 := F_low_14.other W15 (Or.inr (slot_ne (Or.inl (own_w39 hw)) (Or.inl (own_w37 hw)) (by decide) (t := (.array .int)) (t' := (.array .int)) (by decide) (by decide)))
  have F_high_15 := F_high_14.other W15 (Or.inr (slot_ne (Or.inl (own_w41 hw)) (Or.inl (own_w37 hw)) (by decide) (t := (.array .int)) (t' := (.array .int)) (by decide) (by decide)))
  have F_size_15 := F_size_14.other W15 (Or.inr (slot_ne (Or.inl (own_w43 hw)) (Or.inl (own_w37 hw)) (by decide) (t := .int) (t' := (.array .int)) (by decide) (by decide)))
  have F_unique_15 := F_unique_14.other W15 (Or.inr (slot_ne (Or.inl (own_w45 hw)) (Or.inl (own_w37 hw)) (by decide) (t := (.array .int)) (t' := (.array .int)) (by decide) (by decide)))
  have F_cache_15 := F_cache_14.other W15 (Or.inr (slot_ne (Or.inl (own_w47 hw)) (Or.inl (own_w37 hw)) (by decide) (t := (.array .int)) (t' := (.array .int)) (by decide) (by decide)))
  have B2_15 := B2_14.wr W15
  have A_b7_15 := A_b7_14.other W15 (Nat.ne_of_gt o_d_b7)
  have A_b9_15 := A_b9_14.other W15 (Nat.ne_of_gt o_d_b9)
  have A_b14_15 := A_b14_14.other W15 (Nat.ne_of_gt o_d_b14)
  refine own_aloadN X15 hx (hb hby d_dinit_67) rfl rfl 68 rfl ?_
  refine own_sipush X15 hx (z := (4096 : Int32)) (hb hby d_dinit_68) rfl 71 rfl ?_
  refine own_newP (aty := .int) X15 hx hZ (own_w25 hw) e15 (hb hby d_dinit_71) (by decide) 4096 (by decide) (by decide) (by decide) (by decide) 73 rfl (fun T16 h16 cA16 b16 g16 X16 e16 E16 B16 => ?_)
  have o_d_b16 : d < b16 := Nat.lt_of_lt_of_eq E0_15.lt g16.symm
  have o_b2_b16 : b2 < b16 := Nat.lt_of_lt_of_eq B2_15.lt g16.symm
  have o_b7_b16 : b7 < b16 := Nat.lt_of_lt_of_eq A_b7_15.lt g16.symm
  have o_b9_b16 : b9 < b16 := Nat.lt_of_lt_of_eq A_b9_15.lt g16.symm
  have o_b14_b16 : b14 < b16 := Nat.lt_of_lt_of_eq A_b14_15.lt g16.symm
  have gn_b16 : n0 ≤ b16 := Nat.le_trans Z0_15 (Nat.le_of_eq g16.symm)
  have sz_b16 : h0.size ≤ b16 := Nat.le_trans K0_15.1 (Nat.le_of_eq g16.symm)
  have E0_16 := E0_15.ext E16
  have K0_16 := K0_15.ext E16
  have Z0_16 := Nat.le_trans Z0_15 E16.1
  have F_logic_16 := F_logic_15.ext E16
  have F_sets_16 := F_sets_15.ext E16
  have F_work_16 := F_work_15.ext E16
  have F_results_16 := F_results_15.ext E16
  have F_variables_16 := F_variables_15.ext E16
  have F_terms_16 := F_terms_15.ext E16
  have F_limit_16 := F_limit_15.ext E16
  have F_level_16 := F_level_15.ext E16
  have F_low_16 := F_low_15.ext E16
  have F_high_16 := F_high_15.ext E16
  have F_size_16 := F_size_15.ext E16
  have F_unique_16 := F_unique_15.ext E16
  have F_cache_16 := F_cache_15.ext E16
  have B2_16 := B2_15.ext E16
  have A_b7_16 := A_b7_15.ext E16
  have A_b9_16 := A_b9_15.ext E16
  have A_b14_16 := A_b14_15.ext E16
  have A_b16_16 : own_A Z h16 b16 .int 4096 (fun _ => 0) := own_A.new B16 (by decide) rfl
  refine own_putF X16 hx hZ hown (own_w38 hw) e16 F_low_16 E0_16 (Or.inl (own_w39 hw)) (own_w2 hw) (ty := (.array .int)) (by decide) rfl rfl (hb hby d_dinit_73) N15 gn_d 76 rfl (fun T17 h17 l17 X17 N17 e17 W17 => ?_)
  have E0_17 := E0_16.wr W17
  have K0_17 := K0_16.wr W17 (Or.inl (List.mem_of_getElem? (i := 0) rfl))
  have Z0_17 := Nat.le_trans Z0_16 (Nat.le_of_eq W17.size.symm)
  have F_logic_17 := F_logic_16.other W17 (Or.inr (slot_ne (Or.inr (own_w20 hw)) (Or.inl (own_w39 hw)) (by decide) (t := (.object "com/example/orbweaver/orbweaver/spec/Logic")) (t' := (.array .int)) (by decide) (by decide)))
  have F_sets_17 := F_sets_16.other W17 (Or.inr (slot_ne (Or.inl (own_w24 hw)) (Or.inl (own_w39 hw)) (by decide) (t := (.array (.object "com/example/orbweaver/orbweaver/synthesis/Valuations"))) (t' := (.array .int)) (by decide) (by decide)))
  have F_work_17 := F_work_16.other W17 (Or.inr (slot_ne (Or.inl (own_w27 hw)) (Or.inl (own_w39 hw)) (by decide) (t := (.array .int)) (t' := (.array .int)) (by decide) (by decide)))
  have F_results_17 := F_results_16.other W17 (Or.inr (slot_ne (Or.inl (own_w29 hw)) (Or.inl (own_w39 hw)) (by decide) (t := (.array .int)) (t' := (.array .int)) (by decide) (by decide)))
  have F_variables_17 := F_variables_16.other W17 (Or.inr (slot_ne (Or.inr (own_w31 hw)) (Or.inl (own_w39 hw)) (by decide) (t := .int) (t' := (.array .int)) (by decide) (by decide)))
  have F_terms_17 := F_terms_16.other W17 (Or.inr (slot_ne (Or.inr (own_w33 hw)) (Or.inl (own_w39 hw)) (by decide) (t := .int) (t' := (.array .int)) (by decide) (by decide)))
  have F_limit_17 := F_limit_16.other W17 (Or.inr (slot_ne (Or.inl (own_w35 hw)) (Or.inl (own_w39 hw)) (by decide) (t := .int) (t' := (.array .int)) (by decide) (by decide)))
  have F_level_17 := F_level_16.other W17 (Or.inr (slot_ne (Or.inl (own_w37 hw)) (Or.inl (own_w39 hw)) (by decide) (t := (.array .int)) (t' := (.array .int)) (by decide) (by decide)))
  have F_low_17 := F_low_16.same W17
  have F_high_17 := F_high_16.other W17 (Or.inr (slot_ne (Or.inl (own_w41 hw)) (Or.inl (own_w39 hw)) (by decide) (t := (.array .int)) (t' := (.array .int)) (by decide) (by decide)))
  have F_size_17 := F_size_16.other W17 (Or.inr (slot_ne (Or.inl (own_w43 hw)) (Or.inl (own_w39 hw)) (by decide) (t := .int) (t' := (.array .int)) (by decide) (by decide)))
  have F_unique_17 := F_unique_16.other W17 (Or.inr (slot_ne (Or.inl (own_w45 hw)) (Or.inl (own_w39 hw)) (by decide) (t := (.array .int)) (t' := (.array .int)) (by decide) (by decide)))
  have F_cache_17 := F_cache_16.other W17 (Or.inr (slot_ne (Or.inl (own_w47 hw)) (Or.inl (own_w39 hw)) (by decide) (t := (.array .int)) (t' := (.array .int)) (by decide) (by decide)))
  have B2_17 := B2_16.wr W17
  have A_b7_17 := A_b7_16.other W17 (Nat.ne_of_gt o_d_b7)
  have A_b9_17 := A_b9_16.other W17 (Nat.ne_of_gt o_d_b9)
  have A_b14_17 := A_b14_16.other W17 (Nat.ne_of_gt o_d_b14)
  have A_b16_17 := A_b16_16.other W17 (Nat.ne_of_gt o_d_b16)
  refine own_aloadN X17 hx (hb hby d_dinit_76) rfl rfl 77 rfl ?_
  refine own_sipush X17 hx (z := (4096 : Int32)) (hb hby d_dinit_77) rfl 80 rfl ?_
  refine own_newP (aty := .int) X17 hx hZ (own_w25 hw) e17 (hb hby d_dinit_80) (by decide) 4096 (by decide) (by decide) (by decide) (by decide) 82 rfl (fun T18 h18 cA18 b18 g18 X18 e18 E18 B18 => ?_)
  have o_d_b18 : d < b18 := Nat.lt_of_lt_of_eq E0_17.lt g18.symm
  have o_b2_b18 : b2 < b18 := Nat.lt_of_lt_of_eq B2_17.lt g18.symm
  have o_b7_b18 : b7 < b18 := Nat.lt_of_lt_of_eq A_b7_17.lt g18.symm
  have o_b9_b18 : b9 < b18 := Nat.lt_of_lt_of_eq A_b9_17.lt g18.symm
  have o_b14_b18 : b14 < b18 := Nat.lt_of_lt_of_eq A_b14_17.lt g18.symm
  have o_b16_b18 : b16 < b18 := Nat.lt_of_lt_of_eq A_b16_17.lt g18.symm
  have gn_b18 : n0 ≤ b18 := Nat.le_trans Z0_17 (Nat.le_of_eq g18.symm)
  have sz_b18 : h0.size ≤ b18 := Nat.le_trans K0_17.1 (Nat.le_of_eq g18.symm)
  have E0_18 := E0_17.ext E18
  have K0_18 := K0_17.ext E18
  have Z0_18 := Nat.le_trans Z0_17 E18.1
  have F_logic_18 := F_logic_17.ext E18
  have F_sets_18 := F_sets_17.ext E18
  have F_work_18 := F_work_17.ext E18
  have F_results_18 := F_results_17.ext E18
  have F_variables_18 := F_variables_17.ext E18
  have F_terms_18 := F_terms_17.ext E18
  have F_limit_18 := F_limit_17.ext E18
  have F_level_18 := F_level_17.ext E18
  have F_low_18 := F_low_17.ext E18
  have F_high_18 := F_high_17.ext E18
  have F_size_18 := F_size_17.ext E18
  have F_unique_18 := F_unique_17.ext E18
  have F_cache_18 := F_cache_17.ext E18
  have B2_18 := B2_17.ext E18
  have A_b7_18 := A_b7_17.ext E18
  have A_b9_18 := A_b9_17.ext E18
  have A_b14_18 := A_b14_17.ext E18
  have A_b16_18 := A_b16_17.ext E18
  have A_b18_18 : own_A Z h18 b18 .int 4096 (fun _ => 0) := own_A.new B18 (by decide) rfl
  refine own_putF X18 hx hZ hown (own_w40 hw) e18 F_high_18 E0_18 (Or.inl (own_w41 hw)) (own_w2 hw) (ty := (.array .int)) (by decide) rfl rfl (hb hby d_dinit_82) N17 gn_d 85 rfl (fun T19 h19 l19 X19 N19 e19 W19 => ?_)
  have E0_19 := E0_18.wr W19
  have K0_19 := K0_18.wr W19 (Or.inl (List.mem_of_getElem? (i := 0) rfl))
  have Z0_19 := Nat.le_trans Z0_18 (Nat.le_of_eq W19.size.symm)
  have F_logic_19 := F_logic_18.other W19 (Or.inr (slot_ne (Or.inr (own_w20 hw)) (Or.inl (own_w41 hw)) (by decide) (t := (.object "com/example/orbweaver/orbweaver/spec/Logic")) (t' := (.array .int)) (by decide) (by decide)))
  have F_sets_19 := F_sets_18.other W19 (Or.inr (slot_ne (Or.inl (own_w24 hw)) (Or.inl (own_w41 hw)) (by decide) (t := (.array (.object "com/example/orbweaver/orbweaver/synthesis/Valuations"))) (t' := (.array .int)) (by decide) (by decide)))
  have F_work_19 := F_work_18.other W19 (Or.inr (slot_ne (Or.inl (own_w27 hw)) (Or.inl (own_w41 hw)) (by decide) (t := (.array .int)) (t' := (.array .int)) (by decide) (by decide)))
  have F_results_19 := F_results_18.other W19 (Or.inr (slot_ne (Or.inl (own_w29 hw)) (Or.inl (own_w41 hw)) (by decide) (t := (.array .int)) (t' := (.array .int)) (by decide) (by decide)))
  have F_variables_19 := F_variables_18.other W19 (Or.inr (slot_ne (Or.inr (own_w31 hw)) (Or.inl (own_w41 hw)) (by decide) (t := .int) (t' := (.array .int)) (by decide) (by decide)))
  have F_terms_19 := F_terms_18.other W19 (Or.inr (slot_ne (Or.inr (own_w33 hw)) (Or.inl (own_w41 hw)) (by decide) (t := .int) (t' := (.array .int)) (by decide) (by decide)))
  have F_limit_19 := F_limit_18.other W19 (Or.inr (slot_ne (Or.inl (own_w35 hw)) (Or.inl (own_w41 hw)) (by decide) (t := .int) (t' := (.array .int)) (by decide) (by decide)))
  have F_level_19 := F_level_18.other W19 (Or.inr (slot_ne (Or.inl (own_w37 hw)) (Or.inl (own_w41 hw)) (by decide) (t := (.array .int)) (t' := (.array .int)) (by decide) (by decide)))
  have F_low_19 := F_low_18.other W19 (Or.inr (slot_ne (Or.inl (own_w39 hw)) (Or.inl (own_w41 hw)) (by decide) (t := (.array .int)) (t' := (.array .int)) (by decide) (by decide)))
  have F_high_19 := F_high_18.same W19
  have F_size_19 := F_size_18.other W19 (Or.inr (slot_ne (Or.inl (own_w43 hw)) (Or.inl (own_w41 hw)) (by decide) (t := .int) (t' := (.array .int)) (by decide) (by decide)))
  have F_unique_19 := F_unique_18.other W19 (Or.inr (slot_ne (Or.inl (own_w45 hw)) (Or.inl (own_w41 hw)) (by decide) (t := (.array .int)) (t' := (.array .int)) (by decide) (by decide)))
  have F_cache_19 := F_cache_18.other W19 (Or.inr (slot_ne (Or.inl (own_w47 hw)) (Or.inl (own_w41 hw)) (by decide) (t := (.array .int)) (t' := (.array .int)) (by decide) (by decide)))
  have B2_19 := B2_18.wr W19
  have A_b7_19 := A_b7_18.other W19 (Nat.ne_of_gt o_d_b7)
  have A_b9_19 := A_b9_18.other W19 (Nat.ne_of_gt o_d_b9)
  have A_b14_19 := A_b14_18.other W19 (Nat.ne_of_gt o_d_b14)
  have A_b16_19 := A_b16_18.other W19 (Nat.ne_of_gt o_d_b16)
  have A_b18_19 := A_b18_18.other W19 (Nat.ne_of_gt o_d_b18)
  refine own_aloadN X19 hx (hb hby d_dinit_85) rfl rfl 86 rfl ?_
  refine own_getF X19 hx hZ hown (own_w36 hw) e19 F_level_19 (hb hby d_dinit_86) 89 rfl (fun T20 X20 e20 => ?_)
  refine own_iconst X20 hx (z := (0 : Int32)) (hb hby d_dinit_89) rfl 90 rfl ?_
  refine own_iloadN X20 hx (hb hby d_dinit_90) rfl 91 rfl ?_
  refine own_iastore X20 hx hZ e20 A_b14_19 ⟨by decide, by decide⟩ (hb hby d_dinit_91) N19 gn_b14 92 rfl (fun T21 h21 l21 X21 N21 e21 W21 => ?_)
  have E0_21 := E0_19.wr W21
  have K0_21 := K0_19.wr W21 (Or.inr sz_b14)
  have Z0_21 := Nat.le_trans Z0_19 (Nat.le_of_eq W21.size.symm)
  have F_logic_21 := F_logic_19.other W21 (Or.inl (Nat.ne_of_lt o_d_b14))
  have F_sets_21 := F_sets_19.other W21 (Or.inl (Nat.ne_of_lt o_d_b14))
  have F_work_21 := F_work_19.other W21 (Or.inl (Nat.ne_of_lt o_d_b14))
  have F_results_21 := F_results_19.other W21 (Or.inl (Nat.ne_of_lt o_d_b14))
  have F_variables_21 := F_variables_19.other W21 (Or.inl (Nat.ne_of_lt o_d_b14))
  have F_terms_21 := F_terms_19.other W21 (Or.inl (Nat.ne_of_lt o_d_b14))
  have F_limit_21 := F_limit_19.other W21 (Or.inl (Nat.ne_of_lt o_d_b14))
  have F_level_21 := F_level_19.other W21 (Or.inl (Nat.ne_of_lt o_d_b14))
  have F_low_21 := F_low_19.other W21 (Or.inl (Nat.ne_of_lt o_d_b14))
  have F_high_21 := F_high_19.other W21 (Or.inl (Nat.ne_of_lt o_d_b14))
  have F_size_21 := F_size_19.other W21 (Or.inl (Nat.ne_of_lt o_d_b14))
  have F_unique_21 := F_unique_19.other W21 (Or.inl (Nat.ne_of_lt o_d_b14))
  have F_cache_21 := F_cache_19.other W21 (Or.inl (Nat.ne_of_lt o_d_b14))
  have B2_21 := B2_19.wr W21
  have A_b7_21 := A_b7_19.other W21 (Nat.ne_of_lt o_b7_b14)
  have A_b9_21 := A_b9_19.other W21 (Nat.ne_of_lt o_b9_b14)
  have A_b14_21 := A_b14_19.set W21
  have A_b16_21 := A_b16_19.other W21 (Nat.ne_of_gt o_b14_b16)
  have A_b18_21 := A_b18_19.other W21 (Nat.ne_of_gt o_b14_b18)
  refine own_aloadN X21 hx (hb hby d_dinit_92) rfl rfl 93 rfl ?_
  refine own_getF X21 hx hZ hown (own_w36 hw) e21 F_level_21 (hb hby d_dinit_93) 96 rfl (fun T22 X22 e22 => ?_)
  refine own_iconst X22 hx (z := (1 : Int32)) (hb hby d_dinit_96) rfl 97 rfl ?_
  refine own_iloadN X22 hx (hb hby d_dinit_97) rfl 98 rfl ?_
  refine own_iastore X22 hx hZ e22 A_b14_21 ⟨by decide, by decide⟩ (hb hby d_dinit_98) N21 gn_b14 99 rfl (fun T23 h23 l23 X23 N23 e23 W23 => ?_)
  have E0_23 := E0_21.wr W23
  have K0_23 := K0_21.wr W23 (Or.inr sz_b14)
  have Z0_23 := Nat.le_trans Z0_21 (Nat.le_of_eq W23.size.symm)
  have F_logic_23 := F_logic_21.other W23 (Or.inl (Nat.ne_of_lt o_d_b14))
  have F_sets_23 := F_sets_21.other W23 (Or.inl (Nat.ne_of_lt o_d_b14))
  have F_work_23 := F_work_21.other W23 (Or.inl (Nat.ne_of_lt o_d_b14))
  have F_results_23 := F_results_21.other W23 (Or.inl (Nat.ne_of_lt o_d_b14))
  have F_variables_23 := F_variables_21.other W23 (Or.inl (Nat.ne_of_lt o_d_b14))
  have F_terms_23 := F_terms_21.other W23 (Or.inl (Nat.ne_of_lt o_d_b14))
  have F_limit_23 := F_limit_21.other W23 (Or.inl (Nat.ne_of_lt o_d_b14))
  have F_level_23 := F_level_21.other W23 (Or.inl (Nat.ne_of_lt o_d_b14))
  have F_low_23 := F_low_21.other W23 (Or.inl (Nat.ne_of_lt o_d_b14))
  have F_high_23 := F_high_21.other W23 (Or.inl (Nat.ne_of_lt o_d_b14))
  have F_size_23 := F_size_21.other W23 (Or.inl (Nat.ne_of_lt o_d_b14))
  have F_unique_23 := F_unique_21.other W23 (Or.inl (Nat.ne_of_lt o_d_b14))
  have F_cache_23 := F_cache_21.other W23 (Or.inl (Nat.ne_of_lt o_d_b14))
  have B2_23 := B2_21.wr W23
  have A_b7_23 := A_b7_21.other W23 (Nat.ne_of_lt o_b7_b14)
  have A_b9_23 := A_b9_21.other W23 (Nat.ne_of_lt o_b9_b14)
  have A_b14_23 := A_b14_21.set W23
  have A_b16_23 := A_b16_21.other W23 (Nat.ne_of_gt o_b14_b16)
  have A_b18_23 := A_b18_21.other W23 (Nat.ne_of_gt o_b14_b18)
  refine own_aloadN X23 hx (hb hby d_dinit_99) rfl rfl 100 rfl ?_
  refine own_getF X23 hx hZ hown (own_w38 hw) e23 F_low_23 (hb hby d_dinit_100) 103 rfl (fun T24 X24 e24 => ?_)
  refine own_iconst X24 hx (z := (1 : Int32)) (hb hby d_dinit_103) rfl 104 rfl ?_
  refine own_iconst X24 hx (z := (1 : Int32)) (hb hby d_dinit_104) rfl 105 rfl ?_
  refine own_iastore X24 hx hZ e24 A_b16_23 ⟨by decide, by decide⟩ (hb hby d_dinit_105) N23 gn_b16 106 rfl (fun T25 h25 l25 X25 N25 e25 W25 => ?_)
  have E0_25 := E0_23.wr W25
  have K0_25 := K0_23.wr W25 (Or.inr sz_b16)
  have Z0_25 := Nat.le_trans Z0_23 (Nat.le_of_eq W25.size.symm)
  have F_logic_25 := F_logic_23.other W25 (Or.inl (Nat.ne_of_lt o_d_b16))
  have F_sets_25 := F_sets_23.other W25 (Or.inl (Nat.ne_of_lt o_d_b16))
  have F_work_25 := F_work_23.other W25 (Or.inl (Nat.ne_of_lt o_d_b16))
  have F_results_25 := F_results_23.other W25 (Or.inl (Nat.ne_of_lt o_d_b16))
  have F_variables_25 := F_variables_23.other W25 (Or.inl (Nat.ne_of_lt o_d_b16))
  have F_terms_25 := F_terms_23.other W25 (Or.inl (Nat.ne_of_lt o_d_b16))
  have F_limit_25 := F_limit_23.other W25 (Or.inl (Nat.ne_of_lt o_d_b16))
  have F_level_25 := F_level_23.other W25 (Or.inl (Nat.ne_of_lt o_d_b16))
  have F_low_25 := F_low_23.other W25 (Or.inl (Nat.ne_of_lt o_d_b16))
  have F_high_25 := F_high_23.other W25 (Or.inl (Nat.ne_of_lt o_d_b16))
  have F_size_25 := F_size_23.other W25 (Or.inl (Nat.ne_of_lt o_d_b16))
  have F_unique_25 := F_unique_23.other W25 (Or.inl (Nat.ne_of_lt o_d_b16))
  have F_cache_25 := F_cache_23.other W25 (Or.inl (Nat.ne_of_lt o_d_b16))
  have B2_25 := B2_23.wr W25
  have A_b7_25 := A_b7_23.other W25 (Nat.ne_of_lt o_b7_b16)
  have A_b9_25 := A_b9_23.other W25 (Nat.ne_of_lt o_b9_b16)
  have A_b14_25 := A_b14_23.other W25 (Nat.ne_of_lt o_b14_b16)
  have A_b16_25 := A_b16_23.set W25
  have A_b18_25 := A_b18_23.other W25 (Nat.ne_of_gt o_b16_b18)
  refine own_aloadN X25 hx (hb hby d_dinit_106) rfl rfl 107 rfl ?_
  refine own_getF X25 hx hZ hown (own_w40 hw) e25 F_high_25 (hb hby d_dinit_107) 110 rfl (fun T26 X26 e26 => ?_)
  refine own_iconst X26 hx (z := (1 : Int32)) (hb hby d_dinit_110) rfl 111 rfl ?_
  refine own_iconst X26 hx (z := (1 : Int32)) (hb hby d_dinit_111) rfl 112 rfl ?_
  refine own_iastore X26 hx hZ e26 A_b18_25 ⟨by decide, by decide⟩ (hb hby d_dinit_112) N25 gn_b18 113 rfl (fun T27 h27 l27 X27 N27 e27 W27 => ?_)
  have E0_27 := E0_25.wr W27
  have K0_27 := K0_25.wr W27 (Or.inr sz_b18)
  have Z0_27 := Nat.le_trans Z0_25 (Nat.le_of_eq W27.size.symm)
  have F_logic_27 := F_logic_25.other W27 (Or.inl (Nat.ne_of_lt o_d_b18))
  have F_sets_27 := F_sets_25.other W27 (Or.inl (Nat.ne_of_lt o_d_b18))
  have F_work_27 := F_work_25.other W27 (Or.inl (Nat.ne_of_lt o_d_b18))
  have F_results_27 := F_results_25.other W27 (Or.inl (Nat.ne_of_lt o_d_b18))
  have F_variables_27 := F_variables_25.other W27 (Or.inl (Nat.ne_of_lt o_d_b18))
  have F_terms_27 := F_terms_25.other W27 (Or.inl (Nat.ne_of_lt o_d_b18))
  have F_limit_27 := F_limit_25.other W27 (Or.inl (Nat.ne_of_lt o_d_b18))
  have F_level_27 := F_level_25.other W27 (Or.inl (Nat.ne_of_lt o_d_b18))
  have F_low_27 := F_low_25.other W27 (Or.inl (Nat.ne_of_lt o_d_b18))
  have F_high_27 := F_high_25.other W27 (Or.inl (Nat.ne_of_lt o_d_b18))
  have F_size_27 := F_size_25.other W27 (Or.inl (Nat.ne_of_lt o_d_b18))
  have F_unique_27 := F_unique_25.other W27 (Or.inl (Nat.ne_of_lt o_d_b18))
  have F_cache_27 := F_cache_25.other W27 (Or.inl (Nat.ne_of_lt o_d_b18))
  have B2_27 := B2_25.wr W27
  have A_b7_27 := A_b7_25.other W27 (Nat.ne_of_lt o_b7_b18)
  have A_b9_27 := A_b9_25.other W27 (Nat.ne_of_lt o_b9_b18)
  have A_b14_27 := A_b14_25.other W27 (Nat.ne_of_lt o_b14_b18)
  have A_b16_27 := A_b16_25.other W27 (Nat.ne_of_lt o_b16_b18)
  have A_b18_27 := A_b18_25.set W27
  refine own_aloadN X27 hx (hb hby d_dinit_113) rfl rfl 114 rfl ?_
  refine own_iconst X27 hx (z := (2 : Int32)) (hb hby d_dinit_114) rfl 115 rfl ?_
  refine own_putF X27 hx hZ hown (own_w42 hw) e27 F_size_27 E0_27 (Or.inl (own_w43 hw)) (own_w2 hw) (ty := .int) (by decide) rfl rfl (hb hby d_dinit_115) N27 gn_d 118 rfl (fun T28 h28 l28 X28 N28 e28 W28 => ?_)
  have E0_28 := E0_27.wr W28
  have K0_28 := K0_27.wr W28 (Or.inl (List.mem_of_getElem? (i := 0) rfl))
  have Z0_28 := Nat.le_trans Z0_27 (Nat.le_of_eq W28.size.symm)
  have F_logic_28 := F_logic_27.other W28 (Or.inr (slot_ne (Or.inr (own_w20 hw)) (Or.inl (own_w43 hw)) (by decide) (t := (.object "com/example/orbweaver/orbweaver/spec/Logic")) (t' := .int) (by decide) (by decide)))
  have F_sets_28 := F_sets_27.other W28 (Or.inr (slot_ne (Or.inl (own_w24 hw)) (Or.inl (own_w43 hw)) (by decide) (t := (.array (.object "com/example/orbweaver/orbweaver/synthesis/Valuations"))) (t' := .int) (by decide) (by decide)))
  have F_work_28 := F_work_27.other W28 (Or.inr (slot_ne (Or.inl (own_w27 hw)) (Or.inl (own_w43 hw)) (by decide) (t := (.array .int)) (t' := .int) (by decide) (by decide)))
  have F_results_28 := F_results_27.other W28 (Or.inr (slot_ne (Or.inl (own_w29 hw)) (Or.inl (own_w43 hw)) (by decide) (t := (.array .int)) (t' := .int) (by decide) (by decide)))
  have F_variables_28 := F_variables_27.other W28 (Or.inr (slot_ne (Or.inr (own_w31 hw)) (Or.inl (own_w43 hw)) (by decide) (t := .int) (t' := .int) (by decide) (by decide)))
  have F_terms_28 := F_terms_27.other W28 (Or.inr (slot_ne (Or.inr (own_w33 hw)) (Or.inl (own_w43 hw)) (by decide) (t := .int) (t' := .int) (by decide) (by decide)))
  have F_limit_28 := F_limit_27.other W28 (Or.inr (slot_ne (Or.inl (own_w35 hw)) (Or.inl (own_w43 hw)) (by decide) (t := .int) (t' := .int) (by decide) (by decide)))
  have F_level_28 := F_level_27.other W28 (Or.inr (slot_ne (Or.inl (own_w37 hw)) (Or.inl (own_w43 hw)) (by decide) (t := (.array .int)) (t' := .int) (by decide) (by decide)))
  have F_low_28 := F_low_27.other W28 (Or.inr (slot_ne (Or.inl (own_w39 hw)) (Or.inl (own_w43 hw)) (by decide) (t := (.array .int)) (t' := .int) (by decide) (by decide)))
  have F_high_28 := F_high_27.other W28 (Or.inr (slot_ne (Or.inl (own_w41 hw)) (Or.inl (own_w43 hw)) (by decide) (t := (.array .int)) (t' := .int) (by decide) (by decide)))
  have F_size_28 := F_size_27.same W28
  have F_unique_28 := F_unique_27.other W28 (Or.inr (slot_ne (Or.inl (own_w45 hw)) (Or.inl (own_w43 hw)) (by decide) (t := (.array .int)) (t' := .int) (by decide) (by decide)))
  have F_cache_28 := F_cache_27.other W28 (Or.inr (slot_ne (Or.inl (own_w47 hw)) (Or.inl (own_w43 hw)) (by decide) (t := (.array .int)) (t' := .int) (by decide) (by decide)))
  have B2_28 := B2_27.wr W28
  have A_b7_28 := A_b7_27.other W28 (Nat.ne_of_gt o_d_b7)
  have A_b9_28 := A_b9_27.other W28 (Nat.ne_of_gt o_d_b9)
  have A_b14_28 := A_b14_27.other W28 (Nat.ne_of_gt o_d_b14)
  have A_b16_28 := A_b16_27.other W28 (Nat.ne_of_gt o_d_b16)
  have A_b18_28 := A_b18_27.other W28 (Nat.ne_of_gt o_d_b18)
  refine own_aloadN X28 hx (hb hby d_dinit_118) rfl rfl 119 rfl ?_
  refine own_sipush X28 hx (z := (8192 : Int32)) (hb hby d_dinit_119) rfl 122 rfl ?_
  refine own_newP (aty := .int) X28 hx hZ (own_w25 hw) e28 (hb hby d_dinit_122) (by decide) 8192 (by decide) (by decide) (by decide) (by decide) 124 rfl (fun T29 h29 cA29 b29 g29 X29 e29 E29 B29 => ?_)
  have o_d_b29 : d < b29 := Nat.lt_of_lt_of_eq E0_28.lt g29.symm
  have o_b2_b29 : b2 < b29 := Nat.lt_of_lt_of_eq B2_28.lt g29.symm
  have o_b7_b29 : b7 < b29 := Nat.lt_of_lt_of_eq A_b7_28.lt g29.symm
  have o_b9_b29 : b9 < b29 := Nat.lt_of_lt_of_eq A_b9_28.lt g29.symm
  have o_b14_b29 : b14 < b29 := Nat.lt_of_lt_of_eq A_b14_28.lt g29.symm
  have o_b16_b29 : b16 < b29 := Nat.lt_of_lt_of_eq A_b16_28.lt g29.symm
  have o_b18_b29 : b18 < b29 := Nat.lt_of_lt_of_eq A_b18_28.lt g29.symm
  have gn_b29 : n0 ≤ b29 := Nat.le_trans Z0_28 (Nat.le_of_eq g29.symm)
  have sz_b29 : h0.size ≤ b29 := Nat.le_trans K0_28.1 (Nat.le_of_eq g29.symm)
  have E0_29 := E0_28.ext E29
  have K0_29 := K0_28.ext E29
  have Z0_29 := Nat.le_trans Z0_28 E29.1
  have F_logic_29 := F_logic_28.ext E29
  have F_sets_29 := F_sets_28.ext E29
  have F_work_29 := F_work_28.ext E29
  have F_results_29 := F_results_28.ext E29
  have F_variables_29 := F_variables_28.ext E29
  have F_terms_29 := F_terms_28.ext E29
  have F_limit_29 := F_limit_28.ext E29
  have F_level_29 := F_level_28.ext E29
  have F_low_29 := F_low_28.ext E29
  have F_high_29 := F_high_28.ext E29
  have F_size_29 := F_size_28.ext E29
  have F_unique_29 := F_unique_28.ext E29
  have F_cache_29 := F_cache_28.ext E29
  have B2_29 := B2_28.ext E29
  have A_b7_29 := A_b7_28.ext E29
  have A_b9_29 := A_b9_28.ext E29
  have A_b14_29 := A_b14_28.ext E29
  have A_b16_29 := A_b16_28.ext E29
  have A_b18_29 := A_b18_28.ext E29
  have A_b29_29 : own_A Z h29 b29 .int 8192 (fun _ => 0) := own_A.new B29 (by decide) rfl
  refine own_putF X29 hx hZ hown (own_w44 hw) e29 F_unique_29 E0_29 (Or.inl (own_w45 hw)) (own_w2 hw) (ty := (.array .int)) (by decide) rfl rfl (hb hby d_dinit_124) N28 gn_d 127 rfl (fun T30 h30 l30 X30 N30 e30 W30 => ?_)
  have E0_30 := E0_29.wr W30
  have K0_30 := K0_29.wr W30 (Or.inl (List.mem_of_getElem? (i := 0) rfl))
  have Z0_30 := Nat.le_trans Z0_29 (Nat.le_of_eq W30.size.symm)
  have F_logic_30 := F_logic_29.other W30 (Or.inr (slot_ne (Or.inr (own_w20 hw)) (Or.inl (own_w45 hw)) (by decide) (t := (.object "com/example/orbweaver/orbweaver/spec/Logic")) (t' := (.array .int)) (by decide) (by decide)))
  have F_sets_30 := F_sets_29.other W30 (Or.inr (slot_ne (Or.inl (own_w24 hw)) (Or.inl (own_w45 hw)) (by decide) (t := (.array (.object "com/example/orbweaver/orbweaver/synthesis/Valuations"))) (t' := (.array .int)) (by decide) (by decide)))
  have F_work_30 := F_work_29.other W30 (Or.inr (slot_ne (Or.inl (own_w27 hw)) (Or.inl (own_w45 hw)) (by decide) (t := (.array .int)) (t' := (.array .int)) (by decide) (by decide)))
  have F_results_30 := F_results_29.other W30 (Or.inr (slot_ne (Or.inl (own_w29 hw)) (Or.inl (own_w45 hw)) (by decide) (t := (.array .int)) (t' := (.array .int)) (by decide) (by decide)))
  have F_variables_30 := F_variables_29.other W30 (Or.inr (slot_ne (Or.inr (own_w31 hw)) (Or.inl (own_w45 hw)) (by decide) (t := .int) (t' := (.array .int)) (by decide) (by decide)))
  have F_terms_30 := F_terms_29.other W30 (Or.inr (slot_ne (Or.inr (own_w33 hw)) (Or.inl (own_w45 hw)) (by decide) (t := .int) (t' := (.array .int)) (by decide) (by decide)))
  have F_limit_30 := F_limit_29.other W30 (Or.inr (slot_ne (Or.inl (own_w35 hw)) (Or.inl (own_w45 hw)) (by decide) (t := .int) (t' := (.array .int)) (by decide) (by decide)))
  have F_level_30 := F_level_29.other W30 (Or.inr (slot_ne (Or.inl (own_w37 hw)) (Or.inl (own_w45 hw)) (by decide) (t := (.array .int)) (t' := (.array .int)) (by decide) (by decide)))
  have F_low_30 := F_low_29.other W30 (Or.inr (slot_ne (Or.inl (own_w39 hw)) (Or.inl (own_w45 hw)) (by decide) (t := (.array .int)) (t' := (.array .int)) (by decide) (by decide)))
  have F_high_30 := F_high_29.other W30 (Or.inr (slot_ne (Or.inl (own_w41 hw)) (Or.inl (own_w45 hw)) (by decide) (t := (.array .int)) (t' := (.array .int)) (by decide) (by decide)))
  have F_size_30 := F_size_29.other W30 (Or.inr (slot_ne (Or.inl (own_w43 hw)) (Or.inl (own_w45 hw)) (by decide) (t := .int) (t' := (.array .int)) (by decide) (by decide)))
  have F_unique_30 := F_unique_29.same W30
  have F_cache_30 := F_cache_29.other W30 (Or.inr (slot_ne (Or.inl (own_w47 hw)) (Or.inl (own_w45 hw)) (by decide) (t := (.array .int)) (t' := (.array .int)) (by decide) (by decide)))
  have B2_30 := B2_29.wr W30
  have A_b7_30 := A_b7_29.other W30 (Nat.ne_of_gt o_d_b7)
  have A_b9_30 := A_b9_29.other W30 (Nat.ne_of_gt o_d_b9)
  have A_b14_30 := A_b14_29.other W30 (Nat.ne_of_gt o_d_b14)
  have A_b16_30 := A_b16_29.other W30 (Nat.ne_of_gt o_d_b16)
  have A_b18_30 := A_b18_29.other W30 (Nat.ne_of_gt o_d_b18)
  have A_b29_30 := A_b29_29.other W30 (Nat.ne_of_gt o_d_b29)
  refine own_aloadN X30 hx (hb hby d_dinit_127) rfl rfl 128 rfl ?_
  refine own_sipush X30 hx (z := (16384 : Int32)) (hb hby d_dinit_128) rfl 131 rfl ?_
  refine own_newP (aty := .int) X30 hx hZ (own_w25 hw) e30 (hb hby d_dinit_131) (by decide) 16384 (by decide) (by decide) (by decide) (by decide) 133 rfl (fun T31 h31 cA31 b31 g31 X31 e31 E31 B31 => ?_)
  have o_d_b31 : d < b31 := Nat.lt_of_lt_of_eq E0_30.lt g31.symm
  have o_b2_b31 : b2 < b31 := Nat.lt_of_lt_of_eq B2_30.lt g31.symm
  have o_b7_b31 : b7 < b31 := Nat.lt_of_lt_of_eq A_b7_30.lt g31.symm
  have o_b9_b31 : b9 < b31 := Nat.lt_of_lt_of_eq A_b9_30.lt g31.symm
  have o_b14_b31 : b14 < b31 := Nat.lt_of_lt_of_eq A_b14_30.lt g31.symm
  have o_b16_b31 : b16 < b31 := Nat.lt_of_lt_of_eq A_b16_30.lt g31.symm
  have o_b18_b31 : b18 < b31 := Nat.lt_of_lt_of_eq A_b18_30.lt g31.symm
  have o_b29_b31 : b29 < b31 := Nat.lt_of_lt_of_eq A_b29_30.lt g31.symm
  have gn_b31 : n0 ≤ b31 := Nat.le_trans Z0_30 (Nat.le_of_eq g31.symm)
  have sz_b31 : h0.size ≤ b31 := Nat.le_trans K0_30.1 (Nat.le_of_eq g31.symm)
  have E0_31 := E0_30.ext E31
  have K0_31 := K0_30.ext E31
  have Z0_31 := Nat.le_trans Z0_30 E31.1
  have F_logic_31 := F_logic_30.ext E31
  have F_sets_31 := F_sets_30.ext E31
  have F_work_31 := F_work_30.ext E31
  have F_results_31 := F_results_30.ext E31
  have F_variables_31 := F_variables_30.ext E31
  have F_terms_31 := F_terms_30.ext E31
  have F_limit_31 := F_limit_30.ext E31
  have F_level_31 := F_level_30.ext E31
  have F_low_31 := F_low_30.ext E31
  have F_high_31 := F_high_30.ext E31
  have F_size_31 := F_size_30.ext E31
  have F_unique_31 := F_unique_30.ext E31
  have F_cache_31 := F_cache_30.ext E31
  have B2_31 := B2_30.ext E31
  have A_b7_31 := A_b7_30.ext E31
  have A_b9_31 := A_b9_30.ext E31
  have A_b14_31 := A_b14_30.ext E31
  have A_b16_31 := A_b16_30.ext E31
  have A_b18_31 := A_b18_30.ext E31
  have A_b29_31 := A_b29_30.ext E31
  have A_b31_31 : own_A Z h31 b31 .int 16384 (fun _ => 0) := own_A.new B31 (by decide) rfl
  refine own_putF X31 hx hZ hown (own_w46 hw) e31 F_cache_31 E0_31 (Or.inl (own_w47 hw)) (own_w2 hw) (ty := (.array .int)) (by decide) rfl rfl (hb hby d_dinit_133) N30 gn_d 136 rfl (fun T32 h32 l32 X32 N32 e32 W32 => ?_)
  have E0_32 := E0_31.wr W32
  have K0_32 := K0_31.wr W32 (Or.inl (List.mem_of_getElem? (i := 0) rfl))
  have Z0_32 := Nat.le_trans Z0_31 (Nat.le_of_eq W32.size.symm)
  have F_logic_32 := F_logic_31.other W32 (Or.inr (slot_ne (Or.inr (own_w20 hw)) (Or.inl (own_w47 hw)) (by decide) (t := (.object "com/example/orbweaver/orbweaver/spec/Logic")) (t' := (.array .int)) (by decide) (by decide)))
  have F_sets_32 := F_sets_31.other W32 (Or.inr (slot_ne (Or.inl (own_w24 hw)) (Or.inl (own_w47 hw)) (by decide) (t := (.array (.object "com/example/orbweaver/orbweaver/synthesis/Valuations"))) (t' := (.array .int)) (by decide) (by decide)))
  have F_work_32 := F_work_31.other W32 (Or.inr (slot_ne (Or.inl (own_w27 hw)) (Or.inl (own_w47 hw)) (by decide) (t := (.array .int)) (t' := (.array .int)) (by decide) (by decide)))
  have F_results_32 := F_results_31.other W32 (Or.inr (slot_ne (Or.inl (own_w29 hw)) (Or.inl (own_w47 hw)) (by decide) (t := (.array .int)) (t' := (.array .int)) (by decide) (by decide)))
  have F_variables_32 := F_variables_31.other W32 (Or.inr (slot_ne (Or.inr (own_w31 hw)) (Or.inl (own_w47 hw)) (by decide) (t := .int) (t' := (.array .int)) (by decide) (by decide)))
  have F_terms_32 := F_terms_31.other W32 (Or.inr (slot_ne (Or.inr (own_w33 hw)) (Or.inl (own_w47 hw)) (by decide) (t := .int) (t' := (.array .int)) (by decide) (by decide)))
  have F_limit_32 := F_limit_31.other W32 (Or.inr (slot_ne (Or.inl (own_w35 hw)) (Or.inl (own_w47 hw)) (by decide) (t := .int) (t' := (.array .int)) (by decide) (by decide)))
  have F_level_32 := F_level_31.other W32 (Or.inr (slot_ne (Or.inl (own_w37 hw)) (Or.inl (own_w47 hw)) (by decide) (t := (.array .int)) (t' := (.array .int)) (by decide) (by decide)))
  have F_low_32 := F_low_31.other W32 (Or.inr (slot_ne (Or.inl (own_w39 hw)) (Or.inl (own_w47 hw)) (by decide) (t := (.array .int)) (t' := (.array .int)) (by decide) (by decide)))
  have F_high_32 := F_high_31.other W32 (Or.inr (slot_ne (Or.inl (own_w41 hw)) (Or.inl (own_w47 hw)) (by decide) (t := (.array .int)) (t' := (.array .int)) (by decide) (by decide)))
  have F_size_32 := F_size_31.other W32 (Or.inr (slot_ne (Or.inl (own_w43 hw)) (Or.inl (own_w47 hw)) (by decide) (t := .int) (t' := (.array .int)) (by decide) (by decide)))
  have F_unique_32 := F_unique_31.other W32 (Or.inr (slot_ne (Or.inl (own_w45 hw)) (Or.inl (own_w47 hw)) (by decide) (t := (.array .int)) (t' := (.array .int)) (by decide) (by decide)))
  have F_cache_32 := F_cache_31.same W32
  have B2_32 := B2_31.wr W32
  have A_b7_32 := A_b7_31.other W32 (Nat.ne_of_gt o_d_b7)
  have A_b9_32 := A_b9_31.other W32 (Nat.ne_of_gt o_d_b9)
  have A_b14_32 := A_b14_31.other W32 (Nat.ne_of_gt o_d_b14)
  have A_b16_32 := A_b16_31.other W32 (Nat.ne_of_gt o_d_b16)
  have A_b18_32 := A_b18_31.other W32 (Nat.ne_of_gt o_d_b18)
  have A_b29_32 := A_b29_31.other W32 (Nat.ne_of_gt o_d_b29)
  have A_b31_32 := A_b31_31.other W32 (Nat.ne_of_gt o_d_b31)
  refine own_aloadN X32 hx (hb hby d_dinit_136) rfl rfl 137 rfl ?_
  refine own_getF X32 hx hZ hown (own_w46 hw) e32 F_cache_32 (hb hby d_dinit_137) 140 rfl (fun T33 X33 e33 => ?_)
  refine own_iconst X33 hx (z := (-1 : Int32)) (hb hby d_dinit_140) rfl 141 rfl ?_
  refine own_callS X33 hx hZ hown (own_w48 hw) (own_w49 hw) (own_w50 hw) (own_w51 hw) (by decide) 0 (own_m_fill l Z a0 hw _ n0 (by decide) A_b31_32 gn_b31 (-1 : Int32)) e33 (by rw [hml]; rfl) [(.ref b31), (.int (-1 : Int32))] [] rfl (lenOf own_pd_1 rfl) rfl (Nat.le_of_eq rfl) (by decide) (by decide) (by decide) (by decide) (hb hby d_dinit_141) N32 144 rfl (fun v34 T34 l34 X34 N34 hP34 => ?_)
  obtain ⟨rfl, A34', K34'⟩ := hP34
  have E0_34 := E0_32.keep K34'
  have K0_34 := K0_32.trans K34' (allS (Or.inr sz_b31) all0)
  have Z0_34 := Nat.le_trans Z0_32 K34'.1
  have F_logic_34 := F_logic_32.keep K34' (ninS (Nat.ne_of_lt o_d_b31) nin0)
  have F_sets_34 := F_sets_32.keep K34' (ninS (Nat.ne_of_lt o_d_b31) nin0)
  have F_work_34 := F_work_32.keep K34' (ninS (Nat.ne_of_lt o_d_b31) nin0)
  have F_results_34 := F_results_32.keep K34' (ninS (Nat.ne_of_lt o_d_b31) nin0)
  have F_variables_34 := F_variables_32.keep K34' (ninS (Nat.ne_of_lt o_d_b31) nin0)
  have F_terms_34 := F_terms_32.keep K34' (ninS (Nat.ne_of_lt o_d_b31) nin0)
  have F_limit_34 := F_limit_32.keep K34' (ninS (Nat.ne_of_lt o_d_b31) nin0)
  have F_level_34 := F_level_32.keep K34' (ninS (Nat.ne_of_lt o_d_b31) nin0)
  have F_low_34 := F_low_32.keep K34' (ninS (Nat.ne_of_lt o_d_b31) nin0)
  have F_high_34 := F_high_32.keep K34' (ninS (Nat.ne_of_lt o_d_b31) nin0)
  have F_size_34 := F_size_32.keep K34' (ninS (Nat.ne_of_lt o_d_b31) nin0)
  have F_unique_34 := F_unique_32.keep K34' (ninS (Nat.ne_of_lt o_d_b31) nin0)
  have F_cache_34 := F_cache_32.keep K34' (ninS (Nat.ne_of_lt o_d_b31) nin0)
  have B2_34 := B2_32.keep K34'
  have A_b7_34 := A_b7_32.keep K34' (ninS (Nat.ne_of_lt o_b7_b31) nin0)
  have A_b9_34 := A_b9_32.keep K34' (ninS (Nat.ne_of_lt o_b9_b31) nin0)
  have A_b14_34 := A_b14_32.keep K34' (ninS (Nat.ne_of_lt o_b14_b31) nin0)
  have A_b16_34 := A_b16_32.keep K34' (ninS (Nat.ne_of_lt o_b16_b31) nin0)
  have A_b18_34 := A_b18_32.keep K34' (ninS (Nat.ne_of_lt o_b18_b31) nin0)
  have A_b29_34 := A_b29_32.keep K34' (ninS (Nat.ne_of_lt o_b29_b31) nin0)
  show own_G p e below _ (T34.setTop (mkF m 144 #[.val (.ref d), .val (.int p1), .val (.int p2), .val (.int p3)] []))
  exact own_retV X34 hx hret hlk (hb hby d_dinit_144) (by decide) (by decide) N34 rfl ⟨rfl, ⟨b14, b16, b18, b29, b31, b7, b9, ⟨gn_d, o_d_b7, o_b7_b9, o_b9_b14, o_b14_b16, o_b16_b18, o_b18_b29, o_b29_b31⟩, E0_34, F_limit_34, F_size_34, F_level_34, F_low_34, F_high_34, F_unique_34, F_cache_34, F_work_34, F_results_34, A_b14_34.congr (fun j _ => by rw [own_look_set, own_look_set]; rfl), A_b16_34.congr (fun j _ => by rw [own_look_set]; rfl), A_b18_34.congr (fun j _ => by rw [own_look_set]; rfl), A_b29_34.congr (fun j _ => by rfl), A34'.congr (fun j _ => by rfl), A_b7_34.congr (fun j _ => by rfl), A_b9_34.congr (fun j _ => by rfl)⟩, K0_34⟩
/-- hash's model -/
def own_f_hash  (p1 p2 p3 : Int32) : Int32 :=
  (((((p1 * (-1640531535 : Int32)) + p2) * (-2048144777 : Int32)) + p3) ^^^ ((((((p1 * (-1640531535 : Int32)) + p2) * (-2048144777 : Int32)) + p3).toUInt32 >>> ((15 : Int32) &&& 31).toUInt32).toInt32))
theorem d_hash_0 : decode prog_81_method_34_code 0 = .ok (.iload_n 0, 1) := by decide +kernel
theorem d_hash_1 : decode prog_81_method_34_code 1 = .ok (.ldc_w 259, 3) := by decide +kernel
theorem d_hash_4 : decode prog_81_method_34_code 4 = .ok (.imul, 1) := by decide +kernel
theorem d_hash_5 : decode prog_81_method_34_code 5 = .ok (.iload_n 1, 1) := by decide +kernel
theorem d_hash_6 : decode prog_81_method_34_code 6 = .ok (.iadd, 1) := by decide +kernel
theorem d_hash_7 : decode prog_81_method_34_code 7 = .ok (.istore_n 3, 1) := by decide +kernel
theorem d_hash_8 : decode prog_81_method_34_code 8 = .ok (.iload_n 3, 1) := by decide +kernel
theorem d_hash_9 : decode prog_81_method_34_code 9 = .ok (.ldc_w 260, 3) := by decide +kernel
theorem d_hash_12 : decode prog_81_method_34_code 12 = .ok (.imul, 1) := by decide +kernel
theorem d_hash_13 : decode prog_81_method_34_code 13 = .ok (.iload_n 2, 1) := by decide +kernel
theorem d_hash_14 : decode prog_81_method_34_code 14 = .ok (.iadd, 1) := by decide +kernel
theorem d_hash_15 : decode prog_81_method_34_code 15 = .ok (.istore_n 3, 1) := by decide +kernel
theorem d_hash_16 : decode prog_81_method_34_code 16 = .ok (.iload_n 3, 1) := by decide +kernel
theorem d_hash_17 : decode prog_81_method_34_code 17 = .ok (.iload_n 3, 1) := by decide +kernel
theorem d_hash_18 : decode prog_81_method_34_code 18 = .ok (.bipush 15, 2) := by decide +kernel
theorem d_hash_20 : decode prog_81_method_34_code 20 = .ok (.iushr, 1) := by decide +kernel
theorem d_hash_21 : decode prog_81_method_34_code 21 = .ok (.ixor, 1) := by decide +kernel
theorem d_hash_22 : decode prog_81_method_34_code 22 = .ok (.ireturn, 1) := by decide +kernel
theorem own_ef_hash (m : MethodId) (p1 : Int32) (p2 : Int32) (p3 : Int32) : entryFrame m #[(.int p1), (.int p2), (.int p3)] 4 = mkF m 0 #[.val (.int p1), .val (.int p2), .val (.int p3), .unset] [] := by first | (simp [entryFrame, mkF, argsToLocals, Value.category]; done) | rfl
set_option maxRecDepth 65536 in
set_option maxHeartbeats 40000000 in
theorem own_m_hash (l : Launch) (Z : State) (a0 : Array Value) (hw : ∀ d ∈ tables_1, d.before a0 Z = true) (h0 : Heap) (n0 : Nat)  (p1 p2 p3 : Int32) {r : Int32} (hF : own_f_hash p1 p2 p3 = r) : own_Met l Z ⟨"com/example/orbweaver/orbweaver/synthesis/Diagrams", "hash", "(III)I"⟩ prog_81_method_34_code 4 (some .int) [] ({ frames := 0, cells := 0, slots := 0, locals := 0 } : Room) #[.int p1, .int p2, .int p3] h0 n0 (fun v h => v = some (.int r) ∧ h = h0) := by
  unfold own_f_hash at hF
  refine own_body (plainFor_of_name own_pn_Diagrams) ?_
  intro p e s m below meth c T0 X0 hx hby hml hown hnm hZ e0 hret hlk
  have N0 := Fr.nil n0
  refine own_cast (own_ef_hash m p1 p2 p3) ?_
  refine own_iloadN X0 hx (hb hby d_hash_0) rfl 1 rfl ?_
  refine own_ldcwI X0 hx hZ hown (own_w64 hw) (hb hby d_hash_1) 4 rfl ?_
  refine own_imul X0 hx (hb hby d_hash_4) 5 rfl ?_
  refine own_iloadN X0 hx (hb hby d_hash_5) rfl 6 rfl ?_
  refine own_iadd X0 hx (hb hby d_hash_6) 7 rfl ?_
  refine own_istoreN X0 hx (#[.val (.int p1), .val (.int p2), .val (.int p3), .val (.int ((p1 * (-1640531535 : Int32)) + p2))]) (hb hby d_hash_7) rfl 8 rfl ?_
  refine own_iloadN X0 hx (hb hby d_hash_8) rfl 9 rfl ?_
  refine own_ldcwI X0 hx hZ hown (own_w65 hw) (hb hby d_hash_9) 12 rfl ?_
  refine own_imul X0 hx (hb hby d_hash_12) 13 rfl ?_
  refine own_iloadN X0 hx (hb hby d_hash_13) rfl 14 rfl ?_
  refine own_iadd X0 hx (hb hby d_hash_14) 15 rfl ?_
  refine own_istoreN X0 hx (#[.val (.int p1), .val (.int p2), .val (.int p3), .val (.int ((((p1 * (-1640531535 : Int32)) + p2) * (-2048144777 : Int32)) + p3))]) (hb hby d_hash_15) rfl 16 rfl ?_
  refine own_iloadN X0 hx (hb hby d_hash_16) rfl 17 rfl ?_
  refine own_iloadN X0 hx (hb hby d_hash_17) rfl 18 rfl ?_
  refine own_bipush X0 hx (z := (15 : Int32)) (hb hby d_hash_18) rfl 20 rfl ?_
  refine own_iushr X0 hx (hb hby d_hash_20) 21 rfl ?_
  refine own_ixor X0 hx (hb hby d_hash_21) 22 rfl ?_
  exact own_retI X0 hx hret hlk (hb hby d_hash_22) (Nat.le_refl _) (Nat.le_refl _) N0 e0 ⟨congrArg (fun z => some (Value.int z)) hF, rfl⟩
/-- min's model -/
def own_f_min  (p1 p2 : Int32) : Int32 :=
  if p2 < p1 then
    p2
  else
    p1
theorem d_min_0 : decode jdk_29_method_69_code 0 = .ok (.iload_n 0, 1) := by decide +kernel
theorem d_min_1 : decode jdk_29_method_69_code 1 = .ok (.iload_n 1, 1) := by decide +kernel
theorem d_min_2 : decode jdk_29_method_69_code 2 = .ok (.if_icmp .gt 7, 3) := by decide +kernel
theorem d_min_5 : decode jdk_29_method_69_code 5 = .ok (.iload_n 0, 1) := by decide +kernel
theorem d_min_6 : decode jdk_29_method_69_code 6 = .ok (.goto 4, 3) := by decide +kernel
theorem d_min_9 : decode jdk_29_method_69_code 9 = .ok (.iload_n 1, 1) := by decide +kernel
theorem d_min_10 : decode jdk_29_method_69_code 10 = .ok (.ireturn, 1) := by decide +kernel
theorem own_ef_min (m : MethodId) (p1 : Int32) (p2 : Int32) : entryFrame m #[(.int p1), (.int p2)] 2 = mkF m 0 #[.val (.int p1), .val (.int p2)] [] := by first | (simp [entryFrame, mkF, argsToLocals, Value.category]; done) | rfl
set_option maxRecDepth 65536 in
set_option maxHeartbeats 40000000 in
theorem own_m_min (l : Launch) (Z : State) (a0 : Array Value) (hw : ∀ d ∈ tables_1, d.before a0 Z = true) (h0 : Heap) (n0 : Nat)  (p1 p2 : Int32) {r : Int32} (hF : own_f_min p1 p2 = r) : own_Met l Z ⟨"java/lang/Math", "min", "(II)I"⟩ jdk_29_method_69_code 2 (some .int) [] ({ frames := 0, cells := 0, slots := 0, locals := 0 } : Room) #[.int p1, .int p2] h0 n0 (fun v h => v = some (.int r) ∧ h = h0) := by
  unfold own_f_min at hF
  refine own_body (by decide +kernel) ?_
  intro p e s m below meth c T0 X0 hx hby hml hown hnm hZ e0 hret hlk
  have N0 := Fr.nil n0
  refine own_cast (own_ef_min m p1 p2) ?_
  refine own_iloadN X0 hx (hb hby d_min_0) rfl 1 rfl ?_
  refine own_iloadN X0 hx (hb hby d_min_1) rfl 2 rfl ?_
  by_cases hc1 : p2 < p1
  · replace hF := own_ifT hc1 hF
    refine own_icmpT X0 hx (hb hby d_min_2) (tlt hc1).2.2.1 9 (by decide) (by decide) ?_
    refine own_iloadN X0 hx (hb hby d_min_9) rfl 10 rfl ?_
    exact own_retI X0 hx hret hlk (hb hby d_min_10) (Nat.le_refl _) (Nat.le_refl _) N0 e0 ⟨congrArg (fun z => some (Value.int z)) hF, rfl⟩
  · replace hF := own_ifF hc1 hF
    refine own_icmpF X0 hx (hb hby d_min_2) (flt hc1).2.2.1 5 rfl ?_
    refine own_iloadN X0 hx (hb hby d_min_5) rfl 6 rfl ?_
    refine own_goto X0 hx (hb hby d_min_6) 10 (by decide) (by decide) ?_
    exact own_retI X0 hx hret hlk (hb hby d_min_10) (Nat.le_refl _) (Nat.le_refl _) N0 e0 ⟨congrArg (fun z => some (Value.int z)) hF, rfl⟩
/-- cofactor's model -/
def own_f_cofactor  (lv : own_L) (lo : own_L) (hi : own_L) (p1 p2 p3 : Int32) : Option Int32 :=
  own_b1 (own_get 4096 0 lv p1) fun x2 =>
  if x2 = p2 then
    if p3 = (0 : Int32) then
      own_b1 (own_get 4096 0 lo p1) fun x6 =>
      some x6
    else
      own_b1 (own_get 4096 0 hi p1) fun x8 =>
      some x8
  else
    some p1
theorem d_cofactor_0 : decode prog_81_method_19_code 0 = .ok (.iload_n 1, 1) := by decide +kernel
theorem d_cofactor_1 : decode prog_81_method_19_code 1 = .ok (.istore 4, 2) := by decide +kernel
theorem d_cofactor_3 : decode prog_81_method_19_code 3 = .ok (.aload_n 0, 1) := by decide +kernel
theorem d_cofactor_4 : decode prog_81_method_19_code 4 = .ok (.getfield 44, 3) := by decide +kernel
theorem d_cofactor_7 : decode prog_81_method_19_code 7 = .ok (.iload_n 1, 1) := by decide +kernel
theorem d_cofactor_8 : decode prog_81_method_19_code 8 = .ok (.iaload, 1) := by decide +kernel
theorem d_cofactor_9 : decode prog_81_method_19_code 9 = .ok (.iload_n 2, 1) := by decide +kernel
theorem d_cofactor_10 : decode prog_81_method_19_code 10 = .ok (.if_icmp .ne 24, 3) := by decide +kernel
theorem d_cofactor_13 : decode prog_81_method_19_code 13 = .ok (.iload_n 3, 1) := by decide +kernel
theorem d_cofactor_14 : decode prog_81_method_19_code 14 = .ok (.ifCond .eq 12, 3) := by decide +kernel
theorem d_cofactor_17 : decode prog_81_method_19_code 17 = .ok (.aload_n 0, 1) := by decide +kernel
theorem d_cofactor_18 : decode prog_81_method_19_code 18 = .ok (.getfield 50, 3) := by decide +kernel
theorem d_cofactor_21 : decode prog_81_method_19_code 21 = .ok (.iload_n 1, 1) := by decide +kernel
theorem d_cofactor_22 : decode prog_81_method_19_code 22 = .ok (.iaload, 1) := by decide +kernel
theorem d_cofactor_23 : decode prog_81_method_19_code 23 = .ok (.goto 9, 3) := by decide +kernel
theorem d_cofactor_26 : decode prog_81_method_19_code 26 = .ok (.aload_n 0, 1) := by decide +kernel
theorem d_cofactor_27 : decode prog_81_method_19_code 27 = .ok (.getfield 47, 3) := by decide +kernel
theorem d_cofactor_30 : decode prog_81_method_19_code 30 = .ok (.iload_n 1, 1) := by decide +kernel
theorem d_cofactor_31 : decode prog_81_method_19_code 31 = .ok (.iaload, 1) := by decide +kernel
theorem d_cofactor_32 : decode prog_81_method_19_code 32 = .ok (.istore 4, 2) := by decide +kernel
theorem d_cofactor_34 : decode prog_81_method_19_code 34 = .ok (.iload 4, 2) := by decide +kernel
theorem d_cofactor_36 : decode prog_81_method_19_code 36 = .ok (.ireturn, 1) := by decide +kernel
theorem own_ef_cofactor (m : MethodId) (d : Addr) (p1 : Int32) (p2 : Int32) (p3 : Int32) : entryFrame m #[(.ref d), (.int p1), (.int p2), (.int p3)] 5 = mkF m 0 #[.val (.ref d), .val (.int p1), .val (.int p2), .val (.int p3), .unset] [] := by first | (simp [entryFrame, mkF, argsToLocals, Value.category]; done) | rfl
set_option maxRecDepth 65536 in
set_option maxHeartbeats 40000000 in
theorem own_m_cofactor (l : Launch) (Z : State) (a0 : Array Value) (hw : ∀ d ∈ tables_1, d.before a0 Z = true) (h0 : Heap) (n0 : Nat) {d al ao ah au ac aw ar : Addr} {lim sz : Int32} {lv lo hi un ca wo re : own_L} (D : own_Dg Z n0 h0 d al ao ah au ac aw ar lim sz lv lo hi un ca wo re) (p1 p2 p3 : Int32) {r : Int32} (hF : own_f_cofactor lv lo hi p1 p2 p3 = some r) : own_Met l Z ⟨"com/example/orbweaver/orbweaver/synthesis/Diagrams", "cofactor", "(IIZ)I"⟩ prog_81_method_19_code 5 (some .int) [] ({ frames := 0, cells := 0, slots := 0, locals := 0 } : Room) #[.ref d, .int p1, .int p2, .int p3] h0 n0 (fun v h => v = some (.int r) ∧ h = h0) := by
  unfold own_f_cofactor at hF
  refine own_body (plainFor_of_name own_pn_Diagrams) ?_
  intro p e s m below meth c T0 X0 hx hby hml hown hnm hZ e0 hret hlk
  have N0 := Fr.nil n0
  refine own_cast (own_ef_cofactor m d p1 p2 p3) ?_
  refine own_iloadN X0 hx (hb hby d_cofactor_0) rfl 1 rfl ?_
  refine own_istore X0 hx (#[.val (.ref d), .val (.int p1), .val (.int p2), .val (.int p3), .val (.int p1)]) (hb hby d_cofactor_1) rfl 3 rfl ?_
  refine own_aloadN X0 hx (hb hby d_cofactor_3) rfl rfl 4 rfl ?_
  refine own_getF X0 hx hZ hown (own_w36 hw) e0 (own_D_f_level D) (hb hby d_cofactor_4) 7 rfl (fun T1 X1 e1 => ?_)
  refine own_iloadN X1 hx (hb hby d_cofactor_7) rfl 8 rfl ?_
  obtain ⟨x2, g2, hF⟩ := own_b1_some hF
  refine own_iaload X1 hx hZ e1 (own_D_a_al D) (own_get_in g2) (own_get_val g2) (hb hby d_cofactor_8) 9 rfl ?_
  refine own_iloadN X1 hx (hb hby d_cofactor_9) rfl 10 rfl ?_
  by_cases hc3 : x2 = p2
  · replace hF := own_ifT hc3 hF
    refine own_icmpF X1 hx (hb hby d_cofactor_10) (teq hc3).2 13 rfl ?_
    refine own_iloadN X1 hx (hb hby d_cofactor_13) rfl 14 rfl ?_
    by_cases hc4 : p3 = (0 : Int32)
    · replace hF := own_ifT hc4 hF
      refine own_ifcT X1 hx (hb hby d_cofactor_14) (teq hc4).1 26 (by decide) (by decide) ?_
      refine own_aloadN X1 hx (hb hby d_cofactor_26) rfl rfl 27 rfl ?_
      refine own_getF X1 hx hZ hown (own_w38 hw) e1 (own_D_f_low D) (hb hby d_cofactor_27) 30 rfl (fun T5 X5 e5 => ?_)
      refine own_iloadN X5 hx (hb hby d_cofactor_30) rfl 31 rfl ?_
      obtain ⟨x6, g6, hF⟩ := own_b1_some hF
      refine own_iaload X5 hx hZ e5 (own_D_a_ao D) (own_get_in g6) (own_get_val g6) (hb hby d_cofactor_31) 32 rfl ?_
      refine own_istore X5 hx (#[.val (.ref d), .val (.int p1), .val (.int p2), .val (.int p3), .val (.int x6)]) (hb hby d_cofactor_32) rfl 34 rfl ?_
      refine own_iload X5 hx (hb hby d_cofactor_34) rfl 36 rfl ?_
      cases hF
      exact own_retI X5 hx hret hlk (hb hby d_cofactor_36) (Nat.le_refl _) (Nat.le_refl _) N0 e5 ⟨rfl, rfl⟩
    · replace hF := own_ifF hc4 hF
      refine own_ifcF X1 hx (hb hby d_cofactor_14) (feq hc4).1 17 rfl ?_
      refine own_aloadN X1 hx (hb hby d_cofactor_17) rfl rfl 18 rfl ?_
      refine own_getF X1 hx hZ hown (own_w40 hw) e1 (own_D_f_high D) (hb hby d_cofactor_18) 21 rfl (fun T7 X7 e7 => ?_)
      refine own_iloadN X7 hx (hb hby d_cofactor_21) rfl 22 rfl ?_
      obtain ⟨x8, g8, hF⟩ := own_b1_some hF
      refine own_iaload X7 hx hZ e7 (own_D_a_ah D) (own_get_in g8) (own_get_val g8) (hb hby d_cofactor_22) 23 rfl ?_
      refine own_goto X7 hx (hb hby d_cofactor_23) 32 (by decide) (by decide) ?_
      refine own_istore X7 hx (#[.val (.ref d), .val (.int p1), .val (.int p2), .val (.int p3), .val (.int x8)]) (hb hby d_cofactor_32) rfl 34 rfl ?_
      refine own_iload X7 hx (hb hby d_cofactor_34) rfl 36 rfl ?_
      cases hF
      exact own_retI X7 hx hret hlk (hb hby d_cofactor_36) (Nat.le_refl _) (Nat.le_refl _) N0 e7 ⟨rfl, rfl⟩
  · replace hF := own_ifF hc3 hF
    refine own_icmpT X1 hx (hb hby d_cofactor_10) (feq hc3).2 34 (by decide) (by decide) ?_
    refine own_iload X1 hx (hb hby d_cofactor_34) rfl 36 rfl ?_
    cases hF
    exact own_retI X1 hx hret hlk (hb hby d_cofactor_36) (Nat.le_refl _) (Nat.le_refl _) N0 e1 ⟨rfl, rfl⟩
/-- decided's model -/
def own_f_decided  (lv : own_L) (lo : own_L) (hi : own_L) (p1 p2 p3 : Int32) : Option Int32 :=
  if p1 = (3 : Int32) then
    own_b1 (own_get 4096 0 lv p2) fun x3 =>
    if (p3 >>> ((1 : Int32) &&& 31)) < x3 then
      some p2
    else
      own_b1 (own_get 4096 0 lv p2) fun x6 =>
      if x6 = (p3 >>> ((1 : Int32) &&& 31)) then
        if (p3 &&& (1 : Int32)) = (1 : Int32) then
          own_b1 (own_get 4096 0 hi p2) fun x10 =>
          some x10
        else
          own_b1 (own_get 4096 0 lo p2) fun x12 =>
          some x12
      else
        some (-1 : Int32)
  else
    if p2 = p3 then
      if p1 = (2 : Int32) then
        some (1 : Int32)
      else
        some p2
    else
      if p2 = (1 : Int32) then
        if p1 = (1 : Int32) then
          some (1 : Int32)
        else
          some p3
      else
        if p3 = (1 : Int32) then
          if p1 = (1 : Int32) then
            some (1 : Int32)
          else
            some p2
        else
          if p2 = (0 : Int32) then
            if p1 = (0 : Int32) then
              some (0 : Int32)
            else
              if p1 = (1 : Int32) then
                some p3
              else
                some (-1 : Int32)
          else
            if p3 = (0 : Int32) then
              if p1 = (0 : Int32) then
                some (0 : Int32)
              else
                if p1 = (1 : Int32) then
                  some p2
                else
                  some (-1 : Int32)
            else
              some (-1 : Int32)
theorem d_decided_0 : decode prog_81_method_18_code 0 = .ok (.iconst (-1), 1) := by decide +kernel
theorem d_decided_1 : decode prog_81_method_18_code 1 = .ok (.istore 4, 2) := by decide +kernel
theorem d_decided_3 : decode prog_81_method_18_code 3 = .ok (.iload_n 1, 1) := by decide +kernel
theorem d_decided_4 : decode prog_81_method_18_code 4 = .ok (.iconst 3, 1) := by decide +kernel
theorem d_decided_5 : decode prog_81_method_18_code 5 = .ok (.if_icmp .ne 63, 3) := by decide +kernel
theorem d_decided_8 : decode prog_81_method_18_code 8 = .ok (.iload_n 3, 1) := by decide +kernel
theorem d_decided_9 : decode prog_81_method_18_code 9 = .ok (.iconst 1, 1) := by decide +kernel
theorem d_decided_10 : decode prog_81_method_18_code 10 = .ok (.ishr, 1) := by decide +kernel
theorem d_decided_11 : decode prog_81_method_18_code 11 = .ok (.istore 5, 2) := by decide +kernel
theorem d_decided_13 : decode prog_81_method_18_code 13 = .ok (.aload_n 0, 1) := by decide +kernel
theorem d_decided_14 : decode prog_81_method_18_code 14 = .ok (.getfield 44, 3) := by decide +kernel
theorem d_decided_17 : decode prog_81_method_18_code 17 = .ok (.iload_n 2, 1) := by decide +kernel
theorem d_decided_18 : decode prog_81_method_18_code 18 = .ok (.iaload, 1) := by decide +kernel
theorem d_decided_19 : decode prog_81_method_18_code 19 = .ok (.iload 5, 2) := by decide +kernel
theorem d_decided_21 : decode prog_81_method_18_code 21 = .ok (.if_icmp .le 9, 3) := by decide +kernel
theorem d_decided_24 : decode prog_81_method_18_code 24 = .ok (.iload_n 2, 1) := by decide +kernel
theorem d_decided_25 : decode prog_81_method_18_code 25 = .ok (.istore 4, 2) := by decide +kernel
theorem d_decided_27 : decode prog_81_method_18_code 27 = .ok (.goto 38, 3) := by decide +kernel
theorem d_decided_30 : decode prog_81_method_18_code 30 = .ok (.aload_n 0, 1) := by decide +kernel
theorem d_decided_31 : decode prog_81_method_18_code 31 = .ok (.getfield 44, 3) := by decide +kernel
theorem d_decided_34 : decode prog_81_method_18_code 34 = .ok (.iload_n 2, 1) := by decide +kernel
theorem d_decided_35 : decode prog_81_method_18_code 35 = .ok (.iaload, 1) := by decide +kernel
theorem d_decided_36 : decode prog_81_method_18_code 36 = .ok (.iload 5, 2) := by decide +kernel
theorem d_decided_38 : decode prog_81_method_18_code 38 = .ok (.if_icmp .ne 27, 3) := by decide +kernel
theorem d_decided_41 : decode prog_81_method_18_code 41 = .ok (.iload_n 3, 1) := by decide +kernel
theorem d_decided_42 : decode prog_81_method_18_code 42 = .ok (.iconst 1, 1) := by decide +kernel
theorem d_decided_43 : decode prog_81_method_18_code 43 = .ok (.iand, 1) := by decide +kernel
theorem d_decided_44 : decode prog_81_method_18_code 44 = .ok (.iconst 1, 1) := by decide +kernel
theorem d_decided_45 : decode prog_81_method_18_code 45 = .ok (.if_icmp .ne 12, 3) := by decide +kernel
theorem d_decided_48 : decode prog_81_method_18_code 48 = .ok (.aload_n 0, 1) := by decide +kernel
theorem d_decided_49 : decode prog_81_method_18_code 49 = .ok (.getfield 50, 3) := by decide +kernel
theorem d_decided_52 : decode prog_81_method_18_code 52 = .ok (.iload_n 2, 1) := by decide +kernel
theorem d_decided_53 : decode prog_81_method_18_code 53 = .ok (.iaload, 1) := by decide +kernel
theorem d_decided_54 : decode prog_81_method_18_code 54 = .ok (.goto 9, 3) := by decide +kernel
theorem d_decided_57 : decode prog_81_method_18_code 57 = .ok (.aload_n 0, 1) := by decide +kernel
theorem d_decided_58 : decode prog_81_method_18_code 58 = .ok (.getfield 47, 3) := by decide +kernel
theorem d_decided_61 : decode prog_81_method_18_code 61 = .ok (.iload_n 2, 1) := by decide +kernel
theorem d_decided_62 : decode prog_81_method_18_code 62 = .ok (.iaload, 1) := by decide +kernel
theorem d_decided_63 : decode prog_81_method_18_code 63 = .ok (.istore 4, 2) := by decide +kernel
theorem d_decided_65 : decode prog_81_method_18_code 65 = .ok (.goto 99, 3) := by decide +kernel
theorem d_decided_68 : decode prog_81_method_18_code 68 = .ok (.iload_n 2, 1) := by decide +kernel
theorem d_decided_69 : decode prog_81_method_18_code 69 = .ok (.iload_n 3, 1) := by decide +kernel
theorem d_decided_70 : decode prog_81_method_18_code 70 = .ok (.if_icmp .ne 18, 3) := by decide +kernel
theorem d_decided_73 : decode prog_81_method_18_code 73 = .ok (.iload_n 1, 1) := by decide +kernel
theorem d_decided_74 : decode prog_81_method_18_code 74 = .ok (.iconst 2, 1) := by decide +kernel
theorem d_decided_75 : decode prog_81_method_18_code 75 = .ok (.if_icmp .ne 7, 3) := by decide +kernel
theorem d_decided_78 : decode prog_81_method_18_code 78 = .ok (.iconst 1, 1) := by decide +kernel
theorem d_decided_79 : decode prog_81_method_18_code 79 = .ok (.goto 4, 3) := by decide +kernel
theorem d_decided_82 : decode prog_81_method_18_code 82 = .ok (.iload_n 2, 1) := by decide +kernel
theorem d_decided_83 : decode prog_81_method_18_code 83 = .ok (.istore 4, 2) := by decide +kernel
theorem d_decided_85 : decode prog_81_method_18_code 85 = .ok (.goto 79, 3) := by decide +kernel
theorem d_decided_88 : decode prog_81_method_18_code 88 = .ok (.iload_n 2, 1) := by decide +kernel
theorem d_decided_89 : decode prog_81_method_18_code 89 = .ok (.iconst 1, 1) := by decide +kernel
theorem d_decided_90 : decode prog_81_method_18_code 90 = .ok (.if_icmp .eq 8, 3) := by decide +kernel
theorem d_decided_93 : decode prog_81_method_18_code 93 = .ok (.iload_n 3, 1) := by decide +kernel
theorem d_decided_94 : decode prog_81_method_18_code 94 = .ok (.iconst 1, 1) := by decide +kernel
theorem d_decided_95 : decode prog_81_method_18_code 95 = .ok (.if_icmp .ne 31, 3) := by decide +kernel
theorem d_decided_98 : decode prog_81_method_18_code 98 = .ok (.iload_n 2, 1) := by decide +kernel
theorem d_decided_99 : decode prog_81_method_18_code 99 = .ok (.iconst 1, 1) := by decide +kernel
theorem d_decided_100 : decode prog_81_method_18_code 100 = .ok (.if_icmp .ne 7, 3) := by decide +kernel
theorem d_decided_103 : decode prog_81_method_18_code 103 = .ok (.iload_n 3, 1) := by decide +kernel
theorem d_decided_104 : decode prog_81_method_18_code 104 = .ok (.goto 4, 3) := by decide +kernel
theorem d_decided_107 : decode prog_81_method_18_code 107 = .ok (.iload_n 2, 1) := by decide +kernel
theorem d_decided_108 : decode prog_81_method_18_code 108 = .ok (.istore 5, 2) := by decide +kernel
theorem d_decided_110 : decode prog_81_method_18_code 110 = .ok (.iload_n 1, 1) := by decide +kernel
theorem d_decided_111 : decode prog_81_method_18_code 111 = .ok (.iconst 1, 1) := by decide +kernel
theorem d_decided_112 : decode prog_81_method_18_code 112 = .ok (.if_icmp .ne 7, 3) := by decide +kernel
theorem d_decided_115 : decode prog_81_method_18_code 115 = .ok (.iconst 1, 1) := by decide +kernel
theorem d_decided_116 : decode prog_81_method_18_code 116 = .ok (.goto 5, 3) := by decide +kernel
theorem d_decided_119 : decode prog_81_method_18_code 119 = .ok (.iload 5, 2) := by decide +kernel
theorem d_decided_121 : decode prog_81_method_18_code 121 = .ok (.istore 4, 2) := by decide +kernel
theorem d_decided_123 : decode prog_81_method_18_code 123 = .ok (.goto 41, 3) := by decide +kernel
theorem d_decided_126 : decode prog_81_method_18_code 126 = .ok (.iload_n 2, 1) := by decide +kernel
theorem d_decided_127 : decode prog_81_method_18_code 127 = .ok (.ifCond .eq 7, 3) := by decide +kernel
theorem d_decided_130 : decode prog_81_method_18_code 130 = .ok (.iload_n 3, 1) := by decide +kernel
theorem d_decided_131 : decode prog_81_method_18_code 131 = .ok (.ifCond .ne 33, 3) := by decide +kernel
theorem d_decided_134 : decode prog_81_method_18_code 134 = .ok (.iload_n 2, 1) := by decide +kernel
theorem d_decided_135 : decode prog_81_method_18_code 135 = .ok (.ifCond .ne 7, 3) := by decide +kernel
theorem d_decided_138 : decode prog_81_method_18_code 138 = .ok (.iload_n 3, 1) := by decide +kernel
theorem d_decided_139 : decode prog_81_method_18_code 139 = .ok (.goto 4, 3) := by decide +kernel
theorem d_decided_142 : decode prog_81_method_18_code 142 = .ok (.iload_n 2, 1) := by decide +kernel
theorem d_decided_143 : decode prog_81_method_18_code 143 = .ok (.istore 5, 2) := by decide +kernel
theorem d_decided_145 : decode prog_81_method_18_code 145 = .ok (.iload_n 1, 1) := by decide +kernel
theorem d_decided_146 : decode prog_81_method_18_code 146 = .ok (.ifCond .ne 9, 3) := by decide +kernel
theorem d_decided_149 : decode prog_81_method_18_code 149 = .ok (.iconst 0, 1) := by decide +kernel
theorem d_decided_150 : decode prog_81_method_18_code 150 = .ok (.istore 4, 2) := by decide +kernel
theorem d_decided_152 : decode prog_81_method_18_code 152 = .ok (.goto 12, 3) := by decide +kernel
theorem d_decided_155 : decode prog_81_method_18_code 155 = .ok (.iload_n 1, 1) := by decide +kernel
theorem d_decided_156 : decode prog_81_method_18_code 156 = .ok (.iconst 1, 1) := by decide +kernel
theorem d_decided_157 : decode prog_81_method_18_code 157 = .ok (.if_icmp .ne 7, 3) := by decide +kernel
theorem d_decided_160 : decode prog_81_method_18_code 160 = .ok (.iload 5, 2) := by decide +kernel
theorem d_decided_162 : decode prog_81_method_18_code 162 = .ok (.istore 4, 2) := by decide +kernel
theorem d_decided_164 : decode prog_81_method_18_code 164 = .ok (.iload 4, 2) := by decide +kernel
theorem d_decided_166 : decode prog_81_method_18_code 166 = .ok (.ireturn, 1) := by decide +kernel
theorem own_ef_decided (m : MethodId) (d : Addr) (p1 : Int32) (p2 : Int32) (p3 : Int32) : entryFrame m #[(.ref d), (.int p1), (.int p2), (.int p3)] 6 = mkF m 0 #[.val (.ref d), .val (.int p1), .val (.int p2), .val (.int p3), .unset, .unset] [] := by first | (simp [entryFrame, mkF, argsToLocals, Value.category]; done) | rfl
set_option maxRecDepth 65536 in
set_option maxHeartbeats 40000000 in
theorem own_m_decided (l : Launch) (Z : State) (a0 : Array Value) (hw : ∀ d ∈ tables_1, d.before a0 Z = true) (h0 : Heap) (n0 : Nat) {d al ao ah au ac aw ar : Addr} {lim sz : Int32} {lv lo hi un ca wo re : own_L} (D : own_Dg Z n0 h0 d al ao ah au ac aw ar lim sz lv lo hi un ca wo re) (p1 p2 p3 : Int32) {r : Int32} (hF : own_f_decided lv lo hi p1 p2 p3 = some r) : own_Met l Z ⟨"com/example/orbweaver/orbweaver/synthesis/Diagrams", "decided", "(III)I"⟩ prog_81_method_18_code 6 (some .int) [] ({ frames := 0, cells := 0, slots := 0, locals := 0 } : Room) #[.ref d, .int p1, .int p2, .int p3] h0 n0 (fun v h => v = some (.int r) ∧ h = h0) := by
  unfold own_f_decided at hF
  refine own_body (plainFor_of_name own_pn_Diagrams) ?_
  intro p e s m below meth c T0 X0 hx hby hml hown hnm hZ e0 hret hlk
  have N0 := Fr.nil n0
  refine own_cast (own_ef_decided m d p1 p2 p3) ?_
  refine own_iconst X0 hx (z := (-1 : Int32)) (hb hby d_decided_0) rfl 1 rfl ?_
  refine own_istore X0 hx (#[.val (.ref d), .val (.int p1), .val (.int p2), .val (.int p3), .val (.int (-1 : Int32)), .unset]) (hb hby d_decided_1) rfl 3 rfl ?_
  refine own_iloadN X0 hx (hb hby d_decided_3) rfl 4 rfl ?_
  refine own_iconst X0 hx (z := (3 : Int32)) (hb hby d_decided_4) rfl 5 rfl ?_
  by_cases hc1 : p1 = (3 : Int32)
  · replace hF := own_ifT hc1 hF
    refine own_icmpF X0 hx (hb hby d_decided_5) (teq hc1).2 8 rfl ?_
    refine own_iloadN X0 hx (hb hby d_decided_8) rfl 9 rfl ?_
    refine own_iconst X0 hx (z := (1 : Int32)) (hb hby d_decided_9) rfl 10 rfl ?_
    refine own_ishr X0 hx (hb hby d_decided_10) 11 rfl ?_
    refine own_istore X0 hx (#[.val (.ref d), .val (.int p1), .val (.int p2), .val (.int p3), .val (.int (-1 : Int32)), .val (.int (p3 >>> ((1 : Int32) &&& 31)))]) (hb hby d_decided_11) rfl 13 rfl ?_
    refine own_aloadN X0 hx (hb hby d_decided_13) rfl rfl 14 rfl ?_
    refine own_getF X0 hx hZ hown (own_w36 hw) e0 (own_D_f_level D) (hb hby d_decided_14) 17 rfl (fun T2 X2 e2 => ?_)
    refine own_iloadN X2 hx (hb hby d_decided_17) rfl 18 rfl ?_
    obtain ⟨x3, g3, hF⟩ := own_b1_some hF
    refine own_iaload X2 hx hZ e2 (own_D_a_al D) (own_get_in g3) (own_get_val g3) (hb hby d_decided_18) 19 rfl ?_
    refine own_iload X2 hx (hb hby d_decided_19) rfl 21 rfl ?_
    by_cases hc4 : (p3 >>> ((1 : Int32) &&& 31)) < x3
    · replace hF := own_ifT hc4 hF
      refine own_icmpF X2 hx (hb hby d_decided_21) (tlt hc4).2.2.2 24 rfl ?_
      refine own_iloadN X2 hx (hb hby d_decided_24) rfl 25 rfl ?_
      refine own_istore X2 hx (#[.val (.ref d), .val (.int p1), .val (.int p2), .val (.int p3), .val (.int p2), .val (.int (p3 >>> ((1 : Int32) &&& 31)))]) (hb hby d_decided_25) rfl 27 rfl ?_
      refine own_goto X2 hx (hb hby d_decided_27) 65 (by decide) (by decide) ?_
      refine own_goto X2 hx (hb hby d_decided_65) 164 (by decide) (by decide) ?_
      refine own_iload X2 hx (hb hby d_decided_164) rfl 166 rfl ?_
      cases hF
      exact own_retI X2 hx hret hlk (hb hby d_decided_166) (Nat.le_refl _) (Nat.le_refl _) N0 e2 ⟨rfl, rfl⟩
    · replace hF := own_ifF hc4 hF
      refine own_icmpT X2 hx (hb hby d_decided_21) (flt hc4).2.2.2 30 (by decide) (by decide) ?_
      refine own_aloadN X2 hx (hb hby d_decided_30) rfl rfl 31 rfl ?_
      refine own_getF X2 hx hZ hown (own_w36 hw) e2 (own_D_f_level D) (hb hby d_decided_31) 34 rfl (fun T5 X5 e5 => ?_)
      refine own_iloadN X5 hx (hb hby d_decided_34) rfl 35 rfl ?_
      obtain ⟨x6, g6, hF⟩ := own_b1_some hF
      refine own_iaload X5 hx hZ e5 (own_D_a_al D) (own_get_in g6) (own_get_val g6) (hb hby d_decided_35) 36 rfl ?_
      refine own_iload X5 hx (hb hby d_decided_36) rfl 38 rfl ?_
      by_cases hc7 : x6 = (p3 >>> ((1 : Int32) &&& 31))
      · replace hF := own_ifT hc7 hF
        refine own_icmpF X5 hx (hb hby d_decided_38) (teq hc7).2 41 rfl ?_
        refine own_iloadN X5 hx (hb hby d_decided_41) rfl 42 rfl ?_
        refine own_iconst X5 hx (z := (1 : Int32)) (hb hby d_decided_42) rfl 43 rfl ?_
        refine own_iand X5 hx (hb hby d_decided_43) 44 rfl ?_
        refine own_iconst X5 hx (z := (1 : Int32)) (hb hby d_decided_44) rfl 45 rfl ?_
        by_cases hc8 : (p3 &&& (1 : Int32)) = (1 : Int32)
        · replace hF := own_ifT hc8 hF
          refine own_icmpF X5 hx (hb hby d_decided_45) (teq hc8).2 48 rfl ?_
          refine own_aloadN X5 hx (hb hby d_decided_48) rfl rfl 49 rfl ?_
          refine own_getF X5 hx hZ hown (own_w40 hw) e5 (own_D_f_high D) (hb hby d_decided_49) 52 rfl (fun T9 X9 e9 => ?_)
          refine own_iloadN X9 hx (hb hby d_decided_52) rfl 53 rfl ?_
          obtain ⟨x10, g10, hF⟩ := own_b1_some hF
          refine own_iaload X9 hx hZ e9 (own_D_a_ah D) (own_get_in g10) (own_get_val g10) (hb hby d_decided_53) 54 rfl ?_
          refine own_goto X9 hx (hb hby d_decided_54) 63 (by decide) (by decide) ?_
          refine own_istore X9 hx (#[.val (.ref d), .val (.int p1), .val (.int p2), .val (.int p3), .val (.int x10), .val (.int (p3 >>> ((1 : Int32) &&& 31)))]) (hb hby d_decided_63) rfl 65 rfl ?_
          refine own_goto X9 hx (hb hby d_decided_65) 164 (by decide) (by decide) ?_
          refine own_iload X9 hx (hb hby d_decided_164) rfl 166 rfl ?_
          cases hF
          exact own_retI X9 hx hret hlk (hb hby d_decided_166) (Nat.le_refl _) (Nat.le_refl _) N0 e9 ⟨rfl, rfl⟩
        · replace hF := own_ifF hc8 hF
          refine own_icmpT X5 hx (hb hby d_decided_45) (feq hc8).2 57 (by decide) (by decide) ?_
          refine own_aloadN X5 hx (hb hby d_decided_57) rfl rfl 58 rfl ?_
          refine own_getF X5 hx hZ hown (own_w38 hw) e5 (own_D_f_low D) (hb hby d_decided_58) 61 rfl (fun T11 X11 e11 => ?_)
          refine own_iloadN X11 hx (hb hby d_decided_61) rfl 62 rfl ?_
          obtain ⟨x12, g12, hF⟩ := own_b1_some hF
          refine own_iaload X11 hx hZ e11 (own_D_a_ao D) (own_get_in g12) (own_get_val g12) (hb hby d_decided_62) 63 rfl ?_
          refine own_istore X11 hx (#[.val (.ref d), .val (.int p1), .val (.int p2), .val (.int p3), .val (.int x12), .val (.int (p3 >>> ((1 : Int32) &&& 31)))]) (hb hby d_decided_63) rfl 65 rfl ?_
          refine own_goto X11 hx (hb hby d_decided_65) 164 (by decide) (by decide) ?_
          refine own_iload X11 hx (hb hby d_decided_164) rfl 166 rfl ?_
          cases hF
          exact own_retI X11 hx hret hlk (hb hby d_decided_166) (Nat.le_refl _) (Nat.le_refl _) N0 e11 ⟨rfl, rfl⟩
      · replace hF := own_ifF hc7 hF
        refine own_icmpT X5 hx (hb hby d_decided_38) (feq hc7).2 65 (by decide) (by decide) ?_
        refine own_goto X5 hx (hb hby d_decided_65) 164 (by decide) (by decide) ?_
        refine own_iload X5 hx (hb hby d_decided_164) rfl 166 rfl ?_
        cases hF
        exact own_retI X5 hx hret hlk (hb hby d_decided_166) (Nat.le_refl _) (Nat.le_refl _) N0 e5 ⟨rfl, rfl⟩
  · replace hF := own_ifF hc1 hF
    refine own_icmpT X0 hx (hb hby d_decided_5) (feq hc1).2 68 (by decide) (by decide) ?_
    refine own_iloadN X0 hx (hb hby d_decided_68) rfl 69 rfl ?_
    refine own_iloadN X0 hx (hb hby d_decided_69) rfl 70 rfl ?_
    by_cases hc13 : p2 = p3
    · replace hF := own_ifT hc13 hF
      refine own_icmpF X0 hx (hb hby d_decided_70) (teq hc13).2 73 rfl ?_
      refine own_iloadN X0 hx (hb hby d_decided_73) rfl 74 rfl ?_
      refine own_iconst X0 hx (z := (2 : Int32)) (hb hby d_decided_74) rfl 75 rfl ?_
      by_cases hc14 : p1 = (2 : Int32)
      · replace hF := own_ifT hc14 hF
        refine own_icmpF X0 hx (hb hby d_decided_75) (teq hc14).2 78 rfl ?_
        refine own_iconst X0 hx (z := (1 : Int32)) (hb hby d_decided_78) rfl 79 rfl ?_
        refine own_goto X0 hx (hb hby d_decided_79) 83 (by decide) (by decide) ?_
        refine own_istore X0 hx (#[.val (.ref d), .val (.int p1), .val (.int p2), .val (.int p3), .val (.int (1 : Int32)), .unset]) (hb hby d_decided_83) rfl 85 rfl ?_
        refine own_goto X0 hx (hb hby d_decided_85) 164 (by decide) (by decide) ?_
        refine own_iload X0 hx (hb hby d_decided_164) rfl 166 rfl ?_
        cases hF
        exact own_retI X0 hx hret hlk (hb hby d_decided_166) (Nat.le_refl _) (Nat.le_refl _) N0 e0 ⟨rfl, rfl⟩
      · replace hF := own_ifF hc14 hF
        refine own_icmpT X0 hx (hb hby d_decided_75) (feq hc14).2 82 (by decide) (by decide) ?_
        refine own_iloadN X0 hx (hb hby d_decided_82) rfl 83 rfl ?_
        refine own_istore X0 hx (#[.val (.ref d), .val (.int p1), .val (.int p2), .val (.int p3), .val (.int p2), .unset]) (hb hby d_decided_83) rfl 85 rfl ?_
        refine own_goto X0 hx (hb hby d_decided_85) 164 (by decide) (by decide) ?_
        refine own_iload X0 hx (hb hby d_decided_164) rfl 166 rfl ?_
        cases hF
        exact own_retI X0 hx hret hlk (hb hby d_decided_166) (Nat.le_refl _) (Nat.le_refl _) N0 e0 ⟨rfl, rfl⟩
    · replace hF := own_ifF hc13 hF
      refine own_icmpT X0 hx (hb hby d_decided_70) (feq hc13).2 88 (by decide) (by decide) ?_
      refine own_iloadN X0 hx (hb hby d_decided_88) rfl 89 rfl ?_
      refine own_iconst X0 hx (z := (1 : Int32)) (hb hby d_decided_89) rfl 90 rfl ?_
      by_cases hc15 : p2 = (1 : Int32)
      · replace hF := own_ifT hc15 hF
        refine own_icmpT X0 hx (hb hby d_decided_90) (teq hc15).1 98 (by decide) (by decide) ?_
        refine own_iloadN X0 hx (hb hby d_decided_98) rfl 99 rfl ?_
        refine own_iconst X0 hx (z := (1 : Int32)) (hb hby d_decided_99) rfl 100 rfl ?_
        refine own_icmpF X0 hx (hb hby d_decided_100) (teq hc15).2 103 rfl ?_
        refine own_iloadN X0 hx (hb hby d_decided_103) rfl 104 rfl ?_
        refine own_goto X0 hx (hb hby d_decided_104) 108 (by decide) (by decide) ?_
        refine own_istore X0 hx (#[.val (.ref d), .val (.int p1), .val (.int p2), .val (.int p3), .val (.int (-1 : Int32)), .val (.int p3)]) (hb hby d_decided_108) rfl 110 rfl ?_
        refine own_iloadN X0 hx (hb hby d_decided_110) rfl 111 rfl ?_
        refine own_iconst X0 hx (z := (1 : Int32)) (hb hby d_decided_111) rfl 112 rfl ?_
        by_cases hc16 : p1 = (1 : Int32)
        · replace hF := own_ifT hc16 hF
          refine own_icmpF X0 hx (hb hby d_decided_112) (teq hc16).2 115 rfl ?_
          refine own_iconst X0 hx (z := (1 : Int32)) (hb hby d_decided_115) rfl 116 rfl ?_
          refine own_goto X0 hx (hb hby d_decided_116) 121 (by decide) (by decide) ?_
          refine own_istore X0 hx (#[.val (.ref d), .val (.int p1), .val (.int p2), .val (.int p3), .val (.int (1 : Int32)), .val (.int p3)]) (hb hby d_decided_121) rfl 123 rfl ?_
          refine own_goto X0 hx (hb hby d_decided_123) 164 (by decide) (by decide) ?_
          refine own_iload X0 hx (hb hby d_decided_164) rfl 166 rfl ?_
          cases hF
          exact own_retI X0 hx hret hlk (hb hby d_decided_166) (Nat.le_refl _) (Nat.le_refl _) N0 e0 ⟨rfl, rfl⟩
        · replace hF := own_ifF hc16 hF
          refine own_icmpT X0 hx (hb hby d_decided_112) (feq hc16).2 119 (by decide) (by decide) ?_
          refine own_iload X0 hx (hb hby d_decided_119) rfl 121 rfl ?_
          refine own_istore X0 hx (#[.val (.ref d), .val (.int p1), .val (.int p2), .val (.int p3), .val (.int p3), .val (.int p3)]) (hb hby d_decided_121) rfl 123 rfl ?_
          refine own_goto X0 hx (hb hby d_decided_123) 164 (by decide) (by decide) ?_
          refine own_iload X0 hx (hb hby d_decided_164) rfl 166 rfl ?_
          cases hF
          exact own_retI X0 hx hret hlk (hb hby d_decided_166) (Nat.le_refl _) (Nat.le_refl _) N0 e0 ⟨rfl, rfl⟩
      · replace hF := own_ifF hc15 hF
        refine own_icmpF X0 hx (hb hby d_decided_90) (feq hc15).1 93 rfl ?_
        refine own_iloadN X0 hx (hb hby d_decided_93) rfl 94 rfl ?_
        refine own_iconst X0 hx (z := (1 : Int32)) (hb hby d_decided_94) rfl 95 rfl ?_
        by_cases hc17 : p3 = (1 : Int32)
        · replace hF := own_ifT hc17 hF
          refine own_icmpF X0 hx (hb hby d_decided_95) (teq hc17).2 98 rfl ?_
          refine own_iloadN X0 hx (hb hby d_decided_98) rfl 99 rfl ?_
          refine own_iconst X0 hx (z := (1 : Int32)) (hb hby d_decided_99) rfl 100 rfl ?_
          refine own_icmpT X0 hx (hb hby d_decided_100) (feq hc15).2 107 (by decide) (by decide) ?_
          refine own_iloadN X0 hx (hb hby d_decided_107) rfl 108 rfl ?_
          refine own_istore X0 hx (#[.val (.ref d), .val (.int p1), .val (.int p2), .val (.int p3), .val (.int (-1 : Int32)), .val (.int p2)]) (hb hby d_decided_108) rfl 110 rfl ?_
          refine own_iloadN X0 hx (hb hby d_decided_110) rfl 111 rfl ?_
          refine own_iconst X0 hx (z := (1 : Int32)) (hb hby d_decided_111) rfl 112 rfl ?_
          by_cases hc18 : p1 = (1 : Int32)
          · replace hF := own_ifT hc18 hF
            refine own_icmpF X0 hx (hb hby d_decided_112) (teq hc18).2 115 rfl ?_
            refine own_iconst X0 hx (z := (1 : Int32)) (hb hby d_decided_115) rfl 116 rfl ?_
            refine own_goto X0 hx (hb hby d_decided_116) 121 (by decide) (by decide) ?_
            refine own_istore X0 hx (#[.val (.ref d), .val (.int p1), .val (.int p2), .val (.int p3), .val (.int (1 : Int32)), .val (.int p2)]) (hb hby d_decided_121) rfl 123 rfl ?_
            refine own_goto X0 hx (hb hby d_decided_123) 164 (by decide) (by decide) ?_
            refine own_iload X0 hx (hb hby d_decided_164) rfl 166 rfl ?_
            cases hF
            exact own_retI X0 hx hret hlk (hb hby d_decided_166) (Nat.le_refl _) (Nat.le_refl _) N0 e0 ⟨rfl, rfl⟩
          · replace hF := own_ifF hc18 hF
            refine own_icmpT X0 hx (hb hby d_decided_112) (feq hc18).2 119 (by decide) (by decide) ?_
            refine own_iload X0 hx (hb hby d_decided_119) rfl 121 rfl ?_
            refine own_istore X0 hx (#[.val (.ref d), .val (.int p1), .val (.int p2), .val (.int p3), .val (.int p2), .val (.int p2)]) (hb hby d_decided_121) rfl 123 rfl ?_
            refine own_goto X0 hx (hb hby d_decided_123) 164 (by decide) (by decide) ?_
            refine own_iload X0 hx (hb hby d_decided_164) rfl 166 rfl ?_
            cases hF
            exact own_retI X0 hx hret hlk (hb hby d_decided_166) (Nat.le_refl _) (Nat.le_refl _) N0 e0 ⟨rfl, rfl⟩
        · replace hF := own_ifF hc17 hF
          refine own_icmpT X0 hx (hb hby d_decided_95) (feq hc17).2 126 (by decide) (by decide) ?_
          refine own_iloadN X0 hx (hb hby d_decided_126) rfl 127 rfl ?_
          by_cases hc19 : p2 = (0 : Int32)
          · replace hF := own_ifT hc19 hF
            refine own_ifcT X0 hx (hb hby d_decided_127) (teq hc19).1 134 (by decide) (by decide) ?_
            refine own_iloadN X0 hx (hb hby d_decided_134) rfl 135 rfl ?_
            refine own_ifcF X0 hx (hb hby d_decided_135) (teq hc19).2 138 rfl ?_
            refine own_iloadN X0 hx (hb hby d_decided_138) rfl 139 rfl ?_
            refine own_goto X0 hx (hb hby d_decided_139) 143 (by decide) (by decide) ?_
            refine own_istore X0 hx (#[.val (.ref d), .val (.int p1), .val (.int p2), .val (.int p3), .val (.int (-1 : Int32)), .val (.int p3)]) (hb hby d_decided_143) rfl 145 rfl ?_
            refine own_iloadN X0 hx (hb hby d_decided_145) rfl 146 rfl ?_
            by_cases hc20 : p1 = (0 : Int32)
            · replace hF := own_ifT hc20 hF
              refine own_ifcF X0 hx (hb hby d_decided_146) (teq hc20).2 149 rfl ?_
              refine own_iconst X0 hx (z := (0 : Int32)) (hb hby d_decided_149) rfl 150 rfl ?_
              refine own_istore X0 hx (#[.val (.ref d), .val (.int p1), .val (.int p2), .val (.int p3), .val (.int (0 : Int32)), .val (.int p3)]) (hb hby d_decided_150) rfl 152 rfl ?_
              refine own_goto X0 hx (hb hby d_decided_152) 164 (by decide) (by decide) ?_
              refine own_iload X0 hx (hb hby d_decided_164) rfl 166 rfl ?_
              cases hF
              exact own_retI X0 hx hret hlk (hb hby d_decided_166) (Nat.le_refl _) (Nat.le_refl _) N0 e0 ⟨rfl, rfl⟩
            · replace hF := own_ifF hc20 hF
              refine own_ifcT X0 hx (hb hby d_decided_146) (feq hc20).2 155 (by decide) (by decide) ?_
              refine own_iloadN X0 hx (hb hby d_decided_155) rfl 156 rfl ?_
              refine own_iconst X0 hx (z := (1 : Int32)) (hb hby d_decided_156) rfl 157 rfl ?_
              by_cases hc21 : p1 = (1 : Int32)
              · replace hF := own_ifT hc21 hF
                refine own_icmpF X0 hx (hb hby d_decided_157) (teq hc21).2 160 rfl ?_
                refine own_iload X0 hx (hb hby d_decided_160) rfl 162 rfl ?_
                refine own_istore X0 hx (#[.val (.ref d), .val (.int p1), .val (.int p2), .val (.int p3), .val (.int p3), .val (.int p3)]) (hb hby d_decided_162) rfl 164 rfl ?_
                refine own_iload X0 hx (hb hby d_decided_164) rfl 166 rfl ?_
                cases hF
                exact own_retI X0 hx hret hlk (hb hby d_decided_166) (Nat.le_refl _) (Nat.le_refl _) N0 e0 ⟨rfl, rfl⟩
              · replace hF := own_ifF hc21 hF
                refine own_icmpT X0 hx (hb hby d_decided_157) (feq hc21).2 164 (by decide) (by decide) ?_
                refine own_iload X0 hx (hb hby d_decided_164) rfl 166 rfl ?_
                cases hF
                exact own_retI X0 hx hret hlk (hb hby d_decided_166) (Nat.le_refl _) (Nat.le_refl _) N0 e0 ⟨rfl, rfl⟩
          · replace hF := own_ifF hc19 hF
            refine own_ifcF X0 hx (hb hby d_decided_127) (feq hc19).1 130 rfl ?_
            refine own_iloadN X0 hx (hb hby d_decided_130) rfl 131 rfl ?_
            by_cases hc22 : p3 = (0 : Int32)
            · replace hF := own_ifT hc22 hF
              refine own_ifcF X0 hx (hb hby d_decided_131) (teq hc22).2 134 rfl ?_
              refine own_iloadN X0 hx (hb hby d_decided_134) rfl 135 rfl ?_
              refine own_ifcT X0 hx (hb hby d_decided_135) (feq hc19).2 142 (by decide) (by decide) ?_
              refine own_iloadN X0 hx (hb hby d_decided_142) rfl 143 rfl ?_
              refine own_istore X0 hx (#[.val (.ref d), .val (.int p1), .val (.int p2), .val (.int p3), .val (.int (-1 : Int32)), .val (.int p2)]) (hb hby d_decided_143) rfl 145 rfl ?_
              refine own_iloadN X0 hx (hb hby d_decided_145) rfl 146 rfl ?_
              by_cases hc23 : p1 = (0 : Int32)
              · replace hF := own_ifT hc23 hF
                refine own_ifcF X0 hx (hb hby d_decided_146) (teq hc23).2 149 rfl ?_
                refine own_iconst X0 hx (z := (0 : Int32)) (hb hby d_decided_149) rfl 150 rfl ?_
                refine own_istore X0 hx (#[.val (.ref d), .val (.int p1), .val (.int p2), .val (.int p3), .val (.int (0 : Int32)), .val (.int p2)]) (hb hby d_decided_150) rfl 152 rfl ?_
                refine own_goto X0 hx (hb hby d_decided_152) 164 (by decide) (by decide) ?_
                refine own_iload X0 hx (hb hby d_decided_164) rfl 166 rfl ?_
                cases hF
                exact own_retI X0 hx hret hlk (hb hby d_decided_166) (Nat.le_refl _) (Nat.le_refl _) N0 e0 ⟨rfl, rfl⟩
              · replace hF := own_ifF hc23 hF
                refine own_ifcT X0 hx (hb hby d_decided_146) (feq hc23).2 155 (by decide) (by decide) ?_
                refine own_iloadN X0 hx (hb hby d_decided_155) rfl 156 rfl ?_
                refine own_iconst X0 hx (z := (1 : Int32)) (hb hby d_decided_156) rfl 157 rfl ?_
                by_cases hc24 : p1 = (1 : Int32)
                · replace hF := own_ifT hc24 hF
                  refine own_icmpF X0 hx (hb hby d_decided_157) (teq hc24).2 160 rfl ?_
                  refine own_iload X0 hx (hb hby d_decided_160) rfl 162 rfl ?_
                  refine own_istore X0 hx (#[.val (.ref d), .val (.int p1), .val (.int p2), .val (.int p3), .val (.int p2), .val (.int p2)]) (hb hby d_decided_162) rfl 164 rfl ?_
                  refine own_iload X0 hx (hb hby d_decided_164) rfl 166 rfl ?_
                  cases hF
                  exact own_retI X0 hx hret hlk (hb hby d_decided_166) (Nat.le_refl _) (Nat.le_refl _) N0 e0 ⟨rfl, rfl⟩
                · replace hF := own_ifF hc24 hF
                  refine own_icmpT X0 hx (hb hby d_decided_157) (feq hc24).2 164 (by decide) (by decide) ?_
                  refine own_iload X0 hx (hb hby d_decided_164) rfl 166 rfl ?_
                  cases hF
                  exact own_retI X0 hx hret hlk (hb hby d_decided_166) (Nat.le_refl _) (Nat.le_refl _) N0 e0 ⟨rfl, rfl⟩
            · replace hF := own_ifF hc22 hF
              refine own_ifcT X0 hx (hb hby d_decided_131) (feq hc22).2 164 (by decide) (by decide) ?_
              refine own_iload X0 hx (hb hby d_decided_164) rfl 166 rfl ?_
              cases hF
              exact own_retI X0 hx hret hlk (hb hby d_decided_166) (Nat.le_refl _) (Nat.le_refl _) N0 e0 ⟨rfl, rfl⟩
/-- cached's model -/
def own_f_cached  (ca : own_L) (p1 p2 p3 : Int32) : Option Int32 :=
  own_b1 (own_get 16384 (-1) ca ((4 : Int32) * ((own_f_hash p1 p2 p3) &&& (((16384 : Int32) / (4 : Int32)) - (1 : Int32))))) fun x4 =>
  if x4 = p1 then
    own_b1 (own_get 16384 (-1) ca (((4 : Int32) * ((own_f_hash p1 p2 p3) &&& (((16384 : Int32) / (4 : Int32)) - (1 : Int32)))) + (1 : Int32))) fun x7 =>
    if x7 = p2 then
      own_b1 (own_get 16384 (-1) ca (((4 : Int32) * ((own_f_hash p1 p2 p3) &&& (((16384 : Int32) / (4 : Int32)) - (1 : Int32)))) + (2 : Int32))) fun x10 =>
      if x10 = p3 then
        own_b1 (own_get 16384 (-1) ca (((4 : Int32) * ((own_f_hash p1 p2 p3) &&& (((16384 : Int32) / (4 : Int32)) - (1 : Int32)))) + (3 : Int32))) fun x13 =>
        some x13
      else
        some (-1 : Int32)
    else
      some (-1 : Int32)
  else
    some (-1 : Int32)
theorem d_cached_0 : decode prog_81_method_35_code 0 = .ok (.iconst 4, 1) := by decide +kernel
theorem d_cached_1 : decode prog_81_method_35_code 1 = .ok (.iload_n 1, 1) := by decide +kernel
theorem d_cached_2 : decode prog_81_method_35_code 2 = .ok (.iload_n 2, 1) := by decide +kernel
theorem d_cached_3 : decode prog_81_method_35_code 3 = .ok (.iload_n 3, 1) := by decide +kernel
theorem d_cached_4 : decode prog_81_method_35_code 4 = .ok (.invokestatic 251, 3) := by decide +kernel
theorem d_cached_7 : decode prog_81_method_35_code 7 = .ok (.aload_n 0, 1) := by decide +kernel
theorem d_cached_8 : decode prog_81_method_35_code 8 = .ok (.getfield 59, 3) := by decide +kernel
theorem d_cached_11 : decode prog_81_method_35_code 11 = .ok (.arraylength, 1) := by decide +kernel
theorem d_cached_12 : decode prog_81_method_35_code 12 = .ok (.iconst 4, 1) := by decide +kernel
theorem d_cached_13 : decode prog_81_method_35_code 13 = .ok (.idiv, 1) := by decide +kernel
theorem d_cached_14 : decode prog_81_method_35_code 14 = .ok (.iconst 1, 1) := by decide +kernel
theorem d_cached_15 : decode prog_81_method_35_code 15 = .ok (.isub, 1) := by decide +kernel
theorem d_cached_16 : decode prog_81_method_35_code 16 = .ok (.iand, 1) := by decide +kernel
theorem d_cached_17 : decode prog_81_method_35_code 17 = .ok (.imul, 1) := by decide +kernel
theorem d_cached_18 : decode prog_81_method_35_code 18 = .ok (.istore 4, 2) := by decide +kernel
theorem d_cached_20 : decode prog_81_method_35_code 20 = .ok (.aload_n 0, 1) := by decide +kernel
theorem d_cached_21 : decode prog_81_method_35_code 21 = .ok (.getfield 59, 3) := by decide +kernel
theorem d_cached_24 : decode prog_81_method_35_code 24 = .ok (.iload 4, 2) := by decide +kernel
theorem d_cached_26 : decode prog_81_method_35_code 26 = .ok (.iaload, 1) := by decide +kernel
theorem d_cached_27 : decode prog_81_method_35_code 27 = .ok (.iload_n 1, 1) := by decide +kernel
theorem d_cached_28 : decode prog_81_method_35_code 28 = .ok (.if_icmp .ne 33, 3) := by decide +kernel
theorem d_cached_31 : decode prog_81_method_35_code 31 = .ok (.aload_n 0, 1) := by decide +kernel
theorem d_cached_32 : decode prog_81_method_35_code 32 = .ok (.getfield 59, 3) := by decide +kernel
theorem d_cached_35 : decode prog_81_method_35_code 35 = .ok (.iload 4, 2) := by decide +kernel
theorem d_cached_37 : decode prog_81_method_35_code 37 = .ok (.iconst 1, 1) := by decide +kernel
theorem d_cached_38 : decode prog_81_method_35_code 38 = .ok (.iadd, 1) := by decide +kernel
theorem d_cached_39 : decode prog_81_method_35_code 39 = .ok (.iaload, 1) := by decide +kernel
theorem d_cached_40 : decode prog_81_method_35_code 40 = .ok (.iload_n 2, 1) := by decide +kernel
theorem d_cached_41 : decode prog_81_method_35_code 41 = .ok (.if_icmp .ne 20, 3) := by decide +kernel
theorem d_cached_44 : decode prog_81_method_35_code 44 = .ok (.aload_n 0, 1) := by decide +kernel
theorem d_cached_45 : decode prog_81_method_35_code 45 = .ok (.getfield 59, 3) := by decide +kernel
theorem d_cached_48 : decode prog_81_method_35_code 48 = .ok (.iload 4, 2) := by decide +kernel
theorem d_cached_50 : decode prog_81_method_35_code 50 = .ok (.iconst 2, 1) := by decide +kernel
theorem d_cached_51 : decode prog_81_method_35_code 51 = .ok (.iadd, 1) := by decide +kernel
theorem d_cached_52 : decode prog_81_method_35_code 52 = .ok (.iaload, 1) := by decide +kernel
theorem d_cached_53 : decode prog_81_method_35_code 53 = .ok (.iload_n 3, 1) := by decide +kernel
theorem d_cached_54 : decode prog_81_method_35_code 54 = .ok (.if_icmp .ne 7, 3) := by decide +kernel
theorem d_cached_57 : decode prog_81_method_35_code 57 = .ok (.iconst 1, 1) := by decide +kernel
theorem d_cached_58 : decode prog_81_method_35_code 58 = .ok (.goto 4, 3) := by decide +kernel
theorem d_cached_61 : decode prog_81_method_35_code 61 = .ok (.iconst 0, 1) := by decide +kernel
theorem d_cached_62 : decode prog_81_method_35_code 62 = .ok (.istore 5, 2) := by decide +kernel
theorem d_cached_64 : decode prog_81_method_35_code 64 = .ok (.iload 5, 2) := by decide +kernel
theorem d_cached_66 : decode prog_81_method_35_code 66 = .ok (.ifCond .eq 15, 3) := by decide +kernel
theorem d_cached_69 : decode prog_81_method_35_code 69 = .ok (.aload_n 0, 1) := by decide +kernel
theorem d_cached_70 : decode prog_81_method_35_code 70 = .ok (.getfield 59, 3) := by decide +kernel
theorem d_cached_73 : decode prog_81_method_35_code 73 = .ok (.iload 4, 2) := by decide +kernel
theorem d_cached_75 : decode prog_81_method_35_code 75 = .ok (.iconst 3, 1) := by decide +kernel
theorem d_cached_76 : decode prog_81_method_35_code 76 = .ok (.iadd, 1) := by decide +kernel
theorem d_cached_77 : decode prog_81_method_35_code 77 = .ok (.iaload, 1) := by decide +kernel
theorem d_cached_78 : decode prog_81_method_35_code 78 = .ok (.goto 4, 3) := by decide +kernel
theorem d_cached_81 : decode prog_81_method_35_code 81 = .ok (.iconst (-1), 1) := by decide +kernel
theorem d_cached_82 : decode prog_81_method_35_code 82 = .ok (.ireturn, 1) := by decide +kernel
theorem own_ef_cached (m : MethodId) (d : Addr) (p1 : Int32) (p2 : Int32) (p3 : Int32) : entryFrame m #[(.ref d), (.int p1), (.int p2), (.int p3)] 6 = mkF m 0 #[.val (.ref d), .val (.int p1), .val (.int p2), .val (.int p3), .unset, .unset] [] := by first | (simp [entryFrame, mkF, argsToLocals, Value.category]; done) | rfl
set_option maxRecDepth 65536 in
set_option maxHeartbeats 40000000 in
theorem own_m_cached (l : Launch) (Z : State) (a0 : Array Value) (hw : ∀ d ∈ tables_1, d.before a0 Z = true) (h0 : Heap) (n0 : Nat) {d al ao ah au ac aw ar : Addr} {lim sz : Int32} {lv lo hi un ca wo re : own_L} (D : own_Dg Z n0 h0 d al ao ah au ac aw ar lim sz lv lo hi un ca wo re) (p1 p2 p3 : Int32) {r : Int32} (hF : own_f_cached ca p1 p2 p3 = some r) : own_Met l Z ⟨"com/example/orbweaver/orbweaver/synthesis/Diagrams", "cached", "(III)I"⟩ prog_81_method_35_code 6 (some .int) [] ({ frames := 1, cells := 0, slots := 0, locals := 16 } : Room) #[.ref d, .int p1, .int p2, .int p3] h0 n0 (fun v h => v = some (.int r) ∧ h = h0) := by
  unfold own_f_cached at hF
  refine own_body (plainFor_of_name own_pn_Diagrams) ?_
  intro p e s m below meth c T0 X0 hx hby hml hown hnm hZ e0 hret hlk
  have N0 := Fr.nil n0
  refine own_cast (own_ef_cached m d p1 p2 p3) ?_
  refine own_iconst X0 hx (z := (4 : Int32)) (hb hby d_cached_0) rfl 1 rfl ?_
  refine own_iloadN X0 hx (hb hby d_cached_1) rfl 2 rfl ?_
  refine own_iloadN X0 hx (hb hby d_cached_2) rfl 3 rfl ?_
  refine own_iloadN X0 hx (hb hby d_cached_3) rfl 4 rfl ?_
  refine own_callS X0 hx hZ hown (own_w61 hw) (own_w62 hw) (own_w3 hw) (own_w63 hw) (by decide) 1 (own_m_hash l Z a0 hw _ n0 p1 p2 p3 rfl) e0 (by rw [hml]; rfl) [(.int p1), (.int p2), (.int p3)] [(.int (4 : Int32))] rfl (lenOf own_pd_2 rfl) rfl (Nat.le_of_eq rfl) (by decide) (by decide) (by decide) (by decide) (hb hby d_cached_4) N0 7 rfl (fun v1 T1 l1 X1 N1 hP1 => ?_)
  obtain ⟨rfl, e1⟩ := hP1
  show own_G p e below _ (T1.setTop (mkF m 7 #[.val (.ref d), .val (.int p1), .val (.int p2), .val (.int p3), .unset, .unset] [(.int (own_f_hash p1 p2 p3)), (.int (4 : Int32))]))
  refine own_aloadN X1 hx (hb hby d_cached_7) rfl rfl 8 rfl ?_
  refine own_getF X1 hx hZ hown (own_w46 hw) e1 (own_D_f_cache D) (hb hby d_cached_8) 11 rfl (fun T2 X2 e2 => ?_)
  refine own_arrlen X2 hx hZ e2 (own_D_a_ac D) (z := (16384 : Int32)) rfl (hb hby d_cached_11) 12 rfl ?_
  refine own_iconst X2 hx (z := (4 : Int32)) (hb hby d_cached_12) rfl 13 rfl ?_
  refine own_idiv X2 hx (hb hby d_cached_13) (by decide) 14 rfl ?_
  refine own_iconst X2 hx (z := (1 : Int32)) (hb hby d_cached_14) rfl 15 rfl ?_
  refine own_isub X2 hx (hb hby d_cached_15) 16 rfl ?_
  refine own_iand X2 hx (hb hby d_cached_16) 17 rfl ?_
  refine own_imul X2 hx (hb hby d_cached_17) 18 rfl ?_
  refine own_istore X2 hx (#[.val (.ref d), .val (.int p1), .val (.int p2), .val (.int p3), .val (.int ((4 : Int32) * ((own_f_hash p1 p2 p3) &&& (((16384 : Int32) / (4 : Int32)) - (1 : Int32))))), .unset]) (hb hby d_cached_18) rfl 20 rfl ?_
  refine own_aloadN X2 hx (hb hby d_cached_20) rfl rfl 21 rfl ?_
  refine own_getF X2 hx hZ hown (own_w46 hw) e2 (own_D_f_cache D) (hb hby d_cached_21) 24 rfl (fun T3 X3 e3 => ?_)
  refine own_iload X3 hx (hb hby d_cached_24) rfl 26 rfl ?_
  obtain ⟨x4, g4, hF⟩ := own_b1_some hF
  refine own_iaload X3 hx hZ e3 (own_D_a_ac D) (own_get_in g4) (own_get_val g4) (hb hby d_cached_26) 27 rfl ?_
  refine own_iloadN X3 hx (hb hby d_cached_27) rfl 28 rfl ?_
  by_cases hc5 : x4 = p1
  · replace hF := own_ifT hc5 hF
    refine own_icmpF X3 hx (hb hby d_cached_28) (teq hc5).2 31 rfl ?_
    refine own_aloadN X3 hx (hb hby d_cached_31) rfl rfl 32 rfl ?_
    refine own_getF X3 hx hZ hown (own_w46 hw) e3 (own_D_f_cache D) (hb hby d_cached_32) 35 rfl (fun T6 X6 e6 => ?_)
    refine own_iload X6 hx (hb hby d_cached_35) rfl 37 rfl ?_
    refine own_iconst X6 hx (z := (1 : Int32)) (hb hby d_cached_37) rfl 38 rfl ?_
    refine own_iadd X6 hx (hb hby d_cached_38) 39 rfl ?_
    obtain ⟨x7, g7, hF⟩ := own_b1_some hF
    refine own_iaload X6 hx hZ e6 (own_D_a_ac D) (own_get_in g7) (own_get_val g7) (hb hby d_cached_39) 40 rfl ?_
    refine own_iloadN X6 hx (hb hby d_cached_40) rfl 41 rfl ?_
    by_cases hc8 : x7 = p2
    · replace hF := own_ifT hc8 hF
      refine own_icmpF X6 hx (hb hby d_cached_41) (teq hc8).2 44 rfl ?_
      refine own_aloadN X6 hx (hb hby d_cached_44) rfl rfl 45 rfl ?_
      refine own_getF X6 hx hZ hown (own_w46 hw) e6 (own_D_f_cache D) (hb hby d_cached_45) 48 rfl (fun T9 X9 e9 => ?_)
      refine own_iload X9 hx (hb hby d_cached_48) rfl 50 rfl ?_
      refine own_iconst X9 hx (z := (2 : Int32)) (hb hby d_cached_50) rfl 51 rfl ?_
      refine own_iadd X9 hx (hb hby d_cached_51) 52 rfl ?_
      obtain ⟨x10, g10, hF⟩ := own_b1_some hF
      refine own_iaload X9 hx hZ e9 (own_D_a_ac D) (own_get_in g10) (own_get_val g10) (hb hby d_cached_52) 53 rfl ?_
      refine own_iloadN X9 hx (hb hby d_cached_53) rfl 54 rfl ?_
      by_cases hc11 : x10 = p3
      · replace hF := own_ifT hc11 hF
        refine own_icmpF X9 hx (hb hby d_cached_54) (teq hc11).2 57 rfl ?_
        refine own_iconst X9 hx (z := (1 : Int32)) (hb hby d_cached_57) rfl 58 rfl ?_
        refine own_goto X9 hx (hb hby d_cached_58) 62 (by decide) (by decide) ?_
        refine own_istore X9 hx (#[.val (.ref d), .val (.int p1), .val (.int p2), .val (.int p3), .val (.int ((4 : Int32) * ((own_f_hash p1 p2 p3) &&& (((16384 : Int32) / (4 : Int32)) - (1 : Int32))))), .val (.int (1 : Int32))]) (hb hby d_cached_62) rfl 64 rfl ?_
        refine own_iload X9 hx (hb hby d_cached_64) rfl 66 rfl ?_
        refine own_ifcF X9 hx (hb hby d_cached_66) (feq (by decide)).1 69 rfl ?_
        refine own_aloadN X9 hx (hb hby d_cached_69) rfl rfl 70 rfl ?_
        refine own_getF X9 hx hZ hown (own_w46 hw) e9 (own_D_f_cache D) (hb hby d_cached_70) 73 rfl (fun T12 X12 e12 => ?_)
        refine own_iload X12 hx (hb hby d_cached_73) rfl 75 rfl ?_
        refine own_iconst X12 hx (z := (3 : Int32)) (hb hby d_cached_75) rfl 76 rfl ?_
        refine own_iadd X12 hx (hb hby d_cached_76) 77 rfl ?_
        obtain ⟨x13, g13, hF⟩ := own_b1_some hF
        refine own_iaload X12 hx hZ e12 (own_D_a_ac D) (own_get_in g13) (own_get_val g13) (hb hby d_cached_77) 78 rfl ?_
        refine own_goto X12 hx (hb hby d_cached_78) 82 (by decide) (by decide) ?_
        cases hF
        exact own_retI X12 hx hret hlk (hb hby d_cached_82) (Nat.le_refl _) (Nat.le_refl _) N1 e12 ⟨rfl, rfl⟩
      · replace hF := own_ifF hc11 hF
        refine own_icmpT X9 hx (hb hby d_cached_54) (feq hc11).2 61 (by decide) (by decide) ?_
        refine own_iconst X9 hx (z := (0 : Int32)) (hb hby d_cached_61) rfl 62 rfl ?_
        refine own_istore X9 hx (#[.val (.ref d), .val (.int p1), .val (.int p2), .val (.int p3), .val (.int ((4 : Int32) * ((own_f_hash p1 p2 p3) &&& (((16384 : Int32) / (4 : Int32)) - (1 : Int32))))), .val (.int (0 : Int32))]) (hb hby d_cached_62) rfl 64 rfl ?_
        refine own_iload X9 hx (hb hby d_cached_64) rfl 66 rfl ?_
        refine own_ifcT X9 hx (hb hby d_cached_66) (teq (by decide)).1 81 (by decide) (by decide) ?_
        refine own_iconst X9 hx (z := (-1 : Int32)) (hb hby d_cached_81) rfl 82 rfl ?_
        cases hF
        exact own_retI X9 hx hret hlk (hb hby d_cached_82) (Nat.le_refl _) (Nat.le_refl _) N1 e9 ⟨rfl, rfl⟩
    · replace hF := own_ifF hc8 hF
      refine own_icmpT X6 hx (hb hby d_cached_41) (feq hc8).2 61 (by decide) (by decide) ?_
      refine own_iconst X6 hx (z := (0 : Int32)) (hb hby d_cached_61) rfl 62 rfl ?_
      refine own_istore X6 hx (#[.val (.ref d), .val (.int p1), .val (.int p2), .val (.int p3), .val (.int ((4 : Int32) * ((own_f_hash p1 p2 p3) &&& (((16384 : Int32) / (4 : Int32)) - (1 : Int32))))), .val (.int (0 : Int32))]) (hb hby d_cached_62) rfl 64 rfl ?_
      refine own_iload X6 hx (hb hby d_cached_64) rfl 66 rfl ?_
      refine own_ifcT X6 hx (hb hby d_cached_66) (teq (by decide)).1 81 (by decide) (by decide) ?_
      refine own_iconst X6 hx (z := (-1 : Int32)) (hb hby d_cached_81) rfl 82 rfl ?_
      cases hF
      exact own_retI X6 hx hret hlk (hb hby d_cached_82) (Nat.le_refl _) (Nat.le_refl _) N1 e6 ⟨rfl, rfl⟩
  · replace hF := own_ifF hc5 hF
    refine own_icmpT X3 hx (hb hby d_cached_28) (feq hc5).2 61 (by decide) (by decide) ?_
    refine own_iconst X3 hx (z := (0 : Int32)) (hb hby d_cached_61) rfl 62 rfl ?_
    refine own_istore X3 hx (#[.val (.ref d), .val (.int p1), .val (.int p2), .val (.int p3), .val (.int ((4 : Int32) * ((own_f_hash p1 p2 p3) &&& (((16384 : Int32) / (4 : Int32)) - (1 : Int32))))), .val (.int (0 : Int32))]) (hb hby d_cached_62) rfl 64 rfl ?_
    refine own_iload X3 hx (hb hby d_cached_64) rfl 66 rfl ?_
    refine own_ifcT X3 hx (hb hby d_cached_66) (teq (by decide)).1 81 (by decide) (by decide) ?_
    refine own_iconst X3 hx (z := (-1 : Int32)) (hb hby d_cached_81) rfl 82 rfl ?_
    cases hF
    exact own_retI X3 hx hret hlk (hb hby d_cached_82) (Nat.le_refl _) (Nat.le_refl _) N1 e3 ⟨rfl, rfl⟩
/-- push's model -/
def own_f_push  (wo : own_L) (p1 p2 p3 p4 p5 p6 : Int32) : Option (Int32 × own_L) :=
  if (320 : Int32) < (p1 + (5 : Int32)) then
    none
  else
    own_b1 (own_set 320 wo p1 p2) fun wo4 =>
    own_b1 (own_set 320 wo4 (p1 + (1 : Int32)) p3) fun wo6 =>
    own_b1 (own_set 320 wo6 (p1 + (2 : Int32)) p4) fun wo8 =>
    own_b1 (own_set 320 wo8 (p1 + (3 : Int32)) p5) fun wo10 =>
    own_b1 (own_set 320 wo10 (p1 + (4 : Int32)) p6) fun wo12 =>
    some ((p1 + (5 : Int32)), wo12)
theorem d_push_0 : decode prog_81_method_17_code 0 = .ok (.iload_n 1, 1) := by decide +kernel
theorem d_push_1 : decode prog_81_method_17_code 1 = .ok (.iconst 5, 1) := by decide +kernel
theorem d_push_2 : decode prog_81_method_17_code 2 = .ok (.iadd, 1) := by decide +kernel
theorem d_push_3 : decode prog_81_method_17_code 3 = .ok (.aload_n 0, 1) := by decide +kernel
theorem d_push_4 : decode prog_81_method_17_code 4 = .ok (.getfield 27, 3) := by decide +kernel
theorem d_push_7 : decode prog_81_method_17_code 7 = .ok (.arraylength, 1) := by decide +kernel
theorem d_push_8 : decode prog_81_method_17_code 8 = .ok (.if_icmp .le 21, 3) := by decide +kernel
theorem d_push_29 : decode prog_81_method_17_code 29 = .ok (.aload_n 0, 1) := by decide +kernel
theorem d_push_30 : decode prog_81_method_17_code 30 = .ok (.getfield 27, 3) := by decide +kernel
theorem d_push_33 : decode prog_81_method_17_code 33 = .ok (.iload_n 1, 1) := by decide +kernel
theorem d_push_34 : decode prog_81_method_17_code 34 = .ok (.iload_n 2, 1) := by decide +kernel
theorem d_push_35 : decode prog_81_method_17_code 35 = .ok (.iastore, 1) := by decide +kernel
theorem d_push_36 : decode prog_81_method_17_code 36 = .ok (.aload_n 0, 1) := by decide +kernel
theorem d_push_37 : decode prog_81_method_17_code 37 = .ok (.getfield 27, 3) := by decide +kernel
theorem d_push_40 : decode prog_81_method_17_code 40 = .ok (.iload_n 1, 1) := by decide +kernel
theorem d_push_41 : decode prog_81_method_17_code 41 = .ok (.iconst 1, 1) := by decide +kernel
theorem d_push_42 : decode prog_81_method_17_code 42 = .ok (.iadd, 1) := by decide +kernel
theorem d_push_43 : decode prog_81_method_17_code 43 = .ok (.iload_n 3, 1) := by decide +kernel
theorem d_push_44 : decode prog_81_method_17_code 44 = .ok (.iastore, 1) := by decide +kernel
theorem d_push_45 : decode prog_81_method_17_code 45 = .ok (.aload_n 0, 1) := by decide +kernel
theorem d_push_46 : decode prog_81_method_17_code 46 = .ok (.getfield 27, 3) := by decide +kernel
theorem d_push_49 : decode prog_81_method_17_code 49 = .ok (.iload_n 1, 1) := by decide +kernel
theorem d_push_50 : decode prog_81_method_17_code 50 = .ok (.iconst 2, 1) := by decide +kernel
theorem d_push_51 : decode prog_81_method_17_code 51 = .ok (.iadd, 1) := by decide +kernel
theorem d_push_52 : decode prog_81_method_17_code 52 = .ok (.iload 4, 2) := by decide +kernel
theorem d_push_54 : decode prog_81_method_17_code 54 = .ok (.iastore, 1) := by decide +kernel
theorem d_push_55 : decode prog_81_method_17_code 55 = .ok (.aload_n 0, 1) := by decide +kernel
theorem d_push_56 : decode prog_81_method_17_code 56 = .ok (.getfield 27, 3) := by decide +kernel
theorem d_push_59 : decode prog_81_method_17_code 59 = .ok (.iload_n 1, 1) := by decide +kernel
theorem d_push_60 : decode prog_81_method_17_code 60 = .ok (.iconst 3, 1) := by decide +kernel
theorem d_push_61 : decode prog_81_method_17_code 61 = .ok (.iadd, 1) := by decide +kernel
theorem d_push_62 : decode prog_81_method_17_code 62 = .ok (.iload 5, 2) := by decide +kernel
theorem d_push_64 : decode prog_81_method_17_code 64 = .ok (.iastore, 1) := by decide +kernel
theorem d_push_65 : decode prog_81_method_17_code 65 = .ok (.aload_n 0, 1) := by decide +kernel
theorem d_push_66 : decode prog_81_method_17_code 66 = .ok (.getfield 27, 3) := by decide +kernel
theorem d_push_69 : decode prog_81_method_17_code 69 = .ok (.iload_n 1, 1) := by decide +kernel
theorem d_push_70 : decode prog_81_method_17_code 70 = .ok (.iconst 4, 1) := by decide +kernel
theorem d_push_71 : decode prog_81_method_17_code 71 = .ok (.iadd, 1) := by decide +kernel
theorem d_push_72 : decode prog_81_method_17_code 72 = .ok (.iload 6, 2) := by decide +kernel
theorem d_push_74 : decode prog_81_method_17_code 74 = .ok (.iastore, 1) := by decide +kernel
theorem d_push_75 : decode prog_81_method_17_code 75 = .ok (.iload_n 1, 1) := by decide +kernel
theorem d_push_76 : decode prog_81_method_17_code 76 = .ok (.iconst 5, 1) := by decide +kernel
theorem d_push_77 : decode prog_81_method_17_code 77 = .ok (.iadd, 1) := by decide +kernel
theorem d_push_78 : decode prog_81_method_17_code 78 = .ok (.ireturn, 1) := by decide +kernel
theorem own_ef_push (m : MethodId) (d : Addr) (p1 : Int32) (p2 : Int32) (p3 : Int32) (p4 : Int32) (p5 : Int32) (p6 : Int32) : entryFrame m #[(.ref d), (.int p1), (.int p2), (.int p3), (.int p4), (.int p5), (.int p6)] 7 = mkF m 0 #[.val (.ref d), .val (.int p1), .val (.int p2), .val (.int p3), .val (.int p4), .val (.int p5), .val (.int p6)] [] := by first | (simp [entryFrame, mkF, argsToLocals, Value.category]; done) | rfl
set_option maxRecDepth 65536 in
set_option maxHeartbeats 40000000 in
theorem own_m_push (l : Launch) (Z : State) (a0 : Array Value) (hw : ∀ d ∈ tables_1, d.before a0 Z = true) (h0 : Heap) (n0 : Nat) {d al ao ah au ac aw ar : Addr} {lim sz : Int32} {lv lo hi un ca wo re : own_L} (D : own_Dg Z n0 h0 d al ao ah au ac aw ar lim sz lv lo hi un ca wo re) (p1 p2 p3 p4 p5 p6 : Int32) {r : Int32} {wo' : own_L} (hF : own_f_push wo p1 p2 p3 p4 p5 p6 = some (r, wo')) : own_Met l Z ⟨"com/example/orbweaver/orbweaver/synthesis/Diagrams", "push", "(IIIIII)I"⟩ prog_81_method_17_code 7 (some .int) [] ({ frames := 0, cells := 0, slots := 0, locals := 0 } : Room) #[.ref d, .int p1, .int p2, .int p3, .int p4, .int p5, .int p6] h0 n0 (fun v h => v = some (.int r) ∧ own_Dg Z n0 h d al ao ah au ac aw ar lim sz lv lo hi un ca wo' re ∧ Keep h0 h [d, al, ao, ah, au, ac, aw, ar]) := by
  unfold own_f_push at hF
  refine own_body (plainFor_of_name own_pn_Diagrams) ?_
  intro p e s m below meth c T0 X0 hx hby hml hown hnm hZ e0 hret hlk
  have N0 := Fr.nil n0
  have K0 : Keep h0 h0 [d, al, ao, ah, au, ac, aw, ar] := Keep.refl _ _
  refine own_cast (own_ef_push m d p1 p2 p3 p4 p5 p6) ?_
  refine own_iloadN X0 hx (hb hby d_push_0) rfl 1 rfl ?_
  refine own_iconst X0 hx (z := (5 : Int32)) (hb hby d_push_1) rfl 2 rfl ?_
  refine own_iadd X0 hx (hb hby d_push_2) 3 rfl ?_
  refine own_aloadN X0 hx (hb hby d_push_3) rfl rfl 4 rfl ?_
  refine own_getF X0 hx hZ hown (own_w26 hw) e0 (own_D_f_work D) (hb hby d_push_4) 7 rfl (fun T1 X1 e1 => ?_)
  refine own_arrlen X1 hx hZ e1 (own_D_a_aw D) (z := (320 : Int32)) rfl (hb hby d_push_7) 8 rfl ?_
  by_cases hc2 : (320 : Int32) < (p1 + (5 : Int32))
  · replace hF := own_ifT hc2 hF
    refine own_icmpF X1 hx (hb hby d_push_8) (tlt hc2).2.2.2 11 rfl ?_
    cases hF
  · replace hF := own_ifF hc2 hF
    refine own_icmpT X1 hx (hb hby d_push_8) (flt hc2).2.2.2 29 (by decide) (by decide) ?_
    refine own_aloadN X1 hx (hb hby d_push_29) rfl rfl 30 rfl ?_
    refine own_getF X1 hx hZ hown (own_w26 hw) e1 (own_D_f_work D) (hb hby d_push_30) 33 rfl (fun T3 X3 e3 => ?_)
    refine own_iloadN X3 hx (hb hby d_push_33) rfl 34 rfl ?_
    refine own_iloadN X3 hx (hb hby d_push_34) rfl 35 rfl ?_
    obtain ⟨wo4, g4, hF⟩ := own_b1_some hF
    refine own_iastore X3 hx hZ e3 (own_D_a_aw D) (own_set_in g4) (hb hby d_push_35) N0 (own_D_g_aw D) 36 rfl (fun T4 h4 l4 X4 N4 e4 W4 => ?_)
    have D4 := own_D_w_aw D W4 g4
    have K4 : Keep h0 h4 [d, al, ao, ah, au, ac, aw, ar] := K0.wr W4 (Or.inl (List.mem_of_getElem? (i := 6) rfl))
    refine own_aloadN X4 hx (hb hby d_push_36) rfl rfl 37 rfl ?_
    refine own_getF X4 hx hZ hown (own_w26 hw) e4 (own_D_f_work D4) (hb hby d_push_37) 40 rfl (fun T5 X5 e5 => ?_)
    refine own_iloadN X5 hx (hb hby d_push_40) rfl 41 rfl ?_
    refine own_iconst X5 hx (z := (1 : Int32)) (hb hby d_push_41) rfl 42 rfl ?_
    refine own_iadd X5 hx (hb hby d_push_42) 43 rfl ?_
    refine own_iloadN X5 hx (hb hby d_push_43) rfl 44 rfl ?_
    obtain ⟨wo6, g6, hF⟩ := own_b1_some hF
    refine own_iastore X5 hx hZ e5 (own_D_a_aw D4) (own_set_in g6) (hb hby d_push_44) N4 (own_D_g_aw D4) 45 rfl (fun T6 h6 l6 X6 N6 e6 W6 => ?_)
    have D6 := own_D_w_aw D4 W6 g6
    have K6 : Keep h0 h6 [d, al, ao, ah, au, ac, aw, ar] := K4.wr W6 (Or.inl (List.mem_of_getElem? (i := 6) rfl))
    refine own_aloadN X6 hx (hb hby d_push_45) rfl rfl 46 rfl ?_
    refine own_getF X6 hx hZ hown (own_w26 hw) e6 (own_D_f_work D6) (hb hby d_push_46) 49 rfl (fun T7 X7 e7 => ?_)
    refine own_iloadN X7 hx (hb hby d_push_49) rfl 50 rfl ?_
    refine own_iconst X7 hx (z := (2 : Int32)) (hb hby d_push_50) rfl 51 rfl ?_
    refine own_iadd X7 hx (hb hby d_push_51) 52 rfl ?_
    refine own_iload X7 hx (hb hby d_push_52) rfl 54 rfl ?_
    obtain ⟨wo8, g8, hF⟩ := own_b1_some hF
    refine own_iastore X7 hx hZ e7 (own_D_a_aw D6) (own_set_in g8) (hb hby d_push_54) N6 (own_D_g_aw D6) 55 rfl (fun T8 h8 l8 X8 N8 e8 W8 => ?_)
    have D8 := own_D_w_aw D6 W8 g8
    have K8 : Keep h0 h8 [d, al, ao, ah, au, ac, aw, ar] := K6.wr W8 (Or.inl (List.mem_of_getElem? (i := 6) rfl))
    refine own_aloadN X8 hx (hb hby d_push_55) rfl rfl 56 rfl ?_
    refine own_getF X8 hx hZ hown (own_w26 hw) e8 (own_D_f_work D8) (hb hby d_push_56) 59 rfl (fun T9 X9 e9 => ?_)
    refine own_iloadN X9 hx (hb hby d_push_59) rfl 60 rfl ?_
    refine own_iconst X9 hx (z := (3 : Int32)) (hb hby d_push_60) rfl 61 rfl ?_
    refine own_iadd X9 hx (hb hby d_push_61) 62 rfl ?_
    refine own_iload X9 hx (hb hby d_push_62) rfl 64 rfl ?_
    obtain ⟨wo10, g10, hF⟩ := own_b1_some hF
    refine own_iastore X9 hx hZ e9 (own_D_a_aw D8) (own_set_in g10) (hb hby d_push_64) N8 (own_D_g_aw D8) 65 rfl (fun T10 h10 l10 X10 N10 e10 W10 => ?_)
    have D10 := own_D_w_aw D8 W10 g10
    have K10 : Keep h0 h10 [d, al, ao, ah, au, ac, aw, ar] := K8.wr W10 (Or.inl (List.mem_of_getElem? (i := 6) rfl))
    refine own_aloadN X10 hx (hb hby d_push_65) rfl rfl 66 rfl ?_
    refine own_getF X10 hx hZ hown (own_w26 hw) e10 (own_D_f_work D10) (hb hby d_push_66) 69 rfl (fun T11 X11 e11 => ?_)
    refine own_iloadN X11 hx (hb hby d_push_69) rfl 70 rfl ?_
    refine own_iconst X11 hx (z := (4 : Int32)) (hb hby d_push_70) rfl 71 rfl ?_
    refine own_iadd X11 hx (hb hby d_push_71) 72 rfl ?_
    refine own_iload X11 hx (hb hby d_push_72) rfl 74 rfl ?_
    obtain ⟨wo12, g12, hF⟩ := own_b1_some hF
    refine own_iastore X11 hx hZ e11 (own_D_a_aw D10) (own_set_in g12) (hb hby d_push_74) N10 (own_D_g_aw D10) 75 rfl (fun T12 h12 l12 X12 N12 e12 W12 => ?_)
    have D12 := own_D_w_aw D10 W12 g12
    have K12 : Keep h0 h12 [d, al, ao, ah, au, ac, aw, ar] := K10.wr W12 (Or.inl (List.mem_of_getElem? (i := 6) rfl))
    refine own_iloadN X12 hx (hb hby d_push_75) rfl 76 rfl ?_
    refine own_iconst X12 hx (z := (5 : Int32)) (hb hby d_push_76) rfl 77 rfl ?_
    refine own_iadd X12 hx (hb hby d_push_77) 78 rfl ?_
    cases hF
    exact own_retI X12 hx hret hlk (hb hby d_push_78) (Nat.le_refl _) (Nat.le_refl _) N12 e12 ⟨rfl, D12, K12⟩
/-- remember's model -/
def own_f_remember  (ca : own_L) (p1 p2 p3 p4 : Int32) : Option (own_L) :=
  own_b1 (own_set 16384 ca ((4 : Int32) * ((own_f_hash p1 p2 p3) &&& (((16384 : Int32) / (4 : Int32)) - (1 : Int32)))) p1) fun ca4 =>
  own_b1 (own_set 16384 ca4 (((4 : Int32) * ((own_f_hash p1 p2 p3) &&& (((16384 : Int32) / (4 : Int32)) - (1 : Int32)))) + (1 : Int32)) p2) fun ca6 =>
  own_b1 (own_set 16384 ca6 (((4 : Int32) * ((own_f_hash p1 p2 p3) &&& (((16384 : Int32) / (4 : Int32)) - (1 : Int32)))) + (2 : Int32)) p3) fun ca8 =>
  own_b1 (own_set 16384 ca8 (((4 : Int32) * ((own_f_hash p1 p2 p3) &&& (((16384 : Int32) / (4 : Int32)) - (1 : Int32)))) + (3 : Int32)) p4) fun ca10 =>
  some ca10
theorem d_remember_0 : decode prog_81_method_36_code 0 = .ok (.iconst 4, 1) := by decide +kernel
theorem d_remember_1 : decode prog_81_method_36_code 1 = .ok (.iload_n 1, 1) := by decide +kernel
theorem d_remember_2 : decode prog_81_method_36_code 2 = .ok (.iload_n 2, 1) := by decide +kernel
theorem d_remember_3 : decode prog_81_method_36_code 3 = .ok (.iload_n 3, 1) := by decide +kernel
theorem d_remember_4 : decode prog_81_method_36_code 4 = .ok (.invokestatic 251, 3) := by decide +kernel
theorem d_remember_7 : decode prog_81_method_36_code 7 = .ok (.aload_n 0, 1) := by decide +kernel
theorem d_remember_8 : decode prog_81_method_36_code 8 = .ok (.getfield 59, 3) := by decide +kernel
theorem d_remember_11 : decode prog_81_method_36_code 11 = .ok (.arraylength, 1) := by decide +kernel
theorem d_remember_12 : decode prog_81_method_36_code 12 = .ok (.iconst 4, 1) := by decide +kernel
theorem d_remember_13 : decode prog_81_method_36_code 13 = .ok (.idiv, 1) := by decide +kernel
theorem d_remember_14 : decode prog_81_method_36_code 14 = .ok (.iconst 1, 1) := by decide +kernel
theorem d_remember_15 : decode prog_81_method_36_code 15 = .ok (.isub, 1) := by decide +kernel
theorem d_remember_16 : decode prog_81_method_36_code 16 = .ok (.iand, 1) := by decide +kernel
theorem d_remember_17 : decode prog_81_method_36_code 17 = .ok (.imul, 1) := by decide +kernel
theorem d_remember_18 : decode prog_81_method_36_code 18 = .ok (.istore 5, 2) := by decide +kernel
theorem d_remember_20 : decode prog_81_method_36_code 20 = .ok (.aload_n 0, 1) := by decide +kernel
theorem d_remember_21 : decode prog_81_method_36_code 21 = .ok (.getfield 59, 3) := by decide +kernel
theorem d_remember_24 : decode prog_81_method_36_code 24 = .ok (.iload 5, 2) := by decide +kernel
theorem d_remember_26 : decode prog_81_method_36_code 26 = .ok (.iload_n 1, 1) := by decide +kernel
theorem d_remember_27 : decode prog_81_method_36_code 27 = .ok (.iastore, 1) := by decide +kernel
theorem d_remember_28 : decode prog_81_method_36_code 28 = .ok (.aload_n 0, 1) := by decide +kernel
theorem d_remember_29 : decode prog_81_method_36_code 29 = .ok (.getfield 59, 3) := by decide +kernel
theorem d_remember_32 : decode prog_81_method_36_code 32 = .ok (.iload 5, 2) := by decide +kernel
theorem d_remember_34 : decode prog_81_method_36_code 34 = .ok (.iconst 1, 1) := by decide +kernel
theorem d_remember_35 : decode prog_81_method_36_code 35 = .ok (.iadd, 1) := by decide +kernel
theorem d_remember_36 : decode prog_81_method_36_code 36 = .ok (.iload_n 2, 1) := by decide +kernel
theorem d_remember_37 : decode prog_81_method_36_code 37 = .ok (.iastore, 1) := by decide +kernel
theorem d_remember_38 : decode prog_81_method_36_code 38 = .ok (.aload_n 0, 1) := by decide +kernel
theorem d_remember_39 : decode prog_81_method_36_code 39 = .ok (.getfield 59, 3) := by decide +kernel
theorem d_remember_42 : decode prog_81_method_36_code 42 = .ok (.iload 5, 2) := by decide +kernel
theorem d_remember_44 : decode prog_81_method_36_code 44 = .ok (.iconst 2, 1) := by decide +kernel
theorem d_remember_45 : decode prog_81_method_36_code 45 = .ok (.iadd, 1) := by decide +kernel
theorem d_remember_46 : decode prog_81_method_36_code 46 = .ok (.iload_n 3, 1) := by decide +kernel
theorem d_remember_47 : decode prog_81_method_36_code 47 = .ok (.iastore, 1) := by decide +kernel
theorem d_remember_48 : decode prog_81_method_36_code 48 = .ok (.aload_n 0, 1) := by decide +kernel
theorem d_remember_49 : decode prog_81_method_36_code 49 = .ok (.getfield 59, 3) := by decide +kernel
theorem d_remember_52 : decode prog_81_method_36_code 52 = .ok (.iload 5, 2) := by decide +kernel
theorem d_remember_54 : decode prog_81_method_36_code 54 = .ok (.iconst 3, 1) := by decide +kernel
theorem d_remember_55 : decode prog_81_method_36_code 55 = .ok (.iadd, 1) := by decide +kernel
theorem d_remember_56 : decode prog_81_method_36_code 56 = .ok (.iload 4, 2) := by decide +kernel
theorem d_remember_58 : decode prog_81_method_36_code 58 = .ok (.iastore, 1) := by decide +kernel
theorem d_remember_59 : decode prog_81_method_36_code 59 = .ok (.return_, 1) := by decide +kernel
theorem own_ef_remember (m : MethodId) (d : Addr) (p1 : Int32) (p2 : Int32) (p3 : Int32) (p4 : Int32) : entryFrame m #[(.ref d), (.int p1), (.int p2), (.int p3), (.int p4)] 6 = mkF m 0 #[.val (.ref d), .val (.int p1), .val (.int p2), .val (.int p3), .val (.int p4), .unset] [] := by first | (simp [entryFrame, mkF, argsToLocals, Value.category]; done) | rfl
set_option maxRecDepth 65536 in
set_option maxHeartbeats 40000000 in
theorem own_m_remember (l : Launch) (Z : State) (a0 : Array Value) (hw : ∀ d ∈ tables_1, d.before a0 Z = true) (h0 : Heap) (n0 : Nat) {d al ao ah au ac aw ar : Addr} {lim sz : Int32} {lv lo hi un ca wo re : own_L} (D : own_Dg Z n0 h0 d al ao ah au ac aw ar lim sz lv lo hi un ca wo re) (p1 p2 p3 p4 : Int32) {ca' : own_L} (hF : own_f_remember ca p1 p2 p3 p4 = some ca') : own_Met l Z ⟨"com/example/orbweaver/orbweaver/synthesis/Diagrams", "remember", "(IIII)V"⟩ prog_81_method_36_code 6 none [] ({ frames := 1, cells := 0, slots := 0, locals := 16 } : Room) #[.ref d, .int p1, .int p2, .int p3, .int p4] h0 n0 (fun v h => v = none ∧ own_Dg Z n0 h d al ao ah au ac aw ar lim sz lv lo hi un ca' wo re ∧ Keep h0 h [d, al, ao, ah, au, ac, aw, ar]) := by
  unfold own_f_remember at hF
  refine own_body (plainFor_of_name own_pn_Diagrams) ?_
  intro p e s m below meth c T0 X0 hx hby hml hown hnm hZ e0 hret hlk
  have N0 := Fr.nil n0
  have K0 : Keep h0 h0 [d, al, ao, ah, au, ac, aw, ar] := Keep.refl _ _
  refine own_cast (own_ef_remember m d p1 p2 p3 p4) ?_
  refine own_iconst X0 hx (z := (4 : Int32)) (hb hby d_remember_0) rfl 1 rfl ?_
  refine own_iloadN X0 hx (hb hby d_remember_1) rfl 2 rfl ?_
  refine own_iloadN X0 hx (hb hby d_remember_2) rfl 3 rfl ?_
  refine own_iloadN X0 hx (hb hby d_remember_3) rfl 4 rfl ?_
  refine own_callS X0 hx hZ hown (own_w61 hw) (own_w62 hw) (own_w3 hw) (own_w63 hw) (by decide) 1 (own_m_hash l Z a0 hw _ n0 p1 p2 p3 rfl) e0 (by rw [hml]; rfl) [(.int p1), (.int p2), (.int p3)] [(.int (4 : Int32))] rfl (lenOf own_pd_2 rfl) rfl (Nat.le_of_eq rfl) (by decide) (by decide) (by decide) (by decide) (hb hby d_remember_4) N0 7 rfl (fun v1 T1 l1 X1 N1 hP1 => ?_)
  obtain ⟨rfl, e1⟩ := hP1
  show own_G p e below _ (T1.setTop (mkF m 7 #[.val (.ref d), .val (.int p1), .val (.int p2), .val (.int p3), .val (.int p4), .unset] [(.int (own_f_hash p1 p2 p3)), (.int (4 : Int32))]))
  refine own_aloadN X1 hx (hb hby d_remember_7) rfl rfl 8 rfl ?_
  refine own_getF X1 hx hZ hown (own_w46 hw) e1 (own_D_f_cache D) (hb hby d_remember_8) 11 rfl (fun T2 X2 e2 => ?_)
  refine own_arrlen X2 hx hZ e2 (own_D_a_ac D) (z := (16384 : Int32)) rfl (hb hby d_remember_11) 12 rfl ?_
  refine own_iconst X2 hx (z := (4 : Int32)) (hb hby d_remember_12) rfl 13 rfl ?_
  refine own_idiv X2 hx (hb hby d_remember_13) (by decide) 14 rfl ?_
  refine own_iconst X2 hx (z := (1 : Int32)) (hb hby d_remember_14) rfl 15 rfl ?_
  refine own_isub X2 hx (hb hby d_remember_15) 16 rfl ?_
  refine own_iand X2 hx (hb hby d_remember_16) 17 rfl ?_
  refine own_imul X2 hx (hb hby d_remember_17) 18 rfl ?_
  refine own_istore X2 hx (#[.val (.ref d), .val (.int p1), .val (.int p2), .val (.int p3), .val (.int p4), .val (.int ((4 : Int32) * ((own_f_hash p1 p2 p3) &&& (((16384 : Int32) / (4 : Int32)) - (1 : Int32)))))]) (hb hby d_remember_18) rfl 20 rfl ?_
  refine own_aloadN X2 hx (hb hby d_remember_20) rfl rfl 21 rfl ?_
  refine own_getF X2 hx hZ hown (own_w46 hw) e2 (own_D_f_cache D) (hb hby d_remember_21) 24 rfl (fun T3 X3 e3 => ?_)
  refine own_iload X3 hx (hb hby d_remember_24) rfl 26 rfl ?_
  refine own_iloadN X3 hx (hb hby d_remember_26) rfl 27 rfl ?_
  obtain ⟨ca4, g4, hF⟩ := own_b1_some hF
  refine own_iastore X3 hx hZ e3 (own_D_a_ac D) (own_set_in g4) (hb hby d_remember_27) N1 (own_D_g_ac D) 28 rfl (fun T4 h4 l4 X4 N4 e4 W4 => ?_)
  have D4 := own_D_w_ac D W4 g4
  have K4 : Keep h0 h4 [d, al, ao, ah, au, ac, aw, ar] := K0.wr W4 (Or.inl (List.mem_of_getElem? (i := 5) rfl))
  refine own_aloadN X4 hx (hb hby d_remember_28) rfl rfl 29 rfl ?_
  refine own_getF X4 hx hZ hown (own_w46 hw) e4 (own_D_f_cache D4) (hb hby d_remember_29) 32 rfl (fun T5 X5 e5 => ?_)
  refine own_iload X5 hx (hb hby d_remember_32) rfl 34 rfl ?_
  refine own_iconst X5 hx (z := (1 : Int32)) (hb hby d_remember_34) rfl 35 rfl ?_
  refine own_iadd X5 hx (hb hby d_remember_35) 36 rfl ?_
  refine own_iloadN X5 hx (hb hby d_remember_36) rfl 37 rfl ?_
  obtain ⟨ca6, g6, hF⟩ := own_b1_some hF
  refine own_iastore X5 hx hZ e5 (own_D_a_ac D4) (own_set_in g6) (hb hby d_remember_37) N4 (own_D_g_ac D4) 38 rfl (fun T6 h6 l6 X6 N6 e6 W6 => ?_)
  have D6 := own_D_w_ac D4 W6 g6
  have K6 : Keep h0 h6 [d, al, ao, ah, au, ac, aw, ar] := K4.wr W6 (Or.inl (List.mem_of_getElem? (i := 5) rfl))
  refine own_aloadN X6 hx (hb hby d_remember_38) rfl rfl 39 rfl ?_
  refine own_getF X6 hx hZ hown (own_w46 hw) e6 (own_D_f_cache D6) (hb hby d_remember_39) 42 rfl (fun T7 X7 e7 => ?_)
  refine own_iload X7 hx (hb hby d_remember_42) rfl 44 rfl ?_
  refine own_iconst X7 hx (z := (2 : Int32)) (hb hby d_remember_44) rfl 45 rfl ?_
  refine own_iadd X7 hx (hb hby d_remember_45) 46 rfl ?_
  refine own_iloadN X7 hx (hb hby d_remember_46) rfl 47 rfl ?_
  obtain ⟨ca8, g8, hF⟩ := own_b1_some hF
  refine own_iastore X7 hx hZ e7 (own_D_a_ac D6) (own_set_in g8) (hb hby d_remember_47) N6 (own_D_g_ac D6) 48 rfl (fun T8 h8 l8 X8 N8 e8 W8 => ?_)
  have D8 := own_D_w_ac D6 W8 g8
  have K8 : Keep h0 h8 [d, al, ao, ah, au, ac, aw, ar] := K6.wr W8 (Or.inl (List.mem_of_getElem? (i := 5) rfl))
  refine own_aloadN X8 hx (hb hby d_remember_48) rfl rfl 49 rfl ?_
  refine own_getF X8 hx hZ hown (own_w46 hw) e8 (own_D_f_cache D8) (hb hby d_remember_49) 52 rfl (fun T9 X9 e9 => ?_)
  refine own_iload X9 hx (hb hby d_remember_52) rfl 54 rfl ?_
  refine own_iconst X9 hx (z := (3 : Int32)) (hb hby d_remember_54) rfl 55 rfl ?_
  refine own_iadd X9 hx (hb hby d_remember_55) 56 rfl ?_
  refine own_iload X9 hx (hb hby d_remember_56) rfl 58 rfl ?_
  obtain ⟨ca10, g10, hF⟩ := own_b1_some hF
  refine own_iastore X9 hx hZ e9 (own_D_a_ac D8) (own_set_in g10) (hb hby d_remember_58) N8 (own_D_g_ac D8) 59 rfl (fun T10 h10 l10 X10 N10 e10 W10 => ?_)
  have D10 := own_D_w_ac D8 W10 g10
  have K10 : Keep h0 h10 [d, al, ao, ah, au, ac, aw, ar] := K8.wr W10 (Or.inl (List.mem_of_getElem? (i := 5) rfl))
  cases hF
  exact own_retV X10 hx hret hlk (hb hby d_remember_59) (Nat.le_refl _) (Nat.le_refl _) N10 e10 ⟨rfl, D10, K10⟩
/-- the loop of node, f turns at the most -/
def own_f_nodeL (f : Nat) (lim : Int32) (sz : Int32) (lv : own_L) (lo : own_L) (hi : own_L) (un : own_L) (p1 : Int32) (p2 : Int32) (p3 : Int32) (i4 : Int32) (i5 : Int32) (i6 : Int32) : Option (Int32 × Int32 × own_L × own_L × own_L × own_L) :=
  match f with
  | 0 => none
  | f + 1 =>
    if i6 = (0 : Int32) then
      if sz < lim then
        own_b1 (own_set 4096 lv sz p1) fun lv8 =>
        own_b1 (own_set 4096 lo sz p2) fun lo10 =>
        own_b1 (own_set 4096 hi sz p3) fun hi12 =>
        own_b1 (own_set 8192 un i5 sz) fun un14 =>
        some (sz, (sz + (1 : Int32)), lv8, lo10, hi12, un14)
      else
        none
    else
      own_b1 (own_get 4096 0 lv i6) fun x16 =>
      if x16 = p1 then
        own_b1 (own_get 4096 0 lo i6) fun x19 =>
        if x19 = p2 then
          own_b1 (own_get 4096 0 hi i6) fun x22 =>
          if x22 = p3 then
            some (i6, sz, lv, lo, hi, un)
          else
            own_b1 (own_get 8192 0 un ((i5 + (1 : Int32)) &&& i4)) fun x25 =>
            own_f_nodeL f lim sz lv lo hi un p1 p2 p3 i4 ((i5 + (1 : Int32)) &&& i4) x25
        else
          own_b1 (own_get 8192 0 un ((i5 + (1 : Int32)) &&& i4)) fun x27 =>
          own_f_nodeL f lim sz lv lo hi un p1 p2 p3 i4 ((i5 + (1 : Int32)) &&& i4) x27
      else
        own_b1 (own_get 8192 0 un ((i5 + (1 : Int32)) &&& i4)) fun x29 =>
        own_f_nodeL f lim sz lv lo hi un p1 p2 p3 i4 ((i5 + (1 : Int32)) &&& i4) x29
/-- node's model -/
def own_f_node (lim : Int32) (sz : Int32) (lv : own_L) (lo : own_L) (hi : own_L) (un : own_L) (p1 p2 p3 : Int32) : Option (Int32 × Int32 × own_L × own_L × own_L × own_L) :=
  if p2 = p3 then
    some (p2, sz, lv, lo, hi, un)
  else
    if sz = (4096 : Int32) then
      none
    else
      own_b1 (own_get 8192 0 un ((own_f_hash p1 p2 p3) &&& ((8192 : Int32) - (1 : Int32)))) fun x37 =>
      own_f_nodeL 64 lim sz lv lo hi un p1 p2 p3 ((8192 : Int32) - (1 : Int32)) ((own_f_hash p1 p2 p3) &&& ((8192 : Int32) - (1 : Int32))) x37
theorem d_node_0 : decode prog_81_method_32_code 0 = .ok (.iload_n 2, 1) := by decide +kernel
theorem d_node_1 : decode prog_81_method_32_code 1 = .ok (.iload_n 3, 1) := by decide +kernel
theorem d_node_2 : decode prog_81_method_32_code 2 = .ok (.if_icmp .ne 5, 3) := by decide +kernel
theorem d_node_5 : decode prog_81_method_32_code 5 = .ok (.iload_n 2, 1) := by decide +kernel
theorem d_node_6 : decode prog_81_method_32_code 6 = .ok (.ireturn, 1) := by decide +kernel
theorem d_node_7 : decode prog_81_method_32_code 7 = .ok (.aload_n 0, 1) := by decide +kernel
theorem d_node_8 : decode prog_81_method_32_code 8 = .ok (.getfield 53, 3) := by decide +kernel
theorem d_node_11 : decode prog_81_method_32_code 11 = .ok (.aload_n 0, 1) := by decide +kernel
theorem d_node_12 : decode prog_81_method_32_code 12 = .ok (.getfield 44, 3) := by decide +kernel
theorem d_node_15 : decode prog_81_method_32_code 15 = .ok (.arraylength, 1) := by decide +kernel
theorem d_node_16 : decode prog_81_method_32_code 16 = .ok (.if_icmp .ne 7, 3) := by decide +kernel
theorem d_node_23 : decode prog_81_method_32_code 23 = .ok (.aload_n 0, 1) := by decide +kernel
theorem d_node_24 : decode prog_81_method_32_code 24 = .ok (.getfield 56, 3) := by decide +kernel
theorem d_node_27 : decode prog_81_method_32_code 27 = .ok (.arraylength, 1) := by decide +kernel
theorem d_node_28 : decode prog_81_method_32_code 28 = .ok (.iconst 1, 1) := by decide +kernel
theorem d_node_29 : decode prog_81_method_32_code 29 = .ok (.isub, 1) := by decide +kernel
theorem d_node_30 : decode prog_81_method_32_code 30 = .ok (.istore 4, 2) := by decide +kernel
theorem d_node_32 : decode prog_81_method_32_code 32 = .ok (.iload_n 1, 1) := by decide +kernel
theorem d_node_33 : decode prog_81_method_32_code 33 = .ok (.iload_n 2, 1) := by decide +kernel
theorem d_node_34 : decode prog_81_method_32_code 34 = .ok (.iload_n 3, 1) := by decide +kernel
theorem d_node_35 : decode prog_81_method_32_code 35 = .ok (.invokestatic 251, 3) := by decide +kernel
theorem d_node_38 : decode prog_81_method_32_code 38 = .ok (.iload 4, 2) := by decide +kernel
theorem d_node_40 : decode prog_81_method_32_code 40 = .ok (.iand, 1) := by decide +kernel
theorem d_node_41 : decode prog_81_method_32_code 41 = .ok (.istore 5, 2) := by decide +kernel
theorem d_node_43 : decode prog_81_method_32_code 43 = .ok (.aload_n 0, 1) := by decide +kernel
theorem d_node_44 : decode prog_81_method_32_code 44 = .ok (.getfield 56, 3) := by decide +kernel
theorem d_node_47 : decode prog_81_method_32_code 47 = .ok (.iload 5, 2) := by decide +kernel
theorem d_node_49 : decode prog_81_method_32_code 49 = .ok (.iaload, 1) := by decide +kernel
theorem d_node_50 : decode prog_81_method_32_code 50 = .ok (.istore 6, 2) := by decide +kernel
theorem d_node_52 : decode prog_81_method_32_code 52 = .ok (.iload 6, 2) := by decide +kernel
theorem d_node_54 : decode prog_81_method_32_code 54 = .ok (.ifCond .eq 57, 3) := by decide +kernel
theorem d_node_57 : decode prog_81_method_32_code 57 = .ok (.aload_n 0, 1) := by decide +kernel
theorem d_node_58 : decode prog_81_method_32_code 58 = .ok (.getfield 44, 3) := by decide +kernel
theorem d_node_61 : decode prog_81_method_32_code 61 = .ok (.iload 6, 2) := by decide +kernel
theorem d_node_63 : decode prog_81_method_32_code 63 = .ok (.iaload, 1) := by decide +kernel
theorem d_node_64 : decode prog_81_method_32_code 64 = .ok (.iload_n 1, 1) := by decide +kernel
theorem d_node_65 : decode prog_81_method_32_code 65 = .ok (.if_icmp .ne 25, 3) := by decide +kernel
theorem d_node_68 : decode prog_81_method_32_code 68 = .ok (.aload_n 0, 1) := by decide +kernel
theorem d_node_69 : decode prog_81_method_32_code 69 = .ok (.getfield 47, 3) := by decide +kernel
theorem d_node_72 : decode prog_81_method_32_code 72 = .ok (.iload 6, 2) := by decide +kernel
theorem d_node_74 : decode prog_81_method_32_code 74 = .ok (.iaload, 1) := by decide +kernel
theorem d_node_75 : decode prog_81_method_32_code 75 = .ok (.iload_n 2, 1) := by decide +kernel
theorem d_node_76 : decode prog_81_method_32_code 76 = .ok (.if_icmp .ne 14, 3) := by decide +kernel
theorem d_node_79 : decode prog_81_method_32_code 79 = .ok (.aload_n 0, 1) := by decide +kernel
theorem d_node_80 : decode prog_81_method_32_code 80 = .ok (.getfield 50, 3) := by decide +kernel
theorem d_node_83 : decode prog_81_method_32_code 83 = .ok (.iload 6, 2) := by decide +kernel
theorem d_node_85 : decode prog_81_method_32_code 85 = .ok (.iaload, 1) := by decide +kernel
theorem d_node_86 : decode prog_81_method_32_code 86 = .ok (.iload_n 3, 1) := by decide +kernel
theorem d_node_87 : decode prog_81_method_32_code 87 = .ok (.if_icmp .eq 24, 3) := by decide +kernel
theorem d_node_90 : decode prog_81_method_32_code 90 = .ok (.iload 5, 2) := by decide +kernel
theorem d_node_92 : decode prog_81_method_32_code 92 = .ok (.iconst 1, 1) := by decide +kernel
theorem d_node_93 : decode prog_81_method_32_code 93 = .ok (.iadd, 1) := by decide +kernel
theorem d_node_94 : decode prog_81_method_32_code 94 = .ok (.iload 4, 2) := by decide +kernel
theorem d_node_96 : decode prog_81_method_32_code 96 = .ok (.iand, 1) := by decide +kernel
theorem d_node_97 : decode prog_81_method_32_code 97 = .ok (.istore 5, 2) := by decide +kernel
theorem d_node_99 : decode prog_81_method_32_code 99 = .ok (.aload_n 0, 1) := by decide +kernel
theorem d_node_100 : decode prog_81_method_32_code 100 = .ok (.getfield 56, 3) := by decide +kernel
theorem d_node_103 : decode prog_81_method_32_code 103 = .ok (.iload 5, 2) := by decide +kernel
theorem d_node_105 : decode prog_81_method_32_code 105 = .ok (.iaload, 1) := by decide +kernel
theorem d_node_106 : decode prog_81_method_32_code 106 = .ok (.istore 6, 2) := by decide +kernel
theorem d_node_108 : decode prog_81_method_32_code 108 = .ok (.goto (-56), 3) := by decide +kernel
theorem d_node_111 : decode prog_81_method_32_code 111 = .ok (.iload 6, 2) := by decide +kernel
theorem d_node_113 : decode prog_81_method_32_code 113 = .ok (.ifCond .ne 72, 3) := by decide +kernel
theorem d_node_116 : decode prog_81_method_32_code 116 = .ok (.aload_n 0, 1) := by decide +kernel
theorem d_node_117 : decode prog_81_method_32_code 117 = .ok (.getfield 53, 3) := by decide +kernel
theorem d_node_120 : decode prog_81_method_32_code 120 = .ok (.aload_n 0, 1) := by decide +kernel
theorem d_node_121 : decode prog_81_method_32_code 121 = .ok (.getfield 41, 3) := by decide +kernel
theorem d_node_124 : decode prog_81_method_32_code 124 = .ok (.if_icmp .lt 15, 3) := by decide +kernel
theorem d_node_139 : decode prog_81_method_32_code 139 = .ok (.aload_n 0, 1) := by decide +kernel
theorem d_node_140 : decode prog_81_method_32_code 140 = .ok (.dup, 1) := by decide +kernel
theorem d_node_141 : decode prog_81_method_32_code 141 = .ok (.getfield 53, 3) := by decide +kernel
theorem d_node_144 : decode prog_81_method_32_code 144 = .ok (.dup_x1, 1) := by decide +kernel
theorem d_node_145 : decode prog_81_method_32_code 145 = .ok (.iconst 1, 1) := by decide +kernel
theorem d_node_146 : decode prog_81_method_32_code 146 = .ok (.iadd, 1) := by decide +kernel
theorem d_node_147 : decode prog_81_method_32_code 147 = .ok (.putfield 53, 3) := by decide +kernel
theorem d_node_150 : decode prog_81_method_32_code 150 = .ok (.istore 6, 2) := by decide +kernel
theorem d_node_152 : decode prog_81_method_32_code 152 = .ok (.aload_n 0, 1) := by decide +kernel
theorem d_node_153 : decode prog_81_method_32_code 153 = .ok (.getfield 44, 3) := by decide +kernel
theorem d_node_156 : decode prog_81_method_32_code 156 = .ok (.iload 6, 2) := by decide +kernel
theorem d_node_158 : decode prog_81_method_32_code 158 = .ok (.iload_n 1, 1) := by decide +kernel
theorem d_node_159 : decode prog_81_method_32_code 159 = .ok (.iastore, 1) := by decide +kernel
theorem d_node_160 : decode prog_81_method_32_code 160 = .ok (.aload_n 0, 1) := by decide +kernel
theorem d_node_161 : decode prog_81_method_32_code 161 = .ok (.getfield 47, 3) := by decide +kernel
theorem d_node_164 : decode prog_81_method_32_code 164 = .ok (.iload 6, 2) := by decide +kernel
theorem d_node_166 : decode prog_81_method_32_code 166 = .ok (.iload_n 2, 1) := by decide +kernel
theorem d_node_167 : decode prog_81_method_32_code 167 = .ok (.iastore, 1) := by decide +kernel
theorem d_node_168 : decode prog_81_method_32_code 168 = .ok (.aload_n 0, 1) := by decide +kernel
theorem d_node_169 : decode prog_81_method_32_code 169 = .ok (.getfield 50, 3) := by decide +kernel
theorem d_node_172 : decode prog_81_method_32_code 172 = .ok (.iload 6, 2) := by decide +kernel
theorem d_node_174 : decode prog_81_method_32_code 174 = .ok (.iload_n 3, 1) := by decide +kernel
theorem d_node_175 : decode prog_81_method_32_code 175 = .ok (.iastore, 1) := by decide +kernel
theorem d_node_176 : decode prog_81_method_32_code 176 = .ok (.aload_n 0, 1) := by decide +kernel
theorem d_node_177 : decode prog_81_method_32_code 177 = .ok (.getfield 56, 3) := by decide +kernel
theorem d_node_180 : decode prog_81_method_32_code 180 = .ok (.iload 5, 2) := by decide +kernel
theorem d_node_182 : decode prog_81_method_32_code 182 = .ok (.iload 6, 2) := by decide +kernel
theorem d_node_184 : decode prog_81_method_32_code 184 = .ok (.iastore, 1) := by decide +kernel
theorem d_node_185 : decode prog_81_method_32_code 185 = .ok (.iload 6, 2) := by decide +kernel
theorem d_node_187 : decode prog_81_method_32_code 187 = .ok (.ireturn, 1) := by decide +kernel
theorem own_ef_node (m : MethodId) (d : Addr) (p1 : Int32) (p2 : Int32) (p3 : Int32) : entryFrame m #[(.ref d), (.int p1), (.int p2), (.int p3)] 7 = mkF m 0 #[.val (.ref d), .val (.int p1), .val (.int p2), .val (.int p3), .unset, .unset, .unset] [] := by first | (simp [entryFrame, mkF, argsToLocals, Value.category]; done) | rfl
set_option maxRecDepth 65536 in
set_option maxHeartbeats 40000000 in
theorem own_m_node (l : Launch) (Z : State) (a0 : Array Value) (hw : ∀ d ∈ tables_1, d.before a0 Z = true) (h0 : Heap) (n0 : Nat) {d al ao ah au ac aw ar : Addr} {lim sz : Int32} {lv lo hi un ca wo re : own_L} (D : own_Dg Z n0 h0 d al ao ah au ac aw ar lim sz lv lo hi un ca wo re) (p1 p2 p3 : Int32) {r : Int32} {sz' : Int32} {lv' lo' hi' un' : own_L} (hF : own_f_node lim sz lv lo hi un p1 p2 p3 = some (r, sz', lv', lo', hi', un')) : own_Met l Z ⟨"com/example/orbweaver/orbweaver/synthesis/Diagrams", "node", "(III)I"⟩ prog_81_method_32_code 7 (some .int) [] ({ frames := 1, cells := 0, slots := 0, locals := 15 } : Room) #[.ref d, .int p1, .int p2, .int p3] h0 n0 (fun v h => v = some (.int r) ∧ own_Dg Z n0 h d al ao ah au ac aw ar lim sz' lv' lo' hi' un' ca wo re ∧ Keep h0 h [d, al, ao, ah, au, ac, aw, ar]) := by
  unfold own_f_node at hF
  refine own_body (plainFor_of_name own_pn_Diagrams) ?_
  intro p e s m below meth c T0 X0 hx hby hml hown hnm hZ e0 hret hlk
  have N0 := Fr.nil n0
  have K0 : Keep h0 h0 [d, al, ao, ah, au, ac, aw, ar] := Keep.refl _ _
  refine own_cast (own_ef_node m d p1 p2 p3) ?_
  have loop : ∀ (f : Nat) (T : State) (locs : List Loc) (i4 i5 i6 : Int32), own_f_nodeL f lim sz lv lo hi un p1 p2 p3 i4 i5 i6 = some (r, sz', lv', lo', hi', un') → Stand p l e ({ frames := 1, cells := 0, slots := 0, locals := 15 } : Room) s m #[.ref d, .int p1, .int p2, .int p3] below meth c T locs 0 0 → Fr n0 locs → T.heap = h0 → own_G p e below (own_End s ({ frames := 1, cells := 0, slots := 0, locals := 15 } : Room) n0 (fun v h => v = some (.int r) ∧ own_Dg Z n0 h d al ao ah au ac aw ar lim sz' lv' lo' hi' un' ca wo re ∧ Keep h0 h [d, al, ao, ah, au, ac, aw, ar])) (T.setTop (mkF m 52 #[.val (.ref d), .val (.int p1), .val (.int p2), .val (.int p3), .val (.int i4), .val (.int i5), .val (.int i6)] [])) := by
    intro f
    induction f with
    | zero => intro T locs i4 i5 i6   hF X N eT; cases hF
    | succ f ih =>
      intro T locs i4 i5 i6   hF X N eT
      rw [own_f_nodeL] at hF
      refine own_iload X hx (hb hby d_node_52) rfl 54 rfl ?_
      by_cases hc1 : i6 = (0 : Int32)
      · replace hF := own_ifT hc1 hF
        refine own_ifcT X hx (hb hby d_node_54) (teq hc1).1 111 (by decide) (by decide) ?_
        refine own_iload X hx (hb hby d_node_111) rfl 113 rfl ?_
        refine own_ifcF X hx (hb hby d_node_113) (teq hc1).2 116 rfl ?_
        refine own_aloadN X hx (hb hby d_node_116) rfl rfl 117 rfl ?_
        refine own_getF X hx hZ hown (own_w42 hw) eT (own_D_f_size D) (hb hby d_node_117) 120 rfl (fun T2 X2 e2 => ?_)
        refine own_aloadN X2 hx (hb hby d_node_120) rfl rfl 121 rfl ?_
        refine own_getF X2 hx hZ hown (own_w34 hw) e2 (own_D_f_limit D) (hb hby d_node_121) 124 rfl (fun T3 X3 e3 => ?_)
        by_cases hc4 : sz < lim
        · replace hF := own_ifT hc4 hF
          refine own_icmpT X3 hx (hb hby d_node_124) (tlt hc4).1 139 (by decide) (by decide) ?_
          refine own_aloadN X3 hx (hb hby d_node_139) rfl rfl 140 rfl ?_
          refine own_dup X3 hx (hb hby d_node_140) rfl 141 rfl ?_
          refine own_getF X3 hx hZ hown (own_w42 hw) e3 (own_D_f_size D) (hb hby d_node_141) 144 rfl (fun T5 X5 e5 => ?_)
          refine own_dupX1 X5 hx (hb hby d_node_144) rfl rfl 145 rfl ?_
          refine own_iconst X5 hx (z := (1 : Int32)) (hb hby d_node_145) rfl 146 rfl ?_
          refine own_iadd X5 hx (hb hby d_node_146) 147 rfl ?_
          refine own_putF X5 hx hZ hown (own_w42 hw) e5 (own_D_f_size D) (own_D_exa D) (Or.inl (own_w43 hw)) (own_w2 hw) (ty := .int) (by decide) rfl rfl (hb hby d_node_147) N (own_D_g_d D) 150 rfl (fun T6 h6 l6 X6 N6 e6 W6 => ?_)
          have D6 := own_D_w_size hw D W6
          have K6 : Keep h0 h6 [d, al, ao, ah, au, ac, aw, ar] := K0.wr W6 (Or.inl (List.mem_of_getElem? (i := 0) rfl))
          refine own_istore X6 hx (#[.val (.ref d), .val (.int p1), .val (.int p2), .val (.int p3), .val (.int i4), .val (.int i5), .val (.int sz)]) (hb hby d_node_150) rfl 152 rfl ?_
          refine own_aloadN X6 hx (hb hby d_node_152) rfl rfl 153 rfl ?_
          refine own_getF X6 hx hZ hown (own_w36 hw) e6 (own_D_f_level D6) (hb hby d_node_153) 156 rfl (fun T7 X7 e7 => ?_)
          refine own_iload X7 hx (hb hby d_node_156) rfl 158 rfl ?_
          refine own_iloadN X7 hx (hb hby d_node_158) rfl 159 rfl ?_
          obtain ⟨lv8, g8, hF⟩ := own_b1_some hF
          refine own_iastore X7 hx hZ e7 (own_D_a_al D6) (own_set_in g8) (hb hby d_node_159) N6 (own_D_g_al D6) 160 rfl (fun T8 h8 l8 X8 N8 e8 W8 => ?_)
          have D8 := own_D_w_al D6 W8 g8
          have K8 : Keep h0 h8 [d, al, ao, ah, au, ac, aw, ar] := K6.wr W8 (Or.inl (List.mem_of_getElem? (i := 1) rfl))
          refine own_aloadN X8 hx (hb hby d_node_160) rfl rfl 161 rfl ?_
          refine own_getF X8 hx hZ hown (own_w38 hw) e8 (own_D_f_low D8) (hb hby d_node_161) 164 rfl (fun T9 X9 e9 => ?_)
          refine own_iload X9 hx (hb hby d_node_164) rfl 166 rfl ?_
          refine own_iloadN X9 hx (hb hby d_node_166) rfl 167 rfl ?_
          obtain ⟨lo10, g10, hF⟩ := own_b1_some hF
          refine own_iastore X9 hx hZ e9 (own_D_a_ao D8) (own_set_in g10) (hb hby d_node_167) N8 (own_D_g_ao D8) 168 rfl (fun T10 h10 l10 X10 N10 e10 W10 => ?_)
          have D10 := own_D_w_ao D8 W10 g10
          have K10 : Keep h0 h10 [d, al, ao, ah, au, ac, aw, ar] := K8.wr W10 (Or.inl (List.mem_of_getElem? (i := 2) rfl))
          refine own_aloadN X10 hx (hb hby d_node_168) rfl rfl 169 rfl ?_
          refine own_getF X10 hx hZ hown (own_w40 hw) e10 (own_D_f_high D10) (hb hby d_node_169) 172 rfl (fun T11 X11 e11 => ?_)
          refine own_iload X11 hx (hb hby d_node_172) rfl 174 rfl ?_
          refine own_iloadN X11 hx (hb hby d_node_174) rfl 175 rfl ?_
          obtain ⟨hi12, g12, hF⟩ := own_b1_some hF
          refine own_iastore X11 hx hZ e11 (own_D_a_ah D10) (own_set_in g12) (hb hby d_node_175) N10 (own_D_g_ah D10) 176 rfl (fun T12 h12 l12 X12 N12 e12 W12 => ?_)
          have D12 := own_D_w_ah D10 W12 g12
          have K12 : Keep h0 h12 [d, al, ao, ah, au, ac, aw, ar] := K10.wr W12 (Or.inl (List.mem_of_getElem? (i := 3) rfl))
          refine own_aloadN X12 hx (hb hby d_node_176) rfl rfl 177 rfl ?_
          refine own_getF X12 hx hZ hown (own_w44 hw) e12 (own_D_f_unique D12) (hb hby d_node_177) 180 rfl (fun T13 X13 e13 => ?_)
          refine own_iload X13 hx (hb hby d_node_180) rfl 182 rfl ?_
          refine own_iload X13 hx (hb hby d_node_182) rfl 184 rfl ?_
          obtain ⟨un14, g14, hF⟩ := own_b1_some hF
          refine own_iastore X13 hx hZ e13 (own_D_a_au D12) (own_set_in g14) (hb hby d_node_184) N12 (own_D_g_au D12) 185 rfl (fun T14 h14 l14 X14 N14 e14 W14 => ?_)
          have D14 := own_D_w_au D12 W14 g14
          have K14 : Keep h0 h14 [d, al, ao, ah, au, ac, aw, ar] := K12.wr W14 (Or.inl (List.mem_of_getElem? (i := 4) rfl))
          refine own_iload X14 hx (hb hby d_node_185) rfl 187 rfl ?_
          cases hF
          exact own_retI X14 hx hret hlk (hb hby d_node_187) (Nat.le_refl _) (Nat.le_refl _) N14 e14 ⟨rfl, D14, K14⟩
        · replace hF := own_ifF hc4 hF
          refine own_icmpF X3 hx (hb hby d_node_124) (flt hc4).1 127 rfl ?_
          cases hF
      · replace hF := own_ifF hc1 hF
        refine own_ifcF X hx (hb hby d_node_54) (feq hc1).1 57 rfl ?_
        refine own_aloadN X hx (hb hby d_node_57) rfl rfl 58 rfl ?_
        refine own_getF X hx hZ hown (own_w36 hw) eT (own_D_f_level D) (hb hby d_node_58) 61 rfl (fun T15 X15 e15 => ?_)
        refine own_iload X15 hx (hb hby d_node_61) rfl 63 rfl ?_
        obtain ⟨x16, g16, hF⟩ := own_b1_some hF
        refine own_iaload X15 hx hZ e15 (own_D_a_al D) (own_get_in g16) (own_get_val g16) (hb hby d_node_63) 64 rfl ?_
        refine own_iloadN X15 hx (hb hby d_node_64) rfl 65 rfl ?_
        by_cases hc17 : x16 = p1
        · replace hF := own_ifT hc17 hF
          refine own_icmpF X15 hx (hb hby d_node_65) (teq hc17).2 68 rfl ?_
          refine own_aloadN X15 hx (hb hby d_node_68) rfl rfl 69 rfl ?_
          refine own_getF X15 hx hZ hown (own_w38 hw) e15 (own_D_f_low D) (hb hby d_node_69) 72 rfl (fun T18 X18 e18 => ?_)
          refine own_iload X18 hx (hb hby d_node_72) rfl 74 rfl ?_
          obtain ⟨x19, g19, hF⟩ := own_b1_some hF
          refine own_iaload X18 hx hZ e18 (own_D_a_ao D) (own_get_in g19) (own_get_val g19) (hb hby d_node_74) 75 rfl ?_
          refine own_iloadN X18 hx (hb hby d_node_75) rfl 76 rfl ?_
          by_cases hc20 : x19 = p2
          · replace hF := own_ifT hc20 hF
            refine own_icmpF X18 hx (hb hby d_node_76) (teq hc20).2 79 rfl ?_
            refine own_aloadN X18 hx (hb hby d_node_79) rfl rfl 80 rfl ?_
            refine own_getF X18 hx hZ hown (own_w40 hw) e18 (own_D_f_high D) (hb hby d_node_80) 83 rfl (fun T21 X21 e21 => ?_)
            refine own_iload X21 hx (hb hby d_node_83) rfl 85 rfl ?_
            obtain ⟨x22, g22, hF⟩ := own_b1_some hF
            refine own_iaload X21 hx hZ e21 (own_D_a_ah D) (own_get_in g22) (own_get_val g22) (hb hby d_node_85) 86 rfl ?_
            refine own_iloadN X21 hx (hb hby d_node_86) rfl 87 rfl ?_
            by_cases hc23 : x22 = p3
            · replace hF := own_ifT hc23 hF
              refine own_icmpT X21 hx (hb hby d_node_87) (teq hc23).1 111 (by decide) (by decide) ?_
              refine own_iload X21 hx (hb hby d_node_111) rfl 113 rfl ?_
              refine own_ifcT X21 hx (hb hby d_node_113) (feq hc1).2 185 (by decide) (by decide) ?_
              refine own_iload X21 hx (hb hby d_node_185) rfl 187 rfl ?_
              cases hF
              exact own_retI X21 hx hret hlk (hb hby d_node_187) (Nat.le_refl _) (Nat.le_refl _) N e21 ⟨rfl, D, K0⟩
            · replace hF := own_ifF hc23 hF
              refine own_icmpF X21 hx (hb hby d_node_87) (feq hc23).1 90 rfl ?_
              refine own_iload X21 hx (hb hby d_node_90) rfl 92 rfl ?_
              refine own_iconst X21 hx (z := (1 : Int32)) (hb hby d_node_92) rfl 93 rfl ?_
              refine own_iadd X21 hx (hb hby d_node_93) 94 rfl ?_
              refine own_iload X21 hx (hb hby d_node_94) rfl 96 rfl ?_
              refine own_iand X21 hx (hb hby d_node_96) 97 rfl ?_
              refine own_istore X21 hx (#[.val (.ref d), .val (.int p1), .val (.int p2), .val (.int p3), .val (.int i4), .val (.int ((i5 + (1 : Int32)) &&& i4)), .val (.int i6)]) (hb hby d_node_97) rfl 99 rfl ?_
              refine own_aloadN X21 hx (hb hby d_node_99) rfl rfl 100 rfl ?_
              refine own_getF X21 hx hZ hown (own_w44 hw) e21 (own_D_f_unique D) (hb hby d_node_100) 103 rfl (fun T24 X24 e24 => ?_)
              refine own_iload X24 hx (hb hby d_node_103) rfl 105 rfl ?_
              obtain ⟨x25, g25, hF⟩ := own_b1_some hF
              refine own_iaload X24 hx hZ e24 (own_D_a_au D) (own_get_in g25) (own_get_val g25) (hb hby d_node_105) 106 rfl ?_
              refine own_istore X24 hx (#[.val (.ref d), .val (.int p1), .val (.int p2), .val (.int p3), .val (.int i4), .val (.int ((i5 + (1 : Int32)) &&& i4)), .val (.int x25)]) (hb hby d_node_106) rfl 108 rfl ?_
              refine own_goto X24 hx (hb hby d_node_108) 52 (by decide) (by decide) ?_
              exact ih T24 _ i4 ((i5 + (1 : Int32)) &&& i4) x25   hF X24 N e24
          · replace hF := own_ifF hc20 hF
            refine own_icmpT X18 hx (hb hby d_node_76) (feq hc20).2 90 (by decide) (by decide) ?_
            refine own_iload X18 hx (hb hby d_node_90) rfl 92 rfl ?_
            refine own_iconst X18 hx (z := (1 : Int32)) (hb hby d_node_92) rfl 93 rfl ?_
            refine own_iadd X18 hx (hb hby d_node_93) 94 rfl ?_
            refine own_iload X18 hx (hb hby d_node_94) rfl 96 rfl ?_
            refine own_iand X18 hx (hb hby d_node_96) 97 rfl ?_
            refine own_istore X18 hx (#[.val (.ref d), .val (.int p1), .val (.int p2), .val (.int p3), .val (.int i4), .val (.int ((i5 + (1 : Int32)) &&& i4)), .val (.int i6)]) (hb hby d_node_97) rfl 99 rfl ?_
            refine own_aloadN X18 hx (hb hby d_node_99) rfl rfl 100 rfl ?_
            refine own_getF X18 hx hZ hown (own_w44 hw) e18 (own_D_f_unique D) (hb hby d_node_100) 103 rfl (fun T26 X26 e26 => ?_)
            refine own_iload X26 hx (hb hby d_node_103) rfl 105 rfl ?_
            obtain ⟨x27, g27, hF⟩ := own_b1_some hF
            refine own_iaload X26 hx hZ e26 (own_D_a_au D) (own_get_in g27) (own_get_val g27) (hb hby d_node_105) 106 rfl ?_
            refine own_istore X26 hx (#[.val (.ref d), .val (.int p1), .val (.int p2), .val (.int p3), .val (.int i4), .val (.int ((i5 + (1 : Int32)) &&& i4)), .val (.int x27)]) (hb hby d_node_106) rfl 108 rfl ?_
            refine own_goto X26 hx (hb hby d_node_108) 52 (by decide) (by decide) ?_
            exact ih T26 _ i4 ((i5 + (1 : Int32)) &&& i4) x27   hF X26 N e26
        · replace hF := own_ifF hc17 hF
          refine own_icmpT X15 hx (hb hby d_node_65) (feq hc17).2 90 (by decide) (by decide) ?_
          refine own_iload X15 hx (hb hby d_node_90) rfl 92 rfl ?_
          refine own_iconst X15 hx (z := (1 : Int32)) (hb hby d_node_92) rfl 93 rfl ?_
          refine own_iadd X15 hx (hb hby d_node_93) 94 rfl ?_
          refine own_iload X15 hx (hb hby d_node_94) rfl 96 rfl ?_
          refine own_iand X15 hx (hb hby d_node_96) 97 rfl ?_
          refine own_istore X15 hx (#[.val (.ref d), .val (.int p1), .val (.int p2), .val (.int p3), .val (.int i4), .val (.int ((i5 + (1 : Int32)) &&& i4)), .val (.int i6)]) (hb hby d_node_97) rfl 99 rfl ?_
          refine own_aloadN X15 hx (hb hby d_node_99) rfl rfl 100 rfl ?_
          refine own_getF X15 hx hZ hown (own_w44 hw) e15 (own_D_f_unique D) (hb hby d_node_100) 103 rfl (fun T28 X28 e28 => ?_)
          refine own_iload X28 hx (hb hby d_node_103) rfl 105 rfl ?_
          obtain ⟨x29, g29, hF⟩ := own_b1_some hF
          refine own_iaload X28 hx hZ e28 (own_D_a_au D) (own_get_in g29) (own_get_val g29) (hb hby d_node_105) 106 rfl ?_
          refine own_istore X28 hx (#[.val (.ref d), .val (.int p1), .val (.int p2), .val (.int p3), .val (.int i4), .val (.int ((i5 + (1 : Int32)) &&& i4)), .val (.int x29)]) (hb hby d_node_106) rfl 108 rfl ?_
          refine own_goto X28 hx (hb hby d_node_108) 52 (by decide) (by decide) ?_
          exact ih T28 _ i4 ((i5 + (1 : Int32)) &&& i4) x29   hF X28 N e28
  refine own_iloadN X0 hx (hb hby d_node_0) rfl 1 rfl ?_
  refine own_iloadN X0 hx (hb hby d_node_1) rfl 2 rfl ?_
  by_cases hc30 : p2 = p3
  · replace hF := own_ifT hc30 hF
    refine own_icmpF X0 hx (hb hby d_node_2) (teq hc30).2 5 rfl ?_
    refine own_iloadN X0 hx (hb hby d_node_5) rfl 6 rfl ?_
    cases hF
    exact own_retI X0 hx hret hlk (hb hby d_node_6) (Nat.le_refl _) (Nat.le_refl _) N0 e0 ⟨rfl, D, K0⟩
  · replace hF := own_ifF hc30 hF
    refine own_icmpT X0 hx (hb hby d_node_2) (feq hc30).2 7 (by decide) (by decide) ?_
    refine own_aloadN X0 hx (hb hby d_node_7) rfl rfl 8 rfl ?_
    refine own_getF X0 hx hZ hown (own_w42 hw) e0 (own_D_f_size D) (hb hby d_node_8) 11 rfl (fun T31 X31 e31 => ?_)
    refine own_aloadN X31 hx (hb hby d_node_11) rfl rfl 12 rfl ?_
    refine own_getF X31 hx hZ hown (own_w36 hw) e31 (own_D_f_level D) (hb hby d_node_12) 15 rfl (fun T32 X32 e32 => ?_)
    refine own_arrlen X32 hx hZ e32 (own_D_a_al D) (z := (4096 : Int32)) rfl (hb hby d_node_15) 16 rfl ?_
    by_cases hc33 : sz = (4096 : Int32)
    · replace hF := own_ifT hc33 hF
      refine own_icmpF X32 hx (hb hby d_node_16) (teq hc33).2 19 rfl ?_
      cases hF
    · replace hF := own_ifF hc33 hF
      refine own_icmpT X32 hx (hb hby d_node_16) (feq hc33).2 23 (by decide) (by decide) ?_
      refine own_aloadN X32 hx (hb hby d_node_23) rfl rfl 24 rfl ?_
      refine own_getF X32 hx hZ hown (own_w44 hw) e32 (own_D_f_unique D) (hb hby d_node_24) 27 rfl (fun T34 X34 e34 => ?_)
      refine own_arrlen X34 hx hZ e34 (own_D_a_au D) (z := (8192 : Int32)) rfl (hb hby d_node_27) 28 rfl ?_
      refine own_iconst X34 hx (z := (1 : Int32)) (hb hby d_node_28) rfl 29 rfl ?_
      refine own_isub X34 hx (hb hby d_node_29) 30 rfl ?_
      refine own_istore X34 hx (#[.val (.ref d), .val (.int p1), .val (.int p2), .val (.int p3), .val (.int ((8192 : Int32) - (1 : Int32))), .unset, .unset]) (hb hby d_node_30) rfl 32 rfl ?_
      refine own_iloadN X34 hx (hb hby d_node_32) rfl 33 rfl ?_
      refine own_iloadN X34 hx (hb hby d_node_33) rfl 34 rfl ?_
      refine own_iloadN X34 hx (hb hby d_node_34) rfl 35 rfl ?_
      refine own_callS X34 hx hZ hown (own_w61 hw) (own_w62 hw) (own_w3 hw) (own_w63 hw) (by decide) 0 (own_m_hash l Z a0 hw _ n0 p1 p2 p3 rfl) e34 (by rw [hml]; rfl) [(.int p1), (.int p2), (.int p3)] [] rfl (lenOf own_pd_2 rfl) rfl (Nat.le_of_eq rfl) (by decide) (by decide) (by decide) (by decide) (hb hby d_node_35) N0 38 rfl (fun v35 T35 l35 X35 N35 hP35 => ?_)
      obtain ⟨rfl, e35⟩ := hP35
      show own_G p e below _ (T35.setTop (mkF m 38 #[.val (.ref d), .val (.int p1), .val (.int p2), .val (.int p3), .val (.int ((8192 : Int32) - (1 : Int32))), .unset, .unset] [(.int (own_f_hash p1 p2 p3))]))
      refine own_iload X35 hx (hb hby d_node_38) rfl 40 rfl ?_
      refine own_iand X35 hx (hb hby d_node_40) 41 rfl ?_
      refine own_istore X35 hx (#[.val (.ref d), .val (.int p1), .val (.int p2), .val (.int p3), .val (.int ((8192 : Int32) - (1 : Int32))), .val (.int ((own_f_hash p1 p2 p3) &&& ((8192 : Int32) - (1 : Int32)))), .unset]) (hb hby d_node_41) rfl 43 rfl ?_
      refine own_aloadN X35 hx (hb hby d_node_43) rfl rfl 44 rfl ?_
      refine own_getF X35 hx hZ hown (own_w44 hw) e35 (own_D_f_unique D) (hb hby d_node_44) 47 rfl (fun T36 X36 e36 => ?_)
      refine own_iload X36 hx (hb hby d_node_47) rfl 49 rfl ?_
      obtain ⟨x37, g37, hF⟩ := own_b1_some hF
      refine own_iaload X36 hx hZ e36 (own_D_a_au D) (own_get_in g37) (own_get_val g37) (hb hby d_node_49) 50 rfl ?_
      refine own_istore X36 hx (#[.val (.ref d), .val (.int p1), .val (.int p2), .val (.int p3), .val (.int ((8192 : Int32) - (1 : Int32))), .val (.int ((own_f_hash p1 p2 p3) &&& ((8192 : Int32) - (1 : Int32)))), .val (.int x37)]) (hb hby d_node_50) rfl 52 rfl ?_
      exact loop 64 T36 _ ((8192 : Int32) - (1 : Int32)) ((own_f_hash p1 p2 p3) &&& ((8192 : Int32) - (1 : Int32))) x37   hF X36 N35 e36
/-- variable's model -/
def own_f_variable (lim : Int32) (sz : Int32) (lv : own_L) (lo : own_L) (hi : own_L) (un : own_L) (p1 : Int32) : Option (Int32 × Int32 × own_L × own_L × own_L × own_L) :=
  own_b6 (own_f_node lim sz lv lo hi un p1 (0 : Int32) (1 : Int32)) fun x1 sz1 lv1 lo1 hi1 un1 =>
  some (x1, sz1, lv1, lo1, hi1, un1)
theorem d_variable_0 : decode prog_81_method_8_code 0 = .ok (.aload_n 0, 1) := by decide +kernel
theorem d_variable_1 : decode prog_81_method_8_code 1 = .ok (.iload_n 1, 1) := by decide +kernel
theorem d_variable_2 : decode prog_81_method_8_code 2 = .ok (.iconst 0, 1) := by decide +kernel
theorem d_variable_3 : decode prog_81_method_8_code 3 = .ok (.iconst 1, 1) := by decide +kernel
theorem d_variable_4 : decode prog_81_method_8_code 4 = .ok (.invokevirtual 79, 3) := by decide +kernel
theorem d_variable_7 : decode prog_81_method_8_code 7 = .ok (.ireturn, 1) := by decide +kernel
theorem own_ef_variable (m : MethodId) (d : Addr) (p1 : Int32) : entryFrame m #[(.ref d), (.int p1)] 2 = mkF m 0 #[.val (.ref d), .val (.int p1)] [] := by first | (simp [entryFrame, mkF, argsToLocals, Value.category]; done) | rfl
set_option maxRecDepth 65536 in
set_option maxHeartbeats 40000000 in
theorem own_m_variable (l : Launch) (Z : State) (a0 : Array Value) (hw : ∀ d ∈ tables_1, d.before a0 Z = true) (h0 : Heap) (n0 : Nat) {d al ao ah au ac aw ar : Addr} {lim sz : Int32} {lv lo hi un ca wo re : own_L} (D : own_Dg Z n0 h0 d al ao ah au ac aw ar lim sz lv lo hi un ca wo re) (p1 : Int32) {r : Int32} {sz' : Int32} {lv' lo' hi' un' : own_L} (hF : own_f_variable lim sz lv lo hi un p1 = some (r, sz', lv', lo', hi', un')) : own_Met l Z ⟨"com/example/orbweaver/orbweaver/synthesis/Diagrams", "variable", "(I)I"⟩ prog_81_method_8_code 2 (some .int) [] ({ frames := 2, cells := 0, slots := 0, locals := 33 } : Room) #[.ref d, .int p1] h0 n0 (fun v h => v = some (.int r) ∧ own_Dg Z n0 h d al ao ah au ac aw ar lim sz' lv' lo' hi' un' ca wo re ∧ Keep h0 h [d, al, ao, ah, au, ac, aw, ar]) := by
  unfold own_f_variable at hF
  refine own_body (plainFor_of_name own_pn_Diagrams) ?_
  intro p e s m below meth c T0 X0 hx hby hml hown hnm hZ e0 hret hlk
  have N0 := Fr.nil n0
  have K0 : Keep h0 h0 [d, al, ao, ah, au, ac, aw, ar] := Keep.refl _ _
  refine own_cast (own_ef_variable m d p1) ?_
  refine own_aloadN X0 hx (hb hby d_variable_0) rfl rfl 1 rfl ?_
  refine own_iloadN X0 hx (hb hby d_variable_1) rfl 2 rfl ?_
  refine own_iconst X0 hx (z := (0 : Int32)) (hb hby d_variable_2) rfl 3 rfl ?_
  refine own_iconst X0 hx (z := (1 : Int32)) (hb hby d_variable_3) rfl 4 rfl ?_
  obtain ⟨x1, sz1, lv1, lo1, hi1, un1, g1, hF⟩ := own_b6_some hF
  refine own_callP X0 hx hZ hown (own_w57 hw) (own_w58 hw) (own_w59 hw) (own_w2 hw) (own_w3 hw) (own_w60 hw) (by decide) 0 (own_m_node l Z a0 hw _ n0 D p1 (0 : Int32) (1 : Int32) g1) e0 (own_D_exa D) (by rw [hml]; rfl) [(.int p1), (.int (0 : Int32)), (.int (1 : Int32))] [] rfl (lenOf own_pd_2 rfl) rfl (Nat.le_of_eq rfl) (by decide) (by decide) (by decide) (by decide) (hb hby d_variable_4) N0 7 rfl (fun v1 T1 l1 X1 N1 hP1 => ?_)
  obtain ⟨rfl, D1, K1'⟩ := hP1
  have K1 : Keep h0 T1.heap [d, al, ao, ah, au, ac, aw, ar] := K0.trans K1' (fun _ z => Or.inl z)
  show own_G p e below _ (T1.setTop (mkF m 7 #[.val (.ref d), .val (.int p1)] [(.int x1)]))
  cases hF
  exact own_retI X1 hx hret hlk (hb hby d_variable_7) (Nat.le_refl _) (Nat.le_refl _) N1 rfl ⟨rfl, D1, K1⟩
/-- descend's model -/
def own_f_descend  (lv : own_L) (lo : own_L) (hi : own_L) (wo : own_L) (p1 p2 p3 p4 : Int32) : Option (Int32 × own_L) :=
  if p1 = (3 : Int32) then
    own_b1 (own_get 4096 0 lv p2) fun x3 =>
    own_b1 (own_f_cofactor lv lo hi p2 x3 (0 : Int32)) fun x4 =>
    own_b1 (own_f_cofactor lv lo hi p2 x3 (1 : Int32)) fun x5 =>
    own_b1 (own_f_decided lv lo hi p1 x4 p3) fun x6 =>
    own_b1 (own_f_decided lv lo hi p1 x5 p3) fun x7 =>
    own_b2 (own_f_push wo p4 p2 p3 x3 x6 x7) fun x8 wo8 =>
    if x7 = (-1 : Int32) then
      own_b2 (own_f_push wo8 x8 x5 p3 (-1 : Int32) (-1 : Int32) (-1 : Int32)) fun x10 wo10 =>
      if x6 = (-1 : Int32) then
        own_b2 (own_f_push wo10 x10 x4 p3 (-1 : Int32) (-1 : Int32) (-1 : Int32)) fun x12 wo12 =>
        some (x12, wo12)
      else
        some (x10, wo10)
    else
      if x6 = (-1 : Int32) then
        own_b2 (own_f_push wo8 x8 x4 p3 (-1 : Int32) (-1 : Int32) (-1 : Int32)) fun x14 wo14 =>
        some (x14, wo14)
      else
        some (x8, wo8)
  else
    own_b1 (own_get 4096 0 lv p2) fun x16 =>
    own_b1 (own_get 4096 0 lv p3) fun x18 =>
    own_b1 (own_f_cofactor lv lo hi p2 (own_f_min x16 x18) (0 : Int32)) fun x20 =>
    own_b1 (own_f_cofactor lv lo hi p2 (own_f_min x16 x18) (1 : Int32)) fun x21 =>
    own_b1 (own_f_cofactor lv lo hi p3 (own_f_min x16 x18) (0 : Int32)) fun x22 =>
    own_b1 (own_f_cofactor lv lo hi p3 (own_f_min x16 x18) (1 : Int32)) fun x23 =>
    own_b1 (own_f_decided lv lo hi p1 x20 x22) fun x24 =>
    own_b1 (own_f_decided lv lo hi p1 x21 x23) fun x25 =>
    own_b2 (own_f_push wo p4 p2 p3 (own_f_min x16 x18) x24 x25) fun x26 wo26 =>
    if x25 = (-1 : Int32) then
      own_b2 (own_f_push wo26 x26 x21 x23 (-1 : Int32) (-1 : Int32) (-1 : Int32)) fun x28 wo28 =>
      if x24 = (-1 : Int32) then
        own_b2 (own_f_push wo28 x28 x20 x22 (-1 : Int32) (-1 : Int32) (-1 : Int32)) fun x30 wo30 =>
        some (x30, wo30)
      else
        some (x28, wo28)
    else
      if x24 = (-1 : Int32) then
        own_b2 (own_f_push wo26 x26 x20 x22 (-1 : Int32) (-1 : Int32) (-1 : Int32)) fun x32 wo32 =>
        some (x32, wo32)
      else
        some (x26, wo26)
theorem d_descend_0 : decode prog_81_method_16_code 0 = .ok (.iload_n 1, 1) := by decide +kernel
theorem d_descend_1 : decode prog_81_method_16_code 1 = .ok (.iconst 3, 1) := by decide +kernel
theorem d_descend_2 : decode prog_81_method_16_code 2 = .ok (.if_icmp .ne 12, 3) := by decide +kernel
theorem d_descend_5 : decode prog_81_method_16_code 5 = .ok (.aload_n 0, 1) := by decide +kernel
theorem d_descend_6 : decode prog_81_method_16_code 6 = .ok (.getfield 44, 3) := by decide +kernel
theorem d_descend_9 : decode prog_81_method_16_code 9 = .ok (.iload_n 2, 1) := by decide +kernel
theorem d_descend_10 : decode prog_81_method_16_code 10 = .ok (.iaload, 1) := by decide +kernel
theorem d_descend_11 : decode prog_81_method_16_code 11 = .ok (.goto 18, 3) := by decide +kernel
theorem d_descend_14 : decode prog_81_method_16_code 14 = .ok (.aload_n 0, 1) := by decide +kernel
theorem d_descend_15 : decode prog_81_method_16_code 15 = .ok (.getfield 44, 3) := by decide +kernel
theorem d_descend_18 : decode prog_81_method_16_code 18 = .ok (.iload_n 2, 1) := by decide +kernel
theorem d_descend_19 : decode prog_81_method_16_code 19 = .ok (.iaload, 1) := by decide +kernel
theorem d_descend_20 : decode prog_81_method_16_code 20 = .ok (.aload_n 0, 1) := by decide +kernel
theorem d_descend_21 : decode prog_81_method_16_code 21 = .ok (.getfield 44, 3) := by decide +kernel
theorem d_descend_24 : decode prog_81_method_16_code 24 = .ok (.iload_n 3, 1) := by decide +kernel
theorem d_descend_25 : decode prog_81_method_16_code 25 = .ok (.iaload, 1) := by decide +kernel
theorem d_descend_26 : decode prog_81_method_16_code 26 = .ok (.invokestatic 118, 3) := by decide +kernel
theorem d_descend_29 : decode prog_81_method_16_code 29 = .ok (.istore 5, 2) := by decide +kernel
theorem d_descend_31 : decode prog_81_method_16_code 31 = .ok (.aload_n 0, 1) := by decide +kernel
theorem d_descend_32 : decode prog_81_method_16_code 32 = .ok (.iload_n 2, 1) := by decide +kernel
theorem d_descend_33 : decode prog_81_method_16_code 33 = .ok (.iload 5, 2) := by decide +kernel
theorem d_descend_35 : decode prog_81_method_16_code 35 = .ok (.iconst 0, 1) := by decide +kernel
theorem d_descend_36 : decode prog_81_method_16_code 36 = .ok (.invokevirtual 123, 3) := by decide +kernel
theorem d_descend_39 : decode prog_81_method_16_code 39 = .ok (.istore 6, 2) := by decide +kernel
theorem d_descend_41 : decode prog_81_method_16_code 41 = .ok (.aload_n 0, 1) := by decide +kernel
theorem d_descend_42 : decode prog_81_method_16_code 42 = .ok (.iload_n 2, 1) := by decide +kernel
theorem d_descend_43 : decode prog_81_method_16_code 43 = .ok (.iload 5, 2) := by decide +kernel
theorem d_descend_45 : decode prog_81_method_16_code 45 = .ok (.iconst 1, 1) := by decide +kernel
theorem d_descend_46 : decode prog_81_method_16_code 46 = .ok (.invokevirtual 123, 3) := by decide +kernel
theorem d_descend_49 : decode prog_81_method_16_code 49 = .ok (.istore 7, 2) := by decide +kernel
theorem d_descend_51 : decode prog_81_method_16_code 51 = .ok (.iload_n 1, 1) := by decide +kernel
theorem d_descend_52 : decode prog_81_method_16_code 52 = .ok (.iconst 3, 1) := by decide +kernel
theorem d_descend_53 : decode prog_81_method_16_code 53 = .ok (.if_icmp .ne 7, 3) := by decide +kernel
theorem d_descend_56 : decode prog_81_method_16_code 56 = .ok (.iload_n 3, 1) := by decide +kernel
theorem d_descend_57 : decode prog_81_method_16_code 57 = .ok (.goto 11, 3) := by decide +kernel
theorem d_descend_60 : decode prog_81_method_16_code 60 = .ok (.aload_n 0, 1) := by decide +kernel
theorem d_descend_61 : decode prog_81_method_16_code 61 = .ok (.iload_n 3, 1) := by decide +kernel
theorem d_descend_62 : decode prog_81_method_16_code 62 = .ok (.iload 5, 2) := by decide +kernel
theorem d_descend_64 : decode prog_81_method_16_code 64 = .ok (.iconst 0, 1) := by decide +kernel
theorem d_descend_65 : decode prog_81_method_16_code 65 = .ok (.invokevirtual 123, 3) := by decide +kernel
theorem d_descend_68 : decode prog_81_method_16_code 68 = .ok (.istore 8, 2) := by decide +kernel
theorem d_descend_70 : decode prog_81_method_16_code 70 = .ok (.iload_n 1, 1) := by decide +kernel
theorem d_descend_71 : decode prog_81_method_16_code 71 = .ok (.iconst 3, 1) := by decide +kernel
theorem d_descend_72 : decode prog_81_method_16_code 72 = .ok (.if_icmp .ne 7, 3) := by decide +kernel
theorem d_descend_75 : decode prog_81_method_16_code 75 = .ok (.iload_n 3, 1) := by decide +kernel
theorem d_descend_76 : decode prog_81_method_16_code 76 = .ok (.goto 11, 3) := by decide +kernel
theorem d_descend_79 : decode prog_81_method_16_code 79 = .ok (.aload_n 0, 1) := by decide +kernel
theorem d_descend_80 : decode prog_81_method_16_code 80 = .ok (.iload_n 3, 1) := by decide +kernel
theorem d_descend_81 : decode prog_81_method_16_code 81 = .ok (.iload 5, 2) := by decide +kernel
theorem d_descend_83 : decode prog_81_method_16_code 83 = .ok (.iconst 1, 1) := by decide +kernel
theorem d_descend_84 : decode prog_81_method_16_code 84 = .ok (.invokevirtual 123, 3) := by decide +kernel
theorem d_descend_87 : decode prog_81_method_16_code 87 = .ok (.istore 9, 2) := by decide +kernel
theorem d_descend_89 : decode prog_81_method_16_code 89 = .ok (.aload_n 0, 1) := by decide +kernel
theorem d_descend_90 : decode prog_81_method_16_code 90 = .ok (.iload_n 1, 1) := by decide +kernel
theorem d_descend_91 : decode prog_81_method_16_code 91 = .ok (.iload 6, 2) := by decide +kernel
theorem d_descend_93 : decode prog_81_method_16_code 93 = .ok (.iload 8, 2) := by decide +kernel
theorem d_descend_95 : decode prog_81_method_16_code 95 = .ok (.invokevirtual 101, 3) := by decide +kernel
theorem d_descend_98 : decode prog_81_method_16_code 98 = .ok (.istore 10, 2) := by decide +kernel
theorem d_descend_100 : decode prog_81_method_16_code 100 = .ok (.aload_n 0, 1) := by decide +kernel
theorem d_descend_101 : decode prog_81_method_16_code 101 = .ok (.iload_n 1, 1) := by decide +kernel
theorem d_descend_102 : decode prog_81_method_16_code 102 = .ok (.iload 7, 2) := by decide +kernel
theorem d_descend_104 : decode prog_81_method_16_code 104 = .ok (.iload 9, 2) := by decide +kernel
theorem d_descend_106 : decode prog_81_method_16_code 106 = .ok (.invokevirtual 101, 3) := by decide +kernel
theorem d_descend_109 : decode prog_81_method_16_code 109 = .ok (.istore 11, 2) := by decide +kernel
theorem d_descend_111 : decode prog_81_method_16_code 111 = .ok (.aload_n 0, 1) := by decide +kernel
theorem d_descend_112 : decode prog_81_method_16_code 112 = .ok (.iload 4, 2) := by decide +kernel
theorem d_descend_114 : decode prog_81_method_16_code 114 = .ok (.iload_n 2, 1) := by decide +kernel
theorem d_descend_115 : decode prog_81_method_16_code 115 = .ok (.iload_n 3, 1) := by decide +kernel
theorem d_descend_116 : decode prog_81_method_16_code 116 = .ok (.iload 5, 2) := by decide +kernel
theorem d_descend_118 : decode prog_81_method_16_code 118 = .ok (.iload 10, 2) := by decide +kernel
theorem d_descend_120 : decode prog_81_method_16_code 120 = .ok (.iload 11, 2) := by decide +kernel
theorem d_descend_122 : decode prog_81_method_16_code 122 = .ok (.invokevirtual 97, 3) := by decide +kernel
theorem d_descend_125 : decode prog_81_method_16_code 125 = .ok (.istore 12, 2) := by decide +kernel
theorem d_descend_127 : decode prog_81_method_16_code 127 = .ok (.iload 11, 2) := by decide +kernel
theorem d_descend_129 : decode prog_81_method_16_code 129 = .ok (.iconst (-1), 1) := by decide +kernel
theorem d_descend_130 : decode prog_81_method_16_code 130 = .ok (.if_icmp .ne 18, 3) := by decide +kernel
theorem d_descend_133 : decode prog_81_method_16_code 133 = .ok (.aload_n 0, 1) := by decide +kernel
theorem d_descend_134 : decode prog_81_method_16_code 134 = .ok (.iload 12, 2) := by decide +kernel
theorem d_descend_136 : decode prog_81_method_16_code 136 = .ok (.iload 7, 2) := by decide +kernel
theorem d_descend_138 : decode prog_81_method_16_code 138 = .ok (.iload 9, 2) := by decide +kernel
theorem d_descend_140 : decode prog_81_method_16_code 140 = .ok (.iconst (-1), 1) := by decide +kernel
theorem d_descend_141 : decode prog_81_method_16_code 141 = .ok (.iconst (-1), 1) := by decide +kernel
theorem d_descend_142 : decode prog_81_method_16_code 142 = .ok (.iconst (-1), 1) := by decide +kernel
theorem d_descend_143 : decode prog_81_method_16_code 143 = .ok (.invokevirtual 97, 3) := by decide +kernel
theorem d_descend_146 : decode prog_81_method_16_code 146 = .ok (.istore 12, 2) := by decide +kernel
theorem d_descend_148 : decode prog_81_method_16_code 148 = .ok (.iload 10, 2) := by decide +kernel
theorem d_descend_150 : decode prog_81_method_16_code 150 = .ok (.iconst (-1), 1) := by decide +kernel
theorem d_descend_151 : decode prog_81_method_16_code 151 = .ok (.if_icmp .ne 18, 3) := by decide +kernel
theorem d_descend_154 : decode prog_81_method_16_code 154 = .ok (.aload_n 0, 1) := by decide +kernel
theorem d_descend_155 : decode prog_81_method_16_code 155 = .ok (.iload 12, 2) := by decide +kernel
theorem d_descend_157 : decode prog_81_method_16_code 157 = .ok (.iload 6, 2) := by decide +kernel
theorem d_descend_159 : decode prog_81_method_16_code 159 = .ok (.iload 8, 2) := by decide +kernel
theorem d_descend_161 : decode prog_81_method_16_code 161 = .ok (.iconst (-1), 1) := by decide +kernel
theorem d_descend_162 : decode prog_81_method_16_code 162 = .ok (.iconst (-1), 1) := by decide +kernel
theorem d_descend_163 : decode prog_81_method_16_code 163 = .ok (.iconst (-1), 1) := by decide +kernel
theorem d_descend_164 : decode prog_81_method_16_code 164 = .ok (.invokevirtual 97, 3) := by decide +kernel
theorem d_descend_167 : decode prog_81_method_16_code 167 = .ok (.istore 12, 2) := by decide +kernel
theorem d_descend_169 : decode prog_81_method_16_code 169 = .ok (.iload 12, 2) := by decide +kernel
theorem d_descend_171 : decode prog_81_method_16_code 171 = .ok (.ireturn, 1) := by decide +kernel
theorem own_ef_descend (m : MethodId) (d : Addr) (p1 : Int32) (p2 : Int32) (p3 : Int32) (p4 : Int32) : entryFrame m #[(.ref d), (.int p1), (.int p2), (.int p3), (.int p4)] 13 = mkF m 0 #[.val (.ref d), .val (.int p1), .val (.int p2), .val (.int p3), .val (.int p4), .unset, .unset, .unset, .unset, .unset, .unset, .unset, .unset] [] := by first | (simp [entryFrame, mkF, argsToLocals, Value.category]; done) | rfl
set_option maxRecDepth 65536 in
set_option maxHeartbeats 40000000 in
theorem own_m_descend (l : Launch) (Z : State) (a0 : Array Value) (hw : ∀ d ∈ tables_1, d.before a0 Z = true) (h0 : Heap) (n0 : Nat) {d al ao ah au ac aw ar : Addr} {lim sz : Int32} {lv lo hi un ca wo re : own_L} (D : own_Dg Z n0 h0 d al ao ah au ac aw ar lim sz lv lo hi un ca wo re) (p1 p2 p3 p4 : Int32) {r : Int32} {wo' : own_L} (hF : own_f_descend lv lo hi wo p1 p2 p3 p4 = some (r, wo')) : own_Met l Z ⟨"com/example/orbweaver/orbweaver/synthesis/Diagrams", "descend", "(IIII)I"⟩ prog_81_method_16_code 13 (some .int) [] ({ frames := 1, cells := 0, slots := 0, locals := 18 } : Room) #[.ref d, .int p1, .int p2, .int p3, .int p4] h0 n0 (fun v h => v = some (.int r) ∧ own_Dg Z n0 h d al ao ah au ac aw ar lim sz lv lo hi un ca wo' re ∧ Keep h0 h [d, al, ao, ah, au, ac, aw, ar]) := by
  unfold own_f_descend at hF
  refine own_body (plainFor_of_name own_pn_Diagrams) ?_
  intro p e s m below meth c T0 X0 hx hby hml hown hnm hZ e0 hret hlk
  have N0 := Fr.nil n0
  have K0 : Keep h0 h0 [d, al, ao, ah, au, ac, aw, ar] := Keep.refl _ _
  refine own_cast (own_ef_descend m d p1 p2 p3 p4) ?_
  refine own_iloadN X0 hx (hb hby d_descend_0) rfl 1 rfl ?_
  refine own_iconst X0 hx (z := (3 : Int32)) (hb hby d_descend_1) rfl 2 rfl ?_
  by_cases hc1 : p1 = (3 : Int32)
  · replace hF := own_ifT hc1 hF
    refine own_icmpF X0 hx (hb hby d_descend_2) (teq hc1).2 5 rfl ?_
    refine own_aloadN X0 hx (hb hby d_descend_5) rfl rfl 6 rfl ?_
    refine own_getF X0 hx hZ hown (own_w36 hw) e0 (own_D_f_level D) (hb hby d_descend_6) 9 rfl (fun T2 X2 e2 => ?_)
    refine own_iloadN X2 hx (hb hby d_descend_9) rfl 10 rfl ?_
    obtain ⟨x3, g3, hF⟩ := own_b1_some hF
    refine own_iaload X2 hx hZ e2 (own_D_a_al D) (own_get_in g3) (own_get_val g3) (hb hby d_descend_10) 11 rfl ?_
    refine own_goto X2 hx (hb hby d_descend_11) 29 (by decide) (by decide) ?_
    refine own_istore X2 hx (#[.val (.ref d), .val (.int p1), .val (.int p2), .val (.int p3), .val (.int p4), .val (.int x3), .unset, .unset, .unset, .unset, .unset, .unset, .unset]) (hb hby d_descend_29) rfl 31 rfl ?_
    refine own_aloadN X2 hx (hb hby d_descend_31) rfl rfl 32 rfl ?_
    refine own_iloadN X2 hx (hb hby d_descend_32) rfl 33 rfl ?_
    refine own_iload X2 hx (hb hby d_descend_33) rfl 35 rfl ?_
    refine own_iconst X2 hx (z := (0 : Int32)) (hb hby d_descend_35) rfl 36 rfl ?_
    obtain ⟨x4, g4, hF⟩ := own_b1_some hF
    refine own_callP X2 hx hZ hown (own_w120 hw) (own_w121 hw) (own_w122 hw) (own_w2 hw) (own_w3 hw) (own_w123 hw) (by decide) 0 (own_m_cofactor l Z a0 hw _ n0 D p2 x3 (0 : Int32) g4) e2 (own_D_exa D) (by rw [hml]; rfl) [(.int p2), (.int x3), (.int (0 : Int32))] [] rfl (lenOf own_pd_3 rfl) rfl (Nat.le_of_eq rfl) (by decide) (by decide) (by decide) (by decide) (hb hby d_descend_36) N0 39 rfl (fun v4 T4 l4 X4 N4 hP4 => ?_)
    obtain ⟨rfl, e4⟩ := hP4
    show own_G p e below _ (T4.setTop (mkF m 39 #[.val (.ref d), .val (.int p1), .val (.int p2), .val (.int p3), .val (.int p4), .val (.int x3), .unset, .unset, .unset, .unset, .unset, .unset, .unset] [(.int x4)]))
    refine own_istore X4 hx (#[.val (.ref d), .val (.int p1), .val (.int p2), .val (.int p3), .val (.int p4), .val (.int x3), .val (.int x4), .unset, .unset, .unset, .unset, .unset, .unset]) (hb hby d_descend_39) rfl 41 rfl ?_
    refine own_aloadN X4 hx (hb hby d_descend_41) rfl rfl 42 rfl ?_
    refine own_iloadN X4 hx (hb hby d_descend_42) rfl 43 rfl ?_
    refine own_iload X4 hx (hb hby d_descend_43) rfl 45 rfl ?_
    refine own_iconst X4 hx (z := (1 : Int32)) (hb hby d_descend_45) rfl 46 rfl ?_
    obtain ⟨x5, g5, hF⟩ := own_b1_some hF
    refine own_callP X4 hx hZ hown (own_w120 hw) (own_w121 hw) (own_w122 hw) (own_w2 hw) (own_w3 hw) (own_w123 hw) (by decide) 0 (own_m_cofactor l Z a0 hw _ n0 D p2 x3 (1 : Int32) g5) e4 (own_D_exa D) (by rw [hml]; rfl) [(.int p2), (.int x3), (.int (1 : Int32))] [] rfl (lenOf own_pd_3 rfl) rfl (Nat.le_of_eq rfl) (by decide) (by decide) (by decide) (by decide) (hb hby d_descend_46) N4 49 rfl (fun v5 T5 l5 X5 N5 hP5 => ?_)
    obtain ⟨rfl, e5⟩ := hP5
    show own_G p e below _ (T5.setTop (mkF m 49 #[.val (.ref d), .val (.int p1), .val (.int p2), .val (.int p3), .val (.int p4), .val (.int x3), .val (.int x4), .unset, .unset, .unset, .unset, .unset, .unset] [(.int x5)]))
    refine own_istore X5 hx (#[.val (.ref d), .val (.int p1), .val (.int p2), .val (.int p3), .val (.int p4), .val (.int x3), .val (.int x4), .val (.int x5), .unset, .unset, .unset, .unset, .unset]) (hb hby d_descend_49) rfl 51 rfl ?_
    refine own_iloadN X5 hx (hb hby d_descend_51) rfl 52 rfl ?_
    refine own_iconst X5 hx (z := (3 : Int32)) (hb hby d_descend_52) rfl 53 rfl ?_
    refine own_icmpF X5 hx (hb hby d_descend_53) (teq hc1).2 56 rfl ?_
    refine own_iloadN X5 hx (hb hby d_descend_56) rfl 57 rfl ?_
    refine own_goto X5 hx (hb hby d_descend_57) 68 (by decide) (by decide) ?_
    refine own_istore X5 hx (#[.val (.ref d), .val (.int p1), .val (.int p2), .val (.int p3), .val (.int p4), .val (.int x3), .val (.int x4), .val (.int x5), .val (.int p3), .unset, .unset, .unset, .unset]) (hb hby d_descend_68) rfl 70 rfl ?_
    refine own_iloadN X5 hx (hb hby d_descend_70) rfl 71 rfl ?_
    refine own_iconst X5 hx (z := (3 : Int32)) (hb hby d_descend_71) rfl 72 rfl ?_
    refine own_icmpF X5 hx (hb hby d_descend_72) (teq hc1).2 75 rfl ?_
    refine own_iloadN X5 hx (hb hby d_descend_75) rfl 76 rfl ?_
    refine own_goto X5 hx (hb hby d_descend_76) 87 (by decide) (by decide) ?_
    refine own_istore X5 hx (#[.val (.ref d), .val (.int p1), .val (.int p2), .val (.int p3), .val (.int p4), .val (.int x3), .val (.int x4), .val (.int x5), .val (.int p3), .val (.int p3), .unset, .unset, .unset]) (hb hby d_descend_87) rfl 89 rfl ?_
    refine own_aloadN X5 hx (hb hby d_descend_89) rfl rfl 90 rfl ?_
    refine own_iloadN X5 hx (hb hby d_descend_90) rfl 91 rfl ?_
    refine own_iload X5 hx (hb hby d_descend_91) rfl 93 rfl ?_
    refine own_iload X5 hx (hb hby d_descend_93) rfl 95 rfl ?_
    obtain ⟨x6, g6, hF⟩ := own_b1_some hF
    refine own_callP X5 hx hZ hown (own_w83 hw) (own_w84 hw) (own_w85 hw) (own_w2 hw) (own_w3 hw) (own_w86 hw) (by decide) 0 (own_m_decided l Z a0 hw _ n0 D p1 x4 p3 g6) e5 (own_D_exa D) (by rw [hml]; rfl) [(.int p1), (.int x4), (.int p3)] [] rfl (lenOf own_pd_2 rfl) rfl (Nat.le_of_eq rfl) (by decide) (by decide) (by decide) (by decide) (hb hby d_descend_95) N5 98 rfl (fun v6 T6 l6 X6 N6 hP6 => ?_)
    obtain ⟨rfl, e6⟩ := hP6
    show own_G p e below _ (T6.setTop (mkF m 98 #[.val (.ref d), .val (.int p1), .val (.int p2), .val (.int p3), .val (.int p4), .val (.int x3), .val (.int x4), .val (.int x5), .val (.int p3), .val (.int p3), .unset, .unset, .unset] [(.int x6)]))
    refine own_istore X6 hx (#[.val (.ref d), .val (.int p1), .val (.int p2), .val (.int p3), .val (.int p4), .val (.int x3), .val (.int x4), .val (.int x5), .val (.int p3), .val (.int p3), .val (.int x6), .unset, .unset]) (hb hby d_descend_98) rfl 100 rfl ?_
    refine own_aloadN X6 hx (hb hby d_descend_100) rfl rfl 101 rfl ?_
    refine own_iloadN X6 hx (hb hby d_descend_101) rfl 102 rfl ?_
    refine own_iload X6 hx (hb hby d_descend_102) rfl 104 rfl ?_
    refine own_iload X6 hx (hb hby d_descend_104) rfl 106 rfl ?_
    obtain ⟨x7, g7, hF⟩ := own_b1_some hF
    refine own_callP X6 hx hZ hown (own_w83 hw) (own_w84 hw) (own_w85 hw) (own_w2 hw) (own_w3 hw) (own_w86 hw) (by decide) 0 (own_m_decided l Z a0 hw _ n0 D p1 x5 p3 g7) e6 (own_D_exa D) (by rw [hml]; rfl) [(.int p1), (.int x5), (.int p3)] [] rfl (lenOf own_pd_2 rfl) rfl (Nat.le_of_eq rfl) (by decide) (by decide) (by decide) (by decide) (hb hby d_descend_106) N6 109 rfl (fun v7 T7 l7 X7 N7 hP7 => ?_)
    obtain ⟨rfl, e7⟩ := hP7
    show own_G p e below _ (T7.setTop (mkF m 109 #[.val (.ref d), .val (.int p1), .val (.int p2), .val (.int p3), .val (.int p4), .val (.int x3), .val (.int x4), .val (.int x5), .val (.int p3), .val (.int p3), .val (.int x6), .unset, .unset] [(.int x7)]))
    refine own_istore X7 hx (#[.val (.ref d), .val (.int p1), .val (.int p2), .val (.int p3), .val (.int p4), .val (.int x3), .val (.int x4), .val (.int x5), .val (.int p3), .val (.int p3), .val (.int x6), .val (.int x7), .unset]) (hb hby d_descend_109) rfl 111 rfl ?_
    refine own_aloadN X7 hx (hb hby d_descend_111) rfl rfl 112 rfl ?_
    refine own_iload X7 hx (hb hby d_descend_112) rfl 114 rfl ?_
    refine own_iloadN X7 hx (hb hby d_descend_114) rfl 115 rfl ?_
    refine own_iloadN X7 hx (hb hby d_descend_115) rfl 116 rfl ?_
    refine own_iload X7 hx (hb hby d_descend_116) rfl 118 rfl ?_
    refine own_iload X7 hx (hb hby d_descend_118) rfl 120 rfl ?_
    refine own_iload X7 hx (hb hby d_descend_120) rfl 122 rfl ?_
    obtain ⟨x8, wo8, g8, hF⟩ := own_b2_some hF
    refine own_callP X7 hx hZ hown (own_w79 hw) (own_w80 hw) (own_w81 hw) (own_w2 hw) (own_w3 hw) (own_w82 hw) (by decide) 0 (own_m_push l Z a0 hw _ n0 D p4 p2 p3 x3 x6 x7 g8) e7 (own_D_exa D) (by rw [hml]; rfl) [(.int p4), (.int p2), (.int p3), (.int x3), (.int x6), (.int x7)] [] rfl (lenOf own_pd_4 rfl) rfl (Nat.le_of_eq rfl) (by decide) (by decide) (by decide) (by decide) (hb hby d_descend_122) N7 125 rfl (fun v8 T8 l8 X8 N8 hP8 => ?_)
    obtain ⟨rfl, D8, K8'⟩ := hP8
    have K8 : Keep h0 T8.heap [d, al, ao, ah, au, ac, aw, ar] := K0.trans K8' (fun _ z => Or.inl z)
    show own_G p e below _ (T8.setTop (mkF m 125 #[.val (.ref d), .val (.int p1), .val (.int p2), .val (.int p3), .val (.int p4), .val (.int x3), .val (.int x4), .val (.int x5), .val (.int p3), .val (.int p3), .val (.int x6), .val (.int x7), .unset] [(.int x8)]))
    refine own_istore X8 hx (#[.val (.ref d), .val (.int p1), .val (.int p2), .val (.int p3), .val (.int p4), .val (.int x3), .val (.int x4), .val (.int x5), .val (.int p3), .val (.int p3), .val (.int x6), .val (.int x7), .val (.int x8)]) (hb hby d_descend_125) rfl 127 rfl ?_
    refine own_iload X8 hx (hb hby d_descend_127) rfl 129 rfl ?_
    refine own_iconst X8 hx (z := (-1 : Int32)) (hb hby d_descend_129) rfl 130 rfl ?_
    by_cases hc9 : x7 = (-1 : Int32)
    · replace hF := own_ifT hc9 hF
      refine own_icmpF X8 hx (hb hby d_descend_130) (teq hc9).2 133 rfl ?_
      refine own_aloadN X8 hx (hb hby d_descend_133) rfl rfl 134 rfl ?_
      refine own_iload X8 hx (hb hby d_descend_134) rfl 136 rfl ?_
      refine own_iload X8 hx (hb hby d_descend_136) rfl 138 rfl ?_
      refine own_iload X8 hx (hb hby d_descend_138) rfl 140 rfl ?_
      refine own_iconst X8 hx (z := (-1 : Int32)) (hb hby d_descend_140) rfl 141 rfl ?_
      refine own_iconst X8 hx (z := (-1 : Int32)) (hb hby d_descend_141) rfl 142 rfl ?_
      refine own_iconst X8 hx (z := (-1 : Int32)) (hb hby d_descend_142) rfl 143 rfl ?_
      obtain ⟨x10, wo10, g10, hF⟩ := own_b2_some hF
      refine own_callP X8 hx hZ hown (own_w79 hw) (own_w80 hw) (own_w81 hw) (own_w2 hw) (own_w3 hw) (own_w82 hw) (by decide) 0 (own_m_push l Z a0 hw _ n0 D8 x8 x5 p3 (-1 : Int32) (-1 : Int32) (-1 : Int32) g10) rfl (own_D_exa D8) (by rw [hml]; rfl) [(.int x8), (.int x5), (.int p3), (.int (-1 : Int32)), (.int (-1 : Int32)), (.int (-1 : Int32))] [] rfl (lenOf own_pd_4 rfl) rfl (Nat.le_of_eq rfl) (by decide) (by decide) (by decide) (by decide) (hb hby d_descend_143) N8 146 rfl (fun v10 T10 l10 X10 N10 hP10 => ?_)
      obtain ⟨rfl, D10, K10'⟩ := hP10
      have K10 : Keep h0 T10.heap [d, al, ao, ah, au, ac, aw, ar] := K8.trans K10' (fun _ z => Or.inl z)
      show own_G p e below _ (T10.setTop (mkF m 146 #[.val (.ref d), .val (.int p1), .val (.int p2), .val (.int p3), .val (.int p4), .val (.int x3), .val (.int x4), .val (.int x5), .val (.int p3), .val (.int p3), .val (.int x6), .val (.int x7), .val (.int x8)] [(.int x10)]))
      refine own_istore X10 hx (#[.val (.ref d), .val (.int p1), .val (.int p2), .val (.int p3), .val (.int p4), .val (.int x3), .val (.int x4), .val (.int x5), .val (.int p3), .val (.int p3), .val (.int x6), .val (.int x7), .val (.int x10)]) (hb hby d_descend_146) rfl 148 rfl ?_
      refine own_iload X10 hx (hb hby d_descend_148) rfl 150 rfl ?_
      refine own_iconst X10 hx (z := (-1 : Int32)) (hb hby d_descend_150) rfl 151 rfl ?_
      by_cases hc11 : x6 = (-1 : Int32)
      · replace hF := own_ifT hc11 hF
        refine own_icmpF X10 hx (hb hby d_descend_151) (teq hc11).2 154 rfl ?_
        refine own_aloadN X10 hx (hb hby d_descend_154) rfl rfl 155 rfl ?_
        refine own_iload X10 hx (hb hby d_descend_155) rfl 157 rfl ?_
        refine own_iload X10 hx (hb hby d_descend_157) rfl 159 rfl ?_
        refine own_iload X10 hx (hb hby d_descend_159) rfl 161 rfl ?_
        refine own_iconst X10 hx (z := (-1 : Int32)) (hb hby d_descend_161) rfl 162 rfl ?_
        refine own_iconst X10 hx (z := (-1 : Int32)) (hb hby d_descend_162) rfl 163 rfl ?_
        refine own_iconst X10 hx (z := (-1 : Int32)) (hb hby d_descend_163) rfl 164 rfl ?_
        obtain ⟨x12, wo12, g12, hF⟩ := own_b2_some hF
        refine own_callP X10 hx hZ hown (own_w79 hw) (own_w80 hw) (own_w81 hw) (own_w2 hw) (own_w3 hw) (own_w82 hw) (by decide) 0 (own_m_push l Z a0 hw _ n0 D10 x10 x4 p3 (-1 : Int32) (-1 : Int32) (-1 : Int32) g12) rfl (own_D_exa D10) (by rw [hml]; rfl) [(.int x10), (.int x4), (.int p3), (.int (-1 : Int32)), (.int (-1 : Int32)), (.int (-1 : Int32))] [] rfl (lenOf own_pd_4 rfl) rfl (Nat.le_of_eq rfl) (by decide) (by decide) (by decide) (by decide) (hb hby d_descend_164) N10 167 rfl (fun v12 T12 l12 X12 N12 hP12 => ?_)
        obtain ⟨rfl, D12, K12'⟩ := hP12
        have K12 : Keep h0 T12.heap [d, al, ao, ah, au, ac, aw, ar] := K10.trans K12' (fun _ z => Or.inl z)
        show own_G p e below _ (T12.setTop (mkF m 167 #[.val (.ref d), .val (.int p1), .val (.int p2), .val (.int p3), .val (.int p4), .val (.int x3), .val (.int x4), .val (.int x5), .val (.int p3), .val (.int p3), .val (.int x6), .val (.int x7), .val (.int x10)] [(.int x12)]))
        refine own_istore X12 hx (#[.val (.ref d), .val (.int p1), .val (.int p2), .val (.int p3), .val (.int p4), .val (.int x3), .val (.int x4), .val (.int x5), .val (.int p3), .val (.int p3), .val (.int x6), .val (.int x7), .val (.int x12)]) (hb hby d_descend_167) rfl 169 rfl ?_
        refine own_iload X12 hx (hb hby d_descend_169) rfl 171 rfl ?_
        cases hF
        exact own_retI X12 hx hret hlk (hb hby d_descend_171) (Nat.le_refl _) (Nat.le_refl _) N12 rfl ⟨rfl, D12, K12⟩
      · replace hF := own_ifF hc11 hF
        refine own_icmpT X10 hx (hb hby d_descend_151) (feq hc11).2 169 (by decide) (by decide) ?_
        refine own_iload X10 hx (hb hby d_descend_169) rfl 171 rfl ?_
        cases hF
        exact own_retI X10 hx hret hlk (hb hby d_descend_171) (Nat.le_refl _) (Nat.le_refl _) N10 rfl ⟨rfl, D10, K10⟩
    · replace hF := own_ifF hc9 hF
      refine own_icmpT X8 hx (hb hby d_descend_130) (feq hc9).2 148 (by decide) (by decide) ?_
      refine own_iload X8 hx (hb hby d_descend_148) rfl 150 rfl ?_
      refine own_iconst X8 hx (z := (-1 : Int32)) (hb hby d_descend_150) rfl 151 rfl ?_
      by_cases hc13 : x6 = (-1 : Int32)
      · replace hF := own_ifT hc13 hF
        refine own_icmpF X8 hx (hb hby d_descend_151) (teq hc13).2 154 rfl ?_
        refine own_aloadN X8 hx (hb hby d_descend_154) rfl rfl 155 rfl ?_
        refine own_iload X8 hx (hb hby d_descend_155) rfl 157 rfl ?_
        refine own_iload X8 hx (hb hby d_descend_157) rfl 159 rfl ?_
        refine own_iload X8 hx (hb hby d_descend_159) rfl 161 rfl ?_
        refine own_iconst X8 hx (z := (-1 : Int32)) (hb hby d_descend_161) rfl 162 rfl ?_
        refine own_iconst X8 hx (z := (-1 : Int32)) (hb hby d_descend_162) rfl 163 rfl ?_
        refine own_iconst X8 hx (z := (-1 : Int32)) (hb hby d_descend_163) rfl 164 rfl ?_
        obtain ⟨x14, wo14, g14, hF⟩ := own_b2_some hF
        refine own_callP X8 hx hZ hown (own_w79 hw) (own_w80 hw) (own_w81 hw) (own_w2 hw) (own_w3 hw) (own_w82 hw) (by decide) 0 (own_m_push l Z a0 hw _ n0 D8 x8 x4 p3 (-1 : Int32) (-1 : Int32) (-1 : Int32) g14) rfl (own_D_exa D8) (by rw [hml]; rfl) [(.int x8), (.int x4), (.int p3), (.int (-1 : Int32)), (.int (-1 : Int32)), (.int (-1 : Int32))] [] rfl (lenOf own_pd_4 rfl) rfl (Nat.le_of_eq rfl) (by decide) (by decide) (by decide) (by decide) (hb hby d_descend_164) N8 167 rfl (fun v14 T14 l14 X14 N14 hP14 => ?_)
        obtain ⟨rfl, D14, K14'⟩ := hP14
        have K14 : Keep h0 T14.heap [d, al, ao, ah, au, ac, aw, ar] := K8.trans K14' (fun _ z => Or.inl z)
        show own_G p e below _ (T14.setTop (mkF m 167 #[.val (.ref d), .val (.int p1), .val (.int p2), .val (.int p3), .val (.int p4), .val (.int x3), .val (.int x4), .val (.int x5), .val (.int p3), .val (.int p3), .val (.int x6), .val (.int x7), .val (.int x8)] [(.int x14)]))
        refine own_istore X14 hx (#[.val (.ref d), .val (.int p1), .val (.int p2), .val (.int p3), .val (.int p4), .val (.int x3), .val (.int x4), .val (.int x5), .val (.int p3), .val (.int p3), .val (.int x6), .val (.int x7), .val (.int x14)]) (hb hby d_descend_167) rfl 169 rfl ?_
        refine own_iload X14 hx (hb hby d_descend_169) rfl 171 rfl ?_
        cases hF
        exact own_retI X14 hx hret hlk (hb hby d_descend_171) (Nat.le_refl _) (Nat.le_refl _) N14 rfl ⟨rfl, D14, K14⟩
      · replace hF := own_ifF hc13 hF
        refine own_icmpT X8 hx (hb hby d_descend_151) (feq hc13).2 169 (by decide) (by decide) ?_
        refine own_iload X8 hx (hb hby d_descend_169) rfl 171 rfl ?_
        cases hF
        exact own_retI X8 hx hret hlk (hb hby d_descend_171) (Nat.le_refl _) (Nat.le_refl _) N8 rfl ⟨rfl, D8, K8⟩
  · replace hF := own_ifF hc1 hF
    refine own_icmpT X0 hx (hb hby d_descend_2) (feq hc1).2 14 (by decide) (by decide) ?_
    refine own_aloadN X0 hx (hb hby d_descend_14) rfl rfl 15 rfl ?_
    refine own_getF X0 hx hZ hown (own_w36 hw) e0 (own_D_f_level D) (hb hby d_descend_15) 18 rfl (fun T15 X15 e15 => ?_)
    refine own_iloadN X15 hx (hb hby d_descend_18) rfl 19 rfl ?_
    obtain ⟨x16, g16, hF⟩ := own_b1_some hF
    refine own_iaload X15 hx hZ e15 (own_D_a_al D) (own_get_in g16) (own_get_val g16) (hb hby d_descend_19) 20 rfl ?_
    refine own_aloadN X15 hx (hb hby d_descend_20) rfl rfl 21 rfl ?_
    refine own_getF X15 hx hZ hown (own_w36 hw) e15 (own_D_f_level D) (hb hby d_descend_21) 24 rfl (fun T17 X17 e17 => ?_)
    refine own_iloadN X17 hx (hb hby d_descend_24) rfl 25 rfl ?_
    obtain ⟨x18, g18, hF⟩ := own_b1_some hF
    refine own_iaload X17 hx hZ e17 (own_D_a_al D) (own_get_in g18) (own_get_val g18) (hb hby d_descend_25) 26 rfl ?_
    refine own_callS X17 hx hZ hown (own_w116 hw) (own_w117 hw) (own_w118 hw) (own_w119 hw) (by decide) 0 (own_m_min l Z a0 hw _ n0 x16 x18 rfl) e17 (by rw [hml]; rfl) [(.int x16), (.int x18)] [] rfl (lenOf own_pd_5 rfl) rfl (Nat.le_of_eq rfl) (by decide) (by decide) (by decide) (by decide) (hb hby d_descend_26) N0 29 rfl (fun v19 T19 l19 X19 N19 hP19 => ?_)
    obtain ⟨rfl, e19⟩ := hP19
    show own_G p e below _ (T19.setTop (mkF m 29 #[.val (.ref d), .val (.int p1), .val (.int p2), .val (.int p3), .val (.int p4), .unset, .unset, .unset, .unset, .unset, .unset, .unset, .unset] [(.int (own_f_min x16 x18))]))
    refine own_istore X19 hx (#[.val (.ref d), .val (.int p1), .val (.int p2), .val (.int p3), .val (.int p4), .val (.int (own_f_min x16 x18)), .unset, .unset, .unset, .unset, .unset, .unset, .unset]) (hb hby d_descend_29) rfl 31 rfl ?_
    refine own_aloadN X19 hx (hb hby d_descend_31) rfl rfl 32 rfl ?_
    refine own_iloadN X19 hx (hb hby d_descend_32) rfl 33 rfl ?_
    refine own_iload X19 hx (hb hby d_descend_33) rfl 35 rfl ?_
    refine own_iconst X19 hx (z := (0 : Int32)) (hb hby d_descend_35) rfl 36 rfl ?_
    obtain ⟨x20, g20, hF⟩ := own_b1_some hF
    refine own_callP X19 hx hZ hown (own_w120 hw) (own_w121 hw) (own_w122 hw) (own_w2 hw) (own_w3 hw) (own_w123 hw) (by decide) 0 (own_m_cofactor l Z a0 hw _ n0 D p2 (own_f_min x16 x18) (0 : Int32) g20) e19 (own_D_exa D) (by rw [hml]; rfl) [(.int p2), (.int (own_f_min x16 x18)), (.int (0 : Int32))] [] rfl (lenOf own_pd_3 rfl) rfl (Nat.le_of_eq rfl) (by decide) (by decide) (by decide) (by decide) (hb hby d_descend_36) N19 39 rfl (fun v20 T20 l20 X20 N20 hP20 => ?_)
    obtain ⟨rfl, e20⟩ := hP20
    show own_G p e below _ (T20.setTop (mkF m 39 #[.val (.ref d), .val (.int p1), .val (.int p2), .val (.int p3), .val (.int p4), .val (.int (own_f_min x16 x18)), .unset, .unset, .unset, .unset, .unset, .unset, .unset] [(.int x20)]))
    refine own_istore X20 hx (#[.val (.ref d), .val (.int p1), .val (.int p2), .val (.int p3), .val (.int p4), .val (.int (own_f_min x16 x18)), .val (.int x20), .unset, .unset, .unset, .unset, .unset, .unset]) (hb hby d_descend_39) rfl 41 rfl ?_
    refine own_aloadN X20 hx (hb hby d_descend_41) rfl rfl 42 rfl ?_
    refine own_iloadN X20 hx (hb hby d_descend_42) rfl 43 rfl ?_
    refine own_iload X20 hx (hb hby d_descend_43) rfl 45 rfl ?_
    refine own_iconst X20 hx (z := (1 : Int32)) (hb hby d_descend_45) rfl 46 rfl ?_
    obtain ⟨x21, g21, hF⟩ := own_b1_some hF
    refine own_callP X20 hx hZ hown (own_w120 hw) (own_w121 hw) (own_w122 hw) (own_w2 hw) (own_w3 hw) (own_w123 hw) (by decide) 0 (own_m_cofactor l Z a0 hw _ n0 D p2 (own_f_min x16 x18) (1 : Int32) g21) e20 (own_D_exa D) (by rw [hml]; rfl) [(.int p2), (.int (own_f_min x16 x18)), (.int (1 : Int32))] [] rfl (lenOf own_pd_3 rfl) rfl (Nat.le_of_eq rfl) (by decide) (by decide) (by decide) (by decide) (hb hby d_descend_46) N20 49 rfl (fun v21 T21 l21 X21 N21 hP21 => ?_)
    obtain ⟨rfl, e21⟩ := hP21
    show own_G p e below _ (T21.setTop (mkF m 49 #[.val (.ref d), .val (.int p1), .val (.int p2), .val (.int p3), .val (.int p4), .val (.int (own_f_min x16 x18)), .val (.int x20), .unset, .unset, .unset, .unset, .unset, .unset] [(.int x21)]))
    refine own_istore X21 hx (#[.val (.ref d), .val (.int p1), .val (.int p2), .val (.int p3), .val (.int p4), .val (.int (own_f_min x16 x18)), .val (.int x20), .val (.int x21), .unset, .unset, .unset, .unset, .unset]) (hb hby d_descend_49) rfl 51 rfl ?_
    refine own_iloadN X21 hx (hb hby d_descend_51) rfl 52 rfl ?_
    refine own_iconst X21 hx (z := (3 : Int32)) (hb hby d_descend_52) rfl 53 rfl ?_
    refine own_icmpT X21 hx (hb hby d_descend_53) (feq hc1).2 60 (by decide) (by decide) ?_
    refine own_aloadN X21 hx (hb hby d_descend_60) rfl rfl 61 rfl ?_
    refine own_iloadN X21 hx (hb hby d_descend_61) rfl 62 rfl ?_
    refine own_iload X21 hx (hb hby d_descend_62) rfl 64 rfl ?_
    refine own_iconst X21 hx (z := (0 : Int32)) (hb hby d_descend_64) rfl 65 rfl ?_
    obtain ⟨x22, g22, hF⟩ := own_b1_some hF
    refine own_callP X21 hx hZ hown (own_w120 hw) (own_w121 hw) (own_w122 hw) (own_w2 hw) (own_w3 hw) (own_w123 hw) (by decide) 0 (own_m_cofactor l Z a0 hw _ n0 D p3 (own_f_min x16 x18) (0 : Int32) g22) e21 (own_D_exa D) (by rw [hml]; rfl) [(.int p3), (.int (own_f_min x16 x18)), (.int (0 : Int32))] [] rfl (lenOf own_pd_3 rfl) rfl (Nat.le_of_eq rfl) (by decide) (by decide) (by decide) (by decide) (hb hby d_descend_65) N21 68 rfl (fun v22 T22 l22 X22 N22 hP22 => ?_)
    obtain ⟨rfl, e22⟩ := hP22
    show own_G p e below _ (T22.setTop (mkF m 68 #[.val (.ref d), .val (.int p1), .val (.int p2), .val (.int p3), .val (.int p4), .val (.int (own_f_min x16 x18)), .val (.int x20), .val (.int x21), .unset, .unset, .unset, .unset, .unset] [(.int x22)]))
    refine own_istore X22 hx (#[.val (.ref d), .val (.int p1), .val (.int p2), .val (.int p3), .val (.int p4), .val (.int (own_f_min x16 x18)), .val (.int x20), .val (.int x21), .val (.int x22), .unset, .unset, .unset, .unset]) (hb hby d_descend_68) rfl 70 rfl ?_
    refine own_iloadN X22 hx (hb hby d_descend_70) rfl 71 rfl ?_
    refine own_iconst X22 hx (z := (3 : Int32)) (hb hby d_descend_71) rfl 72 rfl ?_
    refine own_icmpT X22 hx (hb hby d_descend_72) (feq hc1).2 79 (by decide) (by decide) ?_
    refine own_aloadN X22 hx (hb hby d_descend_79) rfl rfl 80 rfl ?_
    refine own_iloadN X22 hx (hb hby d_descend_80) rfl 81 rfl ?_
    refine own_iload X22 hx (hb hby d_descend_81) rfl 83 rfl ?_
    refine own_iconst X22 hx (z := (1 : Int32)) (hb hby d_descend_83) rfl 84 rfl ?_
    obtain ⟨x23, g23, hF⟩ := own_b1_some hF
    refine own_callP X22 hx hZ hown (own_w120 hw) (own_w121 hw) (own_w122 hw) (own_w2 hw) (own_w3 hw) (own_w123 hw) (by decide) 0 (own_m_cofactor l Z a0 hw _ n0 D p3 (own_f_min x16 x18) (1 : Int32) g23) e22 (own_D_exa D) (by rw [hml]; rfl) [(.int p3), (.int (own_f_min x16 x18)), (.int (1 : Int32))] [] rfl (lenOf own_pd_3 rfl) rfl (Nat.le_of_eq rfl) (by decide) (by decide) (by decide) (by decide) (hb hby d_descend_84) N22 87 rfl (fun v23 T23 l23 X23 N23 hP23 => ?_)
    obtain ⟨rfl, e23⟩ := hP23
    show own_G p e below _ (T23.setTop (mkF m 87 #[.val (.ref d), .val (.int p1), .val (.int p2), .val (.int p3), .val (.int p4), .val (.int (own_f_min x16 x18)), .val (.int x20), .val (.int x21), .val (.int x22), .unset, .unset, .unset, .unset] [(.int x23)]))
    refine own_istore X23 hx (#[.val (.ref d), .val (.int p1), .val (.int p2), .val (.int p3), .val (.int p4), .val (.int (own_f_min x16 x18)), .val (.int x20), .val (.int x21), .val (.int x22), .val (.int x23), .unset, .unset, .unset]) (hb hby d_descend_87) rfl 89 rfl ?_
    refine own_aloadN X23 hx (hb hby d_descend_89) rfl rfl 90 rfl ?_
    refine own_iloadN X23 hx (hb hby d_descend_90) rfl 91 rfl ?_
    refine own_iload X23 hx (hb hby d_descend_91) rfl 93 rfl ?_
    refine own_iload X23 hx (hb hby d_descend_93) rfl 95 rfl ?_
    obtain ⟨x24, g24, hF⟩ := own_b1_some hF
    refine own_callP X23 hx hZ hown (own_w83 hw) (own_w84 hw) (own_w85 hw) (own_w2 hw) (own_w3 hw) (own_w86 hw) (by decide) 0 (own_m_decided l Z a0 hw _ n0 D p1 x20 x22 g24) e23 (own_D_exa D) (by rw [hml]; rfl) [(.int p1), (.int x20), (.int x22)] [] rfl (lenOf own_pd_2 rfl) rfl (Nat.le_of_eq rfl) (by decide) (by decide) (by decide) (by decide) (hb hby d_descend_95) N23 98 rfl (fun v24 T24 l24 X24 N24 hP24 => ?_)
    obtain ⟨rfl, e24⟩ := hP24
    show own_G p e below _ (T24.setTop (mkF m 98 #[.val (.ref d), .val (.int p1), .val (.int p2), .val (.int p3), .val (.int p4), .val (.int (own_f_min x16 x18)), .val (.int x20), .val (.int x21), .val (.int x22), .val (.int x23), .unset, .unset, .unset] [(.int x24)]))
    refine own_istore X24 hx (#[.val (.ref d), .val (.int p1), .val (.int p2), .val (.int p3), .val (.int p4), .val (.int (own_f_min x16 x18)), .val (.int x20), .val (.int x21), .val (.int x22), .val (.int x23), .val (.int x24), .unset, .unset]) (hb hby d_descend_98) rfl 100 rfl ?_
    refine own_aloadN X24 hx (hb hby d_descend_100) rfl rfl 101 rfl ?_
    refine own_iloadN X24 hx (hb hby d_descend_101) rfl 102 rfl ?_
    refine own_iload X24 hx (hb hby d_descend_102) rfl 104 rfl ?_
    refine own_iload X24 hx (hb hby d_descend_104) rfl 106 rfl ?_
    obtain ⟨x25, g25, hF⟩ := own_b1_some hF
    refine own_callP X24 hx hZ hown (own_w83 hw) (own_w84 hw) (own_w85 hw) (own_w2 hw) (own_w3 hw) (own_w86 hw) (by decide) 0 (own_m_decided l Z a0 hw _ n0 D p1 x21 x23 g25) e24 (own_D_exa D) (by rw [hml]; rfl) [(.int p1), (.int x21), (.int x23)] [] rfl (lenOf own_pd_2 rfl) rfl (Nat.le_of_eq rfl) (by decide) (by decide) (by decide) (by decide) (hb hby d_descend_106) N24 109 rfl (fun v25 T25 l25 X25 N25 hP25 => ?_)
    obtain ⟨rfl, e25⟩ := hP25
    show own_G p e below _ (T25.setTop (mkF m 109 #[.val (.ref d), .val (.int p1), .val (.int p2), .val (.int p3), .val (.int p4), .val (.int (own_f_min x16 x18)), .val (.int x20), .val (.int x21), .val (.int x22), .val (.int x23), .val (.int x24), .unset, .unset] [(.int x25)]))
    refine own_istore X25 hx (#[.val (.ref d), .val (.int p1), .val (.int p2), .val (.int p3), .val (.int p4), .val (.int (own_f_min x16 x18)), .val (.int x20), .val (.int x21), .val (.int x22), .val (.int x23), .val (.int x24), .val (.int x25), .unset]) (hb hby d_descend_109) rfl 111 rfl ?_
    refine own_aloadN X25 hx (hb hby d_descend_111) rfl rfl 112 rfl ?_
    refine own_iload X25 hx (hb hby d_descend_112) rfl 114 rfl ?_
    refine own_iloadN X25 hx (hb hby d_descend_114) rfl 115 rfl ?_
    refine own_iloadN X25 hx (hb hby d_descend_115) rfl 116 rfl ?_
    refine own_iload X25 hx (hb hby d_descend_116) rfl 118 rfl ?_
    refine own_iload X25 hx (hb hby d_descend_118) rfl 120 rfl ?_
    refine own_iload X25 hx (hb hby d_descend_120) rfl 122 rfl ?_
    obtain ⟨x26, wo26, g26, hF⟩ := own_b2_some hF
    refine own_callP X25 hx hZ hown (own_w79 hw) (own_w80 hw) (own_w81 hw) (own_w2 hw) (own_w3 hw) (own_w82 hw) (by decide) 0 (own_m_push l Z a0 hw _ n0 D p4 p2 p3 (own_f_min x16 x18) x24 x25 g26) e25 (own_D_exa D) (by rw [hml]; rfl) [(.int p4), (.int p2), (.int p3), (.int (own_f_min x16 x18)), (.int x24), (.int x25)] [] rfl (lenOf own_pd_4 rfl) rfl (Nat.le_of_eq rfl) (by decide) (by decide) (by decide) (by decide) (hb hby d_descend_122) N25 125 rfl (fun v26 T26 l26 X26 N26 hP26 => ?_)
    obtain ⟨rfl, D26, K26'⟩ := hP26
    have K26 : Keep h0 T26.heap [d, al, ao, ah, au, ac, aw, ar] := K0.trans K26' (fun _ z => Or.inl z)
    show own_G p e below _ (T26.setTop (mkF m 125 #[.val (.ref d), .val (.int p1), .val (.int p2), .val (.int p3), .val (.int p4), .val (.int (own_f_min x16 x18)), .val (.int x20), .val (.int x21), .val (.int x22), .val (.int x23), .val (.int x24), .val (.int x25), .unset] [(.int x26)]))
    refine own_istore X26 hx (#[.val (.ref d), .val (.int p1), .val (.int p2), .val (.int p3), .val (.int p4), .val (.int (own_f_min x16 x18)), .val (.int x20), .val (.int x21), .val (.int x22), .val (.int x23), .val (.int x24), .val (.int x25), .val (.int x26)]) (hb hby d_descend_125) rfl 127 rfl ?_
    refine own_iload X26 hx (hb hby d_descend_127) rfl 129 rfl ?_
    refine own_iconst X26 hx (z := (-1 : Int32)) (hb hby d_descend_129) rfl 130 rfl ?_
    by_cases hc27 : x25 = (-1 : Int32)
    · replace hF := own_ifT hc27 hF
      refine own_icmpF X26 hx (hb hby d_descend_130) (teq hc27).2 133 rfl ?_
      refine own_aloadN X26 hx (hb hby d_descend_133) rfl rfl 134 rfl ?_
      refine own_iload X26 hx (hb hby d_descend_134) rfl 136 rfl ?_
      refine own_iload X26 hx (hb hby d_descend_136) rfl 138 rfl ?_
      refine own_iload X26 hx (hb hby d_descend_138) rfl 140 rfl ?_
      refine own_iconst X26 hx (z := (-1 : Int32)) (hb hby d_descend_140) rfl 141 rfl ?_
      refine own_iconst X26 hx (z := (-1 : Int32)) (hb hby d_descend_141) rfl 142 rfl ?_
      refine own_iconst X26 hx (z := (-1 : Int32)) (hb hby d_descend_142) rfl 143 rfl ?_
      obtain ⟨x28, wo28, g28, hF⟩ := own_b2_some hF
      refine own_callP X26 hx hZ hown (own_w79 hw) (own_w80 hw) (own_w81 hw) (own_w2 hw) (own_w3 hw) (own_w82 hw) (by decide) 0 (own_m_push l Z a0 hw _ n0 D26 x26 x21 x23 (-1 : Int32) (-1 : Int32) (-1 : Int32) g28) rfl (own_D_exa D26) (by rw [hml]; rfl) [(.int x26), (.int x21), (.int x23), (.int (-1 : Int32)), (.int (-1 : Int32)), (.int (-1 : Int32))] [] rfl (lenOf own_pd_4 rfl) rfl (Nat.le_of_eq rfl) (by decide) (by decide) (by decide) (by decide) (hb hby d_descend_143) N26 146 rfl (fun v28 T28 l28 X28 N28 hP28 => ?_)
      obtain ⟨rfl, D28, K28'⟩ := hP28
      have K28 : Keep h0 T28.heap [d, al, ao, ah, au, ac, aw, ar] := K26.trans K28' (fun _ z => Or.inl z)
      show own_G p e below _ (T28.setTop (mkF m 146 #[.val (.ref d), .val (.int p1), .val (.int p2), .val (.int p3), .val (.int p4), .val (.int (own_f_min x16 x18)), .val (.int x20), .val (.int x21), .val (.int x22), .val (.int x23), .val (.int x24), .val (.int x25), .val (.int x26)] [(.int x28)]))
      refine own_istore X28 hx (#[.val (.ref d), .val (.int p1), .val (.int p2), .val (.int p3), .val (.int p4), .val (.int (own_f_min x16 x18)), .val (.int x20), .val (.int x21), .val (.int x22), .val (.int x23), .val (.int x24), .val (.int x25), .val (.int x28)]) (hb hby d_descend_146) rfl 148 rfl ?_
      refine own_iload X28 hx (hb hby d_descend_148) rfl 150 rfl ?_
      refine own_iconst X28 hx (z := (-1 : Int32)) (hb hby d_descend_150) rfl 151 rfl ?_
      by_cases hc29 : x24 = (-1 : Int32)
      · replace hF := own_ifT hc29 hF
        refine own_icmpF X28 hx (hb hby d_descend_151) (teq hc29).2 154 rfl ?_
        refine own_aloadN X28 hx (hb hby d_descend_154) rfl rfl 155 rfl ?_
        refine own_iload X28 hx (hb hby d_descend_155) rfl 157 rfl ?_
        refine own_iload X28 hx (hb hby d_descend_157) rfl 159 rfl ?_
        refine own_iload X28 hx (hb hby d_descend_159) rfl 161 rfl ?_
        refine own_iconst X28 hx (z := (-1 : Int32)) (hb hby d_descend_161) rfl 162 rfl ?_
        refine own_iconst X28 hx (z := (-1 : Int32)) (hb hby d_descend_162) rfl 163 rfl ?_
        refine own_iconst X28 hx (z := (-1 : Int32)) (hb hby d_descend_163) rfl 164 rfl ?_
        obtain ⟨x30, wo30, g30, hF⟩ := own_b2_some hF
        refine own_callP X28 hx hZ hown (own_w79 hw) (own_w80 hw) (own_w81 hw) (own_w2 hw) (own_w3 hw) (own_w82 hw) (by decide) 0 (own_m_push l Z a0 hw _ n0 D28 x28 x20 x22 (-1 : Int32) (-1 : Int32) (-1 : Int32) g30) rfl (own_D_exa D28) (by rw [hml]; rfl) [(.int x28), (.int x20), (.int x22), (.int (-1 : Int32)), (.int (-1 : Int32)), (.int (-1 : Int32))] [] rfl (lenOf own_pd_4 rfl) rfl (Nat.le_of_eq rfl) (by decide) (by decide) (by decide) (by decide) (hb hby d_descend_164) N28 167 rfl (fun v30 T30 l30 X30 N30 hP30 => ?_)
        obtain ⟨rfl, D30, K30'⟩ := hP30
        have K30 : Keep h0 T30.heap [d, al, ao, ah, au, ac, aw, ar] := K28.trans K30' (fun _ z => Or.inl z)
        show own_G p e below _ (T30.setTop (mkF m 167 #[.val (.ref d), .val (.int p1), .val (.int p2), .val (.int p3), .val (.int p4), .val (.int (own_f_min x16 x18)), .val (.int x20), .val (.int x21), .val (.int x22), .val (.int x23), .val (.int x24), .val (.int x25), .val (.int x28)] [(.int x30)]))
        refine own_istore X30 hx (#[.val (.ref d), .val (.int p1), .val (.int p2), .val (.int p3), .val (.int p4), .val (.int (own_f_min x16 x18)), .val (.int x20), .val (.int x21), .val (.int x22), .val (.int x23), .val (.int x24), .val (.int x25), .val (.int x30)]) (hb hby d_descend_167) rfl 169 rfl ?_
        refine own_iload X30 hx (hb hby d_descend_169) rfl 171 rfl ?_
        cases hF
        exact own_retI X30 hx hret hlk (hb hby d_descend_171) (Nat.le_refl _) (Nat.le_refl _) N30 rfl ⟨rfl, D30, K30⟩
      · replace hF := own_ifF hc29 hF
        refine own_icmpT X28 hx (hb hby d_descend_151) (feq hc29).2 169 (by decide) (by decide) ?_
        refine own_iload X28 hx (hb hby d_descend_169) rfl 171 rfl ?_
        cases hF
        exact own_retI X28 hx hret hlk (hb hby d_descend_171) (Nat.le_refl _) (Nat.le_refl _) N28 rfl ⟨rfl, D28, K28⟩
    · replace hF := own_ifF hc27 hF
      refine own_icmpT X26 hx (hb hby d_descend_130) (feq hc27).2 148 (by decide) (by decide) ?_
      refine own_iload X26 hx (hb hby d_descend_148) rfl 150 rfl ?_
      refine own_iconst X26 hx (z := (-1 : Int32)) (hb hby d_descend_150) rfl 151 rfl ?_
      by_cases hc31 : x24 = (-1 : Int32)
      · replace hF := own_ifT hc31 hF
        refine own_icmpF X26 hx (hb hby d_descend_151) (teq hc31).2 154 rfl ?_
        refine own_aloadN X26 hx (hb hby d_descend_154) rfl rfl 155 rfl ?_
        refine own_iload X26 hx (hb hby d_descend_155) rfl 157 rfl ?_
        refine own_iload X26 hx (hb hby d_descend_157) rfl 159 rfl ?_
        refine own_iload X26 hx (hb hby d_descend_159) rfl 161 rfl ?_
        refine own_iconst X26 hx (z := (-1 : Int32)) (hb hby d_descend_161) rfl 162 rfl ?_
        refine own_iconst X26 hx (z := (-1 : Int32)) (hb hby d_descend_162) rfl 163 rfl ?_
        refine own_iconst X26 hx (z := (-1 : Int32)) (hb hby d_descend_163) rfl 164 rfl ?_
        obtain ⟨x32, wo32, g32, hF⟩ := own_b2_some hF
        refine own_callP X26 hx hZ hown (own_w79 hw) (own_w80 hw) (own_w81 hw) (own_w2 hw) (own_w3 hw) (own_w82 hw) (by decide) 0 (own_m_push l Z a0 hw _ n0 D26 x26 x20 x22 (-1 : Int32) (-1 : Int32) (-1 : Int32) g32) rfl (own_D_exa D26) (by rw [hml]; rfl) [(.int x26), (.int x20), (.int x22), (.int (-1 : Int32)), (.int (-1 : Int32)), (.int (-1 : Int32))] [] rfl (lenOf own_pd_4 rfl) rfl (Nat.le_of_eq rfl) (by decide) (by decide) (by decide) (by decide) (hb hby d_descend_164) N26 167 rfl (fun v32 T32 l32 X32 N32 hP32 => ?_)
        obtain ⟨rfl, D32, K32'⟩ := hP32
        have K32 : Keep h0 T32.heap [d, al, ao, ah, au, ac, aw, ar] := K26.trans K32' (fun _ z => Or.inl z)
        show own_G p e below _ (T32.setTop (mkF m 167 #[.val (.ref d), .val (.int p1), .val (.int p2), .val (.int p3), .val (.int p4), .val (.int (own_f_min x16 x18)), .val (.int x20), .val (.int x21), .val (.int x22), .val (.int x23), .val (.int x24), .val (.int x25), .val (.int x26)] [(.int x32)]))
        refine own_istore X32 hx (#[.val (.ref d), .val (.int p1), .val (.int p2), .val (.int p3), .val (.int p4), .val (.int (own_f_min x16 x18)), .val (.int x20), .val (.int x21), .val (.int x22), .val (.int x23), .val (.int x24), .val (.int x25), .val (.int x32)]) (hb hby d_descend_167) rfl 169 rfl ?_
        refine own_iload X32 hx (hb hby d_descend_169) rfl 171 rfl ?_
        cases hF
        exact own_retI X32 hx hret hlk (hb hby d_descend_171) (Nat.le_refl _) (Nat.le_refl _) N32 rfl ⟨rfl, D32, K32⟩
      · replace hF := own_ifF hc31 hF
        refine own_icmpT X26 hx (hb hby d_descend_151) (feq hc31).2 169 (by decide) (by decide) ?_
        refine own_iload X26 hx (hb hby d_descend_169) rfl 171 rfl ?_
        cases hF
        exact own_retI X26 hx hret hlk (hb hby d_descend_171) (Nat.le_refl _) (Nat.le_refl _) N26 rfl ⟨rfl, D26, K26⟩
/-- the loop of apply, f turns at the most -/
def own_f_applyL (f : Nat) (lim : Int32) (sz : Int32) (lv : own_L) (lo : own_L) (hi : own_L) (un : own_L) (ca : own_L) (wo : own_L) (re : own_L) (p1 : Int32) (i4 : Int32) (i5 : Int32) : Option (Int32 × Int32 × own_L × own_L × own_L × own_L × own_L × own_L × own_L) :=
  match f with
  | 0 => none
  | f + 1 =>
    if (0 : Int32) < i4 then
      own_b1 (own_get 320 0 wo (i4 + (-5 : Int32))) fun x3 =>
      own_b1 (own_get 320 0 wo ((i4 + (-5 : Int32)) + (1 : Int32))) fun x5 =>
      own_b1 (own_get 320 0 wo ((i4 + (-5 : Int32)) + (2 : Int32))) fun x7 =>
      if x7 = (-1 : Int32) then
        own_b1 (own_f_decided lv lo hi p1 x3 x5) fun x9 =>
        if x9 = (-1 : Int32) then
          if p1 = (3 : Int32) then
            own_b1 (own_f_cached ca p1 x3 x5) fun x12 =>
            if x12 < (0 : Int32) then
              own_b2 (own_f_descend lv lo hi wo p1 x3 x5 (i4 + (-5 : Int32))) fun x14 wo14 =>
              own_f_applyL f lim sz lv lo hi un ca wo14 re p1 x14 i5
            else
              if i5 = (64 : Int32) then
                none
              else
                own_b1 (own_set 64 re i5 x12) fun re18 =>
                own_f_applyL f lim sz lv lo hi un ca wo re18 p1 (i4 + (-5 : Int32)) (i5 + (1 : Int32))
          else
            if x5 < x3 then
              own_b1 (own_f_cached ca p1 x5 x3) fun x20 =>
              if x20 < (0 : Int32) then
                own_b2 (own_f_descend lv lo hi wo p1 x5 x3 (i4 + (-5 : Int32))) fun x22 wo22 =>
                own_f_applyL f lim sz lv lo hi un ca wo22 re p1 x22 i5
              else
                if i5 = (64 : Int32) then
                  none
                else
                  own_b1 (own_set 64 re i5 x20) fun re26 =>
                  own_f_applyL f lim sz lv lo hi un ca wo re26 p1 (i4 + (-5 : Int32)) (i5 + (1 : Int32))
            else
              own_b1 (own_f_cached ca p1 x3 x5) fun x27 =>
              if x27 < (0 : Int32) then
                own_b2 (own_f_descend lv lo hi wo p1 x3 x5 (i4 + (-5 : Int32))) fun x29 wo29 =>
                own_f_applyL f lim sz lv lo hi un ca wo29 re p1 x29 i5
              else
                if i5 = (64 : Int32) then
                  none
                else
                  own_b1 (own_set 64 re i5 x27) fun re33 =>
                  own_f_applyL f lim sz lv lo hi un ca wo re33 p1 (i4 + (-5 : Int32)) (i5 + (1 : Int32))
        else
          if x9 < (0 : Int32) then
            own_f_applyL f lim sz lv lo hi un ca wo re p1 (i4 + (-5 : Int32)) i5
          else
            if i5 = (64 : Int32) then
              none
            else
              own_b1 (own_set 64 re i5 x9) fun re38 =>
              own_f_applyL f lim sz lv lo hi un ca wo re38 p1 (i4 + (-5 : Int32)) (i5 + (1 : Int32))
      else
        own_b1 (own_get 320 0 wo ((i4 + (-5 : Int32)) + (4 : Int32))) fun x40 =>
        if x40 = (-1 : Int32) then
          own_b1 (own_get 64 0 re (i5 + (-1 : Int32))) fun x43 =>
          own_b1 (own_get 320 0 wo ((i4 + (-5 : Int32)) + (3 : Int32))) fun x45 =>
          if x45 = (-1 : Int32) then
            own_b1 (own_get 64 0 re ((i5 + (-1 : Int32)) + (-1 : Int32))) fun x48 =>
            own_b6 (own_f_node lim sz lv lo hi un x7 x48 x43) fun x49 sz49 lv49 lo49 hi49 un49 =>
            own_b1 (own_f_remember ca p1 x3 x5 x49) fun ca50 =>
            if x49 < (0 : Int32) then
              own_f_applyL f lim sz49 lv49 lo49 hi49 un49 ca50 wo re p1 (i4 + (-5 : Int32)) ((i5 + (-1 : Int32)) + (-1 : Int32))
            else
              if ((i5 + (-1 : Int32)) + (-1 : Int32)) = (64 : Int32) then
                none
              else
                own_b1 (own_set 64 re ((i5 + (-1 : Int32)) + (-1 : Int32)) x49) fun re55 =>
                own_f_applyL f lim sz49 lv49 lo49 hi49 un49 ca50 wo re55 p1 (i4 + (-5 : Int32)) (((i5 + (-1 : Int32)) + (-1 : Int32)) + (1 : Int32))
          else
            own_b6 (own_f_node lim sz lv lo hi un x7 x45 x43) fun x56 sz56 lv56 lo56 hi56 un56 =>
            own_b1 (own_f_remember ca p1 x3 x5 x56) fun ca57 =>
            if x56 < (0 : Int32) then
              own_f_applyL f lim sz56 lv56 lo56 hi56 un56 ca57 wo re p1 (i4 + (-5 : Int32)) (i5 + (-1 : Int32))
            else
              if (i5 + (-1 : Int32)) = (64 : Int32) then
                none
              else
                own_b1 (own_set 64 re (i5 + (-1 : Int32)) x56) fun re62 =>
                own_f_applyL f lim sz56 lv56 lo56 hi56 un56 ca57 wo re62 p1 (i4 + (-5 : Int32)) ((i5 + (-1 : Int32)) + (1 : Int32))
        else
          own_b1 (own_get 320 0 wo ((i4 + (-5 : Int32)) + (3 : Int32))) fun x64 =>
          if x64 = (-1 : Int32) then
            own_b1 (own_get 64 0 re (i5 + (-1 : Int32))) fun x67 =>
            own_b6 (own_f_node lim sz lv lo hi un x7 x67 x40) fun x68 sz68 lv68 lo68 hi68 un68 =>
            own_b1 (own_f_remember ca p1 x3 x5 x68) fun ca69 =>
            if x68 < (0 : Int32) then
              own_f_applyL f lim sz68 lv68 lo68 hi68 un68 ca69 wo re p1 (i4 + (-5 : Int32)) (i5 + (-1 : Int32))
            else
              if (i5 + (-1 : Int32)) = (64 : Int32) then
                none
              else
                own_b1 (own_set 64 re (i5 + (-1 : Int32)) x68) fun re74 =>
                own_f_applyL f lim sz68 lv68 lo68 hi68 un68 ca69 wo re74 p1 (i4 + (-5 : Int32)) ((i5 + (-1 : Int32)) + (1 : Int32))
          else
            own_b6 (own_f_node lim sz lv lo hi un x7 x64 x40) fun x75 sz75 lv75 lo75 hi75 un75 =>
            own_b1 (own_f_remember ca p1 x3 x5 x75) fun ca76 =>
            if x75 < (0 : Int32) then
              own_f_applyL f lim sz75 lv75 lo75 hi75 un75 ca76 wo re p1 (i4 + (-5 : Int32)) i5
            else
              if i5 = (64 : Int32) then
                none
              else
                own_b1 (own_set 64 re i5 x75) fun re81 =>
                own_f_applyL f lim sz75 lv75 lo75 hi75 un75 ca76 wo re81 p1 (i4 + (-5 : Int32)) (i5 + (1 : Int32))
    else
      own_b1 (own_get 64 0 re (0 : Int32)) fun x83 =>
      some (x83, sz, lv, lo, hi, un, ca, wo, re)
/-- apply's model -/
def own_f_apply (lim : Int32) (sz : Int32) (lv : own_L) (lo : own_L) (hi : own_L) (un : own_L) (ca : own_L) (wo : own_L) (re : own_L) (p1 p2 p3 : Int32) : Option (Int32 × Int32 × own_L × own_L × own_L × own_L × own_L × own_L × own_L) :=
  own_b2 (own_f_push wo (0 : Int32) p2 p3 (-1 : Int32) (-1 : Int32) (-1 : Int32)) fun x84 wo84 =>
  own_f_applyL 64 lim sz lv lo hi un ca wo84 re p1 x84 (0 : Int32)
theorem d_apply_0 : decode prog_81_method_15_code 0 = .ok (.aload_n 0, 1) := by decide +kernel
theorem d_apply_1 : decode prog_81_method_15_code 1 = .ok (.iconst 0, 1) := by decide +kernel
theorem d_apply_2 : decode prog_81_method_15_code 2 = .ok (.iload_n 2, 1) := by decide +kernel
theorem d_apply_3 : decode prog_81_method_15_code 3 = .ok (.iload_n 3, 1) := by decide +kernel
theorem d_apply_4 : decode prog_81_method_15_code 4 = .ok (.iconst (-1), 1) := by decide +kernel
theorem d_apply_5 : decode prog_81_method_15_code 5 = .ok (.iconst (-1), 1) := by decide +kernel
theorem d_apply_6 : decode prog_81_method_15_code 6 = .ok (.iconst (-1), 1) := by decide +kernel
theorem d_apply_7 : decode prog_81_method_15_code 7 = .ok (.invokevirtual 97, 3) := by decide +kernel
theorem d_apply_10 : decode prog_81_method_15_code 10 = .ok (.istore 4, 2) := by decide +kernel
theorem d_apply_12 : decode prog_81_method_15_code 12 = .ok (.iconst 0, 1) := by decide +kernel
theorem d_apply_13 : decode prog_81_method_15_code 13 = .ok (.istore 5, 2) := by decide +kernel
theorem d_apply_15 : decode prog_81_method_15_code 15 = .ok (.iload 4, 2) := by decide +kernel
theorem d_apply_17 : decode prog_81_method_15_code 17 = .ok (.ifCond .le 268, 3) := by decide +kernel
theorem d_apply_20 : decode prog_81_method_15_code 20 = .ok (.iinc 4 (-5), 3) := by decide +kernel
theorem d_apply_23 : decode prog_81_method_15_code 23 = .ok (.aload_n 0, 1) := by decide +kernel
theorem d_apply_24 : decode prog_81_method_15_code 24 = .ok (.getfield 27, 3) := by decide +kernel
theorem d_apply_27 : decode prog_81_method_15_code 27 = .ok (.iload 4, 2) := by decide +kernel
theorem d_apply_29 : decode prog_81_method_15_code 29 = .ok (.iaload, 1) := by decide +kernel
theorem d_apply_30 : decode prog_81_method_15_code 30 = .ok (.istore 6, 2) := by decide +kernel
theorem d_apply_32 : decode prog_81_method_15_code 32 = .ok (.aload_n 0, 1) := by decide +kernel
theorem d_apply_33 : decode prog_81_method_15_code 33 = .ok (.getfield 27, 3) := by decide +kernel
theorem d_apply_36 : decode prog_81_method_15_code 36 = .ok (.iload 4, 2) := by decide +kernel
theorem d_apply_38 : decode prog_81_method_15_code 38 = .ok (.iconst 1, 1) := by decide +kernel
theorem d_apply_39 : decode prog_81_method_15_code 39 = .ok (.iadd, 1) := by decide +kernel
theorem d_apply_40 : decode prog_81_method_15_code 40 = .ok (.iaload, 1) := by decide +kernel
theorem d_apply_41 : decode prog_81_method_15_code 41 = .ok (.istore 7, 2) := by decide +kernel
theorem d_apply_43 : decode prog_81_method_15_code 43 = .ok (.aload_n 0, 1) := by decide +kernel
theorem d_apply_44 : decode prog_81_method_15_code 44 = .ok (.getfield 27, 3) := by decide +kernel
theorem d_apply_47 : decode prog_81_method_15_code 47 = .ok (.iload 4, 2) := by decide +kernel
theorem d_apply_49 : decode prog_81_method_15_code 49 = .ok (.iconst 2, 1) := by decide +kernel
theorem d_apply_50 : decode prog_81_method_15_code 50 = .ok (.iadd, 1) := by decide +kernel
theorem d_apply_51 : decode prog_81_method_15_code 51 = .ok (.iaload, 1) := by decide +kernel
theorem d_apply_52 : decode prog_81_method_15_code 52 = .ok (.istore 8, 2) := by decide +kernel
theorem d_apply_54 : decode prog_81_method_15_code 54 = .ok (.iload 8, 2) := by decide +kernel
theorem d_apply_56 : decode prog_81_method_15_code 56 = .ok (.iconst (-1), 1) := by decide +kernel
theorem d_apply_57 : decode prog_81_method_15_code 57 = .ok (.if_icmp .ne 99, 3) := by decide +kernel
theorem d_apply_60 : decode prog_81_method_15_code 60 = .ok (.aload_n 0, 1) := by decide +kernel
theorem d_apply_61 : decode prog_81_method_15_code 61 = .ok (.iload_n 1, 1) := by decide +kernel
theorem d_apply_62 : decode prog_81_method_15_code 62 = .ok (.iload 6, 2) := by decide +kernel
theorem d_apply_64 : decode prog_81_method_15_code 64 = .ok (.iload 7, 2) := by decide +kernel
theorem d_apply_66 : decode prog_81_method_15_code 66 = .ok (.invokevirtual 101, 3) := by decide +kernel
theorem d_apply_69 : decode prog_81_method_15_code 69 = .ok (.istore 9, 2) := by decide +kernel
theorem d_apply_71 : decode prog_81_method_15_code 71 = .ok (.iload 9, 2) := by decide +kernel
theorem d_apply_73 : decode prog_81_method_15_code 73 = .ok (.iconst (-1), 1) := by decide +kernel
theorem d_apply_74 : decode prog_81_method_15_code 74 = .ok (.if_icmp .ne 163, 3) := by decide +kernel
theorem d_apply_77 : decode prog_81_method_15_code 77 = .ok (.iload_n 1, 1) := by decide +kernel
theorem d_apply_78 : decode prog_81_method_15_code 78 = .ok (.iconst 3, 1) := by decide +kernel
theorem d_apply_79 : decode prog_81_method_15_code 79 = .ok (.if_icmp .eq 14, 3) := by decide +kernel
theorem d_apply_82 : decode prog_81_method_15_code 82 = .ok (.iload 6, 2) := by decide +kernel
theorem d_apply_84 : decode prog_81_method_15_code 84 = .ok (.iload 7, 2) := by decide +kernel
theorem d_apply_86 : decode prog_81_method_15_code 86 = .ok (.if_icmp .le 7, 3) := by decide +kernel
theorem d_apply_89 : decode prog_81_method_15_code 89 = .ok (.iconst 1, 1) := by decide +kernel
theorem d_apply_90 : decode prog_81_method_15_code 90 = .ok (.goto 4, 3) := by decide +kernel
theorem d_apply_93 : decode prog_81_method_15_code 93 = .ok (.iconst 0, 1) := by decide +kernel
theorem d_apply_94 : decode prog_81_method_15_code 94 = .ok (.istore 10, 2) := by decide +kernel
theorem d_apply_96 : decode prog_81_method_15_code 96 = .ok (.iload 10, 2) := by decide +kernel
theorem d_apply_98 : decode prog_81_method_15_code 98 = .ok (.ifCond .eq 8, 3) := by decide +kernel
theorem d_apply_101 : decode prog_81_method_15_code 101 = .ok (.iload 7, 2) := by decide +kernel
theorem d_apply_103 : decode prog_81_method_15_code 103 = .ok (.goto 5, 3) := by decide +kernel
theorem d_apply_106 : decode prog_81_method_15_code 106 = .ok (.iload 6, 2) := by decide +kernel
theorem d_apply_108 : decode prog_81_method_15_code 108 = .ok (.istore 11, 2) := by decide +kernel
theorem d_apply_110 : decode prog_81_method_15_code 110 = .ok (.iload 10, 2) := by decide +kernel
theorem d_apply_112 : decode prog_81_method_15_code 112 = .ok (.ifCond .eq 8, 3) := by decide +kernel
theorem d_apply_115 : decode prog_81_method_15_code 115 = .ok (.iload 6, 2) := by decide +kernel
theorem d_apply_117 : decode prog_81_method_15_code 117 = .ok (.goto 5, 3) := by decide +kernel
theorem d_apply_120 : decode prog_81_method_15_code 120 = .ok (.iload 7, 2) := by decide +kernel
theorem d_apply_122 : decode prog_81_method_15_code 122 = .ok (.istore 12, 2) := by decide +kernel
theorem d_apply_124 : decode prog_81_method_15_code 124 = .ok (.aload_n 0, 1) := by decide +kernel
theorem d_apply_125 : decode prog_81_method_15_code 125 = .ok (.iload_n 1, 1) := by decide +kernel
theorem d_apply_126 : decode prog_81_method_15_code 126 = .ok (.iload 11, 2) := by decide +kernel
theorem d_apply_128 : decode prog_81_method_15_code 128 = .ok (.iload 12, 2) := by decide +kernel
theorem d_apply_130 : decode prog_81_method_15_code 130 = .ok (.invokevirtual 104, 3) := by decide +kernel
theorem d_apply_133 : decode prog_81_method_15_code 133 = .ok (.istore 9, 2) := by decide +kernel
theorem d_apply_135 : decode prog_81_method_15_code 135 = .ok (.iload 9, 2) := by decide +kernel
theorem d_apply_137 : decode prog_81_method_15_code 137 = .ok (.ifCond .ge 16, 3) := by decide +kernel
theorem d_apply_140 : decode prog_81_method_15_code 140 = .ok (.aload_n 0, 1) := by decide +kernel
theorem d_apply_141 : decode prog_81_method_15_code 141 = .ok (.iload_n 1, 1) := by decide +kernel
theorem d_apply_142 : decode prog_81_method_15_code 142 = .ok (.iload 11, 2) := by decide +kernel
theorem d_apply_144 : decode prog_81_method_15_code 144 = .ok (.iload 12, 2) := by decide +kernel
theorem d_apply_146 : decode prog_81_method_15_code 146 = .ok (.iload 4, 2) := by decide +kernel
theorem d_apply_148 : decode prog_81_method_15_code 148 = .ok (.invokevirtual 107, 3) := by decide +kernel
theorem d_apply_151 : decode prog_81_method_15_code 151 = .ok (.istore 4, 2) := by decide +kernel
theorem d_apply_153 : decode prog_81_method_15_code 153 = .ok (.goto 84, 3) := by decide +kernel
theorem d_apply_156 : decode prog_81_method_15_code 156 = .ok (.aload_n 0, 1) := by decide +kernel
theorem d_apply_157 : decode prog_81_method_15_code 157 = .ok (.getfield 27, 3) := by decide +kernel
theorem d_apply_160 : decode prog_81_method_15_code 160 = .ok (.iload 4, 2) := by decide +kernel
theorem d_apply_162 : decode prog_81_method_15_code 162 = .ok (.iconst 4, 1) := by decide +kernel
theorem d_apply_163 : decode prog_81_method_15_code 163 = .ok (.iadd, 1) := by decide +kernel
theorem d_apply_164 : decode prog_81_method_15_code 164 = .ok (.iaload, 1) := by decide +kernel
theorem d_apply_165 : decode prog_81_method_15_code 165 = .ok (.istore 10, 2) := by decide +kernel
theorem d_apply_167 : decode prog_81_method_15_code 167 = .ok (.iload 10, 2) := by decide +kernel
theorem d_apply_169 : decode prog_81_method_15_code 169 = .ok (.iconst (-1), 1) := by decide +kernel
theorem d_apply_170 : decode prog_81_method_15_code 170 = .ok (.if_icmp .ne 15, 3) := by decide +kernel
theorem d_apply_173 : decode prog_81_method_15_code 173 = .ok (.iinc 5 (-1), 3) := by decide +kernel
theorem d_apply_176 : decode prog_81_method_15_code 176 = .ok (.aload_n 0, 1) := by decide +kernel
theorem d_apply_177 : decode prog_81_method_15_code 177 = .ok (.getfield 31, 3) := by decide +kernel
theorem d_apply_180 : decode prog_81_method_15_code 180 = .ok (.iload 5, 2) := by decide +kernel
theorem d_apply_182 : decode prog_81_method_15_code 182 = .ok (.iaload, 1) := by decide +kernel
theorem d_apply_183 : decode prog_81_method_15_code 183 = .ok (.istore 10, 2) := by decide +kernel
theorem d_apply_185 : decode prog_81_method_15_code 185 = .ok (.aload_n 0, 1) := by decide +kernel
theorem d_apply_186 : decode prog_81_method_15_code 186 = .ok (.getfield 27, 3) := by decide +kernel
theorem d_apply_189 : decode prog_81_method_15_code 189 = .ok (.iload 4, 2) := by decide +kernel
theorem d_apply_191 : decode prog_81_method_15_code 191 = .ok (.iconst 3, 1) := by decide +kernel
theorem d_apply_192 : decode prog_81_method_15_code 192 = .ok (.iadd, 1) := by decide +kernel
theorem d_apply_193 : decode prog_81_method_15_code 193 = .ok (.iaload, 1) := by decide +kernel
theorem d_apply_194 : decode prog_81_method_15_code 194 = .ok (.istore 11, 2) := by decide +kernel
theorem d_apply_196 : decode prog_81_method_15_code 196 = .ok (.iload 11, 2) := by decide +kernel
theorem d_apply_198 : decode prog_81_method_15_code 198 = .ok (.iconst (-1), 1) := by decide +kernel
theorem d_apply_199 : decode prog_81_method_15_code 199 = .ok (.if_icmp .ne 15, 3) := by decide +kernel
theorem d_apply_202 : decode prog_81_method_15_code 202 = .ok (.iinc 5 (-1), 3) := by decide +kernel
theorem d_apply_205 : decode prog_81_method_15_code 205 = .ok (.aload_n 0, 1) := by decide +kernel
theorem d_apply_206 : decode prog_81_method_15_code 206 = .ok (.getfield 31, 3) := by decide +kernel
theorem d_apply_209 : decode prog_81_method_15_code 209 = .ok (.iload 5, 2) := by decide +kernel
theorem d_apply_211 : decode prog_81_method_15_code 211 = .ok (.iaload, 1) := by decide +kernel
theorem d_apply_212 : decode prog_81_method_15_code 212 = .ok (.istore 11, 2) := by decide +kernel
theorem d_apply_214 : decode prog_81_method_15_code 214 = .ok (.aload_n 0, 1) := by decide +kernel
theorem d_apply_215 : decode prog_81_method_15_code 215 = .ok (.iload 8, 2) := by decide +kernel
theorem d_apply_217 : decode prog_81_method_15_code 217 = .ok (.iload 11, 2) := by decide +kernel
theorem d_apply_219 : decode prog_81_method_15_code 219 = .ok (.iload 10, 2) := by decide +kernel
theorem d_apply_221 : decode prog_81_method_15_code 221 = .ok (.invokevirtual 79, 3) := by decide +kernel
theorem d_apply_224 : decode prog_81_method_15_code 224 = .ok (.istore 9, 2) := by decide +kernel
theorem d_apply_226 : decode prog_81_method_15_code 226 = .ok (.aload_n 0, 1) := by decide +kernel
theorem d_apply_227 : decode prog_81_method_15_code 227 = .ok (.iload_n 1, 1) := by decide +kernel
theorem d_apply_228 : decode prog_81_method_15_code 228 = .ok (.iload 6, 2) := by decide +kernel
theorem d_apply_230 : decode prog_81_method_15_code 230 = .ok (.iload 7, 2) := by decide +kernel
theorem d_apply_232 : decode prog_81_method_15_code 232 = .ok (.iload 9, 2) := by decide +kernel
theorem d_apply_234 : decode prog_81_method_15_code 234 = .ok (.invokevirtual 111, 3) := by decide +kernel
theorem d_apply_237 : decode prog_81_method_15_code 237 = .ok (.iload 9, 2) := by decide +kernel
theorem d_apply_239 : decode prog_81_method_15_code 239 = .ok (.ifCond .lt 43, 3) := by decide +kernel
theorem d_apply_242 : decode prog_81_method_15_code 242 = .ok (.iload 5, 2) := by decide +kernel
theorem d_apply_244 : decode prog_81_method_15_code 244 = .ok (.aload_n 0, 1) := by decide +kernel
theorem d_apply_245 : decode prog_81_method_15_code 245 = .ok (.getfield 31, 3) := by decide +kernel
theorem d_apply_248 : decode prog_81_method_15_code 248 = .ok (.arraylength, 1) := by decide +kernel
theorem d_apply_249 : decode prog_81_method_15_code 249 = .ok (.if_icmp .ne 21, 3) := by decide +kernel
theorem d_apply_270 : decode prog_81_method_15_code 270 = .ok (.aload_n 0, 1) := by decide +kernel
theorem d_apply_271 : decode prog_81_method_15_code 271 = .ok (.getfield 31, 3) := by decide +kernel
theorem d_apply_274 : decode prog_81_method_15_code 274 = .ok (.iload 5, 2) := by decide +kernel
theorem d_apply_276 : decode prog_81_method_15_code 276 = .ok (.iload 9, 2) := by decide +kernel
theorem d_apply_278 : decode prog_81_method_15_code 278 = .ok (.iastore, 1) := by decide +kernel
theorem d_apply_279 : decode prog_81_method_15_code 279 = .ok (.iinc 5 1, 3) := by decide +kernel
theorem d_apply_282 : decode prog_81_method_15_code 282 = .ok (.goto (-267), 3) := by decide +kernel
theorem d_apply_285 : decode prog_81_method_15_code 285 = .ok (.aload_n 0, 1) := by decide +kernel
theorem d_apply_286 : decode prog_81_method_15_code 286 = .ok (.getfield 31, 3) := by decide +kernel
theorem d_apply_289 : decode prog_81_method_15_code 289 = .ok (.iconst 0, 1) := by decide +kernel
theorem d_apply_290 : decode prog_81_method_15_code 290 = .ok (.iaload, 1) := by decide +kernel
theorem d_apply_291 : decode prog_81_method_15_code 291 = .ok (.ireturn, 1) := by decide +kernel
theorem own_ef_apply (m : MethodId) (d : Addr) (p1 : Int32) (p2 : Int32) (p3 : Int32) : entryFrame m #[(.ref d), (.int p1), (.int p2), (.int p3)] 13 = mkF m 0 #[.val (.ref d), .val (.int p1), .val (.int p2), .val (.int p3), .unset, .unset, .unset, .unset, .unset, .unset, .unset, .unset, .unset] [] := by first | (simp [entryFrame, mkF, argsToLocals, Value.category]; done) | rfl
set_option maxRecDepth 65536 in
set_option maxHeartbeats 40000000 in
theorem own_m_apply (l : Launch) (Z : State) (a0 : Array Value) (hw : ∀ d ∈ tables_1, d.before a0 Z = true) (h0 : Heap) (n0 : Nat) {d al ao ah au ac aw ar : Addr} {lim sz : Int32} {lv lo hi un ca wo re : own_L} (D : own_Dg Z n0 h0 d al ao ah au ac aw ar lim sz lv lo hi un ca wo re) (p1 p2 p3 : Int32) {r : Int32} {sz' : Int32} {lv' lo' hi' un' ca' wo' re' : own_L} (hF : own_f_apply lim sz lv lo hi un ca wo re p1 p2 p3 = some (r, sz', lv', lo', hi', un', ca', wo', re')) : own_Met l Z ⟨"com/example/orbweaver/orbweaver/synthesis/Diagrams", "apply", "(III)I"⟩ prog_81_method_15_code 13 (some .int) [] ({ frames := 2, cells := 0, slots := 0, locals := 42 } : Room) #[.ref d, .int p1, .int p2, .int p3] h0 n0 (fun v h => v = some (.int r) ∧ own_Dg Z n0 h d al ao ah au ac aw ar lim sz' lv' lo' hi' un' ca' wo' re' ∧ Keep h0 h [d, al, ao, ah, au, ac, aw, ar]) := by
  unfold own_f_apply at hF
  refine own_body (plainFor_of_name own_pn_Diagrams) ?_
  intro p e s m below meth c T0 X0 hx hby hml hown hnm hZ e0 hret hlk
  have N0 := Fr.nil n0
  have K0 : Keep h0 h0 [d, al, ao, ah, au, ac, aw, ar] := Keep.refl _ _
  refine own_cast (own_ef_apply m d p1 p2 p3) ?_
  have loop : ∀ (f : Nat) (T : State) (h : Heap) (locs : List Loc) (i4 i5 : Int32) (s6 s7 s8 s9 s10 s11 s12 : Slot) (sz : Int32) (lv lo hi un ca wo re : own_L), One s6 → One s7 → One s8 → One s9 → One s10 → One s11 → One s12 → own_f_applyL f lim sz lv lo hi un ca wo re p1 i4 i5 = some (r, sz', lv', lo', hi', un', ca', wo', re') → Stand p l e ({ frames := 2, cells := 0, slots := 0, locals := 42 } : Room) s m #[.ref d, .int p1, .int p2, .int p3] below meth c T locs 0 0 → Fr n0 locs → T.heap = h → own_Dg Z n0 h d al ao ah au ac aw ar lim sz lv lo hi un ca wo re → Keep h0 h [d, al, ao, ah, au, ac, aw, ar] → own_G p e below (own_End s ({ frames := 2, cells := 0, slots := 0, locals := 42 } : Room) n0 (fun v h => v = some (.int r) ∧ own_Dg Z n0 h d al ao ah au ac aw ar lim sz' lv' lo' hi' un' ca' wo' re' ∧ Keep h0 h [d, al, ao, ah, au, ac, aw, ar])) (T.setTop (mkF m 15 #[.val (.ref d), .val (.int p1), .val (.int p2), .val (.int p3), .val (.int i4), .val (.int i5), s6, s7, s8, s9, s10, s11, s12] [])) := by
    intro f
    induction f with
    | zero => intro T h locs i4 i5 s6 s7 s8 s9 s10 s11 s12 sz lv lo hi un ca wo re hs6 hs7 hs8 hs9 hs10 hs11 hs12 hF X N eT Dx K; cases hF
    | succ f ih =>
      intro T h locs i4 i5 s6 s7 s8 s9 s10 s11 s12 sz lv lo hi un ca wo re hs6 hs7 hs8 hs9 hs10 hs11 hs12 hF X N eT Dx K
      rw [own_f_applyL] at hF
      refine own_iload X hx (hb hby d_apply_15) rfl 17 rfl ?_
      by_cases hc1 : (0 : Int32) < i4
      · replace hF := own_ifT hc1 hF
        refine own_ifcF X hx (hb hby d_apply_17) (tlt hc1).2.2.2 20 rfl ?_
        refine own_iinc X hx (z := (i4 + (-5 : Int32))) (#[.val (.ref d), .val (.int p1), .val (.int p2), .val (.int p3), .val (.int (i4 + (-5 : Int32))), .val (.int i5), s6, s7, s8, s9, s10, s11, s12]) (hb hby d_apply_20) rfl rfl rfl 23 rfl ?_
        refine own_aloadN X hx (hb hby d_apply_23) rfl rfl 24 rfl ?_
        refine own_getF X hx hZ hown (own_w26 hw) eT (own_D_f_work Dx) (hb hby d_apply_24) 27 rfl (fun T2 X2 e2 => ?_)
        refine own_iload X2 hx (hb hby d_apply_27) rfl 29 rfl ?_
        obtain ⟨x3, g3, hF⟩ := own_b1_some hF
        refine own_iaload X2 hx hZ e2 (own_D_a_aw Dx) (own_get_in g3) (own_get_val g3) (hb hby d_apply_29) 30 rfl ?_
        refine own_istore X2 hx (#[.val (.ref d), .val (.int p1), .val (.int p2), .val (.int p3), .val (.int (i4 + (-5 : Int32))), .val (.int i5), .val (.int x3), s7, s8, s9, s10, s11, s12]) (hb hby d_apply_30) (XS.store1 rfl hs6 rfl) 32 rfl ?_
        refine own_aloadN X2 hx (hb hby d_apply_32) rfl rfl 33 rfl ?_
        refine own_getF X2 hx hZ hown (own_w26 hw) e2 (own_D_f_work Dx) (hb hby d_apply_33) 36 rfl (fun T4 X4 e4 => ?_)
        refine own_iload X4 hx (hb hby d_apply_36) rfl 38 rfl ?_
        refine own_iconst X4 hx (z := (1 : Int32)) (hb hby d_apply_38) rfl 39 rfl ?_
        refine own_iadd X4 hx (hb hby d_apply_39) 40 rfl ?_
        obtain ⟨x5, g5, hF⟩ := own_b1_some hF
        refine own_iaload X4 hx hZ e4 (own_D_a_aw Dx) (own_get_in g5) (own_get_val g5) (hb hby d_apply_40) 41 rfl ?_
        refine own_istore X4 hx (#[.val (.ref d), .val (.int p1), .val (.int p2), .val (.int p3), .val (.int (i4 + (-5 : Int32))), .val (.int i5), .val (.int x3), .val (.int x5), s8, s9, s10, s11, s12]) (hb hby d_apply_41) (XS.store1 rfl hs7 rfl) 43 rfl ?_
        refine own_aloadN X4 hx (hb hby d_apply_43) rfl rfl 44 rfl ?_
        refine own_getF X4 hx hZ hown (own_w26 hw) e4 (own_D_f_work Dx) (hb hby d_apply_44) 47 rfl (fun T6 X6 e6 => ?_)
        refine own_iload X6 hx (hb hby d_apply_47) rfl 49 rfl ?_
        refine own_iconst X6 hx (z := (2 : Int32)) (hb hby d_apply_49) rfl 50 rfl ?_
        refine own_iadd X6 hx (hb hby d_apply_50) 51 rfl ?_
        obtain ⟨x7, g7, hF⟩ := own_b1_some hF
        refine own_iaload X6 hx hZ e6 (own_D_a_aw Dx) (own_get_in g7) (own_get_val g7) (hb hby d_apply_51) 52 rfl ?_
        refine own_istore X6 hx (#[.val (.ref d), .val (.int p1), .val (.int p2), .val (.int p3), .val (.int (i4 + (-5 : Int32))), .val (.int i5), .val (.int x3), .val (.int x5), .val (.int x7), s9, s10, s11, s12]) (hb hby d_apply_52) (XS.store1 rfl hs8 rfl) 54 rfl ?_
        refine own_iload X6 hx (hb hby d_apply_54) rfl 56 rfl ?_
        refine own_iconst X6 hx (z := (-1 : Int32)) (hb hby d_apply_56) rfl 57 rfl ?_
        by_cases hc8 : x7 = (-1 : Int32)
        · replace hF := own_ifT hc8 hF
          refine own_icmpF X6 hx (hb hby d_apply_57) (teq hc8).2 60 rfl ?_
          refine own_aloadN X6 hx (hb hby d_apply_60) rfl rfl 61 rfl ?_
          refine own_iloadN X6 hx (hb hby d_apply_61) rfl 62 rfl ?_
          refine own_iload X6 hx (hb hby d_apply_62) rfl 64 rfl ?_
          refine own_iload X6 hx (hb hby d_apply_64) rfl 66 rfl ?_
          obtain ⟨x9, g9, hF⟩ := own_b1_some hF
          refine own_callP X6 hx hZ hown (own_w83 hw) (own_w84 hw) (own_w85 hw) (own_w2 hw) (own_w3 hw) (own_w86 hw) (by decide) 0 (own_m_decided l Z a0 hw _ n0 Dx p1 x3 x5 g9) e6 (own_D_exa Dx) (by rw [hml]; rfl) [(.int p1), (.int x3), (.int x5)] [] rfl (lenOf own_pd_2 rfl) rfl (Nat.le_of_eq rfl) (by decide) (by decide) (by decide) (by decide) (hb hby d_apply_66) N 69 rfl (fun v9 T9 l9 X9 N9 hP9 => ?_)
          obtain ⟨rfl, e9⟩ := hP9
          show own_G p e below _ (T9.setTop (mkF m 69 #[.val (.ref d), .val (.int p1), .val (.int p2), .val (.int p3), .val (.int (i4 + (-5 : Int32))), .val (.int i5), .val (.int x3), .val (.int x5), .val (.int x7), s9, s10, s11, s12] [(.int x9)]))
          refine own_istore X9 hx (#[.val (.ref d), .val (.int p1), .val (.int p2), .val (.int p3), .val (.int (i4 + (-5 : Int32))), .val (.int i5), .val (.int x3), .val (.int x5), .val (.int x7), .val (.int x9), s10, s11, s12]) (hb hby d_apply_69) (XS.store1 rfl hs9 rfl) 71 rfl ?_
          refine own_iload X9 hx (hb hby d_apply_71) rfl 73 rfl ?_
          refine own_iconst X9 hx (z := (-1 : Int32)) (hb hby d_apply_73) rfl 74 rfl ?_
          by_cases hc10 : x9 = (-1 : Int32)
          · replace hF := own_ifT hc10 hF
            refine own_icmpF X9 hx (hb hby d_apply_74) (teq hc10).2 77 rfl ?_
            refine own_iloadN X9 hx (hb hby d_apply_77) rfl 78 rfl ?_
            refine own_iconst X9 hx (z := (3 : Int32)) (hb hby d_apply_78) rfl 79 rfl ?_
            by_cases hc11 : p1 = (3 : Int32)
            · replace hF := own_ifT hc11 hF
              refine own_icmpT X9 hx (hb hby d_apply_79) (teq hc11).1 93 (by decide) (by decide) ?_
              refine own_iconst X9 hx (z := (0 : Int32)) (hb hby d_apply_93) rfl 94 rfl ?_
              refine own_istore X9 hx (#[.val (.ref d), .val (.int p1), .val (.int p2), .val (.int p3), .val (.int (i4 + (-5 : Int32))), .val (.int i5), .val (.int x3), .val (.int x5), .val (.int x7), .val (.int x9), .val (.int (0 : Int32)), s11, s12]) (hb hby d_apply_94) (XS.store1 rfl hs10 rfl) 96 rfl ?_
              refine own_iload X9 hx (hb hby d_apply_96) rfl 98 rfl ?_
              refine own_ifcT X9 hx (hb hby d_apply_98) (teq (by decide)).1 106 (by decide) (by decide) ?_
              refine own_iload X9 hx (hb hby d_apply_106) rfl 108 rfl ?_
              refine own_istore X9 hx (#[.val (.ref d), .val (.int p1), .val (.int p2), .val (.int p3), .val (.int (i4 + (-5 : Int32))), .val (.int i5), .val (.int x3), .val (.int x5), .val (.int x7), .val (.int x9), .val (.int (0 : Int32)), .val (.int x3), s12]) (hb hby d_apply_108) (XS.store1 rfl hs11 rfl) 110 rfl ?_
              refine own_iload X9 hx (hb hby d_apply_110) rfl 112 rfl ?_
              refine own_ifcT X9 hx (hb hby d_apply_112) (teq (by decide)).1 120 (by decide) (by decide) ?_
              refine own_iload X9 hx (hb hby d_apply_120) rfl 122 rfl ?_
              refine own_istore X9 hx (#[.val (.ref d), .val (.int p1), .val (.int p2), .val (.int p3), .val (.int (i4 + (-5 : Int32))), .val (.int i5), .val (.int x3), .val (.int x5), .val (.int x7), .val (.int x9), .val (.int (0 : Int32)), .val (.int x3), .val (.int x5)]) (hb hby d_apply_122) (XS.store1 rfl hs12 rfl) 124 rfl ?_
              refine own_aloadN X9 hx (hb hby d_apply_124) rfl rfl 125 rfl ?_
              refine own_iloadN X9 hx (hb hby d_apply_125) rfl 126 rfl ?_
              refine own_iload X9 hx (hb hby d_apply_126) rfl 128 rfl ?_
              refine own_iload X9 hx (hb hby d_apply_128) rfl 130 rfl ?_
              obtain ⟨x12, g12, hF⟩ := own_b1_some hF
              refine own_callP X9 hx hZ hown (own_w108 hw) (own_w109 hw) (own_w110 hw) (own_w2 hw) (own_w3 hw) (own_w111 hw) (by decide) 0 (own_m_cached l Z a0 hw _ n0 Dx p1 x3 x5 g12) e9 (own_D_exa Dx) (by rw [hml]; rfl) [(.int p1), (.int x3), (.int x5)] [] rfl (lenOf own_pd_2 rfl) rfl (Nat.le_of_eq rfl) (by decide) (by decide) (by decide) (by decide) (hb hby d_apply_130) N9 133 rfl (fun v12 T12 l12 X12 N12 hP12 => ?_)
              obtain ⟨rfl, e12⟩ := hP12
              show own_G p e below _ (T12.setTop (mkF m 133 #[.val (.ref d), .val (.int p1), .val (.int p2), .val (.int p3), .val (.int (i4 + (-5 : Int32))), .val (.int i5), .val (.int x3), .val (.int x5), .val (.int x7), .val (.int x9), .val (.int (0 : Int32)), .val (.int x3), .val (.int x5)] [(.int x12)]))
              refine own_istore X12 hx (#[.val (.ref d), .val (.int p1), .val (.int p2), .val (.int p3), .val (.int (i4 + (-5 : Int32))), .val (.int i5), .val (.int x3), .val (.int x5), .val (.int x7), .val (.int x12), .val (.int (0 : Int32)), .val (.int x3), .val (.int x5)]) (hb hby d_apply_133) rfl 135 rfl ?_
              refine own_iload X12 hx (hb hby d_apply_135) rfl 137 rfl ?_
              by_cases hc13 : x12 < (0 : Int32)
              · replace hF := own_ifT hc13 hF
                refine own_ifcF X12 hx (hb hby d_apply_137) (tlt hc13).2.1 140 rfl ?_
                refine own_aloadN X12 hx (hb hby d_apply_140) rfl rfl 141 rfl ?_
                refine own_iloadN X12 hx (hb hby d_apply_141) rfl 142 rfl ?_
                refine own_iload X12 hx (hb hby d_apply_142) rfl 144 rfl ?_
                refine own_iload X12 hx (hb hby d_apply_144) rfl 146 rfl ?_
                refine own_iload X12 hx (hb hby d_apply_146) rfl 148 rfl ?_
                obtain ⟨x14, wo14, g14, hF⟩ := own_b2_some hF
                refine own_callP X12 hx hZ hown (own_w112 hw) (own_w113 hw) (own_w114 hw) (own_w2 hw) (own_w3 hw) (own_w115 hw) (by decide) 0 (own_m_descend l Z a0 hw _ n0 Dx p1 x3 x5 (i4 + (-5 : Int32)) g14) e12 (own_D_exa Dx) (by rw [hml]; rfl) [(.int p1), (.int x3), (.int x5), (.int (i4 + (-5 : Int32)))] [] rfl (lenOf own_pd_6 rfl) rfl (Nat.le_of_eq rfl) (by decide) (by decide) (by decide) (by decide) (hb hby d_apply_148) N12 151 rfl (fun v14 T14 l14 X14 N14 hP14 => ?_)
                obtain ⟨rfl, D14, K14'⟩ := hP14
                have K14 : Keep h0 T14.heap [d, al, ao, ah, au, ac, aw, ar] := K.trans K14' (fun _ z => Or.inl z)
                show own_G p e below _ (T14.setTop (mkF m 151 #[.val (.ref d), .val (.int p1), .val (.int p2), .val (.int p3), .val (.int (i4 + (-5 : Int32))), .val (.int i5), .val (.int x3), .val (.int x5), .val (.int x7), .val (.int x12), .val (.int (0 : Int32)), .val (.int x3), .val (.int x5)] [(.int x14)]))
                refine own_istore X14 hx (#[.val (.ref d), .val (.int p1), .val (.int p2), .val (.int p3), .val (.int x14), .val (.int i5), .val (.int x3), .val (.int x5), .val (.int x7), .val (.int x12), .val (.int (0 : Int32)), .val (.int x3), .val (.int x5)]) (hb hby d_apply_151) rfl 153 rfl ?_
                refine own_goto X14 hx (hb hby d_apply_153) 237 (by decide) (by decide) ?_
                refine own_iload X14 hx (hb hby d_apply_237) rfl 239 rfl ?_
                refine own_ifcT X14 hx (hb hby d_apply_239) (tlt hc13).1 282 (by decide) (by decide) ?_
                refine own_goto X14 hx (hb hby d_apply_282) 15 (by decide) (by decide) ?_
                exact ih T14 T14.heap _ x14 i5 _ _ _ _ _ _ _ sz lv lo hi un ca wo14 re (One.val rfl) (One.val rfl) (One.val rfl) (One.val rfl) (One.val rfl) (One.val rfl) (One.val rfl) hF X14 N14 rfl D14 K14
              · replace hF := own_ifF hc13 hF
                refine own_ifcT X12 hx (hb hby d_apply_137) (flt hc13).2.1 153 (by decide) (by decide) ?_
                refine own_goto X12 hx (hb hby d_apply_153) 237 (by decide) (by decide) ?_
                refine own_iload X12 hx (hb hby d_apply_237) rfl 239 rfl ?_
                refine own_ifcF X12 hx (hb hby d_apply_239) (flt hc13).1 242 rfl ?_
                refine own_iload X12 hx (hb hby d_apply_242) rfl 244 rfl ?_
                refine own_aloadN X12 hx (hb hby d_apply_244) rfl rfl 245 rfl ?_
                refine own_getF X12 hx hZ hown (own_w28 hw) e12 (own_D_f_results Dx) (hb hby d_apply_245) 248 rfl (fun T15 X15 e15 => ?_)
                refine own_arrlen X15 hx hZ e15 (own_D_a_ar Dx) (z := (64 : Int32)) rfl (hb hby d_apply_248) 249 rfl ?_
                by_cases hc16 : i5 = (64 : Int32)
                · replace hF := own_ifT hc16 hF
                  refine own_icmpF X15 hx (hb hby d_apply_249) (teq hc16).2 252 rfl ?_
                  cases hF
                · replace hF := own_ifF hc16 hF
                  refine own_icmpT X15 hx (hb hby d_apply_249) (feq hc16).2 270 (by decide) (by decide) ?_
                  refine own_aloadN X15 hx (hb hby d_apply_270) rfl rfl 271 rfl ?_
                  refine own_getF X15 hx hZ hown (own_w28 hw) e15 (own_D_f_results Dx) (hb hby d_apply_271) 274 rfl (fun T17 X17 e17 => ?_)
                  refine own_iload X17 hx (hb hby d_apply_274) rfl 276 rfl ?_
                  refine own_iload X17 hx (hb hby d_apply_276) rfl 278 rfl ?_
                  obtain ⟨re18, g18, hF⟩ := own_b1_some hF
                  refine own_iastore X17 hx hZ e17 (own_D_a_ar Dx) (own_set_in g18) (hb hby d_apply_278) N12 (own_D_g_ar Dx) 279 rfl (fun T18 h18 l18 X18 N18 e18 W18 => ?_)
                  have D18 := own_D_w_ar Dx W18 g18
                  have K18 : Keep h0 h18 [d, al, ao, ah, au, ac, aw, ar] := K.wr W18 (Or.inl (List.mem_of_getElem? (i := 7) rfl))
                  refine own_iinc X18 hx (z := (i5 + (1 : Int32))) (#[.val (.ref d), .val (.int p1), .val (.int p2), .val (.int p3), .val (.int (i4 + (-5 : Int32))), .val (.int (i5 + (1 : Int32))), .val (.int x3), .val (.int x5), .val (.int x7), .val (.int x12), .val (.int (0 : Int32)), .val (.int x3), .val (.int x5)]) (hb hby d_apply_279) rfl rfl rfl 282 rfl ?_
                  refine own_goto X18 hx (hb hby d_apply_282) 15 (by decide) (by decide) ?_
                  exact ih T18 h18 _ (i4 + (-5 : Int32)) (i5 + (1 : Int32)) _ _ _ _ _ _ _ sz lv lo hi un ca wo re18 (One.val rfl) (One.val rfl) (One.val rfl) (One.val rfl) (One.val rfl) (One.val rfl) (One.val rfl) hF X18 N18 e18 D18 K18
            · replace hF := own_ifF hc11 hF
              refine own_icmpF X9 hx (hb hby d_apply_79) (feq hc11).1 82 rfl ?_
              refine own_iload X9 hx (hb hby d_apply_82) rfl 84 rfl ?_
              refine own_iload X9 hx (hb hby d_apply_84) rfl 86 rfl ?_
              by_cases hc19 : x5 < x3
              · replace hF := own_ifT hc19 hF
                refine own_icmpF X9 hx (hb hby d_apply_86) (tlt hc19).2.2.2 89 rfl ?_
                refine own_iconst X9 hx (z := (1 : Int32)) (hb hby d_apply_89) rfl 90 rfl ?_
                refine own_goto X9 hx (hb hby d_apply_90) 94 (by decide) (by decide) ?_
                refine own_istore X9 hx (#[.val (.ref d), .val (.int p1), .val (.int p2), .val (.int p3), .val (.int (i4 + (-5 : Int32))), .val (.int i5), .val (.int x3), .val (.int x5), .val (.int x7), .val (.int x9), .val (.int (1 : Int32)), s11, s12]) (hb hby d_apply_94) (XS.store1 rfl hs10 rfl) 96 rfl ?_
                refine own_iload X9 hx (hb hby d_apply_96) rfl 98 rfl ?_
                refine own_ifcF X9 hx (hb hby d_apply_98) (feq (by decide)).1 101 rfl ?_
                refine own_iload X9 hx (hb hby d_apply_101) rfl 103 rfl ?_
                refine own_goto X9 hx (hb hby d_apply_103) 108 (by decide) (by decide) ?_
                refine own_istore X9 hx (#[.val (.ref d), .val (.int p1), .val (.int p2), .val (.int p3), .val (.int (i4 + (-5 : Int32))), .val (.int i5), .val (.int x3), .val (.int x5), .val (.int x7), .val (.int x9), .val (.int (1 : Int32)), .val (.int x5), s12]) (hb hby d_apply_108) (XS.store1 rfl hs11 rfl) 110 rfl ?_
                refine own_iload X9 hx (hb hby d_apply_110) rfl 112 rfl ?_
                refine own_ifcF X9 hx (hb hby d_apply_112) (feq (by decide)).1 115 rfl ?_
                refine own_iload X9 hx (hb hby d_apply_115) rfl 117 rfl ?_
                refine own_goto X9 hx (hb hby d_apply_117) 122 (by decide) (by decide) ?_
                refine own_istore X9 hx (#[.val (.ref d), .val (.int p1), .val (.int p2), .val (.int p3), .val (.int (i4 + (-5 : Int32))), .val (.int i5), .val (.int x3), .val (.int x5), .val (.int x7), .val (.int x9), .val (.int (1 : Int32)), .val (.int x5), .val (.int x3)]) (hb hby d_apply_122) (XS.store1 rfl hs12 rfl) 124 rfl ?_
                refine own_aloadN X9 hx (hb hby d_apply_124) rfl rfl 125 rfl ?_
                refine own_iloadN X9 hx (hb hby d_apply_125) rfl 126 rfl ?_
                refine own_iload X9 hx (hb hby d_apply_126) rfl 128 rfl ?_
                refine own_iload X9 hx (hb hby d_apply_128) rfl 130 rfl ?_
                obtain ⟨x20, g20, hF⟩ := own_b1_some hF
                refine own_callP X9 hx hZ hown (own_w108 hw) (own_w109 hw) (own_w110 hw) (own_w2 hw) (own_w3 hw) (own_w111 hw) (by decide) 0 (own_m_cached l Z a0 hw _ n0 Dx p1 x5 x3 g20) e9 (own_D_exa Dx) (by rw [hml]; rfl) [(.int p1), (.int x5), (.int x3)] [] rfl (lenOf own_pd_2 rfl) rfl (Nat.le_of_eq rfl) (by decide) (by decide) (by decide) (by decide) (hb hby d_apply_130) N9 133 rfl (fun v20 T20 l20 X20 N20 hP20 => ?_)
                obtain ⟨rfl, e20⟩ := hP20
                show own_G p e below _ (T20.setTop (mkF m 133 #[.val (.ref d), .val (.int p1), .val (.int p2), .val (.int p3), .val (.int (i4 + (-5 : Int32))), .val (.int i5), .val (.int x3), .val (.int x5), .val (.int x7), .val (.int x9), .val (.int (1 : Int32)), .val (.int x5), .val (.int x3)] [(.int x20)]))
                refine own_istore X20 hx (#[.val (.ref d), .val (.int p1), .val (.int p2), .val (.int p3), .val (.int (i4 + (-5 : Int32))), .val (.int i5), .val (.int x3), .val (.int x5), .val (.int x7), .val (.int x20), .val (.int (1 : Int32)), .val (.int x5), .val (.int x3)]) (hb hby d_apply_133) rfl 135 rfl ?_
                refine own_iload X20 hx (hb hby d_apply_135) rfl 137 rfl ?_
                by_cases hc21 : x20 < (0 : Int32)
                · replace hF := own_ifT hc21 hF
                  refine own_ifcF X20 hx (hb hby d_apply_137) (tlt hc21).2.1 140 rfl ?_
                  refine own_aloadN X20 hx (hb hby d_apply_140) rfl rfl 141 rfl ?_
                  refine own_iloadN X20 hx (hb hby d_apply_141) rfl 142 rfl ?_
                  refine own_iload X20 hx (hb hby d_apply_142) rfl 144 rfl ?_
                  refine own_iload X20 hx (hb hby d_apply_144) rfl 146 rfl ?_
                  refine own_iload X20 hx (hb hby d_apply_146) rfl 148 rfl ?_
                  obtain ⟨x22, wo22, g22, hF⟩ := own_b2_some hF
                  refine own_callP X20 hx hZ hown (own_w112 hw) (own_w113 hw) (own_w114 hw) (own_w2 hw) (own_w3 hw) (own_w115 hw) (by decide) 0 (own_m_descend l Z a0 hw _ n0 Dx p1 x5 x3 (i4 + (-5 : Int32)) g22) e20 (own_D_exa Dx) (by rw [hml]; rfl) [(.int p1), (.int x5), (.int x3), (.int (i4 + (-5 : Int32)))] [] rfl (lenOf own_pd_6 rfl) rfl (Nat.le_of_eq rfl) (by decide) (by decide) (by decide) (by decide) (hb hby d_apply_148) N20 151 rfl (fun v22 T22 l22 X22 N22 hP22 => ?_)
                  obtain ⟨rfl, D22, K22'⟩ := hP22
                  have K22 : Keep h0 T22.heap [d, al, ao, ah, au, ac, aw, ar] := K.trans K22' (fun _ z => Or.inl z)
                  show own_G p e below _ (T22.setTop (mkF m 151 #[.val (.ref d), .val (.int p1), .val (.int p2), .val (.int p3), .val (.int (i4 + (-5 : Int32))), .val (.int i5), .val (.int x3), .val (.int x5), .val (.int x7), .val (.int x20), .val (.int (1 : Int32)), .val (.int x5), .val (.int x3)] [(.int x22)]))
                  refine own_istore X22 hx (#[.val (.ref d), .val (.int p1), .val (.int p2), .val (.int p3), .val (.int x22), .val (.int i5), .val (.int x3), .val (.int x5), .val (.int x7), .val (.int x20), .val (.int (1 : Int32)), .val (.int x5), .val (.int x3)]) (hb hby d_apply_151) rfl 153 rfl ?_
                  refine own_goto X22 hx (hb hby d_apply_153) 237 (by decide) (by decide) ?_
                  refine own_iload X22 hx (hb hby d_apply_237) rfl 239 rfl ?_
                  refine own_ifcT X22 hx (hb hby d_apply_239) (tlt hc21).1 282 (by decide) (by decide) ?_
                  refine own_goto X22 hx (hb hby d_apply_282) 15 (by decide) (by decide) ?_
                  exact ih T22 T22.heap _ x22 i5 _ _ _ _ _ _ _ sz lv lo hi un ca wo22 re (One.val rfl) (One.val rfl) (One.val rfl) (One.val rfl) (One.val rfl) (One.val rfl) (One.val rfl) hF X22 N22 rfl D22 K22
                · replace hF := own_ifF hc21 hF
                  refine own_ifcT X20 hx (hb hby d_apply_137) (flt hc21).2.1 153 (by decide) (by decide) ?_
                  refine own_goto X20 hx (hb hby d_apply_153) 237 (by decide) (by decide) ?_
                  refine own_iload X20 hx (hb hby d_apply_237) rfl 239 rfl ?_
                  refine own_ifcF X20 hx (hb hby d_apply_239) (flt hc21).1 242 rfl ?_
                  refine own_iload X20 hx (hb hby d_apply_242) rfl 244 rfl ?_
                  refine own_aloadN X20 hx (hb hby d_apply_244) rfl rfl 245 rfl ?_
                  refine own_getF X20 hx hZ hown (own_w28 hw) e20 (own_D_f_results Dx) (hb hby d_apply_245) 248 rfl (fun T23 X23 e23 => ?_)
                  refine own_arrlen X23 hx hZ e23 (own_D_a_ar Dx) (z := (64 : Int32)) rfl (hb hby d_apply_248) 249 rfl ?_
                  by_cases hc24 : i5 = (64 : Int32)
                  · replace hF := own_ifT hc24 hF
                    refine own_icmpF X23 hx (hb hby d_apply_249) (teq hc24).2 252 rfl ?_
                    cases hF
                  · replace hF := own_ifF hc24 hF
                    refine own_icmpT X23 hx (hb hby d_apply_249) (feq hc24).2 270 (by decide) (by decide) ?_
                    refine own_aloadN X23 hx (hb hby d_apply_270) rfl rfl 271 rfl ?_
                    refine own_getF X23 hx hZ hown (own_w28 hw) e23 (own_D_f_results Dx) (hb hby d_apply_271) 274 rfl (fun T25 X25 e25 => ?_)
                    refine own_iload X25 hx (hb hby d_apply_274) rfl 276 rfl ?_
                    refine own_iload X25 hx (hb hby d_apply_276) rfl 278 rfl ?_
                    obtain ⟨re26, g26, hF⟩ := own_b1_some hF
                    refine own_iastore X25 hx hZ e25 (own_D_a_ar Dx) (own_set_in g26) (hb hby d_apply_278) N20 (own_D_g_ar Dx) 279 rfl (fun T26 h26 l26 X26 N26 e26 W26 => ?_)
                    have D26 := own_D_w_ar Dx W26 g26
                    have K26 : Keep h0 h26 [d, al, ao, ah, au, ac, aw, ar] := K.wr W26 (Or.inl (List.mem_of_getElem? (i := 7) rfl))
                    refine own_iinc X26 hx (z := (i5 + (1 : Int32))) (#[.val (.ref d), .val (.int p1), .val (.int p2), .val (.int p3), .val (.int (i4 + (-5 : Int32))), .val (.int (i5 + (1 : Int32))), .val (.int x3), .val (.int x5), .val (.int x7), .val (.int x20), .val (.int (1 : Int32)), .val (.int x5), .val (.int x3)]) (hb hby d_apply_279) rfl rfl rfl 282 rfl ?_
                    refine own_goto X26 hx (hb hby d_apply_282) 15 (by decide) (by decide) ?_
                    exact ih T26 h26 _ (i4 + (-5 : Int32)) (i5 + (1 : Int32)) _ _ _ _ _ _ _ sz lv lo hi un ca wo re26 (One.val rfl) (One.val rfl) (One.val rfl) (One.val rfl) (One.val rfl) (One.val rfl) (One.val rfl) hF X26 N26 e26 D26 K26
              · replace hF := own_ifF hc19 hF
                refine own_icmpT X9 hx (hb hby d_apply_86) (flt hc19).2.2.2 93 (by decide) (by decide) ?_
                refine own_iconst X9 hx (z := (0 : Int32)) (hb hby d_apply_93) rfl 94 rfl ?_
                refine own_istore X9 hx (#[.val (.ref d), .val (.int p1), .val (.int p2), .val (.int p3), .val (.int (i4 + (-5 : Int32))), .val (.int i5), .val (.int x3), .val (.int x5), .val (.int x7), .val (.int x9), .val (.int (0 : Int32)), s11, s12]) (hb hby d_apply_94) (XS.store1 rfl hs10 rfl) 96 rfl ?_
                refine own_iload X9 hx (hb hby d_apply_96) rfl 98 rfl ?_
                refine own_ifcT X9 hx (hb hby d_apply_98) (teq (by decide)).1 106 (by decide) (by decide) ?_
                refine own_iload X9 hx (hb hby d_apply_106) rfl 108 rfl ?_
                refine own_istore X9 hx (#[.val (.ref d), .val (.int p1), .val (.int p2), .val (.int p3), .val (.int (i4 + (-5 : Int32))), .val (.int i5), .val (.int x3), .val (.int x5), .val (.int x7), .val (.int x9), .val (.int (0 : Int32)), .val (.int x3), s12]) (hb hby d_apply_108) (XS.store1 rfl hs11 rfl) 110 rfl ?_
                refine own_iload X9 hx (hb hby d_apply_110) rfl 112 rfl ?_
                refine own_ifcT X9 hx (hb hby d_apply_112) (teq (by decide)).1 120 (by decide) (by decide) ?_
                refine own_iload X9 hx (hb hby d_apply_120) rfl 122 rfl ?_
                refine own_istore X9 hx (#[.val (.ref d), .val (.int p1), .val (.int p2), .val (.int p3), .val (.int (i4 + (-5 : Int32))), .val (.int i5), .val (.int x3), .val (.int x5), .val (.int x7), .val (.int x9), .val (.int (0 : Int32)), .val (.int x3), .val (.int x5)]) (hb hby d_apply_122) (XS.store1 rfl hs12 rfl) 124 rfl ?_
                refine own_aloadN X9 hx (hb hby d_apply_124) rfl rfl 125 rfl ?_
                refine own_iloadN X9 hx (hb hby d_apply_125) rfl 126 rfl ?_
                refine own_iload X9 hx (hb hby d_apply_126) rfl 128 rfl ?_
                refine own_iload X9 hx (hb hby d_apply_128) rfl 130 rfl ?_
                obtain ⟨x27, g27, hF⟩ := own_b1_some hF
                refine own_callP X9 hx hZ hown (own_w108 hw) (own_w109 hw) (own_w110 hw) (own_w2 hw) (own_w3 hw) (own_w111 hw) (by decide) 0 (own_m_cached l Z a0 hw _ n0 Dx p1 x3 x5 g27) e9 (own_D_exa Dx) (by rw [hml]; rfl) [(.int p1), (.int x3), (.int x5)] [] rfl (lenOf own_pd_2 rfl) rfl (Nat.le_of_eq rfl) (by decide) (by decide) (by decide) (by decide) (hb hby d_apply_130) N9 133 rfl (fun v27 T27 l27 X27 N27 hP27 => ?_)
                obtain ⟨rfl, e27⟩ := hP27
                show own_G p e below _ (T27.setTop (mkF m 133 #[.val (.ref d), .val (.int p1), .val (.int p2), .val (.int p3), .val (.int (i4 + (-5 : Int32))), .val (.int i5), .val (.int x3), .val (.int x5), .val (.int x7), .val (.int x9), .val (.int (0 : Int32)), .val (.int x3), .val (.int x5)] [(.int x27)]))
                refine own_istore X27 hx (#[.val (.ref d), .val (.int p1), .val (.int p2), .val (.int p3), .val (.int (i4 + (-5 : Int32))), .val (.int i5), .val (.int x3), .val (.int x5), .val (.int x7), .val (.int x27), .val (.int (0 : Int32)), .val (.int x3), .val (.int x5)]) (hb hby d_apply_133) rfl 135 rfl ?_
                refine own_iload X27 hx (hb hby d_apply_135) rfl 137 rfl ?_
                by_cases hc28 : x27 < (0 : Int32)
                · replace hF := own_ifT hc28 hF
                  refine own_ifcF X27 hx (hb hby d_apply_137) (tlt hc28).2.1 140 rfl ?_
                  refine own_aloadN X27 hx (hb hby d_apply_140) rfl rfl 141 rfl ?_
                  refine own_iloadN X27 hx (hb hby d_apply_141) rfl 142 rfl ?_
                  refine own_iload X27 hx (hb hby d_apply_142) rfl 144 rfl ?_
                  refine own_iload X27 hx (hb hby d_apply_144) rfl 146 rfl ?_
                  refine own_iload X27 hx (hb hby d_apply_146) rfl 148 rfl ?_
                  obtain ⟨x29, wo29, g29, hF⟩ := own_b2_some hF
                  refine own_callP X27 hx hZ hown (own_w112 hw) (own_w113 hw) (own_w114 hw) (own_w2 hw) (own_w3 hw) (own_w115 hw) (by decide) 0 (own_m_descend l Z a0 hw _ n0 Dx p1 x3 x5 (i4 + (-5 : Int32)) g29) e27 (own_D_exa Dx) (by rw [hml]; rfl) [(.int p1), (.int x3), (.int x5), (.int (i4 + (-5 : Int32)))] [] rfl (lenOf own_pd_6 rfl) rfl (Nat.le_of_eq rfl) (by decide) (by decide) (by decide) (by decide) (hb hby d_apply_148) N27 151 rfl (fun v29 T29 l29 X29 N29 hP29 => ?_)
                  obtain ⟨rfl, D29, K29'⟩ := hP29
                  have K29 : Keep h0 T29.heap [d, al, ao, ah, au, ac, aw, ar] := K.trans K29' (fun _ z => Or.inl z)
                  show own_G p e below _ (T29.setTop (mkF m 151 #[.val (.ref d), .val (.int p1), .val (.int p2), .val (.int p3), .val (.int (i4 + (-5 : Int32))), .val (.int i5), .val (.int x3), .val (.int x5), .val (.int x7), .val (.int x27), .val (.int (0 : Int32)), .val (.int x3), .val (.int x5)] [(.int x29)]))
                  refine own_istore X29 hx (#[.val (.ref d), .val (.int p1), .val (.int p2), .val (.int p3), .val (.int x29), .val (.int i5), .val (.int x3), .val (.int x5), .val (.int x7), .val (.int x27), .val (.int (0 : Int32)), .val (.int x3), .val (.int x5)]) (hb hby d_apply_151) rfl 153 rfl ?_
                  refine own_goto X29 hx (hb hby d_apply_153) 237 (by decide) (by decide) ?_
                  refine own_iload X29 hx (hb hby d_apply_237) rfl 239 rfl ?_
                  refine own_ifcT X29 hx (hb hby d_apply_239) (tlt hc28).1 282 (by decide) (by decide) ?_
                  refine own_goto X29 hx (hb hby d_apply_282) 15 (by decide) (by decide) ?_
                  exact ih T29 T29.heap _ x29 i5 _ _ _ _ _ _ _ sz lv lo hi un ca wo29 re (One.val rfl) (One.val rfl) (One.val rfl) (One.val rfl) (One.val rfl) (One.val rfl) (One.val rfl) hF X29 N29 rfl D29 K29
                · replace hF := own_ifF hc28 hF
                  refine own_ifcT X27 hx (hb hby d_apply_137) (flt hc28).2.1 153 (by decide) (by decide) ?_
                  refine own_goto X27 hx (hb hby d_apply_153) 237 (by decide) (by decide) ?_
                  refine own_iload X27 hx (hb hby d_apply_237) rfl 239 rfl ?_
                  refine own_ifcF X27 hx (hb hby d_apply_239) (flt hc28).1 242 rfl ?_
                  refine own_iload X27 hx (hb hby d_apply_242) rfl 244 rfl ?_
                  refine own_aloadN X27 hx (hb hby d_apply_244) rfl rfl 245 rfl ?_
                  refine own_getF X27 hx hZ hown (own_w28 hw) e27 (own_D_f_results Dx) (hb hby d_apply_245) 248 rfl (fun T30 X30 e30 => ?_)
                  refine own_arrlen X30 hx hZ e30 (own_D_a_ar Dx) (z := (64 : Int32)) rfl (hb hby d_apply_248) 249 rfl ?_
                  by_cases hc31 : i5 = (64 : Int32)
                  · replace hF := own_ifT hc31 hF
                    refine own_icmpF X30 hx (hb hby d_apply_249) (teq hc31).2 252 rfl ?_
                    cases hF
                  · replace hF := own_ifF hc31 hF
                    refine own_icmpT X30 hx (hb hby d_apply_249) (feq hc31).2 270 (by decide) (by decide) ?_
                    refine own_aloadN X30 hx (hb hby d_apply_270) rfl rfl 271 rfl ?_
                    refine own_getF X30 hx hZ hown (own_w28 hw) e30 (own_D_f_results Dx) (hb hby d_apply_271) 274 rfl (fun T32 X32 e32 => ?_)
                    refine own_iload X32 hx (hb hby d_apply_274) rfl 276 rfl ?_
                    refine own_iload X32 hx (hb hby d_apply_276) rfl 278 rfl ?_
                    obtain ⟨re33, g33, hF⟩ := own_b1_some hF
                    refine own_iastore X32 hx hZ e32 (own_D_a_ar Dx) (own_set_in g33) (hb hby d_apply_278) N27 (own_D_g_ar Dx) 279 rfl (fun T33 h33 l33 X33 N33 e33 W33 => ?_)
                    have D33 := own_D_w_ar Dx W33 g33
                    have K33 : Keep h0 h33 [d, al, ao, ah, au, ac, aw, ar] := K.wr W33 (Or.inl (List.mem_of_getElem? (i := 7) rfl))
                    refine own_iinc X33 hx (z := (i5 + (1 : Int32))) (#[.val (.ref d), .val (.int p1), .val (.int p2), .val (.int p3), .val (.int (i4 + (-5 : Int32))), .val (.int (i5 + (1 : Int32))), .val (.int x3), .val (.int x5), .val (.int x7), .val (.int x27), .val (.int (0 : Int32)), .val (.int x3), .val (.int x5)]) (hb hby d_apply_279) rfl rfl rfl 282 rfl ?_
                    refine own_goto X33 hx (hb hby d_apply_282) 15 (by decide) (by decide) ?_
                    exact ih T33 h33 _ (i4 + (-5 : Int32)) (i5 + (1 : Int32)) _ _ _ _ _ _ _ sz lv lo hi un ca wo re33 (One.val rfl) (One.val rfl) (One.val rfl) (One.val rfl) (One.val rfl) (One.val rfl) (One.val rfl) hF X33 N33 e33 D33 K33
          · replace hF := own_ifF hc10 hF
            refine own_icmpT X9 hx (hb hby d_apply_74) (feq hc10).2 237 (by decide) (by decide) ?_
            refine own_iload X9 hx (hb hby d_apply_237) rfl 239 rfl ?_
            by_cases hc34 : x9 < (0 : Int32)
            · replace hF := own_ifT hc34 hF
              refine own_ifcT X9 hx (hb hby d_apply_239) (tlt hc34).1 282 (by decide) (by decide) ?_
              refine own_goto X9 hx (hb hby d_apply_282) 15 (by decide) (by decide) ?_
              exact ih T9 h _ (i4 + (-5 : Int32)) i5 _ _ _ _ _ _ _ sz lv lo hi un ca wo re (One.val rfl) (One.val rfl) (One.val rfl) (One.val rfl) hs10 hs11 hs12 hF X9 N9 e9 Dx K
            · replace hF := own_ifF hc34 hF
              refine own_ifcF X9 hx (hb hby d_apply_239) (flt hc34).1 242 rfl ?_
              refine own_iload X9 hx (hb hby d_apply_242) rfl 244 rfl ?_
              refine own_aloadN X9 hx (hb hby d_apply_244) rfl rfl 245 rfl ?_
              refine own_getF X9 hx hZ hown (own_w28 hw) e9 (own_D_f_results Dx) (hb hby d_apply_245) 248 rfl (fun T35 X35 e35 => ?_)
              refine own_arrlen X35 hx hZ e35 (own_D_a_ar Dx) (z := (64 : Int32)) rfl (hb hby d_apply_248) 249 rfl ?_
              by_cases hc36 : i5 = (64 : Int32)
              · replace hF := own_ifT hc36 hF
                refine own_icmpF X35 hx (hb hby d_apply_249) (teq hc36).2 252 rfl ?_
                cases hF
              · replace hF := own_ifF hc36 hF
                refine own_icmpT X35 hx (hb hby d_apply_249) (feq hc36).2 270 (by decide) (by decide) ?_
                refine own_aloadN X35 hx (hb hby d_apply_270) rfl rfl 271 rfl ?_
                refine own_getF X35 hx hZ hown (own_w28 hw) e35 (own_D_f_results Dx) (hb hby d_apply_271) 274 rfl (fun T37 X37 e37 => ?_)
                refine own_iload X37 hx (hb hby d_apply_274) rfl 276 rfl ?_
                refine own_iload X37 hx (hb hby d_apply_276) rfl 278 rfl ?_
                obtain ⟨re38, g38, hF⟩ := own_b1_some hF
                refine own_iastore X37 hx hZ e37 (own_D_a_ar Dx) (own_set_in g38) (hb hby d_apply_278) N9 (own_D_g_ar Dx) 279 rfl (fun T38 h38 l38 X38 N38 e38 W38 => ?_)
                have D38 := own_D_w_ar Dx W38 g38
                have K38 : Keep h0 h38 [d, al, ao, ah, au, ac, aw, ar] := K.wr W38 (Or.inl (List.mem_of_getElem? (i := 7) rfl))
                refine own_iinc X38 hx (z := (i5 + (1 : Int32))) (#[.val (.ref d), .val (.int p1), .val (.int p2), .val (.int p3), .val (.int (i4 + (-5 : Int32))), .val (.int (i5 + (1 : Int32))), .val (.int x3), .val (.int x5), .val (.int x7), .val (.int x9), s10, s11, s12]) (hb hby d_apply_279) rfl rfl rfl 282 rfl ?_
                refine own_goto X38 hx (hb hby d_apply_282) 15 (by decide) (by decide) ?_
                exact ih T38 h38 _ (i4 + (-5 : Int32)) (i5 + (1 : Int32)) _ _ _ _ _ _ _ sz lv lo hi un ca wo re38 (One.val rfl) (One.val rfl) (One.val rfl) (One.val rfl) hs10 hs11 hs12 hF X38 N38 e38 D38 K38
        · replace hF := own_ifF hc8 hF
          refine own_icmpT X6 hx (hb hby d_apply_57) (feq hc8).2 156 (by decide) (by decide) ?_
          refine own_aloadN X6 hx (hb hby d_apply_156) rfl rfl 157 rfl ?_
          refine own_getF X6 hx hZ hown (own_w26 hw) e6 (own_D_f_work Dx) (hb hby d_apply_157) 160 rfl (fun T39 X39 e39 => ?_)
          refine own_iload X39 hx (hb hby d_apply_160) rfl 162 rfl ?_
          refine own_iconst X39 hx (z := (4 : Int32)) (hb hby d_apply_162) rfl 163 rfl ?_
          refine own_iadd X39 hx (hb hby d_apply_163) 164 rfl ?_
          obtain ⟨x40, g40, hF⟩ := own_b1_some hF
          refine own_iaload X39 hx hZ e39 (own_D_a_aw Dx) (own_get_in g40) (own_get_val g40) (hb hby d_apply_164) 165 rfl ?_
          refine own_istore X39 hx (#[.val (.ref d), .val (.int p1), .val (.int p2), .val (.int p3), .val (.int (i4 + (-5 : Int32))), .val (.int i5), .val (.int x3), .val (.int x5), .val (.int x7), s9, .val (.int x40), s11, s12]) (hb hby d_apply_165) (XS.store1 rfl hs10 rfl) 167 rfl ?_
          refine own_iload X39 hx (hb hby d_apply_167) rfl 169 rfl ?_
          refine own_iconst X39 hx (z := (-1 : Int32)) (hb hby d_apply_169) rfl 170 rfl ?_
          by_cases hc41 : x40 = (-1 : Int32)
          · replace hF := own_ifT hc41 hF
            refine own_icmpF X39 hx (hb hby d_apply_170) (teq hc41).2 173 rfl ?_
            refine own_iinc X39 hx (z := (i5 + (-1 : Int32))) (#[.val (.ref d), .val (.int p1), .val (.int p2), .val (.int p3), .val (.int (i4 + (-5 : Int32))), .val (.int (i5 + (-1 : Int32))), .val (.int x3), .val (.int x5), .val (.int x7), s9, .val (.int x40), s11, s12]) (hb hby d_apply_173) rfl rfl rfl 176 rfl ?_
            refine own_aloadN X39 hx (hb hby d_apply_176) rfl rfl 177 rfl ?_
            refine own_getF X39 hx hZ hown (own_w28 hw) e39 (own_D_f_results Dx) (hb hby d_apply_177) 180 rfl (fun T42 X42 e42 => ?_)
            refine own_iload X42 hx (hb hby d_apply_180) rfl 182 rfl ?_
            obtain ⟨x43, g43, hF⟩ := own_b1_some hF
            refine own_iaload X42 hx hZ e42 (own_D_a_ar Dx) (own_get_in g43) (own_get_val g43) (hb hby d_apply_182) 183 rfl ?_
            refine own_istore X42 hx (#[.val (.ref d), .val (.int p1), .val (.int p2), .val (.int p3), .val (.int (i4 + (-5 : Int32))), .val (.int (i5 + (-1 : Int32))), .val (.int x3), .val (.int x5), .val (.int x7), s9, .val (.int x43), s11, s12]) (hb hby d_apply_183) rfl 185 rfl ?_
            refine own_aloadN X42 hx (hb hby d_apply_185) rfl rfl 186 rfl ?_
            refine own_getF X42 hx hZ hown (own_w26 hw) e42 (own_D_f_work Dx) (hb hby d_apply_186) 189 rfl (fun T44 X44 e44 => ?_)
            refine own_iload X44 hx (hb hby d_apply_189) rfl 191 rfl ?_
            refine own_iconst X44 hx (z := (3 : Int32)) (hb hby d_apply_191) rfl 192 rfl ?_
            refine own_iadd X44 hx (hb hby d_apply_192) 193 rfl ?_
            obtain ⟨x45, g45, hF⟩ := own_b1_some hF
            refine own_iaload X44 hx hZ e44 (own_D_a_aw Dx) (own_get_in g45) (own_get_val g45) (hb hby d_apply_193) 194 rfl ?_
            refine own_istore X44 hx (#[.val (.ref d), .val (.int p1), .val (.int p2), .val (.int p3), .val (.int (i4 + (-5 : Int32))), .val (.int (i5 + (-1 : Int32))), .val (.int x3), .val (.int x5), .val (.int x7), s9, .val (.int x43), .val (.int x45), s12]) (hb hby d_apply_194) (XS.store1 rfl hs11 rfl) 196 rfl ?_
            refine own_iload X44 hx (hb hby d_apply_196) rfl 198 rfl ?_
            refine own_iconst X44 hx (z := (-1 : Int32)) (hb hby d_apply_198) rfl 199 rfl ?_
            by_cases hc46 : x45 = (-1 : Int32)
            · replace hF := own_ifT hc46 hF
              refine own_icmpF X44 hx (hb hby d_apply_199) (teq hc46).2 202 rfl ?_
              refine own_iinc X44 hx (z := ((i5 + (-1 : Int32)) + (-1 : Int32))) (#[.val (.ref d), .val (.int p1), .val (.int p2), .val (.int p3), .val (.int (i4 + (-5 : Int32))), .val (.int ((i5 + (-1 : Int32)) + (-1 : Int32))), .val (.int x3), .val (.int x5), .val (.int x7), s9, .val (.int x43), .val (.int x45), s12]) (hb hby d_apply_202) rfl rfl rfl 205 rfl ?_
              refine own_aloadN X44 hx (hb hby d_apply_205) rfl rfl 206 rfl ?_
              refine own_getF X44 hx hZ hown (own_w28 hw) e44 (own_D_f_results Dx) (hb hby d_apply_206) 209 rfl (fun T47 X47 e47 => ?_)
              refine own_iload X47 hx (hb hby d_apply_209) rfl 211 rfl ?_
              obtain ⟨x48, g48, hF⟩ := own_b1_some hF
              refine own_iaload X47 hx hZ e47 (own_D_a_ar Dx) (own_get_in g48) (own_get_val g48) (hb hby d_apply_211) 212 rfl ?_
              refine own_istore X47 hx (#[.val (.ref d), .val (.int p1), .val (.int p2), .val (.int p3), .val (.int (i4 + (-5 : Int32))), .val (.int ((i5 + (-1 : Int32)) + (-1 : Int32))), .val (.int x3), .val (.int x5), .val (.int x7), s9, .val (.int x43), .val (.int x48), s12]) (hb hby d_apply_212) rfl 214 rfl ?_
              refine own_aloadN X47 hx (hb hby d_apply_214) rfl rfl 215 rfl ?_
              refine own_iload X47 hx (hb hby d_apply_215) rfl 217 rfl ?_
              refine own_iload X47 hx (hb hby d_apply_217) rfl 219 rfl ?_
              refine own_iload X47 hx (hb hby d_apply_219) rfl 221 rfl ?_
              obtain ⟨x49, sz49, lv49, lo49, hi49, un49, g49, hF⟩ := own_b6_some hF
              refine own_callP X47 hx hZ hown (own_w57 hw) (own_w58 hw) (own_w59 hw) (own_w2 hw) (own_w3 hw) (own_w60 hw) (by decide) 0 (own_m_node l Z a0 hw _ n0 Dx x7 x48 x43 g49) e47 (own_D_exa Dx) (by rw [hml]; rfl) [(.int x7), (.int x48), (.int x43)] [] rfl (lenOf own_pd_2 rfl) rfl (Nat.le_of_eq rfl) (by decide) (by decide) (by decide) (by decide) (hb hby d_apply_221) N 224 rfl (fun v49 T49 l49 X49 N49 hP49 => ?_)
              obtain ⟨rfl, D49, K49'⟩ := hP49
              have K49 : Keep h0 T49.heap [d, al, ao, ah, au, ac, aw, ar] := K.trans K49' (fun _ z => Or.inl z)
              show own_G p e below _ (T49.setTop (mkF m 224 #[.val (.ref d), .val (.int p1), .val (.int p2), .val (.int p3), .val (.int (i4 + (-5 : Int32))), .val (.int ((i5 + (-1 : Int32)) + (-1 : Int32))), .val (.int x3), .val (.int x5), .val (.int x7), s9, .val (.int x43), .val (.int x48), s12] [(.int x49)]))
              refine own_istore X49 hx (#[.val (.ref d), .val (.int p1), .val (.int p2), .val (.int p3), .val (.int (i4 + (-5 : Int32))), .val (.int ((i5 + (-1 : Int32)) + (-1 : Int32))), .val (.int x3), .val (.int x5), .val (.int x7), .val (.int x49), .val (.int x43), .val (.int x48), s12]) (hb hby d_apply_224) (XS.store1 rfl hs9 rfl) 226 rfl ?_
              refine own_aloadN X49 hx (hb hby d_apply_226) rfl rfl 227 rfl ?_
              refine own_iloadN X49 hx (hb hby d_apply_227) rfl 228 rfl ?_
              refine own_iload X49 hx (hb hby d_apply_228) rfl 230 rfl ?_
              refine own_iload X49 hx (hb hby d_apply_230) rfl 232 rfl ?_
              refine own_iload X49 hx (hb hby d_apply_232) rfl 234 rfl ?_
              obtain ⟨ca50, g50, hF⟩ := own_b1_some hF
              refine own_callP X49 hx hZ hown (own_w124 hw) (own_w125 hw) (own_w126 hw) (own_w2 hw) (own_w3 hw) (own_w127 hw) (by decide) 0 (own_m_remember l Z a0 hw _ n0 D49 p1 x3 x5 x49 g50) rfl (own_D_exa D49) (by rw [hml]; rfl) [(.int p1), (.int x3), (.int x5), (.int x49)] [] rfl (lenOf own_pd_7 rfl) rfl (Nat.le_of_eq rfl) (by decide) (by decide) (by decide) (by decide) (hb hby d_apply_234) N49 237 rfl (fun v50 T50 l50 X50 N50 hP50 => ?_)
              obtain ⟨rfl, D50, K50'⟩ := hP50
              have K50 : Keep h0 T50.heap [d, al, ao, ah, au, ac, aw, ar] := K49.trans K50' (fun _ z => Or.inl z)
              show own_G p e below _ (T50.setTop (mkF m 237 #[.val (.ref d), .val (.int p1), .val (.int p2), .val (.int p3), .val (.int (i4 + (-5 : Int32))), .val (.int ((i5 + (-1 : Int32)) + (-1 : Int32))), .val (.int x3), .val (.int x5), .val (.int x7), .val (.int x49), .val (.int x43), .val (.int x48), s12] []))
              refine own_iload X50 hx (hb hby d_apply_237) rfl 239 rfl ?_
              by_cases hc51 : x49 < (0 : Int32)
              · replace hF := own_ifT hc51 hF
                refine own_ifcT X50 hx (hb hby d_apply_239) (tlt hc51).1 282 (by decide) (by decide) ?_
                refine own_goto X50 hx (hb hby d_apply_282) 15 (by decide) (by decide) ?_
                exact ih T50 T50.heap _ (i4 + (-5 : Int32)) ((i5 + (-1 : Int32)) + (-1 : Int32)) _ _ _ _ _ _ _ sz49 lv49 lo49 hi49 un49 ca50 wo re (One.val rfl) (One.val rfl) (One.val rfl) (One.val rfl) (One.val rfl) (One.val rfl) hs12 hF X50 N50 rfl D50 K50
              · replace hF := own_ifF hc51 hF
                refine own_ifcF X50 hx (hb hby d_apply_239) (flt hc51).1 242 rfl ?_
                refine own_iload X50 hx (hb hby d_apply_242) rfl 244 rfl ?_
                refine own_aloadN X50 hx (hb hby d_apply_244) rfl rfl 245 rfl ?_
                refine own_getF X50 hx hZ hown (own_w28 hw) rfl (own_D_f_results D50) (hb hby d_apply_245) 248 rfl (fun T52 X52 e52 => ?_)
                refine own_arrlen X52 hx hZ e52 (own_D_a_ar D50) (z := (64 : Int32)) rfl (hb hby d_apply_248) 249 rfl ?_
                by_cases hc53 : ((i5 + (-1 : Int32)) + (-1 : Int32)) = (64 : Int32)
                · replace hF := own_ifT hc53 hF
                  refine own_icmpF X52 hx (hb hby d_apply_249) (teq hc53).2 252 rfl ?_
                  cases hF
                · replace hF := own_ifF hc53 hF
                  refine own_icmpT X52 hx (hb hby d_apply_249) (feq hc53).2 270 (by decide) (by decide) ?_
                  refine own_aloadN X52 hx (hb hby d_apply_270) rfl rfl 271 rfl ?_
                  refine own_getF X52 hx hZ hown (own_w28 hw) e52 (own_D_f_results D50) (hb hby d_apply_271) 274 rfl (fun T54 X54 e54 => ?_)
                  refine own_iload X54 hx (hb hby d_apply_274) rfl 276 rfl ?_
                  refine own_iload X54 hx (hb hby d_apply_276) rfl 278 rfl ?_
                  obtain ⟨re55, g55, hF⟩ := own_b1_some hF
                  refine own_iastore X54 hx hZ e54 (own_D_a_ar D50) (own_set_in g55) (hb hby d_apply_278) N50 (own_D_g_ar D50) 279 rfl (fun T55 h55 l55 X55 N55 e55 W55 => ?_)
                  have D55 := own_D_w_ar D50 W55 g55
                  have K55 : Keep h0 h55 [d, al, ao, ah, au, ac, aw, ar] := K50.wr W55 (Or.inl (List.mem_of_getElem? (i := 7) rfl))
                  refine own_iinc X55 hx (z := (((i5 + (-1 : Int32)) + (-1 : Int32)) + (1 : Int32))) (#[.val (.ref d), .val (.int p1), .val (.int p2), .val (.int p3), .val (.int (i4 + (-5 : Int32))), .val (.int (((i5 + (-1 : Int32)) + (-1 : Int32)) + (1 : Int32))), .val (.int x3), .val (.int x5), .val (.int x7), .val (.int x49), .val (.int x43), .val (.int x48), s12]) (hb hby d_apply_279) rfl rfl rfl 282 rfl ?_
                  refine own_goto X55 hx (hb hby d_apply_282) 15 (by decide) (by decide) ?_
                  exact ih T55 h55 _ (i4 + (-5 : Int32)) (((i5 + (-1 : Int32)) + (-1 : Int32)) + (1 : Int32)) _ _ _ _ _ _ _ sz49 lv49 lo49 hi49 un49 ca50 wo re55 (One.val rfl) (One.val rfl) (One.val rfl) (One.val rfl) (One.val rfl) (One.val rfl) hs12 hF X55 N55 e55 D55 K55
            · replace hF := own_ifF hc46 hF
              refine own_icmpT X44 hx (hb hby d_apply_199) (feq hc46).2 214 (by decide) (by decide) ?_
              refine own_aloadN X44 hx (hb hby d_apply_214) rfl rfl 215 rfl ?_
              refine own_iload X44 hx (hb hby d_apply_215) rfl 217 rfl ?_
              refine own_iload X44 hx (hb hby d_apply_217) rfl 219 rfl ?_
              refine own_iload X44 hx (hb hby d_apply_219) rfl 221 rfl ?_
              obtain ⟨x56, sz56, lv56, lo56, hi56, un56, g56, hF⟩ := own_b6_some hF
              refine own_callP X44 hx hZ hown (own_w57 hw) (own_w58 hw) (own_w59 hw) (own_w2 hw) (own_w3 hw) (own_w60 hw) (by decide) 0 (own_m_node l Z a0 hw _ n0 Dx x7 x45 x43 g56) e44 (own_D_exa Dx) (by rw [hml]; rfl) [(.int x7), (.int x45), (.int x43)] [] rfl (lenOf own_pd_2 rfl) rfl (Nat.le_of_eq rfl) (by decide) (by decide) (by decide) (by decide) (hb hby d_apply_221) N 224 rfl (fun v56 T56 l56 X56 N56 hP56 => ?_)
              obtain ⟨rfl, D56, K56'⟩ := hP56
              have K56 : Keep h0 T56.heap [d, al, ao, ah, au, ac, aw, ar] := K.trans K56' (fun _ z => Or.inl z)
              show own_G p e below _ (T56.setTop (mkF m 224 #[.val (.ref d), .val (.int p1), .val (.int p2), .val (.int p3), .val (.int (i4 + (-5 : Int32))), .val (.int (i5 + (-1 : Int32))), .val (.int x3), .val (.int x5), .val (.int x7), s9, .val (.int x43), .val (.int x45), s12] [(.int x56)]))
              refine own_istore X56 hx (#[.val (.ref d), .val (.int p1), .val (.int p2), .val (.int p3), .val (.int (i4 + (-5 : Int32))), .val (.int (i5 + (-1 : Int32))), .val (.int x3), .val (.int x5), .val (.int x7), .val (.int x56), .val (.int x43), .val (.int x45), s12]) (hb hby d_apply_224) (XS.store1 rfl hs9 rfl) 226 rfl ?_
              refine own_aloadN X56 hx (hb hby d_apply_226) rfl rfl 227 rfl ?_
              refine own_iloadN X56 hx (hb hby d_apply_227) rfl 228 rfl ?_
              refine own_iload X56 hx (hb hby d_apply_228) rfl 230 rfl ?_
              refine own_iload X56 hx (hb hby d_apply_230) rfl 232 rfl ?_
              refine own_iload X56 hx (hb hby d_apply_232) rfl 234 rfl ?_
              obtain ⟨ca57, g57, hF⟩ := own_b1_some hF
              refine own_callP X56 hx hZ hown (own_w124 hw) (own_w125 hw) (own_w126 hw) (own_w2 hw) (own_w3 hw) (own_w127 hw) (by decide) 0 (own_m_remember l Z a0 hw _ n0 D56 p1 x3 x5 x56 g57) rfl (own_D_exa D56) (by rw [hml]; rfl) [(.int p1), (.int x3), (.int x5), (.int x56)] [] rfl (lenOf own_pd_7 rfl) rfl (Nat.le_of_eq rfl) (by decide) (by decide) (by decide) (by decide) (hb hby d_apply_234) N56 237 rfl (fun v57 T57 l57 X57 N57 hP57 => ?_)
              obtain ⟨rfl, D57, K57'⟩ := hP57
              have K57 : Keep h0 T57.heap [d, al, ao, ah, au, ac, aw, ar] := K56.trans K57' (fun _ z => Or.inl z)
              show own_G p e below _ (T57.setTop (mkF m 237 #[.val (.ref d), .val (.int p1), .val (.int p2), .val (.int p3), .val (.int (i4 + (-5 : Int32))), .val (.int (i5 + (-1 : Int32))), .val (.int x3), .val (.int x5), .val (.int x7), .val (.int x56), .val (.int x43), .val (.int x45), s12] []))
              refine own_iload X57 hx (hb hby d_apply_237) rfl 239 rfl ?_
              by_cases hc58 : x56 < (0 : Int32)
              · replace hF := own_ifT hc58 hF
                refine own_ifcT X57 hx (hb hby d_apply_239) (tlt hc58).1 282 (by decide) (by decide) ?_
                refine own_goto X57 hx (hb hby d_apply_282) 15 (by decide) (by decide) ?_
                exact ih T57 T57.heap _ (i4 + (-5 : Int32)) (i5 + (-1 : Int32)) _ _ _ _ _ _ _ sz56 lv56 lo56 hi56 un56 ca57 wo re (One.val rfl) (One.val rfl) (One.val rfl) (One.val rfl) (One.val rfl) (One.val rfl) hs12 hF X57 N57 rfl D57 K57
              · replace hF := own_ifF hc58 hF
                refine own_ifcF X57 hx (hb hby d_apply_239) (flt hc58).1 242 rfl ?_
                refine own_iload X57 hx (hb hby d_apply_242) rfl 244 rfl ?_
                refine own_aloadN X57 hx (hb hby d_apply_244) rfl rfl 245 rfl ?_
                refine own_getF X57 hx hZ hown (own_w28 hw) rfl (own_D_f_results D57) (hb hby d_apply_245) 248 rfl (fun T59 X59 e59 => ?_)
                refine own_arrlen X59 hx hZ e59 (own_D_a_ar D57) (z := (64 : Int32)) rfl (hb hby d_apply_248) 249 rfl ?_
                by_cases hc60 : (i5 + (-1 : Int32)) = (64 : Int32)
                · replace hF := own_ifT hc60 hF
                  refine own_icmpF X59 hx (hb hby d_apply_249) (teq hc60).2 252 rfl ?_
                  cases hF
                · replace hF := own_ifF hc60 hF
                  refine own_icmpT X59 hx (hb hby d_apply_249) (feq hc60).2 270 (by decide) (by decide) ?_
                  refine own_aloadN X59 hx (hb hby d_apply_270) rfl rfl 271 rfl ?_
                  refine own_getF X59 hx hZ hown (own_w28 hw) e59 (own_D_f_results D57) (hb hby d_apply_271) 274 rfl (fun T61 X61 e61 => ?_)
                  refine own_iload X61 hx (hb hby d_apply_274) rfl 276 rfl ?_
                  refine own_iload X61 hx (hb hby d_apply_276) rfl 278 rfl ?_
                  obtain ⟨re62, g62, hF⟩ := own_b1_some hF
                  refine own_iastore X61 hx hZ e61 (own_D_a_ar D57) (own_set_in g62) (hb hby d_apply_278) N57 (own_D_g_ar D57) 279 rfl (fun T62 h62 l62 X62 N62 e62 W62 => ?_)
                  have D62 := own_D_w_ar D57 W62 g62
                  have K62 : Keep h0 h62 [d, al, ao, ah, au, ac, aw, ar] := K57.wr W62 (Or.inl (List.mem_of_getElem? (i := 7) rfl))
                  refine own_iinc X62 hx (z := ((i5 + (-1 : Int32)) + (1 : Int32))) (#[.val (.ref d), .val (.int p1), .val (.int p2), .val (.int p3), .val (.int (i4 + (-5 : Int32))), .val (.int ((i5 + (-1 : Int32)) + (1 : Int32))), .val (.int x3), .val (.int x5), .val (.int x7), .val (.int x56), .val (.int x43), .val (.int x45), s12]) (hb hby d_apply_279) rfl rfl rfl 282 rfl ?_
                  refine own_goto X62 hx (hb hby d_apply_282) 15 (by decide) (by decide) ?_
                  exact ih T62 h62 _ (i4 + (-5 : Int32)) ((i5 + (-1 : Int32)) + (1 : Int32)) _ _ _ _ _ _ _ sz56 lv56 lo56 hi56 un56 ca57 wo re62 (One.val rfl) (One.val rfl) (One.val rfl) (One.val rfl) (One.val rfl) (One.val rfl) hs12 hF X62 N62 e62 D62 K62
          · replace hF := own_ifF hc41 hF
            refine own_icmpT X39 hx (hb hby d_apply_170) (feq hc41).2 185 (by decide) (by decide) ?_
            refine own_aloadN X39 hx (hb hby d_apply_185) rfl rfl 186 rfl ?_
            refine own_getF X39 hx hZ hown (own_w26 hw) e39 (own_D_f_work Dx) (hb hby d_apply_186) 189 rfl (fun T63 X63 e63 => ?_)
            refine own_iload X63 hx (hb hby d_apply_189) rfl 191 rfl ?_
            refine own_iconst X63 hx (z := (3 : Int32)) (hb hby d_apply_191) rfl 192 rfl ?_
            refine own_iadd X63 hx (hb hby d_apply_192) 193 rfl ?_
            obtain ⟨x64, g64, hF⟩ := own_b1_some hF
            refine own_iaload X63 hx hZ e63 (own_D_a_aw Dx) (own_get_in g64) (own_get_val g64) (hb hby d_apply_193) 194 rfl ?_
            refine own_istore X63 hx (#[.val (.ref d), .val (.int p1), .val (.int p2), .val (.int p3), .val (.int (i4 + (-5 : Int32))), .val (.int i5), .val (.int x3), .val (.int x5), .val (.int x7), s9, .val (.int x40), .val (.int x64), s12]) (hb hby d_apply_194) (XS.store1 rfl hs11 rfl) 196 rfl ?_
            refine own_iload X63 hx (hb hby d_apply_196) rfl 198 rfl ?_
            refine own_iconst X63 hx (z := (-1 : Int32)) (hb hby d_apply_198) rfl 199 rfl ?_
            by_cases hc65 : x64 = (-1 : Int32)
            · replace hF := own_ifT hc65 hF
              refine own_icmpF X63 hx (hb hby d_apply_199) (teq hc65).2 202 rfl ?_
              refine own_iinc X63 hx (z := (i5 + (-1 : Int32))) (#[.val (.ref d), .val (.int p1), .val (.int p2), .val (.int p3), .val (.int (i4 + (-5 : Int32))), .val (.int (i5 + (-1 : Int32))), .val (.int x3), .val (.int x5), .val (.int x7), s9, .val (.int x40), .val (.int x64), s12]) (hb hby d_apply_202) rfl rfl rfl 205 rfl ?_
              refine own_aloadN X63 hx (hb hby d_apply_205) rfl rfl 206 rfl ?_
              refine own_getF X63 hx hZ hown (own_w28 hw) e63 (own_D_f_results Dx) (hb hby d_apply_206) 209 rfl (fun T66 X66 e66 => ?_)
              refine own_iload X66 hx (hb hby d_apply_209) rfl 211 rfl ?_
              obtain ⟨x67, g67, hF⟩ := own_b1_some hF
              refine own_iaload X66 hx hZ e66 (own_D_a_ar Dx) (own_get_in g67) (own_get_val g67) (hb hby d_apply_211) 212 rfl ?_
              refine own_istore X66 hx (#[.val (.ref d), .val (.int p1), .val (.int p2), .val (.int p3), .val (.int (i4 + (-5 : Int32))), .val (.int (i5 + (-1 : Int32))), .val (.int x3), .val (.int x5), .val (.int x7), s9, .val (.int x40), .val (.int x67), s12]) (hb hby d_apply_212) rfl 214 rfl ?_
              refine own_aloadN X66 hx (hb hby d_apply_214) rfl rfl 215 rfl ?_
              refine own_iload X66 hx (hb hby d_apply_215) rfl 217 rfl ?_
              refine own_iload X66 hx (hb hby d_apply_217) rfl 219 rfl ?_
              refine own_iload X66 hx (hb hby d_apply_219) rfl 221 rfl ?_
              obtain ⟨x68, sz68, lv68, lo68, hi68, un68, g68, hF⟩ := own_b6_some hF
              refine own_callP X66 hx hZ hown (own_w57 hw) (own_w58 hw) (own_w59 hw) (own_w2 hw) (own_w3 hw) (own_w60 hw) (by decide) 0 (own_m_node l Z a0 hw _ n0 Dx x7 x67 x40 g68) e66 (own_D_exa Dx) (by rw [hml]; rfl) [(.int x7), (.int x67), (.int x40)] [] rfl (lenOf own_pd_2 rfl) rfl (Nat.le_of_eq rfl) (by decide) (by decide) (by decide) (by decide) (hb hby d_apply_221) N 224 rfl (fun v68 T68 l68 X68 N68 hP68 => ?_)
              obtain ⟨rfl, D68, K68'⟩ := hP68
              have K68 : Keep h0 T68.heap [d, al, ao, ah, au, ac, aw, ar] := K.trans K68' (fun _ z => Or.inl z)
              show own_G p e below _ (T68.setTop (mkF m 224 #[.val (.ref d), .val (.int p1), .val (.int p2), .val (.int p3), .val (.int (i4 + (-5 : Int32))), .val (.int (i5 + (-1 : Int32))), .val (.int x3), .val (.int x5), .val (.int x7), s9, .val (.int x40), .val (.int x67), s12] [(.int x68)]))
              refine own_istore X68 hx (#[.val (.ref d), .val (.int p1), .val (.int p2), .val (.int p3), .val (.int (i4 + (-5 : Int32))), .val (.int (i5 + (-1 : Int32))), .val (.int x3), .val (.int x5), .val (.int x7), .val (.int x68), .val (.int x40), .val (.int x67), s12]) (hb hby d_apply_224) (XS.store1 rfl hs9 rfl) 226 rfl ?_
              refine own_aloadN X68 hx (hb hby d_apply_226) rfl rfl 227 rfl ?_
              refine own_iloadN X68 hx (hb hby d_apply_227) rfl 228 rfl ?_
              refine own_iload X68 hx (hb hby d_apply_228) rfl 230 rfl ?_
              refine own_iload X68 hx (hb hby d_apply_230) rfl 232 rfl ?_
              refine own_iload X68 hx (hb hby d_apply_232) rfl 234 rfl ?_
              obtain ⟨ca69, g69, hF⟩ := own_b1_some hF
              refine own_callP X68 hx hZ hown (own_w124 hw) (own_w125 hw) (own_w126 hw) (own_w2 hw) (own_w3 hw) (own_w127 hw) (by decide) 0 (own_m_remember l Z a0 hw _ n0 D68 p1 x3 x5 x68 g69) rfl (own_D_exa D68) (by rw [hml]; rfl) [(.int p1), (.int x3), (.int x5), (.int x68)] [] rfl (lenOf own_pd_7 rfl) rfl (Nat.le_of_eq rfl) (by decide) (by decide) (by decide) (by decide) (hb hby d_apply_234) N68 237 rfl (fun v69 T69 l69 X69 N69 hP69 => ?_)
              obtain ⟨rfl, D69, K69'⟩ := hP69
              have K69 : Keep h0 T69.heap [d, al, ao, ah, au, ac, aw, ar] := K68.trans K69' (fun _ z => Or.inl z)
              show own_G p e below _ (T69.setTop (mkF m 237 #[.val (.ref d), .val (.int p1), .val (.int p2), .val (.int p3), .val (.int (i4 + (-5 : Int32))), .val (.int (i5 + (-1 : Int32))), .val (.int x3), .val (.int x5), .val (.int x7), .val (.int x68), .val (.int x40), .val (.int x67), s12] []))
              refine own_iload X69 hx (hb hby d_apply_237) rfl 239 rfl ?_
              by_cases hc70 : x68 < (0 : Int32)
              · replace hF := own_ifT hc70 hF
                refine own_ifcT X69 hx (hb hby d_apply_239) (tlt hc70).1 282 (by decide) (by decide) ?_
                refine own_goto X69 hx (hb hby d_apply_282) 15 (by decide) (by decide) ?_
                exact ih T69 T69.heap _ (i4 + (-5 : Int32)) (i5 + (-1 : Int32)) _ _ _ _ _ _ _ sz68 lv68 lo68 hi68 un68 ca69 wo re (One.val rfl) (One.val rfl) (One.val rfl) (One.val rfl) (One.val rfl) (One.val rfl) hs12 hF X69 N69 rfl D69 K69
              · replace hF := own_ifF hc70 hF
                refine own_ifcF X69 hx (hb hby d_apply_239) (flt hc70).1 242 rfl ?_
                refine own_iload X69 hx (hb hby d_apply_242) rfl 244 rfl ?_
                refine own_aloadN X69 hx (hb hby d_apply_244) rfl rfl 245 rfl ?_
                refine own_getF X69 hx hZ hown (own_w28 hw) rfl (own_D_f_results D69) (hb hby d_apply_245) 248 rfl (fun T71 X71 e71 => ?_)
                refine own_arrlen X71 hx hZ e71 (own_D_a_ar D69) (z := (64 : Int32)) rfl (hb hby d_apply_248) 249 rfl ?_
                by_cases hc72 : (i5 + (-1 : Int32)) = (64 : Int32)
                · replace hF := own_ifT hc72 hF
                  refine own_icmpF X71 hx (hb hby d_apply_249) (teq hc72).2 252 rfl ?_
                  cases hF
                · replace hF := own_ifF hc72 hF
                  refine own_icmpT X71 hx (hb hby d_apply_249) (feq hc72).2 270 (by decide) (by decide) ?_
                  refine own_aloadN X71 hx (hb hby d_apply_270) rfl rfl 271 rfl ?_
                  refine own_getF X71 hx hZ hown (own_w28 hw) e71 (own_D_f_results D69) (hb hby d_apply_271) 274 rfl (fun T73 X73 e73 => ?_)
                  refine own_iload X73 hx (hb hby d_apply_274) rfl 276 rfl ?_
                  refine own_iload X73 hx (hb hby d_apply_276) rfl 278 rfl ?_
                  obtain ⟨re74, g74, hF⟩ := own_b1_some hF
                  refine own_iastore X73 hx hZ e73 (own_D_a_ar D69) (own_set_in g74) (hb hby d_apply_278) N69 (own_D_g_ar D69) 279 rfl (fun T74 h74 l74 X74 N74 e74 W74 => ?_)
                  have D74 := own_D_w_ar D69 W74 g74
                  have K74 : Keep h0 h74 [d, al, ao, ah, au, ac, aw, ar] := K69.wr W74 (Or.inl (List.mem_of_getElem? (i := 7) rfl))
                  refine own_iinc X74 hx (z := ((i5 + (-1 : Int32)) + (1 : Int32))) (#[.val (.ref d), .val (.int p1), .val (.int p2), .val (.int p3), .val (.int (i4 + (-5 : Int32))), .val (.int ((i5 + (-1 : Int32)) + (1 : Int32))), .val (.int x3), .val (.int x5), .val (.int x7), .val (.int x68), .val (.int x40), .val (.int x67), s12]) (hb hby d_apply_279) rfl rfl rfl 282 rfl ?_
                  refine own_goto X74 hx (hb hby d_apply_282) 15 (by decide) (by decide) ?_
                  exact ih T74 h74 _ (i4 + (-5 : Int32)) ((i5 + (-1 : Int32)) + (1 : Int32)) _ _ _ _ _ _ _ sz68 lv68 lo68 hi68 un68 ca69 wo re74 (One.val rfl) (One.val rfl) (One.val rfl) (One.val rfl) (One.val rfl) (One.val rfl) hs12 hF X74 N74 e74 D74 K74
            · replace hF := own_ifF hc65 hF
              refine own_icmpT X63 hx (hb hby d_apply_199) (feq hc65).2 214 (by decide) (by decide) ?_
              refine own_aloadN X63 hx (hb hby d_apply_214) rfl rfl 215 rfl ?_
              refine own_iload X63 hx (hb hby d_apply_215) rfl 217 rfl ?_
              refine own_iload X63 hx (hb hby d_apply_217) rfl 219 rfl ?_
              refine own_iload X63 hx (hb hby d_apply_219) rfl 221 rfl ?_
              obtain ⟨x75, sz75, lv75, lo75, hi75, un75, g75, hF⟩ := own_b6_some hF
              refine own_callP X63 hx hZ hown (own_w57 hw) (own_w58 hw) (own_w59 hw) (own_w2 hw) (own_w3 hw) (own_w60 hw) (by decide) 0 (own_m_node l Z a0 hw _ n0 Dx x7 x64 x40 g75) e63 (own_D_exa Dx) (by rw [hml]; rfl) [(.int x7), (.int x64), (.int x40)] [] rfl (lenOf own_pd_2 rfl) rfl (Nat.le_of_eq rfl) (by decide) (by decide) (by decide) (by decide) (hb hby d_apply_221) N 224 rfl (fun v75 T75 l75 X75 N75 hP75 => ?_)
              obtain ⟨rfl, D75, K75'⟩ := hP75
              have K75 : Keep h0 T75.heap [d, al, ao, ah, au, ac, aw, ar] := K.trans K75' (fun _ z => Or.inl z)
              show own_G p e below _ (T75.setTop (mkF m 224 #[.val (.ref d), .val (.int p1), .val (.int p2), .val (.int p3), .val (.int (i4 + (-5 : Int32))), .val (.int i5), .val (.int x3), .val (.int x5), .val (.int x7), s9, .val (.int x40), .val (.int x64), s12] [(.int x75)]))
              refine own_istore X75 hx (#[.val (.ref d), .val (.int p1), .val (.int p2), .val (.int p3), .val (.int (i4 + (-5 : Int32))), .val (.int i5), .val (.int x3), .val (.int x5), .val (.int x7), .val (.int x75), .val (.int x40), .val (.int x64), s12]) (hb hby d_apply_224) (XS.store1 rfl hs9 rfl) 226 rfl ?_
              refine own_aloadN X75 hx (hb hby d_apply_226) rfl rfl 227 rfl ?_
              refine own_iloadN X75 hx (hb hby d_apply_227) rfl 228 rfl ?_
              refine own_iload X75 hx (hb hby d_apply_228) rfl 230 rfl ?_
              refine own_iload X75 hx (hb hby d_apply_230) rfl 232 rfl ?_
              refine own_iload X75 hx (hb hby d_apply_232) rfl 234 rfl ?_
              obtain ⟨ca76, g76, hF⟩ := own_b1_some hF
              refine own_callP X75 hx hZ hown (own_w124 hw) (own_w125 hw) (own_w126 hw) (own_w2 hw) (own_w3 hw) (own_w127 hw) (by decide) 0 (own_m_remember l Z a0 hw _ n0 D75 p1 x3 x5 x75 g76) rfl (own_D_exa D75) (by rw [hml]; rfl) [(.int p1), (.int x3), (.int x5), (.int x75)] [] rfl (lenOf own_pd_7 rfl) rfl (Nat.le_of_eq rfl) (by decide) (by decide) (by decide) (by decide) (hb hby d_apply_234) N75 237 rfl (fun v76 T76 l76 X76 N76 hP76 => ?_)
              obtain ⟨rfl, D76, K76'⟩ := hP76
              have K76 : Keep h0 T76.heap [d, al, ao, ah, au, ac, aw, ar] := K75.trans K76' (fun _ z => Or.inl z)
              show own_G p e below _ (T76.setTop (mkF m 237 #[.val (.ref d), .val (.int p1), .val (.int p2), .val (.int p3), .val (.int (i4 + (-5 : Int32))), .val (.int i5), .val (.int x3), .val (.int x5), .val (.int x7), .val (.int x75), .val (.int x40), .val (.int x64), s12] []))
              refine own_iload X76 hx (hb hby d_apply_237) rfl 239 rfl ?_
              by_cases hc77 : x75 < (0 : Int32)
              · replace hF := own_ifT hc77 hF
                refine own_ifcT X76 hx (hb hby d_apply_239) (tlt hc77).1 282 (by decide) (by decide) ?_
                refine own_goto X76 hx (hb hby d_apply_282) 15 (by decide) (by decide) ?_
                exact ih T76 T76.heap _ (i4 + (-5 : Int32)) i5 _ _ _ _ _ _ _ sz75 lv75 lo75 hi75 un75 ca76 wo re (One.val rfl) (One.val rfl) (One.val rfl) (One.val rfl) (One.val rfl) (One.val rfl) hs12 hF X76 N76 rfl D76 K76
              · replace hF := own_ifF hc77 hF
                refine own_ifcF X76 hx (hb hby d_apply_239) (flt hc77).1 242 rfl ?_
                refine own_iload X76 hx (hb hby d_apply_242) rfl 244 rfl ?_
                refine own_aloadN X76 hx (hb hby d_apply_244) rfl rfl 245 rfl ?_
                refine own_getF X76 hx hZ hown (own_w28 hw) rfl (own_D_f_results D76) (hb hby d_apply_245) 248 rfl (fun T78 X78 e78 => ?_)
                refine own_arrlen X78 hx hZ e78 (own_D_a_ar D76) (z := (64 : Int32)) rfl (hb hby d_apply_248) 249 rfl ?_
                by_cases hc79 : i5 = (64 : Int32)
                · replace hF := own_ifT hc79 hF
                  refine own_icmpF X78 hx (hb hby d_apply_249) (teq hc79).2 252 rfl ?_
                  cases hF
                · replace hF := own_ifF hc79 hF
                  refine own_icmpT X78 hx (hb hby d_apply_249) (feq hc79).2 270 (by decide) (by decide) ?_
                  refine own_aloadN X78 hx (hb hby d_apply_270) rfl rfl 271 rfl ?_
                  refine own_getF X78 hx hZ hown (own_w28 hw) e78 (own_D_f_results D76) (hb hby d_apply_271) 274 rfl (fun T80 X80 e80 => ?_)
                  refine own_iload X80 hx (hb hby d_apply_274) rfl 276 rfl ?_
                  refine own_iload X80 hx (hb hby d_apply_276) rfl 278 rfl ?_
                  obtain ⟨re81, g81, hF⟩ := own_b1_some hF
                  refine own_iastore X80 hx hZ e80 (own_D_a_ar D76) (own_set_in g81) (hb hby d_apply_278) N76 (own_D_g_ar D76) 279 rfl (fun T81 h81 l81 X81 N81 e81 W81 => ?_)
                  have D81 := own_D_w_ar D76 W81 g81
                  have K81 : Keep h0 h81 [d, al, ao, ah, au, ac, aw, ar] := K76.wr W81 (Or.inl (List.mem_of_getElem? (i := 7) rfl))
                  refine own_iinc X81 hx (z := (i5 + (1 : Int32))) (#[.val (.ref d), .val (.int p1), .val (.int p2), .val (.int p3), .val (.int (i4 + (-5 : Int32))), .val (.int (i5 + (1 : Int32))), .val (.int x3), .val (.int x5), .val (.int x7), .val (.int x75), .val (.int x40), .val (.int x64), s12]) (hb hby d_apply_279) rfl rfl rfl 282 rfl ?_
                  refine own_goto X81 hx (hb hby d_apply_282) 15 (by decide) (by decide) ?_
                  exact ih T81 h81 _ (i4 + (-5 : Int32)) (i5 + (1 : Int32)) _ _ _ _ _ _ _ sz75 lv75 lo75 hi75 un75 ca76 wo re81 (One.val rfl) (One.val rfl) (One.val rfl) (One.val rfl) (One.val rfl) (One.val rfl) hs12 hF X81 N81 e81 D81 K81
      · replace hF := own_ifF hc1 hF
        refine own_ifcT X hx (hb hby d_apply_17) (flt hc1).2.2.2 285 (by decide) (by decide) ?_
        refine own_aloadN X hx (hb hby d_apply_285) rfl rfl 286 rfl ?_
        refine own_getF X hx hZ hown (own_w28 hw) eT (own_D_f_results Dx) (hb hby d_apply_286) 289 rfl (fun T82 X82 e82 => ?_)
        refine own_iconst X82 hx (z := (0 : Int32)) (hb hby d_apply_289) rfl 290 rfl ?_
        obtain ⟨x83, g83, hF⟩ := own_b1_some hF
        refine own_iaload X82 hx hZ e82 (own_D_a_ar Dx) (own_get_in g83) (own_get_val g83) (hb hby d_apply_290) 291 rfl ?_
        cases hF
        exact own_retI X82 hx hret hlk (hb hby d_apply_291) (Nat.le_refl _) (Nat.le_refl _) N e82 ⟨rfl, Dx, K⟩
  refine own_aloadN X0 hx (hb hby d_apply_0) rfl rfl 1 rfl ?_
  refine own_iconst X0 hx (z := (0 : Int32)) (hb hby d_apply_1) rfl 2 rfl ?_
  refine own_iloadN X0 hx (hb hby d_apply_2) rfl 3 rfl ?_
  refine own_iloadN X0 hx (hb hby d_apply_3) rfl 4 rfl ?_
  refine own_iconst X0 hx (z := (-1 : Int32)) (hb hby d_apply_4) rfl 5 rfl ?_
  refine own_iconst X0 hx (z := (-1 : Int32)) (hb hby d_apply_5) rfl 6 rfl ?_
  refine own_iconst X0 hx (z := (-1 : Int32)) (hb hby d_apply_6) rfl 7 rfl ?_
  obtain ⟨x84, wo84, g84, hF⟩ := own_b2_some hF
  refine own_callP X0 hx hZ hown (own_w79 hw) (own_w80 hw) (own_w81 hw) (own_w2 hw) (own_w3 hw) (own_w82 hw) (by decide) 0 (own_m_push l Z a0 hw _ n0 D (0 : Int32) p2 p3 (-1 : Int32) (-1 : Int32) (-1 : Int32) g84) e0 (own_D_exa D) (by rw [hml]; rfl) [(.int (0 : Int32)), (.int p2), (.int p3), (.int (-1 : Int32)), (.int (-1 : Int32)), (.int (-1 : Int32))] [] rfl (lenOf own_pd_4 rfl) rfl (Nat.le_of_eq rfl) (by decide) (by decide) (by decide) (by decide) (hb hby d_apply_7) N0 10 rfl (fun v84 T84 l84 X84 N84 hP84 => ?_)
  obtain ⟨rfl, D84, K84'⟩ := hP84
  have K84 : Keep h0 T84.heap [d, al, ao, ah, au, ac, aw, ar] := K0.trans K84' (fun _ z => Or.inl z)
  show own_G p e below _ (T84.setTop (mkF m 10 #[.val (.ref d), .val (.int p1), .val (.int p2), .val (.int p3), .unset, .unset, .unset, .unset, .unset, .unset, .unset, .unset, .unset] [(.int x84)]))
  refine own_istore X84 hx (#[.val (.ref d), .val (.int p1), .val (.int p2), .val (.int p3), .val (.int x84), .unset, .unset, .unset, .unset, .unset, .unset, .unset, .unset]) (hb hby d_apply_10) rfl 12 rfl ?_
  refine own_iconst X84 hx (z := (0 : Int32)) (hb hby d_apply_12) rfl 13 rfl ?_
  refine own_istore X84 hx (#[.val (.ref d), .val (.int p1), .val (.int p2), .val (.int p3), .val (.int x84), .val (.int (0 : Int32)), .unset, .unset, .unset, .unset, .unset, .unset, .unset]) (hb hby d_apply_13) rfl 15 rfl ?_
  exact loop 64 T84 T84.heap _ x84 (0 : Int32) _ _ _ _ _ _ _ sz lv lo hi un ca wo84 re One.u One.u One.u One.u One.u One.u One.u hF X84 N84 rfl D84 K84
/-- and's model -/
def own_f_and (lim : Int32) (sz : Int32) (lv : own_L) (lo : own_L) (hi : own_L) (un : own_L) (ca : own_L) (wo : own_L) (re : own_L) (p1 p2 : Int32) : Option (Int32 × Int32 × own_L × own_L × own_L × own_L × own_L × own_L × own_L) :=
  own_b9 (own_f_apply lim sz lv lo hi un ca wo re (0 : Int32) p1 p2) fun x1 sz1 lv1 lo1 hi1 un1 ca1 wo1 re1 =>
  some (x1, sz1, lv1, lo1, hi1, un1, ca1, wo1, re1)
theorem d_and_0 : decode prog_81_method_10_code 0 = .ok (.aload_n 0, 1) := by decide +kernel
theorem d_and_1 : decode prog_81_method_10_code 1 = .ok (.iconst 0, 1) := by decide +kernel
theorem d_and_2 : decode prog_81_method_10_code 2 = .ok (.iload_n 1, 1) := by decide +kernel
theorem d_and_3 : decode prog_81_method_10_code 3 = .ok (.iload_n 2, 1) := by decide +kernel
theorem d_and_4 : decode prog_81_method_10_code 4 = .ok (.invokevirtual 87, 3) := by decide +kernel
theorem d_and_7 : decode prog_81_method_10_code 7 = .ok (.ireturn, 1) := by decide +kernel
theorem own_ef_and (m : MethodId) (d : Addr) (p1 : Int32) (p2 : Int32) : entryFrame m #[(.ref d), (.int p1), (.int p2)] 3 = mkF m 0 #[.val (.ref d), .val (.int p1), .val (.int p2)] [] := by first | (simp [entryFrame, mkF, argsToLocals, Value.category]; done) | rfl
set_option maxRecDepth 65536 in
set_option maxHeartbeats 40000000 in
theorem own_m_and (l : Launch) (Z : State) (a0 : Array Value) (hw : ∀ d ∈ tables_1, d.before a0 Z = true) (h0 : Heap) (n0 : Nat) {d al ao ah au ac aw ar : Addr} {lim sz : Int32} {lv lo hi un ca wo re : own_L} (D : own_Dg Z n0 h0 d al ao ah au ac aw ar lim sz lv lo hi un ca wo re) (p1 p2 : Int32) {r : Int32} {sz' : Int32} {lv' lo' hi' un' ca' wo' re' : own_L} (hF : own_f_and lim sz lv lo hi un ca wo re p1 p2 = some (r, sz', lv', lo', hi', un', ca', wo', re')) : own_Met l Z ⟨"com/example/orbweaver/orbweaver/synthesis/Diagrams", "and", "(II)I"⟩ prog_81_method_10_code 3 (some .int) [] ({ frames := 3, cells := 0, slots := 0, locals := 66 } : Room) #[.ref d, .int p1, .int p2] h0 n0 (fun v h => v = some (.int r) ∧ own_Dg Z n0 h d al ao ah au ac aw ar lim sz' lv' lo' hi' un' ca' wo' re' ∧ Keep h0 h [d, al, ao, ah, au, ac, aw, ar]) := by
  unfold own_f_and at hF
  refine own_body (plainFor_of_name own_pn_Diagrams) ?_
  intro p e s m below meth c T0 X0 hx hby hml hown hnm hZ e0 hret hlk
  have N0 := Fr.nil n0
  have K0 : Keep h0 h0 [d, al, ao, ah, au, ac, aw, ar] := Keep.refl _ _
  refine own_cast (own_ef_and m d p1 p2) ?_
  refine own_aloadN X0 hx (hb hby d_and_0) rfl rfl 1 rfl ?_
  refine own_iconst X0 hx (z := (0 : Int32)) (hb hby d_and_1) rfl 2 rfl ?_
  refine own_iloadN X0 hx (hb hby d_and_2) rfl 3 rfl ?_
  refine own_iloadN X0 hx (hb hby d_and_3) rfl 4 rfl ?_
  obtain ⟨x1, sz1, lv1, lo1, hi1, un1, ca1, wo1, re1, g1, hF⟩ := own_b9_some hF
  refine own_callP X0 hx hZ hown (own_w75 hw) (own_w76 hw) (own_w77 hw) (own_w2 hw) (own_w3 hw) (own_w78 hw) (by decide) 0 (own_m_apply l Z a0 hw _ n0 D (0 : Int32) p1 p2 g1) e0 (own_D_exa D) (by rw [hml]; rfl) [(.int (0 : Int32)), (.int p1), (.int p2)] [] rfl (lenOf own_pd_2 rfl) rfl (Nat.le_of_eq rfl) (by decide) (by decide) (by decide) (by decide) (hb hby d_and_4) N0 7 rfl (fun v1 T1 l1 X1 N1 hP1 => ?_)
  obtain ⟨rfl, D1, K1'⟩ := hP1
  have K1 : Keep h0 T1.heap [d, al, ao, ah, au, ac, aw, ar] := K0.trans K1' (fun _ z => Or.inl z)
  show own_G p e below _ (T1.setTop (mkF m 7 #[.val (.ref d), .val (.int p1), .val (.int p2)] [(.int x1)]))
  cases hF
  exact own_retI X1 hx hret hlk (hb hby d_and_7) (Nat.le_refl _) (Nat.le_refl _) N1 rfl ⟨rfl, D1, K1⟩
/-- or's model -/
def own_f_or (lim : Int32) (sz : Int32) (lv : own_L) (lo : own_L) (hi : own_L) (un : own_L) (ca : own_L) (wo : own_L) (re : own_L) (p1 p2 : Int32) : Option (Int32 × Int32 × own_L × own_L × own_L × own_L × own_L × own_L × own_L) :=
  own_b9 (own_f_apply lim sz lv lo hi un ca wo re (1 : Int32) p1 p2) fun x1 sz1 lv1 lo1 hi1 un1 ca1 wo1 re1 =>
  some (x1, sz1, lv1, lo1, hi1, un1, ca1, wo1, re1)
theorem d_or_0 : decode prog_81_method_11_code 0 = .ok (.aload_n 0, 1) := by decide +kernel
theorem d_or_1 : decode prog_81_method_11_code 1 = .ok (.iconst 1, 1) := by decide +kernel
theorem d_or_2 : decode prog_81_method_11_code 2 = .ok (.iload_n 1, 1) := by decide +kernel
theorem d_or_3 : decode prog_81_method_11_code 3 = .ok (.iload_n 2, 1) := by decide +kernel
theorem d_or_4 : decode prog_81_method_11_code 4 = .ok (.invokevirtual 87, 3) := by decide +kernel
theorem d_or_7 : decode prog_81_method_11_code 7 = .ok (.ireturn, 1) := by decide +kernel
theorem own_ef_or (m : MethodId) (d : Addr) (p1 : Int32) (p2 : Int32) : entryFrame m #[(.ref d), (.int p1), (.int p2)] 3 = mkF m 0 #[.val (.ref d), .val (.int p1), .val (.int p2)] [] := by first | (simp [entryFrame, mkF, argsToLocals, Value.category]; done) | rfl
set_option maxRecDepth 65536 in
set_option maxHeartbeats 40000000 in
theorem own_m_or (l : Launch) (Z : State) (a0 : Array Value) (hw : ∀ d ∈ tables_1, d.before a0 Z = true) (h0 : Heap) (n0 : Nat) {d al ao ah au ac aw ar : Addr} {lim sz : Int32} {lv lo hi un ca wo re : own_L} (D : own_Dg Z n0 h0 d al ao ah au ac aw ar lim sz lv lo hi un ca wo re) (p1 p2 : Int32) {r : Int32} {sz' : Int32} {lv' lo' hi' un' ca' wo' re' : own_L} (hF : own_f_or lim sz lv lo hi un ca wo re p1 p2 = some (r, sz', lv', lo', hi', un', ca', wo', re')) : own_Met l Z ⟨"com/example/orbweaver/orbweaver/synthesis/Diagrams", "or", "(II)I"⟩ prog_81_method_11_code 3 (some .int) [] ({ frames := 3, cells := 0, slots := 0, locals := 66 } : Room) #[.ref d, .int p1, .int p2] h0 n0 (fun v h => v = some (.int r) ∧ own_Dg Z n0 h d al ao ah au ac aw ar lim sz' lv' lo' hi' un' ca' wo' re' ∧ Keep h0 h [d, al, ao, ah, au, ac, aw, ar]) := by
  unfold own_f_or at hF
  refine own_body (plainFor_of_name own_pn_Diagrams) ?_
  intro p e s m below meth c T0 X0 hx hby hml hown hnm hZ e0 hret hlk
  have N0 := Fr.nil n0
  have K0 : Keep h0 h0 [d, al, ao, ah, au, ac, aw, ar] := Keep.refl _ _
  refine own_cast (own_ef_or m d p1 p2) ?_
  refine own_aloadN X0 hx (hb hby d_or_0) rfl rfl 1 rfl ?_
  refine own_iconst X0 hx (z := (1 : Int32)) (hb hby d_or_1) rfl 2 rfl ?_
  refine own_iloadN X0 hx (hb hby d_or_2) rfl 3 rfl ?_
  refine own_iloadN X0 hx (hb hby d_or_3) rfl 4 rfl ?_
  obtain ⟨x1, sz1, lv1, lo1, hi1, un1, ca1, wo1, re1, g1, hF⟩ := own_b9_some hF
  refine own_callP X0 hx hZ hown (own_w75 hw) (own_w76 hw) (own_w77 hw) (own_w2 hw) (own_w3 hw) (own_w78 hw) (by decide) 0 (own_m_apply l Z a0 hw _ n0 D (1 : Int32) p1 p2 g1) e0 (own_D_exa D) (by rw [hml]; rfl) [(.int (1 : Int32)), (.int p1), (.int p2)] [] rfl (lenOf own_pd_2 rfl) rfl (Nat.le_of_eq rfl) (by decide) (by decide) (by decide) (by decide) (hb hby d_or_4) N0 7 rfl (fun v1 T1 l1 X1 N1 hP1 => ?_)
  obtain ⟨rfl, D1, K1'⟩ := hP1
  have K1 : Keep h0 T1.heap [d, al, ao, ah, au, ac, aw, ar] := K0.trans K1' (fun _ z => Or.inl z)
  show own_G p e below _ (T1.setTop (mkF m 7 #[.val (.ref d), .val (.int p1), .val (.int p2)] [(.int x1)]))
  cases hF
  exact own_retI X1 hx hret hlk (hb hby d_or_7) (Nat.le_refl _) (Nat.le_refl _) N1 rfl ⟨rfl, D1, K1⟩
/-- iff's model -/
def own_f_iff (lim : Int32) (sz : Int32) (lv : own_L) (lo : own_L) (hi : own_L) (un : own_L) (ca : own_L) (wo : own_L) (re : own_L) (p1 p2 : Int32) : Option (Int32 × Int32 × own_L × own_L × own_L × own_L × own_L × own_L × own_L) :=
  own_b9 (own_f_apply lim sz lv lo hi un ca wo re (2 : Int32) p1 p2) fun x1 sz1 lv1 lo1 hi1 un1 ca1 wo1 re1 =>
  some (x1, sz1, lv1, lo1, hi1, un1, ca1, wo1, re1)
theorem d_iff_0 : decode prog_81_method_12_code 0 = .ok (.aload_n 0, 1) := by decide +kernel
theorem d_iff_1 : decode prog_81_method_12_code 1 = .ok (.iconst 2, 1) := by decide +kernel
theorem d_iff_2 : decode prog_81_method_12_code 2 = .ok (.iload_n 1, 1) := by decide +kernel
theorem d_iff_3 : decode prog_81_method_12_code 3 = .ok (.iload_n 2, 1) := by decide +kernel
theorem d_iff_4 : decode prog_81_method_12_code 4 = .ok (.invokevirtual 87, 3) := by decide +kernel
theorem d_iff_7 : decode prog_81_method_12_code 7 = .ok (.ireturn, 1) := by decide +kernel
theorem own_ef_iff (m : MethodId) (d : Addr) (p1 : Int32) (p2 : Int32) : entryFrame m #[(.ref d), (.int p1), (.int p2)] 3 = mkF m 0 #[.val (.ref d), .val (.int p1), .val (.int p2)] [] := by first | (simp [entryFrame, mkF, argsToLocals, Value.category]; done) | rfl
set_option maxRecDepth 65536 in
set_option maxHeartbeats 40000000 in
theorem own_m_iff (l : Launch) (Z : State) (a0 : Array Value) (hw : ∀ d ∈ tables_1, d.before a0 Z = true) (h0 : Heap) (n0 : Nat) {d al ao ah au ac aw ar : Addr} {lim sz : Int32} {lv lo hi un ca wo re : own_L} (D : own_Dg Z n0 h0 d al ao ah au ac aw ar lim sz lv lo hi un ca wo re) (p1 p2 : Int32) {r : Int32} {sz' : Int32} {lv' lo' hi' un' ca' wo' re' : own_L} (hF : own_f_iff lim sz lv lo hi un ca wo re p1 p2 = some (r, sz', lv', lo', hi', un', ca', wo', re')) : own_Met l Z ⟨"com/example/orbweaver/orbweaver/synthesis/Diagrams", "iff", "(II)I"⟩ prog_81_method_12_code 3 (some .int) [] ({ frames := 3, cells := 0, slots := 0, locals := 66 } : Room) #[.ref d, .int p1, .int p2] h0 n0 (fun v h => v = some (.int r) ∧ own_Dg Z n0 h d al ao ah au ac aw ar lim sz' lv' lo' hi' un' ca' wo' re' ∧ Keep h0 h [d, al, ao, ah, au, ac, aw, ar]) := by
  unfold own_f_iff at hF
  refine own_body (plainFor_of_name own_pn_Diagrams) ?_
  intro p e s m below meth c T0 X0 hx hby hml hown hnm hZ e0 hret hlk
  have N0 := Fr.nil n0
  have K0 : Keep h0 h0 [d, al, ao, ah, au, ac, aw, ar] := Keep.refl _ _
  refine own_cast (own_ef_iff m d p1 p2) ?_
  refine own_aloadN X0 hx (hb hby d_iff_0) rfl rfl 1 rfl ?_
  refine own_iconst X0 hx (z := (2 : Int32)) (hb hby d_iff_1) rfl 2 rfl ?_
  refine own_iloadN X0 hx (hb hby d_iff_2) rfl 3 rfl ?_
  refine own_iloadN X0 hx (hb hby d_iff_3) rfl 4 rfl ?_
  obtain ⟨x1, sz1, lv1, lo1, hi1, un1, ca1, wo1, re1, g1, hF⟩ := own_b9_some hF
  refine own_callP X0 hx hZ hown (own_w75 hw) (own_w76 hw) (own_w77 hw) (own_w2 hw) (own_w3 hw) (own_w78 hw) (by decide) 0 (own_m_apply l Z a0 hw _ n0 D (2 : Int32) p1 p2 g1) e0 (own_D_exa D) (by rw [hml]; rfl) [(.int (2 : Int32)), (.int p1), (.int p2)] [] rfl (lenOf own_pd_2 rfl) rfl (Nat.le_of_eq rfl) (by decide) (by decide) (by decide) (by decide) (hb hby d_iff_4) N0 7 rfl (fun v1 T1 l1 X1 N1 hP1 => ?_)
  obtain ⟨rfl, D1, K1'⟩ := hP1
  have K1 : Keep h0 T1.heap [d, al, ao, ah, au, ac, aw, ar] := K0.trans K1' (fun _ z => Or.inl z)
  show own_G p e below _ (T1.setTop (mkF m 7 #[.val (.ref d), .val (.int p1), .val (.int p2)] [(.int x1)]))
  cases hF
  exact own_retI X1 hx hret hlk (hb hby d_iff_7) (Nat.le_refl _) (Nat.le_refl _) N1 rfl ⟨rfl, D1, K1⟩
/-- combine's model -/
def own_f_combine (lim : Int32) (sz : Int32) (lv : own_L) (lo : own_L) (hi : own_L) (un : own_L) (ca : own_L) (wo : own_L) (re : own_L) (p2 p3 p4 : Int32) : Option (Int32 × Int32 × own_L × own_L × own_L × own_L × own_L × own_L × own_L) :=
  if p2 = (0 : Int32) then
    own_b9 (own_f_and lim sz lv lo hi un ca wo re p3 p4) fun x2 sz2 lv2 lo2 hi2 un2 ca2 wo2 re2 =>
    some (x2, sz2, lv2, lo2, hi2, un2, ca2, wo2, re2)
  else
    if p2 = (1 : Int32) then
      own_b9 (own_f_or lim sz lv lo hi un ca wo re p3 p4) fun x4 sz4 lv4 lo4 hi4 un4 ca4 wo4 re4 =>
      some (x4, sz4, lv4, lo4, hi4, un4, ca4, wo4, re4)
    else
      own_b9 (own_f_iff lim sz lv lo hi un ca wo re p3 p4) fun x5 sz5 lv5 lo5 hi5 un5 ca5 wo5 re5 =>
      some (x5, sz5, lv5, lo5, hi5, un5, ca5, wo5, re5)
theorem d_combine_0 : decode method_3_code 0 = .ok (.iload_n 1, 1) := by decide +kernel
theorem d_combine_1 : decode method_3_code 1 = .ok (.ifCond .ne 10, 3) := by decide +kernel
theorem d_combine_4 : decode method_3_code 4 = .ok (.aload_n 0, 1) := by decide +kernel
theorem d_combine_5 : decode method_3_code 5 = .ok (.iload_n 2, 1) := by decide +kernel
theorem d_combine_6 : decode method_3_code 6 = .ok (.iload_n 3, 1) := by decide +kernel
theorem d_combine_7 : decode method_3_code 7 = .ok (.invokevirtual 38, 3) := by decide +kernel
theorem d_combine_10 : decode method_3_code 10 = .ok (.ireturn, 1) := by decide +kernel
theorem d_combine_11 : decode method_3_code 11 = .ok (.iload_n 1, 1) := by decide +kernel
theorem d_combine_12 : decode method_3_code 12 = .ok (.iconst 1, 1) := by decide +kernel
theorem d_combine_13 : decode method_3_code 13 = .ok (.if_icmp .ne 10, 3) := by decide +kernel
theorem d_combine_16 : decode method_3_code 16 = .ok (.aload_n 0, 1) := by decide +kernel
theorem d_combine_17 : decode method_3_code 17 = .ok (.iload_n 2, 1) := by decide +kernel
theorem d_combine_18 : decode method_3_code 18 = .ok (.iload_n 3, 1) := by decide +kernel
theorem d_combine_19 : decode method_3_code 19 = .ok (.invokevirtual 42, 3) := by decide +kernel
theorem d_combine_22 : decode method_3_code 22 = .ok (.ireturn, 1) := by decide +kernel
theorem d_combine_23 : decode method_3_code 23 = .ok (.aload_n 0, 1) := by decide +kernel
theorem d_combine_24 : decode method_3_code 24 = .ok (.iload_n 2, 1) := by decide +kernel
theorem d_combine_25 : decode method_3_code 25 = .ok (.iload_n 3, 1) := by decide +kernel
theorem d_combine_26 : decode method_3_code 26 = .ok (.invokevirtual 45, 3) := by decide +kernel
theorem d_combine_29 : decode method_3_code 29 = .ok (.ireturn, 1) := by decide +kernel
theorem own_ef_combine (m : MethodId) (d : Addr) (p2 : Int32) (p3 : Int32) (p4 : Int32) : entryFrame m #[(.ref d), (.int p2), (.int p3), (.int p4)] 4 = mkF m 0 #[.val (.ref d), .val (.int p2), .val (.int p3), .val (.int p4)] [] := by first | (simp [entryFrame, mkF, argsToLocals, Value.category]; done) | rfl
set_option maxRecDepth 65536 in
set_option maxHeartbeats 40000000 in
theorem own_m_combine (l : Launch) (Z : State) (a0 : Array Value) (hw : ∀ d ∈ tables_1, d.before a0 Z = true) (h0 : Heap) (n0 : Nat) {d al ao ah au ac aw ar : Addr} {lim sz : Int32} {lv lo hi un ca wo re : own_L} (D : own_Dg Z n0 h0 d al ao ah au ac aw ar lim sz lv lo hi un ca wo re) (p2 p3 p4 : Int32) {r : Int32} {sz' : Int32} {lv' lo' hi' un' ca' wo' re' : own_L} (hF : own_f_combine lim sz lv lo hi un ca wo re p2 p3 p4 = some (r, sz', lv', lo', hi', un', ca', wo', re')) : own_Met l Z ⟨"com/example/orbweaver/orbweaver/synthesis/DiagramsGivenPinLaw", "combine", "(Lcom/example/orbweaver/orbweaver/synthesis/Diagrams;III)I"⟩ method_3_code 4 (some .int) [] ({ frames := 4, cells := 0, slots := 0, locals := 80 } : Room) #[.ref d, .int p2, .int p3, .int p4] h0 n0 (fun v h => v = some (.int r) ∧ own_Dg Z n0 h d al ao ah au ac aw ar lim sz' lv' lo' hi' un' ca' wo' re' ∧ Keep h0 h [d, al, ao, ah, au, ac, aw, ar]) := by
  unfold own_f_combine at hF
  refine own_body (plainFor_of_name own_pn_DiagramsGivenPinLaw) ?_
  intro p e s m below meth c T0 X0 hx hby hml hown hnm hZ e0 hret hlk
  have N0 := Fr.nil n0
  have K0 : Keep h0 h0 [d, al, ao, ah, au, ac, aw, ar] := Keep.refl _ _
  refine own_cast (own_ef_combine m d p2 p3 p4) ?_
  refine own_iloadN X0 hx (hb hby d_combine_0) rfl 1 rfl ?_
  by_cases hc1 : p2 = (0 : Int32)
  · replace hF := own_ifT hc1 hF
    refine own_ifcF X0 hx (hb hby d_combine_1) (teq hc1).2 4 rfl ?_
    refine own_aloadN X0 hx (hb hby d_combine_4) rfl rfl 5 rfl ?_
    refine own_iloadN X0 hx (hb hby d_combine_5) rfl 6 rfl ?_
    refine own_iloadN X0 hx (hb hby d_combine_6) rfl 7 rfl ?_
    obtain ⟨x2, sz2, lv2, lo2, hi2, un2, ca2, wo2, re2, g2, hF⟩ := own_b9_some hF
    refine own_callV X0 hx hZ hown (own_w70 hw) (own_w71 hw) (own_w73 hw) (own_w72 hw) (own_w3 hw) (own_w74 hw) (by decide) 0 (own_m_and l Z a0 hw _ n0 D p3 p4 g2) e0 (own_D_exa D) (by rw [hml]; rfl) [(.int p3), (.int p4)] [] rfl (lenOf own_pd_5 rfl) rfl (Nat.le_of_eq rfl) (by decide) (by decide) (by decide) (by decide) (hb hby d_combine_7) N0 10 rfl (fun v2 T2 l2 X2 N2 hP2 => ?_)
    obtain ⟨rfl, D2, K2'⟩ := hP2
    have K2 : Keep h0 T2.heap [d, al, ao, ah, au, ac, aw, ar] := K0.trans K2' (fun _ z => Or.inl z)
    show own_G p e below _ (T2.setTop (mkF m 10 #[.val (.ref d), .val (.int p2), .val (.int p3), .val (.int p4)] [(.int x2)]))
    cases hF
    exact own_retI X2 hx hret hlk (hb hby d_combine_10) (Nat.le_refl _) (Nat.le_refl _) N2 rfl ⟨rfl, D2, K2⟩
  · replace hF := own_ifF hc1 hF
    refine own_ifcT X0 hx (hb hby d_combine_1) (feq hc1).2 11 (by decide) (by decide) ?_
    refine own_iloadN X0 hx (hb hby d_combine_11) rfl 12 rfl ?_
    refine own_iconst X0 hx (z := (1 : Int32)) (hb hby d_combine_12) rfl 13 rfl ?_
    by_cases hc3 : p2 = (1 : Int32)
    · replace hF := own_ifT hc3 hF
      refine own_icmpF X0 hx (hb hby d_combine_13) (teq hc3).2 16 rfl ?_
      refine own_aloadN X0 hx (hb hby d_combine_16) rfl rfl 17 rfl ?_
      refine own_iloadN X0 hx (hb hby d_combine_17) rfl 18 rfl ?_
      refine own_iloadN X0 hx (hb hby d_combine_18) rfl 19 rfl ?_
      obtain ⟨x4, sz4, lv4, lo4, hi4, un4, ca4, wo4, re4, g4, hF⟩ := own_b9_some hF
      refine own_callV X0 hx hZ hown (own_w103 hw) (own_w104 hw) (own_w106 hw) (own_w105 hw) (own_w3 hw) (own_w107 hw) (by decide) 0 (own_m_or l Z a0 hw _ n0 D p3 p4 g4) e0 (own_D_exa D) (by rw [hml]; rfl) [(.int p3), (.int p4)] [] rfl (lenOf own_pd_5 rfl) rfl (Nat.le_of_eq rfl) (by decide) (by decide) (by decide) (by decide) (hb hby d_combine_19) N0 22 rfl (fun v4 T4 l4 X4 N4 hP4 => ?_)
      obtain ⟨rfl, D4, K4'⟩ := hP4
      have K4 : Keep h0 T4.heap [d, al, ao, ah, au, ac, aw, ar] := K0.trans K4' (fun _ z => Or.inl z)
      show own_G p e below _ (T4.setTop (mkF m 22 #[.val (.ref d), .val (.int p2), .val (.int p3), .val (.int p4)] [(.int x4)]))
      cases hF
      exact own_retI X4 hx hret hlk (hb hby d_combine_22) (Nat.le_refl _) (Nat.le_refl _) N4 rfl ⟨rfl, D4, K4⟩
    · replace hF := own_ifF hc3 hF
      refine own_icmpT X0 hx (hb hby d_combine_13) (feq hc3).2 23 (by decide) (by decide) ?_
      refine own_aloadN X0 hx (hb hby d_combine_23) rfl rfl 24 rfl ?_
      refine own_iloadN X0 hx (hb hby d_combine_24) rfl 25 rfl ?_
      refine own_iloadN X0 hx (hb hby d_combine_25) rfl 26 rfl ?_
      obtain ⟨x5, sz5, lv5, lo5, hi5, un5, ca5, wo5, re5, g5, hF⟩ := own_b9_some hF
      refine own_callV X0 hx hZ hown (own_w128 hw) (own_w129 hw) (own_w131 hw) (own_w130 hw) (own_w3 hw) (own_w132 hw) (by decide) 0 (own_m_iff l Z a0 hw _ n0 D p3 p4 g5) e0 (own_D_exa D) (by rw [hml]; rfl) [(.int p3), (.int p4)] [] rfl (lenOf own_pd_5 rfl) rfl (Nat.le_of_eq rfl) (by decide) (by decide) (by decide) (by decide) (hb hby d_combine_26) N0 29 rfl (fun v5 T5 l5 X5 N5 hP5 => ?_)
      obtain ⟨rfl, D5, K5'⟩ := hP5
      have K5 : Keep h0 T5.heap [d, al, ao, ah, au, ac, aw, ar] := K0.trans K5' (fun _ z => Or.inl z)
      show own_G p e below _ (T5.setTop (mkF m 29 #[.val (.ref d), .val (.int p2), .val (.int p3), .val (.int p4)] [(.int x5)]))
      cases hF
      exact own_retI X5 hx hret hlk (hb hby d_combine_29) (Nat.le_refl _) (Nat.le_refl _) N5 rfl ⟨rfl, D5, K5⟩
/-- op's model -/
def own_f_op  (p1 p2 p3 : Int32) : Int32 :=
  if p1 = (0 : Int32) then
    if p2 = (0 : Int32) then
      (0 : Int32)
    else
      if p3 = (0 : Int32) then
        (0 : Int32)
      else
        (1 : Int32)
  else
    if p1 = (1 : Int32) then
      if p2 = (0 : Int32) then
        if p3 = (0 : Int32) then
          (0 : Int32)
        else
          (1 : Int32)
      else
        (1 : Int32)
    else
      if p2 = p3 then
        (1 : Int32)
      else
        (0 : Int32)
theorem d_op_0 : decode method_4_code 0 = .ok (.iload_n 0, 1) := by decide +kernel
theorem d_op_1 : decode method_4_code 1 = .ok (.ifCond .ne 17, 3) := by decide +kernel
theorem d_op_4 : decode method_4_code 4 = .ok (.iload_n 1, 1) := by decide +kernel
theorem d_op_5 : decode method_4_code 5 = .ok (.ifCond .eq 11, 3) := by decide +kernel
theorem d_op_8 : decode method_4_code 8 = .ok (.iload_n 2, 1) := by decide +kernel
theorem d_op_9 : decode method_4_code 9 = .ok (.ifCond .eq 7, 3) := by decide +kernel
theorem d_op_12 : decode method_4_code 12 = .ok (.iconst 1, 1) := by decide +kernel
theorem d_op_13 : decode method_4_code 13 = .ok (.goto 4, 3) := by decide +kernel
theorem d_op_16 : decode method_4_code 16 = .ok (.iconst 0, 1) := by decide +kernel
theorem d_op_17 : decode method_4_code 17 = .ok (.ireturn, 1) := by decide +kernel
theorem d_op_18 : decode method_4_code 18 = .ok (.iload_n 0, 1) := by decide +kernel
theorem d_op_19 : decode method_4_code 19 = .ok (.iconst 1, 1) := by decide +kernel
theorem d_op_20 : decode method_4_code 20 = .ok (.if_icmp .ne 17, 3) := by decide +kernel
theorem d_op_23 : decode method_4_code 23 = .ok (.iload_n 1, 1) := by decide +kernel
theorem d_op_24 : decode method_4_code 24 = .ok (.ifCond .ne 7, 3) := by decide +kernel
theorem d_op_27 : decode method_4_code 27 = .ok (.iload_n 2, 1) := by decide +kernel
theorem d_op_28 : decode method_4_code 28 = .ok (.ifCond .eq 7, 3) := by decide +kernel
theorem d_op_31 : decode method_4_code 31 = .ok (.iconst 1, 1) := by decide +kernel
theorem d_op_32 : decode method_4_code 32 = .ok (.goto 4, 3) := by decide +kernel
theorem d_op_35 : decode method_4_code 35 = .ok (.iconst 0, 1) := by decide +kernel
theorem d_op_36 : decode method_4_code 36 = .ok (.ireturn, 1) := by decide +kernel
theorem d_op_37 : decode method_4_code 37 = .ok (.iload_n 1, 1) := by decide +kernel
theorem d_op_38 : decode method_4_code 38 = .ok (.iload_n 2, 1) := by decide +kernel
theorem d_op_39 : decode method_4_code 39 = .ok (.if_icmp .ne 7, 3) := by decide +kernel
theorem d_op_42 : decode method_4_code 42 = .ok (.iconst 1, 1) := by decide +kernel
theorem d_op_43 : decode method_4_code 43 = .ok (.goto 4, 3) := by decide +kernel
theorem d_op_46 : decode method_4_code 46 = .ok (.iconst 0, 1) := by decide +kernel
theorem d_op_47 : decode method_4_code 47 = .ok (.ireturn, 1) := by decide +kernel
theorem own_ef_op (m : MethodId) (p1 : Int32) (p2 : Int32) (p3 : Int32) : entryFrame m #[(.int p1), (.int p2), (.int p3)] 3 = mkF m 0 #[.val (.int p1), .val (.int p2), .val (.int p3)] [] := by first | (simp [entryFrame, mkF, argsToLocals, Value.category]; done) | rfl
set_option maxRecDepth 65536 in
set_option maxHeartbeats 40000000 in
theorem own_m_op (l : Launch) (Z : State) (a0 : Array Value) (hw : ∀ d ∈ tables_1, d.before a0 Z = true) (h0 : Heap) (n0 : Nat)  (p1 p2 p3 : Int32) {r : Int32} (hF : own_f_op p1 p2 p3 = r) : own_Met l Z ⟨"com/example/orbweaver/orbweaver/synthesis/DiagramsGivenPinLaw", "op", "(IZZ)Z"⟩ method_4_code 3 (some .boolean) [] ({ frames := 0, cells := 0, slots := 0, locals := 0 } : Room) #[.int p1, .int p2, .int p3] h0 n0 (fun v h => v = some (.int r) ∧ h = h0) := by
  unfold own_f_op at hF
  refine own_body (plainFor_of_name own_pn_DiagramsGivenPinLaw) ?_
  intro p e s m below meth c T0 X0 hx hby hml hown hnm hZ e0 hret hlk
  have N0 := Fr.nil n0
  refine own_cast (own_ef_op m p1 p2 p3) ?_
  refine own_iloadN X0 hx (hb hby d_op_0) rfl 1 rfl ?_
  by_cases hc1 : p1 = (0 : Int32)
  · replace hF := own_ifT hc1 hF
    refine own_ifcF X0 hx (hb hby d_op_1) (teq hc1).2 4 rfl ?_
    refine own_iloadN X0 hx (hb hby d_op_4) rfl 5 rfl ?_
    by_cases hc2 : p2 = (0 : Int32)
    · replace hF := own_ifT hc2 hF
      refine own_ifcT X0 hx (hb hby d_op_5) (teq hc2).1 16 (by decide) (by decide) ?_
      refine own_iconst X0 hx (z := (0 : Int32)) (hb hby d_op_16) rfl 17 rfl ?_
      exact own_retN X0 hx hret (Or.inl rfl) hlk (hb hby d_op_17) (Nat.le_refl _) (Nat.le_refl _) N0 e0 ⟨congrArg (fun z => some (Value.int z)) hF, rfl⟩
    · replace hF := own_ifF hc2 hF
      refine own_ifcF X0 hx (hb hby d_op_5) (feq hc2).1 8 rfl ?_
      refine own_iloadN X0 hx (hb hby d_op_8) rfl 9 rfl ?_
      by_cases hc3 : p3 = (0 : Int32)
      · replace hF := own_ifT hc3 hF
        refine own_ifcT X0 hx (hb hby d_op_9) (teq hc3).1 16 (by decide) (by decide) ?_
        refine own_iconst X0 hx (z := (0 : Int32)) (hb hby d_op_16) rfl 17 rfl ?_
        exact own_retN X0 hx hret (Or.inl rfl) hlk (hb hby d_op_17) (Nat.le_refl _) (Nat.le_refl _) N0 e0 ⟨congrArg (fun z => some (Value.int z)) hF, rfl⟩
      · replace hF := own_ifF hc3 hF
        refine own_ifcF X0 hx (hb hby d_op_9) (feq hc3).1 12 rfl ?_
        refine own_iconst X0 hx (z := (1 : Int32)) (hb hby d_op_12) rfl 13 rfl ?_
        refine own_goto X0 hx (hb hby d_op_13) 17 (by decide) (by decide) ?_
        exact own_retN X0 hx hret (Or.inl rfl) hlk (hb hby d_op_17) (Nat.le_refl _) (Nat.le_refl _) N0 e0 ⟨congrArg (fun z => some (Value.int z)) hF, rfl⟩
  · replace hF := own_ifF hc1 hF
    refine own_ifcT X0 hx (hb hby d_op_1) (feq hc1).2 18 (by decide) (by decide) ?_
    refine own_iloadN X0 hx (hb hby d_op_18) rfl 19 rfl ?_
    refine own_iconst X0 hx (z := (1 : Int32)) (hb hby d_op_19) rfl 20 rfl ?_
    by_cases hc4 : p1 = (1 : Int32)
    · replace hF := own_ifT hc4 hF
      refine own_icmpF X0 hx (hb hby d_op_20) (teq hc4).2 23 rfl ?_
      refine own_iloadN X0 hx (hb hby d_op_23) rfl 24 rfl ?_
      by_cases hc5 : p2 = (0 : Int32)
      · replace hF := own_ifT hc5 hF
        refine own_ifcF X0 hx (hb hby d_op_24) (teq hc5).2 27 rfl ?_
        refine own_iloadN X0 hx (hb hby d_op_27) rfl 28 rfl ?_
        by_cases hc6 : p3 = (0 : Int32)
        · replace hF := own_ifT hc6 hF
          refine own_ifcT X0 hx (hb hby d_op_28) (teq hc6).1 35 (by decide) (by decide) ?_
          refine own_iconst X0 hx (z := (0 : Int32)) (hb hby d_op_35) rfl 36 rfl ?_
          exact own_retN X0 hx hret (Or.inl rfl) hlk (hb hby d_op_36) (Nat.le_refl _) (Nat.le_refl _) N0 e0 ⟨congrArg (fun z => some (Value.int z)) hF, rfl⟩
        · replace hF := own_ifF hc6 hF
          refine own_ifcF X0 hx (hb hby d_op_28) (feq hc6).1 31 rfl ?_
          refine own_iconst X0 hx (z := (1 : Int32)) (hb hby d_op_31) rfl 32 rfl ?_
          refine own_goto X0 hx (hb hby d_op_32) 36 (by decide) (by decide) ?_
          exact own_retN X0 hx hret (Or.inl rfl) hlk (hb hby d_op_36) (Nat.le_refl _) (Nat.le_refl _) N0 e0 ⟨congrArg (fun z => some (Value.int z)) hF, rfl⟩
      · replace hF := own_ifF hc5 hF
        refine own_ifcT X0 hx (hb hby d_op_24) (feq hc5).2 31 (by decide) (by decide) ?_
        refine own_iconst X0 hx (z := (1 : Int32)) (hb hby d_op_31) rfl 32 rfl ?_
        refine own_goto X0 hx (hb hby d_op_32) 36 (by decide) (by decide) ?_
        exact own_retN X0 hx hret (Or.inl rfl) hlk (hb hby d_op_36) (Nat.le_refl _) (Nat.le_refl _) N0 e0 ⟨congrArg (fun z => some (Value.int z)) hF, rfl⟩
    · replace hF := own_ifF hc4 hF
      refine own_icmpT X0 hx (hb hby d_op_20) (feq hc4).2 37 (by decide) (by decide) ?_
      refine own_iloadN X0 hx (hb hby d_op_37) rfl 38 rfl ?_
      refine own_iloadN X0 hx (hb hby d_op_38) rfl 39 rfl ?_
      by_cases hc7 : p2 = p3
      · replace hF := own_ifT hc7 hF
        refine own_icmpF X0 hx (hb hby d_op_39) (teq hc7).2 42 rfl ?_
        refine own_iconst X0 hx (z := (1 : Int32)) (hb hby d_op_42) rfl 43 rfl ?_
        refine own_goto X0 hx (hb hby d_op_43) 47 (by decide) (by decide) ?_
        exact own_retN X0 hx hret (Or.inl rfl) hlk (hb hby d_op_47) (Nat.le_refl _) (Nat.le_refl _) N0 e0 ⟨congrArg (fun z => some (Value.int z)) hF, rfl⟩
      · replace hF := own_ifF hc7 hF
        refine own_icmpT X0 hx (hb hby d_op_39) (feq hc7).2 46 (by decide) (by decide) ?_
        refine own_iconst X0 hx (z := (0 : Int32)) (hb hby d_op_46) rfl 47 rfl ?_
        exact own_retN X0 hx hret (Or.inl rfl) hlk (hb hby d_op_47) (Nat.le_refl _) (Nat.le_refl _) N0 e0 ⟨congrArg (fun z => some (Value.int z)) hF, rfl⟩
/-- pick's model -/
def own_f_pick  (p1 p2 p3 p4 : Int32) : Int32 :=
  if p1 = (0 : Int32) then
    (nar .boolean p2)
  else
    if p1 = (1 : Int32) then
      (nar .boolean p3)
    else
      (nar .boolean p4)
theorem d_pick_0 : decode method_5_code 0 = .ok (.iload_n 0, 1) := by decide +kernel
theorem d_pick_1 : decode method_5_code 1 = .ok (.ifCond .ne 5, 3) := by decide +kernel
theorem d_pick_4 : decode method_5_code 4 = .ok (.iload_n 1, 1) := by decide +kernel
theorem d_pick_5 : decode method_5_code 5 = .ok (.ireturn, 1) := by decide +kernel
theorem d_pick_6 : decode method_5_code 6 = .ok (.iload_n 0, 1) := by decide +kernel
theorem d_pick_7 : decode method_5_code 7 = .ok (.iconst 1, 1) := by decide +kernel
theorem d_pick_8 : decode method_5_code 8 = .ok (.if_icmp .ne 5, 3) := by decide +kernel
theorem d_pick_11 : decode method_5_code 11 = .ok (.iload_n 2, 1) := by decide +kernel
theorem d_pick_12 : decode method_5_code 12 = .ok (.ireturn, 1) := by decide +kernel
theorem d_pick_13 : decode method_5_code 13 = .ok (.iload_n 3, 1) := by decide +kernel
theorem d_pick_14 : decode method_5_code 14 = .ok (.ireturn, 1) := by decide +kernel
theorem own_ef_pick (m : MethodId) (p1 : Int32) (p2 : Int32) (p3 : Int32) (p4 : Int32) : entryFrame m #[(.int p1), (.int p2), (.int p3), (.int p4)] 4 = mkF m 0 #[.val (.int p1), .val (.int p2), .val (.int p3), .val (.int p4)] [] := by first | (simp [entryFrame, mkF, argsToLocals, Value.category]; done) | rfl
set_option maxRecDepth 65536 in
set_option maxHeartbeats 40000000 in
theorem own_m_pick (l : Launch) (Z : State) (a0 : Array Value) (hw : ∀ d ∈ tables_1, d.before a0 Z = true) (h0 : Heap) (n0 : Nat)  (p1 p2 p3 p4 : Int32) {r : Int32} (hF : own_f_pick p1 p2 p3 p4 = r) : own_Met l Z ⟨"com/example/orbweaver/orbweaver/synthesis/DiagramsGivenPinLaw", "pick", "(IZZZ)Z"⟩ method_5_code 4 (some .boolean) [] ({ frames := 0, cells := 0, slots := 0, locals := 0 } : Room) #[.int p1, .int p2, .int p3, .int p4] h0 n0 (fun v h => v = some (.int r) ∧ h = h0) := by
  unfold own_f_pick at hF
  refine own_body (plainFor_of_name own_pn_DiagramsGivenPinLaw) ?_
  intro p e s m below meth c T0 X0 hx hby hml hown hnm hZ e0 hret hlk
  have N0 := Fr.nil n0
  refine own_cast (own_ef_pick m p1 p2 p3 p4) ?_
  refine own_iloadN X0 hx (hb hby d_pick_0) rfl 1 rfl ?_
  by_cases hc1 : p1 = (0 : Int32)
  · replace hF := own_ifT hc1 hF
    refine own_ifcF X0 hx (hb hby d_pick_1) (teq hc1).2 4 rfl ?_
    refine own_iloadN X0 hx (hb hby d_pick_4) rfl 5 rfl ?_
    exact own_retN X0 hx hret (Or.inl rfl) hlk (hb hby d_pick_5) (Nat.le_refl _) (Nat.le_refl _) N0 e0 ⟨congrArg (fun z => some (Value.int z)) hF, rfl⟩
  · replace hF := own_ifF hc1 hF
    refine own_ifcT X0 hx (hb hby d_pick_1) (feq hc1).2 6 (by decide) (by decide) ?_
    refine own_iloadN X0 hx (hb hby d_pick_6) rfl 7 rfl ?_
    refine own_iconst X0 hx (z := (1 : Int32)) (hb hby d_pick_7) rfl 8 rfl ?_
    by_cases hc2 : p1 = (1 : Int32)
    · replace hF := own_ifT hc2 hF
      refine own_icmpF X0 hx (hb hby d_pick_8) (teq hc2).2 11 rfl ?_
      refine own_iloadN X0 hx (hb hby d_pick_11) rfl 12 rfl ?_
      exact own_retN X0 hx hret (Or.inl rfl) hlk (hb hby d_pick_12) (Nat.le_refl _) (Nat.le_refl _) N0 e0 ⟨congrArg (fun z => some (Value.int z)) hF, rfl⟩
    · replace hF := own_ifF hc2 hF
      refine own_icmpT X0 hx (hb hby d_pick_8) (feq hc2).2 13 (by decide) (by decide) ?_
      refine own_iloadN X0 hx (hb hby d_pick_13) rfl 14 rfl ?_
      exact own_retN X0 hx hret (Or.inl rfl) hlk (hb hby d_pick_14) (Nat.le_refl _) (Nat.le_refl _) N0 e0 ⟨congrArg (fun z => some (Value.int z)) hF, rfl⟩
/-- the loop of holds, f turns at the most -/
def own_f_holdsL (f : Nat)  (lv : own_L) (lo : own_L) (hi : own_L) (bn : Nat) (bf : Nat → Int32) (i3 : Int32) : Option Int32 :=
  match f with
  | 0 => none
  | f + 1 =>
    if i3 = (0 : Int32) then
      if i3 = (1 : Int32) then
        some (1 : Int32)
      else
        some (0 : Int32)
    else
      if i3 = (1 : Int32) then
        some (1 : Int32)
      else
        own_b1 (own_get 4096 0 lv i3) fun x5 =>
        own_b1 (own_at bn bf x5) fun x6 =>
        if x6 = (0 : Int32) then
          own_b1 (own_get 4096 0 lo i3) fun x9 =>
          own_f_holdsL f lv lo hi bn bf x9
        else
          own_b1 (own_get 4096 0 hi i3) fun x11 =>
          own_f_holdsL f lv lo hi bn bf x11
/-- holds's model -/
def own_f_holds  (lv : own_L) (lo : own_L) (hi : own_L) (bn : Nat) (bf : Nat → Int32) (p1 : Int32) : Option Int32 :=
  own_f_holdsL 8 lv lo hi bn bf p1
theorem d_holds_0 : decode prog_81_method_29_code 0 = .ok (.iload_n 1, 1) := by decide +kernel
theorem d_holds_1 : decode prog_81_method_29_code 1 = .ok (.istore_n 3, 1) := by decide +kernel
theorem d_holds_2 : decode prog_81_method_29_code 2 = .ok (.iload_n 3, 1) := by decide +kernel
theorem d_holds_3 : decode prog_81_method_29_code 3 = .ok (.ifCond .eq 38, 3) := by decide +kernel
theorem d_holds_6 : decode prog_81_method_29_code 6 = .ok (.iload_n 3, 1) := by decide +kernel
theorem d_holds_7 : decode prog_81_method_29_code 7 = .ok (.iconst 1, 1) := by decide +kernel
theorem d_holds_8 : decode prog_81_method_29_code 8 = .ok (.if_icmp .eq 33, 3) := by decide +kernel
theorem d_holds_11 : decode prog_81_method_29_code 11 = .ok (.aload_n 2, 1) := by decide +kernel
theorem d_holds_12 : decode prog_81_method_29_code 12 = .ok (.aload_n 0, 1) := by decide +kernel
theorem d_holds_13 : decode prog_81_method_29_code 13 = .ok (.getfield 44, 3) := by decide +kernel
theorem d_holds_16 : decode prog_81_method_29_code 16 = .ok (.iload_n 3, 1) := by decide +kernel
theorem d_holds_17 : decode prog_81_method_29_code 17 = .ok (.iaload, 1) := by decide +kernel
theorem d_holds_18 : decode prog_81_method_29_code 18 = .ok (.baload, 1) := by decide +kernel
theorem d_holds_19 : decode prog_81_method_29_code 19 = .ok (.ifCond .eq 12, 3) := by decide +kernel
theorem d_holds_22 : decode prog_81_method_29_code 22 = .ok (.aload_n 0, 1) := by decide +kernel
theorem d_holds_23 : decode prog_81_method_29_code 23 = .ok (.getfield 50, 3) := by decide +kernel
theorem d_holds_26 : decode prog_81_method_29_code 26 = .ok (.iload_n 3, 1) := by decide +kernel
theorem d_holds_27 : decode prog_81_method_29_code 27 = .ok (.iaload, 1) := by decide +kernel
theorem d_holds_28 : decode prog_81_method_29_code 28 = .ok (.goto 9, 3) := by decide +kernel
theorem d_holds_31 : decode prog_81_method_29_code 31 = .ok (.aload_n 0, 1) := by decide +kernel
theorem d_holds_32 : decode prog_81_method_29_code 32 = .ok (.getfield 47, 3) := by decide +kernel
theorem d_holds_35 : decode prog_81_method_29_code 35 = .ok (.iload_n 3, 1) := by decide +kernel
theorem d_holds_36 : decode prog_81_method_29_code 36 = .ok (.iaload, 1) := by decide +kernel
theorem d_holds_37 : decode prog_81_method_29_code 37 = .ok (.istore_n 3, 1) := by decide +kernel
theorem d_holds_38 : decode prog_81_method_29_code 38 = .ok (.goto (-36), 3) := by decide +kernel
theorem d_holds_41 : decode prog_81_method_29_code 41 = .ok (.iload_n 3, 1) := by decide +kernel
theorem d_holds_42 : decode prog_81_method_29_code 42 = .ok (.iconst 1, 1) := by decide +kernel
theorem d_holds_43 : decode prog_81_method_29_code 43 = .ok (.if_icmp .ne 7, 3) := by decide +kernel
theorem d_holds_46 : decode prog_81_method_29_code 46 = .ok (.iconst 1, 1) := by decide +kernel
theorem d_holds_47 : decode prog_81_method_29_code 47 = .ok (.goto 4, 3) := by decide +kernel
theorem d_holds_50 : decode prog_81_method_29_code 50 = .ok (.iconst 0, 1) := by decide +kernel
theorem d_holds_51 : decode prog_81_method_29_code 51 = .ok (.ireturn, 1) := by decide +kernel
theorem own_ef_holds (m : MethodId) (d : Addr) (p1 : Int32) (va : Addr) : entryFrame m #[(.ref d), (.int p1), (.ref va)] 4 = mkF m 0 #[.val (.ref d), .val (.int p1), .val (.ref va), .unset] [] := by first | (simp [entryFrame, mkF, argsToLocals, Value.category]; done) | rfl
set_option maxRecDepth 65536 in
set_option maxHeartbeats 40000000 in
theorem own_m_holds (l : Launch) (Z : State) (a0 : Array Value) (hw : ∀ d ∈ tables_1, d.before a0 Z = true) (h0 : Heap) (n0 : Nat) {d al ao ah au ac aw ar : Addr} {lim sz : Int32} {lv lo hi un ca wo re : own_L} (D : own_Dg Z n0 h0 d al ao ah au ac aw ar lim sz lv lo hi un ca wo re) {va : Addr} {bn : Nat} {bf : Nat → Int32} (Av : own_A Z h0 va .boolean bn bf) (p1 : Int32) {r : Int32} (hF : own_f_holds lv lo hi bn bf p1 = some r) : own_Met l Z ⟨"com/example/orbweaver/orbweaver/synthesis/Diagrams", "holds", "(I[Z)Z"⟩ prog_81_method_29_code 4 (some .boolean) [] ({ frames := 0, cells := 0, slots := 0, locals := 0 } : Room) #[.ref d, .int p1, .ref va] h0 n0 (fun v h => v = some (.int r) ∧ h = h0) := by
  unfold own_f_holds at hF
  refine own_body (plainFor_of_name own_pn_Diagrams) ?_
  intro p e s m below meth c T0 X0 hx hby hml hown hnm hZ e0 hret hlk
  have N0 := Fr.nil n0
  refine own_cast (own_ef_holds m d p1 va) ?_
  have loop : ∀ (f : Nat) (T : State) (locs : List Loc) (i3 : Int32), own_f_holdsL f lv lo hi bn bf i3 = some r → Stand p l e ({ frames := 0, cells := 0, slots := 0, locals := 0 } : Room) s m #[.ref d, .int p1, .ref va] below meth c T locs 0 0 → Fr n0 locs → T.heap = h0 → own_G p e below (own_End s ({ frames := 0, cells := 0, slots := 0, locals := 0 } : Room) n0 (fun v h => v = some (.int r) ∧ h = h0)) (T.setTop (mkF m 2 #[.val (.ref d), .val (.int p1), .val (.ref va), .val (.int i3)] [])) := by
    intro f
    induction f with
    | zero => intro T locs i3   hF X N eT; cases hF
    | succ f ih =>
      intro T locs i3   hF X N eT
      rw [own_f_holdsL] at hF
      refine own_iloadN X hx (hb hby d_holds_2) rfl 3 rfl ?_
      by_cases hc1 : i3 = (0 : Int32)
      · replace hF := own_ifT hc1 hF
        refine own_ifcT X hx (hb hby d_holds_3) (teq hc1).1 41 (by decide) (by decide) ?_
        refine own_iloadN X hx (hb hby d_holds_41) rfl 42 rfl ?_
        refine own_iconst X hx (z := (1 : Int32)) (hb hby d_holds_42) rfl 43 rfl ?_
        by_cases hc2 : i3 = (1 : Int32)
        · replace hF := own_ifT hc2 hF
          refine own_icmpF X hx (hb hby d_holds_43) (teq hc2).2 46 rfl ?_
          refine own_iconst X hx (z := (1 : Int32)) (hb hby d_holds_46) rfl 47 rfl ?_
          refine own_goto X hx (hb hby d_holds_47) 51 (by decide) (by decide) ?_
          cases hF
          exact own_retN X hx hret (Or.inl rfl) hlk (hb hby d_holds_51) (Nat.le_refl _) (Nat.le_refl _) N eT ⟨rfl, rfl⟩
        · replace hF := own_ifF hc2 hF
          refine own_icmpT X hx (hb hby d_holds_43) (feq hc2).2 50 (by decide) (by decide) ?_
          refine own_iconst X hx (z := (0 : Int32)) (hb hby d_holds_50) rfl 51 rfl ?_
          cases hF
          exact own_retN X hx hret (Or.inl rfl) hlk (hb hby d_holds_51) (Nat.le_refl _) (Nat.le_refl _) N eT ⟨rfl, rfl⟩
      · replace hF := own_ifF hc1 hF
        refine own_ifcF X hx (hb hby d_holds_3) (feq hc1).1 6 rfl ?_
        refine own_iloadN X hx (hb hby d_holds_6) rfl 7 rfl ?_
        refine own_iconst X hx (z := (1 : Int32)) (hb hby d_holds_7) rfl 8 rfl ?_
        by_cases hc3 : i3 = (1 : Int32)
        · replace hF := own_ifT hc3 hF
          refine own_icmpT X hx (hb hby d_holds_8) (teq hc3).1 41 (by decide) (by decide) ?_
          refine own_iloadN X hx (hb hby d_holds_41) rfl 42 rfl ?_
          refine own_iconst X hx (z := (1 : Int32)) (hb hby d_holds_42) rfl 43 rfl ?_
          refine own_icmpF X hx (hb hby d_holds_43) (teq hc3).2 46 rfl ?_
          refine own_iconst X hx (z := (1 : Int32)) (hb hby d_holds_46) rfl 47 rfl ?_
          refine own_goto X hx (hb hby d_holds_47) 51 (by decide) (by decide) ?_
          cases hF
          exact own_retN X hx hret (Or.inl rfl) hlk (hb hby d_holds_51) (Nat.le_refl _) (Nat.le_refl _) N eT ⟨rfl, rfl⟩
        · replace hF := own_ifF hc3 hF
          refine own_icmpF X hx (hb hby d_holds_8) (feq hc3).1 11 rfl ?_
          refine own_aloadN X hx (hb hby d_holds_11) rfl rfl 12 rfl ?_
          refine own_aloadN X hx (hb hby d_holds_12) rfl rfl 13 rfl ?_
          refine own_getF X hx hZ hown (own_w36 hw) eT (own_D_f_level D) (hb hby d_holds_13) 16 rfl (fun T4 X4 e4 => ?_)
          refine own_iloadN X4 hx (hb hby d_holds_16) rfl 17 rfl ?_
          obtain ⟨x5, g5, hF⟩ := own_b1_some hF
          refine own_iaload X4 hx hZ e4 (own_D_a_al D) (own_get_in g5) (own_get_val g5) (hb hby d_holds_17) 18 rfl ?_
          obtain ⟨x6, g6, hF⟩ := own_b1_some hF
          refine own_zaload X4 hx hZ e4 Av (own_at_in g6) (own_at_val g6) (hb hby d_holds_18) 19 rfl ?_
          by_cases hc7 : x6 = (0 : Int32)
          · replace hF := own_ifT hc7 hF
            refine own_ifcT X4 hx (hb hby d_holds_19) (teq hc7).1 31 (by decide) (by decide) ?_
            refine own_aloadN X4 hx (hb hby d_holds_31) rfl rfl 32 rfl ?_
            refine own_getF X4 hx hZ hown (own_w38 hw) e4 (own_D_f_low D) (hb hby d_holds_32) 35 rfl (fun T8 X8 e8 => ?_)
            refine own_iloadN X8 hx (hb hby d_holds_35) rfl 36 rfl ?_
            obtain ⟨x9, g9, hF⟩ := own_b1_some hF
            refine own_iaload X8 hx hZ e8 (own_D_a_ao D) (own_get_in g9) (own_get_val g9) (hb hby d_holds_36) 37 rfl ?_
            refine own_istoreN X8 hx (#[.val (.ref d), .val (.int p1), .val (.ref va), .val (.int x9)]) (hb hby d_holds_37) rfl 38 rfl ?_
            refine own_goto X8 hx (hb hby d_holds_38) 2 (by decide) (by decide) ?_
            exact ih T8 _ x9   hF X8 N e8
          · replace hF := own_ifF hc7 hF
            refine own_ifcF X4 hx (hb hby d_holds_19) (feq hc7).1 22 rfl ?_
            refine own_aloadN X4 hx (hb hby d_holds_22) rfl rfl 23 rfl ?_
            refine own_getF X4 hx hZ hown (own_w40 hw) e4 (own_D_f_high D) (hb hby d_holds_23) 26 rfl (fun T10 X10 e10 => ?_)
            refine own_iloadN X10 hx (hb hby d_holds_26) rfl 27 rfl ?_
            obtain ⟨x11, g11, hF⟩ := own_b1_some hF
            refine own_iaload X10 hx hZ e10 (own_D_a_ah D) (own_get_in g11) (own_get_val g11) (hb hby d_holds_27) 28 rfl ?_
            refine own_goto X10 hx (hb hby d_holds_28) 37 (by decide) (by decide) ?_
            refine own_istoreN X10 hx (#[.val (.ref d), .val (.int p1), .val (.ref va), .val (.int x11)]) (hb hby d_holds_37) rfl 38 rfl ?_
            refine own_goto X10 hx (hb hby d_holds_38) 2 (by decide) (by decide) ?_
            exact ih T10 _ x11   hF X10 N e10
  refine own_iloadN X0 hx (hb hby d_holds_0) rfl 1 rfl ?_
  refine own_istoreN X0 hx (#[.val (.ref d), .val (.int p1), .val (.ref va), .val (.int p1)]) (hb hby d_holds_1) rfl 2 rfl ?_
  exact loop 8 T0 _ p1   hF X0 N0 e0
/-- the loop of given, f turns at the most -/
def own_f_givenL (f : Nat)  (lv : own_L) (lo : own_L) (hi : own_L) (bn : Nat) (bf : Nat → Int32) (i3 : Int32) : Option Int32 :=
  match f with
  | 0 => none
  | f + 1 =>
    own_b1 (own_get 4096 0 lv i3) fun x2 =>
    if x2 < (bn.toInt32) then
      own_b1 (own_get 4096 0 lv i3) fun x5 =>
      own_b1 (own_at bn bf x5) fun x6 =>
      if x6 = (0 : Int32) then
        own_b1 (own_get 4096 0 lo i3) fun x9 =>
        own_f_givenL f lv lo hi bn bf x9
      else
        own_b1 (own_get 4096 0 hi i3) fun x11 =>
        own_f_givenL f lv lo hi bn bf x11
    else
      some i3
/-- given's model -/
def own_f_given  (lv : own_L) (lo : own_L) (hi : own_L) (bn : Nat) (bf : Nat → Int32) (p1 : Int32) : Option Int32 :=
  own_f_givenL 8 lv lo hi bn bf p1
theorem d_given_0 : decode prog_81_method_28_code 0 = .ok (.iload_n 1, 1) := by decide +kernel
theorem d_given_1 : decode prog_81_method_28_code 1 = .ok (.istore_n 3, 1) := by decide +kernel
theorem d_given_2 : decode prog_81_method_28_code 2 = .ok (.aload_n 0, 1) := by decide +kernel
theorem d_given_3 : decode prog_81_method_28_code 3 = .ok (.getfield 44, 3) := by decide +kernel
theorem d_given_6 : decode prog_81_method_28_code 6 = .ok (.iload_n 3, 1) := by decide +kernel
theorem d_given_7 : decode prog_81_method_28_code 7 = .ok (.iaload, 1) := by decide +kernel
theorem d_given_8 : decode prog_81_method_28_code 8 = .ok (.aload_n 2, 1) := by decide +kernel
theorem d_given_9 : decode prog_81_method_28_code 9 = .ok (.arraylength, 1) := by decide +kernel
theorem d_given_10 : decode prog_81_method_28_code 10 = .ok (.if_icmp .ge 33, 3) := by decide +kernel
theorem d_given_13 : decode prog_81_method_28_code 13 = .ok (.aload_n 2, 1) := by decide +kernel
theorem d_given_14 : decode prog_81_method_28_code 14 = .ok (.aload_n 0, 1) := by decide +kernel
theorem d_given_15 : decode prog_81_method_28_code 15 = .ok (.getfield 44, 3) := by decide +kernel
theorem d_given_18 : decode prog_81_method_28_code 18 = .ok (.iload_n 3, 1) := by decide +kernel
theorem d_given_19 : decode prog_81_method_28_code 19 = .ok (.iaload, 1) := by decide +kernel
theorem d_given_20 : decode prog_81_method_28_code 20 = .ok (.baload, 1) := by decide +kernel
theorem d_given_21 : decode prog_81_method_28_code 21 = .ok (.ifCond .eq 12, 3) := by decide +kernel
theorem d_given_24 : decode prog_81_method_28_code 24 = .ok (.aload_n 0, 1) := by decide +kernel
theorem d_given_25 : decode prog_81_method_28_code 25 = .ok (.getfield 50, 3) := by decide +kernel
theorem d_given_28 : decode prog_81_method_28_code 28 = .ok (.iload_n 3, 1) := by decide +kernel
theorem d_given_29 : decode prog_81_method_28_code 29 = .ok (.iaload, 1) := by decide +kernel
theorem d_given_30 : decode prog_81_method_28_code 30 = .ok (.goto 9, 3) := by decide +kernel
theorem d_given_33 : decode prog_81_method_28_code 33 = .ok (.aload_n 0, 1) := by decide +kernel
theorem d_given_34 : decode prog_81_method_28_code 34 = .ok (.getfield 47, 3) := by decide +kernel
theorem d_given_37 : decode prog_81_method_28_code 37 = .ok (.iload_n 3, 1) := by decide +kernel
theorem d_given_38 : decode prog_81_method_28_code 38 = .ok (.iaload, 1) := by decide +kernel
theorem d_given_39 : decode prog_81_method_28_code 39 = .ok (.istore_n 3, 1) := by decide +kernel
theorem d_given_40 : decode prog_81_method_28_code 40 = .ok (.goto (-38), 3) := by decide +kernel
theorem d_given_43 : decode prog_81_method_28_code 43 = .ok (.iload_n 3, 1) := by decide +kernel
theorem d_given_44 : decode prog_81_method_28_code 44 = .ok (.ireturn, 1) := by decide +kernel
theorem own_ef_given (m : MethodId) (d : Addr) (p1 : Int32) (va : Addr) : entryFrame m #[(.ref d), (.int p1), (.ref va)] 4 = mkF m 0 #[.val (.ref d), .val (.int p1), .val (.ref va), .unset] [] := by first | (simp [entryFrame, mkF, argsToLocals, Value.category]; done) | rfl
set_option maxRecDepth 65536 in
set_option maxHeartbeats 40000000 in
theorem own_m_given (l : Launch) (Z : State) (a0 : Array Value) (hw : ∀ d ∈ tables_1, d.before a0 Z = true) (h0 : Heap) (n0 : Nat) {d al ao ah au ac aw ar : Addr} {lim sz : Int32} {lv lo hi un ca wo re : own_L} (D : own_Dg Z n0 h0 d al ao ah au ac aw ar lim sz lv lo hi un ca wo re) {va : Addr} {bn : Nat} {bf : Nat → Int32} (Av : own_A Z h0 va .boolean bn bf) (p1 : Int32) {r : Int32} (hF : own_f_given lv lo hi bn bf p1 = some r) : own_Met l Z ⟨"com/example/orbweaver/orbweaver/synthesis/Diagrams", "given", "(I[Z)I"⟩ prog_81_method_28_code 4 (some .int) [] ({ frames := 0, cells := 0, slots := 0, locals := 0 } : Room) #[.ref d, .int p1, .ref va] h0 n0 (fun v h => v = some (.int r) ∧ h = h0) := by
  unfold own_f_given at hF
  refine own_body (plainFor_of_name own_pn_Diagrams) ?_
  intro p e s m below meth c T0 X0 hx hby hml hown hnm hZ e0 hret hlk
  have N0 := Fr.nil n0
  refine own_cast (own_ef_given m d p1 va) ?_
  have loop : ∀ (f : Nat) (T : State) (locs : List Loc) (i3 : Int32), own_f_givenL f lv lo hi bn bf i3 = some r → Stand p l e ({ frames := 0, cells := 0, slots := 0, locals := 0 } : Room) s m #[.ref d, .int p1, .ref va] below meth c T locs 0 0 → Fr n0 locs → T.heap = h0 → own_G p e below (own_End s ({ frames := 0, cells := 0, slots := 0, locals := 0 } : Room) n0 (fun v h => v = some (.int r) ∧ h = h0)) (T.setTop (mkF m 2 #[.val (.ref d), .val (.int p1), .val (.ref va), .val (.int i3)] [])) := by
    intro f
    induction f with
    | zero => intro T locs i3   hF X N eT; cases hF
    | succ f ih =>
      intro T locs i3   hF X N eT
      rw [own_f_givenL] at hF
      refine own_aloadN X hx (hb hby d_given_2) rfl rfl 3 rfl ?_
      refine own_getF X hx hZ hown (own_w36 hw) eT (own_D_f_level D) (hb hby d_given_3) 6 rfl (fun T1 X1 e1 => ?_)
      refine own_iloadN X1 hx (hb hby d_given_6) rfl 7 rfl ?_
      obtain ⟨x2, g2, hF⟩ := own_b1_some hF
      refine own_iaload X1 hx hZ e1 (own_D_a_al D) (own_get_in g2) (own_get_val g2) (hb hby d_given_7) 8 rfl ?_
      refine own_aloadN X1 hx (hb hby d_given_8) rfl rfl 9 rfl ?_
      refine own_arrlen X1 hx hZ e1 Av (z := (bn.toInt32)) rfl (hb hby d_given_9) 10 rfl ?_
      by_cases hc3 : x2 < (bn.toInt32)
      · replace hF := own_ifT hc3 hF
        refine own_icmpF X1 hx (hb hby d_given_10) (tlt hc3).2.1 13 rfl ?_
        refine own_aloadN X1 hx (hb hby d_given_13) rfl rfl 14 rfl ?_
        refine own_aloadN X1 hx (hb hby d_given_14) rfl rfl 15 rfl ?_
        refine own_getF X1 hx hZ hown (own_w36 hw) e1 (own_D_f_level D) (hb hby d_given_15) 18 rfl (fun T4 X4 e4 => ?_)
        refine own_iloadN X4 hx (hb hby d_given_18) rfl 19 rfl ?_
        obtain ⟨x5, g5, hF⟩ := own_b1_some hF
        refine own_iaload X4 hx hZ e4 (own_D_a_al D) (own_get_in g5) (own_get_val g5) (hb hby d_given_19) 20 rfl ?_
        obtain ⟨x6, g6, hF⟩ := own_b1_some hF
        refine own_zaload X4 hx hZ e4 Av (own_at_in g6) (own_at_val g6) (hb hby d_given_20) 21 rfl ?_
        by_cases hc7 : x6 = (0 : Int32)
        · replace hF := own_ifT hc7 hF
          refine own_ifcT X4 hx (hb hby d_given_21) (teq hc7).1 33 (by decide) (by decide) ?_
          refine own_aloadN X4 hx (hb hby d_given_33) rfl rfl 34 rfl ?_
          refine own_getF X4 hx hZ hown (own_w38 hw) e4 (own_D_f_low D) (hb hby d_given_34) 37 rfl (fun T8 X8 e8 => ?_)
          refine own_iloadN X8 hx (hb hby d_given_37) rfl 38 rfl ?_
          obtain ⟨x9, g9, hF⟩ := own_b1_some hF
          refine own_iaload X8 hx hZ e8 (own_D_a_ao D) (own_get_in g9) (own_get_val g9) (hb hby d_given_38) 39 rfl ?_
          refine own_istoreN X8 hx (#[.val (.ref d), .val (.int p1), .val (.ref va), .val (.int x9)]) (hb hby d_given_39) rfl 40 rfl ?_
          refine own_goto X8 hx (hb hby d_given_40) 2 (by decide) (by decide) ?_
          exact ih T8 _ x9   hF X8 N e8
        · replace hF := own_ifF hc7 hF
          refine own_ifcF X4 hx (hb hby d_given_21) (feq hc7).1 24 rfl ?_
          refine own_aloadN X4 hx (hb hby d_given_24) rfl rfl 25 rfl ?_
          refine own_getF X4 hx hZ hown (own_w40 hw) e4 (own_D_f_high D) (hb hby d_given_25) 28 rfl (fun T10 X10 e10 => ?_)
          refine own_iloadN X10 hx (hb hby d_given_28) rfl 29 rfl ?_
          obtain ⟨x11, g11, hF⟩ := own_b1_some hF
          refine own_iaload X10 hx hZ e10 (own_D_a_ah D) (own_get_in g11) (own_get_val g11) (hb hby d_given_29) 30 rfl ?_
          refine own_goto X10 hx (hb hby d_given_30) 39 (by decide) (by decide) ?_
          refine own_istoreN X10 hx (#[.val (.ref d), .val (.int p1), .val (.ref va), .val (.int x11)]) (hb hby d_given_39) rfl 40 rfl ?_
          refine own_goto X10 hx (hb hby d_given_40) 2 (by decide) (by decide) ?_
          exact ih T10 _ x11   hF X10 N e10
      · replace hF := own_ifF hc3 hF
        refine own_icmpT X1 hx (hb hby d_given_10) (flt hc3).2.1 43 (by decide) (by decide) ?_
        refine own_iloadN X1 hx (hb hby d_given_43) rfl 44 rfl ?_
        cases hF
        exact own_retI X1 hx hret hlk (hb hby d_given_44) (Nat.le_refl _) (Nat.le_refl _) N e1 ⟨rfl, rfl⟩
  refine own_iloadN X0 hx (hb hby d_given_0) rfl 1 rfl ?_
  refine own_istoreN X0 hx (#[.val (.ref d), .val (.int p1), .val (.ref va), .val (.int p1)]) (hb hby d_given_1) rfl 2 rfl ?_
  exact loop 8 T0 _ p1   hF X0 N0 e0
def own_r4 : List Int32 := [0, 1, 2, 3]
def own_r3 : List Int32 := [0, 1, 2]
def own_r2 : List Int32 := [0, 1]
def own_val0 (j : Nat) : Int32 := 0
def own_val1 (v0 : Int32) (j : Nat) : Int32 := if 0 = j then v0 else 0
def own_val2 (v0 v1 : Int32) (j : Nat) : Int32 := if 1 = j then v1 else if 0 = j then v0 else 0
def own_val3 (v0 v1 v2 : Int32) (j : Nat) : Int32 := if 2 = j then v2 else if 1 = j then v1 else if 0 = j then v0 else 0
theorem own_mem2 (c : Prop) [Decidable c] : (if c then (0 : Int32) else (1 : Int32)) ∈ own_r2 := by split <;> simp [own_r2]
theorem own_nar2 {b : Int32} (h : b ∈ own_r2) : nar .boolean b = b := by
  simp only [own_r2, List.mem_cons, List.not_mem_nil, or_false] at h
  rcases h with rfl | rfl <;> rfl
theorem own_mem4 (x : Int32) : (x &&& (3 : Int32)) ∈ own_r4 := by
  have h : (x &&& 3).toBitVec.toNat ≤ 3 := by
    simp only [Int32.toBitVec_and, BitVec.toNat_and]
    exact Nat.and_le_right
  have q : ∀ n : Nat, (x &&& 3).toBitVec.toNat = n → (x &&& 3) = Int32.ofBitVec (BitVec.ofNat 32 n) := fun n hn => by
    apply Int32.toBitVec_inj.mp
    show _ = BitVec.ofNat 32 n
    rw [← hn, BitVec.ofNat_toNat]; simp
  have r : (x &&& 3).toBitVec.toNat = 0 ∨ (x &&& 3).toBitVec.toNat = 1 ∨ (x &&& 3).toBitVec.toNat = 2 ∨ (x &&& 3).toBitVec.toNat = 3 := by omega
  rcases r with r | r | r | r <;> rw [q _ r] <;> decide
theorem own_mem3 (x : Int32) : ((x &&& (3 : Int32)) % (3 : Int32)) ∈ own_r3 := by
  have h := own_mem4 x
  simp only [own_r4, List.mem_cons, List.not_mem_nil, or_false] at h
  rcases h with h | h | h | h <;> rw [h] <;> decide
/-- the set that the law makes -/
def own_f_mk (i4 i5 i6 i7 i8 : Int32) : Option (Int32 × Int32 × own_L × own_L × own_L × own_L × own_L × own_L × own_L) :=
  own_b6 (own_f_variable (1000 : Int32) (2 : Int32) [(1, (3 : Int32)), (0, (3 : Int32))] [(1, (1 : Int32))] [(1, (1 : Int32))] [] i4) fun x14 sz14 lv14 lo14 hi14 un14 =>
  own_b6 (own_f_variable (1000 : Int32) sz14 lv14 lo14 hi14 un14 i5) fun x15 sz15 lv15 lo15 hi15 un15 =>
  own_b6 (own_f_variable (1000 : Int32) sz15 lv15 lo15 hi15 un15 i6) fun x16 sz16 lv16 lo16 hi16 un16 =>
  own_b9 (own_f_combine (1000 : Int32) sz16 lv16 lo16 hi16 un16 [] [] [] i8 x15 x16) fun x17 sz17 lv17 lo17 hi17 un17 ca17 wo17 re17 =>
  own_b9 (own_f_combine (1000 : Int32) sz17 lv17 lo17 hi17 un17 ca17 wo17 re17 i7 x14 x17) fun x18 sz18 lv18 lo18 hi18 un18 ca18 wo18 re18 =>
  some (x18, sz18, lv18, lo18, hi18, un18, ca18, wo18, re18)
/-- what the law asks of it, 0 values given -/
def own_f_tail0 (i4 i5 i6 i7 i8 w0 w1 w2 r : Int32) (lv lo hi : own_L) : Option Int32 :=
  own_b1 (own_f_given lv lo hi 0 (own_val0) r) fun x19 =>
  own_b1 (own_f_holds lv lo hi 3 (own_val3 w0 w1 w2) x19) fun x20 =>
  if x20 = (own_f_op i7 (own_f_pick i4 w0 w1 w2) (own_f_op i8 (own_f_pick i5 w0 w1 w2) (own_f_pick i6 w0 w1 w2))) then
    some (1 : Int32)
  else
    some (0 : Int32)
def own_f_law0 (i4 i5 i6 i7 i8 w0 w1 w2 : Int32) : Option Int32 := own_b9 (own_f_mk i4 i5 i6 i7 i8) fun r sz lv lo hi un ca wo re => own_f_tail0 i4 i5 i6 i7 i8 w0 w1 w2 r lv lo hi
def own_chk0 (i4 i5 i6 i7 i8 : Int32) (r : Int32) (lv lo hi : own_L) : Bool := own_r2.all fun w0 => own_r2.all fun w1 => own_r2.all fun w2 => decide (own_f_tail0 i4 i5 i6 i7 i8 w0 w1 w2 r lv lo hi = some 1)
/-- what the law asks of it, 1 values given -/
def own_f_tail1 (i4 i5 i6 i7 i8 v0 w0 w1 w2 r : Int32) (lv lo hi : own_L) : Option Int32 :=
  own_b1 (own_f_given lv lo hi 1 (own_val1 v0) r) fun x40 =>
  own_b1 (own_f_holds lv lo hi 3 (own_val3 w0 w1 w2) x40) fun x41 =>
  if x41 = (own_f_op i7 (own_f_pick i4 v0 w1 w2) (own_f_op i8 (own_f_pick i5 v0 w1 w2) (own_f_pick i6 v0 w1 w2))) then
    some (1 : Int32)
  else
    some (0 : Int32)
def own_f_law1 (i4 i5 i6 i7 i8 v0 w0 w1 w2 : Int32) : Option Int32 := own_b9 (own_f_mk i4 i5 i6 i7 i8) fun r sz lv lo hi un ca wo re => own_f_tail1 i4 i5 i6 i7 i8 v0 w0 w1 w2 r lv lo hi
def own_chk1 (i4 i5 i6 i7 i8 : Int32) (r : Int32) (lv lo hi : own_L) : Bool := own_r2.all fun v0 => own_r2.all fun w0 => own_r2.all fun w1 => own_r2.all fun w2 => decide (own_f_tail1 i4 i5 i6 i7 i8 v0 w0 w1 w2 r lv lo hi = some 1)
/-- what the law asks of it, 2 values given -/
def own_f_tail2 (i4 i5 i6 i7 i8 v0 v1 w0 w1 w2 r : Int32) (lv lo hi : own_L) : Option Int32 :=
  own_b1 (own_f_given lv lo hi 2 (own_val2 v0 v1) r) fun x62 =>
  own_b1 (own_f_holds lv lo hi 3 (own_val3 w0 w1 w2) x62) fun x63 =>
  if x63 = (own_f_op i7 (own_f_pick i4 v0 v1 w2) (own_f_op i8 (own_f_pick i5 v0 v1 w2) (own_f_pick i6 v0 v1 w2))) then
    some (1 : Int32)
  else
    some (0 : Int32)
def own_f_law2 (i4 i5 i6 i7 i8 v0 v1 w0 w1 w2 : Int32) : Option Int32 := own_b9 (own_f_mk i4 i5 i6 i7 i8) fun r sz lv lo hi un ca wo re => own_f_tail2 i4 i5 i6 i7 i8 v0 v1 w0 w1 w2 r lv lo hi
def own_chk2 (i4 i5 i6 i7 i8 : Int32) (r : Int32) (lv lo hi : own_L) : Bool := own_r2.all fun v0 => own_r2.all fun v1 => own_r2.all fun w0 => own_r2.all fun w1 => own_r2.all fun w2 => decide (own_f_tail2 i4 i5 i6 i7 i8 v0 v1 w0 w1 w2 r lv lo hi = some 1)
/-- what the law asks of it, 3 values given -/
def own_f_tail3 (i4 i5 i6 i7 i8 v0 v1 v2 w0 w1 w2 r : Int32) (lv lo hi : own_L) : Option Int32 :=
  own_b1 (own_f_given lv lo hi 3 (own_val3 v0 v1 v2) r) fun x85 =>
  own_b1 (own_f_holds lv lo hi 3 (own_val3 w0 w1 w2) x85) fun x86 =>
  if x86 = (own_f_op i7 (own_f_pick i4 v0 v1 v2) (own_f_op i8 (own_f_pick i5 v0 v1 v2) (own_f_pick i6 v0 v1 v2))) then
    some (1 : Int32)
  else
    some (0 : Int32)
def own_f_law3 (i4 i5 i6 i7 i8 v0 v1 v2 w0 w1 w2 : Int32) : Option Int32 := own_b9 (own_f_mk i4 i5 i6 i7 i8) fun r sz lv lo hi un ca wo re => own_f_tail3 i4 i5 i6 i7 i8 v0 v1 v2 w0 w1 w2 r lv lo hi
def own_chk3 (i4 i5 i6 i7 i8 : Int32) (r : Int32) (lv lo hi : own_L) : Bool := own_r2.all fun v0 => own_r2.all fun v1 => own_r2.all fun v2 => own_r2.all fun w0 => own_r2.all fun w1 => own_r2.all fun w2 => decide (own_f_tail3 i4 i5 i6 i7 i8 v0 v1 v2 w0 w1 w2 r lv lo hi = some 1)
def own_chkO (i4 i5 i6 i7 i8 : Int32) : Option (Int32 × Int32 × own_L × own_L × own_L × own_L × own_L × own_L × own_L) → Bool
  | none => false
  | some q => own_chk0 i4 i5 i6 i7 i8 q.1 q.2.2.1 q.2.2.2.1 q.2.2.2.2.1 && own_chk1 i4 i5 i6 i7 i8 q.1 q.2.2.1 q.2.2.2.1 q.2.2.2.2.1 && own_chk2 i4 i5 i6 i7 i8 q.1 q.2.2.1 q.2.2.2.1 q.2.2.2.2.1 && own_chk3 i4 i5 i6 i7 i8 q.1 q.2.2.1 q.2.2.2.1 q.2.2.2.2.1
def own_chk (i4 i5 i6 i7 i8 : Int32) : Bool := own_chkO i4 i5 i6 i7 i8 (own_f_mk i4 i5 i6 i7 i8)
theorem own_gen {α : Type} (o : Option α) (F : Option α → Bool) {q : Option α} (hm : o = q) (h : F o = true) : F q = true := hm ▸ h
theorem own_chkO_some (i4 i5 i6 i7 i8 : Int32) (r sz : Int32) (lv lo hi un ca wo re : own_L) (h : own_chkO i4 i5 i6 i7 i8 (some (r, sz, lv, lo, hi, un, ca, wo, re)) = true) : (own_chk0 i4 i5 i6 i7 i8 r lv lo hi && own_chk1 i4 i5 i6 i7 i8 r lv lo hi && own_chk2 i4 i5 i6 i7 i8 r lv lo hi && own_chk3 i4 i5 i6 i7 i8 r lv lo hi) = true := h
theorem own_chkO_none (i4 i5 i6 i7 i8 : Int32) (h : own_chkO i4 i5 i6 i7 i8 none = true) : False := by cases h
set_option maxRecDepth 65536 in
theorem own_all_0_0 : (own_r3.all fun i4 => own_r3.all fun i5 => own_r3.all fun i6 => own_chk i4 i5 i6 0 0) = true := by decide +kernel
set_option maxRecDepth 65536 in
theorem own_all_0_1 : (own_r3.all fun i4 => own_r3.all fun i5 => own_r3.all fun i6 => own_chk i4 i5 i6 0 1) = true := by decide +kernel
set_option maxRecDepth 65536 in
theorem own_all_0_2 : (own_r3.all fun i4 => own_r3.all fun i5 => own_r3.all fun i6 => own_chk i4 i5 i6 0 2) = true := by decide +kernel
set_option maxRecDepth 65536 in
theorem own_all_1_0 : (own_r3.all fun i4 => own_r3.all fun i5 => own_r3.all fun i6 => own_chk i4 i5 i6 1 0) = true := by decide +kernel
set_option maxRecDepth 65536 in
theorem own_all_1_1 : (own_r3.all fun i4 => own_r3.all fun i5 => own_r3.all fun i6 => own_chk i4 i5 i6 1 1) = true := by decide +kernel
set_option maxRecDepth 65536 in
theorem own_all_1_2 : (own_r3.all fun i4 => own_r3.all fun i5 => own_r3.all fun i6 => own_chk i4 i5 i6 1 2) = true := by decide +kernel
set_option maxRecDepth 65536 in
theorem own_all_2_0 : (own_r3.all fun i4 => own_r3.all fun i5 => own_r3.all fun i6 => own_chk i4 i5 i6 2 0) = true := by decide +kernel
set_option maxRecDepth 65536 in
theorem own_all_2_1 : (own_r3.all fun i4 => own_r3.all fun i5 => own_r3.all fun i6 => own_chk i4 i5 i6 2 1) = true := by decide +kernel
set_option maxRecDepth 65536 in
theorem own_all_2_2 : (own_r3.all fun i4 => own_r3.all fun i5 => own_r3.all fun i6 => own_chk i4 i5 i6 2 2) = true := by decide +kernel
theorem own_chk_all (i4 i5 i6 i7 i8 : Int32) (h4 : i4 ∈ own_r3) (h5 : i5 ∈ own_r3) (h6 : i6 ∈ own_r3) (h7 : i7 ∈ own_r3) (h8 : i8 ∈ own_r3) : own_chk i4 i5 i6 i7 i8 = true := by
  have q : ∀ p r, (own_r3.all fun i4 => own_r3.all fun i5 => own_r3.all fun i6 => own_chk i4 i5 i6 p r) = true → own_chk i4 i5 i6 p r = true := fun p r h => List.all_eq_true.mp (List.all_eq_true.mp (List.all_eq_true.mp h i4 h4) i5 h5) i6 h6
  simp only [own_r3, List.mem_cons, List.not_mem_nil, or_false] at h7 h8
  rcases h7 with rfl | rfl | rfl <;> rcases h8 with rfl | rfl | rfl
  · exact q _ _ own_all_0_0
  · exact q _ _ own_all_0_1
  · exact q _ _ own_all_0_2
  · exact q _ _ own_all_1_0
  · exact q _ _ own_all_1_1
  · exact q _ _ own_all_1_2
  · exact q _ _ own_all_2_0
  · exact q _ _ own_all_2_1
  · exact q _ _ own_all_2_2
theorem own_law_some0 {i4 i5 i6 i7 i8 w0 w1 w2 : Int32} {r sz : Int32} {lv lo hi un ca wo re : own_L} {z : Option Int32} (hm : own_f_mk i4 i5 i6 i7 i8 = some (r, sz, lv, lo, hi, un, ca, wo, re)) (h : own_f_tail0 i4 i5 i6 i7 i8 w0 w1 w2 r lv lo hi = z) : own_f_law0 i4 i5 i6 i7 i8 w0 w1 w2 = z := by
  unfold own_f_law0
  rw [hm, own_b9_mk]
  exact h
theorem own_chkk0 {i4 i5 i6 i7 i8 : Int32} {r : Int32} {lv lo hi : own_L} (h : own_chk0 i4 i5 i6 i7 i8 r lv lo hi = true) : (own_r2.all fun w0 => own_r2.all fun w1 => own_r2.all fun w2 => decide (own_f_tail0 i4 i5 i6 i7 i8 w0 w1 w2 r lv lo hi = some 1)) = true := h
theorem own_law_one0 (i4 i5 i6 i7 i8 w0 w1 w2 : Int32) (h4 : i4 ∈ own_r3) (h5 : i5 ∈ own_r3) (h6 : i6 ∈ own_r3) (h7 : i7 ∈ own_r3) (h8 : i8 ∈ own_r3) (cw0 : w0 ∈ own_r2) (cw1 : w1 ∈ own_r2) (cw2 : w2 ∈ own_r2) : own_f_law0 i4 i5 i6 i7 i8 w0 w1 w2 = some 1 := by
  have h := own_chk_all i4 i5 i6 i7 i8 h4 h5 h6 h7 h8
  cases hm : own_f_mk i4 i5 i6 i7 i8 with
  | none => exact (own_chkO_none _ _ _ _ _ (own_gen (own_f_mk i4 i5 i6 i7 i8) (own_chkO i4 i5 i6 i7 i8) hm h)).elim
  | some q =>
    obtain ⟨r, sz, lv, lo, hi, un, ca, wo, re⟩ := q
    have h2 := own_chkO_some _ _ _ _ _ _ _ _ _ _ _ _ _ _ (own_gen (own_f_mk i4 i5 i6 i7 i8) (own_chkO i4 i5 i6 i7 i8) hm h)
    simp only [Bool.and_eq_true] at h2
    have h3 := own_chkk0 h2.1.1.1
    exact own_law_some0 hm (of_decide_eq_true (List.all_eq_true.mp (List.all_eq_true.mp (List.all_eq_true.mp h3 w0 cw0) w1 cw1) w2 cw2))
theorem own_law_some1 {i4 i5 i6 i7 i8 v0 w0 w1 w2 : Int32} {r sz : Int32} {lv lo hi un ca wo re : own_L} {z : Option Int32} (hm : own_f_mk i4 i5 i6 i7 i8 = some (r, sz, lv, lo, hi, un, ca, wo, re)) (h : own_f_tail1 i4 i5 i6 i7 i8 v0 w0 w1 w2 r lv lo hi = z) : own_f_law1 i4 i5 i6 i7 i8 v0 w0 w1 w2 = z := by
  unfold own_f_law1
  rw [hm, own_b9_mk]
  exact h
theorem own_chkk1 {i4 i5 i6 i7 i8 : Int32} {r : Int32} {lv lo hi : own_L} (h : own_chk1 i4 i5 i6 i7 i8 r lv lo hi = true) : (own_r2.all fun v0 => own_r2.all fun w0 => own_r2.all fun w1 => own_r2.all fun w2 => decide (own_f_tail1 i4 i5 i6 i7 i8 v0 w0 w1 w2 r lv lo hi = some 1)) = true := h
theorem own_law_one1 (i4 i5 i6 i7 i8 v0 w0 w1 w2 : Int32) (h4 : i4 ∈ own_r3) (h5 : i5 ∈ own_r3) (h6 : i6 ∈ own_r3) (h7 : i7 ∈ own_r3) (h8 : i8 ∈ own_r3) (cv0 : v0 ∈ own_r2) (cw0 : w0 ∈ own_r2) (cw1 : w1 ∈ own_r2) (cw2 : w2 ∈ own_r2) : own_f_law1 i4 i5 i6 i7 i8 v0 w0 w1 w2 = some 1 := by
  have h := own_chk_all i4 i5 i6 i7 i8 h4 h5 h6 h7 h8
  cases hm : own_f_mk i4 i5 i6 i7 i8 with
  | none => exact (own_chkO_none _ _ _ _ _ (own_gen (own_f_mk i4 i5 i6 i7 i8) (own_chkO i4 i5 i6 i7 i8) hm h)).elim
  | some q =>
    obtain ⟨r, sz, lv, lo, hi, un, ca, wo, re⟩ := q
    have h2 := own_chkO_some _ _ _ _ _ _ _ _ _ _ _ _ _ _ (own_gen (own_f_mk i4 i5 i6 i7 i8) (own_chkO i4 i5 i6 i7 i8) hm h)
    simp only [Bool.and_eq_true] at h2
    have h3 := own_chkk1 h2.1.1.2
    exact own_law_some1 hm (of_decide_eq_true (List.all_eq_true.mp (List.all_eq_true.mp (List.all_eq_true.mp (List.all_eq_true.mp h3 v0 cv0) w0 cw0) w1 cw1) w2 cw2))
theorem own_law_some2 {i4 i5 i6 i7 i8 v0 v1 w0 w1 w2 : Int32} {r sz : Int32} {lv lo hi un ca wo re : own_L} {z : Option Int32} (hm : own_f_mk i4 i5 i6 i7 i8 = some (r, sz, lv, lo, hi, un, ca, wo, re)) (h : own_f_tail2 i4 i5 i6 i7 i8 v0 v1 w0 w1 w2 r lv lo hi = z) : own_f_law2 i4 i5 i6 i7 i8 v0 v1 w0 w1 w2 = z := by
  unfold own_f_law2
  rw [hm, own_b9_mk]
  exact h
theorem own_chkk2 {i4 i5 i6 i7 i8 : Int32} {r : Int32} {lv lo hi : own_L} (h : own_chk2 i4 i5 i6 i7 i8 r lv lo hi = true) : (own_r2.all fun v0 => own_r2.all fun v1 => own_r2.all fun w0 => own_r2.all fun w1 => own_r2.all fun w2 => decide (own_f_tail2 i4 i5 i6 i7 i8 v0 v1 w0 w1 w2 r lv lo hi = some 1)) = true := h
theorem own_law_one2 (i4 i5 i6 i7 i8 v0 v1 w0 w1 w2 : Int32) (h4 : i4 ∈ own_r3) (h5 : i5 ∈ own_r3) (h6 : i6 ∈ own_r3) (h7 : i7 ∈ own_r3) (h8 : i8 ∈ own_r3) (cv0 : v0 ∈ own_r2) (cv1 : v1 ∈ own_r2) (cw0 : w0 ∈ own_r2) (cw1 : w1 ∈ own_r2) (cw2 : w2 ∈ own_r2) : own_f_law2 i4 i5 i6 i7 i8 v0 v1 w0 w1 w2 = some 1 := by
  have h := own_chk_all i4 i5 i6 i7 i8 h4 h5 h6 h7 h8
  cases hm : own_f_mk i4 i5 i6 i7 i8 with
  | none => exact (own_chkO_none _ _ _ _ _ (own_gen (own_f_mk i4 i5 i6 i7 i8) (own_chkO i4 i5 i6 i7 i8) hm h)).elim
  | some q =>
    obtain ⟨r, sz, lv, lo, hi, un, ca, wo, re⟩ := q
    have h2 := own_chkO_some _ _ _ _ _ _ _ _ _ _ _ _ _ _ (own_gen (own_f_mk i4 i5 i6 i7 i8) (own_chkO i4 i5 i6 i7 i8) hm h)
    simp only [Bool.and_eq_true] at h2
    have h3 := own_chkk2 h2.1.2
    exact own_law_some2 hm (of_decide_eq_true (List.all_eq_true.mp (List.all_eq_true.mp (List.all_eq_true.mp (List.all_eq_true.mp (List.all_eq_true.mp h3 v0 cv0) v1 cv1) w0 cw0) w1 cw1) w2 cw2))
theorem own_law_some3 {i4 i5 i6 i7 i8 v0 v1 v2 w0 w1 w2 : Int32} {r sz : Int32} {lv lo hi un ca wo re : own_L} {z : Option Int32} (hm : own_f_mk i4 i5 i6 i7 i8 = some (r, sz, lv, lo, hi, un, ca, wo, re)) (h : own_f_tail3 i4 i5 i6 i7 i8 v0 v1 v2 w0 w1 w2 r lv lo hi = z) : own_f_law3 i4 i5 i6 i7 i8 v0 v1 v2 w0 w1 w2 = z := by
  unfold own_f_law3
  rw [hm, own_b9_mk]
  exact h
theorem own_chkk3 {i4 i5 i6 i7 i8 : Int32} {r : Int32} {lv lo hi : own_L} (h : own_chk3 i4 i5 i6 i7 i8 r lv lo hi = true) : (own_r2.all fun v0 => own_r2.all fun v1 => own_r2.all fun v2 => own_r2.all fun w0 => own_r2.all fun w1 => own_r2.all fun w2 => decide (own_f_tail3 i4 i5 i6 i7 i8 v0 v1 v2 w0 w1 w2 r lv lo hi = some 1)) = true := h
theorem own_law_one3 (i4 i5 i6 i7 i8 v0 v1 v2 w0 w1 w2 : Int32) (h4 : i4 ∈ own_r3) (h5 : i5 ∈ own_r3) (h6 : i6 ∈ own_r3) (h7 : i7 ∈ own_r3) (h8 : i8 ∈ own_r3) (cv0 : v0 ∈ own_r2) (cv1 : v1 ∈ own_r2) (cv2 : v2 ∈ own_r2) (cw0 : w0 ∈ own_r2) (cw1 : w1 ∈ own_r2) (cw2 : w2 ∈ own_r2) : own_f_law3 i4 i5 i6 i7 i8 v0 v1 v2 w0 w1 w2 = some 1 := by
  have h := own_chk_all i4 i5 i6 i7 i8 h4 h5 h6 h7 h8
  cases hm : own_f_mk i4 i5 i6 i7 i8 with
  | none => exact (own_chkO_none _ _ _ _ _ (own_gen (own_f_mk i4 i5 i6 i7 i8) (own_chkO i4 i5 i6 i7 i8) hm h)).elim
  | some q =>
    obtain ⟨r, sz, lv, lo, hi, un, ca, wo, re⟩ := q
    have h2 := own_chkO_some _ _ _ _ _ _ _ _ _ _ _ _ _ _ (own_gen (own_f_mk i4 i5 i6 i7 i8) (own_chkO i4 i5 i6 i7 i8) hm h)
    simp only [Bool.and_eq_true] at h2
    have h3 := own_chkk3 h2.2
    exact own_law_some3 hm (of_decide_eq_true (List.all_eq_true.mp (List.all_eq_true.mp (List.all_eq_true.mp (List.all_eq_true.mp (List.all_eq_true.mp (List.all_eq_true.mp h3 v0 cv0) v1 cv1) v2 cv2) w0 cw0) w1 cw1) w2 cw2))

theorem own_ef_law (m : MethodId) (p1 : Int32) (p2 : Int32) (p3 : Int32) (p4 : Int32) : entryFrame m #[(.int p1), (.int p2), (.int p3), (.int p4)] maxLocals = mkF m 0 #[.val (.int p1), .val (.int p2), .val (.int p3), .val (.int p4), .unset, .unset, .unset, .unset, .unset, .unset, .unset, .unset, .unset, .unset, .unset, .unset, .unset, .unset, .unset, .unset, .unset, .unset, .unset, .unset, .unset, .unset, .unset, .unset, .unset] [] := by first | (simp [entryFrame, mkF, argsToLocals, Value.category, maxLocals]; done) | rfl
set_option maxRecDepth 65536 in
set_option maxHeartbeats 40000000 in
theorem own_m_law (l : Launch) (Z : State) (a0 : Array Value) (hw : ∀ d ∈ tables_1, d.before a0 Z = true) (h0 : Heap) (n0 : Nat) (Z0 : n0 ≤ h0.size) (p1 p2 p3 p4 : Int32) : own_Met l Z x code maxLocals ret tables_1 room_1 #[.int p1, .int p2, .int p3, .int p4] h0 n0 (fun v h => v = some (.int 1)) := by
  refine own_body (plainFor_of_name own_pn_DiagramsGivenPinLaw) ?_
  intro p e s m below meth c T0 X0 hx hby hml hown hnm hZ e0 hret hlk
  have N0 := Fr.nil n0
  refine own_cast (own_ef_law m p1 p2 p3 p4) ?_
  refine own_iloadN X0 hx (hb hby at_0) rfl 1 rfl ?_
  refine own_iconst X0 hx (z := (3 : Int32)) (hb hby at_1) rfl 2 rfl ?_
  refine own_iand X0 hx (hb hby at_2) 3 rfl ?_
  refine own_iconst X0 hx (z := (3 : Int32)) (hb hby at_3) rfl 4 rfl ?_
  refine own_irem X0 hx (hb hby at_4) (by decide) 5 rfl ?_
  refine own_istore X0 hx (#[.val (.int p1), .val (.int p2), .val (.int p3), .val (.int p4), .val (.int ((p1 &&& (3 : Int32)) % (3 : Int32))), .unset, .unset, .unset, .unset, .unset, .unset, .unset, .unset, .unset, .unset, .unset, .unset, .unset, .unset, .unset, .unset, .unset, .unset, .unset, .unset, .unset, .unset, .unset, .unset]) (hb hby at_5) rfl 7 rfl ?_
  refine own_iloadN X0 hx (hb hby at_7) rfl 8 rfl ?_
  refine own_iconst X0 hx (z := (2 : Int32)) (hb hby at_8) rfl 9 rfl ?_
  refine own_iushr X0 hx (hb hby at_9) 10 rfl ?_
  refine own_iconst X0 hx (z := (3 : Int32)) (hb hby at_10) rfl 11 rfl ?_
  refine own_iand X0 hx (hb hby at_11) 12 rfl ?_
  refine own_iconst X0 hx (z := (3 : Int32)) (hb hby at_12) rfl 13 rfl ?_
  refine own_irem X0 hx (hb hby at_13) (by decide) 14 rfl ?_
  refine own_istore X0 hx (#[.val (.int p1), .val (.int p2), .val (.int p3), .val (.int p4), .val (.int ((p1 &&& (3 : Int32)) % (3 : Int32))), .val (.int ((((p1.toUInt32 >>> ((2 : Int32) &&& 31).toUInt32).toInt32) &&& (3 : Int32)) % (3 : Int32))), .unset, .unset, .unset, .unset, .unset, .unset, .unset, .unset, .unset, .unset, .unset, .unset, .unset, .unset, .unset, .unset, .unset, .unset, .unset, .unset, .unset, .unset, .unset]) (hb hby at_14) rfl 16 rfl ?_
  refine own_iloadN X0 hx (hb hby at_16) rfl 17 rfl ?_
  refine own_iconst X0 hx (z := (4 : Int32)) (hb hby at_17) rfl 18 rfl ?_
  refine own_iushr X0 hx (hb hby at_18) 19 rfl ?_
  refine own_iconst X0 hx (z := (3 : Int32)) (hb hby at_19) rfl 20 rfl ?_
  refine own_iand X0 hx (hb hby at_20) 21 rfl ?_
  refine own_iconst X0 hx (z := (3 : Int32)) (hb hby at_21) rfl 22 rfl ?_
  refine own_irem X0 hx (hb hby at_22) (by decide) 23 rfl ?_
  refine own_istore X0 hx (#[.val (.int p1), .val (.int p2), .val (.int p3), .val (.int p4), .val (.int ((p1 &&& (3 : Int32)) % (3 : Int32))), .val (.int ((((p1.toUInt32 >>> ((2 : Int32) &&& 31).toUInt32).toInt32) &&& (3 : Int32)) % (3 : Int32))), .val (.int ((((p1.toUInt32 >>> ((4 : Int32) &&& 31).toUInt32).toInt32) &&& (3 : Int32)) % (3 : Int32))), .unset, .unset, .unset, .unset, .unset, .unset, .unset, .unset, .unset, .unset, .unset, .unset, .unset, .unset, .unset, .unset, .unset, .unset, .unset, .unset, .unset, .unset]) (hb hby at_23) rfl 25 rfl ?_
  refine own_iloadN X0 hx (hb hby at_25) rfl 26 rfl ?_
  refine own_bipush X0 hx (z := (6 : Int32)) (hb hby at_26) rfl 28 rfl ?_
  refine own_iushr X0 hx (hb hby at_28) 29 rfl ?_
  refine own_iconst X0 hx (z := (3 : Int32)) (hb hby at_29) rfl 30 rfl ?_
  refine own_iand X0 hx (hb hby at_30) 31 rfl ?_
  refine own_iconst X0 hx (z := (3 : Int32)) (hb hby at_31) rfl 32 rfl ?_
  refine own_irem X0 hx (hb hby at_32) (by decide) 33 rfl ?_
  refine own_istore X0 hx (#[.val (.int p1), .val (.int p2), .val (.int p3), .val (.int p4), .val (.int ((p1 &&& (3 : Int32)) % (3 : Int32))), .val (.int ((((p1.toUInt32 >>> ((2 : Int32) &&& 31).toUInt32).toInt32) &&& (3 : Int32)) % (3 : Int32))), .val (.int ((((p1.toUInt32 >>> ((4 : Int32) &&& 31).toUInt32).toInt32) &&& (3 : Int32)) % (3 : Int32))), .val (.int ((((p1.toUInt32 >>> ((6 : Int32) &&& 31).toUInt32).toInt32) &&& (3 : Int32)) % (3 : Int32))), .unset, .unset, .unset, .unset, .unset, .unset, .unset, .unset, .unset, .unset, .unset, .unset, .unset, .unset, .unset, .unset, .unset, .unset, .unset, .unset, .unset]) (hb hby at_33) rfl 35 rfl ?_
  refine own_iloadN X0 hx (hb hby at_35) rfl 36 rfl ?_
  refine own_bipush X0 hx (z := (8 : Int32)) (hb hby at_36) rfl 38 rfl ?_
  refine own_iushr X0 hx (hb hby at_38) 39 rfl ?_
  refine own_iconst X0 hx (z := (3 : Int32)) (hb hby at_39) rfl 40 rfl ?_
  refine own_iand X0 hx (hb hby at_40) 41 rfl ?_
  refine own_iconst X0 hx (z := (3 : Int32)) (hb hby at_41) rfl 42 rfl ?_
  refine own_irem X0 hx (hb hby at_42) (by decide) 43 rfl ?_
  refine own_istore X0 hx (#[.val (.int p1), .val (.int p2), .val (.int p3), .val (.int p4), .val (.int ((p1 &&& (3 : Int32)) % (3 : Int32))), .val (.int ((((p1.toUInt32 >>> ((2 : Int32) &&& 31).toUInt32).toInt32) &&& (3 : Int32)) % (3 : Int32))), .val (.int ((((p1.toUInt32 >>> ((4 : Int32) &&& 31).toUInt32).toInt32) &&& (3 : Int32)) % (3 : Int32))), .val (.int ((((p1.toUInt32 >>> ((6 : Int32) &&& 31).toUInt32).toInt32) &&& (3 : Int32)) % (3 : Int32))), .val (.int ((((p1.toUInt32 >>> ((8 : Int32) &&& 31).toUInt32).toInt32) &&& (3 : Int32)) % (3 : Int32))), .unset, .unset, .unset, .unset, .unset, .unset, .unset, .unset, .unset, .unset, .unset, .unset, .unset, .unset, .unset, .unset, .unset, .unset, .unset, .unset]) (hb hby at_43) rfl 45 rfl ?_
  refine own_iloadN X0 hx (hb hby at_45) rfl 46 rfl ?_
  refine own_iconst X0 hx (z := (3 : Int32)) (hb hby at_46) rfl 47 rfl ?_
  refine own_iand X0 hx (hb hby at_47) 48 rfl ?_
  refine own_istore X0 hx (#[.val (.int p1), .val (.int p2), .val (.int p3), .val (.int p4), .val (.int ((p1 &&& (3 : Int32)) % (3 : Int32))), .val (.int ((((p1.toUInt32 >>> ((2 : Int32) &&& 31).toUInt32).toInt32) &&& (3 : Int32)) % (3 : Int32))), .val (.int ((((p1.toUInt32 >>> ((4 : Int32) &&& 31).toUInt32).toInt32) &&& (3 : Int32)) % (3 : Int32))), .val (.int ((((p1.toUInt32 >>> ((6 : Int32) &&& 31).toUInt32).toInt32) &&& (3 : Int32)) % (3 : Int32))), .val (.int ((((p1.toUInt32 >>> ((8 : Int32) &&& 31).toUInt32).toInt32) &&& (3 : Int32)) % (3 : Int32))), .val (.int (p2 &&& (3 : Int32))), .unset, .unset, .unset, .unset, .unset, .unset, .unset, .unset, .unset, .unset, .unset, .unset, .unset, .unset, .unset, .unset, .unset, .unset, .unset]) (hb hby at_48) rfl 50 rfl ?_
  refine own_iloadN X0 hx (hb hby at_50) rfl 51 rfl ?_
  refine own_iconst X0 hx (z := (1 : Int32)) (hb hby at_51) rfl 52 rfl ?_
  refine own_iand X0 hx (hb hby at_52) 53 rfl ?_
  have J1 : ∀ Q', own_G p e below Q' (T0.setTop (mkF m 61 #[.val (.int p1), .val (.int p2), .val (.int p3), .val (.int p4), .val (.int ((p1 &&& (3 : Int32)) % (3 : Int32))), .val (.int ((((p1.toUInt32 >>> ((2 : Int32) &&& 31).toUInt32).toInt32) &&& (3 : Int32)) % (3 : Int32))), .val (.int ((((p1.toUInt32 >>> ((4 : Int32) &&& 31).toUInt32).toInt32) &&& (3 : Int32)) % (3 : Int32))), .val (.int ((((p1.toUInt32 >>> ((6 : Int32) &&& 31).toUInt32).toInt32) &&& (3 : Int32)) % (3 : Int32))), .val (.int ((((p1.toUInt32 >>> ((8 : Int32) &&& 31).toUInt32).toInt32) &&& (3 : Int32)) % (3 : Int32))), .val (.int (p2 &&& (3 : Int32))), .unset, .unset, .unset, .unset, .unset, .unset, .unset, .unset, .unset, .unset, .unset, .unset, .unset, .unset, .unset, .unset, .unset, .unset, .unset] [(.int (if (p3 &&& (1 : Int32)) = (0 : Int32) then (0 : Int32) else (1 : Int32)))])) → own_G p e below Q' (T0.setTop (mkF m 53 #[.val (.int p1), .val (.int p2), .val (.int p3), .val (.int p4), .val (.int ((p1 &&& (3 : Int32)) % (3 : Int32))), .val (.int ((((p1.toUInt32 >>> ((2 : Int32) &&& 31).toUInt32).toInt32) &&& (3 : Int32)) % (3 : Int32))), .val (.int ((((p1.toUInt32 >>> ((4 : Int32) &&& 31).toUInt32).toInt32) &&& (3 : Int32)) % (3 : Int32))), .val (.int ((((p1.toUInt32 >>> ((6 : Int32) &&& 31).toUInt32).toInt32) &&& (3 : Int32)) % (3 : Int32))), .val (.int ((((p1.toUInt32 >>> ((8 : Int32) &&& 31).toUInt32).toInt32) &&& (3 : Int32)) % (3 : Int32))), .val (.int (p2 &&& (3 : Int32))), .unset, .unset, .unset, .unset, .unset, .unset, .unset, .unset, .unset, .unset, .unset, .unset, .unset, .unset, .unset, .unset, .unset, .unset, .unset] [(.int (p3 &&& (1 : Int32)))])) := by
    intro Q' r
    by_cases hc1 : (p3 &&& (1 : Int32)) = (0 : Int32)
    · rw [if_pos hc1] at r
      refine own_ifcT X0 hx (hb hby at_53) (teq hc1).1 60 (by decide) (by decide) ?_
      refine own_iconst X0 hx (z := (0 : Int32)) (hb hby at_60) rfl 61 rfl ?_
      exact r
    · rw [if_neg hc1] at r
      refine own_ifcF X0 hx (hb hby at_53) (feq hc1).1 56 rfl ?_
      refine own_iconst X0 hx (z := (1 : Int32)) (hb hby at_56) rfl 57 rfl ?_
      refine own_goto X0 hx (hb hby at_57) 61 (by decide) (by decide) ?_
      exact r
  refine J1 _ ?_
  refine own_istore X0 hx (#[.val (.int p1), .val (.int p2), .val (.int p3), .val (.int p4), .val (.int ((p1 &&& (3 : Int32)) % (3 : Int32))), .val (.int ((((p1.toUInt32 >>> ((2 : Int32) &&& 31).toUInt32).toInt32) &&& (3 : Int32)) % (3 : Int32))), .val (.int ((((p1.toUInt32 >>> ((4 : Int32) &&& 31).toUInt32).toInt32) &&& (3 : Int32)) % (3 : Int32))), .val (.int ((((p1.toUInt32 >>> ((6 : Int32) &&& 31).toUInt32).toInt32) &&& (3 : Int32)) % (3 : Int32))), .val (.int ((((p1.toUInt32 >>> ((8 : Int32) &&& 31).toUInt32).toInt32) &&& (3 : Int32)) % (3 : Int32))), .val (.int (p2 &&& (3 : Int32))), .val (.int (if (p3 &&& (1 : Int32)) = (0 : Int32) then (0 : Int32) else (1 : Int32))), .unset, .unset, .unset, .unset, .unset, .unset, .unset, .unset, .unset, .unset, .unset, .unset, .unset, .unset, .unset, .unset, .unset, .unset]) (hb hby at_61) rfl 63 rfl ?_
  refine own_iloadN X0 hx (hb hby at_63) rfl 64 rfl ?_
  refine own_iconst X0 hx (z := (2 : Int32)) (hb hby at_64) rfl 65 rfl ?_
  refine own_iand X0 hx (hb hby at_65) 66 rfl ?_
  have J2 : ∀ Q', own_G p e below Q' (T0.setTop (mkF m 74 #[.val (.int p1), .val (.int p2), .val (.int p3), .val (.int p4), .val (.int ((p1 &&& (3 : Int32)) % (3 : Int32))), .val (.int ((((p1.toUInt32 >>> ((2 : Int32) &&& 31).toUInt32).toInt32) &&& (3 : Int32)) % (3 : Int32))), .val (.int ((((p1.toUInt32 >>> ((4 : Int32) &&& 31).toUInt32).toInt32) &&& (3 : Int32)) % (3 : Int32))), .val (.int ((((p1.toUInt32 >>> ((6 : Int32) &&& 31).toUInt32).toInt32) &&& (3 : Int32)) % (3 : Int32))), .val (.int ((((p1.toUInt32 >>> ((8 : Int32) &&& 31).toUInt32).toInt32) &&& (3 : Int32)) % (3 : Int32))), .val (.int (p2 &&& (3 : Int32))), .val (.int (if (p3 &&& (1 : Int32)) = (0 : Int32) then (0 : Int32) else (1 : Int32))), .unset, .unset, .unset, .unset, .unset, .unset, .unset, .unset, .unset, .unset, .unset, .unset, .unset, .unset, .unset, .unset, .unset, .unset] [(.int (if (p3 &&& (2 : Int32)) = (0 : Int32) then (0 : Int32) else (1 : Int32)))])) → own_G p e below Q' (T0.setTop (mkF m 66 #[.val (.int p1), .val (.int p2), .val (.int p3), .val (.int p4), .val (.int ((p1 &&& (3 : Int32)) % (3 : Int32))), .val (.int ((((p1.toUInt32 >>> ((2 : Int32) &&& 31).toUInt32).toInt32) &&& (3 : Int32)) % (3 : Int32))), .val (.int ((((p1.toUInt32 >>> ((4 : Int32) &&& 31).toUInt32).toInt32) &&& (3 : Int32)) % (3 : Int32))), .val (.int ((((p1.toUInt32 >>> ((6 : Int32) &&& 31).toUInt32).toInt32) &&& (3 : Int32)) % (3 : Int32))), .val (.int ((((p1.toUInt32 >>> ((8 : Int32) &&& 31).toUInt32).toInt32) &&& (3 : Int32)) % (3 : Int32))), .val (.int (p2 &&& (3 : Int32))), .val (.int (if (p3 &&& (1 : Int32)) = (0 : Int32) then (0 : Int32) else (1 : Int32))), .unset, .unset, .unset, .unset, .unset, .unset, .unset, .unset, .unset, .unset, .unset, .unset, .unset, .unset, .unset, .unset, .unset, .unset] [(.int (p3 &&& (2 : Int32)))])) := by
    intro Q' r
    by_cases hc2 : (p3 &&& (2 : Int32)) = (0 : Int32)
    · rw [if_pos hc2] at r
      refine own_ifcT X0 hx (hb hby at_66) (teq hc2).1 73 (by decide) (by decide) ?_
      refine own_iconst X0 hx (z := (0 : Int32)) (hb hby at_73) rfl 74 rfl ?_
      exact r
    · rw [if_neg hc2] at r
      refine own_ifcF X0 hx (hb hby at_66) (feq hc2).1 69 rfl ?_
      refine own_iconst X0 hx (z := (1 : Int32)) (hb hby at_69) rfl 70 rfl ?_
      refine own_goto X0 hx (hb hby at_70) 74 (by decide) (by decide) ?_
      exact r
  refine J2 _ ?_
  refine own_istore X0 hx (#[.val (.int p1), .val (.int p2), .val (.int p3), .val (.int p4), .val (.int ((p1 &&& (3 : Int32)) % (3 : Int32))), .val (.int ((((p1.toUInt32 >>> ((2 : Int32) &&& 31).toUInt32).toInt32) &&& (3 : Int32)) % (3 : Int32))), .val (.int ((((p1.toUInt32 >>> ((4 : Int32) &&& 31).toUInt32).toInt32) &&& (3 : Int32)) % (3 : Int32))), .val (.int ((((p1.toUInt32 >>> ((6 : Int32) &&& 31).toUInt32).toInt32) &&& (3 : Int32)) % (3 : Int32))), .val (.int ((((p1.toUInt32 >>> ((8 : Int32) &&& 31).toUInt32).toInt32) &&& (3 : Int32)) % (3 : Int32))), .val (.int (p2 &&& (3 : Int32))), .val (.int (if (p3 &&& (1 : Int32)) = (0 : Int32) then (0 : Int32) else (1 : Int32))), .val (.int (if (p3 &&& (2 : Int32)) = (0 : Int32) then (0 : Int32) else (1 : Int32))), .unset, .unset, .unset, .unset, .unset, .unset, .unset, .unset, .unset, .unset, .unset, .unset, .unset, .unset, .unset, .unset, .unset]) (hb hby at_74) rfl 76 rfl ?_
  refine own_iloadN X0 hx (hb hby at_76) rfl 77 rfl ?_
  refine own_iconst X0 hx (z := (4 : Int32)) (hb hby at_77) rfl 78 rfl ?_
  refine own_iand X0 hx (hb hby at_78) 79 rfl ?_
  have J3 : ∀ Q', own_G p e below Q' (T0.setTop (mkF m 87 #[.val (.int p1), .val (.int p2), .val (.int p3), .val (.int p4), .val (.int ((p1 &&& (3 : Int32)) % (3 : Int32))), .val (.int ((((p1.toUInt32 >>> ((2 : Int32) &&& 31).toUInt32).toInt32) &&& (3 : Int32)) % (3 : Int32))), .val (.int ((((p1.toUInt32 >>> ((4 : Int32) &&& 31).toUInt32).toInt32) &&& (3 : Int32)) % (3 : Int32))), .val (.int ((((p1.toUInt32 >>> ((6 : Int32) &&& 31).toUInt32).toInt32) &&& (3 : Int32)) % (3 : Int32))), .val (.int ((((p1.toUInt32 >>> ((8 : Int32) &&& 31).toUInt32).toInt32) &&& (3 : Int32)) % (3 : Int32))), .val (.int (p2 &&& (3 : Int32))), .val (.int (if (p3 &&& (1 : Int32)) = (0 : Int32) then (0 : Int32) else (1 : Int32))), .val (.int (if (p3 &&& (2 : Int32)) = (0 : Int32) then (0 : Int32) else (1 : Int32))), .unset, .unset, .unset, .unset, .unset, .unset, .unset, .unset, .unset, .unset, .unset, .unset, .unset, .unset, .unset, .unset, .unset] [(.int (if (p3 &&& (4 : Int32)) = (0 : Int32) then (0 : Int32) else (1 : Int32)))])) → own_G p e below Q' (T0.setTop (mkF m 79 #[.val (.int p1), .val (.int p2), .val (.int p3), .val (.int p4), .val (.int ((p1 &&& (3 : Int32)) % (3 : Int32))), .val (.int ((((p1.toUInt32 >>> ((2 : Int32) &&& 31).toUInt32).toInt32) &&& (3 : Int32)) % (3 : Int32))), .val (.int ((((p1.toUInt32 >>> ((4 : Int32) &&& 31).toUInt32).toInt32) &&& (3 : Int32)) % (3 : Int32))), .val (.int ((((p1.toUInt32 >>> ((6 : Int32) &&& 31).toUInt32).toInt32) &&& (3 : Int32)) % (3 : Int32))), .val (.int ((((p1.toUInt32 >>> ((8 : Int32) &&& 31).toUInt32).toInt32) &&& (3 : Int32)) % (3 : Int32))), .val (.int (p2 &&& (3 : Int32))), .val (.int (if (p3 &&& (1 : Int32)) = (0 : Int32) then (0 : Int32) else (1 : Int32))), .val (.int (if (p3 &&& (2 : Int32)) = (0 : Int32) then (0 : Int32) else (1 : Int32))), .unset, .unset, .unset, .unset, .unset, .unset, .unset, .unset, .unset, .unset, .unset, .unset, .unset, .unset, .unset, .unset, .unset] [(.int (p3 &&& (4 : Int32)))])) := by
    intro Q' r
    by_cases hc3 : (p3 &&& (4 : Int32)) = (0 : Int32)
    · rw [if_pos hc3] at r
      refine own_ifcT X0 hx (hb hby at_79) (teq hc3).1 86 (by decide) (by decide) ?_
      refine own_iconst X0 hx (z := (0 : Int32)) (hb hby at_86) rfl 87 rfl ?_
      exact r
    · rw [if_neg hc3] at r
      refine own_ifcF X0 hx (hb hby at_79) (feq hc3).1 82 rfl ?_
      refine own_iconst X0 hx (z := (1 : Int32)) (hb hby at_82) rfl 83 rfl ?_
      refine own_goto X0 hx (hb hby at_83) 87 (by decide) (by decide) ?_
      exact r
  refine J3 _ ?_
  refine own_istore X0 hx (#[.val (.int p1), .val (.int p2), .val (.int p3), .val (.int p4), .val (.int ((p1 &&& (3 : Int32)) % (3 : Int32))), .val (.int ((((p1.toUInt32 >>> ((2 : Int32) &&& 31).toUInt32).toInt32) &&& (3 : Int32)) % (3 : Int32))), .val (.int ((((p1.toUInt32 >>> ((4 : Int32) &&& 31).toUInt32).toInt32) &&& (3 : Int32)) % (3 : Int32))), .val (.int ((((p1.toUInt32 >>> ((6 : Int32) &&& 31).toUInt32).toInt32) &&& (3 : Int32)) % (3 : Int32))), .val (.int ((((p1.toUInt32 >>> ((8 : Int32) &&& 31).toUInt32).toInt32) &&& (3 : Int32)) % (3 : Int32))), .val (.int (p2 &&& (3 : Int32))), .val (.int (if (p3 &&& (1 : Int32)) = (0 : Int32) then (0 : Int32) else (1 : Int32))), .val (.int (if (p3 &&& (2 : Int32)) = (0 : Int32) then (0 : Int32) else (1 : Int32))), .val (.int (if (p3 &&& (4 : Int32)) = (0 : Int32) then (0 : Int32) else (1 : Int32))), .unset, .unset, .unset, .unset, .unset, .unset, .unset, .unset, .unset, .unset, .unset, .unset, .unset, .unset, .unset, .unset]) (hb hby at_87) rfl 89 rfl ?_
  refine own_iloadN X0 hx (hb hby at_89) rfl 90 rfl ?_
  refine own_iconst X0 hx (z := (1 : Int32)) (hb hby at_90) rfl 91 rfl ?_
  refine own_iand X0 hx (hb hby at_91) 92 rfl ?_
  have J4 : ∀ Q', own_G p e below Q' (T0.setTop (mkF m 100 #[.val (.int p1), .val (.int p2), .val (.int p3), .val (.int p4), .val (.int ((p1 &&& (3 : Int32)) % (3 : Int32))), .val (.int ((((p1.toUInt32 >>> ((2 : Int32) &&& 31).toUInt32).toInt32) &&& (3 : Int32)) % (3 : Int32))), .val (.int ((((p1.toUInt32 >>> ((4 : Int32) &&& 31).toUInt32).toInt32) &&& (3 : Int32)) % (3 : Int32))), .val (.int ((((p1.toUInt32 >>> ((6 : Int32) &&& 31).toUInt32).toInt32) &&& (3 : Int32)) % (3 : Int32))), .val (.int ((((p1.toUInt32 >>> ((8 : Int32) &&& 31).toUInt32).toInt32) &&& (3 : Int32)) % (3 : Int32))), .val (.int (p2 &&& (3 : Int32))), .val (.int (if (p3 &&& (1 : Int32)) = (0 : Int32) then (0 : Int32) else (1 : Int32))), .val (.int (if (p3 &&& (2 : Int32)) = (0 : Int32) then (0 : Int32) else (1 : Int32))), .val (.int (if (p3 &&& (4 : Int32)) = (0 : Int32) then (0 : Int32) else (1 : Int32))), .unset, .unset, .unset, .unset, .unset, .unset, .unset, .unset, .unset, .unset, .unset, .unset, .unset, .unset, .unset, .unset] [(.int (if (p4 &&& (1 : Int32)) = (0 : Int32) then (0 : Int32) else (1 : Int32)))])) → own_G p e below Q' (T0.setTop (mkF m 92 #[.val (.int p1), .val (.int p2), .val (.int p3), .val (.int p4), .val (.int ((p1 &&& (3 : Int32)) % (3 : Int32))), .val (.int ((((p1.toUInt32 >>> ((2 : Int32) &&& 31).toUInt32).toInt32) &&& (3 : Int32)) % (3 : Int32))), .val (.int ((((p1.toUInt32 >>> ((4 : Int32) &&& 31).toUInt32).toInt32) &&& (3 : Int32)) % (3 : Int32))), .val (.int ((((p1.toUInt32 >>> ((6 : Int32) &&& 31).toUInt32).toInt32) &&& (3 : Int32)) % (3 : Int32))), .val (.int ((((p1.toUInt32 >>> ((8 : Int32) &&& 31).toUInt32).toInt32) &&& (3 : Int32)) % (3 : Int32))), .val (.int (p2 &&& (3 : Int32))), .val (.int (if (p3 &&& (1 : Int32)) = (0 : Int32) then (0 : Int32) else (1 : Int32))), .val (.int (if (p3 &&& (2 : Int32)) = (0 : Int32) then (0 : Int32) else (1 : Int32))), .val (.int (if (p3 &&& (4 : Int32)) = (0 : Int32) then (0 : Int32) else (1 : Int32))), .unset, .unset, .unset, .unset, .unset, .unset, .unset, .unset, .unset, .unset, .unset, .unset, .unset, .unset, .unset, .unset] [(.int (p4 &&& (1 : Int32)))])) := by
    intro Q' r
    by_cases hc4 : (p4 &&& (1 : Int32)) = (0 : Int32)
    · rw [if_pos hc4] at r
      refine own_ifcT X0 hx (hb hby at_92) (teq hc4).1 99 (by decide) (by decide) ?_
      refine own_iconst X0 hx (z := (0 : Int32)) (hb hby at_99) rfl 100 rfl ?_
      exact r
    · rw [if_neg hc4] at r
      refine own_ifcF X0 hx (hb hby at_92) (feq hc4).1 95 rfl ?_
      refine own_iconst X0 hx (z := (1 : Int32)) (hb hby at_95) rfl 96 rfl ?_
      refine own_goto X0 hx (hb hby at_96) 100 (by decide) (by decide) ?_
      exact r
  refine J4 _ ?_
  refine own_istore X0 hx (#[.val (.int p1), .val (.int p2), .val (.int p3), .val (.int p4), .val (.int ((p1 &&& (3 : Int32)) % (3 : Int32))), .val (.int ((((p1.toUInt32 >>> ((2 : Int32) &&& 31).toUInt32).toInt32) &&& (3 : Int32)) % (3 : Int32))), .val (.int ((((p1.toUInt32 >>> ((4 : Int32) &&& 31).toUInt32).toInt32) &&& (3 : Int32)) % (3 : Int32))), .val (.int ((((p1.toUInt32 >>> ((6 : Int32) &&& 31).toUInt32).toInt32) &&& (3 : Int32)) % (3 : Int32))), .val (.int ((((p1.toUInt32 >>> ((8 : Int32) &&& 31).toUInt32).toInt32) &&& (3 : Int32)) % (3 : Int32))), .val (.int (p2 &&& (3 : Int32))), .val (.int (if (p3 &&& (1 : Int32)) = (0 : Int32) then (0 : Int32) else (1 : Int32))), .val (.int (if (p3 &&& (2 : Int32)) = (0 : Int32) then (0 : Int32) else (1 : Int32))), .val (.int (if (p3 &&& (4 : Int32)) = (0 : Int32) then (0 : Int32) else (1 : Int32))), .val (.int (if (p4 &&& (1 : Int32)) = (0 : Int32) then (0 : Int32) else (1 : Int32))), .unset, .unset, .unset, .unset, .unset, .unset, .unset, .unset, .unset, .unset, .unset, .unset, .unset, .unset, .unset]) (hb hby at_100) rfl 102 rfl ?_
  refine own_iloadN X0 hx (hb hby at_102) rfl 103 rfl ?_
  refine own_iconst X0 hx (z := (2 : Int32)) (hb hby at_103) rfl 104 rfl ?_
  refine own_iand X0 hx (hb hby at_104) 105 rfl ?_
  have J5 : ∀ Q', own_G p e below Q' (T0.setTop (mkF m 113 #[.val (.int p1), .val (.int p2), .val (.int p3), .val (.int p4), .val (.int ((p1 &&& (3 : Int32)) % (3 : Int32))), .val (.int ((((p1.toUInt32 >>> ((2 : Int32) &&& 31).toUInt32).toInt32) &&& (3 : Int32)) % (3 : Int32))), .val (.int ((((p1.toUInt32 >>> ((4 : Int32) &&& 31).toUInt32).toInt32) &&& (3 : Int32)) % (3 : Int32))), .val (.int ((((p1.toUInt32 >>> ((6 : Int32) &&& 31).toUInt32).toInt32) &&& (3 : Int32)) % (3 : Int32))), .val (.int ((((p1.toUInt32 >>> ((8 : Int32) &&& 31).toUInt32).toInt32) &&& (3 : Int32)) % (3 : Int32))), .val (.int (p2 &&& (3 : Int32))), .val (.int (if (p3 &&& (1 : Int32)) = (0 : Int32) then (0 : Int32) else (1 : Int32))), .val (.int (if (p3 &&& (2 : Int32)) = (0 : Int32) then (0 : Int32) else (1 : Int32))), .val (.int (if (p3 &&& (4 : Int32)) = (0 : Int32) then (0 : Int32) else (1 : Int32))), .val (.int (if (p4 &&& (1 : Int32)) = (0 : Int32) then (0 : Int32) else (1 : Int32))), .unset, .unset, .unset, .unset, .unset, .unset, .unset, .unset, .unset, .unset, .unset, .unset, .unset, .unset, .unset] [(.int (if (p4 &&& (2 : Int32)) = (0 : Int32) then (0 : Int32) else (1 : Int32)))])) → own_G p e below Q' (T0.setTop (mkF m 105 #[.val (.int p1), .val (.int p2), .val (.int p3), .val (.int p4), .val (.int ((p1 &&& (3 : Int32)) % (3 : Int32))), .val (.int ((((p1.toUInt32 >>> ((2 : Int32) &&& 31).toUInt32).toInt32) &&& (3 : Int32)) % (3 : Int32))), .val (.int ((((p1.toUInt32 >>> ((4 : Int32) &&& 31).toUInt32).toInt32) &&& (3 : Int32)) % (3 : Int32))), .val (.int ((((p1.toUInt32 >>> ((6 : Int32) &&& 31).toUInt32).toInt32) &&& (3 : Int32)) % (3 : Int32))), .val (.int ((((p1.toUInt32 >>> ((8 : Int32) &&& 31).toUInt32).toInt32) &&& (3 : Int32)) % (3 : Int32))), .val (.int (p2 &&& (3 : Int32))), .val (.int (if (p3 &&& (1 : Int32)) = (0 : Int32) then (0 : Int32) else (1 : Int32))), .val (.int (if (p3 &&& (2 : Int32)) = (0 : Int32) then (0 : Int32) else (1 : Int32))), .val (.int (if (p3 &&& (4 : Int32)) = (0 : Int32) then (0 : Int32) else (1 : Int32))), .val (.int (if (p4 &&& (1 : Int32)) = (0 : Int32) then (0 : Int32) else (1 : Int32))), .unset, .unset, .unset, .unset, .unset, .unset, .unset, .unset, .unset, .unset, .unset, .unset, .unset, .unset, .unset] [(.int (p4 &&& (2 : Int32)))])) := by
    intro Q' r
    by_cases hc5 : (p4 &&& (2 : Int32)) = (0 : Int32)
    · rw [if_pos hc5] at r
      refine own_ifcT X0 hx (hb hby at_105) (teq hc5).1 112 (by decide) (by decide) ?_
      refine own_iconst X0 hx (z := (0 : Int32)) (hb hby at_112) rfl 113 rfl ?_
      exact r
    · rw [if_neg hc5] at r
      refine own_ifcF X0 hx (hb hby at_105) (feq hc5).1 108 rfl ?_
      refine own_iconst X0 hx (z := (1 : Int32)) (hb hby at_108) rfl 109 rfl ?_
      refine own_goto X0 hx (hb hby at_109) 113 (by decide) (by decide) ?_
      exact r
  refine J5 _ ?_
  refine own_istore X0 hx (#[.val (.int p1), .val (.int p2), .val (.int p3), .val (.int p4), .val (.int ((p1 &&& (3 : Int32)) % (3 : Int32))), .val (.int ((((p1.toUInt32 >>> ((2 : Int32) &&& 31).toUInt32).toInt32) &&& (3 : Int32)) % (3 : Int32))), .val (.int ((((p1.toUInt32 >>> ((4 : Int32) &&& 31).toUInt32).toInt32) &&& (3 : Int32)) % (3 : Int32))), .val (.int ((((p1.toUInt32 >>> ((6 : Int32) &&& 31).toUInt32).toInt32) &&& (3 : Int32)) % (3 : Int32))), .val (.int ((((p1.toUInt32 >>> ((8 : Int32) &&& 31).toUInt32).toInt32) &&& (3 : Int32)) % (3 : Int32))), .val (.int (p2 &&& (3 : Int32))), .val (.int (if (p3 &&& (1 : Int32)) = (0 : Int32) then (0 : Int32) else (1 : Int32))), .val (.int (if (p3 &&& (2 : Int32)) = (0 : Int32) then (0 : Int32) else (1 : Int32))), .val (.int (if (p3 &&& (4 : Int32)) = (0 : Int32) then (0 : Int32) else (1 : Int32))), .val (.int (if (p4 &&& (1 : Int32)) = (0 : Int32) then (0 : Int32) else (1 : Int32))), .val (.int (if (p4 &&& (2 : Int32)) = (0 : Int32) then (0 : Int32) else (1 : Int32))), .unset, .unset, .unset, .unset, .unset, .unset, .unset, .unset, .unset, .unset, .unset, .unset, .unset, .unset]) (hb hby at_113) rfl 115 rfl ?_
  refine own_iloadN X0 hx (hb hby at_115) rfl 116 rfl ?_
  refine own_iconst X0 hx (z := (4 : Int32)) (hb hby at_116) rfl 117 rfl ?_
  refine own_iand X0 hx (hb hby at_117) 118 rfl ?_
  have J6 : ∀ Q', own_G p e below Q' (T0.setTop (mkF m 126 #[.val (.int p1), .val (.int p2), .val (.int p3), .val (.int p4), .val (.int ((p1 &&& (3 : Int32)) % (3 : Int32))), .val (.int ((((p1.toUInt32 >>> ((2 : Int32) &&& 31).toUInt32).toInt32) &&& (3 : Int32)) % (3 : Int32))), .val (.int ((((p1.toUInt32 >>> ((4 : Int32) &&& 31).toUInt32).toInt32) &&& (3 : Int32)) % (3 : Int32))), .val (.int ((((p1.toUInt32 >>> ((6 : Int32) &&& 31).toUInt32).toInt32) &&& (3 : Int32)) % (3 : Int32))), .val (.int ((((p1.toUInt32 >>> ((8 : Int32) &&& 31).toUInt32).toInt32) &&& (3 : Int32)) % (3 : Int32))), .val (.int (p2 &&& (3 : Int32))), .val (.int (if (p3 &&& (1 : Int32)) = (0 : Int32) then (0 : Int32) else (1 : Int32))), .val (.int (if (p3 &&& (2 : Int32)) = (0 : Int32) then (0 : Int32) else (1 : Int32))), .val (.int (if (p3 &&& (4 : Int32)) = (0 : Int32) then (0 : Int32) else (1 : Int32))), .val (.int (if (p4 &&& (1 : Int32)) = (0 : Int32) then (0 : Int32) else (1 : Int32))), .val (.int (if (p4 &&& (2 : Int32)) = (0 : Int32) then (0 : Int32) else (1 : Int32))), .unset, .unset, .unset, .unset, .unset, .unset, .unset, .unset, .unset, .unset, .unset, .unset, .unset, .unset] [(.int (if (p4 &&& (4 : Int32)) = (0 : Int32) then (0 : Int32) else (1 : Int32)))])) → own_G p e below Q' (T0.setTop (mkF m 118 #[.val (.int p1), .val (.int p2), .val (.int p3), .val (.int p4), .val (.int ((p1 &&& (3 : Int32)) % (3 : Int32))), .val (.int ((((p1.toUInt32 >>> ((2 : Int32) &&& 31).toUInt32).toInt32) &&& (3 : Int32)) % (3 : Int32))), .val (.int ((((p1.toUInt32 >>> ((4 : Int32) &&& 31).toUInt32).toInt32) &&& (3 : Int32)) % (3 : Int32))), .val (.int ((((p1.toUInt32 >>> ((6 : Int32) &&& 31).toUInt32).toInt32) &&& (3 : Int32)) % (3 : Int32))), .val (.int ((((p1.toUInt32 >>> ((8 : Int32) &&& 31).toUInt32).toInt32) &&& (3 : Int32)) % (3 : Int32))), .val (.int (p2 &&& (3 : Int32))), .val (.int (if (p3 &&& (1 : Int32)) = (0 : Int32) then (0 : Int32) else (1 : Int32))), .val (.int (if (p3 &&& (2 : Int32)) = (0 : Int32) then (0 : Int32) else (1 : Int32))), .val (.int (if (p3 &&& (4 : Int32)) = (0 : Int32) then (0 : Int32) else (1 : Int32))), .val (.int (if (p4 &&& (1 : Int32)) = (0 : Int32) then (0 : Int32) else (1 : Int32))), .val (.int (if (p4 &&& (2 : Int32)) = (0 : Int32) then (0 : Int32) else (1 : Int32))), .unset, .unset, .unset, .unset, .unset, .unset, .unset, .unset, .unset, .unset, .unset, .unset, .unset, .unset] [(.int (p4 &&& (4 : Int32)))])) := by
    intro Q' r
    by_cases hc6 : (p4 &&& (4 : Int32)) = (0 : Int32)
    · rw [if_pos hc6] at r
      refine own_ifcT X0 hx (hb hby at_118) (teq hc6).1 125 (by decide) (by decide) ?_
      refine own_iconst X0 hx (z := (0 : Int32)) (hb hby at_125) rfl 126 rfl ?_
      exact r
    · rw [if_neg hc6] at r
      refine own_ifcF X0 hx (hb hby at_118) (feq hc6).1 121 rfl ?_
      refine own_iconst X0 hx (z := (1 : Int32)) (hb hby at_121) rfl 122 rfl ?_
      refine own_goto X0 hx (hb hby at_122) 126 (by decide) (by decide) ?_
      exact r
  refine J6 _ ?_
  refine own_istore X0 hx (#[.val (.int p1), .val (.int p2), .val (.int p3), .val (.int p4), .val (.int ((p1 &&& (3 : Int32)) % (3 : Int32))), .val (.int ((((p1.toUInt32 >>> ((2 : Int32) &&& 31).toUInt32).toInt32) &&& (3 : Int32)) % (3 : Int32))), .val (.int ((((p1.toUInt32 >>> ((4 : Int32) &&& 31).toUInt32).toInt32) &&& (3 : Int32)) % (3 : Int32))), .val (.int ((((p1.toUInt32 >>> ((6 : Int32) &&& 31).toUInt32).toInt32) &&& (3 : Int32)) % (3 : Int32))), .val (.int ((((p1.toUInt32 >>> ((8 : Int32) &&& 31).toUInt32).toInt32) &&& (3 : Int32)) % (3 : Int32))), .val (.int (p2 &&& (3 : Int32))), .val (.int (if (p3 &&& (1 : Int32)) = (0 : Int32) then (0 : Int32) else (1 : Int32))), .val (.int (if (p3 &&& (2 : Int32)) = (0 : Int32) then (0 : Int32) else (1 : Int32))), .val (.int (if (p3 &&& (4 : Int32)) = (0 : Int32) then (0 : Int32) else (1 : Int32))), .val (.int (if (p4 &&& (1 : Int32)) = (0 : Int32) then (0 : Int32) else (1 : Int32))), .val (.int (if (p4 &&& (2 : Int32)) = (0 : Int32) then (0 : Int32) else (1 : Int32))), .val (.int (if (p4 &&& (4 : Int32)) = (0 : Int32) then (0 : Int32) else (1 : Int32))), .unset, .unset, .unset, .unset, .unset, .unset, .unset, .unset, .unset, .unset, .unset, .unset, .unset]) (hb hby at_126) rfl 128 rfl ?_
  have mv0 : (if (p3 &&& (1 : Int32)) = (0 : Int32) then (0 : Int32) else (1 : Int32)) ∈ own_r2 := own_mem2 _
  generalize (if (p3 &&& (1 : Int32)) = (0 : Int32) then (0 : Int32) else (1 : Int32)) = v0 at mv0 ⊢
  have mv1 : (if (p3 &&& (2 : Int32)) = (0 : Int32) then (0 : Int32) else (1 : Int32)) ∈ own_r2 := own_mem2 _
  generalize (if (p3 &&& (2 : Int32)) = (0 : Int32) then (0 : Int32) else (1 : Int32)) = v1 at mv1 ⊢
  have mv2 : (if (p3 &&& (4 : Int32)) = (0 : Int32) then (0 : Int32) else (1 : Int32)) ∈ own_r2 := own_mem2 _
  generalize (if (p3 &&& (4 : Int32)) = (0 : Int32) then (0 : Int32) else (1 : Int32)) = v2 at mv2 ⊢
  have mw0 : (if (p4 &&& (1 : Int32)) = (0 : Int32) then (0 : Int32) else (1 : Int32)) ∈ own_r2 := own_mem2 _
  generalize (if (p4 &&& (1 : Int32)) = (0 : Int32) then (0 : Int32) else (1 : Int32)) = w0 at mw0 ⊢
  have mw1 : (if (p4 &&& (2 : Int32)) = (0 : Int32) then (0 : Int32) else (1 : Int32)) ∈ own_r2 := own_mem2 _
  generalize (if (p4 &&& (2 : Int32)) = (0 : Int32) then (0 : Int32) else (1 : Int32)) = w1 at mw1 ⊢
  have mw2 : (if (p4 &&& (4 : Int32)) = (0 : Int32) then (0 : Int32) else (1 : Int32)) ∈ own_r2 := own_mem2 _
  generalize (if (p4 &&& (4 : Int32)) = (0 : Int32) then (0 : Int32) else (1 : Int32)) = w2 at mw2 ⊢
  have mi4 : ((p1 &&& (3 : Int32)) % (3 : Int32)) ∈ own_r3 := own_mem3 _
  generalize ((p1 &&& (3 : Int32)) % (3 : Int32)) = i4 at mi4 ⊢
  have mi5 : ((((p1.toUInt32 >>> ((2 : Int32) &&& 31).toUInt32).toInt32) &&& (3 : Int32)) % (3 : Int32)) ∈ own_r3 := own_mem3 _
  generalize ((((p1.toUInt32 >>> ((2 : Int32) &&& 31).toUInt32).toInt32) &&& (3 : Int32)) % (3 : Int32)) = i5 at mi5 ⊢
  have mi6 : ((((p1.toUInt32 >>> ((4 : Int32) &&& 31).toUInt32).toInt32) &&& (3 : Int32)) % (3 : Int32)) ∈ own_r3 := own_mem3 _
  generalize ((((p1.toUInt32 >>> ((4 : Int32) &&& 31).toUInt32).toInt32) &&& (3 : Int32)) % (3 : Int32)) = i6 at mi6 ⊢
  have mi7 : ((((p1.toUInt32 >>> ((6 : Int32) &&& 31).toUInt32).toInt32) &&& (3 : Int32)) % (3 : Int32)) ∈ own_r3 := own_mem3 _
  generalize ((((p1.toUInt32 >>> ((6 : Int32) &&& 31).toUInt32).toInt32) &&& (3 : Int32)) % (3 : Int32)) = i7 at mi7 ⊢
  have mi8 : ((((p1.toUInt32 >>> ((8 : Int32) &&& 31).toUInt32).toInt32) &&& (3 : Int32)) % (3 : Int32)) ∈ own_r3 := own_mem3 _
  generalize ((((p1.toUInt32 >>> ((8 : Int32) &&& 31).toUInt32).toInt32) &&& (3 : Int32)) % (3 : Int32)) = i8 at mi8 ⊢
  have mi9 : (p2 &&& (3 : Int32)) ∈ own_r4 := own_mem4 _
  generalize (p2 &&& (3 : Int32)) = i9 at mi9 ⊢
  simp only [own_r4, List.mem_cons, List.not_mem_nil, or_false] at mi9
  rcases mi9 with rfl | rfl | rfl | rfl
  · refine own_iload X0 hx (hb hby at_128) rfl 130 rfl ?_
    refine own_ifcF X0 hx (hb hby at_130) (teq (by decide)).2 133 rfl ?_
    refine own_iconst X0 hx (z := (0 : Int32)) (hb hby at_133) rfl 134 rfl ?_
    refine own_newP (aty := .boolean) X0 hx hZ (own_w0 hw) e0 (hb hby at_134) (by decide) 0 (by decide) (by decide) (by decide) (by decide) 136 rfl (fun T7 h7 cA7 va g7 X7 e7 E7 B7 => ?_)
    have gn_va : n0 ≤ va := Nat.le_trans Z0 (Nat.le_of_eq g7.symm)
    have Z0_7 := Nat.le_trans Z0 E7.1
    have A_va_7 : own_A Z h7 va .boolean 0 (fun _ => 0) := own_A.new B7 (by decide) rfl
    refine own_goto X7 hx (hb hby at_136) 166 (by decide) (by decide) ?_
    refine own_astore X7 hx (#[.val (.int p1), .val (.int p2), .val (.int p3), .val (.int p4), .val (.int i4), .val (.int i5), .val (.int i6), .val (.int i7), .val (.int i8), .val (.int (0 : Int32)), .val (.int v0), .val (.int v1), .val (.int v2), .val (.int w0), .val (.int w1), .val (.int w2), .val (.ref va), .unset, .unset, .unset, .unset, .unset, .unset, .unset, .unset, .unset, .unset, .unset, .unset]) (hb hby at_166) rfl rfl 168 rfl ?_
    refine own_iload X7 hx (hb hby at_168) rfl 170 rfl ?_
    refine own_ifcT X7 hx (hb hby at_170) (flt (by decide)).2.2.2 179 (by decide) (by decide) ?_
    refine own_iload X7 hx (hb hby at_179) rfl 181 rfl ?_
    refine own_iconst X7 hx (z := (1 : Int32)) (hb hby at_181) rfl 182 rfl ?_
    refine own_icmpT X7 hx (hb hby at_182) (flt (by decide)).2.2.2 191 (by decide) (by decide) ?_
    refine own_iload X7 hx (hb hby at_191) rfl 193 rfl ?_
    refine own_iconst X7 hx (z := (2 : Int32)) (hb hby at_193) rfl 194 rfl ?_
    refine own_icmpT X7 hx (hb hby at_194) (flt (by decide)).2.2.2 203 (by decide) (by decide) ?_
    refine own_iconst X7 hx (z := (3 : Int32)) (hb hby at_203) rfl 204 rfl ?_
    refine own_newP (aty := .boolean) X7 hx hZ (own_w0 hw) e7 (hb hby at_204) (by decide) 3 (by decide) (by decide) (by decide) (by decide) 206 rfl (fun T8 h8 cA8 vb g8 X8 e8 E8 B8 => ?_)
    have o_va_vb : va < vb := Nat.lt_of_lt_of_eq A_va_7.lt g8.symm
    have gn_vb : n0 ≤ vb := Nat.le_trans Z0_7 (Nat.le_of_eq g8.symm)
    have Z0_8 := Nat.le_trans Z0_7 E8.1
    have A_va_8 := A_va_7.ext E8
    have A_vb_8 : own_A Z h8 vb .boolean 3 (fun _ => 0) := own_A.new B8 (by decide) rfl
    refine own_astore X8 hx (#[.val (.int p1), .val (.int p2), .val (.int p3), .val (.int p4), .val (.int i4), .val (.int i5), .val (.int i6), .val (.int i7), .val (.int i8), .val (.int (0 : Int32)), .val (.int v0), .val (.int v1), .val (.int v2), .val (.int w0), .val (.int w1), .val (.int w2), .val (.ref va), .val (.ref vb), .unset, .unset, .unset, .unset, .unset, .unset, .unset, .unset, .unset, .unset, .unset]) (hb hby at_206) rfl rfl 208 rfl ?_
    refine own_aload X8 hx (hb hby at_208) rfl rfl 210 rfl ?_
    refine own_iconst X8 hx (z := (0 : Int32)) (hb hby at_210) rfl 211 rfl ?_
    refine own_iload X8 hx (hb hby at_211) rfl 213 rfl ?_
    refine own_zastore X8 hx hZ e8 A_vb_8 ⟨by decide, by decide⟩ (hb hby at_213) N0 gn_vb 214 rfl (fun T9 h9 l9 X9 N9 e9 W9 => ?_)
    have Z0_9 := Nat.le_trans Z0_8 (Nat.le_of_eq W9.size.symm)
    have A_va_9 := A_va_8.other W9 (Nat.ne_of_lt o_va_vb)
    have A_vb_9 := A_vb_8.set W9
    refine own_aload X9 hx (hb hby at_214) rfl rfl 216 rfl ?_
    refine own_iconst X9 hx (z := (1 : Int32)) (hb hby at_216) rfl 217 rfl ?_
    refine own_iload X9 hx (hb hby at_217) rfl 219 rfl ?_
    refine own_zastore X9 hx hZ e9 A_vb_9 ⟨by decide, by decide⟩ (hb hby at_219) N9 gn_vb 220 rfl (fun T10 h10 l10 X10 N10 e10 W10 => ?_)
    have Z0_10 := Nat.le_trans Z0_9 (Nat.le_of_eq W10.size.symm)
    have A_va_10 := A_va_9.other W10 (Nat.ne_of_lt o_va_vb)
    have A_vb_10 := A_vb_9.set W10
    refine own_aload X10 hx (hb hby at_220) rfl rfl 222 rfl ?_
    refine own_iconst X10 hx (z := (2 : Int32)) (hb hby at_222) rfl 223 rfl ?_
    refine own_iload X10 hx (hb hby at_223) rfl 225 rfl ?_
    refine own_zastore X10 hx hZ e10 A_vb_10 ⟨by decide, by decide⟩ (hb hby at_225) N10 gn_vb 226 rfl (fun T11 h11 l11 X11 N11 e11 W11 => ?_)
    have Z0_11 := Nat.le_trans Z0_10 (Nat.le_of_eq W11.size.symm)
    have A_va_11 := A_va_10.other W11 (Nat.ne_of_lt o_va_vb)
    have A_vb_11 := A_vb_10.set W11
    refine own_newO X11 hx hZ hown (own_w1 hw) (own_w2 hw) (own_w3 hw) e11 (hb hby at_226) (by decide) (by decide) 229 rfl (fun T12 h12 d g12 X12 e12 E12 B12 D12 => ?_)
    have o_va_d : va < d := Nat.lt_of_lt_of_eq A_va_11.lt g12.symm
    have o_vb_d : vb < d := Nat.lt_of_lt_of_eq A_vb_11.lt g12.symm
    have gn_d : n0 ≤ d := Nat.le_trans Z0_11 (Nat.le_of_eq g12.symm)
    have Z0_12 := Nat.le_trans Z0_11 E12.1
    have A_va_12 := A_va_11.ext E12
    have A_vb_12 := A_vb_11.ext E12
    have F_logic_d_12 : Fld Z h12 d "com/example/orbweaver/orbweaver/synthesis/Diagrams" "logic" "Lcom/example/orbweaver/orbweaver/spec/Logic;" .null := D12 (Or.inr (own_w20 hw)) (ty := (.object "com/example/orbweaver/orbweaver/spec/Logic")) (by decide)
    have F_sets_d_12 : Fld Z h12 d "com/example/orbweaver/orbweaver/synthesis/Diagrams" "sets" "[Lcom/example/orbweaver/orbweaver/synthesis/Valuations;" .null := D12 (Or.inl (own_w24 hw)) (ty := (.array (.object "com/example/orbweaver/orbweaver/synthesis/Valuations"))) (by decide)
    have F_work_d_12 : Fld Z h12 d "com/example/orbweaver/orbweaver/synthesis/Diagrams" "work" "[I" .null := D12 (Or.inl (own_w27 hw)) (ty := (.array .int)) (by decide)
    have F_results_d_12 : Fld Z h12 d "com/example/orbweaver/orbweaver/synthesis/Diagrams" "results" "[I" .null := D12 (Or.inl (own_w29 hw)) (ty := (.array .int)) (by decide)
    have F_variables_d_12 : Fld Z h12 d "com/example/orbweaver/orbweaver/synthesis/Diagrams" "variables" "I" (.int (0 : Int32)) := D12 (Or.inr (own_w31 hw)) (ty := .int) (by decide)
    have F_terms_d_12 : Fld Z h12 d "com/example/orbweaver/orbweaver/synthesis/Diagrams" "terms" "I" (.int (0 : Int32)) := D12 (Or.inr (own_w33 hw)) (ty := .int) (by decide)
    have F_limit_d_12 : Fld Z h12 d "com/example/orbweaver/orbweaver/synthesis/Diagrams" "limit" "I" (.int (0 : Int32)) := D12 (Or.inl (own_w35 hw)) (ty := .int) (by decide)
    have F_level_d_12 : Fld Z h12 d "com/example/orbweaver/orbweaver/synthesis/Diagrams" "level" "[I" .null := D12 (Or.inl (own_w37 hw)) (ty := (.array .int)) (by decide)
    have F_low_d_12 : Fld Z h12 d "com/example/orbweaver/orbweaver/synthesis/Diagrams" "low" "[I" .null := D12 (Or.inl (own_w39 hw)) (ty := (.array .int)) (by decide)
    have F_high_d_12 : Fld Z h12 d "com/example/orbweaver/orbweaver/synthesis/Diagrams" "high" "[I" .null := D12 (Or.inl (own_w41 hw)) (ty := (.array .int)) (by decide)
    have F_size_d_12 : Fld Z h12 d "com/example/orbweaver/orbweaver/synthesis/Diagrams" "size" "I" (.int (0 : Int32)) := D12 (Or.inl (own_w43 hw)) (ty := .int) (by decide)
    have F_unique_d_12 : Fld Z h12 d "com/example/orbweaver/orbweaver/synthesis/Diagrams" "unique" "[I" .null := D12 (Or.inl (own_w45 hw)) (ty := (.array .int)) (by decide)
    have F_cache_d_12 : Fld Z h12 d "com/example/orbweaver/orbweaver/synthesis/Diagrams" "cache" "[I" .null := D12 (Or.inl (own_w47 hw)) (ty := (.array .int)) (by decide)
    refine own_dup X12 hx (hb hby at_229) rfl 230 rfl ?_
    refine own_iconst X12 hx (z := (3 : Int32)) (hb hby at_230) rfl 231 rfl ?_
    refine own_iconst X12 hx (z := (3 : Int32)) (hb hby at_231) rfl 232 rfl ?_
    refine own_sipush X12 hx (z := (1000 : Int32)) (hb hby at_232) rfl 235 rfl ?_
    refine own_callI X12 hx hZ hown rfl (own_w4 hw) (own_w5 hw) (own_w3 hw) (own_w6 hw) (by decide) 1 (own_m_dinit l Z a0 hw _ n0 (3 : Int32) (3 : Int32) (1000 : Int32) B12 F_logic_d_12 F_sets_d_12 F_work_d_12 F_results_d_12 F_variables_d_12 F_terms_d_12 F_limit_d_12 F_level_d_12 F_low_d_12 F_high_d_12 F_size_d_12 F_unique_d_12 F_cache_d_12 gn_d) e12 (by rw [hml]; rfl) d [(.int (3 : Int32)), (.int (3 : Int32)), (.int (1000 : Int32))] [(.ref d)] rfl (lenOf own_pd_8 rfl) rfl (Nat.le_of_eq rfl) (by decide) (by decide) (by decide) (by decide) (hb hby at_235) N11 238 rfl (fun v13 T13 l13 X13 N13 hP13 => ?_)
    obtain ⟨rfl, Q13, K13'⟩ := hP13
    have Z0_13 := Nat.le_trans Z0_12 K13'.1
    have A_va_13 := A_va_12.keep K13' (ninS (Nat.ne_of_lt o_va_d) nin0)
    have A_vb_13 := A_vb_12.keep K13' (ninS (Nat.ne_of_lt o_vb_d) nin0)
    have B12_13 := B12.keep K13'
    obtain ⟨al, ao, ah, au, ac, aw, ar, D⟩ := Q13
    show own_G p e below _ (T13.setTop (mkF m 238 #[.val (.int p1), .val (.int p2), .val (.int p3), .val (.int p4), .val (.int i4), .val (.int i5), .val (.int i6), .val (.int i7), .val (.int i8), .val (.int (0 : Int32)), .val (.int v0), .val (.int v1), .val (.int v2), .val (.int w0), .val (.int w1), .val (.int w2), .val (.ref va), .val (.ref vb), .unset, .unset, .unset, .unset, .unset, .unset, .unset, .unset, .unset, .unset, .unset] [(.ref d)]))
    refine own_astore X13 hx (#[.val (.int p1), .val (.int p2), .val (.int p3), .val (.int p4), .val (.int i4), .val (.int i5), .val (.int i6), .val (.int i7), .val (.int i8), .val (.int (0 : Int32)), .val (.int v0), .val (.int v1), .val (.int v2), .val (.int w0), .val (.int w1), .val (.int w2), .val (.ref va), .val (.ref vb), .val (.ref d), .unset, .unset, .unset, .unset, .unset, .unset, .unset, .unset, .unset, .unset]) (hb hby at_238) rfl rfl 240 rfl ?_
    have Av : own_A Z T13.heap va .boolean 0 (own_val0) := A_va_13.congr (fun j _ => by rfl)
    have Bv : own_A Z T13.heap vb .boolean 3 (own_val3 w0 w1 w2) := A_vb_13.congr (fun j _ => by simp only [own_nar2 mw0, own_nar2 mw1, own_nar2 mw2]; rfl)
    have hF := own_law_one0 i4 i5 i6 i7 i8 w0 w1 w2 mi4 mi5 mi6 mi7 mi8 mw0 mw1 mw2
    unfold own_f_law0 at hF
    obtain ⟨r', sz', lv', lo', hi', un', ca', wo', re', hF, hF2⟩ := own_b9_some hF
    unfold own_f_mk at hF
    refine own_aload X13 hx (hb hby at_240) rfl rfl 242 rfl ?_
    refine own_iload X13 hx (hb hby at_242) rfl 244 rfl ?_
    obtain ⟨x14, sz14, lv14, lo14, hi14, un14, g14, hF⟩ := own_b6_some hF
    refine own_callV X13 hx hZ hown (own_w52 hw) (own_w53 hw) (own_w55 hw) (own_w54 hw) (own_w3 hw) (own_w56 hw) (by decide) 0 (own_m_variable l Z a0 hw _ n0 D i4 g14) rfl (own_D_exa D) (by rw [hml]; rfl) [(.int i4)] [] rfl (lenOf own_pd_9 rfl) rfl (Nat.le_of_eq rfl) (by decide) (by decide) (by decide) (by decide) (hb hby at_244) N13 247 rfl (fun v14 T14 l14 X14 N14 hP14 => ?_)
    obtain ⟨rfl, D14, K14'⟩ := hP14
    have va_14 := Av.keep K14' (own_D_nin D o_va_d)
    have vb_14 := Bv.keep K14' (own_D_nin D o_vb_d)
    show own_G p e below _ (T14.setTop (mkF m 247 #[.val (.int p1), .val (.int p2), .val (.int p3), .val (.int p4), .val (.int i4), .val (.int i5), .val (.int i6), .val (.int i7), .val (.int i8), .val (.int (0 : Int32)), .val (.int v0), .val (.int v1), .val (.int v2), .val (.int w0), .val (.int w1), .val (.int w2), .val (.ref va), .val (.ref vb), .val (.ref d), .unset, .unset, .unset, .unset, .unset, .unset, .unset, .unset, .unset, .unset] [(.int x14)]))
    refine own_istore X14 hx (#[.val (.int p1), .val (.int p2), .val (.int p3), .val (.int p4), .val (.int i4), .val (.int i5), .val (.int i6), .val (.int i7), .val (.int i8), .val (.int (0 : Int32)), .val (.int v0), .val (.int v1), .val (.int v2), .val (.int w0), .val (.int w1), .val (.int w2), .val (.ref va), .val (.ref vb), .val (.ref d), .val (.int x14), .unset, .unset, .unset, .unset, .unset, .unset, .unset, .unset, .unset]) (hb hby at_247) rfl 249 rfl ?_
    refine own_aload X14 hx (hb hby at_249) rfl rfl 251 rfl ?_
    refine own_iload X14 hx (hb hby at_251) rfl 253 rfl ?_
    obtain ⟨x15, sz15, lv15, lo15, hi15, un15, g15, hF⟩ := own_b6_some hF
    refine own_callV X14 hx hZ hown (own_w52 hw) (own_w53 hw) (own_w55 hw) (own_w54 hw) (own_w3 hw) (own_w56 hw) (by decide) 0 (own_m_variable l Z a0 hw _ n0 D14 i5 g15) rfl (own_D_exa D14) (by rw [hml]; rfl) [(.int i5)] [] rfl (lenOf own_pd_9 rfl) rfl (Nat.le_of_eq rfl) (by decide) (by decide) (by decide) (by decide) (hb hby at_253) N14 256 rfl (fun v15 T15 l15 X15 N15 hP15 => ?_)
    obtain ⟨rfl, D15, K15'⟩ := hP15
    have va_15 := va_14.keep K15' (own_D_nin D14 o_va_d)
    have vb_15 := vb_14.keep K15' (own_D_nin D14 o_vb_d)
    show own_G p e below _ (T15.setTop (mkF m 256 #[.val (.int p1), .val (.int p2), .val (.int p3), .val (.int p4), .val (.int i4), .val (.int i5), .val (.int i6), .val (.int i7), .val (.int i8), .val (.int (0 : Int32)), .val (.int v0), .val (.int v1), .val (.int v2), .val (.int w0), .val (.int w1), .val (.int w2), .val (.ref va), .val (.ref vb), .val (.ref d), .val (.int x14), .unset, .unset, .unset, .unset, .unset, .unset, .unset, .unset, .unset] [(.int x15)]))
    refine own_istore X15 hx (#[.val (.int p1), .val (.int p2), .val (.int p3), .val (.int p4), .val (.int i4), .val (.int i5), .val (.int i6), .val (.int i7), .val (.int i8), .val (.int (0 : Int32)), .val (.int v0), .val (.int v1), .val (.int v2), .val (.int w0), .val (.int w1), .val (.int w2), .val (.ref va), .val (.ref vb), .val (.ref d), .val (.int x14), .val (.int x15), .unset, .unset, .unset, .unset, .unset, .unset, .unset, .unset]) (hb hby at_256) rfl 258 rfl ?_
    refine own_aload X15 hx (hb hby at_258) rfl rfl 260 rfl ?_
    refine own_iload X15 hx (hb hby at_260) rfl 262 rfl ?_
    obtain ⟨x16, sz16, lv16, lo16, hi16, un16, g16, hF⟩ := own_b6_some hF
    refine own_callV X15 hx hZ hown (own_w52 hw) (own_w53 hw) (own_w55 hw) (own_w54 hw) (own_w3 hw) (own_w56 hw) (by decide) 0 (own_m_variable l Z a0 hw _ n0 D15 i6 g16) rfl (own_D_exa D15) (by rw [hml]; rfl) [(.int i6)] [] rfl (lenOf own_pd_9 rfl) rfl (Nat.le_of_eq rfl) (by decide) (by decide) (by decide) (by decide) (hb hby at_262) N15 265 rfl (fun v16 T16 l16 X16 N16 hP16 => ?_)
    obtain ⟨rfl, D16, K16'⟩ := hP16
    have va_16 := va_15.keep K16' (own_D_nin D15 o_va_d)
    have vb_16 := vb_15.keep K16' (own_D_nin D15 o_vb_d)
    show own_G p e below _ (T16.setTop (mkF m 265 #[.val (.int p1), .val (.int p2), .val (.int p3), .val (.int p4), .val (.int i4), .val (.int i5), .val (.int i6), .val (.int i7), .val (.int i8), .val (.int (0 : Int32)), .val (.int v0), .val (.int v1), .val (.int v2), .val (.int w0), .val (.int w1), .val (.int w2), .val (.ref va), .val (.ref vb), .val (.ref d), .val (.int x14), .val (.int x15), .unset, .unset, .unset, .unset, .unset, .unset, .unset, .unset] [(.int x16)]))
    refine own_istore X16 hx (#[.val (.int p1), .val (.int p2), .val (.int p3), .val (.int p4), .val (.int i4), .val (.int i5), .val (.int i6), .val (.int i7), .val (.int i8), .val (.int (0 : Int32)), .val (.int v0), .val (.int v1), .val (.int v2), .val (.int w0), .val (.int w1), .val (.int w2), .val (.ref va), .val (.ref vb), .val (.ref d), .val (.int x14), .val (.int x15), .val (.int x16), .unset, .unset, .unset, .unset, .unset, .unset, .unset]) (hb hby at_265) rfl 267 rfl ?_
    refine own_aload X16 hx (hb hby at_267) rfl rfl 269 rfl ?_
    refine own_iload X16 hx (hb hby at_269) rfl 271 rfl ?_
    refine own_iload X16 hx (hb hby at_271) rfl 273 rfl ?_
    refine own_aload X16 hx (hb hby at_273) rfl rfl 275 rfl ?_
    refine own_iload X16 hx (hb hby at_275) rfl 277 rfl ?_
    refine own_iload X16 hx (hb hby at_277) rfl 279 rfl ?_
    refine own_iload X16 hx (hb hby at_279) rfl 281 rfl ?_
    obtain ⟨x17, sz17, lv17, lo17, hi17, un17, ca17, wo17, re17, g17, hF⟩ := own_b9_some hF
    refine own_callS X16 hx hZ hown (own_w66 hw) (own_w67 hw) (own_w68 hw) (own_w69 hw) (by decide) 3 (own_m_combine l Z a0 hw _ n0 D16 i8 x15 x16 g17) rfl (by rw [hml]; rfl) [(.ref d), (.int i8), (.int x15), (.int x16)] [(.int x14), (.int i7), (.ref d)] rfl (lenOf own_pd_10 rfl) rfl (Nat.le_of_eq rfl) (by decide) (by decide) (by decide) (by decide) (hb hby at_281) N16 284 rfl (fun v17 T17 l17 X17 N17 hP17 => ?_)
    obtain ⟨rfl, D17, K17'⟩ := hP17
    have va_17 := va_16.keep K17' (own_D_nin D16 o_va_d)
    have vb_17 := vb_16.keep K17' (own_D_nin D16 o_vb_d)
    show own_G p e below _ (T17.setTop (mkF m 284 #[.val (.int p1), .val (.int p2), .val (.int p3), .val (.int p4), .val (.int i4), .val (.int i5), .val (.int i6), .val (.int i7), .val (.int i8), .val (.int (0 : Int32)), .val (.int v0), .val (.int v1), .val (.int v2), .val (.int w0), .val (.int w1), .val (.int w2), .val (.ref va), .val (.ref vb), .val (.ref d), .val (.int x14), .val (.int x15), .val (.int x16), .unset, .unset, .unset, .unset, .unset, .unset, .unset] [(.int x17), (.int x14), (.int i7), (.ref d)]))
    obtain ⟨x18, sz18, lv18, lo18, hi18, un18, ca18, wo18, re18, g18, hF⟩ := own_b9_some hF
    refine own_callS X17 hx hZ hown (own_w66 hw) (own_w67 hw) (own_w68 hw) (own_w69 hw) (by decide) 0 (own_m_combine l Z a0 hw _ n0 D17 i7 x14 x17 g18) rfl (by rw [hml]; rfl) [(.ref d), (.int i7), (.int x14), (.int x17)] [] rfl (lenOf own_pd_10 rfl) rfl (Nat.le_of_eq rfl) (by decide) (by decide) (by decide) (by decide) (hb hby at_284) N17 287 rfl (fun v18 T18 l18 X18 N18 hP18 => ?_)
    obtain ⟨rfl, D18, K18'⟩ := hP18
    have va_18 := va_17.keep K18' (own_D_nin D17 o_va_d)
    have vb_18 := vb_17.keep K18' (own_D_nin D17 o_vb_d)
    show own_G p e below _ (T18.setTop (mkF m 287 #[.val (.int p1), .val (.int p2), .val (.int p3), .val (.int p4), .val (.int i4), .val (.int i5), .val (.int i6), .val (.int i7), .val (.int i8), .val (.int (0 : Int32)), .val (.int v0), .val (.int v1), .val (.int v2), .val (.int w0), .val (.int w1), .val (.int w2), .val (.ref va), .val (.ref vb), .val (.ref d), .val (.int x14), .val (.int x15), .val (.int x16), .unset, .unset, .unset, .unset, .unset, .unset, .unset] [(.int x18)]))
    refine own_istore X18 hx (#[.val (.int p1), .val (.int p2), .val (.int p3), .val (.int p4), .val (.int i4), .val (.int i5), .val (.int i6), .val (.int i7), .val (.int i8), .val (.int (0 : Int32)), .val (.int v0), .val (.int v1), .val (.int v2), .val (.int w0), .val (.int w1), .val (.int w2), .val (.ref va), .val (.ref vb), .val (.ref d), .val (.int x14), .val (.int x15), .val (.int x16), .val (.int x18), .unset, .unset, .unset, .unset, .unset, .unset]) (hb hby at_287) rfl 289 rfl ?_
    obtain ⟨q1, q2, q3, q4, q5, q6, q7, q8, q9⟩ := own_inj9 hF
    subst q1 q2 q3 q4 q5 q6 q7 q8 q9
    replace hF := hF2
    unfold own_f_tail0 at hF
    refine own_aload X18 hx (hb hby at_289) rfl rfl 291 rfl ?_
    refine own_iload X18 hx (hb hby at_291) rfl 293 rfl ?_
    refine own_aload X18 hx (hb hby at_293) rfl rfl 295 rfl ?_
    obtain ⟨x19, g19, hF⟩ := own_b1_some hF
    refine own_callV X18 hx hZ hown (own_w87 hw) (own_w88 hw) (own_w90 hw) (own_w89 hw) (own_w3 hw) (own_w91 hw) (by decide) 0 (own_m_given l Z a0 hw _ n0 D18 va_18 x18 g19) rfl (own_D_exa D18) (by rw [hml]; rfl) [(.int x18), (.ref va)] [] rfl (lenOf own_pd_11 rfl) rfl (Nat.le_of_eq rfl) (by decide) (by decide) (by decide) (by decide) (hb hby at_295) N18 298 rfl (fun v19 T19 l19 X19 N19 hP19 => ?_)
    obtain ⟨rfl, e19⟩ := hP19
    show own_G p e below _ (T19.setTop (mkF m 298 #[.val (.int p1), .val (.int p2), .val (.int p3), .val (.int p4), .val (.int i4), .val (.int i5), .val (.int i6), .val (.int i7), .val (.int i8), .val (.int (0 : Int32)), .val (.int v0), .val (.int v1), .val (.int v2), .val (.int w0), .val (.int w1), .val (.int w2), .val (.ref va), .val (.ref vb), .val (.ref d), .val (.int x14), .val (.int x15), .val (.int x16), .val (.int x18), .unset, .unset, .unset, .unset, .unset, .unset] [(.int x19)]))
    refine own_istore X19 hx (#[.val (.int p1), .val (.int p2), .val (.int p3), .val (.int p4), .val (.int i4), .val (.int i5), .val (.int i6), .val (.int i7), .val (.int i8), .val (.int (0 : Int32)), .val (.int v0), .val (.int v1), .val (.int v2), .val (.int w0), .val (.int w1), .val (.int w2), .val (.ref va), .val (.ref vb), .val (.ref d), .val (.int x14), .val (.int x15), .val (.int x16), .val (.int x18), .val (.int x19), .unset, .unset, .unset, .unset, .unset]) (hb hby at_298) rfl 300 rfl ?_
    refine own_aload X19 hx (hb hby at_300) rfl rfl 302 rfl ?_
    refine own_iload X19 hx (hb hby at_302) rfl 304 rfl ?_
    refine own_aload X19 hx (hb hby at_304) rfl rfl 306 rfl ?_
    obtain ⟨x20, g20, hF⟩ := own_b1_some hF
    refine own_callV X19 hx hZ hown (own_w92 hw) (own_w93 hw) (own_w95 hw) (own_w94 hw) (own_w3 hw) (own_w96 hw) (by decide) 0 (own_m_holds l Z a0 hw _ n0 D18 vb_18 x19 g20) e19 (own_D_exa D18) (by rw [hml]; rfl) [(.int x19), (.ref vb)] [] rfl (lenOf own_pd_12 rfl) rfl (Nat.le_of_eq rfl) (by decide) (by decide) (by decide) (by decide) (hb hby at_306) N19 309 rfl (fun v20 T20 l20 X20 N20 hP20 => ?_)
    obtain ⟨rfl, e20⟩ := hP20
    show own_G p e below _ (T20.setTop (mkF m 309 #[.val (.int p1), .val (.int p2), .val (.int p3), .val (.int p4), .val (.int i4), .val (.int i5), .val (.int i6), .val (.int i7), .val (.int i8), .val (.int (0 : Int32)), .val (.int v0), .val (.int v1), .val (.int v2), .val (.int w0), .val (.int w1), .val (.int w2), .val (.ref va), .val (.ref vb), .val (.ref d), .val (.int x14), .val (.int x15), .val (.int x16), .val (.int x18), .val (.int x19), .unset, .unset, .unset, .unset, .unset] [(.int x20)]))
    refine own_istore X20 hx (#[.val (.int p1), .val (.int p2), .val (.int p3), .val (.int p4), .val (.int i4), .val (.int i5), .val (.int i6), .val (.int i7), .val (.int i8), .val (.int (0 : Int32)), .val (.int v0), .val (.int v1), .val (.int v2), .val (.int w0), .val (.int w1), .val (.int w2), .val (.ref va), .val (.ref vb), .val (.ref d), .val (.int x14), .val (.int x15), .val (.int x16), .val (.int x18), .val (.int x19), .val (.int x20), .unset, .unset, .unset, .unset]) (hb hby at_309) rfl 311 rfl ?_
    refine own_iload X20 hx (hb hby at_311) rfl 313 rfl ?_
    refine own_ifcT X20 hx (hb hby at_313) (flt (by decide)).2.2.2 321 (by decide) (by decide) ?_
    refine own_iload X20 hx (hb hby at_321) rfl 323 rfl ?_
    refine own_istore X20 hx (#[.val (.int p1), .val (.int p2), .val (.int p3), .val (.int p4), .val (.int i4), .val (.int i5), .val (.int i6), .val (.int i7), .val (.int i8), .val (.int (0 : Int32)), .val (.int v0), .val (.int v1), .val (.int v2), .val (.int w0), .val (.int w1), .val (.int w2), .val (.ref va), .val (.ref vb), .val (.ref d), .val (.int x14), .val (.int x15), .val (.int x16), .val (.int x18), .val (.int x19), .val (.int x20), .val (.int w0), .unset, .unset, .unset]) (hb hby at_323) rfl 325 rfl ?_
    refine own_iload X20 hx (hb hby at_325) rfl 327 rfl ?_
    refine own_iconst X20 hx (z := (1 : Int32)) (hb hby at_327) rfl 328 rfl ?_
    refine own_icmpT X20 hx (hb hby at_328) (flt (by decide)).2.2.2 336 (by decide) (by decide) ?_
    refine own_iload X20 hx (hb hby at_336) rfl 338 rfl ?_
    refine own_istore X20 hx (#[.val (.int p1), .val (.int p2), .val (.int p3), .val (.int p4), .val (.int i4), .val (.int i5), .val (.int i6), .val (.int i7), .val (.int i8), .val (.int (0 : Int32)), .val (.int v0), .val (.int v1), .val (.int v2), .val (.int w0), .val (.int w1), .val (.int w2), .val (.ref va), .val (.ref vb), .val (.ref d), .val (.int x14), .val (.int x15), .val (.int x16), .val (.int x18), .val (.int x19), .val (.int x20), .val (.int w0), .val (.int w1), .unset, .unset]) (hb hby at_338) rfl 340 rfl ?_
    refine own_iload X20 hx (hb hby at_340) rfl 342 rfl ?_
    refine own_iconst X20 hx (z := (2 : Int32)) (hb hby at_342) rfl 343 rfl ?_
    refine own_icmpT X20 hx (hb hby at_343) (flt (by decide)).2.2.2 351 (by decide) (by decide) ?_
    refine own_iload X20 hx (hb hby at_351) rfl 353 rfl ?_
    refine own_istore X20 hx (#[.val (.int p1), .val (.int p2), .val (.int p3), .val (.int p4), .val (.int i4), .val (.int i5), .val (.int i6), .val (.int i7), .val (.int i8), .val (.int (0 : Int32)), .val (.int v0), .val (.int v1), .val (.int v2), .val (.int w0), .val (.int w1), .val (.int w2), .val (.ref va), .val (.ref vb), .val (.ref d), .val (.int x14), .val (.int x15), .val (.int x16), .val (.int x18), .val (.int x19), .val (.int x20), .val (.int w0), .val (.int w1), .val (.int w2), .unset]) (hb hby at_353) rfl 355 rfl ?_
    refine own_iload X20 hx (hb hby at_355) rfl 357 rfl ?_
    refine own_iload X20 hx (hb hby at_357) rfl 359 rfl ?_
    refine own_iload X20 hx (hb hby at_359) rfl 361 rfl ?_
    refine own_iload X20 hx (hb hby at_361) rfl 363 rfl ?_
    refine own_iload X20 hx (hb hby at_363) rfl 365 rfl ?_
    refine own_callS X20 hx hZ hown (own_w97 hw) (own_w98 hw) (own_w68 hw) (own_w99 hw) (by decide) 1 (own_m_pick l Z a0 hw _ n0 i4 w0 w1 w2 rfl) e20 (by rw [hml]; rfl) [(.int i4), (.int w0), (.int w1), (.int w2)] [(.int i7)] rfl (lenOf own_pd_13 rfl) rfl (Nat.le_of_eq rfl) (by decide) (by decide) (by decide) (by decide) (hb hby at_365) N20 368 rfl (fun v21 T21 l21 X21 N21 hP21 => ?_)
    obtain ⟨rfl, e21⟩ := hP21
    show own_G p e below _ (T21.setTop (mkF m 368 #[.val (.int p1), .val (.int p2), .val (.int p3), .val (.int p4), .val (.int i4), .val (.int i5), .val (.int i6), .val (.int i7), .val (.int i8), .val (.int (0 : Int32)), .val (.int v0), .val (.int v1), .val (.int v2), .val (.int w0), .val (.int w1), .val (.int w2), .val (.ref va), .val (.ref vb), .val (.ref d), .val (.int x14), .val (.int x15), .val (.int x16), .val (.int x18), .val (.int x19), .val (.int x20), .val (.int w0), .val (.int w1), .val (.int w2), .unset] [(.int (own_f_pick i4 w0 w1 w2)), (.int i7)]))
    refine own_iload X21 hx (hb hby at_368) rfl 370 rfl ?_
    refine own_iload X21 hx (hb hby at_370) rfl 372 rfl ?_
    refine own_iload X21 hx (hb hby at_372) rfl 374 rfl ?_
    refine own_iload X21 hx (hb hby at_374) rfl 376 rfl ?_
    refine own_iload X21 hx (hb hby at_376) rfl 378 rfl ?_
    refine own_callS X21 hx hZ hown (own_w97 hw) (own_w98 hw) (own_w68 hw) (own_w99 hw) (by decide) 3 (own_m_pick l Z a0 hw _ n0 i5 w0 w1 w2 rfl) e21 (by rw [hml]; rfl) [(.int i5), (.int w0), (.int w1), (.int w2)] [(.int i8), (.int (own_f_pick i4 w0 w1 w2)), (.int i7)] rfl (lenOf own_pd_13 rfl) rfl (Nat.le_of_eq rfl) (by decide) (by decide) (by decide) (by decide) (hb hby at_378) N21 381 rfl (fun v22 T22 l22 X22 N22 hP22 => ?_)
    obtain ⟨rfl, e22⟩ := hP22
    show own_G p e below _ (T22.setTop (mkF m 381 #[.val (.int p1), .val (.int p2), .val (.int p3), .val (.int p4), .val (.int i4), .val (.int i5), .val (.int i6), .val (.int i7), .val (.int i8), .val (.int (0 : Int32)), .val (.int v0), .val (.int v1), .val (.int v2), .val (.int w0), .val (.int w1), .val (.int w2), .val (.ref va), .val (.ref vb), .val (.ref d), .val (.int x14), .val (.int x15), .val (.int x16), .val (.int x18), .val (.int x19), .val (.int x20), .val (.int w0), .val (.int w1), .val (.int w2), .unset] [(.int (own_f_pick i5 w0 w1 w2)), (.int i8), (.int (own_f_pick i4 w0 w1 w2)), (.int i7)]))
    refine own_iload X22 hx (hb hby at_381) rfl 383 rfl ?_
    refine own_iload X22 hx (hb hby at_383) rfl 385 rfl ?_
    refine own_iload X22 hx (hb hby at_385) rfl 387 rfl ?_
    refine own_iload X22 hx (hb hby at_387) rfl 389 rfl ?_
    refine own_callS X22 hx hZ hown (own_w97 hw) (own_w98 hw) (own_w68 hw) (own_w99 hw) (by decide) 4 (own_m_pick l Z a0 hw _ n0 i6 w0 w1 w2 rfl) e22 (by rw [hml]; rfl) [(.int i6), (.int w0), (.int w1), (.int w2)] [(.int (own_f_pick i5 w0 w1 w2)), (.int i8), (.int (own_f_pick i4 w0 w1 w2)), (.int i7)] rfl (lenOf own_pd_13 rfl) rfl (Nat.le_of_eq rfl) (by decide) (by decide) (by decide) (by decide) (hb hby at_389) N22 392 rfl (fun v23 T23 l23 X23 N23 hP23 => ?_)
    obtain ⟨rfl, e23⟩ := hP23
    show own_G p e below _ (T23.setTop (mkF m 392 #[.val (.int p1), .val (.int p2), .val (.int p3), .val (.int p4), .val (.int i4), .val (.int i5), .val (.int i6), .val (.int i7), .val (.int i8), .val (.int (0 : Int32)), .val (.int v0), .val (.int v1), .val (.int v2), .val (.int w0), .val (.int w1), .val (.int w2), .val (.ref va), .val (.ref vb), .val (.ref d), .val (.int x14), .val (.int x15), .val (.int x16), .val (.int x18), .val (.int x19), .val (.int x20), .val (.int w0), .val (.int w1), .val (.int w2), .unset] [(.int (own_f_pick i6 w0 w1 w2)), (.int (own_f_pick i5 w0 w1 w2)), (.int i8), (.int (own_f_pick i4 w0 w1 w2)), (.int i7)]))
    refine own_callS X23 hx hZ hown (own_w100 hw) (own_w101 hw) (own_w68 hw) (own_w102 hw) (by decide) 2 (own_m_op l Z a0 hw _ n0 i8 (own_f_pick i5 w0 w1 w2) (own_f_pick i6 w0 w1 w2) rfl) e23 (by rw [hml]; rfl) [(.int i8), (.int (own_f_pick i5 w0 w1 w2)), (.int (own_f_pick i6 w0 w1 w2))] [(.int (own_f_pick i4 w0 w1 w2)), (.int i7)] rfl (lenOf own_pd_14 rfl) rfl (Nat.le_of_eq rfl) (by decide) (by decide) (by decide) (by decide) (hb hby at_392) N23 395 rfl (fun v24 T24 l24 X24 N24 hP24 => ?_)
    obtain ⟨rfl, e24⟩ := hP24
    show own_G p e below _ (T24.setTop (mkF m 395 #[.val (.int p1), .val (.int p2), .val (.int p3), .val (.int p4), .val (.int i4), .val (.int i5), .val (.int i6), .val (.int i7), .val (.int i8), .val (.int (0 : Int32)), .val (.int v0), .val (.int v1), .val (.int v2), .val (.int w0), .val (.int w1), .val (.int w2), .val (.ref va), .val (.ref vb), .val (.ref d), .val (.int x14), .val (.int x15), .val (.int x16), .val (.int x18), .val (.int x19), .val (.int x20), .val (.int w0), .val (.int w1), .val (.int w2), .unset] [(.int (own_f_op i8 (own_f_pick i5 w0 w1 w2) (own_f_pick i6 w0 w1 w2))), (.int (own_f_pick i4 w0 w1 w2)), (.int i7)]))
    refine own_callS X24 hx hZ hown (own_w100 hw) (own_w101 hw) (own_w68 hw) (own_w102 hw) (by decide) 0 (own_m_op l Z a0 hw _ n0 i7 (own_f_pick i4 w0 w1 w2) (own_f_op i8 (own_f_pick i5 w0 w1 w2) (own_f_pick i6 w0 w1 w2)) rfl) e24 (by rw [hml]; rfl) [(.int i7), (.int (own_f_pick i4 w0 w1 w2)), (.int (own_f_op i8 (own_f_pick i5 w0 w1 w2) (own_f_pick i6 w0 w1 w2)))] [] rfl (lenOf own_pd_14 rfl) rfl (Nat.le_of_eq rfl) (by decide) (by decide) (by decide) (by decide) (hb hby at_395) N24 398 rfl (fun v25 T25 l25 X25 N25 hP25 => ?_)
    obtain ⟨rfl, e25⟩ := hP25
    show own_G p e below _ (T25.setTop (mkF m 398 #[.val (.int p1), .val (.int p2), .val (.int p3), .val (.int p4), .val (.int i4), .val (.int i5), .val (.int i6), .val (.int i7), .val (.int i8), .val (.int (0 : Int32)), .val (.int v0), .val (.int v1), .val (.int v2), .val (.int w0), .val (.int w1), .val (.int w2), .val (.ref va), .val (.ref vb), .val (.ref d), .val (.int x14), .val (.int x15), .val (.int x16), .val (.int x18), .val (.int x19), .val (.int x20), .val (.int w0), .val (.int w1), .val (.int w2), .unset] [(.int (own_f_op i7 (own_f_pick i4 w0 w1 w2) (own_f_op i8 (own_f_pick i5 w0 w1 w2) (own_f_pick i6 w0 w1 w2))))]))
    refine own_istore X25 hx (#[.val (.int p1), .val (.int p2), .val (.int p3), .val (.int p4), .val (.int i4), .val (.int i5), .val (.int i6), .val (.int i7), .val (.int i8), .val (.int (0 : Int32)), .val (.int v0), .val (.int v1), .val (.int v2), .val (.int w0), .val (.int w1), .val (.int w2), .val (.ref va), .val (.ref vb), .val (.ref d), .val (.int x14), .val (.int x15), .val (.int x16), .val (.int x18), .val (.int x19), .val (.int x20), .val (.int w0), .val (.int w1), .val (.int w2), .val (.int (own_f_op i7 (own_f_pick i4 w0 w1 w2) (own_f_op i8 (own_f_pick i5 w0 w1 w2) (own_f_pick i6 w0 w1 w2))))]) (hb hby at_398) rfl 400 rfl ?_
    refine own_iload X25 hx (hb hby at_400) rfl 402 rfl ?_
    refine own_iload X25 hx (hb hby at_402) rfl 404 rfl ?_
    by_cases hc26 : x20 = (own_f_op i7 (own_f_pick i4 w0 w1 w2) (own_f_op i8 (own_f_pick i5 w0 w1 w2) (own_f_pick i6 w0 w1 w2)))
    · replace hF := own_ifT hc26 hF
      refine own_icmpF X25 hx (hb hby at_404) (teq hc26).2 407 rfl ?_
      refine own_iconst X25 hx (z := (1 : Int32)) (hb hby at_407) rfl 408 rfl ?_
      refine own_goto X25 hx (hb hby at_408) 412 (by decide) (by decide) ?_
      exact own_retN X25 hx hret (Or.inl rfl) hlk (hb hby at_412) (by decide) (by decide) N25 e25 rfl
    · replace hF := own_ifF hc26 hF
      refine own_icmpT X25 hx (hb hby at_404) (feq hc26).2 411 (by decide) (by decide) ?_
      refine own_iconst X25 hx (z := (0 : Int32)) (hb hby at_411) rfl 412 rfl ?_
      exact absurd hF (by decide)
  · refine own_iload X0 hx (hb hby at_128) rfl 130 rfl ?_
    refine own_ifcT X0 hx (hb hby at_130) (feq (by decide)).2 139 (by decide) (by decide) ?_
    refine own_iload X0 hx (hb hby at_139) rfl 141 rfl ?_
    refine own_iconst X0 hx (z := (1 : Int32)) (hb hby at_141) rfl 142 rfl ?_
    refine own_icmpF X0 hx (hb hby at_142) (teq (by decide)).2 145 rfl ?_
    refine own_iconst X0 hx (z := (1 : Int32)) (hb hby at_145) rfl 146 rfl ?_
    refine own_newP (aty := .boolean) X0 hx hZ (own_w0 hw) e0 (hb hby at_146) (by decide) 1 (by decide) (by decide) (by decide) (by decide) 148 rfl (fun T27 h27 cA27 va g27 X27 e27 E27 B27 => ?_)
    have gn_va : n0 ≤ va := Nat.le_trans Z0 (Nat.le_of_eq g27.symm)
    have Z0_27 := Nat.le_trans Z0 E27.1
    have A_va_27 : own_A Z h27 va .boolean 1 (fun _ => 0) := own_A.new B27 (by decide) rfl
    refine own_goto X27 hx (hb hby at_148) 166 (by decide) (by decide) ?_
    refine own_astore X27 hx (#[.val (.int p1), .val (.int p2), .val (.int p3), .val (.int p4), .val (.int i4), .val (.int i5), .val (.int i6), .val (.int i7), .val (.int i8), .val (.int (1 : Int32)), .val (.int v0), .val (.int v1), .val (.int v2), .val (.int w0), .val (.int w1), .val (.int w2), .val (.ref va), .unset, .unset, .unset, .unset, .unset, .unset, .unset, .unset, .unset, .unset, .unset, .unset]) (hb hby at_166) rfl rfl 168 rfl ?_
    refine own_iload X27 hx (hb hby at_168) rfl 170 rfl ?_
    refine own_ifcF X27 hx (hb hby at_170) (tlt (by decide)).2.2.2 173 rfl ?_
    refine own_aload X27 hx (hb hby at_173) rfl rfl 175 rfl ?_
    refine own_iconst X27 hx (z := (0 : Int32)) (hb hby at_175) rfl 176 rfl ?_
    refine own_iload X27 hx (hb hby at_176) rfl 178 rfl ?_
    refine own_zastore X27 hx hZ e27 A_va_27 ⟨by decide, by decide⟩ (hb hby at_178) N0 gn_va 179 rfl (fun T28 h28 l28 X28 N28 e28 W28 => ?_)
    have Z0_28 := Nat.le_trans Z0_27 (Nat.le_of_eq W28.size.symm)
    have A_va_28 := A_va_27.set W28
    refine own_iload X28 hx (hb hby at_179) rfl 181 rfl ?_
    refine own_iconst X28 hx (z := (1 : Int32)) (hb hby at_181) rfl 182 rfl ?_
    refine own_icmpT X28 hx (hb hby at_182) (flt (by decide)).2.2.2 191 (by decide) (by decide) ?_
    refine own_iload X28 hx (hb hby at_191) rfl 193 rfl ?_
    refine own_iconst X28 hx (z := (2 : Int32)) (hb hby at_193) rfl 194 rfl ?_
    refine own_icmpT X28 hx (hb hby at_194) (flt (by decide)).2.2.2 203 (by decide) (by decide) ?_
    refine own_iconst X28 hx (z := (3 : Int32)) (hb hby at_203) rfl 204 rfl ?_
    refine own_newP (aty := .boolean) X28 hx hZ (own_w0 hw) e28 (hb hby at_204) (by decide) 3 (by decide) (by decide) (by decide) (by decide) 206 rfl (fun T29 h29 cA29 vb g29 X29 e29 E29 B29 => ?_)
    have o_va_vb : va < vb := Nat.lt_of_lt_of_eq A_va_28.lt g29.symm
    have gn_vb : n0 ≤ vb := Nat.le_trans Z0_28 (Nat.le_of_eq g29.symm)
    have Z0_29 := Nat.le_trans Z0_28 E29.1
    have A_va_29 := A_va_28.ext E29
    have A_vb_29 : own_A Z h29 vb .boolean 3 (fun _ => 0) := own_A.new B29 (by decide) rfl
    refine own_astore X29 hx (#[.val (.int p1), .val (.int p2), .val (.int p3), .val (.int p4), .val (.int i4), .val (.int i5), .val (.int i6), .val (.int i7), .val (.int i8), .val (.int (1 : Int32)), .val (.int v0), .val (.int v1), .val (.int v2), .val (.int w0), .val (.int w1), .val (.int w2), .val (.ref va), .val (.ref vb), .unset, .unset, .unset, .unset, .unset, .unset, .unset, .unset, .unset, .unset, .unset]) (hb hby at_206) rfl rfl 208 rfl ?_
    refine own_aload X29 hx (hb hby at_208) rfl rfl 210 rfl ?_
    refine own_iconst X29 hx (z := (0 : Int32)) (hb hby at_210) rfl 211 rfl ?_
    refine own_iload X29 hx (hb hby at_211) rfl 213 rfl ?_
    refine own_zastore X29 hx hZ e29 A_vb_29 ⟨by decide, by decide⟩ (hb hby at_213) N28 gn_vb 214 rfl (fun T30 h30 l30 X30 N30 e30 W30 => ?_)
    have Z0_30 := Nat.le_trans Z0_29 (Nat.le_of_eq W30.size.symm)
    have A_va_30 := A_va_29.other W30 (Nat.ne_of_lt o_va_vb)
    have A_vb_30 := A_vb_29.set W30
    refine own_aload X30 hx (hb hby at_214) rfl rfl 216 rfl ?_
    refine own_iconst X30 hx (z := (1 : Int32)) (hb hby at_216) rfl 217 rfl ?_
    refine own_iload X30 hx (hb hby at_217) rfl 219 rfl ?_
    refine own_zastore X30 hx hZ e30 A_vb_30 ⟨by decide, by decide⟩ (hb hby at_219) N30 gn_vb 220 rfl (fun T31 h31 l31 X31 N31 e31 W31 => ?_)
    have Z0_31 := Nat.le_trans Z0_30 (Nat.le_of_eq W31.size.symm)
    have A_va_31 := A_va_30.other W31 (Nat.ne_of_lt o_va_vb)
    have A_vb_31 := A_vb_30.set W31
    refine own_aload X31 hx (hb hby at_220) rfl rfl 222 rfl ?_
    refine own_iconst X31 hx (z := (2 : Int32)) (hb hby at_222) rfl 223 rfl ?_
    refine own_iload X31 hx (hb hby at_223) rfl 225 rfl ?_
    refine own_zastore X31 hx hZ e31 A_vb_31 ⟨by decide, by decide⟩ (hb hby at_225) N31 gn_vb 226 rfl (fun T32 h32 l32 X32 N32 e32 W32 => ?_)
    have Z0_32 := Nat.le_trans Z0_31 (Nat.le_of_eq W32.size.symm)
    have A_va_32 := A_va_31.other W32 (Nat.ne_of_lt o_va_vb)
    have A_vb_32 := A_vb_31.set W32
    refine own_newO X32 hx hZ hown (own_w1 hw) (own_w2 hw) (own_w3 hw) e32 (hb hby at_226) (by decide) (by decide) 229 rfl (fun T33 h33 d g33 X33 e33 E33 B33 D33 => ?_)
    have o_va_d : va < d := Nat.lt_of_lt_of_eq A_va_32.lt g33.symm
    have o_vb_d : vb < d := Nat.lt_of_lt_of_eq A_vb_32.lt g33.symm
    have gn_d : n0 ≤ d := Nat.le_trans Z0_32 (Nat.le_of_eq g33.symm)
    have Z0_33 := Nat.le_trans Z0_32 E33.1
    have A_va_33 := A_va_32.ext E33
    have A_vb_33 := A_vb_32.ext E33
    have F_logic_d_33 : Fld Z h33 d "com/example/orbweaver/orbweaver/synthesis/Diagrams" "logic" "Lcom/example/orbweaver/orbweaver/spec/Logic;" .null := D33 (Or.inr (own_w20 hw)) (ty := (.object "com/example/orbweaver/orbweaver/spec/Logic")) (by decide)
    have F_sets_d_33 : Fld Z h33 d "com/example/orbweaver/orbweaver/synthesis/Diagrams" "sets" "[Lcom/example/orbweaver/orbweaver/synthesis/Valuations;" .null := D33 (Or.inl (own_w24 hw)) (ty := (.array (.object "com/example/orbweaver/orbweaver/synthesis/Valuations"))) (by decide)
    have F_work_d_33 : Fld Z h33 d "com/example/orbweaver/orbweaver/synthesis/Diagrams" "work" "[I" .null := D33 (Or.inl (own_w27 hw)) (ty := (.array .int)) (by decide)
    have F_results_d_33 : Fld Z h33 d "com/example/orbweaver/orbweaver/synthesis/Diagrams" "results" "[I" .null := D33 (Or.inl (own_w29 hw)) (ty := (.array .int)) (by decide)
    have F_variables_d_33 : Fld Z h33 d "com/example/orbweaver/orbweaver/synthesis/Diagrams" "variables" "I" (.int (0 : Int32)) := D33 (Or.inr (own_w31 hw)) (ty := .int) (by decide)
    have F_terms_d_33 : Fld Z h33 d "com/example/orbweaver/orbweaver/synthesis/Diagrams" "terms" "I" (.int (0 : Int32)) := D33 (Or.inr (own_w33 hw)) (ty := .int) (by decide)
    have F_limit_d_33 : Fld Z h33 d "com/example/orbweaver/orbweaver/synthesis/Diagrams" "limit" "I" (.int (0 : Int32)) := D33 (Or.inl (own_w35 hw)) (ty := .int) (by decide)
    have F_level_d_33 : Fld Z h33 d "com/example/orbweaver/orbweaver/synthesis/Diagrams" "level" "[I" .null := D33 (Or.inl (own_w37 hw)) (ty := (.array .int)) (by decide)
    have F_low_d_33 : Fld Z h33 d "com/example/orbweaver/orbweaver/synthesis/Diagrams" "low" "[I" .null := D33 (Or.inl (own_w39 hw)) (ty := (.array .int)) (by decide)
    have F_high_d_33 : Fld Z h33 d "com/example/orbweaver/orbweaver/synthesis/Diagrams" "high" "[I" .null := D33 (Or.inl (own_w41 hw)) (ty := (.array .int)) (by decide)
    have F_size_d_33 : Fld Z h33 d "com/example/orbweaver/orbweaver/synthesis/Diagrams" "size" "I" (.int (0 : Int32)) := D33 (Or.inl (own_w43 hw)) (ty := .int) (by decide)
    have F_unique_d_33 : Fld Z h33 d "com/example/orbweaver/orbweaver/synthesis/Diagrams" "unique" "[I" .null := D33 (Or.inl (own_w45 hw)) (ty := (.array .int)) (by decide)
    have F_cache_d_33 : Fld Z h33 d "com/example/orbweaver/orbweaver/synthesis/Diagrams" "cache" "[I" .null := D33 (Or.inl (own_w47 hw)) (ty := (.array .int)) (by decide)
    refine own_dup X33 hx (hb hby at_229) rfl 230 rfl ?_
    refine own_iconst X33 hx (z := (3 : Int32)) (hb hby at_230) rfl 231 rfl ?_
    refine own_iconst X33 hx (z := (3 : Int32)) (hb hby at_231) rfl 232 rfl ?_
    refine own_sipush X33 hx (z := (1000 : Int32)) (hb hby at_232) rfl 235 rfl ?_
    refine own_callI X33 hx hZ hown rfl (own_w4 hw) (own_w5 hw) (own_w3 hw) (own_w6 hw) (by decide) 1 (own_m_dinit l Z a0 hw _ n0 (3 : Int32) (3 : Int32) (1000 : Int32) B33 F_logic_d_33 F_sets_d_33 F_work_d_33 F_results_d_33 F_variables_d_33 F_terms_d_33 F_limit_d_33 F_level_d_33 F_low_d_33 F_high_d_33 F_size_d_33 F_unique_d_33 F_cache_d_33 gn_d) e33 (by rw [hml]; rfl) d [(.int (3 : Int32)), (.int (3 : Int32)), (.int (1000 : Int32))] [(.ref d)] rfl (lenOf own_pd_8 rfl) rfl (Nat.le_of_eq rfl) (by decide) (by decide) (by decide) (by decide) (hb hby at_235) N32 238 rfl (fun v34 T34 l34 X34 N34 hP34 => ?_)
    obtain ⟨rfl, Q34, K34'⟩ := hP34
    have Z0_34 := Nat.le_trans Z0_33 K34'.1
    have A_va_34 := A_va_33.keep K34' (ninS (Nat.ne_of_lt o_va_d) nin0)
    have A_vb_34 := A_vb_33.keep K34' (ninS (Nat.ne_of_lt o_vb_d) nin0)
    have B33_34 := B33.keep K34'
    obtain ⟨al, ao, ah, au, ac, aw, ar, D⟩ := Q34
    show own_G p e below _ (T34.setTop (mkF m 238 #[.val (.int p1), .val (.int p2), .val (.int p3), .val (.int p4), .val (.int i4), .val (.int i5), .val (.int i6), .val (.int i7), .val (.int i8), .val (.int (1 : Int32)), .val (.int v0), .val (.int v1), .val (.int v2), .val (.int w0), .val (.int w1), .val (.int w2), .val (.ref va), .val (.ref vb), .unset, .unset, .unset, .unset, .unset, .unset, .unset, .unset, .unset, .unset, .unset] [(.ref d)]))
    refine own_astore X34 hx (#[.val (.int p1), .val (.int p2), .val (.int p3), .val (.int p4), .val (.int i4), .val (.int i5), .val (.int i6), .val (.int i7), .val (.int i8), .val (.int (1 : Int32)), .val (.int v0), .val (.int v1), .val (.int v2), .val (.int w0), .val (.int w1), .val (.int w2), .val (.ref va), .val (.ref vb), .val (.ref d), .unset, .unset, .unset, .unset, .unset, .unset, .unset, .unset, .unset, .unset]) (hb hby at_238) rfl rfl 240 rfl ?_
    have Av : own_A Z T34.heap va .boolean 1 (own_val1 v0) := A_va_34.congr (fun j _ => by simp only [own_nar2 mv0]; rfl)
    have Bv : own_A Z T34.heap vb .boolean 3 (own_val3 w0 w1 w2) := A_vb_34.congr (fun j _ => by simp only [own_nar2 mw0, own_nar2 mw1, own_nar2 mw2]; rfl)
    have hF := own_law_one1 i4 i5 i6 i7 i8 v0 w0 w1 w2 mi4 mi5 mi6 mi7 mi8 mv0 mw0 mw1 mw2
    unfold own_f_law1 at hF
    obtain ⟨r', sz', lv', lo', hi', un', ca', wo', re', hF, hF2⟩ := own_b9_some hF
    unfold own_f_mk at hF
    refine own_aload X34 hx (hb hby at_240) rfl rfl 242 rfl ?_
    refine own_iload X34 hx (hb hby at_242) rfl 244 rfl ?_
    obtain ⟨x35, sz35, lv35, lo35, hi35, un35, g35, hF⟩ := own_b6_some hF
    refine own_callV X34 hx hZ hown (own_w52 hw) (own_w53 hw) (own_w55 hw) (own_w54 hw) (own_w3 hw) (own_w56 hw) (by decide) 0 (own_m_variable l Z a0 hw _ n0 D i4 g35) rfl (own_D_exa D) (by rw [hml]; rfl) [(.int i4)] [] rfl (lenOf own_pd_9 rfl) rfl (Nat.le_of_eq rfl) (by decide) (by decide) (by decide) (by decide) (hb hby at_244) N34 247 rfl (fun v35 T35 l35 X35 N35 hP35 => ?_)
    obtain ⟨rfl, D35, K35'⟩ := hP35
    have va_35 := Av.keep K35' (own_D_nin D o_va_d)
    have vb_35 := Bv.keep K35' (own_D_nin D o_vb_d)
    show own_G p e below _ (T35.setTop (mkF m 247 #[.val (.int p1), .val (.int p2), .val (.int p3), .val (.int p4), .val (.int i4), .val (.int i5), .val (.int i6), .val (.int i7), .val (.int i8), .val (.int (1 : Int32)), .val (.int v0), .val (.int v1), .val (.int v2), .val (.int w0), .val (.int w1), .val (.int w2), .val (.ref va), .val (.ref vb), .val (.ref d), .unset, .unset, .unset, .unset, .unset, .unset, .unset, .unset, .unset, .unset] [(.int x35)]))
    refine own_istore X35 hx (#[.val (.int p1), .val (.int p2), .val (.int p3), .val (.int p4), .val (.int i4), .val (.int i5), .val (.int i6), .val (.int i7), .val (.int i8), .val (.int (1 : Int32)), .val (.int v0), .val (.int v1), .val (.int v2), .val (.int w0), .val (.int w1), .val (.int w2), .val (.ref va), .val (.ref vb), .val (.ref d), .val (.int x35), .unset, .unset, .unset, .unset, .unset, .unset, .unset, .unset, .unset]) (hb hby at_247) rfl 249 rfl ?_
    refine own_aload X35 hx (hb hby at_249) rfl rfl 251 rfl ?_
    refine own_iload X35 hx (hb hby at_251) rfl 253 rfl ?_
    obtain ⟨x36, sz36, lv36, lo36, hi36, un36, g36, hF⟩ := own_b6_some hF
    refine own_callV X35 hx hZ hown (own_w52 hw) (own_w53 hw) (own_w55 hw) (own_w54 hw) (own_w3 hw) (own_w56 hw) (by decide) 0 (own_m_variable l Z a0 hw _ n0 D35 i5 g36) rfl (own_D_exa D35) (by rw [hml]; rfl) [(.int i5)] [] rfl (lenOf own_pd_9 rfl) rfl (Nat.le_of_eq rfl) (by decide) (by decide) (by decide) (by decide) (hb hby at_253) N35 256 rfl (fun v36 T36 l36 X36 N36 hP36 => ?_)
    obtain ⟨rfl, D36, K36'⟩ := hP36
    have va_36 := va_35.keep K36' (own_D_nin D35 o_va_d)
    have vb_36 := vb_35.keep K36' (own_D_nin D35 o_vb_d)
    show own_G p e below _ (T36.setTop (mkF m 256 #[.val (.int p1), .val (.int p2), .val (.int p3), .val (.int p4), .val (.int i4), .val (.int i5), .val (.int i6), .val (.int i7), .val (.int i8), .val (.int (1 : Int32)), .val (.int v0), .val (.int v1), .val (.int v2), .val (.int w0), .val (.int w1), .val (.int w2), .val (.ref va), .val (.ref vb), .val (.ref d), .val (.int x35), .unset, .unset, .unset, .unset, .unset, .unset, .unset, .unset, .unset] [(.int x36)]))
    refine own_istore X36 hx (#[.val (.int p1), .val (.int p2), .val (.int p3), .val (.int p4), .val (.int i4), .val (.int i5), .val (.int i6), .val (.int i7), .val (.int i8), .val (.int (1 : Int32)), .val (.int v0), .val (.int v1), .val (.int v2), .val (.int w0), .val (.int w1), .val (.int w2), .val (.ref va), .val (.ref vb), .val (.ref d), .val (.int x35), .val (.int x36), .unset, .unset, .unset, .unset, .unset, .unset, .unset, .unset]) (hb hby at_256) rfl 258 rfl ?_
    refine own_aload X36 hx (hb hby at_258) rfl rfl 260 rfl ?_
    refine own_iload X36 hx (hb hby at_260) rfl 262 rfl ?_
    obtain ⟨x37, sz37, lv37, lo37, hi37, un37, g37, hF⟩ := own_b6_some hF
    refine own_callV X36 hx hZ hown (own_w52 hw) (own_w53 hw) (own_w55 hw) (own_w54 hw) (own_w3 hw) (own_w56 hw) (by decide) 0 (own_m_variable l Z a0 hw _ n0 D36 i6 g37) rfl (own_D_exa D36) (by rw [hml]; rfl) [(.int i6)] [] rfl (lenOf own_pd_9 rfl) rfl (Nat.le_of_eq rfl) (by decide) (by decide) (by decide) (by decide) (hb hby at_262) N36 265 rfl (fun v37 T37 l37 X37 N37 hP37 => ?_)
    obtain ⟨rfl, D37, K37'⟩ := hP37
    have va_37 := va_36.keep K37' (own_D_nin D36 o_va_d)
    have vb_37 := vb_36.keep K37' (own_D_nin D36 o_vb_d)
    show own_G p e below _ (T37.setTop (mkF m 265 #[.val (.int p1), .val (.int p2), .val (.int p3), .val (.int p4), .val (.int i4), .val (.int i5), .val (.int i6), .val (.int i7), .val (.int i8), .val (.int (1 : Int32)), .val (.int v0), .val (.int v1), .val (.int v2), .val (.int w0), .val (.int w1), .val (.int w2), .val (.ref va), .val (.ref vb), .val (.ref d), .val (.int x35), .val (.int x36), .unset, .unset, .unset, .unset, .unset, .unset, .unset, .unset] [(.int x37)]))
    refine own_istore X37 hx (#[.val (.int p1), .val (.int p2), .val (.int p3), .val (.int p4), .val (.int i4), .val (.int i5), .val (.int i6), .val (.int i7), .val (.int i8), .val (.int (1 : Int32)), .val (.int v0), .val (.int v1), .val (.int v2), .val (.int w0), .val (.int w1), .val (.int w2), .val (.ref va), .val (.ref vb), .val (.ref d), .val (.int x35), .val (.int x36), .val (.int x37), .unset, .unset, .unset, .unset, .unset, .unset, .unset]) (hb hby at_265) rfl 267 rfl ?_
    refine own_aload X37 hx (hb hby at_267) rfl rfl 269 rfl ?_
    refine own_iload X37 hx (hb hby at_269) rfl 271 rfl ?_
    refine own_iload X37 hx (hb hby at_271) rfl 273 rfl ?_
    refine own_aload X37 hx (hb hby at_273) rfl rfl 275 rfl ?_
    refine own_iload X37 hx (hb hby at_275) rfl 277 rfl ?_
    refine own_iload X37 hx (hb hby at_277) rfl 279 rfl ?_
    refine own_iload X37 hx (hb hby at_279) rfl 281 rfl ?_
    obtain ⟨x38, sz38, lv38, lo38, hi38, un38, ca38, wo38, re38, g38, hF⟩ := own_b9_some hF
    refine own_callS X37 hx hZ hown (own_w66 hw) (own_w67 hw) (own_w68 hw) (own_w69 hw) (by decide) 3 (own_m_combine l Z a0 hw _ n0 D37 i8 x36 x37 g38) rfl (by rw [hml]; rfl) [(.ref d), (.int i8), (.int x36), (.int x37)] [(.int x35), (.int i7), (.ref d)] rfl (lenOf own_pd_10 rfl) rfl (Nat.le_of_eq rfl) (by decide) (by decide) (by decide) (by decide) (hb hby at_281) N37 284 rfl (fun v38 T38 l38 X38 N38 hP38 => ?_)
    obtain ⟨rfl, D38, K38'⟩ := hP38
    have va_38 := va_37.keep K38' (own_D_nin D37 o_va_d)
    have vb_38 := vb_37.keep K38' (own_D_nin D37 o_vb_d)
    show own_G p e below _ (T38.setTop (mkF m 284 #[.val (.int p1), .val (.int p2), .val (.int p3), .val (.int p4), .val (.int i4), .val (.int i5), .val (.int i6), .val (.int i7), .val (.int i8), .val (.int (1 : Int32)), .val (.int v0), .val (.int v1), .val (.int v2), .val (.int w0), .val (.int w1), .val (.int w2), .val (.ref va), .val (.ref vb), .val (.ref d), .val (.int x35), .val (.int x36), .val (.int x37), .unset, .unset, .unset, .unset, .unset, .unset, .unset] [(.int x38), (.int x35), (.int i7), (.ref d)]))
    obtain ⟨x39, sz39, lv39, lo39, hi39, un39, ca39, wo39, re39, g39, hF⟩ := own_b9_some hF
    refine own_callS X38 hx hZ hown (own_w66 hw) (own_w67 hw) (own_w68 hw) (own_w69 hw) (by decide) 0 (own_m_combine l Z a0 hw _ n0 D38 i7 x35 x38 g39) rfl (by rw [hml]; rfl) [(.ref d), (.int i7), (.int x35), (.int x38)] [] rfl (lenOf own_pd_10 rfl) rfl (Nat.le_of_eq rfl) (by decide) (by decide) (by decide) (by decide) (hb hby at_284) N38 287 rfl (fun v39 T39 l39 X39 N39 hP39 => ?_)
    obtain ⟨rfl, D39, K39'⟩ := hP39
    have va_39 := va_38.keep K39' (own_D_nin D38 o_va_d)
    have vb_39 := vb_38.keep K39' (own_D_nin D38 o_vb_d)
    show own_G p e below _ (T39.setTop (mkF m 287 #[.val (.int p1), .val (.int p2), .val (.int p3), .val (.int p4), .val (.int i4), .val (.int i5), .val (.int i6), .val (.int i7), .val (.int i8), .val (.int (1 : Int32)), .val (.int v0), .val (.int v1), .val (.int v2), .val (.int w0), .val (.int w1), .val (.int w2), .val (.ref va), .val (.ref vb), .val (.ref d), .val (.int x35), .val (.int x36), .val (.int x37), .unset, .unset, .unset, .unset, .unset, .unset, .unset] [(.int x39)]))
    refine own_istore X39 hx (#[.val (.int p1), .val (.int p2), .val (.int p3), .val (.int p4), .val (.int i4), .val (.int i5), .val (.int i6), .val (.int i7), .val (.int i8), .val (.int (1 : Int32)), .val (.int v0), .val (.int v1), .val (.int v2), .val (.int w0), .val (.int w1), .val (.int w2), .val (.ref va), .val (.ref vb), .val (.ref d), .val (.int x35), .val (.int x36), .val (.int x37), .val (.int x39), .unset, .unset, .unset, .unset, .unset, .unset]) (hb hby at_287) rfl 289 rfl ?_
    obtain ⟨q1, q2, q3, q4, q5, q6, q7, q8, q9⟩ := own_inj9 hF
    subst q1 q2 q3 q4 q5 q6 q7 q8 q9
    replace hF := hF2
    unfold own_f_tail1 at hF
    refine own_aload X39 hx (hb hby at_289) rfl rfl 291 rfl ?_
    refine own_iload X39 hx (hb hby at_291) rfl 293 rfl ?_
    refine own_aload X39 hx (hb hby at_293) rfl rfl 295 rfl ?_
    obtain ⟨x40, g40, hF⟩ := own_b1_some hF
    refine own_callV X39 hx hZ hown (own_w87 hw) (own_w88 hw) (own_w90 hw) (own_w89 hw) (own_w3 hw) (own_w91 hw) (by decide) 0 (own_m_given l Z a0 hw _ n0 D39 va_39 x39 g40) rfl (own_D_exa D39) (by rw [hml]; rfl) [(.int x39), (.ref va)] [] rfl (lenOf own_pd_11 rfl) rfl (Nat.le_of_eq rfl) (by decide) (by decide) (by decide) (by decide) (hb hby at_295) N39 298 rfl (fun v40 T40 l40 X40 N40 hP40 => ?_)
    obtain ⟨rfl, e40⟩ := hP40
    show own_G p e below _ (T40.setTop (mkF m 298 #[.val (.int p1), .val (.int p2), .val (.int p3), .val (.int p4), .val (.int i4), .val (.int i5), .val (.int i6), .val (.int i7), .val (.int i8), .val (.int (1 : Int32)), .val (.int v0), .val (.int v1), .val (.int v2), .val (.int w0), .val (.int w1), .val (.int w2), .val (.ref va), .val (.ref vb), .val (.ref d), .val (.int x35), .val (.int x36), .val (.int x37), .val (.int x39), .unset, .unset, .unset, .unset, .unset, .unset] [(.int x40)]))
    refine own_istore X40 hx (#[.val (.int p1), .val (.int p2), .val (.int p3), .val (.int p4), .val (.int i4), .val (.int i5), .val (.int i6), .val (.int i7), .val (.int i8), .val (.int (1 : Int32)), .val (.int v0), .val (.int v1), .val (.int v2), .val (.int w0), .val (.int w1), .val (.int w2), .val (.ref va), .val (.ref vb), .val (.ref d), .val (.int x35), .val (.int x36), .val (.int x37), .val (.int x39), .val (.int x40), .unset, .unset, .unset, .unset, .unset]) (hb hby at_298) rfl 300 rfl ?_
    refine own_aload X40 hx (hb hby at_300) rfl rfl 302 rfl ?_
    refine own_iload X40 hx (hb hby at_302) rfl 304 rfl ?_
    refine own_aload X40 hx (hb hby at_304) rfl rfl 306 rfl ?_
    obtain ⟨x41, g41, hF⟩ := own_b1_some hF
    refine own_callV X40 hx hZ hown (own_w92 hw) (own_w93 hw) (own_w95 hw) (own_w94 hw) (own_w3 hw) (own_w96 hw) (by decide) 0 (own_m_holds l Z a0 hw _ n0 D39 vb_39 x40 g41) e40 (own_D_exa D39) (by rw [hml]; rfl) [(.int x40), (.ref vb)] [] rfl (lenOf own_pd_12 rfl) rfl (Nat.le_of_eq rfl) (by decide) (by decide) (by decide) (by decide) (hb hby at_306) N40 309 rfl (fun v41 T41 l41 X41 N41 hP41 => ?_)
    obtain ⟨rfl, e41⟩ := hP41
    show own_G p e below _ (T41.setTop (mkF m 309 #[.val (.int p1), .val (.int p2), .val (.int p3), .val (.int p4), .val (.int i4), .val (.int i5), .val (.int i6), .val (.int i7), .val (.int i8), .val (.int (1 : Int32)), .val (.int v0), .val (.int v1), .val (.int v2), .val (.int w0), .val (.int w1), .val (.int w2), .val (.ref va), .val (.ref vb), .val (.ref d), .val (.int x35), .val (.int x36), .val (.int x37), .val (.int x39), .val (.int x40), .unset, .unset, .unset, .unset, .unset] [(.int x41)]))
    refine own_istore X41 hx (#[.val (.int p1), .val (.int p2), .val (.int p3), .val (.int p4), .val (.int i4), .val (.int i5), .val (.int i6), .val (.int i7), .val (.int i8), .val (.int (1 : Int32)), .val (.int v0), .val (.int v1), .val (.int v2), .val (.int w0), .val (.int w1), .val (.int w2), .val (.ref va), .val (.ref vb), .val (.ref d), .val (.int x35), .val (.int x36), .val (.int x37), .val (.int x39), .val (.int x40), .val (.int x41), .unset, .unset, .unset, .unset]) (hb hby at_309) rfl 311 rfl ?_
    refine own_iload X41 hx (hb hby at_311) rfl 313 rfl ?_
    refine own_ifcF X41 hx (hb hby at_313) (tlt (by decide)).2.2.2 316 rfl ?_
    refine own_iload X41 hx (hb hby at_316) rfl 318 rfl ?_
    refine own_goto X41 hx (hb hby at_318) 323 (by decide) (by decide) ?_
    refine own_istore X41 hx (#[.val (.int p1), .val (.int p2), .val (.int p3), .val (.int p4), .val (.int i4), .val (.int i5), .val (.int i6), .val (.int i7), .val (.int i8), .val (.int (1 : Int32)), .val (.int v0), .val (.int v1), .val (.int v2), .val (.int w0), .val (.int w1), .val (.int w2), .val (.ref va), .val (.ref vb), .val (.ref d), .val (.int x35), .val (.int x36), .val (.int x37), .val (.int x39), .val (.int x40), .val (.int x41), .val (.int v0), .unset, .unset, .unset]) (hb hby at_323) rfl 325 rfl ?_
    refine own_iload X41 hx (hb hby at_325) rfl 327 rfl ?_
    refine own_iconst X41 hx (z := (1 : Int32)) (hb hby at_327) rfl 328 rfl ?_
    refine own_icmpT X41 hx (hb hby at_328) (flt (by decide)).2.2.2 336 (by decide) (by decide) ?_
    refine own_iload X41 hx (hb hby at_336) rfl 338 rfl ?_
    refine own_istore X41 hx (#[.val (.int p1), .val (.int p2), .val (.int p3), .val (.int p4), .val (.int i4), .val (.int i5), .val (.int i6), .val (.int i7), .val (.int i8), .val (.int (1 : Int32)), .val (.int v0), .val (.int v1), .val (.int v2), .val (.int w0), .val (.int w1), .val (.int w2), .val (.ref va), .val (.ref vb), .val (.ref d), .val (.int x35), .val (.int x36), .val (.int x37), .val (.int x39), .val (.int x40), .val (.int x41), .val (.int v0), .val (.int w1), .unset, .unset]) (hb hby at_338) rfl 340 rfl ?_
    refine own_iload X41 hx (hb hby at_340) rfl 342 rfl ?_
    refine own_iconst X41 hx (z := (2 : Int32)) (hb hby at_342) rfl 343 rfl ?_
    refine own_icmpT X41 hx (hb hby at_343) (flt (by decide)).2.2.2 351 (by decide) (by decide) ?_
    refine own_iload X41 hx (hb hby at_351) rfl 353 rfl ?_
    refine own_istore X41 hx (#[.val (.int p1), .val (.int p2), .val (.int p3), .val (.int p4), .val (.int i4), .val (.int i5), .val (.int i6), .val (.int i7), .val (.int i8), .val (.int (1 : Int32)), .val (.int v0), .val (.int v1), .val (.int v2), .val (.int w0), .val (.int w1), .val (.int w2), .val (.ref va), .val (.ref vb), .val (.ref d), .val (.int x35), .val (.int x36), .val (.int x37), .val (.int x39), .val (.int x40), .val (.int x41), .val (.int v0), .val (.int w1), .val (.int w2), .unset]) (hb hby at_353) rfl 355 rfl ?_
    refine own_iload X41 hx (hb hby at_355) rfl 357 rfl ?_
    refine own_iload X41 hx (hb hby at_357) rfl 359 rfl ?_
    refine own_iload X41 hx (hb hby at_359) rfl 361 rfl ?_
    refine own_iload X41 hx (hb hby at_361) rfl 363 rfl ?_
    refine own_iload X41 hx (hb hby at_363) rfl 365 rfl ?_
    refine own_callS X41 hx hZ hown (own_w97 hw) (own_w98 hw) (own_w68 hw) (own_w99 hw) (by decide) 1 (own_m_pick l Z a0 hw _ n0 i4 v0 w1 w2 rfl) e41 (by rw [hml]; rfl) [(.int i4), (.int v0), (.int w1), (.int w2)] [(.int i7)] rfl (lenOf own_pd_13 rfl) rfl (Nat.le_of_eq rfl) (by decide) (by decide) (by decide) (by decide) (hb hby at_365) N41 368 rfl (fun v42 T42 l42 X42 N42 hP42 => ?_)
    obtain ⟨rfl, e42⟩ := hP42
    show own_G p e below _ (T42.setTop (mkF m 368 #[.val (.int p1), .val (.int p2), .val (.int p3), .val (.int p4), .val (.int i4), .val (.int i5), .val (.int i6), .val (.int i7), .val (.int i8), .val (.int (1 : Int32)), .val (.int v0), .val (.int v1), .val (.int v2), .val (.int w0), .val (.int w1), .val (.int w2), .val (.ref va), .val (.ref vb), .val (.ref d), .val (.int x35), .val (.int x36), .val (.int x37), .val (.int x39), .val (.int x40), .val (.int x41), .val (.int v0), .val (.int w1), .val (.int w2), .unset] [(.int (own_f_pick i4 v0 w1 w2)), (.int i7)]))
    refine own_iload X42 hx (hb hby at_368) rfl 370 rfl ?_
    refine own_iload X42 hx (hb hby at_370) rfl 372 rfl ?_
    refine own_iload X42 hx (hb hby at_372) rfl 374 rfl ?_
    refine own_iload X42 hx (hb hby at_374) rfl 376 rfl ?_
    refine own_iload X42 hx (hb hby at_376) rfl 378 rfl ?_
    refine own_callS X42 hx hZ hown (own_w97 hw) (own_w98 hw) (own_w68 hw) (own_w99 hw) (by decide) 3 (own_m_pick l Z a0 hw _ n0 i5 v0 w1 w2 rfl) e42 (by rw [hml]; rfl) [(.int i5), (.int v0), (.int w1), (.int w2)] [(.int i8), (.int (own_f_pick i4 v0 w1 w2)), (.int i7)] rfl (lenOf own_pd_13 rfl) rfl (Nat.le_of_eq rfl) (by decide) (by decide) (by decide) (by decide) (hb hby at_378) N42 381 rfl (fun v43 T43 l43 X43 N43 hP43 => ?_)
    obtain ⟨rfl, e43⟩ := hP43
    show own_G p e below _ (T43.setTop (mkF m 381 #[.val (.int p1), .val (.int p2), .val (.int p3), .val (.int p4), .val (.int i4), .val (.int i5), .val (.int i6), .val (.int i7), .val (.int i8), .val (.int (1 : Int32)), .val (.int v0), .val (.int v1), .val (.int v2), .val (.int w0), .val (.int w1), .val (.int w2), .val (.ref va), .val (.ref vb), .val (.ref d), .val (.int x35), .val (.int x36), .val (.int x37), .val (.int x39), .val (.int x40), .val (.int x41), .val (.int v0), .val (.int w1), .val (.int w2), .unset] [(.int (own_f_pick i5 v0 w1 w2)), (.int i8), (.int (own_f_pick i4 v0 w1 w2)), (.int i7)]))
    refine own_iload X43 hx (hb hby at_381) rfl 383 rfl ?_
    refine own_iload X43 hx (hb hby at_383) rfl 385 rfl ?_
    refine own_iload X43 hx (hb hby at_385) rfl 387 rfl ?_
    refine own_iload X43 hx (hb hby at_387) rfl 389 rfl ?_
    refine own_callS X43 hx hZ hown (own_w97 hw) (own_w98 hw) (own_w68 hw) (own_w99 hw) (by decide) 4 (own_m_pick l Z a0 hw _ n0 i6 v0 w1 w2 rfl) e43 (by rw [hml]; rfl) [(.int i6), (.int v0), (.int w1), (.int w2)] [(.int (own_f_pick i5 v0 w1 w2)), (.int i8), (.int (own_f_pick i4 v0 w1 w2)), (.int i7)] rfl (lenOf own_pd_13 rfl) rfl (Nat.le_of_eq rfl) (by decide) (by decide) (by decide) (by decide) (hb hby at_389) N43 392 rfl (fun v44 T44 l44 X44 N44 hP44 => ?_)
    obtain ⟨rfl, e44⟩ := hP44
    show own_G p e below _ (T44.setTop (mkF m 392 #[.val (.int p1), .val (.int p2), .val (.int p3), .val (.int p4), .val (.int i4), .val (.int i5), .val (.int i6), .val (.int i7), .val (.int i8), .val (.int (1 : Int32)), .val (.int v0), .val (.int v1), .val (.int v2), .val (.int w0), .val (.int w1), .val (.int w2), .val (.ref va), .val (.ref vb), .val (.ref d), .val (.int x35), .val (.int x36), .val (.int x37), .val (.int x39), .val (.int x40), .val (.int x41), .val (.int v0), .val (.int w1), .val (.int w2), .unset] [(.int (own_f_pick i6 v0 w1 w2)), (.int (own_f_pick i5 v0 w1 w2)), (.int i8), (.int (own_f_pick i4 v0 w1 w2)), (.int i7)]))
    refine own_callS X44 hx hZ hown (own_w100 hw) (own_w101 hw) (own_w68 hw) (own_w102 hw) (by decide) 2 (own_m_op l Z a0 hw _ n0 i8 (own_f_pick i5 v0 w1 w2) (own_f_pick i6 v0 w1 w2) rfl) e44 (by rw [hml]; rfl) [(.int i8), (.int (own_f_pick i5 v0 w1 w2)), (.int (own_f_pick i6 v0 w1 w2))] [(.int (own_f_pick i4 v0 w1 w2)), (.int i7)] rfl (lenOf own_pd_14 rfl) rfl (Nat.le_of_eq rfl) (by decide) (by decide) (by decide) (by decide) (hb hby at_392) N44 395 rfl (fun v45 T45 l45 X45 N45 hP45 => ?_)
    obtain ⟨rfl, e45⟩ := hP45
    show own_G p e below _ (T45.setTop (mkF m 395 #[.val (.int p1), .val (.int p2), .val (.int p3), .val (.int p4), .val (.int i4), .val (.int i5), .val (.int i6), .val (.int i7), .val (.int i8), .val (.int (1 : Int32)), .val (.int v0), .val (.int v1), .val (.int v2), .val (.int w0), .val (.int w1), .val (.int w2), .val (.ref va), .val (.ref vb), .val (.ref d), .val (.int x35), .val (.int x36), .val (.int x37), .val (.int x39), .val (.int x40), .val (.int x41), .val (.int v0), .val (.int w1), .val (.int w2), .unset] [(.int (own_f_op i8 (own_f_pick i5 v0 w1 w2) (own_f_pick i6 v0 w1 w2))), (.int (own_f_pick i4 v0 w1 w2)), (.int i7)]))
    refine own_callS X45 hx hZ hown (own_w100 hw) (own_w101 hw) (own_w68 hw) (own_w102 hw) (by decide) 0 (own_m_op l Z a0 hw _ n0 i7 (own_f_pick i4 v0 w1 w2) (own_f_op i8 (own_f_pick i5 v0 w1 w2) (own_f_pick i6 v0 w1 w2)) rfl) e45 (by rw [hml]; rfl) [(.int i7), (.int (own_f_pick i4 v0 w1 w2)), (.int (own_f_op i8 (own_f_pick i5 v0 w1 w2) (own_f_pick i6 v0 w1 w2)))] [] rfl (lenOf own_pd_14 rfl) rfl (Nat.le_of_eq rfl) (by decide) (by decide) (by decide) (by decide) (hb hby at_395) N45 398 rfl (fun v46 T46 l46 X46 N46 hP46 => ?_)
    obtain ⟨rfl, e46⟩ := hP46
    show own_G p e below _ (T46.setTop (mkF m 398 #[.val (.int p1), .val (.int p2), .val (.int p3), .val (.int p4), .val (.int i4), .val (.int i5), .val (.int i6), .val (.int i7), .val (.int i8), .val (.int (1 : Int32)), .val (.int v0), .val (.int v1), .val (.int v2), .val (.int w0), .val (.int w1), .val (.int w2), .val (.ref va), .val (.ref vb), .val (.ref d), .val (.int x35), .val (.int x36), .val (.int x37), .val (.int x39), .val (.int x40), .val (.int x41), .val (.int v0), .val (.int w1), .val (.int w2), .unset] [(.int (own_f_op i7 (own_f_pick i4 v0 w1 w2) (own_f_op i8 (own_f_pick i5 v0 w1 w2) (own_f_pick i6 v0 w1 w2))))]))
    refine own_istore X46 hx (#[.val (.int p1), .val (.int p2), .val (.int p3), .val (.int p4), .val (.int i4), .val (.int i5), .val (.int i6), .val (.int i7), .val (.int i8), .val (.int (1 : Int32)), .val (.int v0), .val (.int v1), .val (.int v2), .val (.int w0), .val (.int w1), .val (.int w2), .val (.ref va), .val (.ref vb), .val (.ref d), .val (.int x35), .val (.int x36), .val (.int x37), .val (.int x39), .val (.int x40), .val (.int x41), .val (.int v0), .val (.int w1), .val (.int w2), .val (.int (own_f_op i7 (own_f_pick i4 v0 w1 w2) (own_f_op i8 (own_f_pick i5 v0 w1 w2) (own_f_pick i6 v0 w1 w2))))]) (hb hby at_398) rfl 400 rfl ?_
    refine own_iload X46 hx (hb hby at_400) rfl 402 rfl ?_
    refine own_iload X46 hx (hb hby at_402) rfl 404 rfl ?_
    by_cases hc47 : x41 = (own_f_op i7 (own_f_pick i4 v0 w1 w2) (own_f_op i8 (own_f_pick i5 v0 w1 w2) (own_f_pick i6 v0 w1 w2)))
    · replace hF := own_ifT hc47 hF
      refine own_icmpF X46 hx (hb hby at_404) (teq hc47).2 407 rfl ?_
      refine own_iconst X46 hx (z := (1 : Int32)) (hb hby at_407) rfl 408 rfl ?_
      refine own_goto X46 hx (hb hby at_408) 412 (by decide) (by decide) ?_
      exact own_retN X46 hx hret (Or.inl rfl) hlk (hb hby at_412) (by decide) (by decide) N46 e46 rfl
    · replace hF := own_ifF hc47 hF
      refine own_icmpT X46 hx (hb hby at_404) (feq hc47).2 411 (by decide) (by decide) ?_
      refine own_iconst X46 hx (z := (0 : Int32)) (hb hby at_411) rfl 412 rfl ?_
      exact absurd hF (by decide)
  · refine own_iload X0 hx (hb hby at_128) rfl 130 rfl ?_
    refine own_ifcT X0 hx (hb hby at_130) (feq (by decide)).2 139 (by decide) (by decide) ?_
    refine own_iload X0 hx (hb hby at_139) rfl 141 rfl ?_
    refine own_iconst X0 hx (z := (1 : Int32)) (hb hby at_141) rfl 142 rfl ?_
    refine own_icmpT X0 hx (hb hby at_142) (feq (by decide)).2 151 (by decide) (by decide) ?_
    refine own_iload X0 hx (hb hby at_151) rfl 153 rfl ?_
    refine own_iconst X0 hx (z := (2 : Int32)) (hb hby at_153) rfl 154 rfl ?_
    refine own_icmpF X0 hx (hb hby at_154) (teq (by decide)).2 157 rfl ?_
    refine own_iconst X0 hx (z := (2 : Int32)) (hb hby at_157) rfl 158 rfl ?_
    refine own_newP (aty := .boolean) X0 hx hZ (own_w0 hw) e0 (hb hby at_158) (by decide) 2 (by decide) (by decide) (by decide) (by decide) 160 rfl (fun T48 h48 cA48 va g48 X48 e48 E48 B48 => ?_)
    have gn_va : n0 ≤ va := Nat.le_trans Z0 (Nat.le_of_eq g48.symm)
    have Z0_48 := Nat.le_trans Z0 E48.1
    have A_va_48 : own_A Z h48 va .boolean 2 (fun _ => 0) := own_A.new B48 (by decide) rfl
    refine own_goto X48 hx (hb hby at_160) 166 (by decide) (by decide) ?_
    refine own_astore X48 hx (#[.val (.int p1), .val (.int p2), .val (.int p3), .val (.int p4), .val (.int i4), .val (.int i5), .val (.int i6), .val (.int i7), .val (.int i8), .val (.int (2 : Int32)), .val (.int v0), .val (.int v1), .val (.int v2), .val (.int w0), .val (.int w1), .val (.int w2), .val (.ref va), .unset, .unset, .unset, .unset, .unset, .unset, .unset, .unset, .unset, .unset, .unset, .unset]) (hb hby at_166) rfl rfl 168 rfl ?_
    refine own_iload X48 hx (hb hby at_168) rfl 170 rfl ?_
    refine own_ifcF X48 hx (hb hby at_170) (tlt (by decide)).2.2.2 173 rfl ?_
    refine own_aload X48 hx (hb hby at_173) rfl rfl 175 rfl ?_
    refine own_iconst X48 hx (z := (0 : Int32)) (hb hby at_175) rfl 176 rfl ?_
    refine own_iload X48 hx (hb hby at_176) rfl 178 rfl ?_
    refine own_zastore X48 hx hZ e48 A_va_48 ⟨by decide, by decide⟩ (hb hby at_178) N0 gn_va 179 rfl (fun T49 h49 l49 X49 N49 e49 W49 => ?_)
    have Z0_49 := Nat.le_trans Z0_48 (Nat.le_of_eq W49.size.symm)
    have A_va_49 := A_va_48.set W49
    refine own_iload X49 hx (hb hby at_179) rfl 181 rfl ?_
    refine own_iconst X49 hx (z := (1 : Int32)) (hb hby at_181) rfl 182 rfl ?_
    refine own_icmpF X49 hx (hb hby at_182) (tlt (by decide)).2.2.2 185 rfl ?_
    refine own_aload X49 hx (hb hby at_185) rfl rfl 187 rfl ?_
    refine own_iconst X49 hx (z := (1 : Int32)) (hb hby at_187) rfl 188 rfl ?_
    refine own_iload X49 hx (hb hby at_188) rfl 190 rfl ?_
    refine own_zastore X49 hx hZ e49 A_va_49 ⟨by decide, by decide⟩ (hb hby at_190) N49 gn_va 191 rfl (fun T50 h50 l50 X50 N50 e50 W50 => ?_)
    have Z0_50 := Nat.le_trans Z0_49 (Nat.le_of_eq W50.size.symm)
    have A_va_50 := A_va_49.set W50
    refine own_iload X50 hx (hb hby at_191) rfl 193 rfl ?_
    refine own_iconst X50 hx (z := (2 : Int32)) (hb hby at_193) rfl 194 rfl ?_
    refine own_icmpT X50 hx (hb hby at_194) (flt (by decide)).2.2.2 203 (by decide) (by decide) ?_
    refine own_iconst X50 hx (z := (3 : Int32)) (hb hby at_203) rfl 204 rfl ?_
    refine own_newP (aty := .boolean) X50 hx hZ (own_w0 hw) e50 (hb hby at_204) (by decide) 3 (by decide) (by decide) (by decide) (by decide) 206 rfl (fun T51 h51 cA51 vb g51 X51 e51 E51 B51 => ?_)
    have o_va_vb : va < vb := Nat.lt_of_lt_of_eq A_va_50.lt g51.symm
    have gn_vb : n0 ≤ vb := Nat.le_trans Z0_50 (Nat.le_of_eq g51.symm)
    have Z0_51 := Nat.le_trans Z0_50 E51.1
    have A_va_51 := A_va_50.ext E51
    have A_vb_51 : own_A Z h51 vb .boolean 3 (fun _ => 0) := own_A.new B51 (by decide) rfl
    refine own_astore X51 hx (#[.val (.int p1), .val (.int p2), .val (.int p3), .val (.int p4), .val (.int i4), .val (.int i5), .val (.int i6), .val (.int i7), .val (.int i8), .val (.int (2 : Int32)), .val (.int v0), .val (.int v1), .val (.int v2), .val (.int w0), .val (.int w1), .val (.int w2), .val (.ref va), .val (.ref vb), .unset, .unset, .unset, .unset, .unset, .unset, .unset, .unset, .unset, .unset, .unset]) (hb hby at_206) rfl rfl 208 rfl ?_
    refine own_aload X51 hx (hb hby at_208) rfl rfl 210 rfl ?_
    refine own_iconst X51 hx (z := (0 : Int32)) (hb hby at_210) rfl 211 rfl ?_
    refine own_iload X51 hx (hb hby at_211) rfl 213 rfl ?_
    refine own_zastore X51 hx hZ e51 A_vb_51 ⟨by decide, by decide⟩ (hb hby at_213) N50 gn_vb 214 rfl (fun T52 h52 l52 X52 N52 e52 W52 => ?_)
    have Z0_52 := Nat.le_trans Z0_51 (Nat.le_of_eq W52.size.symm)
    have A_va_52 := A_va_51.other W52 (Nat.ne_of_lt o_va_vb)
    have A_vb_52 := A_vb_51.set W52
    refine own_aload X52 hx (hb hby at_214) rfl rfl 216 rfl ?_
    refine own_iconst X52 hx (z := (1 : Int32)) (hb hby at_216) rfl 217 rfl ?_
    refine own_iload X52 hx (hb hby at_217) rfl 219 rfl ?_
    refine own_zastore X52 hx hZ e52 A_vb_52 ⟨by decide, by decide⟩ (hb hby at_219) N52 gn_vb 220 rfl (fun T53 h53 l53 X53 N53 e53 W53 => ?_)
    have Z0_53 := Nat.le_trans Z0_52 (Nat.le_of_eq W53.size.symm)
    have A_va_53 := A_va_52.other W53 (Nat.ne_of_lt o_va_vb)
    have A_vb_53 := A_vb_52.set W53
    refine own_aload X53 hx (hb hby at_220) rfl rfl 222 rfl ?_
    refine own_iconst X53 hx (z := (2 : Int32)) (hb hby at_222) rfl 223 rfl ?_
    refine own_iload X53 hx (hb hby at_223) rfl 225 rfl ?_
    refine own_zastore X53 hx hZ e53 A_vb_53 ⟨by decide, by decide⟩ (hb hby at_225) N53 gn_vb 226 rfl (fun T54 h54 l54 X54 N54 e54 W54 => ?_)
    have Z0_54 := Nat.le_trans Z0_53 (Nat.le_of_eq W54.size.symm)
    have A_va_54 := A_va_53.other W54 (Nat.ne_of_lt o_va_vb)
    have A_vb_54 := A_vb_53.set W54
    refine own_newO X54 hx hZ hown (own_w1 hw) (own_w2 hw) (own_w3 hw) e54 (hb hby at_226) (by decide) (by decide) 229 rfl (fun T55 h55 d g55 X55 e55 E55 B55 D55 => ?_)
    have o_va_d : va < d := Nat.lt_of_lt_of_eq A_va_54.lt g55.symm
    have o_vb_d : vb < d := Nat.lt_of_lt_of_eq A_vb_54.lt g55.symm
    have gn_d : n0 ≤ d := Nat.le_trans Z0_54 (Nat.le_of_eq g55.symm)
    have Z0_55 := Nat.le_trans Z0_54 E55.1
    have A_va_55 := A_va_54.ext E55
    have A_vb_55 := A_vb_54.ext E55
    have F_logic_d_55 : Fld Z h55 d "com/example/orbweaver/orbweaver/synthesis/Diagrams" "logic" "Lcom/example/orbweaver/orbweaver/spec/Logic;" .null := D55 (Or.inr (own_w20 hw)) (ty := (.object "com/example/orbweaver/orbweaver/spec/Logic")) (by decide)
    have F_sets_d_55 : Fld Z h55 d "com/example/orbweaver/orbweaver/synthesis/Diagrams" "sets" "[Lcom/example/orbweaver/orbweaver/synthesis/Valuations;" .null := D55 (Or.inl (own_w24 hw)) (ty := (.array (.object "com/example/orbweaver/orbweaver/synthesis/Valuations"))) (by decide)
    have F_work_d_55 : Fld Z h55 d "com/example/orbweaver/orbweaver/synthesis/Diagrams" "work" "[I" .null := D55 (Or.inl (own_w27 hw)) (ty := (.array .int)) (by decide)
    have F_results_d_55 : Fld Z h55 d "com/example/orbweaver/orbweaver/synthesis/Diagrams" "results" "[I" .null := D55 (Or.inl (own_w29 hw)) (ty := (.array .int)) (by decide)
    have F_variables_d_55 : Fld Z h55 d "com/example/orbweaver/orbweaver/synthesis/Diagrams" "variables" "I" (.int (0 : Int32)) := D55 (Or.inr (own_w31 hw)) (ty := .int) (by decide)
    have F_terms_d_55 : Fld Z h55 d "com/example/orbweaver/orbweaver/synthesis/Diagrams" "terms" "I" (.int (0 : Int32)) := D55 (Or.inr (own_w33 hw)) (ty := .int) (by decide)
    have F_limit_d_55 : Fld Z h55 d "com/example/orbweaver/orbweaver/synthesis/Diagrams" "limit" "I" (.int (0 : Int32)) := D55 (Or.inl (own_w35 hw)) (ty := .int) (by decide)
    have F_level_d_55 : Fld Z h55 d "com/example/orbweaver/orbweaver/synthesis/Diagrams" "level" "[I" .null := D55 (Or.inl (own_w37 hw)) (ty := (.array .int)) (by decide)
    have F_low_d_55 : Fld Z h55 d "com/example/orbweaver/orbweaver/synthesis/Diagrams" "low" "[I" .null := D55 (Or.inl (own_w39 hw)) (ty := (.array .int)) (by decide)
    have F_high_d_55 : Fld Z h55 d "com/example/orbweaver/orbweaver/synthesis/Diagrams" "high" "[I" .null := D55 (Or.inl (own_w41 hw)) (ty := (.array .int)) (by decide)
    have F_size_d_55 : Fld Z h55 d "com/example/orbweaver/orbweaver/synthesis/Diagrams" "size" "I" (.int (0 : Int32)) := D55 (Or.inl (own_w43 hw)) (ty := .int) (by decide)
    have F_unique_d_55 : Fld Z h55 d "com/example/orbweaver/orbweaver/synthesis/Diagrams" "unique" "[I" .null := D55 (Or.inl (own_w45 hw)) (ty := (.array .int)) (by decide)
    have F_cache_d_55 : Fld Z h55 d "com/example/orbweaver/orbweaver/synthesis/Diagrams" "cache" "[I" .null := D55 (Or.inl (own_w47 hw)) (ty := (.array .int)) (by decide)
    refine own_dup X55 hx (hb hby at_229) rfl 230 rfl ?_
    refine own_iconst X55 hx (z := (3 : Int32)) (hb hby at_230) rfl 231 rfl ?_
    refine own_iconst X55 hx (z := (3 : Int32)) (hb hby at_231) rfl 232 rfl ?_
    refine own_sipush X55 hx (z := (1000 : Int32)) (hb hby at_232) rfl 235 rfl ?_
    refine own_callI X55 hx hZ hown rfl (own_w4 hw) (own_w5 hw) (own_w3 hw) (own_w6 hw) (by decide) 1 (own_m_dinit l Z a0 hw _ n0 (3 : Int32) (3 : Int32) (1000 : Int32) B55 F_logic_d_55 F_sets_d_55 F_work_d_55 F_results_d_55 F_variables_d_55 F_terms_d_55 F_limit_d_55 F_level_d_55 F_low_d_55 F_high_d_55 F_size_d_55 F_unique_d_55 F_cache_d_55 gn_d) e55 (by rw [hml]; rfl) d [(.int (3 : Int32)), (.int (3 : Int32)), (.int (1000 : Int32))] [(.ref d)] rfl (lenOf own_pd_8 rfl) rfl (Nat.le_of_eq rfl) (by decide) (by decide) (by decide) (by decide) (hb hby at_235) N54 238 rfl (fun v56 T56 l56 X56 N56 hP56 => ?_)
    obtain ⟨rfl, Q56, K56'⟩ := hP56
    have Z0_56 := Nat.le_trans Z0_55 K56'.1
    have A_va_56 := A_va_55.keep K56' (ninS (Nat.ne_of_lt o_va_d) nin0)
    have A_vb_56 := A_vb_55.keep K56' (ninS (Nat.ne_of_lt o_vb_d) nin0)
    have B55_56 := B55.keep K56'
    obtain ⟨al, ao, ah, au, ac, aw, ar, D⟩ := Q56
    show own_G p e below _ (T56.setTop (mkF m 238 #[.val (.int p1), .val (.int p2), .val (.int p3), .val (.int p4), .val (.int i4), .val (.int i5), .val (.int i6), .val (.int i7), .val (.int i8), .val (.int (2 : Int32)), .val (.int v0), .val (.int v1), .val (.int v2), .val (.int w0), .val (.int w1), .val (.int w2), .val (.ref va), .val (.ref vb), .unset, .unset, .unset, .unset, .unset, .unset, .unset, .unset, .unset, .unset, .unset] [(.ref d)]))
    refine own_astore X56 hx (#[.val (.int p1), .val (.int p2), .val (.int p3), .val (.int p4), .val (.int i4), .val (.int i5), .val (.int i6), .val (.int i7), .val (.int i8), .val (.int (2 : Int32)), .val (.int v0), .val (.int v1), .val (.int v2), .val (.int w0), .val (.int w1), .val (.int w2), .val (.ref va), .val (.ref vb), .val (.ref d), .unset, .unset, .unset, .unset, .unset, .unset, .unset, .unset, .unset, .unset]) (hb hby at_238) rfl rfl 240 rfl ?_
    have Av : own_A Z T56.heap va .boolean 2 (own_val2 v0 v1) := A_va_56.congr (fun j _ => by simp only [own_nar2 mv0, own_nar2 mv1]; rfl)
    have Bv : own_A Z T56.heap vb .boolean 3 (own_val3 w0 w1 w2) := A_vb_56.congr (fun j _ => by simp only [own_nar2 mw0, own_nar2 mw1, own_nar2 mw2]; rfl)
    have hF := own_law_one2 i4 i5 i6 i7 i8 v0 v1 w0 w1 w2 mi4 mi5 mi6 mi7 mi8 mv0 mv1 mw0 mw1 mw2
    unfold own_f_law2 at hF
    obtain ⟨r', sz', lv', lo', hi', un', ca', wo', re', hF, hF2⟩ := own_b9_some hF
    unfold own_f_mk at hF
    refine own_aload X56 hx (hb hby at_240) rfl rfl 242 rfl ?_
    refine own_iload X56 hx (hb hby at_242) rfl 244 rfl ?_
    obtain ⟨x57, sz57, lv57, lo57, hi57, un57, g57, hF⟩ := own_b6_some hF
    refine own_callV X56 hx hZ hown (own_w52 hw) (own_w53 hw) (own_w55 hw) (own_w54 hw) (own_w3 hw) (own_w56 hw) (by decide) 0 (own_m_variable l Z a0 hw _ n0 D i4 g57) rfl (own_D_exa D) (by rw [hml]; rfl) [(.int i4)] [] rfl (lenOf own_pd_9 rfl) rfl (Nat.le_of_eq rfl) (by decide) (by decide) (by decide) (by decide) (hb hby at_244) N56 247 rfl (fun v57 T57 l57 X57 N57 hP57 => ?_)
    obtain ⟨rfl, D57, K57'⟩ := hP57
    have va_57 := Av.keep K57' (own_D_nin D o_va_d)
    have vb_57 := Bv.keep K57' (own_D_nin D o_vb_d)
    show own_G p e below _ (T57.setTop (mkF m 247 #[.val (.int p1), .val (.int p2), .val (.int p3), .val (.int p4), .val (.int i4), .val (.int i5), .val (.int i6), .val (.int i7), .val (.int i8), .val (.int (2 : Int32)), .val (.int v0), .val (.int v1), .val (.int v2), .val (.int w0), .val (.int w1), .val (.int w2), .val (.ref va), .val (.ref vb), .val (.ref d), .unset, .unset, .unset, .unset, .unset, .unset, .unset, .unset, .unset, .unset] [(.int x57)]))
    refine own_istore X57 hx (#[.val (.int p1), .val (.int p2), .val (.int p3), .val (.int p4), .val (.int i4), .val (.int i5), .val (.int i6), .val (.int i7), .val (.int i8), .val (.int (2 : Int32)), .val (.int v0), .val (.int v1), .val (.int v2), .val (.int w0), .val (.int w1), .val (.int w2), .val (.ref va), .val (.ref vb), .val (.ref d), .val (.int x57), .unset, .unset, .unset, .unset, .unset, .unset, .unset, .unset, .unset]) (hb hby at_247) rfl 249 rfl ?_
    refine own_aload X57 hx (hb hby at_249) rfl rfl 251 rfl ?_
    refine own_iload X57 hx (hb hby at_251) rfl 253 rfl ?_
    obtain ⟨x58, sz58, lv58, lo58, hi58, un58, g58, hF⟩ := own_b6_some hF
    refine own_callV X57 hx hZ hown (own_w52 hw) (own_w53 hw) (own_w55 hw) (own_w54 hw) (own_w3 hw) (own_w56 hw) (by decide) 0 (own_m_variable l Z a0 hw _ n0 D57 i5 g58) rfl (own_D_exa D57) (by rw [hml]; rfl) [(.int i5)] [] rfl (lenOf own_pd_9 rfl) rfl (Nat.le_of_eq rfl) (by decide) (by decide) (by decide) (by decide) (hb hby at_253) N57 256 rfl (fun v58 T58 l58 X58 N58 hP58 => ?_)
    obtain ⟨rfl, D58, K58'⟩ := hP58
    have va_58 := va_57.keep K58' (own_D_nin D57 o_va_d)
    have vb_58 := vb_57.keep K58' (own_D_nin D57 o_vb_d)
    show own_G p e below _ (T58.setTop (mkF m 256 #[.val (.int p1), .val (.int p2), .val (.int p3), .val (.int p4), .val (.int i4), .val (.int i5), .val (.int i6), .val (.int i7), .val (.int i8), .val (.int (2 : Int32)), .val (.int v0), .val (.int v1), .val (.int v2), .val (.int w0), .val (.int w1), .val (.int w2), .val (.ref va), .val (.ref vb), .val (.ref d), .val (.int x57), .unset, .unset, .unset, .unset, .unset, .unset, .unset, .unset, .unset] [(.int x58)]))
    refine own_istore X58 hx (#[.val (.int p1), .val (.int p2), .val (.int p3), .val (.int p4), .val (.int i4), .val (.int i5), .val (.int i6), .val (.int i7), .val (.int i8), .val (.int (2 : Int32)), .val (.int v0), .val (.int v1), .val (.int v2), .val (.int w0), .val (.int w1), .val (.int w2), .val (.ref va), .val (.ref vb), .val (.ref d), .val (.int x57), .val (.int x58), .unset, .unset, .unset, .unset, .unset, .unset, .unset, .unset]) (hb hby at_256) rfl 258 rfl ?_
    refine own_aload X58 hx (hb hby at_258) rfl rfl 260 rfl ?_
    refine own_iload X58 hx (hb hby at_260) rfl 262 rfl ?_
    obtain ⟨x59, sz59, lv59, lo59, hi59, un59, g59, hF⟩ := own_b6_some hF
    refine own_callV X58 hx hZ hown (own_w52 hw) (own_w53 hw) (own_w55 hw) (own_w54 hw) (own_w3 hw) (own_w56 hw) (by decide) 0 (own_m_variable l Z a0 hw _ n0 D58 i6 g59) rfl (own_D_exa D58) (by rw [hml]; rfl) [(.int i6)] [] rfl (lenOf own_pd_9 rfl) rfl (Nat.le_of_eq rfl) (by decide) (by decide) (by decide) (by decide) (hb hby at_262) N58 265 rfl (fun v59 T59 l59 X59 N59 hP59 => ?_)
    obtain ⟨rfl, D59, K59'⟩ := hP59
    have va_59 := va_58.keep K59' (own_D_nin D58 o_va_d)
    have vb_59 := vb_58.keep K59' (own_D_nin D58 o_vb_d)
    show own_G p e below _ (T59.setTop (mkF m 265 #[.val (.int p1), .val (.int p2), .val (.int p3), .val (.int p4), .val (.int i4), .val (.int i5), .val (.int i6), .val (.int i7), .val (.int i8), .val (.int (2 : Int32)), .val (.int v0), .val (.int v1), .val (.int v2), .val (.int w0), .val (.int w1), .val (.int w2), .val (.ref va), .val (.ref vb), .val (.ref d), .val (.int x57), .val (.int x58), .unset, .unset, .unset, .unset, .unset, .unset, .unset, .unset] [(.int x59)]))
    refine own_istore X59 hx (#[.val (.int p1), .val (.int p2), .val (.int p3), .val (.int p4), .val (.int i4), .val (.int i5), .val (.int i6), .val (.int i7), .val (.int i8), .val (.int (2 : Int32)), .val (.int v0), .val (.int v1), .val (.int v2), .val (.int w0), .val (.int w1), .val (.int w2), .val (.ref va), .val (.ref vb), .val (.ref d), .val (.int x57), .val (.int x58), .val (.int x59), .unset, .unset, .unset, .unset, .unset, .unset, .unset]) (hb hby at_265) rfl 267 rfl ?_
    refine own_aload X59 hx (hb hby at_267) rfl rfl 269 rfl ?_
    refine own_iload X59 hx (hb hby at_269) rfl 271 rfl ?_
    refine own_iload X59 hx (hb hby at_271) rfl 273 rfl ?_
    refine own_aload X59 hx (hb hby at_273) rfl rfl 275 rfl ?_
    refine own_iload X59 hx (hb hby at_275) rfl 277 rfl ?_
    refine own_iload X59 hx (hb hby at_277) rfl 279 rfl ?_
    refine own_iload X59 hx (hb hby at_279) rfl 281 rfl ?_
    obtain ⟨x60, sz60, lv60, lo60, hi60, un60, ca60, wo60, re60, g60, hF⟩ := own_b9_some hF
    refine own_callS X59 hx hZ hown (own_w66 hw) (own_w67 hw) (own_w68 hw) (own_w69 hw) (by decide) 3 (own_m_combine l Z a0 hw _ n0 D59 i8 x58 x59 g60) rfl (by rw [hml]; rfl) [(.ref d), (.int i8), (.int x58), (.int x59)] [(.int x57), (.int i7), (.ref d)] rfl (lenOf own_pd_10 rfl) rfl (Nat.le_of_eq rfl) (by decide) (by decide) (by decide) (by decide) (hb hby at_281) N59 284 rfl (fun v60 T60 l60 X60 N60 hP60 => ?_)
    obtain ⟨rfl, D60, K60'⟩ := hP60
    have va_60 := va_59.keep K60' (own_D_nin D59 o_va_d)
    have vb_60 := vb_59.keep K60' (own_D_nin D59 o_vb_d)
    show own_G p e below _ (T60.setTop (mkF m 284 #[.val (.int p1), .val (.int p2), .val (.int p3), .val (.int p4), .val (.int i4), .val (.int i5), .val (.int i6), .val (.int i7), .val (.int i8), .val (.int (2 : Int32)), .val (.int v0), .val (.int v1), .val (.int v2), .val (.int w0), .val (.int w1), .val (.int w2), .val (.ref va), .val (.ref vb), .val (.ref d), .val (.int x57), .val (.int x58), .val (.int x59), .unset, .unset, .unset, .unset, .unset, .unset, .unset] [(.int x60), (.int x57), (.int i7), (.ref d)]))
    obtain ⟨x61, sz61, lv61, lo61, hi61, un61, ca61, wo61, re61, g61, hF⟩ := own_b9_some hF
    refine own_callS X60 hx hZ hown (own_w66 hw) (own_w67 hw) (own_w68 hw) (own_w69 hw) (by decide) 0 (own_m_combine l Z a0 hw _ n0 D60 i7 x57 x60 g61) rfl (by rw [hml]; rfl) [(.ref d), (.int i7), (.int x57), (.int x60)] [] rfl (lenOf own_pd_10 rfl) rfl (Nat.le_of_eq rfl) (by decide) (by decide) (by decide) (by decide) (hb hby at_284) N60 287 rfl (fun v61 T61 l61 X61 N61 hP61 => ?_)
    obtain ⟨rfl, D61, K61'⟩ := hP61
    have va_61 := va_60.keep K61' (own_D_nin D60 o_va_d)
    have vb_61 := vb_60.keep K61' (own_D_nin D60 o_vb_d)
    show own_G p e below _ (T61.setTop (mkF m 287 #[.val (.int p1), .val (.int p2), .val (.int p3), .val (.int p4), .val (.int i4), .val (.int i5), .val (.int i6), .val (.int i7), .val (.int i8), .val (.int (2 : Int32)), .val (.int v0), .val (.int v1), .val (.int v2), .val (.int w0), .val (.int w1), .val (.int w2), .val (.ref va), .val (.ref vb), .val (.ref d), .val (.int x57), .val (.int x58), .val (.int x59), .unset, .unset, .unset, .unset, .unset, .unset, .unset] [(.int x61)]))
    refine own_istore X61 hx (#[.val (.int p1), .val (.int p2), .val (.int p3), .val (.int p4), .val (.int i4), .val (.int i5), .val (.int i6), .val (.int i7), .val (.int i8), .val (.int (2 : Int32)), .val (.int v0), .val (.int v1), .val (.int v2), .val (.int w0), .val (.int w1), .val (.int w2), .val (.ref va), .val (.ref vb), .val (.ref d), .val (.int x57), .val (.int x58), .val (.int x59), .val (.int x61), .unset, .unset, .unset, .unset, .unset, .unset]) (hb hby at_287) rfl 289 rfl ?_
    obtain ⟨q1, q2, q3, q4, q5, q6, q7, q8, q9⟩ := own_inj9 hF
    subst q1 q2 q3 q4 q5 q6 q7 q8 q9
    replace hF := hF2
    unfold own_f_tail2 at hF
    refine own_aload X61 hx (hb hby at_289) rfl rfl 291 rfl ?_
    refine own_iload X61 hx (hb hby at_291) rfl 293 rfl ?_
    refine own_aload X61 hx (hb hby at_293) rfl rfl 295 rfl ?_
    obtain ⟨x62, g62, hF⟩ := own_b1_some hF
    refine own_callV X61 hx hZ hown (own_w87 hw) (own_w88 hw) (own_w90 hw) (own_w89 hw) (own_w3 hw) (own_w91 hw) (by decide) 0 (own_m_given l Z a0 hw _ n0 D61 va_61 x61 g62) rfl (own_D_exa D61) (by rw [hml]; rfl) [(.int x61), (.ref va)] [] rfl (lenOf own_pd_11 rfl) rfl (Nat.le_of_eq rfl) (by decide) (by decide) (by decide) (by decide) (hb hby at_295) N61 298 rfl (fun v62 T62 l62 X62 N62 hP62 => ?_)
    obtain ⟨rfl, e62⟩ := hP62
    show own_G p e below _ (T62.setTop (mkF m 298 #[.val (.int p1), .val (.int p2), .val (.int p3), .val (.int p4), .val (.int i4), .val (.int i5), .val (.int i6), .val (.int i7), .val (.int i8), .val (.int (2 : Int32)), .val (.int v0), .val (.int v1), .val (.int v2), .val (.int w0), .val (.int w1), .val (.int w2), .val (.ref va), .val (.ref vb), .val (.ref d), .val (.int x57), .val (.int x58), .val (.int x59), .val (.int x61), .unset, .unset, .unset, .unset, .unset, .unset] [(.int x62)]))
    refine own_istore X62 hx (#[.val (.int p1), .val (.int p2), .val (.int p3), .val (.int p4), .val (.int i4), .val (.int i5), .val (.int i6), .val (.int i7), .val (.int i8), .val (.int (2 : Int32)), .val (.int v0), .val (.int v1), .val (.int v2), .val (.int w0), .val (.int w1), .val (.int w2), .val (.ref va), .val (.ref vb), .val (.ref d), .val (.int x57), .val (.int x58), .val (.int x59), .val (.int x61), .val (.int x62), .unset, .unset, .unset, .unset, .unset]) (hb hby at_298) rfl 300 rfl ?_
    refine own_aload X62 hx (hb hby at_300) rfl rfl 302 rfl ?_
    refine own_iload X62 hx (hb hby at_302) rfl 304 rfl ?_
    refine own_aload X62 hx (hb hby at_304) rfl rfl 306 rfl ?_
    obtain ⟨x63, g63, hF⟩ := own_b1_some hF
    refine own_callV X62 hx hZ hown (own_w92 hw) (own_w93 hw) (own_w95 hw) (own_w94 hw) (own_w3 hw) (own_w96 hw) (by decide) 0 (own_m_holds l Z a0 hw _ n0 D61 vb_61 x62 g63) e62 (own_D_exa D61) (by rw [hml]; rfl) [(.int x62), (.ref vb)] [] rfl (lenOf own_pd_12 rfl) rfl (Nat.le_of_eq rfl) (by decide) (by decide) (by decide) (by decide) (hb hby at_306) N62 309 rfl (fun v63 T63 l63 X63 N63 hP63 => ?_)
    obtain ⟨rfl, e63⟩ := hP63
    show own_G p e below _ (T63.setTop (mkF m 309 #[.val (.int p1), .val (.int p2), .val (.int p3), .val (.int p4), .val (.int i4), .val (.int i5), .val (.int i6), .val (.int i7), .val (.int i8), .val (.int (2 : Int32)), .val (.int v0), .val (.int v1), .val (.int v2), .val (.int w0), .val (.int w1), .val (.int w2), .val (.ref va), .val (.ref vb), .val (.ref d), .val (.int x57), .val (.int x58), .val (.int x59), .val (.int x61), .val (.int x62), .unset, .unset, .unset, .unset, .unset] [(.int x63)]))
    refine own_istore X63 hx (#[.val (.int p1), .val (.int p2), .val (.int p3), .val (.int p4), .val (.int i4), .val (.int i5), .val (.int i6), .val (.int i7), .val (.int i8), .val (.int (2 : Int32)), .val (.int v0), .val (.int v1), .val (.int v2), .val (.int w0), .val (.int w1), .val (.int w2), .val (.ref va), .val (.ref vb), .val (.ref d), .val (.int x57), .val (.int x58), .val (.int x59), .val (.int x61), .val (.int x62), .val (.int x63), .unset, .unset, .unset, .unset]) (hb hby at_309) rfl 311 rfl ?_
    refine own_iload X63 hx (hb hby at_311) rfl 313 rfl ?_
    refine own_ifcF X63 hx (hb hby at_313) (tlt (by decide)).2.2.2 316 rfl ?_
    refine own_iload X63 hx (hb hby at_316) rfl 318 rfl ?_
    refine own_goto X63 hx (hb hby at_318) 323 (by decide) (by decide) ?_
    refine own_istore X63 hx (#[.val (.int p1), .val (.int p2), .val (.int p3), .val (.int p4), .val (.int i4), .val (.int i5), .val (.int i6), .val (.int i7), .val (.int i8), .val (.int (2 : Int32)), .val (.int v0), .val (.int v1), .val (.int v2), .val (.int w0), .val (.int w1), .val (.int w2), .val (.ref va), .val (.ref vb), .val (.ref d), .val (.int x57), .val (.int x58), .val (.int x59), .val (.int x61), .val (.int x62), .val (.int x63), .val (.int v0), .unset, .unset, .unset]) (hb hby at_323) rfl 325 rfl ?_
    refine own_iload X63 hx (hb hby at_325) rfl 327 rfl ?_
    refine own_iconst X63 hx (z := (1 : Int32)) (hb hby at_327) rfl 328 rfl ?_
    refine own_icmpF X63 hx (hb hby at_328) (tlt (by decide)).2.2.2 331 rfl ?_
    refine own_iload X63 hx (hb hby at_331) rfl 333 rfl ?_
    refine own_goto X63 hx (hb hby at_333) 338 (by decide) (by decide) ?_
    refine own_istore X63 hx (#[.val (.int p1), .val (.int p2), .val (.int p3), .val (.int p4), .val (.int i4), .val (.int i5), .val (.int i6), .val (.int i7), .val (.int i8), .val (.int (2 : Int32)), .val (.int v0), .val (.int v1), .val (.int v2), .val (.int w0), .val (.int w1), .val (.int w2), .val (.ref va), .val (.ref vb), .val (.ref d), .val (.int x57), .val (.int x58), .val (.int x59), .val (.int x61), .val (.int x62), .val (.int x63), .val (.int v0), .val (.int v1), .unset, .unset]) (hb hby at_338) rfl 340 rfl ?_
    refine own_iload X63 hx (hb hby at_340) rfl 342 rfl ?_
    refine own_iconst X63 hx (z := (2 : Int32)) (hb hby at_342) rfl 343 rfl ?_
    refine own_icmpT X63 hx (hb hby at_343) (flt (by decide)).2.2.2 351 (by decide) (by decide) ?_
    refine own_iload X63 hx (hb hby at_351) rfl 353 rfl ?_
    refine own_istore X63 hx (#[.val (.int p1), .val (.int p2), .val (.int p3), .val (.int p4), .val (.int i4), .val (.int i5), .val (.int i6), .val (.int i7), .val (.int i8), .val (.int (2 : Int32)), .val (.int v0), .val (.int v1), .val (.int v2), .val (.int w0), .val (.int w1), .val (.int w2), .val (.ref va), .val (.ref vb), .val (.ref d), .val (.int x57), .val (.int x58), .val (.int x59), .val (.int x61), .val (.int x62), .val (.int x63), .val (.int v0), .val (.int v1), .val (.int w2), .unset]) (hb hby at_353) rfl 355 rfl ?_
    refine own_iload X63 hx (hb hby at_355) rfl 357 rfl ?_
    refine own_iload X63 hx (hb hby at_357) rfl 359 rfl ?_
    refine own_iload X63 hx (hb hby at_359) rfl 361 rfl ?_
    refine own_iload X63 hx (hb hby at_361) rfl 363 rfl ?_
    refine own_iload X63 hx (hb hby at_363) rfl 365 rfl ?_
    refine own_callS X63 hx hZ hown (own_w97 hw) (own_w98 hw) (own_w68 hw) (own_w99 hw) (by decide) 1 (own_m_pick l Z a0 hw _ n0 i4 v0 v1 w2 rfl) e63 (by rw [hml]; rfl) [(.int i4), (.int v0), (.int v1), (.int w2)] [(.int i7)] rfl (lenOf own_pd_13 rfl) rfl (Nat.le_of_eq rfl) (by decide) (by decide) (by decide) (by decide) (hb hby at_365) N63 368 rfl (fun v64 T64 l64 X64 N64 hP64 => ?_)
    obtain ⟨rfl, e64⟩ := hP64
    show own_G p e below _ (T64.setTop (mkF m 368 #[.val (.int p1), .val (.int p2), .val (.int p3), .val (.int p4), .val (.int i4), .val (.int i5), .val (.int i6), .val (.int i7), .val (.int i8), .val (.int (2 : Int32)), .val (.int v0), .val (.int v1), .val (.int v2), .val (.int w0), .val (.int w1), .val (.int w2), .val (.ref va), .val (.ref vb), .val (.ref d), .val (.int x57), .val (.int x58), .val (.int x59), .val (.int x61), .val (.int x62), .val (.int x63), .val (.int v0), .val (.int v1), .val (.int w2), .unset] [(.int (own_f_pick i4 v0 v1 w2)), (.int i7)]))
    refine own_iload X64 hx (hb hby at_368) rfl 370 rfl ?_
    refine own_iload X64 hx (hb hby at_370) rfl 372 rfl ?_
    refine own_iload X64 hx (hb hby at_372) rfl 374 rfl ?_
    refine own_iload X64 hx (hb hby at_374) rfl 376 rfl ?_
    refine own_iload X64 hx (hb hby at_376) rfl 378 rfl ?_
    refine own_callS X64 hx hZ hown (own_w97 hw) (own_w98 hw) (own_w68 hw) (own_w99 hw) (by decide) 3 (own_m_pick l Z a0 hw _ n0 i5 v0 v1 w2 rfl) e64 (by rw [hml]; rfl) [(.int i5), (.int v0), (.int v1), (.int w2)] [(.int i8), (.int (own_f_pick i4 v0 v1 w2)), (.int i7)] rfl (lenOf own_pd_13 rfl) rfl (Nat.le_of_eq rfl) (by decide) (by decide) (by decide) (by decide) (hb hby at_378) N64 381 rfl (fun v65 T65 l65 X65 N65 hP65 => ?_)
    obtain ⟨rfl, e65⟩ := hP65
    show own_G p e below _ (T65.setTop (mkF m 381 #[.val (.int p1), .val (.int p2), .val (.int p3), .val (.int p4), .val (.int i4), .val (.int i5), .val (.int i6), .val (.int i7), .val (.int i8), .val (.int (2 : Int32)), .val (.int v0), .val (.int v1), .val (.int v2), .val (.int w0), .val (.int w1), .val (.int w2), .val (.ref va), .val (.ref vb), .val (.ref d), .val (.int x57), .val (.int x58), .val (.int x59), .val (.int x61), .val (.int x62), .val (.int x63), .val (.int v0), .val (.int v1), .val (.int w2), .unset] [(.int (own_f_pick i5 v0 v1 w2)), (.int i8), (.int (own_f_pick i4 v0 v1 w2)), (.int i7)]))
    refine own_iload X65 hx (hb hby at_381) rfl 383 rfl ?_
    refine own_iload X65 hx (hb hby at_383) rfl 385 rfl ?_
    refine own_iload X65 hx (hb hby at_385) rfl 387 rfl ?_
    refine own_iload X65 hx (hb hby at_387) rfl 389 rfl ?_
    refine own_callS X65 hx hZ hown (own_w97 hw) (own_w98 hw) (own_w68 hw) (own_w99 hw) (by decide) 4 (own_m_pick l Z a0 hw _ n0 i6 v0 v1 w2 rfl) e65 (by rw [hml]; rfl) [(.int i6), (.int v0), (.int v1), (.int w2)] [(.int (own_f_pick i5 v0 v1 w2)), (.int i8), (.int (own_f_pick i4 v0 v1 w2)), (.int i7)] rfl (lenOf own_pd_13 rfl) rfl (Nat.le_of_eq rfl) (by decide) (by decide) (by decide) (by decide) (hb hby at_389) N65 392 rfl (fun v66 T66 l66 X66 N66 hP66 => ?_)
    obtain ⟨rfl, e66⟩ := hP66
    show own_G p e below _ (T66.setTop (mkF m 392 #[.val (.int p1), .val (.int p2), .val (.int p3), .val (.int p4), .val (.int i4), .val (.int i5), .val (.int i6), .val (.int i7), .val (.int i8), .val (.int (2 : Int32)), .val (.int v0), .val (.int v1), .val (.int v2), .val (.int w0), .val (.int w1), .val (.int w2), .val (.ref va), .val (.ref vb), .val (.ref d), .val (.int x57), .val (.int x58), .val (.int x59), .val (.int x61), .val (.int x62), .val (.int x63), .val (.int v0), .val (.int v1), .val (.int w2), .unset] [(.int (own_f_pick i6 v0 v1 w2)), (.int (own_f_pick i5 v0 v1 w2)), (.int i8), (.int (own_f_pick i4 v0 v1 w2)), (.int i7)]))
    refine own_callS X66 hx hZ hown (own_w100 hw) (own_w101 hw) (own_w68 hw) (own_w102 hw) (by decide) 2 (own_m_op l Z a0 hw _ n0 i8 (own_f_pick i5 v0 v1 w2) (own_f_pick i6 v0 v1 w2) rfl) e66 (by rw [hml]; rfl) [(.int i8), (.int (own_f_pick i5 v0 v1 w2)), (.int (own_f_pick i6 v0 v1 w2))] [(.int (own_f_pick i4 v0 v1 w2)), (.int i7)] rfl (lenOf own_pd_14 rfl) rfl (Nat.le_of_eq rfl) (by decide) (by decide) (by decide) (by decide) (hb hby at_392) N66 395 rfl (fun v67 T67 l67 X67 N67 hP67 => ?_)
    obtain ⟨rfl, e67⟩ := hP67
    show own_G p e below _ (T67.setTop (mkF m 395 #[.val (.int p1), .val (.int p2), .val (.int p3), .val (.int p4), .val (.int i4), .val (.int i5), .val (.int i6), .val (.int i7), .val (.int i8), .val (.int (2 : Int32)), .val (.int v0), .val (.int v1), .val (.int v2), .val (.int w0), .val (.int w1), .val (.int w2), .val (.ref va), .val (.ref vb), .val (.ref d), .val (.int x57), .val (.int x58), .val (.int x59), .val (.int x61), .val (.int x62), .val (.int x63), .val (.int v0), .val (.int v1), .val (.int w2), .unset] [(.int (own_f_op i8 (own_f_pick i5 v0 v1 w2) (own_f_pick i6 v0 v1 w2))), (.int (own_f_pick i4 v0 v1 w2)), (.int i7)]))
    refine own_callS X67 hx hZ hown (own_w100 hw) (own_w101 hw) (own_w68 hw) (own_w102 hw) (by decide) 0 (own_m_op l Z a0 hw _ n0 i7 (own_f_pick i4 v0 v1 w2) (own_f_op i8 (own_f_pick i5 v0 v1 w2) (own_f_pick i6 v0 v1 w2)) rfl) e67 (by rw [hml]; rfl) [(.int i7), (.int (own_f_pick i4 v0 v1 w2)), (.int (own_f_op i8 (own_f_pick i5 v0 v1 w2) (own_f_pick i6 v0 v1 w2)))] [] rfl (lenOf own_pd_14 rfl) rfl (Nat.le_of_eq rfl) (by decide) (by decide) (by decide) (by decide) (hb hby at_395) N67 398 rfl (fun v68 T68 l68 X68 N68 hP68 => ?_)
    obtain ⟨rfl, e68⟩ := hP68
    show own_G p e below _ (T68.setTop (mkF m 398 #[.val (.int p1), .val (.int p2), .val (.int p3), .val (.int p4), .val (.int i4), .val (.int i5), .val (.int i6), .val (.int i7), .val (.int i8), .val (.int (2 : Int32)), .val (.int v0), .val (.int v1), .val (.int v2), .val (.int w0), .val (.int w1), .val (.int w2), .val (.ref va), .val (.ref vb), .val (.ref d), .val (.int x57), .val (.int x58), .val (.int x59), .val (.int x61), .val (.int x62), .val (.int x63), .val (.int v0), .val (.int v1), .val (.int w2), .unset] [(.int (own_f_op i7 (own_f_pick i4 v0 v1 w2) (own_f_op i8 (own_f_pick i5 v0 v1 w2) (own_f_pick i6 v0 v1 w2))))]))
    refine own_istore X68 hx (#[.val (.int p1), .val (.int p2), .val (.int p3), .val (.int p4), .val (.int i4), .val (.int i5), .val (.int i6), .val (.int i7), .val (.int i8), .val (.int (2 : Int32)), .val (.int v0), .val (.int v1), .val (.int v2), .val (.int w0), .val (.int w1), .val (.int w2), .val (.ref va), .val (.ref vb), .val (.ref d), .val (.int x57), .val (.int x58), .val (.int x59), .val (.int x61), .val (.int x62), .val (.int x63), .val (.int v0), .val (.int v1), .val (.int w2), .val (.int (own_f_op i7 (own_f_pick i4 v0 v1 w2) (own_f_op i8 (own_f_pick i5 v0 v1 w2) (own_f_pick i6 v0 v1 w2))))]) (hb hby at_398) rfl 400 rfl ?_
    refine own_iload X68 hx (hb hby at_400) rfl 402 rfl ?_
    refine own_iload X68 hx (hb hby at_402) rfl 404 rfl ?_
    by_cases hc69 : x63 = (own_f_op i7 (own_f_pick i4 v0 v1 w2) (own_f_op i8 (own_f_pick i5 v0 v1 w2) (own_f_pick i6 v0 v1 w2)))
    · replace hF := own_ifT hc69 hF
      refine own_icmpF X68 hx (hb hby at_404) (teq hc69).2 407 rfl ?_
      refine own_iconst X68 hx (z := (1 : Int32)) (hb hby at_407) rfl 408 rfl ?_
      refine own_goto X68 hx (hb hby at_408) 412 (by decide) (by decide) ?_
      exact own_retN X68 hx hret (Or.inl rfl) hlk (hb hby at_412) (by decide) (by decide) N68 e68 rfl
    · replace hF := own_ifF hc69 hF
      refine own_icmpT X68 hx (hb hby at_404) (feq hc69).2 411 (by decide) (by decide) ?_
      refine own_iconst X68 hx (z := (0 : Int32)) (hb hby at_411) rfl 412 rfl ?_
      exact absurd hF (by decide)
  · refine own_iload X0 hx (hb hby at_128) rfl 130 rfl ?_
    refine own_ifcT X0 hx (hb hby at_130) (feq (by decide)).2 139 (by decide) (by decide) ?_
    refine own_iload X0 hx (hb hby at_139) rfl 141 rfl ?_
    refine own_iconst X0 hx (z := (1 : Int32)) (hb hby at_141) rfl 142 rfl ?_
    refine own_icmpT X0 hx (hb hby at_142) (feq (by decide)).2 151 (by decide) (by decide) ?_
    refine own_iload X0 hx (hb hby at_151) rfl 153 rfl ?_
    refine own_iconst X0 hx (z := (2 : Int32)) (hb hby at_153) rfl 154 rfl ?_
    refine own_icmpT X0 hx (hb hby at_154) (feq (by decide)).2 163 (by decide) (by decide) ?_
    refine own_iconst X0 hx (z := (3 : Int32)) (hb hby at_163) rfl 164 rfl ?_
    refine own_newP (aty := .boolean) X0 hx hZ (own_w0 hw) e0 (hb hby at_164) (by decide) 3 (by decide) (by decide) (by decide) (by decide) 166 rfl (fun T70 h70 cA70 va g70 X70 e70 E70 B70 => ?_)
    have gn_va : n0 ≤ va := Nat.le_trans Z0 (Nat.le_of_eq g70.symm)
    have Z0_70 := Nat.le_trans Z0 E70.1
    have A_va_70 : own_A Z h70 va .boolean 3 (fun _ => 0) := own_A.new B70 (by decide) rfl
    refine own_astore X70 hx (#[.val (.int p1), .val (.int p2), .val (.int p3), .val (.int p4), .val (.int i4), .val (.int i5), .val (.int i6), .val (.int i7), .val (.int i8), .val (.int (3 : Int32)), .val (.int v0), .val (.int v1), .val (.int v2), .val (.int w0), .val (.int w1), .val (.int w2), .val (.ref va), .unset, .unset, .unset, .unset, .unset, .unset, .unset, .unset, .unset, .unset, .unset, .unset]) (hb hby at_166) rfl rfl 168 rfl ?_
    refine own_iload X70 hx (hb hby at_168) rfl 170 rfl ?_
    refine own_ifcF X70 hx (hb hby at_170) (tlt (by decide)).2.2.2 173 rfl ?_
    refine own_aload X70 hx (hb hby at_173) rfl rfl 175 rfl ?_
    refine own_iconst X70 hx (z := (0 : Int32)) (hb hby at_175) rfl 176 rfl ?_
    refine own_iload X70 hx (hb hby at_176) rfl 178 rfl ?_
    refine own_zastore X70 hx hZ e70 A_va_70 ⟨by decide, by decide⟩ (hb hby at_178) N0 gn_va 179 rfl (fun T71 h71 l71 X71 N71 e71 W71 => ?_)
    have Z0_71 := Nat.le_trans Z0_70 (Nat.le_of_eq W71.size.symm)
    have A_va_71 := A_va_70.set W71
    refine own_iload X71 hx (hb hby at_179) rfl 181 rfl ?_
    refine own_iconst X71 hx (z := (1 : Int32)) (hb hby at_181) rfl 182 rfl ?_
    refine own_icmpF X71 hx (hb hby at_182) (tlt (by decide)).2.2.2 185 rfl ?_
    refine own_aload X71 hx (hb hby at_185) rfl rfl 187 rfl ?_
    refine own_iconst X71 hx (z := (1 : Int32)) (hb hby at_187) rfl 188 rfl ?_
    refine own_iload X71 hx (hb hby at_188) rfl 190 rfl ?_
    refine own_zastore X71 hx hZ e71 A_va_71 ⟨by decide, by decide⟩ (hb hby at_190) N71 gn_va 191 rfl (fun T72 h72 l72 X72 N72 e72 W72 => ?_)
    have Z0_72 := Nat.le_trans Z0_71 (Nat.le_of_eq W72.size.symm)
    have A_va_72 := A_va_71.set W72
    refine own_iload X72 hx (hb hby at_191) rfl 193 rfl ?_
    refine own_iconst X72 hx (z := (2 : Int32)) (hb hby at_193) rfl 194 rfl ?_
    refine own_icmpF X72 hx (hb hby at_194) (tlt (by decide)).2.2.2 197 rfl ?_
    refine own_aload X72 hx (hb hby at_197) rfl rfl 199 rfl ?_
    refine own_iconst X72 hx (z := (2 : Int32)) (hb hby at_199) rfl 200 rfl ?_
    refine own_iload X72 hx (hb hby at_200) rfl 202 rfl ?_
    refine own_zastore X72 hx hZ e72 A_va_72 ⟨by decide, by decide⟩ (hb hby at_202) N72 gn_va 203 rfl (fun T73 h73 l73 X73 N73 e73 W73 => ?_)
    have Z0_73 := Nat.le_trans Z0_72 (Nat.le_of_eq W73.size.symm)
    have A_va_73 := A_va_72.set W73
    refine own_iconst X73 hx (z := (3 : Int32)) (hb hby at_203) rfl 204 rfl ?_
    refine own_newP (aty := .boolean) X73 hx hZ (own_w0 hw) e73 (hb hby at_204) (by decide) 3 (by decide) (by decide) (by decide) (by decide) 206 rfl (fun T74 h74 cA74 vb g74 X74 e74 E74 B74 => ?_)
    have o_va_vb : va < vb := Nat.lt_of_lt_of_eq A_va_73.lt g74.symm
    have gn_vb : n0 ≤ vb := Nat.le_trans Z0_73 (Nat.le_of_eq g74.symm)
    have Z0_74 := Nat.le_trans Z0_73 E74.1
    have A_va_74 := A_va_73.ext E74
    have A_vb_74 : own_A Z h74 vb .boolean 3 (fun _ => 0) := own_A.new B74 (by decide) rfl
    refine own_astore X74 hx (#[.val (.int p1), .val (.int p2), .val (.int p3), .val (.int p4), .val (.int i4), .val (.int i5), .val (.int i6), .val (.int i7), .val (.int i8), .val (.int (3 : Int32)), .val (.int v0), .val (.int v1), .val (.int v2), .val (.int w0), .val (.int w1), .val (.int w2), .val (.ref va), .val (.ref vb), .unset, .unset, .unset, .unset, .unset, .unset, .unset, .unset, .unset, .unset, .unset]) (hb hby at_206) rfl rfl 208 rfl ?_
    refine own_aload X74 hx (hb hby at_208) rfl rfl 210 rfl ?_
    refine own_iconst X74 hx (z := (0 : Int32)) (hb hby at_210) rfl 211 rfl ?_
    refine own_iload X74 hx (hb hby at_211) rfl 213 rfl ?_
    refine own_zastore X74 hx hZ e74 A_vb_74 ⟨by decide, by decide⟩ (hb hby at_213) N73 gn_vb 214 rfl (fun T75 h75 l75 X75 N75 e75 W75 => ?_)
    have Z0_75 := Nat.le_trans Z0_74 (Nat.le_of_eq W75.size.symm)
    have A_va_75 := A_va_74.other W75 (Nat.ne_of_lt o_va_vb)
    have A_vb_75 := A_vb_74.set W75
    refine own_aload X75 hx (hb hby at_214) rfl rfl 216 rfl ?_
    refine own_iconst X75 hx (z := (1 : Int32)) (hb hby at_216) rfl 217 rfl ?_
    refine own_iload X75 hx (hb hby at_217) rfl 219 rfl ?_
    refine own_zastore X75 hx hZ e75 A_vb_75 ⟨by decide, by decide⟩ (hb hby at_219) N75 gn_vb 220 rfl (fun T76 h76 l76 X76 N76 e76 W76 => ?_)
    have Z0_76 := Nat.le_trans Z0_75 (Nat.le_of_eq W76.size.symm)
    have A_va_76 := A_va_75.other W76 (Nat.ne_of_lt o_va_vb)
    have A_vb_76 := A_vb_75.set W76
    refine own_aload X76 hx (hb hby at_220) rfl rfl 222 rfl ?_
    refine own_iconst X76 hx (z := (2 : Int32)) (hb hby at_222) rfl 223 rfl ?_
    refine own_iload X76 hx (hb hby at_223) rfl 225 rfl ?_
    refine own_zastore X76 hx hZ e76 A_vb_76 ⟨by decide, by decide⟩ (hb hby at_225) N76 gn_vb 226 rfl (fun T77 h77 l77 X77 N77 e77 W77 => ?_)
    have Z0_77 := Nat.le_trans Z0_76 (Nat.le_of_eq W77.size.symm)
    have A_va_77 := A_va_76.other W77 (Nat.ne_of_lt o_va_vb)
    have A_vb_77 := A_vb_76.set W77
    refine own_newO X77 hx hZ hown (own_w1 hw) (own_w2 hw) (own_w3 hw) e77 (hb hby at_226) (by decide) (by decide) 229 rfl (fun T78 h78 d g78 X78 e78 E78 B78 D78 => ?_)
    have o_va_d : va < d := Nat.lt_of_lt_of_eq A_va_77.lt g78.symm
    have o_vb_d : vb < d := Nat.lt_of_lt_of_eq A_vb_77.lt g78.symm
    have gn_d : n0 ≤ d := Nat.le_trans Z0_77 (Nat.le_of_eq g78.symm)
    have Z0_78 := Nat.le_trans Z0_77 E78.1
    have A_va_78 := A_va_77.ext E78
    have A_vb_78 := A_vb_77.ext E78
    have F_logic_d_78 : Fld Z h78 d "com/example/orbweaver/orbweaver/synthesis/Diagrams" "logic" "Lcom/example/orbweaver/orbweaver/spec/Logic;" .null := D78 (Or.inr (own_w20 hw)) (ty := (.object "com/example/orbweaver/orbweaver/spec/Logic")) (by decide)
    have F_sets_d_78 : Fld Z h78 d "com/example/orbweaver/orbweaver/synthesis/Diagrams" "sets" "[Lcom/example/orbweaver/orbweaver/synthesis/Valuations;" .null := D78 (Or.inl (own_w24 hw)) (ty := (.array (.object "com/example/orbweaver/orbweaver/synthesis/Valuations"))) (by decide)
    have F_work_d_78 : Fld Z h78 d "com/example/orbweaver/orbweaver/synthesis/Diagrams" "work" "[I" .null := D78 (Or.inl (own_w27 hw)) (ty := (.array .int)) (by decide)
    have F_results_d_78 : Fld Z h78 d "com/example/orbweaver/orbweaver/synthesis/Diagrams" "results" "[I" .null := D78 (Or.inl (own_w29 hw)) (ty := (.array .int)) (by decide)
    have F_variables_d_78 : Fld Z h78 d "com/example/orbweaver/orbweaver/synthesis/Diagrams" "variables" "I" (.int (0 : Int32)) := D78 (Or.inr (own_w31 hw)) (ty := .int) (by decide)
    have F_terms_d_78 : Fld Z h78 d "com/example/orbweaver/orbweaver/synthesis/Diagrams" "terms" "I" (.int (0 : Int32)) := D78 (Or.inr (own_w33 hw)) (ty := .int) (by decide)
    have F_limit_d_78 : Fld Z h78 d "com/example/orbweaver/orbweaver/synthesis/Diagrams" "limit" "I" (.int (0 : Int32)) := D78 (Or.inl (own_w35 hw)) (ty := .int) (by decide)
    have F_level_d_78 : Fld Z h78 d "com/example/orbweaver/orbweaver/synthesis/Diagrams" "level" "[I" .null := D78 (Or.inl (own_w37 hw)) (ty := (.array .int)) (by decide)
    have F_low_d_78 : Fld Z h78 d "com/example/orbweaver/orbweaver/synthesis/Diagrams" "low" "[I" .null := D78 (Or.inl (own_w39 hw)) (ty := (.array .int)) (by decide)
    have F_high_d_78 : Fld Z h78 d "com/example/orbweaver/orbweaver/synthesis/Diagrams" "high" "[I" .null := D78 (Or.inl (own_w41 hw)) (ty := (.array .int)) (by decide)
    have F_size_d_78 : Fld Z h78 d "com/example/orbweaver/orbweaver/synthesis/Diagrams" "size" "I" (.int (0 : Int32)) := D78 (Or.inl (own_w43 hw)) (ty := .int) (by decide)
    have F_unique_d_78 : Fld Z h78 d "com/example/orbweaver/orbweaver/synthesis/Diagrams" "unique" "[I" .null := D78 (Or.inl (own_w45 hw)) (ty := (.array .int)) (by decide)
    have F_cache_d_78 : Fld Z h78 d "com/example/orbweaver/orbweaver/synthesis/Diagrams" "cache" "[I" .null := D78 (Or.inl (own_w47 hw)) (ty := (.array .int)) (by decide)
    refine own_dup X78 hx (hb hby at_229) rfl 230 rfl ?_
    refine own_iconst X78 hx (z := (3 : Int32)) (hb hby at_230) rfl 231 rfl ?_
    refine own_iconst X78 hx (z := (3 : Int32)) (hb hby at_231) rfl 232 rfl ?_
    refine own_sipush X78 hx (z := (1000 : Int32)) (hb hby at_232) rfl 235 rfl ?_
    refine own_callI X78 hx hZ hown rfl (own_w4 hw) (own_w5 hw) (own_w3 hw) (own_w6 hw) (by decide) 1 (own_m_dinit l Z a0 hw _ n0 (3 : Int32) (3 : Int32) (1000 : Int32) B78 F_logic_d_78 F_sets_d_78 F_work_d_78 F_results_d_78 F_variables_d_78 F_terms_d_78 F_limit_d_78 F_level_d_78 F_low_d_78 F_high_d_78 F_size_d_78 F_unique_d_78 F_cache_d_78 gn_d) e78 (by rw [hml]; rfl) d [(.int (3 : Int32)), (.int (3 : Int32)), (.int (1000 : Int32))] [(.ref d)] rfl (lenOf own_pd_8 rfl) rfl (Nat.le_of_eq rfl) (by decide) (by decide) (by decide) (by decide) (hb hby at_235) N77 238 rfl (fun v79 T79 l79 X79 N79 hP79 => ?_)
    obtain ⟨rfl, Q79, K79'⟩ := hP79
    have Z0_79 := Nat.le_trans Z0_78 K79'.1
    have A_va_79 := A_va_78.keep K79' (ninS (Nat.ne_of_lt o_va_d) nin0)
    have A_vb_79 := A_vb_78.keep K79' (ninS (Nat.ne_of_lt o_vb_d) nin0)
    have B78_79 := B78.keep K79'
    obtain ⟨al, ao, ah, au, ac, aw, ar, D⟩ := Q79
    show own_G p e below _ (T79.setTop (mkF m 238 #[.val (.int p1), .val (.int p2), .val (.int p3), .val (.int p4), .val (.int i4), .val (.int i5), .val (.int i6), .val (.int i7), .val (.int i8), .val (.int (3 : Int32)), .val (.int v0), .val (.int v1), .val (.int v2), .val (.int w0), .val (.int w1), .val (.int w2), .val (.ref va), .val (.ref vb), .unset, .unset, .unset, .unset, .unset, .unset, .unset, .unset, .unset, .unset, .unset] [(.ref d)]))
    refine own_astore X79 hx (#[.val (.int p1), .val (.int p2), .val (.int p3), .val (.int p4), .val (.int i4), .val (.int i5), .val (.int i6), .val (.int i7), .val (.int i8), .val (.int (3 : Int32)), .val (.int v0), .val (.int v1), .val (.int v2), .val (.int w0), .val (.int w1), .val (.int w2), .val (.ref va), .val (.ref vb), .val (.ref d), .unset, .unset, .unset, .unset, .unset, .unset, .unset, .unset, .unset, .unset]) (hb hby at_238) rfl rfl 240 rfl ?_
    have Av : own_A Z T79.heap va .boolean 3 (own_val3 v0 v1 v2) := A_va_79.congr (fun j _ => by simp only [own_nar2 mv0, own_nar2 mv1, own_nar2 mv2]; rfl)
    have Bv : own_A Z T79.heap vb .boolean 3 (own_val3 w0 w1 w2) := A_vb_79.congr (fun j _ => by simp only [own_nar2 mw0, own_nar2 mw1, own_nar2 mw2]; rfl)
    have hF := own_law_one3 i4 i5 i6 i7 i8 v0 v1 v2 w0 w1 w2 mi4 mi5 mi6 mi7 mi8 mv0 mv1 mv2 mw0 mw1 mw2
    unfold own_f_law3 at hF
    obtain ⟨r', sz', lv', lo', hi', un', ca', wo', re', hF, hF2⟩ := own_b9_some hF
    unfold own_f_mk at hF
    refine own_aload X79 hx (hb hby at_240) rfl rfl 242 rfl ?_
    refine own_iload X79 hx (hb hby at_242) rfl 244 rfl ?_
    obtain ⟨x80, sz80, lv80, lo80, hi80, un80, g80, hF⟩ := own_b6_some hF
    refine own_callV X79 hx hZ hown (own_w52 hw) (own_w53 hw) (own_w55 hw) (own_w54 hw) (own_w3 hw) (own_w56 hw) (by decide) 0 (own_m_variable l Z a0 hw _ n0 D i4 g80) rfl (own_D_exa D) (by rw [hml]; rfl) [(.int i4)] [] rfl (lenOf own_pd_9 rfl) rfl (Nat.le_of_eq rfl) (by decide) (by decide) (by decide) (by decide) (hb hby at_244) N79 247 rfl (fun v80 T80 l80 X80 N80 hP80 => ?_)
    obtain ⟨rfl, D80, K80'⟩ := hP80
    have va_80 := Av.keep K80' (own_D_nin D o_va_d)
    have vb_80 := Bv.keep K80' (own_D_nin D o_vb_d)
    show own_G p e below _ (T80.setTop (mkF m 247 #[.val (.int p1), .val (.int p2), .val (.int p3), .val (.int p4), .val (.int i4), .val (.int i5), .val (.int i6), .val (.int i7), .val (.int i8), .val (.int (3 : Int32)), .val (.int v0), .val (.int v1), .val (.int v2), .val (.int w0), .val (.int w1), .val (.int w2), .val (.ref va), .val (.ref vb), .val (.ref d), .unset, .unset, .unset, .unset, .unset, .unset, .unset, .unset, .unset, .unset] [(.int x80)]))
    refine own_istore X80 hx (#[.val (.int p1), .val (.int p2), .val (.int p3), .val (.int p4), .val (.int i4), .val (.int i5), .val (.int i6), .val (.int i7), .val (.int i8), .val (.int (3 : Int32)), .val (.int v0), .val (.int v1), .val (.int v2), .val (.int w0), .val (.int w1), .val (.int w2), .val (.ref va), .val (.ref vb), .val (.ref d), .val (.int x80), .unset, .unset, .unset, .unset, .unset, .unset, .unset, .unset, .unset]) (hb hby at_247) rfl 249 rfl ?_
    refine own_aload X80 hx (hb hby at_249) rfl rfl 251 rfl ?_
    refine own_iload X80 hx (hb hby at_251) rfl 253 rfl ?_
    obtain ⟨x81, sz81, lv81, lo81, hi81, un81, g81, hF⟩ := own_b6_some hF
    refine own_callV X80 hx hZ hown (own_w52 hw) (own_w53 hw) (own_w55 hw) (own_w54 hw) (own_w3 hw) (own_w56 hw) (by decide) 0 (own_m_variable l Z a0 hw _ n0 D80 i5 g81) rfl (own_D_exa D80) (by rw [hml]; rfl) [(.int i5)] [] rfl (lenOf own_pd_9 rfl) rfl (Nat.le_of_eq rfl) (by decide) (by decide) (by decide) (by decide) (hb hby at_253) N80 256 rfl (fun v81 T81 l81 X81 N81 hP81 => ?_)
    obtain ⟨rfl, D81, K81'⟩ := hP81
    have va_81 := va_80.keep K81' (own_D_nin D80 o_va_d)
    have vb_81 := vb_80.keep K81' (own_D_nin D80 o_vb_d)
    show own_G p e below _ (T81.setTop (mkF m 256 #[.val (.int p1), .val (.int p2), .val (.int p3), .val (.int p4), .val (.int i4), .val (.int i5), .val (.int i6), .val (.int i7), .val (.int i8), .val (.int (3 : Int32)), .val (.int v0), .val (.int v1), .val (.int v2), .val (.int w0), .val (.int w1), .val (.int w2), .val (.ref va), .val (.ref vb), .val (.ref d), .val (.int x80), .unset, .unset, .unset, .unset, .unset, .unset, .unset, .unset, .unset] [(.int x81)]))
    refine own_istore X81 hx (#[.val (.int p1), .val (.int p2), .val (.int p3), .val (.int p4), .val (.int i4), .val (.int i5), .val (.int i6), .val (.int i7), .val (.int i8), .val (.int (3 : Int32)), .val (.int v0), .val (.int v1), .val (.int v2), .val (.int w0), .val (.int w1), .val (.int w2), .val (.ref va), .val (.ref vb), .val (.ref d), .val (.int x80), .val (.int x81), .unset, .unset, .unset, .unset, .unset, .unset, .unset, .unset]) (hb hby at_256) rfl 258 rfl ?_
    refine own_aload X81 hx (hb hby at_258) rfl rfl 260 rfl ?_
    refine own_iload X81 hx (hb hby at_260) rfl 262 rfl ?_
    obtain ⟨x82, sz82, lv82, lo82, hi82, un82, g82, hF⟩ := own_b6_some hF
    refine own_callV X81 hx hZ hown (own_w52 hw) (own_w53 hw) (own_w55 hw) (own_w54 hw) (own_w3 hw) (own_w56 hw) (by decide) 0 (own_m_variable l Z a0 hw _ n0 D81 i6 g82) rfl (own_D_exa D81) (by rw [hml]; rfl) [(.int i6)] [] rfl (lenOf own_pd_9 rfl) rfl (Nat.le_of_eq rfl) (by decide) (by decide) (by decide) (by decide) (hb hby at_262) N81 265 rfl (fun v82 T82 l82 X82 N82 hP82 => ?_)
    obtain ⟨rfl, D82, K82'⟩ := hP82
    have va_82 := va_81.keep K82' (own_D_nin D81 o_va_d)
    have vb_82 := vb_81.keep K82' (own_D_nin D81 o_vb_d)
    show own_G p e below _ (T82.setTop (mkF m 265 #[.val (.int p1), .val (.int p2), .val (.int p3), .val (.int p4), .val (.int i4), .val (.int i5), .val (.int i6), .val (.int i7), .val (.int i8), .val (.int (3 : Int32)), .val (.int v0), .val (.int v1), .val (.int v2), .val (.int w0), .val (.int w1), .val (.int w2), .val (.ref va), .val (.ref vb), .val (.ref d), .val (.int x80), .val (.int x81), .unset, .unset, .unset, .unset, .unset, .unset, .unset, .unset] [(.int x82)]))
    refine own_istore X82 hx (#[.val (.int p1), .val (.int p2), .val (.int p3), .val (.int p4), .val (.int i4), .val (.int i5), .val (.int i6), .val (.int i7), .val (.int i8), .val (.int (3 : Int32)), .val (.int v0), .val (.int v1), .val (.int v2), .val (.int w0), .val (.int w1), .val (.int w2), .val (.ref va), .val (.ref vb), .val (.ref d), .val (.int x80), .val (.int x81), .val (.int x82), .unset, .unset, .unset, .unset, .unset, .unset, .unset]) (hb hby at_265) rfl 267 rfl ?_
    refine own_aload X82 hx (hb hby at_267) rfl rfl 269 rfl ?_
    refine own_iload X82 hx (hb hby at_269) rfl 271 rfl ?_
    refine own_iload X82 hx (hb hby at_271) rfl 273 rfl ?_
    refine own_aload X82 hx (hb hby at_273) rfl rfl 275 rfl ?_
    refine own_iload X82 hx (hb hby at_275) rfl 277 rfl ?_
    refine own_iload X82 hx (hb hby at_277) rfl 279 rfl ?_
    refine own_iload X82 hx (hb hby at_279) rfl 281 rfl ?_
    obtain ⟨x83, sz83, lv83, lo83, hi83, un83, ca83, wo83, re83, g83, hF⟩ := own_b9_some hF
    refine own_callS X82 hx hZ hown (own_w66 hw) (own_w67 hw) (own_w68 hw) (own_w69 hw) (by decide) 3 (own_m_combine l Z a0 hw _ n0 D82 i8 x81 x82 g83) rfl (by rw [hml]; rfl) [(.ref d), (.int i8), (.int x81), (.int x82)] [(.int x80), (.int i7), (.ref d)] rfl (lenOf own_pd_10 rfl) rfl (Nat.le_of_eq rfl) (by decide) (by decide) (by decide) (by decide) (hb hby at_281) N82 284 rfl (fun v83 T83 l83 X83 N83 hP83 => ?_)
    obtain ⟨rfl, D83, K83'⟩ := hP83
    have va_83 := va_82.keep K83' (own_D_nin D82 o_va_d)
    have vb_83 := vb_82.keep K83' (own_D_nin D82 o_vb_d)
    show own_G p e below _ (T83.setTop (mkF m 284 #[.val (.int p1), .val (.int p2), .val (.int p3), .val (.int p4), .val (.int i4), .val (.int i5), .val (.int i6), .val (.int i7), .val (.int i8), .val (.int (3 : Int32)), .val (.int v0), .val (.int v1), .val (.int v2), .val (.int w0), .val (.int w1), .val (.int w2), .val (.ref va), .val (.ref vb), .val (.ref d), .val (.int x80), .val (.int x81), .val (.int x82), .unset, .unset, .unset, .unset, .unset, .unset, .unset] [(.int x83), (.int x80), (.int i7), (.ref d)]))
    obtain ⟨x84, sz84, lv84, lo84, hi84, un84, ca84, wo84, re84, g84, hF⟩ := own_b9_some hF
    refine own_callS X83 hx hZ hown (own_w66 hw) (own_w67 hw) (own_w68 hw) (own_w69 hw) (by decide) 0 (own_m_combine l Z a0 hw _ n0 D83 i7 x80 x83 g84) rfl (by rw [hml]; rfl) [(.ref d), (.int i7), (.int x80), (.int x83)] [] rfl (lenOf own_pd_10 rfl) rfl (Nat.le_of_eq rfl) (by decide) (by decide) (by decide) (by decide) (hb hby at_284) N83 287 rfl (fun v84 T84 l84 X84 N84 hP84 => ?_)
    obtain ⟨rfl, D84, K84'⟩ := hP84
    have va_84 := va_83.keep K84' (own_D_nin D83 o_va_d)
    have vb_84 := vb_83.keep K84' (own_D_nin D83 o_vb_d)
    show own_G p e below _ (T84.setTop (mkF m 287 #[.val (.int p1), .val (.int p2), .val (.int p3), .val (.int p4), .val (.int i4), .val (.int i5), .val (.int i6), .val (.int i7), .val (.int i8), .val (.int (3 : Int32)), .val (.int v0), .val (.int v1), .val (.int v2), .val (.int w0), .val (.int w1), .val (.int w2), .val (.ref va), .val (.ref vb), .val (.ref d), .val (.int x80), .val (.int x81), .val (.int x82), .unset, .unset, .unset, .unset, .unset, .unset, .unset] [(.int x84)]))
    refine own_istore X84 hx (#[.val (.int p1), .val (.int p2), .val (.int p3), .val (.int p4), .val (.int i4), .val (.int i5), .val (.int i6), .val (.int i7), .val (.int i8), .val (.int (3 : Int32)), .val (.int v0), .val (.int v1), .val (.int v2), .val (.int w0), .val (.int w1), .val (.int w2), .val (.ref va), .val (.ref vb), .val (.ref d), .val (.int x80), .val (.int x81), .val (.int x82), .val (.int x84), .unset, .unset, .unset, .unset, .unset, .unset]) (hb hby at_287) rfl 289 rfl ?_
    obtain ⟨q1, q2, q3, q4, q5, q6, q7, q8, q9⟩ := own_inj9 hF
    subst q1 q2 q3 q4 q5 q6 q7 q8 q9
    replace hF := hF2
    unfold own_f_tail3 at hF
    refine own_aload X84 hx (hb hby at_289) rfl rfl 291 rfl ?_
    refine own_iload X84 hx (hb hby at_291) rfl 293 rfl ?_
    refine own_aload X84 hx (hb hby at_293) rfl rfl 295 rfl ?_
    obtain ⟨x85, g85, hF⟩ := own_b1_some hF
    refine own_callV X84 hx hZ hown (own_w87 hw) (own_w88 hw) (own_w90 hw) (own_w89 hw) (own_w3 hw) (own_w91 hw) (by decide) 0 (own_m_given l Z a0 hw _ n0 D84 va_84 x84 g85) rfl (own_D_exa D84) (by rw [hml]; rfl) [(.int x84), (.ref va)] [] rfl (lenOf own_pd_11 rfl) rfl (Nat.le_of_eq rfl) (by decide) (by decide) (by decide) (by decide) (hb hby at_295) N84 298 rfl (fun v85 T85 l85 X85 N85 hP85 => ?_)
    obtain ⟨rfl, e85⟩ := hP85
    show own_G p e below _ (T85.setTop (mkF m 298 #[.val (.int p1), .val (.int p2), .val (.int p3), .val (.int p4), .val (.int i4), .val (.int i5), .val (.int i6), .val (.int i7), .val (.int i8), .val (.int (3 : Int32)), .val (.int v0), .val (.int v1), .val (.int v2), .val (.int w0), .val (.int w1), .val (.int w2), .val (.ref va), .val (.ref vb), .val (.ref d), .val (.int x80), .val (.int x81), .val (.int x82), .val (.int x84), .unset, .unset, .unset, .unset, .unset, .unset] [(.int x85)]))
    refine own_istore X85 hx (#[.val (.int p1), .val (.int p2), .val (.int p3), .val (.int p4), .val (.int i4), .val (.int i5), .val (.int i6), .val (.int i7), .val (.int i8), .val (.int (3 : Int32)), .val (.int v0), .val (.int v1), .val (.int v2), .val (.int w0), .val (.int w1), .val (.int w2), .val (.ref va), .val (.ref vb), .val (.ref d), .val (.int x80), .val (.int x81), .val (.int x82), .val (.int x84), .val (.int x85), .unset, .unset, .unset, .unset, .unset]) (hb hby at_298) rfl 300 rfl ?_
    refine own_aload X85 hx (hb hby at_300) rfl rfl 302 rfl ?_
    refine own_iload X85 hx (hb hby at_302) rfl 304 rfl ?_
    refine own_aload X85 hx (hb hby at_304) rfl rfl 306 rfl ?_
    obtain ⟨x86, g86, hF⟩ := own_b1_some hF
    refine own_callV X85 hx hZ hown (own_w92 hw) (own_w93 hw) (own_w95 hw) (own_w94 hw) (own_w3 hw) (own_w96 hw) (by decide) 0 (own_m_holds l Z a0 hw _ n0 D84 vb_84 x85 g86) e85 (own_D_exa D84) (by rw [hml]; rfl) [(.int x85), (.ref vb)] [] rfl (lenOf own_pd_12 rfl) rfl (Nat.le_of_eq rfl) (by decide) (by decide) (by decide) (by decide) (hb hby at_306) N85 309 rfl (fun v86 T86 l86 X86 N86 hP86 => ?_)
    obtain ⟨rfl, e86⟩ := hP86
    show own_G p e below _ (T86.setTop (mkF m 309 #[.val (.int p1), .val (.int p2), .val (.int p3), .val (.int p4), .val (.int i4), .val (.int i5), .val (.int i6), .val (.int i7), .val (.int i8), .val (.int (3 : Int32)), .val (.int v0), .val (.int v1), .val (.int v2), .val (.int w0), .val (.int w1), .val (.int w2), .val (.ref va), .val (.ref vb), .val (.ref d), .val (.int x80), .val (.int x81), .val (.int x82), .val (.int x84), .val (.int x85), .unset, .unset, .unset, .unset, .unset] [(.int x86)]))
    refine own_istore X86 hx (#[.val (.int p1), .val (.int p2), .val (.int p3), .val (.int p4), .val (.int i4), .val (.int i5), .val (.int i6), .val (.int i7), .val (.int i8), .val (.int (3 : Int32)), .val (.int v0), .val (.int v1), .val (.int v2), .val (.int w0), .val (.int w1), .val (.int w2), .val (.ref va), .val (.ref vb), .val (.ref d), .val (.int x80), .val (.int x81), .val (.int x82), .val (.int x84), .val (.int x85), .val (.int x86), .unset, .unset, .unset, .unset]) (hb hby at_309) rfl 311 rfl ?_
    refine own_iload X86 hx (hb hby at_311) rfl 313 rfl ?_
    refine own_ifcF X86 hx (hb hby at_313) (tlt (by decide)).2.2.2 316 rfl ?_
    refine own_iload X86 hx (hb hby at_316) rfl 318 rfl ?_
    refine own_goto X86 hx (hb hby at_318) 323 (by decide) (by decide) ?_
    refine own_istore X86 hx (#[.val (.int p1), .val (.int p2), .val (.int p3), .val (.int p4), .val (.int i4), .val (.int i5), .val (.int i6), .val (.int i7), .val (.int i8), .val (.int (3 : Int32)), .val (.int v0), .val (.int v1), .val (.int v2), .val (.int w0), .val (.int w1), .val (.int w2), .val (.ref va), .val (.ref vb), .val (.ref d), .val (.int x80), .val (.int x81), .val (.int x82), .val (.int x84), .val (.int x85), .val (.int x86), .val (.int v0), .unset, .unset, .unset]) (hb hby at_323) rfl 325 rfl ?_
    refine own_iload X86 hx (hb hby at_325) rfl 327 rfl ?_
    refine own_iconst X86 hx (z := (1 : Int32)) (hb hby at_327) rfl 328 rfl ?_
    refine own_icmpF X86 hx (hb hby at_328) (tlt (by decide)).2.2.2 331 rfl ?_
    refine own_iload X86 hx (hb hby at_331) rfl 333 rfl ?_
    refine own_goto X86 hx (hb hby at_333) 338 (by decide) (by decide) ?_
    refine own_istore X86 hx (#[.val (.int p1), .val (.int p2), .val (.int p3), .val (.int p4), .val (.int i4), .val (.int i5), .val (.int i6), .val (.int i7), .val (.int i8), .val (.int (3 : Int32)), .val (.int v0), .val (.int v1), .val (.int v2), .val (.int w0), .val (.int w1), .val (.int w2), .val (.ref va), .val (.ref vb), .val (.ref d), .val (.int x80), .val (.int x81), .val (.int x82), .val (.int x84), .val (.int x85), .val (.int x86), .val (.int v0), .val (.int v1), .unset, .unset]) (hb hby at_338) rfl 340 rfl ?_
    refine own_iload X86 hx (hb hby at_340) rfl 342 rfl ?_
    refine own_iconst X86 hx (z := (2 : Int32)) (hb hby at_342) rfl 343 rfl ?_
    refine own_icmpF X86 hx (hb hby at_343) (tlt (by decide)).2.2.2 346 rfl ?_
    refine own_iload X86 hx (hb hby at_346) rfl 348 rfl ?_
    refine own_goto X86 hx (hb hby at_348) 353 (by decide) (by decide) ?_
    refine own_istore X86 hx (#[.val (.int p1), .val (.int p2), .val (.int p3), .val (.int p4), .val (.int i4), .val (.int i5), .val (.int i6), .val (.int i7), .val (.int i8), .val (.int (3 : Int32)), .val (.int v0), .val (.int v1), .val (.int v2), .val (.int w0), .val (.int w1), .val (.int w2), .val (.ref va), .val (.ref vb), .val (.ref d), .val (.int x80), .val (.int x81), .val (.int x82), .val (.int x84), .val (.int x85), .val (.int x86), .val (.int v0), .val (.int v1), .val (.int v2), .unset]) (hb hby at_353) rfl 355 rfl ?_
    refine own_iload X86 hx (hb hby at_355) rfl 357 rfl ?_
    refine own_iload X86 hx (hb hby at_357) rfl 359 rfl ?_
    refine own_iload X86 hx (hb hby at_359) rfl 361 rfl ?_
    refine own_iload X86 hx (hb hby at_361) rfl 363 rfl ?_
    refine own_iload X86 hx (hb hby at_363) rfl 365 rfl ?_
    refine own_callS X86 hx hZ hown (own_w97 hw) (own_w98 hw) (own_w68 hw) (own_w99 hw) (by decide) 1 (own_m_pick l Z a0 hw _ n0 i4 v0 v1 v2 rfl) e86 (by rw [hml]; rfl) [(.int i4), (.int v0), (.int v1), (.int v2)] [(.int i7)] rfl (lenOf own_pd_13 rfl) rfl (Nat.le_of_eq rfl) (by decide) (by decide) (by decide) (by decide) (hb hby at_365) N86 368 rfl (fun v87 T87 l87 X87 N87 hP87 => ?_)
    obtain ⟨rfl, e87⟩ := hP87
    show own_G p e below _ (T87.setTop (mkF m 368 #[.val (.int p1), .val (.int p2), .val (.int p3), .val (.int p4), .val (.int i4), .val (.int i5), .val (.int i6), .val (.int i7), .val (.int i8), .val (.int (3 : Int32)), .val (.int v0), .val (.int v1), .val (.int v2), .val (.int w0), .val (.int w1), .val (.int w2), .val (.ref va), .val (.ref vb), .val (.ref d), .val (.int x80), .val (.int x81), .val (.int x82), .val (.int x84), .val (.int x85), .val (.int x86), .val (.int v0), .val (.int v1), .val (.int v2), .unset] [(.int (own_f_pick i4 v0 v1 v2)), (.int i7)]))
    refine own_iload X87 hx (hb hby at_368) rfl 370 rfl ?_
    refine own_iload X87 hx (hb hby at_370) rfl 372 rfl ?_
    refine own_iload X87 hx (hb hby at_372) rfl 374 rfl ?_
    refine own_iload X87 hx (hb hby at_374) rfl 376 rfl ?_
    refine own_iload X87 hx (hb hby at_376) rfl 378 rfl ?_
    refine own_callS X87 hx hZ hown (own_w97 hw) (own_w98 hw) (own_w68 hw) (own_w99 hw) (by decide) 3 (own_m_pick l Z a0 hw _ n0 i5 v0 v1 v2 rfl) e87 (by rw [hml]; rfl) [(.int i5), (.int v0), (.int v1), (.int v2)] [(.int i8), (.int (own_f_pick i4 v0 v1 v2)), (.int i7)] rfl (lenOf own_pd_13 rfl) rfl (Nat.le_of_eq rfl) (by decide) (by decide) (by decide) (by decide) (hb hby at_378) N87 381 rfl (fun v88 T88 l88 X88 N88 hP88 => ?_)
    obtain ⟨rfl, e88⟩ := hP88
    show own_G p e below _ (T88.setTop (mkF m 381 #[.val (.int p1), .val (.int p2), .val (.int p3), .val (.int p4), .val (.int i4), .val (.int i5), .val (.int i6), .val (.int i7), .val (.int i8), .val (.int (3 : Int32)), .val (.int v0), .val (.int v1), .val (.int v2), .val (.int w0), .val (.int w1), .val (.int w2), .val (.ref va), .val (.ref vb), .val (.ref d), .val (.int x80), .val (.int x81), .val (.int x82), .val (.int x84), .val (.int x85), .val (.int x86), .val (.int v0), .val (.int v1), .val (.int v2), .unset] [(.int (own_f_pick i5 v0 v1 v2)), (.int i8), (.int (own_f_pick i4 v0 v1 v2)), (.int i7)]))
    refine own_iload X88 hx (hb hby at_381) rfl 383 rfl ?_
    refine own_iload X88 hx (hb hby at_383) rfl 385 rfl ?_
    refine own_iload X88 hx (hb hby at_385) rfl 387 rfl ?_
    refine own_iload X88 hx (hb hby at_387) rfl 389 rfl ?_
    refine own_callS X88 hx hZ hown (own_w97 hw) (own_w98 hw) (own_w68 hw) (own_w99 hw) (by decide) 4 (own_m_pick l Z a0 hw _ n0 i6 v0 v1 v2 rfl) e88 (by rw [hml]; rfl) [(.int i6), (.int v0), (.int v1), (.int v2)] [(.int (own_f_pick i5 v0 v1 v2)), (.int i8), (.int (own_f_pick i4 v0 v1 v2)), (.int i7)] rfl (lenOf own_pd_13 rfl) rfl (Nat.le_of_eq rfl) (by decide) (by decide) (by decide) (by decide) (hb hby at_389) N88 392 rfl (fun v89 T89 l89 X89 N89 hP89 => ?_)
    obtain ⟨rfl, e89⟩ := hP89
    show own_G p e below _ (T89.setTop (mkF m 392 #[.val (.int p1), .val (.int p2), .val (.int p3), .val (.int p4), .val (.int i4), .val (.int i5), .val (.int i6), .val (.int i7), .val (.int i8), .val (.int (3 : Int32)), .val (.int v0), .val (.int v1), .val (.int v2), .val (.int w0), .val (.int w1), .val (.int w2), .val (.ref va), .val (.ref vb), .val (.ref d), .val (.int x80), .val (.int x81), .val (.int x82), .val (.int x84), .val (.int x85), .val (.int x86), .val (.int v0), .val (.int v1), .val (.int v2), .unset] [(.int (own_f_pick i6 v0 v1 v2)), (.int (own_f_pick i5 v0 v1 v2)), (.int i8), (.int (own_f_pick i4 v0 v1 v2)), (.int i7)]))
    refine own_callS X89 hx hZ hown (own_w100 hw) (own_w101 hw) (own_w68 hw) (own_w102 hw) (by decide) 2 (own_m_op l Z a0 hw _ n0 i8 (own_f_pick i5 v0 v1 v2) (own_f_pick i6 v0 v1 v2) rfl) e89 (by rw [hml]; rfl) [(.int i8), (.int (own_f_pick i5 v0 v1 v2)), (.int (own_f_pick i6 v0 v1 v2))] [(.int (own_f_pick i4 v0 v1 v2)), (.int i7)] rfl (lenOf own_pd_14 rfl) rfl (Nat.le_of_eq rfl) (by decide) (by decide) (by decide) (by decide) (hb hby at_392) N89 395 rfl (fun v90 T90 l90 X90 N90 hP90 => ?_)
    obtain ⟨rfl, e90⟩ := hP90
    show own_G p e below _ (T90.setTop (mkF m 395 #[.val (.int p1), .val (.int p2), .val (.int p3), .val (.int p4), .val (.int i4), .val (.int i5), .val (.int i6), .val (.int i7), .val (.int i8), .val (.int (3 : Int32)), .val (.int v0), .val (.int v1), .val (.int v2), .val (.int w0), .val (.int w1), .val (.int w2), .val (.ref va), .val (.ref vb), .val (.ref d), .val (.int x80), .val (.int x81), .val (.int x82), .val (.int x84), .val (.int x85), .val (.int x86), .val (.int v0), .val (.int v1), .val (.int v2), .unset] [(.int (own_f_op i8 (own_f_pick i5 v0 v1 v2) (own_f_pick i6 v0 v1 v2))), (.int (own_f_pick i4 v0 v1 v2)), (.int i7)]))
    refine own_callS X90 hx hZ hown (own_w100 hw) (own_w101 hw) (own_w68 hw) (own_w102 hw) (by decide) 0 (own_m_op l Z a0 hw _ n0 i7 (own_f_pick i4 v0 v1 v2) (own_f_op i8 (own_f_pick i5 v0 v1 v2) (own_f_pick i6 v0 v1 v2)) rfl) e90 (by rw [hml]; rfl) [(.int i7), (.int (own_f_pick i4 v0 v1 v2)), (.int (own_f_op i8 (own_f_pick i5 v0 v1 v2) (own_f_pick i6 v0 v1 v2)))] [] rfl (lenOf own_pd_14 rfl) rfl (Nat.le_of_eq rfl) (by decide) (by decide) (by decide) (by decide) (hb hby at_395) N90 398 rfl (fun v91 T91 l91 X91 N91 hP91 => ?_)
    obtain ⟨rfl, e91⟩ := hP91
    show own_G p e below _ (T91.setTop (mkF m 398 #[.val (.int p1), .val (.int p2), .val (.int p3), .val (.int p4), .val (.int i4), .val (.int i5), .val (.int i6), .val (.int i7), .val (.int i8), .val (.int (3 : Int32)), .val (.int v0), .val (.int v1), .val (.int v2), .val (.int w0), .val (.int w1), .val (.int w2), .val (.ref va), .val (.ref vb), .val (.ref d), .val (.int x80), .val (.int x81), .val (.int x82), .val (.int x84), .val (.int x85), .val (.int x86), .val (.int v0), .val (.int v1), .val (.int v2), .unset] [(.int (own_f_op i7 (own_f_pick i4 v0 v1 v2) (own_f_op i8 (own_f_pick i5 v0 v1 v2) (own_f_pick i6 v0 v1 v2))))]))
    refine own_istore X91 hx (#[.val (.int p1), .val (.int p2), .val (.int p3), .val (.int p4), .val (.int i4), .val (.int i5), .val (.int i6), .val (.int i7), .val (.int i8), .val (.int (3 : Int32)), .val (.int v0), .val (.int v1), .val (.int v2), .val (.int w0), .val (.int w1), .val (.int w2), .val (.ref va), .val (.ref vb), .val (.ref d), .val (.int x80), .val (.int x81), .val (.int x82), .val (.int x84), .val (.int x85), .val (.int x86), .val (.int v0), .val (.int v1), .val (.int v2), .val (.int (own_f_op i7 (own_f_pick i4 v0 v1 v2) (own_f_op i8 (own_f_pick i5 v0 v1 v2) (own_f_pick i6 v0 v1 v2))))]) (hb hby at_398) rfl 400 rfl ?_
    refine own_iload X91 hx (hb hby at_400) rfl 402 rfl ?_
    refine own_iload X91 hx (hb hby at_402) rfl 404 rfl ?_
    by_cases hc92 : x86 = (own_f_op i7 (own_f_pick i4 v0 v1 v2) (own_f_op i8 (own_f_pick i5 v0 v1 v2) (own_f_pick i6 v0 v1 v2)))
    · replace hF := own_ifT hc92 hF
      refine own_icmpF X91 hx (hb hby at_404) (teq hc92).2 407 rfl ?_
      refine own_iconst X91 hx (z := (1 : Int32)) (hb hby at_407) rfl 408 rfl ?_
      refine own_goto X91 hx (hb hby at_408) 412 (by decide) (by decide) ?_
      exact own_retN X91 hx hret (Or.inl rfl) hlk (hb hby at_412) (by decide) (by decide) N91 e91 rfl
    · replace hF := own_ifF hc92 hF
      refine own_icmpT X91 hx (hb hby at_404) (feq hc92).2 411 (by decide) (by decide) ?_
      refine own_iconst X91 hx (z := (0 : Int32)) (hb hby at_411) rfl 412 rfl ?_
      exact absurd hF (by decide)
set_option maxRecDepth 65536 in
set_option maxHeartbeats 40000000 in
theorem own_comes {Post : Tables → Env → Array Value → State → Outcome → State → Prop} (hpost : ∀ tb e args s v u, (limb_1_1.after args s (.returned v) u = true ∧ limb_1_2.after args s (.returned v) u = true ∧ True) → FrameEnd s (.returned v) u (Jvm.fieldLocs frame_1_writes args s ++ Jvm.arrayLocs frame_1_arrays args s ++ Jvm.staticLocs frame_1_statics s) 32 82816 → Post tb e args s (.returned v) u) :
    ArmFor flags0 classFile x code maxLocals ret World_1 tables_1 room_1 Calls_1 rest_1 Pre_1 Post := by
  intro l hfl _ _ p e ha hc hk s m args below hf hA hF happ hP
  obtain ⟨hcalls, hrest, hpre⟩ := hP
  obtain ⟨-, -, -, hnamed, -, -, -, hat⟩ := (Spec.applies_iff hf).mp happ
  obtain ⟨hg, hn⟩ := and_e (Cond.before_iff.mp (show (Jvm.Cond.and given_1 narrow_1).before args s = true from hpre))
  obtain ⟨g0, q0⟩ := and_e hg
  obtain ⟨g1, q1⟩ := and_e q0
  obtain ⟨g2, q2⟩ := and_e q1
  obtain ⟨g3, q3⟩ := and_e q2
  obtain ⟨w0, w1, w2, w3, rfl⟩ : ∃ w0 w1 w2 w3 : Value, args = #[w0, w1, w2, w3] := by
    have hs : args.size = 4 := by simpa [Cond.value, given_1] using g0
    obtain ⟨L⟩ := args
    match L, hs with
    | [w0, w1, w2, w3], _ => exact ⟨w0, w1, w2, w3, rfl⟩
  have hw := fun d (hd : d ∈ tables_1) => atoms_spec (ws := Jvm.Cond.code x code maxLocals ret :: tables_1) hat d (List.mem_cons_of_mem _ hd)
  obtain ⟨i0, z0⟩ := is_v g1
  obtain rfl : w0 = (.int i0) := Option.some.inj z0
  obtain ⟨i1, z1⟩ := is_v g2
  obtain rfl : w1 = (.int i1) := Option.some.inj z1
  obtain ⟨i2, z2⟩ := is_v g3
  obtain rfl : w2 = (.int i2) := Option.some.inj z2
  obtain ⟨i3, z3⟩ := is_v q3
  obtain rfl : w3 = (.int i3) := Option.some.inj z3
  obtain ⟨n, o, h1, h2, h3, v, L, rfl, ⟨N, rfl⟩, hq⟩ := own_m_law l s _ hw s.heap s.heap.size (Nat.le_refl _) i0 i1 i2 i3 p e ha hc hk s m _ below hf ((Spec.applies_iff_loose hf).mp happ).1 ⟨rfl, State.Warmed39.refl s, rfl⟩ trivial
  exact ⟨n, _, h1, h2, h3, hpost _ _ _ _ _ _ ⟨Cond.after_iff.mpr rfl, Cond.after_iff.mpr (eq_i res_at (Term.int_eval (1)) rfl), trivial⟩ ⟨hq.1, hq.2.1, (hq.2.2.sift fun y hy => Or.inr (N y hy)).mono (by decide) (by decide)⟩⟩
theorem main_1_1 : Claimed_1_1 := own_comes fun _ _ _ _ _ _ h hF => ⟨h.1, hF⟩
theorem main_1_2 : Claimed_1_2 := own_comes fun _ _ _ _ _ _ h hF => ⟨h.2.1, hF⟩
end Jvm.Pilot.@@N@@
namespace Jvm.Pilot.@@N@@
open Jvm Jvm.ClassFile Sem Op Lib Jvm.Free Jvm.Stand Jvm.Pilot.@@N@@.Jvm.D
/-! MADE BY PROGRAM (witnessworld.py) out of the Statement's table words and the real class files: 17 classes; the members and pool entries that the words name. The judged class is class 1, her method 1. -/
namespace start1
open Jvm.ClassFile
def u (s : String) : CpInfo := .utf8 (stringToUtf16 s)
/-- a pool by its gaps: so many unusable entries, then the entry; so many at the end -/
def gap : Nat → List CpInfo → List CpInfo
  | 0, r => r
  | n + 1, r => .unusable :: gap n r
def poolList (es : List (Nat × CpInfo)) (last : Nat) : List CpInfo := es.foldr (fun e r => gap e.1 (e.2 :: r)) (gap last [])
def pool (es : List (Nat × CpInfo)) (last : Nat) : Array CpInfo := ⟨poolList es last⟩
def fileOf (pool : Array CpInfo) (this : Nat) (attrs : Array Attribute := #[]) (ms : Array MethodInfo := #[]) (fl : Nat := 33) (sup : Nat := 0) (ifs : Array Nat := #[]) (fds : Array FieldInfo := #[]) : ClassFile where
  minorVersion := 0
  majorVersion := 65
  constantPool := pool
  accessFlags := fl
  thisClass := this
  superClass := sup
  interfaces := ifs
  fields := fds
  methods := ms
  attributes := attrs
def plain (name : String) (sup : Option ClassId) : Class where
  name := name
  kind := .ordinary
  loader := none
  accessFlags := 33
  super := sup
  interfaces := #[]
  cf := none
  fields := #[]
  methods := #[]
  instanceTypes := #[]
  staticTypes := #[]
  resolved := #[]
  callSites := []
  init := .initialized
  statics := none
  mirror := none

def pool0 : Array CpInfo := pool [(5, u "<init>"), (0, u "()V"), (1, .class_ 10), (1, u "java/lang/Object")] 113

def k0c0 : Code := { maxStack := 0, maxLocals := 1, code := object_method_1_code, exceptionTable := #[], attributes := #[] }
def k0m0 : Method := { name := "<init>", desc := "()V", sig := { parameters := [], returnType := none }, accessFlags := 1, code := some k0c0 }
/-- java/lang/Object -/
def k0 : Class := { plain "java/lang/Object" none with
  accessFlags := 33
  interfaces := #[]
  cf := some (fileOf pool0 8 #[] #[{ accessFlags := 1, nameIndex := 5, descriptorIndex := 6, attributes := #[] }] 33 0 #[] #[])
  fields := #[]
  methods := #[k0m0]
  instanceTypes := #[]
  staticTypes := #[]
  resolved := Array.replicate 124 none
  statics := none }

def pool1 : Array CpInfo := pool [(2, .class_ 4), (1, u "java/lang/Object"), (0, u "<init>"), (0, u "()V"), (0, .class_ 8), (0, u "com/example/orbweaver/orbweaver/synthesis/Diagrams"), (0, .methodref 7 10), (0, .nameAndType 5 11), (0, u "(III)V"), (0, .methodref 7 13), (0, .nameAndType 14 15), (0, u "variable"), (0, u "(I)I"), (0, .methodref 17 18), (0, .class_ 19), (0, .nameAndType 20 21), (0, u "com/example/orbweaver/orbweaver/synthesis/DiagramsGivenPinLaw"), (0, u "combine"), (0, u "(Lcom/example/orbweaver/orbweaver/synthesis/Diagrams;III)I"), (0, .methodref 7 23), (0, .nameAndType 24 25), (0, u "given"), (0, u "(I[Z)I"), (0, .methodref 7 27), (0, .nameAndType 28 29), (0, u "holds"), (0, u "(I[Z)Z"), (0, .methodref 17 31), (0, .nameAndType 32 33), (0, u "pick"), (0, u "(IZZZ)Z"), (0, .methodref 17 35), (0, .nameAndType 36 37), (0, u "op"), (0, u "(IZZ)Z"), (0, .methodref 7 39), (0, .nameAndType 40 41), (0, u "and"), (0, u "(II)I"), (0, .methodref 7 43), (0, .nameAndType 44 41), (0, u "or"), (0, .methodref 7 46), (0, .nameAndType 47 41), (0, u "iff"), (2, u "law"), (0, u "(IIII)Z")] 5

def k1m0 : Method := { name := "<init>", desc := "()V", sig := { parameters := [], returnType := none }, accessFlags := 2, code := none }
def k1c1 : Code := { maxStack := 8, maxLocals := 29, code := code, exceptionTable := #[], attributes := #[] }
def k1m1 : Method := { name := "law", desc := "(IIII)Z", sig := { parameters := [.int, .int, .int, .int], returnType := some .boolean }, accessFlags := 9, code := some k1c1 }
def k1c2 : Code := { maxStack := 3, maxLocals := 4, code := method_3_code, exceptionTable := #[], attributes := #[] }
def k1m2 : Method := { name := "combine", desc := "(Lcom/example/orbweaver/orbweaver/synthesis/Diagrams;III)I", sig := { parameters := [(.object "com/example/orbweaver/orbweaver/synthesis/Diagrams"), .int, .int, .int], returnType := some .int }, accessFlags := 10, code := some k1c2 }
def k1c3 : Code := { maxStack := 2, maxLocals := 3, code := method_4_code, exceptionTable := #[], attributes := #[] }
def k1m3 : Method := { name := "op", desc := "(IZZ)Z", sig := { parameters := [.int, .boolean, .boolean], returnType := some .boolean }, accessFlags := 10, code := some k1c3 }
def k1c4 : Code := { maxStack := 2, maxLocals := 4, code := method_5_code, exceptionTable := #[], attributes := #[] }
def k1m4 : Method := { name := "pick", desc := "(IZZZ)Z", sig := { parameters := [.int, .boolean, .boolean, .boolean], returnType := some .boolean }, accessFlags := 10, code := some k1c4 }
/-- com/example/orbweaver/orbweaver/synthesis/DiagramsGivenPinLaw -/
def k1 : Class := { plain "com/example/orbweaver/orbweaver/synthesis/DiagramsGivenPinLaw" (some 0) with
  accessFlags := 49
  interfaces := #[]
  cf := some (fileOf pool1 17 #[] #[{ accessFlags := 2, nameIndex := 5, descriptorIndex := 6, attributes := #[] }, { accessFlags := 9, nameIndex := 50, descriptorIndex := 51, attributes := #[] }, { accessFlags := 10, nameIndex := 20, descriptorIndex := 21, attributes := #[] }, { accessFlags := 10, nameIndex := 36, descriptorIndex := 37, attributes := #[] }, { accessFlags := 10, nameIndex := 32, descriptorIndex := 33, attributes := #[] }] 49 2 #[] #[])
  fields := #[]
  methods := #[k1m0, k1m1, k1m2, k1m3, k1m4]
  instanceTypes := #[]
  staticTypes := #[]
  resolved := Array.replicate 57 none
  statics := none }

def pool2 : Array CpInfo := pool [(2, .class_ 4), (1, u "com/example/orbweaver/orbweaver/synthesis/Diagrams"), (0, u "<init>"), (0, u "(III)V"), (0, .methodref 8 9), (0, .class_ 10), (0, .nameAndType 5 11), (0, u "java/lang/Object"), (0, u "()V"), (0, .class_ 13), (0, u "com/example/orbweaver/orbweaver/synthesis/Diagrams$1"), (0, .methodref 12 15), (0, .nameAndType 5 16), (0, u "(Lcom/example/orbweaver/orbweaver/synthesis/Diagrams;)V"), (0, .fieldref 2 18), (0, .nameAndType 19 20), (0, u "logic"), (0, u "Lcom/example/orbweaver/orbweaver/spec/Logic;"), (0, .class_ 22), (0, u "com/example/orbweaver/orbweaver/synthesis/Valuations"), (0, .fieldref 2 24), (0, .nameAndType 25 26), (0, u "sets"), (0, u "[Lcom/example/orbweaver/orbweaver/synthesis/Valuations;"), (0, .fieldref 2 28), (0, .nameAndType 29 30), (0, u "work"), (0, u "[I"), (0, .fieldref 2 32), (0, .nameAndType 33 30), (0, u "results"), (0, .fieldref 2 35), (0, .nameAndType 36 37), (0, u "variables"), (0, u "I"), (0, .fieldref 2 39), (0, .nameAndType 40 37), (0, u "terms"), (0, .fieldref 2 42), (0, .nameAndType 43 37), (0, u "limit"), (0, .fieldref 2 45), (0, .nameAndType 46 30), (0, u "level"), (0, .fieldref 2 48), (0, .nameAndType 49 30), (0, u "low"), (0, .fieldref 2 51), (0, .nameAndType 52 30), (0, u "high"), (0, .fieldref 2 54), (0, .nameAndType 55 37), (0, u "size"), (0, .fieldref 2 57), (0, .nameAndType 58 30), (0, u "unique"), (0, .fieldref 2 60), (0, .nameAndType 61 30), (0, u "cache"), (0, .methodref 63 64), (0, .class_ 65), (0, .nameAndType 66 67), (0, u "java/util/Arrays"), (0, u "fill"), (0, u "([II)V"), (11, .methodref 2 80), (0, .nameAndType 81 82), (0, u "node"), (0, u "(III)I"), (2, u "iff"), (0, u "(II)I"), (0, .methodref 2 88), (0, .nameAndType 89 82), (0, u "apply"), (3, u "(I)I"), (2, u "and"), (0, .methodref 2 98), (0, .nameAndType 99 100), (0, u "push"), (0, u "(IIIIII)I"), (0, .methodref 2 102), (0, .nameAndType 103 82), (0, u "decided"), (0, .methodref 2 105), (0, .nameAndType 106 82), (0, u "cached"), (0, .methodref 2 108), (0, .nameAndType 109 110), (0, u "descend"), (0, u "(IIII)I"), (0, .methodref 2 112), (0, .nameAndType 113 114), (0, u "remember"), (0, u "(IIII)V"), (3, .methodref 119 120), (0, .class_ 121), (0, .nameAndType 122 86), (0, u "java/lang/Math"), (0, u "min"), (0, .methodref 2 124), (0, .nameAndType 125 126), (0, u "cofactor"), (0, u "(IIZ)I"), (33, u "or"), (82, .class_ 244), (0, u "com/example/orbweaver/orbweaver/synthesis/Diagrams$Valuation"), (6, .methodref 2 252), (0, .nameAndType 253 82), (0, u "hash"), (0, .class_ 255), (0, u "com/example/orbweaver/orbweaver/synthesis/Diagrams$TooLarge"), (3, .integer 2654435761), (0, .integer 2246822519), (0, u "FALSE"), (2, u "TRUE"), (1, u "AND"), (0, u "OR"), (0, u "IFF"), (1, u "RESTRICT"), (1, u "UNDECIDED"), (1, u "TO_DO"), (0, u "ENTRY"), (1, u "INITIAL_CAPACITY"), (12, u "variable"), (3, u "(I[Z)I"), (10, u "given"), (0, u "holds"), (0, u "(I[Z)Z")] 11

def k2c0 : Code := { maxStack := 4, maxLocals := 4, code := prog_81_method_2_code, exceptionTable := #[], attributes := #[] }
def k2m0 : Method := { name := "<init>", desc := "(III)V", sig := { parameters := [.int, .int, .int], returnType := none }, accessFlags := 0, code := some k2c0 }
def k2c1 : Code := { maxStack := 4, maxLocals := 2, code := prog_81_method_8_code, exceptionTable := #[], attributes := #[] }
def k2m1 : Method := { name := "variable", desc := "(I)I", sig := { parameters := [.int], returnType := some .int }, accessFlags := 0, code := some k2c1 }
def k2c2 : Code := { maxStack := 4, maxLocals := 3, code := prog_81_method_10_code, exceptionTable := #[], attributes := #[] }
def k2m2 : Method := { name := "and", desc := "(II)I", sig := { parameters := [.int, .int], returnType := some .int }, accessFlags := 0, code := some k2c2 }
def k2c3 : Code := { maxStack := 4, maxLocals := 3, code := prog_81_method_11_code, exceptionTable := #[], attributes := #[] }
def k2m3 : Method := { name := "or", desc := "(II)I", sig := { parameters := [.int, .int], returnType := some .int }, accessFlags := 0, code := some k2c3 }
def k2c4 : Code := { maxStack := 4, maxLocals := 3, code := prog_81_method_12_code, exceptionTable := #[], attributes := #[] }
def k2m4 : Method := { name := "iff", desc := "(II)I", sig := { parameters := [.int, .int], returnType := some .int }, accessFlags := 0, code := some k2c4 }
def k2c5 : Code := { maxStack := 7, maxLocals := 13, code := prog_81_method_15_code, exceptionTable := #[], attributes := #[] }
def k2m5 : Method := { name := "apply", desc := "(III)I", sig := { parameters := [.int, .int, .int], returnType := some .int }, accessFlags := 2, code := some k2c5 }
def k2c6 : Code := { maxStack := 7, maxLocals := 13, code := prog_81_method_16_code, exceptionTable := #[], attributes := #[] }
def k2m6 : Method := { name := "descend", desc := "(IIII)I", sig := { parameters := [.int, .int, .int, .int], returnType := some .int }, accessFlags := 2, code := some k2c6 }
def k2c7 : Code := { maxStack := 4, maxLocals := 7, code := prog_81_method_17_code, exceptionTable := #[], attributes := #[] }
def k2m7 : Method := { name := "push", desc := "(IIIIII)I", sig := { parameters := [.int, .int, .int, .int, .int, .int], returnType := some .int }, accessFlags := 2, code := some k2c7 }
def k2c8 : Code := { maxStack := 2, maxLocals := 6, code := prog_81_method_18_code, exceptionTable := #[], attributes := #[] }
def k2m8 : Method := { name := "decided", desc := "(III)I", sig := { parameters := [.int, .int, .int], returnType := some .int }, accessFlags := 2, code := some k2c8 }
def k2c9 : Code := { maxStack := 2, maxLocals := 5, code := prog_81_method_19_code, exceptionTable := #[], attributes := #[] }
def k2m9 : Method := { name := "cofactor", desc := "(IIZ)I", sig := { parameters := [.int, .int, .boolean], returnType := some .int }, accessFlags := 2, code := some k2c9 }
def k2c10 : Code := { maxStack := 3, maxLocals := 4, code := prog_81_method_28_code, exceptionTable := #[], attributes := #[] }
def k2m10 : Method := { name := "given", desc := "(I[Z)I", sig := { parameters := [.int, (.array .boolean)], returnType := some .int }, accessFlags := 0, code := some k2c10 }
def k2c11 : Code := { maxStack := 3, maxLocals := 4, code := prog_81_method_29_code, exceptionTable := #[], attributes := #[] }
def k2m11 : Method := { name := "holds", desc := "(I[Z)Z", sig := { parameters := [.int, (.array .boolean)], returnType := some .boolean }, accessFlags := 0, code := some k2c11 }
def k2c12 : Code := { maxStack := 4, maxLocals := 7, code := prog_81_method_32_code, exceptionTable := #[], attributes := #[] }
def k2m12 : Method := { name := "node", desc := "(III)I", sig := { parameters := [.int, .int, .int], returnType := some .int }, accessFlags := 2, code := some k2c12 }
def k2c13 : Code := { maxStack := 3, maxLocals := 4, code := prog_81_method_34_code, exceptionTable := #[], attributes := #[] }
def k2m13 : Method := { name := "hash", desc := "(III)I", sig := { parameters := [.int, .int, .int], returnType := some .int }, accessFlags := 10, code := some k2c13 }
def k2c14 : Code := { maxStack := 4, maxLocals := 6, code := prog_81_method_35_code, exceptionTable := #[], attributes := #[] }
def k2m14 : Method := { name := "cached", desc := "(III)I", sig := { parameters := [.int, .int, .int], returnType := some .int }, accessFlags := 2, code := some k2c14 }
def k2c15 : Code := { maxStack := 4, maxLocals := 6, code := prog_81_method_36_code, exceptionTable := #[], attributes := #[] }
def k2m15 : Method := { name := "remember", desc := "(IIII)V", sig := { parameters := [.int, .int, .int, .int], returnType := none }, accessFlags := 2, code := some k2c15 }
/-- com/example/orbweaver/orbweaver/synthesis/Diagrams -/
def k2 : Class := { plain "com/example/orbweaver/orbweaver/synthesis/Diagrams" (some 0) with
  accessFlags := 48
  interfaces := #[]
  cf := some (fileOf pool2 2 #[.nestMembers #[243, 254, 12]] #[{ accessFlags := 0, nameIndex := 5, descriptorIndex := 6, attributes := #[] }, { accessFlags := 0, nameIndex := 290, descriptorIndex := 93, attributes := #[] }, { accessFlags := 0, nameIndex := 96, descriptorIndex := 86, attributes := #[] }, { accessFlags := 0, nameIndex := 160, descriptorIndex := 86, attributes := #[] }, { accessFlags := 0, nameIndex := 85, descriptorIndex := 86, attributes := #[] }, { accessFlags := 2, nameIndex := 89, descriptorIndex := 82, attributes := #[] }, { accessFlags := 2, nameIndex := 109, descriptorIndex := 110, attributes := #[] }, { accessFlags := 2, nameIndex := 99, descriptorIndex := 100, attributes := #[] }, { accessFlags := 2, nameIndex := 103, descriptorIndex := 82, attributes := #[] }, { accessFlags := 2, nameIndex := 125, descriptorIndex := 126, attributes := #[] }, { accessFlags := 0, nameIndex := 305, descriptorIndex := 294, attributes := #[] }, { accessFlags := 0, nameIndex := 306, descriptorIndex := 307, attributes := #[] }, { accessFlags := 2, nameIndex := 81, descriptorIndex := 82, attributes := #[] }, { accessFlags := 10, nameIndex := 253, descriptorIndex := 82, attributes := #[] }, { accessFlags := 2, nameIndex := 106, descriptorIndex := 82, attributes := #[] }, { accessFlags := 2, nameIndex := 113, descriptorIndex := 114, attributes := #[] }] 48 8 #[] #[{ accessFlags := 24, nameIndex := 261, descriptorIndex := 37, attributes := #[] }, { accessFlags := 24, nameIndex := 264, descriptorIndex := 37, attributes := #[] }, { accessFlags := 26, nameIndex := 266, descriptorIndex := 37, attributes := #[] }, { accessFlags := 26, nameIndex := 267, descriptorIndex := 37, attributes := #[] }, { accessFlags := 26, nameIndex := 268, descriptorIndex := 37, attributes := #[] }, { accessFlags := 26, nameIndex := 270, descriptorIndex := 37, attributes := #[] }, { accessFlags := 26, nameIndex := 272, descriptorIndex := 37, attributes := #[] }, { accessFlags := 26, nameIndex := 274, descriptorIndex := 37, attributes := #[] }, { accessFlags := 26, nameIndex := 275, descriptorIndex := 37, attributes := #[] }, { accessFlags := 26, nameIndex := 277, descriptorIndex := 37, attributes := #[] }, { accessFlags := 18, nameIndex := 19, descriptorIndex := 20, attributes := #[] }, { accessFlags := 18, nameIndex := 36, descriptorIndex := 37, attributes := #[] }, { accessFlags := 18, nameIndex := 40, descriptorIndex := 37, attributes := #[] }, { accessFlags := 2, nameIndex := 43, descriptorIndex := 37, attributes := #[] }, { accessFlags := 2, nameIndex := 46, descriptorIndex := 30, attributes := #[] }, { accessFlags := 2, nameIndex := 49, descriptorIndex := 30, attributes := #[] }, { accessFlags := 2, nameIndex := 52, descriptorIndex := 30, attributes := #[] }, { accessFlags := 2, nameIndex := 55, descriptorIndex := 37, attributes := #[] }, { accessFlags := 2, nameIndex := 58, descriptorIndex := 30, attributes := #[] }, { accessFlags := 2, nameIndex := 61, descriptorIndex := 30, attributes := #[] }, { accessFlags := 2, nameIndex := 25, descriptorIndex := 26, attributes := #[] }, { accessFlags := 2, nameIndex := 29, descriptorIndex := 30, attributes := #[] }, { accessFlags := 2, nameIndex := 33, descriptorIndex := 30, attributes := #[] }])
  fields := #[{ name := "FALSE", type := .int, accessFlags := 24, slot := 0, constantValue := 0 }, { name := "TRUE", type := .int, accessFlags := 24, slot := 1, constantValue := 0 }, { name := "AND", type := .int, accessFlags := 26, slot := 2, constantValue := 0 }, { name := "OR", type := .int, accessFlags := 26, slot := 3, constantValue := 0 }, { name := "IFF", type := .int, accessFlags := 26, slot := 4, constantValue := 0 }, { name := "RESTRICT", type := .int, accessFlags := 26, slot := 5, constantValue := 0 }, { name := "UNDECIDED", type := .int, accessFlags := 26, slot := 6, constantValue := 0 }, { name := "TO_DO", type := .int, accessFlags := 26, slot := 7, constantValue := 0 }, { name := "ENTRY", type := .int, accessFlags := 26, slot := 8, constantValue := 0 }, { name := "INITIAL_CAPACITY", type := .int, accessFlags := 26, slot := 9, constantValue := 0 }, { name := "logic", type := (.object "com/example/orbweaver/orbweaver/spec/Logic"), accessFlags := 18, slot := 0, constantValue := 0 }, { name := "variables", type := .int, accessFlags := 18, slot := 1, constantValue := 0 }, { name := "terms", type := .int, accessFlags := 18, slot := 2, constantValue := 0 }, { name := "limit", type := .int, accessFlags := 2, slot := 3, constantValue := 0 }, { name := "level", type := (.array .int), accessFlags := 2, slot := 4, constantValue := 0 }, { name := "low", type := (.array .int), accessFlags := 2, slot := 5, constantValue := 0 }, { name := "high", type := (.array .int), accessFlags := 2, slot := 6, constantValue := 0 }, { name := "size", type := .int, accessFlags := 2, slot := 7, constantValue := 0 }, { name := "unique", type := (.array .int), accessFlags := 2, slot := 8, constantValue := 0 }, { name := "cache", type := (.array .int), accessFlags := 2, slot := 9, constantValue := 0 }, { name := "sets", type := (.array (.object "com/example/orbweaver/orbweaver/synthesis/Valuations")), accessFlags := 2, slot := 10, constantValue := 0 }, { name := "work", type := (.array .int), accessFlags := 2, slot := 11, constantValue := 0 }, { name := "results", type := (.array .int), accessFlags := 2, slot := 12, constantValue := 0 }]
  methods := #[k2m0, k2m1, k2m2, k2m3, k2m4, k2m5, k2m6, k2m7, k2m8, k2m9, k2m10, k2m11, k2m12, k2m13, k2m14, k2m15]
  instanceTypes := #[(.object "com/example/orbweaver/orbweaver/spec/Logic"), .int, .int, .int, (.array .int), (.array .int), (.array .int), .int, (.array .int), (.array .int), (.array (.object "com/example/orbweaver/orbweaver/synthesis/Valuations")), (.array .int), (.array .int)]
  staticTypes := #[.int, .int, .int, .int, .int, .int, .int, .int, .int, .int]
  resolved := Array.replicate 319 none
  statics := none }

def pool3 : Array CpInfo := pool [(1, .class_ 2), (0, u "com/example/orbweaver/orbweaver/spec/Logic$1"), (5, .class_ 10), (1, u "com/example/orbweaver/orbweaver/spec/Logic"), (0, u "TRUTH"), (0, u "Lcom/example/orbweaver/orbweaver/spec/Logic;"), (0, .class_ 14), (0, u "java/lang/Object")] 21

/-- com/example/orbweaver/orbweaver/spec/Logic -/
def k3 : Class := { plain "com/example/orbweaver/orbweaver/spec/Logic" (some 0) with
  accessFlags := 1537
  interfaces := #[]
  cf := some (fileOf pool3 8 #[.nestMembers #[1]] #[] 1537 13 #[] #[{ accessFlags := 25, nameIndex := 11, descriptorIndex := 12, attributes := #[] }])
  fields := #[{ name := "TRUTH", type := (.object "com/example/orbweaver/orbweaver/spec/Logic"), accessFlags := 25, slot := 0, constantValue := 0 }]
  methods := #[]
  instanceTypes := #[]
  staticTypes := #[(.object "com/example/orbweaver/orbweaver/spec/Logic")]
  resolved := Array.replicate 36 none
  statics := none }

def pool4 : Array CpInfo := pool [(1, .class_ 2), (0, u "com/example/orbweaver/orbweaver/synthesis/Diagrams"), (0, .fieldref 4 5), (0, .class_ 6), (0, .nameAndType 7 8), (0, u "com/example/orbweaver/orbweaver/synthesis/Diagrams$1"), (0, u "this$0"), (0, u "Lcom/example/orbweaver/orbweaver/synthesis/Diagrams;"), (0, .methodref 10 11), (0, .class_ 12), (0, .nameAndType 13 14), (0, u "java/lang/Object"), (0, u "<init>"), (0, u "()V"), (38, .class_ 54), (0, u "com/example/orbweaver/orbweaver/spec/Logic"), (0, u "(Lcom/example/orbweaver/orbweaver/synthesis/Diagrams;)V")] 14

def k4c0 : Code := { maxStack := 2, maxLocals := 2, code := prog_82_method_1_code, exceptionTable := #[], attributes := #[] }
def k4m0 : Method := { name := "<init>", desc := "(Lcom/example/orbweaver/orbweaver/synthesis/Diagrams;)V", sig := { parameters := [(.object "com/example/orbweaver/orbweaver/synthesis/Diagrams")], returnType := none }, accessFlags := 0, code := some k4c0 }
/-- com/example/orbweaver/orbweaver/synthesis/Diagrams$1 -/
def k4 : Class := { plain "com/example/orbweaver/orbweaver/synthesis/Diagrams$1" (some 0) with
  accessFlags := 32
  interfaces := #[3]
  cf := some (fileOf pool4 4 #[.nestHost 1] #[{ accessFlags := 0, nameIndex := 13, descriptorIndex := 55, attributes := #[] }] 32 10 #[53] #[{ accessFlags := 4112, nameIndex := 7, descriptorIndex := 8, attributes := #[] }])
  fields := #[{ name := "this$0", type := (.object "com/example/orbweaver/orbweaver/synthesis/Diagrams"), accessFlags := 4112, slot := 0, constantValue := 0 }]
  methods := #[k4m0]
  instanceTypes := #[(.object "com/example/orbweaver/orbweaver/synthesis/Diagrams")]
  staticTypes := #[]
  resolved := Array.replicate 70 none
  statics := none }

def pool5 : Array CpInfo := pool [(2, .class_ 4), (1, u "java/lang/Object"), (3, .class_ 10), (1, u "com/example/orbweaver/orbweaver/synthesis/Valuations"), (0, u "diagrams"), (0, u "Lcom/example/orbweaver/orbweaver/synthesis/Diagrams;"), (2, u "node"), (0, u "I")] 78

/-- com/example/orbweaver/orbweaver/synthesis/Valuations -/
def k5 : Class := { plain "com/example/orbweaver/orbweaver/synthesis/Valuations" (some 0) with
  accessFlags := 49
  interfaces := #[]
  cf := some (fileOf pool5 8 #[] #[] 49 2 #[] #[{ accessFlags := 18, nameIndex := 11, descriptorIndex := 12, attributes := #[] }, { accessFlags := 18, nameIndex := 15, descriptorIndex := 16, attributes := #[] }])
  fields := #[{ name := "diagrams", type := (.object "com/example/orbweaver/orbweaver/synthesis/Diagrams"), accessFlags := 18, slot := 0, constantValue := 0 }, { name := "node", type := .int, accessFlags := 18, slot := 1, constantValue := 0 }]
  methods := #[]
  instanceTypes := #[(.object "com/example/orbweaver/orbweaver/synthesis/Diagrams"), .int]
  staticTypes := #[]
  resolved := Array.replicate 95 none
  statics := none }

def pool6 : Array CpInfo := pool [(2, .class_ 4), (1, u "java/lang/Object"), (0, u "<init>"), (0, u "()V"), (7, .class_ 16), (1, u "java/util/Arrays"), (57, .class_ 76), (1, u "java/util/Arrays$NaturalOrder"), (36, .class_ 115), (1, u "java/util/Arrays$LegacyMergeSort"), (1, u "Z"), (257, .class_ 376), (0, u "java/util/Arrays$ArrayList"), (68, u "$assertionsDisabled"), (269, u "MIN_ARRAY_SORT_GRAN"), (0, u "I"), (2, u "INSERTIONSORT_THRESHOLD"), (120, u "fill"), (4, u "([II)V"), (129, .class_ 976), (0, u "java/util/Arrays$ArrayItr")] 52

def k6m0 : Method := { name := "<init>", desc := "()V", sig := { parameters := [], returnType := none }, accessFlags := 2, code := none }
def k6c1 : Code := { maxStack := 3, maxLocals := 4, code := jdk_65_method_103_code, exceptionTable := #[], attributes := #[] }
def k6m1 : Method := { name := "fill", desc := "([II)V", sig := { parameters := [(.array .int), .int], returnType := none }, accessFlags := 9, code := some k6c1 }
/-- java/util/Arrays -/
def k6 : Class := { plain "java/util/Arrays" (some 0) with
  accessFlags := 49
  interfaces := #[]
  cf := some (fileOf pool6 14 #[.nestMembers #[975, 375, 113, 74]] #[{ accessFlags := 2, nameIndex := 5, descriptorIndex := 6, attributes := #[] }, { accessFlags := 9, nameIndex := 840, descriptorIndex := 845, attributes := #[] }] 49 2 #[] #[{ accessFlags := 26, nameIndex := 715, descriptorIndex := 716, attributes := #[] }, { accessFlags := 26, nameIndex := 719, descriptorIndex := 716, attributes := #[] }, { accessFlags := 4120, nameIndex := 445, descriptorIndex := 117, attributes := #[] }])
  fields := #[{ name := "MIN_ARRAY_SORT_GRAN", type := .int, accessFlags := 26, slot := 0, constantValue := 0 }, { name := "INSERTIONSORT_THRESHOLD", type := .int, accessFlags := 26, slot := 1, constantValue := 0 }, { name := "$assertionsDisabled", type := .boolean, accessFlags := 4120, slot := 2, constantValue := 0 }]
  methods := #[k6m0, k6m1]
  instanceTypes := #[]
  staticTypes := #[.int, .int, .boolean]
  resolved := Array.replicate 1029 none
  statics := none }

def pool7 : Array CpInfo := pool [(1, .class_ 2), (0, u "java/lang/Math"), (1, .class_ 6), (1, u "java/lang/Object"), (0, u "<init>"), (0, u "()V"), (89, .class_ 100), (1, u "java/lang/Math$RandomNumberGeneratorHolder"), (71, u "negativeZeroFloatBits"), (0, u "J"), (2, u "negativeZeroDoubleBits"), (24, u "min"), (43, u "$assertionsDisabled"), (0, u "Z"), (88, u "(II)I"), (2, u "twoToTheDoubleScaleDown"), (0, u "D"), (4, u "twoToTheDoubleScaleUp"), (9, u "E"), (3, u "PI"), (2, u "TAU"), (2, u "DEGREES_TO_RADIANS"), (0, u "RADIANS_TO_DEGREES")] 94

def k7m0 : Method := { name := "<init>", desc := "()V", sig := { parameters := [], returnType := none }, accessFlags := 2, code := none }
def k7c1 : Code := { maxStack := 2, maxLocals := 2, code := jdk_29_method_69_code, exceptionTable := #[], attributes := #[] }
def k7m1 : Method := { name := "min", desc := "(II)I", sig := { parameters := [.int, .int], returnType := some .int }, accessFlags := 9, code := some k7c1 }
/-- java/lang/Math -/
def k7 : Class := { plain "java/lang/Math" (some 0) with
  accessFlags := 49
  interfaces := #[]
  cf := some (fileOf pool7 1 #[.nestMembers #[98]] #[{ accessFlags := 2, nameIndex := 7, descriptorIndex := 8, attributes := #[] }, { accessFlags := 9, nameIndex := 201, descriptorIndex := 335, attributes := #[] }] 49 4 #[] #[{ accessFlags := 25, nameIndex := 354, descriptorIndex := 339, attributes := #[] }, { accessFlags := 25, nameIndex := 358, descriptorIndex := 339, attributes := #[] }, { accessFlags := 25, nameIndex := 361, descriptorIndex := 339, attributes := #[] }, { accessFlags := 26, nameIndex := 364, descriptorIndex := 339, attributes := #[] }, { accessFlags := 26, nameIndex := 365, descriptorIndex := 339, attributes := #[] }, { accessFlags := 26, nameIndex := 172, descriptorIndex := 173, attributes := #[] }, { accessFlags := 26, nameIndex := 176, descriptorIndex := 173, attributes := #[] }, { accessFlags := 8, nameIndex := 344, descriptorIndex := 339, attributes := #[] }, { accessFlags := 8, nameIndex := 338, descriptorIndex := 339, attributes := #[] }, { accessFlags := 4120, nameIndex := 245, descriptorIndex := 246, attributes := #[] }])
  fields := #[{ name := "E", type := .double, accessFlags := 25, slot := 0, constantValue := 0 }, { name := "PI", type := .double, accessFlags := 25, slot := 1, constantValue := 0 }, { name := "TAU", type := .double, accessFlags := 25, slot := 2, constantValue := 0 }, { name := "DEGREES_TO_RADIANS", type := .double, accessFlags := 26, slot := 3, constantValue := 0 }, { name := "RADIANS_TO_DEGREES", type := .double, accessFlags := 26, slot := 4, constantValue := 0 }, { name := "negativeZeroFloatBits", type := .long, accessFlags := 26, slot := 5, constantValue := 0 }, { name := "negativeZeroDoubleBits", type := .long, accessFlags := 26, slot := 6, constantValue := 0 }, { name := "twoToTheDoubleScaleUp", type := .double, accessFlags := 8, slot := 7, constantValue := 0 }, { name := "twoToTheDoubleScaleDown", type := .double, accessFlags := 8, slot := 8, constantValue := 0 }, { name := "$assertionsDisabled", type := .boolean, accessFlags := 4120, slot := 9, constantValue := 0 }]
  methods := #[k7m0, k7m1]
  instanceTypes := #[]
  staticTypes := #[.double, .double, .double, .double, .double, .long, .long, .double, .double, .boolean]
  resolved := Array.replicate 460 none
  statics := none }

def pool8 : Array CpInfo := pool [(1, u "java/lang/Cloneable"), (0, .class_ 1), (0, u "java/lang/Object"), (0, .class_ 3)] 3

/-- java/lang/Cloneable -/
def k8 : Class := { plain "java/lang/Cloneable" (some 0) with
  accessFlags := 1537
  interfaces := #[]
  cf := some (fileOf pool8 2 #[] #[] 1537 4 #[] #[])
  fields := #[]
  methods := #[]
  instanceTypes := #[]
  staticTypes := #[]
  resolved := Array.replicate 8 none
  statics := none }

def pool9 : Array CpInfo := pool [(1, u "java/io/Serializable"), (0, .class_ 1), (0, u "java/lang/Object"), (0, .class_ 3)] 3

/-- java/io/Serializable -/
def k9 : Class := { plain "java/io/Serializable" (some 0) with
  accessFlags := 1537
  interfaces := #[]
  cf := some (fileOf pool9 2 #[] #[] 1537 4 #[] #[])
  fields := #[]
  methods := #[]
  instanceTypes := #[]
  staticTypes := #[]
  resolved := Array.replicate 8 none
  statics := none }

/-- the primitive boolean -/
def k10 : Class := { plain "boolean" none with kind := .primitive 'Z', accessFlags := 0x411 }
/-- [Z -/
def k11 : Class := { plain "[Z" (some 0) with kind := .array 10 .boolean, interfaces := #[8, 9], accessFlags := 1041 }

/-- the primitive byte -/
def k12 : Class := { plain "byte" none with kind := .primitive 'B', accessFlags := 0x411 }
/-- [B -/
def k13 : Class := { plain "[B" (some 0) with kind := .array 12 .byte, interfaces := #[8, 9], accessFlags := 1041 }

/-- the primitive int -/
def k14 : Class := { plain "int" none with kind := .primitive 'I', accessFlags := 0x411 }
/-- [I -/
def k15 : Class := { plain "[I" (some 0) with kind := .array 14 .int, interfaces := #[8, 9], accessFlags := 1041 }

/-- [Lcom/example/orbweaver/orbweaver/synthesis/Valuations; -/
def k16 : Class := { plain "[Lcom/example/orbweaver/orbweaver/synthesis/Valuations;" (some 0) with kind := .array 5 (.object "com/example/orbweaver/orbweaver/synthesis/Valuations"), interfaces := #[8, 9], accessFlags := 1041 }

def heap : Heap := #[]
def classes : Array Class := #[k0, k1, k2, k3, k4, k5, k6, k7, k8, k9, k10, k11, k12, k13, k14, k15, k16]
def interned : List (Array UInt16 × Addr) := []
def slotsUsed : Nat := 0
def theMethod : MethodId := ⟨1, 1⟩
def args0 : Array Value := #[.int 100, .int 2, .int 5, .int 3]
def aboutOver (below : List Frame) : State where
  vm := { classes := classes, interned := interned.toArray }
  heap := heap
  slotsUsed := slotsUsed
  threads := #[{ frames := .invoking theMethod args0 :: below }]
def below0 : List Frame := [.native { method := ⟨0, 0⟩, args := #[] }]
def about1 : State := aboutOver below0
def p0 : Program := .bare "" "" ""
def e0 : Env := launch0.env 0 0 0
theorem w_frames : about1.frames = Frame.invoking theMethod args0 :: below0 := rfl
set_option maxRecDepth 65536 in
theorem w_args : argsFit about1.vm theMethod args0 = true := by decide +kernel
set_option maxRecDepth 65536 in
theorem w_heap : heapFits about1 = true := by decide +kernel
set_option maxRecDepth 65536 in
theorem w_runnable : about1.curStatus? = some .runnable := by decide +kernel
set_option maxRecDepth 65536 in
theorem w_alone : about1.alone = true := by decide +kernel
set_option maxRecDepth 65536 in
theorem w_named : about1.methodNamed? x = some theMethod := by decide +kernel
set_option maxRecDepth 65536 in
theorem w_hears : about1.hears theMethod below0 = true := by decide +kernel
set_option maxRecDepth 65536 in
theorem w_ripe : about1.ripe theMethod args0 below0 = true := by decide +kernel
theorem w_running : about1.status = .running := rfl
set_option maxRecDepth 65536 in
theorem w_room : about1.hasRoom e0.platform room_1 = true :=
  launch0.hasRoom_least _ room_1 (by decide +kernel) (by decide +kernel) (by decide +kernel) (by decide +kernel) (by decide +kernel) (by decide +kernel)
theorem allAtoms_all (ts : List Jvm.Cond) (a : Array Jvm.Value) (st : Jvm.State) : (allAtoms ts).before a st = ts.all (fun c => c.before a st) := by
  induction ts with
  | nil => rfl
  | cons c t ih =>
    show (Jvm.Cond.and c (allAtoms t)).before a st = _
    rw [Jvm.Cond.before_and, ih, List.all_cons]
def words1 : List Jvm.Cond := Jvm.Cond.code x code maxLocals ret :: tables_1
/-- a 'code' word, met by the world's own term for the bytes: nothing is compared byte by byte -/
theorem code_word {y : MethodName} {bytes : ByteArray} {mx : Nat} {rt : Option FieldType} {a : Array Value} {s : State} {m : MethodId} {meth : Method} {c : Code} (h1 : s.methodNamed? y = some m) (h2 : s.vm.method? m = some meth) (h3 : meth.code = some c) (h4 : c.code = bytes)
    (h5 : (c.maxLocals == mx && c.exceptionTable.isEmpty && decide (c.maxStack ≤ mostOperands) && decide (meth.sig.returnType = rt) && !meth.locks && decide (parseMethodDescriptor y.desc = some meth.sig)) = true) : (Jvm.Cond.code y bytes mx rt).before a s = true := by
  simp only [Bool.and_eq_true, beq_iff_eq, Bool.not_eq_true', decide_eq_true_eq] at h5
  obtain ⟨⟨⟨⟨⟨g1, g2⟩, g3⟩, g4⟩, g5⟩, g6⟩ := h5
  simp [Cond.before, Cond.holds, Cond.value, h1, h2, h3, h4, g1, g2, g3, g4, g5, g6]
def isCode : Jvm.Cond → Bool
  | .code _ _ _ _ => true
  | _ => false
theorem all_split {L : List Jvm.Cond} {P : Jvm.Cond → Bool} (h1 : L.all (fun c => isCode c || P c) = true) (h2 : ∀ c ∈ L.filter isCode, P c = true) : L.all P = true := by
  refine List.all_eq_true.mpr fun c hc => ?_
  have h := List.all_eq_true.mp h1 c hc
  rcases Bool.eq_false_or_eq_true (isCode c) with hi | hi
  · exact h2 c (List.mem_filter.mpr ⟨hc, hi⟩)
  · simpa [hi] using h
set_option maxRecDepth 65536 in
theorem w_c0 : (Jvm.Cond.code x code maxLocals ret).before args0 about1 = true := code_word (m := ⟨1, 1⟩) (meth := k1m1) (c := k1c1) (by decide +kernel) rfl rfl rfl (by decide +kernel)
set_option maxRecDepth 65536 in
theorem w_c1 : (Jvm.Cond.code ({ cls := "com/example/orbweaver/orbweaver/synthesis/Diagrams", name := "<init>", desc := "(III)V" } : Jvm.MethodName) prog_81_method_2_code (4 : Nat) (Option.none : Option Jvm.ClassFile.FieldType)).before args0 about1 = true := code_word (m := ⟨2, 0⟩) (meth := k2m0) (c := k2c0) (by decide +kernel) rfl rfl rfl (by decide +kernel)
set_option maxRecDepth 65536 in
theorem w_c2 : (Jvm.Cond.code ({ cls := "java/lang/Object", name := "<init>", desc := "()V" } : Jvm.MethodName) object_method_1_code (1 : Nat) (Option.none : Option Jvm.ClassFile.FieldType)).before args0 about1 = true := code_word (m := ⟨0, 0⟩) (meth := k0m0) (c := k0c0) (by decide +kernel) rfl rfl rfl (by decide +kernel)
set_option maxRecDepth 65536 in
theorem w_c3 : (Jvm.Cond.code ({ cls := "com/example/orbweaver/orbweaver/synthesis/Diagrams$1", name := "<init>", desc := "(Lcom/example/orbweaver/orbweaver/synthesis/Diagrams;)V" } : Jvm.MethodName) prog_82_method_1_code (2 : Nat) (Option.none : Option Jvm.ClassFile.FieldType)).before args0 about1 = true := code_word (m := ⟨4, 0⟩) (meth := k4m0) (c := k4c0) (by decide +kernel) rfl rfl rfl (by decide +kernel)
set_option maxRecDepth 65536 in
theorem w_c4 : (Jvm.Cond.code ({ cls := "java/util/Arrays", name := "fill", desc := "([II)V" } : Jvm.MethodName) jdk_65_method_103_code (4 : Nat) (Option.none : Option Jvm.ClassFile.FieldType)).before args0 about1 = true := code_word (m := ⟨6, 1⟩) (meth := k6m1) (c := k6c1) (by decide +kernel) rfl rfl rfl (by decide +kernel)
set_option maxRecDepth 65536 in
theorem w_c5 : (Jvm.Cond.code ({ cls := "com/example/orbweaver/orbweaver/synthesis/Diagrams", name := "variable", desc := "(I)I" } : Jvm.MethodName) prog_81_method_8_code (2 : Nat) (Option.some Jvm.ClassFile.FieldType.int)).before args0 about1 = true := code_word (m := ⟨2, 1⟩) (meth := k2m1) (c := k2c1) (by decide +kernel) rfl rfl rfl (by decide +kernel)
set_option maxRecDepth 65536 in
theorem w_c6 : (Jvm.Cond.code ({ cls := "com/example/orbweaver/orbweaver/synthesis/Diagrams", name := "node", desc := "(III)I" } : Jvm.MethodName) prog_81_method_32_code (7 : Nat) (Option.some Jvm.ClassFile.FieldType.int)).before args0 about1 = true := code_word (m := ⟨2, 12⟩) (meth := k2m12) (c := k2c12) (by decide +kernel) rfl rfl rfl (by decide +kernel)
set_option maxRecDepth 65536 in
theorem w_c7 : (Jvm.Cond.code ({ cls := "com/example/orbweaver/orbweaver/synthesis/Diagrams", name := "hash", desc := "(III)I" } : Jvm.MethodName) prog_81_method_34_code (4 : Nat) (Option.some Jvm.ClassFile.FieldType.int)).before args0 about1 = true := code_word (m := ⟨2, 13⟩) (meth := k2m13) (c := k2c13) (by decide +kernel) rfl rfl rfl (by decide +kernel)
set_option maxRecDepth 65536 in
theorem w_c8 : (Jvm.Cond.code ({ cls := "com/example/orbweaver/orbweaver/synthesis/DiagramsGivenPinLaw", name := "combine", desc := "(Lcom/example/orbweaver/orbweaver/synthesis/Diagrams;III)I" } : Jvm.MethodName) method_3_code (4 : Nat) (Option.some Jvm.ClassFile.FieldType.int)).before args0 about1 = true := code_word (m := ⟨1, 2⟩) (meth := k1m2) (c := k1c2) (by decide +kernel) rfl rfl rfl (by decide +kernel)
set_option maxRecDepth 65536 in
theorem w_c9 : (Jvm.Cond.code ({ cls := "com/example/orbweaver/orbweaver/synthesis/Diagrams", name := "and", desc := "(II)I" } : Jvm.MethodName) prog_81_method_10_code (3 : Nat) (Option.some Jvm.ClassFile.FieldType.int)).before args0 about1 = true := code_word (m := ⟨2, 2⟩) (meth := k2m2) (c := k2c2) (by decide +kernel) rfl rfl rfl (by decide +kernel)
set_option maxRecDepth 65536 in
theorem w_c10 : (Jvm.Cond.code ({ cls := "com/example/orbweaver/orbweaver/synthesis/Diagrams", name := "apply", desc := "(III)I" } : Jvm.MethodName) prog_81_method_15_code (13 : Nat) (Option.some Jvm.ClassFile.FieldType.int)).before args0 about1 = true := code_word (m := ⟨2, 5⟩) (meth := k2m5) (c := k2c5) (by decide +kernel) rfl rfl rfl (by decide +kernel)
set_option maxRecDepth 65536 in
theorem w_c11 : (Jvm.Cond.code ({ cls := "com/example/orbweaver/orbweaver/synthesis/Diagrams", name := "push", desc := "(IIIIII)I" } : Jvm.MethodName) prog_81_method_17_code (7 : Nat) (Option.some Jvm.ClassFile.FieldType.int)).before args0 about1 = true := code_word (m := ⟨2, 7⟩) (meth := k2m7) (c := k2c7) (by decide +kernel) rfl rfl rfl (by decide +kernel)
set_option maxRecDepth 65536 in
theorem w_c12 : (Jvm.Cond.code ({ cls := "com/example/orbweaver/orbweaver/synthesis/Diagrams", name := "decided", desc := "(III)I" } : Jvm.MethodName) prog_81_method_18_code (6 : Nat) (Option.some Jvm.ClassFile.FieldType.int)).before args0 about1 = true := code_word (m := ⟨2, 8⟩) (meth := k2m8) (c := k2c8) (by decide +kernel) rfl rfl rfl (by decide +kernel)
set_option maxRecDepth 65536 in
theorem w_c13 : (Jvm.Cond.code ({ cls := "com/example/orbweaver/orbweaver/synthesis/Diagrams", name := "given", desc := "(I[Z)I" } : Jvm.MethodName) prog_81_method_28_code (4 : Nat) (Option.some Jvm.ClassFile.FieldType.int)).before args0 about1 = true := code_word (m := ⟨2, 10⟩) (meth := k2m10) (c := k2c10) (by decide +kernel) rfl rfl rfl (by decide +kernel)
set_option maxRecDepth 65536 in
theorem w_c14 : (Jvm.Cond.code ({ cls := "com/example/orbweaver/orbweaver/synthesis/Diagrams", name := "holds", desc := "(I[Z)Z" } : Jvm.MethodName) prog_81_method_29_code (4 : Nat) (Option.some Jvm.ClassFile.FieldType.boolean)).before args0 about1 = true := code_word (m := ⟨2, 11⟩) (meth := k2m11) (c := k2c11) (by decide +kernel) rfl rfl rfl (by decide +kernel)
set_option maxRecDepth 65536 in
theorem w_c15 : (Jvm.Cond.code ({ cls := "com/example/orbweaver/orbweaver/synthesis/DiagramsGivenPinLaw", name := "pick", desc := "(IZZZ)Z" } : Jvm.MethodName) method_5_code (4 : Nat) (Option.some Jvm.ClassFile.FieldType.boolean)).before args0 about1 = true := code_word (m := ⟨1, 4⟩) (meth := k1m4) (c := k1c4) (by decide +kernel) rfl rfl rfl (by decide +kernel)
set_option maxRecDepth 65536 in
theorem w_c16 : (Jvm.Cond.code ({ cls := "com/example/orbweaver/orbweaver/synthesis/DiagramsGivenPinLaw", name := "op", desc := "(IZZ)Z" } : Jvm.MethodName) method_4_code (3 : Nat) (Option.some Jvm.ClassFile.FieldType.boolean)).before args0 about1 = true := code_word (m := ⟨1, 3⟩) (meth := k1m3) (c := k1c3) (by decide +kernel) rfl rfl rfl (by decide +kernel)
set_option maxRecDepth 65536 in
theorem w_c17 : (Jvm.Cond.code ({ cls := "com/example/orbweaver/orbweaver/synthesis/Diagrams", name := "or", desc := "(II)I" } : Jvm.MethodName) prog_81_method_11_code (3 : Nat) (Option.some Jvm.ClassFile.FieldType.int)).before args0 about1 = true := code_word (m := ⟨2, 3⟩) (meth := k2m3) (c := k2c3) (by decide +kernel) rfl rfl rfl (by decide +kernel)
set_option maxRecDepth 65536 in
theorem w_c18 : (Jvm.Cond.code ({ cls := "com/example/orbweaver/orbweaver/synthesis/Diagrams", name := "cached", desc := "(III)I" } : Jvm.MethodName) prog_81_method_35_code (6 : Nat) (Option.some Jvm.ClassFile.FieldType.int)).before args0 about1 = true := code_word (m := ⟨2, 14⟩) (meth := k2m14) (c := k2c14) (by decide +kernel) rfl rfl rfl (by decide +kernel)
set_option maxRecDepth 65536 in
theorem w_c19 : (Jvm.Cond.code ({ cls := "com/example/orbweaver/orbweaver/synthesis/Diagrams", name := "descend", desc := "(IIII)I" } : Jvm.MethodName) prog_81_method_16_code (13 : Nat) (Option.some Jvm.ClassFile.FieldType.int)).before args0 about1 = true := code_word (m := ⟨2, 6⟩) (meth := k2m6) (c := k2c6) (by decide +kernel) rfl rfl rfl (by decide +kernel)
set_option maxRecDepth 65536 in
theorem w_c20 : (Jvm.Cond.code ({ cls := "java/lang/Math", name := "min", desc := "(II)I" } : Jvm.MethodName) jdk_29_method_69_code (2 : Nat) (Option.some Jvm.ClassFile.FieldType.int)).before args0 about1 = true := code_word (m := ⟨7, 1⟩) (meth := k7m1) (c := k7c1) (by decide +kernel) rfl rfl rfl (by decide +kernel)
set_option maxRecDepth 65536 in
theorem w_c21 : (Jvm.Cond.code ({ cls := "com/example/orbweaver/orbweaver/synthesis/Diagrams", name := "cofactor", desc := "(IIZ)I" } : Jvm.MethodName) prog_81_method_19_code (5 : Nat) (Option.some Jvm.ClassFile.FieldType.int)).before args0 about1 = true := code_word (m := ⟨2, 9⟩) (meth := k2m9) (c := k2c9) (by decide +kernel) rfl rfl rfl (by decide +kernel)
set_option maxRecDepth 65536 in
theorem w_c22 : (Jvm.Cond.code ({ cls := "com/example/orbweaver/orbweaver/synthesis/Diagrams", name := "remember", desc := "(IIII)V" } : Jvm.MethodName) prog_81_method_36_code (6 : Nat) (Option.none : Option Jvm.ClassFile.FieldType)).before args0 about1 = true := code_word (m := ⟨2, 15⟩) (meth := k2m15) (c := k2c15) (by decide +kernel) rfl rfl rfl (by decide +kernel)
set_option maxRecDepth 65536 in
theorem w_c23 : (Jvm.Cond.code ({ cls := "com/example/orbweaver/orbweaver/synthesis/Diagrams", name := "iff", desc := "(II)I" } : Jvm.MethodName) prog_81_method_12_code (3 : Nat) (Option.some Jvm.ClassFile.FieldType.int)).before args0 about1 = true := code_word (m := ⟨2, 4⟩) (meth := k2m4) (c := k2c4) (by decide +kernel) rfl rfl rfl (by decide +kernel)
def codes1 : List Jvm.Cond := [Jvm.Cond.code x code maxLocals ret, Jvm.Cond.code ({ cls := "com/example/orbweaver/orbweaver/synthesis/Diagrams", name := "<init>", desc := "(III)V" } : Jvm.MethodName) prog_81_method_2_code (4 : Nat) (Option.none : Option Jvm.ClassFile.FieldType), Jvm.Cond.code ({ cls := "java/lang/Object", name := "<init>", desc := "()V" } : Jvm.MethodName) object_method_1_code (1 : Nat) (Option.none : Option Jvm.ClassFile.FieldType), Jvm.Cond.code ({ cls := "com/example/orbweaver/orbweaver/synthesis/Diagrams$1", name := "<init>", desc := "(Lcom/example/orbweaver/orbweaver/synthesis/Diagrams;)V" } : Jvm.MethodName) prog_82_method_1_code (2 : Nat) (Option.none : Option Jvm.ClassFile.FieldType), Jvm.Cond.code ({ cls := "java/util/Arrays", name := "fill", desc := "([II)V" } : Jvm.MethodName) jdk_65_method_103_code (4 : Nat) (Option.none : Option Jvm.ClassFile.FieldType), Jvm.Cond.code ({ cls := "com/example/orbweaver/orbweaver/synthesis/Diagrams", name := "variable", desc := "(I)I" } : Jvm.MethodName) prog_81_method_8_code (2 : Nat) (Option.some Jvm.ClassFile.FieldType.int), Jvm.Cond.code ({ cls := "com/example/orbweaver/orbweaver/synthesis/Diagrams", name := "node", desc := "(III)I" } : Jvm.MethodName) prog_81_method_32_code (7 : Nat) (Option.some Jvm.ClassFile.FieldType.int), Jvm.Cond.code ({ cls := "com/example/orbweaver/orbweaver/synthesis/Diagrams", name := "hash", desc := "(III)I" } : Jvm.MethodName) prog_81_method_34_code (4 : Nat) (Option.some Jvm.ClassFile.FieldType.int), Jvm.Cond.code ({ cls := "com/example/orbweaver/orbweaver/synthesis/DiagramsGivenPinLaw", name := "combine", desc := "(Lcom/example/orbweaver/orbweaver/synthesis/Diagrams;III)I" } : Jvm.MethodName) method_3_code (4 : Nat) (Option.some Jvm.ClassFile.FieldType.int), Jvm.Cond.code ({ cls := "com/example/orbweaver/orbweaver/synthesis/Diagrams", name := "and", desc := "(II)I" } : Jvm.MethodName) prog_81_method_10_code (3 : Nat) (Option.some Jvm.ClassFile.FieldType.int), Jvm.Cond.code ({ cls := "com/example/orbweaver/orbweaver/synthesis/Diagrams", name := "apply", desc := "(III)I" } : Jvm.MethodName) prog_81_method_15_code (13 : Nat) (Option.some Jvm.ClassFile.FieldType.int), Jvm.Cond.code ({ cls := "com/example/orbweaver/orbweaver/synthesis/Diagrams", name := "push", desc := "(IIIIII)I" } : Jvm.MethodName) prog_81_method_17_code (7 : Nat) (Option.some Jvm.ClassFile.FieldType.int), Jvm.Cond.code ({ cls := "com/example/orbweaver/orbweaver/synthesis/Diagrams", name := "decided", desc := "(III)I" } : Jvm.MethodName) prog_81_method_18_code (6 : Nat) (Option.some Jvm.ClassFile.FieldType.int), Jvm.Cond.code ({ cls := "com/example/orbweaver/orbweaver/synthesis/Diagrams", name := "given", desc := "(I[Z)I" } : Jvm.MethodName) prog_81_method_28_code (4 : Nat) (Option.some Jvm.ClassFile.FieldType.int), Jvm.Cond.code ({ cls := "com/example/orbweaver/orbweaver/synthesis/Diagrams", name := "holds", desc := "(I[Z)Z" } : Jvm.MethodName) prog_81_method_29_code (4 : Nat) (Option.some Jvm.ClassFile.FieldType.boolean), Jvm.Cond.code ({ cls := "com/example/orbweaver/orbweaver/synthesis/DiagramsGivenPinLaw", name := "pick", desc := "(IZZZ)Z" } : Jvm.MethodName) method_5_code (4 : Nat) (Option.some Jvm.ClassFile.FieldType.boolean), Jvm.Cond.code ({ cls := "com/example/orbweaver/orbweaver/synthesis/DiagramsGivenPinLaw", name := "op", desc := "(IZZ)Z" } : Jvm.MethodName) method_4_code (3 : Nat) (Option.some Jvm.ClassFile.FieldType.boolean), Jvm.Cond.code ({ cls := "com/example/orbweaver/orbweaver/synthesis/Diagrams", name := "or", desc := "(II)I" } : Jvm.MethodName) prog_81_method_11_code (3 : Nat) (Option.some Jvm.ClassFile.FieldType.int), Jvm.Cond.code ({ cls := "com/example/orbweaver/orbweaver/synthesis/Diagrams", name := "cached", desc := "(III)I" } : Jvm.MethodName) prog_81_method_35_code (6 : Nat) (Option.some Jvm.ClassFile.FieldType.int), Jvm.Cond.code ({ cls := "com/example/orbweaver/orbweaver/synthesis/Diagrams", name := "descend", desc := "(IIII)I" } : Jvm.MethodName) prog_81_method_16_code (13 : Nat) (Option.some Jvm.ClassFile.FieldType.int), Jvm.Cond.code ({ cls := "java/lang/Math", name := "min", desc := "(II)I" } : Jvm.MethodName) jdk_29_method_69_code (2 : Nat) (Option.some Jvm.ClassFile.FieldType.int), Jvm.Cond.code ({ cls := "com/example/orbweaver/orbweaver/synthesis/Diagrams", name := "cofactor", desc := "(IIZ)I" } : Jvm.MethodName) prog_81_method_19_code (5 : Nat) (Option.some Jvm.ClassFile.FieldType.int), Jvm.Cond.code ({ cls := "com/example/orbweaver/orbweaver/synthesis/Diagrams", name := "remember", desc := "(IIII)V" } : Jvm.MethodName) prog_81_method_36_code (6 : Nat) (Option.none : Option Jvm.ClassFile.FieldType), Jvm.Cond.code ({ cls := "com/example/orbweaver/orbweaver/synthesis/Diagrams", name := "iff", desc := "(II)I" } : Jvm.MethodName) prog_81_method_12_code (3 : Nat) (Option.some Jvm.ClassFile.FieldType.int)]
set_option maxRecDepth 65536 in
theorem codes_eq : words1.filter isCode = codes1 := rfl
theorem w_codes : ∀ c ∈ words1.filter isCode, c.before args0 about1 = true := by
  rw [codes_eq]
  intro c hc
  simp only [codes1, List.mem_cons, List.not_mem_nil, or_false] at hc
  rcases hc with rfl | rfl | rfl | rfl | rfl | rfl | rfl | rfl | rfl | rfl | rfl | rfl | rfl | rfl | rfl | rfl | rfl | rfl | rfl | rfl | rfl | rfl | rfl | rfl
  · exact w_c0
  · exact w_c1
  · exact w_c2
  · exact w_c3
  · exact w_c4
  · exact w_c5
  · exact w_c6
  · exact w_c7
  · exact w_c8
  · exact w_c9
  · exact w_c10
  · exact w_c11
  · exact w_c12
  · exact w_c13
  · exact w_c14
  · exact w_c15
  · exact w_c16
  · exact w_c17
  · exact w_c18
  · exact w_c19
  · exact w_c20
  · exact w_c21
  · exact w_c22
  · exact w_c23
set_option maxRecDepth 65536 in
theorem w_t1 : (words1.take 24).all (fun c => isCode c || c.before args0 about1) = true := by decide +kernel
set_option maxRecDepth 65536 in
theorem w_t2 : ((words1.drop 24).take 24).all (fun c => isCode c || c.before args0 about1) = true := by decide +kernel
set_option maxRecDepth 65536 in
theorem w_t3 : (((words1.drop 24).drop 24).take 24).all (fun c => isCode c || c.before args0 about1) = true := by decide +kernel
set_option maxRecDepth 65536 in
theorem w_t4 : ((((words1.drop 24).drop 24).drop 24).take 24).all (fun c => isCode c || c.before args0 about1) = true := by decide +kernel
set_option maxRecDepth 65536 in
theorem w_t5 : (((((words1.drop 24).drop 24).drop 24).drop 24).take 24).all (fun c => isCode c || c.before args0 about1) = true := by decide +kernel
set_option maxRecDepth 65536 in
theorem w_t6 : (((((words1.drop 24).drop 24).drop 24).drop 24).drop 24).all (fun c => isCode c || c.before args0 about1) = true := by decide +kernel
theorem w_tables : (allAtoms (Jvm.Cond.code x code maxLocals ret :: tables_1)).before args0 about1 = true := by
  rw [allAtoms_all]
  show words1.all (fun c => c.before args0 about1) = true
  refine all_split ?_ w_codes
  rw [← List.take_append_drop 24 words1, List.all_append, w_t1, ← List.take_append_drop 24 (words1.drop 24), List.all_append, w_t2, ← List.take_append_drop 24 ((words1.drop 24).drop 24), List.all_append, w_t3, ← List.take_append_drop 24 (((words1.drop 24).drop 24).drop 24), List.all_append, w_t4, ← List.take_append_drop 24 ((((words1.drop 24).drop 24).drop 24).drop 24), List.all_append, w_t5, w_t6]
  rfl
set_option maxRecDepth 65536 in
theorem w_case : (Jvm.Cond.and given_1 narrow_1).before args0 about1 = true := by decide +kernel
theorem w_applies : (headSpec (Jvm.Cond.code x code maxLocals ret :: tables_1) room_1).applies x e0.platform about1 = true :=
  (Spec.applies_iff w_frames).mpr ⟨w_running, w_runnable, w_alone, w_named, w_hears, w_ripe, w_room, w_tables⟩
theorem atStart : AtStart classFile x code maxLocals ret World_1 tables_1 room_1 Calls_1 rest_1 Pre_1 launch0 p0 e0 about1 theMethod args0 below0 :=
  ⟨lists_1, trivial, launch0.admits_env _ _ _, launch0.least_env, fairChoices_fair.cas, fairChoices_fair.clock, w_frames, w_args, w_heap, w_applies, trivial, trivial, w_case⟩
end start1
theorem witness_1 : WitnessClaimed_1 := ⟨start1.p0, start1.e0, start1.about1, start1.theMethod, start1.args0, start1.below0, start1.atStart⟩
end Jvm.Pilot.@@N@@
