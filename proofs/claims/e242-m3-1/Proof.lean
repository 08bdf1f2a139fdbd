import JvmDerived
import JvmDerived.Pilot.@@N@@Statement
import JvmDerived.Pilot.@@N@@Code
set_option linter.unusedVariables false
set_option linter.unusedSimpArgs false
namespace Jvm.Pilot.@@N@@
open Jvm Jvm.ClassFile Sem Op Lib Jvm.Free Jvm.Stand Jvm.LawKit Jvm.RoadKit Bundle Jvm.Pilot.@@N@@.Jvm.D
section OwnBase
variable {p : Program} {l : Launch} {e : Env} {R : Room} {s : State} {m : MethodId} {args : Array Value} {below : List Frame} {meth : Method} {c : Code} {T : State} {locs : List Loc} {cells slots : Nat} {Q : Outcome → State → Prop} {pc : Nat} {Ls : Array Slot} {st : List Value} {Z : State} {a0 : Array Value} {h : Heap}
/-- from S the body's invocation ends, and Q holds then -/
def own_G (p : Program) (e : Env) (below : List Frame) (Q : Outcome → State → Prop) (S : State) : Prop := ∃ t o, Steps p.tables e below S t ∧ t.status = .running ∧ Ended t below o ∧ Q o t
theorem own_st {S S' : State} (h : ∀ t, Steps p.tables e below S' t → Steps p.tables e below S t) (k : own_G p e below Q S') : own_G p e below Q S := by
  obtain ⟨t, o, h1, h2⟩ := k
  exact ⟨t, o, h t h1, h2⟩
theorem own_cast {g g' : JFrame} (q : g = g') (k : own_G p e below Q (T.setTop g')) : own_G p e below Q (T.setTop g) := q ▸ k
theorem own_iloadN (X : Stand p l e R s m args below meth c T locs cells slots) (hx : p.tables.exec = Jvm.exec) {k : Fin 4} {v : Int32} (hd : decode c.code pc = .ok (.iload_n k, 1)) (hl : Ls[k.val]? = some (.val (.int v))) (pc' : Nat) (hp : pc + 1 = pc') (r : own_G p e below Q (T.setTop (mkF m pc' Ls (.int v :: st)))) : own_G p e below Q (T.setTop (mkF m pc Ls (st))) := by
  subst hp
  exact own_st (fun t ht => XS.iloadN X.here hx rfl hd hl ht) r
theorem own_aloadN (X : Stand p l e R s m args below meth c T locs cells slots) (hx : p.tables.exec = Jvm.exec) {k : Fin 4} {v : Value} (hd : decode c.code pc = .ok (.aload_n k, 1)) (hl : Ls[k.val]? = some (.val v)) (hv : v.isRef = true) (pc' : Nat) (hp : pc + 1 = pc') (r : own_G p e below Q (T.setTop (mkF m pc' Ls (v :: st)))) : own_G p e below Q (T.setTop (mkF m pc Ls (st))) := by
  subst hp
  exact own_st (fun t ht => XS.aloadN X.here hx rfl hd hl hv ht) r
theorem own_istoreN (X : Stand p l e R s m args below meth c T locs cells slots) (hx : p.tables.exec = Jvm.exec) {k : Fin 4} {v : Int32} (Lt : Array Slot) (hd : decode c.code pc = .ok (.istore_n k, 1)) (hl : storeLocals Ls k.val (.int v) = some Lt) (pc' : Nat) (hp : pc + 1 = pc') (r : own_G p e below Q (T.setTop (mkF m pc' Lt (st)))) : own_G p e below Q (T.setTop (mkF m pc Ls (.int v :: st))) := by
  subst hp
  exact own_st (fun t ht => XS.istoreN X.here hx rfl hd rfl hl ht) r
theorem own_astoreN (X : Stand p l e R s m args below meth c T locs cells slots) (hx : p.tables.exec = Jvm.exec) {k : Fin 4} {v : Value} (Lt : Array Slot) (hd : decode c.code pc = .ok (.astore_n k, 1)) (hv : v.isRef = true) (hl : storeLocals Ls k.val v = some Lt) (pc' : Nat) (hp : pc + 1 = pc') (r : own_G p e below Q (T.setTop (mkF m pc' Lt (st)))) : own_G p e below Q (T.setTop (mkF m pc Ls (v :: st))) := by
  subst hp
  exact own_st (fun t ht => XS.astoreN X.here hx rfl hd rfl hv hl ht) r
theorem own_iload (X : Stand p l e R s m args below meth c T locs cells slots) (hx : p.tables.exec = Jvm.exec) {k : Nat} {v : Int32} (hd : decode c.code pc = .ok (.iload k, 2)) (hl : Ls[k]? = some (.val (.int v))) (pc' : Nat) (hp : pc + 2 = pc') (r : own_G p e below Q (T.setTop (mkF m pc' Ls (.int v :: st)))) : own_G p e below Q (T.setTop (mkF m pc Ls (st))) := by
  subst hp
  exact own_st (fun t ht => XS.iload X.here hx rfl hd hl ht) r
theorem own_aload (X : Stand p l e R s m args below meth c T locs cells slots) (hx : p.tables.exec = Jvm.exec) {k : Nat} {v : Value} (hd : decode c.code pc = .ok (.aload k, 2)) (hl : Ls[k]? = some (.val v)) (hv : v.isRef = true) (pc' : Nat) (hp : pc + 2 = pc') (r : own_G p e below Q (T.setTop (mkF m pc' Ls (v :: st)))) : own_G p e below Q (T.setTop (mkF m pc Ls (st))) := by
  subst hp
  exact own_st (fun t ht => XS.aload X.here hx rfl hd hl hv ht) r
theorem own_istore (X : Stand p l e R s m args below meth c T locs cells slots) (hx : p.tables.exec = Jvm.exec) {k : Nat} {v : Int32} (Lt : Array Slot) (hd : decode c.code pc = .ok (.istore k, 2)) (hl : storeLocals Ls k (.int v) = some Lt) (pc' : Nat) (hp : pc + 2 = pc') (r : own_G p e below Q (T.setTop (mkF m pc' Lt (st)))) : own_G p e below Q (T.setTop (mkF m pc Ls (.int v :: st))) := by
  subst hp
  exact own_st (fun t ht => XS.istore X.here hx rfl hd rfl hl ht) r
theorem own_astore (X : Stand p l e R s m args below meth c T locs cells slots) (hx : p.tables.exec = Jvm.exec) {k : Nat} {v : Value} (Lt : Array Slot) (hd : decode c.code pc = .ok (.astore k, 2)) (hv : v.isRef = true) (hl : storeLocals Ls k v = some Lt) (pc' : Nat) (hp : pc + 2 = pc') (r : own_G p e below Q (T.setTop (mkF m pc' Lt (st)))) : own_G p e below Q (T.setTop (mkF m pc Ls (v :: st))) := by
  subst hp
  exact own_st (fun t ht => XS.astore X.here hx rfl hd rfl hv hl ht) r
theorem own_iconst (X : Stand p l e R s m args below meth c T locs cells slots) (hx : p.tables.exec = Jvm.exec) {i : Int} {z : Int32} (hd : decode c.code pc = .ok (.iconst i, 1)) (hz : Int32.ofInt i = z) (pc' : Nat) (hp : pc + 1 = pc') (r : own_G p e below Q (T.setTop (mkF m pc' Ls (.int z :: st)))) : own_G p e below Q (T.setTop (mkF m pc Ls (st))) := by
  subst hp
  subst hz
  exact own_st (fun t ht => XS.iconst X.here hx rfl hd ht) r
theorem own_bipush (X : Stand p l e R s m args below meth c T locs cells slots) (hx : p.tables.exec = Jvm.exec) {i : Int} {z : Int32} (hd : decode c.code pc = .ok (.bipush i, 2)) (hz : (Int8.ofInt i).toInt32 = z) (pc' : Nat) (hp : pc + 2 = pc') (r : own_G p e below Q (T.setTop (mkF m pc' Ls (.int z :: st)))) : own_G p e below Q (T.setTop (mkF m pc Ls (st))) := by
  subst hp
  subst hz
  exact own_st (fun t ht => XS.bipush X.here hx rfl hd ht) r
theorem own_sipush (X : Stand p l e R s m args below meth c T locs cells slots) (hx : p.tables.exec = Jvm.exec) {i : Int} {z : Int32} (hd : decode c.code pc = .ok (.sipush i, 3)) (hz : (Int16.ofInt i).toInt32 = z) (pc' : Nat) (hp : pc + 3 = pc') (r : own_G p e below Q (T.setTop (mkF m pc' Ls (.int z :: st)))) : own_G p e below Q (T.setTop (mkF m pc Ls (st))) := by
  subst hp
  subst hz
  exact own_st (fun t ht => XS.sipush X.here hx rfl hd ht) r
theorem own_aconstNull (X : Stand p l e R s m args below meth c T locs cells slots) (hx : p.tables.exec = Jvm.exec)  (hd : decode c.code pc = .ok (.aconst_null, 1))  (pc' : Nat) (hp : pc + 1 = pc') (r : own_G p e below Q (T.setTop (mkF m pc' Ls (.null :: st)))) : own_G p e below Q (T.setTop (mkF m pc Ls (st))) := by
  subst hp
  exact own_st (fun t ht => XS.aconstNull X.here hx rfl hd ht) r
theorem own_iadd (X : Stand p l e R s m args below meth c T locs cells slots) (hx : p.tables.exec = Jvm.exec) {x y : Int32} (hd : decode c.code pc = .ok (.iadd, 1))  (pc' : Nat) (hp : pc + 1 = pc') (r : own_G p e below Q (T.setTop (mkF m pc' Ls (.int (x + y) :: st)))) : own_G p e below Q (T.setTop (mkF m pc Ls (.int y :: .int x :: st))) := by
  subst hp
  exact own_st (fun t ht => XS.iadd X.here hx rfl hd rfl ht) r
theorem own_isub (X : Stand p l e R s m args below meth c T locs cells slots) (hx : p.tables.exec = Jvm.exec) {x y : Int32} (hd : decode c.code pc = .ok (.isub, 1))  (pc' : Nat) (hp : pc + 1 = pc') (r : own_G p e below Q (T.setTop (mkF m pc' Ls (.int (x - y) :: st)))) : own_G p e below Q (T.setTop (mkF m pc Ls (.int y :: .int x :: st))) := by
  subst hp
  exact own_st (fun t ht => XS.isub X.here hx rfl hd rfl ht) r
theorem own_imul (X : Stand p l e R s m args below meth c T locs cells slots) (hx : p.tables.exec = Jvm.exec) {x y : Int32} (hd : decode c.code pc = .ok (.imul, 1))  (pc' : Nat) (hp : pc + 1 = pc') (r : own_G p e below Q (T.setTop (mkF m pc' Ls (.int (x * y) :: st)))) : own_G p e below Q (T.setTop (mkF m pc Ls (.int y :: .int x :: st))) := by
  subst hp
  exact own_st (fun t ht => XS.imul X.here hx rfl hd rfl ht) r
theorem own_iand (X : Stand p l e R s m args below meth c T locs cells slots) (hx : p.tables.exec = Jvm.exec) {x y : Int32} (hd : decode c.code pc = .ok (.iand, 1))  (pc' : Nat) (hp : pc + 1 = pc') (r : own_G p e below Q (T.setTop (mkF m pc' Ls (.int (x &&& y) :: st)))) : own_G p e below Q (T.setTop (mkF m pc Ls (.int y :: .int x :: st))) := by
  subst hp
  exact own_st (fun t ht => XS.iand X.here hx rfl hd rfl ht) r
theorem own_ior (X : Stand p l e R s m args below meth c T locs cells slots) (hx : p.tables.exec = Jvm.exec) {x y : Int32} (hd : decode c.code pc = .ok (.ior, 1))  (pc' : Nat) (hp : pc + 1 = pc') (r : own_G p e below Q (T.setTop (mkF m pc' Ls (.int (x ||| y) :: st)))) : own_G p e below Q (T.setTop (mkF m pc Ls (.int y :: .int x :: st))) := by
  subst hp
  exact own_st (fun t ht => XS.ior X.here hx rfl hd rfl ht) r
theorem own_ixor (X : Stand p l e R s m args below meth c T locs cells slots) (hx : p.tables.exec = Jvm.exec) {x y : Int32} (hd : decode c.code pc = .ok (.ixor, 1))  (pc' : Nat) (hp : pc + 1 = pc') (r : own_G p e below Q (T.setTop (mkF m pc' Ls (.int (x ^^^ y) :: st)))) : own_G p e below Q (T.setTop (mkF m pc Ls (.int y :: .int x :: st))) := by
  subst hp
  exact own_st (fun t ht => XS.ixor X.here hx rfl hd rfl ht) r
theorem own_ishl (X : Stand p l e R s m args below meth c T locs cells slots) (hx : p.tables.exec = Jvm.exec) {x y : Int32} (hd : decode c.code pc = .ok (.ishl, 1))  (pc' : Nat) (hp : pc + 1 = pc') (r : own_G p e below Q (T.setTop (mkF m pc' Ls (.int (x <<< (y &&& 31)) :: st)))) : own_G p e below Q (T.setTop (mkF m pc Ls (.int y :: .int x :: st))) := by
  subst hp
  exact own_st (fun t ht => XS.ishl X.here hx rfl hd rfl ht) r
theorem own_ishr (X : Stand p l e R s m args below meth c T locs cells slots) (hx : p.tables.exec = Jvm.exec) {x y : Int32} (hd : decode c.code pc = .ok (.ishr, 1))  (pc' : Nat) (hp : pc + 1 = pc') (r : own_G p e below Q (T.setTop (mkF m pc' Ls (.int (x >>> (y &&& 31)) :: st)))) : own_G p e below Q (T.setTop (mkF m pc Ls (.int y :: .int x :: st))) := by
  subst hp
  exact own_st (fun t ht => XS.ishr X.here hx rfl hd rfl ht) r
theorem own_iushr (X : Stand p l e R s m args below meth c T locs cells slots) (hx : p.tables.exec = Jvm.exec) {x y : Int32} (hd : decode c.code pc = .ok (.iushr, 1))  (pc' : Nat) (hp : pc + 1 = pc') (r : own_G p e below Q (T.setTop (mkF m pc' Ls (.int ((x.toUInt32 >>> (y &&& 31).toUInt32).toInt32) :: st)))) : own_G p e below Q (T.setTop (mkF m pc Ls (.int y :: .int x :: st))) := by
  subst hp
  exact own_st (fun t ht => XS.iushr X.here hx rfl hd rfl ht) r
theorem own_idiv (X : Stand p l e R s m args below meth c T locs cells slots) (hx : p.tables.exec = Jvm.exec) {x y : Int32} (hd : decode c.code pc = .ok (.idiv, 1)) (hy : y ≠ 0) (pc' : Nat) (hp : pc + 1 = pc') (r : own_G p e below Q (T.setTop (mkF m pc' Ls (.int (x / y) :: st)))) : own_G p e below Q (T.setTop (mkF m pc Ls (.int y :: .int x :: st))) := by
  subst hp
  exact own_st (fun t ht => XS.idiv X.here hx rfl hd rfl hy ht) r
theorem own_irem (X : Stand p l e R s m args below meth c T locs cells slots) (hx : p.tables.exec = Jvm.exec) {x y : Int32} (hd : decode c.code pc = .ok (.irem, 1)) (hy : y ≠ 0) (pc' : Nat) (hp : pc + 1 = pc') (r : own_G p e below Q (T.setTop (mkF m pc' Ls (.int (x % y) :: st)))) : own_G p e below Q (T.setTop (mkF m pc Ls (.int y :: .int x :: st))) := by
  subst hp
  exact own_st (fun t ht => iremM X hx rfl hd rfl hy ht) r
theorem own_ineg (X : Stand p l e R s m args below meth c T locs cells slots) (hx : p.tables.exec = Jvm.exec) {x : Int32} (hd : decode c.code pc = .ok (.ineg, 1))  (pc' : Nat) (hp : pc + 1 = pc') (r : own_G p e below Q (T.setTop (mkF m pc' Ls (.int (-x) :: st)))) : own_G p e below Q (T.setTop (mkF m pc Ls (.int x :: st))) := by
  subst hp
  exact own_st (fun t ht => XS.ineg X.here hx rfl hd rfl ht) r
theorem own_i2c (X : Stand p l e R s m args below meth c T locs cells slots) (hx : p.tables.exec = Jvm.exec) {x : Int32} (hd : decode c.code pc = .ok (.i2c, 1))  (pc' : Nat) (hp : pc + 1 = pc') (r : own_G p e below Q (T.setTop (mkF m pc' Ls (.int (x.toUInt32.toUInt16.toUInt32.toInt32) :: st)))) : own_G p e below Q (T.setTop (mkF m pc Ls (.int x :: st))) := by
  subst hp
  exact own_st (fun t ht => XS.i2c X.here hx rfl hd rfl ht) r
theorem own_i2b (X : Stand p l e R s m args below meth c T locs cells slots) (hx : p.tables.exec = Jvm.exec) {x : Int32} (hd : decode c.code pc = .ok (.i2b, 1))  (pc' : Nat) (hp : pc + 1 = pc') (r : own_G p e below Q (T.setTop (mkF m pc' Ls (.int (x.toInt8.toInt32) :: st)))) : own_G p e below Q (T.setTop (mkF m pc Ls (.int x :: st))) := by
  subst hp
  exact own_st (fun t ht => XS.i2b X.here hx rfl hd rfl ht) r
theorem own_dup (X : Stand p l e R s m args below meth c T locs cells slots) (hx : p.tables.exec = Jvm.exec) {x : Value} (hd : decode c.code pc = .ok (.dup, 1)) (hc : x.category = 1) (pc' : Nat) (hp : pc + 1 = pc') (r : own_G p e below Q (T.setTop (mkF m pc' Ls (x :: x :: st)))) : own_G p e below Q (T.setTop (mkF m pc Ls (x :: st))) := by
  subst hp
  exact own_st (fun t ht => XS.dup X.here hx rfl hd rfl hc ht) r
theorem own_dupX1 (X : Stand p l e R s m args below meth c T locs cells slots) (hx : p.tables.exec = Jvm.exec) {x y : Value} (hd : decode c.code pc = .ok (.dup_x1, 1)) (hc : x.category = 1) (hc2 : y.category = 1) (pc' : Nat) (hp : pc + 1 = pc') (r : own_G p e below Q (T.setTop (mkF m pc' Ls (x :: y :: x :: st)))) : own_G p e below Q (T.setTop (mkF m pc Ls (x :: y :: st))) := by
  subst hp
  exact own_st (fun t ht => XS.dupX1 X.here hx rfl hd rfl hc hc2 ht) r
theorem own_pop (X : Stand p l e R s m args below meth c T locs cells slots) (hx : p.tables.exec = Jvm.exec) {x : Value} (hd : decode c.code pc = .ok (.pop, 1)) (hc : x.category = 1) (pc' : Nat) (hp : pc + 1 = pc') (r : own_G p e below Q (T.setTop (mkF m pc' Ls (st)))) : own_G p e below Q (T.setTop (mkF m pc Ls (x :: st))) := by
  subst hp
  exact own_st (fun t ht => XS.pop X.here hx rfl hd rfl hc ht) r
theorem own_iinc (X : Stand p l e R s m args below meth c T locs cells slots) (hx : p.tables.exec = Jvm.exec) {k : Nat} {cst : Int} {x z : Int32} (Lt : Array Slot) (hd : decode c.code pc = .ok (.iinc k cst, 3)) (hl : Ls[k]? = some (.val (.int x))) (hz : x + Int32.ofInt cst = z) (hl' : storeLocals Ls k (.int z) = some Lt) (pc' : Nat) (hp : pc + 3 = pc') (r : own_G p e below Q (T.setTop (mkF m pc' Lt (st)))) : own_G p e below Q (T.setTop (mkF m pc Ls (st))) := by
  subst hp
  subst hz
  exact own_st (fun t ht => XS.iinc X.here hx rfl hd hl hl' ht) r
theorem own_goto (X : Stand p l e R s m args below meth c T locs cells slots) (hx : p.tables.exec = Jvm.exec)  {o : Int} (hd : decode c.code pc = .ok (.goto o, 3))  (pc' : Nat) (ho : 0 ≤ (pc : Int) + o) (hp : ((pc : Int) + o).toNat = pc') (r : own_G p e below Q (T.setTop (mkF m pc' Ls (st)))) : own_G p e below Q (T.setTop (mkF m pc Ls (st))) := own_st (fun t ht => XS.goto X.here hx rfl rfl hd ho hp ht) r
theorem own_ifcT (X : Stand p l e R s m args below meth c T locs cells slots) (hx : p.tables.exec = Jvm.exec) {cd : ClassFile.Cond} {x : Int32} {o : Int} (hd : decode c.code pc = .ok (.ifCond cd o, 3)) (hc : if_icmp.holds cd x 0 = true) (pc' : Nat) (ho : 0 ≤ (pc : Int) + o) (hp : ((pc : Int) + o).toNat = pc') (r : own_G p e below Q (T.setTop (mkF m pc' Ls (st)))) : own_G p e below Q (T.setTop (mkF m pc Ls (.int x :: st))) := own_st (fun t ht => XS.ifYes X.here hx rfl rfl hd rfl ((if0 _ _).trans hc) ho hp ht) r
theorem own_ifcF (X : Stand p l e R s m args below meth c T locs cells slots) (hx : p.tables.exec = Jvm.exec) {cd : ClassFile.Cond} {x : Int32} {o : Int} (hd : decode c.code pc = .ok (.ifCond cd o, 3)) (hc : if_icmp.holds cd x 0 = false) (pc' : Nat) (hp : pc + 3 = pc') (r : own_G p e below Q (T.setTop (mkF m pc' Ls (st)))) : own_G p e below Q (T.setTop (mkF m pc Ls (.int x :: st))) := by
  subst hp
  exact own_st (fun t ht => XS.ifNo X.here hx rfl hd rfl ((if0 _ _).trans hc) ht) r
theorem own_icmpT (X : Stand p l e R s m args below meth c T locs cells slots) (hx : p.tables.exec = Jvm.exec) {cd : ClassFile.Cond} {x y : Int32} {o : Int} (hd : decode c.code pc = .ok (.if_icmp cd o, 3)) (hc : if_icmp.holds cd x y = true) (pc' : Nat) (ho : 0 ≤ (pc : Int) + o) (hp : ((pc : Int) + o).toNat = pc') (r : own_G p e below Q (T.setTop (mkF m pc' Ls (st)))) : own_G p e below Q (T.setTop (mkF m pc Ls (.int y :: .int x :: st))) := own_st (fun t ht => XS.icmpYes X.here hx rfl rfl hd rfl hc ho hp ht) r
theorem own_icmpF (X : Stand p l e R s m args below meth c T locs cells slots) (hx : p.tables.exec = Jvm.exec) {cd : ClassFile.Cond} {x y : Int32} {o : Int} (hd : decode c.code pc = .ok (.if_icmp cd o, 3)) (hc : if_icmp.holds cd x y = false) (pc' : Nat) (hp : pc + 3 = pc') (r : own_G p e below Q (T.setTop (mkF m pc' Ls (st)))) : own_G p e below Q (T.setTop (mkF m pc Ls (.int y :: .int x :: st))) := by
  subst hp
  exact own_st (fun t ht => XS.icmpNo X.here hx rfl hd rfl hc ht) r
theorem own_ifnullT (X : Stand p l e R s m args below meth c T locs cells slots) (hx : p.tables.exec = Jvm.exec)  {o : Int} (hd : decode c.code pc = .ok (.ifnull o, 3))  (pc' : Nat) (ho : 0 ≤ (pc : Int) + o) (hp : ((pc : Int) + o).toNat = pc') (r : own_G p e below Q (T.setTop (mkF m pc' Ls (st)))) : own_G p e below Q (T.setTop (mkF m pc Ls (.null :: st))) := own_st (fun t ht => XS.ifnullYes X.here hx rfl rfl hd rfl ho hp ht) r
theorem own_ifnullF (X : Stand p l e R s m args below meth c T locs cells slots) (hx : p.tables.exec = Jvm.exec) {b : Addr} {o : Int} (hd : decode c.code pc = .ok (.ifnull o, 3))  (pc' : Nat) (hp : pc + 3 = pc') (r : own_G p e below Q (T.setTop (mkF m pc' Ls (st)))) : own_G p e below Q (T.setTop (mkF m pc Ls (.ref b :: st))) := by
  subst hp
  exact own_st (fun t ht => XS.ifnullNo X.here hx rfl hd rfl ht) r
theorem own_ifnonnullT (X : Stand p l e R s m args below meth c T locs cells slots) (hx : p.tables.exec = Jvm.exec) {b : Addr} {o : Int} (hd : decode c.code pc = .ok (.ifnonnull o, 3))  (pc' : Nat) (ho : 0 ≤ (pc : Int) + o) (hp : ((pc : Int) + o).toNat = pc') (r : own_G p e below Q (T.setTop (mkF m pc' Ls (st)))) : own_G p e below Q (T.setTop (mkF m pc Ls (.ref b :: st))) := own_st (fun t ht => XS.ifnonnullYes X.here hx rfl rfl hd rfl ho hp ht) r
theorem own_ifnonnullF (X : Stand p l e R s m args below meth c T locs cells slots) (hx : p.tables.exec = Jvm.exec)  {o : Int} (hd : decode c.code pc = .ok (.ifnonnull o, 3))  (pc' : Nat) (hp : pc + 3 = pc') (r : own_G p e below Q (T.setTop (mkF m pc' Ls (st)))) : own_G p e below Q (T.setTop (mkF m pc Ls (.null :: st))) := by
  subst hp
  exact own_st (fun t ht => XS.ifnonnullNo X.here hx rfl hd rfl ht) r
theorem own_acmpT (X : Stand p l e R s m args below meth c T locs cells slots) (hx : p.tables.exec = Jvm.exec) {cd : ClassFile.ACond} {a b : Addr} {o : Int} (hd : decode c.code pc = .ok (.if_acmp cd o, 3)) (hc : if_acmp.holds cd (some a) (some b) = true) (pc' : Nat) (ho : 0 ≤ (pc : Int) + o) (hp : ((pc : Int) + o).toNat = pc') (r : own_G p e below Q (T.setTop (mkF m pc' Ls (st)))) : own_G p e below Q (T.setTop (mkF m pc Ls (.ref b :: .ref a :: st))) := own_st (fun t ht => XS.acmpYes X.here hx rfl rfl hd rfl hc ho hp ht) r
theorem own_acmpF (X : Stand p l e R s m args below meth c T locs cells slots) (hx : p.tables.exec = Jvm.exec) {cd : ClassFile.ACond} {a b : Addr} {o : Int} (hd : decode c.code pc = .ok (.if_acmp cd o, 3)) (hc : if_acmp.holds cd (some a) (some b) = false) (pc' : Nat) (hp : pc + 3 = pc') (r : own_G p e below Q (T.setTop (mkF m pc' Ls (st)))) : own_G p e below Q (T.setTop (mkF m pc Ls (.ref b :: .ref a :: st))) := by
  subst hp
  exact own_st (fun t ht => XS.acmpNo X.here hx rfl hd rfl hc ht) r
theorem own_ldcI (X : Stand p l e R s m args below meth c T locs cells slots) (hx : p.tables.exec = Jvm.exec) (hZ : Z.Warmed39 s.vm) {own : String} (hown : s.vm.findClass own = some m.cls) {index : Nat} {v : Int32} (w : (Cond.constant own index v).before a0 Z = true) (hd : decode c.code pc = .ok (.ldc index, 2)) (pc' : Nat) (hp : pc + 2 = pc') (r : own_G p e below Q (T.setTop (mkF m pc' Ls (.int v :: st)))) : own_G p e below Q (T.setTop (mkF m pc Ls (st))) := by
  subst hp
  exact own_st (fun t ht => X.ldcInt hx hown (mvT hZ w) (g := mkF m pc Ls st) rfl hd t ht) r
theorem own_ldcwI (X : Stand p l e R s m args below meth c T locs cells slots) (hx : p.tables.exec = Jvm.exec) (hZ : Z.Warmed39 s.vm) {own : String} (hown : s.vm.findClass own = some m.cls) {index : Nat} {v : Int32} (w : (Cond.constant own index v).before a0 Z = true) (hd : decode c.code pc = .ok (.ldc_w index, 3)) (pc' : Nat) (hp : pc + 3 = pc') (r : own_G p e below Q (T.setTop (mkF m pc' Ls (.int v :: st)))) : own_G p e below Q (T.setTop (mkF m pc Ls (st))) := by
  subst hp
  exact own_st (fun t ht => X.ldcwInt hx hown (mvT hZ w) (g := mkF m pc Ls st) rfl hd t ht) r
theorem own_ifT {α : Type} {c : Prop} [Decidable c] {a b r : α} (hc : c) (h : (if c then a else b) = r) : a = r := (if_pos hc).symm.trans h
theorem own_ifF {α : Type} {c : Prop} [Decidable c] {a b r : α} (hc : ¬ c) (h : (if c then a else b) = r) : b = r := (if_neg hc).symm.trans h
/-- what a body leaves -/
def own_End (s : State) (rm : Room) (n0 : Nat) (P : Option Value → Heap → Prop) (o : Outcome) (t : State) : Prop := ∃ v L, o = .returned v ∧ (Fr n0 L ∧ P v t.heap) ∧ FrameEnd s o t L rm.cells rm.slots
/-- a body's contract -/
def own_Met (l : Launch) (Z : State) (y : MethodName) (bytes : ByteArray) (maxL : Nat) (ret : Option FieldType) (ws : List Jvm.Cond) (rm : Room) (as' : Array Value) (h0 : Heap) (n0 : Nat) (P : Option Value → Heap → Prop) : Prop :=
  MetFree l y (head1 (Jvm.Cond.code y bytes maxL ret :: ws) rm) (fun a U => a = as' ∧ Z.Warmed39 U.vm ∧ U.heap = h0) (fun _ _ _ _ _ => True) (fun _ U o U' => own_End U rm n0 P o U')
variable {y : MethodName} {bytes : ByteArray} {maxL : Nat} {ret : Option FieldType} {ws : List Jvm.Cond} {rm : Room} {as' : Array Value} {h0 : Heap} {n0 : Nat} {P : Option Value → Heap → Prop}
theorem own_body (pn : plainName y.cls = true) (body : ∀ p e s m below meth c T, Stand p l e rm s m as' below meth c T [] 0 0 → p.tables.exec = Jvm.exec → c.code = bytes → c.maxLocals = maxL → s.vm.findClass y.cls = some m.cls → meth.name = y.name → Z.Warmed39 s.vm → T.heap = h0 → meth.sig.returnType = ret → meth.locks = false →
    own_G p e below (own_End s rm n0 P) (T.setTop (entryFrame m as' maxL))) : own_Met l Z y bytes maxL ret ws rm as' h0 n0 P := by
  refine MetFree.of_bodySF (plainFor_of_name pn) hisR ?_
  intro p e s m args below meth c s₁ Bd hml0 hP hK
  obtain ⟨e1, hZ, hh⟩ := hP
  cases e1
  exact body p e s m below meth c s₁ (Stand.of_body Bd) Bd.exec Bd.bytes hml0 (findClass_of_methodNamed Bd.named) (name_of_methodNamed Bd.named Bd.method).1 hZ (by rw [← hh, Bd.state]; rfl) Bd.returns Bd.notSynchronized
theorem own_stepI (X : Stand p l e R s m args below meth c T locs cells slots) (hx : p.tables.exec = Jvm.exec) {z : Int32} (hret : meth.sig.returnType = some .int) (hd : decode c.code pc = .ok (.ireturn, 1)) {fs : List Frame}
    (hl : ∀ (f : JFrame) (acts : List Action), f.method = m → f.locked = none → f.entered = [] → (doReturn e (T.setTop f) acts (some (.int z))).1 = T.setFrames fs) : Steps p.tables e below (T.setTop (mkF m pc Ls (.int z :: st))) (T.setFrames fs) :=
  retOut X hx hret rfl (Or.inl ⟨rfl, Or.inl rfl, z, rfl⟩) hd hl
theorem own_retI (X : Stand p l e R s m args below meth c T locs cells slots) (hx : p.tables.exec = Jvm.exec) {z : Int32} (hret : meth.sig.returnType = some .int) (hlk : meth.locks = false) (hd : decode c.code pc = .ok (.ireturn, 1)) (hc : cells ≤ rm.cells) (hs : slots ≤ rm.slots) (N : Fr n0 locs) (eT : T.heap = h) (hq : P (some (.int z)) h) :
    own_G p e below (own_End s rm n0 P) (T.setTop (mkF m pc Ls (.int z :: st))) := by
  subst eT
  obtain ⟨fs, hr, hrun, hended, hW, hsame⟩ := X.leave (v := some (.int z)) (fun h => by rw [hret] at h; cases h) hlk
  exact ⟨_, _, own_stepI X hx hret hd hr, hrun, hended, _, _, rfl, ⟨N, hq⟩, ⟨_, rfl⟩, hW, hsame.mono hc hs⟩
theorem own_retN (X : Stand p l e R s m args below meth c T locs cells slots) (hx : p.tables.exec = Jvm.exec) {z : Int32} {t : FieldType} (hret : meth.sig.returnType = some t) (ht : t = .boolean ∨ t = .byte ∨ t = .char ∨ t = .short) (hlk : meth.locks = false) (hd : decode c.code pc = .ok (.ireturn, 1)) (hc : cells ≤ rm.cells) (hs : slots ≤ rm.slots) (N : Fr n0 locs) (eT : T.heap = h) (hq : P (some (.int (nar t z))) h) :
    own_G p e below (own_End s rm n0 P) (T.setTop (mkF m pc Ls (.int z :: st))) := by
  subst eT
  obtain ⟨fs, hr, hrun, hended, hW, hsame⟩ := X.leave (v := some (.int (nar t z))) (fun h => by rw [hret] at h; cases h) hlk
  exact ⟨_, _, retN X hx hret ht hd hr, hrun, hended, _, _, rfl, ⟨N, hq⟩, ⟨_, rfl⟩, hW, hsame.mono hc hs⟩
theorem own_retA (X : Stand p l e R s m args below meth c T locs cells slots) (hx : p.tables.exec = Jvm.exec) {v : Value} {t : FieldType} (hret : meth.sig.returnType = some t) (ht : t.isReference = true) (hv : v.isRef = true) (hn : narrow t v = v) (hlk : meth.locks = false) (hd : decode c.code pc = .ok (.areturn, 1)) (hc : cells ≤ rm.cells) (hs : slots ≤ rm.slots) (N : Fr n0 locs) (eT : T.heap = h) (hq : P (some v) h) :
    own_G p e below (own_End s rm n0 P) (T.setTop (mkF m pc Ls (v :: st))) := by
  subst eT
  obtain ⟨fs, hr, hrun, hended, hW, hsame⟩ := X.leave (v := some v) (fun h => by rw [hret] at h; cases h) hlk
  exact ⟨_, _, retOut X hx hret hn (Or.inr (Or.inr (Or.inr (Or.inr ⟨rfl, ht, hv⟩)))) hd hr, hrun, hended, _, _, rfl, ⟨N, hq⟩, ⟨_, rfl⟩, hW, hsame.mono hc hs⟩
theorem own_retV (X : Stand p l e R s m args below meth c T locs cells slots) (hx : p.tables.exec = Jvm.exec) (hret : meth.sig.returnType = none) (hlk : meth.locks = false) (hd : decode c.code pc = .ok (.return_, 1)) (hc : cells ≤ rm.cells) (hs : slots ≤ rm.slots) (N : Fr n0 locs) (eT : T.heap = h) (hq : P none h) :
    own_G p e below (own_End s rm n0 P) (T.setTop (mkF m pc Ls [])) := by
  subst eT
  obtain ⟨fs, hr, hrun, hended, hW, hsame⟩ := X.leave (v := none) (fun _ => rfl) hlk
  exact ⟨_, _, X.returnOut hx hret hd hr, hrun, hended, _, _, rfl, ⟨N, hq⟩, ⟨_, rfl⟩, hW, hsame.mono hc hs⟩
/-- the callee's contract as the premise that a call by contract takes -/
theorem own_back {below' : List Frame} {W : Nat} {len : Nat} (M : own_Met l Z y bytes maxL ret [] rm as' h n0 P) (hZ : Z.Warmed39 s.vm) (wc : (Cond.code y bytes maxL ret).before a0 Z = true) (wz : (Cond.initialized y.cls).before a0 Z = true) (hf : rm.frames + 1 ≤ R.frames) (hl : W + (maxL + 11) + rm.locals ≤ R.locals) :
    Back l R p e below s args y len W (fun A a => a = as' ∧ A.U.heap = h ∧ A.cells + rm.cells ≤ R.cells ∧ A.slots + rm.slots ≤ R.slots)
      (fun A _ v B => ∃ L, (Fr n0 L ∧ P v B.U.heap) ∧ B.locs = A.locs ++ L ∧ B.cells = A.cells + rm.cells ∧ B.slots = A.slots + rm.slots) :=
  backOf (Q := fun v h L => Fr n0 L ∧ P v h) M hZ wc wz hf hl
theorem own_callS (X : Stand p l e R s m args below meth c T locs cells slots) (hx : p.tables.exec = Jvm.exec) (hZ : Z.Warmed39 s.vm) {own : String} {index : Nat} (hown : s.vm.findClass own = some m.cls) (w1 : (Cond.methodLink own index y).before a0 Z = true) (w2 : (Cond.static y).before a0 Z = true) (wz : (Cond.initialized y.cls).before a0 Z = true) (wc : (Cond.code y bytes maxL ret).before a0 Z = true)
    (hy : y.cls ≠ "java/lang/invoke/MethodHandle" ∧ y.cls ≠ "java/lang/invoke/VarHandle") (W : Nat) (M : own_Met l Z y bytes maxL ret [] rm as' h n0 P) (eT : T.heap = h) (hml : Ls.size = c.maxLocals) (argsL rest : List Value) (ha : argsL.toArray = as') (hlen : ∀ sig, parseMethodDescriptor y.desc = some sig → argsL.length = sig.parameters.length)
    (hst : st = argsL.reverse ++ rest) (hW : (rest.map fun v => v.category).sum ≤ W) (hf : rm.frames + 1 ≤ R.frames) (hl : W + (maxL + 11) + rm.locals ≤ R.locals) (hcl : cells + rm.cells ≤ R.cells) (hsl : slots + rm.slots ≤ R.slots) (hd : decode c.code pc = .ok (.invokestatic index, 3)) (N : Fr n0 locs) (pc' : Nat) (hp : pc + 3 = pc')
    (k : ∀ v T' locs', Stand p l e R s m args below meth c T' locs' (cells + rm.cells) (slots + rm.slots) → Fr n0 locs' → P v T'.heap → own_G p e below Q (T'.setTop (mkF m pc' Ls (v.toList ++ rest)))) : own_G p e below Q (T.setTop (mkF m pc Ls st)) := by
  subst hp
  obtain ⟨v, _, ⟨T', L', k', n'⟩, -, X', ⟨Lc, hQ, l1, y1, z1⟩, stp⟩ := Jvm.LawKit.callS X hx (y := y) hown (mvT hZ w1) (mvT hZ w2) (mvT hZ wz) (mvT hZ wc) hy (own_back (below' := below) (W := W) M hZ wc wz hf hl) (g := mkF m pc Ls st) rfl hml (argsL := argsL) (rest := rest) hlen hst (by show 2 * 0 + _ ≤ _; omega) hd (fun _ _ => ⟨ha, eT, hcl, hsl⟩)
  dsimp only [Pt.U, Pt.locs, Pt.cells, Pt.slots] at X' l1 y1 z1 stp hQ
  subst l1 y1 z1
  exact own_st stp (k v T' _ X' (N.app hQ.1) hQ.2)
theorem own_callI (X : Stand p l e R s m args below meth c T locs cells slots) (hx : p.tables.exec = Jvm.exec) (hZ : Z.Warmed39 s.vm) {own : String} {index : Nat} (hown : s.vm.findClass own = some m.cls) (hi : y.name = "<init>") (w1 : (Cond.methodLink own index y).before a0 Z = true) (w2 : (Cond.instanceMethod y).before a0 Z = true) (wz : (Cond.initialized y.cls).before a0 Z = true) (wc : (Cond.code y bytes maxL none).before a0 Z = true)
    (hy : y.cls ≠ "java/lang/invoke/MethodHandle" ∧ y.cls ≠ "java/lang/invoke/VarHandle") (W : Nat) (M : own_Met l Z y bytes maxL none [] rm as' h n0 P) (eT : T.heap = h) (hml : Ls.size = c.maxLocals) (a : Addr) (argsL rest : List Value) (ha : (Value.ref a :: argsL).toArray = as') (hlen : ∀ sig, parseMethodDescriptor y.desc = some sig → argsL.length = sig.parameters.length)
    (hst : st = argsL.reverse ++ .ref a :: rest) (hW : (rest.map fun v => v.category).sum ≤ W) (hf : rm.frames + 1 ≤ R.frames) (hl : W + (maxL + 11) + rm.locals ≤ R.locals) (hcl : cells + rm.cells ≤ R.cells) (hsl : slots + rm.slots ≤ R.slots) (hd : decode c.code pc = .ok (.invokespecial index, 3)) (N : Fr n0 locs) (pc' : Nat) (hp : pc + 3 = pc')
    (k : ∀ v T' locs', Stand p l e R s m args below meth c T' locs' (cells + rm.cells) (slots + rm.slots) → Fr n0 locs' → P v T'.heap → own_G p e below Q (T'.setTop (mkF m pc' Ls (v.toList ++ rest)))) : own_G p e below Q (T.setTop (mkF m pc Ls st)) := by
  subst hp
  obtain ⟨v, _, ⟨T', L', k', n'⟩, -, X', ⟨Lc, hQ, l1, y1, z1⟩, stp⟩ := X.specialBack hx (y := y) hi hown (mvT hZ w1) (mvT hZ w2) (mvT hZ wc) hy (own_back (below' := below) (W := W) M hZ wc wz hf hl) (g := mkF m pc Ls st) rfl hml (Steps.refl _) (a := a) (argsL := argsL) (rest := rest) hlen hst (by show 2 * 0 + _ ≤ _; omega) hd (fun _ _ => ⟨ha, eT, hcl, hsl⟩)
  dsimp only [Pt.U, Pt.locs, Pt.cells, Pt.slots] at X' l1 y1 z1 stp hQ
  subst l1 y1 z1
  exact own_st (fun t ht => stp.trans ht) (k v T' _ X' (N.app hQ.1) hQ.2)
theorem own_callV (X : Stand p l e R s m args below meth c T locs cells slots) (hx : p.tables.exec = Jvm.exec) (hZ : Z.Warmed39 s.vm) {own C : String} {index : Nat} (hown : s.vm.findClass own = some m.cls) (w1 : (Cond.methodLink own index y).before a0 Z = true) (w2 : (Cond.declares y).before a0 Z = true) (w3 : (Cond.selects C y y).before a0 Z = true) (w4 : (Cond.instanceMethod y).before a0 Z = true) (wz : (Cond.initialized y.cls).before a0 Z = true) (wc : (Cond.code y bytes maxL ret).before a0 Z = true)
    (hy : y.cls ≠ "java/lang/invoke/MethodHandle" ∧ y.cls ≠ "java/lang/invoke/VarHandle") (W : Nat) (M : own_Met l Z y bytes maxL ret [] rm as' h n0 P) (eT : T.heap = h) {a : Addr} (E : Exa Z h a C) (hml : Ls.size = c.maxLocals) (argsL rest : List Value) (ha : (Value.ref a :: argsL).toArray = as') (hlen : ∀ sig, parseMethodDescriptor y.desc = some sig → argsL.length = sig.parameters.length)
    (hst : st = argsL.reverse ++ .ref a :: rest) (hW : (rest.map fun v => v.category).sum ≤ W) (hf : rm.frames + 1 ≤ R.frames) (hl : W + (maxL + 11) + rm.locals ≤ R.locals) (hcl : cells + rm.cells ≤ R.cells) (hsl : slots + rm.slots ≤ R.slots) (hd : decode c.code pc = .ok (.invokevirtual index, 3)) (N : Fr n0 locs) (pc' : Nat) (hp : pc + 3 = pc')
    (k : ∀ v T' locs', Stand p l e R s m args below meth c T' locs' (cells + rm.cells) (slots + rm.slots) → Fr n0 locs' → P v T'.heap → own_G p e below Q (T'.setTop (mkF m pc' Ls (v.toList ++ rest)))) : own_G p e below Q (T.setTop (mkF m pc Ls st)) := by
  subst hp
  obtain ⟨_, _, qa, _, qc⟩ := isOf hZ eT E
  obtain ⟨v, _, ⟨T', L', k', n'⟩, -, X', ⟨Lc, hQ, l1, y1, z1⟩, stp⟩ := X.virtualBack hx (y := y) (z := y) hown (mvT hZ w1) (mvT hZ w2) (notFace_of_selects (args := #[]) (mvT hZ w3)) (mvT hZ w3) (mvT hZ w4) hy (own_back (below' := below) (W := W) M hZ wc wz hf hl) qa qc (g := mkF m pc Ls st) rfl hml (Steps.refl _) (argsL := argsL) (rest := rest) hlen hst (by show 2 * 0 + _ ≤ _; omega) hd (fun _ _ => ⟨ha, eT, hcl, hsl⟩)
  dsimp only [Pt.U, Pt.locs, Pt.cells, Pt.slots] at X' l1 y1 z1 stp hQ
  subst l1 y1 z1
  exact own_st (fun t ht => stp.trans ht) (k v T' _ X' (N.app hQ.1) hQ.2)
/-- an 'invokevirtual' of a private method, by its contract; that its class is no interface is read off the 'instantiable' word -/
theorem own_callP (X : Stand p l e R s m args below meth c T locs cells slots) (hx : p.tables.exec = Jvm.exec) (hZ : Z.Warmed39 s.vm) {own : String} {index kk : Nat} (hown : s.vm.findClass own = some m.cls) (w1 : (Cond.methodLink own index y).before a0 Z = true) (w4 : (Cond.instanceMethod y).before a0 Z = true) (w5 : (Cond.privateMethod y).before a0 Z = true) (w6 : (Cond.instantiable y.cls kk).before a0 Z = true) (wz : (Cond.initialized y.cls).before a0 Z = true) (wc : (Cond.code y bytes maxL ret).before a0 Z = true)
    (hy : y.cls ≠ "java/lang/invoke/MethodHandle" ∧ y.cls ≠ "java/lang/invoke/VarHandle") (W : Nat) (M : own_Met l Z y bytes maxL ret [] rm as' h n0 P) (eT : T.heap = h) {a : Addr} {C : String} (E : Exa Z h a C) (hml : Ls.size = c.maxLocals) (argsL rest : List Value) (ha : (Value.ref a :: argsL).toArray = as') (hlen : ∀ sig, parseMethodDescriptor y.desc = some sig → argsL.length = sig.parameters.length)
    (hst : st = argsL.reverse ++ .ref a :: rest) (hW : (rest.map fun v => v.category).sum ≤ W) (hf : rm.frames + 1 ≤ R.frames) (hl : W + (maxL + 11) + rm.locals ≤ R.locals) (hcl : cells + rm.cells ≤ R.cells) (hsl : slots + rm.slots ≤ R.slots) (hd : decode c.code pc = .ok (.invokevirtual index, 3)) (N : Fr n0 locs) (pc' : Nat) (hp : pc + 3 = pc')
    (k : ∀ v T' locs', Stand p l e R s m args below meth c T' locs' (cells + rm.cells) (slots + rm.slots) → Fr n0 locs' → P v T'.heap → own_G p e below Q (T'.setTop (mkF m pc' Ls (v.toList ++ rest)))) : own_G p e below Q (T.setTop (mkF m pc Ls st)) := by
  subst hp
  obtain ⟨cell, q1, q2⟩ := E.cell
  obtain ⟨mk, methM, hnamed, hmethM, hstM, habM⟩ := Cond.instanceMethod_spec (mvT (args := args) hZ w4)
  obtain ⟨methM', cM, hmethM', -, -, -, -, -, -, hsigM⟩ := Cond.code_spec hnamed (mvT (args := args) hZ wc)
  cases hmethM.symm.trans hmethM'
  obtain ⟨cC, kP, i1, hkP, -, i4, -⟩ := Cond.instantiable_spec (mvT (args := args) hZ w6)
  cases i1.symm.trans (findClass_of_methodNamed hnamed)
  have hkPi : kP.isInterface = false := by
    simp only [Bool.or_eq_false_iff] at i4
    exact i4.1
  have hpriv := Cond.privateMethod_at (mvP (args := args) hZ w5)
  obtain ⟨vm₁, X₁, hstep⟩ := X.invokevirtual hx hown (mvT hZ w1) hnamed hmethM hstM hkP hkPi hy (a := a) (cell := cell) (by rw [eT]; exact q1) q2 (selectMethod_private hmethM (hpriv mk methM hnamed hmethM)) hmethM habM hkP hkPi (g := mkF m pc Ls st) rfl (argsL := argsL) (rest := rest) (hlen _ hsigM) hst hd
  obtain ⟨v, ⟨T', L', k', n'⟩, X', ⟨Lc, hQ, l1, y1, z1⟩, stp⟩ := own_back (below' := below) (W := W) (len := 3) M hZ wc wz hf hl m meth c ⟨T.setVm vm₁, locs, cells, slots⟩ { (mkF m pc Ls st) with stack := rest } (.invokevirtual index) mk (.ref a :: argsL).toArray X₁ rfl hml hd (by show 2 * 0 + (rest.map fun v => v.category).sum ≤ W; omega) (X₁.named hnamed) ⟨ha, eT, hcl, hsl⟩
  dsimp only [Pt.U, Pt.locs, Pt.cells, Pt.slots] at X' l1 y1 z1 stp hQ
  subst l1 y1 z1
  exact own_st (fun t ht => hstep _ fun acts => by rw [doInvoke_state]; exact stp.trans ht) (k v T' _ X' (N.app hQ.1) hQ.2)
theorem own_getF (X : Stand p l e R s m args below meth c T locs cells slots) (hx : p.tables.exec = Jvm.exec) (hZ : Z.Warmed39 s.vm) {own : String} (hown : s.vm.findClass own = some m.cls) {O n d : String} {index : Nat} (w : (Cond.fieldLink own index O n d).before a0 Z = true) (eT : T.heap = h) {a : Addr} {v : Value} (F : Fld Z h a O n d v) (hd : decode c.code pc = .ok (.getfield index, 3)) (pc' : Nat) (hp : pc + 3 = pc')
    (k : ∀ T', Stand p l e R s m args below meth c T' locs cells slots → T'.heap = h → own_G p e below Q (T'.setTop (mkF m pc' Ls (v :: st)))) : own_G p e below Q (T.setTop (mkF m pc Ls (.ref a :: st))) := by
  subst hp
  obtain ⟨T', X', e', stp⟩ := getF X hx hZ hown (host := "") (Or.inl w) Via.refl eT F (g := mkF m pc Ls (.ref a :: st)) rfl rfl hd
  exact own_st stp (k T' X' e')
theorem own_putF (X : Stand p l e R s m args below meth c T locs cells slots) (hx : p.tables.exec = Jvm.exec) (hZ : Z.Warmed39 s.vm) {own : String} (hown : s.vm.findClass own = some m.cls) {O n d C : String} {index kk : Nat} {ty : FieldType} (w : (Cond.fieldLink own index O n d).before a0 Z = true) (eT : T.heap = h) {a : Addr} {v old : Value} (F : Fld Z h a O n d old) (E : Exa Z h a C) (L : (Cond.lays C O n d).before a0 Z = true ∨ ((Cond.laysFinal C O n d).before a0 Z = true ∧ own = O ∧ meth.name = "<init>")) (wi : (Cond.instantiable C kk).before a0 Z = true)
    (hty : parseFieldDescriptor d = some ty) (hn : narrow ty v = v) (hf : fits ty v = true) (hd : decode c.code pc = .ok (.putfield index, 3)) (N : Fr n0 locs) (g : n0 ≤ a) (pc' : Nat) (hp : pc + 3 = pc')
    (k : ∀ T' h' locs', Stand p l e R s m args below meth c T' locs' cells slots → Fr n0 locs' → T'.heap = h' → Wr h h' a (Jvm.RoadKit.slotOf Z O n d) v → own_G p e below Q (T'.setTop (mkF m pc' Ls st))) : own_G p e below Q (T.setTop (mkF m pc Ls (v :: .ref a :: st))) := by
  subst hp
  obtain ⟨T', h', X', e', W, stp⟩ := putF X hx hZ hown (host := "") (Or.inl w) Via.refl eT F E L wi hty hn hf (g := mkF m pc Ls (v :: .ref a :: st)) rfl rfl hd
  exact own_st stp (k T' h' _ X' (Fr.snoc X' N g) e' W)
/-- putfield of a boolean, byte, char or short: v' is what the field then holds -/
theorem own_putFN (X : Stand p l e R s m args below meth c T locs cells slots) (hx : p.tables.exec = Jvm.exec) (hZ : Z.Warmed39 s.vm) {own : String} (hown : s.vm.findClass own = some m.cls) {O n d C : String} {index kk : Nat} {ty : FieldType} (w : (Cond.fieldLink own index O n d).before a0 Z = true) (eT : T.heap = h) {a : Addr} {v v' old : Value} (F : Fld Z h a O n d old) (E : Exa Z h a C) (L : (Cond.lays C O n d).before a0 Z = true ∨ ((Cond.laysFinal C O n d).before a0 Z = true ∧ own = O ∧ meth.name = "<init>")) (wi : (Cond.instantiable C kk).before a0 Z = true)
    (hty : parseFieldDescriptor d = some ty) (hn : narrow ty v = v') (hf : fits ty v' = true) (hd : decode c.code pc = .ok (.putfield index, 3)) (N : Fr n0 locs) (g : n0 ≤ a) (pc' : Nat) (hp : pc + 3 = pc')
    (k : ∀ T' h' locs', Stand p l e R s m args below meth c T' locs' cells slots → Fr n0 locs' → T'.heap = h' → Wr h h' a (Jvm.RoadKit.slotOf Z O n d) v' → own_G p e below Q (T'.setTop (mkF m pc' Ls st))) : own_G p e below Q (T.setTop (mkF m pc Ls (v :: .ref a :: st))) := by
  subst hp
  obtain ⟨T', h', X', e', W, stp⟩ := putFN X hx hZ hown w Via.refl eT F E L wi hty hn hf (g := mkF m pc Ls (v :: .ref a :: st)) rfl rfl hd
  exact own_st stp (k T' h' _ X' (Fr.snoc X' N g) e' W)
theorem own_initO (X : Stand p l e R s m args below meth c T locs cells slots) (hx : p.tables.exec = Jvm.exec) (hZ : Z.Warmed39 s.vm) {own : String} (hown : s.vm.findClass own = some m.cls) {index : Nat} (w1 : (Cond.methodLink own index ⟨"java/lang/Object", "<init>", "()V"⟩).before a0 Z = true) (w2 : (Cond.instanceMethod ⟨"java/lang/Object", "<init>", "()V"⟩).before a0 Z = true) (w3 : (Cond.code ⟨"java/lang/Object", "<init>", "()V"⟩ object_method_1_code 1 none).before a0 Z = true) (eT : T.heap = h) (hml : Ls.size = c.maxLocals) {a : Addr} (hd : decode c.code pc = .ok (.invokespecial index, 3)) (W : Nat) (hf : 1 ≤ R.frames) (hW : (st.map fun v => v.category).sum ≤ W) (hl : W + 12 ≤ R.locals) (pc' : Nat) (hp : pc + 3 = pc')
    (k : ∀ T', Stand p l e R s m args below meth c T' locs cells slots → T'.heap = h → own_G p e below Q (T'.setTop (mkF m pc' Ls st))) : own_G p e below Q (T.setTop (mkF m pc Ls (.ref a :: st))) := by
  subst hp
  obtain ⟨T', X', e', stp⟩ := initO X hx hZ hown w1 w2 w3 eT (g := mkF m pc Ls (.ref a :: st)) rfl hml rfl hd hf (W := W) (by show 2 * 0 + _ ≤ _; omega) hl
  exact own_st stp (k T' X' e')
theorem own_getS (X : Stand p l e R s m args below meth c T locs cells slots) (hx : p.tables.exec = Jvm.exec) (hZ : Z.Warmed39 s.vm) {own : String} (hown : s.vm.findClass own = some m.cls) {O n d : String} {index : Nat} (w : (Cond.fieldLink own index O n d).before a0 Z = true) (eT : T.heap = h) {v : Value} (F : Sta Z h O n d v) (hd : decode c.code pc = .ok (.getstatic index, 3)) (pc' : Nat) (hp : pc + 3 = pc')
    (k : ∀ T', Stand p l e R s m args below meth c T' locs cells slots → T'.heap = h → own_G p e below Q (T'.setTop (mkF m pc' Ls (v :: st)))) : own_G p e below Q (T.setTop (mkF m pc Ls st)) := by
  subst hp
  obtain ⟨T', X', e', stp⟩ := getS2 X hx hZ hown (host := "") (Or.inl w) Via.refl eT F (g := mkF m pc Ls st) rfl hd
  exact own_st stp (k T' X' e')
theorem own_instY (X : Stand p l e R s m args below meth c T locs cells slots) (hx : p.tables.exec = Jvm.exec) (hZ : Z.Warmed39 s.vm) {own : String} (hown : s.vm.findClass own = some m.cls) {K : String} {index : Nat} (w : (Cond.classLink own index K).before a0 Z = true) (eT : T.heap = h) {a : Addr} (F : Ins Z h a K true) (hd : decode c.code pc = .ok (.instanceof index, 3)) (pc' : Nat) (hp : pc + 3 = pc')
    (k : ∀ T', Stand p l e R s m args below meth c T' locs cells slots → T'.heap = h → own_G p e below Q (T'.setTop (mkF m pc' Ls (.int 1 :: st)))) : own_G p e below Q (T.setTop (mkF m pc Ls (.ref a :: st))) := by
  subst hp
  obtain ⟨T', X', e', stp⟩ := instY X hx hZ hown w eT F (g := mkF m pc Ls (.ref a :: st)) rfl rfl hd
  exact own_st stp (k T' X' e')
theorem own_instNo (X : Stand p l e R s m args below meth c T locs cells slots) (hx : p.tables.exec = Jvm.exec) (hZ : Z.Warmed39 s.vm) {own : String} (hown : s.vm.findClass own = some m.cls) {K C : String} {index : Nat} (w : (Cond.classLink own index K).before a0 Z = true) (eT : T.heap = h) {a : Addr} (E : Exa Z h a C) (F : ∃ c t, Z.vm.findClass C = some c ∧ Z.vm.findClass K = some t ∧ Z.vm.assignable c t = false) (hd : decode c.code pc = .ok (.instanceof index, 3)) (pc' : Nat) (hp : pc + 3 = pc')
    (k : ∀ T', Stand p l e R s m args below meth c T' locs cells slots → T'.heap = h → own_G p e below Q (T'.setTop (mkF m pc' Ls (.int 0 :: st)))) : own_G p e below Q (T.setTop (mkF m pc Ls (.ref a :: st))) := by
  subst hp
  obtain ⟨T', X', e', stp⟩ := instNo X hx hZ hown w eT E F (g := mkF m pc Ls (.ref a :: st)) rfl rfl hd
  exact own_st stp (k T' X' e')
theorem own_instNull (X : Stand p l e R s m args below meth c T locs cells slots) (hx : p.tables.exec = Jvm.exec) {index : Nat} (hd : decode c.code pc = .ok (.instanceof index, 3)) (pc' : Nat) (hp : pc + 3 = pc') (r : own_G p e below Q (T.setTop (mkF m pc' Ls (.int 0 :: st)))) : own_G p e below Q (T.setTop (mkF m pc Ls (.null :: st))) := by
  subst hp
  exact own_st (fun t ht => X.instanceofNull hx (g := mkF m pc Ls (.null :: st)) rfl rfl hd t ht) r
theorem own_castY (X : Stand p l e R s m args below meth c T locs cells slots) (hx : p.tables.exec = Jvm.exec) (hZ : Z.Warmed39 s.vm) {own : String} (hown : s.vm.findClass own = some m.cls) {K : String} {index : Nat} (w : (Cond.classLink own index K).before a0 Z = true) (eT : T.heap = h) {a : Addr} (F : Ins Z h a K true) (hd : decode c.code pc = .ok (.checkcast index, 3)) (pc' : Nat) (hp : pc + 3 = pc')
    (k : ∀ T', Stand p l e R s m args below meth c T' locs cells slots → T'.heap = h → own_G p e below Q (T'.setTop (mkF m pc' Ls (.ref a :: st)))) : own_G p e below Q (T.setTop (mkF m pc Ls (.ref a :: st))) := by
  subst hp
  obtain ⟨T', X', e', stp⟩ := castY X hx hZ hown w eT F (g := mkF m pc Ls (.ref a :: st)) rfl rfl hd
  exact own_st stp (k T' X' e')
theorem own_aaload (X : Stand p l e R s m args below meth c T locs cells slots) (hx : p.tables.exec = Jvm.exec) (hZ : Z.Warmed39 s.vm) (eT : T.heap = h) {a : Addr} {cl : Cell} {K : String} (A : Arr Z h a cl (.object K)) {j : Int32} {v : Value} (hj : ¬ (j < 0 ∨ cl.slots.size ≤ j.toNatClampNeg)) (hv : cl.slots[j.toNatClampNeg]? = some v) (hd : decode c.code pc = .ok (.aaload, 1)) (pc' : Nat) (hp : pc + 1 = pc') (r : own_G p e below Q (T.setTop (mkF m pc' Ls (v :: st)))) : own_G p e below Q (T.setTop (mkF m pc Ls (.int j :: .ref a :: st))) := by
  subst hp
  exact own_st (fun t ht => X.aaload hx (j := j) (by rw [eT]; exact A.1) (State.isArrayOf_alike hZ.alike A.2.1) rfl A.2.2 hj hv (g := mkF m pc Ls (.int j :: .ref a :: st)) rfl rfl hd t ht) r
theorem own_newO (X : Stand p l e R s m args below meth c T locs cells slots) (hx : p.tables.exec = Jvm.exec) (hZ : Z.Warmed39 s.vm) {own : String} (hown : s.vm.findClass own = some m.cls) {C : String} {index n : Nat} (w : (Cond.classLink own index C).before a0 Z = true) (wi : (Cond.instantiable C n).before a0 Z = true) (wz : (Cond.initialized C).before a0 Z = true) (eT : T.heap = h) (hd : decode c.code pc = .ok (.new index, 3)) (hc : cells + 1 ≤ R.cells) (hl : slots + n ≤ R.slots) (pc' : Nat) (hp : pc + 3 = pc')
    (k : ∀ T' h' a, a = h.size → Stand p l e R s m args below meth c T' locs (cells + 1) (slots + n) → T'.heap = h' → Ext h h' → Exa Z h' a C → (∀ {O nm d : String} {ty : FieldType}, Laid Z a0 C O nm d → parseFieldDescriptor d = some ty → Fld Z h' a O nm d (defaultValue ty)) → own_G p e below Q (T'.setTop (mkF m pc' Ls (.ref a :: st)))) : own_G p e below Q (T.setTop (mkF m pc Ls st)) := by
  subst hp
  obtain ⟨T', h', X', e', E, A, D, -, stp⟩ := newO X hx hZ hown w wi wz eT (g := mkF m pc Ls st) rfl hd hc hl
  exact own_st stp (k T' h' _ rfl X' e' E A D)
theorem own_newP (X : Stand p l e R s m args below meth c T locs cells slots) (hx : p.tables.exec = Jvm.exec) (hZ : Z.Warmed39 s.vm) {aty : ArrayType} (w : (Cond.arrayClass (newarray.typeOf aty)).before a0 Z = true) (eT : T.heap = h) (hd : decode c.code pc = .ok (.newarray aty, 2)) {n : Int32} (hn : ¬ n < 0) (cap : Nat) (hcap : n.toNatClampNeg ≤ cap) (hb : cap * 8 ≤ 536870912) (hc : cells + 1 ≤ R.cells) (hl : slots + cap ≤ R.slots) (pc' : Nat) (hp : pc + 2 = pc')
    (k : ∀ T' h' cA a, a = h.size → Stand p l e R s m args below meth c T' locs (cells + 1) (slots + cap) → T'.heap = h' → Ext h h' → Arr Z h' a (newA cA (newarray.typeOf aty) n) (newarray.typeOf aty) → own_G p e below Q (T'.setTop (mkF m pc' Ls (.ref a :: st)))) : own_G p e below Q (T.setTop (mkF m pc Ls (.int n :: st))) := by
  subst hp
  obtain ⟨T', h', cA, X', e', E, A, stp⟩ := newP X hx hZ w eT (g := mkF m pc Ls (.int n :: st)) rfl hd rfl hn hcap hb hc hl
  exact own_st stp (k T' h' cA _ rfl X' e' E A)
theorem own_newR (X : Stand p l e R s m args below meth c T locs cells slots) (hx : p.tables.exec = Jvm.exec) (hZ : Z.Warmed39 s.vm) {own : String} (hown : s.vm.findClass own = some m.cls) {C : String} {index : Nat} (w1 : (Cond.classLink own index C).before a0 Z = true) (w2 : (Cond.arrayOver (.object C)).before a0 Z = true) (eT : T.heap = h) (hd : decode c.code pc = .ok (.anewarray index, 3)) {n : Int32} (hn : ¬ n < 0) (cap : Nat) (hcap : n.toNatClampNeg ≤ cap) (hb : cap * 8 ≤ 536870912) (hc : cells + 1 ≤ R.cells) (hl : slots + cap ≤ R.slots) (pc' : Nat) (hp : pc + 3 = pc')
    (k : ∀ T' h' cA a, a = h.size → Stand p l e R s m args below meth c T' locs (cells + 1) (slots + cap) → T'.heap = h' → Ext h h' → Arr Z h' a (newA cA (.object C) n) (.object C) → own_G p e below Q (T'.setTop (mkF m pc' Ls (.ref a :: st)))) : own_G p e below Q (T.setTop (mkF m pc Ls (.int n :: st))) := by
  subst hp
  obtain ⟨T', h', cA, X', e', E, A, -, stp⟩ := newR X hx hZ hown w1 w2 eT (g := mkF m pc Ls (.int n :: st)) rfl hd rfl hn hcap hb hc hl
  exact own_st stp (k T' h' cA _ rfl X' e' E A)
/-- an array of ints, bytes, chars or booleans (as ints): its length, what place j holds -/
def own_A (Z : State) (h : Heap) (a : Addr) (ty : FieldType) (n : Nat) (f : Nat → Int32) : Prop := ∃ c : Cell, Arr Z h a c ty ∧ c.slots.size = n ∧ ∀ j, j < n → c.slots[j]? = some (.int (f j))
variable {h' : Heap} {a b : Addr} {ty : FieldType} {n : Nat} {f : Nat → Int32} {sl : Nat} {v : Value} {wl : List Addr}
theorem own_A.lt (A : own_A Z h a ty n f) : a < h.size := by obtain ⟨c, A, -⟩ := A; exact A.lt
theorem own_A.ext (A : own_A Z h a ty n f) (E : Ext h h') : own_A Z h' a ty n f := by obtain ⟨c, A, r⟩ := A; exact ⟨c, A.ext E, r⟩
theorem own_A.other (A : own_A Z h a ty n f) (W : Wr h h' b sl v) (q : a ≠ b) : own_A Z h' a ty n f := by obtain ⟨c, A, r⟩ := A; exact ⟨c, A.other W q, r⟩
theorem own_A.keep (A : own_A Z h a ty n f) (K : Keep h h' wl) (q : a ∉ wl) : own_A Z h' a ty n f := by obtain ⟨c, A, r⟩ := A; exact ⟨c, ⟨K.2.1 a c A.1 q, A.2⟩, r⟩
theorem own_A.set (A : own_A Z h a ty n f) {i : Nat} {x : Int32} (W : Wr h h' a i (.int x)) : own_A Z h' a ty n (fun j => if i = j then x else f j) := by
  obtain ⟨c, A, S, H⟩ := A
  refine ⟨_, A.same W, by rw [sz_set]; exact S, fun j hj => ?_⟩
  by_cases q : i = j
  · subst q
    simp [Cell.setSlot, S, hj]
  · simp only [Cell.setSlot, q, if_false]
    rw [Array.getElem?_setIfInBounds_ne q]
    exact H j hj
theorem own_A.congr (A : own_A Z h a ty n f) {g : Nat → Int32} (q : ∀ j, j < n → f j = g j) : own_A Z h a ty n g := by
  obtain ⟨c, A, S, H⟩ := A
  exact ⟨c, A, S, fun j hj => by rw [← q j hj]; exact H j hj⟩
theorem own_A.new {cA : ClassId} {z : Int32} (A : Arr Z h a (newA cA ty z) ty) (hz : z.toNatClampNeg = n) (hd : defaultValue ty = .int 0) : own_A Z h a ty n (fun _ => 0) := by
  refine ⟨_, A, by rw [sz_new]; exact hz, fun j hj => ?_⟩
  simp [newA, hz, hj, hd]
theorem own_nin {z : Int32} {nn : Nat} {cl : Cell} (S : cl.slots.size = nn) (q : ¬ z < 0 ∧ z.toNatClampNeg < nn) : ¬ (z < 0 ∨ cl.slots.size ≤ z.toNatClampNeg) := fun w => w.elim q.1 fun u => Nat.not_lt.mpr (S ▸ u) q.2
theorem own_iaload (X : Stand p l e R s m args below meth c T locs cells slots) (hx : p.tables.exec = Jvm.exec) (hZ : Z.Warmed39 s.vm) (eT : T.heap = h) (A : own_A Z h a .int n f) {j : Int32} (hj : ¬ j < 0 ∧ j.toNatClampNeg < n) {x : Int32} (hv : f j.toNatClampNeg = x) (hd : decode c.code pc = .ok (.iaload, 1)) (pc' : Nat) (hp : pc + 1 = pc') (r : own_G p e below Q (T.setTop (mkF m pc' Ls (.int x :: st)))) : own_G p e below Q (T.setTop (mkF m pc Ls (.int j :: .ref a :: st))) := by
  subst hp hv
  obtain ⟨cl, A, S, H⟩ := A
  exact own_st (fun t ht => X.iaload hx (j := j) (by rw [eT]; exact A.1) (State.isArrayOf_alike hZ.alike A.2.1) A.2.2 (own_nin S hj) (H _ hj.2) (g := mkF m pc Ls (.int j :: .ref a :: st)) rfl rfl hd t ht) r
theorem own_zaload (X : Stand p l e R s m args below meth c T locs cells slots) (hx : p.tables.exec = Jvm.exec) (hZ : Z.Warmed39 s.vm) (eT : T.heap = h) (A : own_A Z h a .boolean n f) {j : Int32} (hj : ¬ j < 0 ∧ j.toNatClampNeg < n) {x : Int32} (hv : f j.toNatClampNeg = x) (hd : decode c.code pc = .ok (.baload, 1)) (pc' : Nat) (hp : pc + 1 = pc') (r : own_G p e below Q (T.setTop (mkF m pc' Ls (.int x :: st)))) : own_G p e below Q (T.setTop (mkF m pc Ls (.int j :: .ref a :: st))) := by
  subst hp hv
  obtain ⟨cl, A, S, H⟩ := A
  exact own_st (fun t ht => X.baloadBooleans hx (j := j) (by rw [eT]; exact A.1) (State.isArrayOf_alike hZ.alike A.2.1) A.2.2 (own_nin S hj) (H _ hj.2) (g := mkF m pc Ls (.int j :: .ref a :: st)) rfl rfl hd t ht) r
theorem own_baload (X : Stand p l e R s m args below meth c T locs cells slots) (hx : p.tables.exec = Jvm.exec) (hZ : Z.Warmed39 s.vm) (eT : T.heap = h) (A : own_A Z h a .byte n f) {j : Int32} (hj : ¬ j < 0 ∧ j.toNatClampNeg < n) {x : Int32} (hv : f j.toNatClampNeg = x) (hd : decode c.code pc = .ok (.baload, 1)) (pc' : Nat) (hp : pc + 1 = pc') (r : own_G p e below Q (T.setTop (mkF m pc' Ls (.int x :: st)))) : own_G p e below Q (T.setTop (mkF m pc Ls (.int j :: .ref a :: st))) := by
  subst hp hv
  obtain ⟨cl, A, S, H⟩ := A
  exact own_st (fun t ht => X.baloadBytes hx (j := j) (by rw [eT]; exact A.1) (State.isArrayOf_alike hZ.alike A.2.1) A.2.2 (own_nin S hj) (H _ hj.2) (g := mkF m pc Ls (.int j :: .ref a :: st)) rfl rfl hd t ht) r
theorem own_ialoadE (X : Stand p l e R s m args below meth c T locs cells slots) (hx : p.tables.exec = Jvm.exec) (hZ : Z.Warmed39 s.vm) (eT : T.heap = h) (A : own_A Z h a .int n f) {j : Int32} (hj : ¬ j < 0 ∧ j.toNatClampNeg < n) (hd : decode c.code pc = .ok (.iaload, 1)) (pc' : Nat) (hp : pc + 1 = pc') (r : ∀ x, f j.toNatClampNeg = x → own_G p e below Q (T.setTop (mkF m pc' Ls (.int x :: st)))) : own_G p e below Q (T.setTop (mkF m pc Ls (.int j :: .ref a :: st))) := own_iaload X hx hZ eT A hj rfl hd pc' hp (r _ rfl)
theorem own_zaloadE (X : Stand p l e R s m args below meth c T locs cells slots) (hx : p.tables.exec = Jvm.exec) (hZ : Z.Warmed39 s.vm) (eT : T.heap = h) (A : own_A Z h a .boolean n f) {j : Int32} (hj : ¬ j < 0 ∧ j.toNatClampNeg < n) (hd : decode c.code pc = .ok (.baload, 1)) (pc' : Nat) (hp : pc + 1 = pc') (r : ∀ x, f j.toNatClampNeg = x → own_G p e below Q (T.setTop (mkF m pc' Ls (.int x :: st)))) : own_G p e below Q (T.setTop (mkF m pc Ls (.int j :: .ref a :: st))) := own_zaload X hx hZ eT A hj rfl hd pc' hp (r _ rfl)
theorem own_baloadE (X : Stand p l e R s m args below meth c T locs cells slots) (hx : p.tables.exec = Jvm.exec) (hZ : Z.Warmed39 s.vm) (eT : T.heap = h) (A : own_A Z h a .byte n f) {j : Int32} (hj : ¬ j < 0 ∧ j.toNatClampNeg < n) (hd : decode c.code pc = .ok (.baload, 1)) (pc' : Nat) (hp : pc + 1 = pc') (r : ∀ x, f j.toNatClampNeg = x → own_G p e below Q (T.setTop (mkF m pc' Ls (.int x :: st)))) : own_G p e below Q (T.setTop (mkF m pc Ls (.int j :: .ref a :: st))) := own_baload X hx hZ eT A hj rfl hd pc' hp (r _ rfl)
theorem own_arrlen (X : Stand p l e R s m args below meth c T locs cells slots) (hx : p.tables.exec = Jvm.exec) (hZ : Z.Warmed39 s.vm) (eT : T.heap = h) (A : own_A Z h a ty n f) {z : Int32} (hz : n.toInt32 = z) (hd : decode c.code pc = .ok (.arraylength, 1)) (pc' : Nat) (hp : pc + 1 = pc') (r : own_G p e below Q (T.setTop (mkF m pc' Ls (.int z :: st)))) : own_G p e below Q (T.setTop (mkF m pc Ls (.ref a :: st))) := by
  subst hp hz
  obtain ⟨cl, A, S, H⟩ := A
  subst S
  exact own_st (fun t ht => X.arraylength hx (by rw [eT]; exact A.1) (State.isArrayOf_alike hZ.alike A.2.1) (g := mkF m pc Ls (.ref a :: st)) rfl rfl hd t ht) r
theorem own_iastore (X : Stand p l e R s m args below meth c T locs cells slots) (hx : p.tables.exec = Jvm.exec) (hZ : Z.Warmed39 s.vm) (eT : T.heap = h) (A : own_A Z h a .int n f) {j x : Int32} (hj : ¬ j < 0 ∧ j.toNatClampNeg < n) (hd : decode c.code pc = .ok (.iastore, 1)) (N : Fr n0 locs) (g : n0 ≤ a) (pc' : Nat) (hp : pc + 1 = pc')
    (k : ∀ T' h' locs', Stand p l e R s m args below meth c T' locs' cells slots → Fr n0 locs' → T'.heap = h' → Wr h h' a j.toNatClampNeg (.int x) → own_G p e below Q (T'.setTop (mkF m pc' Ls st))) : own_G p e below Q (T.setTop (mkF m pc Ls (.int x :: .int j :: .ref a :: st))) := by
  subst hp
  obtain ⟨cl, A, S, H⟩ := A
  obtain ⟨T', h', X', e', W, stp⟩ := stI X hx hZ eT A (own_nin S hj) (g := mkF m pc Ls (.int x :: .int j :: .ref a :: st)) rfl rfl hd
  exact own_st stp (k T' h' _ X' (Fr.snoc X' N g) e' W)
theorem own_zastore (X : Stand p l e R s m args below meth c T locs cells slots) (hx : p.tables.exec = Jvm.exec) (hZ : Z.Warmed39 s.vm) (eT : T.heap = h) (A : own_A Z h a .boolean n f) {j x : Int32} (hj : ¬ j < 0 ∧ j.toNatClampNeg < n) (hd : decode c.code pc = .ok (.bastore, 1)) (N : Fr n0 locs) (g : n0 ≤ a) (pc' : Nat) (hp : pc + 1 = pc')
    (k : ∀ T' h' locs', Stand p l e R s m args below meth c T' locs' cells slots → Fr n0 locs' → T'.heap = h' → Wr h h' a j.toNatClampNeg (.int (nar .boolean x)) → own_G p e below Q (T'.setTop (mkF m pc' Ls st))) : own_G p e below Q (T.setTop (mkF m pc Ls (.int x :: .int j :: .ref a :: st))) := by
  subst hp
  obtain ⟨cl, A, S, H⟩ := A
  obtain ⟨T', h', X', e', W, stp⟩ := stZ X hx hZ eT A (own_nin S hj) (g := mkF m pc Ls (.int x :: .int j :: .ref a :: st)) rfl rfl hd
  exact own_st stp (k T' h' _ X' (Fr.snoc X' N g) e' W)
end OwnBase

theorem own_pn_Diagrams : plainName "com/example/orbweaver/orbweaver/synthesis/Diagrams" = true := by first | (simp [plainName, overriddenIn]; done) | decide +kernel
theorem own_pn_Arrays : plainName "java/util/Arrays" = true := by first | (simp [plainName, overriddenIn]; done) | decide +kernel
theorem own_pn_Diagrams_1 : plainName "com/example/orbweaver/orbweaver/synthesis/Diagrams$1" = true := by first | (simp [plainName, overriddenIn]; done) | decide +kernel
theorem own_pn_ValuationsEqualsPinLaw : plainName "com/example/orbweaver/orbweaver/synthesis/ValuationsEqualsPinLaw" = true := by first | (simp [plainName, overriddenIn]; done) | decide +kernel
theorem own_pn_Valuations : plainName "com/example/orbweaver/orbweaver/synthesis/Valuations" = true := by first | (simp [plainName, overriddenIn]; done) | decide +kernel
theorem own_pn_Integer : plainName "java/lang/Integer" = true := by first | (simp [plainName, overriddenIn]; done) | decide +kernel
theorem own_pn_Number : plainName "java/lang/Number" = true := by first | (simp [plainName, overriddenIn]; done) | decide +kernel
theorem own_w0 {Z : State} {a0 : Array Value} (hw : ∀ d ∈ tables_1, d.before a0 Z = true) : ((Jvm.Cond.classLink "com/example/orbweaver/orbweaver/synthesis/ValuationsEqualsPinLaw" (7 : Nat) "com/example/orbweaver/orbweaver/synthesis/Diagrams")).before a0 Z = true := hw _ (List.mem_of_getElem? (i := 0) rfl)
theorem own_w1 {Z : State} {a0 : Array Value} (hw : ∀ d ∈ tables_1, d.before a0 Z = true) : ((Jvm.Cond.instantiable "com/example/orbweaver/orbweaver/synthesis/Diagrams" (13 : Nat))).before a0 Z = true := hw _ (List.mem_of_getElem? (i := 1) rfl)
theorem own_w2 {Z : State} {a0 : Array Value} (hw : ∀ d ∈ tables_1, d.before a0 Z = true) : ((Jvm.Cond.initialized "com/example/orbweaver/orbweaver/synthesis/Diagrams")).before a0 Z = true := hw _ (List.mem_of_getElem? (i := 2) rfl)
theorem own_w3 {Z : State} {a0 : Array Value} (hw : ∀ d ∈ tables_1, d.before a0 Z = true) : ((Jvm.Cond.methodLink "com/example/orbweaver/orbweaver/synthesis/ValuationsEqualsPinLaw" (9 : Nat) ({ cls := "com/example/orbweaver/orbweaver/synthesis/Diagrams", name := "<init>", desc := "(II)V" } : Jvm.MethodName))).before a0 Z = true := hw _ (List.mem_of_getElem? (i := 3) rfl)
theorem own_w4 {Z : State} {a0 : Array Value} (hw : ∀ d ∈ tables_1, d.before a0 Z = true) : ((Jvm.Cond.instanceMethod ({ cls := "com/example/orbweaver/orbweaver/synthesis/Diagrams", name := "<init>", desc := "(II)V" } : Jvm.MethodName))).before a0 Z = true := hw _ (List.mem_of_getElem? (i := 4) rfl)
theorem own_w5 {Z : State} {a0 : Array Value} (hw : ∀ d ∈ tables_1, d.before a0 Z = true) : ((Jvm.Cond.code ({ cls := "com/example/orbweaver/orbweaver/synthesis/Diagrams", name := "<init>", desc := "(II)V" } : Jvm.MethodName) prog_81_method_1_code (3 : Nat) (Option.none : Option Jvm.ClassFile.FieldType))).before a0 Z = true := hw _ (List.mem_of_getElem? (i := 5) rfl)
theorem own_w6 {Z : State} {a0 : Array Value} (hw : ∀ d ∈ tables_1, d.before a0 Z = true) : ((Jvm.Cond.methodLink "com/example/orbweaver/orbweaver/synthesis/Diagrams" (1 : Nat) ({ cls := "com/example/orbweaver/orbweaver/synthesis/Diagrams", name := "<init>", desc := "(III)V" } : Jvm.MethodName))).before a0 Z = true := hw _ (List.mem_of_getElem? (i := 6) rfl)
theorem own_w7 {Z : State} {a0 : Array Value} (hw : ∀ d ∈ tables_1, d.before a0 Z = true) : ((Jvm.Cond.instanceMethod ({ cls := "com/example/orbweaver/orbweaver/synthesis/Diagrams", name := "<init>", desc := "(III)V" } : Jvm.MethodName))).before a0 Z = true := hw _ (List.mem_of_getElem? (i := 7) rfl)
theorem own_w8 {Z : State} {a0 : Array Value} (hw : ∀ d ∈ tables_1, d.before a0 Z = true) : ((Jvm.Cond.code ({ cls := "com/example/orbweaver/orbweaver/synthesis/Diagrams", name := "<init>", desc := "(III)V" } : Jvm.MethodName) prog_81_method_2_code (4 : Nat) (Option.none : Option Jvm.ClassFile.FieldType))).before a0 Z = true := hw _ (List.mem_of_getElem? (i := 8) rfl)
theorem own_w9 {Z : State} {a0 : Array Value} (hw : ∀ d ∈ tables_1, d.before a0 Z = true) : ((Jvm.Cond.methodLink "com/example/orbweaver/orbweaver/synthesis/Diagrams" (7 : Nat) ({ cls := "java/lang/Object", name := "<init>", desc := "()V" } : Jvm.MethodName))).before a0 Z = true := hw _ (List.mem_of_getElem? (i := 9) rfl)
theorem own_w10 {Z : State} {a0 : Array Value} (hw : ∀ d ∈ tables_1, d.before a0 Z = true) : ((Jvm.Cond.instanceMethod ({ cls := "java/lang/Object", name := "<init>", desc := "()V" } : Jvm.MethodName))).before a0 Z = true := hw _ (List.mem_of_getElem? (i := 10) rfl)
theorem own_w11 {Z : State} {a0 : Array Value} (hw : ∀ d ∈ tables_1, d.before a0 Z = true) : ((Jvm.Cond.code ({ cls := "java/lang/Object", name := "<init>", desc := "()V" } : Jvm.MethodName) object_method_1_code (1 : Nat) (Option.none : Option Jvm.ClassFile.FieldType))).before a0 Z = true := hw _ (List.mem_of_getElem? (i := 11) rfl)
theorem own_w12 {Z : State} {a0 : Array Value} (hw : ∀ d ∈ tables_1, d.before a0 Z = true) : ((Jvm.Cond.classLink "com/example/orbweaver/orbweaver/synthesis/Diagrams" (12 : Nat) "com/example/orbweaver/orbweaver/synthesis/Diagrams$1")).before a0 Z = true := hw _ (List.mem_of_getElem? (i := 12) rfl)
theorem own_w13 {Z : State} {a0 : Array Value} (hw : ∀ d ∈ tables_1, d.before a0 Z = true) : ((Jvm.Cond.instantiable "com/example/orbweaver/orbweaver/synthesis/Diagrams$1" (1 : Nat))).before a0 Z = true := hw _ (List.mem_of_getElem? (i := 13) rfl)
theorem own_w14 {Z : State} {a0 : Array Value} (hw : ∀ d ∈ tables_1, d.before a0 Z = true) : ((Jvm.Cond.initialized "com/example/orbweaver/orbweaver/synthesis/Diagrams$1")).before a0 Z = true := hw _ (List.mem_of_getElem? (i := 14) rfl)
theorem own_w15 {Z : State} {a0 : Array Value} (hw : ∀ d ∈ tables_1, d.before a0 Z = true) : ((Jvm.Cond.methodLink "com/example/orbweaver/orbweaver/synthesis/Diagrams" (14 : Nat) ({ cls := "com/example/orbweaver/orbweaver/synthesis/Diagrams$1", name := "<init>", desc := "(Lcom/example/orbweaver/orbweaver/synthesis/Diagrams;)V" } : Jvm.MethodName))).before a0 Z = true := hw _ (List.mem_of_getElem? (i := 15) rfl)
theorem own_w16 {Z : State} {a0 : Array Value} (hw : ∀ d ∈ tables_1, d.before a0 Z = true) : ((Jvm.Cond.instanceMethod ({ cls := "com/example/orbweaver/orbweaver/synthesis/Diagrams$1", name := "<init>", desc := "(Lcom/example/orbweaver/orbweaver/synthesis/Diagrams;)V" } : Jvm.MethodName))).before a0 Z = true := hw _ (List.mem_of_getElem? (i := 16) rfl)
theorem own_w17 {Z : State} {a0 : Array Value} (hw : ∀ d ∈ tables_1, d.before a0 Z = true) : ((Jvm.Cond.code ({ cls := "com/example/orbweaver/orbweaver/synthesis/Diagrams$1", name := "<init>", desc := "(Lcom/example/orbweaver/orbweaver/synthesis/Diagrams;)V" } : Jvm.MethodName) prog_82_method_1_code (2 : Nat) (Option.none : Option Jvm.ClassFile.FieldType))).before a0 Z = true := hw _ (List.mem_of_getElem? (i := 17) rfl)
theorem own_w18 {Z : State} {a0 : Array Value} (hw : ∀ d ∈ tables_1, d.before a0 Z = true) : ((Jvm.Cond.fieldLink "com/example/orbweaver/orbweaver/synthesis/Diagrams$1" (3 : Nat) "com/example/orbweaver/orbweaver/synthesis/Diagrams$1" "this$0" "Lcom/example/orbweaver/orbweaver/synthesis/Diagrams;")).before a0 Z = true := hw _ (List.mem_of_getElem? (i := 18) rfl)
theorem own_w19 {Z : State} {a0 : Array Value} (hw : ∀ d ∈ tables_1, d.before a0 Z = true) : ((Jvm.Cond.laysFinal "com/example/orbweaver/orbweaver/synthesis/Diagrams$1" "com/example/orbweaver/orbweaver/synthesis/Diagrams$1" "this$0" "Lcom/example/orbweaver/orbweaver/synthesis/Diagrams;")).before a0 Z = true := hw _ (List.mem_of_getElem? (i := 19) rfl)
theorem own_w20 {Z : State} {a0 : Array Value} (hw : ∀ d ∈ tables_1, d.before a0 Z = true) : ((Jvm.Cond.methodLink "com/example/orbweaver/orbweaver/synthesis/Diagrams$1" (9 : Nat) ({ cls := "java/lang/Object", name := "<init>", desc := "()V" } : Jvm.MethodName))).before a0 Z = true := hw _ (List.mem_of_getElem? (i := 20) rfl)
theorem own_w21 {Z : State} {a0 : Array Value} (hw : ∀ d ∈ tables_1, d.before a0 Z = true) : ((Jvm.Cond.fieldLink "com/example/orbweaver/orbweaver/synthesis/Diagrams" (17 : Nat) "com/example/orbweaver/orbweaver/synthesis/Diagrams" "logic" "Lcom/example/orbweaver/orbweaver/spec/Logic;")).before a0 Z = true := hw _ (List.mem_of_getElem? (i := 21) rfl)
theorem own_w22 {Z : State} {a0 : Array Value} (hw : ∀ d ∈ tables_1, d.before a0 Z = true) : ((Jvm.Cond.laysFinal "com/example/orbweaver/orbweaver/synthesis/Diagrams" "com/example/orbweaver/orbweaver/synthesis/Diagrams" "logic" "Lcom/example/orbweaver/orbweaver/spec/Logic;")).before a0 Z = true := hw _ (List.mem_of_getElem? (i := 22) rfl)
theorem own_w23 {Z : State} {a0 : Array Value} (hw : ∀ d ∈ tables_1, d.before a0 Z = true) : ((Jvm.Cond.classLink "com/example/orbweaver/orbweaver/synthesis/Diagrams" (21 : Nat) "com/example/orbweaver/orbweaver/synthesis/Valuations")).before a0 Z = true := hw _ (List.mem_of_getElem? (i := 23) rfl)
theorem own_w24 {Z : State} {a0 : Array Value} (hw : ∀ d ∈ tables_1, d.before a0 Z = true) : ((Jvm.Cond.arrayOver (Jvm.ClassFile.FieldType.object "com/example/orbweaver/orbweaver/synthesis/Valuations"))).before a0 Z = true := hw _ (List.mem_of_getElem? (i := 24) rfl)
theorem own_w25 {Z : State} {a0 : Array Value} (hw : ∀ d ∈ tables_1, d.before a0 Z = true) : ((Jvm.Cond.fieldLink "com/example/orbweaver/orbweaver/synthesis/Diagrams" (23 : Nat) "com/example/orbweaver/orbweaver/synthesis/Diagrams" "sets" "[Lcom/example/orbweaver/orbweaver/synthesis/Valuations;")).before a0 Z = true := hw _ (List.mem_of_getElem? (i := 25) rfl)
theorem own_w26 {Z : State} {a0 : Array Value} (hw : ∀ d ∈ tables_1, d.before a0 Z = true) : ((Jvm.Cond.lays "com/example/orbweaver/orbweaver/synthesis/Diagrams" "com/example/orbweaver/orbweaver/synthesis/Diagrams" "sets" "[Lcom/example/orbweaver/orbweaver/synthesis/Valuations;")).before a0 Z = true := hw _ (List.mem_of_getElem? (i := 26) rfl)
theorem own_w27 {Z : State} {a0 : Array Value} (hw : ∀ d ∈ tables_1, d.before a0 Z = true) : ((Jvm.Cond.arrayClass Jvm.ClassFile.FieldType.int)).before a0 Z = true := hw _ (List.mem_of_getElem? (i := 27) rfl)
theorem own_w28 {Z : State} {a0 : Array Value} (hw : ∀ d ∈ tables_1, d.before a0 Z = true) : ((Jvm.Cond.fieldLink "com/example/orbweaver/orbweaver/synthesis/Diagrams" (27 : Nat) "com/example/orbweaver/orbweaver/synthesis/Diagrams" "work" "[I")).before a0 Z = true := hw _ (List.mem_of_getElem? (i := 28) rfl)
theorem own_w29 {Z : State} {a0 : Array Value} (hw : ∀ d ∈ tables_1, d.before a0 Z = true) : ((Jvm.Cond.lays "com/example/orbweaver/orbweaver/synthesis/Diagrams" "com/example/orbweaver/orbweaver/synthesis/Diagrams" "work" "[I")).before a0 Z = true := hw _ (List.mem_of_getElem? (i := 29) rfl)
theorem own_w30 {Z : State} {a0 : Array Value} (hw : ∀ d ∈ tables_1, d.before a0 Z = true) : ((Jvm.Cond.fieldLink "com/example/orbweaver/orbweaver/synthesis/Diagrams" (31 : Nat) "com/example/orbweaver/orbweaver/synthesis/Diagrams" "results" "[I")).before a0 Z = true := hw _ (List.mem_of_getElem? (i := 30) rfl)
theorem own_w31 {Z : State} {a0 : Array Value} (hw : ∀ d ∈ tables_1, d.before a0 Z = true) : ((Jvm.Cond.lays "com/example/orbweaver/orbweaver/synthesis/Diagrams" "com/example/orbweaver/orbweaver/synthesis/Diagrams" "results" "[I")).before a0 Z = true := hw _ (List.mem_of_getElem? (i := 31) rfl)
theorem own_w32 {Z : State} {a0 : Array Value} (hw : ∀ d ∈ tables_1, d.before a0 Z = true) : ((Jvm.Cond.fieldLink "com/example/orbweaver/orbweaver/synthesis/Diagrams" (34 : Nat) "com/example/orbweaver/orbweaver/synthesis/Diagrams" "variables" "I")).before a0 Z = true := hw _ (List.mem_of_getElem? (i := 32) rfl)
theorem own_w33 {Z : State} {a0 : Array Value} (hw : ∀ d ∈ tables_1, d.before a0 Z = true) : ((Jvm.Cond.laysFinal "com/example/orbweaver/orbweaver/synthesis/Diagrams" "com/example/orbweaver/orbweaver/synthesis/Diagrams" "variables" "I")).before a0 Z = true := hw _ (List.mem_of_getElem? (i := 33) rfl)
theorem own_w34 {Z : State} {a0 : Array Value} (hw : ∀ d ∈ tables_1, d.before a0 Z = true) : ((Jvm.Cond.fieldLink "com/example/orbweaver/orbweaver/synthesis/Diagrams" (38 : Nat) "com/example/orbweaver/orbweaver/synthesis/Diagrams" "terms" "I")).before a0 Z = true := hw _ (List.mem_of_getElem? (i := 34) rfl)
theorem own_w35 {Z : State} {a0 : Array Value} (hw : ∀ d ∈ tables_1, d.before a0 Z = true) : ((Jvm.Cond.laysFinal "com/example/orbweaver/orbweaver/synthesis/Diagrams" "com/example/orbweaver/orbweaver/synthesis/Diagrams" "terms" "I")).before a0 Z = true := hw _ (List.mem_of_getElem? (i := 35) rfl)
theorem own_w36 {Z : State} {a0 : Array Value} (hw : ∀ d ∈ tables_1, d.before a0 Z = true) : ((Jvm.Cond.fieldLink "com/example/orbweaver/orbweaver/synthesis/Diagrams" (41 : Nat) "com/example/orbweaver/orbweaver/synthesis/Diagrams" "limit" "I")).before a0 Z = true := hw _ (List.mem_of_getElem? (i := 36) rfl)
theorem own_w37 {Z : State} {a0 : Array Value} (hw : ∀ d ∈ tables_1, d.before a0 Z = true) : ((Jvm.Cond.lays "com/example/orbweaver/orbweaver/synthesis/Diagrams" "com/example/orbweaver/orbweaver/synthesis/Diagrams" "limit" "I")).before a0 Z = true := hw _ (List.mem_of_getElem? (i := 37) rfl)
theorem own_w38 {Z : State} {a0 : Array Value} (hw : ∀ d ∈ tables_1, d.before a0 Z = true) : ((Jvm.Cond.fieldLink "com/example/orbweaver/orbweaver/synthesis/Diagrams" (44 : Nat) "com/example/orbweaver/orbweaver/synthesis/Diagrams" "level" "[I")).before a0 Z = true := hw _ (List.mem_of_getElem? (i := 38) rfl)
theorem own_w39 {Z : State} {a0 : Array Value} (hw : ∀ d ∈ tables_1, d.before a0 Z = true) : ((Jvm.Cond.lays "com/example/orbweaver/orbweaver/synthesis/Diagrams" "com/example/orbweaver/orbweaver/synthesis/Diagrams" "level" "[I")).before a0 Z = true := hw _ (List.mem_of_getElem? (i := 39) rfl)
theorem own_w40 {Z : State} {a0 : Array Value} (hw : ∀ d ∈ tables_1, d.before a0 Z = true) : ((Jvm.Cond.fieldLink "com/example/orbweaver/orbweaver/synthesis/Diagrams" (47 : Nat) "com/example/orbweaver/orbweaver/synthesis/Diagrams" "low" "[I")).before a0 Z = true := hw _ (List.mem_of_getElem? (i := 40) rfl)
theorem own_w41 {Z : State} {a0 : Array Value} (hw : ∀ d ∈ tables_1, d.before a0 Z = true) : ((Jvm.Cond.lays "com/example/orbweaver/orbweaver/synthesis/Diagrams" "com/example/orbweaver/orbweaver/synthesis/Diagrams" "low" "[I")).before a0 Z = true := hw _ (List.mem_of_getElem? (i := 41) rfl)
theorem own_w42 {Z : State} {a0 : Array Value} (hw : ∀ d ∈ tables_1, d.before a0 Z = true) : ((Jvm.Cond.fieldLink "com/example/orbweaver/orbweaver/synthesis/Diagrams" (50 : Nat) "com/example/orbweaver/orbweaver/synthesis/Diagrams" "high" "[I")).before a0 Z = true := hw _ (List.mem_of_getElem? (i := 42) rfl)
theorem own_w43 {Z : State} {a0 : Array Value} (hw : ∀ d ∈ tables_1, d.before a0 Z = true) : ((Jvm.Cond.lays "com/example/orbweaver/orbweaver/synthesis/Diagrams" "com/example/orbweaver/orbweaver/synthesis/Diagrams" "high" "[I")).before a0 Z = true := hw _ (List.mem_of_getElem? (i := 43) rfl)
theorem own_w44 {Z : State} {a0 : Array Value} (hw : ∀ d ∈ tables_1, d.before a0 Z = true) : ((Jvm.Cond.fieldLink "com/example/orbweaver/orbweaver/synthesis/Diagrams" (53 : Nat) "com/example/orbweaver/orbweaver/synthesis/Diagrams" "size" "I")).before a0 Z = true := hw _ (List.mem_of_getElem? (i := 44) rfl)
theorem own_w45 {Z : State} {a0 : Array Value} (hw : ∀ d ∈ tables_1, d.before a0 Z = true) : ((Jvm.Cond.lays "com/example/orbweaver/orbweaver/synthesis/Diagrams" "com/example/orbweaver/orbweaver/synthesis/Diagrams" "size" "I")).before a0 Z = true := hw _ (List.mem_of_getElem? (i := 45) rfl)
theorem own_w46 {Z : State} {a0 : Array Value} (hw : ∀ d ∈ tables_1, d.before a0 Z = true) : ((Jvm.Cond.fieldLink "com/example/orbweaver/orbweaver/synthesis/Diagrams" (56 : Nat) "com/example/orbweaver/orbweaver/synthesis/Diagrams" "unique" "[I")).before a0 Z = true := hw _ (List.mem_of_getElem? (i := 46) rfl)
theorem own_w47 {Z : State} {a0 : Array Value} (hw : ∀ d ∈ tables_1, d.before a0 Z = true) : ((Jvm.Cond.lays "com/example/orbweaver/orbweaver/synthesis/Diagrams" "com/example/orbweaver/orbweaver/synthesis/Diagrams" "unique" "[I")).before a0 Z = true := hw _ (List.mem_of_getElem? (i := 47) rfl)
theorem own_w48 {Z : State} {a0 : Array Value} (hw : ∀ d ∈ tables_1, d.before a0 Z = true) : ((Jvm.Cond.fieldLink "com/example/orbweaver/orbweaver/synthesis/Diagrams" (59 : Nat) "com/example/orbweaver/orbweaver/synthesis/Diagrams" "cache" "[I")).before a0 Z = true := hw _ (List.mem_of_getElem? (i := 48) rfl)
theorem own_w49 {Z : State} {a0 : Array Value} (hw : ∀ d ∈ tables_1, d.before a0 Z = true) : ((Jvm.Cond.lays "com/example/orbweaver/orbweaver/synthesis/Diagrams" "com/example/orbweaver/orbweaver/synthesis/Diagrams" "cache" "[I")).before a0 Z = true := hw _ (List.mem_of_getElem? (i := 49) rfl)
theorem own_w50 {Z : State} {a0 : Array Value} (hw : ∀ d ∈ tables_1, d.before a0 Z = true) : ((Jvm.Cond.methodLink "com/example/orbweaver/orbweaver/synthesis/Diagrams" (62 : Nat) ({ cls := "java/util/Arrays", name := "fill", desc := "([II)V" } : Jvm.MethodName))).before a0 Z = true := hw _ (List.mem_of_getElem? (i := 50) rfl)
theorem own_w51 {Z : State} {a0 : Array Value} (hw : ∀ d ∈ tables_1, d.before a0 Z = true) : ((Jvm.Cond.static ({ cls := "java/util/Arrays", name := "fill", desc := "([II)V" } : Jvm.MethodName))).before a0 Z = true := hw _ (List.mem_of_getElem? (i := 51) rfl)
theorem own_w52 {Z : State} {a0 : Array Value} (hw : ∀ d ∈ tables_1, d.before a0 Z = true) : ((Jvm.Cond.initialized "java/util/Arrays")).before a0 Z = true := hw _ (List.mem_of_getElem? (i := 52) rfl)
theorem own_w53 {Z : State} {a0 : Array Value} (hw : ∀ d ∈ tables_1, d.before a0 Z = true) : ((Jvm.Cond.code ({ cls := "java/util/Arrays", name := "fill", desc := "([II)V" } : Jvm.MethodName) jdk_65_method_103_code (4 : Nat) (Option.none : Option Jvm.ClassFile.FieldType))).before a0 Z = true := hw _ (List.mem_of_getElem? (i := 53) rfl)
theorem own_w54 {Z : State} {a0 : Array Value} (hw : ∀ d ∈ tables_1, d.before a0 Z = true) : ((Jvm.Cond.classLink "com/example/orbweaver/orbweaver/synthesis/ValuationsEqualsPinLaw" (12 : Nat) "com/example/orbweaver/orbweaver/synthesis/Valuations")).before a0 Z = true := hw _ (List.mem_of_getElem? (i := 54) rfl)
theorem own_w55 {Z : State} {a0 : Array Value} (hw : ∀ d ∈ tables_1, d.before a0 Z = true) : ((Jvm.Cond.instantiable "com/example/orbweaver/orbweaver/synthesis/Valuations" (2 : Nat))).before a0 Z = true := hw _ (List.mem_of_getElem? (i := 55) rfl)
theorem own_w56 {Z : State} {a0 : Array Value} (hw : ∀ d ∈ tables_1, d.before a0 Z = true) : ((Jvm.Cond.initialized "com/example/orbweaver/orbweaver/synthesis/Valuations")).before a0 Z = true := hw _ (List.mem_of_getElem? (i := 56) rfl)
theorem own_w57 {Z : State} {a0 : Array Value} (hw : ∀ d ∈ tables_1, d.before a0 Z = true) : ((Jvm.Cond.methodLink "com/example/orbweaver/orbweaver/synthesis/ValuationsEqualsPinLaw" (14 : Nat) ({ cls := "com/example/orbweaver/orbweaver/synthesis/Valuations", name := "<init>", desc := "(Lcom/example/orbweaver/orbweaver/synthesis/Diagrams;I)V" } : Jvm.MethodName))).before a0 Z = true := hw _ (List.mem_of_getElem? (i := 57) rfl)
theorem own_w58 {Z : State} {a0 : Array Value} (hw : ∀ d ∈ tables_1, d.before a0 Z = true) : ((Jvm.Cond.instanceMethod ({ cls := "com/example/orbweaver/orbweaver/synthesis/Valuations", name := "<init>", desc := "(Lcom/example/orbweaver/orbweaver/synthesis/Diagrams;I)V" } : Jvm.MethodName))).before a0 Z = true := hw _ (List.mem_of_getElem? (i := 58) rfl)
theorem own_w59 {Z : State} {a0 : Array Value} (hw : ∀ d ∈ tables_1, d.before a0 Z = true) : ((Jvm.Cond.code ({ cls := "com/example/orbweaver/orbweaver/synthesis/Valuations", name := "<init>", desc := "(Lcom/example/orbweaver/orbweaver/synthesis/Diagrams;I)V" } : Jvm.MethodName) prog_96_method_1_code (3 : Nat) (Option.none : Option Jvm.ClassFile.FieldType))).before a0 Z = true := hw _ (List.mem_of_getElem? (i := 59) rfl)
theorem own_w60 {Z : State} {a0 : Array Value} (hw : ∀ d ∈ tables_1, d.before a0 Z = true) : ((Jvm.Cond.methodLink "com/example/orbweaver/orbweaver/synthesis/Valuations" (1 : Nat) ({ cls := "java/lang/Object", name := "<init>", desc := "()V" } : Jvm.MethodName))).before a0 Z = true := hw _ (List.mem_of_getElem? (i := 60) rfl)
theorem own_w61 {Z : State} {a0 : Array Value} (hw : ∀ d ∈ tables_1, d.before a0 Z = true) : ((Jvm.Cond.fieldLink "com/example/orbweaver/orbweaver/synthesis/Valuations" (7 : Nat) "com/example/orbweaver/orbweaver/synthesis/Valuations" "diagrams" "Lcom/example/orbweaver/orbweaver/synthesis/Diagrams;")).before a0 Z = true := hw _ (List.mem_of_getElem? (i := 61) rfl)
theorem own_w62 {Z : State} {a0 : Array Value} (hw : ∀ d ∈ tables_1, d.before a0 Z = true) : ((Jvm.Cond.laysFinal "com/example/orbweaver/orbweaver/synthesis/Valuations" "com/example/orbweaver/orbweaver/synthesis/Valuations" "diagrams" "Lcom/example/orbweaver/orbweaver/synthesis/Diagrams;")).before a0 Z = true := hw _ (List.mem_of_getElem? (i := 62) rfl)
theorem own_w63 {Z : State} {a0 : Array Value} (hw : ∀ d ∈ tables_1, d.before a0 Z = true) : ((Jvm.Cond.fieldLink "com/example/orbweaver/orbweaver/synthesis/Valuations" (13 : Nat) "com/example/orbweaver/orbweaver/synthesis/Valuations" "node" "I")).before a0 Z = true := hw _ (List.mem_of_getElem? (i := 63) rfl)
theorem own_w64 {Z : State} {a0 : Array Value} (hw : ∀ d ∈ tables_1, d.before a0 Z = true) : ((Jvm.Cond.laysFinal "com/example/orbweaver/orbweaver/synthesis/Valuations" "com/example/orbweaver/orbweaver/synthesis/Valuations" "node" "I")).before a0 Z = true := hw _ (List.mem_of_getElem? (i := 64) rfl)
theorem own_w65 {Z : State} {a0 : Array Value} (hw : ∀ d ∈ tables_1, d.before a0 Z = true) : ((Jvm.Cond.methodLink "com/example/orbweaver/orbweaver/synthesis/ValuationsEqualsPinLaw" (23 : Nat) ({ cls := "com/example/orbweaver/orbweaver/synthesis/Valuations", name := "equals", desc := "(Ljava/lang/Object;)Z" } : Jvm.MethodName))).before a0 Z = true := hw _ (List.mem_of_getElem? (i := 65) rfl)
theorem own_w66 {Z : State} {a0 : Array Value} (hw : ∀ d ∈ tables_1, d.before a0 Z = true) : ((Jvm.Cond.declares ({ cls := "com/example/orbweaver/orbweaver/synthesis/Valuations", name := "equals", desc := "(Ljava/lang/Object;)Z" } : Jvm.MethodName))).before a0 Z = true := hw _ (List.mem_of_getElem? (i := 66) rfl)
theorem own_w67 {Z : State} {a0 : Array Value} (hw : ∀ d ∈ tables_1, d.before a0 Z = true) : ((Jvm.Cond.instanceMethod ({ cls := "com/example/orbweaver/orbweaver/synthesis/Valuations", name := "equals", desc := "(Ljava/lang/Object;)Z" } : Jvm.MethodName))).before a0 Z = true := hw _ (List.mem_of_getElem? (i := 67) rfl)
theorem own_w68 {Z : State} {a0 : Array Value} (hw : ∀ d ∈ tables_1, d.before a0 Z = true) : ((Jvm.Cond.selects "com/example/orbweaver/orbweaver/synthesis/Valuations" ({ cls := "com/example/orbweaver/orbweaver/synthesis/Valuations", name := "equals", desc := "(Ljava/lang/Object;)Z" } : Jvm.MethodName) ({ cls := "com/example/orbweaver/orbweaver/synthesis/Valuations", name := "equals", desc := "(Ljava/lang/Object;)Z" } : Jvm.MethodName))).before a0 Z = true := hw _ (List.mem_of_getElem? (i := 68) rfl)
theorem own_w69 {Z : State} {a0 : Array Value} (hw : ∀ d ∈ tables_1, d.before a0 Z = true) : ((Jvm.Cond.code ({ cls := "com/example/orbweaver/orbweaver/synthesis/Valuations", name := "equals", desc := "(Ljava/lang/Object;)Z" } : Jvm.MethodName) prog_96_method_12_code (3 : Nat) (Option.some Jvm.ClassFile.FieldType.boolean))).before a0 Z = true := hw _ (List.mem_of_getElem? (i := 69) rfl)
theorem own_w70 {Z : State} {a0 : Array Value} (hw : ∀ d ∈ tables_1, d.before a0 Z = true) : ((Jvm.Cond.methodLink "com/example/orbweaver/orbweaver/synthesis/ValuationsEqualsPinLaw" (17 : Nat) ({ cls := "java/lang/Integer", name := "valueOf", desc := "(I)Ljava/lang/Integer;" } : Jvm.MethodName))).before a0 Z = true := hw _ (List.mem_of_getElem? (i := 70) rfl)
theorem own_w71 {Z : State} {a0 : Array Value} (hw : ∀ d ∈ tables_1, d.before a0 Z = true) : ((Jvm.Cond.static ({ cls := "java/lang/Integer", name := "valueOf", desc := "(I)Ljava/lang/Integer;" } : Jvm.MethodName))).before a0 Z = true := hw _ (List.mem_of_getElem? (i := 71) rfl)
theorem own_w72 {Z : State} {a0 : Array Value} (hw : ∀ d ∈ tables_1, d.before a0 Z = true) : ((Jvm.Cond.initialized "java/lang/Integer")).before a0 Z = true := hw _ (List.mem_of_getElem? (i := 72) rfl)
theorem own_w73 {Z : State} {a0 : Array Value} (hw : ∀ d ∈ tables_1, d.before a0 Z = true) : ((Jvm.Cond.code ({ cls := "java/lang/Integer", name := "valueOf", desc := "(I)Ljava/lang/Integer;" } : Jvm.MethodName) jdk_33_method_22_code (1 : Nat) (Option.some (Jvm.ClassFile.FieldType.object "java/lang/Integer")))).before a0 Z = true := hw _ (List.mem_of_getElem? (i := 73) rfl)
theorem own_w74 {Z : State} {a0 : Array Value} (hw : ∀ d ∈ tables_1, d.before a0 Z = true) : ((Jvm.Cond.fieldLink "java/lang/Integer" (191 : Nat) "java/lang/Integer$IntegerCache" "high" "I")).before a0 Z = true := hw _ (List.mem_of_getElem? (i := 74) rfl)
theorem own_w75 {Z : State} {a0 : Array Value} (hw : ∀ d ∈ tables_1, d.before a0 Z = true) : ((Jvm.Cond.initialized "java/lang/Integer$IntegerCache")).before a0 Z = true := hw _ (List.mem_of_getElem? (i := 75) rfl)
theorem own_w76 {Z : State} {a0 : Array Value} (hw : ∀ d ∈ tables_1, d.before a0 Z = true) : ((Jvm.Cond.fieldLink "java/lang/Integer" (195 : Nat) "java/lang/Integer$IntegerCache" "cache" "[Ljava/lang/Integer;")).before a0 Z = true := hw _ (List.mem_of_getElem? (i := 76) rfl)
theorem own_w77 {Z : State} {a0 : Array Value} (hw : ∀ d ∈ tables_1, d.before a0 Z = true) : ((Jvm.Cond.classLink "com/example/orbweaver/orbweaver/synthesis/Valuations" (8 : Nat) "com/example/orbweaver/orbweaver/synthesis/Valuations")).before a0 Z = true := hw _ (List.mem_of_getElem? (i := 77) rfl)
theorem own_w78 {Z : State} {a0 : Array Value} (hw : ∀ d ∈ tables_1, d.before a0 Z = true) : ((Jvm.Cond.superclass "java/lang/Integer" "java/lang/Number")).before a0 Z = true := hw _ (List.mem_of_getElem? (i := 78) rfl)
theorem own_w79 {Z : State} {a0 : Array Value} (hw : ∀ d ∈ tables_1, d.before a0 Z = true) : ((Jvm.Cond.superclass "java/lang/Number" "java/lang/Object")).before a0 Z = true := hw _ (List.mem_of_getElem? (i := 79) rfl)
theorem own_w80 {Z : State} {a0 : Array Value} (hw : ∀ d ∈ tables_1, d.before a0 Z = true) : ((Jvm.Cond.noSuperclass "java/lang/Object")).before a0 Z = true := hw _ (List.mem_of_getElem? (i := 80) rfl)
theorem own_w81 {Z : State} {a0 : Array Value} (hw : ∀ d ∈ tables_1, d.before a0 Z = true) : ((Jvm.Cond.superclass "com/example/orbweaver/orbweaver/synthesis/Diagrams" "java/lang/Object")).before a0 Z = true := hw _ (List.mem_of_getElem? (i := 81) rfl)
theorem own_w83 {Z : State} {a0 : Array Value} (hw : ∀ d ∈ tables_1, d.before a0 Z = true) : ((Jvm.Cond.classLink "java/lang/Integer" (1 : Nat) "java/lang/Integer")).before a0 Z = true := hw _ (List.mem_of_getElem? (i := 83) rfl)
theorem own_w84 {Z : State} {a0 : Array Value} (hw : ∀ d ∈ tables_1, d.before a0 Z = true) : ((Jvm.Cond.instantiable "java/lang/Integer" (1 : Nat))).before a0 Z = true := hw _ (List.mem_of_getElem? (i := 84) rfl)
theorem own_w85 {Z : State} {a0 : Array Value} (hw : ∀ d ∈ tables_1, d.before a0 Z = true) : ((Jvm.Cond.methodLink "java/lang/Integer" (199 : Nat) ({ cls := "java/lang/Integer", name := "<init>", desc := "(I)V" } : Jvm.MethodName))).before a0 Z = true := hw _ (List.mem_of_getElem? (i := 85) rfl)
theorem own_w86 {Z : State} {a0 : Array Value} (hw : ∀ d ∈ tables_1, d.before a0 Z = true) : ((Jvm.Cond.instanceMethod ({ cls := "java/lang/Integer", name := "<init>", desc := "(I)V" } : Jvm.MethodName))).before a0 Z = true := hw _ (List.mem_of_getElem? (i := 86) rfl)
theorem own_w88 {Z : State} {a0 : Array Value} (hw : ∀ d ∈ tables_1, d.before a0 Z = true) : ((Jvm.Cond.code ({ cls := "java/lang/Integer", name := "<init>", desc := "(I)V" } : Jvm.MethodName) jdk_33_method_23_code (2 : Nat) (Option.none : Option Jvm.ClassFile.FieldType))).before a0 Z = true := hw _ (List.mem_of_getElem? (i := 88) rfl)
theorem own_w89 {Z : State} {a0 : Array Value} (hw : ∀ d ∈ tables_1, d.before a0 Z = true) : ((Jvm.Cond.methodLink "java/lang/Integer" (202 : Nat) ({ cls := "java/lang/Number", name := "<init>", desc := "()V" } : Jvm.MethodName))).before a0 Z = true := hw _ (List.mem_of_getElem? (i := 89) rfl)
theorem own_w90 {Z : State} {a0 : Array Value} (hw : ∀ d ∈ tables_1, d.before a0 Z = true) : ((Jvm.Cond.instanceMethod ({ cls := "java/lang/Number", name := "<init>", desc := "()V" } : Jvm.MethodName))).before a0 Z = true := hw _ (List.mem_of_getElem? (i := 90) rfl)
theorem own_w93 {Z : State} {a0 : Array Value} (hw : ∀ d ∈ tables_1, d.before a0 Z = true) : ((Jvm.Cond.initialized "java/lang/Number")).before a0 Z = true := hw _ (List.mem_of_getElem? (i := 93) rfl)
theorem own_w94 {Z : State} {a0 : Array Value} (hw : ∀ d ∈ tables_1, d.before a0 Z = true) : ((Jvm.Cond.code ({ cls := "java/lang/Number", name := "<init>", desc := "()V" } : Jvm.MethodName) jdk_18_method_1_code (1 : Nat) (Option.none : Option Jvm.ClassFile.FieldType))).before a0 Z = true := hw _ (List.mem_of_getElem? (i := 94) rfl)
theorem own_w95 {Z : State} {a0 : Array Value} (hw : ∀ d ∈ tables_1, d.before a0 Z = true) : ((Jvm.Cond.methodLink "java/lang/Number" (1 : Nat) ({ cls := "java/lang/Object", name := "<init>", desc := "()V" } : Jvm.MethodName))).before a0 Z = true := hw _ (List.mem_of_getElem? (i := 95) rfl)
theorem own_w96 {Z : State} {a0 : Array Value} (hw : ∀ d ∈ tables_1, d.before a0 Z = true) : ((Jvm.Cond.fieldLink "java/lang/Integer" (205 : Nat) "java/lang/Integer" "value" "I")).before a0 Z = true := hw _ (List.mem_of_getElem? (i := 96) rfl)
theorem own_w97 {Z : State} {a0 : Array Value} (hw : ∀ d ∈ tables_1, d.before a0 Z = true) : ((Jvm.Cond.laysFinal "java/lang/Integer" "java/lang/Integer" "value" "I")).before a0 Z = true := hw _ (List.mem_of_getElem? (i := 97) rfl)
theorem own_pd_0 : parseMethodDescriptor "(Lcom/example/orbweaver/orbweaver/synthesis/Diagrams;)V" = some ⟨[(.object "com/example/orbweaver/orbweaver/synthesis/Diagrams")], none⟩ := by decide +kernel
theorem own_pd_1 : parseMethodDescriptor "([II)V" = some ⟨[(.array .int), .int], none⟩ := by decide +kernel
theorem own_pd_2 : parseMethodDescriptor "(III)V" = some ⟨[.int, .int, .int], none⟩ := by decide +kernel
theorem own_pd_3 : parseMethodDescriptor "()V" = some ⟨[], none⟩ := by decide +kernel
theorem own_pd_4 : parseMethodDescriptor "(I)V" = some ⟨[.int], none⟩ := by decide +kernel
theorem own_pd_5 : parseMethodDescriptor "(II)V" = some ⟨[.int, .int], none⟩ := by decide +kernel
theorem own_pd_6 : parseMethodDescriptor "(Lcom/example/orbweaver/orbweaver/synthesis/Diagrams;I)V" = some ⟨[(.object "com/example/orbweaver/orbweaver/synthesis/Diagrams"), .int], none⟩ := by decide +kernel
theorem own_pd_7 : parseMethodDescriptor "(Ljava/lang/Object;)Z" = some ⟨[(.object "java/lang/Object")], some .boolean⟩ := by decide +kernel
theorem own_pd_8 : parseMethodDescriptor "(I)Ljava/lang/Integer;" = some ⟨[.int], some (.object "java/lang/Integer")⟩ := by decide +kernel
def own_b1 {α1 β : Type} (o : Option (α1)) (f : α1 → Option β) : Option β := o.bind fun q => f (q)
theorem own_b1_some {α1 β : Type} {o : Option (α1)} {f : α1 → Option β} {r : β} (h : own_b1 o f = some r) : ∃ a1, o = some a1 ∧ f a1 = some r := by
  cases o with
  | none => cases h
  | some q => exact ⟨q, rfl, h⟩
abbrev own_L := List (Nat × Int32)
/-- what place i holds: the last write's value, else d -/
def own_look (d : Int32) (i : Nat) (l : own_L) : Int32 := l.foldr (fun q acc => bif Nat.beq q.1 i then q.2 else acc) d
def own_get (n : Nat) (d : Int32) (l : own_L) (i : Int32) : Option Int32 := if ¬ i < 0 ∧ i.toNatClampNeg < n then some (own_look d i.toNatClampNeg l) else none
def own_set (n : Nat) (l : own_L) (i x : Int32) : Option own_L := if ¬ i < 0 ∧ i.toNatClampNeg < n then some ((i.toNatClampNeg, x) :: l) else none
theorem own_get_in {n : Nat} {d : Int32} {l : own_L} {i x : Int32} (g : own_get n d l i = some x) : ¬ i < 0 ∧ i.toNatClampNeg < n := by
  unfold own_get at g
  split at g
  · assumption
  · cases g
theorem own_get_val {n : Nat} {d : Int32} {l : own_L} {i x : Int32} (g : own_get n d l i = some x) : own_look d i.toNatClampNeg l = x := by
  unfold own_get at g
  split at g
  · exact Option.some.inj g
  · cases g
theorem own_set_in {n : Nat} {l l' : own_L} {i x : Int32} (g : own_set n l i x = some l') : ¬ i < 0 ∧ i.toNatClampNeg < n := by
  unfold own_set at g
  split at g
  · assumption
  · cases g
theorem own_set_val {n : Nat} {l l' : own_L} {i x : Int32} (g : own_set n l i x = some l') : (i.toNatClampNeg, x) :: l = l' := by
  unfold own_set at g
  split at g
  · exact Option.some.inj g
  · cases g
theorem own_look_set (d : Int32) (i j : Nat) (x : Int32) (l : own_L) : own_look d j ((i, x) :: l) = if i = j then x else own_look d j l := by
  show (bif Nat.beq i j then x else own_look d j l) = _
  by_cases h : i = j
  · subst h
    simp
  · have : Nat.beq i j = false := by
      cases hb : Nat.beq i j with
      | false => rfl
      | true => exact absurd (Nat.eq_of_beq_eq_true hb) h
    simp [this, h]
/-- place i of an array of n places that holds f -/
def own_at (n : Nat) (f : Nat → Int32) (i : Int32) : Option Int32 := if ¬ i < 0 ∧ i.toNatClampNeg < n then some (f i.toNatClampNeg) else none
theorem own_at_in {n : Nat} {f : Nat → Int32} {i x : Int32} (g : own_at n f i = some x) : ¬ i < 0 ∧ i.toNatClampNeg < n := by
  unfold own_at at g
  split at g
  · assumption
  · cases g
theorem own_at_val {n : Nat} {f : Nat → Int32} {i x : Int32} (g : own_at n f i = some x) : f i.toNatClampNeg = x := by
  unfold own_at at g
  split at g
  · exact Option.some.inj g
  · cases g
theorem own_A.put {Z : State} {h h' : Heap} {a : Addr} {n : Nat} {d : Int32} {l l' : own_L} {i x : Int32} (A : own_A Z h a .int n (fun j => own_look d j l)) (W : Wr h h' a i.toNatClampNeg (.int x)) (g : own_set n l i x = some l') : own_A Z h' a .int n (fun j => own_look d j l') := by
  have q := own_set_val g
  subst q
  exact (A.set W).congr fun j _ => (own_look_set d _ j x l).symm

abbrev own_lt (a b : Nat) : Prop := a < b
abbrev own_le (a b : Nat) : Prop := a ≤ b
/-- the store at d: its fields, its arrays; where they lie -/
def own_Dg (Z : State) (n0 : Nat) (h : Heap) (d al ao ah au ac aw ar : Addr) (lim sz : Int32) (lv lo hi un ca wo re : own_L) : Prop :=
  (own_le n0 d ∧ own_lt d aw ∧ own_lt aw ar ∧ own_lt ar al ∧ own_lt al ao ∧ own_lt ao ah ∧ own_lt ah au ∧ own_lt au ac) ∧ Exa Z h d "com/example/orbweaver/orbweaver/synthesis/Diagrams" ∧ Fld Z h d "com/example/orbweaver/orbweaver/synthesis/Diagrams" "limit" "I" (.int lim) ∧ Fld Z h d "com/example/orbweaver/orbweaver/synthesis/Diagrams" "size" "I" (.int sz) ∧ Fld Z h d "com/example/orbweaver/orbweaver/synthesis/Diagrams" "level" "[I" (.ref al) ∧ Fld Z h d "com/example/orbweaver/orbweaver/synthesis/Diagrams" "low" "[I" (.ref ao) ∧ Fld Z h d "com/example/orbweaver/orbweaver/synthesis/Diagrams" "high" "[I" (.ref ah) ∧ Fld Z h d "com/example/orbweaver/orbweaver/synthesis/Diagrams" "unique" "[I" (.ref au) ∧ Fld Z h d "com/example/orbweaver/orbweaver/synthesis/Diagrams" "cache" "[I" (.ref ac) ∧ Fld Z h d "com/example/orbweaver/orbweaver/synthesis/Diagrams" "work" "[I" (.ref aw) ∧ Fld Z h d "com/example/orbweaver/orbweaver/synthesis/Diagrams" "results" "[I" (.ref ar) ∧ own_A Z h al .int 4096 (fun j => own_look 0 j lv) ∧ own_A Z h ao .int 4096 (fun j => own_look 0 j lo) ∧ own_A Z h ah .int 4096 (fun j => own_look 0 j hi) ∧ own_A Z h au .int 8192 (fun j => own_look 0 j un) ∧ own_A Z h ac .int 16384 (fun j => own_look (-1) j ca) ∧ own_A Z h aw .int 320 (fun j => own_look 0 j wo) ∧ own_A Z h ar .int 64 (fun j => own_look 0 j re)
section OwnDg
variable {Z : State} {n0 : Nat} {h h' : Heap} {d al ao ah au ac aw ar : Addr} {lim sz : Int32} {lv lo hi un ca wo re : own_L}
theorem own_D_exa (D : own_Dg Z n0 h d al ao ah au ac aw ar lim sz lv lo hi un ca wo re) : Exa Z h d "com/example/orbweaver/orbweaver/synthesis/Diagrams" := D.2.1
theorem own_D_f_limit (D : own_Dg Z n0 h d al ao ah au ac aw ar lim sz lv lo hi un ca wo re) : Fld Z h d "com/example/orbweaver/orbweaver/synthesis/Diagrams" "limit" "I" (.int lim) := D.2.2.1
theorem own_D_f_size (D : own_Dg Z n0 h d al ao ah au ac aw ar lim sz lv lo hi un ca wo re) : Fld Z h d "com/example/orbweaver/orbweaver/synthesis/Diagrams" "size" "I" (.int sz) := D.2.2.2.1
theorem own_D_f_level (D : own_Dg Z n0 h d al ao ah au ac aw ar lim sz lv lo hi un ca wo re) : Fld Z h d "com/example/orbweaver/orbweaver/synthesis/Diagrams" "level" "[I" (.ref al) := D.2.2.2.2.1
theorem own_D_f_low (D : own_Dg Z n0 h d al ao ah au ac aw ar lim sz lv lo hi un ca wo re) : Fld Z h d "com/example/orbweaver/orbweaver/synthesis/Diagrams" "low" "[I" (.ref ao) := D.2.2.2.2.2.1
theorem own_D_f_high (D : own_Dg Z n0 h d al ao ah au ac aw ar lim sz lv lo hi un ca wo re) : Fld Z h d "com/example/orbweaver/orbweaver/synthesis/Diagrams" "high" "[I" (.ref ah) := D.2.2.2.2.2.2.1
theorem own_D_f_unique (D : own_Dg Z n0 h d al ao ah au ac aw ar lim sz lv lo hi un ca wo re) : Fld Z h d "com/example/orbweaver/orbweaver/synthesis/Diagrams" "unique" "[I" (.ref au) := D.2.2.2.2.2.2.2.1
theorem own_D_f_cache (D : own_Dg Z n0 h d al ao ah au ac aw ar lim sz lv lo hi un ca wo re) : Fld Z h d "com/example/orbweaver/orbweaver/synthesis/Diagrams" "cache" "[I" (.ref ac) := D.2.2.2.2.2.2.2.2.1
theorem own_D_f_work (D : own_Dg Z n0 h d al ao ah au ac aw ar lim sz lv lo hi un ca wo re) : Fld Z h d "com/example/orbweaver/orbweaver/synthesis/Diagrams" "work" "[I" (.ref aw) := D.2.2.2.2.2.2.2.2.2.1
theorem own_D_f_results (D : own_Dg Z n0 h d al ao ah au ac aw ar lim sz lv lo hi un ca wo re) : Fld Z h d "com/example/orbweaver/orbweaver/synthesis/Diagrams" "results" "[I" (.ref ar) := D.2.2.2.2.2.2.2.2.2.2.1
theorem own_D_a_al (D : own_Dg Z n0 h d al ao ah au ac aw ar lim sz lv lo hi un ca wo re) : own_A Z h al .int 4096 (fun j => own_look 0 j lv) := D.2.2.2.2.2.2.2.2.2.2.2.1
theorem own_D_a_ao (D : own_Dg Z n0 h d al ao ah au ac aw ar lim sz lv lo hi un ca wo re) : own_A Z h ao .int 4096 (fun j => own_look 0 j lo) := D.2.2.2.2.2.2.2.2.2.2.2.2.1
theorem own_D_a_ah (D : own_Dg Z n0 h d al ao ah au ac aw ar lim sz lv lo hi un ca wo re) : own_A Z h ah .int 4096 (fun j => own_look 0 j hi) := D.2.2.2.2.2.2.2.2.2.2.2.2.2.1
theorem own_D_a_au (D : own_Dg Z n0 h d al ao ah au ac aw ar lim sz lv lo hi un ca wo re) : own_A Z h au .int 8192 (fun j => own_look 0 j un) := D.2.2.2.2.2.2.2.2.2.2.2.2.2.2.1
theorem own_D_a_ac (D : own_Dg Z n0 h d al ao ah au ac aw ar lim sz lv lo hi un ca wo re) : own_A Z h ac .int 16384 (fun j => own_look (-1) j ca) := D.2.2.2.2.2.2.2.2.2.2.2.2.2.2.2.1
theorem own_D_a_aw (D : own_Dg Z n0 h d al ao ah au ac aw ar lim sz lv lo hi un ca wo re) : own_A Z h aw .int 320 (fun j => own_look 0 j wo) := D.2.2.2.2.2.2.2.2.2.2.2.2.2.2.2.2.1
theorem own_D_a_ar (D : own_Dg Z n0 h d al ao ah au ac aw ar lim sz lv lo hi un ca wo re) : own_A Z h ar .int 64 (fun j => own_look 0 j re) := D.2.2.2.2.2.2.2.2.2.2.2.2.2.2.2.2.2
theorem own_D_g_d (D : own_Dg Z n0 h d al ao ah au ac aw ar lim sz lv lo hi un ca wo re) : n0 ≤ d := by
  obtain ⟨⟨o0, o1, o2, o3, o4, o5, o6, o7⟩, -⟩ := D
  show own_le n0 d
  omega
theorem own_D_g_al (D : own_Dg Z n0 h d al ao ah au ac aw ar lim sz lv lo hi un ca wo re) : n0 ≤ al := by
  obtain ⟨⟨o0, o1, o2, o3, o4, o5, o6, o7⟩, -⟩ := D
  show own_le n0 al
  omega
theorem own_D_g_ao (D : own_Dg Z n0 h d al ao ah au ac aw ar lim sz lv lo hi un ca wo re) : n0 ≤ ao := by
  obtain ⟨⟨o0, o1, o2, o3, o4, o5, o6, o7⟩, -⟩ := D
  show own_le n0 ao
  omega
theorem own_D_g_ah (D : own_Dg Z n0 h d al ao ah au ac aw ar lim sz lv lo hi un ca wo re) : n0 ≤ ah := by
  obtain ⟨⟨o0, o1, o2, o3, o4, o5, o6, o7⟩, -⟩ := D
  show own_le n0 ah
  omega
theorem own_D_g_au (D : own_Dg Z n0 h d al ao ah au ac aw ar lim sz lv lo hi un ca wo re) : n0 ≤ au := by
  obtain ⟨⟨o0, o1, o2, o3, o4, o5, o6, o7⟩, -⟩ := D
  show own_le n0 au
  omega
theorem own_D_g_ac (D : own_Dg Z n0 h d al ao ah au ac aw ar lim sz lv lo hi un ca wo re) : n0 ≤ ac := by
  obtain ⟨⟨o0, o1, o2, o3, o4, o5, o6, o7⟩, -⟩ := D
  show own_le n0 ac
  omega
theorem own_D_g_aw (D : own_Dg Z n0 h d al ao ah au ac aw ar lim sz lv lo hi un ca wo re) : n0 ≤ aw := by
  obtain ⟨⟨o0, o1, o2, o3, o4, o5, o6, o7⟩, -⟩ := D
  show own_le n0 aw
  omega
theorem own_D_g_ar (D : own_Dg Z n0 h d al ao ah au ac aw ar lim sz lv lo hi un ca wo re) : n0 ≤ ar := by
  obtain ⟨⟨o0, o1, o2, o3, o4, o5, o6, o7⟩, -⟩ := D
  show own_le n0 ar
  omega
theorem own_D_w_al {l' : own_L} {i x : Int32} (D : own_Dg Z n0 h d al ao ah au ac aw ar lim sz lv lo hi un ca wo re) (W : Wr h h' al i.toNatClampNeg (.int x)) (g : own_set 4096 lv i x = some l') : own_Dg Z n0 h' d al ao ah au ac aw ar lim sz l' lo hi un ca wo re := by
  obtain ⟨⟨o0, o1, o2, o3, o4, o5, o6, o7⟩, E, F0, F1, F2, F3, F4, F5, F6, F7, F8, A0, A1, A2, A3, A4, A5, A6⟩ := D
  exact ⟨⟨o0, o1, o2, o3, o4, o5, o6, o7⟩, E.wr W, F0.other W (Or.inl (by show @Ne Nat _ _; omega)), F1.other W (Or.inl (by show @Ne Nat _ _; omega)), F2.other W (Or.inl (by show @Ne Nat _ _; omega)), F3.other W (Or.inl (by show @Ne Nat _ _; omega)), F4.other W (Or.inl (by show @Ne Nat _ _; omega)), F5.other W (Or.inl (by show @Ne Nat _ _; omega)), F6.other W (Or.inl (by show @Ne Nat _ _; omega)), F7.other W (Or.inl (by show @Ne Nat _ _; omega)), F8.other W (Or.inl (by show @Ne Nat _ _; omega)), A0.put W g, A1.other W (by show @Ne Nat _ _; omega), A2.other W (by show @Ne Nat _ _; omega), A3.other W (by show @Ne Nat _ _; omega), A4.other W (by show @Ne Nat _ _; omega), A5.other W (by show @Ne Nat _ _; omega), A6.other W (by show @Ne Nat _ _; omega)⟩
theorem own_D_w_ao {l' : own_L} {i x : Int32} (D : own_Dg Z n0 h d al ao ah au ac aw ar lim sz lv lo hi un ca wo re) (W : Wr h h' ao i.toNatClampNeg (.int x)) (g : own_set 4096 lo i x = some l') : own_Dg Z n0 h' d al ao ah au ac aw ar lim sz lv l' hi un ca wo re := by
  obtain ⟨⟨o0, o1, o2, o3, o4, o5, o6, o7⟩, E, F0, F1, F2, F3, F4, F5, F6, F7, F8, A0, A1, A2, A3, A4, A5, A6⟩ := D
  exact ⟨⟨o0, o1, o2, o3, o4, o5, o6, o7⟩, E.wr W, F0.other W (Or.inl (by show @Ne Nat _ _; omega)), F1.other W (Or.inl (by show @Ne Nat _ _; omega)), F2.other W (Or.inl (by show @Ne Nat _ _; omega)), F3.other W (Or.inl (by show @Ne Nat _ _; omega)), F4.other W (Or.inl (by show @Ne Nat _ _; omega)), F5.other W (Or.inl (by show @Ne Nat _ _; omega)), F6.other W (Or.inl (by show @Ne Nat _ _; omega)), F7.other W (Or.inl (by show @Ne Nat _ _; omega)), F8.other W (Or.inl (by show @Ne Nat _ _; omega)), A0.other W (by show @Ne Nat _ _; omega), A1.put W g, A2.other W (by show @Ne Nat _ _; omega), A3.other W (by show @Ne Nat _ _; omega), A4.other W (by show @Ne Nat _ _; omega), A5.other W (by show @Ne Nat _ _; omega), A6.other W (by show @Ne Nat _ _; omega)⟩
theorem own_D_w_ah {l' : own_L} {i x : Int32} (D : own_Dg Z n0 h d al ao ah au ac aw ar lim sz lv lo hi un ca wo re) (W : Wr h h' ah i.toNatClampNeg (.int x)) (g : own_set 4096 hi i x = some l') : own_Dg Z n0 h' d al ao ah au ac aw ar lim sz lv lo l' un ca wo re := by
  obtain ⟨⟨o0, o1, o2, o3, o4, o5, o6, o7⟩, E, F0, F1, F2, F3, F4, F5, F6, F7, F8, A0, A1, A2, A3, A4, A5, A6⟩ := D
  exact ⟨⟨o0, o1, o2, o3, o4, o5, o6, o7⟩, E.wr W, F0.other W (Or.inl (by show @Ne Nat _ _; omega)), F1.other W (Or.inl (by show @Ne Nat _ _; omega)), F2.other W (Or.inl (by show @Ne Nat _ _; omega)), F3.other W (Or.inl (by show @Ne Nat _ _; omega)), F4.other W (Or.inl (by show @Ne Nat _ _; omega)), F5.other W (Or.inl (by show @Ne Nat _ _; omega)), F6.other W (Or.inl (by show @Ne Nat _ _; omega)), F7.other W (Or.inl (by show @Ne Nat _ _; omega)), F8.other W (Or.inl (by show @Ne Nat _ _; omega)), A0.other W (by show @Ne Nat _ _; omega), A1.other W (by show @Ne Nat _ _; omega), A2.put W g, A3.other W (by show @Ne Nat _ _; omega), A4.other W (by show @Ne Nat _ _; omega), A5.other W (by show @Ne Nat _ _; omega), A6.other W (by show @Ne Nat _ _; omega)⟩
theorem own_D_w_au {l' : own_L} {i x : Int32} (D : own_Dg Z n0 h d al ao ah au ac aw ar lim sz lv lo hi un ca wo re) (W : Wr h h' au i.toNatClampNeg (.int x)) (g : own_set 8192 un i x = some l') : own_Dg Z n0 h' d al ao ah au ac aw ar lim sz lv lo hi l' ca wo re := by
  obtain ⟨⟨o0, o1, o2, o3, o4, o5, o6, o7⟩, E, F0, F1, F2, F3, F4, F5, F6, F7, F8, A0, A1, A2, A3, A4, A5, A6⟩ := D
  exact ⟨⟨o0, o1, o2, o3, o4, o5, o6, o7⟩, E.wr W, F0.other W (Or.inl (by show @Ne Nat _ _; omega)), F1.other W (Or.inl (by show @Ne Nat _ _; omega)), F2.other W (Or.inl (by show @Ne Nat _ _; omega)), F3.other W (Or.inl (by show @Ne Nat _ _; omega)), F4.other W (Or.inl (by show @Ne Nat _ _; omega)), F5.other W (Or.inl (by show @Ne Nat _ _; omega)), F6.other W (Or.inl (by show @Ne Nat _ _; omega)), F7.other W (Or.inl (by show @Ne Nat _ _; omega)), F8.other W (Or.inl (by show @Ne Nat _ _; omega)), A0.other W (by show @Ne Nat _ _; omega), A1.other W (by show @Ne Nat _ _; omega), A2.other W (by show @Ne Nat _ _; omega), A3.put W g, A4.other W (by show @Ne Nat _ _; omega), A5.other W (by show @Ne Nat _ _; omega), A6.other W (by show @Ne Nat _ _; omega)⟩
theorem own_D_w_ac {l' : own_L} {i x : Int32} (D : own_Dg Z n0 h d al ao ah au ac aw ar lim sz lv lo hi un ca wo re) (W : Wr h h' ac i.toNatClampNeg (.int x)) (g : own_set 16384 ca i x = some l') : own_Dg Z n0 h' d al ao ah au ac aw ar lim sz lv lo hi un l' wo re := by
  obtain ⟨⟨o0, o1, o2, o3, o4, o5, o6, o7⟩, E, F0, F1, F2, F3, F4, F5, F6, F7, F8, A0, A1, A2, A3, A4, A5, A6⟩ := D
  exact ⟨⟨o0, o1, o2, o3, o4, o5, o6, o7⟩, E.wr W, F0.other W (Or.inl (by show @Ne Nat _ _; omega)), F1.other W (Or.inl (by show @Ne Nat _ _; omega)), F2.other W (Or.inl (by show @Ne Nat _ _; omega)), F3.other W (Or.inl (by show @Ne Nat _ _; omega)), F4.other W (Or.inl (by show @Ne Nat _ _; omega)), F5.other W (Or.inl (by show @Ne Nat _ _; omega)), F6.other W (Or.inl (by show @Ne Nat _ _; omega)), F7.other W (Or.inl (by show @Ne Nat _ _; omega)), F8.other W (Or.inl (by show @Ne Nat _ _; omega)), A0.other W (by show @Ne Nat _ _; omega), A1.other W (by show @Ne Nat _ _; omega), A2.other W (by show @Ne Nat _ _; omega), A3.other W (by show @Ne Nat _ _; omega), A4.put W g, A5.other W (by show @Ne Nat _ _; omega), A6.other W (by show @Ne Nat _ _; omega)⟩
theorem own_D_w_aw {l' : own_L} {i x : Int32} (D : own_Dg Z n0 h d al ao ah au ac aw ar lim sz lv lo hi un ca wo re) (W : Wr h h' aw i.toNatClampNeg (.int x)) (g : own_set 320 wo i x = some l') : own_Dg Z n0 h' d al ao ah au ac aw ar lim sz lv lo hi un ca l' re := by
  obtain ⟨⟨o0, o1, o2, o3, o4, o5, o6, o7⟩, E, F0, F1, F2, F3, F4, F5, F6, F7, F8, A0, A1, A2, A3, A4, A5, A6⟩ := D
  exact ⟨⟨o0, o1, o2, o3, o4, o5, o6, o7⟩, E.wr W, F0.other W (Or.inl (by show @Ne Nat _ _; omega)), F1.other W (Or.inl (by show @Ne Nat _ _; omega)), F2.other W (Or.inl (by show @Ne Nat _ _; omega)), F3.other W (Or.inl (by show @Ne Nat _ _; omega)), F4.other W (Or.inl (by show @Ne Nat _ _; omega)), F5.other W (Or.inl (by show @Ne Nat _ _; omega)), F6.other W (Or.inl (by show @Ne Nat _ _; omega)), F7.other W (Or.inl (by show @Ne Nat _ _; omega)), F8.other W (Or.inl (by show @Ne Nat _ _; omega)), A0.other W (by show @Ne Nat _ _; omega), A1.other W (by show @Ne Nat _ _; omega), A2.other W (by show @Ne Nat _ _; omega), A3.other W (by show @Ne Nat _ _; omega), A4.other W (by show @Ne Nat _ _; omega), A5.put W g, A6.other W (by show @Ne Nat _ _; omega)⟩
theorem own_D_w_ar {l' : own_L} {i x : Int32} (D : own_Dg Z n0 h d al ao ah au ac aw ar lim sz lv lo hi un ca wo re) (W : Wr h h' ar i.toNatClampNeg (.int x)) (g : own_set 64 re i x = some l') : own_Dg Z n0 h' d al ao ah au ac aw ar lim sz lv lo hi un ca wo l' := by
  obtain ⟨⟨o0, o1, o2, o3, o4, o5, o6, o7⟩, E, F0, F1, F2, F3, F4, F5, F6, F7, F8, A0, A1, A2, A3, A4, A5, A6⟩ := D
  exact ⟨⟨o0, o1, o2, o3, o4, o5, o6, o7⟩, E.wr W, F0.other W (Or.inl (by show @Ne Nat _ _; omega)), F1.other W (Or.inl (by show @Ne Nat _ _; omega)), F2.other W (Or.inl (by show @Ne Nat _ _; omega)), F3.other W (Or.inl (by show @Ne Nat _ _; omega)), F4.other W (Or.inl (by show @Ne Nat _ _; omega)), F5.other W (Or.inl (by show @Ne Nat _ _; omega)), F6.other W (Or.inl (by show @Ne Nat _ _; omega)), F7.other W (Or.inl (by show @Ne Nat _ _; omega)), F8.other W (Or.inl (by show @Ne Nat _ _; omega)), A0.other W (by show @Ne Nat _ _; omega), A1.other W (by show @Ne Nat _ _; omega), A2.other W (by show @Ne Nat _ _; omega), A3.other W (by show @Ne Nat _ _; omega), A4.other W (by show @Ne Nat _ _; omega), A5.other W (by show @Ne Nat _ _; omega), A6.put W g⟩
theorem own_D_w_size {a0 : Array Value} {x : Int32} (hw : ∀ d ∈ tables_1, d.before a0 Z = true) (D : own_Dg Z n0 h d al ao ah au ac aw ar lim sz lv lo hi un ca wo re) (W : Wr h h' d (Jvm.RoadKit.slotOf Z "com/example/orbweaver/orbweaver/synthesis/Diagrams" "size" "I") (.int x)) : own_Dg Z n0 h' d al ao ah au ac aw ar lim x lv lo hi un ca wo re := by
  obtain ⟨⟨o0, o1, o2, o3, o4, o5, o6, o7⟩, E, F0, F1, F2, F3, F4, F5, F6, F7, F8, A0, A1, A2, A3, A4, A5, A6⟩ := D
  exact ⟨⟨o0, o1, o2, o3, o4, o5, o6, o7⟩, E.wr W, F0.other W (Or.inr (slot_ne (Or.inl (own_w37 hw)) (Or.inl (own_w45 hw)) (by decide) (t := .int) (t' := .int) (by decide) (by decide))), F1.same W, F2.other W (Or.inr (slot_ne (Or.inl (own_w39 hw)) (Or.inl (own_w45 hw)) (by decide) (t := (.array .int)) (t' := .int) (by decide) (by decide))), F3.other W (Or.inr (slot_ne (Or.inl (own_w41 hw)) (Or.inl (own_w45 hw)) (by decide) (t := (.array .int)) (t' := .int) (by decide) (by decide))), F4.other W (Or.inr (slot_ne (Or.inl (own_w43 hw)) (Or.inl (own_w45 hw)) (by decide) (t := (.array .int)) (t' := .int) (by decide) (by decide))), F5.other W (Or.inr (slot_ne (Or.inl (own_w47 hw)) (Or.inl (own_w45 hw)) (by decide) (t := (.array .int)) (t' := .int) (by decide) (by decide))), F6.other W (Or.inr (slot_ne (Or.inl (own_w49 hw)) (Or.inl (own_w45 hw)) (by decide) (t := (.array .int)) (t' := .int) (by decide) (by decide))), F7.other W (Or.inr (slot_ne (Or.inl (own_w29 hw)) (Or.inl (own_w45 hw)) (by decide) (t := (.array .int)) (t' := .int) (by decide) (by decide))), F8.other W (Or.inr (slot_ne (Or.inl (own_w31 hw)) (Or.inl (own_w45 hw)) (by decide) (t := (.array .int)) (t' := .int) (by decide) (by decide))), A0.other W (by show @Ne Nat _ _; omega), A1.other W (by show @Ne Nat _ _; omega), A2.other W (by show @Ne Nat _ _; omega), A3.other W (by show @Ne Nat _ _; omega), A4.other W (by show @Ne Nat _ _; omega), A5.other W (by show @Ne Nat _ _; omega), A6.other W (by show @Ne Nat _ _; omega)⟩
theorem own_D_nin {z : Addr} (D : own_Dg Z n0 h d al ao ah au ac aw ar lim sz lv lo hi un ca wo re) (q : own_lt z d) : z ∉ [d, al, ao, ah, au, ac, aw, ar] := by
  obtain ⟨⟨o0, o1, o2, o3, o4, o5, o6, o7⟩, -⟩ := D
  intro hz
  simp only [List.mem_cons, List.not_mem_nil, or_false] at hz
  rcases hz with rfl | rfl | rfl | rfl | rfl | rfl | rfl | rfl <;> omega
end OwnDg
theorem own_n_lt {i n : Nat} (hi : i < n) (hn : n < 2 ^ 31) : Int32.ofNat i < Int32.ofNat n := by
  rw [Int32.lt_iff_toInt_lt, Int32.toInt_ofNat_of_lt (by omega), Int32.toInt_ofNat_of_lt (by omega)]
  omega
theorem own_n_ge {n : Nat} : ¬ Int32.ofNat n < Int32.ofNat n := by
  rw [Int32.lt_iff_toInt_lt]
  omega
theorem own_n_nat {i : Nat} (hi : i < 2 ^ 31) : (Int32.ofNat i).toNatClampNeg = i := by
  rw [Int32.toNatClampNeg, Int32.toInt_ofNat_of_lt (by omega)]; rfl
theorem own_n_nn {i : Nat} (hi : i < 2 ^ 31) : ¬ Int32.ofNat i < 0 := by
  rw [Int32.lt_iff_toInt_lt, Int32.toInt_ofNat_of_lt (by omega), show (0 : Int32).toInt = 0 from rfl]
  omega
theorem own_n_one (i : Nat) : Int32.ofNat i + Int32.ofInt 1 = Int32.ofNat (i + 1) := (Int32.ofNat_add i 1).symm

theorem d_fill_0 : decode jdk_65_method_103_code 0 = .ok (.iconst 0, 1) := by decide +kernel
theorem d_fill_1 : decode jdk_65_method_103_code 1 = .ok (.istore_n 2, 1) := by decide +kernel
theorem d_fill_2 : decode jdk_65_method_103_code 2 = .ok (.aload_n 0, 1) := by decide +kernel
theorem d_fill_3 : decode jdk_65_method_103_code 3 = .ok (.arraylength, 1) := by decide +kernel
theorem d_fill_4 : decode jdk_65_method_103_code 4 = .ok (.istore_n 3, 1) := by decide +kernel
theorem d_fill_5 : decode jdk_65_method_103_code 5 = .ok (.iload_n 2, 1) := by decide +kernel
theorem d_fill_6 : decode jdk_65_method_103_code 6 = .ok (.iload_n 3, 1) := by decide +kernel
theorem d_fill_7 : decode jdk_65_method_103_code 7 = .ok (.if_icmp .ge 13, 3) := by decide +kernel
theorem d_fill_10 : decode jdk_65_method_103_code 10 = .ok (.aload_n 0, 1) := by decide +kernel
theorem d_fill_11 : decode jdk_65_method_103_code 11 = .ok (.iload_n 2, 1) := by decide +kernel
theorem d_fill_12 : decode jdk_65_method_103_code 12 = .ok (.iload_n 1, 1) := by decide +kernel
theorem d_fill_13 : decode jdk_65_method_103_code 13 = .ok (.iastore, 1) := by decide +kernel
theorem d_fill_14 : decode jdk_65_method_103_code 14 = .ok (.iinc 2 1, 3) := by decide +kernel
theorem d_fill_17 : decode jdk_65_method_103_code 17 = .ok (.goto (-12), 3) := by decide +kernel
theorem d_fill_20 : decode jdk_65_method_103_code 20 = .ok (.return_, 1) := by decide +kernel
theorem own_ef_fill (m : MethodId) (a : Addr) (x : Int32) : entryFrame m #[(.ref a), (.int x)] 4 = mkF m 0 #[.val (.ref a), .val (.int x), .unset, .unset] [] := by first | (simp [entryFrame, mkF, argsToLocals, Value.category]; done) | rfl
set_option maxRecDepth 65536 in
set_option maxHeartbeats 40000000 in
theorem own_m_fill (l : Launch) (Z : State) (a0 : Array Value) (hw : ∀ d ∈ tables_1, d.before a0 Z = true) (h0 : Heap) (n0 : Nat) {a : Addr} {n : Nat} {f : Nat → Int32} (hn : n < 2 ^ 31) (A : own_A Z h0 a .int n f) (ga : n0 ≤ a) (x : Int32) : own_Met l Z ⟨"java/util/Arrays", "fill", "([II)V"⟩ jdk_65_method_103_code 4 none [] ({ frames := 0, cells := 0, slots := 0, locals := 0 } : Room) #[.ref a, .int x] h0 n0 (fun v h => v = none ∧ own_A Z h a .int n (fun _ => x) ∧ Keep h0 h [a]) := by
  refine own_body own_pn_Arrays ?_
  intro p e s m below meth c T0 X0 hx hby hml hown hnm hZ e0 hret hlk
  have N0 := Fr.nil n0
  have loop : ∀ (k i : Nat) (T : State) (h : Heap) (locs : List Loc), i + k = n → Stand p l e ({ frames := 0, cells := 0, slots := 0, locals := 0 } : Room) s m #[.ref a, .int x] below meth c T locs 0 0 → Fr n0 locs → T.heap = h → own_A Z h a .int n (fun j => if j < i then x else f j) → Keep h0 h [a] → own_G p e below (own_End s ({ frames := 0, cells := 0, slots := 0, locals := 0 } : Room) n0 (fun v h => v = none ∧ own_A Z h a .int n (fun _ => x) ∧ Keep h0 h [a])) (T.setTop (mkF m 5 #[.val (.ref a), .val (.int x), .val (.int (Int32.ofNat i)), .val (.int (Int32.ofNat n))] [])) := by
    intro k
    induction k with
    | zero =>
      intro i T h locs hk X N eT B K
      have hi : i = n := hk
      subst hi
      refine own_iloadN X hx (hb hby d_fill_5) rfl 6 rfl ?_
      refine own_iloadN X hx (hb hby d_fill_6) rfl 7 rfl ?_
      refine own_icmpT X hx (hb hby d_fill_7) (flt own_n_ge).2.1 20 (by decide) (by decide) ?_
      exact own_retV X hx hret hlk (hb hby d_fill_20) (Nat.le_refl _) (Nat.le_refl _) N eT ⟨rfl, B.congr (fun j hj => if_pos hj), K⟩
    | succ k ih =>
      intro i T h locs hk X N eT B K
      have hi : i < n := by omega
      refine own_iloadN X hx (hb hby d_fill_5) rfl 6 rfl ?_
      refine own_iloadN X hx (hb hby d_fill_6) rfl 7 rfl ?_
      refine own_icmpF X hx (hb hby d_fill_7) (tlt (own_n_lt hi hn)).2.1 10 rfl ?_
      refine own_aloadN X hx (hb hby d_fill_10) rfl rfl 11 rfl ?_
      refine own_iloadN X hx (hb hby d_fill_11) rfl 12 rfl ?_
      refine own_iloadN X hx (hb hby d_fill_12) rfl 13 rfl ?_
      refine own_iastore X hx hZ eT B ⟨own_n_nn (by omega), by rw [own_n_nat (by omega)]; exact hi⟩ (hb hby d_fill_13) N ga 14 rfl (fun T1 h1 l1 X1 N1 e1 W1 => ?_)
      refine own_iinc X1 hx (z := Int32.ofNat (i + 1)) (#[.val (.ref a), .val (.int x), .val (.int (Int32.ofNat (i + 1))), .val (.int (Int32.ofNat n))]) (hb hby d_fill_14) rfl (own_n_one i) rfl 17 rfl ?_
      refine own_goto X1 hx (hb hby d_fill_17) 5 (by decide) (by decide) ?_
      refine ih (i + 1) T1 h1 _ (by omega) X1 N1 e1 ?_ (K.wr W1 (Or.inl (List.mem_of_getElem? (i := 0) rfl)))
      rw [own_n_nat (by omega)] at W1
      refine (B.set W1).congr fun j hj => ?_
      by_cases q : i = j
      · subst q
        rw [if_pos rfl, if_pos (by omega)]
      · rw [if_neg q]
        by_cases r : j < i
        · rw [if_pos r, if_pos (by omega)]
        · rw [if_neg r, if_neg (by omega)]
  refine own_cast (own_ef_fill m a x) ?_
  refine own_iconst X0 hx (z := Int32.ofNat 0) (hb hby d_fill_0) rfl 1 rfl ?_
  refine own_istoreN X0 hx (#[.val (.ref a), .val (.int x), .val (.int (Int32.ofNat 0)), .unset]) (hb hby d_fill_1) rfl 2 rfl ?_
  refine own_aloadN X0 hx (hb hby d_fill_2) rfl rfl 3 rfl ?_
  refine own_arrlen X0 hx hZ e0 A (z := Int32.ofNat n) rfl (hb hby d_fill_3) 4 rfl ?_
  refine own_istoreN X0 hx (#[.val (.ref a), .val (.int x), .val (.int (Int32.ofNat 0)), .val (.int (Int32.ofNat n))]) (hb hby d_fill_4) rfl 5 rfl ?_
  exact loop n 0 T0 h0 _ (Nat.zero_add n) X0 N0 e0 (A.congr fun j hj => (if_neg (Nat.not_lt_zero j)).symm) (Keep.refl _ _)
theorem d_d1init_0 : decode prog_82_method_1_code 0 = .ok (.aload_n 0, 1) := by decide +kernel
theorem d_d1init_1 : decode prog_82_method_1_code 1 = .ok (.aload_n 1, 1) := by decide +kernel
theorem d_d1init_2 : decode prog_82_method_1_code 2 = .ok (.putfield 3, 3) := by decide +kernel
theorem d_d1init_5 : decode prog_82_method_1_code 5 = .ok (.aload_n 0, 1) := by decide +kernel
theorem d_d1init_6 : decode prog_82_method_1_code 6 = .ok (.invokespecial 9, 3) := by decide +kernel
theorem d_d1init_9 : decode prog_82_method_1_code 9 = .ok (.return_, 1) := by decide +kernel
theorem own_ef_d1init (m : MethodId) (b : Addr) (d : Addr) : entryFrame m #[(.ref b), (.ref d)] 2 = mkF m 0 #[.val (.ref b), .val (.ref d)] [] := by first | (simp [entryFrame, mkF, argsToLocals, Value.category]; done) | rfl
set_option maxRecDepth 65536 in
set_option maxHeartbeats 40000000 in
theorem own_m_d1init (l : Launch) (Z : State) (a0 : Array Value) (hw : ∀ d ∈ tables_1, d.before a0 Z = true) (h0 : Heap) (n0 : Nat) {b d : Addr} (E0 : Exa Z h0 b "com/example/orbweaver/orbweaver/synthesis/Diagrams$1") (F0 : Fld Z h0 b "com/example/orbweaver/orbweaver/synthesis/Diagrams$1" "this$0" "Lcom/example/orbweaver/orbweaver/synthesis/Diagrams;" .null) (gn_b : n0 ≤ b) : own_Met l Z ⟨"com/example/orbweaver/orbweaver/synthesis/Diagrams$1", "<init>", "(Lcom/example/orbweaver/orbweaver/synthesis/Diagrams;)V"⟩ prog_82_method_1_code 2 none [] ({ frames := 1, cells := 0, slots := 0, locals := 12 } : Room) #[.ref b, .ref d] h0 n0 (fun v h => v = none ∧ Keep h0 h [b]) := by
  refine own_body own_pn_Diagrams_1 ?_
  intro p e s m below meth c T0 X0 hx hby hml hown hnm hZ e0 hret hlk
  have N0 := Fr.nil n0
  have K0 : Keep h0 h0 [b] := Keep.refl _ _
  refine own_cast (own_ef_d1init m b d) ?_
  refine own_aloadN X0 hx (hb hby d_d1init_0) rfl rfl 1 rfl ?_
  refine own_aloadN X0 hx (hb hby d_d1init_1) rfl rfl 2 rfl ?_
  refine own_putF X0 hx hZ hown (own_w18 hw) e0 F0 E0 (Or.inr ⟨(own_w19 hw), rfl, hnm⟩) (own_w13 hw) (ty := (.object "com/example/orbweaver/orbweaver/synthesis/Diagrams")) (by decide) rfl rfl (hb hby d_d1init_2) N0 gn_b 5 rfl (fun T1 h1 l1 X1 N1 e1 W1 => ?_)
  have E0_1 := E0.wr W1
  have F0_1 := F0.same W1
  have K0_1 := K0.wr W1 (Or.inl (List.mem_of_getElem? (i := 0) rfl))
  refine own_aloadN X1 hx (hb hby d_d1init_5) rfl rfl 6 rfl ?_
  refine own_initO X1 hx hZ hown (own_w20 hw) (own_w10 hw) (own_w11 hw) e1 (by rw [hml]; rfl) (hb hby d_d1init_6) 0 (by decide) (Nat.le_of_eq rfl) (by decide) 9 rfl (fun T2 X2 e2 => ?_)
  exact own_retV X2 hx hret hlk (hb hby d_d1init_9) (Nat.le_refl _) (Nat.le_refl _) N1 e2 ⟨rfl, K0_1⟩
theorem d_dinit_0 : decode prog_81_method_2_code 0 = .ok (.aload_n 0, 1) := by decide +kernel
theorem d_dinit_1 : decode prog_81_method_2_code 1 = .ok (.invokespecial 7, 3) := by decide +kernel
theorem d_dinit_4 : decode prog_81_method_2_code 4 = .ok (.aload_n 0, 1) := by decide +kernel
theorem d_dinit_5 : decode prog_81_method_2_code 5 = .ok (.new 12, 3) := by decide +kernel
theorem d_dinit_8 : decode prog_81_method_2_code 8 = .ok (.dup, 1) := by decide +kernel
theorem d_dinit_9 : decode prog_81_method_2_code 9 = .ok (.aload_n 0, 1) := by decide +kernel
theorem d_dinit_10 : decode prog_81_method_2_code 10 = .ok (.invokespecial 14, 3) := by decide +kernel
theorem d_dinit_13 : decode prog_81_method_2_code 13 = .ok (.putfield 17, 3) := by decide +kernel
theorem d_dinit_16 : decode prog_81_method_2_code 16 = .ok (.aload_n 0, 1) := by decide +kernel
theorem d_dinit_17 : decode prog_81_method_2_code 17 = .ok (.sipush 4096, 3) := by decide +kernel
theorem d_dinit_20 : decode prog_81_method_2_code 20 = .ok (.anewarray 21, 3) := by decide +kernel
theorem d_dinit_23 : decode prog_81_method_2_code 23 = .ok (.putfield 23, 3) := by decide +kernel
theorem d_dinit_26 : decode prog_81_method_2_code 26 = .ok (.aload_n 0, 1) := by decide +kernel
theorem d_dinit_27 : decode prog_81_method_2_code 27 = .ok (.sipush 320, 3) := by decide +kernel
theorem d_dinit_30 : decode prog_81_method_2_code 30 = .ok (.newarray .int, 2) := by decide +kernel
theorem d_dinit_32 : decode prog_81_method_2_code 32 = .ok (.putfield 27, 3) := by decide +kernel
theorem d_dinit_35 : decode prog_81_method_2_code 35 = .ok (.aload_n 0, 1) := by decide +kernel
theorem d_dinit_36 : decode prog_81_method_2_code 36 = .ok (.bipush 64, 2) := by decide +kernel
theorem d_dinit_38 : decode prog_81_method_2_code 38 = .ok (.newarray .int, 2) := by decide +kernel
theorem d_dinit_40 : decode prog_81_method_2_code 40 = .ok (.putfield 31, 3) := by decide +kernel
theorem d_dinit_43 : decode prog_81_method_2_code 43 = .ok (.aload_n 0, 1) := by decide +kernel
theorem d_dinit_44 : decode prog_81_method_2_code 44 = .ok (.iload_n 2, 1) := by decide +kernel
theorem d_dinit_45 : decode prog_81_method_2_code 45 = .ok (.putfield 34, 3) := by decide +kernel
theorem d_dinit_48 : decode prog_81_method_2_code 48 = .ok (.aload_n 0, 1) := by decide +kernel
theorem d_dinit_49 : decode prog_81_method_2_code 49 = .ok (.iload_n 1, 1) := by decide +kernel
theorem d_dinit_50 : decode prog_81_method_2_code 50 = .ok (.putfield 38, 3) := by decide +kernel
theorem d_dinit_53 : decode prog_81_method_2_code 53 = .ok (.aload_n 0, 1) := by decide +kernel
theorem d_dinit_54 : decode prog_81_method_2_code 54 = .ok (.iload_n 3, 1) := by decide +kernel
theorem d_dinit_55 : decode prog_81_method_2_code 55 = .ok (.putfield 41, 3) := by decide +kernel
theorem d_dinit_58 : decode prog_81_method_2_code 58 = .ok (.aload_n 0, 1) := by decide +kernel
theorem d_dinit_59 : decode prog_81_method_2_code 59 = .ok (.sipush 4096, 3) := by decide +kernel
theorem d_dinit_62 : decode prog_81_method_2_code 62 = .ok (.newarray .int, 2) := by decide +kernel
theorem d_dinit_64 : decode prog_81_method_2_code 64 = .ok (.putfield 44, 3) := by decide +kernel
theorem d_dinit_67 : decode prog_81_method_2_code 67 = .ok (.aload_n 0, 1) := by decide +kernel
theorem d_dinit_68 : decode prog_81_method_2_code 68 = .ok (.sipush 4096, 3) := by decide +kernel
theorem d_dinit_71 : decode prog_81_method_2_code 71 = .ok (.newarray .int, 2) := by decide +kernel
theorem d_dinit_73 : decode prog_81_method_2_code 73 = .ok (.putfield 47, 3) := by decide +kernel
theorem d_dinit_76 : decode prog_81_method_2_code 76 = .ok (.aload_n 0, 1) := by decide +kernel
theorem d_dinit_77 : decode prog_81_method_2_code 77 = .ok (.sipush 4096, 3) := by decide +kernel
theorem d_dinit_80 : decode prog_81_method_2_code 80 = .ok (.newarray .int, 2) := by decide +kernel
theorem d_dinit_82 : decode prog_81_method_2_code 82 = .ok (.putfield 50, 3) := by decide +kernel
theorem d_dinit_85 : decode prog_81_method_2_code 85 = .ok (.aload_n 0, 1) := by decide +kernel
theorem d_dinit_86 : decode prog_81_method_2_code 86 = .ok (.getfield 44, 3) := by decide +kernel
theorem d_dinit_89 : decode prog_81_method_2_code 89 = .ok (.iconst 0, 1) := by decide +kernel
theorem d_dinit_90 : decode prog_81_method_2_code 90 = .ok (.iload_n 2, 1) := by decide +kernel
theorem d_dinit_91 : decode prog_81_method_2_code 91 = .ok (.iastore, 1) := by decide +kernel
theorem d_dinit_92 : decode prog_81_method_2_code 92 = .ok (.aload_n 0, 1) := by decide +kernel
theorem d_dinit_93 : decode prog_81_method_2_code 93 = .ok (.getfield 44, 3) := by decide +kernel
theorem d_dinit_96 : decode prog_81_method_2_code 96 = .ok (.iconst 1, 1) := by decide +kernel
theorem d_dinit_97 : decode prog_81_method_2_code 97 = .ok (.iload_n 2, 1) := by decide +kernel
theorem d_dinit_98 : decode prog_81_method_2_code 98 = .ok (.iastore, 1) := by decide +kernel
theorem d_dinit_99 : decode prog_81_method_2_code 99 = .ok (.aload_n 0, 1) := by decide +kernel
theorem d_dinit_100 : decode prog_81_method_2_code 100 = .ok (.getfield 47, 3) := by decide +kernel
theorem d_dinit_103 : decode prog_81_method_2_code 103 = .ok (.iconst 1, 1) := by decide +kernel
theorem d_dinit_104 : decode prog_81_method_2_code 104 = .ok (.iconst 1, 1) := by decide +kernel
theorem d_dinit_105 : decode prog_81_method_2_code 105 = .ok (.iastore, 1) := by decide +kernel
theorem d_dinit_106 : decode prog_81_method_2_code 106 = .ok (.aload_n 0, 1) := by decide +kernel
theorem d_dinit_107 : decode prog_81_method_2_code 107 = .ok (.getfield 50, 3) := by decide +kernel
theorem d_dinit_110 : decode prog_81_method_2_code 110 = .ok (.iconst 1, 1) := by decide +kernel
theorem d_dinit_111 : decode prog_81_method_2_code 111 = .ok (.iconst 1, 1) := by decide +kernel
theorem d_dinit_112 : decode prog_81_method_2_code 112 = .ok (.iastore, 1) := by decide +kernel
theorem d_dinit_113 : decode prog_81_method_2_code 113 = .ok (.aload_n 0, 1) := by decide +kernel
theorem d_dinit_114 : decode prog_81_method_2_code 114 = .ok (.iconst 2, 1) := by decide +kernel
theorem d_dinit_115 : decode prog_81_method_2_code 115 = .ok (.putfield 53, 3) := by decide +kernel
theorem d_dinit_118 : decode prog_81_method_2_code 118 = .ok (.aload_n 0, 1) := by decide +kernel
theorem d_dinit_119 : decode prog_81_method_2_code 119 = .ok (.sipush 8192, 3) := by decide +kernel
theorem d_dinit_122 : decode prog_81_method_2_code 122 = .ok (.newarray .int, 2) := by decide +kernel
theorem d_dinit_124 : decode prog_81_method_2_code 124 = .ok (.putfield 56, 3) := by decide +kernel
theorem d_dinit_127 : decode prog_81_method_2_code 127 = .ok (.aload_n 0, 1) := by decide +kernel
theorem d_dinit_128 : decode prog_81_method_2_code 128 = .ok (.sipush 16384, 3) := by decide +kernel
theorem d_dinit_131 : decode prog_81_method_2_code 131 = .ok (.newarray .int, 2) := by decide +kernel
theorem d_dinit_133 : decode prog_81_method_2_code 133 = .ok (.putfield 59, 3) := by decide +kernel
theorem d_dinit_136 : decode prog_81_method_2_code 136 = .ok (.aload_n 0, 1) := by decide +kernel
theorem d_dinit_137 : decode prog_81_method_2_code 137 = .ok (.getfield 59, 3) := by decide +kernel
theorem d_dinit_140 : decode prog_81_method_2_code 140 = .ok (.iconst (-1), 1) := by decide +kernel
theorem d_dinit_141 : decode prog_81_method_2_code 141 = .ok (.invokestatic 62, 3) := by decide +kernel
theorem d_dinit_144 : decode prog_81_method_2_code 144 = .ok (.return_, 1) := by decide +kernel
theorem own_ef_dinit (m : MethodId) (d : Addr) (p1 : Int32) (p2 : Int32) (p3 : Int32) : entryFrame m #[(.ref d), (.int p1), (.int p2), (.int p3)] 4 = mkF m 0 #[.val (.ref d), .val (.int p1), .val (.int p2), .val (.int p3)] [] := by first | (simp [entryFrame, mkF, argsToLocals, Value.category]; done) | rfl
set_option maxRecDepth 65536 in
set_option maxHeartbeats 40000000 in
theorem own_m_dinit (l : Launch) (Z : State) (a0 : Array Value) (hw : ∀ d ∈ tables_1, d.before a0 Z = true) (h0 : Heap) (n0 : Nat) {d : Addr} (p1 p2 p3 : Int32) (E0 : Exa Z h0 d "com/example/orbweaver/orbweaver/synthesis/Diagrams") (F_logic : Fld Z h0 d "com/example/orbweaver/orbweaver/synthesis/Diagrams" "logic" "Lcom/example/orbweaver/orbweaver/spec/Logic;" .null) (F_sets : Fld Z h0 d "com/example/orbweaver/orbweaver/synthesis/Diagrams" "sets" "[Lcom/example/orbweaver/orbweaver/synthesis/Valuations;" .null) (F_work : Fld Z h0 d "com/example/orbweaver/orbweaver/synthesis/Diagrams" "work" "[I" .null) (F_results : Fld Z h0 d "com/example/orbweaver/orbweaver/synthesis/Diagrams" "results" "[I" .null) (F_variables : Fld Z h0 d "com/example/orbweaver/orbweaver/synthesis/Diagrams" "variables" "I" (.int 0)) (F_terms : Fld Z h0 d "com/example/orbweaver/orbweaver/synthesis/Diagrams" "terms" "I" (.int 0)) (F_limit : Fld Z h0 d "com/example/orbweaver/orbweaver/synthesis/Diagrams" "limit" "I" (.int 0)) (F_level : Fld Z h0 d "com/example/orbweaver/orbweaver/synthesis/Diagrams" "level" "[I" .null) (F_low : Fld Z h0 d "com/example/orbweaver/orbweaver/synthesis/Diagrams" "low" "[I" .null) (F_high : Fld Z h0 d "com/example/orbweaver/orbweaver/synthesis/Diagrams" "high" "[I" .null) (F_size : Fld Z h0 d "com/example/orbweaver/orbweaver/synthesis/Diagrams" "size" "I" (.int 0)) (F_unique : Fld Z h0 d "com/example/orbweaver/orbweaver/synthesis/Diagrams" "unique" "[I" .null) (F_cache : Fld Z h0 d "com/example/orbweaver/orbweaver/synthesis/Diagrams" "cache" "[I" .null) (gn_d : n0 ≤ d) : own_Met l Z ⟨"com/example/orbweaver/orbweaver/synthesis/Diagrams", "<init>", "(III)V"⟩ prog_81_method_2_code 4 none [] ({ frames := 2, cells := 9, slots := 41345, locals := 27 } : Room) #[.ref d, .int p1, .int p2, .int p3] h0 n0 (fun v h => v = none ∧ (∃ al ao ah au ac aw ar, own_Dg Z n0 h d al ao ah au ac aw ar p3 2 [(1, p2), (0, p2)] [(1, 1)] [(1, 1)] [] [] [] []) ∧ Keep h0 h [d]) := by
  refine own_body own_pn_Diagrams ?_
  intro p e s m below meth c T0 X0 hx hby hml hown hnm hZ e0 hret hlk
  have N0 := Fr.nil n0
  have K0 : Keep h0 h0 [d] := Keep.refl _ _
  have Z0 : n0 ≤ h0.size := Nat.le_trans gn_d (Nat.le_of_lt E0.lt)
  refine own_cast (own_ef_dinit m d p1 p2 p3) ?_
  refine own_aloadN X0 hx (hb hby d_dinit_0) rfl rfl 1 rfl ?_
  refine own_initO X0 hx hZ hown (own_w9 hw) (own_w10 hw) (own_w11 hw) e0 (by rw [hml]; rfl) (hb hby d_dinit_1) 0 (by decide) (Nat.le_of_eq rfl) (by decide) 4 rfl (fun T1 X1 e1 => ?_)
  refine own_aloadN X1 hx (hb hby d_dinit_4) rfl rfl 5 rfl ?_
  refine own_newO X1 hx hZ hown (own_w12 hw) (own_w13 hw) (own_w14 hw) e1 (hb hby d_dinit_5) (by decide) (by decide) 8 rfl (fun T2 h2 b2 g2 X2 e2 E2 B2 D2 => ?_)
  have o_d_b2 : d < b2 := Nat.lt_of_lt_of_eq E0.lt g2.symm
  have gn_b2 : n0 ≤ b2 := Nat.le_trans Z0 (Nat.le_of_eq g2.symm)
  have sz_b2 : h0.size ≤ b2 := Nat.le_trans K0.1 (Nat.le_of_eq g2.symm)
  have E0_2 := E0.ext E2
  have K0_2 := K0.ext E2
  have Z0_2 := Nat.le_trans Z0 E2.1
  have F_logic_2 := F_logic.ext E2
  have F_sets_2 := F_sets.ext E2
  have F_work_2 := F_work.ext E2
  have F_results_2 := F_results.ext E2
  have F_variables_2 := F_variables.ext E2
  have F_terms_2 := F_terms.ext E2
  have F_limit_2 := F_limit.ext E2
  have F_level_2 := F_level.ext E2
  have F_low_2 := F_low.ext E2
  have F_high_2 := F_high.ext E2
  have F_size_2 := F_size.ext E2
  have F_unique_2 := F_unique.ext E2
  have F_cache_2 := F_cache.ext E2
  have F_this_0_b2_2 : Fld Z h2 b2 "com/example/orbweaver/orbweaver/synthesis/Diagrams$1" "this$0" "Lcom/example/orbweaver/orbweaver/synthesis/Diagrams;" .null := D2 (Or.inr (own_w19 hw)) (ty := (.object "com/example/orbweaver/orbweaver/synthesis/Diagrams")) (by decide)
  refine own_dup X2 hx (hb hby d_dinit_8) rfl 9 rfl ?_
  refine own_aloadN X2 hx (hb hby d_dinit_9) rfl rfl 10 rfl ?_
  refine own_callI X2 hx hZ hown rfl (own_w15 hw) (own_w16 hw) (own_w14 hw) (own_w17 hw) (by decide) 2 (own_m_d1init l Z a0 hw _ n0 B2 F_this_0_b2_2 gn_b2) e2 (by rw [hml]; rfl) b2 [(.ref d)] [(.ref b2), (.ref d)] rfl (lenOf own_pd_0 rfl) rfl (Nat.le_of_eq rfl) (by decide) (by decide) (by decide) (by decide) (hb hby d_dinit_10) N0 13 rfl (fun v3 T3 l3 X3 N3 hP3 => ?_)
  obtain ⟨rfl, K3'⟩ := hP3
  have E0_3 := E0_2.keep K3'
  have K0_3 := K0_2.trans K3' (allS (Or.inr sz_b2) all0)
  have Z0_3 := Nat.le_trans Z0_2 K3'.1
  have F_logic_3 := F_logic_2.keep K3' (ninS (Nat.ne_of_lt o_d_b2) nin0)
  have F_sets_3 := F_sets_2.keep K3' (ninS (Nat.ne_of_lt o_d_b2) nin0)
  have F_work_3 := F_work_2.keep K3' (ninS (Nat.ne_of_lt o_d_b2) nin0)
  have F_results_3 := F_results_2.keep K3' (ninS (Nat.ne_of_lt o_d_b2) nin0)
  have F_variables_3 := F_variables_2.keep K3' (ninS (Nat.ne_of_lt o_d_b2) nin0)
  have F_terms_3 := F_terms_2.keep K3' (ninS (Nat.ne_of_lt o_d_b2) nin0)
  have F_limit_3 := F_limit_2.keep K3' (ninS (Nat.ne_of_lt o_d_b2) nin0)
  have F_level_3 := F_level_2.keep K3' (ninS (Nat.ne_of_lt o_d_b2) nin0)
  have F_low_3 := F_low_2.keep K3' (ninS (Nat.ne_of_lt o_d_b2) nin0)
  have F_high_3 := F_high_2.keep K3' (ninS (Nat.ne_of_lt o_d_b2) nin0)
  have F_size_3 := F_size_2.keep K3' (ninS (Nat.ne_of_lt o_d_b2) nin0)
  have F_unique_3 := F_unique_2.keep K3' (ninS (Nat.ne_of_lt o_d_b2) nin0)
  have F_cache_3 := F_cache_2.keep K3' (ninS (Nat.ne_of_lt o_d_b2) nin0)
  have B2_3 := B2.keep K3'
  show own_G p e below _ (T3.setTop (mkF m 13 #[.val (.ref d), .val (.int p1), .val (.int p2), .val (.int p3)] [(.ref b2), (.ref d)]))
  refine own_putF X3 hx hZ hown (own_w21 hw) rfl F_logic_3 E0_3 (Or.inr ⟨(own_w22 hw), rfl, hnm⟩) (own_w1 hw) (ty := (.object "com/example/orbweaver/orbweaver/spec/Logic")) (by decide) rfl rfl (hb hby d_dinit_13) N3 gn_d 16 rfl (fun T4 h4 l4 X4 N4 e4 W4 => ?_)
  have E0_4 := E0_3.wr W4
  have K0_4 := K0_3.wr W4 (Or.inl (List.mem_of_getElem? (i := 0) rfl))
  have Z0_4 := Nat.le_trans Z0_3 (Nat.le_of_eq W4.size.symm)
  have F_logic_4 := F_logic_3.same W4
  have F_sets_4 := F_sets_3.other W4 (Or.inr (slot_ne (Or.inl (own_w26 hw)) (Or.inr (own_w22 hw)) (by decide) (t := (.array (.object "com/example/orbweaver/orbweaver/synthesis/Valuations"))) (t' := (.object "com/example/orbweaver/orbweaver/spec/Logic")) (by decide) (by decide)))
  have F_work_4 := F_work_3.other W4 (Or.inr (slot_ne (Or.inl (own_w29 hw)) (Or.inr (own_w22 hw)) (by decide) (t := (.array .int)) (t' := (.object "com/example/orbweaver/orbweaver/spec/Logic")) (by decide) (by decide)))
  have F_results_4 := F_results_3.other W4 (Or.inr (slot_ne (Or.inl (own_w31 hw)) (Or.inr (own_w22 hw)) (by decide) (t := (.array .int)) (t' := (.object "com/example/orbweaver/orbweaver/spec/Logic")) (by decide) (by decide)))
  have F_variables_4 := F_variables_3.other W4 (Or.inr (slot_ne (Or.inr (own_w33 hw)) (Or.inr (own_w22 hw)) (by decide) (t := .int) (t' := (.object "com/example/orbweaver/orbweaver/spec/Logic")) (by decide) (by decide)))
  have F_terms_4 := F_terms_3.other W4 (Or.inr (slot_ne (Or.inr (own_w35 hw)) (Or.inr (own_w22 hw)) (by decide) (t := .int) (t' := (.object "com/example/orbweaver/orbweaver/spec/Logic")) (by decide) (by decide)))
  have F_limit_4 := F_limit_3.other W4 (Or.inr (slot_ne (Or.inl (own_w37 hw)) (Or.inr (own_w22 hw)) (by decide) (t := .int) (t' := (.object "com/example/orbweaver/orbweaver/spec/Logic")) (by decide) (by decide)))
  have F_level_4 := F_level_3.other W4 (Or.inr (slot_ne (Or.inl (own_w39 hw)) (Or.inr (own_w22 hw)) (by decide) (t := (.array .int)) (t' := (.object "com/example/orbweaver/orbweaver/spec/Logic")) (by decide) (by decide)))
  have F_low_4 := F_low_3.other W4 (Or.inr (slot_ne (Or.inl (own_w41 hw)) (Or.inr (own_w22 hw)) (by decide) (t := (.array .int)) (t' := (.object "com/example/orbweaver/orbweaver/spec/Logic")) (by decide) (by decide)))
  have F_high_4 := F_high_3.other W4 (Or.inr (slot_ne (Or.inl (own_w43 hw)) (Or.inr (own_w22 hw)) (by decide) (t := (.array .int)) (t' := (.object "com/example/orbweaver/orbweaver/spec/Logic")) (by decide) (by decide)))
  have F_size_4 := F_size_3.other W4 (Or.inr (slot_ne (Or.inl (own_w45 hw)) (Or.inr (own_w22 hw)) (by decide) (t := .int) (t' := (.object "com/example/orbweaver/orbweaver/spec/Logic")) (by decide) (by decide)))
  have F_unique_4 := F_unique_3.other W4 (Or.inr (slot_ne (Or.inl (own_w47 hw)) (Or.inr (own_w22 hw)) (by decide) (t := (.array .int)) (t' := (.object "com/example/orbweaver/orbweaver/spec/Logic")) (by decide) (by decide)))
  have F_cache_4 := F_cache_3.other W4 (Or.inr (slot_ne (Or.inl (own_w49 hw)) (Or.inr (own_w22 hw)) (by decide) (t := (.array .int)) (t' := (.object "com/example/orbweaver/orbweaver/spec/Logic")) (by decide) (by decide)))
  have B2_4 := B2_3.wr W4
  refine own_aloadN X4 hx (hb hby d_dinit_16) rfl rfl 17 rfl ?_
  refine own_sipush X4 hx (z := (4096 : Int32)) (hb hby d_dinit_17) rfl 20 rfl ?_
  refine own_newR X4 hx hZ hown (own_w23 hw) (own_w24 hw) e4 (hb hby d_dinit_20) (by decide) 4096 (by decide) (by decide) (by decide) (by decide) 23 rfl (fun T5 h5 cA5 b5 g5 X5 e5 E5 B5 => ?_)
  have o_d_b5 : d < b5 := Nat.lt_of_lt_of_eq E0_4.lt g5.symm
  have o_b2_b5 : b2 < b5 := Nat.lt_of_lt_of_eq B2_4.lt g5.symm
  have gn_b5 : n0 ≤ b5 := Nat.le_trans Z0_4 (Nat.le_of_eq g5.symm)
  have sz_b5 : h0.size ≤ b5 := Nat.le_trans K0_4.1 (Nat.le_of_eq g5.symm)
  have E0_5 := E0_4.ext E5
  have K0_5 := K0_4.ext E5
  have Z0_5 := Nat.le_trans Z0_4 E5.1
  have F_logic_5 := F_logic_4.ext E5
  have F_sets_5 := F_sets_4.ext E5
  have F_work_5 := F_work_4.ext E5
  have F_results_5 := F_results_4.ext E5
  have F_variables_5 := F_variables_4.ext E5
  have F_terms_5 := F_terms_4.ext E5
  have F_limit_5 := F_limit_4.ext E5
  have F_level_5 := F_level_4.ext E5
  have F_low_5 := F_low_4.ext E5
  have F_high_5 := F_high_4.ext E5
  have F_size_5 := F_size_4.ext E5
  have F_unique_5 := F_unique_4.ext E5
  have F_cache_5 := F_cache_4.ext E5
  have B2_5 := B2_4.ext E5
  refine own_putF X5 hx hZ hown (own_w25 hw) e5 F_sets_5 E0_5 (Or.inl (own_w26 hw)) (own_w1 hw) (ty := (.array (.object "com/example/orbweaver/orbweaver/synthesis/Valuations"))) (by decide) rfl rfl (hb hby d_dinit_23) N4 gn_d 26 rfl (fun T6 h6 l6 X6 N6 e6 W6 => ?_)
  have E0_6 := E0_5.wr W6
  have K0_6 := K0_5.wr W6 (Or.inl (List.mem_of_getElem? (i := 0) rfl))
  have Z0_6 := Nat.le_trans Z0_5 (Nat.le_of_eq W6.size.symm)
  have F_logic_6 := F_logic_5.other W6 (Or.inr (slot_ne (Or.inr (own_w22 hw)) (Or.inl (own_w26 hw)) (by decide) (t := (.object "com/example/orbweaver/orbweaver/spec/Logic")) (t' := (.array (.object "com/example/orbweaver/orbweaver/synthesis/Valuations"))) (by decide) (by decide)))
  have F_sets_6 := F_sets_5.same W6
  have F_work_6 := F_work_5.other W6 (Or.inr (slot_ne (Or.inl (own_w29 hw)) (Or.inl (own_w26 hw)) (by decide) (t := (.array .int)) (t' := (.array (.object "com/example/orbweaver/orbweaver/synthesis/Valuations"))) (by decide) (by decide)))
  have F_results_6 := F_results_5.other W6 (Or.inr (slot_ne (Or.inl (own_w31 hw)) (Or.inl (own_w26 hw)) (by decide) (t := (.array .int)) (t' := (.array (.object "com/example/orbweaver/orbweaver/synthesis/Valuations"))) (by decide) (by decide)))
  have F_variables_6 := F_variables_5.other W6 (Or.inr (slot_ne (Or.inr (own_w33 hw)) (Or.inl (own_w26 hw)) (by decide) (t := .int) (t' := (.array (.object "com/example/orbweaver/orbweaver/synthesis/Valuations"))) (by decide) (by decide)))
  have F_terms_6 := F_terms_5.other W6 (Or.inr (slot_ne (Or.inr (own_w35 hw)) (Or.inl (own_w26 hw)) (by decide) (t := .int) (t' := (.array (.object "com/example/orbweaver/orbweaver/synthesis/Valuations"))) (by decide) (by decide)))
  have F_limit_6 := F_limit_5.other W6 (Or.inr (slot_ne (Or.inl (own_w37 hw)) (Or.inl (own_w26 hw)) (by decide) (t := .int) (t' := (.array (.object "com/example/orbweaver/orbweaver/synthesis/Valuations"))) (by decide) (by decide)))
  have F_level_6 := F_level_5.other W6 (Or.inr (slot_ne (Or.inl (own_w39 hw)) (Or.inl (own_w26 hw)) (by decide) (t := (.array .int)) (t' := (.array (.object "com/example/orbweaver/orbweaver/synthesis/Valuations"))) (by decide) (by decide)))
  have F_low_6 := F_low_5.other W6 (Or.inr (slot_ne (Or.inl (own_w41 hw)) (Or.inl (own_w26 hw)) (by decide) (t := (.array .int)) (t' := (.array (.object "com/example/orbweaver/orbweaver/synthesis/Valuations"))) (by decide) (by decide)))
  have F_high_6 := F_high_5.other W6 (Or.inr (slot_ne (Or.inl (own_w43 hw)) (Or.inl (own_w26 hw)) (by decide) (t := (.array .int)) (t' := (.array (.object "com/example/orbweaver/orbweaver/synthesis/Valuations"))) (by decide) (by decide)))
  have F_size_6 := F_size_5.other W6 (Or.inr (slot_ne (Or.inl (own_w45 hw)) (Or.inl (own_w26 hw)) (by decide) (t := .int) (t' := (.array (.object "com/example/orbweaver/orbweaver/synthesis/Valuations"))) (by decide) (by decide)))
  have F_unique_6 := F_unique_5.other W6 (Or.inr (slot_ne (Or.inl (own_w47 hw)) (Or.inl (own_w26 hw)) (by decide) (t := (.array .int)) (t' := (.array (.object "com/example/orbweaver/orbweaver/synthesis/Valuations"))) (by decide) (by decide)))
  have F_cache_6 := F_cache_5.other W6 (Or.inr (slot_ne (Or.inl (own_w49 hw)) (Or.inl (own_w26 hw)) (by decide) (t := (.array .int)) (t' := (.array (.object "com/example/orbweaver/orbweaver/synthesis/Valuations"))) (by decide) (by decide)))
  have B2_6 := B2_5.wr W6
  refine own_aloadN X6 hx (hb hby d_dinit_26) rfl rfl 27 rfl ?_
  refine own_sipush X6 hx (z := (320 : Int32)) (hb hby d_dinit_27) rfl 30 rfl ?_
  refine own_newP (aty := .int) X6 hx hZ (own_w27 hw) e6 (hb hby d_dinit_30) (by decide) 320 (by decide) (by decide) (by decide) (by decide) 32 rfl (fun T7 h7 cA7 b7 g7 X7 e7 E7 B7 => ?_)
  have o_d_b7 : d < b7 := Nat.lt_of_lt_of_eq E0_6.lt g7.symm
  have o_b2_b7 : b2 < b7 := Nat.lt_of_lt_of_eq B2_6.lt g7.symm
  have gn_b7 : n0 ≤ b7 := Nat.le_trans Z0_6 (Nat.le_of_eq g7.symm)
  have sz_b7 : h0.size ≤ b7 := Nat.le_trans K0_6.1 (Nat.le_of_eq g7.symm)
  have E0_7 := E0_6.ext E7
  have K0_7 := K0_6.ext E7
  have Z0_7 := Nat.le_trans Z0_6 E7.1
  have F_logic_7 := F_logic_6.ext E7
  have F_sets_7 := F_sets_6.ext E7
  have F_work_7 := F_work_6.ext E7
  have F_results_7 := F_results_6.ext E7
  have F_variables_7 := F_variables_6.ext E7
  have F_terms_7 := F_terms_6.ext E7
  have F_limit_7 := F_limit_6.ext E7
  have F_level_7 := F_level_6.ext E7
  have F_low_7 := F_low_6.ext E7
  have F_high_7 := F_high_6.ext E7
  have F_size_7 := F_size_6.ext E7
  have F_unique_7 := F_unique_6.ext E7
  have F_cache_7 := F_cache_6.ext E7
  have B2_7 := B2_6.ext E7
  have A_b7_7 : own_A Z h7 b7 .int 320 (fun _ => 0) := own_A.new B7 (by decide) rfl
  refine own_putF X7 hx hZ hown (own_w28 hw) e7 F_work_7 E0_7 (Or.inl (own_w29 hw)) (own_w1 hw) (ty := (.array .int)) (by decide) rfl rfl (hb hby d_dinit_32) N6 gn_d 35 rfl (fun T8 h8 l8 X8 N8 e8 W8 => ?_)
  have E0_8 := E0_7.wr W8
  have K0_8 := K0_7.wr W8 (Or.inl (List.mem_of_getElem? (i := 0) rfl))
  have Z0_8 := Nat.le_trans Z0_7 (Nat.le_of_eq W8.size.symm)
  have F_logic_8 := F_logic_7.other W8 (Or.inr (slot_ne (Or.inr (own_w22 hw)) (Or.inl (own_w29 hw)) (by decide) (t := (.object "com/example/orbweaver/orbweaver/spec/Logic")) (t' := (.array .int)) (by decide) (by decide)))
  have F_sets_8 := F_sets_7.other W8 (Or.inr (slot_ne (Or.inl (own_w26 hw)) (Or.inl (own_w29 hw)) (by decide) (t := (.array (.object "com/example/orbweaver/orbweaver/synthesis/Valuations"))) (t' := (.array .int)) (by decide) (by decide)))
  have F_work_8 := F_work_7.same W8
  have F_results_8 := F_results_7.other W8 (Or.inr (slot_ne (Or.inl (own_w31 hw)) (Or.inl (own_w29 hw)) (by decide) (t := (.array .int)) (t' := (.array .int)) (by decide) (by decide)))
  have F_variables_8 := F_variables_7.other W8 (Or.inr (slot_ne (Or.inr (own_w33 hw)) (Or.inl (own_w29 hw)) (by decide) (t := .int) (t' := (.array .int)) (by decide) (by decide)))
  have F_terms_8 := F_terms_7.other W8 (Or.inr (slot_ne (Or.inr (own_w35 hw)) (Or.inl (own_w29 hw)) (by decide) (t := .int) (t' := (.array .int)) (by decide) (by decide)))
  have F_limit_8 := F_limit_7.other W8 (Or.inr (slot_ne (Or.inl (own_w37 hw)) (Or.inl (own_w29 hw)) (by decide) (t := .int) (t' := (.array .int)) (by decide) (by decide)))
  have F_level_8 := F_level_7.other W8 (Or.inr (slot_ne (Or.inl (own_w39 hw)) (Or.inl (own_w29 hw)) (by decide) (t := (.array .int)) (t' := (.array .int)) (by decide) (by decide)))
  have F_low_8 := F_low_7.other W8 (Or.inr (slot_ne (Or.inl (own_w41 hw)) (Or.inl (own_w29 hw)) (by decide) (t := (.array .int)) (t' := (.array .int)) (by decide) (by decide)))
  have F_high_8 := F_high_7.other W8 (Or.inr (slot_ne (Or.inl (own_w43 hw)) (Or.inl (own_w29 hw)) (by decide) (t := (.array .int)) (t' := (.array .int)) (by decide) (by decide)))
  have F_size_8 := F_size_7.other W8 (Or.inr (slot_ne (Or.inl (own_w45 hw)) (Or.inl (own_w29 hw)) (by decide) (t := .int) (t' := (.array .int)) (by decide) (by decide)))
  have F_unique_8 := F_unique_7.other W8 (Or.inr (slot_ne (Or.inl (own_w47 hw)) (Or.inl (own_w29 hw)) (by decide) (t := (.array .int)) (t' := (.array .int)) (by decide) (by decide)))
  have F_cache_8 := F_cache_7.other W8 (Or.inr (slot_ne (Or.inl (own_w49 hw)) (Or.inl (own_w29 hw)) (by decide) (t := (.array .int)) (t' := (.array .int)) (by decide) (by decide)))
  have B2_8 := B2_7.wr W8
  have A_b7_8 := A_b7_7.other W8 (Nat.ne_of_gt o_d_b7)
  refine own_aloadN X8 hx (hb hby d_dinit_35) rfl rfl 36 rfl ?_
  refine own_bipush X8 hx (z := (64 : Int32)) (hb hby d_dinit_36) rfl 38 rfl ?_
  refine own_newP (aty := .int) X8 hx hZ (own_w27 hw) e8 (hb hby d_dinit_38) (by decide) 64 (by decide) (by decide) (by decide) (by decide) 40 rfl (fun T9 h9 cA9 b9 g9 X9 e9 E9 B9 => ?_)
  have o_d_b9 : d < b9 := Nat.lt_of_lt_of_eq E0_8.lt g9.symm
  have o_b2_b9 : b2 < b9 := Nat.lt_of_lt_of_eq B2_8.lt g9.symm
  have o_b7_b9 : b7 < b9 := Nat.lt_of_lt_of_eq A_b7_8.lt g9.symm
  have gn_b9 : n0 ≤ b9 := Nat.le_trans Z0_8 (Nat.le_of_eq g9.symm)
  have sz_b9 : h0.size ≤ b9 := Nat.le_trans K0_8.1 (Nat.le_of_eq g9.symm)
  have E0_9 := E0_8.ext E9
  have K0_9 := K0_8.ext E9
  have Z0_9 := Nat.le_trans Z0_8 E9.1
  have F_logic_9 := F_logic_8.ext E9
  have F_sets_9 := F_sets_8.ext E9
  have F_work_9 := F_work_8.ext E9
  have F_results_9 := F_results_8.ext E9
  have F_variables_9 := F_variables_8.ext E9
  have F_terms_9 := F_terms_8.ext E9
  have F_limit_9 := F_limit_8.ext E9
  have F_level_9 := F_level_8.ext E9
  have F_low_9 := F_low_8.ext E9
  have F_high_9 := F_high_8.ext E9
  have F_size_9 := F_size_8.ext E9
  have F_unique_9 := F_unique_8.ext E9
  have F_cache_9 := F_cache_8.ext E9
  have B2_9 := B2_8.ext E9
  have A_b7_9 := A_b7_8.ext E9
  have A_b9_9 : own_A Z h9 b9 .int 64 (fun _ => 0) := own_A.new B9 (by decide) rfl
  refine own_putF X9 hx hZ hown (own_w30 hw) e9 F_results_9 E0_9 (Or.inl (own_w31 hw)) (own_w1 hw) (ty := (.array .int)) (by decide) rfl rfl (hb hby d_dinit_40) N8 gn_d 43 rfl (fun T10 h10 l10 X10 N10 e10 W10 => ?_)
  have E0_10 := E0_9.wr W10
  have K0_10 := K0_9.wr W10 (Or.inl (List.mem_of_getElem? (i := 0) rfl))
  have Z0_10 := Nat.le_trans Z0_9 (Nat.le_of_eq W10.size.symm)
  have F_logic_10 := F_logic_9.other W10 (Or.inr (slot_ne (Or.inr (own_w22 hw)) (Or.inl (own_w31 hw)) (by decide) (t := (.object "com/example/orbweaver/orbweaver/spec/Logic")) (t' := (.array .int)) (by decide) (by decide)))
  have F_sets_10 := F_sets_9.other W10 (Or.inr (slot_ne (Or.inl (own_w26 hw)) (Or.inl (own_w31 hw)) (by decide) (t := (.array (.object "com/example/orbweaver/orbweaver/synthesis/Valuations"))) (t' := (.array .int)) (by decide) (by decide)))
  have F_work_10 := F_work_9.other W10 (Or.inr (slot_ne (Or.inl (own_w29 hw)) (Or.inl (own_w31 hw)) (by decide) (t := (.array .int)) (t' := (.array .int)) (by decide) (by decide)))
  have F_results_10 := F_results_9.same W10
  have F_variables_10 := F_variables_9.other W10 (Or.inr (slot_ne (Or.inr (own_w33 hw)) (Or.inl (own_w31 hw)) (by decide) (t := .int) (t' := (.array .int)) (by decide) (by decide)))
  have F_terms_10 := F_terms_9.other W10 (Or.inr (slot_ne (Or.inr (own_w35 hw)) (Or.inl (own_w31 hw)) (by decide) (t := .int) (t' := (.array .int)) (by decide) (by decide)))
  have F_limit_10 := F_limit_9.other W10 (Or.inr (slot_ne (Or.inl (own_w37 hw)) (Or.inl (own_w31 hw)) (by decide) (t := .int) (t' := (.array .int)) (by decide) (by decide)))
  have F_level_10 := F_level_9.other W10 (Or.inr (slot_ne (Or.inl (own_w39 hw)) (Or.inl (own_w31 hw)) (by decide) (t := (.array .int)) (t' := (.array .int)) (by decide) (by decide)))
  have F_low_10 := F_low_9.other W10 (Or.inr (slot_ne (Or.inl (own_w41 hw)) (Or.inl (own_w31 hw)) (by decide) (t := (.array .int)) (t' := (.array .int)) (by decide) (by decide)))
  have F_high_10 := F_high_9.other W10 (Or.inr (slot_ne (Or.inl (own_w43 hw)) (Or.inl (own_w31 hw)) (by decide) (t := (.array .int)) (t' := (.array .int)) (by decide) (by decide)))
  have F_size_10 := F_size_9.other W10 (Or.inr (slot_ne (Or.inl (own_w45 hw)) (Or.inl (own_w31 hw)) (by decide) (t := .int) (t' := (.array .int)) (by decide) (by decide)))
  have F_unique_10 := F_unique_9.other W10 (Or.inr (slot_ne (Or.inl (own_w47 hw)) (Or.inl (own_w31 hw)) (by decide) (t := (.array .int)) (t' := (.array .int)) (by decide) (by decide)))
  have F_cache_10 := F_cache_9.other W10 (Or.inr (slot_ne (Or.inl (own_w49 hw)) (Or.inl (own_w31 hw)) (by decide) (t := (.array .int)) (t' := (.array .int)) (by decide) (by decide)))
  have B2_10 := B2_9.wr W10
  have A_b7_10 := A_b7_9.other W10 (Nat.ne_of_gt o_d_b7)
  have A_b9_10 := A_b9_9.other W10 (Nat.ne_of_gt o_d_b9)
  refine own_aloadN X10 hx (hb hby d_dinit_43) rfl rfl 44 rfl ?_
  refine own_iloadN X10 hx (hb hby d_dinit_44) rfl 45 rfl ?_
  refine own_putF X10 hx hZ hown (own_w32 hw) e10 F_variables_10 E0_10 (Or.inr ⟨(own_w33 hw), rfl, hnm⟩) (own_w1 hw) (ty := .int) (by decide) rfl rfl (hb hby d_dinit_45) N10 gn_d 48 rfl (fun T11 h11 l11 X11 N11 e11 W11 => ?_)
  have E0_11 := E0_10.wr W11
  have K0_11 := K0_10.wr W11 (Or.inl (List.mem_of_getElem? (i := 0) rfl))
  have Z0_11 := Nat.le_trans Z0_10 (Nat.le_of_eq W11.size.symm)
  have F_logic_11 := F_logic_10.other W11 (Or.inr (slot_ne (Or.inr (own_w22 hw)) (Or.inr (own_w33 hw)) (by decide) (t := (.object "com/example/orbweaver/orbweaver/spec/Logic")) (t' := .int) (by decide) (by decide)))
  have F_sets_11 := F_sets_10.other W11 (Or.inr (slot_ne (Or.inl (own_w26 hw)) (Or.inr (own_w33 hw)) (by decide) (t := (.array (.object "com/example/orbweaver/orbweaver/synthesis/Valuations"))) (t' := .int) (by decide) (by decide)))
  have F_work_11 := F_work_10.other W11 (Or.inr (slot_ne (Or.inl (own_w29 hw)) (Or.inr (own_w33 hw)) (by decide) (t := (.array .int)) (t' := .int) (by decide) (by decide)))
  have F_results_11 := F_results_10.other W11 (Or.inr (slot_ne (Or.inl (own_w31 hw)) (Or.inr (own_w33 hw)) (by decide) (t := (.array .int)) (t' := .int) (by decide) (by decide)))
  have F_variables_11 := F_variables_10.same W11
  have F_terms_11 := F_terms_10.other W11 (Or.inr (slot_ne (Or.inr (own_w35 hw)) (Or.inr (own_w33 hw)) (by decide) (t := .int) (t' := .int) (by decide) (by decide)))
  have F_limit_11 := F_limit_10.other W11 (Or.inr (slot_ne (Or.inl (own_w37 hw)) (Or.inr (own_w33 hw)) (by decide) (t := .int) (t' := .int) (by decide) (by decide)))
  have F_level_11 := F_level_10.other W11 (Or.inr (slot_ne (Or.inl (own_w39 hw)) (Or.inr (own_w33 hw)) (by decide) (t := (.array .int)) (t' := .int) (by decide) (by decide)))
  have F_low_11 := F_low_10.other W11 (Or.inr (slot_ne (Or.inl (own_w41 hw)) (Or.inr (own_w33 hw)) (by decide) (t := (.array .int)) (t' := .int) (by decide) (by decide)))
  have F_high_11 := F_high_10.other W11 (Or.inr (slot_ne (Or.inl (own_w43 hw)) (Or.inr (own_w33 hw)) (by decide) (t := (.array .int)) (t' := .int) (by decide) (by decide)))
  have F_size_11 := F_size_10.other W11 (Or.inr (slot_ne (Or.inl (own_w45 hw)) (Or.inr (own_w33 hw)) (by decide) (t := .int) (t' := .int) (by decide) (by decide)))
  have F_unique_11 := F_unique_10.other W11 (Or.inr (slot_ne (Or.inl (own_w47 hw)) (Or.inr (own_w33 hw)) (by decide) (t := (.array .int)) (t' := .int) (by decide) (by decide)))
  have F_cache_11 := F_cache_10.other W11 (Or.inr (slot_ne (Or.inl (own_w49 hw)) (Or.inr (own_w33 hw)) (by decide) (t := (.array .int)) (t' := .int) (by decide) (by decide)))
  have B2_11 := B2_10.wr W11
  have A_b7_11 := A_b7_10.other W11 (Nat.ne_of_gt o_d_b7)
  have A_b9_11 := A_b9_10.other W11 (Nat.ne_of_gt o_d_b9)
  refine own_aloadN X11 hx (hb hby d_dinit_48) rfl rfl 49 rfl ?_
  refine own_iloadN X11 hx (hb hby d_dinit_49) rfl 50 rfl ?_
  refine own_putF X11 hx hZ hown (own_w34 hw) e11 F_terms_11 E0_11 (Or.inr ⟨(own_w35 hw), rfl, hnm⟩) (own_w1 hw) (ty := .int) (by decide) rfl rfl (hb hby d_dinit_50) N11 gn_d 53 rfl (fun T12 h12 l12 X12 N12 e12 W12 => ?_)
  have E0_12 := E0_11.wr W12
  have K0_12 := K0_11.wr W12 (Or.inl (List.mem_of_getElem? (i := 0) rfl))
  have Z0_12 := Nat.le_trans Z0_11 (Nat.le_of_eq W12.size.symm)
  have F_logic_12 := F_logic_11.other W12 (Or.inr (slot_ne (Or.inr (own_w22 hw)) (Or.inr (own_w35 hw)) (by decide) (t := (.object "com/example/orbweaver/orbweaver/spec/Logic")) (t' := .int) (by decide) (by decide)))
  have F_sets_12 := F_sets_11.other W12 (Or.inr (slot_ne (Or.inl (own_w26 hw)) (Or.inr (own_w35 hw)) (by decide) (t := (.array (.object "com/example/orbweaver/orbweaver/synthesis/Valuations"))) (t' := .int) (by decide) (by decide)))
  have F_work_12 := F_work_11.other W12 (Or.inr (slot_ne (Or.inl (own_w29 hw)) (Or.inr (own_w35 hw)) (by decide) (t := (.array .int)) (t' := .int) (by decide) (by decide)))
  have F_results_12 := F_results_11.other W12 (Or.inr (slot_ne (Or.inl (own_w31 hw)) (Or.inr (own_w35 hw)) (by decide) (t := (.array .int)) (t' := .int) (by decide) (by decide)))
  have F_variables_12 := F_variables_11.other W12 (Or.inr (slot_ne (Or.inr (own_w33 hw)) (Or.inr (own_w35 hw)) (by decide) (t := .int) (t' := .int) (by decide) (by decide)))
  have F_terms_12 := F_terms_11.same W12
  have F_limit_12 := F_limit_11.other W12 (Or.inr (slot_ne (Or.inl (own_w37 hw)) (Or.inr (own_w35 hw)) (by decide) (t := .int) (t' := .int) (by decide) (by decide)))
  have F_level_12 := F_level_11.other W12 (Or.inr (slot_ne (Or.inl (own_w39 hw)) (Or.inr (own_w35 hw)) (by decide) (t := (.array .int)) (t' := .int) (by decide) (by decide)))
  have F_low_12 := F_low_11.other W12 (Or.inr (slot_ne (Or.inl (own_w41 hw)) (Or.inr (own_w35 hw)) (by decide) (t := (.array .int)) (t' := .int) (by decide) (by decide)))
  have F_high_12 := F_high_11.other W12 (Or.inr (slot_ne (Or.inl (own_w43 hw)) (Or.inr (own_w35 hw)) (by decide) (t := (.array .int)) (t' := .int) (by decide) (by decide)))
  have F_size_12 := F_size_11.other W12 (Or.inr (slot_ne (Or.inl (own_w45 hw)) (Or.inr (own_w35 hw)) (by decide) (t := .int) (t' := .int) (by decide) (by decide)))
  have F_unique_12 := F_unique_11.other W12 (Or.inr (slot_ne (Or.inl (own_w47 hw)) (Or.inr (own_w35 hw)) (by decide) (t := (.array .int)) (t' := .int) (by decide) (by decide)))
  have F_cache_12 := F_cache_11.other W12 (Or.inr (slot_ne (Or.inl (own_w49 hw)) (Or.inr (own_w35 hw)) (by decide) (t := (.array .int)) (t' := .int) (by decide) (by decide)))
  have B2_12 := B2_11.wr W12
  have A_b7_12 := A_b7_11.other W12 (Nat.ne_of_gt o_d_b7)
  have A_b9_12 := A_b9_11.other W12 (Nat.ne_of_gt o_d_b9)
  refine own_aloadN X12 hx (hb hby d_dinit_53) rfl rfl 54 rfl ?_
  refine own_iloadN X12 hx (hb hby d_dinit_54) rfl 55 rfl ?_
  refine own_putF X12 hx hZ hown (own_w36 hw) e12 F_limit_12 E0_12 (Or.inl (own_w37 hw)) (own_w1 hw) (ty := .int) (by decide) rfl rfl (hb hby d_dinit_55) N12 gn_d 58 rfl (fun T13 h13 l13 X13 N13 e13 W13 => ?_)
  have E0_13 := E0_12.wr W13
  have K0_13 := K0_12.wr W13 (Or.inl (List.mem_of_getElem? (i := 0) rfl))
  have Z0_13 := Nat.le_trans Z0_12 (Nat.le_of_eq W13.size.symm)
  have F_logic_13 := F_logic_12.other W13 (Or.inr (slot_ne (Or.inr (own_w22 hw)) (Or.inl (own_w37 hw)) (by decide) (t := (.object "com/example/orbweaver/orbweaver/spec/Logic")) (t' := .int) (by decide) (by decide)))
  have F_sets_13 := F_sets_12.other W13 (Or.inr (slot_ne (Or.inl (own_w26 hw)) (Or.inl (own_w37 hw)) (by decide) (t := (.array (.object "com/example/orbweaver/orbweaver/synthesis/Valuations"))) (t' := .int) (by decide) (by decide)))
  have F_work_13 := F_work_12.other W13 (Or.inr (slot_ne (Or.inl (own_w29 hw)) (Or.inl (own_w37 hw)) (by decide) (t := (.array .int)) (t' := .int) (by decide) (by decide)))
  have F_results_13 := F_results_12.other W13 (Or.inr (slot_ne (Or.inl (own_w31 hw)) (Or.inl (own_w37 hw)) (by decide) (t := (.array .int)) (t' := .int) (by decide) (by decide)))
  have F_variables_13 := F_variables_12.other W13 (Or.inr (slot_ne (Or.inr (own_w33 hw)) (Or.inl (own_w37 hw)) (by decide) (t := .int) (t' := .int) (by decide) (by decide)))
  have F_terms_13 := F_terms_12.other W13 (Or.inr (slot_ne (Or.inr (own_w35 hw)) (Or.inl (own_w37 hw)) (by decide) (t := .int) (t' := .int) (by decide) (by decide)))
  have F_limit_13 := F_limit_12.same W13
  have F_level_13 := F_level_12.other W13 (Or.inr (slot_ne (Or.inl (own_w39 hw)) (Or.inl (own_w37 hw)) (by decide) (t := (.array .int)) (t' := .int) (by decide) (by decide)))
  have F_low_13 := F_low_12.other W13 (Or.inr (slot_ne (Or.inl (own_w41 hw)) (Or.inl (own_w37 hw)) (by decide) (t := (.array .int)) (t' := .int) (by decide) (by decide)))
  have F_high_13 := F_high_12.other W13 (Or.inr (slot_ne (Or.inl (own_w43 hw)) (Or.inl (own_w37 hw)) (by decide) (t := (.array .int)) (t' := .int) (by decide) (by decide)))
  have F_size_13 := F_size_12.other W13 (Or.inr (slot_ne (Or.inl (own_w45 hw)) (Or.inl (own_w37 hw)) (by decide) (t := .int) (t' := .int) (by decide) (by decide)))
  have F_unique_13 := F_unique_12.other W13 (Or.inr (slot_ne (Or.inl (own_w47 hw)) (Or.inl (own_w37 hw)) (by decide) (t := (.array .int)) (t' := .int) (by decide) (by decide)))
  have F_cache_13 := F_cache_12.other W13 (Or.inr (slot_ne (Or.inl (own_w49 hw)) (Or.inl (own_w37 hw)) (by decide) (t := (.array .int)) (t' := .int) (by decide) (by decide)))
  have B2_13 := B2_12.wr W13
  have A_b7_13 := A_b7_12.other W13 (Nat.ne_of_gt o_d_b7)
  have A_b9_13 := A_b9_12.other W13 (Nat.ne_of_gt o_d_b9)
  refine own_aloadN X13 hx (hb hby d_dinit_58) rfl rfl 59 rfl ?_
  refine own_sipush X13 hx (z := (4096 : Int32)) (hb hby d_dinit_59) rfl 62 rfl ?_
  refine own_newP (aty := .int) X13 hx hZ (own_w27 hw) e13 (hb hby d_dinit_62) (by decide) 4096 (by decide) (by decide) (by decide) (by decide) 64 rfl (fun T14 h14 cA14 b14 g14 X14 e14 E14 B14 => ?_)
  have o_d_b14 : d < b14 := Nat.lt_of_lt_of_eq E0_13.lt g14.symm
  have o_b2_b14 : b2 < b14 := Nat.lt_of_lt_of_eq B2_13.lt g14.symm
  have o_b7_b14 : b7 < b14 := Nat.lt_of_lt_of_eq A_b7_13.lt g14.symm
  have o_b9_b14 : b9 < b14 := Nat.lt_of_lt_of_eq A_b9_13.lt g14.symm
  have gn_b14 : n0 ≤ b14 := Nat.le_trans Z0_13 (Nat.le_of_eq g14.symm)
  have sz_b14 : h0.size ≤ b14 := Nat.le_trans K0_13.1 (Nat.le_of_eq g14.symm)
  have E0_14 := E0_13.ext E14
  have K0_14 := K0_13.ext E14
  have Z0_14 := Nat.le_trans Z0_13 E14.1
  have F_logic_14 := F_logic_13.ext E14
  have F_sets_14 := F_sets_13.ext E14
  have F_work_14 := F_work_13.ext E14
  have F_results_14 := F_results_13.ext E14
  have F_variables_14 := F_variables_13.ext E14
  have F_terms_14 := F_terms_13.ext E14
  have F_limit_14 := F_limit_13.ext E14
  have F_level_14 := F_level_13.ext E14
  have F_low_14 := F_low_13.ext E14
  have F_high_14 := F_high_13.ext E14
  have F_size_14 := F_size_13.ext E14
  have F_unique_14 := F_unique_13.ext E14
  have F_cache_14 := F_cache_13.ext E14
  have B2_14 := B2_13.ext E14
  have A_b7_14 := A_b7_13.ext E14
  have A_b9_14 := A_b9_13.ext E14
  have A_b14_14 : own_A Z h14 b14 .int 4096 (fun _ => 0) := own_A.new B14 (by decide) rfl
  refine own_putF X14 hx hZ hown (own_w38 hw) e14 F_level_14 E0_14 (Or.inl (own_w39 hw)) (own_w1 hw) (ty := (.array .int)) (by decide) rfl rfl (hb hby d_dinit_64) N13 gn_d 67 rfl (fun T15 h15 l15 X15 N15 e15 W15 => ?_)
  have E0_15 := E0_14.wr W15
  have K0_15 := K0_14.wr W15 (Or.inl (List.mem_of_getElem? (i := 0) rfl))
  have Z0_15 := Nat.le_trans Z0_14 (Nat.le_of_eq W15.size.symm)
  have F_logic_15 := F_logic_14.other W15 (Or.inr (slot_ne (Or.inr (own_w22 hw)) (Or.inl (own_w39 hw)) (by decide) (t := (.object "com/example/orbweaver/orbweaver/spec/Logic")) (t' := (.array .int)) (by decide) (by decide)))
  have F_sets_15 := F_sets_14.other W15 (Or.inr (slot_ne (Or.inl (own_w26 hw)) (Or.inl (own_w39 hw)) (by decide) (t := (.array (.object "com/example/orbweaver/orbweaver/synthesis/Valuations"))) (t' := (.array .int)) (by decide) (by decide)))
  have F_work_15 := F_work_14.other W15 (Or.inr (slot_ne (Or.inl (own_w29 hw)) (Or.inl (own_w39 hw)) (by decide) (t := (.array .int)) (t' := (.array .int)) (by decide) (by decide)))
  have F_results_15 := F_results_14.other W15 (Or.inr (slot_ne (Or.inl (own_w31 hw)) (Or.inl (own_w39 hw)) (by decide) (t := (.array .int)) (t' := (.array .int)) (by decide) (by decide)))
  have F_variables_15 := F_variables_14.other W15 (Or.inr (slot_ne (Or.inr (own_w33 hw)) (Or.inl (own_w39 hw)) (by decide) (t := .int) (t' := (.array .int)) (by decide) (by decide)))
  have F_terms_15 := F_terms_14.other W15 (Or.inr (slot_ne (Or.inr (own_w35 hw)) (Or.inl (own_w39 hw)) (by decide) (t := .int) (t' := (.array .int)) (by decide) (by decide)))
  have F_limit_15 := F_limit_14.other W15 (Or.inr (slot_ne (Or.inl (own_w37 hw)) (Or.inl (own_w39 hw)) (by decide) (t := .int) (t' := (.array .int)) (by decide) (by decide)))
  have F_level_15 := F_level_14.same W15
  have F_low_15 := F_low_14.other W15 (Or.inr (slot_ne (Or.inl (own_w41 hw)) (Or.inl (own_w39 hw)) (by decide) (t := (.array .int)) (t' := (.array .int)) (by decide) (by decide)))
  have F_high_15 := F_high_14.other W15 (Or.inr (slot_ne (Or.inl (own_w43 hw)) (Or.inl (own_w39 hw)) (by decide) (t := (.array .int)) (t' := (.array .int)) (by decide) (by decide)))
  have F_size_15 := F_size_14.other W15 (Or.inr (slot_ne (Or.inl (own_w45 hw)) (Or.inl (own_w39 hw)) (by decide) (t := .int) (t' := (.array .int)) (by decide) (by decide)))
  have F_unique_15 := F_unique_14.other W15 (Or.inr (slot_ne (Or.inl (own_w47 hw)) (Or.inl (own_w39 hw)) (by decide) (t := (.array .int)) (t' := (.array .int)) (by decide) (by decide)))
  have F_cache_15 := F_cache_14.other W15 (Or.inr (slot_ne (Or.inl (own_w49 hw)) (Or.inl (own_w39 hw)) (by decide) (t := (.array .int)) (t' := (.array .int)) (by decide) (by decide)))
  have B2_15 := B2_14.wr W15
  have A_b7_15 := A_b7_14.other W15 (Nat.ne_of_gt o_d_b7)
  have A_b9_15 := A_b9_14.other W15 (Nat.ne_of_gt o_d_b9)
  have A_b14_15 := A_b14_14.other W15 (Nat.ne_of_gt o_d_b14)
  refine own_aloadN X15 hx (hb hby d_dinit_67) rfl rfl 68 rfl ?_
  refine own_sipush X15 hx (z := (4096 : Int32)) (hb hby d_dinit_68) rfl 71 rfl ?_
  refine own_newP (aty := .int) X15 hx hZ (own_w27 hw) e15 (hb hby d_dinit_71) (by decide) 4096 (by decide) (by decide) (by decide) (by decide) 73 rfl (fun T16 h16 cA16 b16 g16 X16 e16 E16 B16 => ?_)
  have o_d_b16 : d < b16 := Nat.lt_of_lt_of_eq E0_15.lt g16.symm
  have o_b2_b16 : b2 < b16 := Nat.lt_of_lt_of_eq B2_15.lt g16.symm
  have o_b7_b16 : b7 < b16 := Nat.lt_of_lt_of_eq A_b7_15.lt g16.symm
  have o_b9_b16 : b9 < b16 := Nat.lt_of_lt_of_eq A_b9_15.lt g16.symm
  have o_b14_b16 : b14 < b16 := Nat.lt_of_lt_of_eq A_b14_15.lt g16.symm
  have gn_b16 : n0 ≤ b16 := Nat.le_trans Z0_15 (Nat.le_of_eq g16.symm)
  have sz_b16 : h0.size ≤ b16 := Nat.le_trans K0_15.1 (Nat.le_of_eq g16.symm)
  have E0_16 := E0_15.ext E16
  have K0_16 := K0_15.ext E16
  have Z0_16 := Nat.le_trans Z0_15 E16.1
  have F_logic_16 := F_logic_15.ext E16
  have F_sets_16 := F_sets_15.ext E16
  have F_work_16 := F_work_15.ext E16
  have F_results_16 := F_results_15.ext E16
  have F_variables_16 := F_variables_15.ext E16
  have F_terms_16 := F_terms_15.ext E16
  have F_limit_16 := F_limit_15.ext E16
  have F_level_16 := F_level_15.ext E16
  have F_low_16 := F_low_15.ext E16
  have F_high_16 := F_high_15.ext E16
  have F_size_16 := F_size_15.ext E16
  have F_unique_16 := F_unique_15.ext E16
  have F_cache_16 := F_cache_15.ext E16
  have B2_16 := B2_15.ext E16
  have A_b7_16 := A_b7_15.ext E16
  have A_b9_16 := A_b9_15.ext E16
  have A_b14_16 := A_b14_15.ext E16
  have A_b16_16 : own_A Z h16 b16 .int 4096 (fun _ => 0) := own_A.new B16 (by decide) rfl
  refine own_putF X16 hx hZ hown (own_w40 hw) e16 F_low_16 E0_16 (Or.inl (own_w41 hw)) (own_w1 hw) (ty := (.array .int)) (by decide) rfl rfl (hb hby d_dinit_73) N15 gn_d 76 rfl (fun T17 h17 l17 X17 N17 e17 W17 => ?_)
  have E0_17 := E0_16.wr W17
  have K0_17 := K0_16.wr W17 (Or.inl (List.mem_of_getElem? (i := 0) rfl))
  have Z0_17 := Nat.le_trans Z0_16 (Nat.le_of_eq W17.size.symm)
  have F_logic_17 := F_logic_16.other W17 (Or.inr (slot_ne (Or.inr (own_w22 hw)) (Or.inl (own_w41 hw)) (by decide) (t := (.object "com/example/orbweaver/orbweaver/spec/Logic")) (t' := (.array .int)) (by decide) (by decide)))
  have F_sets_17 := F_sets_16.other W17 (Or.inr (slot_ne (Or.inl (own_w26 hw)) (Or.inl (own_w41 hw)) (by decide) (t := (.array (.object "com/example/orbweaver/orbweaver/synthesis/Valuations"))) (t' := (.array .int)) (by decide) (by decide)))
  have F_work_17 := F_work_16.other W17 (Or.inr (slot_ne (Or.inl (own_w29 hw)) (Or.inl (own_w41 hw)) (by decide) (t := (.array .int)) (t' := (.array .int)) (by decide) (by decide)))
  have F_results_17 := F_results_16.other W17 (Or.inr (slot_ne (Or.inl (own_w31 hw)) (Or.inl (own_w41 hw)) (by decide) (t := (.array .int)) (t' := (.array .int)) (by decide) (by decide)))
  have F_variables_17 := F_variables_16.other W17 (Or.inr (slot_ne (Or.inr (own_w33 hw)) (Or.inl (own_w41 hw)) (by decide) (t := .int) (t' := (.array .int)) (by decide) (by decide)))
  have F_terms_17 := F_terms_16.other W17 (Or.inr (slot_ne (Or.inr (own_w35 hw)) (Or.inl (own_w41 hw)) (by decide) (t := .int) (t' := (.array .int)) (by decide) (by decide)))
  have F_limit_17 := F_limit_16.other W17 (Or.inr (slot_ne (Or.inl (own_w37 hw)) (Or.inl (own_w41 hw)) (by decide) (t := .int) (t' := (.array .int)) (by decide) (by decide)))
  have F_level_17 := F_level_16.other W17 (Or.inr (slot_ne (Or.inl (own_w39 hw)) (Or.inl (own_w41 hw)) (by decide) (t := (.array .int)) (t' := (.array .int)) (by decide) (by decide)))
  have F_low_17 := F_low_16.same W17
  have F_high_17 := F_high_16.other W17 (Or.inr (slot_ne (Or.inl (own_w43 hw)) (Or.inl (own_w41 hw)) (by decide) (t := (.array .int)) (t' := (.array .int)) (by decide) (by decide)))
  have F_size_17 := F_size_16.other W17 (Or.inr (slot_ne (Or.inl (own_w45 hw)) (Or.inl (own_w41 hw)) (by decide) (t := .int) (t' := (.array .int)) (by decide) (by decide)))
  have F_unique_17 := F_unique_16.other W17 (Or.inr (slot_ne (Or.inl (own_w47 hw)) (Or.inl (own_w41 hw)) (by decide) (t := (.array .int)) (t' := (.array .int)) (by decide) (by decide)))
  have F_cache_17 := F_cache_16.other W17 (Or.inr (slot_ne (Or.inl (own_w49 hw)) (Or.inl (own_w41 hw)) (by decide) (t := (.array .int)) (t' := (.array .int)) (by decide) (by decide)))
  have B2_17 := B2_16.wr W17
  have A_b7_17 := A_b7_16.other W17 (Nat.ne_of_gt o_d_b7)
  have A_b9_17 := A_b9_16.other W17 (Nat.ne_of_gt o_d_b9)
  have A_b14_17 := A_b14_16.other W17 (Nat.ne_of_gt o_d_b14)
  have A_b16_17 := A_b16_16.other W17 (Nat.ne_of_gt o_d_b16)
  refine own_aloadN X17 hx (hb hby d_dinit_76) rfl rfl 77 rfl ?_
  refine own_sipush X17 hx (z := (4096 : Int32)) (hb hby d_dinit_77) rfl 80 rfl ?_
  refine own_newP (aty := .int) X17 hx hZ (own_w27 hw) e17 (hb hby d_dinit_80) (by decide) 4096 (by decide) (by decide) (by decide) (by decide) 82 rfl (fun T18 h18 cA18 b18 g18 X18 e18 E18 B18 => ?_)
  have o_d_b18 : d < b18 := Nat.lt_of_lt_of_eq E0_17.lt g18.symm
  have o_b2_b18 : b2 < b18 := Nat.lt_of_lt_of_eq B2_17.lt g18.symm
  have o_b7_b18 : b7 < b18 := Nat.lt_of_lt_of_eq A_b7_17.lt g18.symm
  have o_b9_b18 : b9 < b18 := Nat.lt_of_lt_of_eq A_b9_17.lt g18.symm
  have o_b14_b18 : b14 < b18 := Nat.lt_of_lt_of_eq A_b14_17.lt g18.symm
  have o_b16_b18 : b16 < b18 := Nat.lt_of_lt_of_eq A_b16_17.lt g18.symm
  have gn_b18 : n0 ≤ b18 := Nat.le_trans Z0_17 (Nat.le_of_eq g18.symm)
  have sz_b18 : h0.size ≤ b18 := Nat.le_trans K0_17.1 (Nat.le_of_eq g18.symm)
  have E0_18 := E0_17.ext E18
  have K0_18 := K0_17.ext E18
  have Z0_18 := Nat.le_trans Z0_17 E18.1
  have F_logic_18 := F_logic_17.ext E18
  have F_sets_18 := F_sets_17.ext E18
  have F_work_18 := F_work_17.ext E18
  have F_results_18 := F_results_17.ext E18
  have F_variables_18 := F_variables_17.ext E18
  have F_terms_18 := F_terms_17.ext E18
  have F_limit_18 := F_limit_17.ext E18
  have F_level_18 := F_level_17.ext E18
  have F_low_18 := F_low_17.ext E18
  have F_high_18 := F_high_17.ext E18
  have F_size_18 := F_size_17.ext E18
  have F_unique_18 := F_unique_17.ext E18
  have F_cache_18 := F_cache_17.ext E18
  have B2_18 := B2_17.ext E18
  have A_b7_18 := A_b7_17.ext E18
  have A_b9_18 := A_b9_17.ext E18
  have A_b14_18 := A_b14_17.ext E18
  have A_b16_18 := A_b16_17.ext E18
  have A_b18_18 : own_A Z h18 b18 .int 4096 (fun _ => 0) := own_A.new B18 (by decide) rfl
  refine own_putF X18 hx hZ hown (own_w42 hw) e18 F_high_18 E0_18 (Or.inl (own_w43 hw)) (own_w1 hw) (ty := (.array .int)) (by decide) rfl rfl (hb hby d_dinit_82) N17 gn_d 85 rfl (fun T19 h19 l19 X19 N19 e19 W19 => ?_)
  have E0_19 := E0_18.wr W19
  have K0_19 := K0_18.wr W19 (Or.inl (List.mem_of_getElem? (i := 0) rfl))
  have Z0_19 := Nat.le_trans Z0_18 (Nat.le_of_eq W19.size.symm)
  have F_logic_19 := F_logic_18.other W19 (Or.inr (slot_ne (Or.inr (own_w22 hw)) (Or.inl (own_w43 hw)) (by decide) (t := (.object "com/example/orbweaver/orbweaver/spec/Logic")) (t' := (.array .int)) (by decide) (by decide)))
  have F_sets_19 := F_sets_18.other W19 (Or.inr (slot_ne (Or.inl (own_w26 hw)) (Or.inl (own_w43 hw)) (by decide) (t := (.array (.object "com/example/orbweaver/orbweaver/synthesis/Valuations"))) (t' := (.array .int)) (by decide) (by decide)))
  have F_work_19 := F_work_18.other W19 (Or.inr (slot_ne (Or.inl (own_w29 hw)) (Or.inl (own_w43 hw)) (by decide) (t := (.array .int)) (t' := (.array .int)) (by decide) (by decide)))
  have F_results_19 := F_results_18.other W19 (Or.inr (slot_ne (Or.inl (own_w31 hw)) (Or.inl (own_w43 hw)) (by decide) (t := (.array .int)) (t' := (.array .int)) (by decide) (by decide)))
  have F_variables_19 := F_variables_18.other W19 (Or.inr (slot_ne (Or.inr (own_w33 hw)) (Or.inl (own_w43 hw)) (by decide) (t := .int) (t' := (.array .int)) (by decide) (by decide)))
  have F_terms_19 := F_terms_18.other W19 (Or.inr (slot_ne (Or.inr (own_w35 hw)) (Or.inl (own_w43 hw)) (by decide) (t := .int) (t' := (.array .int)) (by decide) (by decide)))
  have F_limit_19 := F_limit_18.other W19 (Or.inr (slot_ne (Or.inl (own_w37 hw)) (Or.inl (own_w43 hw)) (by decide) (t := .int) (t' := (.array .int)) (by decide) (by decide)))
  have F_level_19 := F_level_18.other W19 (Or.inr (slot_ne (Or.inl (own_w39 hw)) (Or.inl (own_w43 hw)) (by decide) (t := (.array .int)) (t' := (.array .int)) (by decide) (by decide)))
  have F_low_19 := F_low_18.other W19 (Or.inr (slot_ne (Or.inl (own_w41 hw)) (Or.inl (own_w43 hw)) (by decide) (t := (.array .int)) (t' := (.array .int)) (by decide) (by decide)))
  have F_high_19 := F_high_18.same W19
  have F_size_19 := F_size_18.other W19 (Or.inr (slot_ne (Or.inl (own_w45 hw)) (Or.inl (own_w43 hw)) (by decide) (t := .int) (t' := (.array .int)) (by decide) (by decide)))
  have F_unique_19 := F_unique_18.other W19 (Or.inr (slot_ne (Or.inl (own_w47 hw)) (Or.inl (own_w43 hw)) (by decide) (t := (.array .int)) (t' := (.array .int)) (by decide) (by decide)))
  have F_cache_19 := F_cache_18.other W19 (Or.inr (slot_ne (Or.inl (own_w49 hw)) (Or.inl (own_w43 hw)) (by decide) (t := (.array .int)) (t' := (.array .int)) (by decide) (by decide)))
  have B2_19 := B2_18.wr W19
  have A_b7_19 := A_b7_18.other W19 (Nat.ne_of_gt o_d_b7)
  have A_b9_19 := A_b9_18.other W19 (Nat.ne_of_gt o_d_b9)
  have A_b14_19 := A_b14_18.other W19 (Nat.ne_of_gt o_d_b14)
  have A_b16_19 := A_b16_18.other W19 (Nat.ne_of_gt o_d_b16)
  have A_b18_19 := A_b18_18.other W19 (Nat.ne_of_gt o_d_b18)
  refine own_aloadN X19 hx (hb hby d_dinit_85) rfl rfl 86 rfl ?_
  refine own_getF X19 hx hZ hown (own_w38 hw) e19 F_level_19 (hb hby d_dinit_86) 89 rfl (fun T20 X20 e20 => ?_)
  refine own_iconst X20 hx (z := (0 : Int32)) (hb hby d_dinit_89) rfl 90 rfl ?_
  refine own_iloadN X20 hx (hb hby d_dinit_90) rfl 91 rfl ?_
  refine own_iastore X20 hx hZ e20 A_b14_19 ⟨by decide, by decide⟩ (hb hby d_dinit_91) N19 gn_b14 92 rfl (fun T21 h21 l21 X21 N21 e21 W21 => ?_)
  have E0_21 := E0_19.wr W21
  have K0_21 := K0_19.wr W21 (Or.inr sz_b14)
  have Z0_21 := Nat.le_trans Z0_19 (Nat.le_of_eq W21.size.symm)
  have F_logic_21 := F_logic_19.other W21 (Or.inl (Nat.ne_of_lt o_d_b14))
  have F_sets_21 := F_sets_19.other W21 (Or.inl (Nat.ne_of_lt o_d_b14))
  have F_work_21 := F_work_19.other W21 (Or.inl (Nat.ne_of_lt o_d_b14))
  have F_results_21 := F_results_19.other W21 (Or.inl (Nat.ne_of_lt o_d_b14))
  have F_variables_21 := F_variables_19.other W21 (Or.inl (Nat.ne_of_lt o_d_b14))
  have F_terms_21 := F_terms_19.other W21 (Or.inl (Nat.ne_of_lt o_d_b14))
  have F_limit_21 := F_limit_19.other W21 (Or.inl (Nat.ne_of_lt o_d_b14))
  have F_level_21 := F_level_19.other W21 (Or.inl (Nat.ne_of_lt o_d_b14))
  have F_low_21 := F_low_19.other W21 (Or.inl (Nat.ne_of_lt o_d_b14))
  have F_high_21 := F_high_19.other W21 (Or.inl (Nat.ne_of_lt o_d_b14))
  have F_size_21 := F_size_19.other W21 (Or.inl (Nat.ne_of_lt o_d_b14))
  have F_unique_21 := F_unique_19.other W21 (Or.inl (Nat.ne_of_lt o_d_b14))
  have F_cache_21 := F_cache_19.other W21 (Or.inl (Nat.ne_of_lt o_d_b14))
  have B2_21 := B2_19.wr W21
  have A_b7_21 := A_b7_19.other W21 (Nat.ne_of_lt o_b7_b14)
  have A_b9_21 := A_b9_19.other W21 (Nat.ne_of_lt o_b9_b14)
  have A_b14_21 := A_b14_19.set W21
  have A_b16_21 := A_b16_19.other W21 (Nat.ne_of_gt o_b14_b16)
  have A_b18_21 := A_b18_19.other W21 (Nat.ne_of_gt o_b14_b18)
  refine own_aloadN X21 hx (hb hby d_dinit_92) rfl rfl 93 rfl ?_
  refine own_getF X21 hx hZ hown (own_w38 hw) e21 F_level_21 (hb hby d_dinit_93) 96 rfl (fun T22 X22 e22 => ?_)
  refine own_iconst X22 hx (z := (1 : Int32)) (hb hby d_dinit_96) rfl 97 rfl ?_
  refine own_iloadN X22 hx (hb hby d_dinit_97) rfl 98 rfl ?_
  refine own_iastore X22 hx hZ e22 A_b14_21 ⟨by decide, by decide⟩ (hb hby d_dinit_98) N21 gn_b14 99 rfl (fun T23 h23 l23 X23 N23 e23 W23 => ?_)
  have E0_23 := E0_21.wr W23
  have K0_23 := K0_21.wr W23 (Or.inr sz_b14)
  have Z0_23 := Nat.le_trans Z0_21 (Nat.le_of_eq W23.size.symm)
  have F_logic_23 := F_logic_21.other W23 (Or.inl (Nat.ne_of_lt o_d_b14))
  have F_sets_23 := F_sets_21.other W23 (Or.inl (Nat.ne_of_lt o_d_b14))
  have F_work_23 := F_work_21.other W23 (Or.inl (Nat.ne_of_lt o_d_b14))
  have F_results_23 := F_results_21.other W23 (Or.inl (Nat.ne_of_lt o_d_b14))
  have F_variables_23 := F_variables_21.other W23 (Or.inl (Nat.ne_of_lt o_d_b14))
  have F_terms_23 := F_terms_21.other W23 (Or.inl (Nat.ne_of_lt o_d_b14))
  have F_limit_23 := F_limit_21.other W23 (Or.inl (Nat.ne_of_lt o_d_b14))
  have F_level_23 := F_level_21.other W23 (Or.inl (Nat.ne_of_lt o_d_b14))
  have F_low_23 := F_low_21.other W23 (Or.inl (Nat.ne_of_lt o_d_b14))
  have F_high_23 := F_high_21.other W23 (Or.inl (Nat.ne_of_lt o_d_b14))
  have F_size_23 := F_size_21.other W23 (Or.inl (Nat.ne_of_lt o_d_b14))
  have F_unique_23 := F_unique_21.other W23 (Or.inl (Nat.ne_of_lt o_d_b14))
  have F_cache_23 := F_cache_21.other W23 (Or.inl (Nat.ne_of_lt o_d_b14))
  have B2_23 := B2_21.wr W23
  have A_b7_23 := A_b7_21.other W23 (Nat.ne_of_lt o_b7_b14)
  have A_b9_23 := A_b9_21.other W23 (Nat.ne_of_lt o_b9_b14)
  have A_b14_23 := A_b14_21.set W23
  have A_b16_23 := A_b16_21.other W23 (Nat.ne_of_gt o_b14_b16)
  have A_b18_23 := A_b18_21.other W23 (Nat.ne_of_gt o_b14_b18)
  refine own_aloadN X23 hx (hb hby d_dinit_99) rfl rfl 100 rfl ?_
  refine own_getF X23 hx hZ hown (own_w40 hw) e23 F_low_23 (hb hby d_dinit_100) 103 rfl (fun T24 X24 e24 => ?_)
  refine own_iconst X24 hx (z := (1 : Int32)) (hb hby d_dinit_103) rfl 104 rfl ?_
  refine own_iconst X24 hx (z := (1 : Int32)) (hb hby d_dinit_104) rfl 105 rfl ?_
  refine own_iastore X24 hx hZ e24 A_b16_23 ⟨by decide, by decide⟩ (hb hby d_dinit_105) N23 gn_b16 106 rfl (fun T25 h25 l25 X25 N25 e25 W25 => ?_)
  have E0_25 := E0_23.wr W25
  have K0_25 := K0_23.wr W25 (Or.inr sz_b16)
  have Z0_25 := Nat.le_trans Z0_23 (Nat.le_of_eq W25.size.symm)
  have F_logic_25 := F_logic_23.other W25 (Or.inl (Nat.ne_of_lt o_d_b16))
  have F_sets_25 := F_sets_23.other W25 (Or.inl (Nat.ne_of_lt o_d_b16))
  have F_work_25 := F_work_23.other W25 (Or.inl (Nat.ne_of_lt o_d_b16))
  have F_results_25 := F_results_23.other W25 (Or.inl (Nat.ne_of_lt o_d_b16))
  have F_variables_25 := F_variables_23.other W25 (Or.inl (Nat.ne_of_lt o_d_b16))
  have F_terms_25 := F_terms_23.other W25 (Or.inl (Nat.ne_of_lt o_d_b16))
  have F_limit_25 := F_limit_23.other W25 (Or.inl (Nat.ne_of_lt o_d_b16))
  have F_level_25 := F_level_23.other W25 (Or.inl (Nat.ne_of_lt o_d_b16))
  have F_low_25 := F_low_23.other W25 (Or.inl (Nat.ne_of_lt o_d_b16))
  have F_high_25 := F_high_23.other W25 (Or.inl (Nat.ne_of_lt o_d_b16))
  have F_size_25 := F_size_23.other W25 (Or.inl (Nat.ne_of_lt o_d_b16))
  have F_unique_25 := F_unique_23.other W25 (Or.inl (Nat.ne_of_lt o_d_b16))
  have F_cache_25 := F_cache_23.other W25 (Or.inl (Nat.ne_of_lt o_d_b16))
  have B2_25 := B2_23.wr W25
  have A_b7_25 := A_b7_23.other W25 (Nat.ne_of_lt o_b7_b16)
  have A_b9_25 := A_b9_23.other W25 (Nat.ne_of_lt o_b9_b16)
  have A_b14_25 := A_b14_23.other W25 (Nat.ne_of_lt o_b14_b16)
  have A_b16_25 := A_b16_23.set W25
  have A_b18_25 := A_b18_23.other W25 (Nat.ne_of_gt o_b16_b18)
  refine own_aloadN X25 hx (hb hby d_dinit_106) rfl rfl 107 rfl ?_
  refine own_getF X25 hx hZ hown (own_w42 hw) e25 F_high_25 (hb hby d_dinit_107) 110 rfl (fun T26 X26 e26 => ?_)
  refine own_iconst X26 hx (z := (1 : Int32)) (hb hby d_dinit_110) rfl 111 rfl ?_
  refine own_iconst X26 hx (z := (1 : Int32)) (hb hby d_dinit_111) rfl 112 rfl ?_
  refine own_iastore X26 hx hZ e26 A_b18_25 ⟨by decide, by decide⟩ (hb hby d_dinit_112) N25 gn_b18 113 rfl (fun T27 h27 l27 X27 N27 e27 W27 => ?_)
  have E0_27 := E0_25.wr W27
  have K0_27 := K0_25.wr W27 (Or.inr sz_b18)
  have Z0_27 := Nat.le_trans Z0_25 (Nat.le_of_eq W27.size.symm)
  have F_logic_27 := F_logic_25.other W27 (Or.inl (Nat.ne_of_lt o_d_b18))
  have F_sets_27 := F_sets_25.other W27 (Or.inl (Nat.ne_of_lt o_d_b18))
  have F_work_27 := F_work_25.other W27 (Or.inl (Nat.ne_of_lt o_d_b18))
  have F_results_27 := F_results_25.other W27 (Or.inl (Nat.ne_of_lt o_d_b18))
  have F_variables_27 := F_variables_25.other W27 (Or.inl (Nat.ne_of_lt o_d_b18))
  have F_terms_27 := F_terms_25.other W27 (Or.inl (Nat.ne_of_lt o_d_b18))
  have F_limit_27 := F_limit_25.other W27 (Or.inl (Nat.ne_of_lt o_d_b18))
  have F_level_27 := F_level_25.other W27 (Or.inl (Nat.ne_of_lt o_d_b18))
  have F_low_27 := F_low_25.other W27 (Or.inl (Nat.ne_of_lt o_d_b18))
  have F_high_27 := F_high_25.other W27 (Or.inl (Nat.ne_of_lt o_d_b18))
  have F_size_27 := F_size_25.other W27 (Or.inl (Nat.ne_of_lt o_d_b18))
  have F_unique_27 := F_unique_25.other W27 (Or.inl (Nat.ne_of_lt o_d_b18))
  have F_cache_27 := F_cache_25.other W27 (Or.inl (Nat.ne_of_lt o_d_b18))
  have B2_27 := B2_25.wr W27
  have A_b7_27 := A_b7_25.other W27 (Nat.ne_of_lt o_b7_b18)
  have A_b9_27 := A_b9_25.other W27 (Nat.ne_of_lt o_b9_b18)
  have A_b14_27 := A_b14_25.other W27 (Nat.ne_of_lt o_b14_b18)
  have A_b16_27 := A_b16_25.other W27 (Nat.ne_of_lt o_b16_b18)
  have A_b18_27 := A_b18_25.set W27
  refine own_aloadN X27 hx (hb hby d_dinit_113) rfl rfl 114 rfl ?_
  refine own_iconst X27 hx (z := (2 : Int32)) (hb hby d_dinit_114) rfl 115 rfl ?_
  refine own_putF X27 hx hZ hown (own_w44 hw) e27 F_size_27 E0_27 (Or.inl (own_w45 hw)) (own_w1 hw) (ty := .int) (by decide) rfl rfl (hb hby d_dinit_115) N27 gn_d 118 rfl (fun T28 h28 l28 X28 N28 e28 W28 => ?_)
  have E0_28 := E0_27.wr W28
  have K0_28 := K0_27.wr W28 (Or.inl (List.mem_of_getElem? (i := 0) rfl))
  have Z0_28 := Nat.le_trans Z0_27 (Nat.le_of_eq W28.size.symm)
  have F_logic_28 := F_logic_27.other W28 (Or.inr (slot_ne (Or.inr (own_w22 hw)) (Or.inl (own_w45 hw)) (by decide) (t := (.object "com/example/orbweaver/orbweaver/spec/Logic")) (t' := .int) (by decide) (by decide)))
  have F_sets_28 := F_sets_27.other W28 (Or.inr (slot_ne (Or.inl (own_w26 hw)) (Or.inl (own_w45 hw)) (by decide) (t := (.array (.object "com/example/orbweaver/orbweaver/synthesis/Valuations"))) (t' := .int) (by decide) (by decide)))
  have F_work_28 := F_work_27.other W28 (Or.inr (slot_ne (Or.inl (own_w29 hw)) (Or.inl (own_w45 hw)) (by decide) (t := (.array .int)) (t' := .int) (by decide) (by decide)))
  have F_results_28 := F_results_27.other W28 (Or.inr (slot_ne (Or.inl (own_w31 hw)) (Or.inl (own_w45 hw)) (by decide) (t := (.array .int)) (t' := .int) (by decide) (by decide)))
  have F_variables_28 := F_variables_27.other W28 (Or.inr (slot_ne (Or.inr (own_w33 hw)) (Or.inl (own_w45 hw)) (by decide) (t := .int) (t' := .int) (by decide) (by decide)))
  have F_terms_28 := F_terms_27.other W28 (Or.inr (slot_ne (Or.inr (own_w35 hw)) (Or.inl (own_w45 hw)) (by decide) (t := .int) (t' := .int) (by decide) (by decide)))
  have F_limit_28 := F_limit_27.other W28 (Or.inr (slot_ne (Or.inl (own_w37 hw)) (Or.inl (own_w45 hw)) (by decide) (t := .int) (t' := .int) (by decide) (by decide)))
  have F_level_28 := F_level_27.other W28 (Or.inr (slot_ne (Or.inl (own_w39 hw)) (Or.inl (own_w45 hw)) (by decide) (t := (.array .int)) (t' := .int) (by decide) (by decide)))
  have F_low_28 := F_low_27.other W28 (Or.inr (slot_ne (Or.inl (own_w41 hw)) (Or.inl (own_w45 hw)) (by decide) (t := (.array .int)) (t' := .int) (by decide) (by decide)))
  have F_high_28 := F_high_27.other W28 (Or.inr (slot_ne (Or.inl (own_w43 hw)) (Or.inl (own_w45 hw)) (by decide) (t := (.array .int)) (t' := .int) (by decide) (by decide)))
  have F_size_28 := F_size_27.same W28
  have F_unique_28 := F_unique_27.other W28 (Or.inr (slot_ne (Or.inl (own_w47 hw)) (Or.inl (own_w45 hw)) (by decide) (t := (.array .int)) (t' := .int) (by decide) (by decide)))
  have F_cache_28 := F_cache_27.other W28 (Or.inr (slot_ne (Or.inl (own_w49 hw)) (Or.inl (own_w45 hw)) (by decide) (t := (.array .int)) (t' := .int) (by decide) (by decide)))
  have B2_28 := B2_27.wr W28
  have A_b7_28 := A_b7_27.other W28 (Nat.ne_of_gt o_d_b7)
  have A_b9_28 := A_b9_27.other W28 (Nat.ne_of_gt o_d_b9)
  have A_b14_28 := A_b14_27.other W28 (Nat.ne_of_gt o_d_b14)
  have A_b16_28 := A_b16_27.other W28 (Nat.ne_of_gt o_d_b16)
  have A_b18_28 := A_b18_27.other W28 (Nat.ne_of_gt o_d_b18)
  refine own_aloadN X28 hx (hb hby d_dinit_118) rfl rfl 119 rfl ?_
  refine own_sipush X28 hx (z := (8192 : Int32)) (hb hby d_dinit_119) rfl 122 rfl ?_
  refine own_newP (aty := .int) X28 hx hZ (own_w27 hw) e28 (hb hby d_dinit_122) (by decide) 8192 (by decide) (by decide) (by decide) (by decide) 124 rfl (fun T29 h29 cA29 b29 g29 X29 e29 E29 B29 => ?_)
  have o_d_b29 : d < b29 := Nat.lt_of_lt_of_eq E0_28.lt g29.symm
  have o_b2_b29 : b2 < b29 := Nat.lt_of_lt_of_eq B2_28.lt g29.symm
  have o_b7_b29 : b7 < b29 := Nat.lt_of_lt_of_eq A_b7_28.lt g29.symm
  have o_b9_b29 : b9 < b29 := Nat.lt_of_lt_of_eq A_b9_28.lt g29.symm
  have o_b14_b29 : b14 < b29 := Nat.lt_of_lt_of_eq A_b14_28.lt g29.symm
  have o_b16_b29 : b16 < b29 := Nat.lt_of_lt_of_eq A_b16_28.lt g29.symm
  have o_b18_b29 : b18 < b29 := Nat.lt_of_lt_of_eq A_b18_28.lt g29.symm
  have gn_b29 : n0 ≤ b29 := Nat.le_trans Z0_28 (Nat.le_of_eq g29.symm)
  have sz_b29 : h0.size ≤ b29 := Nat.le_trans K0_28.1 (Nat.le_of_eq g29.symm)
  have E0_29 := E0_28.ext E29
  have K0_29 := K0_28.ext E29
  have Z0_29 := Nat.le_trans Z0_28 E29.1
  have F_logic_29 := F_logic_28.ext E29
  have F_sets_29 := F_sets_28.ext E29
  have F_work_29 := F_work_28.ext E29
  have F_results_29 := F_results_28.ext E29
  have F_variables_29 := F_variables_28.ext E29
  have F_terms_29 := F_terms_28.ext E29
  have F_limit_29 := F_limit_28.ext E29
  have F_level_29 := F_level_28.ext E29
  have F_low_29 := F_low_28.ext E29
  have F_high_29 := F_high_28.ext E29
  have F_size_29 := F_size_28.ext E29
  have F_unique_29 := F_unique_28.ext E29
  have F_cache_29 := F_cache_28.ext E29
  have B2_29 := B2_28.ext E29
  have A_b7_29 := A_b7_28.ext E29
  have A_b9_29 := A_b9_28.ext E29
  have A_b14_29 := A_b14_28.ext E29
  have A_b16_29 := A_b16_28.ext E29
  have A_b18_29 := A_b18_28.ext E29
  have A_b29_29 : own_A Z h29 b29 .int 8192 (fun _ => 0) := own_A.new B29 (by decide) rfl
  refine own_putF X29 hx hZ hown (own_w46 hw) e29 F_unique_29 E0_29 (Or.inl (own_w47 hw)) (own_w1 hw) (ty := (.array .int)) (by decide) rfl rfl (hb hby d_dinit_124) N28 gn_d 127 rfl (fun T30 h30 l30 X30 N30 e30 W30 => ?_)
  have E0_30 := E0_29.wr W30
  have K0_30 := K0_29.wr W30 (Or.inl (List.mem_of_getElem? (i := 0) rfl))
  have Z0_30 := Nat.le_trans Z0_29 (Nat.le_of_eq W30.size.symm)
  have F_logic_30 := F_logic_29.other W30 (Or.inr (slot_ne (Or.inr (own_w22 hw)) (Or.inl (own_w47 hw)) (by decide) (t := (.object "com/example/orbweaver/orbweaver/spec/Logic")) (t' := (.array .int)) (by decide) (by decide)))
  have F_sets_30 := F_sets_29.other W30 (Or.inr (slot_ne (Or.inl (own_w26 hw)) (Or.inl (own_w47 hw)) (by decide) (t := (.array (.object "com/example/orbweaver/orbweaver/synthesis/Valuations"))) (t' := (.array .int)) (by decide) (by decide)))
  have F_work_30 := F_work_29.other W30 (Or.inr (slot_ne (Or.inl (own_w29 hw)) (Or.inl (own_w47 hw)) (by decide) (t := (.array .int)) (t' := (.array .int)) (by decide) (by decide)))
  have F_results_30 := F_results_29.other W30 (Or.inr (slot_ne (Or.inl (own_w31 hw)) (Or.inl (own_w47 hw)) (by decide) (t := (.array .int)) (t' := (.array .int)) (by decide) (by decide)))
  have F_variables_30 := F_variables_29.other W30 (Or.inr (slot_ne (Or.inr (own_w33 hw)) (Or.inl (own_w47 hw)) (by decide) (t := .int) (t' := (.array .int)) (by decide) (by decide)))
  have F_terms_30 := F_terms_29.other W30 (Or.inr (slot_ne (Or.inr (own_w35 hw)) (Or.inl (own_w47 hw)) (by decide) (t := .int) (t' := (.array .int)) (by decide) (by decide)))
  have F_limit_30 := F_limit_29.other W30 (Or.inr (slot_ne (Or.inl (own_w37 hw)) (Or.inl (own_w47 hw)) (by decide) (t := .int) (t' := (.array .int)) (by decide) (by decide)))
  have F_level_30 := F_level_29.other W30 (Or.inr (slot_ne (Or.inl (own_w39 hw)) (Or.inl (own_w47 hw)) (by decide) (t := (.array .int)) (t' := (.array .int)) (by decide) (by decide)))
  have F_low_30 := F_low_29.other W30 (Or.inr (slot_ne (Or.inl (own_w41 hw)) (Or.inl (own_w47 hw)) (by decide) (t := (.array .int)) (t' := (.array .int)) (by decide) (by decide)))
  have F_high_30 := F_high_29.other W30 (Or.inr (slot_ne (Or.inl (own_w43 hw)) (Or.inl (own_w47 hw)) (by decide) (t := (.array .int)) (t' := (.array .int)) (by decide) (by decide)))
  have F_size_30 := F_size_29.other W30 (Or.inr (slot_ne (Or.inl (own_w45 hw)) (Or.inl (own_w47 hw)) (by decide) (t := .int) (t' := (.array .int)) (by decide) (by decide)))
  have F_unique_30 := F_unique_29.same W30
  have F_cache_30 := F_cache_29.other W30 (Or.inr (slot_ne (Or.inl (own_w49 hw)) (Or.inl (own_w47 hw)) (by decide) (t := (.array .int)) (t' := (.array .int)) (by decide) (by decide)))
  have B2_30 := B2_29.wr W30
  have A_b7_30 := A_b7_29.other W30 (Nat.ne_of_gt o_d_b7)
  have A_b9_30 := A_b9_29.other W30 (Nat.ne_of_gt o_d_b9)
  have A_b14_30 := A_b14_29.other W30 (Nat.ne_of_gt o_d_b14)
  have A_b16_30 := A_b16_29.other W30 (Nat.ne_of_gt o_d_b16)
  have A_b18_30 := A_b18_29.other W30 (Nat.ne_of_gt o_d_b18)
  have A_b29_30 := A_b29_29.other W30 (Nat.ne_of_gt o_d_b29)
  refine own_aloadN X30 hx (hb hby d_dinit_127) rfl rfl 128 rfl ?_
  refine own_sipush X30 hx (z := (16384 : Int32)) (hb hby d_dinit_128) rfl 131 rfl ?_
  refine own_newP (aty := .int) X30 hx hZ (own_w27 hw) e30 (hb hby d_dinit_131) (by decide) 16384 (by decide) (by decide) (by decide) (by decide) 133 rfl (fun T31 h31 cA31 b31 g31 X31 e31 E31 B31 => ?_)
  have o_d_b31 : d < b31 := Nat.lt_of_lt_of_eq E0_30.lt g31.symm
  have o_b2_b31 : b2 < b31 := Nat.lt_of_lt_of_eq B2_30.lt g31.symm
  have o_b7_b31 : b7 < b31 := Nat.lt_of_lt_of_eq A_b7_30.lt g31.symm
  have o_b9_b31 : b9 < b31 := Nat.lt_of_lt_of_eq A_b9_30.lt g31.symm
  have o_b14_b31 : b14 < b31 := Nat.lt_of_lt_of_eq A_b14_30.lt g31.symm
  have o_b16_b31 : b16 < b31 := Nat.lt_of_lt_of_eq A_b16_30.lt g31.symm
  have o_b18_b31 : b18 < b31 := Nat.lt_of_lt_of_eq A_b18_30.lt g31.symm
  have o_b29_b31 : b29 < b31 := Nat.lt_of_lt_of_eq A_b29_30.lt g31.symm
  have gn_b31 : n0 ≤ b31 := Nat.le_trans Z0_30 (Nat.le_of_eq g31.symm)
  have sz_b31 : h0.size ≤ b31 := Nat.le_trans K0_30.1 (Nat.le_of_eq g31.symm)
  have E0_31 := E0_30.ext E31
  have K0_31 := K0_30.ext E31
  have Z0_31 := Nat.le_trans Z0_30 E31.1
  have F_logic_31 := F_logic_30.ext E31
  have F_sets_31 := F_sets_30.ext E31
  have F_work_31 := F_work_30.ext E31
  have F_results_31 := F_results_30.ext E31
  have F_variables_31 := F_variables_30.ext E31
  have F_terms_31 := F_terms_30.ext E31
  have F_limit_31 := F_limit_30.ext E31
  have F_level_31 := F_level_30.ext E31
  have F_low_31 := F_low_30.ext E31
  have F_high_31 := F_high_30.ext E31
  have F_size_31 := F_size_30.ext E31
  have F_unique_31 := F_unique_30.ext E31
  have F_cache_31 := F_cache_30.ext E31
  have B2_31 := B2_30.ext E31
  have A_b7_31 := A_b7_30.ext E31
  have A_b9_31 := A_b9_30.ext E31
  have A_b14_31 := A_b14_30.ext E31
  have A_b16_31 := A_b16_30.ext E31
  have A_b18_31 := A_b18_30.ext E31
  have A_b29_31 := A_b29_30.ext E31
  have A_b31_31 : own_A Z h31 b31 .int 16384 (fun _ => 0) := own_A.new B31 (by decide) rfl
  refine own_putF X31 hx hZ hown (own_w48 hw) e31 F_cache_31 E0_31 (Or.inl (own_w49 hw)) (own_w1 hw) (ty := (.array .int)) (by decide) rfl rfl (hb hby d_dinit_133) N30 gn_d 136 rfl (fun T32 h32 l32 X32 N32 e32 W32 => ?_)
  have E0_32 := E0_31.wr W32
  have K0_32 := K0_31.wr W32 (Or.inl (List.mem_of_getElem? (i := 0) rfl))
  have Z0_32 := Nat.le_trans Z0_31 (Nat.le_of_eq W32.size.symm)
  have F_logic_32 := F_logic_31.other W32 (Or.inr (slot_ne (Or.inr (own_w22 hw)) (Or.inl (own_w49 hw)) (by decide) (t := (.object "com/example/orbweaver/orbweaver/spec/Logic")) (t' := (.array .int)) (by decide) (by decide)))
  have F_sets_32 := F_sets_31.other W32 (Or.inr (slot_ne (Or.inl (own_w26 hw)) (Or.inl (own_w49 hw)) (by decide) (t := (.array (.object "com/example/orbweaver/orbweaver/synthesis/Valuations"))) (t' := (.array .int)) (by decide) (by decide)))
  have F_work_32 := F_work_31.other W32 (Or.inr (slot_ne (Or.inl (own_w29 hw)) (Or.inl (own_w49 hw)) (by decide) (t := (.array .int)) (t' := (.array .int)) (by decide) (by decide)))
  have F_results_32 := F_results_31.other W32 (Or.inr (slot_ne (Or.inl (own_w31 hw)) (Or.inl (own_w49 hw)) (by decide) (t := (.array .int)) (t' := (.array .int)) (by decide) (by decide)))
  have F_variables_32 := F_variables_31.other W32 (Or.inr (slot_ne (Or.inr (own_w33 hw)) (Or.inl (own_w49 hw)) (by decide) (t := .int) (t' := (.array .int)) (by decide) (by decide)))
  have F_terms_32 := F_terms_31.other W32 (Or.inr (slot_ne (Or.inr (own_w35 hw)) (Or.inl (own_w49 hw)) (by decide) (t := .int) (t' := (.array .int)) (by decide) (by decide)))
  have F_limit_32 := F_limit_31.other W32 (Or.inr (slot_ne (Or.inl (own_w37 hw)) (Or.inl (own_w49 hw)) (by decide) (t := .int) (t' := (.array .int)) (by decide) (by decide)))
  have F_level_32 := F_level_31.other W32 (Or.inr (slot_ne (Or.inl (own_w39 hw)) (Or.inl (own_w49 hw)) (by decide) (t := (.array .int)) (t' := (.array .int)) (by decide) (by decide)))
  have F_low_32 := F_low_31.other W32 (Or.inr (slot_ne (Or.inl (own_w41 hw)) (Or.inl (own_w49 hw)) (by decide) (t := (.array .int)) (t' := (.array .int)) (by decide) (by decide)))
  have F_high_32 := F_high_31.other W32 (Or.inr (slot_ne (Or.inl (own_w43 hw)) (Or.inl (own_w49 hw)) (by decide) (t := (.array .int)) (t' := (.array .int)) (by decide) (by decide)))
  have F_size_32 := F_size_31.other W32 (Or.inr (slot_ne (Or.inl (own_w45 hw)) (Or.inl (own_w49 hw)) (by decide) (t := .int) (t' := (.array .int)) (by decide) (by decide)))
  have F_unique_32 := F_unique_31.other W32 (Or.inr (slot_ne (Or.inl (own_w47 hw)) (Or.inl (own_w49 hw)) (by decide) (t := (.array .int)) (t' := (.array .int)) (by decide) (by decide)))
  have F_cache_32 := F_cache_31.same W32
  have B2_32 := B2_31.wr W32
  have A_b7_32 := A_b7_31.other W32 (Nat.ne_of_gt o_d_b7)
  have A_b9_32 := A_b9_31.other W32 (Nat.ne_of_gt o_d_b9)
  have A_b14_32 := A_b14_31.other W32 (Nat.ne_of_gt o_d_b14)
  have A_b16_32 := A_b16_31.other W32 (Nat.ne_of_gt o_d_b16)
  have A_b18_32 := A_b18_31.other W32 (Nat.ne_of_gt o_d_b18)
  have A_b29_32 := A_b29_31.other W32 (Nat.ne_of_gt o_d_b29)
  have A_b31_32 := A_b31_31.other W32 (Nat.ne_of_gt o_d_b31)
  refine own_aloadN X32 hx (hb hby d_dinit_136) rfl rfl 137 rfl ?_
  refine own_getF X32 hx hZ hown (own_w48 hw) e32 F_cache_32 (hb hby d_dinit_137) 140 rfl (fun T33 X33 e33 => ?_)
  refine own_iconst X33 hx (z := (-1 : Int32)) (hb hby d_dinit_140) rfl 141 rfl ?_
  refine own_callS X33 hx hZ hown (own_w50 hw) (own_w51 hw) (own_w52 hw) (own_w53 hw) (by decide) 0 (own_m_fill l Z a0 hw _ n0 (by decide) A_b31_32 gn_b31 (-1 : Int32)) e33 (by rw [hml]; rfl) [(.ref b31), (.int (-1 : Int32))] [] rfl (lenOf own_pd_1 rfl) rfl (Nat.le_of_eq rfl) (by decide) (by decide) (by decide) (by decide) (hb hby d_dinit_141) N32 144 rfl (fun v34 T34 l34 X34 N34 hP34 => ?_)
  obtain ⟨rfl, A34', K34'⟩ := hP34
  have E0_34 := E0_32.keep K34'
  have K0_34 := K0_32.trans K34' (allS (Or.inr sz_b31) all0)
  have Z0_34 := Nat.le_trans Z0_32 K34'.1
  have F_logic_34 := F_logic_32.keep K34' (ninS (Nat.ne_of_lt o_d_b31) nin0)
  have F_sets_34 := F_sets_32.keep K34' (ninS (Nat.ne_of_lt o_d_b31) nin0)
  have F_work_34 := F_work_32.keep K34' (ninS (Nat.ne_of_lt o_d_b31) nin0)
  have F_results_34 := F_results_32.keep K34' (ninS (Nat.ne_of_lt o_d_b31) nin0)
  have F_variables_34 := F_variables_32.keep K34' (ninS (Nat.ne_of_lt o_d_b31) nin0)
  have F_terms_34 := F_terms_32.keep K34' (ninS (Nat.ne_of_lt o_d_b31) nin0)
  have F_limit_34 := F_limit_32.keep K34' (ninS (Nat.ne_of_lt o_d_b31) nin0)
  have F_level_34 := F_level_32.keep K34' (ninS (Nat.ne_of_lt o_d_b31) nin0)
  have F_low_34 := F_low_32.keep K34' (ninS (Nat.ne_of_lt o_d_b31) nin0)
  have F_high_34 := F_high_32.keep K34' (ninS (Nat.ne_of_lt o_d_b31) nin0)
  have F_size_34 := F_size_32.keep K34' (ninS (Nat.ne_of_lt o_d_b31) nin0)
  have F_unique_34 := F_unique_32.keep K34' (ninS (Nat.ne_of_lt o_d_b31) nin0)
  have F_cache_34 := F_cache_32.keep K34' (ninS (Nat.ne_of_lt o_d_b31) nin0)
  have B2_34 := B2_32.keep K34'
  have A_b7_34 := A_b7_32.keep K34' (ninS (Nat.ne_of_lt o_b7_b31) nin0)
  have A_b9_34 := A_b9_32.keep K34' (ninS (Nat.ne_of_lt o_b9_b31) nin0)
  have A_b14_34 := A_b14_32.keep K34' (ninS (Nat.ne_of_lt o_b14_b31) nin0)
  have A_b16_34 := A_b16_32.keep K34' (ninS (Nat.ne_of_lt o_b16_b31) nin0)
  have A_b18_34 := A_b18_32.keep K34' (ninS (Nat.ne_of_lt o_b18_b31) nin0)
  have A_b29_34 := A_b29_32.keep K34' (ninS (Nat.ne_of_lt o_b29_b31) nin0)
  show own_G p e below _ (T34.setTop (mkF m 144 #[.val (.ref d), .val (.int p1), .val (.int p2), .val (.int p3)] []))
  exact own_retV X34 hx hret hlk (hb hby d_dinit_144) (by decide) (by decide) N34 rfl ⟨rfl, ⟨b14, b16, b18, b29, b31, b7, b9, ⟨gn_d, o_d_b7, o_b7_b9, o_b9_b14, o_b14_b16, o_b16_b18, o_b18_b29, o_b29_b31⟩, E0_34, F_limit_34, F_size_34, F_level_34, F_low_34, F_high_34, F_unique_34, F_cache_34, F_work_34, F_results_34, A_b14_34.congr (fun j _ => by rw [own_look_set, own_look_set]; rfl), A_b16_34.congr (fun j _ => by rw [own_look_set]; rfl), A_b18_34.congr (fun j _ => by rw [own_look_set]; rfl), A_b29_34.congr (fun j _ => by rfl), A34'.congr (fun j _ => by rfl), A_b7_34.congr (fun j _ => by rfl), A_b9_34.congr (fun j _ => by rfl)⟩, K0_34⟩
theorem d_dinit2_0 : decode prog_81_method_1_code 0 = .ok (.aload_n 0, 1) := by decide +kernel
theorem d_dinit2_1 : decode prog_81_method_1_code 1 = .ok (.iload_n 1, 1) := by decide +kernel
theorem d_dinit2_2 : decode prog_81_method_1_code 2 = .ok (.iload_n 1, 1) := by decide +kernel
theorem d_dinit2_3 : decode prog_81_method_1_code 3 = .ok (.iload_n 2, 1) := by decide +kernel
theorem d_dinit2_4 : decode prog_81_method_1_code 4 = .ok (.invokespecial 1, 3) := by decide +kernel
theorem d_dinit2_7 : decode prog_81_method_1_code 7 = .ok (.return_, 1) := by decide +kernel
theorem own_ef_dinit2 (m : MethodId) (d : Addr) (p1 : Int32) (p2 : Int32) : entryFrame m #[(.ref d), (.int p1), (.int p2)] 3 = mkF m 0 #[.val (.ref d), .val (.int p1), .val (.int p2)] [] := by first | (simp [entryFrame, mkF, argsToLocals, Value.category]; done) | rfl
set_option maxRecDepth 65536 in
set_option maxHeartbeats 40000000 in
theorem own_m_dinit2 (l : Launch) (Z : State) (a0 : Array Value) (hw : ∀ d ∈ tables_1, d.before a0 Z = true) (h0 : Heap) (n0 : Nat) {d : Addr} (p1 p2 : Int32) (E0 : Exa Z h0 d "com/example/orbweaver/orbweaver/synthesis/Diagrams") (F_logic : Fld Z h0 d "com/example/orbweaver/orbweaver/synthesis/Diagrams" "logic" "Lcom/example/orbweaver/orbweaver/spec/Logic;" .null) (F_sets : Fld Z h0 d "com/example/orbweaver/orbweaver/synthesis/Diagrams" "sets" "[Lcom/example/orbweaver/orbweaver/synthesis/Valuations;" .null) (F_work : Fld Z h0 d "com/example/orbweaver/orbweaver/synthesis/Diagrams" "work" "[I" .null) (F_results : Fld Z h0 d "com/example/orbweaver/orbweaver/synthesis/Diagrams" "results" "[I" .null) (F_variables : Fld Z h0 d "com/example/orbweaver/orbweaver/synthesis/Diagrams" "variables" "I" (.int 0)) (F_terms : Fld Z h0 d "com/example/orbweaver/orbweaver/synthesis/Diagrams" "terms" "I" (.int 0)) (F_limit : Fld Z h0 d "com/example/orbweaver/orbweaver/synthesis/Diagrams" "limit" "I" (.int 0)) (F_level : Fld Z h0 d "com/example/orbweaver/orbweaver/synthesis/Diagrams" "level" "[I" .null) (F_low : Fld Z h0 d "com/example/orbweaver/orbweaver/synthesis/Diagrams" "low" "[I" .null) (F_high : Fld Z h0 d "com/example/orbweaver/orbweaver/synthesis/Diagrams" "high" "[I" .null) (F_size : Fld Z h0 d "com/example/orbweaver/orbweaver/synthesis/Diagrams" "size" "I" (.int 0)) (F_unique : Fld Z h0 d "com/example/orbweaver/orbweaver/synthesis/Diagrams" "unique" "[I" .null) (F_cache : Fld Z h0 d "com/example/orbweaver/orbweaver/synthesis/Diagrams" "cache" "[I" .null) (gn_d : n0 ≤ d) : own_Met l Z ⟨"com/example/orbweaver/orbweaver/synthesis/Diagrams", "<init>", "(II)V"⟩ prog_81_method_1_code 3 none [] ({ frames := 3, cells := 9, slots := 41345, locals := 42 } : Room) #[(.ref d), (.int p1), (.int p2)] h0 n0 (fun v h => v = none ∧ Keep h0 h [d]) := by
  refine own_body own_pn_Diagrams ?_
  intro p e s m below meth c T0 X0 hx hby hml hown hnm hZ e0 hret hlk
  have N0 := Fr.nil n0
  have K0 : Keep h0 h0 [d] := Keep.refl _ _
  have Z0 : n0 ≤ h0.size := Nat.le_trans gn_d (Nat.le_of_lt E0.lt)
  refine own_cast (own_ef_dinit2 m d p1 p2) ?_
  refine own_aloadN X0 hx (hb hby d_dinit2_0) rfl rfl 1 rfl ?_
  refine own_iloadN X0 hx (hb hby d_dinit2_1) rfl 2 rfl ?_
  refine own_iloadN X0 hx (hb hby d_dinit2_2) rfl 3 rfl ?_
  refine own_iloadN X0 hx (hb hby d_dinit2_3) rfl 4 rfl ?_
  refine own_callI X0 hx hZ hown rfl (own_w6 hw) (own_w7 hw) (own_w2 hw) (own_w8 hw) (by decide) 0 (own_m_dinit l Z a0 hw _ n0 p1 p1 p2 E0 F_logic F_sets F_work F_results F_variables F_terms F_limit F_level F_low F_high F_size F_unique F_cache gn_d) e0 (by rw [hml]; rfl) d [(.int p1), (.int p1), (.int p2)] [] rfl (lenOf own_pd_2 rfl) rfl (Nat.le_of_eq rfl) (by decide) (by decide) (by decide) (by decide) (hb hby d_dinit2_4) N0 7 rfl (fun v1 T1 l1 X1 N1 hP1 => ?_)
  obtain ⟨rfl, -, K1'⟩ := hP1
  have E0_1 := E0.keep K1'
  have K0_1 := K0.trans K1' (allS (Or.inl (List.mem_of_getElem? (i := 0) rfl)) all0)
  have Z0_1 := Nat.le_trans Z0 K1'.1
  show own_G p e below _ (T1.setTop (mkF m 7 #[.val (.ref d), .val (.int p1), .val (.int p2)] []))
  exact own_retV X1 hx hret hlk (hb hby d_dinit2_7) (by decide) (by decide) N1 rfl ⟨rfl, K0_1⟩
theorem d_vinit_0 : decode prog_96_method_1_code 0 = .ok (.aload_n 0, 1) := by decide +kernel
theorem d_vinit_1 : decode prog_96_method_1_code 1 = .ok (.invokespecial 1, 3) := by decide +kernel
theorem d_vinit_4 : decode prog_96_method_1_code 4 = .ok (.aload_n 0, 1) := by decide +kernel
theorem d_vinit_5 : decode prog_96_method_1_code 5 = .ok (.aload_n 1, 1) := by decide +kernel
theorem d_vinit_6 : decode prog_96_method_1_code 6 = .ok (.putfield 7, 3) := by decide +kernel
theorem d_vinit_9 : decode prog_96_method_1_code 9 = .ok (.aload_n 0, 1) := by decide +kernel
theorem d_vinit_10 : decode prog_96_method_1_code 10 = .ok (.iload_n 2, 1) := by decide +kernel
theorem d_vinit_11 : decode prog_96_method_1_code 11 = .ok (.putfield 13, 3) := by decide +kernel
theorem d_vinit_14 : decode prog_96_method_1_code 14 = .ok (.return_, 1) := by decide +kernel
theorem own_ef_vinit (m : MethodId) (x : Addr) (d : Addr) (p1 : Int32) : entryFrame m #[(.ref x), (.ref d), (.int p1)] 3 = mkF m 0 #[.val (.ref x), .val (.ref d), .val (.int p1)] [] := by first | (simp [entryFrame, mkF, argsToLocals, Value.category]; done) | rfl
set_option maxRecDepth 65536 in
set_option maxHeartbeats 40000000 in
theorem own_m_vinit (l : Launch) (Z : State) (a0 : Array Value) (hw : ∀ d ∈ tables_1, d.before a0 Z = true) (h0 : Heap) (n0 : Nat) {x d : Addr} (p1 : Int32) (E0 : Exa Z h0 x "com/example/orbweaver/orbweaver/synthesis/Valuations") (F1 : Fld Z h0 x "com/example/orbweaver/orbweaver/synthesis/Valuations" "diagrams" "Lcom/example/orbweaver/orbweaver/synthesis/Diagrams;" .null) (F2 : Fld Z h0 x "com/example/orbweaver/orbweaver/synthesis/Valuations" "node" "I" (.int 0)) (gn_x : n0 ≤ x) : own_Met l Z ⟨"com/example/orbweaver/orbweaver/synthesis/Valuations", "<init>", "(Lcom/example/orbweaver/orbweaver/synthesis/Diagrams;I)V"⟩ prog_96_method_1_code 3 none [] ({ frames := 1, cells := 0, slots := 0, locals := 12 } : Room) #[(.ref x), (.ref d), (.int p1)] h0 n0 (fun v h => v = none ∧ Fld Z h x "com/example/orbweaver/orbweaver/synthesis/Valuations" "diagrams" "Lcom/example/orbweaver/orbweaver/synthesis/Diagrams;" (.ref d) ∧ Fld Z h x "com/example/orbweaver/orbweaver/synthesis/Valuations" "node" "I" (.int p1) ∧ Keep h0 h [x]) := by
  refine own_body own_pn_Valuations ?_
  intro p e s m below meth c T0 X0 hx hby hml hown hnm hZ e0 hret hlk
  have N0 := Fr.nil n0
  have K0 : Keep h0 h0 [x] := Keep.refl _ _
  refine own_cast (own_ef_vinit m x d p1) ?_
  refine own_aloadN X0 hx (hb hby d_vinit_0) rfl rfl 1 rfl ?_
  refine own_initO X0 hx hZ hown (own_w60 hw) (own_w10 hw) (own_w11 hw) e0 (by rw [hml]; rfl) (hb hby d_vinit_1) 0 (by decide) (Nat.le_of_eq rfl) (by decide) 4 rfl (fun T1 X1 e1 => ?_)
  refine own_aloadN X1 hx (hb hby d_vinit_4) rfl rfl 5 rfl ?_
  refine own_aloadN X1 hx (hb hby d_vinit_5) rfl rfl 6 rfl ?_
  refine own_putF X1 hx hZ hown (own_w61 hw) e1 F1 E0 (Or.inr ⟨(own_w62 hw), rfl, hnm⟩) (own_w55 hw) (ty := (.object "com/example/orbweaver/orbweaver/synthesis/Diagrams")) (by decide) rfl rfl (hb hby d_vinit_6) N0 gn_x 9 rfl (fun T2 h2 l2 X2 N2 e2 W2 => ?_)
  have E0_2 := E0.wr W2
  have K0_2 := K0.wr W2 (Or.inl (List.mem_of_getElem? (i := 0) rfl))
  have F1_2 := F1.same W2
  have F2_2 := F2.other W2 (Or.inr (slot_ne (Or.inr (own_w64 hw)) (Or.inr (own_w62 hw)) (by decide) (t := .int) (t' := (.object "com/example/orbweaver/orbweaver/synthesis/Diagrams")) (by decide) (by decide)))
  refine own_aloadN X2 hx (hb hby d_vinit_9) rfl rfl 10 rfl ?_
  refine own_iloadN X2 hx (hb hby d_vinit_10) rfl 11 rfl ?_
  refine own_putF X2 hx hZ hown (own_w63 hw) e2 F2_2 E0_2 (Or.inr ⟨(own_w64 hw), rfl, hnm⟩) (own_w55 hw) (ty := .int) (by decide) rfl rfl (hb hby d_vinit_11) N2 gn_x 14 rfl (fun T3 h3 l3 X3 N3 e3 W3 => ?_)
  have E0_3 := E0_2.wr W3
  have K0_3 := K0_2.wr W3 (Or.inl (List.mem_of_getElem? (i := 0) rfl))
  have F1_3 := F1_2.other W3 (Or.inr (slot_ne (Or.inr (own_w62 hw)) (Or.inr (own_w64 hw)) (by decide) (t := (.object "com/example/orbweaver/orbweaver/synthesis/Diagrams")) (t' := .int) (by decide) (by decide)))
  have F2_3 := F2_2.same W3
  exact own_retV X3 hx hret hlk (hb hby d_vinit_14) (by decide) (by decide) N3 e3 ⟨rfl, F1_3, F2_3, K0_3⟩
theorem d_eqn_0 : decode prog_96_method_12_code 0 = .ok (.aload_n 1, 1) := by decide +kernel
theorem d_eqn_1 : decode prog_96_method_12_code 1 = .ok (.instanceof 8, 3) := by decide +kernel
theorem d_eqn_4 : decode prog_96_method_12_code 4 = .ok (.ifCond .eq 34, 3) := by decide +kernel
theorem d_eqn_38 : decode prog_96_method_12_code 38 = .ok (.iconst 0, 1) := by decide +kernel
theorem d_eqn_39 : decode prog_96_method_12_code 39 = .ok (.ireturn, 1) := by decide +kernel
theorem own_ef_eqn (m : MethodId) (x : Addr) : entryFrame m #[(.ref x), .null] 3 = mkF m 0 #[.val (.ref x), .val .null, .unset] [] := by first | (simp [entryFrame, mkF, argsToLocals, Value.category]; done) | rfl
set_option maxRecDepth 65536 in
set_option maxHeartbeats 40000000 in
theorem own_m_eqn (l : Launch) (Z : State) (a0 : Array Value) (hw : ∀ d ∈ tables_1, d.before a0 Z = true) (h0 : Heap) (n0 : Nat) {x : Addr} : own_Met l Z ⟨"com/example/orbweaver/orbweaver/synthesis/Valuations", "equals", "(Ljava/lang/Object;)Z"⟩ prog_96_method_12_code 3 (some .boolean) [] ({ frames := 0, cells := 0, slots := 0, locals := 0 } : Room) #[(.ref x), .null] h0 n0 (fun v h => v = some (.int 0) ∧ h = h0) := by
  refine own_body own_pn_Valuations ?_
  intro p e s m below meth c T0 X0 hx hby hml hown hnm hZ e0 hret hlk
  have N0 := Fr.nil n0
  refine own_cast (own_ef_eqn m x) ?_
  refine own_aloadN X0 hx (hb hby d_eqn_0) rfl rfl 1 rfl ?_
  refine own_instNull X0 hx (hb hby d_eqn_1) 4 rfl ?_
  refine own_ifcT X0 hx (hb hby d_eqn_4) (teq (by decide)).1 38 (by decide) (by decide) ?_
  refine own_iconst X0 hx (z := (0 : Int32)) (hb hby d_eqn_38) rfl 39 rfl ?_
  exact own_retN X0 hx hret (Or.inl rfl) hlk (hb hby d_eqn_39) (by decide) (by decide) N0 e0 ⟨rfl, rfl⟩
theorem d_eqo_0 : decode prog_96_method_12_code 0 = .ok (.aload_n 1, 1) := by decide +kernel
theorem d_eqo_1 : decode prog_96_method_12_code 1 = .ok (.instanceof 8, 3) := by decide +kernel
theorem d_eqo_4 : decode prog_96_method_12_code 4 = .ok (.ifCond .eq 34, 3) := by decide +kernel
theorem d_eqo_38 : decode prog_96_method_12_code 38 = .ok (.iconst 0, 1) := by decide +kernel
theorem d_eqo_39 : decode prog_96_method_12_code 39 = .ok (.ireturn, 1) := by decide +kernel
theorem own_ef_eqo (m : MethodId) (x : Addr) (y : Addr) : entryFrame m #[(.ref x), (.ref y)] 3 = mkF m 0 #[.val (.ref x), .val (.ref y), .unset] [] := by first | (simp [entryFrame, mkF, argsToLocals, Value.category]; done) | rfl
set_option maxRecDepth 65536 in
set_option maxHeartbeats 40000000 in
theorem own_m_eqo (l : Launch) (Z : State) (a0 : Array Value) (hw : ∀ d ∈ tables_1, d.before a0 Z = true) (h0 : Heap) (n0 : Nat) {x y : Addr} {K : String} (E0 : Exa Z h0 y K) (NI : ∃ c t, Z.vm.findClass K = some c ∧ Z.vm.findClass "com/example/orbweaver/orbweaver/synthesis/Valuations" = some t ∧ Z.vm.assignable c t = false) : own_Met l Z ⟨"com/example/orbweaver/orbweaver/synthesis/Valuations", "equals", "(Ljava/lang/Object;)Z"⟩ prog_96_method_12_code 3 (some .boolean) [] ({ frames := 0, cells := 0, slots := 0, locals := 0 } : Room) #[(.ref x), (.ref y)] h0 n0 (fun v h => v = some (.int 0) ∧ h = h0) := by
  refine own_body own_pn_Valuations ?_
  intro p e s m below meth c T0 X0 hx hby hml hown hnm hZ e0 hret hlk
  have N0 := Fr.nil n0
  refine own_cast (own_ef_eqo m x y) ?_
  refine own_aloadN X0 hx (hb hby d_eqo_0) rfl rfl 1 rfl ?_
  refine own_instNo X0 hx hZ hown (own_w77 hw) e0 E0 NI (hb hby d_eqo_1) 4 rfl (fun T1 X1 e1 => ?_)
  refine own_ifcT X1 hx (hb hby d_eqo_4) (teq (by decide)).1 38 (by decide) (by decide) ?_
  refine own_iconst X1 hx (z := (0 : Int32)) (hb hby d_eqo_38) rfl 39 rfl ?_
  exact own_retN X1 hx hret (Or.inl rfl) hlk (hb hby d_eqo_39) (by decide) (by decide) N0 e1 ⟨rfl, rfl⟩
theorem d_eqv_0 : decode prog_96_method_12_code 0 = .ok (.aload_n 1, 1) := by decide +kernel
theorem d_eqv_1 : decode prog_96_method_12_code 1 = .ok (.instanceof 8, 3) := by decide +kernel
theorem d_eqv_4 : decode prog_96_method_12_code 4 = .ok (.ifCond .eq 34, 3) := by decide +kernel
theorem d_eqv_7 : decode prog_96_method_12_code 7 = .ok (.aload_n 1, 1) := by decide +kernel
theorem d_eqv_8 : decode prog_96_method_12_code 8 = .ok (.checkcast 8, 3) := by decide +kernel
theorem d_eqv_11 : decode prog_96_method_12_code 11 = .ok (.astore_n 2, 1) := by decide +kernel
theorem d_eqv_12 : decode prog_96_method_12_code 12 = .ok (.aload_n 0, 1) := by decide +kernel
theorem d_eqv_13 : decode prog_96_method_12_code 13 = .ok (.getfield 7, 3) := by decide +kernel
theorem d_eqv_16 : decode prog_96_method_12_code 16 = .ok (.aload_n 2, 1) := by decide +kernel
theorem d_eqv_17 : decode prog_96_method_12_code 17 = .ok (.getfield 7, 3) := by decide +kernel
theorem d_eqv_20 : decode prog_96_method_12_code 20 = .ok (.if_acmp .ne 18, 3) := by decide +kernel
theorem d_eqv_23 : decode prog_96_method_12_code 23 = .ok (.aload_n 0, 1) := by decide +kernel
theorem d_eqv_24 : decode prog_96_method_12_code 24 = .ok (.getfield 13, 3) := by decide +kernel
theorem d_eqv_27 : decode prog_96_method_12_code 27 = .ok (.aload_n 2, 1) := by decide +kernel
theorem d_eqv_28 : decode prog_96_method_12_code 28 = .ok (.getfield 13, 3) := by decide +kernel
theorem d_eqv_31 : decode prog_96_method_12_code 31 = .ok (.if_icmp .ne 7, 3) := by decide +kernel
theorem d_eqv_34 : decode prog_96_method_12_code 34 = .ok (.iconst 1, 1) := by decide +kernel
theorem d_eqv_35 : decode prog_96_method_12_code 35 = .ok (.goto 4, 3) := by decide +kernel
theorem d_eqv_38 : decode prog_96_method_12_code 38 = .ok (.iconst 0, 1) := by decide +kernel
theorem d_eqv_39 : decode prog_96_method_12_code 39 = .ok (.ireturn, 1) := by decide +kernel
theorem own_ef_eqv (m : MethodId) (x : Addr) (y : Addr) : entryFrame m #[(.ref x), (.ref y)] 3 = mkF m 0 #[.val (.ref x), .val (.ref y), .unset] [] := by first | (simp [entryFrame, mkF, argsToLocals, Value.category]; done) | rfl
set_option maxRecDepth 65536 in
set_option maxHeartbeats 40000000 in
theorem own_m_eqv (l : Launch) (Z : State) (a0 : Array Value) (hw : ∀ d ∈ tables_1, d.before a0 Z = true) (h0 : Heap) (n0 : Nat) {x y d1 d2 : Addr} {n1 n2 : Int32} (E0 : Exa Z h0 y "com/example/orbweaver/orbweaver/synthesis/Valuations") (F1 : Fld Z h0 x "com/example/orbweaver/orbweaver/synthesis/Valuations" "diagrams" "Lcom/example/orbweaver/orbweaver/synthesis/Diagrams;" (.ref d1)) (F2 : Fld Z h0 x "com/example/orbweaver/orbweaver/synthesis/Valuations" "node" "I" (.int n1)) (G1 : Fld Z h0 y "com/example/orbweaver/orbweaver/synthesis/Valuations" "diagrams" "Lcom/example/orbweaver/orbweaver/synthesis/Diagrams;" (.ref d2)) (G2 : Fld Z h0 y "com/example/orbweaver/orbweaver/synthesis/Valuations" "node" "I" (.int n2)) {r : Int32} (hr : r = if d1 = d2 ∧ n1 = n2 then 1 else 0) : own_Met l Z ⟨"com/example/orbweaver/orbweaver/synthesis/Valuations", "equals", "(Ljava/lang/Object;)Z"⟩ prog_96_method_12_code 3 (some .boolean) [] ({ frames := 0, cells := 0, slots := 0, locals := 0 } : Room) #[(.ref x), (.ref y)] h0 n0 (fun v h => v = some (.int r) ∧ h = h0) := by
  refine own_body own_pn_Valuations ?_
  intro p e s m below meth c T0 X0 hx hby hml hown hnm hZ e0 hret hlk
  have N0 := Fr.nil n0
  refine own_cast (own_ef_eqv m x y) ?_
  refine own_aloadN X0 hx (hb hby d_eqv_0) rfl rfl 1 rfl ?_
  refine own_instY X0 hx hZ hown (own_w77 hw) e0 (Ins.self E0) (hb hby d_eqv_1) 4 rfl (fun T1 X1 e1 => ?_)
  refine own_ifcF X1 hx (hb hby d_eqv_4) (feq (by decide)).1 7 rfl ?_
  refine own_aloadN X1 hx (hb hby d_eqv_7) rfl rfl 8 rfl ?_
  refine own_castY X1 hx hZ hown (own_w77 hw) e1 (Ins.self E0) (hb hby d_eqv_8) 11 rfl (fun T2 X2 e2 => ?_)
  refine own_astoreN X2 hx (#[.val (.ref x), .val (.ref y), .val (.ref y)]) (hb hby d_eqv_11) rfl rfl 12 rfl ?_
  refine own_aloadN X2 hx (hb hby d_eqv_12) rfl rfl 13 rfl ?_
  refine own_getF X2 hx hZ hown (own_w61 hw) e2 F1 (hb hby d_eqv_13) 16 rfl (fun T3 X3 e3 => ?_)
  refine own_aloadN X3 hx (hb hby d_eqv_16) rfl rfl 17 rfl ?_
  refine own_getF X3 hx hZ hown (own_w61 hw) e3 G1 (hb hby d_eqv_17) 20 rfl (fun T4 X4 e4 => ?_)
  by_cases hd : d1 = d2
  · refine own_acmpF X4 hx (hb hby d_eqv_20) (by simp [if_acmp.holds, hd]) 23 rfl ?_
    refine own_aloadN X4 hx (hb hby d_eqv_23) rfl rfl 24 rfl ?_
    refine own_getF X4 hx hZ hown (own_w63 hw) e4 F2 (hb hby d_eqv_24) 27 rfl (fun T5 X5 e5 => ?_)
    refine own_aloadN X5 hx (hb hby d_eqv_27) rfl rfl 28 rfl ?_
    refine own_getF X5 hx hZ hown (own_w63 hw) e5 G2 (hb hby d_eqv_28) 31 rfl (fun T6 X6 e6 => ?_)
    by_cases hc7 : n1 = n2
    · refine own_icmpF X6 hx (hb hby d_eqv_31) (teq hc7).2 34 rfl ?_
      refine own_iconst X6 hx (z := (1 : Int32)) (hb hby d_eqv_34) rfl 35 rfl ?_
      refine own_goto X6 hx (hb hby d_eqv_35) 39 (by decide) (by decide) ?_
      exact own_retN X6 hx hret (Or.inl rfl) hlk (hb hby d_eqv_39) (by decide) (by decide) N0 e6 ⟨congrArg (fun z => some (Value.int z)) (hr.trans ((if_pos ⟨hd, hc7⟩))).symm, rfl⟩
    · refine own_icmpT X6 hx (hb hby d_eqv_31) (feq hc7).2 38 (by decide) (by decide) ?_
      refine own_iconst X6 hx (z := (0 : Int32)) (hb hby d_eqv_38) rfl 39 rfl ?_
      exact own_retN X6 hx hret (Or.inl rfl) hlk (hb hby d_eqv_39) (by decide) (by decide) N0 e6 ⟨congrArg (fun z => some (Value.int z)) (hr.trans ((if_neg fun q => hc7 q.2))).symm, rfl⟩
  · refine own_acmpT X4 hx (hb hby d_eqv_20) (by simp [if_acmp.holds, hd]) 38 (by decide) (by decide) ?_
    refine own_iconst X4 hx (z := (0 : Int32)) (hb hby d_eqv_38) rfl 39 rfl ?_
    exact own_retN X4 hx hret (Or.inl rfl) hlk (hb hby d_eqv_39) (by decide) (by decide) N0 e4 ⟨congrArg (fun z => some (Value.int z)) (hr.trans ((if_neg fun q => hd q.1))).symm, rfl⟩
theorem d_ninit_0 : decode jdk_18_method_1_code 0 = .ok (.aload_n 0, 1) := by decide +kernel
theorem d_ninit_1 : decode jdk_18_method_1_code 1 = .ok (.invokespecial 1, 3) := by decide +kernel
theorem d_ninit_4 : decode jdk_18_method_1_code 4 = .ok (.return_, 1) := by decide +kernel
theorem own_ef_ninit (m : MethodId) (x : Addr) : entryFrame m #[(.ref x)] 1 = mkF m 0 #[.val (.ref x)] [] := by first | (simp [entryFrame, mkF, argsToLocals, Value.category]; done) | rfl
set_option maxRecDepth 65536 in
set_option maxHeartbeats 40000000 in
theorem own_m_ninit (l : Launch) (Z : State) (a0 : Array Value) (hw : ∀ d ∈ tables_1, d.before a0 Z = true) (h0 : Heap) (n0 : Nat) {x : Addr} : own_Met l Z ⟨"java/lang/Number", "<init>", "()V"⟩ jdk_18_method_1_code 1 none [] ({ frames := 1, cells := 0, slots := 0, locals := 12 } : Room) #[(.ref x)] h0 n0 (fun v h => v = none ∧ h = h0) := by
  refine own_body own_pn_Number ?_
  intro p e s m below meth c T0 X0 hx hby hml hown hnm hZ e0 hret hlk
  have N0 := Fr.nil n0
  refine own_cast (own_ef_ninit m x) ?_
  refine own_aloadN X0 hx (hb hby d_ninit_0) rfl rfl 1 rfl ?_
  refine own_initO X0 hx hZ hown (own_w95 hw) (own_w10 hw) (own_w11 hw) e0 (by rw [hml]; rfl) (hb hby d_ninit_1) 0 (by decide) (Nat.le_of_eq rfl) (by decide) 4 rfl (fun T1 X1 e1 => ?_)
  exact own_retV X1 hx hret hlk (hb hby d_ninit_4) (by decide) (by decide) N0 e1 ⟨rfl, rfl⟩
theorem d_iinit_0 : decode jdk_33_method_23_code 0 = .ok (.aload_n 0, 1) := by decide +kernel
theorem d_iinit_1 : decode jdk_33_method_23_code 1 = .ok (.invokespecial 202, 3) := by decide +kernel
theorem d_iinit_4 : decode jdk_33_method_23_code 4 = .ok (.aload_n 0, 1) := by decide +kernel
theorem d_iinit_5 : decode jdk_33_method_23_code 5 = .ok (.iload_n 1, 1) := by decide +kernel
theorem d_iinit_6 : decode jdk_33_method_23_code 6 = .ok (.putfield 205, 3) := by decide +kernel
theorem d_iinit_9 : decode jdk_33_method_23_code 9 = .ok (.return_, 1) := by decide +kernel
theorem own_ef_iinit (m : MethodId) (x : Addr) (p1 : Int32) : entryFrame m #[(.ref x), (.int p1)] 2 = mkF m 0 #[.val (.ref x), .val (.int p1)] [] := by first | (simp [entryFrame, mkF, argsToLocals, Value.category]; done) | rfl
set_option maxRecDepth 65536 in
set_option maxHeartbeats 40000000 in
theorem own_m_iinit (l : Launch) (Z : State) (a0 : Array Value) (hw : ∀ d ∈ tables_1, d.before a0 Z = true) (h0 : Heap) (n0 : Nat) {x : Addr} (p1 : Int32) (E0 : Exa Z h0 x "java/lang/Integer") (F1 : Fld Z h0 x "java/lang/Integer" "value" "I" (.int 0)) (gn_x : n0 ≤ x) : own_Met l Z ⟨"java/lang/Integer", "<init>", "(I)V"⟩ jdk_33_method_23_code 2 none [] ({ frames := 2, cells := 0, slots := 0, locals := 24 } : Room) #[(.ref x), (.int p1)] h0 n0 (fun v h => v = none ∧ Keep h0 h [x]) := by
  refine own_body own_pn_Integer ?_
  intro p e s m below meth c T0 X0 hx hby hml hown hnm hZ e0 hret hlk
  have N0 := Fr.nil n0
  have K0 : Keep h0 h0 [x] := Keep.refl _ _
  refine own_cast (own_ef_iinit m x p1) ?_
  refine own_aloadN X0 hx (hb hby d_iinit_0) rfl rfl 1 rfl ?_
  refine own_callI X0 hx hZ hown rfl (own_w89 hw) (own_w90 hw) (own_w93 hw) (own_w94 hw) (by decide) 0 (own_m_ninit l Z a0 hw _ n0) e0 (by rw [hml]; rfl) x [] [] rfl (lenOf own_pd_3 rfl) rfl (Nat.le_of_eq rfl) (by decide) (by decide) (by decide) (by decide) (hb hby d_iinit_1) N0 4 rfl (fun v1 T1 l1 X1 N1 hP1 => ?_)
  obtain ⟨rfl, e1⟩ := hP1
  show own_G p e below _ (T1.setTop (mkF m 4 #[.val (.ref x), .val (.int p1)] []))
  refine own_aloadN X1 hx (hb hby d_iinit_4) rfl rfl 5 rfl ?_
  refine own_iloadN X1 hx (hb hby d_iinit_5) rfl 6 rfl ?_
  refine own_putF X1 hx hZ hown (own_w96 hw) e1 F1 E0 (Or.inr ⟨(own_w97 hw), rfl, hnm⟩) (own_w84 hw) (ty := .int) (by decide) rfl rfl (hb hby d_iinit_6) N1 gn_x 9 rfl (fun T2 h2 l2 X2 N2 e2 W2 => ?_)
  have E0_2 := E0.wr W2
  have K0_2 := K0.wr W2 (Or.inl (List.mem_of_getElem? (i := 0) rfl))
  have F1_2 := F1.same W2
  exact own_retV X2 hx hret hlk (hb hby d_iinit_9) (by decide) (by decide) N2 e2 ⟨rfl, K0_2⟩
/-- the table of small boxes -/
def own_Bx (Z : State) (h : Heap) (ca : Addr) : Prop := ∃ c : Cell, Arr Z h ca c (.object "java/lang/Integer") ∧ c.slots.size = 256 ∧ ∀ j, j < 256 → ∃ b, c.slots[j]? = some (.ref b) ∧ Exa Z h b "java/lang/Integer"
theorem own_Bx.ext {Z : State} {h h' : Heap} {ca : Addr} (B : own_Bx Z h ca) (E : Ext h h') : own_Bx Z h' ca := by
  obtain ⟨c, A, S, H⟩ := B
  exact ⟨c, A.ext E, S, fun j hj => by obtain ⟨b, q1, q2⟩ := H j hj; exact ⟨b, q1, q2.ext E⟩⟩
theorem own_ij {p1 : Int32} (h1 : ¬ p1 < (-128 : Int32)) (h2 : ¬ (127 : Int32) < p1) : ¬ (p1 + (128 : Int32)) < 0 ∧ (p1 + (128 : Int32)).toNatClampNeg < 256 := by
  rw [Int32.lt_iff_toInt_lt] at h1 h2
  have e1 : (-128 : Int32).toInt = -128 := rfl
  have e2 : (127 : Int32).toInt = 127 := rfl
  have e : (p1 + (128 : Int32)).toInt = p1.toInt + 128 := by
    rw [Int32.toInt_add, show (128 : Int32).toInt = 128 from rfl]
    exact Int.bmod_eq_of_le (by omega) (by omega)
  constructor
  · rw [Int32.lt_iff_toInt_lt, e, show (0 : Int32).toInt = 0 from rfl]; omega
  · rw [Int32.toNatClampNeg, e]; omega
theorem d_ival_0 : decode jdk_33_method_22_code 0 = .ok (.iload_n 0, 1) := by decide +kernel
theorem d_ival_1 : decode jdk_33_method_22_code 1 = .ok (.bipush (-128), 2) := by decide +kernel
theorem d_ival_3 : decode jdk_33_method_22_code 3 = .ok (.if_icmp .lt 20, 3) := by decide +kernel
theorem d_ival_6 : decode jdk_33_method_22_code 6 = .ok (.iload_n 0, 1) := by decide +kernel
theorem d_ival_7 : decode jdk_33_method_22_code 7 = .ok (.getstatic 191, 3) := by decide +kernel
theorem d_ival_10 : decode jdk_33_method_22_code 10 = .ok (.if_icmp .gt 13, 3) := by decide +kernel
theorem d_ival_13 : decode jdk_33_method_22_code 13 = .ok (.getstatic 195, 3) := by decide +kernel
theorem d_ival_16 : decode jdk_33_method_22_code 16 = .ok (.iload_n 0, 1) := by decide +kernel
theorem d_ival_17 : decode jdk_33_method_22_code 17 = .ok (.sipush 128, 3) := by decide +kernel
theorem d_ival_20 : decode jdk_33_method_22_code 20 = .ok (.iadd, 1) := by decide +kernel
theorem d_ival_21 : decode jdk_33_method_22_code 21 = .ok (.aaload, 1) := by decide +kernel
theorem d_ival_22 : decode jdk_33_method_22_code 22 = .ok (.areturn, 1) := by decide +kernel
theorem d_ival_23 : decode jdk_33_method_22_code 23 = .ok (.new 1, 3) := by decide +kernel
theorem d_ival_26 : decode jdk_33_method_22_code 26 = .ok (.dup, 1) := by decide +kernel
theorem d_ival_27 : decode jdk_33_method_22_code 27 = .ok (.iload_n 0, 1) := by decide +kernel
theorem d_ival_28 : decode jdk_33_method_22_code 28 = .ok (.invokespecial 199, 3) := by decide +kernel
theorem d_ival_31 : decode jdk_33_method_22_code 31 = .ok (.areturn, 1) := by decide +kernel
theorem own_ef_ival (m : MethodId) (p1 : Int32) : entryFrame m #[(.int p1)] 1 = mkF m 0 #[.val (.int p1)] [] := by first | (simp [entryFrame, mkF, argsToLocals, Value.category]; done) | rfl
set_option maxRecDepth 65536 in
set_option maxHeartbeats 40000000 in
theorem own_m_ival (l : Launch) (Z : State) (a0 : Array Value) (hw : ∀ d ∈ tables_1, d.before a0 Z = true) (h0 : Heap) (n0 : Nat) {ca : Addr} (p1 : Int32) (Z0 : n0 ≤ h0.size) (SH : Sta Z h0 "java/lang/Integer$IntegerCache" "high" "I" (.int 127)) (SC : Sta Z h0 "java/lang/Integer$IntegerCache" "cache" "[Ljava/lang/Integer;" (.ref ca)) (BX : own_Bx Z h0 ca) : own_Met l Z ⟨"java/lang/Integer", "valueOf", "(I)Ljava/lang/Integer;"⟩ jdk_33_method_22_code 1 (some (.object "java/lang/Integer")) [] ({ frames := 3, cells := 1, slots := 1, locals := 38 } : Room) #[(.int p1)] h0 n0 (fun v h => ∃ b, v = some (.ref b) ∧ Exa Z h b "java/lang/Integer" ∧ Keep h0 h []) := by
  refine own_body own_pn_Integer ?_
  intro p e s m below meth c T0 X0 hx hby hml hown hnm hZ e0 hret hlk
  have N0 := Fr.nil n0
  have K0 : Keep h0 h0 [] := Keep.refl _ _
  refine own_cast (own_ef_ival m p1) ?_
  refine own_iloadN X0 hx (hb hby d_ival_0) rfl 1 rfl ?_
  refine own_bipush X0 hx (z := (-128 : Int32)) (hb hby d_ival_1) rfl 3 rfl ?_
  by_cases hc1 : p1 < (-128 : Int32)
  · refine own_icmpT X0 hx (hb hby d_ival_3) (tlt hc1).1 23 (by decide) (by decide) ?_
    refine own_newO X0 hx hZ hown (own_w83 hw) (own_w84 hw) (own_w72 hw) e0 (hb hby d_ival_23) (by decide) (by decide) 26 rfl (fun T2 h2 b2 g2 X2 e2 E2 B2 D2 => ?_)
    have gn_b2 : n0 ≤ b2 := Nat.le_trans Z0 (Nat.le_of_eq g2.symm)
    have sz_b2 : h0.size ≤ b2 := Nat.le_trans K0.1 (Nat.le_of_eq g2.symm)
    have Z0_2 := Nat.le_trans Z0 E2.1
    have K0_2 := K0.ext E2
    have F_value_b2_2 : Fld Z h2 b2 "java/lang/Integer" "value" "I" (.int (0 : Int32)) := D2 (Or.inr (own_w97 hw)) (ty := .int) (by decide)
    refine own_dup X2 hx (hb hby d_ival_26) rfl 27 rfl ?_
    refine own_iloadN X2 hx (hb hby d_ival_27) rfl 28 rfl ?_
    refine own_callI X2 hx hZ hown rfl (own_w85 hw) (own_w86 hw) (own_w72 hw) (own_w88 hw) (by decide) 1 (own_m_iinit l Z a0 hw _ n0 p1 B2 F_value_b2_2 gn_b2) e2 (by rw [hml]; rfl) b2 [(.int p1)] [(.ref b2)] rfl (lenOf own_pd_4 rfl) rfl (Nat.le_of_eq rfl) (by decide) (by decide) (by decide) (by decide) (hb hby d_ival_28) N0 31 rfl (fun v3 T3 l3 X3 N3 hP3 => ?_)
    obtain ⟨rfl, K3'⟩ := hP3
    have Z0_3 := Nat.le_trans Z0_2 K3'.1
    have K0_3 := K0_2.trans K3' (allS (Or.inr sz_b2) all0)
    have B2_3 := B2.keep K3'
    show own_G p e below _ (T3.setTop (mkF m 31 #[.val (.int p1)] [(.ref b2)]))
    exact own_retA X3 hx hret rfl rfl rfl hlk (hb hby d_ival_31) (by decide) (by decide) N3 rfl ⟨_, rfl, B2_3, K0_3⟩
  · refine own_icmpF X0 hx (hb hby d_ival_3) (flt hc1).1 6 rfl ?_
    refine own_iloadN X0 hx (hb hby d_ival_6) rfl 7 rfl ?_
    refine own_getS X0 hx hZ hown (own_w74 hw) e0 SH (hb hby d_ival_7) 10 rfl (fun T4 X4 e4 => ?_)
    by_cases hc5 : (127 : Int32) < p1
    · refine own_icmpT X4 hx (hb hby d_ival_10) (tlt hc5).2.2.1 23 (by decide) (by decide) ?_
      refine own_newO X4 hx hZ hown (own_w83 hw) (own_w84 hw) (own_w72 hw) e4 (hb hby d_ival_23) (by decide) (by decide) 26 rfl (fun T6 h6 b6 g6 X6 e6 E6 B6 D6 => ?_)
      have gn_b6 : n0 ≤ b6 := Nat.le_trans Z0 (Nat.le_of_eq g6.symm)
      have sz_b6 : h0.size ≤ b6 := Nat.le_trans K0.1 (Nat.le_of_eq g6.symm)
      have Z0_6 := Nat.le_trans Z0 E6.1
      have K0_6 := K0.ext E6
      have F_value_b6_6 : Fld Z h6 b6 "java/lang/Integer" "value" "I" (.int (0 : Int32)) := D6 (Or.inr (own_w97 hw)) (ty := .int) (by decide)
      refine own_dup X6 hx (hb hby d_ival_26) rfl 27 rfl ?_
      refine own_iloadN X6 hx (hb hby d_ival_27) rfl 28 rfl ?_
      refine own_callI X6 hx hZ hown rfl (own_w85 hw) (own_w86 hw) (own_w72 hw) (own_w88 hw) (by decide) 1 (own_m_iinit l Z a0 hw _ n0 p1 B6 F_value_b6_6 gn_b6) e6 (by rw [hml]; rfl) b6 [(.int p1)] [(.ref b6)] rfl (lenOf own_pd_4 rfl) rfl (Nat.le_of_eq rfl) (by decide) (by decide) (by decide) (by decide) (hb hby d_ival_28) N0 31 rfl (fun v7 T7 l7 X7 N7 hP7 => ?_)
      obtain ⟨rfl, K7'⟩ := hP7
      have Z0_7 := Nat.le_trans Z0_6 K7'.1
      have K0_7 := K0_6.trans K7' (allS (Or.inr sz_b6) all0)
      have B6_7 := B6.keep K7'
      show own_G p e below _ (T7.setTop (mkF m 31 #[.val (.int p1)] [(.ref b6)]))
      exact own_retA X7 hx hret rfl rfl rfl hlk (hb hby d_ival_31) (by decide) (by decide) N7 rfl ⟨_, rfl, B6_7, K0_7⟩
    · refine own_icmpF X4 hx (hb hby d_ival_10) (flt hc5).2.2.1 13 rfl ?_
      refine own_getS X4 hx hZ hown (own_w76 hw) e4 SC (hb hby d_ival_13) 16 rfl (fun T8 X8 e8 => ?_)
      refine own_iloadN X8 hx (hb hby d_ival_16) rfl 17 rfl ?_
      refine own_sipush X8 hx (z := (128 : Int32)) (hb hby d_ival_17) rfl 20 rfl ?_
      refine own_iadd X8 hx (hb hby d_ival_20) 21 rfl ?_
      obtain ⟨cl, A, S, H⟩ := BX
      obtain ⟨b, q1, q2⟩ := H _ (own_ij hc1 hc5).2
      refine own_aaload X8 hx hZ e8 A (own_nin S (own_ij hc1 hc5)) q1 (hb hby d_ival_21) 22 rfl ?_
      exact own_retA X8 hx hret rfl rfl rfl hlk (hb hby d_ival_22) (by decide) (by decide) N0 e8 ⟨_, rfl, q2, K0⟩
theorem own_root {Z : State} {a0 : Array Value} {O K : String} {n : Nat} (w : (Cond.noSuperclass O).before a0 Z = true) (wk : (Cond.instantiable K n).before a0 Z = true) (hn : O ≠ K) : NS Z O K := by
  obtain ⟨c, k, h1, h2, h3, -, -⟩ := Cond.noSuperclass_spec w
  obtain ⟨t, kt, g1, -⟩ := Cond.instantiable_spec wk
  have ne := ids_ne h1 g1 hn
  refine ⟨c, t, h1, g1, fun fuel => ?_⟩
  cases fuel with
  | zero => rfl
  | succ f => simp [Vm.isSubclassAux, ne, h2, h3]
theorem own_notins {Z : State} {a0 : Array Value} {A S K : String} {n : Nat} (w : (Cond.superclass A S).before a0 Z = true) (wk : (Cond.instantiable K n).before a0 Z = true) (N : NS Z A K) (hn : A ≠ K) : ∃ c t, Z.vm.findClass A = some c ∧ Z.vm.findClass K = some t ∧ Z.vm.assignable c t = false := by
  obtain ⟨c, t, h0, g0, n3⟩ := N
  obtain ⟨p, k, kp, h1, h2, h3, h4, h5, -, h7⟩ := Cond.superclass_spec h0 w
  obtain ⟨t', kt, g1, g2, g5, g7, -⟩ := Cond.instantiable_spec wk
  cases g0.symm.trans g1
  have ne := ids_ne h0 g0 hn
  have gi : kt.isInterface = false := by
    simp only [Bool.or_eq_false_iff] at g7
    exact g7.1
  refine ⟨c, t, h0, g0, ?_⟩
  show Z.vm.assignableAux (255 + 1) c t = false
  simp [Vm.assignableAux, ne, h2, g2, h5, g5, gi, Vm.isSubclass, n3]
theorem own_shl (z : Int32) : (1 : Int32) <<< (z &&& 31) ≠ 0 := by
  have h : (z &&& 31).toBitVec.toNat ≤ 31 := by
    simp only [Int32.toBitVec_and, BitVec.toNat_and]
    exact Nat.and_le_right
  have q : (z &&& 31) = Int32.ofBitVec (BitVec.ofNat 32 (z &&& 31).toBitVec.toNat) := by
    apply Int32.toBitVec_inj.mp
    show _ = BitVec.ofNat 32 _
    rw [BitVec.ofNat_toNat]; simp
  have all : ∀ n : Nat, n < 32 → (1 : Int32) <<< (Int32.ofBitVec (BitVec.ofNat 32 n)) ≠ 0 := by decide +kernel
  rw [q]
  exact all _ (by omega)
theorem own_xor (a b : Int32) (h : b ≠ 0) : a ^^^ b ≠ a := fun q => h (by
  have : a ^^^ (a ^^^ b) = a ^^^ a := by rw [q]
  rw [← Int32.xor_assoc, Int32.xor_self, Int32.zero_xor] at this
  exact this)
theorem own_ef_law (m : MethodId) (p1 : Int32) (p2 : Int32) (p3 : Int32) : entryFrame m #[(.int p1), (.int p2), (.int p3)] maxLocals = mkF m 0 #[.val (.int p1), .val (.int p2), .val (.int p3), .unset, .unset, .unset, .unset, .unset, .unset, .unset, .unset, .unset] [] := by first | (simp [entryFrame, mkF, argsToLocals, Value.category, maxLocals]; done) | rfl
set_option maxRecDepth 65536 in
set_option maxHeartbeats 40000000 in
theorem own_m_law (l : Launch) (Z : State) (a0 : Array Value) (hw : ∀ d ∈ tables_1, d.before a0 Z = true) (h0 : Heap) (n0 : Nat) (Z0 : n0 ≤ h0.size) (O0 : Old Z n0 h0) {ca : Addr} (SH : Sta Z Z.heap "java/lang/Integer$IntegerCache" "high" "I" (.int 127)) (SC : Sta Z Z.heap "java/lang/Integer$IntegerCache" "cache" "[Ljava/lang/Integer;" (.ref ca)) (BX : own_Bx Z Z.heap ca) (p1 p2 p3 : Int32) : own_Met l Z x code maxLocals ret tables_1 room_1 #[.int p1, .int p2, .int p3] h0 n0 (fun v h => v = some (.int 1)) := by
  refine own_body own_pn_ValuationsEqualsPinLaw ?_
  intro p e s m below meth c T0 X0 hx hby hml hown hnm hZ e0 hret hlk
  have N0 := Fr.nil n0
  refine own_cast (own_ef_law m p1 p2 p3) ?_
  refine own_newO X0 hx hZ hown (own_w0 hw) (own_w1 hw) (own_w2 hw) e0 (hb hby at_0) (by decide) (by decide) 3 rfl (fun T1 h1 d g1 X1 e1 E1 B1 D1 => ?_)
  have gn_d : n0 ≤ d := Nat.le_trans Z0 (Nat.le_of_eq g1.symm)
  have Z0_1 := Nat.le_trans Z0 E1.1
  have O0_1 := O0.ext E1
  have F_logic_d_1 : Fld Z h1 d "com/example/orbweaver/orbweaver/synthesis/Diagrams" "logic" "Lcom/example/orbweaver/orbweaver/spec/Logic;" .null := D1 (Or.inr (own_w22 hw)) (ty := (.object "com/example/orbweaver/orbweaver/spec/Logic")) (by decide)
  have F_sets_d_1 : Fld Z h1 d "com/example/orbweaver/orbweaver/synthesis/Diagrams" "sets" "[Lcom/example/orbweaver/orbweaver/synthesis/Valuations;" .null := D1 (Or.inl (own_w26 hw)) (ty := (.array (.object "com/example/orbweaver/orbweaver/synthesis/Valuations"))) (by decide)
  have F_work_d_1 : Fld Z h1 d "com/example/orbweaver/orbweaver/synthesis/Diagrams" "work" "[I" .null := D1 (Or.inl (own_w29 hw)) (ty := (.array .int)) (by decide)
  have F_results_d_1 : Fld Z h1 d "com/example/orbweaver/orbweaver/synthesis/Diagrams" "results" "[I" .null := D1 (Or.inl (own_w31 hw)) (ty := (.array .int)) (by decide)
  have F_variables_d_1 : Fld Z h1 d "com/example/orbweaver/orbweaver/synthesis/Diagrams" "variables" "I" (.int (0 : Int32)) := D1 (Or.inr (own_w33 hw)) (ty := .int) (by decide)
  have F_terms_d_1 : Fld Z h1 d "com/example/orbweaver/orbweaver/synthesis/Diagrams" "terms" "I" (.int (0 : Int32)) := D1 (Or.inr (own_w35 hw)) (ty := .int) (by decide)
  have F_limit_d_1 : Fld Z h1 d "com/example/orbweaver/orbweaver/synthesis/Diagrams" "limit" "I" (.int (0 : Int32)) := D1 (Or.inl (own_w37 hw)) (ty := .int) (by decide)
  have F_level_d_1 : Fld Z h1 d "com/example/orbweaver/orbweaver/synthesis/Diagrams" "level" "[I" .null := D1 (Or.inl (own_w39 hw)) (ty := (.array .int)) (by decide)
  have F_low_d_1 : Fld Z h1 d "com/example/orbweaver/orbweaver/synthesis/Diagrams" "low" "[I" .null := D1 (Or.inl (own_w41 hw)) (ty := (.array .int)) (by decide)
  have F_high_d_1 : Fld Z h1 d "com/example/orbweaver/orbweaver/synthesis/Diagrams" "high" "[I" .null := D1 (Or.inl (own_w43 hw)) (ty := (.array .int)) (by decide)
  have F_size_d_1 : Fld Z h1 d "com/example/orbweaver/orbweaver/synthesis/Diagrams" "size" "I" (.int (0 : Int32)) := D1 (Or.inl (own_w45 hw)) (ty := .int) (by decide)
  have F_unique_d_1 : Fld Z h1 d "com/example/orbweaver/orbweaver/synthesis/Diagrams" "unique" "[I" .null := D1 (Or.inl (own_w47 hw)) (ty := (.array .int)) (by decide)
  have F_cache_d_1 : Fld Z h1 d "com/example/orbweaver/orbweaver/synthesis/Diagrams" "cache" "[I" .null := D1 (Or.inl (own_w49 hw)) (ty := (.array .int)) (by decide)
  refine own_dup X1 hx (hb hby at_3) rfl 4 rfl ?_
  refine own_iconst X1 hx (z := (1 : Int32)) (hb hby at_4) rfl 5 rfl ?_
  refine own_iconst X1 hx (z := (2 : Int32)) (hb hby at_5) rfl 6 rfl ?_
  refine own_callI X1 hx hZ hown rfl (own_w3 hw) (own_w4 hw) (own_w2 hw) (own_w5 hw) (by decide) 1 (own_m_dinit2 l Z a0 hw _ n0 (1 : Int32) (2 : Int32) B1 F_logic_d_1 F_sets_d_1 F_work_d_1 F_results_d_1 F_variables_d_1 F_terms_d_1 F_limit_d_1 F_level_d_1 F_low_d_1 F_high_d_1 F_size_d_1 F_unique_d_1 F_cache_d_1 gn_d) e1 (by rw [hml]; rfl) d [(.int (1 : Int32)), (.int (2 : Int32))] [(.ref d)] rfl (lenOf own_pd_5 rfl) rfl (Nat.le_of_eq rfl) (by decide) (by decide) (by decide) (by decide) (hb hby at_6) N0 9 rfl (fun v2 T2 l2 X2 N2 hP2 => ?_)
  obtain ⟨rfl, K2'⟩ := hP2
  have Z0_2 := Nat.le_trans Z0_1 K2'.1
  have O0_2 := O0_1.keep K2' (allS gn_d all0)
  have B1_2 := B1.keep K2'
  show own_G p e below _ (T2.setTop (mkF m 9 #[.val (.int p1), .val (.int p2), .val (.int p3), .unset, .unset, .unset, .unset, .unset, .unset, .unset, .unset, .unset] [(.ref d)]))
  refine own_astoreN X2 hx (#[.val (.int p1), .val (.int p2), .val (.int p3), .val (.ref d), .unset, .unset, .unset, .unset, .unset, .unset, .unset, .unset]) (hb hby at_9) rfl rfl 10 rfl ?_
  refine own_newO X2 hx hZ hown (own_w0 hw) (own_w1 hw) (own_w2 hw) rfl (hb hby at_10) (by decide) (by decide) 13 rfl (fun T3 h3 ee g3 X3 e3 E3 B3 D3 => ?_)
  have o_d_ee : d < ee := Nat.lt_of_lt_of_eq B1_2.lt g3.symm
  have gn_ee : n0 ≤ ee := Nat.le_trans Z0_2 (Nat.le_of_eq g3.symm)
  have Z0_3 := Nat.le_trans Z0_2 E3.1
  have O0_3 := O0_2.ext E3
  have B1_3 := B1_2.ext E3
  have F_logic_ee_3 : Fld Z h3 ee "com/example/orbweaver/orbweaver/synthesis/Diagrams" "logic" "Lcom/example/orbweaver/orbweaver/spec/Logic;" .null := D3 (Or.inr (own_w22 hw)) (ty := (.object "com/example/orbweaver/orbweaver/spec/Logic")) (by decide)
  have F_sets_ee_3 : Fld Z h3 ee "com/example/orbweaver/orbweaver/synthesis/Diagrams" "sets" "[Lcom/example/orbweaver/orbweaver/synthesis/Valuations;" .null := D3 (Or.inl (own_w26 hw)) (ty := (.array (.object "com/example/orbweaver/orbweaver/synthesis/Valuations"))) (by decide)
  have F_work_ee_3 : Fld Z h3 ee "com/example/orbweaver/orbweaver/synthesis/Diagrams" "work" "[I" .null := D3 (Or.inl (own_w29 hw)) (ty := (.array .int)) (by decide)
  have F_results_ee_3 : Fld Z h3 ee "com/example/orbweaver/orbweaver/synthesis/Diagrams" "results" "[I" .null := D3 (Or.inl (own_w31 hw)) (ty := (.array .int)) (by decide)
  have F_variables_ee_3 : Fld Z h3 ee "com/example/orbweaver/orbweaver/synthesis/Diagrams" "variables" "I" (.int (0 : Int32)) := D3 (Or.inr (own_w33 hw)) (ty := .int) (by decide)
  have F_terms_ee_3 : Fld Z h3 ee "com/example/orbweaver/orbweaver/synthesis/Diagrams" "terms" "I" (.int (0 : Int32)) := D3 (Or.inr (own_w35 hw)) (ty := .int) (by decide)
  have F_limit_ee_3 : Fld Z h3 ee "com/example/orbweaver/orbweaver/synthesis/Diagrams" "limit" "I" (.int (0 : Int32)) := D3 (Or.inl (own_w37 hw)) (ty := .int) (by decide)
  have F_level_ee_3 : Fld Z h3 ee "com/example/orbweaver/orbweaver/synthesis/Diagrams" "level" "[I" .null := D3 (Or.inl (own_w39 hw)) (ty := (.array .int)) (by decide)
  have F_low_ee_3 : Fld Z h3 ee "com/example/orbweaver/orbweaver/synthesis/Diagrams" "low" "[I" .null := D3 (Or.inl (own_w41 hw)) (ty := (.array .int)) (by decide)
  have F_high_ee_3 : Fld Z h3 ee "com/example/orbweaver/orbweaver/synthesis/Diagrams" "high" "[I" .null := D3 (Or.inl (own_w43 hw)) (ty := (.array .int)) (by decide)
  have F_size_ee_3 : Fld Z h3 ee "com/example/orbweaver/orbweaver/synthesis/Diagrams" "size" "I" (.int (0 : Int32)) := D3 (Or.inl (own_w45 hw)) (ty := .int) (by decide)
  have F_unique_ee_3 : Fld Z h3 ee "com/example/orbweaver/orbweaver/synthesis/Diagrams" "unique" "[I" .null := D3 (Or.inl (own_w47 hw)) (ty := (.array .int)) (by decide)
  have F_cache_ee_3 : Fld Z h3 ee "com/example/orbweaver/orbweaver/synthesis/Diagrams" "cache" "[I" .null := D3 (Or.inl (own_w49 hw)) (ty := (.array .int)) (by decide)
  refine own_dup X3 hx (hb hby at_13) rfl 14 rfl ?_
  refine own_iconst X3 hx (z := (1 : Int32)) (hb hby at_14) rfl 15 rfl ?_
  refine own_iconst X3 hx (z := (2 : Int32)) (hb hby at_15) rfl 16 rfl ?_
  refine own_callI X3 hx hZ hown rfl (own_w3 hw) (own_w4 hw) (own_w2 hw) (own_w5 hw) (by decide) 1 (own_m_dinit2 l Z a0 hw _ n0 (1 : Int32) (2 : Int32) B3 F_logic_ee_3 F_sets_ee_3 F_work_ee_3 F_results_ee_3 F_variables_ee_3 F_terms_ee_3 F_limit_ee_3 F_level_ee_3 F_low_ee_3 F_high_ee_3 F_size_ee_3 F_unique_ee_3 F_cache_ee_3 gn_ee) e3 (by rw [hml]; rfl) ee [(.int (1 : Int32)), (.int (2 : Int32))] [(.ref ee)] rfl (lenOf own_pd_5 rfl) rfl (Nat.le_of_eq rfl) (by decide) (by decide) (by decide) (by decide) (hb hby at_16) N2 19 rfl (fun v4 T4 l4 X4 N4 hP4 => ?_)
  obtain ⟨rfl, K4'⟩ := hP4
  have Z0_4 := Nat.le_trans Z0_3 K4'.1
  have O0_4 := O0_3.keep K4' (allS gn_ee all0)
  have B1_4 := B1_3.keep K4'
  have B3_4 := B3.keep K4'
  show own_G p e below _ (T4.setTop (mkF m 19 #[.val (.int p1), .val (.int p2), .val (.int p3), .val (.ref d), .unset, .unset, .unset, .unset, .unset, .unset, .unset, .unset] [(.ref ee)]))
  refine own_astore X4 hx (#[.val (.int p1), .val (.int p2), .val (.int p3), .val (.ref d), .val (.ref ee), .unset, .unset, .unset, .unset, .unset, .unset, .unset]) (hb hby at_19) rfl rfl 21 rfl ?_
  refine own_newO X4 hx hZ hown (own_w54 hw) (own_w55 hw) (own_w56 hw) rfl (hb hby at_21) (by decide) (by decide) 24 rfl (fun T5 h5 x g5 X5 e5 E5 B5 D5 => ?_)
  have o_d_x : d < x := Nat.lt_of_lt_of_eq B1_4.lt g5.symm
  have o_ee_x : ee < x := Nat.lt_of_lt_of_eq B3_4.lt g5.symm
  have gn_x : n0 ≤ x := Nat.le_trans Z0_4 (Nat.le_of_eq g5.symm)
  have Z0_5 := Nat.le_trans Z0_4 E5.1
  have O0_5 := O0_4.ext E5
  have B1_5 := B1_4.ext E5
  have B3_5 := B3_4.ext E5
  have F_diagrams_x_5 : Fld Z h5 x "com/example/orbweaver/orbweaver/synthesis/Valuations" "diagrams" "Lcom/example/orbweaver/orbweaver/synthesis/Diagrams;" .null := D5 (Or.inr (own_w62 hw)) (ty := (.object "com/example/orbweaver/orbweaver/synthesis/Diagrams")) (by decide)
  have F_node_x_5 : Fld Z h5 x "com/example/orbweaver/orbweaver/synthesis/Valuations" "node" "I" (.int (0 : Int32)) := D5 (Or.inr (own_w64 hw)) (ty := .int) (by decide)
  refine own_dup X5 hx (hb hby at_24) rfl 25 rfl ?_
  refine own_aloadN X5 hx (hb hby at_25) rfl rfl 26 rfl ?_
  refine own_iloadN X5 hx (hb hby at_26) rfl 27 rfl ?_
  refine own_callI X5 hx hZ hown rfl (own_w57 hw) (own_w58 hw) (own_w56 hw) (own_w59 hw) (by decide) 1 (own_m_vinit l Z a0 hw _ n0 (d := d) p1 B5 F_diagrams_x_5 F_node_x_5 gn_x) e5 (by rw [hml]; rfl) x [(.ref d), (.int p1)] [(.ref x)] rfl (lenOf own_pd_6 rfl) rfl (Nat.le_of_eq rfl) (by decide) (by decide) (by decide) (by decide) (hb hby at_27) N4 30 rfl (fun v6 T6 l6 X6 N6 hP6 => ?_)
  obtain ⟨rfl, Fd6, Fn6, K6'⟩ := hP6
  have Z0_6 := Nat.le_trans Z0_5 K6'.1
  have O0_6 := O0_5.keep K6' (allS gn_x all0)
  have B1_6 := B1_5.keep K6'
  have B3_6 := B3_5.keep K6'
  have B5_6 := B5.keep K6'
  show own_G p e below _ (T6.setTop (mkF m 30 #[.val (.int p1), .val (.int p2), .val (.int p3), .val (.ref d), .val (.ref ee), .unset, .unset, .unset, .unset, .unset, .unset, .unset] [(.ref x)]))
  refine own_astore X6 hx (#[.val (.int p1), .val (.int p2), .val (.int p3), .val (.ref d), .val (.ref ee), .val (.ref x), .unset, .unset, .unset, .unset, .unset, .unset]) (hb hby at_30) rfl rfl 32 rfl ?_
  refine own_iloadN X6 hx (hb hby at_32) rfl 33 rfl ?_
  refine own_iconst X6 hx (z := (3 : Int32)) (hb hby at_33) rfl 34 rfl ?_
  refine own_ishr X6 hx (hb hby at_34) 35 rfl ?_
  refine own_iconst X6 hx (z := (1 : Int32)) (hb hby at_35) rfl 36 rfl ?_
  refine own_iand X6 hx (hb hby at_36) 37 rfl ?_
  have J7 : ∀ Q', own_G p e below Q' (T6.setTop (mkF m 45 #[.val (.int p1), .val (.int p2), .val (.int p3), .val (.ref d), .val (.ref ee), .val (.ref x), .unset, .unset, .unset, .unset, .unset, .unset] [(.int (if ((p3 >>> ((3 : Int32) &&& 31)) &&& (1 : Int32)) = (0 : Int32) then p1 else p2))])) → own_G p e below Q' (T6.setTop (mkF m 37 #[.val (.int p1), .val (.int p2), .val (.int p3), .val (.ref d), .val (.ref ee), .val (.ref x), .unset, .unset, .unset, .unset, .unset, .unset] [(.int ((p3 >>> ((3 : Int32) &&& 31)) &&& (1 : Int32)))])) := by
    intro Q' r
    by_cases hc7 : ((p3 >>> ((3 : Int32) &&& 31)) &&& (1 : Int32)) = (0 : Int32)
    · rw [if_pos hc7] at r
      refine own_ifcF X6 hx (hb hby at_37) (teq hc7).2 40 rfl ?_
      refine own_iloadN X6 hx (hb hby at_40) rfl 41 rfl ?_
      refine own_goto X6 hx (hb hby at_41) 45 (by decide) (by decide) ?_
      exact r
    · rw [if_neg hc7] at r
      refine own_ifcT X6 hx (hb hby at_37) (feq hc7).2 44 (by decide) (by decide) ?_
      refine own_iloadN X6 hx (hb hby at_44) rfl 45 rfl ?_
      exact r
  refine J7 _ ?_
  generalize (if ((p3 >>> ((3 : Int32) &&& 31)) &&& (1 : Int32)) = (0 : Int32) then p1 else p2) = mm
  refine own_istore X6 hx (#[.val (.int p1), .val (.int p2), .val (.int p3), .val (.ref d), .val (.ref ee), .val (.ref x), .val (.int mm), .unset, .unset, .unset, .unset, .unset]) (hb hby at_45) rfl 47 rfl ?_
  refine own_iloadN X6 hx (hb hby at_47) rfl 48 rfl ?_
  refine own_bipush X6 hx (z := (7 : Int32)) (hb hby at_48) rfl 50 rfl ?_
  refine own_iand X6 hx (hb hby at_50) 51 rfl ?_
  refine own_istore X6 hx (#[.val (.int p1), .val (.int p2), .val (.int p3), .val (.ref d), .val (.ref ee), .val (.ref x), .val (.int mm), .val (.int (p3 &&& (7 : Int32))), .unset, .unset, .unset, .unset]) (hb hby at_51) rfl 53 rfl ?_
  refine own_aconstNull X6 hx (hb hby at_53) 54 rfl ?_
  refine own_astore X6 hx (#[.val (.int p1), .val (.int p2), .val (.int p3), .val (.ref d), .val (.ref ee), .val (.ref x), .val (.int mm), .val (.int (p3 &&& (7 : Int32))), .unset, .unset, .val .null, .unset]) (hb hby at_54) rfl rfl 56 rfl ?_
  refine own_iload X6 hx (hb hby at_56) rfl 58 rfl ?_
  by_cases hc8 : (p3 &&& (7 : Int32)) = (0 : Int32)
  · refine own_ifcF X6 hx (hb hby at_58) (teq hc8).2 61 rfl ?_
    refine own_newO X6 hx hZ hown (own_w54 hw) (own_w55 hw) (own_w56 hw) rfl (hb hby at_61) (by decide) (by decide) 64 rfl (fun T9 h9 y g9 X9 e9 E9 B9 D9 => ?_)
    have o_d_y : d < y := Nat.lt_of_lt_of_eq B1_6.lt g9.symm
    have o_ee_y : ee < y := Nat.lt_of_lt_of_eq B3_6.lt g9.symm
    have o_x_y : x < y := Nat.lt_of_lt_of_eq B5_6.lt g9.symm
    have gn_y : n0 ≤ y := Nat.le_trans Z0_6 (Nat.le_of_eq g9.symm)
    have Z0_9 := Nat.le_trans Z0_6 E9.1
    have O0_9 := O0_6.ext E9
    have B1_9 := B1_6.ext E9
    have B3_9 := B3_6.ext E9
    have B5_9 := B5_6.ext E9
    have Fd6_9 := Fd6.ext E9
    have Fn6_9 := Fn6.ext E9
    have F_diagrams_y_9 : Fld Z h9 y "com/example/orbweaver/orbweaver/synthesis/Valuations" "diagrams" "Lcom/example/orbweaver/orbweaver/synthesis/Diagrams;" .null := D9 (Or.inr (own_w62 hw)) (ty := (.object "com/example/orbweaver/orbweaver/synthesis/Diagrams")) (by decide)
    have F_node_y_9 : Fld Z h9 y "com/example/orbweaver/orbweaver/synthesis/Valuations" "node" "I" (.int (0 : Int32)) := D9 (Or.inr (own_w64 hw)) (ty := .int) (by decide)
    refine own_dup X9 hx (hb hby at_64) rfl 65 rfl ?_
    refine own_aloadN X9 hx (hb hby at_65) rfl rfl 66 rfl ?_
    refine own_iload X9 hx (hb hby at_66) rfl 68 rfl ?_
    refine own_callI X9 hx hZ hown rfl (own_w57 hw) (own_w58 hw) (own_w56 hw) (own_w59 hw) (by decide) 1 (own_m_vinit l Z a0 hw _ n0 (d := d) mm B9 F_diagrams_y_9 F_node_y_9 gn_y) e9 (by rw [hml]; rfl) y [(.ref d), (.int mm)] [(.ref y)] rfl (lenOf own_pd_6 rfl) rfl (Nat.le_of_eq rfl) (by decide) (by decide) (by decide) (by decide) (hb hby at_68) N6 71 rfl (fun v10 T10 l10 X10 N10 hP10 => ?_)
    obtain ⟨rfl, Fd10, Fn10, K10'⟩ := hP10
    have Z0_10 := Nat.le_trans Z0_9 K10'.1
    have O0_10 := O0_9.keep K10' (allS gn_y all0)
    have B1_10 := B1_9.keep K10'
    have B3_10 := B3_9.keep K10'
    have B5_10 := B5_9.keep K10'
    have Fd6_10 := Fd6_9.keep K10' (ninS (Nat.ne_of_lt o_x_y) nin0)
    have Fn6_10 := Fn6_9.keep K10' (ninS (Nat.ne_of_lt o_x_y) nin0)
    have B9_10 := B9.keep K10'
    show own_G p e below _ (T10.setTop (mkF m 71 #[.val (.int p1), .val (.int p2), .val (.int p3), .val (.ref d), .val (.ref ee), .val (.ref x), .val (.int mm), .val (.int (p3 &&& (7 : Int32))), .unset, .unset, .val .null, .unset] [(.ref y)]))
    refine own_astore X10 hx (#[.val (.int p1), .val (.int p2), .val (.int p3), .val (.ref d), .val (.ref ee), .val (.ref x), .val (.int mm), .val (.int (p3 &&& (7 : Int32))), .unset, .unset, .val (.ref y), .unset]) (hb hby at_71) rfl rfl 73 rfl ?_
    refine own_aload X10 hx (hb hby at_73) rfl rfl 75 rfl ?_
    refine own_astore X10 hx (#[.val (.int p1), .val (.int p2), .val (.int p3), .val (.ref d), .val (.ref ee), .val (.ref x), .val (.int mm), .val (.int (p3 &&& (7 : Int32))), .val (.ref y), .unset, .val (.ref y), .unset]) (hb hby at_75) rfl rfl 77 rfl ?_
    refine own_iload X10 hx (hb hby at_77) rfl 79 rfl ?_
    refine own_iloadN X10 hx (hb hby at_79) rfl 80 rfl ?_
    by_cases hc11 : mm = p1
    · refine own_icmpF X10 hx (hb hby at_80) (teq hc11).2 83 rfl ?_
      refine own_iconst X10 hx (z := (1 : Int32)) (hb hby at_83) rfl 84 rfl ?_
      refine own_goto X10 hx (hb hby at_84) 88 (by decide) (by decide) ?_
      refine own_istore X10 hx (#[.val (.int p1), .val (.int p2), .val (.int p3), .val (.ref d), .val (.ref ee), .val (.ref x), .val (.int mm), .val (.int (p3 &&& (7 : Int32))), .val (.ref y), .val (.int (1 : Int32)), .val (.ref y), .unset]) (hb hby at_88) rfl 90 rfl ?_
      refine own_goto X10 hx (hb hby at_90) 234 (by decide) (by decide) ?_
      refine own_aload X10 hx (hb hby at_234) rfl rfl 236 rfl ?_
      refine own_aload X10 hx (hb hby at_236) rfl rfl 238 rfl ?_
      refine own_callV X10 hx hZ hown (own_w65 hw) (own_w66 hw) (own_w68 hw) (own_w67 hw) (own_w56 hw) (own_w69 hw) (by decide) 0 (own_m_eqv l Z a0 hw _ n0 (d1 := d) (d2 := d) (n1 := p1) (n2 := mm) B9_10 Fd6_10 Fn6_10 Fd10 Fn10 (r := (1 : Int32)) (if_pos ⟨rfl, hc11.symm⟩).symm) rfl B5_10 (by rw [hml]; rfl) [(.ref y)] [] rfl (lenOf own_pd_7 rfl) rfl (Nat.le_of_eq rfl) (by decide) (by decide) (by decide) (by decide) (hb hby at_238) N10 241 rfl (fun v12 T12 l12 X12 N12 hP12 => ?_)
      obtain ⟨rfl, e12⟩ := hP12
      show own_G p e below _ (T12.setTop (mkF m 241 #[.val (.int p1), .val (.int p2), .val (.int p3), .val (.ref d), .val (.ref ee), .val (.ref x), .val (.int mm), .val (.int (p3 &&& (7 : Int32))), .val (.ref y), .val (.int (1 : Int32)), .val (.ref y), .unset] [(.int (1 : Int32))]))
      refine own_iload X12 hx (hb hby at_241) rfl 243 rfl ?_
      refine own_icmpF X12 hx (hb hby at_243) (teq (by decide)).2 246 rfl ?_
      refine own_iconst X12 hx (z := (1 : Int32)) (hb hby at_246) rfl 247 rfl ?_
      refine own_goto X12 hx (hb hby at_247) 251 (by decide) (by decide) ?_
      refine own_istore X12 hx (#[.val (.int p1), .val (.int p2), .val (.int p3), .val (.ref d), .val (.ref ee), .val (.ref x), .val (.int mm), .val (.int (p3 &&& (7 : Int32))), .val (.ref y), .val (.int (1 : Int32)), .val (.ref y), .val (.int (1 : Int32))]) (hb hby at_251) rfl 253 rfl ?_
      refine own_aload X12 hx (hb hby at_253) rfl rfl 255 rfl ?_
      refine own_ifnullF X12 hx (hb hby at_255) 258 rfl ?_
      refine own_iload X12 hx (hb hby at_258) rfl 260 rfl ?_
      refine own_ifcF X12 hx (hb hby at_260) (feq (by decide)).1 263 rfl ?_
      refine own_aload X12 hx (hb hby at_263) rfl rfl 265 rfl ?_
      refine own_aload X12 hx (hb hby at_265) rfl rfl 267 rfl ?_
      refine own_callV X12 hx hZ hown (own_w65 hw) (own_w66 hw) (own_w68 hw) (own_w67 hw) (own_w56 hw) (own_w69 hw) (by decide) 0 (own_m_eqv l Z a0 hw _ n0 (d1 := d) (d2 := d) (n1 := mm) (n2 := p1) B5_10 Fd10 Fn10 Fd6_10 Fn6_10 (r := (1 : Int32)) (if_pos ⟨rfl, hc11⟩).symm) e12 B9_10 (by rw [hml]; rfl) [(.ref x)] [] rfl (lenOf own_pd_7 rfl) rfl (Nat.le_of_eq rfl) (by decide) (by decide) (by decide) (by decide) (hb hby at_267) N12 270 rfl (fun v13 T13 l13 X13 N13 hP13 => ?_)
      obtain ⟨rfl, e13⟩ := hP13
      show own_G p e below _ (T13.setTop (mkF m 270 #[.val (.int p1), .val (.int p2), .val (.int p3), .val (.ref d), .val (.ref ee), .val (.ref x), .val (.int mm), .val (.int (p3 &&& (7 : Int32))), .val (.ref y), .val (.int (1 : Int32)), .val (.ref y), .val (.int (1 : Int32))] [(.int (1 : Int32))]))
      refine own_iload X13 hx (hb hby at_270) rfl 272 rfl ?_
      refine own_icmpF X13 hx (hb hby at_272) (teq (by decide)).2 275 rfl ?_
      refine own_iconst X13 hx (z := (1 : Int32)) (hb hby at_275) rfl 276 rfl ?_
      refine own_goto X13 hx (hb hby at_276) 280 (by decide) (by decide) ?_
      refine own_istore X13 hx (#[.val (.int p1), .val (.int p2), .val (.int p3), .val (.ref d), .val (.ref ee), .val (.ref x), .val (.int mm), .val (.int (p3 &&& (7 : Int32))), .val (.ref y), .val (.int (1 : Int32)), .val (.ref y), .val (.int (1 : Int32))]) (hb hby at_280) rfl 282 rfl ?_
      refine own_iload X13 hx (hb hby at_282) rfl 284 rfl ?_
      exact own_retN X13 hx hret (Or.inl rfl) hlk (hb hby at_284) (by decide) (by decide) N13 e13 rfl
    · refine own_icmpT X10 hx (hb hby at_80) (feq hc11).2 87 (by decide) (by decide) ?_
      refine own_iconst X10 hx (z := (0 : Int32)) (hb hby at_87) rfl 88 rfl ?_
      refine own_istore X10 hx (#[.val (.int p1), .val (.int p2), .val (.int p3), .val (.ref d), .val (.ref ee), .val (.ref x), .val (.int mm), .val (.int (p3 &&& (7 : Int32))), .val (.ref y), .val (.int (0 : Int32)), .val (.ref y), .unset]) (hb hby at_88) rfl 90 rfl ?_
      refine own_goto X10 hx (hb hby at_90) 234 (by decide) (by decide) ?_
      refine own_aload X10 hx (hb hby at_234) rfl rfl 236 rfl ?_
      refine own_aload X10 hx (hb hby at_236) rfl rfl 238 rfl ?_
      refine own_callV X10 hx hZ hown (own_w65 hw) (own_w66 hw) (own_w68 hw) (own_w67 hw) (own_w56 hw) (own_w69 hw) (by decide) 0 (own_m_eqv l Z a0 hw _ n0 (d1 := d) (d2 := d) (n1 := p1) (n2 := mm) B9_10 Fd6_10 Fn6_10 Fd10 Fn10 (r := (0 : Int32)) (if_neg fun q => hc11 q.2.symm).symm) rfl B5_10 (by rw [hml]; rfl) [(.ref y)] [] rfl (lenOf own_pd_7 rfl) rfl (Nat.le_of_eq rfl) (by decide) (by decide) (by decide) (by decide) (hb hby at_238) N10 241 rfl (fun v14 T14 l14 X14 N14 hP14 => ?_)
      obtain ⟨rfl, e14⟩ := hP14
      show own_G p e below _ (T14.setTop (mkF m 241 #[.val (.int p1), .val (.int p2), .val (.int p3), .val (.ref d), .val (.ref ee), .val (.ref x), .val (.int mm), .val (.int (p3 &&& (7 : Int32))), .val (.ref y), .val (.int (0 : Int32)), .val (.ref y), .unset] [(.int (0 : Int32))]))
      refine own_iload X14 hx (hb hby at_241) rfl 243 rfl ?_
      refine own_icmpF X14 hx (hb hby at_243) (teq (by decide)).2 246 rfl ?_
      refine own_iconst X14 hx (z := (1 : Int32)) (hb hby at_246) rfl 247 rfl ?_
      refine own_goto X14 hx (hb hby at_247) 251 (by decide) (by decide) ?_
      refine own_istore X14 hx (#[.val (.int p1), .val (.int p2), .val (.int p3), .val (.ref d), .val (.ref ee), .val (.ref x), .val (.int mm), .val (.int (p3 &&& (7 : Int32))), .val (.ref y), .val (.int (0 : Int32)), .val (.ref y), .val (.int (1 : Int32))]) (hb hby at_251) rfl 253 rfl ?_
      refine own_aload X14 hx (hb hby at_253) rfl rfl 255 rfl ?_
      refine own_ifnullF X14 hx (hb hby at_255) 258 rfl ?_
      refine own_iload X14 hx (hb hby at_258) rfl 260 rfl ?_
      refine own_ifcF X14 hx (hb hby at_260) (feq (by decide)).1 263 rfl ?_
      refine own_aload X14 hx (hb hby at_263) rfl rfl 265 rfl ?_
      refine own_aload X14 hx (hb hby at_265) rfl rfl 267 rfl ?_
      refine own_callV X14 hx hZ hown (own_w65 hw) (own_w66 hw) (own_w68 hw) (own_w67 hw) (own_w56 hw) (own_w69 hw) (by decide) 0 (own_m_eqv l Z a0 hw _ n0 (d1 := d) (d2 := d) (n1 := mm) (n2 := p1) B5_10 Fd10 Fn10 Fd6_10 Fn6_10 (r := (0 : Int32)) (if_neg fun q => hc11 q.2).symm) e14 B9_10 (by rw [hml]; rfl) [(.ref x)] [] rfl (lenOf own_pd_7 rfl) rfl (Nat.le_of_eq rfl) (by decide) (by decide) (by decide) (by decide) (hb hby at_267) N14 270 rfl (fun v15 T15 l15 X15 N15 hP15 => ?_)
      obtain ⟨rfl, e15⟩ := hP15
      show own_G p e below _ (T15.setTop (mkF m 270 #[.val (.int p1), .val (.int p2), .val (.int p3), .val (.ref d), .val (.ref ee), .val (.ref x), .val (.int mm), .val (.int (p3 &&& (7 : Int32))), .val (.ref y), .val (.int (0 : Int32)), .val (.ref y), .val (.int (1 : Int32))] [(.int (0 : Int32))]))
      refine own_iload X15 hx (hb hby at_270) rfl 272 rfl ?_
      refine own_icmpF X15 hx (hb hby at_272) (teq (by decide)).2 275 rfl ?_
      refine own_iconst X15 hx (z := (1 : Int32)) (hb hby at_275) rfl 276 rfl ?_
      refine own_goto X15 hx (hb hby at_276) 280 (by decide) (by decide) ?_
      refine own_istore X15 hx (#[.val (.int p1), .val (.int p2), .val (.int p3), .val (.ref d), .val (.ref ee), .val (.ref x), .val (.int mm), .val (.int (p3 &&& (7 : Int32))), .val (.ref y), .val (.int (0 : Int32)), .val (.ref y), .val (.int (1 : Int32))]) (hb hby at_280) rfl 282 rfl ?_
      refine own_iload X15 hx (hb hby at_282) rfl 284 rfl ?_
      exact own_retN X15 hx hret (Or.inl rfl) hlk (hb hby at_284) (by decide) (by decide) N15 e15 rfl
  · refine own_ifcT X6 hx (hb hby at_58) (feq hc8).2 93 (by decide) (by decide) ?_
    refine own_iload X6 hx (hb hby at_93) rfl 95 rfl ?_
    refine own_iconst X6 hx (z := (1 : Int32)) (hb hby at_95) rfl 96 rfl ?_
    by_cases hc16 : (p3 &&& (7 : Int32)) = (1 : Int32)
    · refine own_icmpF X6 hx (hb hby at_96) (teq hc16).2 99 rfl ?_
      refine own_newO X6 hx hZ hown (own_w54 hw) (own_w55 hw) (own_w56 hw) rfl (hb hby at_99) (by decide) (by decide) 102 rfl (fun T17 h17 y g17 X17 e17 E17 B17 D17 => ?_)
      have o_d_y : d < y := Nat.lt_of_lt_of_eq B1_6.lt g17.symm
      have o_ee_y : ee < y := Nat.lt_of_lt_of_eq B3_6.lt g17.symm
      have o_x_y : x < y := Nat.lt_of_lt_of_eq B5_6.lt g17.symm
      have gn_y : n0 ≤ y := Nat.le_trans Z0_6 (Nat.le_of_eq g17.symm)
      have Z0_17 := Nat.le_trans Z0_6 E17.1
      have O0_17 := O0_6.ext E17
      have B1_17 := B1_6.ext E17
      have B3_17 := B3_6.ext E17
      have B5_17 := B5_6.ext E17
      have Fd6_17 := Fd6.ext E17
      have Fn6_17 := Fn6.ext E17
      have F_diagrams_y_17 : Fld Z h17 y "com/example/orbweaver/orbweaver/synthesis/Valuations" "diagrams" "Lcom/example/orbweaver/orbweaver/synthesis/Diagrams;" .null := D17 (Or.inr (own_w62 hw)) (ty := (.object "com/example/orbweaver/orbweaver/synthesis/Diagrams")) (by decide)
      have F_node_y_17 : Fld Z h17 y "com/example/orbweaver/orbweaver/synthesis/Valuations" "node" "I" (.int (0 : Int32)) := D17 (Or.inr (own_w64 hw)) (ty := .int) (by decide)
      refine own_dup X17 hx (hb hby at_102) rfl 103 rfl ?_
      refine own_aload X17 hx (hb hby at_103) rfl rfl 105 rfl ?_
      refine own_iload X17 hx (hb hby at_105) rfl 107 rfl ?_
      refine own_callI X17 hx hZ hown rfl (own_w57 hw) (own_w58 hw) (own_w56 hw) (own_w59 hw) (by decide) 1 (own_m_vinit l Z a0 hw _ n0 (d := ee) mm B17 F_diagrams_y_17 F_node_y_17 gn_y) e17 (by rw [hml]; rfl) y [(.ref ee), (.int mm)] [(.ref y)] rfl (lenOf own_pd_6 rfl) rfl (Nat.le_of_eq rfl) (by decide) (by decide) (by decide) (by decide) (hb hby at_107) N6 110 rfl (fun v18 T18 l18 X18 N18 hP18 => ?_)
      obtain ⟨rfl, Fd18, Fn18, K18'⟩ := hP18
      have Z0_18 := Nat.le_trans Z0_17 K18'.1
      have O0_18 := O0_17.keep K18' (allS gn_y all0)
      have B1_18 := B1_17.keep K18'
      have B3_18 := B3_17.keep K18'
      have B5_18 := B5_17.keep K18'
      have Fd6_18 := Fd6_17.keep K18' (ninS (Nat.ne_of_lt o_x_y) nin0)
      have Fn6_18 := Fn6_17.keep K18' (ninS (Nat.ne_of_lt o_x_y) nin0)
      have B17_18 := B17.keep K18'
      show own_G p e below _ (T18.setTop (mkF m 110 #[.val (.int p1), .val (.int p2), .val (.int p3), .val (.ref d), .val (.ref ee), .val (.ref x), .val (.int mm), .val (.int (p3 &&& (7 : Int32))), .unset, .unset, .val .null, .unset] [(.ref y)]))
      refine own_astore X18 hx (#[.val (.int p1), .val (.int p2), .val (.int p3), .val (.ref d), .val (.ref ee), .val (.ref x), .val (.int mm), .val (.int (p3 &&& (7 : Int32))), .unset, .unset, .val (.ref y), .unset]) (hb hby at_110) rfl rfl 112 rfl ?_
      refine own_aload X18 hx (hb hby at_112) rfl rfl 114 rfl ?_
      refine own_astore X18 hx (#[.val (.int p1), .val (.int p2), .val (.int p3), .val (.ref d), .val (.ref ee), .val (.ref x), .val (.int mm), .val (.int (p3 &&& (7 : Int32))), .val (.ref y), .unset, .val (.ref y), .unset]) (hb hby at_114) rfl rfl 116 rfl ?_
      refine own_iconst X18 hx (z := (0 : Int32)) (hb hby at_116) rfl 117 rfl ?_
      refine own_istore X18 hx (#[.val (.int p1), .val (.int p2), .val (.int p3), .val (.ref d), .val (.ref ee), .val (.ref x), .val (.int mm), .val (.int (p3 &&& (7 : Int32))), .val (.ref y), .val (.int (0 : Int32)), .val (.ref y), .unset]) (hb hby at_117) rfl 119 rfl ?_
      refine own_goto X18 hx (hb hby at_119) 234 (by decide) (by decide) ?_
      refine own_aload X18 hx (hb hby at_234) rfl rfl 236 rfl ?_
      refine own_aload X18 hx (hb hby at_236) rfl rfl 238 rfl ?_
      refine own_callV X18 hx hZ hown (own_w65 hw) (own_w66 hw) (own_w68 hw) (own_w67 hw) (own_w56 hw) (own_w69 hw) (by decide) 0 (own_m_eqv l Z a0 hw _ n0 (d1 := d) (d2 := ee) (n1 := p1) (n2 := mm) B17_18 Fd6_18 Fn6_18 Fd18 Fn18 (r := (0 : Int32)) (if_neg fun q => (Nat.ne_of_lt o_d_ee) q.1).symm) rfl B5_18 (by rw [hml]; rfl) [(.ref y)] [] rfl (lenOf own_pd_7 rfl) rfl (Nat.le_of_eq rfl) (by decide) (by decide) (by decide) (by decide) (hb hby at_238) N18 241 rfl (fun v19 T19 l19 X19 N19 hP19 => ?_)
      obtain ⟨rfl, e19⟩ := hP19
      show own_G p e below _ (T19.setTop (mkF m 241 #[.val (.int p1), .val (.int p2), .val (.int p3), .val (.ref d), .val (.ref ee), .val (.ref x), .val (.int mm), .val (.int (p3 &&& (7 : Int32))), .val (.ref y), .val (.int (0 : Int32)), .val (.ref y), .unset] [(.int (0 : Int32))]))
      refine own_iload X19 hx (hb hby at_241) rfl 243 rfl ?_
      refine own_icmpF X19 hx (hb hby at_243) (teq (by decide)).2 246 rfl ?_
      refine own_iconst X19 hx (z := (1 : Int32)) (hb hby at_246) rfl 247 rfl ?_
      refine own_goto X19 hx (hb hby at_247) 251 (by decide) (by decide) ?_
      refine own_istore X19 hx (#[.val (.int p1), .val (.int p2), .val (.int p3), .val (.ref d), .val (.ref ee), .val (.ref x), .val (.int mm), .val (.int (p3 &&& (7 : Int32))), .val (.ref y), .val (.int (0 : Int32)), .val (.ref y), .val (.int (1 : Int32))]) (hb hby at_251) rfl 253 rfl ?_
      refine own_aload X19 hx (hb hby at_253) rfl rfl 255 rfl ?_
      refine own_ifnullF X19 hx (hb hby at_255) 258 rfl ?_
      refine own_iload X19 hx (hb hby at_258) rfl 260 rfl ?_
      refine own_ifcF X19 hx (hb hby at_260) (feq (by decide)).1 263 rfl ?_
      refine own_aload X19 hx (hb hby at_263) rfl rfl 265 rfl ?_
      refine own_aload X19 hx (hb hby at_265) rfl rfl 267 rfl ?_
      refine own_callV X19 hx hZ hown (own_w65 hw) (own_w66 hw) (own_w68 hw) (own_w67 hw) (own_w56 hw) (own_w69 hw) (by decide) 0 (own_m_eqv l Z a0 hw _ n0 (d1 := ee) (d2 := d) (n1 := mm) (n2 := p1) B5_18 Fd18 Fn18 Fd6_18 Fn6_18 (r := (0 : Int32)) (if_neg fun q => (Nat.ne_of_gt o_d_ee) q.1).symm) e19 B17_18 (by rw [hml]; rfl) [(.ref x)] [] rfl (lenOf own_pd_7 rfl) rfl (Nat.le_of_eq rfl) (by decide) (by decide) (by decide) (by decide) (hb hby at_267) N19 270 rfl (fun v20 T20 l20 X20 N20 hP20 => ?_)
      obtain ⟨rfl, e20⟩ := hP20
      show own_G p e below _ (T20.setTop (mkF m 270 #[.val (.int p1), .val (.int p2), .val (.int p3), .val (.ref d), .val (.ref ee), .val (.ref x), .val (.int mm), .val (.int (p3 &&& (7 : Int32))), .val (.ref y), .val (.int (0 : Int32)), .val (.ref y), .val (.int (1 : Int32))] [(.int (0 : Int32))]))
      refine own_iload X20 hx (hb hby at_270) rfl 272 rfl ?_
      refine own_icmpF X20 hx (hb hby at_272) (teq (by decide)).2 275 rfl ?_
      refine own_iconst X20 hx (z := (1 : Int32)) (hb hby at_275) rfl 276 rfl ?_
      refine own_goto X20 hx (hb hby at_276) 280 (by decide) (by decide) ?_
      refine own_istore X20 hx (#[.val (.int p1), .val (.int p2), .val (.int p3), .val (.ref d), .val (.ref ee), .val (.ref x), .val (.int mm), .val (.int (p3 &&& (7 : Int32))), .val (.ref y), .val (.int (0 : Int32)), .val (.ref y), .val (.int (1 : Int32))]) (hb hby at_280) rfl 282 rfl ?_
      refine own_iload X20 hx (hb hby at_282) rfl 284 rfl ?_
      exact own_retN X20 hx hret (Or.inl rfl) hlk (hb hby at_284) (by decide) (by decide) N20 e20 rfl
    · refine own_icmpT X6 hx (hb hby at_96) (feq hc16).2 122 (by decide) (by decide) ?_
      refine own_iload X6 hx (hb hby at_122) rfl 124 rfl ?_
      refine own_iconst X6 hx (z := (2 : Int32)) (hb hby at_124) rfl 125 rfl ?_
      by_cases hc21 : (p3 &&& (7 : Int32)) = (2 : Int32)
      · refine own_icmpF X6 hx (hb hby at_125) (teq hc21).2 128 rfl ?_
        refine own_aconstNull X6 hx (hb hby at_128) 129 rfl ?_
        refine own_astore X6 hx (#[.val (.int p1), .val (.int p2), .val (.int p3), .val (.ref d), .val (.ref ee), .val (.ref x), .val (.int mm), .val (.int (p3 &&& (7 : Int32))), .val .null, .unset, .val .null, .unset]) (hb hby at_129) rfl rfl 131 rfl ?_
        refine own_iconst X6 hx (z := (0 : Int32)) (hb hby at_131) rfl 132 rfl ?_
        refine own_istore X6 hx (#[.val (.int p1), .val (.int p2), .val (.int p3), .val (.ref d), .val (.ref ee), .val (.ref x), .val (.int mm), .val (.int (p3 &&& (7 : Int32))), .val .null, .val (.int (0 : Int32)), .val .null, .unset]) (hb hby at_132) rfl 134 rfl ?_
        refine own_goto X6 hx (hb hby at_134) 234 (by decide) (by decide) ?_
        refine own_aload X6 hx (hb hby at_234) rfl rfl 236 rfl ?_
        refine own_aload X6 hx (hb hby at_236) rfl rfl 238 rfl ?_
        refine own_callV X6 hx hZ hown (own_w65 hw) (own_w66 hw) (own_w68 hw) (own_w67 hw) (own_w56 hw) (own_w69 hw) (by decide) 0 (own_m_eqn l Z a0 hw _ n0) rfl B5_6 (by rw [hml]; rfl) [.null] [] rfl (lenOf own_pd_7 rfl) rfl (Nat.le_of_eq rfl) (by decide) (by decide) (by decide) (by decide) (hb hby at_238) N6 241 rfl (fun v22 T22 l22 X22 N22 hP22 => ?_)
        obtain ⟨rfl, e22⟩ := hP22
        show own_G p e below _ (T22.setTop (mkF m 241 #[.val (.int p1), .val (.int p2), .val (.int p3), .val (.ref d), .val (.ref ee), .val (.ref x), .val (.int mm), .val (.int (p3 &&& (7 : Int32))), .val .null, .val (.int (0 : Int32)), .val .null, .unset] [(.int (0 : Int32))]))
        refine own_iload X22 hx (hb hby at_241) rfl 243 rfl ?_
        refine own_icmpF X22 hx (hb hby at_243) (teq (by decide)).2 246 rfl ?_
        refine own_iconst X22 hx (z := (1 : Int32)) (hb hby at_246) rfl 247 rfl ?_
        refine own_goto X22 hx (hb hby at_247) 251 (by decide) (by decide) ?_
        refine own_istore X22 hx (#[.val (.int p1), .val (.int p2), .val (.int p3), .val (.ref d), .val (.ref ee), .val (.ref x), .val (.int mm), .val (.int (p3 &&& (7 : Int32))), .val .null, .val (.int (0 : Int32)), .val .null, .val (.int (1 : Int32))]) (hb hby at_251) rfl 253 rfl ?_
        refine own_aload X22 hx (hb hby at_253) rfl rfl 255 rfl ?_
        refine own_ifnullT X22 hx (hb hby at_255) 282 (by decide) (by decide) ?_
        refine own_iload X22 hx (hb hby at_282) rfl 284 rfl ?_
        exact own_retN X22 hx hret (Or.inl rfl) hlk (hb hby at_284) (by decide) (by decide) N22 e22 rfl
      · refine own_icmpT X6 hx (hb hby at_125) (feq hc21).2 137 (by decide) (by decide) ?_
        refine own_iload X6 hx (hb hby at_137) rfl 139 rfl ?_
        refine own_iconst X6 hx (z := (3 : Int32)) (hb hby at_139) rfl 140 rfl ?_
        by_cases hc23 : (p3 &&& (7 : Int32)) = (3 : Int32)
        · refine own_icmpF X6 hx (hb hby at_140) (teq hc23).2 143 rfl ?_
          refine own_iloadN X6 hx (hb hby at_143) rfl 144 rfl ?_
          refine own_callS X6 hx hZ hown (own_w70 hw) (own_w71 hw) (own_w72 hw) (own_w73 hw) (by decide) 0 (own_m_ival l Z a0 hw _ n0 p1 Z0_6 (SH.ext O0_6.2) (SC.ext O0_6.2) (BX.ext O0_6.2)) rfl (by rw [hml]; rfl) [(.int p1)] [] rfl (lenOf own_pd_8 rfl) rfl (Nat.le_of_eq rfl) (by decide) (by decide) (by decide) (by decide) (hb hby at_144) N6 147 rfl (fun v24 T24 l24 X24 N24 hP24 => ?_)
          obtain ⟨bx, rfl, Eb24, K24'⟩ := hP24
          have Z0_24 := Nat.le_trans Z0_6 K24'.1
          have O0_24 := O0_6.keep K24' all0
          have B1_24 := B1_6.keep K24'
          have B3_24 := B3_6.keep K24'
          have B5_24 := B5_6.keep K24'
          have Fd6_24 := Fd6.keep K24' nin0
          have Fn6_24 := Fn6.keep K24' nin0
          show own_G p e below _ (T24.setTop (mkF m 147 #[.val (.int p1), .val (.int p2), .val (.int p3), .val (.ref d), .val (.ref ee), .val (.ref x), .val (.int mm), .val (.int (p3 &&& (7 : Int32))), .unset, .unset, .val .null, .unset] [(.ref bx)]))
          refine own_astore X24 hx (#[.val (.int p1), .val (.int p2), .val (.int p3), .val (.ref d), .val (.ref ee), .val (.ref x), .val (.int mm), .val (.int (p3 &&& (7 : Int32))), .val (.ref bx), .unset, .val .null, .unset]) (hb hby at_147) rfl rfl 149 rfl ?_
          refine own_iconst X24 hx (z := (0 : Int32)) (hb hby at_149) rfl 150 rfl ?_
          refine own_istore X24 hx (#[.val (.int p1), .val (.int p2), .val (.int p3), .val (.ref d), .val (.ref ee), .val (.ref x), .val (.int mm), .val (.int (p3 &&& (7 : Int32))), .val (.ref bx), .val (.int (0 : Int32)), .val .null, .unset]) (hb hby at_150) rfl 152 rfl ?_
          refine own_goto X24 hx (hb hby at_152) 234 (by decide) (by decide) ?_
          refine own_aload X24 hx (hb hby at_234) rfl rfl 236 rfl ?_
          refine own_aload X24 hx (hb hby at_236) rfl rfl 238 rfl ?_
          refine own_callV X24 hx hZ hown (own_w65 hw) (own_w66 hw) (own_w68 hw) (own_w67 hw) (own_w56 hw) (own_w69 hw) (by decide) 0 (own_m_eqo l Z a0 hw _ n0 Eb24 (own_notins (own_w78 hw) (own_w55 hw) (NS.step (own_w78 hw) (NS.step (own_w79 hw) (own_root (own_w80 hw) (own_w55 hw) (by decide)) (by decide)) (by decide)) (by decide))) rfl B5_24 (by rw [hml]; rfl) [(.ref bx)] [] rfl (lenOf own_pd_7 rfl) rfl (Nat.le_of_eq rfl) (by decide) (by decide) (by decide) (by decide) (hb hby at_238) N24 241 rfl (fun v25 T25 l25 X25 N25 hP25 => ?_)
          obtain ⟨rfl, e25⟩ := hP25
          show own_G p e below _ (T25.setTop (mkF m 241 #[.val (.int p1), .val (.int p2), .val (.int p3), .val (.ref d), .val (.ref ee), .val (.ref x), .val (.int mm), .val (.int (p3 &&& (7 : Int32))), .val (.ref bx), .val (.int (0 : Int32)), .val .null, .unset] [(.int (0 : Int32))]))
          refine own_iload X25 hx (hb hby at_241) rfl 243 rfl ?_
          refine own_icmpF X25 hx (hb hby at_243) (teq (by decide)).2 246 rfl ?_
          refine own_iconst X25 hx (z := (1 : Int32)) (hb hby at_246) rfl 247 rfl ?_
          refine own_goto X25 hx (hb hby at_247) 251 (by decide) (by decide) ?_
          refine own_istore X25 hx (#[.val (.int p1), .val (.int p2), .val (.int p3), .val (.ref d), .val (.ref ee), .val (.ref x), .val (.int mm), .val (.int (p3 &&& (7 : Int32))), .val (.ref bx), .val (.int (0 : Int32)), .val .null, .val (.int (1 : Int32))]) (hb hby at_251) rfl 253 rfl ?_
          refine own_aload X25 hx (hb hby at_253) rfl rfl 255 rfl ?_
          refine own_ifnullT X25 hx (hb hby at_255) 282 (by decide) (by decide) ?_
          refine own_iload X25 hx (hb hby at_282) rfl 284 rfl ?_
          exact own_retN X25 hx hret (Or.inl rfl) hlk (hb hby at_284) (by decide) (by decide) N25 e25 rfl
        · refine own_icmpT X6 hx (hb hby at_140) (feq hc23).2 155 (by decide) (by decide) ?_
          refine own_iload X6 hx (hb hby at_155) rfl 157 rfl ?_
          refine own_iconst X6 hx (z := (4 : Int32)) (hb hby at_157) rfl 158 rfl ?_
          by_cases hc26 : (p3 &&& (7 : Int32)) = (4 : Int32)
          · refine own_icmpF X6 hx (hb hby at_158) (teq hc26).2 161 rfl ?_
            refine own_aload X6 hx (hb hby at_161) rfl rfl 163 rfl ?_
            refine own_astore X6 hx (#[.val (.int p1), .val (.int p2), .val (.int p3), .val (.ref d), .val (.ref ee), .val (.ref x), .val (.int mm), .val (.int (p3 &&& (7 : Int32))), .unset, .unset, .val (.ref x), .unset]) (hb hby at_163) rfl rfl 165 rfl ?_
            refine own_aload X6 hx (hb hby at_165) rfl rfl 167 rfl ?_
            refine own_astore X6 hx (#[.val (.int p1), .val (.int p2), .val (.int p3), .val (.ref d), .val (.ref ee), .val (.ref x), .val (.int mm), .val (.int (p3 &&& (7 : Int32))), .val (.ref x), .unset, .val (.ref x), .unset]) (hb hby at_167) rfl rfl 169 rfl ?_
            refine own_iconst X6 hx (z := (1 : Int32)) (hb hby at_169) rfl 170 rfl ?_
            refine own_istore X6 hx (#[.val (.int p1), .val (.int p2), .val (.int p3), .val (.ref d), .val (.ref ee), .val (.ref x), .val (.int mm), .val (.int (p3 &&& (7 : Int32))), .val (.ref x), .val (.int (1 : Int32)), .val (.ref x), .unset]) (hb hby at_170) rfl 172 rfl ?_
            refine own_goto X6 hx (hb hby at_172) 234 (by decide) (by decide) ?_
            refine own_aload X6 hx (hb hby at_234) rfl rfl 236 rfl ?_
            refine own_aload X6 hx (hb hby at_236) rfl rfl 238 rfl ?_
            refine own_callV X6 hx hZ hown (own_w65 hw) (own_w66 hw) (own_w68 hw) (own_w67 hw) (own_w56 hw) (own_w69 hw) (by decide) 0 (own_m_eqv l Z a0 hw _ n0 (d1 := d) (d2 := d) (n1 := p1) (n2 := p1) B5_6 Fd6 Fn6 Fd6 Fn6 (r := (1 : Int32)) (if_pos ⟨rfl, rfl⟩).symm) rfl B5_6 (by rw [hml]; rfl) [(.ref x)] [] rfl (lenOf own_pd_7 rfl) rfl (Nat.le_of_eq rfl) (by decide) (by decide) (by decide) (by decide) (hb hby at_238) N6 241 rfl (fun v27 T27 l27 X27 N27 hP27 => ?_)
            obtain ⟨rfl, e27⟩ := hP27
            show own_G p e below _ (T27.setTop (mkF m 241 #[.val (.int p1), .val (.int p2), .val (.int p3), .val (.ref d), .val (.ref ee), .val (.ref x), .val (.int mm), .val (.int (p3 &&& (7 : Int32))), .val (.ref x), .val (.int (1 : Int32)), .val (.ref x), .unset] [(.int (1 : Int32))]))
            refine own_iload X27 hx (hb hby at_241) rfl 243 rfl ?_
            refine own_icmpF X27 hx (hb hby at_243) (teq (by decide)).2 246 rfl ?_
            refine own_iconst X27 hx (z := (1 : Int32)) (hb hby at_246) rfl 247 rfl ?_
            refine own_goto X27 hx (hb hby at_247) 251 (by decide) (by decide) ?_
            refine own_istore X27 hx (#[.val (.int p1), .val (.int p2), .val (.int p3), .val (.ref d), .val (.ref ee), .val (.ref x), .val (.int mm), .val (.int (p3 &&& (7 : Int32))), .val (.ref x), .val (.int (1 : Int32)), .val (.ref x), .val (.int (1 : Int32))]) (hb hby at_251) rfl 253 rfl ?_
            refine own_aload X27 hx (hb hby at_253) rfl rfl 255 rfl ?_
            refine own_ifnullF X27 hx (hb hby at_255) 258 rfl ?_
            refine own_iload X27 hx (hb hby at_258) rfl 260 rfl ?_
            refine own_ifcF X27 hx (hb hby at_260) (feq (by decide)).1 263 rfl ?_
            refine own_aload X27 hx (hb hby at_263) rfl rfl 265 rfl ?_
            refine own_aload X27 hx (hb hby at_265) rfl rfl 267 rfl ?_
            refine own_callV X27 hx hZ hown (own_w65 hw) (own_w66 hw) (own_w68 hw) (own_w67 hw) (own_w56 hw) (own_w69 hw) (by decide) 0 (own_m_eqv l Z a0 hw _ n0 (d1 := d) (d2 := d) (n1 := p1) (n2 := p1) B5_6 Fd6 Fn6 Fd6 Fn6 (r := (1 : Int32)) (if_pos ⟨rfl, rfl⟩).symm) e27 B5_6 (by rw [hml]; rfl) [(.ref x)] [] rfl (lenOf own_pd_7 rfl) rfl (Nat.le_of_eq rfl) (by decide) (by decide) (by decide) (by decide) (hb hby at_267) N27 270 rfl (fun v28 T28 l28 X28 N28 hP28 => ?_)
            obtain ⟨rfl, e28⟩ := hP28
            show own_G p e below _ (T28.setTop (mkF m 270 #[.val (.int p1), .val (.int p2), .val (.int p3), .val (.ref d), .val (.ref ee), .val (.ref x), .val (.int mm), .val (.int (p3 &&& (7 : Int32))), .val (.ref x), .val (.int (1 : Int32)), .val (.ref x), .val (.int (1 : Int32))] [(.int (1 : Int32))]))
            refine own_iload X28 hx (hb hby at_270) rfl 272 rfl ?_
            refine own_icmpF X28 hx (hb hby at_272) (teq (by decide)).2 275 rfl ?_
            refine own_iconst X28 hx (z := (1 : Int32)) (hb hby at_275) rfl 276 rfl ?_
            refine own_goto X28 hx (hb hby at_276) 280 (by decide) (by decide) ?_
            refine own_istore X28 hx (#[.val (.int p1), .val (.int p2), .val (.int p3), .val (.ref d), .val (.ref ee), .val (.ref x), .val (.int mm), .val (.int (p3 &&& (7 : Int32))), .val (.ref x), .val (.int (1 : Int32)), .val (.ref x), .val (.int (1 : Int32))]) (hb hby at_280) rfl 282 rfl ?_
            refine own_iload X28 hx (hb hby at_282) rfl 284 rfl ?_
            exact own_retN X28 hx hret (Or.inl rfl) hlk (hb hby at_284) (by decide) (by decide) N28 e28 rfl
          · refine own_icmpT X6 hx (hb hby at_158) (feq hc26).2 175 (by decide) (by decide) ?_
            refine own_iload X6 hx (hb hby at_175) rfl 177 rfl ?_
            refine own_iconst X6 hx (z := (5 : Int32)) (hb hby at_177) rfl 178 rfl ?_
            by_cases hc29 : (p3 &&& (7 : Int32)) = (5 : Int32)
            · refine own_icmpF X6 hx (hb hby at_178) (teq hc29).2 181 rfl ?_
              refine own_aloadN X6 hx (hb hby at_181) rfl rfl 182 rfl ?_
              refine own_astore X6 hx (#[.val (.int p1), .val (.int p2), .val (.int p3), .val (.ref d), .val (.ref ee), .val (.ref x), .val (.int mm), .val (.int (p3 &&& (7 : Int32))), .val (.ref d), .unset, .val .null, .unset]) (hb hby at_182) rfl rfl 184 rfl ?_
              refine own_iconst X6 hx (z := (0 : Int32)) (hb hby at_184) rfl 185 rfl ?_
              refine own_istore X6 hx (#[.val (.int p1), .val (.int p2), .val (.int p3), .val (.ref d), .val (.ref ee), .val (.ref x), .val (.int mm), .val (.int (p3 &&& (7 : Int32))), .val (.ref d), .val (.int (0 : Int32)), .val .null, .unset]) (hb hby at_185) rfl 187 rfl ?_
              refine own_goto X6 hx (hb hby at_187) 234 (by decide) (by decide) ?_
              refine own_aload X6 hx (hb hby at_234) rfl rfl 236 rfl ?_
              refine own_aload X6 hx (hb hby at_236) rfl rfl 238 rfl ?_
              refine own_callV X6 hx hZ hown (own_w65 hw) (own_w66 hw) (own_w68 hw) (own_w67 hw) (own_w56 hw) (own_w69 hw) (by decide) 0 (own_m_eqo l Z a0 hw _ n0 B1_6 (own_notins (own_w81 hw) (own_w55 hw) (NS.step (own_w81 hw) (own_root (own_w80 hw) (own_w55 hw) (by decide)) (by decide)) (by decide))) rfl B5_6 (by rw [hml]; rfl) [(.ref d)] [] rfl (lenOf own_pd_7 rfl) rfl (Nat.le_of_eq rfl) (by decide) (by decide) (by decide) (by decide) (hb hby at_238) N6 241 rfl (fun v30 T30 l30 X30 N30 hP30 => ?_)
              obtain ⟨rfl, e30⟩ := hP30
              show own_G p e below _ (T30.setTop (mkF m 241 #[.val (.int p1), .val (.int p2), .val (.int p3), .val (.ref d), .val (.ref ee), .val (.ref x), .val (.int mm), .val (.int (p3 &&& (7 : Int32))), .val (.ref d), .val (.int (0 : Int32)), .val .null, .unset] [(.int (0 : Int32))]))
              refine own_iload X30 hx (hb hby at_241) rfl 243 rfl ?_
              refine own_icmpF X30 hx (hb hby at_243) (teq (by decide)).2 246 rfl ?_
              refine own_iconst X30 hx (z := (1 : Int32)) (hb hby at_246) rfl 247 rfl ?_
              refine own_goto X30 hx (hb hby at_247) 251 (by decide) (by decide) ?_
              refine own_istore X30 hx (#[.val (.int p1), .val (.int p2), .val (.int p3), .val (.ref d), .val (.ref ee), .val (.ref x), .val (.int mm), .val (.int (p3 &&& (7 : Int32))), .val (.ref d), .val (.int (0 : Int32)), .val .null, .val (.int (1 : Int32))]) (hb hby at_251) rfl 253 rfl ?_
              refine own_aload X30 hx (hb hby at_253) rfl rfl 255 rfl ?_
              refine own_ifnullT X30 hx (hb hby at_255) 282 (by decide) (by decide) ?_
              refine own_iload X30 hx (hb hby at_282) rfl 284 rfl ?_
              exact own_retN X30 hx hret (Or.inl rfl) hlk (hb hby at_284) (by decide) (by decide) N30 e30 rfl
            · refine own_icmpT X6 hx (hb hby at_178) (feq hc29).2 190 (by decide) (by decide) ?_
              refine own_iload X6 hx (hb hby at_190) rfl 192 rfl ?_
              refine own_bipush X6 hx (z := (6 : Int32)) (hb hby at_192) rfl 194 rfl ?_
              by_cases hc31 : (p3 &&& (7 : Int32)) = (6 : Int32)
              · refine own_icmpF X6 hx (hb hby at_194) (teq hc31).2 197 rfl ?_
                refine own_newO X6 hx hZ hown (own_w54 hw) (own_w55 hw) (own_w56 hw) rfl (hb hby at_197) (by decide) (by decide) 200 rfl (fun T32 h32 y g32 X32 e32 E32 B32 D32 => ?_)
                have o_d_y : d < y := Nat.lt_of_lt_of_eq B1_6.lt g32.symm
                have o_ee_y : ee < y := Nat.lt_of_lt_of_eq B3_6.lt g32.symm
                have o_x_y : x < y := Nat.lt_of_lt_of_eq B5_6.lt g32.symm
                have gn_y : n0 ≤ y := Nat.le_trans Z0_6 (Nat.le_of_eq g32.symm)
                have Z0_32 := Nat.le_trans Z0_6 E32.1
                have O0_32 := O0_6.ext E32
                have B1_32 := B1_6.ext E32
                have B3_32 := B3_6.ext E32
                have B5_32 := B5_6.ext E32
                have Fd6_32 := Fd6.ext E32
                have Fn6_32 := Fn6.ext E32
                have F_diagrams_y_32 : Fld Z h32 y "com/example/orbweaver/orbweaver/synthesis/Valuations" "diagrams" "Lcom/example/orbweaver/orbweaver/synthesis/Diagrams;" .null := D32 (Or.inr (own_w62 hw)) (ty := (.object "com/example/orbweaver/orbweaver/synthesis/Diagrams")) (by decide)
                have F_node_y_32 : Fld Z h32 y "com/example/orbweaver/orbweaver/synthesis/Valuations" "node" "I" (.int (0 : Int32)) := D32 (Or.inr (own_w64 hw)) (ty := .int) (by decide)
                refine own_dup X32 hx (hb hby at_200) rfl 201 rfl ?_
                refine own_aloadN X32 hx (hb hby at_201) rfl rfl 202 rfl ?_
                refine own_iloadN X32 hx (hb hby at_202) rfl 203 rfl ?_
                refine own_iconst X32 hx (z := (1 : Int32)) (hb hby at_203) rfl 204 rfl ?_
                refine own_iloadN X32 hx (hb hby at_204) rfl 205 rfl ?_
                refine own_iconst X32 hx (z := (4 : Int32)) (hb hby at_205) rfl 206 rfl ?_
                refine own_iushr X32 hx (hb hby at_206) 207 rfl ?_
                refine own_bipush X32 hx (z := (31 : Int32)) (hb hby at_207) rfl 209 rfl ?_
                refine own_iand X32 hx (hb hby at_209) 210 rfl ?_
                refine own_ishl X32 hx (hb hby at_210) 211 rfl ?_
                refine own_ixor X32 hx (hb hby at_211) 212 rfl ?_
                refine own_callI X32 hx hZ hown rfl (own_w57 hw) (own_w58 hw) (own_w56 hw) (own_w59 hw) (by decide) 1 (own_m_vinit l Z a0 hw _ n0 (d := d) (p1 ^^^ ((1 : Int32) <<< ((((p3.toUInt32 >>> ((4 : Int32) &&& 31).toUInt32).toInt32) &&& (31 : Int32)) &&& 31))) B32 F_diagrams_y_32 F_node_y_32 gn_y) e32 (by rw [hml]; rfl) y [(.ref d), (.int (p1 ^^^ ((1 : Int32) <<< ((((p3.toUInt32 >>> ((4 : Int32) &&& 31).toUInt32).toInt32) &&& (31 : Int32)) &&& 31))))] [(.ref y)] rfl (lenOf own_pd_6 rfl) rfl (Nat.le_of_eq rfl) (by decide) (by decide) (by decide) (by decide) (hb hby at_212) N6 215 rfl (fun v33 T33 l33 X33 N33 hP33 => ?_)
                obtain ⟨rfl, Fd33, Fn33, K33'⟩ := hP33
                have Z0_33 := Nat.le_trans Z0_32 K33'.1
                have O0_33 := O0_32.keep K33' (allS gn_y all0)
                have B1_33 := B1_32.keep K33'
                have B3_33 := B3_32.keep K33'
                have B5_33 := B5_32.keep K33'
                have Fd6_33 := Fd6_32.keep K33' (ninS (Nat.ne_of_lt o_x_y) nin0)
                have Fn6_33 := Fn6_32.keep K33' (ninS (Nat.ne_of_lt o_x_y) nin0)
                have B32_33 := B32.keep K33'
                show own_G p e below _ (T33.setTop (mkF m 215 #[.val (.int p1), .val (.int p2), .val (.int p3), .val (.ref d), .val (.ref ee), .val (.ref x), .val (.int mm), .val (.int (p3 &&& (7 : Int32))), .unset, .unset, .val .null, .unset] [(.ref y)]))
                refine own_astore X33 hx (#[.val (.int p1), .val (.int p2), .val (.int p3), .val (.ref d), .val (.ref ee), .val (.ref x), .val (.int mm), .val (.int (p3 &&& (7 : Int32))), .unset, .unset, .val (.ref y), .unset]) (hb hby at_215) rfl rfl 217 rfl ?_
                refine own_aload X33 hx (hb hby at_217) rfl rfl 219 rfl ?_
                refine own_astore X33 hx (#[.val (.int p1), .val (.int p2), .val (.int p3), .val (.ref d), .val (.ref ee), .val (.ref x), .val (.int mm), .val (.int (p3 &&& (7 : Int32))), .val (.ref y), .unset, .val (.ref y), .unset]) (hb hby at_219) rfl rfl 221 rfl ?_
                refine own_iconst X33 hx (z := (0 : Int32)) (hb hby at_221) rfl 222 rfl ?_
                refine own_istore X33 hx (#[.val (.int p1), .val (.int p2), .val (.int p3), .val (.ref d), .val (.ref ee), .val (.ref x), .val (.int mm), .val (.int (p3 &&& (7 : Int32))), .val (.ref y), .val (.int (0 : Int32)), .val (.ref y), .unset]) (hb hby at_222) rfl 224 rfl ?_
                refine own_goto X33 hx (hb hby at_224) 234 (by decide) (by decide) ?_
                refine own_aload X33 hx (hb hby at_234) rfl rfl 236 rfl ?_
                refine own_aload X33 hx (hb hby at_236) rfl rfl 238 rfl ?_
                refine own_callV X33 hx hZ hown (own_w65 hw) (own_w66 hw) (own_w68 hw) (own_w67 hw) (own_w56 hw) (own_w69 hw) (by decide) 0 (own_m_eqv l Z a0 hw _ n0 (d1 := d) (d2 := d) (n1 := p1) (n2 := (p1 ^^^ ((1 : Int32) <<< ((((p3.toUInt32 >>> ((4 : Int32) &&& 31).toUInt32).toInt32) &&& (31 : Int32)) &&& 31)))) B32_33 Fd6_33 Fn6_33 Fd33 Fn33 (r := (0 : Int32)) (if_neg fun q => own_xor _ _ (own_shl _) q.2.symm).symm) rfl B5_33 (by rw [hml]; rfl) [(.ref y)] [] rfl (lenOf own_pd_7 rfl) rfl (Nat.le_of_eq rfl) (by decide) (by decide) (by decide) (by decide) (hb hby at_238) N33 241 rfl (fun v34 T34 l34 X34 N34 hP34 => ?_)
                obtain ⟨rfl, e34⟩ := hP34
                show own_G p e below _ (T34.setTop (mkF m 241 #[.val (.int p1), .val (.int p2), .val (.int p3), .val (.ref d), .val (.ref ee), .val (.ref x), .val (.int mm), .val (.int (p3 &&& (7 : Int32))), .val (.ref y), .val (.int (0 : Int32)), .val (.ref y), .unset] [(.int (0 : Int32))]))
                refine own_iload X34 hx (hb hby at_241) rfl 243 rfl ?_
                refine own_icmpF X34 hx (hb hby at_243) (teq (by decide)).2 246 rfl ?_
                refine own_iconst X34 hx (z := (1 : Int32)) (hb hby at_246) rfl 247 rfl ?_
                refine own_goto X34 hx (hb hby at_247) 251 (by decide) (by decide) ?_
                refine own_istore X34 hx (#[.val (.int p1), .val (.int p2), .val (.int p3), .val (.ref d), .val (.ref ee), .val (.ref x), .val (.int mm), .val (.int (p3 &&& (7 : Int32))), .val (.ref y), .val (.int (0 : Int32)), .val (.ref y), .val (.int (1 : Int32))]) (hb hby at_251) rfl 253 rfl ?_
                refine own_aload X34 hx (hb hby at_253) rfl rfl 255 rfl ?_
                refine own_ifnullF X34 hx (hb hby at_255) 258 rfl ?_
                refine own_iload X34 hx (hb hby at_258) rfl 260 rfl ?_
                refine own_ifcF X34 hx (hb hby at_260) (feq (by decide)).1 263 rfl ?_
                refine own_aload X34 hx (hb hby at_263) rfl rfl 265 rfl ?_
                refine own_aload X34 hx (hb hby at_265) rfl rfl 267 rfl ?_
                refine own_callV X34 hx hZ hown (own_w65 hw) (own_w66 hw) (own_w68 hw) (own_w67 hw) (own_w56 hw) (own_w69 hw) (by decide) 0 (own_m_eqv l Z a0 hw _ n0 (d1 := d) (d2 := d) (n1 := (p1 ^^^ ((1 : Int32) <<< ((((p3.toUInt32 >>> ((4 : Int32) &&& 31).toUInt32).toInt32) &&& (31 : Int32)) &&& 31)))) (n2 := p1) B5_33 Fd33 Fn33 Fd6_33 Fn6_33 (r := (0 : Int32)) (if_neg fun q => own_xor _ _ (own_shl _) q.2).symm) e34 B32_33 (by rw [hml]; rfl) [(.ref x)] [] rfl (lenOf own_pd_7 rfl) rfl (Nat.le_of_eq rfl) (by decide) (by decide) (by decide) (by decide) (hb hby at_267) N34 270 rfl (fun v35 T35 l35 X35 N35 hP35 => ?_)
                obtain ⟨rfl, e35⟩ := hP35
                show own_G p e below _ (T35.setTop (mkF m 270 #[.val (.int p1), .val (.int p2), .val (.int p3), .val (.ref d), .val (.ref ee), .val (.ref x), .val (.int mm), .val (.int (p3 &&& (7 : Int32))), .val (.ref y), .val (.int (0 : Int32)), .val (.ref y), .val (.int (1 : Int32))] [(.int (0 : Int32))]))
                refine own_iload X35 hx (hb hby at_270) rfl 272 rfl ?_
                refine own_icmpF X35 hx (hb hby at_272) (teq (by decide)).2 275 rfl ?_
                refine own_iconst X35 hx (z := (1 : Int32)) (hb hby at_275) rfl 276 rfl ?_
                refine own_goto X35 hx (hb hby at_276) 280 (by decide) (by decide) ?_
                refine own_istore X35 hx (#[.val (.int p1), .val (.int p2), .val (.int p3), .val (.ref d), .val (.ref ee), .val (.ref x), .val (.int mm), .val (.int (p3 &&& (7 : Int32))), .val (.ref y), .val (.int (0 : Int32)), .val (.ref y), .val (.int (1 : Int32))]) (hb hby at_280) rfl 282 rfl ?_
                refine own_iload X35 hx (hb hby at_282) rfl 284 rfl ?_
                exact own_retN X35 hx hret (Or.inl rfl) hlk (hb hby at_284) (by decide) (by decide) N35 e35 rfl
              · refine own_icmpT X6 hx (hb hby at_194) (feq hc31).2 227 (by decide) (by decide) ?_
                refine own_aload X6 hx (hb hby at_227) rfl rfl 229 rfl ?_
                refine own_astore X6 hx (#[.val (.int p1), .val (.int p2), .val (.int p3), .val (.ref d), .val (.ref ee), .val (.ref x), .val (.int mm), .val (.int (p3 &&& (7 : Int32))), .val (.ref ee), .unset, .val .null, .unset]) (hb hby at_229) rfl rfl 231 rfl ?_
                refine own_iconst X6 hx (z := (0 : Int32)) (hb hby at_231) rfl 232 rfl ?_
                refine own_istore X6 hx (#[.val (.int p1), .val (.int p2), .val (.int p3), .val (.ref d), .val (.ref ee), .val (.ref x), .val (.int mm), .val (.int (p3 &&& (7 : Int32))), .val (.ref ee), .val (.int (0 : Int32)), .val .null, .unset]) (hb hby at_232) rfl 234 rfl ?_
                refine own_aload X6 hx (hb hby at_234) rfl rfl 236 rfl ?_
                refine own_aload X6 hx (hb hby at_236) rfl rfl 238 rfl ?_
                refine own_callV X6 hx hZ hown (own_w65 hw) (own_w66 hw) (own_w68 hw) (own_w67 hw) (own_w56 hw) (own_w69 hw) (by decide) 0 (own_m_eqo l Z a0 hw _ n0 B3_6 (own_notins (own_w81 hw) (own_w55 hw) (NS.step (own_w81 hw) (own_root (own_w80 hw) (own_w55 hw) (by decide)) (by decide)) (by decide))) rfl B5_6 (by rw [hml]; rfl) [(.ref ee)] [] rfl (lenOf own_pd_7 rfl) rfl (Nat.le_of_eq rfl) (by decide) (by decide) (by decide) (by decide) (hb hby at_238) N6 241 rfl (fun v36 T36 l36 X36 N36 hP36 => ?_)
                obtain ⟨rfl, e36⟩ := hP36
                show own_G p e below _ (T36.setTop (mkF m 241 #[.val (.int p1), .val (.int p2), .val (.int p3), .val (.ref d), .val (.ref ee), .val (.ref x), .val (.int mm), .val (.int (p3 &&& (7 : Int32))), .val (.ref ee), .val (.int (0 : Int32)), .val .null, .unset] [(.int (0 : Int32))]))
                refine own_iload X36 hx (hb hby at_241) rfl 243 rfl ?_
                refine own_icmpF X36 hx (hb hby at_243) (teq (by decide)).2 246 rfl ?_
                refine own_iconst X36 hx (z := (1 : Int32)) (hb hby at_246) rfl 247 rfl ?_
                refine own_goto X36 hx (hb hby at_247) 251 (by decide) (by decide) ?_
                refine own_istore X36 hx (#[.val (.int p1), .val (.int p2), .val (.int p3), .val (.ref d), .val (.ref ee), .val (.ref x), .val (.int mm), .val (.int (p3 &&& (7 : Int32))), .val (.ref ee), .val (.int (0 : Int32)), .val .null, .val (.int (1 : Int32))]) (hb hby at_251) rfl 253 rfl ?_
                refine own_aload X36 hx (hb hby at_253) rfl rfl 255 rfl ?_
                refine own_ifnullT X36 hx (hb hby at_255) 282 (by decide) (by decide) ?_
                refine own_iload X36 hx (hb hby at_282) rfl 284 rfl ?_
                exact own_retN X36 hx hret (Or.inl rfl) hlk (hb hby at_284) (by decide) (by decide) N36 e36 rfl
theorem own_len_lt {t : Term} {args : Array Value} {s : State} {a : Addr} {cl : Cell} {v : Value} (ht : t.eval args s none [] s = some (.ref a)) (ha : s.arrayAt? a = some cl) (h : (Term.length t).eval args s none [] s = some v) : cl.slots.size < 2 ^ 31 := by
  by_cases q : cl.slots.size < 2 ^ 31
  · exact q
  · simp [Term.eval, ht, ha, q] at h
theorem own_sub {args : Array Value} {first s : State} {o : Option Outcome} {idx : List Nat} {a b : Term} {x y : Int32} (ha : a.eval args first o idx s = some (.int x)) (hb : b.eval args first o idx s = some (.int y)) : (Term.sub a b).eval args first o idx s = some (.int (x - y)) := by simp [Term.eval, ha, hb]
theorem own_idx {args : Array Value} {Z : State} {j : Int32} (nn : ¬ j < 0) : (Term.sub (Term.index 0) (Term.int 128)).eval args Z none [j.toNatClampNeg] Z = some (.int (j - 128)) := by
  have e : (Term.index 0).eval args Z none [j.toNatClampNeg] Z = some (.int j) := idx_at nn
  exact own_sub e (Term.int_eval (128))
theorem own_Bx_of {Z : State} {ca : Addr} {c : Cell} {val : Int32 → Value} (B : Bxs Z ca c "java/lang/Integer" "I" 256 val) : own_Bx Z Z.heap ca := by
  obtain ⟨A, S, -, H⟩ := B
  have S' : c.slots.size = 256 := S
  refine ⟨c, A, S', fun j hj => ?_⟩
  obtain ⟨b, q1, q2, -⟩ := H (Int32.ofNat j) (by rw [own_n_nat (by omega), S']; exact fun q => q.elim (own_n_nn (by omega)) (fun r => by omega))
  rw [own_n_nat (by omega)] at q1
  exact ⟨b, q1, q2⟩

set_option maxRecDepth 65536 in
set_option maxHeartbeats 40000000 in
theorem own_comes {Post : Tables → Env → Array Value → State → Outcome → State → Prop} (hpost : ∀ tb e args s v u, (limb_1_1.after args s (.returned v) u = true ∧ limb_1_2.after args s (.returned v) u = true ∧ True) → FrameEnd s (.returned v) u (Jvm.fieldLocs frame_1_writes args s ++ Jvm.arrayLocs frame_1_arrays args s ++ Jvm.staticLocs frame_1_statics s) 56 165504 → Post tb e args s (.returned v) u) :
    ArmFor flags0 classFile x code maxLocals ret World_1 tables_1 room_1 Calls_1 rest_1 Pre_1 Post := by
  intro l hfl _ _ p e ha hc hk s m args below hf hA hF happ hP
  obtain ⟨hcalls, hrest, hpre⟩ := hP
  obtain ⟨-, -, -, hnamed, -, -, -, hat⟩ := (Spec.applies_iff hf).mp happ
  obtain ⟨hg, hn⟩ := and_e (Cond.before_iff.mp (show (Jvm.Cond.and given_1 narrow_1).before args s = true from hpre))
  obtain ⟨g0, q0⟩ := and_e hg
  obtain ⟨g1, q1⟩ := and_e q0
  obtain ⟨g2, q2⟩ := and_e q1
  obtain ⟨w0, w1, w2, rfl⟩ : ∃ w0 w1 w2 : Value, args = #[w0, w1, w2] := by
    have hs : args.size = 3 := by simpa [Cond.value, given_1] using g0
    obtain ⟨L⟩ := args
    match L, hs with
    | [w0, w1, w2], _ => exact ⟨w0, w1, w2, rfl⟩
  have hw := fun d (hd : d ∈ tables_1) => atoms_spec (ws := Jvm.Cond.code x code maxLocals ret :: tables_1) hat d (List.mem_cons_of_mem _ hd)
  obtain ⟨i0, z0⟩ := is_v g1
  obtain rfl : w0 = (.int i0) := Option.some.inj z0
  obtain ⟨i1, z1⟩ := is_v g2
  obtain rfl : w1 = (.int i1) := Option.some.inj z1
  obtain ⟨i2, z2⟩ := is_v q2
  obtain rfl : w2 = (.int i2) := Option.some.inj z2
  obtain ⟨hsets, hown0⟩ := atoms_of _ (rest_1_c_eq ▸ (show rest_1_c.before _ s = true from hrest))
  have SH : Sta s s.heap "java/lang/Integer$IntegerCache" "high" "I" (.int 127) := Sta.start (eqv_i (Term.int_eval (127)) (Cond.before_iff.mp (hsets _ (List.mem_of_getElem? (i := 3) rfl)))) (Or.inl (hsets _ (List.mem_of_getElem? (i := 1) rfl)))
  have hA := Cond.before_iff.mp (hsets _ (List.mem_of_getElem? (i := 4) rfl))
  obtain ⟨ca, ec⟩ := arr_v hA
  have SC : Sta s s.heap "java/lang/Integer$IntegerCache" "cache" "[Ljava/lang/Integer;" (.ref ca) := Sta.start ec (Or.inr ⟨(own_w75 hw), hsets _ (List.mem_of_getElem? (i := 2) rfl)⟩)
  obtain ⟨cl, A⟩ := Arr.start ec hA
  have eL := eqv_i (Term.int_eval (256)) (Cond.before_iff.mp (hsets _ (List.mem_of_getElem? (i := 6) rfl)))
  obtain ⟨ca', cl', u1, u2, u3⟩ := Term.length_spec eL
  cases ec.symm.trans u1
  cases (A.fin (Vm.Alike.refl _)).symm.trans u2
  have hlt := own_len_lt u1 u2 eL
  have hz : cl.slots.size.toInt32 = 256 := (Value.int.inj u3).symm
  have B := Bxs.start (val := fun j => .int (j - 128)) (fun _ => ec) A hlt hz (by decide) (Cond.before_iff.mp (hsets _ (List.mem_of_getElem? (i := 7) rfl))) (fun X j nn hq => eqv_i (own_idx nn) hq)
  have BX : own_Bx s s.heap ca := own_Bx_of B
  obtain ⟨n, o, h1, h2, h3, v, L, rfl, ⟨N, rfl⟩, hq⟩ := own_m_law l s _ hw s.heap s.heap.size (Nat.le_refl _) (Old.start s) SH SC BX i0 i1 i2 p e ha hc hk s m _ below hf ((Spec.applies_iff_loose hf).mp happ).1 ⟨rfl, State.Warmed39.refl s, rfl⟩ trivial
  exact ⟨n, _, h1, h2, h3, hpost _ _ _ _ _ _ ⟨Cond.after_iff.mpr rfl, Cond.after_iff.mpr (eq_i res_at (Term.int_eval (1)) rfl), trivial⟩ ⟨hq.1, hq.2.1, (hq.2.2.sift fun y hy => Or.inr (N y hy)).mono (by decide) (by decide)⟩⟩
theorem main_1_1 : Claimed_1_1 := own_comes fun _ _ _ _ _ _ h hF => ⟨h.1, hF⟩
theorem main_1_2 : Claimed_1_2 := own_comes fun _ _ _ _ _ _ h hF => ⟨h.2.1, hF⟩
end Jvm.Pilot.@@N@@
namespace Jvm.Pilot.@@N@@
open Jvm Jvm.ClassFile Sem Op Lib Jvm.Free Jvm.Stand Jvm.Pilot.@@N@@.Jvm.D
/-! MADE BY PROGRAM (witnessworld.py) out of the Statement's table words and the real class files: 21 classes; the members and pool entries that the words name. The judged class is class 1, her method 1. -/
namespace start1
open Jvm.ClassFile
def u (s : String) : CpInfo := .utf8 (stringToUtf16 s)
/-- a pool by its gaps: so many unusable entries, then the entry; so many at the end -/
def gap : Nat → List CpInfo → List CpInfo
  | 0, r => r
  | n + 1, r => .unusable :: gap n r
def poolList (es : List (Nat × CpInfo)) (last : Nat) : List CpInfo := es.foldr (fun e r => gap e.1 (e.2 :: r)) (gap last [])
def pool (es : List (Nat × CpInfo)) (last : Nat) : Array CpInfo := ⟨poolList es last⟩
def fileOf (pool : Array CpInfo) (this : Nat) (attrs : Array Attribute := #[]) (ms : Array MethodInfo := #[]) (fl : Nat := 33) (sup : Nat := 0) (ifs : Array Nat := #[]) (fds : Array FieldInfo := #[]) : ClassFile where
  minorVersion := 0
  majorVersion := 65
  constantPool := pool
  accessFlags := fl
  thisClass := this
  superClass := sup
  interfaces := ifs
  fields := fds
  methods := ms
  attributes := attrs
def plain (name : String) (sup : Option ClassId) : Class where
  name := name
  kind := .ordinary
  loader := none
  accessFlags := 33
  super := sup
  interfaces := #[]
  cf := none
  fields := #[]
  methods := #[]
  instanceTypes := #[]
  staticTypes := #[]
  resolved := #[]
  callSites := []
  init := .initialized
  statics := none
  mirror := none

def pool0 : Array CpInfo := pool [(5, u "<init>"), (0, u "()V"), (1, .class_ 10), (1, u "java/lang/Object")] 113

def k0c0 : Code := { maxStack := 0, maxLocals := 1, code := object_method_1_code, exceptionTable := #[], attributes := #[] }
def k0m0 : Method := { name := "<init>", desc := "()V", sig := { parameters := [], returnType := none }, accessFlags := 1, code := some k0c0 }
/-- java/lang/Object -/
def k0 : Class := { plain "java/lang/Object" none with
  accessFlags := 33
  interfaces := #[]
  cf := some (fileOf pool0 8 #[] #[{ accessFlags := 1, nameIndex := 5, descriptorIndex := 6, attributes := #[] }] 33 0 #[] #[])
  fields := #[]
  methods := #[k0m0]
  instanceTypes := #[]
  staticTypes := #[]
  resolved := Array.replicate 124 none
  statics := none }

def pool1 : Array CpInfo := pool [(2, .class_ 4), (1, u "java/lang/Object"), (0, u "<init>"), (0, u "()V"), (0, .class_ 8), (0, u "com/example/orbweaver/orbweaver/synthesis/Diagrams"), (0, .methodref 7 10), (0, .nameAndType 5 11), (0, u "(II)V"), (0, .class_ 13), (0, u "com/example/orbweaver/orbweaver/synthesis/Valuations"), (0, .methodref 12 15), (0, .nameAndType 5 16), (0, u "(Lcom/example/orbweaver/orbweaver/synthesis/Diagrams;I)V"), (0, .methodref 18 19), (0, .class_ 20), (0, .nameAndType 21 22), (0, u "java/lang/Integer"), (0, u "valueOf"), (0, u "(I)Ljava/lang/Integer;"), (0, .methodref 12 24), (0, .nameAndType 25 26), (0, u "equals"), (0, u "(Ljava/lang/Object;)Z"), (0, .class_ 28), (0, u "com/example/orbweaver/orbweaver/synthesis/ValuationsEqualsPinLaw"), (2, u "law"), (0, u "(III)Z")] 3

def k1m0 : Method := { name := "<init>", desc := "()V", sig := { parameters := [], returnType := none }, accessFlags := 2, code := none }
def k1c1 : Code := { maxStack := 7, maxLocals := 12, code := code, exceptionTable := #[], attributes := #[] }
def k1m1 : Method := { name := "law", desc := "(III)Z", sig := { parameters := [.int, .int, .int], returnType := some .boolean }, accessFlags := 9, code := some k1c1 }
/-- com/example/orbweaver/orbweaver/synthesis/ValuationsEqualsPinLaw -/
def k1 : Class := { plain "com/example/orbweaver/orbweaver/synthesis/ValuationsEqualsPinLaw" (some 0) with
  accessFlags := 49
  interfaces := #[]
  cf := some (fileOf pool1 27 #[] #[{ accessFlags := 2, nameIndex := 5, descriptorIndex := 6, attributes := #[] }, { accessFlags := 9, nameIndex := 31, descriptorIndex := 32, attributes := #[] }] 49 2 #[] #[])
  fields := #[]
  methods := #[k1m0, k1m1]
  instanceTypes := #[]
  staticTypes := #[]
  resolved := Array.replicate 36 none
  statics := none }

def pool2 : Array CpInfo := pool [(1, .methodref 2 3), (0, .class_ 4), (0, .nameAndType 5 6), (0, u "com/example/orbweaver/orbweaver/synthesis/Diagrams"), (0, u "<init>"), (0, u "(III)V"), (0, .methodref 8 9), (0, .class_ 10), (0, .nameAndType 5 11), (0, u "java/lang/Object"), (0, u "()V"), (0, .class_ 13), (0, u "com/example/orbweaver/orbweaver/synthesis/Diagrams$1"), (0, .methodref 12 15), (0, .nameAndType 5 16), (0, u "(Lcom/example/orbweaver/orbweaver/synthesis/Diagrams;)V"), (0, .fieldref 2 18), (0, .nameAndType 19 20), (0, u "logic"), (0, u "Lcom/example/orbweaver/orbweaver/spec/Logic;"), (0, .class_ 22), (0, u "com/example/orbweaver/orbweaver/synthesis/Valuations"), (0, .fieldref 2 24), (0, .nameAndType 25 26), (0, u "sets"), (0, u "[Lcom/example/orbweaver/orbweaver/synthesis/Valuations;"), (0, .fieldref 2 28), (0, .nameAndType 29 30), (0, u "work"), (0, u "[I"), (0, .fieldref 2 32), (0, .nameAndType 33 30), (0, u "results"), (0, .fieldref 2 35), (0, .nameAndType 36 37), (0, u "variables"), (0, u "I"), (0, .fieldref 2 39), (0, .nameAndType 40 37), (0, u "terms"), (0, .fieldref 2 42), (0, .nameAndType 43 37), (0, u "limit"), (0, .fieldref 2 45), (0, .nameAndType 46 30), (0, u "level"), (0, .fieldref 2 48), (0, .nameAndType 49 30), (0, u "low"), (0, .fieldref 2 51), (0, .nameAndType 52 30), (0, u "high"), (0, .fieldref 2 54), (0, .nameAndType 55 37), (0, u "size"), (0, .fieldref 2 57), (0, .nameAndType 58 30), (0, u "unique"), (0, .fieldref 2 60), (0, .nameAndType 61 30), (0, u "cache"), (0, .methodref 63 64), (0, .class_ 65), (0, .nameAndType 66 67), (0, u "java/util/Arrays"), (0, u "fill"), (0, u "([II)V"), (175, .class_ 244), (0, u "com/example/orbweaver/orbweaver/synthesis/Diagrams$Valuation"), (9, .class_ 255), (0, u "com/example/orbweaver/orbweaver/synthesis/Diagrams$TooLarge"), (5, u "FALSE"), (2, u "TRUE"), (1, u "AND"), (0, u "OR"), (0, u "IFF"), (1, u "RESTRICT"), (1, u "UNDECIDED"), (1, u "TO_DO"), (0, u "ENTRY"), (1, u "INITIAL_CAPACITY"), (3, u "(II)V")] 37

def k2c0 : Code := { maxStack := 4, maxLocals := 3, code := prog_81_method_1_code, exceptionTable := #[], attributes := #[] }
def k2m0 : Method := { name := "<init>", desc := "(II)V", sig := { parameters := [.int, .int], returnType := none }, accessFlags := 0, code := some k2c0 }
def k2c1 : Code := { maxStack := 4, maxLocals := 4, code := prog_81_method_2_code, exceptionTable := #[], attributes := #[] }
def k2m1 : Method := { name := "<init>", desc := "(III)V", sig := { parameters := [.int, .int, .int], returnType := none }, accessFlags := 0, code := some k2c1 }
/-- com/example/orbweaver/orbweaver/synthesis/Diagrams -/
def k2 : Class := { plain "com/example/orbweaver/orbweaver/synthesis/Diagrams" (some 0) with
  accessFlags := 48
  interfaces := #[]
  cf := some (fileOf pool2 2 #[.nestMembers #[243, 254, 12]] #[{ accessFlags := 0, nameIndex := 5, descriptorIndex := 281, attributes := #[] }, { accessFlags := 0, nameIndex := 5, descriptorIndex := 6, attributes := #[] }] 48 8 #[] #[{ accessFlags := 24, nameIndex := 261, descriptorIndex := 37, attributes := #[] }, { accessFlags := 24, nameIndex := 264, descriptorIndex := 37, attributes := #[] }, { accessFlags := 26, nameIndex := 266, descriptorIndex := 37, attributes := #[] }, { accessFlags := 26, nameIndex := 267, descriptorIndex := 37, attributes := #[] }, { accessFlags := 26, nameIndex := 268, descriptorIndex := 37, attributes := #[] }, { accessFlags := 26, nameIndex := 270, descriptorIndex := 37, attributes := #[] }, { accessFlags := 26, nameIndex := 272, descriptorIndex := 37, attributes := #[] }, { accessFlags := 26, nameIndex := 274, descriptorIndex := 37, attributes := #[] }, { accessFlags := 26, nameIndex := 275, descriptorIndex := 37, attributes := #[] }, { accessFlags := 26, nameIndex := 277, descriptorIndex := 37, attributes := #[] }, { accessFlags := 18, nameIndex := 19, descriptorIndex := 20, attributes := #[] }, { accessFlags := 18, nameIndex := 36, descriptorIndex := 37, attributes := #[] }, { accessFlags := 18, nameIndex := 40, descriptorIndex := 37, attributes := #[] }, { accessFlags := 2, nameIndex := 43, descriptorIndex := 37, attributes := #[] }, { accessFlags := 2, nameIndex := 46, descriptorIndex := 30, attributes := #[] }, { accessFlags := 2, nameIndex := 49, descriptorIndex := 30, attributes := #[] }, { accessFlags := 2, nameIndex := 52, descriptorIndex := 30, attributes := #[] }, { accessFlags := 2, nameIndex := 55, descriptorIndex := 37, attributes := #[] }, { accessFlags := 2, nameIndex := 58, descriptorIndex := 30, attributes := #[] }, { accessFlags := 2, nameIndex := 61, descriptorIndex := 30, attributes := #[] }, { accessFlags := 2, nameIndex := 25, descriptorIndex := 26, attributes := #[] }, { accessFlags := 2, nameIndex := 29, descriptorIndex := 30, attributes := #[] }, { accessFlags := 2, nameIndex := 33, descriptorIndex := 30, attributes := #[] }])
  fields := #[{ name := "FALSE", type := .int, accessFlags := 24, slot := 0, constantValue := 0 }, { name := "TRUE", type := .int, accessFlags := 24, slot := 1, constantValue := 0 }, { name := "AND", type := .int, accessFlags := 26, slot := 2, constantValue := 0 }, { name := "OR", type := .int, accessFlags := 26, slot := 3, constantValue := 0 }, { name := "IFF", type := .int, accessFlags := 26, slot := 4, constantValue := 0 }, { name := "RESTRICT", type := .int, accessFlags := 26, slot := 5, constantValue := 0 }, { name := "UNDECIDED", type := .int, accessFlags := 26, slot := 6, constantValue := 0 }, { name := "TO_DO", type := .int, accessFlags := 26, slot := 7, constantValue := 0 }, { name := "ENTRY", type := .int, accessFlags := 26, slot := 8, constantValue := 0 }, { name := "INITIAL_CAPACITY", type := .int, accessFlags := 26, slot := 9, constantValue := 0 }, { name := "logic", type := (.object "com/example/orbweaver/orbweaver/spec/Logic"), accessFlags := 18, slot := 0, constantValue := 0 }, { name := "variables", type := .int, accessFlags := 18, slot := 1, constantValue := 0 }, { name := "terms", type := .int, accessFlags := 18, slot := 2, constantValue := 0 }, { name := "limit", type := .int, accessFlags := 2, slot := 3, constantValue := 0 }, { name := "level", type := (.array .int), accessFlags := 2, slot := 4, constantValue := 0 }, { name := "low", type := (.array .int), accessFlags := 2, slot := 5, constantValue := 0 }, { name := "high", type := (.array .int), accessFlags := 2, slot := 6, constantValue := 0 }, { name := "size", type := .int, accessFlags := 2, slot := 7, constantValue := 0 }, { name := "unique", type := (.array .int), accessFlags := 2, slot := 8, constantValue := 0 }, { name := "cache", type := (.array .int), accessFlags := 2, slot := 9, constantValue := 0 }, { name := "sets", type := (.array (.object "com/example/orbweaver/orbweaver/synthesis/Valuations")), accessFlags := 2, slot := 10, constantValue := 0 }, { name := "work", type := (.array .int), accessFlags := 2, slot := 11, constantValue := 0 }, { name := "results", type := (.array .int), accessFlags := 2, slot := 12, constantValue := 0 }]
  methods := #[k2m0, k2m1]
  instanceTypes := #[(.object "com/example/orbweaver/orbweaver/spec/Logic"), .int, .int, .int, (.array .int), (.array .int), (.array .int), .int, (.array .int), (.array .int), (.array (.object "com/example/orbweaver/orbweaver/synthesis/Valuations")), (.array .int), (.array .int)]
  staticTypes := #[.int, .int, .int, .int, .int, .int, .int, .int, .int, .int]
  resolved := Array.replicate 319 none
  statics := none }

def pool3 : Array CpInfo := pool [(1, .class_ 2), (0, u "com/example/orbweaver/orbweaver/spec/Logic$1"), (5, .class_ 10), (1, u "com/example/orbweaver/orbweaver/spec/Logic"), (0, u "TRUTH"), (0, u "Lcom/example/orbweaver/orbweaver/spec/Logic;"), (0, .class_ 14), (0, u "java/lang/Object")] 21

/-- com/example/orbweaver/orbweaver/spec/Logic -/
def k3 : Class := { plain "com/example/orbweaver/orbweaver/spec/Logic" (some 0) with
  accessFlags := 1537
  interfaces := #[]
  cf := some (fileOf pool3 8 #[.nestMembers #[1]] #[] 1537 13 #[] #[{ accessFlags := 25, nameIndex := 11, descriptorIndex := 12, attributes := #[] }])
  fields := #[{ name := "TRUTH", type := (.object "com/example/orbweaver/orbweaver/spec/Logic"), accessFlags := 25, slot := 0, constantValue := 0 }]
  methods := #[]
  instanceTypes := #[]
  staticTypes := #[(.object "com/example/orbweaver/orbweaver/spec/Logic")]
  resolved := Array.replicate 36 none
  statics := none }

def pool4 : Array CpInfo := pool [(1, .class_ 2), (0, u "com/example/orbweaver/orbweaver/synthesis/Diagrams"), (0, .fieldref 4 5), (0, .class_ 6), (0, .nameAndType 7 8), (0, u "com/example/orbweaver/orbweaver/synthesis/Diagrams$1"), (0, u "this$0"), (0, u "Lcom/example/orbweaver/orbweaver/synthesis/Diagrams;"), (0, .methodref 10 11), (0, .class_ 12), (0, .nameAndType 13 14), (0, u "java/lang/Object"), (0, u "<init>"), (0, u "()V"), (38, .class_ 54), (0, u "com/example/orbweaver/orbweaver/spec/Logic"), (0, u "(Lcom/example/orbweaver/orbweaver/synthesis/Diagrams;)V")] 14

def k4c0 : Code := { maxStack := 2, maxLocals := 2, code := prog_82_method_1_code, exceptionTable := #[], attributes := #[] }
def k4m0 : Method := { name := "<init>", desc := "(Lcom/example/orbweaver/orbweaver/synthesis/Diagrams;)V", sig := { parameters := [(.object "com/example/orbweaver/orbweaver/synthesis/Diagrams")], returnType := none }, accessFlags := 0, code := some k4c0 }
/-- com/example/orbweaver/orbweaver/synthesis/Diagrams$1 -/
def k4 : Class := { plain "com/example/orbweaver/orbweaver/synthesis/Diagrams$1" (some 0) with
  accessFlags := 32
  interfaces := #[3]
  cf := some (fileOf pool4 4 #[.nestHost 1] #[{ accessFlags := 0, nameIndex := 13, descriptorIndex := 55, attributes := #[] }] 32 10 #[53] #[{ accessFlags := 4112, nameIndex := 7, descriptorIndex := 8, attributes := #[] }])
  fields := #[{ name := "this$0", type := (.object "com/example/orbweaver/orbweaver/synthesis/Diagrams"), accessFlags := 4112, slot := 0, constantValue := 0 }]
  methods := #[k4m0]
  instanceTypes := #[(.object "com/example/orbweaver/orbweaver/synthesis/Diagrams")]
  staticTypes := #[]
  resolved := Array.replicate 70 none
  statics := none }

def pool5 : Array CpInfo := pool [(1, .methodref 2 3), (0, .class_ 4), (0, .nameAndType 5 6), (0, u "java/lang/Object"), (0, u "<init>"), (0, u "()V"), (0, .fieldref 8 9), (0, .class_ 10), (0, .nameAndType 11 12), (0, u "com/example/orbweaver/orbweaver/synthesis/Valuations"), (0, u "diagrams"), (0, u "Lcom/example/orbweaver/orbweaver/synthesis/Diagrams;"), (0, .fieldref 8 14), (0, .nameAndType 15 16), (0, u "node"), (0, u "I"), (47, u "(Lcom/example/orbweaver/orbweaver/synthesis/Diagrams;I)V"), (10, u "equals"), (0, u "(Ljava/lang/Object;)Z")] 18

def k5c0 : Code := { maxStack := 2, maxLocals := 3, code := prog_96_method_1_code, exceptionTable := #[], attributes := #[] }
def k5m0 : Method := { name := "<init>", desc := "(Lcom/example/orbweaver/orbweaver/synthesis/Diagrams;I)V", sig := { parameters := [(.object "com/example/orbweaver/orbweaver/synthesis/Diagrams"), .int], returnType := none }, accessFlags := 0, code := some k5c0 }
def k5c1 : Code := { maxStack := 2, maxLocals := 3, code := prog_96_method_12_code, exceptionTable := #[], attributes := #[] }
def k5m1 : Method := { name := "equals", desc := "(Ljava/lang/Object;)Z", sig := { parameters := [(.object "java/lang/Object")], returnType := some .boolean }, accessFlags := 1, code := some k5c1 }
/-- com/example/orbweaver/orbweaver/synthesis/Valuations -/
def k5 : Class := { plain "com/example/orbweaver/orbweaver/synthesis/Valuations" (some 0) with
  accessFlags := 49
  interfaces := #[]
  cf := some (fileOf pool5 8 #[] #[{ accessFlags := 0, nameIndex := 5, descriptorIndex := 64, attributes := #[] }, { accessFlags := 1, nameIndex := 75, descriptorIndex := 76, attributes := #[] }] 49 2 #[] #[{ accessFlags := 18, nameIndex := 11, descriptorIndex := 12, attributes := #[] }, { accessFlags := 18, nameIndex := 15, descriptorIndex := 16, attributes := #[] }])
  fields := #[{ name := "diagrams", type := (.object "com/example/orbweaver/orbweaver/synthesis/Diagrams"), accessFlags := 18, slot := 0, constantValue := 0 }, { name := "node", type := .int, accessFlags := 18, slot := 1, constantValue := 0 }]
  methods := #[k5m0, k5m1]
  instanceTypes := #[(.object "com/example/orbweaver/orbweaver/synthesis/Diagrams"), .int]
  staticTypes := #[]
  resolved := Array.replicate 95 none
  statics := none }

def pool6 : Array CpInfo := pool [(2, .class_ 4), (1, u "java/lang/Object"), (0, u "<init>"), (0, u "()V"), (7, .class_ 16), (1, u "java/util/Arrays"), (57, .class_ 76), (1, u "java/util/Arrays$NaturalOrder"), (36, .class_ 115), (1, u "java/util/Arrays$LegacyMergeSort"), (1, u "Z"), (257, .class_ 376), (0, u "java/util/Arrays$ArrayList"), (68, u "$assertionsDisabled"), (269, u "MIN_ARRAY_SORT_GRAN"), (0, u "I"), (2, u "INSERTIONSORT_THRESHOLD"), (120, u "fill"), (4, u "([II)V"), (129, .class_ 976), (0, u "java/util/Arrays$ArrayItr")] 52

def k6m0 : Method := { name := "<init>", desc := "()V", sig := { parameters := [], returnType := none }, accessFlags := 2, code := none }
def k6c1 : Code := { maxStack := 3, maxLocals := 4, code := jdk_65_method_103_code, exceptionTable := #[], attributes := #[] }
def k6m1 : Method := { name := "fill", desc := "([II)V", sig := { parameters := [(.array .int), .int], returnType := none }, accessFlags := 9, code := some k6c1 }
/-- java/util/Arrays -/
def k6 : Class := { plain "java/util/Arrays" (some 0) with
  accessFlags := 49
  interfaces := #[]
  cf := some (fileOf pool6 14 #[.nestMembers #[975, 375, 113, 74]] #[{ accessFlags := 2, nameIndex := 5, descriptorIndex := 6, attributes := #[] }, { accessFlags := 9, nameIndex := 840, descriptorIndex := 845, attributes := #[] }] 49 2 #[] #[{ accessFlags := 26, nameIndex := 715, descriptorIndex := 716, attributes := #[] }, { accessFlags := 26, nameIndex := 719, descriptorIndex := 716, attributes := #[] }, { accessFlags := 4120, nameIndex := 445, descriptorIndex := 117, attributes := #[] }])
  fields := #[{ name := "MIN_ARRAY_SORT_GRAN", type := .int, accessFlags := 26, slot := 0, constantValue := 0 }, { name := "INSERTIONSORT_THRESHOLD", type := .int, accessFlags := 26, slot := 1, constantValue := 0 }, { name := "$assertionsDisabled", type := .boolean, accessFlags := 4120, slot := 2, constantValue := 0 }]
  methods := #[k6m0, k6m1]
  instanceTypes := #[]
  staticTypes := #[.int, .int, .boolean]
  resolved := Array.replicate 1029 none
  statics := none }

def pool7 : Array CpInfo := pool [(1, .class_ 2), (0, u "java/io/Serializable"), (0, .class_ 4), (0, u "java/lang/Object")] 2

/-- java/io/Serializable -/
def k7 : Class := { plain "java/io/Serializable" (some 0) with
  accessFlags := 1537
  interfaces := #[]
  cf := some (fileOf pool7 1 #[] #[] 1537 3 #[] #[])
  fields := #[]
  methods := #[]
  instanceTypes := #[]
  staticTypes := #[]
  resolved := Array.replicate 7 none
  statics := none }

def pool8 : Array CpInfo := pool [(1, .methodref 2 3), (0, .class_ 4), (0, .nameAndType 5 6), (0, u "java/lang/Object"), (0, u "<init>"), (0, u "()V"), (1, .class_ 10), (1, u "java/lang/Number"), (2, .class_ 14), (0, u "java/io/Serializable"), (0, u "serialVersionUID"), (0, u "J")] 20

def k8c0 : Code := { maxStack := 1, maxLocals := 1, code := jdk_18_method_1_code, exceptionTable := #[], attributes := #[] }
def k8m0 : Method := { name := "<init>", desc := "()V", sig := { parameters := [], returnType := none }, accessFlags := 1, code := some k8c0 }
/-- java/lang/Number -/
def k8 : Class := { plain "java/lang/Number" (some 0) with
  accessFlags := 1057
  interfaces := #[7]
  cf := some (fileOf pool8 8 #[] #[{ accessFlags := 1, nameIndex := 5, descriptorIndex := 6, attributes := #[] }] 1057 2 #[13] #[{ accessFlags := 26, nameIndex := 15, descriptorIndex := 16, attributes := #[] }])
  fields := #[{ name := "serialVersionUID", type := .long, accessFlags := 26, slot := 0, constantValue := 0 }]
  methods := #[k8m0]
  instanceTypes := #[]
  staticTypes := #[.long]
  resolved := Array.replicate 37 none
  statics := none }

def pool9 : Array CpInfo := pool [(1, .class_ 2), (0, u "java/lang/Comparable"), (0, .class_ 4), (0, u "java/lang/Object")] 7

/-- java/lang/Comparable -/
def k9 : Class := { plain "java/lang/Comparable" (some 0) with
  accessFlags := 1537
  interfaces := #[]
  cf := some (fileOf pool9 1 #[] #[] 1537 3 #[] #[])
  fields := #[]
  methods := #[]
  instanceTypes := #[]
  staticTypes := #[]
  resolved := Array.replicate 12 none
  statics := none }

def pool10 : Array CpInfo := pool [(1, .class_ 2), (0, u "java/lang/constant/Constable"), (0, .class_ 4), (0, u "java/lang/Object")] 6

/-- java/lang/constant/Constable -/
def k10 : Class := { plain "java/lang/constant/Constable" (some 0) with
  accessFlags := 1537
  interfaces := #[]
  cf := some (fileOf pool10 1 #[] #[] 1537 3 #[] #[])
  fields := #[]
  methods := #[]
  instanceTypes := #[]
  staticTypes := #[]
  resolved := Array.replicate 11 none
  statics := none }

def pool11 : Array CpInfo := pool [(1, .class_ 2), (0, u "java/lang/constant/ConstantDesc"), (0, .class_ 4), (0, u "java/lang/Object")] 32

/-- java/lang/constant/ConstantDesc -/
def k11 : Class := { plain "java/lang/constant/ConstantDesc" (some 0) with
  accessFlags := 1537
  interfaces := #[]
  cf := some (fileOf pool11 1 #[] #[] 1537 3 #[] #[])
  fields := #[]
  methods := #[]
  instanceTypes := #[]
  staticTypes := #[]
  resolved := Array.replicate 37 none
  statics := none }

def pool12 : Array CpInfo := pool [(1, .class_ 2), (0, u "java/lang/Integer"), (16, u "digits"), (0, u "[C"), (46, u "<init>"), (17, u "DigitOnes"), (0, u "[B"), (2, u "DigitTens"), (10, .nameAndType 67 101), (0, u "()V"), (85, u "valueOf"), (0, u "(I)Ljava/lang/Integer;"), (0, .class_ 190), (0, u "java/lang/Integer$IntegerCache"), (0, .fieldref 189 192), (0, .nameAndType 193 194), (0, u "high"), (0, u "I"), (0, .fieldref 189 196), (0, .nameAndType 197 198), (0, u "cache"), (0, u "[Ljava/lang/Integer;"), (0, .methodref 1 200), (0, .nameAndType 67 201), (0, u "(I)V"), (0, .methodref 203 100), (0, .class_ 204), (0, u "java/lang/Number"), (0, .fieldref 1 206), (0, .nameAndType 207 194), (0, u "value"), (94, u "TYPE"), (0, u "Ljava/lang/Class;"), (0, .class_ 305), (0, u "java/lang/Comparable"), (0, .class_ 307), (0, u "java/lang/constant/Constable"), (0, .class_ 309), (0, u "java/lang/constant/ConstantDesc"), (0, u "MIN_VALUE"), (1, u "MAX_VALUE"), (3, u "SIZE"), (1, u "BYTES"), (1, u "serialVersionUID"), (0, u "J")] 131

def k12c0 : Code := { maxStack := 3, maxLocals := 1, code := jdk_33_method_22_code, exceptionTable := #[], attributes := #[] }
def k12m0 : Method := { name := "valueOf", desc := "(I)Ljava/lang/Integer;", sig := { parameters := [.int], returnType := some (.object "java/lang/Integer") }, accessFlags := 9, code := some k12c0 }
def k12c1 : Code := { maxStack := 2, maxLocals := 2, code := jdk_33_method_23_code, exceptionTable := #[], attributes := #[] }
def k12m1 : Method := { name := "<init>", desc := "(I)V", sig := { parameters := [.int], returnType := none }, accessFlags := 1, code := some k12c1 }
/-- java/lang/Integer -/
def k12 : Class := { plain "java/lang/Integer" (some 8) with
  accessFlags := 49
  interfaces := #[9, 10, 11]
  cf := some (fileOf pool12 1 #[.nestMembers #[189]] #[{ accessFlags := 9, nameIndex := 187, descriptorIndex := 188, attributes := #[] }, { accessFlags := 1, nameIndex := 67, descriptorIndex := 201, attributes := #[] }] 49 203 #[304, 306, 308] #[{ accessFlags := 25, nameIndex := 310, descriptorIndex := 194, attributes := #[] }, { accessFlags := 25, nameIndex := 312, descriptorIndex := 194, attributes := #[] }, { accessFlags := 25, nameIndex := 302, descriptorIndex := 303, attributes := #[] }, { accessFlags := 24, nameIndex := 19, descriptorIndex := 20, attributes := #[] }, { accessFlags := 24, nameIndex := 89, descriptorIndex := 86, attributes := #[] }, { accessFlags := 24, nameIndex := 85, descriptorIndex := 86, attributes := #[] }, { accessFlags := 18, nameIndex := 207, descriptorIndex := 194, attributes := #[] }, { accessFlags := 25, nameIndex := 316, descriptorIndex := 194, attributes := #[] }, { accessFlags := 25, nameIndex := 318, descriptorIndex := 194, attributes := #[] }, { accessFlags := 26, nameIndex := 320, descriptorIndex := 321, attributes := #[] }])
  fields := #[{ name := "MIN_VALUE", type := .int, accessFlags := 25, slot := 0, constantValue := 0 }, { name := "MAX_VALUE", type := .int, accessFlags := 25, slot := 1, constantValue := 0 }, { name := "TYPE", type := (.object "java/lang/Class"), accessFlags := 25, slot := 2, constantValue := 0 }, { name := "digits", type := (.array .char), accessFlags := 24, slot := 3, constantValue := 0 }, { name := "DigitTens", type := (.array .byte), accessFlags := 24, slot := 4, constantValue := 0 }, { name := "DigitOnes", type := (.array .byte), accessFlags := 24, slot := 5, constantValue := 0 }, { name := "value", type := .int, accessFlags := 18, slot := 0, constantValue := 0 }, { name := "SIZE", type := .int, accessFlags := 25, slot := 6, constantValue := 0 }, { name := "BYTES", type := .int, accessFlags := 25, slot := 7, constantValue := 0 }, { name := "serialVersionUID", type := .long, accessFlags := 26, slot := 8, constantValue := 0 }]
  methods := #[k12m0, k12m1]
  instanceTypes := #[.int]
  staticTypes := #[.int, .int, (.object "java/lang/Class"), (.array .char), (.array .byte), (.array .byte), .int, .int, .long]
  resolved := Array.replicate 453 none
  statics := none }

def pool13 : Array CpInfo := pool [(2, .class_ 4), (1, u "java/lang/Object"), (0, u "<init>"), (0, u "()V"), (0, .class_ 8), (0, u "java/lang/Integer"), (7, .class_ 18), (1, u "java/lang/Integer$IntegerCache"), (0, u "$assertionsDisabled"), (0, u "Z"), (26, u "high"), (0, u "I"), (8, u "archivedCache"), (0, u "[Ljava/lang/Integer;"), (12, u "cache"), (0, u "low")] 27

def k13m0 : Method := { name := "<init>", desc := "()V", sig := { parameters := [], returnType := none }, accessFlags := 2, code := none }
/-- java/lang/Integer$IntegerCache -/
def k13 : Class := { plain "java/lang/Integer$IntegerCache" (some 0) with
  accessFlags := 48
  interfaces := #[]
  cf := some (fileOf pool13 16 #[.nestHost 7] #[{ accessFlags := 2, nameIndex := 5, descriptorIndex := 6, attributes := #[] }] 48 2 #[] #[{ accessFlags := 24, nameIndex := 72, descriptorIndex := 48, attributes := #[] }, { accessFlags := 24, nameIndex := 47, descriptorIndex := 48, attributes := #[] }, { accessFlags := 24, nameIndex := 71, descriptorIndex := 58, attributes := #[] }, { accessFlags := 8, nameIndex := 57, descriptorIndex := 58, attributes := #[] }, { accessFlags := 4120, nameIndex := 19, descriptorIndex := 20, attributes := #[] }])
  fields := #[{ name := "low", type := .int, accessFlags := 24, slot := 0, constantValue := 0 }, { name := "high", type := .int, accessFlags := 24, slot := 1, constantValue := 0 }, { name := "cache", type := (.array (.object "java/lang/Integer")), accessFlags := 24, slot := 2, constantValue := 0 }, { name := "archivedCache", type := (.array (.object "java/lang/Integer")), accessFlags := 8, slot := 3, constantValue := 0 }, { name := "$assertionsDisabled", type := .boolean, accessFlags := 4120, slot := 4, constantValue := 0 }]
  methods := #[k13m0]
  instanceTypes := #[]
  staticTypes := #[.int, .int, (.array (.object "java/lang/Integer")), (.array (.object "java/lang/Integer")), .boolean]
  resolved := Array.replicate 100 none
  statics := some 0 }

def pool14 : Array CpInfo := pool [(1, u "java/lang/Cloneable"), (0, .class_ 1), (0, u "java/lang/Object"), (0, .class_ 3)] 3

/-- java/lang/Cloneable -/
def k14 : Class := { plain "java/lang/Cloneable" (some 0) with
  accessFlags := 1537
  interfaces := #[]
  cf := some (fileOf pool14 2 #[] #[] 1537 4 #[] #[])
  fields := #[]
  methods := #[]
  instanceTypes := #[]
  staticTypes := #[]
  resolved := Array.replicate 8 none
  statics := none }

/-- the primitive byte -/
def k15 : Class := { plain "byte" none with kind := .primitive 'B', accessFlags := 0x411 }
/-- [B -/
def k16 : Class := { plain "[B" (some 0) with kind := .array 15 .byte, interfaces := #[14, 7], accessFlags := 1041 }

/-- the primitive int -/
def k17 : Class := { plain "int" none with kind := .primitive 'I', accessFlags := 0x411 }
/-- [I -/
def k18 : Class := { plain "[I" (some 0) with kind := .array 17 .int, interfaces := #[14, 7], accessFlags := 1041 }

/-- [Lcom/example/orbweaver/orbweaver/synthesis/Valuations; -/
def k19 : Class := { plain "[Lcom/example/orbweaver/orbweaver/synthesis/Valuations;" (some 0) with kind := .array 5 (.object "com/example/orbweaver/orbweaver/synthesis/Valuations"), interfaces := #[14, 7], accessFlags := 1041 }

/-- [Ljava/lang/Integer; -/
def k20 : Class := { plain "[Ljava/lang/Integer;" (some 0) with kind := .array 12 (.object "java/lang/Integer"), interfaces := #[14, 7], accessFlags := 1041 }

def heap : Heap := #[{ cls := 13, slots := #[.int 0, .int 127, .ref 1, .null, .int 0], vm := .statics 13 },
  { cls := 20, slots := #[.ref 2, .ref 3, .ref 4, .ref 5, .ref 6, .ref 7, .ref 8, .ref 9, .ref 10, .ref 11, .ref 12, .ref 13, .ref 14, .ref 15, .ref 16, .ref 17, .ref 18, .ref 19, .ref 20, .ref 21, .ref 22, .ref 23, .ref 24, .ref 25, .ref 26, .ref 27, .ref 28, .ref 29, .ref 30, .ref 31, .ref 32, .ref 33, .ref 34, .ref 35, .ref 36, .ref 37, .ref 38, .ref 39, .ref 40, .ref 41, .ref 42, .ref 43, .ref 44, .ref 45, .ref 46, .ref 47, .ref 48, .ref 49, .ref 50, .ref 51, .ref 52, .ref 53, .ref 54, .ref 55, .ref 56, .ref 57, .ref 58, .ref 59, .ref 60, .ref 61, .ref 62, .ref 63, .ref 64, .ref 65, .ref 66, .ref 67, .ref 68, .ref 69, .ref 70, .ref 71, .ref 72, .ref 73, .ref 74, .ref 75, .ref 76, .ref 77, .ref 78, .ref 79, .ref 80, .ref 81, .ref 82, .ref 83, .ref 84, .ref 85, .ref 86, .ref 87, .ref 88, .ref 89, .ref 90, .ref 91, .ref 92, .ref 93, .ref 94, .ref 95, .ref 96, .ref 97, .ref 98, .ref 99, .ref 100, .ref 101, .ref 102, .ref 103, .ref 104, .ref 105, .ref 106, .ref 107, .ref 108, .ref 109, .ref 110, .ref 111, .ref 112, .ref 113, .ref 114, .ref 115, .ref 116, .ref 117, .ref 118, .ref 119, .ref 120, .ref 121, .ref 122, .ref 123, .ref 124, .ref 125, .ref 126, .ref 127, .ref 128, .ref 129, .ref 130, .ref 131, .ref 132, .ref 133, .ref 134, .ref 135, .ref 136, .ref 137, .ref 138, .ref 139, .ref 140, .ref 141, .ref 142, .ref 143, .ref 144, .ref 145, .ref 146, .ref 147, .ref 148, .ref 149, .ref 150, .ref 151, .ref 152, .ref 153, .ref 154, .ref 155, .ref 156, .ref 157, .ref 158, .ref 159, .ref 160, .ref 161, .ref 162, .ref 163, .ref 164, .ref 165, .ref 166, .ref 167, .ref 168, .ref 169, .ref 170, .ref 171, .ref 172, .ref 173, .ref 174, .ref 175, .ref 176, .ref 177, .ref 178, .ref 179, .ref 180, .ref 181, .ref 182, .ref 183, .ref 184, .ref 185, .ref 186, .ref 187, .ref 188, .ref 189, .ref 190, .ref 191, .ref 192, .ref 193, .ref 194, .ref 195, .ref 196, .ref 197, .ref 198, .ref 199, .ref 200, .ref 201, .ref 202, .ref 203, .ref 204, .ref 205, .ref 206, .ref 207, .ref 208, .ref 209, .ref 210, .ref 211, .ref 212, .ref 213, .ref 214, .ref 215, .ref 216, .ref 217, .ref 218, .ref 219, .ref 220, .ref 221, .ref 222, .ref 223, .ref 224, .ref 225, .ref 226, .ref 227, .ref 228, .ref 229, .ref 230, .ref 231, .ref 232, .ref 233, .ref 234, .ref 235, .ref 236, .ref 237, .ref 238, .ref 239, .ref 240, .ref 241, .ref 242, .ref 243, .ref 244, .ref 245, .ref 246, .ref 247, .ref 248, .ref 249, .ref 250, .ref 251, .ref 252, .ref 253, .ref 254, .ref 255, .ref 256, .ref 257], vm := .none },
  { cls := 12, slots := #[.int (-128)], vm := .none },
  { cls := 12, slots := #[.int (-127)], vm := .none },
  { cls := 12, slots := #[.int (-126)], vm := .none },
  { cls := 12, slots := #[.int (-125)], vm := .none },
  { cls := 12, slots := #[.int (-124)], vm := .none },
  { cls := 12, slots := #[.int (-123)], vm := .none },
  { cls := 12, slots := #[.int (-122)], vm := .none },
  { cls := 12, slots := #[.int (-121)], vm := .none },
  { cls := 12, slots := #[.int (-120)], vm := .none },
  { cls := 12, slots := #[.int (-119)], vm := .none },
  { cls := 12, slots := #[.int (-118)], vm := .none },
  { cls := 12, slots := #[.int (-117)], vm := .none },
  { cls := 12, slots := #[.int (-116)], vm := .none },
  { cls := 12, slots := #[.int (-115)], vm := .none },
  { cls := 12, slots := #[.int (-114)], vm := .none },
  { cls := 12, slots := #[.int (-113)], vm := .none },
  { cls := 12, slots := #[.int (-112)], vm := .none },
  { cls := 12, slots := #[.int (-111)], vm := .none },
  { cls := 12, slots := #[.int (-110)], vm := .none },
  { cls := 12, slots := #[.int (-109)], vm := .none },
  { cls := 12, slots := #[.int (-108)], vm := .none },
  { cls := 12, slots := #[.int (-107)], vm := .none },
  { cls := 12, slots := #[.int (-106)], vm := .none },
  { cls := 12, slots := #[.int (-105)], vm := .none },
  { cls := 12, slots := #[.int (-104)], vm := .none },
  { cls := 12, slots := #[.int (-103)], vm := .none },
  { cls := 12, slots := #[.int (-102)], vm := .none },
  { cls := 12, slots := #[.int (-101)], vm := .none },
  { cls := 12, slots := #[.int (-100)], vm := .none },
  { cls := 12, slots := #[.int (-99)], vm := .none },
  { cls := 12, slots := #[.int (-98)], vm := .none },
  { cls := 12, slots := #[.int (-97)], vm := .none },
  { cls := 12, slots := #[.int (-96)], vm := .none },
  { cls := 12, slots := #[.int (-95)], vm := .none },
  { cls := 12, slots := #[.int (-94)], vm := .none },
  { cls := 12, slots := #[.int (-93)], vm := .none },
  { cls := 12, slots := #[.int (-92)], vm := .none },
  { cls := 12, slots := #[.int (-91)], vm := .none },
  { cls := 12, slots := #[.int (-90)], vm := .none },
  { cls := 12, slots := #[.int (-89)], vm := .none },
  { cls := 12, slots := #[.int (-88)], vm := .none },
  { cls := 12, slots := #[.int (-87)], vm := .none },
  { cls := 12, slots := #[.int (-86)], vm := .none },
  { cls := 12, slots := #[.int (-85)], vm := .none },
  { cls := 12, slots := #[.int (-84)], vm := .none },
  { cls := 12, slots := #[.int (-83)], vm := .none },
  { cls := 12, slots := #[.int (-82)], vm := .none },
  { cls := 12, slots := #[.int (-81)], vm := .none },
  { cls := 12, slots := #[.int (-80)], vm := .none },
  { cls := 12, slots := #[.int (-79)], vm := .none },
  { cls := 12, slots := #[.int (-78)], vm := .none },
  { cls := 12, slots := #[.int (-77)], vm := .none },
  { cls := 12, slots := #[.int (-76)], vm := .none },
  { cls := 12, slots := #[.int (-75)], vm := .none },
  { cls := 12, slots := #[.int (-74)], vm := .none },
  { cls := 12, slots := #[.int (-73)], vm := .none },
  { cls := 12, slots := #[.int (-72)], vm := .none },
  { cls := 12, slots := #[.int (-71)], vm := .none },
  { cls := 12, slots := #[.int (-70)], vm := .none },
  { cls := 12, slots := #[.int (-69)], vm := .none },
  { cls := 12, slots := #[.int (-68)], vm := .none },
  { cls := 12, slots := #[.int (-67)], vm := .none },
  { cls := 12, slots := #[.int (-66)], vm := .none },
  { cls := 12, slots := #[.int (-65)], vm := .none },
  { cls := 12, slots := #[.int (-64)], vm := .none },
  { cls := 12, slots := #[.int (-63)], vm := .none },
  { cls := 12, slots := #[.int (-62)], vm := .none },
  { cls := 12, slots := #[.int (-61)], vm := .none },
  { cls := 12, slots := #[.int (-60)], vm := .none },
  { cls := 12, slots := #[.int (-59)], vm := .none },
  { cls := 12, slots := #[.int (-58)], vm := .none },
  { cls := 12, slots := #[.int (-57)], vm := .none },
  { cls := 12, slots := #[.int (-56)], vm := .none },
  { cls := 12, slots := #[.int (-55)], vm := .none },
  { cls := 12, slots := #[.int (-54)], vm := .none },
  { cls := 12, slots := #[.int (-53)], vm := .none },
  { cls := 12, slots := #[.int (-52)], vm := .none },
  { cls := 12, slots := #[.int (-51)], vm := .none },
  { cls := 12, slots := #[.int (-50)], vm := .none },
  { cls := 12, slots := #[.int (-49)], vm := .none },
  { cls := 12, slots := #[.int (-48)], vm := .none },
  { cls := 12, slots := #[.int (-47)], vm := .none },
  { cls := 12, slots := #[.int (-46)], vm := .none },
  { cls := 12, slots := #[.int (-45)], vm := .none },
  { cls := 12, slots := #[.int (-44)], vm := .none },
  { cls := 12, slots := #[.int (-43)], vm := .none },
  { cls := 12, slots := #[.int (-42)], vm := .none },
  { cls := 12, slots := #[.int (-41)], vm := .none },
  { cls := 12, slots := #[.int (-40)], vm := .none },
  { cls := 12, slots := #[.int (-39)], vm := .none },
  { cls := 12, slots := #[.int (-38)], vm := .none },
  { cls := 12, slots := #[.int (-37)], vm := .none },
  { cls := 12, slots := #[.int (-36)], vm := .none },
  { cls := 12, slots := #[.int (-35)], vm := .none },
  { cls := 12, slots := #[.int (-34)], vm := .none },
  { cls := 12, slots := #[.int (-33)], vm := .none },
  { cls := 12, slots := #[.int (-32)], vm := .none },
  { cls := 12, slots := #[.int (-31)], vm := .none },
  { cls := 12, slots := #[.int (-30)], vm := .none },
  { cls := 12, slots := #[.int (-29)], vm := .none },
  { cls := 12, slots := #[.int (-28)], vm := .none },
  { cls := 12, slots := #[.int (-27)], vm := .none },
  { cls := 12, slots := #[.int (-26)], vm := .none },
  { cls := 12, slots := #[.int (-25)], vm := .none },
  { cls := 12, slots := #[.int (-24)], vm := .none },
  { cls := 12, slots := #[.int (-23)], vm := .none },
  { cls := 12, slots := #[.int (-22)], vm := .none },
  { cls := 12, slots := #[.int (-21)], vm := .none },
  { cls := 12, slots := #[.int (-20)], vm := .none },
  { cls := 12, slots := #[.int (-19)], vm := .none },
  { cls := 12, slots := #[.int (-18)], vm := .none },
  { cls := 12, slots := #[.int (-17)], vm := .none },
  { cls := 12, slots := #[.int (-16)], vm := .none },
  { cls := 12, slots := #[.int (-15)], vm := .none },
  { cls := 12, slots := #[.int (-14)], vm := .none },
  { cls := 12, slots := #[.int (-13)], vm := .none },
  { cls := 12, slots := #[.int (-12)], vm := .none },
  { cls := 12, slots := #[.int (-11)], vm := .none },
  { cls := 12, slots := #[.int (-10)], vm := .none },
  { cls := 12, slots := #[.int (-9)], vm := .none },
  { cls := 12, slots := #[.int (-8)], vm := .none },
  { cls := 12, slots := #[.int (-7)], vm := .none },
  { cls := 12, slots := #[.int (-6)], vm := .none },
  { cls := 12, slots := #[.int (-5)], vm := .none },
  { cls := 12, slots := #[.int (-4)], vm := .none },
  { cls := 12, slots := #[.int (-3)], vm := .none },
  { cls := 12, slots := #[.int (-2)], vm := .none },
  { cls := 12, slots := #[.int (-1)], vm := .none },
  { cls := 12, slots := #[.int 0], vm := .none },
  { cls := 12, slots := #[.int 1], vm := .none },
  { cls := 12, slots := #[.int 2], vm := .none },
  { cls := 12, slots := #[.int 3], vm := .none },
  { cls := 12, slots := #[.int 4], vm := .none },
  { cls := 12, slots := #[.int 5], vm := .none },
  { cls := 12, slots := #[.int 6], vm := .none },
  { cls := 12, slots := #[.int 7], vm := .none },
  { cls := 12, slots := #[.int 8], vm := .none },
  { cls := 12, slots := #[.int 9], vm := .none },
  { cls := 12, slots := #[.int 10], vm := .none },
  { cls := 12, slots := #[.int 11], vm := .none },
  { cls := 12, slots := #[.int 12], vm := .none },
  { cls := 12, slots := #[.int 13], vm := .none },
  { cls := 12, slots := #[.int 14], vm := .none },
  { cls := 12, slots := #[.int 15], vm := .none },
  { cls := 12, slots := #[.int 16], vm := .none },
  { cls := 12, slots := #[.int 17], vm := .none },
  { cls := 12, slots := #[.int 18], vm := .none },
  { cls := 12, slots := #[.int 19], vm := .none },
  { cls := 12, slots := #[.int 20], vm := .none },
  { cls := 12, slots := #[.int 21], vm := .none },
  { cls := 12, slots := #[.int 22], vm := .none },
  { cls := 12, slots := #[.int 23], vm := .none },
  { cls := 12, slots := #[.int 24], vm := .none },
  { cls := 12, slots := #[.int 25], vm := .none },
  { cls := 12, slots := #[.int 26], vm := .none },
  { cls := 12, slots := #[.int 27], vm := .none },
  { cls := 12, slots := #[.int 28], vm := .none },
  { cls := 12, slots := #[.int 29], vm := .none },
  { cls := 12, slots := #[.int 30], vm := .none },
  { cls := 12, slots := #[.int 31], vm := .none },
  { cls := 12, slots := #[.int 32], vm := .none },
  { cls := 12, slots := #[.int 33], vm := .none },
  { cls := 12, slots := #[.int 34], vm := .none },
  { cls := 12, slots := #[.int 35], vm := .none },
  { cls := 12, slots := #[.int 36], vm := .none },
  { cls := 12, slots := #[.int 37], vm := .none },
  { cls := 12, slots := #[.int 38], vm := .none },
  { cls := 12, slots := #[.int 39], vm := .none },
  { cls := 12, slots := #[.int 40], vm := .none },
  { cls := 12, slots := #[.int 41], vm := .none },
  { cls := 12, slots := #[.int 42], vm := .none },
  { cls := 12, slots := #[.int 43], vm := .none },
  { cls := 12, slots := #[.int 44], vm := .none },
  { cls := 12, slots := #[.int 45], vm := .none },
  { cls := 12, slots := #[.int 46], vm := .none },
  { cls := 12, slots := #[.int 47], vm := .none },
  { cls := 12, slots := #[.int 48], vm := .none },
  { cls := 12, slots := #[.int 49], vm := .none },
  { cls := 12, slots := #[.int 50], vm := .none },
  { cls := 12, slots := #[.int 51], vm := .none },
  { cls := 12, slots := #[.int 52], vm := .none },
  { cls := 12, slots := #[.int 53], vm := .none },
  { cls := 12, slots := #[.int 54], vm := .none },
  { cls := 12, slots := #[.int 55], vm := .none },
  { cls := 12, slots := #[.int 56], vm := .none },
  { cls := 12, slots := #[.int 57], vm := .none },
  { cls := 12, slots := #[.int 58], vm := .none },
  { cls := 12, slots := #[.int 59], vm := .none },
  { cls := 12, slots := #[.int 60], vm := .none },
  { cls := 12, slots := #[.int 61], vm := .none },
  { cls := 12, slots := #[.int 62], vm := .none },
  { cls := 12, slots := #[.int 63], vm := .none },
  { cls := 12, slots := #[.int 64], vm := .none },
  { cls := 12, slots := #[.int 65], vm := .none },
  { cls := 12, slots := #[.int 66], vm := .none },
  { cls := 12, slots := #[.int 67], vm := .none },
  { cls := 12, slots := #[.int 68], vm := .none },
  { cls := 12, slots := #[.int 69], vm := .none },
  { cls := 12, slots := #[.int 70], vm := .none },
  { cls := 12, slots := #[.int 71], vm := .none },
  { cls := 12, slots := #[.int 72], vm := .none },
  { cls := 12, slots := #[.int 73], vm := .none },
  { cls := 12, slots := #[.int 74], vm := .none },
  { cls := 12, slots := #[.int 75], vm := .none },
  { cls := 12, slots := #[.int 76], vm := .none },
  { cls := 12, slots := #[.int 77], vm := .none },
  { cls := 12, slots := #[.int 78], vm := .none },
  { cls := 12, slots := #[.int 79], vm := .none },
  { cls := 12, slots := #[.int 80], vm := .none },
  { cls := 12, slots := #[.int 81], vm := .none },
  { cls := 12, slots := #[.int 82], vm := .none },
  { cls := 12, slots := #[.int 83], vm := .none },
  { cls := 12, slots := #[.int 84], vm := .none },
  { cls := 12, slots := #[.int 85], vm := .none },
  { cls := 12, slots := #[.int 86], vm := .none },
  { cls := 12, slots := #[.int 87], vm := .none },
  { cls := 12, slots := #[.int 88], vm := .none },
  { cls := 12, slots := #[.int 89], vm := .none },
  { cls := 12, slots := #[.int 90], vm := .none },
  { cls := 12, slots := #[.int 91], vm := .none },
  { cls := 12, slots := #[.int 92], vm := .none },
  { cls := 12, slots := #[.int 93], vm := .none },
  { cls := 12, slots := #[.int 94], vm := .none },
  { cls := 12, slots := #[.int 95], vm := .none },
  { cls := 12, slots := #[.int 96], vm := .none },
  { cls := 12, slots := #[.int 97], vm := .none },
  { cls := 12, slots := #[.int 98], vm := .none },
  { cls := 12, slots := #[.int 99], vm := .none },
  { cls := 12, slots := #[.int 100], vm := .none },
  { cls := 12, slots := #[.int 101], vm := .none },
  { cls := 12, slots := #[.int 102], vm := .none },
  { cls := 12, slots := #[.int 103], vm := .none },
  { cls := 12, slots := #[.int 104], vm := .none },
  { cls := 12, slots := #[.int 105], vm := .none },
  { cls := 12, slots := #[.int 106], vm := .none },
  { cls := 12, slots := #[.int 107], vm := .none },
  { cls := 12, slots := #[.int 108], vm := .none },
  { cls := 12, slots := #[.int 109], vm := .none },
  { cls := 12, slots := #[.int 110], vm := .none },
  { cls := 12, slots := #[.int 111], vm := .none },
  { cls := 12, slots := #[.int 112], vm := .none },
  { cls := 12, slots := #[.int 113], vm := .none },
  { cls := 12, slots := #[.int 114], vm := .none },
  { cls := 12, slots := #[.int 115], vm := .none },
  { cls := 12, slots := #[.int 116], vm := .none },
  { cls := 12, slots := #[.int 117], vm := .none },
  { cls := 12, slots := #[.int 118], vm := .none },
  { cls := 12, slots := #[.int 119], vm := .none },
  { cls := 12, slots := #[.int 120], vm := .none },
  { cls := 12, slots := #[.int 121], vm := .none },
  { cls := 12, slots := #[.int 122], vm := .none },
  { cls := 12, slots := #[.int 123], vm := .none },
  { cls := 12, slots := #[.int 124], vm := .none },
  { cls := 12, slots := #[.int 125], vm := .none },
  { cls := 12, slots := #[.int 126], vm := .none },
  { cls := 12, slots := #[.int 127], vm := .none }]
def classes : Array Class := #[k0, k1, k2, k3, k4, k5, k6, k7, k8, k9, k10, k11, k12, k13, k14, k15, k16, k17, k18, k19, k20]
def interned : List (Array UInt16 × Addr) := []
def slotsUsed : Nat := 517
def theMethod : MethodId := ⟨1, 1⟩
def args0 : Array Value := #[.int 5, .int 7, .int 0]
def aboutOver (below : List Frame) : State where
  vm := { classes := classes, interned := interned.toArray }
  heap := heap
  slotsUsed := slotsUsed
  threads := #[{ frames := .invoking theMethod args0 :: below }]
def below0 : List Frame := [.native { method := ⟨0, 0⟩, args := #[] }]
def about1 : State := aboutOver below0
def p0 : Program := .bare "" "" ""
def e0 : Env := launch0.env 0 0 0
theorem w_frames : about1.frames = Frame.invoking theMethod args0 :: below0 := rfl
set_option maxRecDepth 65536 in
theorem w_args : argsFit about1.vm theMethod args0 = true := by decide +kernel
set_option maxRecDepth 65536 in
theorem w_heap : heapFits about1 = true := by decide +kernel
set_option maxRecDepth 65536 in
theorem w_runnable : about1.curStatus? = some .runnable := by decide +kernel
set_option maxRecDepth 65536 in
theorem w_alone : about1.alone = true := by decide +kernel
set_option maxRecDepth 65536 in
theorem w_named : about1.methodNamed? x = some theMethod := by decide +kernel
set_option maxRecDepth 65536 in
theorem w_hears : about1.hears theMethod below0 = true := by decide +kernel
set_option maxRecDepth 65536 in
theorem w_ripe : about1.ripe theMethod args0 below0 = true := by decide +kernel
theorem w_running : about1.status = .running := rfl
set_option maxRecDepth 65536 in
theorem w_room : about1.hasRoom e0.platform room_1 = true :=
  launch0.hasRoom_least _ room_1 (by decide +kernel) (by decide +kernel) (by decide +kernel) (by decide +kernel) (by decide +kernel) (by decide +kernel)
theorem allAtoms_all (ts : List Jvm.Cond) (a : Array Jvm.Value) (st : Jvm.State) : (allAtoms ts).before a st = ts.all (fun c => c.before a st) := by
  induction ts with
  | nil => rfl
  | cons c t ih =>
    show (Jvm.Cond.and c (allAtoms t)).before a st = _
    rw [Jvm.Cond.before_and, ih, List.all_cons]
def words1 : List Jvm.Cond := Jvm.Cond.code x code maxLocals ret :: tables_1
/-- a 'code' word, met by the world's own term for the bytes: nothing is compared byte by byte -/
theorem code_word {y : MethodName} {bytes : ByteArray} {mx : Nat} {rt : Option FieldType} {a : Array Value} {s : State} {m : MethodId} {meth : Method} {c : Code} (h1 : s.methodNamed? y = some m) (h2 : s.vm.method? m = some meth) (h3 : meth.code = some c) (h4 : c.code = bytes)
    (h5 : (c.maxLocals == mx && c.exceptionTable.isEmpty && decide (c.maxStack ≤ mostOperands) && decide (meth.sig.returnType = rt) && !meth.locks && decide (parseMethodDescriptor y.desc = some meth.sig)) = true) : (Jvm.Cond.code y bytes mx rt).before a s = true := by
  simp only [Bool.and_eq_true, beq_iff_eq, Bool.not_eq_true', decide_eq_true_eq] at h5
  obtain ⟨⟨⟨⟨⟨g1, g2⟩, g3⟩, g4⟩, g5⟩, g6⟩ := h5
  simp [Cond.before, Cond.holds, Cond.value, h1, h2, h3, h4, g1, g2, g3, g4, g5, g6]
def isCode : Jvm.Cond → Bool
  | .code _ _ _ _ => true
  | _ => false
theorem all_split {L : List Jvm.Cond} {P : Jvm.Cond → Bool} (h1 : L.all (fun c => isCode c || P c) = true) (h2 : ∀ c ∈ L.filter isCode, P c = true) : L.all P = true := by
  refine List.all_eq_true.mpr fun c hc => ?_
  have h := List.all_eq_true.mp h1 c hc
  rcases Bool.eq_false_or_eq_true (isCode c) with hi | hi
  · exact h2 c (List.mem_filter.mpr ⟨hc, hi⟩)
  · simpa [hi] using h
set_option maxRecDepth 65536 in
theorem w_c0 : (Jvm.Cond.code x code maxLocals ret).before args0 about1 = true := code_word (m := ⟨1, 1⟩) (meth := k1m1) (c := k1c1) (by decide +kernel) rfl rfl rfl (by decide +kernel)
set_option maxRecDepth 65536 in
theorem w_c1 : (Jvm.Cond.code ({ cls := "com/example/orbweaver/orbweaver/synthesis/Diagrams", name := "<init>", desc := "(II)V" } : Jvm.MethodName) prog_81_method_1_code (3 : Nat) (Option.none : Option Jvm.ClassFile.FieldType)).before args0 about1 = true := code_word (m := ⟨2, 0⟩) (meth := k2m0) (c := k2c0) (by decide +kernel) rfl rfl rfl (by decide +kernel)
set_option maxRecDepth 65536 in
theorem w_c2 : (Jvm.Cond.code ({ cls := "com/example/orbweaver/orbweaver/synthesis/Diagrams", name := "<init>", desc := "(III)V" } : Jvm.MethodName) prog_81_method_2_code (4 : Nat) (Option.none : Option Jvm.ClassFile.FieldType)).before args0 about1 = true := code_word (m := ⟨2, 1⟩) (meth := k2m1) (c := k2c1) (by decide +kernel) rfl rfl rfl (by decide +kernel)
set_option maxRecDepth 65536 in
theorem w_c3 : (Jvm.Cond.code ({ cls := "java/lang/Object", name := "<init>", desc := "()V" } : Jvm.MethodName) object_method_1_code (1 : Nat) (Option.none : Option Jvm.ClassFile.FieldType)).before args0 about1 = true := code_word (m := ⟨0, 0⟩) (meth := k0m0) (c := k0c0) (by decide +kernel) rfl rfl rfl (by decide +kernel)
set_option maxRecDepth 65536 in
theorem w_c4 : (Jvm.Cond.code ({ cls := "com/example/orbweaver/orbweaver/synthesis/Diagrams$1", name := "<init>", desc := "(Lcom/example/orbweaver/orbweaver/synthesis/Diagrams;)V" } : Jvm.MethodName) prog_82_method_1_code (2 : Nat) (Option.none : Option Jvm.ClassFile.FieldType)).before args0 about1 = true := code_word (m := ⟨4, 0⟩) (meth := k4m0) (c := k4c0) (by decide +kernel) rfl rfl rfl (by decide +kernel)
set_option maxRecDepth 65536 in
theorem w_c5 : (Jvm.Cond.code ({ cls := "java/util/Arrays", name := "fill", desc := "([II)V" } : Jvm.MethodName) jdk_65_method_103_code (4 : Nat) (Option.none : Option Jvm.ClassFile.FieldType)).before args0 about1 = true := code_word (m := ⟨6, 1⟩) (meth := k6m1) (c := k6c1) (by decide +kernel) rfl rfl rfl (by decide +kernel)
set_option maxRecDepth 65536 in
theorem w_c6 : (Jvm.Cond.code ({ cls := "com/example/orbweaver/orbweaver/synthesis/Valuations", name := "<init>", desc := "(Lcom/example/orbweaver/orbweaver/synthesis/Diagrams;I)V" } : Jvm.MethodName) prog_96_method_1_code (3 : Nat) (Option.none : Option Jvm.ClassFile.FieldType)).before args0 about1 = true := code_word (m := ⟨5, 0⟩) (meth := k5m0) (c := k5c0) (by decide +kernel) rfl rfl rfl (by decide +kernel)
set_option maxRecDepth 65536 in
theorem w_c7 : (Jvm.Cond.code ({ cls := "com/example/orbweaver/orbweaver/synthesis/Valuations", name := "equals", desc := "(Ljava/lang/Object;)Z" } : Jvm.MethodName) prog_96_method_12_code (3 : Nat) (Option.some Jvm.ClassFile.FieldType.boolean)).before args0 about1 = true := code_word (m := ⟨5, 1⟩) (meth := k5m1) (c := k5c1) (by decide +kernel) rfl rfl rfl (by decide +kernel)
set_option maxRecDepth 65536 in
theorem w_c8 : (Jvm.Cond.code ({ cls := "java/lang/Integer", name := "valueOf", desc := "(I)Ljava/lang/Integer;" } : Jvm.MethodName) jdk_33_method_22_code (1 : Nat) (Option.some (Jvm.ClassFile.FieldType.object "java/lang/Integer"))).before args0 about1 = true := code_word (m := ⟨12, 0⟩) (meth := k12m0) (c := k12c0) (by decide +kernel) rfl rfl rfl (by decide +kernel)
set_option maxRecDepth 65536 in
theorem w_c9 : (Jvm.Cond.code ({ cls := "java/lang/Integer", name := "<init>", desc := "(I)V" } : Jvm.MethodName) jdk_33_method_23_code (2 : Nat) (Option.none : Option Jvm.ClassFile.FieldType)).before args0 about1 = true := code_word (m := ⟨12, 1⟩) (meth := k12m1) (c := k12c1) (by decide +kernel) rfl rfl rfl (by decide +kernel)
set_option maxRecDepth 65536 in
theorem w_c10 : (Jvm.Cond.code ({ cls := "java/lang/Number", name := "<init>", desc := "()V" } : Jvm.MethodName) jdk_18_method_1_code (1 : Nat) (Option.none : Option Jvm.ClassFile.FieldType)).before args0 about1 = true := code_word (m := ⟨8, 0⟩) (meth := k8m0) (c := k8c0) (by decide +kernel) rfl rfl rfl (by decide +kernel)
def codes1 : List Jvm.Cond := [Jvm.Cond.code x code maxLocals ret, Jvm.Cond.code ({ cls := "com/example/orbweaver/orbweaver/synthesis/Diagrams", name := "<init>", desc := "(II)V" } : Jvm.MethodName) prog_81_method_1_code (3 : Nat) (Option.none : Option Jvm.ClassFile.FieldType), Jvm.Cond.code ({ cls := "com/example/orbweaver/orbweaver/synthesis/Diagrams", name := "<init>", desc := "(III)V" } : Jvm.MethodName) prog_81_method_2_code (4 : Nat) (Option.none : Option Jvm.ClassFile.FieldType), Jvm.Cond.code ({ cls := "java/lang/Object", name := "<init>", desc := "()V" } : Jvm.MethodName) object_method_1_code (1 : Nat) (Option.none : Option Jvm.ClassFile.FieldType), Jvm.Cond.code ({ cls := "com/example/orbweaver/orbweaver/synthesis/Diagrams$1", name := "<init>", desc := "(Lcom/example/orbweaver/orbweaver/synthesis/Diagrams;)V" } : Jvm.MethodName) prog_82_method_1_code (2 : Nat) (Option.none : Option Jvm.ClassFile.FieldType), Jvm.Cond.code ({ cls := "java/util/Arrays", name := "fill", desc := "([II)V" } : Jvm.MethodName) jdk_65_method_103_code (4 : Nat) (Option.none : Option Jvm.ClassFile.FieldType), Jvm.Cond.code ({ cls := "com/example/orbweaver/orbweaver/synthesis/Valuations", name := "<init>", desc := "(Lcom/example/orbweaver/orbweaver/synthesis/Diagrams;I)V" } : Jvm.MethodName) prog_96_method_1_code (3 : Nat) (Option.none : Option Jvm.ClassFile.FieldType), Jvm.Cond.code ({ cls := "com/example/orbweaver/orbweaver/synthesis/Valuations", name := "equals", desc := "(Ljava/lang/Object;)Z" } : Jvm.MethodName) prog_96_method_12_code (3 : Nat) (Option.some Jvm.ClassFile.FieldType.boolean), Jvm.Cond.code ({ cls := "java/lang/Integer", name := "valueOf", desc := "(I)Ljava/lang/Integer;" } : Jvm.MethodName) jdk_33_method_22_code (1 : Nat) (Option.some (Jvm.ClassFile.FieldType.object "java/lang/Integer")), Jvm.Cond.code ({ cls := "java/lang/Integer", name := "<init>", desc := "(I)V" } : Jvm.MethodName) jdk_33_method_23_code (2 : Nat) (Option.none : Option Jvm.ClassFile.FieldType), Jvm.Cond.code ({ cls := "java/lang/Number", name := "<init>", desc := "()V" } : Jvm.MethodName) jdk_18_method_1_code (1 : Nat) (Option.none : Option Jvm.ClassFile.FieldType)]
set_option maxRecDepth 65536 in
theorem codes_eq : words1.filter isCode = codes1 := rfl
theorem w_codes : ∀ c ∈ words1.filter isCode, c.before args0 about1 = true := by
  rw [codes_eq]
  intro c hc
  simp only [codes1, List.mem_cons, List.not_mem_nil, or_false] at hc
  rcases hc with rfl | rfl | rfl | rfl | rfl | rfl | rfl | rfl | rfl | rfl | rfl
  · exact w_c0
  · exact w_c1
  · exact w_c2
  · exact w_c3
  · exact w_c4
  · exact w_c5
  · exact w_c6
  · exact w_c7
  · exact w_c8
  · exact w_c9
  · exact w_c10
set_option maxRecDepth 65536 in
theorem w_t1 : (words1.take 24).all (fun c => isCode c || c.before args0 about1) = true := by decide +kernel
set_option maxRecDepth 65536 in
theorem w_t2 : ((words1.drop 24).take 24).all (fun c => isCode c || c.before args0 about1) = true := by decide +kernel
set_option maxRecDepth 65536 in
theorem w_t3 : (((words1.drop 24).drop 24).take 24).all (fun c => isCode c || c.before args0 about1) = true := by decide +kernel
set_option maxRecDepth 65536 in
theorem w_t4 : ((((words1.drop 24).drop 24).drop 24).take 24).all (fun c => isCode c || c.before args0 about1) = true := by decide +kernel
set_option maxRecDepth 65536 in
theorem w_t5 : ((((words1.drop 24).drop 24).drop 24).drop 24).all (fun c => isCode c || c.before args0 about1) = true := by decide +kernel
theorem w_tables : (allAtoms (Jvm.Cond.code x code maxLocals ret :: tables_1)).before args0 about1 = true := by
  rw [allAtoms_all]
  show words1.all (fun c => c.before args0 about1) = true
  refine all_split ?_ w_codes
  rw [← List.take_append_drop 24 words1, List.all_append, w_t1, ← List.take_append_drop 24 (words1.drop 24), List.all_append, w_t2, ← List.take_append_drop 24 ((words1.drop 24).drop 24), List.all_append, w_t3, ← List.take_append_drop 24 (((words1.drop 24).drop 24).drop 24), List.all_append, w_t4, w_t5]
  rfl
set_option maxRecDepth 65536 in
theorem w_rest : rest_1_c.before args0 about1 = true := by decide +kernel
set_option maxRecDepth 65536 in
theorem w_case : (Jvm.Cond.and given_1 narrow_1).before args0 about1 = true := by decide +kernel
theorem w_applies : (headSpec (Jvm.Cond.code x code maxLocals ret :: tables_1) room_1).applies x e0.platform about1 = true :=
  (Spec.applies_iff w_frames).mpr ⟨w_running, w_runnable, w_alone, w_named, w_hears, w_ripe, w_room, w_tables⟩
theorem atStart : AtStart classFile x code maxLocals ret World_1 tables_1 room_1 Calls_1 rest_1 Pre_1 launch0 p0 e0 about1 theMethod args0 below0 :=
  ⟨lists_1, trivial, launch0.admits_env _ _ _, launch0.least_env, fairChoices_fair.cas, fairChoices_fair.clock, w_frames, w_args, w_heap, w_applies, trivial, w_rest, w_case⟩
end start1
theorem witness_1 : WitnessClaimed_1 := ⟨start1.p0, start1.e0, start1.about1, start1.theMethod, start1.args0, start1.below0, start1.atStart⟩
end Jvm.Pilot.@@N@@
