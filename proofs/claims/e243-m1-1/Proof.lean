import JvmDerived
import JvmDerived.Pilot.@@N@@Statement
import JvmDerived.Pilot.@@N@@Code
set_option linter.unusedVariables false
set_option linter.unusedSimpArgs false
namespace Jvm.Pilot.@@N@@
open Jvm Jvm.ClassFile Sem Op Lib Jvm.Free Jvm.Stand Jvm.LawKit Jvm.RoadKit Bundle Jvm.Pilot.@@N@@.Jvm.D
section OwnBase
variable {p : Program} {l : Launch} {e : Env} {R : Room} {s : State} {m : MethodId} {args : Array Value} {below : List Frame} {meth : Method} {c : Code} {T : State} {locs : List Loc} {cells slots : Nat} {Q : Outcome → State → Prop} {pc : Nat} {Ls : Array Slot} {st : List Value} {Z : State} {a0 : Array Value} {h : Heap}
/-- from S the body's invocation ends, and Q holds then -/
def own_G (p : Program) (e : Env) (below : List Frame) (Q : Outcome → State → Prop) (S : State) : Prop := ∃ t o, Steps p.tables e below S t ∧ t.status = .running ∧ Ended t below o ∧ Q o t
theorem own_st {S S' : State} (h : ∀ t, Steps p.tables e below S' t → Steps p.tables e below S t) (k : own_G p e below Q S') : own_G p e below Q S := by
  obtain ⟨t, o, h1, h2⟩ := k
  exact ⟨t, o, h t h1, h2⟩
theorem own_cast {g g' : JFrame} (q : g = g') (k : own_G p e below Q (T.setTop g')) : own_G p e below Q (T.setTop g) := q ▸ k
theorem own_iloadN (X : Stand p l e R s m args below meth c T locs cells slots) (hx : p.tables.exec = Jvm.exec) {k : Fin 4} {v : Int32} (hd : decode c.code pc = .ok (.iload_n k, 1)) (hl : Ls[k.val]? = some (.val (.int v))) (pc' : Nat) (hp : pc + 1 = pc') (r : own_G p e below Q (T.setTop (mkF m pc' Ls (.int v :: st)))) : own_G p e below Q (T.setTop (mkF m pc Ls (st))) := by
  subst hp
  exact own_st (fun t ht => XS.iloadN X.here hx rfl hd hl ht) r
theorem own_aloadN (X : Stand p l e R s m args below meth c T locs cells slots) (hx : p.tables.exec = Jvm.exec) {k : Fin 4} {v : Value} (hd : decode c.code pc = .ok (.aload_n k, 1)) (hl : Ls[k.val]? = some (.val v)) (hv : v.isRef = true) (pc' : Nat) (hp : pc + 1 = pc') (r : own_G p e below Q (T.setTop (mkF m pc' Ls (v :: st)))) : own_G p e below Q (T.setTop (mkF m pc Ls (st))) := by
  subst hp
  exact own_st (fun t ht => XS.aloadN X.here hx rfl hd hl hv ht) r
theorem own_istoreN (X : Stand p l e R s m args below meth c T locs cells slots) (hx : p.tables.exec = Jvm.exec) {k : Fin 4} {v : Int32} (Lt : Array Slot) (hd : decode c.code pc = .ok (.istore_n k, 1)) (hl : storeLocals Ls k.val (.int v) = some Lt) (pc' : Nat) (hp : pc + 1 = pc') (r : own_G p e below Q (T.setTop (mkF m pc' Lt (st)))) : own_G p e below Q (T.setTop (mkF m pc Ls (.int v :: st))) := by
  subst hp
  exact own_st (fun t ht => XS.istoreN X.here hx rfl hd rfl hl ht) r
theorem own_astoreN (X : Stand p l e R s m args below meth c T locs cells slots) (hx : p.tables.exec = Jvm.exec) {k : Fin 4} {v : Value} (Lt : Array Slot) (hd : decode c.code pc = .ok (.astore_n k, 1)) (hv : v.isRef = true) (hl : storeLocals Ls k.val v = some Lt) (pc' : Nat) (hp : pc + 1 = pc') (r : own_G p e below Q (T.setTop (mkF m pc' Lt (st)))) : own_G p e below Q (T.setTop (mkF m pc Ls (v :: st))) := by
  subst hp
  exact own_st (fun t ht => XS.astoreN X.here hx rfl hd rfl hv hl ht) r
theorem own_iload (X : Stand p l e R s m args below meth c T locs cells slots) (hx : p.tables.exec = Jvm.exec) {k : Nat} {v : Int32} (hd : decode c.code pc = .ok (.iload k, 2)) (hl : Ls[k]? = some (.val (.int v))) (pc' : Nat) (hp : pc + 2 = pc') (r : own_G p e below Q (T.setTop (mkF m pc' Ls (.int v :: st)))) : own_G p e below Q (T.setTop (mkF m pc Ls (st))) := by
  subst hp
  exact own_st (fun t ht => XS.iload X.here hx rfl hd hl ht) r
theorem own_aload (X : Stand p l e R s m args below meth c T locs cells slots) (hx : p.tables.exec = Jvm.exec) {k : Nat} {v : Value} (hd : decode c.code pc = .ok (.aload k, 2)) (hl : Ls[k]? = some (.val v)) (hv : v.isRef = true) (pc' : Nat) (hp : pc + 2 = pc') (r : own_G p e below Q (T.setTop (mkF m pc' Ls (v :: st)))) : own_G p e below Q (T.setTop (mkF m pc Ls (st))) := by
  subst hp
  exact own_st (fun t ht => XS.aload X.here hx rfl hd hl hv ht) r
theorem own_istore (X : Stand p l e R s m args below meth c T locs cells slots) (hx : p.tables.exec = Jvm.exec) {k : Nat} {v : Int32} (Lt : Array Slot) (hd : decode c.code pc = .ok (.istore k, 2)) (hl : storeLocals Ls k (.int v) = some Lt) (pc' : Nat) (hp : pc + 2 = pc') (r : own_G p e below Q (T.setTop (mkF m pc' Lt (st)))) : own_G p e below Q (T.setTop (mkF m pc Ls (.int v :: st))) := by
  subst hp
  exact own_st (fun t ht => XS.istore X.here hx rfl hd rfl hl ht) r
theorem own_astore (X : Stand p l e R s m args below meth c T locs cells slots) (hx : p.tables.exec = Jvm.exec) {k : Nat} {v : Value} (Lt : Array Slot) (hd : decode c.code pc = .ok (.astore k, 2)) (hv : v.isRef = true) (hl : storeLocals Ls k v = some Lt) (pc' : Nat) (hp : pc + 2 = pc') (r : own_G p e below Q (T.setTop (mkF m pc' Lt (st)))) : own_G p e below Q (T.setTop (mkF m pc Ls (v :: st))) := by
  subst hp
  exact own_st (fun t ht => XS.astore X.here hx rfl hd rfl hv hl ht) r
theorem own_iconst (X : Stand p l e R s m args below meth c T locs cells slots) (hx : p.tables.exec = Jvm.exec) {i : Int} {z : Int32} (hd : decode c.code pc = .ok (.iconst i, 1)) (hz : Int32.ofInt i = z) (pc' : Nat) (hp : pc + 1 = pc') (r : own_G p e below Q (T.setTop (mkF m pc' Ls (.int z :: st)))) : own_G p e below Q (T.setTop (mkF m pc Ls (st))) := by
  subst hp
  subst hz
  exact own_st (fun t ht => XS.iconst X.here hx rfl hd ht) r
theorem own_bipush (X : Stand p l e R s m args below meth c T locs cells slots) (hx : p.tables.exec = Jvm.exec) {i : Int} {z : Int32} (hd : decode c.code pc = .ok (.bipush i, 2)) (hz : (Int8.ofInt i).toInt32 = z) (pc' : Nat) (hp : pc + 2 = pc') (r : own_G p e below Q (T.setTop (mkF m pc' Ls (.int z :: st)))) : own_G p e below Q (T.setTop (mkF m pc Ls (st))) := by
  subst hp
  subst hz
  exact own_st (fun t ht => XS.bipush X.here hx rfl hd ht) r
theorem own_sipush (X : Stand p l e R s m args below meth c T locs cells slots) (hx : p.tables.exec = Jvm.exec) {i : Int} {z : Int32} (hd : decode c.code pc = .ok (.sipush i, 3)) (hz : (Int16.ofInt i).toInt32 = z) (pc' : Nat) (hp : pc + 3 = pc') (r : own_G p e below Q (T.setTop (mkF m pc' Ls (.int z :: st)))) : own_G p e below Q (T.setTop (mkF m pc Ls (st))) := by
  subst hp
  subst hz
  exact own_st (fun t ht => XS.sipush X.here hx rfl hd ht) r
theorem own_aconstNull (X : Stand p l e R s m args below meth c T locs cells slots) (hx : p.tables.exec = Jvm.exec)  (hd : decode c.code pc = .ok (.aconst_null, 1))  (pc' : Nat) (hp : pc + 1 = pc') (r : own_G p e below Q (T.setTop (mkF m pc' Ls (.null :: st)))) : own_G p e below Q (T.setTop (mkF m pc Ls (st))) := by
  subst hp
  exact own_st (fun t ht => XS.aconstNull X.here hx rfl hd ht) r
theorem own_iadd (X : Stand p l e R s m args below meth c T locs cells slots) (hx : p.tables.exec = Jvm.exec) {x y : Int32} (hd : decode c.code pc = .ok (.iadd, 1))  (pc' : Nat) (hp : pc + 1 = pc') (r : own_G p e below Q (T.setTop (mkF m pc' Ls (.int (x + y) :: st)))) : own_G p e below Q (T.setTop (mkF m pc Ls (.int y :: .int x :: st))) := by
  subst hp
  exact own_st (fun t ht => XS.iadd X.here hx rfl hd rfl ht) r
theorem own_isub (X : Stand p l e R s m args below meth c T locs cells slots) (hx : p.tables.exec = Jvm.exec) {x y : Int32} (hd : decode c.code pc = .ok (.isub, 1))  (pc' : Nat) (hp : pc + 1 = pc') (r : own_G p e below Q (T.setTop (mkF m pc' Ls (.int (x - y) :: st)))) : own_G p e below Q (T.setTop (mkF m pc Ls (.int y :: .int x :: st))) := by
  subst hp
  exact own_st (fun t ht => XS.isub X.here hx rfl hd rfl ht) r
theorem own_imul (X : Stand p l e R s m args below meth c T locs cells slots) (hx : p.tables.exec = Jvm.exec) {x y : Int32} (hd : decode c.code pc = .ok (.imul, 1))  (pc' : Nat) (hp : pc + 1 = pc') (r : own_G p e below Q (T.setTop (mkF m pc' Ls (.int (x * y) :: st)))) : own_G p e below Q (T.setTop (mkF m pc Ls (.int y :: .int x :: st))) := by
  subst hp
  exact own_st (fun t ht => XS.imul X.here hx rfl hd rfl ht) r
theorem own_iand (X : Stand p l e R s m args below meth c T locs cells slots) (hx : p.tables.exec = Jvm.exec) {x y : Int32} (hd : decode c.code pc = .ok (.iand, 1))  (pc' : Nat) (hp : pc + 1 = pc') (r : own_G p e below Q (T.setTop (mkF m pc' Ls (.int (x &&& y) :: st)))) : own_G p e below Q (T.setTop (mkF m pc Ls (.int y :: .int x :: st))) := by
  subst hp
  exact own_st (fun t ht => XS.iand X.here hx rfl hd rfl ht) r
theorem own_ior (X : Stand p l e R s m args below meth c T locs cells slots) (hx : p.tables.exec = Jvm.exec) {x y : Int32} (hd : decode c.code pc = .ok (.ior, 1))  (pc' : Nat) (hp : pc + 1 = pc') (r : own_G p e below Q (T.setTop (mkF m pc' Ls (.int (x ||| y) :: st)))) : own_G p e below Q (T.setTop (mkF m pc Ls (.int y :: .int x :: st))) := by
  subst hp
  exact own_st (fun t ht => XS.ior X.here hx rfl hd rfl ht) r
theorem own_ixor (X : Stand p l e R s m args below meth c T locs cells slots) (hx : p.tables.exec = Jvm.exec) {x y : Int32} (hd : decode c.code pc = .ok (.ixor, 1))  (pc' : Nat) (hp : pc + 1 = pc') (r : own_G p e below Q (T.setTop (mkF m pc' Ls (.int (x ^^^ y) :: st)))) : own_G p e below Q (T.setTop (mkF m pc Ls (.int y :: .int x :: st))) := by
  subst hp
  exact own_st (fun t ht => XS.ixor X.here hx rfl hd rfl ht) r
theorem own_ishl (X : Stand p l e R s m args below meth c T locs cells slots) (hx : p.tables.exec = Jvm.exec) {x y : Int32} (hd : decode c.code pc = .ok (.ishl, 1))  (pc' : Nat) (hp : pc + 1 = pc') (r : own_G p e below Q (T.setTop (mkF m pc' Ls (.int (x <<< (y &&& 31)) :: st)))) : own_G p e below Q (T.setTop (mkF m pc Ls (.int y :: .int x :: st))) := by
  subst hp
  exact own_st (fun t ht => XS.ishl X.here hx rfl hd rfl ht) r
theorem own_ishr (X : Stand p l e R s m args below meth c T locs cells slots) (hx : p.tables.exec = Jvm.exec) {x y : Int32} (hd : decode c.code pc = .ok (.ishr, 1))  (pc' : Nat) (hp : pc + 1 = pc') (r : own_G p e below Q (T.setTop (mkF m pc' Ls (.int (x >>> (y &&& 31)) :: st)))) : own_G p e below Q (T.setTop (mkF m pc Ls (.int y :: .int x :: st))) := by
  subst hp
  exact own_st (fun t ht => XS.ishr X.here hx rfl hd rfl ht) r
theorem own_iushr (X : Stand p l e R s m args below meth c T locs cells slots) (hx : p.tables.exec = Jvm.exec) {x y : Int32} (hd : decode c.code pc = .ok (.iushr, 1))  (pc' : Nat) (hp : pc + 1 = pc') (r : own_G p e below Q (T.setTop (mkF m pc' Ls (.int ((x.toUInt32 >>> (y &&& 31).toUInt32).toInt32) :: st)))) : own_G p e below Q (T.setTop (mkF m pc Ls (.int y :: .int x :: st))) := by
  subst hp
  exact own_st (fun t ht => XS.iushr X.here hx rfl hd rfl ht) r
theorem own_idiv (X : Stand p l e R s m args below meth c T locs cells slots) (hx : p.tables.exec = Jvm.exec) {x y : Int32} (hd : decode c.code pc = .ok (.idiv, 1)) (hy : y ≠ 0) (pc' : Nat) (hp : pc + 1 = pc') (r : own_G p e below Q (T.setTop (mkF m pc' Ls (.int (x / y) :: st)))) : own_G p e below Q (T.setTop (mkF m pc Ls (.int y :: .int x :: st))) := by
  subst hp
  exact own_st (fun t ht => XS.idiv X.here hx rfl hd rfl hy ht) r
theorem own_irem (X : Stand p l e R s m args below meth c T locs cells slots) (hx : p.tables.exec = Jvm.exec) {x y : Int32} (hd : decode c.code pc = .ok (.irem, 1)) (hy : y ≠ 0) (pc' : Nat) (hp : pc + 1 = pc') (r : own_G p e below Q (T.setTop (mkF m pc' Ls (.int (x % y) :: st)))) : own_G p e below Q (T.setTop (mkF m pc Ls (.int y :: .int x :: st))) := by
  subst hp
  exact own_st (fun t ht => iremM X hx rfl hd rfl hy ht) r
theorem own_ineg (X : Stand p l e R s m args below meth c T locs cells slots) (hx : p.tables.exec = Jvm.exec) {x : Int32} (hd : decode c.code pc = .ok (.ineg, 1))  (pc' : Nat) (hp : pc + 1 = pc') (r : own_G p e below Q (T.setTop (mkF m pc' Ls (.int (-x) :: st)))) : own_G p e below Q (T.setTop (mkF m pc Ls (.int x :: st))) := by
  subst hp
  exact own_st (fun t ht => XS.ineg X.here hx rfl hd rfl ht) r
theorem own_i2c (X : Stand p l e R s m args below meth c T locs cells slots) (hx : p.tables.exec = Jvm.exec) {x : Int32} (hd : decode c.code pc = .ok (.i2c, 1))  (pc' : Nat) (hp : pc + 1 = pc') (r : own_G p e below Q (T.setTop (mkF m pc' Ls (.int (x.toUInt32.toUInt16.toUInt32.toInt32) :: st)))) : own_G p e below Q (T.setTop (mkF m pc Ls (.int x :: st))) := by
  subst hp
  exact own_st (fun t ht => XS.i2c X.here hx rfl hd rfl ht) r
theorem own_i2b (X : Stand p l e R s m args below meth c T locs cells slots) (hx : p.tables.exec = Jvm.exec) {x : Int32} (hd : decode c.code pc = .ok (.i2b, 1))  (pc' : Nat) (hp : pc + 1 = pc') (r : own_G p e below Q (T.setTop (mkF m pc' Ls (.int (x.toInt8.toInt32) :: st)))) : own_G p e below Q (T.setTop (mkF m pc Ls (.int x :: st))) := by
  subst hp
  exact own_st (fun t ht => XS.i2b X.here hx rfl hd rfl ht) r
theorem own_dup (X : Stand p l e R s m args below meth c T locs cells slots) (hx : p.tables.exec = Jvm.exec) {x : Value} (hd : decode c.code pc = .ok (.dup, 1)) (hc : x.category = 1) (pc' : Nat) (hp : pc + 1 = pc') (r : own_G p e below Q (T.setTop (mkF m pc' Ls (x :: x :: st)))) : own_G p e below Q (T.setTop (mkF m pc Ls (x :: st))) := by
  subst hp
  exact own_st (fun t ht => XS.dup X.here hx rfl hd rfl hc ht) r
theorem own_dupX1 (X : Stand p l e R s m args below meth c T locs cells slots) (hx : p.tables.exec = Jvm.exec) {x y : Value} (hd : decode c.code pc = .ok (.dup_x1, 1)) (hc : x.category = 1) (hc2 : y.category = 1) (pc' : Nat) (hp : pc + 1 = pc') (r : own_G p e below Q (T.setTop (mkF m pc' Ls (x :: y :: x :: st)))) : own_G p e below Q (T.setTop (mkF m pc Ls (x :: y :: st))) := by
  subst hp
  exact own_st (fun t ht => XS.dupX1 X.here hx rfl hd rfl hc hc2 ht) r
theorem own_pop (X : Stand p l e R s m args below meth c T locs cells slots) (hx : p.tables.exec = Jvm.exec) {x : Value} (hd : decode c.code pc = .ok (.pop, 1)) (hc : x.category = 1) (pc' : Nat) (hp : pc + 1 = pc') (r : own_G p e below Q (T.setTop (mkF m pc' Ls (st)))) : own_G p e below Q (T.setTop (mkF m pc Ls (x :: st))) := by
  subst hp
  exact own_st (fun t ht => XS.pop X.here hx rfl hd rfl hc ht) r
theorem own_iinc (X : Stand p l e R s m args below meth c T locs cells slots) (hx : p.tables.exec = Jvm.exec) {k : Nat} {cst : Int} {x z : Int32} (Lt : Array Slot) (hd : decode c.code pc = .ok (.iinc k cst, 3)) (hl : Ls[k]? = some (.val (.int x))) (hz : x + Int32.ofInt cst = z) (hl' : storeLocals Ls k (.int z) = some Lt) (pc' : Nat) (hp : pc + 3 = pc') (r : own_G p e below Q (T.setTop (mkF m pc' Lt (st)))) : own_G p e below Q (T.setTop (mkF m pc Ls (st))) := by
  subst hp
  subst hz
  exact own_st (fun t ht => XS.iinc X.here hx rfl hd hl hl' ht) r
theorem own_goto (X : Stand p l e R s m args below meth c T locs cells slots) (hx : p.tables.exec = Jvm.exec)  {o : Int} (hd : decode c.code pc = .ok (.goto o, 3))  (pc' : Nat) (ho : 0 ≤ (pc : Int) + o) (hp : ((pc : Int) + o).toNat = pc') (r : own_G p e below Q (T.setTop (mkF m pc' Ls (st)))) : own_G p e below Q (T.setTop (mkF m pc Ls (st))) := own_st (fun t ht => XS.goto X.here hx rfl rfl hd ho hp ht) r
theorem own_ifcT (X : Stand p l e R s m args below meth c T locs cells slots) (hx : p.tables.exec = Jvm.exec) {cd : ClassFile.Cond} {x : Int32} {o : Int} (hd : decode c.code pc = .ok (.ifCond cd o, 3)) (hc : if_icmp.holds cd x 0 = true) (pc' : Nat) (ho : 0 ≤ (pc : Int) + o) (hp : ((pc : Int) + o).toNat = pc') (r : own_G p e below Q (T.setTop (mkF m pc' Ls (st)))) : own_G p e below Q (T.setTop (mkF m pc Ls (.int x :: st))) := own_st (fun t ht => XS.ifYes X.here hx rfl rfl hd rfl ((if0 _ _).trans hc) ho hp ht) r
theorem own_ifcF (X : Stand p l e R s m args below meth c T locs cells slots) (hx : p.tables.exec = Jvm.exec) {cd : ClassFile.Cond} {x : Int32} {o : Int} (hd : decode c.code pc = .ok (.ifCond cd o, 3)) (hc : if_icmp.holds cd x 0 = false) (pc' : Nat) (hp : pc + 3 = pc') (r : own_G p e below Q (T.setTop (mkF m pc' Ls (st)))) : own_G p e below Q (T.setTop (mkF m pc Ls (.int x :: st))) := by
  subst hp
  exact own_st (fun t ht => XS.ifNo X.here hx rfl hd rfl ((if0 _ _).trans hc) ht) r
theorem own_icmpT (X : Stand p l e R s m args below meth c T locs cells slots) (hx : p.tables.exec = Jvm.exec) {cd : ClassFile.Cond} {x y : Int32} {o : Int} (hd : decode c.code pc = .ok (.if_icmp cd o, 3)) (hc : if_icmp.holds cd x y = true) (pc' : Nat) (ho : 0 ≤ (pc : Int) + o) (hp : ((pc : Int) + o).toNat = pc') (r : own_G p e below Q (T.setTop (mkF m pc' Ls (st)))) : own_G p e below Q (T.setTop (mkF m pc Ls (.int y :: .int x :: st))) := own_st (fun t ht => XS.icmpYes X.here hx rfl rfl hd rfl hc ho hp ht) r
theorem own_icmpF (X : Stand p l e R s m args below meth c T locs cells slots) (hx : p.tables.exec = Jvm.exec) {cd : ClassFile.Cond} {x y : Int32} {o : Int} (hd : decode c.code pc = .ok (.if_icmp cd o, 3)) (hc : if_icmp.holds cd x y = false) (pc' : Nat) (hp : pc + 3 = pc') (r : own_G p e below Q (T.setTop (mkF m pc' Ls (st)))) : own_G p e below Q (T.setTop (mkF m pc Ls (.int y :: .int x :: st))) := by
  subst hp
  exact own_st (fun t ht => XS.icmpNo X.here hx rfl hd rfl hc ht) r
theorem own_ifnullT (X : Stand p l e R s m args below meth c T locs cells slots) (hx : p.tables.exec = Jvm.exec)  {o : Int} (hd : decode c.code pc = .ok (.ifnull o, 3))  (pc' : Nat) (ho : 0 ≤ (pc : Int) + o) (hp : ((pc : Int) + o).toNat = pc') (r : own_G p e below Q (T.setTop (mkF m pc' Ls (st)))) : own_G p e below Q (T.setTop (mkF m pc Ls (.null :: st))) := own_st (fun t ht => XS.ifnullYes X.here hx rfl rfl hd rfl ho hp ht) r
theorem own_ifnullF (X : Stand p l e R s m args below meth c T locs cells slots) (hx : p.tables.exec = Jvm.exec) {b : Addr} {o : Int} (hd : decode c.code pc = .ok (.ifnull o, 3))  (pc' : Nat) (hp : pc + 3 = pc') (r : own_G p e below Q (T.setTop (mkF m pc' Ls (st)))) : own_G p e below Q (T.setTop (mkF m pc Ls (.ref b :: st))) := by
  subst hp
  exact own_st (fun t ht => XS.ifnullNo X.here hx rfl hd rfl ht) r
theorem own_ifnonnullT (X : Stand p l e R s m args below meth c T locs cells slots) (hx : p.tables.exec = Jvm.exec) {b : Addr} {o : Int} (hd : decode c.code pc = .ok (.ifnonnull o, 3))  (pc' : Nat) (ho : 0 ≤ (pc : Int) + o) (hp : ((pc : Int) + o).toNat = pc') (r : own_G p e below Q (T.setTop (mkF m pc' Ls (st)))) : own_G p e below Q (T.setTop (mkF m pc Ls (.ref b :: st))) := own_st (fun t ht => XS.ifnonnullYes X.here hx rfl rfl hd rfl ho hp ht) r
theorem own_ifnonnullF (X : Stand p l e R s m args below meth c T locs cells slots) (hx : p.tables.exec = Jvm.exec)  {o : Int} (hd : decode c.code pc = .ok (.ifnonnull o, 3))  (pc' : Nat) (hp : pc + 3 = pc') (r : own_G p e below Q (T.setTop (mkF m pc' Ls (st)))) : own_G p e below Q (T.setTop (mkF m pc Ls (.null :: st))) := by
  subst hp
  exact own_st (fun t ht => XS.ifnonnullNo X.here hx rfl hd rfl ht) r
theorem own_acmpT (X : Stand p l e R s m args below meth c T locs cells slots) (hx : p.tables.exec = Jvm.exec) {cd : ClassFile.ACond} {a b : Addr} {o : Int} (hd : decode c.code pc = .ok (.if_acmp cd o, 3)) (hc : if_acmp.holds cd (some a) (some b) = true) (pc' : Nat) (ho : 0 ≤ (pc : Int) + o) (hp : ((pc : Int) + o).toNat = pc') (r : own_G p e below Q (T.setTop (mkF m pc' Ls (st)))) : own_G p e below Q (T.setTop (mkF m pc Ls (.ref b :: .ref a :: st))) := own_st (fun t ht => XS.acmpYes X.here hx rfl rfl hd rfl hc ho hp ht) r
theorem own_acmpF (X : Stand p l e R s m args below meth c T locs cells slots) (hx : p.tables.exec = Jvm.exec) {cd : ClassFile.ACond} {a b : Addr} {o : Int} (hd : decode c.code pc = .ok (.if_acmp cd o, 3)) (hc : if_acmp.holds cd (some a) (some b) = false) (pc' : Nat) (hp : pc + 3 = pc') (r : own_G p e below Q (T.setTop (mkF m pc' Ls (st)))) : own_G p e below Q (T.setTop (mkF m pc Ls (.ref b :: .ref a :: st))) := by
  subst hp
  exact own_st (fun t ht => XS.acmpNo X.here hx rfl hd rfl hc ht) r
theorem own_ldcI (X : Stand p l e R s m args below meth c T locs cells slots) (hx : p.tables.exec = Jvm.exec) (hZ : Z.Warmed39 s.vm) {own : String} (hown : s.vm.findClass own = some m.cls) {index : Nat} {v : Int32} (w : (Cond.constant own index v).before a0 Z = true) (hd : decode c.code pc = .ok (.ldc index, 2)) (pc' : Nat) (hp : pc + 2 = pc') (r : own_G p e below Q (T.setTop (mkF m pc' Ls (.int v :: st)))) : own_G p e below Q (T.setTop (mkF m pc Ls (st))) := by
  subst hp
  exact own_st (fun t ht => X.ldcInt hx hown (mvT hZ w) (g := mkF m pc Ls st) rfl hd t ht) r
theorem own_ldcwI (X : Stand p l e R s m args below meth c T locs cells slots) (hx : p.tables.exec = Jvm.exec) (hZ : Z.Warmed39 s.vm) {own : String} (hown : s.vm.findClass own = some m.cls) {index : Nat} {v : Int32} (w : (Cond.constant own index v).before a0 Z = true) (hd : decode c.code pc = .ok (.ldc_w index, 3)) (pc' : Nat) (hp : pc + 3 = pc') (r : own_G p e below Q (T.setTop (mkF m pc' Ls (.int v :: st)))) : own_G p e below Q (T.setTop (mkF m pc Ls (st))) := by
  subst hp
  exact own_st (fun t ht => X.ldcwInt hx hown (mvT hZ w) (g := mkF m pc Ls st) rfl hd t ht) r
theorem own_ifT {α : Type} {c : Prop} [Decidable c] {a b r : α} (hc : c) (h : (if c then a else b) = r) : a = r := (if_pos hc).symm.trans h
theorem own_ifF {α : Type} {c : Prop} [Decidable c] {a b r : α} (hc : ¬ c) (h : (if c then a else b) = r) : b = r := (if_neg hc).symm.trans h
/-- what a body leaves -/
def own_End (s : State) (rm : Room) (n0 : Nat) (P : Option Value → Heap → Prop) (o : Outcome) (t : State) : Prop := ∃ v L, o = .returned v ∧ (Fr n0 L ∧ P v t.heap) ∧ FrameEnd s o t L rm.cells rm.slots
/-- a body's contract -/
def own_Met (l : Launch) (Z : State) (y : MethodName) (bytes : ByteArray) (maxL : Nat) (ret : Option FieldType) (ws : List Jvm.Cond) (rm : Room) (as' : Array Value) (h0 : Heap) (n0 : Nat) (P : Option Value → Heap → Prop) : Prop :=
  MetFree l y (head1 (Jvm.Cond.code y bytes maxL ret :: ws) rm) (fun a U => a = as' ∧ Z.Warmed39 U.vm ∧ U.heap = h0) (fun _ _ _ _ _ => True) (fun _ U o U' => own_End U rm n0 P o U')
variable {y : MethodName} {bytes : ByteArray} {maxL : Nat} {ret : Option FieldType} {ws : List Jvm.Cond} {rm : Room} {as' : Array Value} {h0 : Heap} {n0 : Nat} {P : Option Value → Heap → Prop}
theorem own_body (pn : plainName y.cls = true) (body : ∀ p e s m below meth c T, Stand p l e rm s m as' below meth c T [] 0 0 → p.tables.exec = Jvm.exec → c.code = bytes → c.maxLocals = maxL → s.vm.findClass y.cls = some m.cls → meth.name = y.name → Z.Warmed39 s.vm → T.heap = h0 → meth.sig.returnType = ret → meth.locks = false →
    own_G p e below (own_End s rm n0 P) (T.setTop (entryFrame m as' maxL))) : own_Met l Z y bytes maxL ret ws rm as' h0 n0 P := by
  refine MetFree.of_bodySF (plainFor_of_name pn) hisR ?_
  intro p e s m args below meth c s₁ Bd hml0 hP hK
  obtain ⟨e1, hZ, hh⟩ := hP
  cases e1
  exact body p e s m below meth c s₁ (Stand.of_body Bd) Bd.exec Bd.bytes hml0 (findClass_of_methodNamed Bd.named) (name_of_methodNamed Bd.named Bd.method).1 hZ (by rw [← hh, Bd.state]; rfl) Bd.returns Bd.notSynchronized
theorem own_stepI (X : Stand p l e R s m args below meth c T locs cells slots) (hx : p.tables.exec = Jvm.exec) {z : Int32} (hret : meth.sig.returnType = some .int) (hd : decode c.code pc = .ok (.ireturn, 1)) {fs : List Frame}
    (hl : ∀ (f : JFrame) (acts : List Action), f.method = m → f.locked = none → f.entered = [] → (doReturn e (T.setTop f) acts (some (.int z))).1 = T.setFrames fs) : Steps p.tables e below (T.setTop (mkF m pc Ls (.int z :: st))) (T.setFrames fs) :=
  retOut X hx hret rfl (Or.inl ⟨rfl, Or.inl rfl, z, rfl⟩) hd hl
theorem own_retI (X : Stand p l e R s m args below meth c T locs cells slots) (hx : p.tables.exec = Jvm.exec) {z : Int32} (hret : meth.sig.returnType = some .int) (hlk : meth.locks = false) (hd : decode c.code pc = .ok (.ireturn, 1)) (hc : cells ≤ rm.cells) (hs : slots ≤ rm.slots) (N : Fr n0 locs) (eT : T.heap = h) (hq : P (some (.int z)) h) :
    own_G p e below (own_End s rm n0 P) (T.setTop (mkF m pc Ls (.int z :: st))) := by
  subst eT
  obtain ⟨fs, hr, hrun, hended, hW, hsame⟩ := X.leave (v := some (.int z)) (fun h => by rw [hret] at h; cases h) hlk
  exact ⟨_, _, own_stepI X hx hret hd hr, hrun, hended, _, _, rfl, ⟨N, hq⟩, ⟨_, rfl⟩, hW, hsame.mono hc hs⟩
theorem own_retN (X : Stand p l e R s m args below meth c T locs cells slots) (hx : p.tables.exec = Jvm.exec) {z : Int32} {t : FieldType} (hret : meth.sig.returnType = some t) (ht : t = .boolean ∨ t = .byte ∨ t = .char ∨ t = .short) (hlk : meth.locks = false) (hd : decode c.code pc = .ok (.ireturn, 1)) (hc : cells ≤ rm.cells) (hs : slots ≤ rm.slots) (N : Fr n0 locs) (eT : T.heap = h) (hq : P (some (.int (nar t z))) h) :
    own_G p e below (own_End s rm n0 P) (T.setTop (mkF m pc Ls (.int z :: st))) := by
  subst eT
  obtain ⟨fs, hr, hrun, hended, hW, hsame⟩ := X.leave (v := some (.int (nar t z))) (fun h => by rw [hret] at h; cases h) hlk
  exact ⟨_, _, retN X hx hret ht hd hr, hrun, hended, _, _, rfl, ⟨N, hq⟩, ⟨_, rfl⟩, hW, hsame.mono hc hs⟩
theorem own_retA (X : Stand p l e R s m args below meth c T locs cells slots) (hx : p.tables.exec = Jvm.exec) {v : Value} {t : FieldType} (hret : meth.sig.returnType = some t) (ht : t.isReference = true) (hv : v.isRef = true) (hn : narrow t v = v) (hlk : meth.locks = false) (hd : decode c.code pc = .ok (.areturn, 1)) (hc : cells ≤ rm.cells) (hs : slots ≤ rm.slots) (N : Fr n0 locs) (eT : T.heap = h) (hq : P (some v) h) :
    own_G p e below (own_End s rm n0 P) (T.setTop (mkF m pc Ls (v :: st))) := by
  subst eT
  obtain ⟨fs, hr, hrun, hended, hW, hsame⟩ := X.leave (v := some v) (fun h => by rw [hret] at h; cases h) hlk
  exact ⟨_, _, retOut X hx hret hn (Or.inr (Or.inr (Or.inr (Or.inr ⟨rfl, ht, hv⟩)))) hd hr, hrun, hended, _, _, rfl, ⟨N, hq⟩, ⟨_, rfl⟩, hW, hsame.mono hc hs⟩
theorem own_retV (X : Stand p l e R s m args below meth c T locs cells slots) (hx : p.tables.exec = Jvm.exec) (hret : meth.sig.returnType = none) (hlk : meth.locks = false) (hd : decode c.code pc = .ok (.return_, 1)) (hc : cells ≤ rm.cells) (hs : slots ≤ rm.slots) (N : Fr n0 locs) (eT : T.heap = h) (hq : P none h) :
    own_G p e below (own_End s rm n0 P) (T.setTop (mkF m pc Ls [])) := by
  subst eT
  obtain ⟨fs, hr, hrun, hended, hW, hsame⟩ := X.leave (v := none) (fun _ => rfl) hlk
  exact ⟨_, _, X.returnOut hx hret hd hr, hrun, hended, _, _, rfl, ⟨N, hq⟩, ⟨_, rfl⟩, hW, hsame.mono hc hs⟩
/-- the callee's contract as the premise that a call by contract takes -/
theorem own_back {below' : List Frame} {W : Nat} {len : Nat} (M : own_Met l Z y bytes maxL ret [] rm as' h n0 P) (hZ : Z.Warmed39 s.vm) (wc : (Cond.code y bytes maxL ret).before a0 Z = true) (wz : (Cond.initialized y.cls).before a0 Z = true) (hf : rm.frames + 1 ≤ R.frames) (hl : W + (maxL + 11) + rm.locals ≤ R.locals) :
    Back l R p e below s args y len W (fun A a => a = as' ∧ A.U.heap = h ∧ A.cells + rm.cells ≤ R.cells ∧ A.slots + rm.slots ≤ R.slots)
      (fun A _ v B => ∃ L, (Fr n0 L ∧ P v B.U.heap) ∧ B.locs = A.locs ++ L ∧ B.cells = A.cells + rm.cells ∧ B.slots = A.slots + rm.slots) :=
  backOf (Q := fun v h L => Fr n0 L ∧ P v h) M hZ wc wz hf hl
theorem own_callS (X : Stand p l e R s m args below meth c T locs cells slots) (hx : p.tables.exec = Jvm.exec) (hZ : Z.Warmed39 s.vm) {own : String} {index : Nat} (hown : s.vm.findClass own = some m.cls) (w1 : (Cond.methodLink own index y).before a0 Z = true) (w2 : (Cond.static y).before a0 Z = true) (wz : (Cond.initialized y.cls).before a0 Z = true) (wc : (Cond.code y bytes maxL ret).before a0 Z = true)
    (hy : y.cls ≠ "java/lang/invoke/MethodHandle" ∧ y.cls ≠ "java/lang/invoke/VarHandle") (W : Nat) (M : own_Met l Z y bytes maxL ret [] rm as' h n0 P) (eT : T.heap = h) (hml : Ls.size = c.maxLocals) (argsL rest : List Value) (ha : argsL.toArray = as') (hlen : ∀ sig, parseMethodDescriptor y.desc = some sig → argsL.length = sig.parameters.length)
    (hst : st = argsL.reverse ++ rest) (hW : (rest.map fun v => v.category).sum ≤ W) (hf : rm.frames + 1 ≤ R.frames) (hl : W + (maxL + 11) + rm.locals ≤ R.locals) (hcl : cells + rm.cells ≤ R.cells) (hsl : slots + rm.slots ≤ R.slots) (hd : decode c.code pc = .ok (.invokestatic index, 3)) (N : Fr n0 locs) (pc' : Nat) (hp : pc + 3 = pc')
    (k : ∀ v T' locs', Stand p l e R s m args below meth c T' locs' (cells + rm.cells) (slots + rm.slots) → Fr n0 locs' → P v T'.heap → own_G p e below Q (T'.setTop (mkF m pc' Ls (v.toList ++ rest)))) : own_G p e below Q (T.setTop (mkF m pc Ls st)) := by
  subst hp
  obtain ⟨v, _, ⟨T', L', k', n'⟩, -, X', ⟨Lc, hQ, l1, y1, z1⟩, stp⟩ := Jvm.LawKit.callS X hx (y := y) hown (mvT hZ w1) (mvT hZ w2) (mvT hZ wz) (mvT hZ wc) hy (own_back (below' := below) (W := W) M hZ wc wz hf hl) (g := mkF m pc Ls st) rfl hml (argsL := argsL) (rest := rest) hlen hst (by show 2 * 0 + _ ≤ _; omega) hd (fun _ _ => ⟨ha, eT, hcl, hsl⟩)
  dsimp only [Pt.U, Pt.locs, Pt.cells, Pt.slots] at X' l1 y1 z1 stp hQ
  subst l1 y1 z1
  exact own_st stp (k v T' _ X' (N.app hQ.1) hQ.2)
theorem own_callI (X : Stand p l e R s m args below meth c T locs cells slots) (hx : p.tables.exec = Jvm.exec) (hZ : Z.Warmed39 s.vm) {own : String} {index : Nat} (hown : s.vm.findClass own = some m.cls) (hi : y.name = "<init>") (w1 : (Cond.methodLink own index y).before a0 Z = true) (w2 : (Cond.instanceMethod y).before a0 Z = true) (wz : (Cond.initialized y.cls).before a0 Z = true) (wc : (Cond.code y bytes maxL none).before a0 Z = true)
    (hy : y.cls ≠ "java/lang/invoke/MethodHandle" ∧ y.cls ≠ "java/lang/invoke/VarHandle") (W : Nat) (M : own_Met l Z y bytes maxL none [] rm as' h n0 P) (eT : T.heap = h) (hml : Ls.size = c.maxLocals) (a : Addr) (argsL rest : List Value) (ha : (Value.ref a :: argsL).toArray = as') (hlen : ∀ sig, parseMethodDescriptor y.desc = some sig → argsL.length = sig.parameters.length)
    (hst : st = argsL.reverse ++ .ref a :: rest) (hW : (rest.map fun v => v.category).sum ≤ W) (hf : rm.frames + 1 ≤ R.frames) (hl : W + (maxL + 11) + rm.locals ≤ R.locals) (hcl : cells + rm.cells ≤ R.cells) (hsl : slots + rm.slots ≤ R.slots) (hd : decode c.code pc = .ok (.invokespecial index, 3)) (N : Fr n0 locs) (pc' : Nat) (hp : pc + 3 = pc')
    (k : ∀ v T' locs', Stand p l e R s m args below meth c T' locs' (cells + rm.cells) (slots + rm.slots) → Fr n0 locs' → P v T'.heap → own_G p e below Q (T'.setTop (mkF m pc' Ls (v.toList ++ rest)))) : own_G p e below Q (T.setTop (mkF m pc Ls st)) := by
  subst hp
  obtain ⟨v, _, ⟨T', L', k', n'⟩, -, X', ⟨Lc, hQ, l1, y1, z1⟩, stp⟩ := X.specialBack hx (y := y) hi hown (mvT hZ w1) (mvT hZ w2) (mvT hZ wc) hy (own_back (below' := below) (W := W) M hZ wc wz hf hl) (g := mkF m pc Ls st) rfl hml (Steps.refl _) (a := a) (argsL := argsL) (rest := rest) hlen hst (by show 2 * 0 + _ ≤ _; omega) hd (fun _ _ => ⟨ha, eT, hcl, hsl⟩)
  dsimp only [Pt.U, Pt.locs, Pt.cells, Pt.slots] at X' l1 y1 z1 stp hQ
  subst l1 y1 z1
  exact own_st (fun t ht => stp.trans ht) (k v T' _ X' (N.app hQ.1) hQ.2)
theorem own_callV (X : Stand p l e R s m args below meth c T locs cells slots) (hx : p.tables.exec = Jvm.exec) (hZ : Z.Warmed39 s.vm) {own C : String} {index : Nat} (hown : s.vm.findClass own = some m.cls) (w1 : (Cond.methodLink own index y).before a0 Z = true) (w2 : (Cond.declares y).before a0 Z = true) (w3 : (Cond.selects C y y).before a0 Z = true) (w4 : (Cond.instanceMethod y).before a0 Z = true) (wz : (Cond.initialized y.cls).before a0 Z = true) (wc : (Cond.code y bytes maxL ret).before a0 Z = true)
    (hy : y.cls ≠ "java/lang/invoke/MethodHandle" ∧ y.cls ≠ "java/lang/invoke/VarHandle") (W : Nat) (M : own_Met l Z y bytes maxL ret [] rm as' h n0 P) (eT : T.heap = h) {a : Addr} (E : Exa Z h a C) (hml : Ls.size = c.maxLocals) (argsL rest : List Value) (ha : (Value.ref a :: argsL).toArray = as') (hlen : ∀ sig, parseMethodDescriptor y.desc = some sig → argsL.length = sig.parameters.length)
    (hst : st = argsL.reverse ++ .ref a :: rest) (hW : (rest.map fun v => v.category).sum ≤ W) (hf : rm.frames + 1 ≤ R.frames) (hl : W + (maxL + 11) + rm.locals ≤ R.locals) (hcl : cells + rm.cells ≤ R.cells) (hsl : slots + rm.slots ≤ R.slots) (hd : decode c.code pc = .ok (.invokevirtual index, 3)) (N : Fr n0 locs) (pc' : Nat) (hp : pc + 3 = pc')
    (k : ∀ v T' locs', Stand p l e R s m args below meth c T' locs' (cells + rm.cells) (slots + rm.slots) → Fr n0 locs' → P v T'.heap → own_G p e below Q (T'.setTop (mkF m pc' Ls (v.toList ++ rest)))) : own_G p e below Q (T.setTop (mkF m pc Ls st)) := by
  subst hp
  obtain ⟨_, _, qa, _, qc⟩ := isOf hZ eT E
  obtain ⟨v, _, ⟨T', L', k', n'⟩, -, X', ⟨Lc, hQ, l1, y1, z1⟩, stp⟩ := X.virtualBack hx (y := y) (z := y) hown (mvT hZ w1) (mvT hZ w2) (notFace_of_selects (args := #[]) (mvT hZ w3)) (mvT hZ w3) (mvT hZ w4) hy (own_back (below' := below) (W := W) M hZ wc wz hf hl) qa qc (g := mkF m pc Ls st) rfl hml (Steps.refl _) (argsL := argsL) (rest := rest) hlen hst (by show 2 * 0 + _ ≤ _; omega) hd (fun _ _ => ⟨ha, eT, hcl, hsl⟩)
  dsimp only [Pt.U, Pt.locs, Pt.cells, Pt.slots] at X' l1 y1 z1 stp hQ
  subst l1 y1 z1
  exact own_st (fun t ht => stp.trans ht) (k v T' _ X' (N.app hQ.1) hQ.2)
/-- an 'invokevirtual' of a private method, by its contract; that its class is no interface is read off the 'instantiable' word -/
theorem own_callP (X : Stand p l e R s m args below meth c T locs cells slots) (hx : p.tables.exec = Jvm.exec) (hZ : Z.Warmed39 s.vm) {own : String} {index kk : Nat} (hown : s.vm.findClass own = some m.cls) (w1 : (Cond.methodLink own index y).before a0 Z = true) (w4 : (Cond.instanceMethod y).before a0 Z = true) (w5 : (Cond.privateMethod y).before a0 Z = true) (w6 : (Cond.instantiable y.cls kk).before a0 Z = true) (wz : (Cond.initialized y.cls).before a0 Z = true) (wc : (Cond.code y bytes maxL ret).before a0 Z = true)
    (hy : y.cls ≠ "java/lang/invoke/MethodHandle" ∧ y.cls ≠ "java/lang/invoke/VarHandle") (W : Nat) (M : own_Met l Z y bytes maxL ret [] rm as' h n0 P) (eT : T.heap = h) {a : Addr} {C : String} (E : Exa Z h a C) (hml : Ls.size = c.maxLocals) (argsL rest : List Value) (ha : (Value.ref a :: argsL).toArray = as') (hlen : ∀ sig, parseMethodDescriptor y.desc = some sig → argsL.length = sig.parameters.length)
    (hst : st = argsL.reverse ++ .ref a :: rest) (hW : (rest.map fun v => v.category).sum ≤ W) (hf : rm.frames + 1 ≤ R.frames) (hl : W + (maxL + 11) + rm.locals ≤ R.locals) (hcl : cells + rm.cells ≤ R.cells) (hsl : slots + rm.slots ≤ R.slots) (hd : decode c.code pc = .ok (.invokevirtual index, 3)) (N : Fr n0 locs) (pc' : Nat) (hp : pc + 3 = pc')
    (k : ∀ v T' locs', Stand p l e R s m args below meth c T' locs' (cells + rm.cells) (slots + rm.slots) → Fr n0 locs' → P v T'.heap → own_G p e below Q (T'.setTop (mkF m pc' Ls (v.toList ++ rest)))) : own_G p e below Q (T.setTop (mkF m pc Ls st)) := by
  subst hp
  obtain ⟨cell, q1, q2⟩ := E.cell
  obtain ⟨mk, methM, hnamed, hmethM, hstM, habM⟩ := Cond.instanceMethod_spec (mvT (args := args) hZ w4)
  obtain ⟨methM', cM, hmethM', -, -, -, -, -, -, hsigM⟩ := Cond.code_spec hnamed (mvT (args := args) hZ wc)
  cases hmethM.symm.trans hmethM'
  obtain ⟨cC, kP, i1, hkP, -, i4, -⟩ := Cond.instantiable_spec (mvT (args := args) hZ w6)
  cases i1.symm.trans (findClass_of_methodNamed hnamed)
  have hkPi : kP.isInterface = false := by
    simp only [Bool.or_eq_false_iff] at i4
    exact i4.1
  have hpriv := Cond.privateMethod_at (mvP (args := args) hZ w5)
  obtain ⟨vm₁, X₁, hstep⟩ := X.invokevirtual hx hown (mvT hZ w1) hnamed hmethM hstM hkP hkPi hy (a := a) (cell := cell) (by rw [eT]; exact q1) q2 (selectMethod_private hmethM (hpriv mk methM hnamed hmethM)) hmethM habM hkP hkPi (g := mkF m pc Ls st) rfl (argsL := argsL) (rest := rest) (hlen _ hsigM) hst hd
  obtain ⟨v, ⟨T', L', k', n'⟩, X', ⟨Lc, hQ, l1, y1, z1⟩, stp⟩ := own_back (below' := below) (W := W) (len := 3) M hZ wc wz hf hl m meth c ⟨T.setVm vm₁, locs, cells, slots⟩ { (mkF m pc Ls st) with stack := rest } (.invokevirtual index) mk (.ref a :: argsL).toArray X₁ rfl hml hd (by show 2 * 0 + (rest.map fun v => v.category).sum ≤ W; omega) (X₁.named hnamed) ⟨ha, eT, hcl, hsl⟩
  dsimp only [Pt.U, Pt.locs, Pt.cells, Pt.slots] at X' l1 y1 z1 stp hQ
  subst l1 y1 z1
  exact own_st (fun t ht => hstep _ fun acts => by rw [doInvoke_state]; exact stp.trans ht) (k v T' _ X' (N.app hQ.1) hQ.2)
theorem own_getF (X : Stand p l e R s m args below meth c T locs cells slots) (hx : p.tables.exec = Jvm.exec) (hZ : Z.Warmed39 s.vm) {own : String} (hown : s.vm.findClass own = some m.cls) {O n d : String} {index : Nat} (w : (Cond.fieldLink own index O n d).before a0 Z = true) (eT : T.heap = h) {a : Addr} {v : Value} (F : Fld Z h a O n d v) (hd : decode c.code pc = .ok (.getfield index, 3)) (pc' : Nat) (hp : pc + 3 = pc')
    (k : ∀ T', Stand p l e R s m args below meth c T' locs cells slots → T'.heap = h → own_G p e below Q (T'.setTop (mkF m pc' Ls (v :: st)))) : own_G p e below Q (T.setTop (mkF m pc Ls (.ref a :: st))) := by
  subst hp
  obtain ⟨T', X', e', stp⟩ := getF X hx hZ hown (host := "") (Or.inl w) Via.refl eT F (g := mkF m pc Ls (.ref a :: st)) rfl rfl hd
  exact own_st stp (k T' X' e')
theorem own_putF (X : Stand p l e R s m args below meth c T locs cells slots) (hx : p.tables.exec = Jvm.exec) (hZ : Z.Warmed39 s.vm) {own : String} (hown : s.vm.findClass own = some m.cls) {O n d C : String} {index kk : Nat} {ty : FieldType} (w : (Cond.fieldLink own index O n d).before a0 Z = true) (eT : T.heap = h) {a : Addr} {v old : Value} (F : Fld Z h a O n d old) (E : Exa Z h a C) (L : (Cond.lays C O n d).before a0 Z = true ∨ ((Cond.laysFinal C O n d).before a0 Z = true ∧ own = O ∧ meth.name = "<init>")) (wi : (Cond.instantiable C kk).before a0 Z = true)
    (hty : parseFieldDescriptor d = some ty) (hn : narrow ty v = v) (hf : fits ty v = true) (hd : decode c.code pc = .ok (.putfield index, 3)) (N : Fr n0 locs) (g : n0 ≤ a) (pc' : Nat) (hp : pc + 3 = pc')
    (k : ∀ T' h' locs', Stand p l e R s m args below meth c T' locs' cells slots → Fr n0 locs' → T'.heap = h' → Wr h h' a (Jvm.RoadKit.slotOf Z O n d) v → own_G p e below Q (T'.setTop (mkF m pc' Ls st))) : own_G p e below Q (T.setTop (mkF m pc Ls (v :: .ref a :: st))) := by
  subst hp
  obtain ⟨T', h', X', e', W, stp⟩ := putF X hx hZ hown (host := "") (Or.inl w) Via.refl eT F E L wi hty hn hf (g := mkF m pc Ls (v :: .ref a :: st)) rfl rfl hd
  exact own_st stp (k T' h' _ X' (Fr.snoc X' N g) e' W)
/-- putfield of a boolean, byte, char or short: v' is what the field then holds -/
theorem own_putFN (X : Stand p l e R s m args below meth c T locs cells slots) (hx : p.tables.exec = Jvm.exec) (hZ : Z.Warmed39 s.vm) {own : String} (hown : s.vm.findClass own = some m.cls) {O n d C : String} {index kk : Nat} {ty : FieldType} (w : (Cond.fieldLink own index O n d).before a0 Z = true) (eT : T.heap = h) {a : Addr} {v v' old : Value} (F : Fld Z h a O n d old) (E : Exa Z h a C) (L : (Cond.lays C O n d).before a0 Z = true ∨ ((Cond.laysFinal C O n d).before a0 Z = true ∧ own = O ∧ meth.name = "<init>")) (wi : (Cond.instantiable C kk).before a0 Z = true)
    (hty : parseFieldDescriptor d = some ty) (hn : narrow ty v = v') (hf : fits ty v' = true) (hd : decode c.code pc = .ok (.putfield index, 3)) (N : Fr n0 locs) (g : n0 ≤ a) (pc' : Nat) (hp : pc + 3 = pc')
    (k : ∀ T' h' locs', Stand p l e R s m args below meth c T' locs' cells slots → Fr n0 locs' → T'.heap = h' → Wr h h' a (Jvm.RoadKit.slotOf Z O n d) v' → own_G p e below Q (T'.setTop (mkF m pc' Ls st))) : own_G p e below Q (T.setTop (mkF m pc Ls (v :: .ref a :: st))) := by
  subst hp
  obtain ⟨T', h', X', e', W, stp⟩ := putFN X hx hZ hown w Via.refl eT F E L wi hty hn hf (g := mkF m pc Ls (v :: .ref a :: st)) rfl rfl hd
  exact own_st stp (k T' h' _ X' (Fr.snoc X' N g) e' W)
theorem own_newO (X : Stand p l e R s m args below meth c T locs cells slots) (hx : p.tables.exec = Jvm.exec) (hZ : Z.Warmed39 s.vm) {own : String} (hown : s.vm.findClass own = some m.cls) {C : String} {index n : Nat} (w : (Cond.classLink own index C).before a0 Z = true) (wi : (Cond.instantiable C n).before a0 Z = true) (wz : (Cond.initialized C).before a0 Z = true) (eT : T.heap = h) (hd : decode c.code pc = .ok (.new index, 3)) (hc : cells + 1 ≤ R.cells) (hl : slots + n ≤ R.slots) (pc' : Nat) (hp : pc + 3 = pc')
    (k : ∀ T' h' a, a = h.size → Stand p l e R s m args below meth c T' locs (cells + 1) (slots + n) → T'.heap = h' → Ext h h' → Exa Z h' a C → (∀ {O nm d : String} {ty : FieldType}, Laid Z a0 C O nm d → parseFieldDescriptor d = some ty → Fld Z h' a O nm d (defaultValue ty)) → own_G p e below Q (T'.setTop (mkF m pc' Ls (.ref a :: st)))) : own_G p e below Q (T.setTop (mkF m pc Ls st)) := by
  subst hp
  obtain ⟨T', h', X', e', E, A, D, -, stp⟩ := newO X hx hZ hown w wi wz eT (g := mkF m pc Ls st) rfl hd hc hl
  exact own_st stp (k T' h' _ rfl X' e' E A D)
theorem own_newP (X : Stand p l e R s m args below meth c T locs cells slots) (hx : p.tables.exec = Jvm.exec) (hZ : Z.Warmed39 s.vm) {aty : ArrayType} (w : (Cond.arrayClass (newarray.typeOf aty)).before a0 Z = true) (eT : T.heap = h) (hd : decode c.code pc = .ok (.newarray aty, 2)) {n : Int32} (hn : ¬ n < 0) (cap : Nat) (hcap : n.toNatClampNeg ≤ cap) (hb : cap * 8 ≤ 536870912) (hc : cells + 1 ≤ R.cells) (hl : slots + cap ≤ R.slots) (pc' : Nat) (hp : pc + 2 = pc')
    (k : ∀ T' h' cA a, a = h.size → Stand p l e R s m args below meth c T' locs (cells + 1) (slots + cap) → T'.heap = h' → Ext h h' → Arr Z h' a (newA cA (newarray.typeOf aty) n) (newarray.typeOf aty) → own_G p e below Q (T'.setTop (mkF m pc' Ls (.ref a :: st)))) : own_G p e below Q (T.setTop (mkF m pc Ls (.int n :: st))) := by
  subst hp
  obtain ⟨T', h', cA, X', e', E, A, stp⟩ := newP X hx hZ w eT (g := mkF m pc Ls (.int n :: st)) rfl hd rfl hn hcap hb hc hl
  exact own_st stp (k T' h' cA _ rfl X' e' E A)
theorem own_newR (X : Stand p l e R s m args below meth c T locs cells slots) (hx : p.tables.exec = Jvm.exec) (hZ : Z.Warmed39 s.vm) {own : String} (hown : s.vm.findClass own = some m.cls) {C : String} {index : Nat} (w1 : (Cond.classLink own index C).before a0 Z = true) (w2 : (Cond.arrayOver (.object C)).before a0 Z = true) (eT : T.heap = h) (hd : decode c.code pc = .ok (.anewarray index, 3)) {n : Int32} (hn : ¬ n < 0) (cap : Nat) (hcap : n.toNatClampNeg ≤ cap) (hb : cap * 8 ≤ 536870912) (hc : cells + 1 ≤ R.cells) (hl : slots + cap ≤ R.slots) (pc' : Nat) (hp : pc + 3 = pc')
    (k : ∀ T' h' cA a, a = h.size → Stand p l e R s m args below meth c T' locs (cells + 1) (slots + cap) → T'.heap = h' → Ext h h' → Arr Z h' a (newA cA (.object C) n) (.object C) → own_G p e below Q (T'.setTop (mkF m pc' Ls (.ref a :: st)))) : own_G p e below Q (T.setTop (mkF m pc Ls (.int n :: st))) := by
  subst hp
  obtain ⟨T', h', cA, X', e', E, A, -, stp⟩ := newR X hx hZ hown w1 w2 eT (g := mkF m pc Ls (.int n :: st)) rfl hd rfl hn hcap hb hc hl
  exact own_st stp (k T' h' cA _ rfl X' e' E A)
/-- an array of ints, bytes, chars or booleans (as ints): its length, what place j holds -/
def own_A (Z : State) (h : Heap) (a : Addr) (ty : FieldType) (n : Nat) (f : Nat → Int32) : Prop := ∃ c : Cell, Arr Z h a c ty ∧ c.slots.size = n ∧ ∀ j, j < n → c.slots[j]? = some (.int (f j))
variable {h' : Heap} {a b : Addr} {ty : FieldType} {n : Nat} {f : Nat → Int32} {sl : Nat} {v : Value} {wl : List Addr}
theorem own_A.lt (A : own_A Z h a ty n f) : a < h.size := by obtain ⟨c, A, -⟩ := A; exact A.lt
theorem own_A.ext (A : own_A Z h a ty n f) (E : Ext h h') : own_A Z h' a ty n f := by obtain ⟨c, A, r⟩ := A; exact ⟨c, A.ext E, r⟩
theorem own_A.other (A : own_A Z h a ty n f) (W : Wr h h' b sl v) (q : a ≠ b) : own_A Z h' a ty n f := by obtain ⟨c, A, r⟩ := A; exact ⟨c, A.other W q, r⟩
theorem own_A.keep (A : own_A Z h a ty n f) (K : Keep h h' wl) (q : a ∉ wl) : own_A Z h' a ty n f := by obtain ⟨c, A, r⟩ := A; exact ⟨c, ⟨K.2.1 a c A.1 q, A.2⟩, r⟩
theorem own_A.set (A : own_A Z h a ty n f) {i : Nat} {x : Int32} (W : Wr h h' a i (.int x)) : own_A Z h' a ty n (fun j => if i = j then x else f j) := by
  obtain ⟨c, A, S, H⟩ := A
  refine ⟨_, A.same W, by rw [sz_set]; exact S, fun j hj => ?_⟩
  by_cases q : i = j
  · subst q
    simp [Cell.setSlot, S, hj]
  · simp only [Cell.setSlot, q, if_false]
    rw [Array.getElem?_setIfInBounds_ne q]
    exact H j hj
theorem own_A.congr (A : own_A Z h a ty n f) {g : Nat → Int32} (q : ∀ j, j < n → f j = g j) : own_A Z h a ty n g := by
  obtain ⟨c, A, S, H⟩ := A
  exact ⟨c, A, S, fun j hj => by rw [← q j hj]; exact H j hj⟩
theorem own_A.new {cA : ClassId} {z : Int32} (A : Arr Z h a (newA cA ty z) ty) (hz : z.toNatClampNeg = n) (hd : defaultValue ty = .int 0) : own_A Z h a ty n (fun _ => 0) := by
  refine ⟨_, A, by rw [sz_new]; exact hz, fun j hj => ?_⟩
  simp [newA, hz, hj, hd]
theorem own_nin {z : Int32} {nn : Nat} {cl : Cell} (S : cl.slots.size = nn) (q : ¬ z < 0 ∧ z.toNatClampNeg < nn) : ¬ (z < 0 ∨ cl.slots.size ≤ z.toNatClampNeg) := fun w => w.elim q.1 fun u => Nat.not_lt.mpr (S ▸ u) q.2
theorem own_iaload (X : Stand p l e R s m args below meth c T locs cells slots) (hx : p.tables.exec = Jvm.exec) (hZ : Z.Warmed39 s.vm) (eT : T.heap = h) (A : own_A Z h a .int n f) {j : Int32} (hj : ¬ j < 0 ∧ j.toNatClampNeg < n) {x : Int32} (hv : f j.toNatClampNeg = x) (hd : decode c.code pc = .ok (.iaload, 1)) (pc' : Nat) (hp : pc + 1 = pc') (r : own_G p e below Q (T.setTop (mkF m pc' Ls (.int x :: st)))) : own_G p e below Q (T.setTop (mkF m pc Ls (.int j :: .ref a :: st))) := by
  subst hp hv
  obtain ⟨cl, A, S, H⟩ := A
  exact own_st (fun t ht => X.iaload hx (j := j) (by rw [eT]; exact A.1) (State.isArrayOf_alike hZ.alike A.2.1) A.2.2 (own_nin S hj) (H _ hj.2) (g := mkF m pc Ls (.int j :: .ref a :: st)) rfl rfl hd t ht) r
theorem own_zaload (X : Stand p l e R s m args below meth c T locs cells slots) (hx : p.tables.exec = Jvm.exec) (hZ : Z.Warmed39 s.vm) (eT : T.heap = h) (A : own_A Z h a .boolean n f) {j : Int32} (hj : ¬ j < 0 ∧ j.toNatClampNeg < n) {x : Int32} (hv : f j.toNatClampNeg = x) (hd : decode c.code pc = .ok (.baload, 1)) (pc' : Nat) (hp : pc + 1 = pc') (r : own_G p e below Q (T.setTop (mkF m pc' Ls (.int x :: st)))) : own_G p e below Q (T.setTop (mkF m pc Ls (.int j :: .ref a :: st))) := by
  subst hp hv
  obtain ⟨cl, A, S, H⟩ := A
  exact own_st (fun t ht => X.baloadBooleans hx (j := j) (by rw [eT]; exact A.1) (State.isArrayOf_alike hZ.alike A.2.1) A.2.2 (own_nin S hj) (H _ hj.2) (g := mkF m pc Ls (.int j :: .ref a :: st)) rfl rfl hd t ht) r
theorem own_baload (X : Stand p l e R s m args below meth c T locs cells slots) (hx : p.tables.exec = Jvm.exec) (hZ : Z.Warmed39 s.vm) (eT : T.heap = h) (A : own_A Z h a .byte n f) {j : Int32} (hj : ¬ j < 0 ∧ j.toNatClampNeg < n) {x : Int32} (hv : f j.toNatClampNeg = x) (hd : decode c.code pc = .ok (.baload, 1)) (pc' : Nat) (hp : pc + 1 = pc') (r : own_G p e below Q (T.setTop (mkF m pc' Ls (.int x :: st)))) : own_G p e below Q (T.setTop (mkF m pc Ls (.int j :: .ref a :: st))) := by
  subst hp hv
  obtain ⟨cl, A, S, H⟩ := A
  exact own_st (fun t ht => X.baloadBytes hx (j := j) (by rw [eT]; exact A.1) (State.isArrayOf_alike hZ.alike A.2.1) A.2.2 (own_nin S hj) (H _ hj.2) (g := mkF m pc Ls (.int j :: .ref a :: st)) rfl rfl hd t ht) r
theorem own_ialoadE (X : Stand p l e R s m args below meth c T locs cells slots) (hx : p.tables.exec = Jvm.exec) (hZ : Z.Warmed39 s.vm) (eT : T.heap = h) (A : own_A Z h a .int n f) {j : Int32} (hj : ¬ j < 0 ∧ j.toNatClampNeg < n) (hd : decode c.code pc = .ok (.iaload, 1)) (pc' : Nat) (hp : pc + 1 = pc') (r : ∀ x, f j.toNatClampNeg = x → own_G p e below Q (T.setTop (mkF m pc' Ls (.int x :: st)))) : own_G p e below Q (T.setTop (mkF m pc Ls (.int j :: .ref a :: st))) := own_iaload X hx hZ eT A hj rfl hd pc' hp (r _ rfl)
theorem own_zaloadE (X : Stand p l e R s m args below meth c T locs cells slots) (hx : p.tables.exec = Jvm.exec) (hZ : Z.Warmed39 s.vm) (eT : T.heap = h) (A : own_A Z h a .boolean n f) {j : Int32} (hj : ¬ j < 0 ∧ j.toNatClampNeg < n) (hd : decode c.code pc = .ok (.baload, 1)) (pc' : Nat) (hp : pc + 1 = pc') (r : ∀ x, f j.toNatClampNeg = x → own_G p e below Q (T.setTop (mkF m pc' Ls (.int x :: st)))) : own_G p e below Q (T.setTop (mkF m pc Ls (.int j :: .ref a :: st))) := own_zaload X hx hZ eT A hj rfl hd pc' hp (r _ rfl)
theorem own_baloadE (X : Stand p l e R s m args below meth c T locs cells slots) (hx : p.tables.exec = Jvm.exec) (hZ : Z.Warmed39 s.vm) (eT : T.heap = h) (A : own_A Z h a .byte n f) {j : Int32} (hj : ¬ j < 0 ∧ j.toNatClampNeg < n) (hd : decode c.code pc = .ok (.baload, 1)) (pc' : Nat) (hp : pc + 1 = pc') (r : ∀ x, f j.toNatClampNeg = x → own_G p e below Q (T.setTop (mkF m pc' Ls (.int x :: st)))) : own_G p e below Q (T.setTop (mkF m pc Ls (.int j :: .ref a :: st))) := own_baload X hx hZ eT A hj rfl hd pc' hp (r _ rfl)
theorem own_arrlen (X : Stand p l e R s m args below meth c T locs cells slots) (hx : p.tables.exec = Jvm.exec) (hZ : Z.Warmed39 s.vm) (eT : T.heap = h) (A : own_A Z h a ty n f) {z : Int32} (hz : n.toInt32 = z) (hd : decode c.code pc = .ok (.arraylength, 1)) (pc' : Nat) (hp : pc + 1 = pc') (r : own_G p e below Q (T.setTop (mkF m pc' Ls (.int z :: st)))) : own_G p e below Q (T.setTop (mkF m pc Ls (.ref a :: st))) := by
  subst hp hz
  obtain ⟨cl, A, S, H⟩ := A
  subst S
  exact own_st (fun t ht => X.arraylength hx (by rw [eT]; exact A.1) (State.isArrayOf_alike hZ.alike A.2.1) (g := mkF m pc Ls (.ref a :: st)) rfl rfl hd t ht) r
theorem own_iastore (X : Stand p l e R s m args below meth c T locs cells slots) (hx : p.tables.exec = Jvm.exec) (hZ : Z.Warmed39 s.vm) (eT : T.heap = h) (A : own_A Z h a .int n f) {j x : Int32} (hj : ¬ j < 0 ∧ j.toNatClampNeg < n) (hd : decode c.code pc = .ok (.iastore, 1)) (N : Fr n0 locs) (g : n0 ≤ a) (pc' : Nat) (hp : pc + 1 = pc')
    (k : ∀ T' h' locs', Stand p l e R s m args below meth c T' locs' cells slots → Fr n0 locs' → T'.heap = h' → Wr h h' a j.toNatClampNeg (.int x) → own_G p e below Q (T'.setTop (mkF m pc' Ls st))) : own_G p e below Q (T.setTop (mkF m pc Ls (.int x :: .int j :: .ref a :: st))) := by
  subst hp
  obtain ⟨cl, A, S, H⟩ := A
  obtain ⟨T', h', X', e', W, stp⟩ := stI X hx hZ eT A (own_nin S hj) (g := mkF m pc Ls (.int x :: .int j :: .ref a :: st)) rfl rfl hd
  exact own_st stp (k T' h' _ X' (Fr.snoc X' N g) e' W)
theorem own_zastore (X : Stand p l e R s m args below meth c T locs cells slots) (hx : p.tables.exec = Jvm.exec) (hZ : Z.Warmed39 s.vm) (eT : T.heap = h) (A : own_A Z h a .boolean n f) {j x : Int32} (hj : ¬ j < 0 ∧ j.toNatClampNeg < n) (hd : decode c.code pc = .ok (.bastore, 1)) (N : Fr n0 locs) (g : n0 ≤ a) (pc' : Nat) (hp : pc + 1 = pc')
    (k : ∀ T' h' locs', Stand p l e R s m args below meth c T' locs' cells slots → Fr n0 locs' → T'.heap = h' → Wr h h' a j.toNatClampNeg (.int (nar .boolean x)) → own_G p e below Q (T'.setTop (mkF m pc' Ls st))) : own_G p e below Q (T.setTop (mkF m pc Ls (.int x :: .int j :: .ref a :: st))) := by
  subst hp
  obtain ⟨cl, A, S, H⟩ := A
  obtain ⟨T', h', X', e', W, stp⟩ := stZ X hx hZ eT A (own_nin S hj) (g := mkF m pc Ls (.int x :: .int j :: .ref a :: st)) rfl rfl hd
  exact own_st stp (k T' h' _ X' (Fr.snoc X' N g) e' W)
end OwnBase
theorem own_pn_XmlChars : plainName "com/example/xqwry/xqwry/XmlChars" = true := by first | (simp [plainName, overriddenIn]; done) | decide +kernel
theorem own_pn_XmlCharsIsCharPinLaw : plainName "com/example/xqwry/xqwry/XmlCharsIsCharPinLaw" = true := by first | (simp [plainName, overriddenIn]; done) | decide +kernel
theorem own_w0 {Z : State} {a0 : Array Value} (hw : ∀ d ∈ tables_1, d.before a0 Z = true) : ((Jvm.Cond.arrayClass Jvm.ClassFile.FieldType.int)).before a0 Z = true := hw _ (List.mem_of_getElem? (i := 0) rfl)
theorem own_w1 {Z : State} {a0 : Array Value} (hw : ∀ d ∈ tables_1, d.before a0 Z = true) : ((Jvm.Cond.constant "com/example/xqwry/xqwry/XmlCharsIsCharPinLaw" (12 : Nat) (55295 : Int32))).before a0 Z = true := hw _ (List.mem_of_getElem? (i := 1) rfl)
theorem own_w2 {Z : State} {a0 : Array Value} (hw : ∀ d ∈ tables_1, d.before a0 Z = true) : ((Jvm.Cond.constant "com/example/xqwry/xqwry/XmlCharsIsCharPinLaw" (8 : Nat) (55296 : Int32))).before a0 Z = true := hw _ (List.mem_of_getElem? (i := 2) rfl)
theorem own_w3 {Z : State} {a0 : Array Value} (hw : ∀ d ∈ tables_1, d.before a0 Z = true) : ((Jvm.Cond.constant "com/example/xqwry/xqwry/XmlCharsIsCharPinLaw" (9 : Nat) (57343 : Int32))).before a0 Z = true := hw _ (List.mem_of_getElem? (i := 3) rfl)
theorem own_w4 {Z : State} {a0 : Array Value} (hw : ∀ d ∈ tables_1, d.before a0 Z = true) : ((Jvm.Cond.constant "com/example/xqwry/xqwry/XmlCharsIsCharPinLaw" (13 : Nat) (57344 : Int32))).before a0 Z = true := hw _ (List.mem_of_getElem? (i := 4) rfl)
theorem own_w5 {Z : State} {a0 : Array Value} (hw : ∀ d ∈ tables_1, d.before a0 Z = true) : ((Jvm.Cond.constant "com/example/xqwry/xqwry/XmlCharsIsCharPinLaw" (14 : Nat) (65533 : Int32))).before a0 Z = true := hw _ (List.mem_of_getElem? (i := 5) rfl)
theorem own_w6 {Z : State} {a0 : Array Value} (hw : ∀ d ∈ tables_1, d.before a0 Z = true) : ((Jvm.Cond.constant "com/example/xqwry/xqwry/XmlCharsIsCharPinLaw" (10 : Nat) (65534 : Int32))).before a0 Z = true := hw _ (List.mem_of_getElem? (i := 6) rfl)
theorem own_w7 {Z : State} {a0 : Array Value} (hw : ∀ d ∈ tables_1, d.before a0 Z = true) : ((Jvm.Cond.constant "com/example/xqwry/xqwry/XmlCharsIsCharPinLaw" (15 : Nat) (65536 : Int32))).before a0 Z = true := hw _ (List.mem_of_getElem? (i := 7) rfl)
theorem own_w8 {Z : State} {a0 : Array Value} (hw : ∀ d ∈ tables_1, d.before a0 Z = true) : ((Jvm.Cond.constant "com/example/xqwry/xqwry/XmlCharsIsCharPinLaw" (7 : Nat) (1114111 : Int32))).before a0 Z = true := hw _ (List.mem_of_getElem? (i := 8) rfl)
theorem own_w9 {Z : State} {a0 : Array Value} (hw : ∀ d ∈ tables_1, d.before a0 Z = true) : ((Jvm.Cond.constant "com/example/xqwry/xqwry/XmlCharsIsCharPinLaw" (18 : Nat) (-2147483648 : Int32))).before a0 Z = true := hw _ (List.mem_of_getElem? (i := 9) rfl)
theorem own_w10 {Z : State} {a0 : Array Value} (hw : ∀ d ∈ tables_1, d.before a0 Z = true) : ((Jvm.Cond.constant "com/example/xqwry/xqwry/XmlCharsIsCharPinLaw" (19 : Nat) (2147483647 : Int32))).before a0 Z = true := hw _ (List.mem_of_getElem? (i := 10) rfl)
theorem own_w11 {Z : State} {a0 : Array Value} (hw : ∀ d ∈ tables_1, d.before a0 Z = true) : ((Jvm.Cond.methodLink "com/example/xqwry/xqwry/XmlCharsIsCharPinLaw" (20 : Nat) ({ cls := "com/example/xqwry/xqwry/XmlChars", name := "isChar", desc := "(I)Z" } : Jvm.MethodName))).before a0 Z = true := hw _ (List.mem_of_getElem? (i := 11) rfl)
theorem own_w12 {Z : State} {a0 : Array Value} (hw : ∀ d ∈ tables_1, d.before a0 Z = true) : ((Jvm.Cond.static ({ cls := "com/example/xqwry/xqwry/XmlChars", name := "isChar", desc := "(I)Z" } : Jvm.MethodName))).before a0 Z = true := hw _ (List.mem_of_getElem? (i := 12) rfl)
theorem own_w13 {Z : State} {a0 : Array Value} (hw : ∀ d ∈ tables_1, d.before a0 Z = true) : ((Jvm.Cond.initialized "com/example/xqwry/xqwry/XmlChars")).before a0 Z = true := hw _ (List.mem_of_getElem? (i := 13) rfl)
theorem own_w14 {Z : State} {a0 : Array Value} (hw : ∀ d ∈ tables_1, d.before a0 Z = true) : ((Jvm.Cond.code ({ cls := "com/example/xqwry/xqwry/XmlChars", name := "isChar", desc := "(I)Z" } : Jvm.MethodName) prog_310_method_12_code (1 : Nat) (Option.some Jvm.ClassFile.FieldType.boolean))).before a0 Z = true := hw _ (List.mem_of_getElem? (i := 14) rfl)
theorem own_w15 {Z : State} {a0 : Array Value} (hw : ∀ d ∈ tables_1, d.before a0 Z = true) : ((Jvm.Cond.constant "com/example/xqwry/xqwry/XmlChars" (93 : Nat) (57344 : Int32))).before a0 Z = true := hw _ (List.mem_of_getElem? (i := 15) rfl)
theorem own_w16 {Z : State} {a0 : Array Value} (hw : ∀ d ∈ tables_1, d.before a0 Z = true) : ((Jvm.Cond.constant "com/example/xqwry/xqwry/XmlChars" (95 : Nat) (65536 : Int32))).before a0 Z = true := hw _ (List.mem_of_getElem? (i := 16) rfl)
theorem own_w17 {Z : State} {a0 : Array Value} (hw : ∀ d ∈ tables_1, d.before a0 Z = true) : ((Jvm.Cond.methodLink "com/example/xqwry/xqwry/XmlCharsIsCharPinLaw" (26 : Nat) ({ cls := "com/example/xqwry/xqwry/XmlCharsIsCharPinLaw", name := "reference", desc := "(I)Z" } : Jvm.MethodName))).before a0 Z = true := hw _ (List.mem_of_getElem? (i := 17) rfl)
theorem own_w18 {Z : State} {a0 : Array Value} (hw : ∀ d ∈ tables_1, d.before a0 Z = true) : ((Jvm.Cond.static ({ cls := "com/example/xqwry/xqwry/XmlCharsIsCharPinLaw", name := "reference", desc := "(I)Z" } : Jvm.MethodName))).before a0 Z = true := hw _ (List.mem_of_getElem? (i := 18) rfl)
theorem own_w19 {Z : State} {a0 : Array Value} (hw : ∀ d ∈ tables_1, d.before a0 Z = true) : ((Jvm.Cond.initialized "com/example/xqwry/xqwry/XmlCharsIsCharPinLaw")).before a0 Z = true := hw _ (List.mem_of_getElem? (i := 19) rfl)
theorem own_w20 {Z : State} {a0 : Array Value} (hw : ∀ d ∈ tables_1, d.before a0 Z = true) : ((Jvm.Cond.code ({ cls := "com/example/xqwry/xqwry/XmlCharsIsCharPinLaw", name := "reference", desc := "(I)Z" } : Jvm.MethodName) method_2_code (1 : Nat) (Option.some Jvm.ClassFile.FieldType.boolean))).before a0 Z = true := hw _ (List.mem_of_getElem? (i := 20) rfl)
theorem own_w21 {Z : State} {a0 : Array Value} (hw : ∀ d ∈ tables_1, d.before a0 Z = true) : ((Jvm.Cond.constant "com/example/xqwry/xqwry/XmlChars" (92 : Nat) (55295 : Int32))).before a0 Z = true := hw _ (List.mem_of_getElem? (i := 21) rfl)
theorem own_w22 {Z : State} {a0 : Array Value} (hw : ∀ d ∈ tables_1, d.before a0 Z = true) : ((Jvm.Cond.constant "com/example/xqwry/xqwry/XmlCharsIsCharPinLaw" (11 : Nat) (65535 : Int32))).before a0 Z = true := hw _ (List.mem_of_getElem? (i := 22) rfl)
theorem own_w23 {Z : State} {a0 : Array Value} (hw : ∀ d ∈ tables_1, d.before a0 Z = true) : ((Jvm.Cond.constant "com/example/xqwry/xqwry/XmlChars" (94 : Nat) (65533 : Int32))).before a0 Z = true := hw _ (List.mem_of_getElem? (i := 23) rfl)
theorem own_w24 {Z : State} {a0 : Array Value} (hw : ∀ d ∈ tables_1, d.before a0 Z = true) : ((Jvm.Cond.constant "com/example/xqwry/xqwry/XmlChars" (96 : Nat) (1114111 : Int32))).before a0 Z = true := hw _ (List.mem_of_getElem? (i := 24) rfl)
/-- what isChar gives -/
def own_f_isChar (p1 : Int32) : Int32 :=
  if p1 < (32 : Int32) then
    if p1 = (10 : Int32) then
      (1 : Int32)
    else
      if p1 = (9 : Int32) then
        (1 : Int32)
      else
        if p1 = (13 : Int32) then
          (1 : Int32)
        else
          if p1 < (57344 : Int32) then
            if p1 < (65536 : Int32) then
              (0 : Int32)
            else
              if (1114111 : Int32) < p1 then
                (0 : Int32)
              else
                (1 : Int32)
          else
            if (65533 : Int32) < p1 then
              if p1 < (65536 : Int32) then
                (0 : Int32)
              else
                if (1114111 : Int32) < p1 then
                  (0 : Int32)
                else
                  (1 : Int32)
            else
              (1 : Int32)
  else
    if (55295 : Int32) < p1 then
      if p1 = (10 : Int32) then
        (1 : Int32)
      else
        if p1 = (9 : Int32) then
          (1 : Int32)
        else
          if p1 = (13 : Int32) then
            (1 : Int32)
          else
            if p1 < (57344 : Int32) then
              if p1 < (65536 : Int32) then
                (0 : Int32)
              else
                if (1114111 : Int32) < p1 then
                  (0 : Int32)
                else
                  (1 : Int32)
            else
              if (65533 : Int32) < p1 then
                if p1 < (65536 : Int32) then
                  (0 : Int32)
                else
                  if (1114111 : Int32) < p1 then
                    (0 : Int32)
                  else
                    (1 : Int32)
              else
                (1 : Int32)
    else
      (1 : Int32)
theorem d_isChar_0 : decode prog_310_method_12_code 0 = .ok (.iload_n 0, 1) := by decide +kernel
theorem d_isChar_1 : decode prog_310_method_12_code 1 = .ok (.bipush 32, 2) := by decide +kernel
theorem d_isChar_3 : decode prog_310_method_12_code 3 = .ok (.if_icmp .lt 9, 3) := by decide +kernel
theorem d_isChar_6 : decode prog_310_method_12_code 6 = .ok (.iload_n 0, 1) := by decide +kernel
theorem d_isChar_7 : decode prog_310_method_12_code 7 = .ok (.ldc 92, 2) := by decide +kernel
theorem d_isChar_9 : decode prog_310_method_12_code 9 = .ok (.if_icmp .le 45, 3) := by decide +kernel
theorem d_isChar_12 : decode prog_310_method_12_code 12 = .ok (.iload_n 0, 1) := by decide +kernel
theorem d_isChar_13 : decode prog_310_method_12_code 13 = .ok (.bipush 10, 2) := by decide +kernel
theorem d_isChar_15 : decode prog_310_method_12_code 15 = .ok (.if_icmp .eq 39, 3) := by decide +kernel
theorem d_isChar_18 : decode prog_310_method_12_code 18 = .ok (.iload_n 0, 1) := by decide +kernel
theorem d_isChar_19 : decode prog_310_method_12_code 19 = .ok (.bipush 9, 2) := by decide +kernel
theorem d_isChar_21 : decode prog_310_method_12_code 21 = .ok (.if_icmp .eq 33, 3) := by decide +kernel
theorem d_isChar_24 : decode prog_310_method_12_code 24 = .ok (.iload_n 0, 1) := by decide +kernel
theorem d_isChar_25 : decode prog_310_method_12_code 25 = .ok (.bipush 13, 2) := by decide +kernel
theorem d_isChar_27 : decode prog_310_method_12_code 27 = .ok (.if_icmp .eq 27, 3) := by decide +kernel
theorem d_isChar_30 : decode prog_310_method_12_code 30 = .ok (.iload_n 0, 1) := by decide +kernel
theorem d_isChar_31 : decode prog_310_method_12_code 31 = .ok (.ldc 93, 2) := by decide +kernel
theorem d_isChar_33 : decode prog_310_method_12_code 33 = .ok (.if_icmp .lt 9, 3) := by decide +kernel
theorem d_isChar_36 : decode prog_310_method_12_code 36 = .ok (.iload_n 0, 1) := by decide +kernel
theorem d_isChar_37 : decode prog_310_method_12_code 37 = .ok (.ldc 94, 2) := by decide +kernel
theorem d_isChar_39 : decode prog_310_method_12_code 39 = .ok (.if_icmp .le 15, 3) := by decide +kernel
theorem d_isChar_42 : decode prog_310_method_12_code 42 = .ok (.iload_n 0, 1) := by decide +kernel
theorem d_isChar_43 : decode prog_310_method_12_code 43 = .ok (.ldc 95, 2) := by decide +kernel
theorem d_isChar_45 : decode prog_310_method_12_code 45 = .ok (.if_icmp .lt 13, 3) := by decide +kernel
theorem d_isChar_48 : decode prog_310_method_12_code 48 = .ok (.iload_n 0, 1) := by decide +kernel
theorem d_isChar_49 : decode prog_310_method_12_code 49 = .ok (.ldc 96, 2) := by decide +kernel
theorem d_isChar_51 : decode prog_310_method_12_code 51 = .ok (.if_icmp .gt 7, 3) := by decide +kernel
theorem d_isChar_54 : decode prog_310_method_12_code 54 = .ok (.iconst 1, 1) := by decide +kernel
theorem d_isChar_55 : decode prog_310_method_12_code 55 = .ok (.goto 4, 3) := by decide +kernel
theorem d_isChar_58 : decode prog_310_method_12_code 58 = .ok (.iconst 0, 1) := by decide +kernel
theorem d_isChar_59 : decode prog_310_method_12_code 59 = .ok (.ireturn, 1) := by decide +kernel
theorem own_ef_isChar (m : MethodId) (p1 : Int32) : entryFrame m #[(.int p1)] 1 = mkF m 0 #[.val (.int p1)] [] := by first | (simp [entryFrame, mkF, argsToLocals, Value.category]; done) | rfl
set_option maxRecDepth 65536 in
set_option maxHeartbeats 40000000 in
theorem own_m_isChar (l : Launch) (Z : State) (a0 : Array Value) (hw : ∀ d ∈ tables_1, d.before a0 Z = true) (h0 : Heap) (n0 : Nat) (p1 : Int32) {r : Int32} (hF : own_f_isChar p1 = r) : own_Met l Z ⟨"com/example/xqwry/xqwry/XmlChars", "isChar", "(I)Z"⟩ prog_310_method_12_code 1 (some .boolean) [] ({ frames := 0, cells := 0, slots := 0, locals := 0 } : Room) #[.int p1] h0 n0 (fun v h => v = some (.int r) ∧ h = h0) := by
  unfold own_f_isChar at hF
  refine own_body own_pn_XmlChars ?_
  intro p e s m below meth c T0 X0 hx hby hml hown hnm hZ e0 hret hlk
  have N0 := Fr.nil n0
  refine own_cast (own_ef_isChar m p1) ?_
  refine own_iloadN X0 hx (hb hby d_isChar_0) rfl 1 rfl ?_
  refine own_bipush X0 hx (z := (32 : Int32)) (hb hby d_isChar_1) rfl 3 rfl ?_
  by_cases hc1 : p1 < (32 : Int32)
  · replace hF := own_ifT hc1 hF
    refine own_icmpT X0 hx (hb hby d_isChar_3) (tlt hc1).1 12 (by decide) (by decide) ?_
    refine own_iloadN X0 hx (hb hby d_isChar_12) rfl 13 rfl ?_
    refine own_bipush X0 hx (z := (10 : Int32)) (hb hby d_isChar_13) rfl 15 rfl ?_
    by_cases hc2 : p1 = (10 : Int32)
    · replace hF := own_ifT hc2 hF
      refine own_icmpT X0 hx (hb hby d_isChar_15) (teq hc2).1 54 (by decide) (by decide) ?_
      refine own_iconst X0 hx (z := (1 : Int32)) (hb hby d_isChar_54) rfl 55 rfl ?_
      refine own_goto X0 hx (hb hby d_isChar_55) 59 (by decide) (by decide) ?_
      exact own_retN X0 hx hret (Or.inl rfl) hlk (hb hby d_isChar_59) (Nat.le_refl _) (Nat.le_refl _) N0 e0 ⟨congrArg (fun z => some (Value.int z)) hF, rfl⟩
    · replace hF := own_ifF hc2 hF
      refine own_icmpF X0 hx (hb hby d_isChar_15) (feq hc2).1 18 rfl ?_
      refine own_iloadN X0 hx (hb hby d_isChar_18) rfl 19 rfl ?_
      refine own_bipush X0 hx (z := (9 : Int32)) (hb hby d_isChar_19) rfl 21 rfl ?_
      by_cases hc3 : p1 = (9 : Int32)
      · replace hF := own_ifT hc3 hF
        refine own_icmpT X0 hx (hb hby d_isChar_21) (teq hc3).1 54 (by decide) (by decide) ?_
        refine own_iconst X0 hx (z := (1 : Int32)) (hb hby d_isChar_54) rfl 55 rfl ?_
        refine own_goto X0 hx (hb hby d_isChar_55) 59 (by decide) (by decide) ?_
        exact own_retN X0 hx hret (Or.inl rfl) hlk (hb hby d_isChar_59) (Nat.le_refl _) (Nat.le_refl _) N0 e0 ⟨congrArg (fun z => some (Value.int z)) hF, rfl⟩
      · replace hF := own_ifF hc3 hF
        refine own_icmpF X0 hx (hb hby d_isChar_21) (feq hc3).1 24 rfl ?_
        refine own_iloadN X0 hx (hb hby d_isChar_24) rfl 25 rfl ?_
        refine own_bipush X0 hx (z := (13 : Int32)) (hb hby d_isChar_25) rfl 27 rfl ?_
        by_cases hc4 : p1 = (13 : Int32)
        · replace hF := own_ifT hc4 hF
          refine own_icmpT X0 hx (hb hby d_isChar_27) (teq hc4).1 54 (by decide) (by decide) ?_
          refine own_iconst X0 hx (z := (1 : Int32)) (hb hby d_isChar_54) rfl 55 rfl ?_
          refine own_goto X0 hx (hb hby d_isChar_55) 59 (by decide) (by decide) ?_
          exact own_retN X0 hx hret (Or.inl rfl) hlk (hb hby d_isChar_59) (Nat.le_refl _) (Nat.le_refl _) N0 e0 ⟨congrArg (fun z => some (Value.int z)) hF, rfl⟩
        · replace hF := own_ifF hc4 hF
          refine own_icmpF X0 hx (hb hby d_isChar_27) (feq hc4).1 30 rfl ?_
          refine own_iloadN X0 hx (hb hby d_isChar_30) rfl 31 rfl ?_
          refine own_ldcI X0 hx hZ hown (own_w15 hw) (hb hby d_isChar_31) 33 rfl ?_
          by_cases hc5 : p1 < (57344 : Int32)
          · replace hF := own_ifT hc5 hF
            refine own_icmpT X0 hx (hb hby d_isChar_33) (tlt hc5).1 42 (by decide) (by decide) ?_
            refine own_iloadN X0 hx (hb hby d_isChar_42) rfl 43 rfl ?_
            refine own_ldcI X0 hx hZ hown (own_w16 hw) (hb hby d_isChar_43) 45 rfl ?_
            by_cases hc6 : p1 < (65536 : Int32)
            · replace hF := own_ifT hc6 hF
              refine own_icmpT X0 hx (hb hby d_isChar_45) (tlt hc6).1 58 (by decide) (by decide) ?_
              refine own_iconst X0 hx (z := (0 : Int32)) (hb hby d_isChar_58) rfl 59 rfl ?_
              exact own_retN X0 hx hret (Or.inl rfl) hlk (hb hby d_isChar_59) (Nat.le_refl _) (Nat.le_refl _) N0 e0 ⟨congrArg (fun z => some (Value.int z)) hF, rfl⟩
            · replace hF := own_ifF hc6 hF
              refine own_icmpF X0 hx (hb hby d_isChar_45) (flt hc6).1 48 rfl ?_
              refine own_iloadN X0 hx (hb hby d_isChar_48) rfl 49 rfl ?_
              refine own_ldcI X0 hx hZ hown (own_w24 hw) (hb hby d_isChar_49) 51 rfl ?_
              by_cases hc7 : (1114111 : Int32) < p1
              · replace hF := own_ifT hc7 hF
                refine own_icmpT X0 hx (hb hby d_isChar_51) (tlt hc7).2.2.1 58 (by decide) (by decide) ?_
                refine own_iconst X0 hx (z := (0 : Int32)) (hb hby d_isChar_58) rfl 59 rfl ?_
                exact own_retN X0 hx hret (Or.inl rfl) hlk (hb hby d_isChar_59) (Nat.le_refl _) (Nat.le_refl _) N0 e0 ⟨congrArg (fun z => some (Value.int z)) hF, rfl⟩
              · replace hF := own_ifF hc7 hF
                refine own_icmpF X0 hx (hb hby d_isChar_51) (flt hc7).2.2.1 54 rfl ?_
                refine own_iconst X0 hx (z := (1 : Int32)) (hb hby d_isChar_54) rfl 55 rfl ?_
                refine own_goto X0 hx (hb hby d_isChar_55) 59 (by decide) (by decide) ?_
                exact own_retN X0 hx hret (Or.inl rfl) hlk (hb hby d_isChar_59) (Nat.le_refl _) (Nat.le_refl _) N0 e0 ⟨congrArg (fun z => some (Value.int z)) hF, rfl⟩
          · replace hF := own_ifF hc5 hF
            refine own_icmpF X0 hx (hb hby d_isChar_33) (flt hc5).1 36 rfl ?_
            refine own_iloadN X0 hx (hb hby d_isChar_36) rfl 37 rfl ?_
            refine own_ldcI X0 hx hZ hown (own_w23 hw) (hb hby d_isChar_37) 39 rfl ?_
            by_cases hc8 : (65533 : Int32) < p1
            · replace hF := own_ifT hc8 hF
              refine own_icmpF X0 hx (hb hby d_isChar_39) (tlt hc8).2.2.2 42 rfl ?_
              refine own_iloadN X0 hx (hb hby d_isChar_42) rfl 43 rfl ?_
              refine own_ldcI X0 hx hZ hown (own_w16 hw) (hb hby d_isChar_43) 45 rfl ?_
              by_cases hc9 : p1 < (65536 : Int32)
              · replace hF := own_ifT hc9 hF
                refine own_icmpT X0 hx (hb hby d_isChar_45) (tlt hc9).1 58 (by decide) (by decide) ?_
                refine own_iconst X0 hx (z := (0 : Int32)) (hb hby d_isChar_58) rfl 59 rfl ?_
                exact own_retN X0 hx hret (Or.inl rfl) hlk (hb hby d_isChar_59) (Nat.le_refl _) (Nat.le_refl _) N0 e0 ⟨congrArg (fun z => some (Value.int z)) hF, rfl⟩
              · replace hF := own_ifF hc9 hF
                refine own_icmpF X0 hx (hb hby d_isChar_45) (flt hc9).1 48 rfl ?_
                refine own_iloadN X0 hx (hb hby d_isChar_48) rfl 49 rfl ?_
                refine own_ldcI X0 hx hZ hown (own_w24 hw) (hb hby d_isChar_49) 51 rfl ?_
                by_cases hc10 : (1114111 : Int32) < p1
                · replace hF := own_ifT hc10 hF
                  refine own_icmpT X0 hx (hb hby d_isChar_51) (tlt hc10).2.2.1 58 (by decide) (by decide) ?_
                  refine own_iconst X0 hx (z := (0 : Int32)) (hb hby d_isChar_58) rfl 59 rfl ?_
                  exact own_retN X0 hx hret (Or.inl rfl) hlk (hb hby d_isChar_59) (Nat.le_refl _) (Nat.le_refl _) N0 e0 ⟨congrArg (fun z => some (Value.int z)) hF, rfl⟩
                · replace hF := own_ifF hc10 hF
                  refine own_icmpF X0 hx (hb hby d_isChar_51) (flt hc10).2.2.1 54 rfl ?_
                  refine own_iconst X0 hx (z := (1 : Int32)) (hb hby d_isChar_54) rfl 55 rfl ?_
                  refine own_goto X0 hx (hb hby d_isChar_55) 59 (by decide) (by decide) ?_
                  exact own_retN X0 hx hret (Or.inl rfl) hlk (hb hby d_isChar_59) (Nat.le_refl _) (Nat.le_refl _) N0 e0 ⟨congrArg (fun z => some (Value.int z)) hF, rfl⟩
            · replace hF := own_ifF hc8 hF
              refine own_icmpT X0 hx (hb hby d_isChar_39) (flt hc8).2.2.2 54 (by decide) (by decide) ?_
              refine own_iconst X0 hx (z := (1 : Int32)) (hb hby d_isChar_54) rfl 55 rfl ?_
              refine own_goto X0 hx (hb hby d_isChar_55) 59 (by decide) (by decide) ?_
              exact own_retN X0 hx hret (Or.inl rfl) hlk (hb hby d_isChar_59) (Nat.le_refl _) (Nat.le_refl _) N0 e0 ⟨congrArg (fun z => some (Value.int z)) hF, rfl⟩
  · replace hF := own_ifF hc1 hF
    refine own_icmpF X0 hx (hb hby d_isChar_3) (flt hc1).1 6 rfl ?_
    refine own_iloadN X0 hx (hb hby d_isChar_6) rfl 7 rfl ?_
    refine own_ldcI X0 hx hZ hown (own_w21 hw) (hb hby d_isChar_7) 9 rfl ?_
    by_cases hc11 : (55295 : Int32) < p1
    · replace hF := own_ifT hc11 hF
      refine own_icmpF X0 hx (hb hby d_isChar_9) (tlt hc11).2.2.2 12 rfl ?_
      refine own_iloadN X0 hx (hb hby d_isChar_12) rfl 13 rfl ?_
      refine own_bipush X0 hx (z := (10 : Int32)) (hb hby d_isChar_13) rfl 15 rfl ?_
      by_cases hc12 : p1 = (10 : Int32)
      · replace hF := own_ifT hc12 hF
        refine own_icmpT X0 hx (hb hby d_isChar_15) (teq hc12).1 54 (by decide) (by decide) ?_
        refine own_iconst X0 hx (z := (1 : Int32)) (hb hby d_isChar_54) rfl 55 rfl ?_
        refine own_goto X0 hx (hb hby d_isChar_55) 59 (by decide) (by decide) ?_
        exact own_retN X0 hx hret (Or.inl rfl) hlk (hb hby d_isChar_59) (Nat.le_refl _) (Nat.le_refl _) N0 e0 ⟨congrArg (fun z => some (Value.int z)) hF, rfl⟩
      · replace hF := own_ifF hc12 hF
        refine own_icmpF X0 hx (hb hby d_isChar_15) (feq hc12).1 18 rfl ?_
        refine own_iloadN X0 hx (hb hby d_isChar_18) rfl 19 rfl ?_
        refine own_bipush X0 hx (z := (9 : Int32)) (hb hby d_isChar_19) rfl 21 rfl ?_
        by_cases hc13 : p1 = (9 : Int32)
        · replace hF := own_ifT hc13 hF
          refine own_icmpT X0 hx (hb hby d_isChar_21) (teq hc13).1 54 (by decide) (by decide) ?_
          refine own_iconst X0 hx (z := (1 : Int32)) (hb hby d_isChar_54) rfl 55 rfl ?_
          refine own_goto X0 hx (hb hby d_isChar_55) 59 (by decide) (by decide) ?_
          exact own_retN X0 hx hret (Or.inl rfl) hlk (hb hby d_isChar_59) (Nat.le_refl _) (Nat.le_refl _) N0 e0 ⟨congrArg (fun z => some (Value.int z)) hF, rfl⟩
        · replace hF := own_ifF hc13 hF
          refine own_icmpF X0 hx (hb hby d_isChar_21) (feq hc13).1 24 rfl ?_
          refine own_iloadN X0 hx (hb hby d_isChar_24) rfl 25 rfl ?_
          refine own_bipush X0 hx (z := (13 : Int32)) (hb hby d_isChar_25) rfl 27 rfl ?_
          by_cases hc14 : p1 = (13 : Int32)
          · replace hF := own_ifT hc14 hF
            refine own_icmpT X0 hx (hb hby d_isChar_27) (teq hc14).1 54 (by decide) (by decide) ?_
            refine own_iconst X0 hx (z := (1 : Int32)) (hb hby d_isChar_54) rfl 55 rfl ?_
            refine own_goto X0 hx (hb hby d_isChar_55) 59 (by decide) (by decide) ?_
            exact own_retN X0 hx hret (Or.inl rfl) hlk (hb hby d_isChar_59) (Nat.le_refl _) (Nat.le_refl _) N0 e0 ⟨congrArg (fun z => some (Value.int z)) hF, rfl⟩
          · replace hF := own_ifF hc14 hF
            refine own_icmpF X0 hx (hb hby d_isChar_27) (feq hc14).1 30 rfl ?_
            refine own_iloadN X0 hx (hb hby d_isChar_30) rfl 31 rfl ?_
            refine own_ldcI X0 hx hZ hown (own_w15 hw) (hb hby d_isChar_31) 33 rfl ?_
            by_cases hc15 : p1 < (57344 : Int32)
            · replace hF := own_ifT hc15 hF
              refine own_icmpT X0 hx (hb hby d_isChar_33) (tlt hc15).1 42 (by decide) (by decide) ?_
              refine own_iloadN X0 hx (hb hby d_isChar_42) rfl 43 rfl ?_
              refine own_ldcI X0 hx hZ hown (own_w16 hw) (hb hby d_isChar_43) 45 rfl ?_
              by_cases hc16 : p1 < (65536 : Int32)
              · replace hF := own_ifT hc16 hF
                refine own_icmpT X0 hx (hb hby d_isChar_45) (tlt hc16).1 58 (by decide) (by decide) ?_
                refine own_iconst X0 hx (z := (0 : Int32)) (hb hby d_isChar_58) rfl 59 rfl ?_
                exact own_retN X0 hx hret (Or.inl rfl) hlk (hb hby d_isChar_59) (Nat.le_refl _) (Nat.le_refl _) N0 e0 ⟨congrArg (fun z => some (Value.int z)) hF, rfl⟩
              · replace hF := own_ifF hc16 hF
                refine own_icmpF X0 hx (hb hby d_isChar_45) (flt hc16).1 48 rfl ?_
                refine own_iloadN X0 hx (hb hby d_isChar_48) rfl 49 rfl ?_
                refine own_ldcI X0 hx hZ hown (own_w24 hw) (hb hby d_isChar_49) 51 rfl ?_
                by_cases hc17 : (1114111 : Int32) < p1
                · replace hF := own_ifT hc17 hF
                  refine own_icmpT X0 hx (hb hby d_isChar_51) (tlt hc17).2.2.1 58 (by decide) (by decide) ?_
                  refine own_iconst X0 hx (z := (0 : Int32)) (hb hby d_isChar_58) rfl 59 rfl ?_
                  exact own_retN X0 hx hret (Or.inl rfl) hlk (hb hby d_isChar_59) (Nat.le_refl _) (Nat.le_refl _) N0 e0 ⟨congrArg (fun z => some (Value.int z)) hF, rfl⟩
                · replace hF := own_ifF hc17 hF
                  refine own_icmpF X0 hx (hb hby d_isChar_51) (flt hc17).2.2.1 54 rfl ?_
                  refine own_iconst X0 hx (z := (1 : Int32)) (hb hby d_isChar_54) rfl 55 rfl ?_
                  refine own_goto X0 hx (hb hby d_isChar_55) 59 (by decide) (by decide) ?_
                  exact own_retN X0 hx hret (Or.inl rfl) hlk (hb hby d_isChar_59) (Nat.le_refl _) (Nat.le_refl _) N0 e0 ⟨congrArg (fun z => some (Value.int z)) hF, rfl⟩
            · replace hF := own_ifF hc15 hF
              refine own_icmpF X0 hx (hb hby d_isChar_33) (flt hc15).1 36 rfl ?_
              refine own_iloadN X0 hx (hb hby d_isChar_36) rfl 37 rfl ?_
              refine own_ldcI X0 hx hZ hown (own_w23 hw) (hb hby d_isChar_37) 39 rfl ?_
              by_cases hc18 : (65533 : Int32) < p1
              · replace hF := own_ifT hc18 hF
                refine own_icmpF X0 hx (hb hby d_isChar_39) (tlt hc18).2.2.2 42 rfl ?_
                refine own_iloadN X0 hx (hb hby d_isChar_42) rfl 43 rfl ?_
                refine own_ldcI X0 hx hZ hown (own_w16 hw) (hb hby d_isChar_43) 45 rfl ?_
                by_cases hc19 : p1 < (65536 : Int32)
                · replace hF := own_ifT hc19 hF
                  refine own_icmpT X0 hx (hb hby d_isChar_45) (tlt hc19).1 58 (by decide) (by decide) ?_
                  refine own_iconst X0 hx (z := (0 : Int32)) (hb hby d_isChar_58) rfl 59 rfl ?_
                  exact own_retN X0 hx hret (Or.inl rfl) hlk (hb hby d_isChar_59) (Nat.le_refl _) (Nat.le_refl _) N0 e0 ⟨congrArg (fun z => some (Value.int z)) hF, rfl⟩
                · replace hF := own_ifF hc19 hF
                  refine own_icmpF X0 hx (hb hby d_isChar_45) (flt hc19).1 48 rfl ?_
                  refine own_iloadN X0 hx (hb hby d_isChar_48) rfl 49 rfl ?_
                  refine own_ldcI X0 hx hZ hown (own_w24 hw) (hb hby d_isChar_49) 51 rfl ?_
                  by_cases hc20 : (1114111 : Int32) < p1
                  · replace hF := own_ifT hc20 hF
                    refine own_icmpT X0 hx (hb hby d_isChar_51) (tlt hc20).2.2.1 58 (by decide) (by decide) ?_
                    refine own_iconst X0 hx (z := (0 : Int32)) (hb hby d_isChar_58) rfl 59 rfl ?_
                    exact own_retN X0 hx hret (Or.inl rfl) hlk (hb hby d_isChar_59) (Nat.le_refl _) (Nat.le_refl _) N0 e0 ⟨congrArg (fun z => some (Value.int z)) hF, rfl⟩
                  · replace hF := own_ifF hc20 hF
                    refine own_icmpF X0 hx (hb hby d_isChar_51) (flt hc20).2.2.1 54 rfl ?_
                    refine own_iconst X0 hx (z := (1 : Int32)) (hb hby d_isChar_54) rfl 55 rfl ?_
                    refine own_goto X0 hx (hb hby d_isChar_55) 59 (by decide) (by decide) ?_
                    exact own_retN X0 hx hret (Or.inl rfl) hlk (hb hby d_isChar_59) (Nat.le_refl _) (Nat.le_refl _) N0 e0 ⟨congrArg (fun z => some (Value.int z)) hF, rfl⟩
              · replace hF := own_ifF hc18 hF
                refine own_icmpT X0 hx (hb hby d_isChar_39) (flt hc18).2.2.2 54 (by decide) (by decide) ?_
                refine own_iconst X0 hx (z := (1 : Int32)) (hb hby d_isChar_54) rfl 55 rfl ?_
                refine own_goto X0 hx (hb hby d_isChar_55) 59 (by decide) (by decide) ?_
                exact own_retN X0 hx hret (Or.inl rfl) hlk (hb hby d_isChar_59) (Nat.le_refl _) (Nat.le_refl _) N0 e0 ⟨congrArg (fun z => some (Value.int z)) hF, rfl⟩
    · replace hF := own_ifF hc11 hF
      refine own_icmpT X0 hx (hb hby d_isChar_9) (flt hc11).2.2.2 54 (by decide) (by decide) ?_
      refine own_iconst X0 hx (z := (1 : Int32)) (hb hby d_isChar_54) rfl 55 rfl ?_
      refine own_goto X0 hx (hb hby d_isChar_55) 59 (by decide) (by decide) ?_
      exact own_retN X0 hx hret (Or.inl rfl) hlk (hb hby d_isChar_59) (Nat.le_refl _) (Nat.le_refl _) N0 e0 ⟨congrArg (fun z => some (Value.int z)) hF, rfl⟩
/-- what reference gives -/
def own_f_ref (p1 : Int32) : Int32 :=
  if p1 = (9 : Int32) then
    (1 : Int32)
  else
    if p1 = (10 : Int32) then
      (1 : Int32)
    else
      if p1 = (13 : Int32) then
        (1 : Int32)
      else
        if p1 < (32 : Int32) then
          (0 : Int32)
        else
          if (1114111 : Int32) < p1 then
            (0 : Int32)
          else
            if p1 < (55296 : Int32) then
              if p1 = (65534 : Int32) then
                (0 : Int32)
              else
                if p1 = (65535 : Int32) then
                  (0 : Int32)
                else
                  (1 : Int32)
            else
              if (57343 : Int32) < p1 then
                if p1 = (65534 : Int32) then
                  (0 : Int32)
                else
                  if p1 = (65535 : Int32) then
                    (0 : Int32)
                  else
                    (1 : Int32)
              else
                (0 : Int32)
theorem d_ref_0 : decode method_2_code 0 = .ok (.iload_n 0, 1) := by decide +kernel
theorem d_ref_1 : decode method_2_code 1 = .ok (.bipush 9, 2) := by decide +kernel
theorem d_ref_3 : decode method_2_code 3 = .ok (.if_icmp .eq 15, 3) := by decide +kernel
theorem d_ref_6 : decode method_2_code 6 = .ok (.iload_n 0, 1) := by decide +kernel
theorem d_ref_7 : decode method_2_code 7 = .ok (.bipush 10, 2) := by decide +kernel
theorem d_ref_9 : decode method_2_code 9 = .ok (.if_icmp .eq 9, 3) := by decide +kernel
theorem d_ref_12 : decode method_2_code 12 = .ok (.iload_n 0, 1) := by decide +kernel
theorem d_ref_13 : decode method_2_code 13 = .ok (.bipush 13, 2) := by decide +kernel
theorem d_ref_15 : decode method_2_code 15 = .ok (.if_icmp .ne 5, 3) := by decide +kernel
theorem d_ref_18 : decode method_2_code 18 = .ok (.iconst 1, 1) := by decide +kernel
theorem d_ref_19 : decode method_2_code 19 = .ok (.ireturn, 1) := by decide +kernel
theorem d_ref_20 : decode method_2_code 20 = .ok (.iload_n 0, 1) := by decide +kernel
theorem d_ref_21 : decode method_2_code 21 = .ok (.bipush 32, 2) := by decide +kernel
theorem d_ref_23 : decode method_2_code 23 = .ok (.if_icmp .lt 9, 3) := by decide +kernel
theorem d_ref_26 : decode method_2_code 26 = .ok (.iload_n 0, 1) := by decide +kernel
theorem d_ref_27 : decode method_2_code 27 = .ok (.ldc 7, 2) := by decide +kernel
theorem d_ref_29 : decode method_2_code 29 = .ok (.if_icmp .le 5, 3) := by decide +kernel
theorem d_ref_32 : decode method_2_code 32 = .ok (.iconst 0, 1) := by decide +kernel
theorem d_ref_33 : decode method_2_code 33 = .ok (.ireturn, 1) := by decide +kernel
theorem d_ref_34 : decode method_2_code 34 = .ok (.iload_n 0, 1) := by decide +kernel
theorem d_ref_35 : decode method_2_code 35 = .ok (.ldc 8, 2) := by decide +kernel
theorem d_ref_37 : decode method_2_code 37 = .ok (.if_icmp .lt 11, 3) := by decide +kernel
theorem d_ref_40 : decode method_2_code 40 = .ok (.iload_n 0, 1) := by decide +kernel
theorem d_ref_41 : decode method_2_code 41 = .ok (.ldc 9, 2) := by decide +kernel
theorem d_ref_43 : decode method_2_code 43 = .ok (.if_icmp .gt 5, 3) := by decide +kernel
theorem d_ref_46 : decode method_2_code 46 = .ok (.iconst 0, 1) := by decide +kernel
theorem d_ref_47 : decode method_2_code 47 = .ok (.ireturn, 1) := by decide +kernel
theorem d_ref_48 : decode method_2_code 48 = .ok (.iload_n 0, 1) := by decide +kernel
theorem d_ref_49 : decode method_2_code 49 = .ok (.ldc 10, 2) := by decide +kernel
theorem d_ref_51 : decode method_2_code 51 = .ok (.if_icmp .eq 9, 3) := by decide +kernel
theorem d_ref_54 : decode method_2_code 54 = .ok (.iload_n 0, 1) := by decide +kernel
theorem d_ref_55 : decode method_2_code 55 = .ok (.ldc 11, 2) := by decide +kernel
theorem d_ref_57 : decode method_2_code 57 = .ok (.if_icmp .ne 5, 3) := by decide +kernel
theorem d_ref_60 : decode method_2_code 60 = .ok (.iconst 0, 1) := by decide +kernel
theorem d_ref_61 : decode method_2_code 61 = .ok (.ireturn, 1) := by decide +kernel
theorem d_ref_62 : decode method_2_code 62 = .ok (.iconst 1, 1) := by decide +kernel
theorem d_ref_63 : decode method_2_code 63 = .ok (.ireturn, 1) := by decide +kernel
theorem own_ef_ref (m : MethodId) (p1 : Int32) : entryFrame m #[(.int p1)] 1 = mkF m 0 #[.val (.int p1)] [] := by first | (simp [entryFrame, mkF, argsToLocals, Value.category]; done) | rfl
set_option maxRecDepth 65536 in
set_option maxHeartbeats 40000000 in
theorem own_m_ref (l : Launch) (Z : State) (a0 : Array Value) (hw : ∀ d ∈ tables_1, d.before a0 Z = true) (h0 : Heap) (n0 : Nat) (p1 : Int32) {r : Int32} (hF : own_f_ref p1 = r) : own_Met l Z ⟨"com/example/xqwry/xqwry/XmlCharsIsCharPinLaw", "reference", "(I)Z"⟩ method_2_code 1 (some .boolean) [] ({ frames := 0, cells := 0, slots := 0, locals := 0 } : Room) #[.int p1] h0 n0 (fun v h => v = some (.int r) ∧ h = h0) := by
  unfold own_f_ref at hF
  refine own_body own_pn_XmlCharsIsCharPinLaw ?_
  intro p e s m below meth c T0 X0 hx hby hml hown hnm hZ e0 hret hlk
  have N0 := Fr.nil n0
  refine own_cast (own_ef_ref m p1) ?_
  refine own_iloadN X0 hx (hb hby d_ref_0) rfl 1 rfl ?_
  refine own_bipush X0 hx (z := (9 : Int32)) (hb hby d_ref_1) rfl 3 rfl ?_
  by_cases hc1 : p1 = (9 : Int32)
  · replace hF := own_ifT hc1 hF
    refine own_icmpT X0 hx (hb hby d_ref_3) (teq hc1).1 18 (by decide) (by decide) ?_
    refine own_iconst X0 hx (z := (1 : Int32)) (hb hby d_ref_18) rfl 19 rfl ?_
    exact own_retN X0 hx hret (Or.inl rfl) hlk (hb hby d_ref_19) (Nat.le_refl _) (Nat.le_refl _) N0 e0 ⟨congrArg (fun z => some (Value.int z)) hF, rfl⟩
  · replace hF := own_ifF hc1 hF
    refine own_icmpF X0 hx (hb hby d_ref_3) (feq hc1).1 6 rfl ?_
    refine own_iloadN X0 hx (hb hby d_ref_6) rfl 7 rfl ?_
    refine own_bipush X0 hx (z := (10 : Int32)) (hb hby d_ref_7) rfl 9 rfl ?_
    by_cases hc2 : p1 = (10 : Int32)
    · replace hF := own_ifT hc2 hF
      refine own_icmpT X0 hx (hb hby d_ref_9) (teq hc2).1 18 (by decide) (by decide) ?_
      refine own_iconst X0 hx (z := (1 : Int32)) (hb hby d_ref_18) rfl 19 rfl ?_
      exact own_retN X0 hx hret (Or.inl rfl) hlk (hb hby d_ref_19) (Nat.le_refl _) (Nat.le_refl _) N0 e0 ⟨congrArg (fun z => some (Value.int z)) hF, rfl⟩
    · replace hF := own_ifF hc2 hF
      refine own_icmpF X0 hx (hb hby d_ref_9) (feq hc2).1 12 rfl ?_
      refine own_iloadN X0 hx (hb hby d_ref_12) rfl 13 rfl ?_
      refine own_bipush X0 hx (z := (13 : Int32)) (hb hby d_ref_13) rfl 15 rfl ?_
      by_cases hc3 : p1 = (13 : Int32)
      · replace hF := own_ifT hc3 hF
        refine own_icmpF X0 hx (hb hby d_ref_15) (teq hc3).2 18 rfl ?_
        refine own_iconst X0 hx (z := (1 : Int32)) (hb hby d_ref_18) rfl 19 rfl ?_
        exact own_retN X0 hx hret (Or.inl rfl) hlk (hb hby d_ref_19) (Nat.le_refl _) (Nat.le_refl _) N0 e0 ⟨congrArg (fun z => some (Value.int z)) hF, rfl⟩
      · replace hF := own_ifF hc3 hF
        refine own_icmpT X0 hx (hb hby d_ref_15) (feq hc3).2 20 (by decide) (by decide) ?_
        refine own_iloadN X0 hx (hb hby d_ref_20) rfl 21 rfl ?_
        refine own_bipush X0 hx (z := (32 : Int32)) (hb hby d_ref_21) rfl 23 rfl ?_
        by_cases hc4 : p1 < (32 : Int32)
        · replace hF := own_ifT hc4 hF
          refine own_icmpT X0 hx (hb hby d_ref_23) (tlt hc4).1 32 (by decide) (by decide) ?_
          refine own_iconst X0 hx (z := (0 : Int32)) (hb hby d_ref_32) rfl 33 rfl ?_
          exact own_retN X0 hx hret (Or.inl rfl) hlk (hb hby d_ref_33) (Nat.le_refl _) (Nat.le_refl _) N0 e0 ⟨congrArg (fun z => some (Value.int z)) hF, rfl⟩
        · replace hF := own_ifF hc4 hF
          refine own_icmpF X0 hx (hb hby d_ref_23) (flt hc4).1 26 rfl ?_
          refine own_iloadN X0 hx (hb hby d_ref_26) rfl 27 rfl ?_
          refine own_ldcI X0 hx hZ hown (own_w8 hw) (hb hby d_ref_27) 29 rfl ?_
          by_cases hc5 : (1114111 : Int32) < p1
          · replace hF := own_ifT hc5 hF
            refine own_icmpF X0 hx (hb hby d_ref_29) (tlt hc5).2.2.2 32 rfl ?_
            refine own_iconst X0 hx (z := (0 : Int32)) (hb hby d_ref_32) rfl 33 rfl ?_
            exact own_retN X0 hx hret (Or.inl rfl) hlk (hb hby d_ref_33) (Nat.le_refl _) (Nat.le_refl _) N0 e0 ⟨congrArg (fun z => some (Value.int z)) hF, rfl⟩
          · replace hF := own_ifF hc5 hF
            refine own_icmpT X0 hx (hb hby d_ref_29) (flt hc5).2.2.2 34 (by decide) (by decide) ?_
            refine own_iloadN X0 hx (hb hby d_ref_34) rfl 35 rfl ?_
            refine own_ldcI X0 hx hZ hown (own_w2 hw) (hb hby d_ref_35) 37 rfl ?_
            by_cases hc6 : p1 < (55296 : Int32)
            · replace hF := own_ifT hc6 hF
              refine own_icmpT X0 hx (hb hby d_ref_37) (tlt hc6).1 48 (by decide) (by decide) ?_
              refine own_iloadN X0 hx (hb hby d_ref_48) rfl 49 rfl ?_
              refine own_ldcI X0 hx hZ hown (own_w6 hw) (hb hby d_ref_49) 51 rfl ?_
              by_cases hc7 : p1 = (65534 : Int32)
              · replace hF := own_ifT hc7 hF
                refine own_icmpT X0 hx (hb hby d_ref_51) (teq hc7).1 60 (by decide) (by decide) ?_
                refine own_iconst X0 hx (z := (0 : Int32)) (hb hby d_ref_60) rfl 61 rfl ?_
                exact own_retN X0 hx hret (Or.inl rfl) hlk (hb hby d_ref_61) (Nat.le_refl _) (Nat.le_refl _) N0 e0 ⟨congrArg (fun z => some (Value.int z)) hF, rfl⟩
              · replace hF := own_ifF hc7 hF
                refine own_icmpF X0 hx (hb hby d_ref_51) (feq hc7).1 54 rfl ?_
                refine own_iloadN X0 hx (hb hby d_ref_54) rfl 55 rfl ?_
                refine own_ldcI X0 hx hZ hown (own_w22 hw) (hb hby d_ref_55) 57 rfl ?_
                by_cases hc8 : p1 = (65535 : Int32)
                · replace hF := own_ifT hc8 hF
                  refine own_icmpF X0 hx (hb hby d_ref_57) (teq hc8).2 60 rfl ?_
                  refine own_iconst X0 hx (z := (0 : Int32)) (hb hby d_ref_60) rfl 61 rfl ?_
                  exact own_retN X0 hx hret (Or.inl rfl) hlk (hb hby d_ref_61) (Nat.le_refl _) (Nat.le_refl _) N0 e0 ⟨congrArg (fun z => some (Value.int z)) hF, rfl⟩
                · replace hF := own_ifF hc8 hF
                  refine own_icmpT X0 hx (hb hby d_ref_57) (feq hc8).2 62 (by decide) (by decide) ?_
                  refine own_iconst X0 hx (z := (1 : Int32)) (hb hby d_ref_62) rfl 63 rfl ?_
                  exact own_retN X0 hx hret (Or.inl rfl) hlk (hb hby d_ref_63) (Nat.le_refl _) (Nat.le_refl _) N0 e0 ⟨congrArg (fun z => some (Value.int z)) hF, rfl⟩
            · replace hF := own_ifF hc6 hF
              refine own_icmpF X0 hx (hb hby d_ref_37) (flt hc6).1 40 rfl ?_
              refine own_iloadN X0 hx (hb hby d_ref_40) rfl 41 rfl ?_
              refine own_ldcI X0 hx hZ hown (own_w3 hw) (hb hby d_ref_41) 43 rfl ?_
              by_cases hc9 : (57343 : Int32) < p1
              · replace hF := own_ifT hc9 hF
                refine own_icmpT X0 hx (hb hby d_ref_43) (tlt hc9).2.2.1 48 (by decide) (by decide) ?_
                refine own_iloadN X0 hx (hb hby d_ref_48) rfl 49 rfl ?_
                refine own_ldcI X0 hx hZ hown (own_w6 hw) (hb hby d_ref_49) 51 rfl ?_
                by_cases hc10 : p1 = (65534 : Int32)
                · replace hF := own_ifT hc10 hF
                  refine own_icmpT X0 hx (hb hby d_ref_51) (teq hc10).1 60 (by decide) (by decide) ?_
                  refine own_iconst X0 hx (z := (0 : Int32)) (hb hby d_ref_60) rfl 61 rfl ?_
                  exact own_retN X0 hx hret (Or.inl rfl) hlk (hb hby d_ref_61) (Nat.le_refl _) (Nat.le_refl _) N0 e0 ⟨congrArg (fun z => some (Value.int z)) hF, rfl⟩
                · replace hF := own_ifF hc10 hF
                  refine own_icmpF X0 hx (hb hby d_ref_51) (feq hc10).1 54 rfl ?_
                  refine own_iloadN X0 hx (hb hby d_ref_54) rfl 55 rfl ?_
                  refine own_ldcI X0 hx hZ hown (own_w22 hw) (hb hby d_ref_55) 57 rfl ?_
                  by_cases hc11 : p1 = (65535 : Int32)
                  · replace hF := own_ifT hc11 hF
                    refine own_icmpF X0 hx (hb hby d_ref_57) (teq hc11).2 60 rfl ?_
                    refine own_iconst X0 hx (z := (0 : Int32)) (hb hby d_ref_60) rfl 61 rfl ?_
                    exact own_retN X0 hx hret (Or.inl rfl) hlk (hb hby d_ref_61) (Nat.le_refl _) (Nat.le_refl _) N0 e0 ⟨congrArg (fun z => some (Value.int z)) hF, rfl⟩
                  · replace hF := own_ifF hc11 hF
                    refine own_icmpT X0 hx (hb hby d_ref_57) (feq hc11).2 62 (by decide) (by decide) ?_
                    refine own_iconst X0 hx (z := (1 : Int32)) (hb hby d_ref_62) rfl 63 rfl ?_
                    exact own_retN X0 hx hret (Or.inl rfl) hlk (hb hby d_ref_63) (Nat.le_refl _) (Nat.le_refl _) N0 e0 ⟨congrArg (fun z => some (Value.int z)) hF, rfl⟩
              · replace hF := own_ifF hc9 hF
                refine own_icmpF X0 hx (hb hby d_ref_43) (flt hc9).2.2.1 46 rfl ?_
                refine own_iconst X0 hx (z := (0 : Int32)) (hb hby d_ref_46) rfl 47 rfl ?_
                exact own_retN X0 hx hret (Or.inl rfl) hlk (hb hby d_ref_47) (Nat.le_refl _) (Nat.le_refl _) N0 e0 ⟨congrArg (fun z => some (Value.int z)) hF, rfl⟩
theorem own_same (p1 : Int32) : own_f_isChar p1 = own_f_ref p1 := by
  simp only [own_f_isChar, own_f_ref]
  repeat' split
  all_goals first | rfl | (exfalso; simp only [Int32.lt_iff_toInt_lt, ← Int32.toInt_inj, Int32.reduceToInt] at *; omega)
theorem own_idx (z : Int32) : ¬ ((z &&& 2147483647) % 16 < 0) ∧ ((z &&& 2147483647) % 16).toNatClampNeg < 16 := by
  have h1 : 0 ≤ (z &&& 2147483647).toInt := by
    have : (z &&& 2147483647).toBitVec.msb = false := by
      have q : (2147483647 : Int32).toBitVec.msb = false := by decide
      rw [Int32.toBitVec_and, BitVec.msb_and, q, Bool.and_false]
    have h := BitVec.toInt_nonneg_of_msb_false (x := (z &&& 2147483647).toBitVec) this
    exact h
  have h2 : ((z &&& 2147483647) % 16).toInt = (z &&& 2147483647).toInt.tmod 16 := by
    rw [Int32.toInt_mod]; rfl
  have h3 : 0 ≤ (z &&& 2147483647).toInt.tmod 16 ∧ (z &&& 2147483647).toInt.tmod 16 < 16 := by
    rw [Int.tmod_eq_emod_of_nonneg h1]; omega
  constructor
  · rw [Int32.lt_iff_toInt_lt, h2]; show ¬ _ < (0 : Int); omega
  · rw [Int32.toNatClampNeg, h2]; omega
theorem own_pd1 : parseMethodDescriptor "(I)Z" = some ⟨[.int], some .boolean⟩ := by decide +kernel
theorem own_ef_law (m : MethodId) (p1 : Int32) (p2 : Int32) (p3 : Int32) : entryFrame m #[(.int p1), (.int p2), (.int p3)] maxLocals = mkF m 0 #[.val (.int p1), .val (.int p2), .val (.int p3), .unset, .unset, .unset, .unset] [] := by first | (simp [entryFrame, mkF, argsToLocals, Value.category, maxLocals]; done) | rfl
set_option maxRecDepth 65536 in
set_option maxHeartbeats 40000000 in
theorem own_m_law (l : Launch) (Z : State) (a0 : Array Value) (hw : ∀ d ∈ tables_1, d.before a0 Z = true) (h0 : Heap) (n0 : Nat) (Z0 : n0 ≤ h0.size) (p1 p2 p3 : Int32) : own_Met l Z x code maxLocals ret tables_1 room_1 #[.int p1, .int p2, .int p3] h0 n0 (fun v h => v = some (.int 1)) := by
  refine own_body own_pn_XmlCharsIsCharPinLaw ?_
  intro p e s m below meth c T0 X0 hx hby hml hown hnm hZ e0 hret hlk
  have N0 := Fr.nil n0
  refine own_cast (own_ef_law m p1 p2 p3) ?_
  refine own_bipush X0 hx (z := (16 : Int32)) (hb hby at_0) rfl 2 rfl ?_
  refine own_newP (aty := .int) X0 hx hZ (own_w0 hw) e0 (hb hby at_2) (by decide) 16 (by decide) (by decide) (by decide) (by decide) 4 rfl (fun T1 h1 cA b g1 X1 e1 E1 A1 => ?_)
  have gb : n0 ≤ b := g1 ▸ Z0
  have A1' : own_A Z h1 b .int 16 (fun _ => 0) := own_A.new A1 rfl rfl
  refine own_dup X1 hx (hb hby at_4) rfl 5 rfl ?_
  refine own_iconst X1 hx (z := (0 : Int32)) (hb hby at_5) rfl 6 rfl ?_
  refine own_bipush X1 hx (z := (9 : Int32)) (hb hby at_6) rfl 8 rfl ?_
  refine own_iastore X1 hx hZ e1 A1' ⟨by decide, by decide⟩ (hb hby at_8) N0 gb 9 rfl (fun T2 h2 l2 X2 N2 e2 W2 => ?_)
  have A2 := own_A.set A1' W2
  refine own_dup X2 hx (hb hby at_9) rfl 10 rfl ?_
  refine own_iconst X2 hx (z := (1 : Int32)) (hb hby at_10) rfl 11 rfl ?_
  refine own_bipush X2 hx (z := (10 : Int32)) (hb hby at_11) rfl 13 rfl ?_
  refine own_iastore X2 hx hZ e2 A2 ⟨by decide, by decide⟩ (hb hby at_13) N2 gb 14 rfl (fun T3 h3 l3 X3 N3 e3 W3 => ?_)
  have A3 := own_A.set A2 W3
  refine own_dup X3 hx (hb hby at_14) rfl 15 rfl ?_
  refine own_iconst X3 hx (z := (2 : Int32)) (hb hby at_15) rfl 16 rfl ?_
  refine own_bipush X3 hx (z := (13 : Int32)) (hb hby at_16) rfl 18 rfl ?_
  refine own_iastore X3 hx hZ e3 A3 ⟨by decide, by decide⟩ (hb hby at_18) N3 gb 19 rfl (fun T4 h4 l4 X4 N4 e4 W4 => ?_)
  have A4 := own_A.set A3 W4
  refine own_dup X4 hx (hb hby at_19) rfl 20 rfl ?_
  refine own_iconst X4 hx (z := (3 : Int32)) (hb hby at_20) rfl 21 rfl ?_
  refine own_bipush X4 hx (z := (32 : Int32)) (hb hby at_21) rfl 23 rfl ?_
  refine own_iastore X4 hx hZ e4 A4 ⟨by decide, by decide⟩ (hb hby at_23) N4 gb 24 rfl (fun T5 h5 l5 X5 N5 e5 W5 => ?_)
  have A5 := own_A.set A4 W5
  refine own_dup X5 hx (hb hby at_24) rfl 25 rfl ?_
  refine own_iconst X5 hx (z := (4 : Int32)) (hb hby at_25) rfl 26 rfl ?_
  refine own_ldcI X5 hx hZ hown (own_w1 hw) (hb hby at_26) 28 rfl ?_
  refine own_iastore X5 hx hZ e5 A5 ⟨by decide, by decide⟩ (hb hby at_28) N5 gb 29 rfl (fun T6 h6 l6 X6 N6 e6 W6 => ?_)
  have A6 := own_A.set A5 W6
  refine own_dup X6 hx (hb hby at_29) rfl 30 rfl ?_
  refine own_iconst X6 hx (z := (5 : Int32)) (hb hby at_30) rfl 31 rfl ?_
  refine own_ldcI X6 hx hZ hown (own_w2 hw) (hb hby at_31) 33 rfl ?_
  refine own_iastore X6 hx hZ e6 A6 ⟨by decide, by decide⟩ (hb hby at_33) N6 gb 34 rfl (fun T7 h7 l7 X7 N7 e7 W7 => ?_)
  have A7 := own_A.set A6 W7
  refine own_dup X7 hx (hb hby at_34) rfl 35 rfl ?_
  refine own_bipush X7 hx (z := (6 : Int32)) (hb hby at_35) rfl 37 rfl ?_
  refine own_ldcI X7 hx hZ hown (own_w3 hw) (hb hby at_37) 39 rfl ?_
  refine own_iastore X7 hx hZ e7 A7 ⟨by decide, by decide⟩ (hb hby at_39) N7 gb 40 rfl (fun T8 h8 l8 X8 N8 e8 W8 => ?_)
  have A8 := own_A.set A7 W8
  refine own_dup X8 hx (hb hby at_40) rfl 41 rfl ?_
  refine own_bipush X8 hx (z := (7 : Int32)) (hb hby at_41) rfl 43 rfl ?_
  refine own_ldcI X8 hx hZ hown (own_w4 hw) (hb hby at_43) 45 rfl ?_
  refine own_iastore X8 hx hZ e8 A8 ⟨by decide, by decide⟩ (hb hby at_45) N8 gb 46 rfl (fun T9 h9 l9 X9 N9 e9 W9 => ?_)
  have A9 := own_A.set A8 W9
  refine own_dup X9 hx (hb hby at_46) rfl 47 rfl ?_
  refine own_bipush X9 hx (z := (8 : Int32)) (hb hby at_47) rfl 49 rfl ?_
  refine own_ldcI X9 hx hZ hown (own_w5 hw) (hb hby at_49) 51 rfl ?_
  refine own_iastore X9 hx hZ e9 A9 ⟨by decide, by decide⟩ (hb hby at_51) N9 gb 52 rfl (fun T10 h10 l10 X10 N10 e10 W10 => ?_)
  have A10 := own_A.set A9 W10
  refine own_dup X10 hx (hb hby at_52) rfl 53 rfl ?_
  refine own_bipush X10 hx (z := (9 : Int32)) (hb hby at_53) rfl 55 rfl ?_
  refine own_ldcI X10 hx hZ hown (own_w6 hw) (hb hby at_55) 57 rfl ?_
  refine own_iastore X10 hx hZ e10 A10 ⟨by decide, by decide⟩ (hb hby at_57) N10 gb 58 rfl (fun T11 h11 l11 X11 N11 e11 W11 => ?_)
  have A11 := own_A.set A10 W11
  refine own_dup X11 hx (hb hby at_58) rfl 59 rfl ?_
  refine own_bipush X11 hx (z := (10 : Int32)) (hb hby at_59) rfl 61 rfl ?_
  refine own_ldcI X11 hx hZ hown (own_w7 hw) (hb hby at_61) 63 rfl ?_
  refine own_iastore X11 hx hZ e11 A11 ⟨by decide, by decide⟩ (hb hby at_63) N11 gb 64 rfl (fun T12 h12 l12 X12 N12 e12 W12 => ?_)
  have A12 := own_A.set A11 W12
  refine own_dup X12 hx (hb hby at_64) rfl 65 rfl ?_
  refine own_bipush X12 hx (z := (11 : Int32)) (hb hby at_65) rfl 67 rfl ?_
  refine own_ldcI X12 hx hZ hown (own_w8 hw) (hb hby at_67) 69 rfl ?_
  refine own_iastore X12 hx hZ e12 A12 ⟨by decide, by decide⟩ (hb hby at_69) N12 gb 70 rfl (fun T13 h13 l13 X13 N13 e13 W13 => ?_)
  have A13 := own_A.set A12 W13
  refine own_dup X13 hx (hb hby at_70) rfl 71 rfl ?_
  refine own_bipush X13 hx (z := (12 : Int32)) (hb hby at_71) rfl 73 rfl ?_
  refine own_ldcI X13 hx hZ hown (own_w9 hw) (hb hby at_73) 75 rfl ?_
  refine own_iastore X13 hx hZ e13 A13 ⟨by decide, by decide⟩ (hb hby at_75) N13 gb 76 rfl (fun T14 h14 l14 X14 N14 e14 W14 => ?_)
  have A14 := own_A.set A13 W14
  refine own_dup X14 hx (hb hby at_76) rfl 77 rfl ?_
  refine own_bipush X14 hx (z := (13 : Int32)) (hb hby at_77) rfl 79 rfl ?_
  refine own_ldcI X14 hx hZ hown (own_w10 hw) (hb hby at_79) 81 rfl ?_
  refine own_iastore X14 hx hZ e14 A14 ⟨by decide, by decide⟩ (hb hby at_81) N14 gb 82 rfl (fun T15 h15 l15 X15 N15 e15 W15 => ?_)
  have A15 := own_A.set A14 W15
  refine own_dup X15 hx (hb hby at_82) rfl 83 rfl ?_
  refine own_bipush X15 hx (z := (14 : Int32)) (hb hby at_83) rfl 85 rfl ?_
  refine own_iconst X15 hx (z := (0 : Int32)) (hb hby at_85) rfl 86 rfl ?_
  refine own_iastore X15 hx hZ e15 A15 ⟨by decide, by decide⟩ (hb hby at_86) N15 gb 87 rfl (fun T16 h16 l16 X16 N16 e16 W16 => ?_)
  have A16 := own_A.set A15 W16
  refine own_dup X16 hx (hb hby at_87) rfl 88 rfl ?_
  refine own_bipush X16 hx (z := (15 : Int32)) (hb hby at_88) rfl 90 rfl ?_
  refine own_bipush X16 hx (z := (12 : Int32)) (hb hby at_90) rfl 92 rfl ?_
  refine own_iastore X16 hx hZ e16 A16 ⟨by decide, by decide⟩ (hb hby at_92) N16 gb 93 rfl (fun T17 h17 l17 X17 N17 e17 W17 => ?_)
  have A17 := own_A.set A16 W17
  refine own_astoreN X17 hx (#[.val (.int p1), .val (.int p2), .val (.int p3), .val (.ref b), .unset, .unset, .unset]) (hb hby at_93) rfl rfl 94 rfl ?_
  refine own_aloadN X17 hx (hb hby at_94) rfl rfl 95 rfl ?_
  refine own_iloadN X17 hx (hb hby at_95) rfl 96 rfl ?_
  refine own_ldcI X17 hx hZ hown (own_w10 hw) (hb hby at_96) 98 rfl ?_
  refine own_iand X17 hx (hb hby at_98) 99 rfl ?_
  refine own_bipush X17 hx (z := (16 : Int32)) (hb hby at_99) rfl 101 rfl ?_
  refine own_irem X17 hx (hb hby at_101) (by decide) 102 rfl ?_
  refine own_ialoadE X17 hx hZ e17 A17 (own_idx p2) (hb hby at_102) 103 rfl (fun xx hxx => ?_)
  refine own_iloadN X17 hx (hb hby at_103) rfl 104 rfl ?_
  refine own_iconst X17 hx (z := (3 : Int32)) (hb hby at_104) rfl 105 rfl ?_
  refine own_iand X17 hx (hb hby at_105) 106 rfl ?_
  refine own_iconst X17 hx (z := (1 : Int32)) (hb hby at_106) rfl 107 rfl ?_
  refine own_isub X17 hx (hb hby at_107) 108 rfl ?_
  refine own_iadd X17 hx (hb hby at_108) 109 rfl ?_
  refine own_istore X17 hx (#[.val (.int p1), .val (.int p2), .val (.int p3), .val (.ref b), .val (.int (xx + ((p3 &&& (3 : Int32)) - (1 : Int32)))), .unset, .unset]) (hb hby at_109) rfl 111 rfl ?_
  refine own_iloadN X17 hx (hb hby at_111) rfl 112 rfl ?_
  refine own_callS X17 hx hZ hown (own_w11 hw) (own_w12 hw) (own_w13 hw) (own_w14 hw) (by decide) 0 (own_m_isChar l Z a0 hw _ n0 p1 (own_same p1)) e17 (by rw [hml]; rfl) [(.int p1)] [] rfl (lenOf own_pd1 rfl) rfl (Nat.le_of_eq rfl) (by decide) (by decide) (by decide) (by decide) (hb hby at_112) N17 115 rfl (fun v19 T19 l19 X19 N19 hP19 => ?_)
  obtain ⟨rfl, e19⟩ := hP19
  show own_G p e below _ (T19.setTop (mkF m 115 #[.val (.int p1), .val (.int p2), .val (.int p3), .val (.ref b), .val (.int (xx + ((p3 &&& (3 : Int32)) - (1 : Int32)))), .unset, .unset] [(.int (own_f_ref p1))]))
  refine own_iloadN X19 hx (hb hby at_115) rfl 116 rfl ?_
  refine own_callS X19 hx hZ hown (own_w17 hw) (own_w18 hw) (own_w19 hw) (own_w20 hw) (by decide) 1 (own_m_ref l Z a0 hw _ n0 p1 rfl) e19 (by rw [hml]; rfl) [(.int p1)] [(.int (own_f_ref p1))] rfl (lenOf own_pd1 rfl) rfl (Nat.le_of_eq rfl) (by decide) (by decide) (by decide) (by decide) (hb hby at_116) N19 119 rfl (fun v20 T20 l20 X20 N20 hP20 => ?_)
  obtain ⟨rfl, e20⟩ := hP20
  show own_G p e below _ (T20.setTop (mkF m 119 #[.val (.int p1), .val (.int p2), .val (.int p3), .val (.ref b), .val (.int (xx + ((p3 &&& (3 : Int32)) - (1 : Int32)))), .unset, .unset] [(.int (own_f_ref p1)), (.int (own_f_ref p1))]))
  refine own_icmpF X20 hx (hb hby at_119) (teq rfl).2 122 rfl ?_
  refine own_iconst X20 hx (z := (1 : Int32)) (hb hby at_122) rfl 123 rfl ?_
  refine own_goto X20 hx (hb hby at_123) 127 (by decide) (by decide) ?_
  refine own_istore X20 hx (#[.val (.int p1), .val (.int p2), .val (.int p3), .val (.ref b), .val (.int (xx + ((p3 &&& (3 : Int32)) - (1 : Int32)))), .val (.int (1 : Int32)), .unset]) (hb hby at_127) rfl 129 rfl ?_
  refine own_iload X20 hx (hb hby at_129) rfl 131 rfl ?_
  refine own_callS X20 hx hZ hown (own_w11 hw) (own_w12 hw) (own_w13 hw) (own_w14 hw) (by decide) 0 (own_m_isChar l Z a0 hw _ n0 (xx + ((p3 &&& (3 : Int32)) - (1 : Int32))) (own_same (xx + ((p3 &&& (3 : Int32)) - (1 : Int32))))) e20 (by rw [hml]; rfl) [(.int (xx + ((p3 &&& (3 : Int32)) - (1 : Int32))))] [] rfl (lenOf own_pd1 rfl) rfl (Nat.le_of_eq rfl) (by decide) (by decide) (by decide) (by decide) (hb hby at_131) N20 134 rfl (fun v21 T21 l21 X21 N21 hP21 => ?_)
  obtain ⟨rfl, e21⟩ := hP21
  show own_G p e below _ (T21.setTop (mkF m 134 #[.val (.int p1), .val (.int p2), .val (.int p3), .val (.ref b), .val (.int (xx + ((p3 &&& (3 : Int32)) - (1 : Int32)))), .val (.int (1 : Int32)), .unset] [(.int (own_f_ref (xx + ((p3 &&& (3 : Int32)) - (1 : Int32)))))]))
  refine own_iload X21 hx (hb hby at_134) rfl 136 rfl ?_
  refine own_callS X21 hx hZ hown (own_w17 hw) (own_w18 hw) (own_w19 hw) (own_w20 hw) (by decide) 1 (own_m_ref l Z a0 hw _ n0 (xx + ((p3 &&& (3 : Int32)) - (1 : Int32))) rfl) e21 (by rw [hml]; rfl) [(.int (xx + ((p3 &&& (3 : Int32)) - (1 : Int32))))] [(.int (own_f_ref (xx + ((p3 &&& (3 : Int32)) - (1 : Int32)))))] rfl (lenOf own_pd1 rfl) rfl (Nat.le_of_eq rfl) (by decide) (by decide) (by decide) (by decide) (hb hby at_136) N21 139 rfl (fun v22 T22 l22 X22 N22 hP22 => ?_)
  obtain ⟨rfl, e22⟩ := hP22
  show own_G p e below _ (T22.setTop (mkF m 139 #[.val (.int p1), .val (.int p2), .val (.int p3), .val (.ref b), .val (.int (xx + ((p3 &&& (3 : Int32)) - (1 : Int32)))), .val (.int (1 : Int32)), .unset] [(.int (own_f_ref (xx + ((p3 &&& (3 : Int32)) - (1 : Int32))))), (.int (own_f_ref (xx + ((p3 &&& (3 : Int32)) - (1 : Int32)))))]))
  refine own_icmpF X22 hx (hb hby at_139) (teq rfl).2 142 rfl ?_
  refine own_iconst X22 hx (z := (1 : Int32)) (hb hby at_142) rfl 143 rfl ?_
  refine own_goto X22 hx (hb hby at_143) 147 (by decide) (by decide) ?_
  refine own_istore X22 hx (#[.val (.int p1), .val (.int p2), .val (.int p3), .val (.ref b), .val (.int (xx + ((p3 &&& (3 : Int32)) - (1 : Int32)))), .val (.int (1 : Int32)), .val (.int (1 : Int32))]) (hb hby at_147) rfl 149 rfl ?_
  refine own_iload X22 hx (hb hby at_149) rfl 151 rfl ?_
  refine own_ifcF X22 hx (hb hby at_151) (feq (by decide)).1 154 rfl ?_
  refine own_iload X22 hx (hb hby at_154) rfl 156 rfl ?_
  refine own_ifcF X22 hx (hb hby at_156) (feq (by decide)).1 159 rfl ?_
  refine own_iconst X22 hx (z := (1 : Int32)) (hb hby at_159) rfl 160 rfl ?_
  refine own_goto X22 hx (hb hby at_160) 164 (by decide) (by decide) ?_
  exact own_retN X22 hx hret (Or.inl rfl) hlk (hb hby at_164) (by decide) (by decide) N22 e22 rfl
set_option maxRecDepth 65536 in
set_option maxHeartbeats 40000000 in
theorem own_comes {Post : Tables → Env → Array Value → State → Outcome → State → Prop} (hpost : ∀ tb e args s v u, (limb_1_1.after args s (.returned v) u = true ∧ limb_1_2.after args s (.returned v) u = true ∧ True) → FrameEnd s (.returned v) u (Jvm.fieldLocs frame_1_writes args s ++ Jvm.arrayLocs frame_1_arrays args s ++ Jvm.staticLocs frame_1_statics s) 16 128 → Post tb e args s (.returned v) u) :
    ArmFor flags0 classFile x code maxLocals ret World_1 tables_1 room_1 Calls_1 rest_1 Pre_1 Post := by
  intro l hfl _ _ p e ha hc hk s m args below hf hA hF happ hP
  obtain ⟨hcalls, hrest, hpre⟩ := hP
  obtain ⟨-, -, -, hnamed, -, -, -, hat⟩ := (Spec.applies_iff hf).mp happ
  obtain ⟨hg, hn⟩ := and_e (Cond.before_iff.mp (show (Jvm.Cond.and given_1 narrow_1).before args s = true from hpre))
  obtain ⟨g0, q0⟩ := and_e hg
  obtain ⟨g1, q1⟩ := and_e q0
  obtain ⟨g2, q2⟩ := and_e q1
  obtain ⟨w0, w1, w2, rfl⟩ : ∃ w0 w1 w2 : Value, args = #[w0, w1, w2] := by
    have hs : args.size = 3 := by simpa [Cond.value, given_1] using g0
    obtain ⟨L⟩ := args
    match L, hs with
    | [w0, w1, w2], _ => exact ⟨w0, w1, w2, rfl⟩
  have hw := fun d (hd : d ∈ tables_1) => atoms_spec (ws := Jvm.Cond.code x code maxLocals ret :: tables_1) hat d (List.mem_cons_of_mem _ hd)
  obtain ⟨i0, z0⟩ := is_v g1
  obtain rfl : w0 = (.int i0) := Option.some.inj z0
  obtain ⟨i1, z1⟩ := is_v g2
  obtain rfl : w1 = (.int i1) := Option.some.inj z1
  obtain ⟨i2, z2⟩ := is_v q2
  obtain rfl : w2 = (.int i2) := Option.some.inj z2
  obtain ⟨n, o, h1, h2, h3, v, L, rfl, ⟨N, rfl⟩, hq⟩ := own_m_law l s _ hw s.heap s.heap.size (Nat.le_refl _) i0 i1 i2 p e ha hc hk s m _ below hf ((Spec.applies_iff_loose hf).mp happ).1 ⟨rfl, State.Warmed39.refl s, rfl⟩ trivial
  exact ⟨n, _, h1, h2, h3, hpost _ _ _ _ _ _ ⟨Cond.after_iff.mpr rfl, Cond.after_iff.mpr (eq_i res_at (Term.int_eval (1)) rfl), trivial⟩ ⟨hq.1, hq.2.1, (hq.2.2.sift fun y hy => Or.inr (N y hy)).mono (by decide) (by decide)⟩⟩
theorem main_1_1 : Claimed_1_1 := own_comes fun _ _ _ _ _ _ h hF => ⟨h.1, hF⟩
theorem main_1_2 : Claimed_1_2 := own_comes fun _ _ _ _ _ _ h hF => ⟨h.2.1, hF⟩
end Jvm.Pilot.@@N@@
namespace Jvm.Pilot.@@N@@
open Jvm Jvm.ClassFile Sem Op Lib Jvm.Free Jvm.Stand Jvm.Pilot.@@N@@.Jvm.D
/-! MADE BY PROGRAM (witnessworld.py) out of the Statement's table words and the real class files: 9 classes; the members and pool entries that the words name. The judged class is class 1, her method 2. -/
namespace start1
open Jvm.ClassFile
def u (s : String) : CpInfo := .utf8 (stringToUtf16 s)
/-- a pool by its gaps: so many unusable entries, then the entry; so many at the end -/
def gap : Nat → List CpInfo → List CpInfo
  | 0, r => r
  | n + 1, r => .unusable :: gap n r
def poolList (es : List (Nat × CpInfo)) (last : Nat) : List CpInfo := es.foldr (fun e r => gap e.1 (e.2 :: r)) (gap last [])
def pool (es : List (Nat × CpInfo)) (last : Nat) : Array CpInfo := ⟨poolList es last⟩
def fileOf (pool : Array CpInfo) (this : Nat) (attrs : Array Attribute := #[]) (ms : Array MethodInfo := #[]) (fl : Nat := 33) (sup : Nat := 0) (ifs : Array Nat := #[]) (fds : Array FieldInfo := #[]) : ClassFile where
  minorVersion := 0
  majorVersion := 65
  constantPool := pool
  accessFlags := fl
  thisClass := this
  superClass := sup
  interfaces := ifs
  fields := fds
  methods := ms
  attributes := attrs
def plain (name : String) (sup : Option ClassId) : Class where
  name := name
  kind := .ordinary
  loader := none
  accessFlags := 33
  super := sup
  interfaces := #[]
  cf := none
  fields := #[]
  methods := #[]
  instanceTypes := #[]
  staticTypes := #[]
  resolved := #[]
  callSites := []
  init := .initialized
  statics := none
  mirror := none

def pool0 : Array CpInfo := pool [(5, u "<init>"), (0, u "()V"), (1, .class_ 10), (1, u "java/lang/Object")] 113

def k0m0 : Method := { name := "<init>", desc := "()V", sig := { parameters := [], returnType := none }, accessFlags := 1, code := none }
/-- java/lang/Object -/
def k0 : Class := { plain "java/lang/Object" none with
  accessFlags := 33
  interfaces := #[]
  cf := some (fileOf pool0 8 #[] #[{ accessFlags := 1, nameIndex := 5, descriptorIndex := 6, attributes := #[] }] 33 0 #[] #[])
  fields := #[]
  methods := #[k0m0]
  instanceTypes := #[]
  staticTypes := #[]
  resolved := Array.replicate 124 none
  statics := none }

def pool1 : Array CpInfo := pool [(2, .class_ 4), (1, u "java/lang/Object"), (0, u "<init>"), (0, u "()V"), (0, .integer 1114111), (0, .integer 55296), (0, .integer 57343), (0, .integer 65534), (0, .integer 65535), (0, .integer 55295), (0, .integer 57344), (0, .integer 65533), (0, .integer 65536), (2, .integer 2147483648), (0, .integer 2147483647), (0, .methodref 21 22), (0, .class_ 23), (0, .nameAndType 24 25), (0, u "com/example/xqwry/xqwry/XmlChars"), (0, u "isChar"), (0, u "(I)Z"), (0, .methodref 27 28), (0, .class_ 29), (0, .nameAndType 30 25), (0, u "com/example/xqwry/xqwry/XmlCharsIsCharPinLaw"), (0, u "reference"), (3, u "law"), (0, u "(III)Z")] 4

def k1m0 : Method := { name := "<init>", desc := "()V", sig := { parameters := [], returnType := none }, accessFlags := 2, code := none }
def k1c1 : Code := { maxStack := 2, maxLocals := 1, code := method_2_code, exceptionTable := #[], attributes := #[] }
def k1m1 : Method := { name := "reference", desc := "(I)Z", sig := { parameters := [.int], returnType := some .boolean }, accessFlags := 10, code := some k1c1 }
def k1c2 : Code := { maxStack := 4, maxLocals := 7, code := code, exceptionTable := #[], attributes := #[] }
def k1m2 : Method := { name := "law", desc := "(III)Z", sig := { parameters := [.int, .int, .int], returnType := some .boolean }, accessFlags := 9, code := some k1c2 }
/-- com/example/xqwry/xqwry/XmlCharsIsCharPinLaw -/
def k1 : Class := { plain "com/example/xqwry/xqwry/XmlCharsIsCharPinLaw" (some 0) with
  accessFlags := 49
  interfaces := #[]
  cf := some (fileOf pool1 27 #[] #[{ accessFlags := 2, nameIndex := 5, descriptorIndex := 6, attributes := #[] }, { accessFlags := 10, nameIndex := 30, descriptorIndex := 25, attributes := #[] }, { accessFlags := 9, nameIndex := 34, descriptorIndex := 35, attributes := #[] }] 49 2 #[] #[])
  fields := #[]
  methods := #[k1m0, k1m1, k1m2]
  instanceTypes := #[]
  staticTypes := #[]
  resolved := Array.replicate 40 none
  statics := none }

def pool2 : Array CpInfo := pool [(2, .class_ 4), (1, u "java/lang/Object"), (0, u "<init>"), (0, u "()V"), (1, .class_ 10), (1, u "com/example/xqwry/xqwry/XmlChars"), (0, u "ASCII_NAME_START"), (0, u "[Z"), (2, u "NAME_START_RANGES"), (0, u "[[I"), (6, u "ASCII_NAME_CHAR"), (2, u "NAME_FOLLOW_RANGES"), (3, u "(I)Z"), (6, u "COLON"), (29, u "ENCODING_NAME"), (0, u "Ljava/util/regex/Pattern;"), (23, .integer 55295), (0, .integer 57344), (0, .integer 65533), (0, .integer 65536), (0, .integer 1114111), (37, u "isChar")] 101

def k2m0 : Method := { name := "<init>", desc := "()V", sig := { parameters := [], returnType := none }, accessFlags := 2, code := none }
def k2c1 : Code := { maxStack := 2, maxLocals := 1, code := prog_310_method_12_code, exceptionTable := #[], attributes := #[] }
def k2m1 : Method := { name := "isChar", desc := "(I)Z", sig := { parameters := [.int], returnType := some .boolean }, accessFlags := 8, code := some k2c1 }
/-- com/example/xqwry/xqwry/XmlChars -/
def k2 : Class := { plain "com/example/xqwry/xqwry/XmlChars" (some 0) with
  accessFlags := 32
  interfaces := #[]
  cf := some (fileOf pool2 8 #[] #[{ accessFlags := 2, nameIndex := 5, descriptorIndex := 6, attributes := #[] }, { accessFlags := 8, nameIndex := 134, descriptorIndex := 30, attributes := #[] }] 32 2 #[] #[{ accessFlags := 26, nameIndex := 15, descriptorIndex := 16, attributes := #[] }, { accessFlags := 26, nameIndex := 26, descriptorIndex := 16, attributes := #[] }, { accessFlags := 26, nameIndex := 37, descriptorIndex := 16, attributes := #[] }, { accessFlags := 26, nameIndex := 67, descriptorIndex := 68, attributes := #[] }, { accessFlags := 26, nameIndex := 11, descriptorIndex := 12, attributes := #[] }, { accessFlags := 26, nameIndex := 23, descriptorIndex := 12, attributes := #[] }])
  fields := #[{ name := "NAME_START_RANGES", type := (.array (.array .int)), accessFlags := 26, slot := 0, constantValue := 0 }, { name := "NAME_FOLLOW_RANGES", type := (.array (.array .int)), accessFlags := 26, slot := 1, constantValue := 0 }, { name := "COLON", type := (.array (.array .int)), accessFlags := 26, slot := 2, constantValue := 0 }, { name := "ENCODING_NAME", type := (.object "java/util/regex/Pattern"), accessFlags := 26, slot := 3, constantValue := 0 }, { name := "ASCII_NAME_START", type := (.array .boolean), accessFlags := 26, slot := 4, constantValue := 0 }, { name := "ASCII_NAME_CHAR", type := (.array .boolean), accessFlags := 26, slot := 5, constantValue := 0 }]
  methods := #[k2m0, k2m1]
  instanceTypes := #[]
  staticTypes := #[(.array (.array .int)), (.array (.array .int)), (.array (.array .int)), (.object "java/util/regex/Pattern"), (.array .boolean), (.array .boolean)]
  resolved := Array.replicate 236 none
  statics := none }

def pool3 : Array CpInfo := pool [(1, u "java/lang/Cloneable"), (0, .class_ 1), (0, u "java/lang/Object"), (0, .class_ 3)] 3

/-- java/lang/Cloneable -/
def k3 : Class := { plain "java/lang/Cloneable" (some 0) with
  accessFlags := 1537
  interfaces := #[]
  cf := some (fileOf pool3 2 #[] #[] 1537 4 #[] #[])
  fields := #[]
  methods := #[]
  instanceTypes := #[]
  staticTypes := #[]
  resolved := Array.replicate 8 none
  statics := none }

def pool4 : Array CpInfo := pool [(1, u "java/io/Serializable"), (0, .class_ 1), (0, u "java/lang/Object"), (0, .class_ 3)] 3

/-- java/io/Serializable -/
def k4 : Class := { plain "java/io/Serializable" (some 0) with
  accessFlags := 1537
  interfaces := #[]
  cf := some (fileOf pool4 2 #[] #[] 1537 4 #[] #[])
  fields := #[]
  methods := #[]
  instanceTypes := #[]
  staticTypes := #[]
  resolved := Array.replicate 8 none
  statics := none }

/-- the primitive byte -/
def k5 : Class := { plain "byte" none with kind := .primitive 'B', accessFlags := 0x411 }
/-- [B -/
def k6 : Class := { plain "[B" (some 0) with kind := .array 5 .byte, interfaces := #[3, 4], accessFlags := 1041 }

/-- the primitive int -/
def k7 : Class := { plain "int" none with kind := .primitive 'I', accessFlags := 0x411 }
/-- [I -/
def k8 : Class := { plain "[I" (some 0) with kind := .array 7 .int, interfaces := #[3, 4], accessFlags := 1041 }

def heap : Heap := #[]
def classes : Array Class := #[k0, k1, k2, k3, k4, k5, k6, k7, k8]
def interned : List (Array UInt16 × Addr) := []
def slotsUsed : Nat := 0
def theMethod : MethodId := ⟨1, 2⟩
def args0 : Array Value := #[.int 65, .int 3, .int 2]
def aboutOver (below : List Frame) : State where
  vm := { classes := classes, interned := interned.toArray }
  heap := heap
  slotsUsed := slotsUsed
  threads := #[{ frames := .invoking theMethod args0 :: below }]
def below0 : List Frame := [.native { method := ⟨0, 0⟩, args := #[] }]
def about1 : State := aboutOver below0
def p0 : Program := .bare "" "" ""
def e0 : Env := launch0.env 0 0 0
theorem w_frames : about1.frames = Frame.invoking theMethod args0 :: below0 := rfl
set_option maxRecDepth 65536 in
theorem w_args : argsFit about1.vm theMethod args0 = true := by decide +kernel
set_option maxRecDepth 65536 in
theorem w_heap : heapFits about1 = true := by decide +kernel
set_option maxRecDepth 65536 in
theorem w_runnable : about1.curStatus? = some .runnable := by decide +kernel
set_option maxRecDepth 65536 in
theorem w_alone : about1.alone = true := by decide +kernel
set_option maxRecDepth 65536 in
theorem w_named : about1.methodNamed? x = some theMethod := by decide +kernel
set_option maxRecDepth 65536 in
theorem w_hears : about1.hears theMethod below0 = true := by decide +kernel
set_option maxRecDepth 65536 in
theorem w_ripe : about1.ripe theMethod args0 below0 = true := by decide +kernel
theorem w_running : about1.status = .running := rfl
set_option maxRecDepth 65536 in
theorem w_room : about1.hasRoom e0.platform room_1 = true :=
  launch0.hasRoom_least _ room_1 (by decide +kernel) (by decide +kernel) (by decide +kernel) (by decide +kernel) (by decide +kernel) (by decide +kernel)
theorem allAtoms_all (ts : List Jvm.Cond) (a : Array Jvm.Value) (st : Jvm.State) : (allAtoms ts).before a st = ts.all (fun c => c.before a st) := by
  induction ts with
  | nil => rfl
  | cons c t ih =>
    show (Jvm.Cond.and c (allAtoms t)).before a st = _
    rw [Jvm.Cond.before_and, ih, List.all_cons]
def words1 : List Jvm.Cond := Jvm.Cond.code x code maxLocals ret :: tables_1
/-- a 'code' word, met by the world's own term for the bytes: nothing is compared byte by byte -/
theorem code_word {y : MethodName} {bytes : ByteArray} {mx : Nat} {rt : Option FieldType} {a : Array Value} {s : State} {m : MethodId} {meth : Method} {c : Code} (h1 : s.methodNamed? y = some m) (h2 : s.vm.method? m = some meth) (h3 : meth.code = some c) (h4 : c.code = bytes)
    (h5 : (c.maxLocals == mx && c.exceptionTable.isEmpty && decide (c.maxStack ≤ mostOperands) && decide (meth.sig.returnType = rt) && !meth.locks && decide (parseMethodDescriptor y.desc = some meth.sig)) = true) : (Jvm.Cond.code y bytes mx rt).before a s = true := by
  simp only [Bool.and_eq_true, beq_iff_eq, Bool.not_eq_true', decide_eq_true_eq] at h5
  obtain ⟨⟨⟨⟨⟨g1, g2⟩, g3⟩, g4⟩, g5⟩, g6⟩ := h5
  simp [Cond.before, Cond.holds, Cond.value, h1, h2, h3, h4, g1, g2, g3, g4, g5, g6]
def isCode : Jvm.Cond → Bool
  | .code _ _ _ _ => true
  | _ => false
theorem all_split {L : List Jvm.Cond} {P : Jvm.Cond → Bool} (h1 : L.all (fun c => isCode c || P c) = true) (h2 : ∀ c ∈ L.filter isCode, P c = true) : L.all P = true := by
  refine List.all_eq_true.mpr fun c hc => ?_
  have h := List.all_eq_true.mp h1 c hc
  rcases Bool.eq_false_or_eq_true (isCode c) with hi | hi
  · exact h2 c (List.mem_filter.mpr ⟨hc, hi⟩)
  · simpa [hi] using h
set_option maxRecDepth 65536 in
theorem w_c0 : (Jvm.Cond.code x code maxLocals ret).before args0 about1 = true := code_word (m := ⟨1, 2⟩) (meth := k1m2) (c := k1c2) (by decide +kernel) rfl rfl rfl (by decide +kernel)
set_option maxRecDepth 65536 in
theorem w_c1 : (Jvm.Cond.code ({ cls := "com/example/xqwry/xqwry/XmlChars", name := "isChar", desc := "(I)Z" } : Jvm.MethodName) prog_310_method_12_code (1 : Nat) (Option.some Jvm.ClassFile.FieldType.boolean)).before args0 about1 = true := code_word (m := ⟨2, 1⟩) (meth := k2m1) (c := k2c1) (by decide +kernel) rfl rfl rfl (by decide +kernel)
set_option maxRecDepth 65536 in
theorem w_c2 : (Jvm.Cond.code ({ cls := "com/example/xqwry/xqwry/XmlCharsIsCharPinLaw", name := "reference", desc := "(I)Z" } : Jvm.MethodName) method_2_code (1 : Nat) (Option.some Jvm.ClassFile.FieldType.boolean)).before args0 about1 = true := code_word (m := ⟨1, 1⟩) (meth := k1m1) (c := k1c1) (by decide +kernel) rfl rfl rfl (by decide +kernel)
def codes1 : List Jvm.Cond := [Jvm.Cond.code x code maxLocals ret, Jvm.Cond.code ({ cls := "com/example/xqwry/xqwry/XmlChars", name := "isChar", desc := "(I)Z" } : Jvm.MethodName) prog_310_method_12_code (1 : Nat) (Option.some Jvm.ClassFile.FieldType.boolean), Jvm.Cond.code ({ cls := "com/example/xqwry/xqwry/XmlCharsIsCharPinLaw", name := "reference", desc := "(I)Z" } : Jvm.MethodName) method_2_code (1 : Nat) (Option.some Jvm.ClassFile.FieldType.boolean)]
set_option maxRecDepth 65536 in
theorem codes_eq : words1.filter isCode = codes1 := rfl
theorem w_codes : ∀ c ∈ words1.filter isCode, c.before args0 about1 = true := by
  rw [codes_eq]
  intro c hc
  simp only [codes1, List.mem_cons, List.not_mem_nil, or_false] at hc
  rcases hc with rfl | rfl | rfl
  · exact w_c0
  · exact w_c1
  · exact w_c2
set_option maxRecDepth 65536 in
theorem w_t1 : (words1.take 24).all (fun c => isCode c || c.before args0 about1) = true := by decide +kernel
set_option maxRecDepth 65536 in
theorem w_t2 : (words1.drop 24).all (fun c => isCode c || c.before args0 about1) = true := by decide +kernel
theorem w_tables : (allAtoms (Jvm.Cond.code x code maxLocals ret :: tables_1)).before args0 about1 = true := by
  rw [allAtoms_all]
  show words1.all (fun c => c.before args0 about1) = true
  refine all_split ?_ w_codes
  rw [← List.take_append_drop 24 words1, List.all_append, w_t1, w_t2]
  rfl
set_option maxRecDepth 65536 in
theorem w_case : (Jvm.Cond.and given_1 narrow_1).before args0 about1 = true := by decide +kernel
theorem w_applies : (headSpec (Jvm.Cond.code x code maxLocals ret :: tables_1) room_1).applies x e0.platform about1 = true :=
  (Spec.applies_iff w_frames).mpr ⟨w_running, w_runnable, w_alone, w_named, w_hears, w_ripe, w_room, w_tables⟩
theorem atStart : AtStart classFile x code maxLocals ret World_1 tables_1 room_1 Calls_1 rest_1 Pre_1 launch0 p0 e0 about1 theMethod args0 below0 :=
  ⟨lists_1, trivial, launch0.admits_env _ _ _, launch0.least_env, fairChoices_fair.cas, fairChoices_fair.clock, w_frames, w_args, w_heap, w_applies, trivial, trivial, w_case⟩
end start1
theorem witness_1 : WitnessClaimed_1 := ⟨start1.p0, start1.e0, start1.about1, start1.theMethod, start1.args0, start1.below0, start1.atStart⟩
end Jvm.Pilot.@@N@@
