import JvmDerived
import JvmDerived.Pilot.@@N@@Statement
import JvmDerived.Pilot.@@N@@Code
set_option linter.unusedVariables false
set_option linter.unusedSimpArgs false
namespace Jvm.Pilot.@@N@@
open Jvm Jvm.ClassFile Sem Op Lib Jvm.Free Jvm.Stand Jvm.LawKit Jvm.RoadKit Bundle Jvm.Pilot.@@N@@.Jvm.D
section OwnKit
variable {p : Program} {l : Launch} {e : Env} {R : Room} {s : State} {m : MethodId} {args : Array Value} {below : List Frame} {meth : Method} {c : Code} {T : State} {locs : List Loc} {cells slots : Nat} {Z : State} {a0 : Array Value} {h : Heap} {Q : Option Value → Heap → List Loc → Prop} {rc rs : Nat} {pc pc' : Nat} {Ls Ls' : Array Slot} {st : List Value} {own : String} {index : Nat}
/-- from the state S the body comes to its end as Q says, with at most rc new cells and rs new slots -/
def OwnGo (p : Program) (e : Env) (below : List Frame) (s : State) (Q : Option Value → Heap → List Loc → Prop) (rc rs : Nat) (S : State) : Prop :=
  ∃ t o, Steps p.tables e below S t ∧ t.status = .running ∧ Ended t below o ∧ ∃ v L, o = .returned v ∧ Q v t.heap L ∧ FrameEnd s o t L rc rs
theorem own_step {S S' : State} (k : ∀ t, Steps p.tables e below S' t → Steps p.tables e below S t) (g : OwnGo p e below s Q rc rs S') : OwnGo p e below s Q rc rs S := by
  obtain ⟨t, o, h1, r⟩ := g
  exact ⟨t, o, k t h1, r⟩
theorem own_cast {g g' : JFrame} (q : g = g') (k : OwnGo p e below s Q rc rs (T.setTop g')) : OwnGo p e below s Q rc rs (T.setTop g) := q ▸ k
theorem own_met {y : MethodName} {bytes : ByteArray} {maxL : Nat} {ret : Option FieldType} {rm : Room} {ws : List Jvm.Cond} {as' : Array Value} (hpl : plainFor y = true) (ef : ∀ m, entryFrame m as' maxL = mkF m 0 Ls [])
    (body : ∀ (p : Program) (e : Env) (s : State) (m : MethodId) (below : List Frame) (meth : Method) (c : Code) (T : State), p.tables.exec = Jvm.exec → Z.Warmed39 s.vm → c.code = bytes → c.maxLocals = maxL → s.vm.findClass y.cls = some m.cls → meth.name = y.name → meth.sig.returnType = ret → meth.locks = false → Stand p l e rm s m as' below meth c T [] 0 0 → T.heap = h → OwnGo p e below s Q rm.cells rm.slots (T.setTop (mkF m 0 Ls []))) :
    MetFree l y (head1 (Jvm.Cond.code y bytes maxL ret :: ws) rm) (fun a U => a = as' ∧ Z.Warmed39 U.vm ∧ U.heap = h) (fun _ _ _ _ _ => True) (fun _ U o U' => ∃ v L, o = .returned v ∧ Q v U'.heap L ∧ FrameEnd U o U' L rm.cells rm.slots) := by
  refine MetFree.of_bodySF hpl hisR ?_
  intro p e s m args below meth c s₁ Bd hml0 hP hK
  obtain ⟨rfl, hZ, hh⟩ := hP
  have X0 : Stand p l e rm s m args below meth c s₁ [] 0 0 := Stand.of_body Bd
  have e0 : s₁.heap = h := by rw [← hh, Bd.state]; rfl
  have q := body p e s m below meth c s₁ Bd.exec hZ Bd.bytes hml0 (findClass_of_methodNamed Bd.named) (name_of_methodNamed Bd.named Bd.method).1 Bd.returns Bd.notSynchronized X0 e0
  rw [← ef m] at q
  exact q

theorem own_iloadN (X : Stand p l e R s m args below meth c T locs cells slots) (hx : p.tables.exec = Jvm.exec) {k : Fin 4} {v : Int32} (hd : decode c.code pc = .ok (.iload_n k, 1)) (hl : Ls[k.val]? = some (.val (.int v))) (hp : pc + 1 = pc') (g : OwnGo p e below s Q rc rs (T.setTop (mkF m pc' Ls (.int v :: st)))) : OwnGo p e below s Q rc rs (T.setTop (mkF m pc Ls st)) := by
  subst hp
  exact own_step (fun _ k => XS.iloadN X.here hx rfl hd hl k) g
theorem own_lloadN (X : Stand p l e R s m args below meth c T locs cells slots) (hx : p.tables.exec = Jvm.exec) {k : Fin 4} {v : Int64} (hd : decode c.code pc = .ok (.lload_n k, 1)) (hl : Ls[k.val]? = some (.val (.long v))) (hp : pc + 1 = pc') (g : OwnGo p e below s Q rc rs (T.setTop (mkF m pc' Ls (.long v :: st)))) : OwnGo p e below s Q rc rs (T.setTop (mkF m pc Ls st)) := by
  subst hp
  exact own_step (fun _ k => XS.lloadN X.here hx rfl hd hl k) g
theorem own_aloadN (X : Stand p l e R s m args below meth c T locs cells slots) (hx : p.tables.exec = Jvm.exec) {k : Fin 4} {v : Value} (hd : decode c.code pc = .ok (.aload_n k, 1)) (hl : Ls[k.val]? = some (.val v)) (hv : v.isRef = true) (hp : pc + 1 = pc') (g : OwnGo p e below s Q rc rs (T.setTop (mkF m pc' Ls (v :: st)))) : OwnGo p e below s Q rc rs (T.setTop (mkF m pc Ls st)) := by
  subst hp
  exact own_step (fun _ k => XS.aloadN X.here hx rfl hd hl hv k) g
theorem own_istoreN (X : Stand p l e R s m args below meth c T locs cells slots) (hx : p.tables.exec = Jvm.exec) {k : Fin 4} {v : Int32} (hd : decode c.code pc = .ok (.istore_n k, 1)) (hl : storeLocals Ls k.val (.int v) = some Ls') (hp : pc + 1 = pc') (g : OwnGo p e below s Q rc rs (T.setTop (mkF m pc' Ls' st))) : OwnGo p e below s Q rc rs (T.setTop (mkF m pc Ls (.int v :: st))) := by
  subst hp
  exact own_step (fun _ k => XS.istoreN X.here hx rfl hd rfl hl k) g
theorem own_lstoreN (X : Stand p l e R s m args below meth c T locs cells slots) (hx : p.tables.exec = Jvm.exec) {k : Fin 4} {v : Int64} (hd : decode c.code pc = .ok (.lstore_n k, 1)) (hl : storeLocals Ls k.val (.long v) = some Ls') (hp : pc + 1 = pc') (g : OwnGo p e below s Q rc rs (T.setTop (mkF m pc' Ls' st))) : OwnGo p e below s Q rc rs (T.setTop (mkF m pc Ls (.long v :: st))) := by
  subst hp
  exact own_step (fun _ k => XS.lstoreN X.here hx rfl hd rfl hl k) g
theorem own_astoreN (X : Stand p l e R s m args below meth c T locs cells slots) (hx : p.tables.exec = Jvm.exec) {k : Fin 4} {v : Value} (hd : decode c.code pc = .ok (.astore_n k, 1)) (hv : v.isRef = true) (hl : storeLocals Ls k.val v = some Ls') (hp : pc + 1 = pc') (g : OwnGo p e below s Q rc rs (T.setTop (mkF m pc' Ls' st))) : OwnGo p e below s Q rc rs (T.setTop (mkF m pc Ls (v :: st))) := by
  subst hp
  exact own_step (fun _ k => XS.astoreN X.here hx rfl hd rfl hv hl k) g
theorem own_iload (X : Stand p l e R s m args below meth c T locs cells slots) (hx : p.tables.exec = Jvm.exec) {k : Nat} {v : Int32} (hd : decode c.code pc = .ok (.iload k, 2)) (hl : Ls[k]? = some (.val (.int v))) (hp : pc + 2 = pc') (g : OwnGo p e below s Q rc rs (T.setTop (mkF m pc' Ls (.int v :: st)))) : OwnGo p e below s Q rc rs (T.setTop (mkF m pc Ls st)) := by
  subst hp
  exact own_step (fun _ k => XS.iload X.here hx rfl hd hl k) g
theorem own_lload (X : Stand p l e R s m args below meth c T locs cells slots) (hx : p.tables.exec = Jvm.exec) {k : Nat} {v : Int64} (hd : decode c.code pc = .ok (.lload k, 2)) (hl : Ls[k]? = some (.val (.long v))) (hp : pc + 2 = pc') (g : OwnGo p e below s Q rc rs (T.setTop (mkF m pc' Ls (.long v :: st)))) : OwnGo p e below s Q rc rs (T.setTop (mkF m pc Ls st)) := by
  subst hp
  exact own_step (fun _ k => XS.lload X.here hx rfl hd hl k) g
theorem own_aload (X : Stand p l e R s m args below meth c T locs cells slots) (hx : p.tables.exec = Jvm.exec) {k : Nat} {v : Value} (hd : decode c.code pc = .ok (.aload k, 2)) (hl : Ls[k]? = some (.val v)) (hv : v.isRef = true) (hp : pc + 2 = pc') (g : OwnGo p e below s Q rc rs (T.setTop (mkF m pc' Ls (v :: st)))) : OwnGo p e below s Q rc rs (T.setTop (mkF m pc Ls st)) := by
  subst hp
  exact own_step (fun _ k => XS.aload X.here hx rfl hd hl hv k) g
theorem own_istore (X : Stand p l e R s m args below meth c T locs cells slots) (hx : p.tables.exec = Jvm.exec) {k : Nat} {v : Int32} (hd : decode c.code pc = .ok (.istore k, 2)) (hl : storeLocals Ls k (.int v) = some Ls') (hp : pc + 2 = pc') (g : OwnGo p e below s Q rc rs (T.setTop (mkF m pc' Ls' st))) : OwnGo p e below s Q rc rs (T.setTop (mkF m pc Ls (.int v :: st))) := by
  subst hp
  exact own_step (fun _ k => XS.istore X.here hx rfl hd rfl hl k) g
theorem own_lstore (X : Stand p l e R s m args below meth c T locs cells slots) (hx : p.tables.exec = Jvm.exec) {k : Nat} {v : Int64} (hd : decode c.code pc = .ok (.lstore k, 2)) (hl : storeLocals Ls k (.long v) = some Ls') (hp : pc + 2 = pc') (g : OwnGo p e below s Q rc rs (T.setTop (mkF m pc' Ls' st))) : OwnGo p e below s Q rc rs (T.setTop (mkF m pc Ls (.long v :: st))) := by
  subst hp
  exact own_step (fun _ k => XS.lstore X.here hx rfl hd rfl hl k) g
theorem own_astore (X : Stand p l e R s m args below meth c T locs cells slots) (hx : p.tables.exec = Jvm.exec) {k : Nat} {v : Value} (hd : decode c.code pc = .ok (.astore k, 2)) (hv : v.isRef = true) (hl : storeLocals Ls k v = some Ls') (hp : pc + 2 = pc') (g : OwnGo p e below s Q rc rs (T.setTop (mkF m pc' Ls' st))) : OwnGo p e below s Q rc rs (T.setTop (mkF m pc Ls (v :: st))) := by
  subst hp
  exact own_step (fun _ k => XS.astore X.here hx rfl hd rfl hv hl k) g
theorem own_iconst (X : Stand p l e R s m args below meth c T locs cells slots) (hx : p.tables.exec = Jvm.exec) {i : Int} {z : Int32} (hd : decode c.code pc = .ok (.iconst i, 1)) (hz : Int32.ofInt i = z) (hp : pc + 1 = pc') (g : OwnGo p e below s Q rc rs (T.setTop (mkF m pc' Ls (.int z :: st)))) : OwnGo p e below s Q rc rs (T.setTop (mkF m pc Ls st)) := by
  subst hp hz
  exact own_step (fun _ k => XS.iconst X.here hx rfl hd k) g
theorem own_bipush (X : Stand p l e R s m args below meth c T locs cells slots) (hx : p.tables.exec = Jvm.exec) {i : Int} {z : Int32} (hd : decode c.code pc = .ok (.bipush i, 2)) (hz : (Int8.ofInt i).toInt32 = z) (hp : pc + 2 = pc') (g : OwnGo p e below s Q rc rs (T.setTop (mkF m pc' Ls (.int z :: st)))) : OwnGo p e below s Q rc rs (T.setTop (mkF m pc Ls st)) := by
  subst hp hz
  exact own_step (fun _ k => XS.bipush X.here hx rfl hd k) g
theorem own_sipush (X : Stand p l e R s m args below meth c T locs cells slots) (hx : p.tables.exec = Jvm.exec) {i : Int} {z : Int32} (hd : decode c.code pc = .ok (.sipush i, 3)) (hz : (Int16.ofInt i).toInt32 = z) (hp : pc + 3 = pc') (g : OwnGo p e below s Q rc rs (T.setTop (mkF m pc' Ls (.int z :: st)))) : OwnGo p e below s Q rc rs (T.setTop (mkF m pc Ls st)) := by
  subst hp hz
  exact own_step (fun _ k => XS.sipush X.here hx rfl hd k) g
theorem own_lconst (X : Stand p l e R s m args below meth c T locs cells slots) (hx : p.tables.exec = Jvm.exec) {i : Fin 2} {z : Int64} (hd : decode c.code pc = .ok (.lconst i, 1)) (hz : Int64.ofNat i = z) (hp : pc + 1 = pc') (g : OwnGo p e below s Q rc rs (T.setTop (mkF m pc' Ls (.long z :: st)))) : OwnGo p e below s Q rc rs (T.setTop (mkF m pc Ls st)) := by
  subst hp hz
  exact own_step (fun _ k => XS.lconst X.here hx rfl hd k) g
theorem own_iadd (X : Stand p l e R s m args below meth c T locs cells slots) (hx : p.tables.exec = Jvm.exec) {x y : Int32} (hd : decode c.code pc = .ok (.iadd, 1))  (hp : pc + 1 = pc') (g : OwnGo p e below s Q rc rs (T.setTop (mkF m pc' Ls (.int (x + y) :: st)))) : OwnGo p e below s Q rc rs (T.setTop (mkF m pc Ls (.int y :: .int x :: st))) := by
  subst hp
  exact own_step (fun _ k => XS.iadd X.here hx rfl hd rfl k) g
theorem own_isub (X : Stand p l e R s m args below meth c T locs cells slots) (hx : p.tables.exec = Jvm.exec) {x y : Int32} (hd : decode c.code pc = .ok (.isub, 1))  (hp : pc + 1 = pc') (g : OwnGo p e below s Q rc rs (T.setTop (mkF m pc' Ls (.int (x - y) :: st)))) : OwnGo p e below s Q rc rs (T.setTop (mkF m pc Ls (.int y :: .int x :: st))) := by
  subst hp
  exact own_step (fun _ k => XS.isub X.here hx rfl hd rfl k) g
theorem own_imul (X : Stand p l e R s m args below meth c T locs cells slots) (hx : p.tables.exec = Jvm.exec) {x y : Int32} (hd : decode c.code pc = .ok (.imul, 1))  (hp : pc + 1 = pc') (g : OwnGo p e below s Q rc rs (T.setTop (mkF m pc' Ls (.int (x * y) :: st)))) : OwnGo p e below s Q rc rs (T.setTop (mkF m pc Ls (.int y :: .int x :: st))) := by
  subst hp
  exact own_step (fun _ k => XS.imul X.here hx rfl hd rfl k) g
theorem own_iand (X : Stand p l e R s m args below meth c T locs cells slots) (hx : p.tables.exec = Jvm.exec) {x y : Int32} (hd : decode c.code pc = .ok (.iand, 1))  (hp : pc + 1 = pc') (g : OwnGo p e below s Q rc rs (T.setTop (mkF m pc' Ls (.int (x &&& y) :: st)))) : OwnGo p e below s Q rc rs (T.setTop (mkF m pc Ls (.int y :: .int x :: st))) := by
  subst hp
  exact own_step (fun _ k => XS.iand X.here hx rfl hd rfl k) g
theorem own_iushr (X : Stand p l e R s m args below meth c T locs cells slots) (hx : p.tables.exec = Jvm.exec) {x y : Int32} (hd : decode c.code pc = .ok (.iushr, 1))  (hp : pc + 1 = pc') (g : OwnGo p e below s Q rc rs (T.setTop (mkF m pc' Ls (.int (XT.ushr x y) :: st)))) : OwnGo p e below s Q rc rs (T.setTop (mkF m pc Ls (.int y :: .int x :: st))) := by
  subst hp
  exact own_step (fun _ k => XT.iushr X.here hx rfl hd rfl k) g
theorem own_ladd (X : Stand p l e R s m args below meth c T locs cells slots) (hx : p.tables.exec = Jvm.exec) {x y : Int64} (hd : decode c.code pc = .ok (.ladd, 1))  (hp : pc + 1 = pc') (g : OwnGo p e below s Q rc rs (T.setTop (mkF m pc' Ls (.long (x + y) :: st)))) : OwnGo p e below s Q rc rs (T.setTop (mkF m pc Ls (.long y :: .long x :: st))) := by
  subst hp
  exact own_step (fun _ k => XS.ladd X.here hx rfl hd rfl k) g
theorem own_lsub (X : Stand p l e R s m args below meth c T locs cells slots) (hx : p.tables.exec = Jvm.exec) {x y : Int64} (hd : decode c.code pc = .ok (.lsub, 1))  (hp : pc + 1 = pc') (g : OwnGo p e below s Q rc rs (T.setTop (mkF m pc' Ls (.long (x - y) :: st)))) : OwnGo p e below s Q rc rs (T.setTop (mkF m pc Ls (.long y :: .long x :: st))) := by
  subst hp
  exact own_step (fun _ k => XS.lsub X.here hx rfl hd rfl k) g
theorem own_land (X : Stand p l e R s m args below meth c T locs cells slots) (hx : p.tables.exec = Jvm.exec) {x y : Int64} (hd : decode c.code pc = .ok (.land, 1))  (hp : pc + 1 = pc') (g : OwnGo p e below s Q rc rs (T.setTop (mkF m pc' Ls (.long (x &&& y) :: st)))) : OwnGo p e below s Q rc rs (T.setTop (mkF m pc Ls (.long y :: .long x :: st))) := by
  subst hp
  exact own_step (fun _ k => XS.land X.here hx rfl hd rfl k) g
theorem own_lushr (X : Stand p l e R s m args below meth c T locs cells slots) (hx : p.tables.exec = Jvm.exec) {x : Int64} {y : Int32} (hd : decode c.code pc = .ok (.lushr, 1))  (hp : pc + 1 = pc') (g : OwnGo p e below s Q rc rs (T.setTop (mkF m pc' Ls (.long (XT.ushrL x y) :: st)))) : OwnGo p e below s Q rc rs (T.setTop (mkF m pc Ls (.int y :: .long x :: st))) := by
  subst hp
  exact own_step (fun _ k => XT.lushr X.here hx rfl hd rfl k) g
theorem own_lcmp (X : Stand p l e R s m args below meth c T locs cells slots) (hx : p.tables.exec = Jvm.exec) {x y : Int64} (hd : decode c.code pc = .ok (.lcmp, 1))  (hp : pc + 1 = pc') (g : OwnGo p e below s Q rc rs (T.setTop (mkF m pc' Ls (.int (XT.cmpL x y) :: st)))) : OwnGo p e below s Q rc rs (T.setTop (mkF m pc Ls (.long y :: .long x :: st))) := by
  subst hp
  exact own_step (fun _ k => XT.lcmp X.here hx rfl hd rfl k) g
theorem own_irem (X : Stand p l e R s m args below meth c T locs cells slots) (hx : p.tables.exec = Jvm.exec) {x y : Int32} (hd : decode c.code pc = .ok (.irem, 1)) (hy : y ≠ 0) (hp : pc + 1 = pc') (g : OwnGo p e below s Q rc rs (T.setTop (mkF m pc' Ls (.int (x % y) :: st)))) : OwnGo p e below s Q rc rs (T.setTop (mkF m pc Ls (.int y :: .int x :: st))) := by
  subst hp
  exact own_step (fun _ k => iremM X hx rfl hd rfl hy k) g
theorem own_idiv (X : Stand p l e R s m args below meth c T locs cells slots) (hx : p.tables.exec = Jvm.exec) {x y : Int32} (hd : decode c.code pc = .ok (.idiv, 1)) (hy : y ≠ 0) (hp : pc + 1 = pc') (g : OwnGo p e below s Q rc rs (T.setTop (mkF m pc' Ls (.int (x / y) :: st)))) : OwnGo p e below s Q rc rs (T.setTop (mkF m pc Ls (.int y :: .int x :: st))) := by
  subst hp
  exact own_step (fun _ k => XS.idiv X.here hx rfl hd rfl hy k) g
theorem own_lrem (X : Stand p l e R s m args below meth c T locs cells slots) (hx : p.tables.exec = Jvm.exec) {x y : Int64} (hd : decode c.code pc = .ok (.lrem, 1)) (hy : y ≠ 0) (hp : pc + 1 = pc') (g : OwnGo p e below s Q rc rs (T.setTop (mkF m pc' Ls (.long (x % y) :: st)))) : OwnGo p e below s Q rc rs (T.setTop (mkF m pc Ls (.long y :: .long x :: st))) := by
  subst hp
  exact own_step (fun _ k => XS.lrem X.here hx rfl hd rfl hy (by rw [lrem_mod]; exact k)) g
theorem own_i2l (X : Stand p l e R s m args below meth c T locs cells slots) (hx : p.tables.exec = Jvm.exec) {x : Int32} (hd : decode c.code pc = .ok (.i2l, 1))  (hp : pc + 1 = pc') (g : OwnGo p e below s Q rc rs (T.setTop (mkF m pc' Ls (.long x.toInt64 :: st)))) : OwnGo p e below s Q rc rs (T.setTop (mkF m pc Ls (.int x :: st))) := by
  subst hp
  exact own_step (fun _ k => XS.i2l X.here hx rfl hd rfl k) g
theorem own_l2i (X : Stand p l e R s m args below meth c T locs cells slots) (hx : p.tables.exec = Jvm.exec) {x : Int64} (hd : decode c.code pc = .ok (.l2i, 1))  (hp : pc + 1 = pc') (g : OwnGo p e below s Q rc rs (T.setTop (mkF m pc' Ls (.int x.toInt32 :: st)))) : OwnGo p e below s Q rc rs (T.setTop (mkF m pc Ls (.long x :: st))) := by
  subst hp
  exact own_step (fun _ k => XS.l2i X.here hx rfl hd rfl k) g
theorem own_i2b (X : Stand p l e R s m args below meth c T locs cells slots) (hx : p.tables.exec = Jvm.exec) {x : Int32} (hd : decode c.code pc = .ok (.i2b, 1))  (hp : pc + 1 = pc') (g : OwnGo p e below s Q rc rs (T.setTop (mkF m pc' Ls (.int x.toInt8.toInt32 :: st)))) : OwnGo p e below s Q rc rs (T.setTop (mkF m pc Ls (.int x :: st))) := by
  subst hp
  exact own_step (fun _ k => XS.i2b X.here hx rfl hd rfl k) g
theorem own_i2c (X : Stand p l e R s m args below meth c T locs cells slots) (hx : p.tables.exec = Jvm.exec) {x : Int32} (hd : decode c.code pc = .ok (.i2c, 1))  (hp : pc + 1 = pc') (g : OwnGo p e below s Q rc rs (T.setTop (mkF m pc' Ls (.int x.toUInt32.toUInt16.toUInt32.toInt32 :: st)))) : OwnGo p e below s Q rc rs (T.setTop (mkF m pc Ls (.int x :: st))) := by
  subst hp
  exact own_step (fun _ k => XS.i2c X.here hx rfl hd rfl k) g
theorem own_dup (X : Stand p l e R s m args below meth c T locs cells slots) (hx : p.tables.exec = Jvm.exec) {x : Value} (hd : decode c.code pc = .ok (.dup, 1)) (hc : x.category = 1) (hp : pc + 1 = pc') (g : OwnGo p e below s Q rc rs (T.setTop (mkF m pc' Ls (x :: x :: st)))) : OwnGo p e below s Q rc rs (T.setTop (mkF m pc Ls (x :: st))) := by
  subst hp
  exact own_step (fun _ k => XS.dup X.here hx rfl hd rfl hc k) g
theorem own_aconst_null (X : Stand p l e R s m args below meth c T locs cells slots) (hx : p.tables.exec = Jvm.exec)  (hd : decode c.code pc = .ok (.aconst_null, 1))  (hp : pc + 1 = pc') (g : OwnGo p e below s Q rc rs (T.setTop (mkF m pc' Ls (.null :: st)))) : OwnGo p e below s Q rc rs (T.setTop (mkF m pc Ls st)) := by
  subst hp
  exact own_step (fun _ k => XS.aconstNull X.here hx rfl hd k) g
theorem own_iinc (X : Stand p l e R s m args below meth c T locs cells slots) (hx : p.tables.exec = Jvm.exec) {k : Nat} {cst : Int} {x z : Int32} (hd : decode c.code pc = .ok (.iinc k cst, 3)) (hl : Ls[k]? = some (.val (.int x))) (hz : x + Int32.ofInt cst = z) (hl' : storeLocals Ls k (.int z) = some Ls') (hp : pc + 3 = pc') (g : OwnGo p e below s Q rc rs (T.setTop (mkF m pc' Ls' st))) : OwnGo p e below s Q rc rs (T.setTop (mkF m pc Ls st)) := by
  subst hp hz
  exact own_step (fun _ k => XS.iinc X.here hx rfl hd hl hl' k) g
theorem own_ldcI (X : Stand p l e R s m args below meth c T locs cells slots) (hx : p.tables.exec = Jvm.exec) (hZ : Z.Warmed39 s.vm) (hown : s.vm.findClass own = some m.cls) {v : Int32} (w : (Cond.constant own index v).before a0 Z = true) (hd : decode c.code pc = .ok (.ldc index, 2))  (hp : pc + 2 = pc') (g : OwnGo p e below s Q rc rs (T.setTop (mkF m pc' Ls (.int v :: st)))) : OwnGo p e below s Q rc rs (T.setTop (mkF m pc Ls st)) := by
  subst hp
  exact own_step (fun _ k => X.ldcInt hx hown (mvT hZ w) (g := mkF m pc Ls st) rfl hd _ k) g
theorem own_ldcJ (X : Stand p l e R s m args below meth c T locs cells slots) (hx : p.tables.exec = Jvm.exec) (hZ : Z.Warmed39 s.vm) (hown : s.vm.findClass own = some m.cls) {v : Int64} (w : (Cond.constantLong own index v).before a0 Z = true) (hd : decode c.code pc = .ok (.ldc2_w index, 3))  (hp : pc + 3 = pc') (g : OwnGo p e below s Q rc rs (T.setTop (mkF m pc' Ls (.long v :: st)))) : OwnGo p e below s Q rc rs (T.setTop (mkF m pc Ls st)) := by
  subst hp
  exact own_step (fun _ k => X.ldc2Long hx hown (mvT hZ w) (g := mkF m pc Ls st) rfl hd _ k) g
theorem own_goto (X : Stand p l e R s m args below meth c T locs cells slots) (hx : p.tables.exec = Jvm.exec) {o : Int} (hd : decode c.code pc = .ok (.goto o, 3)) (hp : (pc : Int) + o = (pc' : Int)) (g : OwnGo p e below s Q rc rs (T.setTop (mkF m pc' Ls st))) : OwnGo p e below s Q rc rs (T.setTop (mkF m pc Ls st)) :=
  own_step (fun _ k => XS.goto X.here hx rfl (pc0 := pc) rfl hd (by omega) (by omega) k) g
theorem own_icmp_lt (X : Stand p l e R s m args below meth c T locs cells slots) (hx : p.tables.exec = Jvm.exec) {x y : Int32} {o : Int} {pc1 pc2 : Nat} (hd : decode c.code pc = .ok (.if_icmp .lt o, 3)) (h1 : pc + 3 = pc1) (h2 : (pc : Int) + o = (pc2 : Int)) (gT : x < y → OwnGo p e below s Q rc rs (T.setTop (mkF m pc2 Ls st))) (gF : ¬ x < y → OwnGo p e below s Q rc rs (T.setTop (mkF m pc1 Ls st))) : OwnGo p e below s Q rc rs (T.setTop (mkF m pc Ls (.int y :: .int x :: st))) := by
  subst h1
  by_cases q : x < y
  · exact own_step (fun _ k => XS.icmpYes X.here hx rfl (pc0 := pc) rfl hd rfl (tlt q).1 (by omega) (by omega) k) (gT q)
  · exact own_step (fun _ k => XS.icmpNo X.here hx rfl hd rfl (flt q).1 k) (gF q)
theorem own_if_lt (X : Stand p l e R s m args below meth c T locs cells slots) (hx : p.tables.exec = Jvm.exec) {x : Int32} {o : Int} {pc1 pc2 : Nat} (hd : decode c.code pc = .ok (.ifCond .lt o, 3)) (h1 : pc + 3 = pc1) (h2 : (pc : Int) + o = (pc2 : Int)) (gT : x < 0 → OwnGo p e below s Q rc rs (T.setTop (mkF m pc2 Ls st))) (gF : ¬ x < 0 → OwnGo p e below s Q rc rs (T.setTop (mkF m pc1 Ls st))) : OwnGo p e below s Q rc rs (T.setTop (mkF m pc Ls (.int x :: st))) := by
  subst h1
  by_cases q : x < 0
  · exact own_step (fun _ k => XS.ifYes X.here hx rfl (pc0 := pc) rfl hd rfl ((if0 _ _).trans (tlt q).1) (by omega) (by omega) k) (gT q)
  · exact own_step (fun _ k => XS.ifNo X.here hx rfl hd rfl ((if0 _ _).trans (flt q).1) k) (gF q)
theorem own_icmp_ge (X : Stand p l e R s m args below meth c T locs cells slots) (hx : p.tables.exec = Jvm.exec) {x y : Int32} {o : Int} {pc1 pc2 : Nat} (hd : decode c.code pc = .ok (.if_icmp .ge o, 3)) (h1 : pc + 3 = pc1) (h2 : (pc : Int) + o = (pc2 : Int)) (gT : ¬ x < y → OwnGo p e below s Q rc rs (T.setTop (mkF m pc2 Ls st))) (gF : x < y → OwnGo p e below s Q rc rs (T.setTop (mkF m pc1 Ls st))) : OwnGo p e below s Q rc rs (T.setTop (mkF m pc Ls (.int y :: .int x :: st))) := by
  subst h1
  by_cases q : x < y
  · exact own_step (fun _ k => XS.icmpNo X.here hx rfl hd rfl (tlt q).2.1 k) (gF q)
  · exact own_step (fun _ k => XS.icmpYes X.here hx rfl (pc0 := pc) rfl hd rfl (flt q).2.1 (by omega) (by omega) k) (gT q)
theorem own_if_ge (X : Stand p l e R s m args below meth c T locs cells slots) (hx : p.tables.exec = Jvm.exec) {x : Int32} {o : Int} {pc1 pc2 : Nat} (hd : decode c.code pc = .ok (.ifCond .ge o, 3)) (h1 : pc + 3 = pc1) (h2 : (pc : Int) + o = (pc2 : Int)) (gT : ¬ x < 0 → OwnGo p e below s Q rc rs (T.setTop (mkF m pc2 Ls st))) (gF : x < 0 → OwnGo p e below s Q rc rs (T.setTop (mkF m pc1 Ls st))) : OwnGo p e below s Q rc rs (T.setTop (mkF m pc Ls (.int x :: st))) := by
  subst h1
  by_cases q : x < 0
  · exact own_step (fun _ k => XS.ifNo X.here hx rfl hd rfl ((if0 _ _).trans (tlt q).2.1) k) (gF q)
  · exact own_step (fun _ k => XS.ifYes X.here hx rfl (pc0 := pc) rfl hd rfl ((if0 _ _).trans (flt q).2.1) (by omega) (by omega) k) (gT q)
theorem own_icmp_gt (X : Stand p l e R s m args below meth c T locs cells slots) (hx : p.tables.exec = Jvm.exec) {x y : Int32} {o : Int} {pc1 pc2 : Nat} (hd : decode c.code pc = .ok (.if_icmp .gt o, 3)) (h1 : pc + 3 = pc1) (h2 : (pc : Int) + o = (pc2 : Int)) (gT : y < x → OwnGo p e below s Q rc rs (T.setTop (mkF m pc2 Ls st))) (gF : ¬ y < x → OwnGo p e below s Q rc rs (T.setTop (mkF m pc1 Ls st))) : OwnGo p e below s Q rc rs (T.setTop (mkF m pc Ls (.int y :: .int x :: st))) := by
  subst h1
  by_cases q : y < x
  · exact own_step (fun _ k => XS.icmpYes X.here hx rfl (pc0 := pc) rfl hd rfl (tlt q).2.2.1 (by omega) (by omega) k) (gT q)
  · exact own_step (fun _ k => XS.icmpNo X.here hx rfl hd rfl (flt q).2.2.1 k) (gF q)
theorem own_if_gt (X : Stand p l e R s m args below meth c T locs cells slots) (hx : p.tables.exec = Jvm.exec) {x : Int32} {o : Int} {pc1 pc2 : Nat} (hd : decode c.code pc = .ok (.ifCond .gt o, 3)) (h1 : pc + 3 = pc1) (h2 : (pc : Int) + o = (pc2 : Int)) (gT : 0 < x → OwnGo p e below s Q rc rs (T.setTop (mkF m pc2 Ls st))) (gF : ¬ 0 < x → OwnGo p e below s Q rc rs (T.setTop (mkF m pc1 Ls st))) : OwnGo p e below s Q rc rs (T.setTop (mkF m pc Ls (.int x :: st))) := by
  subst h1
  by_cases q : 0 < x
  · exact own_step (fun _ k => XS.ifYes X.here hx rfl (pc0 := pc) rfl hd rfl ((if0 _ _).trans (tlt q).2.2.1) (by omega) (by omega) k) (gT q)
  · exact own_step (fun _ k => XS.ifNo X.here hx rfl hd rfl ((if0 _ _).trans (flt q).2.2.1) k) (gF q)
theorem own_icmp_le (X : Stand p l e R s m args below meth c T locs cells slots) (hx : p.tables.exec = Jvm.exec) {x y : Int32} {o : Int} {pc1 pc2 : Nat} (hd : decode c.code pc = .ok (.if_icmp .le o, 3)) (h1 : pc + 3 = pc1) (h2 : (pc : Int) + o = (pc2 : Int)) (gT : ¬ y < x → OwnGo p e below s Q rc rs (T.setTop (mkF m pc2 Ls st))) (gF : y < x → OwnGo p e below s Q rc rs (T.setTop (mkF m pc1 Ls st))) : OwnGo p e below s Q rc rs (T.setTop (mkF m pc Ls (.int y :: .int x :: st))) := by
  subst h1
  by_cases q : y < x
  · exact own_step (fun _ k => XS.icmpNo X.here hx rfl hd rfl (tlt q).2.2.2 k) (gF q)
  · exact own_step (fun _ k => XS.icmpYes X.here hx rfl (pc0 := pc) rfl hd rfl (flt q).2.2.2 (by omega) (by omega) k) (gT q)
theorem own_if_le (X : Stand p l e R s m args below meth c T locs cells slots) (hx : p.tables.exec = Jvm.exec) {x : Int32} {o : Int} {pc1 pc2 : Nat} (hd : decode c.code pc = .ok (.ifCond .le o, 3)) (h1 : pc + 3 = pc1) (h2 : (pc : Int) + o = (pc2 : Int)) (gT : ¬ 0 < x → OwnGo p e below s Q rc rs (T.setTop (mkF m pc2 Ls st))) (gF : 0 < x → OwnGo p e below s Q rc rs (T.setTop (mkF m pc1 Ls st))) : OwnGo p e below s Q rc rs (T.setTop (mkF m pc Ls (.int x :: st))) := by
  subst h1
  by_cases q : 0 < x
  · exact own_step (fun _ k => XS.ifNo X.here hx rfl hd rfl ((if0 _ _).trans (tlt q).2.2.2) k) (gF q)
  · exact own_step (fun _ k => XS.ifYes X.here hx rfl (pc0 := pc) rfl hd rfl ((if0 _ _).trans (flt q).2.2.2) (by omega) (by omega) k) (gT q)
theorem own_icmp_eq (X : Stand p l e R s m args below meth c T locs cells slots) (hx : p.tables.exec = Jvm.exec) {x y : Int32} {o : Int} {pc1 pc2 : Nat} (hd : decode c.code pc = .ok (.if_icmp .eq o, 3)) (h1 : pc + 3 = pc1) (h2 : (pc : Int) + o = (pc2 : Int)) (gT : x = y → OwnGo p e below s Q rc rs (T.setTop (mkF m pc2 Ls st))) (gF : ¬ x = y → OwnGo p e below s Q rc rs (T.setTop (mkF m pc1 Ls st))) : OwnGo p e below s Q rc rs (T.setTop (mkF m pc Ls (.int y :: .int x :: st))) := by
  subst h1
  by_cases q : x = y
  · exact own_step (fun _ k => XS.icmpYes X.here hx rfl (pc0 := pc) rfl hd rfl (teq q).1 (by omega) (by omega) k) (gT q)
  · exact own_step (fun _ k => XS.icmpNo X.here hx rfl hd rfl (feq q).1 k) (gF q)
theorem own_if_eq (X : Stand p l e R s m args below meth c T locs cells slots) (hx : p.tables.exec = Jvm.exec) {x : Int32} {o : Int} {pc1 pc2 : Nat} (hd : decode c.code pc = .ok (.ifCond .eq o, 3)) (h1 : pc + 3 = pc1) (h2 : (pc : Int) + o = (pc2 : Int)) (gT : x = 0 → OwnGo p e below s Q rc rs (T.setTop (mkF m pc2 Ls st))) (gF : ¬ x = 0 → OwnGo p e below s Q rc rs (T.setTop (mkF m pc1 Ls st))) : OwnGo p e below s Q rc rs (T.setTop (mkF m pc Ls (.int x :: st))) := by
  subst h1
  by_cases q : x = 0
  · exact own_step (fun _ k => XS.ifYes X.here hx rfl (pc0 := pc) rfl hd rfl ((if0 _ _).trans (teq q).1) (by omega) (by omega) k) (gT q)
  · exact own_step (fun _ k => XS.ifNo X.here hx rfl hd rfl ((if0 _ _).trans (feq q).1) k) (gF q)
theorem own_icmp_ne (X : Stand p l e R s m args below meth c T locs cells slots) (hx : p.tables.exec = Jvm.exec) {x y : Int32} {o : Int} {pc1 pc2 : Nat} (hd : decode c.code pc = .ok (.if_icmp .ne o, 3)) (h1 : pc + 3 = pc1) (h2 : (pc : Int) + o = (pc2 : Int)) (gT : ¬ x = y → OwnGo p e below s Q rc rs (T.setTop (mkF m pc2 Ls st))) (gF : x = y → OwnGo p e below s Q rc rs (T.setTop (mkF m pc1 Ls st))) : OwnGo p e below s Q rc rs (T.setTop (mkF m pc Ls (.int y :: .int x :: st))) := by
  subst h1
  by_cases q : x = y
  · exact own_step (fun _ k => XS.icmpNo X.here hx rfl hd rfl (teq q).2 k) (gF q)
  · exact own_step (fun _ k => XS.icmpYes X.here hx rfl (pc0 := pc) rfl hd rfl (feq q).2 (by omega) (by omega) k) (gT q)
theorem own_if_ne (X : Stand p l e R s m args below meth c T locs cells slots) (hx : p.tables.exec = Jvm.exec) {x : Int32} {o : Int} {pc1 pc2 : Nat} (hd : decode c.code pc = .ok (.ifCond .ne o, 3)) (h1 : pc + 3 = pc1) (h2 : (pc : Int) + o = (pc2 : Int)) (gT : ¬ x = 0 → OwnGo p e below s Q rc rs (T.setTop (mkF m pc2 Ls st))) (gF : x = 0 → OwnGo p e below s Q rc rs (T.setTop (mkF m pc1 Ls st))) : OwnGo p e below s Q rc rs (T.setTop (mkF m pc Ls (.int x :: st))) := by
  subst h1
  by_cases q : x = 0
  · exact own_step (fun _ k => XS.ifNo X.here hx rfl hd rfl ((if0 _ _).trans (teq q).2) k) (gF q)
  · exact own_step (fun _ k => XS.ifYes X.here hx rfl (pc0 := pc) rfl hd rfl ((if0 _ _).trans (feq q).2) (by omega) (by omega) k) (gT q)
theorem own_ifnullY (X : Stand p l e R s m args below meth c T locs cells slots) (hx : p.tables.exec = Jvm.exec) {o : Int} {pc2 : Nat} (hd : decode c.code pc = .ok (.ifnull o, 3)) (h2 : (pc : Int) + o = (pc2 : Int)) (g : OwnGo p e below s Q rc rs (T.setTop (mkF m pc2 Ls st))) : OwnGo p e below s Q rc rs (T.setTop (mkF m pc Ls (.null :: st))) :=
  own_step (fun _ k => XS.ifnullYes X.here hx rfl (pc0 := pc) rfl hd rfl (by omega) (by omega) k) g
theorem own_ifnullN (X : Stand p l e R s m args below meth c T locs cells slots) (hx : p.tables.exec = Jvm.exec) {o : Int} {b : Addr} (hd : decode c.code pc = .ok (.ifnull o, 3))  (hp : pc + 3 = pc') (g : OwnGo p e below s Q rc rs (T.setTop (mkF m pc' Ls st))) : OwnGo p e below s Q rc rs (T.setTop (mkF m pc Ls (.ref b :: st))) := by
  subst hp
  exact own_step (fun _ k => XS.ifnullNo X.here hx rfl hd rfl k) g
theorem own_retI (X : Stand p l e R s m args below meth c T locs cells slots) (hx : p.tables.exec = Jvm.exec) (eT : T.heap = h) {z : Int32} (hret : meth.sig.returnType = some .int) (hlk : meth.locks = false) (hc : cells ≤ rc) (hs : slots ≤ rs) (hd : decode c.code pc = .ok (.ireturn, 1)) (hQ : Q (some (.int z)) h locs) : OwnGo p e below s Q rc rs (T.setTop (mkF m pc Ls (.int z :: st))) := by
  subst eT
  obtain ⟨fs, hr, hrun, hended, hW, hsame⟩ := X.leave (v := some (.int z)) (fun h => by rw [hret] at h; cases h) hlk
  exact ⟨_, _, retOut X hx hret rfl (Or.inl ⟨rfl, Or.inl rfl, _, rfl⟩) hd hr, hrun, hended, _, _, rfl, hQ, ⟨_, rfl⟩, hW, hsame.mono hc hs⟩
theorem own_retZ (X : Stand p l e R s m args below meth c T locs cells slots) (hx : p.tables.exec = Jvm.exec) (eT : T.heap = h) {z : Int32} (hret : meth.sig.returnType = some .boolean) (hlk : meth.locks = false) (hc : cells ≤ rc) (hs : slots ≤ rs) (hd : decode c.code pc = .ok (.ireturn, 1)) (hQ : Q (some (.int (nar .boolean z))) h locs) : OwnGo p e below s Q rc rs (T.setTop (mkF m pc Ls (.int z :: st))) := by
  subst eT
  obtain ⟨fs, hr, hrun, hended, hW, hsame⟩ := X.leave (v := some (.int (nar .boolean z))) (fun h => by rw [hret] at h; cases h) hlk
  exact ⟨_, _, retN X hx (t := .boolean) hret (by simp) hd hr, hrun, hended, _, _, rfl, hQ, ⟨_, rfl⟩, hW, hsame.mono hc hs⟩
theorem own_retJ (X : Stand p l e R s m args below meth c T locs cells slots) (hx : p.tables.exec = Jvm.exec) (eT : T.heap = h) {z : Int64} (hret : meth.sig.returnType = some .long) (hlk : meth.locks = false) (hc : cells ≤ rc) (hs : slots ≤ rs) (hd : decode c.code pc = .ok (.lreturn, 1)) (hQ : Q (some (.long z)) h locs) : OwnGo p e below s Q rc rs (T.setTop (mkF m pc Ls (.long z :: st))) := by
  subst eT
  obtain ⟨fs, hr, hrun, hended, hW, hsame⟩ := X.leave (v := some (.long z)) (fun h => by rw [hret] at h; cases h) hlk
  exact ⟨_, _, retOut X hx hret rfl (Or.inr (Or.inl ⟨rfl, rfl, _, rfl⟩)) hd hr, hrun, hended, _, _, rfl, hQ, ⟨_, rfl⟩, hW, hsame.mono hc hs⟩
theorem own_retA (X : Stand p l e R s m args below meth c T locs cells slots) (hx : p.tables.exec = Jvm.exec) (eT : T.heap = h) {z : Addr} {t : FieldType} (ht : t.isReference = true) (hret : meth.sig.returnType = some t) (hlk : meth.locks = false) (hc : cells ≤ rc) (hs : slots ≤ rs) (hd : decode c.code pc = .ok (.areturn, 1)) (hQ : Q (some (.ref z)) h locs) : OwnGo p e below s Q rc rs (T.setTop (mkF m pc Ls (.ref z :: st))) := by
  subst eT
  obtain ⟨fs, hr, hrun, hended, hW, hsame⟩ := X.leave (v := some (.ref z)) (fun h => by rw [hret] at h; cases h) hlk
  exact ⟨_, _, retOut X hx hret (by cases t <;> first | rfl | cases ht) (Or.inr (Or.inr (Or.inr (Or.inr ⟨rfl, ht, rfl⟩)))) hd hr, hrun, hended, _, _, rfl, hQ, ⟨_, rfl⟩, hW, hsame.mono hc hs⟩
theorem own_retV (X : Stand p l e R s m args below meth c T locs cells slots) (hx : p.tables.exec = Jvm.exec) (eT : T.heap = h)  (hret : meth.sig.returnType = none) (hlk : meth.locks = false) (hc : cells ≤ rc) (hs : slots ≤ rs) (hd : decode c.code pc = .ok (.return_, 1)) (hQ : Q (none) h locs) : OwnGo p e below s Q rc rs (T.setTop (mkF m pc Ls [])) := by
  subst eT
  obtain ⟨fs, hr, hrun, hended, hW, hsame⟩ := X.leave (v := none) (fun _ => rfl) hlk
  exact ⟨_, _, X.returnOut hx hret hd hr, hrun, hended, _, _, rfl, hQ, ⟨_, rfl⟩, hW, hsame.mono hc hs⟩
theorem own_getF (X : Stand p l e R s m args below meth c T locs cells slots) (hx : p.tables.exec = Jvm.exec) (hZ : Z.Warmed39 s.vm) (hown : s.vm.findClass own = some m.cls) {n d O : String} (w : (Cond.fieldLink own index O n d).before a0 Z = true) (eT : T.heap = h) {a : Addr} {v : Value} (F : Fld Z h a O n d v) (hd : decode c.code pc = .ok (.getfield index, 3))  (hp : pc + 3 = pc')
    (g : ∀ T', Stand p l e R s m args below meth c T' locs cells slots → T'.heap = h → OwnGo p e below s Q rc rs (T'.setTop (mkF m pc' Ls (v :: st)))) : OwnGo p e below s Q rc rs (T.setTop (mkF m pc Ls (.ref a :: st))) := by
  subst hp
  obtain ⟨T', X', e', k⟩ := getF X hx hZ hown (host := "") (Or.inl w) Via.refl eT F (g := mkF m pc Ls (.ref a :: st)) rfl rfl hd
  exact own_step k (g T' X' e')
theorem own_putF (X : Stand p l e R s m args below meth c T locs cells slots) (hx : p.tables.exec = Jvm.exec) (hZ : Z.Warmed39 s.vm) (hown : s.vm.findClass own = some m.cls) {n d O C : String} {kk : Nat} {ty : FieldType} (w : (Cond.fieldLink own index O n d).before a0 Z = true) (eT : T.heap = h) {a : Addr} {v v' old : Value} (F : Fld Z h a O n d old) (E : Exa Z h a C) (L : (Cond.lays C O n d).before a0 Z = true ∨ ((Cond.laysFinal C O n d).before a0 Z = true ∧ own = O ∧ meth.name = "<init>")) (wi : (Cond.instantiable C kk).before a0 Z = true) (hty : parseFieldDescriptor d = some ty) (hn : narrow ty v = v') (hf : fits ty v' = true) (hd : decode c.code pc = .ok (.putfield index, 3))  (hp : pc + 3 = pc')
    (g : ∀ T' h', Stand p l e R s m args below meth c T' (locs ++ [⟨a, Jvm.RoadKit.slotOf Z O n d⟩]) cells slots → T'.heap = h' → Wr h h' a (Jvm.RoadKit.slotOf Z O n d) v' → OwnGo p e below s Q rc rs (T'.setTop (mkF m pc' Ls st))) : OwnGo p e below s Q rc rs (T.setTop (mkF m pc Ls (v :: .ref a :: st))) := by
  subst hp
  obtain ⟨T', h', X', e', W, k⟩ := putFN X hx hZ hown w Via.refl eT F E L wi hty hn hf (g := mkF m pc Ls (v :: .ref a :: st)) rfl rfl hd
  exact own_step k (g T' h' X' e' W)
theorem own_newO (X : Stand p l e R s m args below meth c T locs cells slots) (hx : p.tables.exec = Jvm.exec) (hZ : Z.Warmed39 s.vm) (hown : s.vm.findClass own = some m.cls) {C : String} {n : Nat} (w : (Cond.classLink own index C).before a0 Z = true) (wi : (Cond.instantiable C n).before a0 Z = true) (wz : (Cond.initialized C).before a0 Z = true) (eT : T.heap = h) (hc : cells + 1 ≤ R.cells) (hl : slots + n ≤ R.slots) (hd : decode c.code pc = .ok (.new index, 3))  (hp : pc + 3 = pc')
    (g : ∀ T' h' b, b = h.size → Stand p l e R s m args below meth c T' locs (cells + 1) (slots + n) → T'.heap = h' → Ext h h' → Exa Z h' b C → (∀ {O nm d : String} {ty : FieldType}, Laid Z a0 C O nm d → parseFieldDescriptor d = some ty → Fld Z h' b O nm d (defaultValue ty)) → OwnGo p e below s Q rc rs (T'.setTop (mkF m pc' Ls (.ref b :: st)))) : OwnGo p e below s Q rc rs (T.setTop (mkF m pc Ls st)) := by
  subst hp
  obtain ⟨T', h', X', e', E', A', D', -, k⟩ := newO X hx hZ hown w wi wz eT (g := mkF m pc Ls st) rfl hd hc hl
  exact own_step k (g T' h' _ rfl X' e' E' A' (fun {_ _ _ _} => D'))
theorem own_newP (X : Stand p l e R s m args below meth c T locs cells slots) (hx : p.tables.exec = Jvm.exec) (hZ : Z.Warmed39 s.vm) {aty : ArrayType} (w : (Cond.arrayClass (newarray.typeOf aty)).before a0 Z = true) (eT : T.heap = h) {n : Int32} (hn : ¬ n < 0) {cap : Nat} (hcap : n.toNatClampNeg ≤ cap) (hb : cap * 8 ≤ 536870912) (hc : cells + 1 ≤ R.cells) (hl : slots + cap ≤ R.slots) {ad : String} (had : "[" ++ (newarray.typeOf aty).toString = ad) (hd : decode c.code pc = .ok (.newarray aty, 2))  (hp : pc + 2 = pc')
    (g : ∀ T' h' b k, b = h.size → Stand p l e R s m args below meth c T' locs (cells + 1) (slots + cap) → T'.heap = h' → Ext h h' → Arr Z h' b (newA k (newarray.typeOf aty) n) (newarray.typeOf aty) → Exa Z h' b ad → OwnGo p e below s Q rc rs (T'.setTop (mkF m pc' Ls (.ref b :: st)))) : OwnGo p e below s Q rc rs (T.setTop (mkF m pc Ls (.int n :: st))) := by
  subst hp
  obtain ⟨T', h', k', X', e', E', A', B', k⟩ := newPE X hx hZ w eT (g := mkF m pc Ls (.int n :: st)) rfl hd rfl hn hcap hb hc hl had
  exact own_step k (g T' h' _ k' rfl X' e' E' A' B')
theorem own_newR (X : Stand p l e R s m args below meth c T locs cells slots) (hx : p.tables.exec = Jvm.exec) (hZ : Z.Warmed39 s.vm) (hown : s.vm.findClass own = some m.cls) {C : String} (w1 : (Cond.classLink own index C).before a0 Z = true) (w2 : (Cond.arrayOver (.object C)).before a0 Z = true) (eT : T.heap = h) {n : Int32} (hn : ¬ n < 0) {cap : Nat} (hcap : n.toNatClampNeg ≤ cap) (hb : cap * 8 ≤ 536870912) (hc : cells + 1 ≤ R.cells) (hl : slots + cap ≤ R.slots) (hd : decode c.code pc = .ok (.anewarray index, 3))  (hp : pc + 3 = pc')
    (g : ∀ T' h' b, b = h.size → Stand p l e R s m args below meth c T' locs (cells + 1) (slots + cap) → T'.heap = h' → Ext h h' → OwnGo p e below s Q rc rs (T'.setTop (mkF m pc' Ls (.ref b :: st)))) : OwnGo p e below s Q rc rs (T.setTop (mkF m pc Ls (.int n :: st))) := by
  subst hp
  obtain ⟨T', h', k', X', e', E', A', -, k⟩ := newR X hx hZ hown w1 w2 eT (g := mkF m pc Ls (.int n :: st)) rfl hd rfl hn hcap hb hc hl
  exact own_step k (g T' h' _ rfl X' e' E')
theorem own_iastore (X : Stand p l e R s m args below meth c T locs cells slots) (hx : p.tables.exec = Jvm.exec) (hZ : Z.Warmed39 s.vm) (eT : T.heap = h) {a : Addr} {cl : Cell} (A : Arr Z h a cl .int) {j : Int32} {x : Int32} (hj : ¬ (j < 0 ∨ cl.slots.size ≤ j.toNatClampNeg)) (hd : decode c.code pc = .ok (.iastore, 1))  (hp : pc + 1 = pc')
    (g : ∀ T' h', Stand p l e R s m args below meth c T' (locs ++ [⟨a, j.toNatClampNeg⟩]) cells slots → T'.heap = h' → Wr h h' a j.toNatClampNeg (.int x) → OwnGo p e below s Q rc rs (T'.setTop (mkF m pc' Ls st))) : OwnGo p e below s Q rc rs (T.setTop (mkF m pc Ls (.int x :: .int j :: .ref a :: st))) := by
  subst hp
  obtain ⟨T', h', X', e', W, k⟩ := stI X hx hZ eT A hj (g := mkF m pc Ls (.int x :: .int j :: .ref a :: st)) rfl rfl hd
  exact own_step k (g T' h' X' e' W)
theorem own_castore (X : Stand p l e R s m args below meth c T locs cells slots) (hx : p.tables.exec = Jvm.exec) (hZ : Z.Warmed39 s.vm) (eT : T.heap = h) {a : Addr} {cl : Cell} (A : Arr Z h a cl .char) {j : Int32} {x : Int32} (hj : ¬ (j < 0 ∨ cl.slots.size ≤ j.toNatClampNeg)) (hd : decode c.code pc = .ok (.castore, 1))  (hp : pc + 1 = pc')
    (g : ∀ T' h', Stand p l e R s m args below meth c T' (locs ++ [⟨a, j.toNatClampNeg⟩]) cells slots → T'.heap = h' → Wr h h' a j.toNatClampNeg (.int (nar .char x)) → OwnGo p e below s Q rc rs (T'.setTop (mkF m pc' Ls st))) : OwnGo p e below s Q rc rs (T.setTop (mkF m pc Ls (.int x :: .int j :: .ref a :: st))) := by
  subst hp
  obtain ⟨T', h', X', e', W, k⟩ := stC X hx hZ eT A hj (g := mkF m pc Ls (.int x :: .int j :: .ref a :: st)) rfl rfl hd
  exact own_step k (g T' h' X' e' W)
theorem own_bastore (X : Stand p l e R s m args below meth c T locs cells slots) (hx : p.tables.exec = Jvm.exec) (hZ : Z.Warmed39 s.vm) (eT : T.heap = h) {a : Addr} {cl : Cell} (A : Arr Z h a cl .byte) {j : Int32} {x : Int32} (hj : ¬ (j < 0 ∨ cl.slots.size ≤ j.toNatClampNeg)) (hd : decode c.code pc = .ok (.bastore, 1))  (hp : pc + 1 = pc')
    (g : ∀ T' h', Stand p l e R s m args below meth c T' (locs ++ [⟨a, j.toNatClampNeg⟩]) cells slots → T'.heap = h' → Wr h h' a j.toNatClampNeg (.int (nar .byte x)) → OwnGo p e below s Q rc rs (T'.setTop (mkF m pc' Ls st))) : OwnGo p e below s Q rc rs (T.setTop (mkF m pc Ls (.int x :: .int j :: .ref a :: st))) := by
  subst hp
  obtain ⟨T', h', X', e', W, k⟩ := stB X hx hZ eT A hj (g := mkF m pc Ls (.int x :: .int j :: .ref a :: st)) rfl rfl hd
  exact own_step k (g T' h' X' e' W)
theorem own_zastore (X : Stand p l e R s m args below meth c T locs cells slots) (hx : p.tables.exec = Jvm.exec) (hZ : Z.Warmed39 s.vm) (eT : T.heap = h) {a : Addr} {cl : Cell} (A : Arr Z h a cl .boolean) {j : Int32} {x : Int32} (hj : ¬ (j < 0 ∨ cl.slots.size ≤ j.toNatClampNeg)) (hd : decode c.code pc = .ok (.bastore, 1))  (hp : pc + 1 = pc')
    (g : ∀ T' h', Stand p l e R s m args below meth c T' (locs ++ [⟨a, j.toNatClampNeg⟩]) cells slots → T'.heap = h' → Wr h h' a j.toNatClampNeg (.int (nar .boolean x)) → OwnGo p e below s Q rc rs (T'.setTop (mkF m pc' Ls st))) : OwnGo p e below s Q rc rs (T.setTop (mkF m pc Ls (.int x :: .int j :: .ref a :: st))) := by
  subst hp
  obtain ⟨T', h', X', e', W, k⟩ := stZ X hx hZ eT A hj (g := mkF m pc Ls (.int x :: .int j :: .ref a :: st)) rfl rfl hd
  exact own_step k (g T' h' X' e' W)
theorem own_lastore (X : Stand p l e R s m args below meth c T locs cells slots) (hx : p.tables.exec = Jvm.exec) (hZ : Z.Warmed39 s.vm) (eT : T.heap = h) {a : Addr} {cl : Cell} (A : Arr Z h a cl .long) {j : Int32} {x : Int64} (hj : ¬ (j < 0 ∨ cl.slots.size ≤ j.toNatClampNeg)) (hd : decode c.code pc = .ok (.lastore, 1))  (hp : pc + 1 = pc')
    (g : ∀ T' h', Stand p l e R s m args below meth c T' (locs ++ [⟨a, j.toNatClampNeg⟩]) cells slots → T'.heap = h' → Wr h h' a j.toNatClampNeg (.long x) → OwnGo p e below s Q rc rs (T'.setTop (mkF m pc' Ls st))) : OwnGo p e below s Q rc rs (T.setTop (mkF m pc Ls (.long x :: .int j :: .ref a :: st))) := by
  subst hp
  obtain ⟨T', h', X', e', W, k⟩ := stJ X hx hZ eT A hj (g := mkF m pc Ls (.long x :: .int j :: .ref a :: st)) rfl rfl hd
  exact own_step k (g T' h' X' e' W)
theorem own_iaload (X : Stand p l e R s m args below meth c T locs cells slots) (hx : p.tables.exec = Jvm.exec) (hZ : Z.Warmed39 s.vm) (eT : T.heap = h) {a : Addr} {cl : Cell} {v : Value} (A : Arr Z h a cl .int) {j : Int32} (hj : ¬ (j < 0 ∨ cl.slots.size ≤ j.toNatClampNeg)) (hv : cl.slots[j.toNatClampNeg]? = some v) (hd : decode c.code pc = .ok (.iaload, 1))  (hp : pc + 1 = pc') (g : OwnGo p e below s Q rc rs (T.setTop (mkF m pc' Ls (v :: st)))) : OwnGo p e below s Q rc rs (T.setTop (mkF m pc Ls (.int j :: .ref a :: st))) := by
  subst hp
  exact own_step (fun _ k => X.iaload hx (j := j) (v := v) (by rw [eT]; exact A.1) (State.isArrayOf_alike hZ.alike A.2.1) A.2.2 hj hv (g := mkF m pc Ls (.int j :: .ref a :: st)) rfl rfl hd _ k) g
theorem own_caload (X : Stand p l e R s m args below meth c T locs cells slots) (hx : p.tables.exec = Jvm.exec) (hZ : Z.Warmed39 s.vm) (eT : T.heap = h) {a : Addr} {cl : Cell} {v : Value} (A : Arr Z h a cl .char) {j : Int32} (hj : ¬ (j < 0 ∨ cl.slots.size ≤ j.toNatClampNeg)) (hv : cl.slots[j.toNatClampNeg]? = some v) (hd : decode c.code pc = .ok (.caload, 1))  (hp : pc + 1 = pc') (g : OwnGo p e below s Q rc rs (T.setTop (mkF m pc' Ls (v :: st)))) : OwnGo p e below s Q rc rs (T.setTop (mkF m pc Ls (.int j :: .ref a :: st))) := by
  subst hp
  exact own_step (fun _ k => X.caload hx (j := j) (v := v) (by rw [eT]; exact A.1) (State.isArrayOf_alike hZ.alike A.2.1) A.2.2 hj hv (g := mkF m pc Ls (.int j :: .ref a :: st)) rfl rfl hd _ k) g
theorem own_laload (X : Stand p l e R s m args below meth c T locs cells slots) (hx : p.tables.exec = Jvm.exec) (hZ : Z.Warmed39 s.vm) (eT : T.heap = h) {a : Addr} {cl : Cell} {v : Value} (A : Arr Z h a cl .long) {j : Int32} (hj : ¬ (j < 0 ∨ cl.slots.size ≤ j.toNatClampNeg)) (hv : cl.slots[j.toNatClampNeg]? = some v) (hd : decode c.code pc = .ok (.laload, 1))  (hp : pc + 1 = pc') (g : OwnGo p e below s Q rc rs (T.setTop (mkF m pc' Ls (v :: st)))) : OwnGo p e below s Q rc rs (T.setTop (mkF m pc Ls (.int j :: .ref a :: st))) := by
  subst hp
  exact own_step (fun _ k => X.laload hx (j := j) (v := v) (by rw [eT]; exact A.1) (State.isArrayOf_alike hZ.alike A.2.1) A.2.2 hj hv (g := mkF m pc Ls (.int j :: .ref a :: st)) rfl rfl hd _ k) g
theorem own_baload (X : Stand p l e R s m args below meth c T locs cells slots) (hx : p.tables.exec = Jvm.exec) (hZ : Z.Warmed39 s.vm) (eT : T.heap = h) {a : Addr} {cl : Cell} {v : Value} (A : Arr Z h a cl .byte) {j : Int32} (hj : ¬ (j < 0 ∨ cl.slots.size ≤ j.toNatClampNeg)) (hv : cl.slots[j.toNatClampNeg]? = some v) (hd : decode c.code pc = .ok (.baload, 1))  (hp : pc + 1 = pc') (g : OwnGo p e below s Q rc rs (T.setTop (mkF m pc' Ls (v :: st)))) : OwnGo p e below s Q rc rs (T.setTop (mkF m pc Ls (.int j :: .ref a :: st))) := by
  subst hp
  exact own_step (fun _ k => X.baloadBytes hx (j := j) (v := v) (by rw [eT]; exact A.1) (State.isArrayOf_alike hZ.alike A.2.1) A.2.2 hj hv (g := mkF m pc Ls (.int j :: .ref a :: st)) rfl rfl hd _ k) g
theorem own_zaload (X : Stand p l e R s m args below meth c T locs cells slots) (hx : p.tables.exec = Jvm.exec) (hZ : Z.Warmed39 s.vm) (eT : T.heap = h) {a : Addr} {cl : Cell} {v : Value} (A : Arr Z h a cl .boolean) {j : Int32} (hj : ¬ (j < 0 ∨ cl.slots.size ≤ j.toNatClampNeg)) (hv : cl.slots[j.toNatClampNeg]? = some v) (hd : decode c.code pc = .ok (.baload, 1))  (hp : pc + 1 = pc') (g : OwnGo p e below s Q rc rs (T.setTop (mkF m pc' Ls (v :: st)))) : OwnGo p e below s Q rc rs (T.setTop (mkF m pc Ls (.int j :: .ref a :: st))) := by
  subst hp
  exact own_step (fun _ k => X.baloadBooleans hx (j := j) (v := v) (by rw [eT]; exact A.1) (State.isArrayOf_alike hZ.alike A.2.1) A.2.2 hj hv (g := mkF m pc Ls (.int j :: .ref a :: st)) rfl rfl hd _ k) g
theorem own_arraylength (X : Stand p l e R s m args below meth c T locs cells slots) (hx : p.tables.exec = Jvm.exec) (hZ : Z.Warmed39 s.vm) (eT : T.heap = h) {a : Addr} {cl : Cell} {ty : FieldType} {z : Int32} (A : Arr Z h a cl ty) (hz : cl.slots.size.toInt32 = z) (hd : decode c.code pc = .ok (.arraylength, 1))  (hp : pc + 1 = pc') (g : OwnGo p e below s Q rc rs (T.setTop (mkF m pc' Ls (.int z :: st)))) : OwnGo p e below s Q rc rs (T.setTop (mkF m pc Ls (.ref a :: st))) := by
  subst hp hz
  exact own_step (fun _ k => X.arraylength hx (by rw [eT]; exact A.1) (State.isArrayOf_alike hZ.alike A.2.1) (g := mkF m pc Ls (.ref a :: st)) rfl rfl hd _ k) g
/-- the contract of a body: called with as' at a heap h, it ends as Q says -/
def OwnMet (l : Launch) (Z : State) (y : MethodName) (bytes : ByteArray) (maxL : Nat) (ret : Option FieldType) (as' : Array Value) (rm : Room) (Q : Option Value → Heap → List Loc → Prop) (h : Heap) : Prop := MetFree l y (head1 [Jvm.Cond.code y bytes maxL ret] rm) (fun a U => a = as' ∧ Z.Warmed39 U.vm ∧ U.heap = h) (fun _ _ _ _ _ => True) (fun _ U o U' => ∃ v L, o = .returned v ∧ Q v U'.heap L ∧ FrameEnd U o U' L rm.cells rm.slots)
theorem own_callS (X : Stand p l e R s m args below meth c T locs cells slots) (hx : p.tables.exec = Jvm.exec) (hZ : Z.Warmed39 s.vm) (hown : s.vm.findClass own = some m.cls) {y : MethodName} {bytes : ByteArray} {maxL : Nat} {ret : Option FieldType} {rm : Room} {argsL : List Value} {Qc : Option Value → Heap → List Loc → Prop} {W : Nat} {stk : List Value} (w1 : (Cond.methodLink own index y).before a0 Z = true) (w2 : (Cond.static y).before a0 Z = true) (w3 : (Cond.initialized y.cls).before a0 Z = true) (w4 : (Jvm.Cond.code y bytes maxL ret).before a0 Z = true) (eT : T.heap = h) (hM : OwnMet l Z y bytes maxL ret argsL.toArray rm Qc h) (hd : decode c.code pc = .ok (.invokestatic index, 3)) (hst : stk = argsL.reverse ++ st) (hlen : ∀ sig, parseMethodDescriptor y.desc = some sig → argsL.length = sig.parameters.length) (hsz : Ls.size = c.maxLocals) (hf : rm.frames + 1 ≤ R.frames) (hl : W + (maxL + 11) + rm.locals ≤ R.locals) (hc : cells + rm.cells ≤ R.cells) (hsl : slots + rm.slots ≤ R.slots) (hW : (st.map fun v => v.category).sum ≤ W) (hy : y.cls ≠ "java/lang/invoke/MethodHandle" ∧ y.cls ≠ "java/lang/invoke/VarHandle") (hp : pc + 3 = pc')
    (g : ∀ T' v L, Stand p l e R s m args below meth c T' (locs ++ L) (cells + rm.cells) (slots + rm.slots) → Qc v T'.heap L → OwnGo p e below s Q rc rs (T'.setTop (mkF m pc' Ls (v.toList ++ st)))) : OwnGo p e below s Q rc rs (T.setTop (mkF m pc Ls stk)) := by
  subst hp
  obtain ⟨v, vm1, ⟨T', L', k', n'⟩, -, X', ⟨Lc, hQ, l1, y1, z1⟩, k⟩ := Jvm.LawKit.callS X hx hown (mvT hZ w1) (mvT hZ w2) (mvT hZ w3) (mvT hZ w4) hy (backOf (Q := Qc) (W := W) hM hZ w4 w3 hf hl) (g := mkF m pc Ls stk) rfl hsz (argsL := argsL) (rest := st) hlen hst (by show 2 * 0 + _ ≤ _; omega) hd (fun _ _ => ⟨rfl, eT, hc, hsl⟩)
  exact by
    dsimp only [Pt.U, Pt.locs, Pt.cells, Pt.slots] at X' l1 y1 z1 k hQ
    subst l1 y1 z1
    exact own_step k (g T' v Lc X' hQ)
theorem own_callC (X : Stand p l e R s m args below meth c T locs cells slots) (hx : p.tables.exec = Jvm.exec) (hZ : Z.Warmed39 s.vm) (hown : s.vm.findClass own = some m.cls) {y : MethodName} {bytes : ByteArray} {maxL : Nat} {rm : Room} {argsL : List Value} {Qc : Option Value → Heap → List Loc → Prop} {W : Nat} {stk : List Value} {a : Addr} (hi : y.name = "<init>") (w1 : (Cond.methodLink own index y).before a0 Z = true) (w2 : (Cond.instanceMethod y).before a0 Z = true) (w3 : (Cond.initialized y.cls).before a0 Z = true) (w4 : (Jvm.Cond.code y bytes maxL none).before a0 Z = true) (eT : T.heap = h) (hM : OwnMet l Z y bytes maxL none (.ref a :: argsL).toArray rm Qc h) (hd : decode c.code pc = .ok (.invokespecial index, 3)) (hst : stk = argsL.reverse ++ .ref a :: st) (hlen : ∀ sig, parseMethodDescriptor y.desc = some sig → argsL.length = sig.parameters.length) (hsz : Ls.size = c.maxLocals) (hf : rm.frames + 1 ≤ R.frames) (hl : W + (maxL + 11) + rm.locals ≤ R.locals) (hc : cells + rm.cells ≤ R.cells) (hsl : slots + rm.slots ≤ R.slots) (hW : (st.map fun v => v.category).sum ≤ W) (hy : y.cls ≠ "java/lang/invoke/MethodHandle" ∧ y.cls ≠ "java/lang/invoke/VarHandle") (hp : pc + 3 = pc')
    (g : ∀ T' v L, Stand p l e R s m args below meth c T' (locs ++ L) (cells + rm.cells) (slots + rm.slots) → Qc v T'.heap L → OwnGo p e below s Q rc rs (T'.setTop (mkF m pc' Ls (v.toList ++ st)))) : OwnGo p e below s Q rc rs (T.setTop (mkF m pc Ls stk)) := by
  subst hp
  obtain ⟨v, vm1, ⟨T', L', k', n'⟩, -, X', ⟨Lc, hQ, l1, y1, z1⟩, k⟩ := X.specialBack hx hi hown (mvT hZ w1) (mvT hZ w2) (mvT hZ w4) hy (backOf (Q := Qc) (W := W) hM hZ w4 w3 hf hl) (g := mkF m pc Ls stk) rfl hsz (Steps.refl _) (a := a) (argsL := argsL) (rest := st) hlen hst (by show 2 * 0 + _ ≤ _; omega) hd (fun _ _ => ⟨rfl, eT, hc, hsl⟩)
  exact by
    dsimp only [Pt.U, Pt.locs, Pt.cells, Pt.slots] at X' l1 y1 z1 k hQ
    subst l1 y1 z1
    exact own_step (fun _ q => k.trans q) (g T' v Lc X' hQ)
theorem own_callV (X : Stand p l e R s m args below meth c T locs cells slots) (hx : p.tables.exec = Jvm.exec) (hZ : Z.Warmed39 s.vm) (hown : s.vm.findClass own = some m.cls) {y : MethodName} {bytes : ByteArray} {maxL : Nat} {ret : Option FieldType} {rm : Room} {argsL : List Value} {Qc : Option Value → Heap → List Loc → Prop} {W : Nat} {stk : List Value} {a : Addr} {C : String} (w1 : (Cond.methodLink own index y).before a0 Z = true) (w2 : (Cond.declares y).before a0 Z = true) (w5 : (Cond.selects C y y).before a0 Z = true) (w6 : (Cond.instanceMethod y).before a0 Z = true) (w3 : (Cond.initialized y.cls).before a0 Z = true) (w4 : (Jvm.Cond.code y bytes maxL ret).before a0 Z = true) (eT : T.heap = h) (E : Exa Z h a C) (hM : OwnMet l Z y bytes maxL ret (.ref a :: argsL).toArray rm Qc h) (hd : decode c.code pc = .ok (.invokevirtual index, 3)) (hst : stk = argsL.reverse ++ .ref a :: st) (hlen : ∀ sig, parseMethodDescriptor y.desc = some sig → argsL.length = sig.parameters.length) (hsz : Ls.size = c.maxLocals) (hf : rm.frames + 1 ≤ R.frames) (hl : W + (maxL + 11) + rm.locals ≤ R.locals) (hc : cells + rm.cells ≤ R.cells) (hsl : slots + rm.slots ≤ R.slots) (hW : (st.map fun v => v.category).sum ≤ W) (hy : y.cls ≠ "java/lang/invoke/MethodHandle" ∧ y.cls ≠ "java/lang/invoke/VarHandle") (hp : pc + 3 = pc')
    (g : ∀ T' v L, Stand p l e R s m args below meth c T' (locs ++ L) (cells + rm.cells) (slots + rm.slots) → Qc v T'.heap L → OwnGo p e below s Q rc rs (T'.setTop (mkF m pc' Ls (v.toList ++ st)))) : OwnGo p e below s Q rc rs (T.setTop (mkF m pc Ls stk)) := by
  subst hp
  obtain ⟨cB, kB, q1, q2, q3⟩ := isOf hZ eT E
  obtain ⟨v, vm1, ⟨T', L', k', n'⟩, -, X', ⟨Lc, hQ, l1, y1, z1⟩, k⟩ := X.virtualBack hx hown (mvT hZ w1) (mvT hZ w2) (notFace_of_selects (args := #[]) (mvT hZ w5)) (mvT hZ w5) (mvT hZ w6) hy (backOf (Q := Qc) (W := W) hM hZ w4 w3 hf hl) q1 q3 (g := mkF m pc Ls stk) rfl hsz (Steps.refl _) (argsL := argsL) (rest := st) hlen hst (by show 2 * 0 + _ ≤ _; omega) hd (fun _ _ => ⟨rfl, eT, hc, hsl⟩)
  exact by
    dsimp only [Pt.U, Pt.locs, Pt.cells, Pt.slots] at X' l1 y1 z1 k hQ
    subst l1 y1 z1
    exact own_step (fun _ q => k.trans q) (g T' v Lc X' hQ)
abbrev ownR0 : Room := { frames := 0, cells := 0, slots := 0, locals := 0 }
/-- returns z and changes nothing -/
abbrev OwnPure (l : Launch) (Z : State) (y : MethodName) (bytes : ByteArray) (maxL : Nat) (ret : Option FieldType) (as' : Array Value) (z : Value) (h : Heap) : Prop := OwnMet l Z y bytes maxL ret as' ownR0 (fun v h' L => v = some z ∧ h' = h ∧ L = []) h
theorem own_pureS (X : Stand p l e R s m args below meth c T locs cells slots) (hx : p.tables.exec = Jvm.exec) (hZ : Z.Warmed39 s.vm) (hown : s.vm.findClass own = some m.cls) {y : MethodName} {bytes : ByteArray} {maxL : Nat} {ret : Option FieldType} {argsL : List Value} {z : Value} {W : Nat} {stk : List Value} (w1 : (Cond.methodLink own index y).before a0 Z = true) (w2 : (Cond.static y).before a0 Z = true) (w3 : (Cond.initialized y.cls).before a0 Z = true) (w4 : (Jvm.Cond.code y bytes maxL ret).before a0 Z = true) (eT : T.heap = h) (hM : OwnPure l Z y bytes maxL ret argsL.toArray z h) (hd : decode c.code pc = .ok (.invokestatic index, 3)) (hst : stk = argsL.reverse ++ st) (hlen : ∀ sig, parseMethodDescriptor y.desc = some sig → argsL.length = sig.parameters.length) (hsz : Ls.size = c.maxLocals) (hf : 1 ≤ R.frames) (hl : W + (maxL + 11) ≤ R.locals) (hc : cells ≤ R.cells) (hsl : slots ≤ R.slots) (hW : (st.map fun v => v.category).sum ≤ W) (hy : y.cls ≠ "java/lang/invoke/MethodHandle" ∧ y.cls ≠ "java/lang/invoke/VarHandle") (hp : pc + 3 = pc')
    (g : ∀ T', Stand p l e R s m args below meth c T' locs cells slots → T'.heap = h → OwnGo p e below s Q rc rs (T'.setTop (mkF m pc' Ls (z :: st)))) : OwnGo p e below s Q rc rs (T.setTop (mkF m pc Ls stk)) := by
  refine own_callS (rm := ownR0) (Qc := fun v h' L => v = some z ∧ h' = h ∧ L = []) X hx hZ hown w1 w2 w3 w4 eT hM hd hst hlen hsz hf hl hc hsl hW hy hp ?_
  rintro T' v L X' ⟨rfl, h1, rfl⟩
  exact g T' (by simpa using X') h1
theorem own_pureV (X : Stand p l e R s m args below meth c T locs cells slots) (hx : p.tables.exec = Jvm.exec) (hZ : Z.Warmed39 s.vm) (hown : s.vm.findClass own = some m.cls) {y : MethodName} {bytes : ByteArray} {maxL : Nat} {ret : Option FieldType} {argsL : List Value} {z : Value} {W : Nat} {stk : List Value} {a : Addr} {C : String} (w1 : (Cond.methodLink own index y).before a0 Z = true) (w2 : (Cond.declares y).before a0 Z = true) (w5 : (Cond.selects C y y).before a0 Z = true) (w6 : (Cond.instanceMethod y).before a0 Z = true) (w3 : (Cond.initialized y.cls).before a0 Z = true) (w4 : (Jvm.Cond.code y bytes maxL ret).before a0 Z = true) (eT : T.heap = h) (E : Exa Z h a C) (hM : OwnPure l Z y bytes maxL ret (.ref a :: argsL).toArray z h) (hd : decode c.code pc = .ok (.invokevirtual index, 3)) (hst : stk = argsL.reverse ++ .ref a :: st) (hlen : ∀ sig, parseMethodDescriptor y.desc = some sig → argsL.length = sig.parameters.length) (hsz : Ls.size = c.maxLocals) (hf : 1 ≤ R.frames) (hl : W + (maxL + 11) ≤ R.locals) (hc : cells ≤ R.cells) (hsl : slots ≤ R.slots) (hW : (st.map fun v => v.category).sum ≤ W) (hy : y.cls ≠ "java/lang/invoke/MethodHandle" ∧ y.cls ≠ "java/lang/invoke/VarHandle") (hp : pc + 3 = pc')
    (g : ∀ T', Stand p l e R s m args below meth c T' locs cells slots → T'.heap = h → OwnGo p e below s Q rc rs (T'.setTop (mkF m pc' Ls (z :: st)))) : OwnGo p e below s Q rc rs (T.setTop (mkF m pc Ls stk)) := by
  refine own_callV (rm := ownR0) (Qc := fun v h' L => v = some z ∧ h' = h ∧ L = []) X hx hZ hown w1 w2 w5 w6 w3 w4 eT E hM hd hst hlen hsz hf hl hc hsl hW hy hp ?_
  rintro T' v L X' ⟨rfl, h1, rfl⟩
  exact g T' (by simpa using X') h1
/-- the array at a: n places of kind ty, the j-th holds a value with P j -/
def OwnArr (Z : State) (h : Heap) (a : Addr) (ty : FieldType) (n : Nat) (P : Nat → Value → Prop) : Prop := ∃ cl : Cell, Arr Z h a cl ty ∧ cl.slots.size = n ∧ ∀ j, j < n → ∃ v, cl.slots[j]? = some v ∧ P j v
theorem OwnArr.lt {a : Addr} {ty : FieldType} {n : Nat} {P : Nat → Value → Prop} (A : OwnArr Z h a ty n P) : a < h.size := by obtain ⟨cl, A, -⟩ := A; exact A.lt
theorem OwnArr.ext {h' : Heap} {a : Addr} {ty : FieldType} {n : Nat} {P : Nat → Value → Prop} (A : OwnArr Z h a ty n P) (E : Ext h h') : OwnArr Z h' a ty n P := by obtain ⟨cl, A, r⟩ := A; exact ⟨cl, A.ext E, r⟩
theorem OwnArr.other {h' : Heap} {a b : Addr} {sl : Nat} {v : Value} {ty : FieldType} {n : Nat} {P : Nat → Value → Prop} (A : OwnArr Z h b ty n P) (W : Wr h h' a sl v) (q : b ≠ a) : OwnArr Z h' b ty n P := by obtain ⟨cl, A, r⟩ := A; exact ⟨cl, A.other W q, r⟩
theorem OwnArr.keep {h' : Heap} {ws : List Addr} {a : Addr} {ty : FieldType} {n : Nat} {P : Nat → Value → Prop} (A : OwnArr Z h a ty n P) (K : Keep h h' ws) (q : a ∉ ws) : OwnArr Z h' a ty n P := by obtain ⟨cl, A, r⟩ := A; exact ⟨cl, ⟨K.2.1 a cl A.1 q, A.2⟩, r⟩
theorem OwnArr.mono {a : Addr} {ty : FieldType} {n : Nat} {P P' : Nat → Value → Prop} (A : OwnArr Z h a ty n P) (q : ∀ j v, j < n → P j v → P' j v) : OwnArr Z h a ty n P' := by
  obtain ⟨cl, A, S, H⟩ := A
  exact ⟨cl, A, S, fun j hj => by obtain ⟨v, h1, h2⟩ := H j hj; exact ⟨v, h1, q j v hj h2⟩⟩
theorem OwnArr.new {a : Addr} {k : ClassId} {ty : FieldType} {z : Int32} {n : Nat} (A : Arr Z h a (newA k ty z) ty) (hz : z.toNatClampNeg = n) : OwnArr Z h a ty n (fun _ v => v = defaultValue ty) := by
  subst hz
  refine ⟨_, A, sz_new _ _ _, fun j hj => ⟨_, ?_, rfl⟩⟩
  simp [newA, hj]
theorem OwnArr.set {h' : Heap} {a : Addr} {sl : Nat} {v : Value} {ty : FieldType} {n : Nat} {P P' : Nat → Value → Prop} (A : OwnArr Z h a ty n P) (W : Wr h h' a sl v) (q : ∀ i w, i < n → (i = sl → w = v) → (i ≠ sl → P i w) → P' i w) : OwnArr Z h' a ty n P' := by
  obtain ⟨cl, A, S, H⟩ := A
  refine ⟨_, A.same W, by rw [sz_set]; exact S, fun j hj => ?_⟩
  by_cases e : j = sl
  · subst e
    exact ⟨v, by simp [Cell.setSlot, S, hj], q j v hj (fun _ => rfl) (fun y => absurd rfl y)⟩
  · obtain ⟨w, h1, h2⟩ := H j hj
    refine ⟨w, ?_, q j w hj (fun y => absurd y e) (fun _ => h2)⟩
    simp only [Cell.setSlot]; rw [Array.getElem?_setIfInBounds_ne (fun y => e y.symm)]; exact h1
theorem own_inb {cl : Cell} {n : Nat} {j : Int32} (S : cl.slots.size = n) (h0 : 0 ≤ j.toInt) (h1 : j.toInt < n) : ¬ (j < 0 ∨ cl.slots.size ≤ j.toNatClampNeg) := by
  have l0 : (0 : Int32).toInt = 0 := by decide
  rw [Int32.lt_iff_toInt_lt, l0, S, Int32.toNatClampNeg]
  omega
theorem own_len {n : Nat} {z : Int32} (hz : z.toInt = n) : n.toInt32 = z := by
  have h0 : ¬ z < 0 := by
    have l0 : (0 : Int32).toInt = 0 := by decide
    rw [Int32.lt_iff_toInt_lt, l0]; omega
  have e : z.toNatClampNeg = n := by rw [Int32.toNatClampNeg]; omega
  rw [← e]
  exact (back32 h0).1
theorem own_iastoreA (X : Stand p l e R s m args below meth c T locs cells slots) (hx : p.tables.exec = Jvm.exec) (hZ : Z.Warmed39 s.vm) (eT : T.heap = h) {a : Addr} {n : Nat} {P : Nat → Value → Prop} (A : OwnArr Z h a .int n P) {j : Int32} {x : Int32} (h0 : 0 ≤ j.toInt) (h1 : j.toInt < n) (P' : Nat → Value → Prop) (hP : ∀ i w, i < n → (i = j.toNatClampNeg → w = (.int x)) → (i ≠ j.toNatClampNeg → P i w) → P' i w) (hd : decode c.code pc = .ok (.iastore, 1)) (hp : pc + 1 = pc')
    (g : ∀ T' h', Stand p l e R s m args below meth c T' (locs ++ [⟨a, j.toNatClampNeg⟩]) cells slots → T'.heap = h' → Wr h h' a j.toNatClampNeg (.int x) → OwnArr Z h' a .int n P' → OwnGo p e below s Q rc rs (T'.setTop (mkF m pc' Ls st))) : OwnGo p e below s Q rc rs (T.setTop (mkF m pc Ls (.int x :: .int j :: .ref a :: st))) := by
  have A0 := A
  obtain ⟨cl, Ar, S, H⟩ := A
  exact own_iastore X hx hZ eT Ar (own_inb S h0 h1) hd hp fun T' h' X' e' W => g T' h' X' e' W (A0.set W hP)
theorem own_castoreA (X : Stand p l e R s m args below meth c T locs cells slots) (hx : p.tables.exec = Jvm.exec) (hZ : Z.Warmed39 s.vm) (eT : T.heap = h) {a : Addr} {n : Nat} {P : Nat → Value → Prop} (A : OwnArr Z h a .char n P) {j : Int32} {x : Int32} (h0 : 0 ≤ j.toInt) (h1 : j.toInt < n) (P' : Nat → Value → Prop) (hP : ∀ i w, i < n → (i = j.toNatClampNeg → w = (.int (nar .char x))) → (i ≠ j.toNatClampNeg → P i w) → P' i w) (hd : decode c.code pc = .ok (.castore, 1)) (hp : pc + 1 = pc')
    (g : ∀ T' h', Stand p l e R s m args below meth c T' (locs ++ [⟨a, j.toNatClampNeg⟩]) cells slots → T'.heap = h' → Wr h h' a j.toNatClampNeg (.int (nar .char x)) → OwnArr Z h' a .char n P' → OwnGo p e below s Q rc rs (T'.setTop (mkF m pc' Ls st))) : OwnGo p e below s Q rc rs (T.setTop (mkF m pc Ls (.int x :: .int j :: .ref a :: st))) := by
  have A0 := A
  obtain ⟨cl, Ar, S, H⟩ := A
  exact own_castore X hx hZ eT Ar (own_inb S h0 h1) hd hp fun T' h' X' e' W => g T' h' X' e' W (A0.set W hP)
theorem own_bastoreA (X : Stand p l e R s m args below meth c T locs cells slots) (hx : p.tables.exec = Jvm.exec) (hZ : Z.Warmed39 s.vm) (eT : T.heap = h) {a : Addr} {n : Nat} {P : Nat → Value → Prop} (A : OwnArr Z h a .byte n P) {j : Int32} {x : Int32} (h0 : 0 ≤ j.toInt) (h1 : j.toInt < n) (P' : Nat → Value → Prop) (hP : ∀ i w, i < n → (i = j.toNatClampNeg → w = (.int (nar .byte x))) → (i ≠ j.toNatClampNeg → P i w) → P' i w) (hd : decode c.code pc = .ok (.bastore, 1)) (hp : pc + 1 = pc')
    (g : ∀ T' h', Stand p l e R s m args below meth c T' (locs ++ [⟨a, j.toNatClampNeg⟩]) cells slots → T'.heap = h' → Wr h h' a j.toNatClampNeg (.int (nar .byte x)) → OwnArr Z h' a .byte n P' → OwnGo p e below s Q rc rs (T'.setTop (mkF m pc' Ls st))) : OwnGo p e below s Q rc rs (T.setTop (mkF m pc Ls (.int x :: .int j :: .ref a :: st))) := by
  have A0 := A
  obtain ⟨cl, Ar, S, H⟩ := A
  exact own_bastore X hx hZ eT Ar (own_inb S h0 h1) hd hp fun T' h' X' e' W => g T' h' X' e' W (A0.set W hP)
theorem own_zastoreA (X : Stand p l e R s m args below meth c T locs cells slots) (hx : p.tables.exec = Jvm.exec) (hZ : Z.Warmed39 s.vm) (eT : T.heap = h) {a : Addr} {n : Nat} {P : Nat → Value → Prop} (A : OwnArr Z h a .boolean n P) {j : Int32} {x : Int32} (h0 : 0 ≤ j.toInt) (h1 : j.toInt < n) (P' : Nat → Value → Prop) (hP : ∀ i w, i < n → (i = j.toNatClampNeg → w = (.int (nar .boolean x))) → (i ≠ j.toNatClampNeg → P i w) → P' i w) (hd : decode c.code pc = .ok (.bastore, 1)) (hp : pc + 1 = pc')
    (g : ∀ T' h', Stand p l e R s m args below meth c T' (locs ++ [⟨a, j.toNatClampNeg⟩]) cells slots → T'.heap = h' → Wr h h' a j.toNatClampNeg (.int (nar .boolean x)) → OwnArr Z h' a .boolean n P' → OwnGo p e below s Q rc rs (T'.setTop (mkF m pc' Ls st))) : OwnGo p e below s Q rc rs (T.setTop (mkF m pc Ls (.int x :: .int j :: .ref a :: st))) := by
  have A0 := A
  obtain ⟨cl, Ar, S, H⟩ := A
  exact own_zastore X hx hZ eT Ar (own_inb S h0 h1) hd hp fun T' h' X' e' W => g T' h' X' e' W (A0.set W hP)
theorem own_lastoreA (X : Stand p l e R s m args below meth c T locs cells slots) (hx : p.tables.exec = Jvm.exec) (hZ : Z.Warmed39 s.vm) (eT : T.heap = h) {a : Addr} {n : Nat} {P : Nat → Value → Prop} (A : OwnArr Z h a .long n P) {j : Int32} {x : Int64} (h0 : 0 ≤ j.toInt) (h1 : j.toInt < n) (P' : Nat → Value → Prop) (hP : ∀ i w, i < n → (i = j.toNatClampNeg → w = (.long x)) → (i ≠ j.toNatClampNeg → P i w) → P' i w) (hd : decode c.code pc = .ok (.lastore, 1)) (hp : pc + 1 = pc')
    (g : ∀ T' h', Stand p l e R s m args below meth c T' (locs ++ [⟨a, j.toNatClampNeg⟩]) cells slots → T'.heap = h' → Wr h h' a j.toNatClampNeg (.long x) → OwnArr Z h' a .long n P' → OwnGo p e below s Q rc rs (T'.setTop (mkF m pc' Ls st))) : OwnGo p e below s Q rc rs (T.setTop (mkF m pc Ls (.long x :: .int j :: .ref a :: st))) := by
  have A0 := A
  obtain ⟨cl, Ar, S, H⟩ := A
  exact own_lastore X hx hZ eT Ar (own_inb S h0 h1) hd hp fun T' h' X' e' W => g T' h' X' e' W (A0.set W hP)
theorem own_ialoadA (X : Stand p l e R s m args below meth c T locs cells slots) (hx : p.tables.exec = Jvm.exec) (hZ : Z.Warmed39 s.vm) (eT : T.heap = h) {a : Addr} {n : Nat} {P : Nat → Value → Prop} (A : OwnArr Z h a .int n P) {j : Int32} (h0 : 0 ≤ j.toInt) (h1 : j.toInt < n) (hd : decode c.code pc = .ok (.iaload, 1)) (hp : pc + 1 = pc')
    (g : ∀ v, P j.toNatClampNeg v → OwnGo p e below s Q rc rs (T.setTop (mkF m pc' Ls (v :: st)))) : OwnGo p e below s Q rc rs (T.setTop (mkF m pc Ls (.int j :: .ref a :: st))) := by
  obtain ⟨cl, Ar, S, H⟩ := A
  have hj := own_inb S h0 h1
  obtain ⟨v, q1, q2⟩ := H j.toNatClampNeg (by rw [← S]; exact Nat.lt_of_not_le fun y => hj (Or.inr y))
  exact own_iaload X hx hZ eT Ar hj q1 hd hp (g v q2)
theorem own_caloadA (X : Stand p l e R s m args below meth c T locs cells slots) (hx : p.tables.exec = Jvm.exec) (hZ : Z.Warmed39 s.vm) (eT : T.heap = h) {a : Addr} {n : Nat} {P : Nat → Value → Prop} (A : OwnArr Z h a .char n P) {j : Int32} (h0 : 0 ≤ j.toInt) (h1 : j.toInt < n) (hd : decode c.code pc = .ok (.caload, 1)) (hp : pc + 1 = pc')
    (g : ∀ v, P j.toNatClampNeg v → OwnGo p e below s Q rc rs (T.setTop (mkF m pc' Ls (v :: st)))) : OwnGo p e below s Q rc rs (T.setTop (mkF m pc Ls (.int j :: .ref a :: st))) := by
  obtain ⟨cl, Ar, S, H⟩ := A
  have hj := own_inb S h0 h1
  obtain ⟨v, q1, q2⟩ := H j.toNatClampNeg (by rw [← S]; exact Nat.lt_of_not_le fun y => hj (Or.inr y))
  exact own_caload X hx hZ eT Ar hj q1 hd hp (g v q2)
theorem own_laloadA (X : Stand p l e R s m args below meth c T locs cells slots) (hx : p.tables.exec = Jvm.exec) (hZ : Z.Warmed39 s.vm) (eT : T.heap = h) {a : Addr} {n : Nat} {P : Nat → Value → Prop} (A : OwnArr Z h a .long n P) {j : Int32} (h0 : 0 ≤ j.toInt) (h1 : j.toInt < n) (hd : decode c.code pc = .ok (.laload, 1)) (hp : pc + 1 = pc')
    (g : ∀ v, P j.toNatClampNeg v → OwnGo p e below s Q rc rs (T.setTop (mkF m pc' Ls (v :: st)))) : OwnGo p e below s Q rc rs (T.setTop (mkF m pc Ls (.int j :: .ref a :: st))) := by
  obtain ⟨cl, Ar, S, H⟩ := A
  have hj := own_inb S h0 h1
  obtain ⟨v, q1, q2⟩ := H j.toNatClampNeg (by rw [← S]; exact Nat.lt_of_not_le fun y => hj (Or.inr y))
  exact own_laload X hx hZ eT Ar hj q1 hd hp (g v q2)
theorem own_baloadA (X : Stand p l e R s m args below meth c T locs cells slots) (hx : p.tables.exec = Jvm.exec) (hZ : Z.Warmed39 s.vm) (eT : T.heap = h) {a : Addr} {n : Nat} {P : Nat → Value → Prop} (A : OwnArr Z h a .byte n P) {j : Int32} (h0 : 0 ≤ j.toInt) (h1 : j.toInt < n) (hd : decode c.code pc = .ok (.baload, 1)) (hp : pc + 1 = pc')
    (g : ∀ v, P j.toNatClampNeg v → OwnGo p e below s Q rc rs (T.setTop (mkF m pc' Ls (v :: st)))) : OwnGo p e below s Q rc rs (T.setTop (mkF m pc Ls (.int j :: .ref a :: st))) := by
  obtain ⟨cl, Ar, S, H⟩ := A
  have hj := own_inb S h0 h1
  obtain ⟨v, q1, q2⟩ := H j.toNatClampNeg (by rw [← S]; exact Nat.lt_of_not_le fun y => hj (Or.inr y))
  exact own_baload X hx hZ eT Ar hj q1 hd hp (g v q2)
theorem own_zaloadA (X : Stand p l e R s m args below meth c T locs cells slots) (hx : p.tables.exec = Jvm.exec) (hZ : Z.Warmed39 s.vm) (eT : T.heap = h) {a : Addr} {n : Nat} {P : Nat → Value → Prop} (A : OwnArr Z h a .boolean n P) {j : Int32} (h0 : 0 ≤ j.toInt) (h1 : j.toInt < n) (hd : decode c.code pc = .ok (.baload, 1)) (hp : pc + 1 = pc')
    (g : ∀ v, P j.toNatClampNeg v → OwnGo p e below s Q rc rs (T.setTop (mkF m pc' Ls (v :: st)))) : OwnGo p e below s Q rc rs (T.setTop (mkF m pc Ls (.int j :: .ref a :: st))) := by
  obtain ⟨cl, Ar, S, H⟩ := A
  have hj := own_inb S h0 h1
  obtain ⟨v, q1, q2⟩ := H j.toNatClampNeg (by rw [← S]; exact Nat.lt_of_not_le fun y => hj (Or.inr y))
  exact own_zaload X hx hZ eT Ar hj q1 hd hp (g v q2)
theorem own_lengthA (X : Stand p l e R s m args below meth c T locs cells slots) (hx : p.tables.exec = Jvm.exec) (hZ : Z.Warmed39 s.vm) (eT : T.heap = h) {a : Addr} {n : Nat} {P : Nat → Value → Prop} {ty : FieldType} {z : Int32} (A : OwnArr Z h a ty n P) (hz : z.toInt = n) (hd : decode c.code pc = .ok (.arraylength, 1)) (hp : pc + 1 = pc')
    (g : OwnGo p e below s Q rc rs (T.setTop (mkF m pc' Ls (.int z :: st)))) : OwnGo p e below s Q rc rs (T.setTop (mkF m pc Ls (.ref a :: st))) := by
  obtain ⟨cl, Ar, S, H⟩ := A
  exact own_arraylength X hx hZ eT Ar (by rw [S]; exact own_len hz) hd hp g
end OwnKit
theorem d_expected_0 : decode method_3_code 0 = .ok (.iload 5, 2) := by decide +kernel
theorem d_expected_2 : decode method_3_code 2 = .ok (.iload_n 0, 1) := by decide +kernel
theorem d_expected_3 : decode method_3_code 3 = .ok (.if_icmp .ne 6, 3) := by decide +kernel
theorem d_expected_9 : decode method_3_code 9 = .ok (.iload_n 3, 1) := by decide +kernel
theorem d_expected_10 : decode method_3_code 10 = .ok (.iload_n 0, 1) := by decide +kernel
theorem d_expected_11 : decode method_3_code 11 = .ok (.if_icmp .ne 6, 3) := by decide +kernel
theorem d_expected_17 : decode method_3_code 17 = .ok (.iload_n 1, 1) := by decide +kernel
theorem d_expected_18 : decode method_3_code 18 = .ok (.iload_n 0, 1) := by decide +kernel
theorem d_expected_19 : decode method_3_code 19 = .ok (.if_icmp .ne 5, 3) := by decide +kernel
theorem d_expected_24 : decode method_3_code 24 = .ok (.iconst 0, 1) := by decide +kernel
theorem d_expected_25 : decode method_3_code 25 = .ok (.ireturn, 1) := by decide +kernel
theorem d_expected_22 : decode method_3_code 22 = .ok (.iload_n 2, 1) := by decide +kernel
theorem d_expected_23 : decode method_3_code 23 = .ok (.ireturn, 1) := by decide +kernel
theorem d_expected_14 : decode method_3_code 14 = .ok (.iload 4, 2) := by decide +kernel
theorem d_expected_16 : decode method_3_code 16 = .ok (.ireturn, 1) := by decide +kernel
theorem d_expected_6 : decode method_3_code 6 = .ok (.iload 6, 2) := by decide +kernel
theorem d_expected_8 : decode method_3_code 8 = .ok (.ireturn, 1) := by decide +kernel
theorem ef_expected (m : MethodId) (x0 : Int32) (x1 : Int32) (x2 : Int32) (x3 : Int32) (x4 : Int32) (x5 : Int32) (x6 : Int32) : entryFrame m #[(.int x0), (.int x1), (.int x2), (.int x3), (.int x4), (.int x5), (.int x6)] 7 = mkF m 0 #[.val (.int x0), .val (.int x1), .val (.int x2), .val (.int x3), .val (.int x4), .val (.int x5), .val (.int x6)] [] := by first | (simp [entryFrame, mkF, argsToLocals, Value.category]; done) | rfl
theorem pn_com_example_gawain_gawain_statespace_ProbabilityIndicesGetPinLaw : plainName "com/example/gawain/gawain/statespace/ProbabilityIndicesGetPinLaw" = true := by first | (simp [plainName, overriddenIn]; done) | decide +kernel
theorem d_scale_0 : decode method_2_code 0 = .ok (.iload_n 1, 1) := by decide +kernel
theorem d_scale_1 : decode method_2_code 1 = .ok (.iconst 3, 1) := by decide +kernel
theorem d_scale_2 : decode method_2_code 2 = .ok (.iand, 1) := by decide +kernel
theorem d_scale_3 : decode method_2_code 3 = .ok (.istore_n 2, 1) := by decide +kernel
theorem d_scale_4 : decode method_2_code 4 = .ok (.iload_n 2, 1) := by decide +kernel
theorem d_scale_5 : decode method_2_code 5 = .ok (.ifCond .ne 9, 3) := by decide +kernel
theorem d_scale_14 : decode method_2_code 14 = .ok (.iload_n 2, 1) := by decide +kernel
theorem d_scale_15 : decode method_2_code 15 = .ok (.iconst 1, 1) := by decide +kernel
theorem d_scale_16 : decode method_2_code 16 = .ok (.if_icmp .ne 8, 3) := by decide +kernel
theorem d_scale_24 : decode method_2_code 24 = .ok (.iload_n 0, 1) := by decide +kernel
theorem d_scale_25 : decode method_2_code 25 = .ok (.ldc 8, 2) := by decide +kernel
theorem d_scale_27 : decode method_2_code 27 = .ok (.iand, 1) := by decide +kernel
theorem d_scale_28 : decode method_2_code 28 = .ok (.ireturn, 1) := by decide +kernel
theorem d_scale_19 : decode method_2_code 19 = .ok (.iload_n 0, 1) := by decide +kernel
theorem d_scale_20 : decode method_2_code 20 = .ok (.ldc 7, 2) := by decide +kernel
theorem d_scale_22 : decode method_2_code 22 = .ok (.iand, 1) := by decide +kernel
theorem d_scale_23 : decode method_2_code 23 = .ok (.ireturn, 1) := by decide +kernel
theorem d_scale_8 : decode method_2_code 8 = .ok (.iload_n 0, 1) := by decide +kernel
theorem d_scale_9 : decode method_2_code 9 = .ok (.sipush 255, 3) := by decide +kernel
theorem d_scale_12 : decode method_2_code 12 = .ok (.iand, 1) := by decide +kernel
theorem d_scale_13 : decode method_2_code 13 = .ok (.ireturn, 1) := by decide +kernel
theorem ef_scale (m : MethodId) (x0 : Int32) (x1 : Int32) : entryFrame m #[(.int x0), (.int x1)] 3 = mkF m 0 #[.val (.int x0), .val (.int x1), .unset] [] := by first | (simp [entryFrame, mkF, argsToLocals, Value.category]; done) | rfl
theorem pd__II_I : parseMethodDescriptor "(II)I" = some ⟨[.int, .int], some .int⟩ := by decide +kernel
theorem pd__I_V : parseMethodDescriptor "(I)V" = some ⟨[.int], none⟩ := by decide +kernel
theorem pd__II_V : parseMethodDescriptor "(II)V" = some ⟨[.int, .int], none⟩ := by decide +kernel
theorem pd__I_I : parseMethodDescriptor "(I)I" = some ⟨[.int], some .int⟩ := by decide +kernel
theorem pd__IIIIIII_I : parseMethodDescriptor "(IIIIIII)I" = some ⟨[.int, .int, .int, .int, .int, .int, .int], some .int⟩ := by decide +kernel
theorem ef_law (m : MethodId) (x0 : Int32) (x1 : Int32) (x2 : Int32) (x3 : Int32) (x4 : Int32) : entryFrame m #[(.int x0), (.int x1), (.int x2), (.int x3), (.int x4)] maxLocals = mkF m 0 #[.val (.int x0), .val (.int x1), .val (.int x2), .val (.int x3), .val (.int x4), .unset, .unset, .unset, .unset, .unset, .unset, .unset, .unset, .unset, .unset] [] := by first | (simp [entryFrame, mkF, argsToLocals, Value.category, maxLocals]; done) | rfl
theorem d_init_0 : decode prog_127_method_1_code 0 = .ok (.aload_n 0, 1) := by decide +kernel
theorem d_init_1 : decode prog_127_method_1_code 1 = .ok (.invokespecial 3, 3) := by decide +kernel
theorem d_init_4 : decode prog_127_method_1_code 4 = .ok (.aload_n 0, 1) := by decide +kernel
theorem d_init_5 : decode prog_127_method_1_code 5 = .ok (.iload_n 1, 1) := by decide +kernel
theorem d_init_6 : decode prog_127_method_1_code 6 = .ok (.newarray .byte, 2) := by decide +kernel
theorem d_init_8 : decode prog_127_method_1_code 8 = .ok (.putfield 9, 3) := by decide +kernel
theorem d_init_11 : decode prog_127_method_1_code 11 = .ok (.return_, 1) := by decide +kernel
theorem ef_init (m : MethodId) (x0 : Addr) (x1 : Int32) : entryFrame m #[(.ref x0), (.int x1)] 2 = mkF m 0 #[.val (.ref x0), .val (.int x1)] [] := by first | (simp [entryFrame, mkF, argsToLocals, Value.category]; done) | rfl
theorem pn_com_example_gawain_gawain_statespace_ProbabilityIndices : plainName "com/example/gawain/gawain/statespace/ProbabilityIndices" = true := by first | (simp [plainName, overriddenIn]; done) | decide +kernel
theorem d_set_122 : decode prog_127_method_3_code 122 = .ok (.aload_n 0, 1) := by decide +kernel
theorem d_set_123 : decode prog_127_method_3_code 123 = .ok (.getfield 9, 3) := by decide +kernel
theorem d_set_126 : decode prog_127_method_3_code 126 = .ok (.ifnull 14, 3) := by decide +kernel
theorem d_set_129 : decode prog_127_method_3_code 129 = .ok (.aload_n 0, 1) := by decide +kernel
theorem d_set_130 : decode prog_127_method_3_code 130 = .ok (.getfield 9, 3) := by decide +kernel
theorem d_set_133 : decode prog_127_method_3_code 133 = .ok (.iload_n 1, 1) := by decide +kernel
theorem d_set_134 : decode prog_127_method_3_code 134 = .ok (.iload_n 2, 1) := by decide +kernel
theorem d_set_135 : decode prog_127_method_3_code 135 = .ok (.i2b, 1) := by decide +kernel
theorem d_set_136 : decode prog_127_method_3_code 136 = .ok (.bastore, 1) := by decide +kernel
theorem d_set_137 : decode prog_127_method_3_code 137 = .ok (.goto 28, 3) := by decide +kernel
theorem d_set_165 : decode prog_127_method_3_code 165 = .ok (.return_, 1) := by decide +kernel
theorem d_set_140 : decode prog_127_method_3_code 140 = .ok (.aload_n 0, 1) := by decide +kernel
theorem d_set_141 : decode prog_127_method_3_code 141 = .ok (.getfield 15, 3) := by decide +kernel
theorem d_set_144 : decode prog_127_method_3_code 144 = .ok (.ifnull 14, 3) := by decide +kernel
theorem d_set_147 : decode prog_127_method_3_code 147 = .ok (.aload_n 0, 1) := by decide +kernel
theorem d_set_148 : decode prog_127_method_3_code 148 = .ok (.getfield 15, 3) := by decide +kernel
theorem d_set_151 : decode prog_127_method_3_code 151 = .ok (.iload_n 1, 1) := by decide +kernel
theorem d_set_152 : decode prog_127_method_3_code 152 = .ok (.iload_n 2, 1) := by decide +kernel
theorem d_set_153 : decode prog_127_method_3_code 153 = .ok (.i2c, 1) := by decide +kernel
theorem d_set_154 : decode prog_127_method_3_code 154 = .ok (.castore, 1) := by decide +kernel
theorem d_set_155 : decode prog_127_method_3_code 155 = .ok (.goto 10, 3) := by decide +kernel
theorem d_set_158 : decode prog_127_method_3_code 158 = .ok (.aload_n 0, 1) := by decide +kernel
theorem d_set_159 : decode prog_127_method_3_code 159 = .ok (.getfield 19, 3) := by decide +kernel
theorem d_set_162 : decode prog_127_method_3_code 162 = .ok (.iload_n 1, 1) := by decide +kernel
theorem d_set_163 : decode prog_127_method_3_code 163 = .ok (.iload_n 2, 1) := by decide +kernel
theorem d_set_164 : decode prog_127_method_3_code 164 = .ok (.iastore, 1) := by decide +kernel
theorem d_set_90 : decode prog_127_method_3_code 90 = .ok (.iload_n 3, 1) := by decide +kernel
theorem d_set_91 : decode prog_127_method_3_code 91 = .ok (.aload_n 0, 1) := by decide +kernel
theorem d_set_92 : decode prog_127_method_3_code 92 = .ok (.getfield 15, 3) := by decide +kernel
theorem d_set_95 : decode prog_127_method_3_code 95 = .ok (.arraylength, 1) := by decide +kernel
theorem d_set_96 : decode prog_127_method_3_code 96 = .ok (.if_icmp .ge 21, 3) := by decide +kernel
theorem d_set_117 : decode prog_127_method_3_code 117 = .ok (.aload_n 0, 1) := by decide +kernel
theorem d_set_118 : decode prog_127_method_3_code 118 = .ok (.aconst_null, 1) := by decide +kernel
theorem d_set_119 : decode prog_127_method_3_code 119 = .ok (.putfield 15, 3) := by decide +kernel
theorem d_set_99 : decode prog_127_method_3_code 99 = .ok (.aload_n 0, 1) := by decide +kernel
theorem d_set_100 : decode prog_127_method_3_code 100 = .ok (.getfield 19, 3) := by decide +kernel
theorem d_set_103 : decode prog_127_method_3_code 103 = .ok (.iload_n 3, 1) := by decide +kernel
theorem d_set_104 : decode prog_127_method_3_code 104 = .ok (.aload_n 0, 1) := by decide +kernel
theorem d_set_105 : decode prog_127_method_3_code 105 = .ok (.getfield 15, 3) := by decide +kernel
theorem d_set_108 : decode prog_127_method_3_code 108 = .ok (.iload_n 3, 1) := by decide +kernel
theorem d_set_109 : decode prog_127_method_3_code 109 = .ok (.caload, 1) := by decide +kernel
theorem d_set_110 : decode prog_127_method_3_code 110 = .ok (.iastore, 1) := by decide +kernel
theorem d_set_111 : decode prog_127_method_3_code 111 = .ok (.iinc 3 1, 3) := by decide +kernel
theorem d_set_114 : decode prog_127_method_3_code 114 = .ok (.goto (-24), 3) := by decide +kernel
theorem d_set_64 : decode prog_127_method_3_code 64 = .ok (.aload_n 0, 1) := by decide +kernel
theorem d_set_65 : decode prog_127_method_3_code 65 = .ok (.getfield 15, 3) := by decide +kernel
theorem d_set_68 : decode prog_127_method_3_code 68 = .ok (.ifnull 54, 3) := by decide +kernel
theorem d_set_71 : decode prog_127_method_3_code 71 = .ok (.iload_n 2, 1) := by decide +kernel
theorem d_set_72 : decode prog_127_method_3_code 72 = .ok (.ldc 23, 2) := by decide +kernel
theorem d_set_74 : decode prog_127_method_3_code 74 = .ok (.if_icmp .le 48, 3) := by decide +kernel
theorem d_set_77 : decode prog_127_method_3_code 77 = .ok (.aload_n 0, 1) := by decide +kernel
theorem d_set_78 : decode prog_127_method_3_code 78 = .ok (.aload_n 0, 1) := by decide +kernel
theorem d_set_79 : decode prog_127_method_3_code 79 = .ok (.getfield 15, 3) := by decide +kernel
theorem d_set_82 : decode prog_127_method_3_code 82 = .ok (.arraylength, 1) := by decide +kernel
theorem d_set_83 : decode prog_127_method_3_code 83 = .ok (.newarray .int, 2) := by decide +kernel
theorem d_set_85 : decode prog_127_method_3_code 85 = .ok (.putfield 19, 3) := by decide +kernel
theorem d_set_88 : decode prog_127_method_3_code 88 = .ok (.iconst 0, 1) := by decide +kernel
theorem d_set_89 : decode prog_127_method_3_code 89 = .ok (.istore_n 3, 1) := by decide +kernel
theorem d_set_27 : decode prog_127_method_3_code 27 = .ok (.iload_n 3, 1) := by decide +kernel
theorem d_set_28 : decode prog_127_method_3_code 28 = .ok (.aload_n 0, 1) := by decide +kernel
theorem d_set_29 : decode prog_127_method_3_code 29 = .ok (.getfield 9, 3) := by decide +kernel
theorem d_set_32 : decode prog_127_method_3_code 32 = .ok (.arraylength, 1) := by decide +kernel
theorem d_set_33 : decode prog_127_method_3_code 33 = .ok (.if_icmp .ge 26, 3) := by decide +kernel
theorem d_set_59 : decode prog_127_method_3_code 59 = .ok (.aload_n 0, 1) := by decide +kernel
theorem d_set_60 : decode prog_127_method_3_code 60 = .ok (.aconst_null, 1) := by decide +kernel
theorem d_set_61 : decode prog_127_method_3_code 61 = .ok (.putfield 9, 3) := by decide +kernel
theorem d_set_36 : decode prog_127_method_3_code 36 = .ok (.aload_n 0, 1) := by decide +kernel
theorem d_set_37 : decode prog_127_method_3_code 37 = .ok (.getfield 15, 3) := by decide +kernel
theorem d_set_40 : decode prog_127_method_3_code 40 = .ok (.iload_n 3, 1) := by decide +kernel
theorem d_set_41 : decode prog_127_method_3_code 41 = .ok (.aload_n 0, 1) := by decide +kernel
theorem d_set_42 : decode prog_127_method_3_code 42 = .ok (.getfield 9, 3) := by decide +kernel
theorem d_set_45 : decode prog_127_method_3_code 45 = .ok (.iload_n 3, 1) := by decide +kernel
theorem d_set_46 : decode prog_127_method_3_code 46 = .ok (.baload, 1) := by decide +kernel
theorem d_set_47 : decode prog_127_method_3_code 47 = .ok (.sipush 255, 3) := by decide +kernel
theorem d_set_50 : decode prog_127_method_3_code 50 = .ok (.iand, 1) := by decide +kernel
theorem d_set_51 : decode prog_127_method_3_code 51 = .ok (.i2c, 1) := by decide +kernel
theorem d_set_52 : decode prog_127_method_3_code 52 = .ok (.castore, 1) := by decide +kernel
theorem d_set_53 : decode prog_127_method_3_code 53 = .ok (.iinc 3 1, 3) := by decide +kernel
theorem d_set_56 : decode prog_127_method_3_code 56 = .ok (.goto (-29), 3) := by decide +kernel
theorem d_set_0 : decode prog_127_method_3_code 0 = .ok (.aload_n 0, 1) := by decide +kernel
theorem d_set_1 : decode prog_127_method_3_code 1 = .ok (.getfield 9, 3) := by decide +kernel
theorem d_set_4 : decode prog_127_method_3_code 4 = .ok (.ifnull 60, 3) := by decide +kernel
theorem d_set_7 : decode prog_127_method_3_code 7 = .ok (.iload_n 2, 1) := by decide +kernel
theorem d_set_8 : decode prog_127_method_3_code 8 = .ok (.sipush 255, 3) := by decide +kernel
theorem d_set_11 : decode prog_127_method_3_code 11 = .ok (.if_icmp .le 53, 3) := by decide +kernel
theorem d_set_14 : decode prog_127_method_3_code 14 = .ok (.aload_n 0, 1) := by decide +kernel
theorem d_set_15 : decode prog_127_method_3_code 15 = .ok (.aload_n 0, 1) := by decide +kernel
theorem d_set_16 : decode prog_127_method_3_code 16 = .ok (.getfield 9, 3) := by decide +kernel
theorem d_set_19 : decode prog_127_method_3_code 19 = .ok (.arraylength, 1) := by decide +kernel
theorem d_set_20 : decode prog_127_method_3_code 20 = .ok (.newarray .char, 2) := by decide +kernel
theorem d_set_22 : decode prog_127_method_3_code 22 = .ok (.putfield 15, 3) := by decide +kernel
theorem d_set_25 : decode prog_127_method_3_code 25 = .ok (.iconst 0, 1) := by decide +kernel
theorem d_set_26 : decode prog_127_method_3_code 26 = .ok (.istore_n 3, 1) := by decide +kernel
theorem ef_set (m : MethodId) (x0 : Addr) (x1 : Int32) (x2 : Int32) : entryFrame m #[(.ref x0), (.int x1), (.int x2)] 4 = mkF m 0 #[.val (.ref x0), .val (.int x1), .val (.int x2), .unset] [] := by first | (simp [entryFrame, mkF, argsToLocals, Value.category]; done) | rfl
theorem ef_get (m : MethodId) (x0 : Addr) (x1 : Int32) : entryFrame m #[(.ref x0), (.int x1)] 3 = mkF m 0 #[.val (.ref x0), .val (.int x1), .unset] [] := by first | (simp [entryFrame, mkF, argsToLocals, Value.category]; done) | rfl
theorem d_get_0 : decode prog_127_method_2_code 0 = .ok (.aload_n 0, 1) := by decide +kernel
theorem d_get_1 : decode prog_127_method_2_code 1 = .ok (.getfield 9, 3) := by decide +kernel
theorem d_get_4 : decode prog_127_method_2_code 4 = .ok (.ifnull 17, 3) := by decide +kernel
theorem d_get_7 : decode prog_127_method_2_code 7 = .ok (.aload_n 0, 1) := by decide +kernel
theorem d_get_8 : decode prog_127_method_2_code 8 = .ok (.getfield 9, 3) := by decide +kernel
theorem d_get_11 : decode prog_127_method_2_code 11 = .ok (.iload_n 1, 1) := by decide +kernel
theorem d_get_12 : decode prog_127_method_2_code 12 = .ok (.baload, 1) := by decide +kernel
theorem d_get_13 : decode prog_127_method_2_code 13 = .ok (.sipush 255, 3) := by decide +kernel
theorem d_get_16 : decode prog_127_method_2_code 16 = .ok (.iand, 1) := by decide +kernel
theorem d_get_17 : decode prog_127_method_2_code 17 = .ok (.istore_n 2, 1) := by decide +kernel
theorem d_get_18 : decode prog_127_method_2_code 18 = .ok (.goto 27, 3) := by decide +kernel
theorem d_get_45 : decode prog_127_method_2_code 45 = .ok (.iload_n 2, 1) := by decide +kernel
theorem d_get_46 : decode prog_127_method_2_code 46 = .ok (.ireturn, 1) := by decide +kernel
theorem d_get_21 : decode prog_127_method_2_code 21 = .ok (.aload_n 0, 1) := by decide +kernel
theorem d_get_22 : decode prog_127_method_2_code 22 = .ok (.getfield 15, 3) := by decide +kernel
theorem d_get_25 : decode prog_127_method_2_code 25 = .ok (.ifnull 13, 3) := by decide +kernel
theorem d_get_28 : decode prog_127_method_2_code 28 = .ok (.aload_n 0, 1) := by decide +kernel
theorem d_get_29 : decode prog_127_method_2_code 29 = .ok (.getfield 15, 3) := by decide +kernel
theorem d_get_32 : decode prog_127_method_2_code 32 = .ok (.iload_n 1, 1) := by decide +kernel
theorem d_get_33 : decode prog_127_method_2_code 33 = .ok (.caload, 1) := by decide +kernel
theorem d_get_34 : decode prog_127_method_2_code 34 = .ok (.istore_n 2, 1) := by decide +kernel
theorem d_get_35 : decode prog_127_method_2_code 35 = .ok (.goto 10, 3) := by decide +kernel
theorem d_get_38 : decode prog_127_method_2_code 38 = .ok (.aload_n 0, 1) := by decide +kernel
theorem d_get_39 : decode prog_127_method_2_code 39 = .ok (.getfield 19, 3) := by decide +kernel
theorem d_get_42 : decode prog_127_method_2_code 42 = .ok (.iload_n 1, 1) := by decide +kernel
theorem d_get_43 : decode prog_127_method_2_code 43 = .ok (.iaload, 1) := by decide +kernel
theorem d_get_44 : decode prog_127_method_2_code 44 = .ok (.istore_n 2, 1) := by decide +kernel
def own_upd (f : Nat → Int32) (k : Nat) (v : Int32) : Nat → Int32 := fun j => if j = k then v else f j
def own_B (f : Nat → Int32) (j : Nat) (v : Value) : Prop := v = .int (f j).toInt8.toInt32
def own_I (f : Nat → Int32) (j : Nat) (v : Value) : Prop := v = .int (f j)
def own_up (f : Nat → Int32) (k j : Nat) (v : Value) : Prop := j < k → v = .int (f j)
def own_RB (Z : State) (h : Heap) (a b : Addr) (n : Nat) (f : Nat → Int32) : Prop := Fld Z h a "com/example/gawain/gawain/statespace/ProbabilityIndices" "bytes" "[B" (.ref b) ∧ Fld Z h a "com/example/gawain/gawain/statespace/ProbabilityIndices" "chars" "[C" .null ∧ Fld Z h a "com/example/gawain/gawain/statespace/ProbabilityIndices" "ints" "[I" .null ∧ OwnArr Z h b .byte n (own_B f) ∧ ∀ j, j < n → (f j).toInt ≤ 255
def own_RC (Z : State) (h : Heap) (a b : Addr) (n : Nat) (f : Nat → Int32) : Prop := Fld Z h a "com/example/gawain/gawain/statespace/ProbabilityIndices" "bytes" "[B" .null ∧ Fld Z h a "com/example/gawain/gawain/statespace/ProbabilityIndices" "chars" "[C" (.ref b) ∧ Fld Z h a "com/example/gawain/gawain/statespace/ProbabilityIndices" "ints" "[I" .null ∧ OwnArr Z h b .char n (own_I f) ∧ ∀ j, j < n → (f j).toInt ≤ 65535
def own_RI (Z : State) (h : Heap) (a b : Addr) (n : Nat) (f : Nat → Int32) : Prop := Fld Z h a "com/example/gawain/gawain/statespace/ProbabilityIndices" "bytes" "[B" .null ∧ Fld Z h a "com/example/gawain/gawain/statespace/ProbabilityIndices" "chars" "[C" .null ∧ Fld Z h a "com/example/gawain/gawain/statespace/ProbabilityIndices" "ints" "[I" (.ref b) ∧ OwnArr Z h b .int n (own_I f)
/-- a ProbabilityIndices of n places that hold f, in one of its three forms -/
def own_PI (Z : State) (n0 : Nat) (h : Heap) (a : Addr) (n : Nat) (f : Nat → Int32) : Prop := n0 ≤ a ∧ Exa Z h a "com/example/gawain/gawain/statespace/ProbabilityIndices" ∧ (∀ j, j < n → 0 ≤ (f j).toInt) ∧ ∃ b : Addr, n0 ≤ b ∧ b ≠ a ∧ (own_RB Z h a b n f ∨ own_RC Z h a b n f ∨ own_RI Z h a b n f)
theorem own_b255 (x : Int32) (h0 : 0 ≤ x.toInt) (h1 : x.toInt ≤ 255) : x.toInt8.toInt32 &&& 255 = x := by
  apply Int32.toInt_inj.mp
  have q := c_mask x.toInt8.toInt32 255 8 (by decide) (by decide)
  have r := c_i2b x
  omega
theorem own_bb (x : Int32) : nar .byte x.toInt8.toInt32 = x.toInt8.toInt32 := by
  apply Int32.toInt_inj.mp
  show (x.toInt8.toInt32.toInt8.toInt32).toInt = _
  have r := c_i2b x
  have r2 := c_i2b x.toInt8.toInt32
  omega
theorem own_cc2 (x : Int32) (h0 : 0 ≤ x.toInt) (h1 : x.toInt ≤ 65535) : nar .char x.toUInt32.toUInt16.toUInt32.toInt32 = x := by
  apply Int32.toInt_inj.mp
  show (x.toUInt32.toUInt16.toUInt32.toInt32.toUInt32.toUInt16.toUInt32.toInt32).toInt = _
  have r := c_i2c x
  have r2 := c_i2c x.toUInt32.toUInt16.toUInt32.toInt32
  omega
theorem own_cc1 (x : Int32) (h0 : 0 ≤ x.toInt) (h1 : x.toInt ≤ 255) : nar .char (x.toInt8.toInt32 &&& 255).toUInt32.toUInt16.toUInt32.toInt32 = x := by
  rw [own_b255 x h0 h1]
  exact own_cc2 x h0 (by omega)
theorem own_ltI {x y : Int32} (h : x < y) : x.toInt < y.toInt := Int32.lt_iff_toInt_lt.mp h
theorem own_geI {x y : Int32} (h : ¬ x < y) : y.toInt ≤ x.toInt := by rw [Int32.lt_iff_toInt_lt] at h; omega
theorem own_inc {i : Int32} {k : Nat} (h : i.toInt = k) (hk : k ≤ 1000) : (i + 1).toInt = (k + 1 : Nat) := by
  have q := c_iadd i 1
  have r := rng32 (i + 1)
  have l1 : (1 : Int32).toInt = 1 := by decide
  omega
theorem own_clamp {i : Int32} {k : Nat} (h : i.toInt = k) : i.toNatClampNeg = k := by rw [Int32.toNatClampNeg]; omega
theorem own_notneg {i : Int32} {k : Nat} (h : i.toInt = k) : ¬ i < 0 := by
  have l0 : (0 : Int32).toInt = 0 := by decide
  rw [Int32.lt_iff_toInt_lt]; omega
theorem own_l255 : (255 : Int32).toInt = 255 := by decide
theorem own_l65535 : (65535 : Int32).toInt = 65535 := by decide
theorem own_updn {n : Nat} {f : Nat → Int32} {k : Nat} {v : Int32} {P : Int → Prop} (hf : ∀ j, j < n → P (f j).toInt) (hv : P v.toInt) : ∀ j, j < n → P (own_upd f k v j).toInt := by
  intro j hj
  by_cases q : j = k
  · rw [own_upd, if_pos q]; exact hv
  · rw [own_upd, if_neg q]; exact hf j hj
def own_exp (q p1 v1 p2 v2 p3 v3 : Int32) : Int32 := if p3 = q then v3 else if p2 = q then v2 else if p1 = q then v1 else 0
theorem own_same {p q : Int32} (hp : 0 ≤ p.toInt) (hq : 0 ≤ q.toInt) : q.toInt.toNat = p.toInt.toNat ↔ p = q := by
  rw [← Int32.toInt_inj]; omega
theorem own_three {p1 p2 p3 v1 v2 v3 q : Int32} (h1 : 0 ≤ p1.toInt) (h2 : 0 ≤ p2.toInt) (h3 : 0 ≤ p3.toInt) (hq : 0 ≤ q.toInt) : own_upd (own_upd (own_upd (fun _ => 0) p1.toInt.toNat v1) p2.toInt.toNat v2) p3.toInt.toNat v3 q.toInt.toNat = own_exp q p1 v1 p2 v2 p3 v3 := by
  simp only [own_upd, own_exp, own_same h1 hq, own_same h2 hq, own_same h3 hq]
theorem own_pl (x : Int32) : 0 ≤ ((x &&& 255) % 3).toInt ∧ ((x &&& 255) % 3).toInt < (3 : Nat) := by
  have m1 := c_mask x 255 8 (by decide) (by decide)
  have r := (c_irem (x &&& 255) 3 3 (by decide)).1 (by omega)
  omega
theorem own_m31 (x : Int32) : 0 ≤ (x &&& 2147483647).toInt := by
  have m1 := c_mask x 2147483647 31 (by decide) (by decide)
  omega
theorem own_m16 (x : Int32) : 0 ≤ (x &&& 65535).toInt := by
  have m1 := c_mask x 65535 16 (by decide) (by decide)
  omega
theorem own_m8 (x : Int32) : 0 ≤ (x &&& 255).toInt := by
  have m1 := c_mask x 255 8 (by decide) (by decide)
  omega
theorem own_us (x q : Int32) (hx : 0 ≤ x.toInt) : 0 ≤ (XT.ushr x (q &&& 31)).toInt := by
  have m1 := c_mask q 31 5 (by decide) (by decide)
  obtain ⟨k, hk⟩ : ∃ k, (q &&& 31).toBitVec.toNat % 32 = k := ⟨_, rfl⟩
  by_cases h0 : 0 < k
  · have u : (XT.ushr x (q &&& 31)).toInt = x.toInt % 4294967296 / (2 ^ k : Nat) := c_iushr x (q &&& 31) k hk h0
    rw [u]
    exact Int.ediv_nonneg (by omega) (Int.natCast_nonneg _)
  · have e : (q &&& 31) = 0 := by
      apply Int32.toInt_inj.mp
      have e1 : (q &&& 31).toInt = ((q &&& 31).toBitVec.toNat : Int) := by
        show (q &&& 31).toBitVec.toInt = _
        have b1 : (q &&& 31).toBitVec.toInt = (q &&& 31).toInt := rfl
        rw [BitVec.toInt_eq_toNat_cond] at b1 ⊢
        split <;> first | rfl | (rename_i y; rw [if_neg y] at b1; have := (q &&& 31).toBitVec.isLt; omega)
      have l0 : (0 : Int32).toInt = 0 := by decide
      omega
    rw [e]
    have : XT.ushr x 0 = x := by
      show (x.toUInt32 >>> ((0 : Int32) &&& 31).toUInt32).toInt32 = x
      have z : ((0 : Int32) &&& 31).toUInt32 = 0 := by decide
      rw [z]
      simp
    rw [this]; exact hx

def own_scale (v s : Int32) : Int32 := if s &&& 3 = 0 then v &&& 255 else if s &&& 3 = 1 then v &&& 65535 else v &&& 2147483647
theorem own_scale0 (v s : Int32) : 0 ≤ (own_scale v s).toInt := by
  unfold own_scale
  split
  · exact own_m8 v
  · split
    · exact own_m16 v
    · exact own_m31 v
set_option maxRecDepth 65536 in
set_option maxHeartbeats 40000000 in
theorem rm_scale {l : Launch} {Z : State} {a0 : Array Value} {h : Heap} (hw : ∀ d ∈ tables_1, d.before a0 Z = true) (v : Int32) (sl : Int32) : OwnPure l Z (⟨"com/example/gawain/gawain/statespace/ProbabilityIndicesGetPinLaw", "scale", "(II)I"⟩ : MethodName) method_2_code 3 (some .int) #[(.int v), (.int sl)] (.int (own_scale v sl)) h :=
 own_met (Q := fun ov oh oL => ov = some (.int (own_scale v sl)) ∧ oh = h ∧ oL = []) (rm := ownR0) (plainFor_of_name pn_com_example_gawain_gawain_statespace_ProbabilityIndicesGetPinLaw) (fun m => ef_scale m v sl) fun p e s m below meth c T hx hZ hby hml hown hnm hret hlk X eT => by
  refine own_iloadN X hx (hb hby d_scale_0) rfl (pc' := 1) rfl ?_
  refine own_iconst X hx (hb hby d_scale_1) (z := (3 : Int32)) rfl (pc' := 2) rfl ?_
  refine own_iand X hx (hb hby d_scale_2) (pc' := 3) rfl ?_
  refine own_istoreN X hx (hb hby d_scale_3) (Ls' := #[.val (.int v), .val (.int sl), .val (.int (sl &&& (3 : Int32)))]) rfl (pc' := 4) rfl ?_
  refine own_iloadN X hx (hb hby d_scale_4) rfl (pc' := 5) rfl ?_
  refine own_if_ne X hx (hb hby d_scale_5) (pc1 := 8) (pc2 := 14) rfl (by decide) (fun hc5 => ?_) (fun hc5 => ?_)
  · refine own_iloadN X hx (hb hby d_scale_14) rfl (pc' := 15) rfl ?_
    refine own_iconst X hx (hb hby d_scale_15) (z := (1 : Int32)) rfl (pc' := 16) rfl ?_
    refine own_icmp_ne X hx (hb hby d_scale_16) (pc1 := 19) (pc2 := 24) rfl (by decide) (fun hc16 => ?_) (fun hc16 => ?_)
    · refine own_iloadN X hx (hb hby d_scale_24) rfl (pc' := 25) rfl ?_
      refine own_ldcI X hx hZ hown (v := (2147483647 : Int32)) (hw _ (List.mem_of_getElem? (i := 4) rfl)) (hb hby d_scale_25) (pc' := 27) rfl ?_
      refine own_iand X hx (hb hby d_scale_27) (pc' := 28) rfl ?_
      exact own_retI X hx eT hret hlk (Nat.le_refl _) (Nat.le_refl _) (hb hby d_scale_28) ⟨by simp [own_scale, hc5, hc16], rfl, rfl⟩
    · refine own_iloadN X hx (hb hby d_scale_19) rfl (pc' := 20) rfl ?_
      refine own_ldcI X hx hZ hown (v := (65535 : Int32)) (hw _ (List.mem_of_getElem? (i := 32) rfl)) (hb hby d_scale_20) (pc' := 22) rfl ?_
      refine own_iand X hx (hb hby d_scale_22) (pc' := 23) rfl ?_
      exact own_retI X hx eT hret hlk (Nat.le_refl _) (Nat.le_refl _) (hb hby d_scale_23) ⟨by simp [own_scale, hc5, hc16], rfl, rfl⟩
  · refine own_iloadN X hx (hb hby d_scale_8) rfl (pc' := 9) rfl ?_
    refine own_sipush X hx (hb hby d_scale_9) (z := (255 : Int32)) rfl (pc' := 12) rfl ?_
    refine own_iand X hx (hb hby d_scale_12) (pc' := 13) rfl ?_
    exact own_retI X hx eT hret hlk (Nat.le_refl _) (Nat.le_refl _) (hb hby d_scale_13) ⟨by simp [own_scale, hc5], rfl, rfl⟩
set_option maxRecDepth 65536 in
set_option maxHeartbeats 40000000 in
theorem rm_expected {l : Launch} {Z : State} {a0 : Array Value} {h : Heap} (hw : ∀ d ∈ tables_1, d.before a0 Z = true) (q : Int32) (p1 : Int32) (v1 : Int32) (p2 : Int32) (v2 : Int32) (p3 : Int32) (v3 : Int32) : OwnPure l Z (⟨"com/example/gawain/gawain/statespace/ProbabilityIndicesGetPinLaw", "expected", "(IIIIIII)I"⟩ : MethodName) method_3_code 7 (some .int) #[(.int q), (.int p1), (.int v1), (.int p2), (.int v2), (.int p3), (.int v3)] (.int (own_exp q p1 v1 p2 v2 p3 v3)) h :=
 own_met (Q := fun ov oh oL => ov = some (.int (own_exp q p1 v1 p2 v2 p3 v3)) ∧ oh = h ∧ oL = []) (rm := ownR0) (plainFor_of_name pn_com_example_gawain_gawain_statespace_ProbabilityIndicesGetPinLaw) (fun m => ef_expected m q p1 v1 p2 v2 p3 v3) fun p e s m below meth c T hx hZ hby hml hown hnm hret hlk X eT => by
  refine own_iload X hx (hb hby d_expected_0) rfl (pc' := 2) rfl ?_
  refine own_iloadN X hx (hb hby d_expected_2) rfl (pc' := 3) rfl ?_
  refine own_icmp_ne X hx (hb hby d_expected_3) (pc1 := 6) (pc2 := 9) rfl (by decide) (fun hc3 => ?_) (fun hc3 => ?_)
  · refine own_iloadN X hx (hb hby d_expected_9) rfl (pc' := 10) rfl ?_
    refine own_iloadN X hx (hb hby d_expected_10) rfl (pc' := 11) rfl ?_
    refine own_icmp_ne X hx (hb hby d_expected_11) (pc1 := 14) (pc2 := 17) rfl (by decide) (fun hc11 => ?_) (fun hc11 => ?_)
    · refine own_iloadN X hx (hb hby d_expected_17) rfl (pc' := 18) rfl ?_
      refine own_iloadN X hx (hb hby d_expected_18) rfl (pc' := 19) rfl ?_
      refine own_icmp_ne X hx (hb hby d_expected_19) (pc1 := 22) (pc2 := 24) rfl (by decide) (fun hc19 => ?_) (fun hc19 => ?_)
      · refine own_iconst X hx (hb hby d_expected_24) (z := (0 : Int32)) rfl (pc' := 25) rfl ?_
        exact own_retI X hx eT hret hlk (Nat.le_refl _) (Nat.le_refl _) (hb hby d_expected_25) ⟨by simp [own_exp, hc3, hc11, hc19], rfl, rfl⟩
      · refine own_iloadN X hx (hb hby d_expected_22) rfl (pc' := 23) rfl ?_
        exact own_retI X hx eT hret hlk (Nat.le_refl _) (Nat.le_refl _) (hb hby d_expected_23) ⟨by simp [own_exp, hc3, hc11, hc19], rfl, rfl⟩
    · refine own_iload X hx (hb hby d_expected_14) rfl (pc' := 16) rfl ?_
      exact own_retI X hx eT hret hlk (Nat.le_refl _) (Nat.le_refl _) (hb hby d_expected_16) ⟨by simp [own_exp, hc3, hc11], rfl, rfl⟩
  · refine own_iload X hx (hb hby d_expected_6) rfl (pc' := 8) rfl ?_
    exact own_retI X hx eT hret hlk (Nat.le_refl _) (Nat.le_refl _) (hb hby d_expected_8) ⟨by simp [own_exp, hc3], rfl, rfl⟩
set_option maxRecDepth 65536 in
set_option maxHeartbeats 40000000 in
theorem rm_init {l : Launch} {Z : State} {a0 : Array Value} {h : Heap} (hw : ∀ d ∈ tables_1, d.before a0 Z = true) (a : Addr) (n0 n : Nat) (nn : Int32) (hnn : nn.toInt = n) (hn : n ≤ 7) (ga : n0 ≤ a) (E_a : Exa Z h a "com/example/gawain/gawain/statespace/ProbabilityIndices") (F_bytes : Fld Z h a "com/example/gawain/gawain/statespace/ProbabilityIndices" "bytes" "[B" .null) (F_chars : Fld Z h a "com/example/gawain/gawain/statespace/ProbabilityIndices" "chars" "[C" .null) (F_ints : Fld Z h a "com/example/gawain/gawain/statespace/ProbabilityIndices" "ints" "[I" .null) :
    OwnMet l Z (⟨"com/example/gawain/gawain/statespace/ProbabilityIndices", "<init>", "(I)V"⟩ : MethodName) prog_127_method_1_code 2 none #[(.ref a), (.int nn)] ({ frames := 1, cells := 1, slots := 7, locals := 12 } : Room) (fun v h' L => v = none ∧ Fr n0 L ∧ own_PI Z n0 h' a n (fun _ => 0)) h :=
 own_met (Q := fun v h' L => v = none ∧ Fr n0 L ∧ own_PI Z n0 h' a n (fun _ => 0)) (rm := ({ frames := 1, cells := 1, slots := 7, locals := 12 } : Room)) (plainFor_of_name pn_com_example_gawain_gawain_statespace_ProbabilityIndices) (fun m => ef_init m a nn) fun p e s m below meth c T hx hZ hby hml hown hnm hret hlk X eT => by
  have N := Fr.nil n0
  refine own_aloadN X hx (hb hby d_init_0) rfl rfl (pc' := 1) rfl ?_
  obtain ⟨T, X, eT, kI⟩ := Jvm.RoadKit.initO X hx hZ hown (hw _ (List.mem_of_getElem? (i := 11) rfl)) (hw _ (List.mem_of_getElem? (i := 12) rfl)) (hw _ (List.mem_of_getElem? (i := 13) rfl)) eT (g := mkF m 1 #[.val (.ref a), .val (.int nn)] [(.ref a)]) rfl (by rw [hml]; rfl) rfl (hb hby d_init_1) (by decide) (W := 0) (by show 2 * 0 + _ ≤ _; exact Nat.le_of_eq rfl) (by decide)
  refine own_step kI ?_
  show OwnGo p e below s _ _ _ (T.setTop (mkF m 4 #[.val (.ref a), .val (.int nn)] []))
  refine own_aloadN X hx (hb hby d_init_4) rfl rfl (pc' := 5) rfl ?_
  refine own_iloadN X hx (hb hby d_init_5) rfl (pc' := 6) rfl ?_
  refine own_newP X hx hZ (aty := .byte) (hw _ (List.mem_of_getElem? (i := 14) rfl)) eT (n := nn) (own_notneg hnn) (cap := 7) (by rw [own_clamp hnn]; exact hn) (by decide) (by decide) (by decide) (ad := "[B") (by decide) (hb hby d_init_6) (pc' := 8) rfl fun T h1 b k hbs X eT E A EA => ?_
  have ne_b : b ≠ a := by rw [hbs]; exact Nat.ne_of_gt E_a.lt
  have gb : n0 ≤ b := by rw [hbs]; exact Nat.le_trans ga (Nat.le_of_lt E_a.lt)
  replace E_a := E_a.ext E
  replace F_bytes := F_bytes.ext E
  replace F_chars := F_chars.ext E
  replace F_ints := F_ints.ext E
  have A_b : OwnArr Z h1 b .byte n (own_B (fun _ => 0)) := (OwnArr.new (ty := .byte) A (own_clamp hnn)).mono fun _ _ _ q => q
  refine own_putF X hx hZ hown (hw _ (List.mem_of_getElem? (i := 15) rfl)) eT F_bytes E_a (Or.inl (hw _ (List.mem_of_getElem? (i := 16) rfl))) (hw _ (List.mem_of_getElem? (i := 6) rfl)) (ty := (.array .byte)) (by decide) rfl rfl (hb hby d_init_8) (pc' := 11) rfl fun T h1 X eT W => ?_
  replace F_bytes := F_bytes.same W
  replace F_chars := F_chars.other W (Or.inr (slot_ne (Or.inl (hw _ (List.mem_of_getElem? (i := 23) rfl))) (Or.inl (hw _ (List.mem_of_getElem? (i := 16) rfl))) (by decide) (t := (.array .char)) (t' := (.array .byte)) (by decide) (by decide)))
  replace F_ints := F_ints.other W (Or.inr (slot_ne (Or.inl (hw _ (List.mem_of_getElem? (i := 37) rfl))) (Or.inl (hw _ (List.mem_of_getElem? (i := 16) rfl))) (by decide) (t := (.array .int)) (t' := (.array .byte)) (by decide) (by decide)))
  replace E_a := E_a.wr W
  replace A_b := A_b.other W ne_b
  replace N := Fr.snoc X N ga
  exact own_retV X hx eT hret hlk (by decide) (by decide) (hb hby d_init_11) ⟨rfl, N, ga, E_a, fun _ _ => (by show (0 : Int) ≤ (0 : Int32).toInt; decide), b, gb, ne_b, Or.inl ⟨F_bytes, F_chars, F_ints, A_b, fun _ _ => (by show (0 : Int32).toInt ≤ 255; decide)⟩⟩
set_option maxRecDepth 65536 in
set_option maxHeartbeats 40000000 in
theorem rm_set {l : Launch} {Z : State} {a0 : Array Value} {h : Heap} (hw : ∀ d ∈ tables_1, d.before a0 Z = true) (a : Addr) (n0 n : Nat) (f : Nat → Int32) (p1 ix nn : Int32) (hnn : nn.toInt = n) (hn : n ≤ 7) (hp0 : 0 ≤ p1.toInt) (hp1 : p1.toInt < n) (hi0 : 0 ≤ ix.toInt) (K : own_PI Z n0 h a n f) :
    OwnMet l Z (⟨"com/example/gawain/gawain/statespace/ProbabilityIndices", "set", "(II)V"⟩ : MethodName) prog_127_method_3_code 4 none #[(.ref a), (.int p1), (.int ix)] ({ frames := 0, cells := 2, slots := 14, locals := 0 } : Room) (fun v h' L => v = none ∧ Fr n0 L ∧ own_PI Z n0 h' a n (own_upd f p1.toInt.toNat ix)) h :=
 own_met (Q := fun v h' L => v = none ∧ Fr n0 L ∧ own_PI Z n0 h' a n (own_upd f p1.toInt.toNat ix)) (rm := ({ frames := 0, cells := 2, slots := 14, locals := 0 } : Room)) (plainFor_of_name pn_com_example_gawain_gawain_statespace_ProbabilityIndices) (fun m => ef_set m a p1 ix) fun p e s m below meth c T hx hZ hby hml hown hnm hret hlk X eT => by
  obtain ⟨ga, E_a, hpos, b, gb, ne_b, K⟩ := K
  have jB122 : ∀ (T : State) (lc : List Loc) (h1 : Heap) (s3 : Slot) (b : Addr), Stand p l e ({ frames := 0, cells := 2, slots := 14, locals := 0 } : Room) s m #[.ref a, .int p1, .int ix] below meth c T lc 2 14 → T.heap = h1 → Fr n0 lc → Exa Z h1 a "com/example/gawain/gawain/statespace/ProbabilityIndices" → n0 ≤ b → b ≠ a → own_RB Z h1 a b n f → ix.toInt ≤ 255 → OwnGo p e below s (fun v h' L => v = none ∧ Fr n0 L ∧ own_PI Z n0 h' a n (own_upd f p1.toInt.toNat ix)) ({ frames := 0, cells := 2, slots := 14, locals := 0 } : Room).cells ({ frames := 0, cells := 2, slots := 14, locals := 0 } : Room).slots (T.setTop (mkF m 122 #[.val (.ref a), .val (.int p1), .val (.int ix), s3] [])) := by
    intro T lc h1 s3 b X eT N E_a gb ne_b ⟨F_bytes, F_chars, F_ints, A_b, hle⟩ hi1
    refine own_aloadN X hx (hb hby d_set_122) rfl rfl (pc' := 123) rfl ?_
    refine own_getF X hx hZ hown (hw _ (List.mem_of_getElem? (i := 15) rfl)) eT F_bytes (hb hby d_set_123) (pc' := 126) rfl fun T X eT => ?_
    refine own_ifnullN X hx (hb hby d_set_126) (pc' := 129) rfl ?_
    refine own_aloadN X hx (hb hby d_set_129) rfl rfl (pc' := 130) rfl ?_
    refine own_getF X hx hZ hown (hw _ (List.mem_of_getElem? (i := 15) rfl)) eT F_bytes (hb hby d_set_130) (pc' := 133) rfl fun T X eT => ?_
    refine own_iloadN X hx (hb hby d_set_133) rfl (pc' := 134) rfl ?_
    refine own_iloadN X hx (hb hby d_set_134) rfl (pc' := 135) rfl ?_
    refine own_i2b X hx (hb hby d_set_135) (pc' := 136) rfl ?_
    refine own_bastoreA X hx hZ eT A_b hp0 hp1 (own_B (own_upd f p1.toInt.toNat ix)) (fun j w _ q1 q2 => by
        by_cases q : j = p1.toNatClampNeg
        · rw [own_B, own_upd, if_pos (by rw [q]; rfl), q1 q, own_bb ix]
        · rw [own_B, own_upd, if_neg (by intro y; exact q y)]; exact q2 q) (hb hby d_set_136) (pc' := 137) rfl fun T h1 X eT W A_b => ?_
    replace F_bytes := F_bytes.other W (Or.inl ne_b.symm)
    replace F_chars := F_chars.other W (Or.inl ne_b.symm)
    replace F_ints := F_ints.other W (Or.inl ne_b.symm)
    replace E_a := E_a.wr W
    replace N := Fr.snoc X N gb
    refine own_goto X hx (hb hby d_set_137) (pc' := 165) (by decide) ?_
    exact own_retV X hx eT hret hlk (by decide) (by decide) (hb hby d_set_165) ⟨rfl, N, ga, E_a, own_updn (P := fun z => 0 ≤ z) hpos hi0, b, gb, ne_b, Or.inl ⟨F_bytes, F_chars, F_ints, A_b, own_updn (P := fun z => z ≤ 255) hle hi1⟩⟩
  have jC122 : ∀ (T : State) (lc : List Loc) (h1 : Heap) (s3 : Slot) (b : Addr), Stand p l e ({ frames := 0, cells := 2, slots := 14, locals := 0 } : Room) s m #[.ref a, .int p1, .int ix] below meth c T lc 2 14 → T.heap = h1 → Fr n0 lc → Exa Z h1 a "com/example/gawain/gawain/statespace/ProbabilityIndices" → n0 ≤ b → b ≠ a → own_RC Z h1 a b n f → ix.toInt ≤ 65535 → OwnGo p e below s (fun v h' L => v = none ∧ Fr n0 L ∧ own_PI Z n0 h' a n (own_upd f p1.toInt.toNat ix)) ({ frames := 0, cells := 2, slots := 14, locals := 0 } : Room).cells ({ frames := 0, cells := 2, slots := 14, locals := 0 } : Room).slots (T.setTop (mkF m 122 #[.val (.ref a), .val (.int p1), .val (.int ix), s3] [])) := by
    intro T lc h1 s3 b X eT N E_a gb ne_b ⟨F_bytes, F_chars, F_ints, A_b, hle⟩ hi1
    refine own_aloadN X hx (hb hby d_set_122) rfl rfl (pc' := 123) rfl ?_
    refine own_getF X hx hZ hown (hw _ (List.mem_of_getElem? (i := 15) rfl)) eT F_bytes (hb hby d_set_123) (pc' := 126) rfl fun T X eT => ?_
    refine own_ifnullY X hx (hb hby d_set_126) (pc2 := 140) (by decide) ?_
    refine own_aloadN X hx (hb hby d_set_140) rfl rfl (pc' := 141) rfl ?_
    refine own_getF X hx hZ hown (hw _ (List.mem_of_getElem? (i := 22) rfl)) eT F_chars (hb hby d_set_141) (pc' := 144) rfl fun T X eT => ?_
    refine own_ifnullN X hx (hb hby d_set_144) (pc' := 147) rfl ?_
    refine own_aloadN X hx (hb hby d_set_147) rfl rfl (pc' := 148) rfl ?_
    refine own_getF X hx hZ hown (hw _ (List.mem_of_getElem? (i := 22) rfl)) eT F_chars (hb hby d_set_148) (pc' := 151) rfl fun T X eT => ?_
    refine own_iloadN X hx (hb hby d_set_151) rfl (pc' := 152) rfl ?_
    refine own_iloadN X hx (hb hby d_set_152) rfl (pc' := 153) rfl ?_
    refine own_i2c X hx (hb hby d_set_153) (pc' := 154) rfl ?_
    refine own_castoreA X hx hZ eT A_b hp0 hp1 (own_I (own_upd f p1.toInt.toNat ix)) (fun j w _ q1 q2 => by
        by_cases q : j = p1.toNatClampNeg
        · rw [own_I, own_upd, if_pos (by rw [q]; rfl), q1 q, own_cc2 ix hi0 hi1]
        · rw [own_I, own_upd, if_neg (by intro y; exact q y)]; exact q2 q) (hb hby d_set_154) (pc' := 155) rfl fun T h1 X eT W A_b => ?_
    replace F_bytes := F_bytes.other W (Or.inl ne_b.symm)
    replace F_chars := F_chars.other W (Or.inl ne_b.symm)
    replace F_ints := F_ints.other W (Or.inl ne_b.symm)
    replace E_a := E_a.wr W
    replace N := Fr.snoc X N gb
    refine own_goto X hx (hb hby d_set_155) (pc' := 165) (by decide) ?_
    exact own_retV X hx eT hret hlk (by decide) (by decide) (hb hby d_set_165) ⟨rfl, N, ga, E_a, own_updn (P := fun z => 0 ≤ z) hpos hi0, b, gb, ne_b, Or.inr (Or.inl ⟨F_bytes, F_chars, F_ints, A_b, own_updn (P := fun z => z ≤ 65535) hle hi1⟩)⟩
  have jI122 : ∀ (T : State) (lc : List Loc) (h1 : Heap) (s3 : Slot) (b : Addr), Stand p l e ({ frames := 0, cells := 2, slots := 14, locals := 0 } : Room) s m #[.ref a, .int p1, .int ix] below meth c T lc 2 14 → T.heap = h1 → Fr n0 lc → Exa Z h1 a "com/example/gawain/gawain/statespace/ProbabilityIndices" → n0 ≤ b → b ≠ a → own_RI Z h1 a b n f → OwnGo p e below s (fun v h' L => v = none ∧ Fr n0 L ∧ own_PI Z n0 h' a n (own_upd f p1.toInt.toNat ix)) ({ frames := 0, cells := 2, slots := 14, locals := 0 } : Room).cells ({ frames := 0, cells := 2, slots := 14, locals := 0 } : Room).slots (T.setTop (mkF m 122 #[.val (.ref a), .val (.int p1), .val (.int ix), s3] [])) := by
    intro T lc h1 s3 b X eT N E_a gb ne_b ⟨F_bytes, F_chars, F_ints, A_b⟩
    refine own_aloadN X hx (hb hby d_set_122) rfl rfl (pc' := 123) rfl ?_
    refine own_getF X hx hZ hown (hw _ (List.mem_of_getElem? (i := 15) rfl)) eT F_bytes (hb hby d_set_123) (pc' := 126) rfl fun T X eT => ?_
    refine own_ifnullY X hx (hb hby d_set_126) (pc2 := 140) (by decide) ?_
    refine own_aloadN X hx (hb hby d_set_140) rfl rfl (pc' := 141) rfl ?_
    refine own_getF X hx hZ hown (hw _ (List.mem_of_getElem? (i := 22) rfl)) eT F_chars (hb hby d_set_141) (pc' := 144) rfl fun T X eT => ?_
    refine own_ifnullY X hx (hb hby d_set_144) (pc2 := 158) (by decide) ?_
    refine own_aloadN X hx (hb hby d_set_158) rfl rfl (pc' := 159) rfl ?_
    refine own_getF X hx hZ hown (hw _ (List.mem_of_getElem? (i := 36) rfl)) eT F_ints (hb hby d_set_159) (pc' := 162) rfl fun T X eT => ?_
    refine own_iloadN X hx (hb hby d_set_162) rfl (pc' := 163) rfl ?_
    refine own_iloadN X hx (hb hby d_set_163) rfl (pc' := 164) rfl ?_
    refine own_iastoreA X hx hZ eT A_b hp0 hp1 (own_I (own_upd f p1.toInt.toNat ix)) (fun j w _ q1 q2 => by
        by_cases q : j = p1.toNatClampNeg
        · rw [own_I, own_upd, if_pos (by rw [q]; rfl), q1 q]
        · rw [own_I, own_upd, if_neg (by intro y; exact q y)]; exact q2 q) (hb hby d_set_164) (pc' := 165) rfl fun T h1 X eT W A_b => ?_
    replace F_bytes := F_bytes.other W (Or.inl ne_b.symm)
    replace F_chars := F_chars.other W (Or.inl ne_b.symm)
    replace F_ints := F_ints.other W (Or.inl ne_b.symm)
    replace E_a := E_a.wr W
    replace N := Fr.snoc X N gb
    exact own_retV X hx eT hret hlk (by decide) (by decide) (hb hby d_set_165) ⟨rfl, N, ga, E_a, own_updn (P := fun z => 0 ≤ z) hpos hi0, b, gb, ne_b, Or.inr (Or.inr ⟨F_bytes, F_chars, F_ints, A_b⟩)⟩
  have jC64 : ∀ (T : State) (lc : List Loc) (h1 : Heap) (s3 : Slot) (b : Addr), Stand p l e ({ frames := 0, cells := 2, slots := 14, locals := 0 } : Room) s m #[.ref a, .int p1, .int ix] below meth c T lc 1 7 → T.heap = h1 → Fr n0 lc → Exa Z h1 a "com/example/gawain/gawain/statespace/ProbabilityIndices" → n0 ≤ b → b ≠ a → (s3 = .unset ∨ ∃ q : Int32, s3 = .val (.int q)) → own_RC Z h1 a b n f → OwnGo p e below s (fun v h' L => v = none ∧ Fr n0 L ∧ own_PI Z n0 h' a n (own_upd f p1.toInt.toNat ix)) ({ frames := 0, cells := 2, slots := 14, locals := 0 } : Room).cells ({ frames := 0, cells := 2, slots := 14, locals := 0 } : Room).slots (T.setTop (mkF m 64 #[.val (.ref a), .val (.int p1), .val (.int ix), s3] [])) := by
    intro T lc h1 s3 b X eT N E_a gb ne_b hs3 ⟨F_bytes, F_chars, F_ints, A_b, hle⟩
    refine own_aloadN X hx (hb hby d_set_64) rfl rfl (pc' := 65) rfl ?_
    refine own_getF X hx hZ hown (hw _ (List.mem_of_getElem? (i := 22) rfl)) eT F_chars (hb hby d_set_65) (pc' := 68) rfl fun T X eT => ?_
    refine own_ifnullN X hx (hb hby d_set_68) (pc' := 71) rfl ?_
    refine own_iloadN X hx (hb hby d_set_71) rfl (pc' := 72) rfl ?_
    refine own_ldcI X hx hZ hown (v := (65535 : Int32)) (hw _ (List.mem_of_getElem? (i := 34) rfl)) (hb hby d_set_72) (pc' := 74) rfl ?_
    refine own_icmp_le X hx (hb hby d_set_74) (pc1 := 77) (pc2 := 122) rfl (by decide) (fun hc74 => ?_) (fun hc74 => ?_)
    · exact jC122 T lc h1 s3 b (X.more (by decide) (by decide)) eT N E_a gb ne_b ⟨F_bytes, F_chars, F_ints, A_b, hle⟩ (by have q := own_geI hc74; rw [own_l65535] at q; exact q)
    · refine own_aloadN X hx (hb hby d_set_77) rfl rfl (pc' := 78) rfl ?_
      refine own_aloadN X hx (hb hby d_set_78) rfl rfl (pc' := 79) rfl ?_
      refine own_getF X hx hZ hown (hw _ (List.mem_of_getElem? (i := 22) rfl)) eT F_chars (hb hby d_set_79) (pc' := 82) rfl fun T X eT => ?_
      refine own_lengthA X hx hZ eT A_b (z := nn) hnn (hb hby d_set_82) (pc' := 83) rfl ?_
      refine own_newP X hx hZ (aty := .int) (hw _ (List.mem_of_getElem? (i := 35) rfl)) eT (n := nn) (own_notneg hnn) (cap := 7) (by rw [own_clamp hnn]; exact hn) (by decide) (by decide) (by decide) (ad := "[I") (by decide) (hb hby d_set_83) (pc' := 85) rfl fun T h1 b2 k hbs X eT E A EA => ?_
      have ne_2 : b2 ≠ a := by rw [hbs]; exact Nat.ne_of_gt E_a.lt
      have ne_12 : b ≠ b2 := by rw [hbs]; exact Nat.ne_of_lt A_b.lt
      have g2 : n0 ≤ b2 := by rw [hbs]; exact Nat.le_trans ga (Nat.le_of_lt E_a.lt)
      replace E_a := E_a.ext E
      replace A_b := A_b.ext E
      replace F_bytes := F_bytes.ext E
      replace F_chars := F_chars.ext E
      replace F_ints := F_ints.ext E
      have A_2 : OwnArr Z h1 b2 .int n (own_up f 0) := (OwnArr.new (ty := .int) A (own_clamp hnn)).mono fun _ _ _ _ y => absurd y (Nat.not_lt_zero _)
      refine own_putF X hx hZ hown (hw _ (List.mem_of_getElem? (i := 36) rfl)) eT F_ints E_a (Or.inl (hw _ (List.mem_of_getElem? (i := 37) rfl))) (hw _ (List.mem_of_getElem? (i := 6) rfl)) (ty := (.array .int)) (by decide) rfl rfl (hb hby d_set_85) (pc' := 88) rfl fun T h1 X eT W => ?_
      replace F_bytes := F_bytes.other W (Or.inr (slot_ne (Or.inl (hw _ (List.mem_of_getElem? (i := 16) rfl))) (Or.inl (hw _ (List.mem_of_getElem? (i := 37) rfl))) (by decide) (t := (.array .byte)) (t' := (.array .int)) (by decide) (by decide)))
      replace F_chars := F_chars.other W (Or.inr (slot_ne (Or.inl (hw _ (List.mem_of_getElem? (i := 23) rfl))) (Or.inl (hw _ (List.mem_of_getElem? (i := 37) rfl))) (by decide) (t := (.array .char)) (t' := (.array .int)) (by decide) (by decide)))
      replace F_ints := F_ints.same W
      replace E_a := E_a.wr W
      replace A_b := A_b.other W ne_b
      replace A_2 := A_2.other W ne_2
      replace N := Fr.snoc X N ga
      refine own_iconst X hx (hb hby d_set_88) (z := (0 : Int32)) rfl (pc' := 89) rfl ?_
      refine own_istoreN X hx (hb hby d_set_89) (Ls' := #[.val (.ref a), .val (.int p1), .val (.int ix), .val (.int (0 : Int32))]) (by rcases hs3 with rfl | ⟨q, rfl⟩ <;> rfl) (pc' := 90) rfl ?_
      have l2 : ∀ (r k : Nat) (T : State) (lc : List Loc) (h1 : Heap) (qi : Int32), qi.toInt = k → k ≤ n → n - k = r → Stand p l e ({ frames := 0, cells := 2, slots := 14, locals := 0 } : Room) s m #[.ref a, .int p1, .int ix] below meth c T lc 2 14 → T.heap = h1 → Fr n0 lc → Exa Z h1 a "com/example/gawain/gawain/statespace/ProbabilityIndices" → (Fld Z h1 a "com/example/gawain/gawain/statespace/ProbabilityIndices" "bytes" "[B" .null) → (Fld Z h1 a "com/example/gawain/gawain/statespace/ProbabilityIndices" "chars" "[C" (.ref b)) → (Fld Z h1 a "com/example/gawain/gawain/statespace/ProbabilityIndices" "ints" "[I" (.ref b2)) → OwnArr Z h1 b .char n (own_I f) → OwnArr Z h1 b2 .int n (own_up f k) → OwnGo p e below s (fun v h' L => v = none ∧ Fr n0 L ∧ own_PI Z n0 h' a n (own_upd f p1.toInt.toNat ix)) ({ frames := 0, cells := 2, slots := 14, locals := 0 } : Room).cells ({ frames := 0, cells := 2, slots := 14, locals := 0 } : Room).slots (T.setTop (mkF m 90 #[.val (.ref a), .val (.int p1), .val (.int ix), .val (.int qi)] [])) := by
        intro r
        induction r using Nat.strongRecOn with
        | _ r ih =>
          intro k T lc h1 qi hq hk hr X eT N E_a F_bytes F_chars F_ints A_b A_2
          refine own_iloadN X hx (hb hby d_set_90) rfl (pc' := 91) rfl ?_
          refine own_aloadN X hx (hb hby d_set_91) rfl rfl (pc' := 92) rfl ?_
          refine own_getF X hx hZ hown (hw _ (List.mem_of_getElem? (i := 22) rfl)) eT F_chars (hb hby d_set_92) (pc' := 95) rfl fun T X eT => ?_
          refine own_lengthA X hx hZ eT A_b (z := nn) hnn (hb hby d_set_95) (pc' := 96) rfl ?_
          refine own_icmp_ge X hx (hb hby d_set_96) (pc1 := 99) (pc2 := 117) rfl (by decide) (fun hc96 => ?_) (fun hc96 => ?_)
          · refine own_aloadN X hx (hb hby d_set_117) rfl rfl (pc' := 118) rfl ?_
            refine own_aconst_null X hx (hb hby d_set_118) (pc' := 119) rfl ?_
            refine own_putF X hx hZ hown (hw _ (List.mem_of_getElem? (i := 22) rfl)) eT F_chars E_a (Or.inl (hw _ (List.mem_of_getElem? (i := 23) rfl))) (hw _ (List.mem_of_getElem? (i := 6) rfl)) (ty := (.array .char)) (by decide) rfl rfl (hb hby d_set_119) (pc' := 122) rfl fun T h1 X eT W => ?_
            replace F_bytes := F_bytes.other W (Or.inr (slot_ne (Or.inl (hw _ (List.mem_of_getElem? (i := 16) rfl))) (Or.inl (hw _ (List.mem_of_getElem? (i := 23) rfl))) (by decide) (t := (.array .byte)) (t' := (.array .char)) (by decide) (by decide)))
            replace F_chars := F_chars.same W
            replace F_ints := F_ints.other W (Or.inr (slot_ne (Or.inl (hw _ (List.mem_of_getElem? (i := 37) rfl))) (Or.inl (hw _ (List.mem_of_getElem? (i := 23) rfl))) (by decide) (t := (.array .int)) (t' := (.array .char)) (by decide) (by decide)))
            replace E_a := E_a.wr W
            replace A_b := A_b.other W ne_b
            replace A_2 := A_2.other W ne_2
            replace N := Fr.snoc X N ga
            have hge := own_geI hc96
            replace A_2 : OwnArr Z h1 b2 .int n (own_I f) := A_2.mono fun j v hj q => q (by omega)
            exact jI122 T _ h1 _ b2 X eT N E_a g2 ne_2 ⟨F_bytes, F_chars, F_ints, A_2⟩
          · refine own_aloadN X hx (hb hby d_set_99) rfl rfl (pc' := 100) rfl ?_
            refine own_getF X hx hZ hown (hw _ (List.mem_of_getElem? (i := 36) rfl)) eT F_ints (hb hby d_set_100) (pc' := 103) rfl fun T X eT => ?_
            refine own_iloadN X hx (hb hby d_set_103) rfl (pc' := 104) rfl ?_
            refine own_aloadN X hx (hb hby d_set_104) rfl rfl (pc' := 105) rfl ?_
            refine own_getF X hx hZ hown (hw _ (List.mem_of_getElem? (i := 22) rfl)) eT F_chars (hb hby d_set_105) (pc' := 108) rfl fun T X eT => ?_
            refine own_iloadN X hx (hb hby d_set_108) rfl (pc' := 109) rfl ?_
            have hlt := own_ltI hc96
            have hcl := own_clamp hq
            refine own_caloadA X hx hZ eT A_b (by omega) (by omega) (hb hby d_set_109) (pc' := 110) rfl fun v hv => ?_
            rw [hcl] at hv
            obtain rfl : v = .int (f k) := hv
            refine own_iastoreA X hx hZ eT A_2 (by omega) (by omega) (own_up f (k + 1)) (fun j w _ q1 q2 => by
                intro hj
                by_cases q : j = qi.toNatClampNeg
                · rw [q1 q, q, hcl]
                · exact q2 q (by omega)) (hb hby d_set_110) (pc' := 111) rfl fun T h1 X eT W A_2 => ?_
            replace F_bytes := F_bytes.other W (Or.inl ne_2.symm)
            replace F_chars := F_chars.other W (Or.inl ne_2.symm)
            replace F_ints := F_ints.other W (Or.inl ne_2.symm)
            replace A_b := A_b.other W ne_12
            replace E_a := E_a.wr W
            replace N := Fr.snoc X N g2
            refine own_iinc X hx (hb hby d_set_111) rfl (z := (qi + (1 : Int32))) rfl (Ls' := #[.val (.ref a), .val (.int p1), .val (.int ix), .val (.int (qi + (1 : Int32)))]) rfl (pc' := 114) rfl ?_
            refine own_goto X hx (hb hby d_set_114) (pc' := 90) (by decide) ?_
            exact ih _ (by omega) (k + 1) T _ h1 (qi + 1) (own_inc hq (by omega)) (by omega) rfl X eT N E_a F_bytes F_chars F_ints A_b A_2
      exact l2 _ 0 T _ h1 0 rfl (Nat.zero_le _) rfl X eT N E_a F_bytes F_chars F_ints A_b A_2
  have N := Fr.nil n0
  rcases K with ⟨F_bytes, F_chars, F_ints, A_b, hle⟩ | ⟨F_bytes, F_chars, F_ints, A_b, hle⟩ | ⟨F_bytes, F_chars, F_ints, A_b⟩
  · refine own_aloadN X hx (hb hby d_set_0) rfl rfl (pc' := 1) rfl ?_
    refine own_getF X hx hZ hown (hw _ (List.mem_of_getElem? (i := 15) rfl)) eT F_bytes (hb hby d_set_1) (pc' := 4) rfl fun T X eT => ?_
    refine own_ifnullN X hx (hb hby d_set_4) (pc' := 7) rfl ?_
    refine own_iloadN X hx (hb hby d_set_7) rfl (pc' := 8) rfl ?_
    refine own_sipush X hx (hb hby d_set_8) (z := (255 : Int32)) rfl (pc' := 11) rfl ?_
    refine own_icmp_le X hx (hb hby d_set_11) (pc1 := 14) (pc2 := 64) rfl (by decide) (fun hc11 => ?_) (fun hc11 => ?_)
    · refine own_aloadN X hx (hb hby d_set_64) rfl rfl (pc' := 65) rfl ?_
      refine own_getF X hx hZ hown (hw _ (List.mem_of_getElem? (i := 22) rfl)) eT F_chars (hb hby d_set_65) (pc' := 68) rfl fun T X eT => ?_
      refine own_ifnullY X hx (hb hby d_set_68) (pc2 := 122) (by decide) ?_
      exact jB122 T _ _ .unset b (X.more (by decide) (by decide)) eT N E_a gb ne_b ⟨F_bytes, F_chars, F_ints, A_b, hle⟩ (by have q := own_geI hc11; rw [own_l255] at q; exact q)
    · refine own_aloadN X hx (hb hby d_set_14) rfl rfl (pc' := 15) rfl ?_
      refine own_aloadN X hx (hb hby d_set_15) rfl rfl (pc' := 16) rfl ?_
      refine own_getF X hx hZ hown (hw _ (List.mem_of_getElem? (i := 15) rfl)) eT F_bytes (hb hby d_set_16) (pc' := 19) rfl fun T X eT => ?_
      refine own_lengthA X hx hZ eT A_b (z := nn) hnn (hb hby d_set_19) (pc' := 20) rfl ?_
      refine own_newP X hx hZ (aty := .char) (hw _ (List.mem_of_getElem? (i := 33) rfl)) eT (n := nn) (own_notneg hnn) (cap := 7) (by rw [own_clamp hnn]; exact hn) (by decide) (by decide) (by decide) (ad := "[C") (by decide) (hb hby d_set_20) (pc' := 22) rfl fun T h1 b2 k hbs X eT E A EA => ?_
      have ne_2 : b2 ≠ a := by rw [hbs]; exact Nat.ne_of_gt E_a.lt
      have ne_12 : b ≠ b2 := by rw [hbs]; exact Nat.ne_of_lt A_b.lt
      have g2 : n0 ≤ b2 := by rw [hbs]; exact Nat.le_trans ga (Nat.le_of_lt E_a.lt)
      replace E_a := E_a.ext E
      replace A_b := A_b.ext E
      replace F_bytes := F_bytes.ext E
      replace F_chars := F_chars.ext E
      replace F_ints := F_ints.ext E
      have A_2 : OwnArr Z h1 b2 .char n (own_up f 0) := (OwnArr.new (ty := .char) A (own_clamp hnn)).mono fun _ _ _ _ y => absurd y (Nat.not_lt_zero _)
      refine own_putF X hx hZ hown (hw _ (List.mem_of_getElem? (i := 22) rfl)) eT F_chars E_a (Or.inl (hw _ (List.mem_of_getElem? (i := 23) rfl))) (hw _ (List.mem_of_getElem? (i := 6) rfl)) (ty := (.array .char)) (by decide) rfl rfl (hb hby d_set_22) (pc' := 25) rfl fun T h1 X eT W => ?_
      replace F_bytes := F_bytes.other W (Or.inr (slot_ne (Or.inl (hw _ (List.mem_of_getElem? (i := 16) rfl))) (Or.inl (hw _ (List.mem_of_getElem? (i := 23) rfl))) (by decide) (t := (.array .byte)) (t' := (.array .char)) (by decide) (by decide)))
      replace F_chars := F_chars.same W
      replace F_ints := F_ints.other W (Or.inr (slot_ne (Or.inl (hw _ (List.mem_of_getElem? (i := 37) rfl))) (Or.inl (hw _ (List.mem_of_getElem? (i := 23) rfl))) (by decide) (t := (.array .int)) (t' := (.array .char)) (by decide) (by decide)))
      replace E_a := E_a.wr W
      replace A_b := A_b.other W ne_b
      replace A_2 := A_2.other W ne_2
      replace N := Fr.snoc X N ga
      refine own_iconst X hx (hb hby d_set_25) (z := (0 : Int32)) rfl (pc' := 26) rfl ?_
      refine own_istoreN X hx (hb hby d_set_26) (Ls' := #[.val (.ref a), .val (.int p1), .val (.int ix), .val (.int (0 : Int32))]) rfl (pc' := 27) rfl ?_
      have l1 : ∀ (r k : Nat) (T : State) (lc : List Loc) (h1 : Heap) (qi : Int32), qi.toInt = k → k ≤ n → n - k = r → Stand p l e ({ frames := 0, cells := 2, slots := 14, locals := 0 } : Room) s m #[.ref a, .int p1, .int ix] below meth c T lc 1 7 → T.heap = h1 → Fr n0 lc → Exa Z h1 a "com/example/gawain/gawain/statespace/ProbabilityIndices" → (Fld Z h1 a "com/example/gawain/gawain/statespace/ProbabilityIndices" "bytes" "[B" (.ref b)) → (Fld Z h1 a "com/example/gawain/gawain/statespace/ProbabilityIndices" "chars" "[C" (.ref b2)) → (Fld Z h1 a "com/example/gawain/gawain/statespace/ProbabilityIndices" "ints" "[I" .null) → OwnArr Z h1 b .byte n (own_B f) → OwnArr Z h1 b2 .char n (own_up f k) → OwnGo p e below s (fun v h' L => v = none ∧ Fr n0 L ∧ own_PI Z n0 h' a n (own_upd f p1.toInt.toNat ix)) ({ frames := 0, cells := 2, slots := 14, locals := 0 } : Room).cells ({ frames := 0, cells := 2, slots := 14, locals := 0 } : Room).slots (T.setTop (mkF m 27 #[.val (.ref a), .val (.int p1), .val (.int ix), .val (.int qi)] [])) := by
        intro r
        induction r using Nat.strongRecOn with
        | _ r ih =>
          intro k T lc h1 qi hq hk hr X eT N E_a F_bytes F_chars F_ints A_b A_2
          refine own_iloadN X hx (hb hby d_set_27) rfl (pc' := 28) rfl ?_
          refine own_aloadN X hx (hb hby d_set_28) rfl rfl (pc' := 29) rfl ?_
          refine own_getF X hx hZ hown (hw _ (List.mem_of_getElem? (i := 15) rfl)) eT F_bytes (hb hby d_set_29) (pc' := 32) rfl fun T X eT => ?_
          refine own_lengthA X hx hZ eT A_b (z := nn) hnn (hb hby d_set_32) (pc' := 33) rfl ?_
          refine own_icmp_ge X hx (hb hby d_set_33) (pc1 := 36) (pc2 := 59) rfl (by decide) (fun hc33 => ?_) (fun hc33 => ?_)
          · refine own_aloadN X hx (hb hby d_set_59) rfl rfl (pc' := 60) rfl ?_
            refine own_aconst_null X hx (hb hby d_set_60) (pc' := 61) rfl ?_
            refine own_putF X hx hZ hown (hw _ (List.mem_of_getElem? (i := 15) rfl)) eT F_bytes E_a (Or.inl (hw _ (List.mem_of_getElem? (i := 16) rfl))) (hw _ (List.mem_of_getElem? (i := 6) rfl)) (ty := (.array .byte)) (by decide) rfl rfl (hb hby d_set_61) (pc' := 64) rfl fun T h1 X eT W => ?_
            replace F_bytes := F_bytes.same W
            replace F_chars := F_chars.other W (Or.inr (slot_ne (Or.inl (hw _ (List.mem_of_getElem? (i := 23) rfl))) (Or.inl (hw _ (List.mem_of_getElem? (i := 16) rfl))) (by decide) (t := (.array .char)) (t' := (.array .byte)) (by decide) (by decide)))
            replace F_ints := F_ints.other W (Or.inr (slot_ne (Or.inl (hw _ (List.mem_of_getElem? (i := 37) rfl))) (Or.inl (hw _ (List.mem_of_getElem? (i := 16) rfl))) (by decide) (t := (.array .int)) (t' := (.array .byte)) (by decide) (by decide)))
            replace E_a := E_a.wr W
            replace A_b := A_b.other W ne_b
            replace A_2 := A_2.other W ne_2
            replace N := Fr.snoc X N ga
            have hge := own_geI hc33
            replace A_2 : OwnArr Z h1 b2 .char n (own_I f) := A_2.mono fun j v hj q => q (by omega)
            exact jC64 T _ h1 _ b2 X eT N E_a g2 ne_2 (Or.inr ⟨_, rfl⟩) ⟨F_bytes, F_chars, F_ints, A_2, fun j hj => by have := hle j hj; omega⟩
          · refine own_aloadN X hx (hb hby d_set_36) rfl rfl (pc' := 37) rfl ?_
            refine own_getF X hx hZ hown (hw _ (List.mem_of_getElem? (i := 22) rfl)) eT F_chars (hb hby d_set_37) (pc' := 40) rfl fun T X eT => ?_
            refine own_iloadN X hx (hb hby d_set_40) rfl (pc' := 41) rfl ?_
            refine own_aloadN X hx (hb hby d_set_41) rfl rfl (pc' := 42) rfl ?_
            refine own_getF X hx hZ hown (hw _ (List.mem_of_getElem? (i := 15) rfl)) eT F_bytes (hb hby d_set_42) (pc' := 45) rfl fun T X eT => ?_
            refine own_iloadN X hx (hb hby d_set_45) rfl (pc' := 46) rfl ?_
            have hlt := own_ltI hc33
            have hcl := own_clamp hq
            refine own_baloadA X hx hZ eT A_b (by omega) (by omega) (hb hby d_set_46) (pc' := 47) rfl fun v hv => ?_
            rw [hcl] at hv
            obtain rfl : v = .int (f k).toInt8.toInt32 := hv
            refine own_sipush X hx (hb hby d_set_47) (z := (255 : Int32)) rfl (pc' := 50) rfl ?_
            refine own_iand X hx (hb hby d_set_50) (pc' := 51) rfl ?_
            refine own_i2c X hx (hb hby d_set_51) (pc' := 52) rfl ?_
            refine own_castoreA X hx hZ eT A_2 (by omega) (by omega) (own_up f (k + 1)) (fun j w _ q1 q2 => by
                intro hj
                by_cases q : j = qi.toNatClampNeg
                · rw [q1 q, own_cc1 _ (hpos k (by omega)) (hle k (by omega)), q, hcl]
                · exact q2 q (by omega)) (hb hby d_set_52) (pc' := 53) rfl fun T h1 X eT W A_2 => ?_
            replace F_bytes := F_bytes.other W (Or.inl ne_2.symm)
            replace F_chars := F_chars.other W (Or.inl ne_2.symm)
            replace F_ints := F_ints.other W (Or.inl ne_2.symm)
            replace A_b := A_b.other W ne_12
            replace E_a := E_a.wr W
            replace N := Fr.snoc X N g2
            refine own_iinc X hx (hb hby d_set_53) rfl (z := (qi + (1 : Int32))) rfl (Ls' := #[.val (.ref a), .val (.int p1), .val (.int ix), .val (.int (qi + (1 : Int32)))]) rfl (pc' := 56) rfl ?_
            refine own_goto X hx (hb hby d_set_56) (pc' := 27) (by decide) ?_
            exact ih _ (by omega) (k + 1) T _ h1 (qi + 1) (own_inc hq (by omega)) (by omega) rfl X eT N E_a F_bytes F_chars F_ints A_b A_2
      exact l1 _ 0 T _ h1 0 rfl (Nat.zero_le _) rfl X eT N E_a F_bytes F_chars F_ints A_b A_2
  · refine own_aloadN X hx (hb hby d_set_0) rfl rfl (pc' := 1) rfl ?_
    refine own_getF X hx hZ hown (hw _ (List.mem_of_getElem? (i := 15) rfl)) eT F_bytes (hb hby d_set_1) (pc' := 4) rfl fun T X eT => ?_
    refine own_ifnullY X hx (hb hby d_set_4) (pc2 := 64) (by decide) ?_
    exact jC64 T _ _ .unset b (X.more (by decide) (by decide)) eT N E_a gb ne_b (Or.inl rfl) ⟨F_bytes, F_chars, F_ints, A_b, hle⟩
  · refine own_aloadN X hx (hb hby d_set_0) rfl rfl (pc' := 1) rfl ?_
    refine own_getF X hx hZ hown (hw _ (List.mem_of_getElem? (i := 15) rfl)) eT F_bytes (hb hby d_set_1) (pc' := 4) rfl fun T X eT => ?_
    refine own_ifnullY X hx (hb hby d_set_4) (pc2 := 64) (by decide) ?_
    refine own_aloadN X hx (hb hby d_set_64) rfl rfl (pc' := 65) rfl ?_
    refine own_getF X hx hZ hown (hw _ (List.mem_of_getElem? (i := 22) rfl)) eT F_chars (hb hby d_set_65) (pc' := 68) rfl fun T X eT => ?_
    refine own_ifnullY X hx (hb hby d_set_68) (pc2 := 122) (by decide) ?_
    exact jI122 T _ _ .unset b (X.more (by decide) (by decide)) eT N E_a gb ne_b ⟨F_bytes, F_chars, F_ints, A_b⟩
set_option maxRecDepth 65536 in
set_option maxHeartbeats 40000000 in
theorem rm_get {l : Launch} {Z : State} {a0 : Array Value} {h : Heap} (hw : ∀ d ∈ tables_1, d.before a0 Z = true) (a : Addr) (n0 n : Nat) (f : Nat → Int32) (q1 : Int32) (hq0 : 0 ≤ q1.toInt) (hq1 : q1.toInt < n) (K : own_PI Z n0 h a n f) : OwnPure l Z (⟨"com/example/gawain/gawain/statespace/ProbabilityIndices", "get", "(I)I"⟩ : MethodName) prog_127_method_2_code 3 (some .int) #[(.ref a), (.int q1)] (.int (f q1.toInt.toNat)) h :=
 own_met (Q := fun ov oh oL => ov = some (.int (f q1.toInt.toNat)) ∧ oh = h ∧ oL = []) (rm := ownR0) (plainFor_of_name pn_com_example_gawain_gawain_statespace_ProbabilityIndices) (fun m => ef_get m a q1) fun p e s m below meth c T hx hZ hby hml hown hnm hret hlk X eT => by
  obtain ⟨ga, E_a, hpos, b, gb, ne_b, K⟩ := K
  rcases K with ⟨F_bytes, F_chars, F_ints, A_b, hle⟩ | ⟨F_bytes, F_chars, F_ints, A_b, hle⟩ | ⟨F_bytes, F_chars, F_ints, A_b⟩
  · refine own_aloadN X hx (hb hby d_get_0) rfl rfl (pc' := 1) rfl ?_
    refine own_getF X hx hZ hown (hw _ (List.mem_of_getElem? (i := 15) rfl)) eT F_bytes (hb hby d_get_1) (pc' := 4) rfl fun T X eT => ?_
    refine own_ifnullN X hx (hb hby d_get_4) (pc' := 7) rfl ?_
    refine own_aloadN X hx (hb hby d_get_7) rfl rfl (pc' := 8) rfl ?_
    refine own_getF X hx hZ hown (hw _ (List.mem_of_getElem? (i := 15) rfl)) eT F_bytes (hb hby d_get_8) (pc' := 11) rfl fun T X eT => ?_
    refine own_iloadN X hx (hb hby d_get_11) rfl (pc' := 12) rfl ?_
    refine own_baloadA X hx hZ eT A_b hq0 hq1 (hb hby d_get_12) (pc' := 13) rfl fun v hv => ?_
    obtain rfl : v = .int (f q1.toInt.toNat).toInt8.toInt32 := hv
    refine own_sipush X hx (hb hby d_get_13) (z := (255 : Int32)) rfl (pc' := 16) rfl ?_
    refine own_iand X hx (hb hby d_get_16) (pc' := 17) rfl ?_
    refine own_istoreN X hx (hb hby d_get_17) (Ls' := #[.val (.ref a), .val (.int q1), .val (.int ((f q1.toInt.toNat).toInt8.toInt32 &&& (255 : Int32)))]) rfl (pc' := 18) rfl ?_
    refine own_goto X hx (hb hby d_get_18) (pc' := 45) (by decide) ?_
    refine own_iloadN X hx (hb hby d_get_45) rfl (pc' := 46) rfl ?_
    exact own_retI X hx eT hret hlk (by decide) (by decide) (hb hby d_get_46) ⟨by rw [own_b255 _ (hpos _ (by omega)) (hle _ (by omega))], rfl, rfl⟩
  · refine own_aloadN X hx (hb hby d_get_0) rfl rfl (pc' := 1) rfl ?_
    refine own_getF X hx hZ hown (hw _ (List.mem_of_getElem? (i := 15) rfl)) eT F_bytes (hb hby d_get_1) (pc' := 4) rfl fun T X eT => ?_
    refine own_ifnullY X hx (hb hby d_get_4) (pc2 := 21) (by decide) ?_
    refine own_aloadN X hx (hb hby d_get_21) rfl rfl (pc' := 22) rfl ?_
    refine own_getF X hx hZ hown (hw _ (List.mem_of_getElem? (i := 22) rfl)) eT F_chars (hb hby d_get_22) (pc' := 25) rfl fun T X eT => ?_
    refine own_ifnullN X hx (hb hby d_get_25) (pc' := 28) rfl ?_
    refine own_aloadN X hx (hb hby d_get_28) rfl rfl (pc' := 29) rfl ?_
    refine own_getF X hx hZ hown (hw _ (List.mem_of_getElem? (i := 22) rfl)) eT F_chars (hb hby d_get_29) (pc' := 32) rfl fun T X eT => ?_
    refine own_iloadN X hx (hb hby d_get_32) rfl (pc' := 33) rfl ?_
    refine own_caloadA X hx hZ eT A_b hq0 hq1 (hb hby d_get_33) (pc' := 34) rfl fun v hv => ?_
    obtain rfl : v = .int (f q1.toInt.toNat) := hv
    refine own_istoreN X hx (hb hby d_get_34) (Ls' := #[.val (.ref a), .val (.int q1), .val (.int (f q1.toInt.toNat))]) rfl (pc' := 35) rfl ?_
    refine own_goto X hx (hb hby d_get_35) (pc' := 45) (by decide) ?_
    refine own_iloadN X hx (hb hby d_get_45) rfl (pc' := 46) rfl ?_
    exact own_retI X hx eT hret hlk (by decide) (by decide) (hb hby d_get_46) ⟨rfl, rfl, rfl⟩
  · refine own_aloadN X hx (hb hby d_get_0) rfl rfl (pc' := 1) rfl ?_
    refine own_getF X hx hZ hown (hw _ (List.mem_of_getElem? (i := 15) rfl)) eT F_bytes (hb hby d_get_1) (pc' := 4) rfl fun T X eT => ?_
    refine own_ifnullY X hx (hb hby d_get_4) (pc2 := 21) (by decide) ?_
    refine own_aloadN X hx (hb hby d_get_21) rfl rfl (pc' := 22) rfl ?_
    refine own_getF X hx hZ hown (hw _ (List.mem_of_getElem? (i := 22) rfl)) eT F_chars (hb hby d_get_22) (pc' := 25) rfl fun T X eT => ?_
    refine own_ifnullY X hx (hb hby d_get_25) (pc2 := 38) (by decide) ?_
    refine own_aloadN X hx (hb hby d_get_38) rfl rfl (pc' := 39) rfl ?_
    refine own_getF X hx hZ hown (hw _ (List.mem_of_getElem? (i := 36) rfl)) eT F_ints (hb hby d_get_39) (pc' := 42) rfl fun T X eT => ?_
    refine own_iloadN X hx (hb hby d_get_42) rfl (pc' := 43) rfl ?_
    refine own_ialoadA X hx hZ eT A_b hq0 hq1 (hb hby d_get_43) (pc' := 44) rfl fun v hv => ?_
    obtain rfl : v = .int (f q1.toInt.toNat) := hv
    refine own_istoreN X hx (hb hby d_get_44) (Ls' := #[.val (.ref a), .val (.int q1), .val (.int (f q1.toInt.toNat))]) rfl (pc' := 45) rfl ?_
    refine own_iloadN X hx (hb hby d_get_45) rfl (pc' := 46) rfl ?_
    exact own_retI X hx eT hret hlk (by decide) (by decide) (hb hby d_get_46) ⟨rfl, rfl, rfl⟩
set_option maxRecDepth 65536 in
set_option maxHeartbeats 40000000 in
theorem rm_law (l : Launch) (Z : State) (a0 : Array Value) (hw : ∀ d ∈ tables_1, d.before a0 Z = true) (ws : List Jvm.Cond) (pl : Int32) (mode : Int32) (a1 : Int32) (b1 : Int32) (c1 : Int32) (h0 : Heap) (n0 : Nat) (hn0 : n0 ≤ h0.size) :
    MetFree l x (head1 (Jvm.Cond.code x code maxLocals ret :: ws) room_1) (fun a U => a = #[(.int pl), (.int mode), (.int a1), (.int b1), (.int c1)] ∧ Z.Warmed39 U.vm ∧ U.heap = h0) (fun _ _ _ _ _ => True) (fun _ U o U' => ∃ v L, o = .returned v ∧ (v = some (.int 1) ∧ Fr n0 L) ∧ FrameEnd U o U' L room_1.cells room_1.slots) :=
 own_met (Q := fun v _ L => v = some (.int 1) ∧ Fr n0 L) (plainFor_of_name pn_com_example_gawain_gawain_statespace_ProbabilityIndicesGetPinLaw) (fun m => ef_law m pl mode a1 b1 c1) fun p e s m below meth c T hx hZ hby hml hown hnm hret hlk X eT => by
  refine own_iloadN X hx (hb hby at_0) rfl (pc' := 1) rfl ?_
  refine own_sipush X hx (hb hby at_1) (z := (255 : Int32)) rfl (pc' := 4) rfl ?_
  refine own_iand X hx (hb hby at_4) (pc' := 5) rfl ?_
  refine own_iconst X hx (hb hby at_5) (z := (3 : Int32)) rfl (pc' := 6) rfl ?_
  refine own_irem X hx (hb hby at_6) (by decide) (pc' := 7) rfl ?_
  generalize hp1 : ((pl &&& (255 : Int32)) % (3 : Int32)) = p1
  refine own_istore X hx (hb hby at_7) (Ls' := #[.val (.int pl), .val (.int mode), .val (.int a1), .val (.int b1), .val (.int c1), .val (.int p1), .unset, .unset, .unset, .unset, .unset, .unset, .unset, .unset, .unset]) rfl (pc' := 9) rfl ?_
  replace hp1 : 0 ≤ p1.toInt ∧ p1.toInt < (3 : Nat) := by rw [← hp1]; exact own_pl pl
  refine own_iloadN X hx (hb hby at_9) rfl (pc' := 10) rfl ?_
  refine own_bipush X hx (hb hby at_10) (z := (8 : Int32)) rfl (pc' := 12) rfl ?_
  refine own_iushr X hx (hb hby at_12) (pc' := 13) rfl ?_
  refine own_sipush X hx (hb hby at_13) (z := (255 : Int32)) rfl (pc' := 16) rfl ?_
  refine own_iand X hx (hb hby at_16) (pc' := 17) rfl ?_
  refine own_iconst X hx (hb hby at_17) (z := (3 : Int32)) rfl (pc' := 18) rfl ?_
  refine own_irem X hx (hb hby at_18) (by decide) (pc' := 19) rfl ?_
  generalize hp2 : (((XT.ushr pl (8 : Int32)) &&& (255 : Int32)) % (3 : Int32)) = p2
  refine own_istore X hx (hb hby at_19) (Ls' := #[.val (.int pl), .val (.int mode), .val (.int a1), .val (.int b1), .val (.int c1), .val (.int p1), .val (.int p2), .unset, .unset, .unset, .unset, .unset, .unset, .unset, .unset]) rfl (pc' := 21) rfl ?_
  replace hp2 : 0 ≤ p2.toInt ∧ p2.toInt < (3 : Nat) := by rw [← hp2]; exact own_pl _
  refine own_iloadN X hx (hb hby at_21) rfl (pc' := 22) rfl ?_
  refine own_bipush X hx (hb hby at_22) (z := (16 : Int32)) rfl (pc' := 24) rfl ?_
  refine own_iushr X hx (hb hby at_24) (pc' := 25) rfl ?_
  refine own_sipush X hx (hb hby at_25) (z := (255 : Int32)) rfl (pc' := 28) rfl ?_
  refine own_iand X hx (hb hby at_28) (pc' := 29) rfl ?_
  refine own_iconst X hx (hb hby at_29) (z := (3 : Int32)) rfl (pc' := 30) rfl ?_
  refine own_irem X hx (hb hby at_30) (by decide) (pc' := 31) rfl ?_
  generalize hp3 : (((XT.ushr pl (16 : Int32)) &&& (255 : Int32)) % (3 : Int32)) = p3
  refine own_istore X hx (hb hby at_31) (Ls' := #[.val (.int pl), .val (.int mode), .val (.int a1), .val (.int b1), .val (.int c1), .val (.int p1), .val (.int p2), .val (.int p3), .unset, .unset, .unset, .unset, .unset, .unset, .unset]) rfl (pc' := 33) rfl ?_
  replace hp3 : 0 ≤ p3.toInt ∧ p3.toInt < (3 : Nat) := by rw [← hp3]; exact own_pl _
  refine own_iloadN X hx (hb hby at_33) rfl (pc' := 34) rfl ?_
  refine own_iloadN X hx (hb hby at_34) rfl (pc' := 35) rfl ?_
  refine own_pureS X hx hZ hown (y := (⟨"com/example/gawain/gawain/statespace/ProbabilityIndicesGetPinLaw", "scale", "(II)I"⟩ : MethodName)) (argsL := [(.int a1), (.int mode)]) (st := []) (W := 0) (z := (.int (own_scale a1 mode))) (hw _ (List.mem_of_getElem? (i := 0) rfl)) (hw _ (List.mem_of_getElem? (i := 1) rfl)) (hw _ (List.mem_of_getElem? (i := 2) rfl)) (hw _ (List.mem_of_getElem? (i := 3) rfl)) eT (rm_scale hw a1 mode) (hb hby at_35) rfl (lenOf pd__II_I rfl) (by rw [hml]; rfl) (by decide) (by decide) (by decide) (by decide) (Nat.le_of_eq rfl) (by decide) (pc' := 38) rfl fun T X eT => ?_
  generalize hv1 : (own_scale a1 mode) = v1
  refine own_istore X hx (hb hby at_38) (Ls' := #[.val (.int pl), .val (.int mode), .val (.int a1), .val (.int b1), .val (.int c1), .val (.int p1), .val (.int p2), .val (.int p3), .val (.int v1), .unset, .unset, .unset, .unset, .unset, .unset]) rfl (pc' := 40) rfl ?_
  replace hv1 : 0 ≤ v1.toInt := by rw [← hv1]; exact own_scale0 _ _
  refine own_iloadN X hx (hb hby at_40) rfl (pc' := 41) rfl ?_
  refine own_iloadN X hx (hb hby at_41) rfl (pc' := 42) rfl ?_
  refine own_iconst X hx (hb hby at_42) (z := (2 : Int32)) rfl (pc' := 43) rfl ?_
  refine own_iushr X hx (hb hby at_43) (pc' := 44) rfl ?_
  refine own_pureS X hx hZ hown (y := (⟨"com/example/gawain/gawain/statespace/ProbabilityIndicesGetPinLaw", "scale", "(II)I"⟩ : MethodName)) (argsL := [(.int b1), (.int (XT.ushr mode (2 : Int32)))]) (st := []) (W := 0) (z := (.int (own_scale b1 (XT.ushr mode 2)))) (hw _ (List.mem_of_getElem? (i := 0) rfl)) (hw _ (List.mem_of_getElem? (i := 1) rfl)) (hw _ (List.mem_of_getElem? (i := 2) rfl)) (hw _ (List.mem_of_getElem? (i := 3) rfl)) eT (rm_scale hw b1 (XT.ushr mode 2)) (hb hby at_44) rfl (lenOf pd__II_I rfl) (by rw [hml]; rfl) (by decide) (by decide) (by decide) (by decide) (Nat.le_of_eq rfl) (by decide) (pc' := 47) rfl fun T X eT => ?_
  generalize hv2 : (own_scale b1 (XT.ushr mode 2)) = v2
  refine own_istore X hx (hb hby at_47) (Ls' := #[.val (.int pl), .val (.int mode), .val (.int a1), .val (.int b1), .val (.int c1), .val (.int p1), .val (.int p2), .val (.int p3), .val (.int v1), .val (.int v2), .unset, .unset, .unset, .unset, .unset]) rfl (pc' := 49) rfl ?_
  replace hv2 : 0 ≤ v2.toInt := by rw [← hv2]; exact own_scale0 _ _
  refine own_iload X hx (hb hby at_49) rfl (pc' := 51) rfl ?_
  refine own_iloadN X hx (hb hby at_51) rfl (pc' := 52) rfl ?_
  refine own_iconst X hx (hb hby at_52) (z := (4 : Int32)) rfl (pc' := 53) rfl ?_
  refine own_iushr X hx (hb hby at_53) (pc' := 54) rfl ?_
  refine own_pureS X hx hZ hown (y := (⟨"com/example/gawain/gawain/statespace/ProbabilityIndicesGetPinLaw", "scale", "(II)I"⟩ : MethodName)) (argsL := [(.int c1), (.int (XT.ushr mode (4 : Int32)))]) (st := []) (W := 0) (z := (.int (own_scale c1 (XT.ushr mode 4)))) (hw _ (List.mem_of_getElem? (i := 0) rfl)) (hw _ (List.mem_of_getElem? (i := 1) rfl)) (hw _ (List.mem_of_getElem? (i := 2) rfl)) (hw _ (List.mem_of_getElem? (i := 3) rfl)) eT (rm_scale hw c1 (XT.ushr mode 4)) (hb hby at_54) rfl (lenOf pd__II_I rfl) (by rw [hml]; rfl) (by decide) (by decide) (by decide) (by decide) (Nat.le_of_eq rfl) (by decide) (pc' := 57) rfl fun T X eT => ?_
  generalize hv3 : (own_scale c1 (XT.ushr mode 4)) = v3
  refine own_istore X hx (hb hby at_57) (Ls' := #[.val (.int pl), .val (.int mode), .val (.int a1), .val (.int b1), .val (.int c1), .val (.int p1), .val (.int p2), .val (.int p3), .val (.int v1), .val (.int v2), .val (.int v3), .unset, .unset, .unset, .unset]) rfl (pc' := 59) rfl ?_
  replace hv3 : 0 ≤ v3.toInt := by rw [← hv3]; exact own_scale0 _ _
  have N := Fr.nil n0
  refine own_newO X hx hZ hown (hw _ (List.mem_of_getElem? (i := 5) rfl)) (hw _ (List.mem_of_getElem? (i := 6) rfl)) (hw _ (List.mem_of_getElem? (i := 7) rfl)) eT (by decide) (by decide) (hb hby at_59) (pc' := 62) rfl fun T h1 a hbs X eT E E_a D => ?_
  have ga : n0 ≤ a := by rw [hbs]; exact hn0
  refine own_dup X hx (hb hby at_62) rfl (pc' := 63) rfl ?_
  refine own_iconst X hx (hb hby at_63) (z := (3 : Int32)) rfl (pc' := 64) rfl ?_
  refine own_callC X hx hZ hown (y := (⟨"com/example/gawain/gawain/statespace/ProbabilityIndices", "<init>", "(I)V"⟩ : MethodName)) (argsL := [(.int (3 : Int32))]) (st := [(.ref a)]) (W := 1) (a := a) rfl (hw _ (List.mem_of_getElem? (i := 8) rfl)) (hw _ (List.mem_of_getElem? (i := 9) rfl)) (hw _ (List.mem_of_getElem? (i := 7) rfl)) (hw _ (List.mem_of_getElem? (i := 10) rfl)) eT (rm_init hw a n0 3 3 (by decide) (by decide) ga E_a (D (Or.inl (hw _ (List.mem_of_getElem? (i := 16) rfl))) (ty := (.array .byte)) (by decide)) (D (Or.inl (hw _ (List.mem_of_getElem? (i := 23) rfl))) (ty := (.array .char)) (by decide)) (D (Or.inl (hw _ (List.mem_of_getElem? (i := 37) rfl))) (ty := (.array .int)) (by decide))) (hb hby at_64) rfl (lenOf pd__I_V rfl) (by rw [hml]; rfl) (by decide) (by decide) (by decide) (by decide) (Nat.le_of_eq rfl) (by decide) (pc' := 67) rfl ?_
  rintro T _ L X ⟨rfl, N1, K⟩
  replace N := Fr.app N N1
  generalize hT : T.heap = h1 at K
  replace eT := hT
  refine own_astore X hx (hb hby at_67) rfl (Ls' := #[.val (.int pl), .val (.int mode), .val (.int a1), .val (.int b1), .val (.int c1), .val (.int p1), .val (.int p2), .val (.int p3), .val (.int v1), .val (.int v2), .val (.int v3), .val (.ref a), .unset, .unset, .unset]) rfl (pc' := 69) rfl ?_
  refine own_aload X hx (hb hby at_69) rfl rfl (pc' := 71) rfl ?_
  refine own_iload X hx (hb hby at_71) rfl (pc' := 73) rfl ?_
  refine own_iload X hx (hb hby at_73) rfl (pc' := 75) rfl ?_
  refine own_callV X hx hZ hown (y := (⟨"com/example/gawain/gawain/statespace/ProbabilityIndices", "set", "(II)V"⟩ : MethodName)) (argsL := [(.int p1), (.int v1)]) (st := []) (W := 0) (a := a) (C := "com/example/gawain/gawain/statespace/ProbabilityIndices") (hw _ (List.mem_of_getElem? (i := 17) rfl)) (hw _ (List.mem_of_getElem? (i := 18) rfl)) (hw _ (List.mem_of_getElem? (i := 20) rfl)) (hw _ (List.mem_of_getElem? (i := 19) rfl)) (hw _ (List.mem_of_getElem? (i := 7) rfl)) (hw _ (List.mem_of_getElem? (i := 21) rfl)) eT K.2.1 (rm_set hw a n0 3 (fun _ => 0) p1 v1 3 (by decide) (by decide) hp1.1 hp1.2 hv1 K) (hb hby at_75) rfl (lenOf pd__II_V rfl) (by rw [hml]; rfl) (by decide) (by decide) (by decide) (by decide) (Nat.le_of_eq rfl) (by decide) (pc' := 78) rfl ?_
  rintro T _ L X ⟨rfl, N1, K⟩
  replace N := Fr.app N N1
  generalize hT : T.heap = h1 at K
  replace eT := hT
  generalize hf1 : own_upd (fun _ => 0) p1.toInt.toNat v1 = f1 at K
  refine own_aload X hx (hb hby at_78) rfl rfl (pc' := 80) rfl ?_
  refine own_iload X hx (hb hby at_80) rfl (pc' := 82) rfl ?_
  refine own_iload X hx (hb hby at_82) rfl (pc' := 84) rfl ?_
  refine own_callV X hx hZ hown (y := (⟨"com/example/gawain/gawain/statespace/ProbabilityIndices", "set", "(II)V"⟩ : MethodName)) (argsL := [(.int p2), (.int v2)]) (st := []) (W := 0) (a := a) (C := "com/example/gawain/gawain/statespace/ProbabilityIndices") (hw _ (List.mem_of_getElem? (i := 17) rfl)) (hw _ (List.mem_of_getElem? (i := 18) rfl)) (hw _ (List.mem_of_getElem? (i := 20) rfl)) (hw _ (List.mem_of_getElem? (i := 19) rfl)) (hw _ (List.mem_of_getElem? (i := 7) rfl)) (hw _ (List.mem_of_getElem? (i := 21) rfl)) eT K.2.1 (rm_set hw a n0 3 f1 p2 v2 3 (by decide) (by decide) hp2.1 hp2.2 hv2 K) (hb hby at_84) rfl (lenOf pd__II_V rfl) (by rw [hml]; rfl) (by decide) (by decide) (by decide) (by decide) (Nat.le_of_eq rfl) (by decide) (pc' := 87) rfl ?_
  rintro T _ L X ⟨rfl, N1, K⟩
  replace N := Fr.app N N1
  generalize hT : T.heap = h1 at K
  replace eT := hT
  generalize hf2 : own_upd f1 p2.toInt.toNat v2 = f2 at K
  refine own_aload X hx (hb hby at_87) rfl rfl (pc' := 89) rfl ?_
  refine own_iload X hx (hb hby at_89) rfl (pc' := 91) rfl ?_
  refine own_iload X hx (hb hby at_91) rfl (pc' := 93) rfl ?_
  refine own_callV X hx hZ hown (y := (⟨"com/example/gawain/gawain/statespace/ProbabilityIndices", "set", "(II)V"⟩ : MethodName)) (argsL := [(.int p3), (.int v3)]) (st := []) (W := 0) (a := a) (C := "com/example/gawain/gawain/statespace/ProbabilityIndices") (hw _ (List.mem_of_getElem? (i := 17) rfl)) (hw _ (List.mem_of_getElem? (i := 18) rfl)) (hw _ (List.mem_of_getElem? (i := 20) rfl)) (hw _ (List.mem_of_getElem? (i := 19) rfl)) (hw _ (List.mem_of_getElem? (i := 7) rfl)) (hw _ (List.mem_of_getElem? (i := 21) rfl)) eT K.2.1 (rm_set hw a n0 3 f2 p3 v3 3 (by decide) (by decide) hp3.1 hp3.2 hv3 K) (hb hby at_93) rfl (lenOf pd__II_V rfl) (by rw [hml]; rfl) (by decide) (by decide) (by decide) (by decide) (Nat.le_of_eq rfl) (by decide) (pc' := 96) rfl ?_
  rintro T _ L X ⟨rfl, N1, K⟩
  replace N := Fr.app N N1
  generalize hT : T.heap = h1 at K
  replace eT := hT
  generalize hf3 : own_upd f2 p3.toInt.toNat v3 = f3 at K
  refine own_aload X hx (hb hby at_96) rfl rfl (pc' := 98) rfl ?_
  refine own_iconst X hx (hb hby at_98) (z := (0 : Int32)) rfl (pc' := 99) rfl ?_
  refine own_pureV X hx hZ hown (y := (⟨"com/example/gawain/gawain/statespace/ProbabilityIndices", "get", "(I)I"⟩ : MethodName)) (argsL := [(.int (0 : Int32))]) (st := []) (W := 0) (z := (.int (f3 (0 : Int32).toInt.toNat))) (a := a) (C := "com/example/gawain/gawain/statespace/ProbabilityIndices") (hw _ (List.mem_of_getElem? (i := 24) rfl)) (hw _ (List.mem_of_getElem? (i := 25) rfl)) (hw _ (List.mem_of_getElem? (i := 27) rfl)) (hw _ (List.mem_of_getElem? (i := 26) rfl)) (hw _ (List.mem_of_getElem? (i := 7) rfl)) (hw _ (List.mem_of_getElem? (i := 28) rfl)) eT K.2.1 (rm_get hw a n0 3 f3 0 (by decide) (by decide) K) (hb hby at_99) rfl (lenOf pd__I_I rfl) (by rw [hml]; rfl) (by decide) (by decide) (by decide) (by decide) (Nat.le_of_eq rfl) (by decide) (pc' := 102) rfl fun T X eT => ?_
  generalize hg0 : (f3 (0 : Int32).toInt.toNat) = g0
  refine own_istore X hx (hb hby at_102) (Ls' := #[.val (.int pl), .val (.int mode), .val (.int a1), .val (.int b1), .val (.int c1), .val (.int p1), .val (.int p2), .val (.int p3), .val (.int v1), .val (.int v2), .val (.int v3), .val (.ref a), .val (.int g0), .unset, .unset]) rfl (pc' := 104) rfl ?_
  refine own_aload X hx (hb hby at_104) rfl rfl (pc' := 106) rfl ?_
  refine own_iconst X hx (hb hby at_106) (z := (1 : Int32)) rfl (pc' := 107) rfl ?_
  refine own_pureV X hx hZ hown (y := (⟨"com/example/gawain/gawain/statespace/ProbabilityIndices", "get", "(I)I"⟩ : MethodName)) (argsL := [(.int (1 : Int32))]) (st := []) (W := 0) (z := (.int (f3 (1 : Int32).toInt.toNat))) (a := a) (C := "com/example/gawain/gawain/statespace/ProbabilityIndices") (hw _ (List.mem_of_getElem? (i := 24) rfl)) (hw _ (List.mem_of_getElem? (i := 25) rfl)) (hw _ (List.mem_of_getElem? (i := 27) rfl)) (hw _ (List.mem_of_getElem? (i := 26) rfl)) (hw _ (List.mem_of_getElem? (i := 7) rfl)) (hw _ (List.mem_of_getElem? (i := 28) rfl)) eT K.2.1 (rm_get hw a n0 3 f3 1 (by decide) (by decide) K) (hb hby at_107) rfl (lenOf pd__I_I rfl) (by rw [hml]; rfl) (by decide) (by decide) (by decide) (by decide) (Nat.le_of_eq rfl) (by decide) (pc' := 110) rfl fun T X eT => ?_
  generalize hg1 : (f3 (1 : Int32).toInt.toNat) = g1
  refine own_istore X hx (hb hby at_110) (Ls' := #[.val (.int pl), .val (.int mode), .val (.int a1), .val (.int b1), .val (.int c1), .val (.int p1), .val (.int p2), .val (.int p3), .val (.int v1), .val (.int v2), .val (.int v3), .val (.ref a), .val (.int g0), .val (.int g1), .unset]) rfl (pc' := 112) rfl ?_
  refine own_aload X hx (hb hby at_112) rfl rfl (pc' := 114) rfl ?_
  refine own_iconst X hx (hb hby at_114) (z := (2 : Int32)) rfl (pc' := 115) rfl ?_
  refine own_pureV X hx hZ hown (y := (⟨"com/example/gawain/gawain/statespace/ProbabilityIndices", "get", "(I)I"⟩ : MethodName)) (argsL := [(.int (2 : Int32))]) (st := []) (W := 0) (z := (.int (f3 (2 : Int32).toInt.toNat))) (a := a) (C := "com/example/gawain/gawain/statespace/ProbabilityIndices") (hw _ (List.mem_of_getElem? (i := 24) rfl)) (hw _ (List.mem_of_getElem? (i := 25) rfl)) (hw _ (List.mem_of_getElem? (i := 27) rfl)) (hw _ (List.mem_of_getElem? (i := 26) rfl)) (hw _ (List.mem_of_getElem? (i := 7) rfl)) (hw _ (List.mem_of_getElem? (i := 28) rfl)) eT K.2.1 (rm_get hw a n0 3 f3 2 (by decide) (by decide) K) (hb hby at_115) rfl (lenOf pd__I_I rfl) (by rw [hml]; rfl) (by decide) (by decide) (by decide) (by decide) (Nat.le_of_eq rfl) (by decide) (pc' := 118) rfl fun T X eT => ?_
  generalize hg2 : (f3 (2 : Int32).toInt.toNat) = g2
  refine own_istore X hx (hb hby at_118) (Ls' := #[.val (.int pl), .val (.int mode), .val (.int a1), .val (.int b1), .val (.int c1), .val (.int p1), .val (.int p2), .val (.int p3), .val (.int v1), .val (.int v2), .val (.int v3), .val (.ref a), .val (.int g0), .val (.int g1), .val (.int g2)]) rfl (pc' := 120) rfl ?_
  refine own_iload X hx (hb hby at_120) rfl (pc' := 122) rfl ?_
  refine own_iconst X hx (hb hby at_122) (z := (0 : Int32)) rfl (pc' := 123) rfl ?_
  refine own_iload X hx (hb hby at_123) rfl (pc' := 125) rfl ?_
  refine own_iload X hx (hb hby at_125) rfl (pc' := 127) rfl ?_
  refine own_iload X hx (hb hby at_127) rfl (pc' := 129) rfl ?_
  refine own_iload X hx (hb hby at_129) rfl (pc' := 131) rfl ?_
  refine own_iload X hx (hb hby at_131) rfl (pc' := 133) rfl ?_
  refine own_iload X hx (hb hby at_133) rfl (pc' := 135) rfl ?_
  refine own_pureS X hx hZ hown (y := (⟨"com/example/gawain/gawain/statespace/ProbabilityIndicesGetPinLaw", "expected", "(IIIIIII)I"⟩ : MethodName)) (argsL := [(.int (0 : Int32)), (.int p1), (.int v1), (.int p2), (.int v2), (.int p3), (.int v3)]) (st := [(.int g0)]) (W := 1) (z := (.int (own_exp (0 : Int32) p1 v1 p2 v2 p3 v3))) (hw _ (List.mem_of_getElem? (i := 29) rfl)) (hw _ (List.mem_of_getElem? (i := 30) rfl)) (hw _ (List.mem_of_getElem? (i := 2) rfl)) (hw _ (List.mem_of_getElem? (i := 31) rfl)) eT (rm_expected hw 0 p1 v1 p2 v2 p3 v3) (hb hby at_135) rfl (lenOf pd__IIIIIII_I rfl) (by rw [hml]; rfl) (by decide) (by decide) (by decide) (by decide) (Nat.le_of_eq rfl) (by decide) (pc' := 138) rfl fun T X eT => ?_
  refine own_icmp_ne X hx (hb hby at_138) (pc1 := 141) (pc2 := 187) rfl (by decide) (fun hc138 => absurd (by rw [← hg0, ← hf3, ← hf2, ← hf1]; exact own_three hp1.1 hp2.1 hp3.1 (by decide)) hc138) (fun hc138 => ?_)
  refine own_iload X hx (hb hby at_141) rfl (pc' := 143) rfl ?_
  refine own_iconst X hx (hb hby at_143) (z := (1 : Int32)) rfl (pc' := 144) rfl ?_
  refine own_iload X hx (hb hby at_144) rfl (pc' := 146) rfl ?_
  refine own_iload X hx (hb hby at_146) rfl (pc' := 148) rfl ?_
  refine own_iload X hx (hb hby at_148) rfl (pc' := 150) rfl ?_
  refine own_iload X hx (hb hby at_150) rfl (pc' := 152) rfl ?_
  refine own_iload X hx (hb hby at_152) rfl (pc' := 154) rfl ?_
  refine own_iload X hx (hb hby at_154) rfl (pc' := 156) rfl ?_
  refine own_pureS X hx hZ hown (y := (⟨"com/example/gawain/gawain/statespace/ProbabilityIndicesGetPinLaw", "expected", "(IIIIIII)I"⟩ : MethodName)) (argsL := [(.int (1 : Int32)), (.int p1), (.int v1), (.int p2), (.int v2), (.int p3), (.int v3)]) (st := [(.int g1)]) (W := 1) (z := (.int (own_exp (1 : Int32) p1 v1 p2 v2 p3 v3))) (hw _ (List.mem_of_getElem? (i := 29) rfl)) (hw _ (List.mem_of_getElem? (i := 30) rfl)) (hw _ (List.mem_of_getElem? (i := 2) rfl)) (hw _ (List.mem_of_getElem? (i := 31) rfl)) eT (rm_expected hw 1 p1 v1 p2 v2 p3 v3) (hb hby at_156) rfl (lenOf pd__IIIIIII_I rfl) (by rw [hml]; rfl) (by decide) (by decide) (by decide) (by decide) (Nat.le_of_eq rfl) (by decide) (pc' := 159) rfl fun T X eT => ?_
  refine own_icmp_ne X hx (hb hby at_159) (pc1 := 162) (pc2 := 187) rfl (by decide) (fun hc159 => absurd (by rw [← hg1, ← hf3, ← hf2, ← hf1]; exact own_three hp1.1 hp2.1 hp3.1 (by decide)) hc159) (fun hc159 => ?_)
  refine own_iload X hx (hb hby at_162) rfl (pc' := 164) rfl ?_
  refine own_iconst X hx (hb hby at_164) (z := (2 : Int32)) rfl (pc' := 165) rfl ?_
  refine own_iload X hx (hb hby at_165) rfl (pc' := 167) rfl ?_
  refine own_iload X hx (hb hby at_167) rfl (pc' := 169) rfl ?_
  refine own_iload X hx (hb hby at_169) rfl (pc' := 171) rfl ?_
  refine own_iload X hx (hb hby at_171) rfl (pc' := 173) rfl ?_
  refine own_iload X hx (hb hby at_173) rfl (pc' := 175) rfl ?_
  refine own_iload X hx (hb hby at_175) rfl (pc' := 177) rfl ?_
  refine own_pureS X hx hZ hown (y := (⟨"com/example/gawain/gawain/statespace/ProbabilityIndicesGetPinLaw", "expected", "(IIIIIII)I"⟩ : MethodName)) (argsL := [(.int (2 : Int32)), (.int p1), (.int v1), (.int p2), (.int v2), (.int p3), (.int v3)]) (st := [(.int g2)]) (W := 1) (z := (.int (own_exp (2 : Int32) p1 v1 p2 v2 p3 v3))) (hw _ (List.mem_of_getElem? (i := 29) rfl)) (hw _ (List.mem_of_getElem? (i := 30) rfl)) (hw _ (List.mem_of_getElem? (i := 2) rfl)) (hw _ (List.mem_of_getElem? (i := 31) rfl)) eT (rm_expected hw 2 p1 v1 p2 v2 p3 v3) (hb hby at_177) rfl (lenOf pd__IIIIIII_I rfl) (by rw [hml]; rfl) (by decide) (by decide) (by decide) (by decide) (Nat.le_of_eq rfl) (by decide) (pc' := 180) rfl fun T X eT => ?_
  refine own_icmp_ne X hx (hb hby at_180) (pc1 := 183) (pc2 := 187) rfl (by decide) (fun hc180 => absurd (by rw [← hg2, ← hf3, ← hf2, ← hf1]; exact own_three hp1.1 hp2.1 hp3.1 (by decide)) hc180) (fun hc180 => ?_)
  refine own_iconst X hx (hb hby at_183) (z := (1 : Int32)) rfl (pc' := 184) rfl ?_
  refine own_goto X hx (hb hby at_184) (pc' := 188) (by decide) ?_
  exact own_retZ X hx eT hret hlk (by decide) (by decide) (hb hby at_188) ⟨rfl, N⟩
set_option maxRecDepth 65536 in
set_option maxHeartbeats 40000000 in
theorem comes_1 {Post : Tables → Env → Array Value → State → Outcome → State → Prop} (hpost : ∀ tb e args s v u, (limb_1_1.after args s (.returned v) u = true ∧ limb_1_2.after args s (.returned v) u = true) → FrameEnd s (.returned v) u (Jvm.fieldLocs frame_1_writes args s ++ Jvm.arrayLocs frame_1_arrays args s ++ Jvm.staticLocs frame_1_statics s) 16 128 → Post tb e args s (.returned v) u) :
    ArmFor flags0 classFile x code maxLocals ret World_1 tables_1 room_1 Calls_1 rest_1 Pre_1 Post := by
  intro l hfl _ _ p e ha hc hk s m args below hf hA hF happ hP
  obtain ⟨hcalls, hrest, hpre⟩ := hP
  obtain ⟨-, -, -, hnamed, -, -, -, hat⟩ := (Spec.applies_iff hf).mp happ
  obtain ⟨hg, hn⟩ := and_e (Cond.before_iff.mp (show (Jvm.Cond.and given_1 narrow_1).before args s = true from hpre))
  obtain ⟨hcount, g0⟩ := and_e hg
  obtain ⟨v0, g1⟩ := and_e g0
  obtain ⟨v1, g2⟩ := and_e g1
  obtain ⟨v2, g3⟩ := and_e g2
  obtain ⟨v3, g4⟩ := and_e g3
  obtain ⟨w0, w1, w2, w3, w4, rfl⟩ : ∃ w0 w1 w2 w3 w4 : Value, args = #[w0, w1, w2, w3, w4] := by
    have hs : args.size = 5 := by simpa [Cond.value, given_1] using hcount
    obtain ⟨L⟩ := args
    match L, hs with
    | [w0, w1, w2, w3, w4], _ => exact ⟨w0, w1, w2, w3, w4, rfl⟩
  have hw := fun d (hd : d ∈ tables_1) => atoms_spec (ws := Jvm.Cond.code x code maxLocals ret :: tables_1) hat d (List.mem_cons_of_mem _ hd)
  obtain ⟨i0, ei0⟩ := is_v v0
  obtain rfl : w0 = (.int i0) := Option.some.inj ei0
  obtain ⟨i1, ei1⟩ := is_v v1
  obtain rfl : w1 = (.int i1) := Option.some.inj ei1
  obtain ⟨i2, ei2⟩ := is_v v2
  obtain rfl : w2 = (.int i2) := Option.some.inj ei2
  obtain ⟨i3, ei3⟩ := is_v v3
  obtain rfl : w3 = (.int i3) := Option.some.inj ei3
  obtain ⟨i4, ei4⟩ := is_v g4
  obtain rfl : w4 = (.int i4) := Option.some.inj ei4
  obtain ⟨n, o, h1, h2, h3, _, L, rfl, ⟨rfl, N⟩, hq⟩ := rm_law l s _ hw tables_1 i0 i1 i2 i3 i4 s.heap s.heap.size (Nat.le_refl _) p e ha hc hk s m _ below hf ((Spec.applies_iff_loose hf).mp happ).1 ⟨rfl, State.Warmed39.refl s, rfl⟩ trivial
  refine ⟨n, _, h1, h2, h3, hpost _ _ _ _ _ _ ⟨Cond.after_iff.mpr rfl, Cond.after_iff.mpr (eq_i res_at (Term.int_eval (1)) rfl)⟩ ⟨hq.1, hq.2.1, (hq.2.2.sift fun y hy => Or.inr (N y hy)).mono (by decide) (by decide)⟩⟩
theorem main_1_1 : Claimed_1_1 := comes_1 fun _ _ _ _ _ _ h hF => ⟨h.1, hF⟩
theorem main_1_2 : Claimed_1_2 := comes_1 fun _ _ _ _ _ _ h hF => ⟨h.2, hF⟩
end Jvm.Pilot.@@N@@
namespace Jvm.Pilot.@@N@@
open Jvm Jvm.ClassFile Sem Op Lib Jvm.Free Jvm.Stand Jvm.Pilot.@@N@@.Jvm.D
/-! MADE BY PROGRAM (witnessworld.py) out of the Statement's table words and the real class files: 11 classes; the members and pool entries that the words name. The judged class is class 1, her method 3. -/
namespace start1
open Jvm.ClassFile
def u (s : String) : CpInfo := .utf8 (stringToUtf16 s)
/-- a pool by its gaps: so many unusable entries, then the entry; so many at the end -/
def gap : Nat → List CpInfo → List CpInfo
  | 0, r => r
  | n + 1, r => .unusable :: gap n r
def poolList (es : List (Nat × CpInfo)) (last : Nat) : List CpInfo := es.foldr (fun e r => gap e.1 (e.2 :: r)) (gap last [])
def pool (es : List (Nat × CpInfo)) (last : Nat) : Array CpInfo := ⟨poolList es last⟩
def fileOf (pool : Array CpInfo) (this : Nat) (attrs : Array Attribute := #[]) (ms : Array MethodInfo := #[]) (fl : Nat := 33) (sup : Nat := 0) (ifs : Array Nat := #[]) (fds : Array FieldInfo := #[]) : ClassFile where
  minorVersion := 0
  majorVersion := 65
  constantPool := pool
  accessFlags := fl
  thisClass := this
  superClass := sup
  interfaces := ifs
  fields := fds
  methods := ms
  attributes := attrs
def plain (name : String) (sup : Option ClassId) : Class where
  name := name
  kind := .ordinary
  loader := none
  accessFlags := 33
  super := sup
  interfaces := #[]
  cf := none
  fields := #[]
  methods := #[]
  instanceTypes := #[]
  staticTypes := #[]
  resolved := #[]
  callSites := []
  init := .initialized
  statics := none
  mirror := none

def pool0 : Array CpInfo := pool [(5, u "<init>"), (0, u "()V"), (1, .class_ 10), (1, u "java/lang/Object")] 113

def k0c0 : Code := { maxStack := 0, maxLocals := 1, code := object_method_1_code, exceptionTable := #[], attributes := #[] }
def k0m0 : Method := { name := "<init>", desc := "()V", sig := { parameters := [], returnType := none }, accessFlags := 1, code := some k0c0 }
/-- java/lang/Object -/
def k0 : Class := { plain "java/lang/Object" none with
  accessFlags := 33
  interfaces := #[]
  cf := some (fileOf pool0 8 #[] #[{ accessFlags := 1, nameIndex := 5, descriptorIndex := 6, attributes := #[] }] 33 0 #[] #[])
  fields := #[]
  methods := #[k0m0]
  instanceTypes := #[]
  staticTypes := #[]
  resolved := Array.replicate 124 none
  statics := none }

def pool1 : Array CpInfo := pool [(2, .class_ 4), (1, u "java/lang/Object"), (0, u "<init>"), (0, u "()V"), (0, .integer 65535), (0, .integer 2147483647), (0, .methodref 10 11), (0, .class_ 12), (0, .nameAndType 13 14), (0, u "com/example/gawain/gawain/statespace/ProbabilityIndicesGetPinLaw"), (0, u "scale"), (0, u "(II)I"), (0, .class_ 16), (0, u "com/example/gawain/gawain/statespace/ProbabilityIndices"), (0, .methodref 15 18), (0, .nameAndType 5 19), (0, u "(I)V"), (0, .methodref 15 21), (0, .nameAndType 22 23), (0, u "set"), (0, u "(II)V"), (0, .methodref 15 25), (0, .nameAndType 26 27), (0, u "get"), (0, u "(I)I"), (0, .methodref 10 29), (0, .nameAndType 30 31), (0, u "expected"), (0, u "(IIIIIII)I"), (3, u "law"), (0, u "(IIIII)Z")] 2

def k1m0 : Method := { name := "<init>", desc := "()V", sig := { parameters := [], returnType := none }, accessFlags := 1, code := none }
def k1c1 : Code := { maxStack := 2, maxLocals := 3, code := method_2_code, exceptionTable := #[], attributes := #[] }
def k1m1 : Method := { name := "scale", desc := "(II)I", sig := { parameters := [.int, .int], returnType := some .int }, accessFlags := 10, code := some k1c1 }
def k1c2 : Code := { maxStack := 2, maxLocals := 7, code := method_3_code, exceptionTable := #[], attributes := #[] }
def k1m2 : Method := { name := "expected", desc := "(IIIIIII)I", sig := { parameters := [.int, .int, .int, .int, .int, .int, .int], returnType := some .int }, accessFlags := 10, code := some k1c2 }
def k1c3 : Code := { maxStack := 8, maxLocals := 15, code := code, exceptionTable := #[], attributes := #[] }
def k1m3 : Method := { name := "law", desc := "(IIIII)Z", sig := { parameters := [.int, .int, .int, .int, .int], returnType := some .boolean }, accessFlags := 9, code := some k1c3 }
/-- com/example/gawain/gawain/statespace/ProbabilityIndicesGetPinLaw -/
def k1 : Class := { plain "com/example/gawain/gawain/statespace/ProbabilityIndicesGetPinLaw" (some 0) with
  accessFlags := 49
  interfaces := #[]
  cf := some (fileOf pool1 10 #[] #[{ accessFlags := 1, nameIndex := 5, descriptorIndex := 6, attributes := #[] }, { accessFlags := 10, nameIndex := 13, descriptorIndex := 14, attributes := #[] }, { accessFlags := 10, nameIndex := 30, descriptorIndex := 31, attributes := #[] }, { accessFlags := 9, nameIndex := 35, descriptorIndex := 36, attributes := #[] }] 49 2 #[] #[])
  fields := #[]
  methods := #[k1m0, k1m1, k1m2, k1m3]
  instanceTypes := #[]
  staticTypes := #[]
  resolved := Array.replicate 39 none
  statics := none }

def pool2 : Array CpInfo := pool [(3, .methodref 4 5), (0, .class_ 6), (0, .nameAndType 7 8), (0, u "java/lang/Object"), (0, u "<init>"), (0, u "()V"), (0, .fieldref 10 11), (0, .class_ 12), (0, .nameAndType 13 14), (0, u "com/example/gawain/gawain/statespace/ProbabilityIndices"), (0, u "bytes"), (0, u "[B"), (0, .fieldref 10 16), (0, .nameAndType 17 18), (0, u "chars"), (0, u "[C"), (0, .fieldref 10 20), (0, .nameAndType 21 22), (0, u "ints"), (0, u "[I"), (0, .integer 65535), (12, u "BYTE_MOST"), (0, u "I"), (2, u "CHAR_MOST"), (0, u "(I)V"), (2, u "get"), (0, u "(I)I"), (1, u "set"), (0, u "(II)V")] 5

def k2c0 : Code := { maxStack := 2, maxLocals := 2, code := prog_127_method_1_code, exceptionTable := #[], attributes := #[] }
def k2m0 : Method := { name := "<init>", desc := "(I)V", sig := { parameters := [.int], returnType := none }, accessFlags := 0, code := some k2c0 }
def k2c1 : Code := { maxStack := 2, maxLocals := 3, code := prog_127_method_2_code, exceptionTable := #[], attributes := #[] }
def k2m1 : Method := { name := "get", desc := "(I)I", sig := { parameters := [.int], returnType := some .int }, accessFlags := 0, code := some k2c1 }
def k2c2 : Code := { maxStack := 4, maxLocals := 4, code := prog_127_method_3_code, exceptionTable := #[], attributes := #[] }
def k2m2 : Method := { name := "set", desc := "(II)V", sig := { parameters := [.int, .int], returnType := none }, accessFlags := 0, code := some k2c2 }
/-- com/example/gawain/gawain/statespace/ProbabilityIndices -/
def k2 : Class := { plain "com/example/gawain/gawain/statespace/ProbabilityIndices" (some 0) with
  accessFlags := 32
  interfaces := #[]
  cf := some (fileOf pool2 10 #[] #[{ accessFlags := 0, nameIndex := 7, descriptorIndex := 41, attributes := #[] }, { accessFlags := 0, nameIndex := 44, descriptorIndex := 45, attributes := #[] }, { accessFlags := 0, nameIndex := 47, descriptorIndex := 48, attributes := #[] }] 32 4 #[] #[{ accessFlags := 26, nameIndex := 36, descriptorIndex := 37, attributes := #[] }, { accessFlags := 26, nameIndex := 40, descriptorIndex := 37, attributes := #[] }, { accessFlags := 2, nameIndex := 13, descriptorIndex := 14, attributes := #[] }, { accessFlags := 2, nameIndex := 17, descriptorIndex := 18, attributes := #[] }, { accessFlags := 2, nameIndex := 21, descriptorIndex := 22, attributes := #[] }])
  fields := #[{ name := "BYTE_MOST", type := .int, accessFlags := 26, slot := 0, constantValue := 0 }, { name := "CHAR_MOST", type := .int, accessFlags := 26, slot := 1, constantValue := 0 }, { name := "bytes", type := (.array .byte), accessFlags := 2, slot := 0, constantValue := 0 }, { name := "chars", type := (.array .char), accessFlags := 2, slot := 1, constantValue := 0 }, { name := "ints", type := (.array .int), accessFlags := 2, slot := 2, constantValue := 0 }]
  methods := #[k2m0, k2m1, k2m2]
  instanceTypes := #[(.array .byte), (.array .char), (.array .int)]
  staticTypes := #[.int, .int]
  resolved := Array.replicate 54 none
  statics := none }

def pool3 : Array CpInfo := pool [(1, u "java/lang/Cloneable"), (0, .class_ 1), (0, u "java/lang/Object"), (0, .class_ 3)] 3

/-- java/lang/Cloneable -/
def k3 : Class := { plain "java/lang/Cloneable" (some 0) with
  accessFlags := 1537
  interfaces := #[]
  cf := some (fileOf pool3 2 #[] #[] 1537 4 #[] #[])
  fields := #[]
  methods := #[]
  instanceTypes := #[]
  staticTypes := #[]
  resolved := Array.replicate 8 none
  statics := none }

def pool4 : Array CpInfo := pool [(1, u "java/io/Serializable"), (0, .class_ 1), (0, u "java/lang/Object"), (0, .class_ 3)] 3

/-- java/io/Serializable -/
def k4 : Class := { plain "java/io/Serializable" (some 0) with
  accessFlags := 1537
  interfaces := #[]
  cf := some (fileOf pool4 2 #[] #[] 1537 4 #[] #[])
  fields := #[]
  methods := #[]
  instanceTypes := #[]
  staticTypes := #[]
  resolved := Array.replicate 8 none
  statics := none }

/-- the primitive byte -/
def k5 : Class := { plain "byte" none with kind := .primitive 'B', accessFlags := 0x411 }
/-- [B -/
def k6 : Class := { plain "[B" (some 0) with kind := .array 5 .byte, interfaces := #[3, 4], accessFlags := 1041 }

/-- the primitive char -/
def k7 : Class := { plain "char" none with kind := .primitive 'C', accessFlags := 0x411 }
/-- [C -/
def k8 : Class := { plain "[C" (some 0) with kind := .array 7 .char, interfaces := #[3, 4], accessFlags := 1041 }

/-- the primitive int -/
def k9 : Class := { plain "int" none with kind := .primitive 'I', accessFlags := 0x411 }
/-- [I -/
def k10 : Class := { plain "[I" (some 0) with kind := .array 9 .int, interfaces := #[3, 4], accessFlags := 1041 }

def heap : Heap := #[]
def classes : Array Class := #[k0, k1, k2, k3, k4, k5, k6, k7, k8, k9, k10]
def interned : List (Array UInt16 × Addr) := []
def slotsUsed : Nat := 0
def theMethod : MethodId := ⟨1, 3⟩
def args0 : Array Value := #[.int 3, .int 4, .int 5, .int 6, .int 7]
def aboutOver (below : List Frame) : State where
  vm := { classes := classes, interned := interned.toArray }
  heap := heap
  slotsUsed := slotsUsed
  threads := #[{ frames := .invoking theMethod args0 :: below }]
def below0 : List Frame := [.native { method := ⟨0, 0⟩, args := #[] }]
def about1 : State := aboutOver below0
def p0 : Program := .bare "" "" ""
def e0 : Env := launch0.env 0 0 0
theorem w_frames : about1.frames = Frame.invoking theMethod args0 :: below0 := rfl
set_option maxRecDepth 65536 in
theorem w_args : argsFit about1.vm theMethod args0 = true := by decide +kernel
set_option maxRecDepth 65536 in
theorem w_heap : heapFits about1 = true := by decide +kernel
set_option maxRecDepth 65536 in
theorem w_runnable : about1.curStatus? = some .runnable := by decide +kernel
set_option maxRecDepth 65536 in
theorem w_alone : about1.alone = true := by decide +kernel
set_option maxRecDepth 65536 in
theorem w_named : about1.methodNamed? x = some theMethod := by decide +kernel
set_option maxRecDepth 65536 in
theorem w_hears : about1.hears theMethod below0 = true := by decide +kernel
set_option maxRecDepth 65536 in
theorem w_ripe : about1.ripe theMethod args0 below0 = true := by decide +kernel
theorem w_running : about1.status = .running := rfl
set_option maxRecDepth 65536 in
theorem w_room : about1.hasRoom e0.platform room_1 = true :=
  launch0.hasRoom_least _ room_1 (by decide +kernel) (by decide +kernel) (by decide +kernel) (by decide +kernel) (by decide +kernel) (by decide +kernel)
theorem allAtoms_all (ts : List Jvm.Cond) (a : Array Jvm.Value) (st : Jvm.State) : (allAtoms ts).before a st = ts.all (fun c => c.before a st) := by
  induction ts with
  | nil => rfl
  | cons c t ih =>
    show (Jvm.Cond.and c (allAtoms t)).before a st = _
    rw [Jvm.Cond.before_and, ih, List.all_cons]
def words1 : List Jvm.Cond := Jvm.Cond.code x code maxLocals ret :: tables_1
/-- a 'code' word, met by the world's own term for the bytes: nothing is compared byte by byte -/
theorem code_word {y : MethodName} {bytes : ByteArray} {mx : Nat} {rt : Option FieldType} {a : Array Value} {s : State} {m : MethodId} {meth : Method} {c : Code} (h1 : s.methodNamed? y = some m) (h2 : s.vm.method? m = some meth) (h3 : meth.code = some c) (h4 : c.code = bytes)
    (h5 : (c.maxLocals == mx && c.exceptionTable.isEmpty && decide (c.maxStack ≤ mostOperands) && decide (meth.sig.returnType = rt) && !meth.locks && decide (parseMethodDescriptor y.desc = some meth.sig)) = true) : (Jvm.Cond.code y bytes mx rt).before a s = true := by
  simp only [Bool.and_eq_true, beq_iff_eq, Bool.not_eq_true', decide_eq_true_eq] at h5
  obtain ⟨⟨⟨⟨⟨g1, g2⟩, g3⟩, g4⟩, g5⟩, g6⟩ := h5
  simp [Cond.before, Cond.holds, Cond.value, h1, h2, h3, h4, g1, g2, g3, g4, g5, g6]
def isCode : Jvm.Cond → Bool
  | .code _ _ _ _ => true
  | _ => false
theorem all_split {L : List Jvm.Cond} {P : Jvm.Cond → Bool} (h1 : L.all (fun c => isCode c || P c) = true) (h2 : ∀ c ∈ L.filter isCode, P c = true) : L.all P = true := by
  refine List.all_eq_true.mpr fun c hc => ?_
  have h := List.all_eq_true.mp h1 c hc
  rcases Bool.eq_false_or_eq_true (isCode c) with hi | hi
  · exact h2 c (List.mem_filter.mpr ⟨hc, hi⟩)
  · simpa [hi] using h
set_option maxRecDepth 65536 in
theorem w_c0 : (Jvm.Cond.code x code maxLocals ret).before args0 about1 = true := code_word (m := ⟨1, 3⟩) (meth := k1m3) (c := k1c3) (by decide +kernel) rfl rfl rfl (by decide +kernel)
set_option maxRecDepth 65536 in
theorem w_c1 : (Jvm.Cond.code ({ cls := "com/example/gawain/gawain/statespace/ProbabilityIndicesGetPinLaw", name := "scale", desc := "(II)I" } : Jvm.MethodName) method_2_code (3 : Nat) (Option.some Jvm.ClassFile.FieldType.int)).before args0 about1 = true := code_word (m := ⟨1, 1⟩) (meth := k1m1) (c := k1c1) (by decide +kernel) rfl rfl rfl (by decide +kernel)
set_option maxRecDepth 65536 in
theorem w_c2 : (Jvm.Cond.code ({ cls := "com/example/gawain/gawain/statespace/ProbabilityIndices", name := "<init>", desc := "(I)V" } : Jvm.MethodName) prog_127_method_1_code (2 : Nat) (Option.none : Option Jvm.ClassFile.FieldType)).before args0 about1 = true := code_word (m := ⟨2, 0⟩) (meth := k2m0) (c := k2c0) (by decide +kernel) rfl rfl rfl (by decide +kernel)
set_option maxRecDepth 65536 in
theorem w_c3 : (Jvm.Cond.code ({ cls := "java/lang/Object", name := "<init>", desc := "()V" } : Jvm.MethodName) object_method_1_code (1 : Nat) (Option.none : Option Jvm.ClassFile.FieldType)).before args0 about1 = true := code_word (m := ⟨0, 0⟩) (meth := k0m0) (c := k0c0) (by decide +kernel) rfl rfl rfl (by decide +kernel)
set_option maxRecDepth 65536 in
theorem w_c4 : (Jvm.Cond.code ({ cls := "com/example/gawain/gawain/statespace/ProbabilityIndices", name := "set", desc := "(II)V" } : Jvm.MethodName) prog_127_method_3_code (4 : Nat) (Option.none : Option Jvm.ClassFile.FieldType)).before args0 about1 = true := code_word (m := ⟨2, 2⟩) (meth := k2m2) (c := k2c2) (by decide +kernel) rfl rfl rfl (by decide +kernel)
set_option maxRecDepth 65536 in
theorem w_c5 : (Jvm.Cond.code ({ cls := "com/example/gawain/gawain/statespace/ProbabilityIndices", name := "get", desc := "(I)I" } : Jvm.MethodName) prog_127_method_2_code (3 : Nat) (Option.some Jvm.ClassFile.FieldType.int)).before args0 about1 = true := code_word (m := ⟨2, 1⟩) (meth := k2m1) (c := k2c1) (by decide +kernel) rfl rfl rfl (by decide +kernel)
set_option maxRecDepth 65536 in
theorem w_c6 : (Jvm.Cond.code ({ cls := "com/example/gawain/gawain/statespace/ProbabilityIndicesGetPinLaw", name := "expected", desc := "(IIIIIII)I" } : Jvm.MethodName) method_3_code (7 : Nat) (Option.some Jvm.ClassFile.FieldType.int)).before args0 about1 = true := code_word (m := ⟨1, 2⟩) (meth := k1m2) (c := k1c2) (by decide +kernel) rfl rfl rfl (by decide +kernel)
def codes1 : List Jvm.Cond := [Jvm.Cond.code x code maxLocals ret, Jvm.Cond.code ({ cls := "com/example/gawain/gawain/statespace/ProbabilityIndicesGetPinLaw", name := "scale", desc := "(II)I" } : Jvm.MethodName) method_2_code (3 : Nat) (Option.some Jvm.ClassFile.FieldType.int), Jvm.Cond.code ({ cls := "com/example/gawain/gawain/statespace/ProbabilityIndices", name := "<init>", desc := "(I)V" } : Jvm.MethodName) prog_127_method_1_code (2 : Nat) (Option.none : Option Jvm.ClassFile.FieldType), Jvm.Cond.code ({ cls := "java/lang/Object", name := "<init>", desc := "()V" } : Jvm.MethodName) object_method_1_code (1 : Nat) (Option.none : Option Jvm.ClassFile.FieldType), Jvm.Cond.code ({ cls := "com/example/gawain/gawain/statespace/ProbabilityIndices", name := "set", desc := "(II)V" } : Jvm.MethodName) prog_127_method_3_code (4 : Nat) (Option.none : Option Jvm.ClassFile.FieldType), Jvm.Cond.code ({ cls := "com/example/gawain/gawain/statespace/ProbabilityIndices", name := "get", desc := "(I)I" } : Jvm.MethodName) prog_127_method_2_code (3 : Nat) (Option.some Jvm.ClassFile.FieldType.int), Jvm.Cond.code ({ cls := "com/example/gawain/gawain/statespace/ProbabilityIndicesGetPinLaw", name := "expected", desc := "(IIIIIII)I" } : Jvm.MethodName) method_3_code (7 : Nat) (Option.some Jvm.ClassFile.FieldType.int)]
set_option maxRecDepth 65536 in
theorem codes_eq : words1.filter isCode = codes1 := rfl
theorem w_codes : ∀ c ∈ words1.filter isCode, c.before args0 about1 = true := by
  rw [codes_eq]
  intro c hc
  simp only [codes1, List.mem_cons, List.not_mem_nil, or_false] at hc
  rcases hc with rfl | rfl | rfl | rfl | rfl | rfl | rfl
  · exact w_c0
  · exact w_c1
  · exact w_c2
  · exact w_c3
  · exact w_c4
  · exact w_c5
  · exact w_c6
set_option maxRecDepth 65536 in
theorem w_t1 : (words1.take 24).all (fun c => isCode c || c.before args0 about1) = true := by decide +kernel
set_option maxRecDepth 65536 in
theorem w_t2 : (words1.drop 24).all (fun c => isCode c || c.before args0 about1) = true := by decide +kernel
theorem w_tables : (allAtoms (Jvm.Cond.code x code maxLocals ret :: tables_1)).before args0 about1 = true := by
  rw [allAtoms_all]
  show words1.all (fun c => c.before args0 about1) = true
  refine all_split ?_ w_codes
  rw [← List.take_append_drop 24 words1, List.all_append, w_t1, w_t2]
  rfl
set_option maxRecDepth 65536 in
theorem w_case : (Jvm.Cond.and given_1 narrow_1).before args0 about1 = true := by decide +kernel
theorem w_applies : (headSpec (Jvm.Cond.code x code maxLocals ret :: tables_1) room_1).applies x e0.platform about1 = true :=
  (Spec.applies_iff w_frames).mpr ⟨w_running, w_runnable, w_alone, w_named, w_hears, w_ripe, w_room, w_tables⟩
theorem atStart : AtStart classFile x code maxLocals ret World_1 tables_1 room_1 Calls_1 rest_1 Pre_1 launch0 p0 e0 about1 theMethod args0 below0 :=
  ⟨lists_1, trivial, launch0.admits_env _ _ _, launch0.least_env, fairChoices_fair.cas, fairChoices_fair.clock, w_frames, w_args, w_heap, w_applies, trivial, trivial, w_case⟩
end start1
theorem witness_1 : WitnessClaimed_1 := ⟨start1.p0, start1.e0, start1.about1, start1.theMethod, start1.args0, start1.below0, start1.atStart⟩
end Jvm.Pilot.@@N@@
