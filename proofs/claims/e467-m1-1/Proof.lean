import JvmDerived
import JvmDerived.Pilot.@@N@@Statement
import JvmDerived.Pilot.@@N@@Code
set_option linter.unusedVariables false
set_option linter.unusedSimpArgs false
namespace Jvm.Pilot.@@N@@
open Jvm Jvm.ClassFile Sem Op Lib Jvm.Free Jvm.Stand Jvm.LawKit Jvm.RoadKit Bundle Jvm.Pilot.@@N@@.Jvm.D
section OwnKit
variable {p : Program} {l : Launch} {e : Env} {R : Room} {s : State} {m : MethodId} {args : Array Value} {below : List Frame} {meth : Method} {c : Code} {T : State} {locs : List Loc} {cells slots : Nat} {Z : State} {a0 : Array Value} {h : Heap} {Q : Option Value → Heap → List Loc → Prop} {rc rs : Nat} {pc pc' : Nat} {Ls Ls' : Array Slot} {st : List Value} {own : String} {index : Nat}
/-- from the state S the body comes to its end as Q says, with at most rc new cells and rs new slots -/
def OwnGo (p : Program) (e : Env) (below : List Frame) (s : State) (Q : Option Value → Heap → List Loc → Prop) (rc rs : Nat) (S : State) : Prop :=
  ∃ t o, Steps p.tables e below S t ∧ t.status = .running ∧ Ended t below o ∧ ∃ v L, o = .returned v ∧ Q v t.heap L ∧ FrameEnd s o t L rc rs
theorem own_step {S S' : State} (k : ∀ t, Steps p.tables e below S' t → Steps p.tables e below S t) (g : OwnGo p e below s Q rc rs S') : OwnGo p e below s Q rc rs S := by
  obtain ⟨t, o, h1, r⟩ := g
  exact ⟨t, o, k t h1, r⟩
theorem own_cast {g g' : JFrame} (q : g = g') (k : OwnGo p e below s Q rc rs (T.setTop g')) : OwnGo p e below s Q rc rs (T.setTop g) := q ▸ k
theorem own_met {y : MethodName} {bytes : ByteArray} {maxL : Nat} {ret : Option FieldType} {rm : Room} {ws : List Jvm.Cond} {as' : Array Value} (hpl : plainFor y = true) (ef : ∀ m, entryFrame m as' maxL = mkF m 0 Ls [])
    (body : ∀ (p : Program) (e : Env) (s : State) (m : MethodId) (below : List Frame) (meth : Method) (c : Code) (T : State), p.tables.exec = Jvm.exec → Z.Warmed39 s.vm → c.code = bytes → c.maxLocals = maxL → s.vm.findClass y.cls = some m.cls → meth.name = y.name → meth.sig.returnType = ret → meth.locks = false → Stand p l e rm s m as' below meth c T [] 0 0 → T.heap = h → OwnGo p e below s Q rm.cells rm.slots (T.setTop (mkF m 0 Ls []))) :
    MetFree l y (head1 (Jvm.Cond.code y bytes maxL ret :: ws) rm) (fun a U => a = as' ∧ Z.Warmed39 U.vm ∧ U.heap = h) (fun _ _ _ _ _ => True) (fun _ U o U' => ∃ v L, o = .returned v ∧ Q v U'.heap L ∧ FrameEnd U o U' L rm.cells rm.slots) := by
  refine MetFree.of_bodySF hpl hisR ?_
  intro p e s m args below meth c s₁ Bd hml0 hP hK
  obtain ⟨rfl, hZ, hh⟩ := hP
  have X0 : Stand p l e rm s m args below meth c s₁ [] 0 0 := Stand.of_body Bd
  have e0 : s₁.heap = h := by rw [← hh, Bd.state]; rfl
  have q := body p e s m below meth c s₁ Bd.exec hZ Bd.bytes hml0 (findClass_of_methodNamed Bd.named) (name_of_methodNamed Bd.named Bd.method).1 Bd.returns Bd.notSynchronized X0 e0
  rw [← ef m] at q
  exact q

theorem own_iloadN (X : Stand p l e R s m args below meth c T locs cells slots) (hx : p.tables.exec = Jvm.exec) {k : Fin 4} {v : Int32} (hd : decode c.code pc = .ok (.iload_n k, 1)) (hl : Ls[k.val]? = some (.val (.int v))) (hp : pc + 1 = pc') (g : OwnGo p e below s Q rc rs (T.setTop (mkF m pc' Ls (.int v :: st)))) : OwnGo p e below s Q rc rs (T.setTop (mkF m pc Ls st)) := by
  subst hp
  exact own_step (fun _ k => XS.iloadN X.here hx rfl hd hl k) g
theorem own_lloadN (X : Stand p l e R s m args below meth c T locs cells slots) (hx : p.tables.exec = Jvm.exec) {k : Fin 4} {v : Int64} (hd : decode c.code pc = .ok (.lload_n k, 1)) (hl : Ls[k.val]? = some (.val (.long v))) (hp : pc + 1 = pc') (g : OwnGo p e below s Q rc rs (T.setTop (mkF m pc' Ls (.long v :: st)))) : OwnGo p e below s Q rc rs (T.setTop (mkF m pc Ls st)) := by
  subst hp
  exact own_step (fun _ k => XS.lloadN X.here hx rfl hd hl k) g
theorem own_aloadN (X : Stand p l e R s m args below meth c T locs cells slots) (hx : p.tables.exec = Jvm.exec) {k : Fin 4} {v : Value} (hd : decode c.code pc = .ok (.aload_n k, 1)) (hl : Ls[k.val]? = some (.val v)) (hv : v.isRef = true) (hp : pc + 1 = pc') (g : OwnGo p e below s Q rc rs (T.setTop (mkF m pc' Ls (v :: st)))) : OwnGo p e below s Q rc rs (T.setTop (mkF m pc Ls st)) := by
  subst hp
  exact own_step (fun _ k => XS.aloadN X.here hx rfl hd hl hv k) g
theorem own_istoreN (X : Stand p l e R s m args below meth c T locs cells slots) (hx : p.tables.exec = Jvm.exec) {k : Fin 4} {v : Int32} (hd : decode c.code pc = .ok (.istore_n k, 1)) (hl : storeLocals Ls k.val (.int v) = some Ls') (hp : pc + 1 = pc') (g : OwnGo p e below s Q rc rs (T.setTop (mkF m pc' Ls' st))) : OwnGo p e below s Q rc rs (T.setTop (mkF m pc Ls (.int v :: st))) := by
  subst hp
  exact own_step (fun _ k => XS.istoreN X.here hx rfl hd rfl hl k) g
theorem own_lstoreN (X : Stand p l e R s m args below meth c T locs cells slots) (hx : p.tables.exec = Jvm.exec) {k : Fin 4} {v : Int64} (hd : decode c.code pc = .ok (.lstore_n k, 1)) (hl : storeLocals Ls k.val (.long v) = some Ls') (hp : pc + 1 = pc') (g : OwnGo p e below s Q rc rs (T.setTop (mkF m pc' Ls' st))) : OwnGo p e below s Q rc rs (T.setTop (mkF m pc Ls (.long v :: st))) := by
  subst hp
  exact own_step (fun _ k => XS.lstoreN X.here hx rfl hd rfl hl k) g
theorem own_astoreN (X : Stand p l e R s m args below meth c T locs cells slots) (hx : p.tables.exec = Jvm.exec) {k : Fin 4} {v : Value} (hd : decode c.code pc = .ok (.astore_n k, 1)) (hv : v.isRef = true) (hl : storeLocals Ls k.val v = some Ls') (hp : pc + 1 = pc') (g : OwnGo p e below s Q rc rs (T.setTop (mkF m pc' Ls' st))) : OwnGo p e below s Q rc rs (T.setTop (mkF m pc Ls (v :: st))) := by
  subst hp
  exact own_step (fun _ k => XS.astoreN X.here hx rfl hd rfl hv hl k) g
theorem own_iload (X : Stand p l e R s m args below meth c T locs cells slots) (hx : p.tables.exec = Jvm.exec) {k : Nat} {v : Int32} (hd : decode c.code pc = .ok (.iload k, 2)) (hl : Ls[k]? = some (.val (.int v))) (hp : pc + 2 = pc') (g : OwnGo p e below s Q rc rs (T.setTop (mkF m pc' Ls (.int v :: st)))) : OwnGo p e below s Q rc rs (T.setTop (mkF m pc Ls st)) := by
  subst hp
  exact own_step (fun _ k => XS.iload X.here hx rfl hd hl k) g
theorem own_lload (X : Stand p l e R s m args below meth c T locs cells slots) (hx : p.tables.exec = Jvm.exec) {k : Nat} {v : Int64} (hd : decode c.code pc = .ok (.lload k, 2)) (hl : Ls[k]? = some (.val (.long v))) (hp : pc + 2 = pc') (g : OwnGo p e below s Q rc rs (T.setTop (mkF m pc' Ls (.long v :: st)))) : OwnGo p e below s Q rc rs (T.setTop (mkF m pc Ls st)) := by
  subst hp
  exact own_step (fun _ k => XS.lload X.here hx rfl hd hl k) g
theorem own_aload (X : Stand p l e R s m args below meth c T locs cells slots) (hx : p.tables.exec = Jvm.exec) {k : Nat} {v : Value} (hd : decode c.code pc = .ok (.aload k, 2)) (hl : Ls[k]? = some (.val v)) (hv : v.isRef = true) (hp : pc + 2 = pc') (g : OwnGo p e below s Q rc rs (T.setTop (mkF m pc' Ls (v :: st)))) : OwnGo p e below s Q rc rs (T.setTop (mkF m pc Ls st)) := by
  subst hp
  exact own_step (fun _ k => XS.aload X.here hx rfl hd hl hv k) g
theorem own_istore (X : Stand p l e R s m args below meth c T locs cells slots) (hx : p.tables.exec = Jvm.exec) {k : Nat} {v : Int32} (hd : decode c.code pc = .ok (.istore k, 2)) (hl : storeLocals Ls k (.int v) = some Ls') (hp : pc + 2 = pc') (g : OwnGo p e below s Q rc rs (T.setTop (mkF m pc' Ls' st))) : OwnGo p e below s Q rc rs (T.setTop (mkF m pc Ls (.int v :: st))) := by
  subst hp
  exact own_step (fun _ k => XS.istore X.here hx rfl hd rfl hl k) g
theorem own_lstore (X : Stand p l e R s m args below meth c T locs cells slots) (hx : p.tables.exec = Jvm.exec) {k : Nat} {v : Int64} (hd : decode c.code pc = .ok (.lstore k, 2)) (hl : storeLocals Ls k (.long v) = some Ls') (hp : pc + 2 = pc') (g : OwnGo p e below s Q rc rs (T.setTop (mkF m pc' Ls' st))) : OwnGo p e below s Q rc rs (T.setTop (mkF m pc Ls (.long v :: st))) := by
  subst hp
  exact own_step (fun _ k => XS.lstore X.here hx rfl hd rfl hl k) g
theorem own_astore (X : Stand p l e R s m args below meth c T locs cells slots) (hx : p.tables.exec = Jvm.exec) {k : Nat} {v : Value} (hd : decode c.code pc = .ok (.astore k, 2)) (hv : v.isRef = true) (hl : storeLocals Ls k v = some Ls') (hp : pc + 2 = pc') (g : OwnGo p e below s Q rc rs (T.setTop (mkF m pc' Ls' st))) : OwnGo p e below s Q rc rs (T.setTop (mkF m pc Ls (v :: st))) := by
  subst hp
  exact own_step (fun _ k => XS.astore X.here hx rfl hd rfl hv hl k) g
theorem own_iconst (X : Stand p l e R s m args below meth c T locs cells slots) (hx : p.tables.exec = Jvm.exec) {i : Int} {z : Int32} (hd : decode c.code pc = .ok (.iconst i, 1)) (hz : Int32.ofInt i = z) (hp : pc + 1 = pc') (g : OwnGo p e below s Q rc rs (T.setTop (mkF m pc' Ls (.int z :: st)))) : OwnGo p e below s Q rc rs (T.setTop (mkF m pc Ls st)) := by
  subst hp hz
  exact own_step (fun _ k => XS.iconst X.here hx rfl hd k) g
theorem own_bipush (X : Stand p l e R s m args below meth c T locs cells slots) (hx : p.tables.exec = Jvm.exec) {i : Int} {z : Int32} (hd : decode c.code pc = .ok (.bipush i, 2)) (hz : (Int8.ofInt i).toInt32 = z) (hp : pc + 2 = pc') (g : OwnGo p e below s Q rc rs (T.setTop (mkF m pc' Ls (.int z :: st)))) : OwnGo p e below s Q rc rs (T.setTop (mkF m pc Ls st)) := by
  subst hp hz
  exact own_step (fun _ k => XS.bipush X.here hx rfl hd k) g
theorem own_sipush (X : Stand p l e R s m args below meth c T locs cells slots) (hx : p.tables.exec = Jvm.exec) {i : Int} {z : Int32} (hd : decode c.code pc = .ok (.sipush i, 3)) (hz : (Int16.ofInt i).toInt32 = z) (hp : pc + 3 = pc') (g : OwnGo p e below s Q rc rs (T.setTop (mkF m pc' Ls (.int z :: st)))) : OwnGo p e below s Q rc rs (T.setTop (mkF m pc Ls st)) := by
  subst hp hz
  exact own_step (fun _ k => XS.sipush X.here hx rfl hd k) g
theorem own_lconst (X : Stand p l e R s m args below meth c T locs cells slots) (hx : p.tables.exec = Jvm.exec) {i : Fin 2} {z : Int64} (hd : decode c.code pc = .ok (.lconst i, 1)) (hz : Int64.ofNat i = z) (hp : pc + 1 = pc') (g : OwnGo p e below s Q rc rs (T.setTop (mkF m pc' Ls (.long z :: st)))) : OwnGo p e below s Q rc rs (T.setTop (mkF m pc Ls st)) := by
  subst hp hz
  exact own_step (fun _ k => XS.lconst X.here hx rfl hd k) g
theorem own_iadd (X : Stand p l e R s m args below meth c T locs cells slots) (hx : p.tables.exec = Jvm.exec) {x y : Int32} (hd : decode c.code pc = .ok (.iadd, 1))  (hp : pc + 1 = pc') (g : OwnGo p e below s Q rc rs (T.setTop (mkF m pc' Ls (.int (x + y) :: st)))) : OwnGo p e below s Q rc rs (T.setTop (mkF m pc Ls (.int y :: .int x :: st))) := by
  subst hp
  exact own_step (fun _ k => XS.iadd X.here hx rfl hd rfl k) g
theorem own_isub (X : Stand p l e R s m args below meth c T locs cells slots) (hx : p.tables.exec = Jvm.exec) {x y : Int32} (hd : decode c.code pc = .ok (.isub, 1))  (hp : pc + 1 = pc') (g : OwnGo p e below s Q rc rs (T.setTop (mkF m pc' Ls (.int (x - y) :: st)))) : OwnGo p e below s Q rc rs (T.setTop (mkF m pc Ls (.int y :: .int x :: st))) := by
  subst hp
  exact own_step (fun _ k => XS.isub X.here hx rfl hd rfl k) g
theorem own_imul (X : Stand p l e R s m args below meth c T locs cells slots) (hx : p.tables.exec = Jvm.exec) {x y : Int32} (hd : decode c.code pc = .ok (.imul, 1))  (hp : pc + 1 = pc') (g : OwnGo p e below s Q rc rs (T.setTop (mkF m pc' Ls (.int (x * y) :: st)))) : OwnGo p e below s Q rc rs (T.setTop (mkF m pc Ls (.int y :: .int x :: st))) := by
  subst hp
  exact own_step (fun _ k => XS.imul X.here hx rfl hd rfl k) g
theorem own_iand (X : Stand p l e R s m args below meth c T locs cells slots) (hx : p.tables.exec = Jvm.exec) {x y : Int32} (hd : decode c.code pc = .ok (.iand, 1))  (hp : pc + 1 = pc') (g : OwnGo p e below s Q rc rs (T.setTop (mkF m pc' Ls (.int (x &&& y) :: st)))) : OwnGo p e below s Q rc rs (T.setTop (mkF m pc Ls (.int y :: .int x :: st))) := by
  subst hp
  exact own_step (fun _ k => XS.iand X.here hx rfl hd rfl k) g
theorem own_iushr (X : Stand p l e R s m args below meth c T locs cells slots) (hx : p.tables.exec = Jvm.exec) {x y : Int32} (hd : decode c.code pc = .ok (.iushr, 1))  (hp : pc + 1 = pc') (g : OwnGo p e below s Q rc rs (T.setTop (mkF m pc' Ls (.int (XT.ushr x y) :: st)))) : OwnGo p e below s Q rc rs (T.setTop (mkF m pc Ls (.int y :: .int x :: st))) := by
  subst hp
  exact own_step (fun _ k => XT.iushr X.here hx rfl hd rfl k) g
theorem own_ladd (X : Stand p l e R s m args below meth c T locs cells slots) (hx : p.tables.exec = Jvm.exec) {x y : Int64} (hd : decode c.code pc = .ok (.ladd, 1))  (hp : pc + 1 = pc') (g : OwnGo p e below s Q rc rs (T.setTop (mkF m pc' Ls (.long (x + y) :: st)))) : OwnGo p e below s Q rc rs (T.setTop (mkF m pc Ls (.long y :: .long x :: st))) := by
  subst hp
  exact own_step (fun _ k => XS.ladd X.here hx rfl hd rfl k) g
theorem own_lsub (X : Stand p l e R s m args below meth c T locs cells slots) (hx : p.tables.exec = Jvm.exec) {x y : Int64} (hd : decode c.code pc = .ok (.lsub, 1))  (hp : pc + 1 = pc') (g : OwnGo p e below s Q rc rs (T.setTop (mkF m pc' Ls (.long (x - y) :: st)))) : OwnGo p e below s Q rc rs (T.setTop (mkF m pc Ls (.long y :: .long x :: st))) := by
  subst hp
  exact own_step (fun _ k => XS.lsub X.here hx rfl hd rfl k) g
theorem own_land (X : Stand p l e R s m args below meth c T locs cells slots) (hx : p.tables.exec = Jvm.exec) {x y : Int64} (hd : decode c.code pc = .ok (.land, 1))  (hp : pc + 1 = pc') (g : OwnGo p e below s Q rc rs (T.setTop (mkF m pc' Ls (.long (x &&& y) :: st)))) : OwnGo p e below s Q rc rs (T.setTop (mkF m pc Ls (.long y :: .long x :: st))) := by
  subst hp
  exact own_step (fun _ k => XS.land X.here hx rfl hd rfl k) g
theorem own_lushr (X : Stand p l e R s m args below meth c T locs cells slots) (hx : p.tables.exec = Jvm.exec) {x : Int64} {y : Int32} (hd : decode c.code pc = .ok (.lushr, 1))  (hp : pc + 1 = pc') (g : OwnGo p e below s Q rc rs (T.setTop (mkF m pc' Ls (.long (XT.ushrL x y) :: st)))) : OwnGo p e below s Q rc rs (T.setTop (mkF m pc Ls (.int y :: .long x :: st))) := by
  subst hp
  exact own_step (fun _ k => XT.lushr X.here hx rfl hd rfl k) g
theorem own_lcmp (X : Stand p l e R s m args below meth c T locs cells slots) (hx : p.tables.exec = Jvm.exec) {x y : Int64} (hd : decode c.code pc = .ok (.lcmp, 1))  (hp : pc + 1 = pc') (g : OwnGo p e below s Q rc rs (T.setTop (mkF m pc' Ls (.int (XT.cmpL x y) :: st)))) : OwnGo p e below s Q rc rs (T.setTop (mkF m pc Ls (.long y :: .long x :: st))) := by
  subst hp
  exact own_step (fun _ k => XT.lcmp X.here hx rfl hd rfl k) g
theorem own_irem (X : Stand p l e R s m args below meth c T locs cells slots) (hx : p.tables.exec = Jvm.exec) {x y : Int32} (hd : decode c.code pc = .ok (.irem, 1)) (hy : y ≠ 0) (hp : pc + 1 = pc') (g : OwnGo p e below s Q rc rs (T.setTop (mkF m pc' Ls (.int (x % y) :: st)))) : OwnGo p e below s Q rc rs (T.setTop (mkF m pc Ls (.int y :: .int x :: st))) := by
  subst hp
  exact own_step (fun _ k => iremM X hx rfl hd rfl hy k) g
theorem own_idiv (X : Stand p l e R s m args below meth c T locs cells slots) (hx : p.tables.exec = Jvm.exec) {x y : Int32} (hd : decode c.code pc = .ok (.idiv, 1)) (hy : y ≠ 0) (hp : pc + 1 = pc') (g : OwnGo p e below s Q rc rs (T.setTop (mkF m pc' Ls (.int (x / y) :: st)))) : OwnGo p e below s Q rc rs (T.setTop (mkF m pc Ls (.int y :: .int x :: st))) := by
  subst hp
  exact own_step (fun _ k => XS.idiv X.here hx rfl hd rfl hy k) g
theorem own_lrem (X : Stand p l e R s m args below meth c T locs cells slots) (hx : p.tables.exec = Jvm.exec) {x y : Int64} (hd : decode c.code pc = .ok (.lrem, 1)) (hy : y ≠ 0) (hp : pc + 1 = pc') (g : OwnGo p e below s Q rc rs (T.setTop (mkF m pc' Ls (.long (x % y) :: st)))) : OwnGo p e below s Q rc rs (T.setTop (mkF m pc Ls (.long y :: .long x :: st))) := by
  subst hp
  exact own_step (fun _ k => XS.lrem X.here hx rfl hd rfl hy (by rw [lrem_mod]; exact k)) g
theorem own_i2l (X : Stand p l e R s m args below meth c T locs cells slots) (hx : p.tables.exec = Jvm.exec) {x : Int32} (hd : decode c.code pc = .ok (.i2l, 1))  (hp : pc + 1 = pc') (g : OwnGo p e below s Q rc rs (T.setTop (mkF m pc' Ls (.long x.toInt64 :: st)))) : OwnGo p e below s Q rc rs (T.setTop (mkF m pc Ls (.int x :: st))) := by
  subst hp
  exact own_step (fun _ k => XS.i2l X.here hx rfl hd rfl k) g
theorem own_l2i (X : Stand p l e R s m args below meth c T locs cells slots) (hx : p.tables.exec = Jvm.exec) {x : Int64} (hd : decode c.code pc = .ok (.l2i, 1))  (hp : pc + 1 = pc') (g : OwnGo p e below s Q rc rs (T.setTop (mkF m pc' Ls (.int x.toInt32 :: st)))) : OwnGo p e below s Q rc rs (T.setTop (mkF m pc Ls (.long x :: st))) := by
  subst hp
  exact own_step (fun _ k => XS.l2i X.here hx rfl hd rfl k) g
theorem own_i2b (X : Stand p l e R s m args below meth c T locs cells slots) (hx : p.tables.exec = Jvm.exec) {x : Int32} (hd : decode c.code pc = .ok (.i2b, 1))  (hp : pc + 1 = pc') (g : OwnGo p e below s Q rc rs (T.setTop (mkF m pc' Ls (.int x.toInt8.toInt32 :: st)))) : OwnGo p e below s Q rc rs (T.setTop (mkF m pc Ls (.int x :: st))) := by
  subst hp
  exact own_step (fun _ k => XS.i2b X.here hx rfl hd rfl k) g
theorem own_i2c (X : Stand p l e R s m args below meth c T locs cells slots) (hx : p.tables.exec = Jvm.exec) {x : Int32} (hd : decode c.code pc = .ok (.i2c, 1))  (hp : pc + 1 = pc') (g : OwnGo p e below s Q rc rs (T.setTop (mkF m pc' Ls (.int x.toUInt32.toUInt16.toUInt32.toInt32 :: st)))) : OwnGo p e below s Q rc rs (T.setTop (mkF m pc Ls (.int x :: st))) := by
  subst hp
  exact own_step (fun _ k => XS.i2c X.here hx rfl hd rfl k) g
theorem own_dup (X : Stand p l e R s m args below meth c T locs cells slots) (hx : p.tables.exec = Jvm.exec) {x : Value} (hd : decode c.code pc = .ok (.dup, 1)) (hc : x.category = 1) (hp : pc + 1 = pc') (g : OwnGo p e below s Q rc rs (T.setTop (mkF m pc' Ls (x :: x :: st)))) : OwnGo p e below s Q rc rs (T.setTop (mkF m pc Ls (x :: st))) := by
  subst hp
  exact own_step (fun _ k => XS.dup X.here hx rfl hd rfl hc k) g
theorem own_aconst_null (X : Stand p l e R s m args below meth c T locs cells slots) (hx : p.tables.exec = Jvm.exec)  (hd : decode c.code pc = .ok (.aconst_null, 1))  (hp : pc + 1 = pc') (g : OwnGo p e below s Q rc rs (T.setTop (mkF m pc' Ls (.null :: st)))) : OwnGo p e below s Q rc rs (T.setTop (mkF m pc Ls st)) := by
  subst hp
  exact own_step (fun _ k => XS.aconstNull X.here hx rfl hd k) g
theorem own_iinc (X : Stand p l e R s m args below meth c T locs cells slots) (hx : p.tables.exec = Jvm.exec) {k : Nat} {cst : Int} {x z : Int32} (hd : decode c.code pc = .ok (.iinc k cst, 3)) (hl : Ls[k]? = some (.val (.int x))) (hz : x + Int32.ofInt cst = z) (hl' : storeLocals Ls k (.int z) = some Ls') (hp : pc + 3 = pc') (g : OwnGo p e below s Q rc rs (T.setTop (mkF m pc' Ls' st))) : OwnGo p e below s Q rc rs (T.setTop (mkF m pc Ls st)) := by
  subst hp hz
  exact own_step (fun _ k => XS.iinc X.here hx rfl hd hl hl' k) g
theorem own_ldcI (X : Stand p l e R s m args below meth c T locs cells slots) (hx : p.tables.exec = Jvm.exec) (hZ : Z.Warmed39 s.vm) (hown : s.vm.findClass own = some m.cls) {v : Int32} (w : (Cond.constant own index v).before a0 Z = true) (hd : decode c.code pc = .ok (.ldc index, 2))  (hp : pc + 2 = pc') (g : OwnGo p e below s Q rc rs (T.setTop (mkF m pc' Ls (.int v :: st)))) : OwnGo p e below s Q rc rs (T.setTop (mkF m pc Ls st)) := by
  subst hp
  exact own_step (fun _ k => X.ldcInt hx hown (mvT hZ w) (g := mkF m pc Ls st) rfl hd _ k) g
theorem own_ldcJ (X : Stand p l e R s m args below meth c T locs cells slots) (hx : p.tables.exec = Jvm.exec) (hZ : Z.Warmed39 s.vm) (hown : s.vm.findClass own = some m.cls) {v : Int64} (w : (Cond.constantLong own index v).before a0 Z = true) (hd : decode c.code pc = .ok (.ldc2_w index, 3))  (hp : pc + 3 = pc') (g : OwnGo p e below s Q rc rs (T.setTop (mkF m pc' Ls (.long v :: st)))) : OwnGo p e below s Q rc rs (T.setTop (mkF m pc Ls st)) := by
  subst hp
  exact own_step (fun _ k => X.ldc2Long hx hown (mvT hZ w) (g := mkF m pc Ls st) rfl hd _ k) g
theorem own_goto (X : Stand p l e R s m args below meth c T locs cells slots) (hx : p.tables.exec = Jvm.exec) {o : Int} (hd : decode c.code pc = .ok (.goto o, 3)) (hp : (pc : Int) + o = (pc' : Int)) (g : OwnGo p e below s Q rc rs (T.setTop (mkF m pc' Ls st))) : OwnGo p e below s Q rc rs (T.setTop (mkF m pc Ls st)) :=
  own_step (fun _ k => XS.goto X.here hx rfl (pc0 := pc) rfl hd (by omega) (by omega) k) g
theorem own_icmp_lt (X : Stand p l e R s m args below meth c T locs cells slots) (hx : p.tables.exec = Jvm.exec) {x y : Int32} {o : Int} {pc1 pc2 : Nat} (hd : decode c.code pc = .ok (.if_icmp .lt o, 3)) (h1 : pc + 3 = pc1) (h2 : (pc : Int) + o = (pc2 : Int)) (gT : x < y → OwnGo p e below s Q rc rs (T.setTop (mkF m pc2 Ls st))) (gF : ¬ x < y → OwnGo p e below s Q rc rs (T.setTop (mkF m pc1 Ls st))) : OwnGo p e below s Q rc rs (T.setTop (mkF m pc Ls (.int y :: .int x :: st))) := by
  subst h1
  by_cases q : x < y
  · exact own_step (fun _ k => XS.icmpYes X.here hx rfl (pc0 := pc) rfl hd rfl (tlt q).1 (by omega) (by omega) k) (gT q)
  · exact own_step (fun _ k => XS.icmpNo X.here hx rfl hd rfl (flt q).1 k) (gF q)
theorem own_if_lt (X : Stand p l e R s m args below meth c T locs cells slots) (hx : p.tables.exec = Jvm.exec) {x : Int32} {o : Int} {pc1 pc2 : Nat} (hd : decode c.code pc = .ok (.ifCond .lt o, 3)) (h1 : pc + 3 = pc1) (h2 : (pc : Int) + o = (pc2 : Int)) (gT : x < 0 → OwnGo p e below s Q rc rs (T.setTop (mkF m pc2 Ls st))) (gF : ¬ x < 0 → OwnGo p e below s Q rc rs (T.setTop (mkF m pc1 Ls st))) : OwnGo p e below s Q rc rs (T.setTop (mkF m pc Ls (.int x :: st))) := by
  subst h1
  by_cases q : x < 0
  · exact own_step (fun _ k => XS.ifYes X.here hx rfl (pc0 := pc) rfl hd rfl ((if0 _ _).trans (tlt q).1) (by omega) (by omega) k) (gT q)
  · exact own_step (fun _ k => XS.ifNo X.here hx rfl hd rfl ((if0 _ _).trans (flt q).1) k) (gF q)
theorem own_icmp_ge (X : Stand p l e R s m args below meth c T locs cells slots) (hx : p.tables.exec = Jvm.exec) {x y : Int32} {o : Int} {pc1 pc2 : Nat} (hd : decode c.code pc = .ok (.if_icmp .ge o, 3)) (h1 : pc + 3 = pc1) (h2 : (pc : Int) + o = (pc2 : Int)) (gT : ¬ x < y → OwnGo p e below s Q rc rs (T.setTop (mkF m pc2 Ls st))) (gF : x < y → OwnGo p e below s Q rc rs (T.setTop (mkF m pc1 Ls st))) : OwnGo p e below s Q rc rs (T.setTop (mkF m pc Ls (.int y :: .int x :: st))) := by
  subst h1
  by_cases q : x < y
  · exact own_step (fun _ k => XS.icmpNo X.here hx rfl hd rfl (tlt q).2.1 k) (gF q)
  · exact own_step (fun _ k => XS.icmpYes X.here hx rfl (pc0 := pc) rfl hd rfl (flt q).2.1 (by omega) (by omega) k) (gT q)
theorem own_if_ge (X : Stand p l e R s m args below meth c T locs cells slots) (hx : p.tables.exec = Jvm.exec) {x : Int32} {o : Int} {pc1 pc2 : Nat} (hd : decode c.code pc = .ok (.ifCond .ge o, 3)) (h1 : pc + 3 = pc1) (h2 : (pc : Int) + o = (pc2 : Int)) (gT : ¬ x < 0 → OwnGo p e below s Q rc rs (T.setTop (mkF m pc2 Ls st))) (gF : x < 0 → OwnGo p e below s Q rc rs (T.setTop (mkF m pc1 Ls st))) : OwnGo p e below s Q rc rs (T.setTop (mkF m pc Ls (.int x :: st))) := by
  subst h1
  by_cases q : x < 0
  · exact own_step (fun _ k => XS.ifNo X.here hx rfl hd rfl ((if0 _ _).trans (tlt q).2.1) k) (gF q)
  · exact own_step (fun _ k => XS.ifYes X.here hx rfl (pc0 := pc) rfl hd rfl ((if0 _ _).trans (flt q).2.1) (by omega) (by omega) k) (gT q)
theorem own_icmp_gt (X : Stand p l e R s m args below meth c T locs cells slots) (hx : p.tables.exec = Jvm.exec) {x y : Int32} {o : Int} {pc1 pc2 : Nat} (hd : decode c.code pc = .ok (.if_icmp .gt o, 3)) (h1 : pc + 3 = pc1) (h2 : (pc : Int) + o = (pc2 : Int)) (gT : y < x → OwnGo p e below s Q rc rs (T.setTop (mkF m pc2 Ls st))) (gF : ¬ y < x → OwnGo p e below s Q rc rs (T.setTop (mkF m pc1 Ls st))) : OwnGo p e below s Q rc rs (T.setTop (mkF m pc Ls (.int y :: .int x :: st))) := by
  subst h1
  by_cases q : y < x
  · exact own_step (fun _ k => XS.icmpYes X.here hx rfl (pc0 := pc) rfl hd rfl (tlt q).2.2.1 (by omega) (by omega) k) (gT q)
  · exact own_step (fun _ k => XS.icmpNo X.here hx rfl hd rfl (flt q).2.2.1 k) (gF q)
theorem own_if_gt (X : Stand p l e R s m args below meth c T locs cells slots) (hx : p.tables.exec = Jvm.exec) {x : Int32} {o : Int} {pc1 pc2 : Nat} (hd : decode c.code pc = .ok (.ifCond .gt o, 3)) (h1 : pc + 3 = pc1) (h2 : (pc : Int) + o = (pc2 : Int)) (gT : 0 < x → OwnGo p e below s Q rc rs (T.setTop (mkF m pc2 Ls st))) (gF : ¬ 0 < x → OwnGo p e below s Q rc rs (T.setTop (mkF m pc1 Ls st))) : OwnGo p e below s Q rc rs (T.setTop (mkF m pc Ls (.int x :: st))) := by
  subst h1
  by_cases q : 0 < x
  · exact own_step (fun _ k => XS.ifYes X.here hx rfl (pc0 := pc) rfl hd rfl ((if0 _ _).trans (tlt q).2.2.1) (by omega) (by omega) k) (gT q)
  · exact own_step (fun _ k => XS.ifNo X.here hx rfl hd rfl ((if0 _ _).trans (flt q).2.2.1) k) (gF q)
theorem own_icmp_le (X : Stand p l e R s m args below meth c T locs cells slots) (hx : p.tables.exec = Jvm.exec) {x y : Int32} {o : Int} {pc1 pc2 : Nat} (hd : decode c.code pc = .ok (.if_icmp .le o, 3)) (h1 : pc + 3 = pc1) (h2 : (pc : Int) + o = (pc2 : Int)) (gT : ¬ y < x → OwnGo p e below s Q rc rs (T.setTop (mkF m pc2 Ls st))) (gF : y < x → OwnGo p e below s Q rc rs (T.setTop (mkF m pc1 Ls st))) : OwnGo p e below s Q rc rs (T.setTop (mkF m pc Ls (.int y :: .int x :: st))) := by
  subst h1
  by_cases q : y < x
  · exact own_step (fun _ k => XS.icmpNo X.here hx rfl hd rfl (tlt q).2.2.2 k) (gF q)
  · exact own_step (fun _ k => XS.icmpYes X.here hx rfl (pc0 := pc) rfl hd rfl (flt q).2.2.2 (by omega) (by omega) k) (gT q)
theorem own_if_le (X : Stand p l e R s m args below meth c T locs cells slots) (hx : p.tables.exec = Jvm.exec) {x : Int32} {o : Int} {pc1 pc2 : Nat} (hd : decode c.code pc = .ok (.ifCond .le o, 3)) (h1 : pc + 3 = pc1) (h2 : (pc : Int) + o = (pc2 : Int)) (gT : ¬ 0 < x → OwnGo p e below s Q rc rs (T.setTop (mkF m pc2 Ls st))) (gF : 0 < x → OwnGo p e below s Q rc rs (T.setTop (mkF m pc1 Ls st))) : OwnGo p e below s Q rc rs (T.setTop (mkF m pc Ls (.int x :: st))) := by
  subst h1
  by_cases q : 0 < x
  · exact own_step (fun _ k => XS.ifNo X.here hx rfl hd rfl ((if0 _ _).trans (tlt q).2.2.2) k) (gF q)
  · exact own_step (fun _ k => XS.ifYes X.here hx rfl (pc0 := pc) rfl hd rfl ((if0 _ _).trans (flt q).2.2.2) (by omega) (by omega) k) (gT q)
theorem own_icmp_eq (X : Stand p l e R s m args below meth c T locs cells slots) (hx : p.tables.exec = Jvm.exec) {x y : Int32} {o : Int} {pc1 pc2 : Nat} (hd : decode c.code pc = .ok (.if_icmp .eq o, 3)) (h1 : pc + 3 = pc1) (h2 : (pc : Int) + o = (pc2 : Int)) (gT : x = y → OwnGo p e below s Q rc rs (T.setTop (mkF m pc2 Ls st))) (gF : ¬ x = y → OwnGo p e below s Q rc rs (T.setTop (mkF m pc1 Ls st))) : OwnGo p e below s Q rc rs (T.setTop (mkF m pc Ls (.int y :: .int x :: st))) := by
  subst h1
  by_cases q : x = y
  · exact own_step (fun _ k => XS.icmpYes X.here hx rfl (pc0 := pc) rfl hd rfl (teq q).1 (by omega) (by omega) k) (gT q)
  · exact own_step (fun _ k => XS.icmpNo X.here hx rfl hd rfl (feq q).1 k) (gF q)
theorem own_if_eq (X : Stand p l e R s m args below meth c T locs cells slots) (hx : p.tables.exec = Jvm.exec) {x : Int32} {o : Int} {pc1 pc2 : Nat} (hd : decode c.code pc = .ok (.ifCond .eq o, 3)) (h1 : pc + 3 = pc1) (h2 : (pc : Int) + o = (pc2 : Int)) (gT : x = 0 → OwnGo p e below s Q rc rs (T.setTop (mkF m pc2 Ls st))) (gF : ¬ x = 0 → OwnGo p e below s Q rc rs (T.setTop (mkF m pc1 Ls st))) : OwnGo p e below s Q rc rs (T.setTop (mkF m pc Ls (.int x :: st))) := by
  subst h1
  by_cases q : x = 0
  · exact own_step (fun _ k => XS.ifYes X.here hx rfl (pc0 := pc) rfl hd rfl ((if0 _ _).trans (teq q).1) (by omega) (by omega) k) (gT q)
  · exact own_step (fun _ k => XS.ifNo X.here hx rfl hd rfl ((if0 _ _).trans (feq q).1) k) (gF q)
theorem own_icmp_ne (X : Stand p l e R s m args below meth c T locs cells slots) (hx : p.tables.exec = Jvm.exec) {x y : Int32} {o : Int} {pc1 pc2 : Nat} (hd : decode c.code pc = .ok (.if_icmp .ne o, 3)) (h1 : pc + 3 = pc1) (h2 : (pc : Int) + o = (pc2 : Int)) (gT : ¬ x = y → OwnGo p e below s Q rc rs (T.setTop (mkF m pc2 Ls st))) (gF : x = y → OwnGo p e below s Q rc rs (T.setTop (mkF m pc1 Ls st))) : OwnGo p e below s Q rc rs (T.setTop (mkF m pc Ls (.int y :: .int x :: st))) := by
  subst h1
  by_cases q : x = y
  · exact own_step (fun _ k => XS.icmpNo X.here hx rfl hd rfl (teq q).2 k) (gF q)
  · exact own_step (fun _ k => XS.icmpYes X.here hx rfl (pc0 := pc) rfl hd rfl (feq q).2 (by omega) (by omega) k) (gT q)
theorem own_if_ne (X : Stand p l e R s m args below meth c T locs cells slots) (hx : p.tables.exec = Jvm.exec) {x : Int32} {o : Int} {pc1 pc2 : Nat} (hd : decode c.code pc = .ok (.ifCond .ne o, 3)) (h1 : pc + 3 = pc1) (h2 : (pc : Int) + o = (pc2 : Int)) (gT : ¬ x = 0 → OwnGo p e below s Q rc rs (T.setTop (mkF m pc2 Ls st))) (gF : x = 0 → OwnGo p e below s Q rc rs (T.setTop (mkF m pc1 Ls st))) : OwnGo p e below s Q rc rs (T.setTop (mkF m pc Ls (.int x :: st))) := by
  subst h1
  by_cases q : x = 0
  · exact own_step (fun _ k => XS.ifNo X.here hx rfl hd rfl ((if0 _ _).trans (teq q).2) k) (gF q)
  · exact own_step (fun _ k => XS.ifYes X.here hx rfl (pc0 := pc) rfl hd rfl ((if0 _ _).trans (feq q).2) (by omega) (by omega) k) (gT q)
theorem own_ifnullY (X : Stand p l e R s m args below meth c T locs cells slots) (hx : p.tables.exec = Jvm.exec) {o : Int} {pc2 : Nat} (hd : decode c.code pc = .ok (.ifnull o, 3)) (h2 : (pc : Int) + o = (pc2 : Int)) (g : OwnGo p e below s Q rc rs (T.setTop (mkF m pc2 Ls st))) : OwnGo p e below s Q rc rs (T.setTop (mkF m pc Ls (.null :: st))) :=
  own_step (fun _ k => XS.ifnullYes X.here hx rfl (pc0 := pc) rfl hd rfl (by omega) (by omega) k) g
theorem own_ifnullN (X : Stand p l e R s m args below meth c T locs cells slots) (hx : p.tables.exec = Jvm.exec) {o : Int} {b : Addr} (hd : decode c.code pc = .ok (.ifnull o, 3))  (hp : pc + 3 = pc') (g : OwnGo p e below s Q rc rs (T.setTop (mkF m pc' Ls st))) : OwnGo p e below s Q rc rs (T.setTop (mkF m pc Ls (.ref b :: st))) := by
  subst hp
  exact own_step (fun _ k => XS.ifnullNo X.here hx rfl hd rfl k) g
theorem own_retI (X : Stand p l e R s m args below meth c T locs cells slots) (hx : p.tables.exec = Jvm.exec) (eT : T.heap = h) {z : Int32} (hret : meth.sig.returnType = some .int) (hlk : meth.locks = false) (hc : cells ≤ rc) (hs : slots ≤ rs) (hd : decode c.code pc = .ok (.ireturn, 1)) (hQ : Q (some (.int z)) h locs) : OwnGo p e below s Q rc rs (T.setTop (mkF m pc Ls (.int z :: st))) := by
  subst eT
  obtain ⟨fs, hr, hrun, hended, hW, hsame⟩ := X.leave (v := some (.int z)) (fun h => by rw [hret] at h; cases h) hlk
  exact ⟨_, _, retOut X hx hret rfl (Or.inl ⟨rfl, Or.inl rfl, _, rfl⟩) hd hr, hrun, hended, _, _, rfl, hQ, ⟨_, rfl⟩, hW, hsame.mono hc hs⟩
theorem own_retZ (X : Stand p l e R s m args below meth c T locs cells slots) (hx : p.tables.exec = Jvm.exec) (eT : T.heap = h) {z : Int32} (hret : meth.sig.returnType = some .boolean) (hlk : meth.locks = false) (hc : cells ≤ rc) (hs : slots ≤ rs) (hd : decode c.code pc = .ok (.ireturn, 1)) (hQ : Q (some (.int (nar .boolean z))) h locs) : OwnGo p e below s Q rc rs (T.setTop (mkF m pc Ls (.int z :: st))) := by
  subst eT
  obtain ⟨fs, hr, hrun, hended, hW, hsame⟩ := X.leave (v := some (.int (nar .boolean z))) (fun h => by rw [hret] at h; cases h) hlk
  exact ⟨_, _, retN X hx (t := .boolean) hret (by simp) hd hr, hrun, hended, _, _, rfl, hQ, ⟨_, rfl⟩, hW, hsame.mono hc hs⟩
theorem own_retJ (X : Stand p l e R s m args below meth c T locs cells slots) (hx : p.tables.exec = Jvm.exec) (eT : T.heap = h) {z : Int64} (hret : meth.sig.returnType = some .long) (hlk : meth.locks = false) (hc : cells ≤ rc) (hs : slots ≤ rs) (hd : decode c.code pc = .ok (.lreturn, 1)) (hQ : Q (some (.long z)) h locs) : OwnGo p e below s Q rc rs (T.setTop (mkF m pc Ls (.long z :: st))) := by
  subst eT
  obtain ⟨fs, hr, hrun, hended, hW, hsame⟩ := X.leave (v := some (.long z)) (fun h => by rw [hret] at h; cases h) hlk
  exact ⟨_, _, retOut X hx hret rfl (Or.inr (Or.inl ⟨rfl, rfl, _, rfl⟩)) hd hr, hrun, hended, _, _, rfl, hQ, ⟨_, rfl⟩, hW, hsame.mono hc hs⟩
theorem own_retA (X : Stand p l e R s m args below meth c T locs cells slots) (hx : p.tables.exec = Jvm.exec) (eT : T.heap = h) {z : Addr} {t : FieldType} (ht : t.isReference = true) (hret : meth.sig.returnType = some t) (hlk : meth.locks = false) (hc : cells ≤ rc) (hs : slots ≤ rs) (hd : decode c.code pc = .ok (.areturn, 1)) (hQ : Q (some (.ref z)) h locs) : OwnGo p e below s Q rc rs (T.setTop (mkF m pc Ls (.ref z :: st))) := by
  subst eT
  obtain ⟨fs, hr, hrun, hended, hW, hsame⟩ := X.leave (v := some (.ref z)) (fun h => by rw [hret] at h; cases h) hlk
  exact ⟨_, _, retOut X hx hret (by cases t <;> first | rfl | cases ht) (Or.inr (Or.inr (Or.inr (Or.inr ⟨rfl, ht, rfl⟩)))) hd hr, hrun, hended, _, _, rfl, hQ, ⟨_, rfl⟩, hW, hsame.mono hc hs⟩
theorem own_retV (X : Stand p l e R s m args below meth c T locs cells slots) (hx : p.tables.exec = Jvm.exec) (eT : T.heap = h)  (hret : meth.sig.returnType = none) (hlk : meth.locks = false) (hc : cells ≤ rc) (hs : slots ≤ rs) (hd : decode c.code pc = .ok (.return_, 1)) (hQ : Q (none) h locs) : OwnGo p e below s Q rc rs (T.setTop (mkF m pc Ls [])) := by
  subst eT
  obtain ⟨fs, hr, hrun, hended, hW, hsame⟩ := X.leave (v := none) (fun _ => rfl) hlk
  exact ⟨_, _, X.returnOut hx hret hd hr, hrun, hended, _, _, rfl, hQ, ⟨_, rfl⟩, hW, hsame.mono hc hs⟩
theorem own_getF (X : Stand p l e R s m args below meth c T locs cells slots) (hx : p.tables.exec = Jvm.exec) (hZ : Z.Warmed39 s.vm) (hown : s.vm.findClass own = some m.cls) {n d O : String} (w : (Cond.fieldLink own index O n d).before a0 Z = true) (eT : T.heap = h) {a : Addr} {v : Value} (F : Fld Z h a O n d v) (hd : decode c.code pc = .ok (.getfield index, 3))  (hp : pc + 3 = pc')
    (g : ∀ T', Stand p l e R s m args below meth c T' locs cells slots → T'.heap = h → OwnGo p e below s Q rc rs (T'.setTop (mkF m pc' Ls (v :: st)))) : OwnGo p e below s Q rc rs (T.setTop (mkF m pc Ls (.ref a :: st))) := by
  subst hp
  obtain ⟨T', X', e', k⟩ := getF X hx hZ hown (host := "") (Or.inl w) Via.refl eT F (g := mkF m pc Ls (.ref a :: st)) rfl rfl hd
  exact own_step k (g T' X' e')
theorem own_putF (X : Stand p l e R s m args below meth c T locs cells slots) (hx : p.tables.exec = Jvm.exec) (hZ : Z.Warmed39 s.vm) (hown : s.vm.findClass own = some m.cls) {n d O C : String} {kk : Nat} {ty : FieldType} (w : (Cond.fieldLink own index O n d).before a0 Z = true) (eT : T.heap = h) {a : Addr} {v v' old : Value} (F : Fld Z h a O n d old) (E : Exa Z h a C) (L : (Cond.lays C O n d).before a0 Z = true ∨ ((Cond.laysFinal C O n d).before a0 Z = true ∧ own = O ∧ meth.name = "<init>")) (wi : (Cond.instantiable C kk).before a0 Z = true) (hty : parseFieldDescriptor d = some ty) (hn : narrow ty v = v') (hf : fits ty v' = true) (hd : decode c.code pc = .ok (.putfield index, 3))  (hp : pc + 3 = pc')
    (g : ∀ T' h', Stand p l e R s m args below meth c T' (locs ++ [⟨a, Jvm.RoadKit.slotOf Z O n d⟩]) cells slots → T'.heap = h' → Wr h h' a (Jvm.RoadKit.slotOf Z O n d) v' → OwnGo p e below s Q rc rs (T'.setTop (mkF m pc' Ls st))) : OwnGo p e below s Q rc rs (T.setTop (mkF m pc Ls (v :: .ref a :: st))) := by
  subst hp
  obtain ⟨T', h', X', e', W, k⟩ := putFN X hx hZ hown w Via.refl eT F E L wi hty hn hf (g := mkF m pc Ls (v :: .ref a :: st)) rfl rfl hd
  exact own_step k (g T' h' X' e' W)
theorem own_newO (X : Stand p l e R s m args below meth c T locs cells slots) (hx : p.tables.exec = Jvm.exec) (hZ : Z.Warmed39 s.vm) (hown : s.vm.findClass own = some m.cls) {C : String} {n : Nat} (w : (Cond.classLink own index C).before a0 Z = true) (wi : (Cond.instantiable C n).before a0 Z = true) (wz : (Cond.initialized C).before a0 Z = true) (eT : T.heap = h) (hc : cells + 1 ≤ R.cells) (hl : slots + n ≤ R.slots) (hd : decode c.code pc = .ok (.new index, 3))  (hp : pc + 3 = pc')
    (g : ∀ T' h' b, b = h.size → Stand p l e R s m args below meth c T' locs (cells + 1) (slots + n) → T'.heap = h' → Ext h h' → Exa Z h' b C → (∀ {O nm d : String} {ty : FieldType}, Laid Z a0 C O nm d → parseFieldDescriptor d = some ty → Fld Z h' b O nm d (defaultValue ty)) → OwnGo p e below s Q rc rs (T'.setTop (mkF m pc' Ls (.ref b :: st)))) : OwnGo p e below s Q rc rs (T.setTop (mkF m pc Ls st)) := by
  subst hp
  obtain ⟨T', h', X', e', E', A', D', -, k⟩ := newO X hx hZ hown w wi wz eT (g := mkF m pc Ls st) rfl hd hc hl
  exact own_step k (g T' h' _ rfl X' e' E' A' (fun {_ _ _ _} => D'))
theorem own_newP (X : Stand p l e R s m args below meth c T locs cells slots) (hx : p.tables.exec = Jvm.exec) (hZ : Z.Warmed39 s.vm) {aty : ArrayType} (w : (Cond.arrayClass (newarray.typeOf aty)).before a0 Z = true) (eT : T.heap = h) {n : Int32} (hn : ¬ n < 0) {cap : Nat} (hcap : n.toNatClampNeg ≤ cap) (hb : cap * 8 ≤ 536870912) (hc : cells + 1 ≤ R.cells) (hl : slots + cap ≤ R.slots) {ad : String} (had : "[" ++ (newarray.typeOf aty).toString = ad) (hd : decode c.code pc = .ok (.newarray aty, 2))  (hp : pc + 2 = pc')
    (g : ∀ T' h' b k, b = h.size → Stand p l e R s m args below meth c T' locs (cells + 1) (slots + cap) → T'.heap = h' → Ext h h' → Arr Z h' b (newA k (newarray.typeOf aty) n) (newarray.typeOf aty) → Exa Z h' b ad → OwnGo p e below s Q rc rs (T'.setTop (mkF m pc' Ls (.ref b :: st)))) : OwnGo p e below s Q rc rs (T.setTop (mkF m pc Ls (.int n :: st))) := by
  subst hp
  obtain ⟨T', h', k', X', e', E', A', B', k⟩ := newPE X hx hZ w eT (g := mkF m pc Ls (.int n :: st)) rfl hd rfl hn hcap hb hc hl had
  exact own_step k (g T' h' _ k' rfl X' e' E' A' B')
theorem own_newR (X : Stand p l e R s m args below meth c T locs cells slots) (hx : p.tables.exec = Jvm.exec) (hZ : Z.Warmed39 s.vm) (hown : s.vm.findClass own = some m.cls) {C : String} (w1 : (Cond.classLink own index C).before a0 Z = true) (w2 : (Cond.arrayOver (.object C)).before a0 Z = true) (eT : T.heap = h) {n : Int32} (hn : ¬ n < 0) {cap : Nat} (hcap : n.toNatClampNeg ≤ cap) (hb : cap * 8 ≤ 536870912) (hc : cells + 1 ≤ R.cells) (hl : slots + cap ≤ R.slots) (hd : decode c.code pc = .ok (.anewarray index, 3))  (hp : pc + 3 = pc')
    (g : ∀ T' h' b, b = h.size → Stand p l e R s m args below meth c T' locs (cells + 1) (slots + cap) → T'.heap = h' → Ext h h' → OwnGo p e below s Q rc rs (T'.setTop (mkF m pc' Ls (.ref b :: st)))) : OwnGo p e below s Q rc rs (T.setTop (mkF m pc Ls (.int n :: st))) := by
  subst hp
  obtain ⟨T', h', k', X', e', E', A', -, k⟩ := newR X hx hZ hown w1 w2 eT (g := mkF m pc Ls (.int n :: st)) rfl hd rfl hn hcap hb hc hl
  exact own_step k (g T' h' _ rfl X' e' E')
theorem own_iastore (X : Stand p l e R s m args below meth c T locs cells slots) (hx : p.tables.exec = Jvm.exec) (hZ : Z.Warmed39 s.vm) (eT : T.heap = h) {a : Addr} {cl : Cell} (A : Arr Z h a cl .int) {j : Int32} {x : Int32} (hj : ¬ (j < 0 ∨ cl.slots.size ≤ j.toNatClampNeg)) (hd : decode c.code pc = .ok (.iastore, 1))  (hp : pc + 1 = pc')
    (g : ∀ T' h', Stand p l e R s m args below meth c T' (locs ++ [⟨a, j.toNatClampNeg⟩]) cells slots → T'.heap = h' → Wr h h' a j.toNatClampNeg (.int x) → OwnGo p e below s Q rc rs (T'.setTop (mkF m pc' Ls st))) : OwnGo p e below s Q rc rs (T.setTop (mkF m pc Ls (.int x :: .int j :: .ref a :: st))) := by
  subst hp
  obtain ⟨T', h', X', e', W, k⟩ := stI X hx hZ eT A hj (g := mkF m pc Ls (.int x :: .int j :: .ref a :: st)) rfl rfl hd
  exact own_step k (g T' h' X' e' W)
theorem own_castore (X : Stand p l e R s m args below meth c T locs cells slots) (hx : p.tables.exec = Jvm.exec) (hZ : Z.Warmed39 s.vm) (eT : T.heap = h) {a : Addr} {cl : Cell} (A : Arr Z h a cl .char) {j : Int32} {x : Int32} (hj : ¬ (j < 0 ∨ cl.slots.size ≤ j.toNatClampNeg)) (hd : decode c.code pc = .ok (.castore, 1))  (hp : pc + 1 = pc')
    (g : ∀ T' h', Stand p l e R s m args below meth c T' (locs ++ [⟨a, j.toNatClampNeg⟩]) cells slots → T'.heap = h' → Wr h h' a j.toNatClampNeg (.int (nar .char x)) → OwnGo p e below s Q rc rs (T'.setTop (mkF m pc' Ls st))) : OwnGo p e below s Q rc rs (T.setTop (mkF m pc Ls (.int x :: .int j :: .ref a :: st))) := by
  subst hp
  obtain ⟨T', h', X', e', W, k⟩ := stC X hx hZ eT A hj (g := mkF m pc Ls (.int x :: .int j :: .ref a :: st)) rfl rfl hd
  exact own_step k (g T' h' X' e' W)
theorem own_bastore (X : Stand p l e R s m args below meth c T locs cells slots) (hx : p.tables.exec = Jvm.exec) (hZ : Z.Warmed39 s.vm) (eT : T.heap = h) {a : Addr} {cl : Cell} (A : Arr Z h a cl .byte) {j : Int32} {x : Int32} (hj : ¬ (j < 0 ∨ cl.slots.size ≤ j.toNatClampNeg)) (hd : decode c.code pc = .ok (.bastore, 1))  (hp : pc + 1 = pc')
    (g : ∀ T' h', Stand p l e R s m args below meth c T' (locs ++ [⟨a, j.toNatClampNeg⟩]) cells slots → T'.heap = h' → Wr h h' a j.toNatClampNeg (.int (nar .byte x)) → OwnGo p e below s Q rc rs (T'.setTop (mkF m pc' Ls st))) : OwnGo p e below s Q rc rs (T.setTop (mkF m pc Ls (.int x :: .int j :: .ref a :: st))) := by
  subst hp
  obtain ⟨T', h', X', e', W, k⟩ := stB X hx hZ eT A hj (g := mkF m pc Ls (.int x :: .int j :: .ref a :: st)) rfl rfl hd
  exact own_step k (g T' h' X' e' W)
theorem own_zastore (X : Stand p l e R s m args below meth c T locs cells slots) (hx : p.tables.exec = Jvm.exec) (hZ : Z.Warmed39 s.vm) (eT : T.heap = h) {a : Addr} {cl : Cell} (A : Arr Z h a cl .boolean) {j : Int32} {x : Int32} (hj : ¬ (j < 0 ∨ cl.slots.size ≤ j.toNatClampNeg)) (hd : decode c.code pc = .ok (.bastore, 1))  (hp : pc + 1 = pc')
    (g : ∀ T' h', Stand p l e R s m args below meth c T' (locs ++ [⟨a, j.toNatClampNeg⟩]) cells slots → T'.heap = h' → Wr h h' a j.toNatClampNeg (.int (nar .boolean x)) → OwnGo p e below s Q rc rs (T'.setTop (mkF m pc' Ls st))) : OwnGo p e below s Q rc rs (T.setTop (mkF m pc Ls (.int x :: .int j :: .ref a :: st))) := by
  subst hp
  obtain ⟨T', h', X', e', W, k⟩ := stZ X hx hZ eT A hj (g := mkF m pc Ls (.int x :: .int j :: .ref a :: st)) rfl rfl hd
  exact own_step k (g T' h' X' e' W)
theorem own_lastore (X : Stand p l e R s m args below meth c T locs cells slots) (hx : p.tables.exec = Jvm.exec) (hZ : Z.Warmed39 s.vm) (eT : T.heap = h) {a : Addr} {cl : Cell} (A : Arr Z h a cl .long) {j : Int32} {x : Int64} (hj : ¬ (j < 0 ∨ cl.slots.size ≤ j.toNatClampNeg)) (hd : decode c.code pc = .ok (.lastore, 1))  (hp : pc + 1 = pc')
    (g : ∀ T' h', Stand p l e R s m args below meth c T' (locs ++ [⟨a, j.toNatClampNeg⟩]) cells slots → T'.heap = h' → Wr h h' a j.toNatClampNeg (.long x) → OwnGo p e below s Q rc rs (T'.setTop (mkF m pc' Ls st))) : OwnGo p e below s Q rc rs (T.setTop (mkF m pc Ls (.long x :: .int j :: .ref a :: st))) := by
  subst hp
  obtain ⟨T', h', X', e', W, k⟩ := stJ X hx hZ eT A hj (g := mkF m pc Ls (.long x :: .int j :: .ref a :: st)) rfl rfl hd
  exact own_step k (g T' h' X' e' W)
theorem own_iaload (X : Stand p l e R s m args below meth c T locs cells slots) (hx : p.tables.exec = Jvm.exec) (hZ : Z.Warmed39 s.vm) (eT : T.heap = h) {a : Addr} {cl : Cell} {v : Value} (A : Arr Z h a cl .int) {j : Int32} (hj : ¬ (j < 0 ∨ cl.slots.size ≤ j.toNatClampNeg)) (hv : cl.slots[j.toNatClampNeg]? = some v) (hd : decode c.code pc = .ok (.iaload, 1))  (hp : pc + 1 = pc') (g : OwnGo p e below s Q rc rs (T.setTop (mkF m pc' Ls (v :: st)))) : OwnGo p e below s Q rc rs (T.setTop (mkF m pc Ls (.int j :: .ref a :: st))) := by
  subst hp
  exact own_step (fun _ k => X.iaload hx (j := j) (v := v) (by rw [eT]; exact A.1) (State.isArrayOf_alike hZ.alike A.2.1) A.2.2 hj hv (g := mkF m pc Ls (.int j :: .ref a :: st)) rfl rfl hd _ k) g
theorem own_caload (X : Stand p l e R s m args below meth c T locs cells slots) (hx : p.tables.exec = Jvm.exec) (hZ : Z.Warmed39 s.vm) (eT : T.heap = h) {a : Addr} {cl : Cell} {v : Value} (A : Arr Z h a cl .char) {j : Int32} (hj : ¬ (j < 0 ∨ cl.slots.size ≤ j.toNatClampNeg)) (hv : cl.slots[j.toNatClampNeg]? = some v) (hd : decode c.code pc = .ok (.caload, 1))  (hp : pc + 1 = pc') (g : OwnGo p e below s Q rc rs (T.setTop (mkF m pc' Ls (v :: st)))) : OwnGo p e below s Q rc rs (T.setTop (mkF m pc Ls (.int j :: .ref a :: st))) := by
  subst hp
  exact own_step (fun _ k => X.caload hx (j := j) (v := v) (by rw [eT]; exact A.1) (State.isArrayOf_alike hZ.alike A.2.1) A.2.2 hj hv (g := mkF m pc Ls (.int j :: .ref a :: st)) rfl rfl hd _ k) g
theorem own_laload (X : Stand p l e R s m args below meth c T locs cells slots) (hx : p.tables.exec = Jvm.exec) (hZ : Z.Warmed39 s.vm) (eT : T.heap = h) {a : Addr} {cl : Cell} {v : Value} (A : Arr Z h a cl .long) {j : Int32} (hj : ¬ (j < 0 ∨ cl.slots.size ≤ j.toNatClampNeg)) (hv : cl.slots[j.toNatClampNeg]? = some v) (hd : decode c.code pc = .ok (.laload, 1))  (hp : pc + 1 = pc') (g : OwnGo p e below s Q rc rs (T.setTop (mkF m pc' Ls (v :: st)))) : OwnGo p e below s Q rc rs (T.setTop (mkF m pc Ls (.int j :: .ref a :: st))) := by
  subst hp
  exact own_step (fun _ k => X.laload hx (j := j) (v := v) (by rw [eT]; exact A.1) (State.isArrayOf_alike hZ.alike A.2.1) A.2.2 hj hv (g := mkF m pc Ls (.int j :: .ref a :: st)) rfl rfl hd _ k) g
theorem own_baload (X : Stand p l e R s m args below meth c T locs cells slots) (hx : p.tables.exec = Jvm.exec) (hZ : Z.Warmed39 s.vm) (eT : T.heap = h) {a : Addr} {cl : Cell} {v : Value} (A : Arr Z h a cl .byte) {j : Int32} (hj : ¬ (j < 0 ∨ cl.slots.size ≤ j.toNatClampNeg)) (hv : cl.slots[j.toNatClampNeg]? = some v) (hd : decode c.code pc = .ok (.baload, 1))  (hp : pc + 1 = pc') (g : OwnGo p e below s Q rc rs (T.setTop (mkF m pc' Ls (v :: st)))) : OwnGo p e below s Q rc rs (T.setTop (mkF m pc Ls (.int j :: .ref a :: st))) := by
  subst hp
  exact own_step (fun _ k => X.baloadBytes hx (j := j) (v := v) (by rw [eT]; exact A.1) (State.isArrayOf_alike hZ.alike A.2.1) A.2.2 hj hv (g := mkF m pc Ls (.int j :: .ref a :: st)) rfl rfl hd _ k) g
theorem own_zaload (X : Stand p l e R s m args below meth c T locs cells slots) (hx : p.tables.exec = Jvm.exec) (hZ : Z.Warmed39 s.vm) (eT : T.heap = h) {a : Addr} {cl : Cell} {v : Value} (A : Arr Z h a cl .boolean) {j : Int32} (hj : ¬ (j < 0 ∨ cl.slots.size ≤ j.toNatClampNeg)) (hv : cl.slots[j.toNatClampNeg]? = some v) (hd : decode c.code pc = .ok (.baload, 1))  (hp : pc + 1 = pc') (g : OwnGo p e below s Q rc rs (T.setTop (mkF m pc' Ls (v :: st)))) : OwnGo p e below s Q rc rs (T.setTop (mkF m pc Ls (.int j :: .ref a :: st))) := by
  subst hp
  exact own_step (fun _ k => X.baloadBooleans hx (j := j) (v := v) (by rw [eT]; exact A.1) (State.isArrayOf_alike hZ.alike A.2.1) A.2.2 hj hv (g := mkF m pc Ls (.int j :: .ref a :: st)) rfl rfl hd _ k) g
theorem own_arraylength (X : Stand p l e R s m args below meth c T locs cells slots) (hx : p.tables.exec = Jvm.exec) (hZ : Z.Warmed39 s.vm) (eT : T.heap = h) {a : Addr} {cl : Cell} {ty : FieldType} {z : Int32} (A : Arr Z h a cl ty) (hz : cl.slots.size.toInt32 = z) (hd : decode c.code pc = .ok (.arraylength, 1))  (hp : pc + 1 = pc') (g : OwnGo p e below s Q rc rs (T.setTop (mkF m pc' Ls (.int z :: st)))) : OwnGo p e below s Q rc rs (T.setTop (mkF m pc Ls (.ref a :: st))) := by
  subst hp hz
  exact own_step (fun _ k => X.arraylength hx (by rw [eT]; exact A.1) (State.isArrayOf_alike hZ.alike A.2.1) (g := mkF m pc Ls (.ref a :: st)) rfl rfl hd _ k) g
/-- the contract of a body: called with as' at a heap h, it ends as Q says -/
def OwnMet (l : Launch) (Z : State) (y : MethodName) (bytes : ByteArray) (maxL : Nat) (ret : Option FieldType) (as' : Array Value) (rm : Room) (Q : Option Value → Heap → List Loc → Prop) (h : Heap) : Prop := MetFree l y (head1 [Jvm.Cond.code y bytes maxL ret] rm) (fun a U => a = as' ∧ Z.Warmed39 U.vm ∧ U.heap = h) (fun _ _ _ _ _ => True) (fun _ U o U' => ∃ v L, o = .returned v ∧ Q v U'.heap L ∧ FrameEnd U o U' L rm.cells rm.slots)
theorem own_callS (X : Stand p l e R s m args below meth c T locs cells slots) (hx : p.tables.exec = Jvm.exec) (hZ : Z.Warmed39 s.vm) (hown : s.vm.findClass own = some m.cls) {y : MethodName} {bytes : ByteArray} {maxL : Nat} {ret : Option FieldType} {rm : Room} {argsL : List Value} {Qc : Option Value → Heap → List Loc → Prop} {W : Nat} {stk : List Value} (w1 : (Cond.methodLink own index y).before a0 Z = true) (w2 : (Cond.static y).before a0 Z = true) (w3 : (Cond.initialized y.cls).before a0 Z = true) (w4 : (Jvm.Cond.code y bytes maxL ret).before a0 Z = true) (eT : T.heap = h) (hM : OwnMet l Z y bytes maxL ret argsL.toArray rm Qc h) (hd : decode c.code pc = .ok (.invokestatic index, 3)) (hst : stk = argsL.reverse ++ st) (hlen : ∀ sig, parseMethodDescriptor y.desc = some sig → argsL.length = sig.parameters.length) (hsz : Ls.size = c.maxLocals) (hf : rm.frames + 1 ≤ R.frames) (hl : W + (maxL + 11) + rm.locals ≤ R.locals) (hc : cells + rm.cells ≤ R.cells) (hsl : slots + rm.slots ≤ R.slots) (hW : (st.map fun v => v.category).sum ≤ W) (hy : y.cls ≠ "java/lang/invoke/MethodHandle" ∧ y.cls ≠ "java/lang/invoke/VarHandle") (hp : pc + 3 = pc')
    (g : ∀ T' v L, Stand p l e R s m args below meth c T' (locs ++ L) (cells + rm.cells) (slots + rm.slots) → Qc v T'.heap L → OwnGo p e below s Q rc rs (T'.setTop (mkF m pc' Ls (v.toList ++ st)))) : OwnGo p e below s Q rc rs (T.setTop (mkF m pc Ls stk)) := by
  subst hp
  obtain ⟨v, vm1, ⟨T', L', k', n'⟩, -, X', ⟨Lc, hQ, l1, y1, z1⟩, k⟩ := Jvm.LawKit.callS X hx hown (mvT hZ w1) (mvT hZ w2) (mvT hZ w3) (mvT hZ w4) hy (backOf (Q := Qc) (W := W) hM hZ w4 w3 hf hl) (g := mkF m pc Ls stk) rfl hsz (argsL := argsL) (rest := st) hlen hst (by show 2 * 0 + _ ≤ _; omega) hd (fun _ _ => ⟨rfl, eT, hc, hsl⟩)
  exact by
    dsimp only [Pt.U, Pt.locs, Pt.cells, Pt.slots] at X' l1 y1 z1 k hQ
    subst l1 y1 z1
    exact own_step k (g T' v Lc X' hQ)
theorem own_callC (X : Stand p l e R s m args below meth c T locs cells slots) (hx : p.tables.exec = Jvm.exec) (hZ : Z.Warmed39 s.vm) (hown : s.vm.findClass own = some m.cls) {y : MethodName} {bytes : ByteArray} {maxL : Nat} {rm : Room} {argsL : List Value} {Qc : Option Value → Heap → List Loc → Prop} {W : Nat} {stk : List Value} {a : Addr} (hi : y.name = "<init>") (w1 : (Cond.methodLink own index y).before a0 Z = true) (w2 : (Cond.instanceMethod y).before a0 Z = true) (w3 : (Cond.initialized y.cls).before a0 Z = true) (w4 : (Jvm.Cond.code y bytes maxL none).before a0 Z = true) (eT : T.heap = h) (hM : OwnMet l Z y bytes maxL none (.ref a :: argsL).toArray rm Qc h) (hd : decode c.code pc = .ok (.invokespecial index, 3)) (hst : stk = argsL.reverse ++ .ref a :: st) (hlen : ∀ sig, parseMethodDescriptor y.desc = some sig → argsL.length = sig.parameters.length) (hsz : Ls.size = c.maxLocals) (hf : rm.frames + 1 ≤ R.frames) (hl : W + (maxL + 11) + rm.locals ≤ R.locals) (hc : cells + rm.cells ≤ R.cells) (hsl : slots + rm.slots ≤ R.slots) (hW : (st.map fun v => v.category).sum ≤ W) (hy : y.cls ≠ "java/lang/invoke/MethodHandle" ∧ y.cls ≠ "java/lang/invoke/VarHandle") (hp : pc + 3 = pc')
    (g : ∀ T' v L, Stand p l e R s m args below meth c T' (locs ++ L) (cells + rm.cells) (slots + rm.slots) → Qc v T'.heap L → OwnGo p e below s Q rc rs (T'.setTop (mkF m pc' Ls (v.toList ++ st)))) : OwnGo p e below s Q rc rs (T.setTop (mkF m pc Ls stk)) := by
  subst hp
  obtain ⟨v, vm1, ⟨T', L', k', n'⟩, -, X', ⟨Lc, hQ, l1, y1, z1⟩, k⟩ := X.specialBack hx hi hown (mvT hZ w1) (mvT hZ w2) (mvT hZ w4) hy (backOf (Q := Qc) (W := W) hM hZ w4 w3 hf hl) (g := mkF m pc Ls stk) rfl hsz (Steps.refl _) (a := a) (argsL := argsL) (rest := st) hlen hst (by show 2 * 0 + _ ≤ _; omega) hd (fun _ _ => ⟨rfl, eT, hc, hsl⟩)
  exact by
    dsimp only [Pt.U, Pt.locs, Pt.cells, Pt.slots] at X' l1 y1 z1 k hQ
    subst l1 y1 z1
    exact own_step (fun _ q => k.trans q) (g T' v Lc X' hQ)
theorem own_callV (X : Stand p l e R s m args below meth c T locs cells slots) (hx : p.tables.exec = Jvm.exec) (hZ : Z.Warmed39 s.vm) (hown : s.vm.findClass own = some m.cls) {y : MethodName} {bytes : ByteArray} {maxL : Nat} {ret : Option FieldType} {rm : Room} {argsL : List Value} {Qc : Option Value → Heap → List Loc → Prop} {W : Nat} {stk : List Value} {a : Addr} {C : String} (w1 : (Cond.methodLink own index y).before a0 Z = true) (w2 : (Cond.declares y).before a0 Z = true) (w5 : (Cond.selects C y y).before a0 Z = true) (w6 : (Cond.instanceMethod y).before a0 Z = true) (w3 : (Cond.initialized y.cls).before a0 Z = true) (w4 : (Jvm.Cond.code y bytes maxL ret).before a0 Z = true) (eT : T.heap = h) (E : Exa Z h a C) (hM : OwnMet l Z y bytes maxL ret (.ref a :: argsL).toArray rm Qc h) (hd : decode c.code pc = .ok (.invokevirtual index, 3)) (hst : stk = argsL.reverse ++ .ref a :: st) (hlen : ∀ sig, parseMethodDescriptor y.desc = some sig → argsL.length = sig.parameters.length) (hsz : Ls.size = c.maxLocals) (hf : rm.frames + 1 ≤ R.frames) (hl : W + (maxL + 11) + rm.locals ≤ R.locals) (hc : cells + rm.cells ≤ R.cells) (hsl : slots + rm.slots ≤ R.slots) (hW : (st.map fun v => v.category).sum ≤ W) (hy : y.cls ≠ "java/lang/invoke/MethodHandle" ∧ y.cls ≠ "java/lang/invoke/VarHandle") (hp : pc + 3 = pc')
    (g : ∀ T' v L, Stand p l e R s m args below meth c T' (locs ++ L) (cells + rm.cells) (slots + rm.slots) → Qc v T'.heap L → OwnGo p e below s Q rc rs (T'.setTop (mkF m pc' Ls (v.toList ++ st)))) : OwnGo p e below s Q rc rs (T.setTop (mkF m pc Ls stk)) := by
  subst hp
  obtain ⟨cB, kB, q1, q2, q3⟩ := isOf hZ eT E
  obtain ⟨v, vm1, ⟨T', L', k', n'⟩, -, X', ⟨Lc, hQ, l1, y1, z1⟩, k⟩ := X.virtualBack hx hown (mvT hZ w1) (mvT hZ w2) (notFace_of_selects (args := #[]) (mvT hZ w5)) (mvT hZ w5) (mvT hZ w6) hy (backOf (Q := Qc) (W := W) hM hZ w4 w3 hf hl) q1 q3 (g := mkF m pc Ls stk) rfl hsz (Steps.refl _) (argsL := argsL) (rest := st) hlen hst (by show 2 * 0 + _ ≤ _; omega) hd (fun _ _ => ⟨rfl, eT, hc, hsl⟩)
  exact by
    dsimp only [Pt.U, Pt.locs, Pt.cells, Pt.slots] at X' l1 y1 z1 k hQ
    subst l1 y1 z1
    exact own_step (fun _ q => k.trans q) (g T' v Lc X' hQ)
abbrev ownR0 : Room := { frames := 0, cells := 0, slots := 0, locals := 0 }
/-- returns z and changes nothing -/
abbrev OwnPure (l : Launch) (Z : State) (y : MethodName) (bytes : ByteArray) (maxL : Nat) (ret : Option FieldType) (as' : Array Value) (z : Value) (h : Heap) : Prop := OwnMet l Z y bytes maxL ret as' ownR0 (fun v h' L => v = some z ∧ h' = h ∧ L = []) h
theorem own_pureS (X : Stand p l e R s m args below meth c T locs cells slots) (hx : p.tables.exec = Jvm.exec) (hZ : Z.Warmed39 s.vm) (hown : s.vm.findClass own = some m.cls) {y : MethodName} {bytes : ByteArray} {maxL : Nat} {ret : Option FieldType} {argsL : List Value} {z : Value} {W : Nat} {stk : List Value} (w1 : (Cond.methodLink own index y).before a0 Z = true) (w2 : (Cond.static y).before a0 Z = true) (w3 : (Cond.initialized y.cls).before a0 Z = true) (w4 : (Jvm.Cond.code y bytes maxL ret).before a0 Z = true) (eT : T.heap = h) (hM : OwnPure l Z y bytes maxL ret argsL.toArray z h) (hd : decode c.code pc = .ok (.invokestatic index, 3)) (hst : stk = argsL.reverse ++ st) (hlen : ∀ sig, parseMethodDescriptor y.desc = some sig → argsL.length = sig.parameters.length) (hsz : Ls.size = c.maxLocals) (hf : 1 ≤ R.frames) (hl : W + (maxL + 11) ≤ R.locals) (hc : cells ≤ R.cells) (hsl : slots ≤ R.slots) (hW : (st.map fun v => v.category).sum ≤ W) (hy : y.cls ≠ "java/lang/invoke/MethodHandle" ∧ y.cls ≠ "java/lang/invoke/VarHandle") (hp : pc + 3 = pc')
    (g : ∀ T', Stand p l e R s m args below meth c T' locs cells slots → T'.heap = h → OwnGo p e below s Q rc rs (T'.setTop (mkF m pc' Ls (z :: st)))) : OwnGo p e below s Q rc rs (T.setTop (mkF m pc Ls stk)) := by
  refine own_callS (rm := ownR0) (Qc := fun v h' L => v = some z ∧ h' = h ∧ L = []) X hx hZ hown w1 w2 w3 w4 eT hM hd hst hlen hsz hf hl hc hsl hW hy hp ?_
  rintro T' v L X' ⟨rfl, h1, rfl⟩
  exact g T' (by simpa using X') h1
theorem own_pureV (X : Stand p l e R s m args below meth c T locs cells slots) (hx : p.tables.exec = Jvm.exec) (hZ : Z.Warmed39 s.vm) (hown : s.vm.findClass own = some m.cls) {y : MethodName} {bytes : ByteArray} {maxL : Nat} {ret : Option FieldType} {argsL : List Value} {z : Value} {W : Nat} {stk : List Value} {a : Addr} {C : String} (w1 : (Cond.methodLink own index y).before a0 Z = true) (w2 : (Cond.declares y).before a0 Z = true) (w5 : (Cond.selects C y y).before a0 Z = true) (w6 : (Cond.instanceMethod y).before a0 Z = true) (w3 : (Cond.initialized y.cls).before a0 Z = true) (w4 : (Jvm.Cond.code y bytes maxL ret).before a0 Z = true) (eT : T.heap = h) (E : Exa Z h a C) (hM : OwnPure l Z y bytes maxL ret (.ref a :: argsL).toArray z h) (hd : decode c.code pc = .ok (.invokevirtual index, 3)) (hst : stk = argsL.reverse ++ .ref a :: st) (hlen : ∀ sig, parseMethodDescriptor y.desc = some sig → argsL.length = sig.parameters.length) (hsz : Ls.size = c.maxLocals) (hf : 1 ≤ R.frames) (hl : W + (maxL + 11) ≤ R.locals) (hc : cells ≤ R.cells) (hsl : slots ≤ R.slots) (hW : (st.map fun v => v.category).sum ≤ W) (hy : y.cls ≠ "java/lang/invoke/MethodHandle" ∧ y.cls ≠ "java/lang/invoke/VarHandle") (hp : pc + 3 = pc')
    (g : ∀ T', Stand p l e R s m args below meth c T' locs cells slots → T'.heap = h → OwnGo p e below s Q rc rs (T'.setTop (mkF m pc' Ls (z :: st)))) : OwnGo p e below s Q rc rs (T.setTop (mkF m pc Ls stk)) := by
  refine own_callV (rm := ownR0) (Qc := fun v h' L => v = some z ∧ h' = h ∧ L = []) X hx hZ hown w1 w2 w5 w6 w3 w4 eT E hM hd hst hlen hsz hf hl hc hsl hW hy hp ?_
  rintro T' v L X' ⟨rfl, h1, rfl⟩
  exact g T' (by simpa using X') h1
/-- the array at a: n places of kind ty, the j-th holds a value with P j -/
def OwnArr (Z : State) (h : Heap) (a : Addr) (ty : FieldType) (n : Nat) (P : Nat → Value → Prop) : Prop := ∃ cl : Cell, Arr Z h a cl ty ∧ cl.slots.size = n ∧ ∀ j, j < n → ∃ v, cl.slots[j]? = some v ∧ P j v
theorem OwnArr.lt {a : Addr} {ty : FieldType} {n : Nat} {P : Nat → Value → Prop} (A : OwnArr Z h a ty n P) : a < h.size := by obtain ⟨cl, A, -⟩ := A; exact A.lt
theorem OwnArr.ext {h' : Heap} {a : Addr} {ty : FieldType} {n : Nat} {P : Nat → Value → Prop} (A : OwnArr Z h a ty n P) (E : Ext h h') : OwnArr Z h' a ty n P := by obtain ⟨cl, A, r⟩ := A; exact ⟨cl, A.ext E, r⟩
theorem OwnArr.other {h' : Heap} {a b : Addr} {sl : Nat} {v : Value} {ty : FieldType} {n : Nat} {P : Nat → Value → Prop} (A : OwnArr Z h b ty n P) (W : Wr h h' a sl v) (q : b ≠ a) : OwnArr Z h' b ty n P := by obtain ⟨cl, A, r⟩ := A; exact ⟨cl, A.other W q, r⟩
theorem OwnArr.keep {h' : Heap} {ws : List Addr} {a : Addr} {ty : FieldType} {n : Nat} {P : Nat → Value → Prop} (A : OwnArr Z h a ty n P) (K : Keep h h' ws) (q : a ∉ ws) : OwnArr Z h' a ty n P := by obtain ⟨cl, A, r⟩ := A; exact ⟨cl, ⟨K.2.1 a cl A.1 q, A.2⟩, r⟩
theorem OwnArr.mono {a : Addr} {ty : FieldType} {n : Nat} {P P' : Nat → Value → Prop} (A : OwnArr Z h a ty n P) (q : ∀ j v, j < n → P j v → P' j v) : OwnArr Z h a ty n P' := by
  obtain ⟨cl, A, S, H⟩ := A
  exact ⟨cl, A, S, fun j hj => by obtain ⟨v, h1, h2⟩ := H j hj; exact ⟨v, h1, q j v hj h2⟩⟩
theorem OwnArr.new {a : Addr} {k : ClassId} {ty : FieldType} {z : Int32} {n : Nat} (A : Arr Z h a (newA k ty z) ty) (hz : z.toNatClampNeg = n) : OwnArr Z h a ty n (fun _ v => v = defaultValue ty) := by
  subst hz
  refine ⟨_, A, sz_new _ _ _, fun j hj => ⟨_, ?_, rfl⟩⟩
  simp [newA, hj]
theorem OwnArr.set {h' : Heap} {a : Addr} {sl : Nat} {v : Value} {ty : FieldType} {n : Nat} {P P' : Nat → Value → Prop} (A : OwnArr Z h a ty n P) (W : Wr h h' a sl v) (q : ∀ i w, i < n → (i = sl → w = v) → (i ≠ sl → P i w) → P' i w) : OwnArr Z h' a ty n P' := by
  obtain ⟨cl, A, S, H⟩ := A
  refine ⟨_, A.same W, by rw [sz_set]; exact S, fun j hj => ?_⟩
  by_cases e : j = sl
  · subst e
    exact ⟨v, by simp [Cell.setSlot, S, hj], q j v hj (fun _ => rfl) (fun y => absurd rfl y)⟩
  · obtain ⟨w, h1, h2⟩ := H j hj
    refine ⟨w, ?_, q j w hj (fun y => absurd y e) (fun _ => h2)⟩
    simp only [Cell.setSlot]; rw [Array.getElem?_setIfInBounds_ne (fun y => e y.symm)]; exact h1
theorem own_inb {cl : Cell} {n : Nat} {j : Int32} (S : cl.slots.size = n) (h0 : 0 ≤ j.toInt) (h1 : j.toInt < n) : ¬ (j < 0 ∨ cl.slots.size ≤ j.toNatClampNeg) := by
  have l0 : (0 : Int32).toInt = 0 := by decide
  rw [Int32.lt_iff_toInt_lt, l0, S, Int32.toNatClampNeg]
  omega
theorem own_len {n : Nat} {z : Int32} (hz : z.toInt = n) : n.toInt32 = z := by
  have h0 : ¬ z < 0 := by
    have l0 : (0 : Int32).toInt = 0 := by decide
    rw [Int32.lt_iff_toInt_lt, l0]; omega
  have e : z.toNatClampNeg = n := by rw [Int32.toNatClampNeg]; omega
  rw [← e]
  exact (back32 h0).1
theorem own_iastoreA (X : Stand p l e R s m args below meth c T locs cells slots) (hx : p.tables.exec = Jvm.exec) (hZ : Z.Warmed39 s.vm) (eT : T.heap = h) {a : Addr} {n : Nat} {P : Nat → Value → Prop} (A : OwnArr Z h a .int n P) {j : Int32} {x : Int32} (h0 : 0 ≤ j.toInt) (h1 : j.toInt < n) (P' : Nat → Value → Prop) (hP : ∀ i w, i < n → (i = j.toNatClampNeg → w = (.int x)) → (i ≠ j.toNatClampNeg → P i w) → P' i w) (hd : decode c.code pc = .ok (.iastore, 1)) (hp : pc + 1 = pc')
    (g : ∀ T' h', Stand p l e R s m args below meth c T' (locs ++ [⟨a, j.toNatClampNeg⟩]) cells slots → T'.heap = h' → Wr h h' a j.toNatClampNeg (.int x) → OwnArr Z h' a .int n P' → OwnGo p e below s Q rc rs (T'.setTop (mkF m pc' Ls st))) : OwnGo p e below s Q rc rs (T.setTop (mkF m pc Ls (.int x :: .int j :: .ref a :: st))) := by
  have A0 := A
  obtain ⟨cl, Ar, S, H⟩ := A
  exact own_iastore X hx hZ eT Ar (own_inb S h0 h1) hd hp fun T' h' X' e' W => g T' h' X' e' W (A0.set W hP)
theorem own_castoreA (X : Stand p l e R s m args below meth c T locs cells slots) (hx : p.tables.exec = Jvm.exec) (hZ : Z.Warmed39 s.vm) (eT : T.heap = h) {a : Addr} {n : Nat} {P : Nat → Value → Prop} (A : OwnArr Z h a .char n P) {j : Int32} {x : Int32} (h0 : 0 ≤ j.toInt) (h1 : j.toInt < n) (P' : Nat → Value → Prop) (hP : ∀ i w, i < n → (i = j.toNatClampNeg → w = (.int (nar .char x))) → (i ≠ j.toNatClampNeg → P i w) → P' i w) (hd : decode c.code pc = .ok (.castore, 1)) (hp : pc + 1 = pc')
    (g : ∀ T' h', Stand p l e R s m args below meth c T' (locs ++ [⟨a, j.toNatClampNeg⟩]) cells slots → T'.heap = h' → Wr h h' a j.toNatClampNeg (.int (nar .char x)) → OwnArr Z h' a .char n P' → OwnGo p e below s Q rc rs (T'.setTop (mkF m pc' Ls st))) : OwnGo p e below s Q rc rs (T.setTop (mkF m pc Ls (.int x :: .int j :: .ref a :: st))) := by
  have A0 := A
  obtain ⟨cl, Ar, S, H⟩ := A
  exact own_castore X hx hZ eT Ar (own_inb S h0 h1) hd hp fun T' h' X' e' W => g T' h' X' e' W (A0.set W hP)
theorem own_bastoreA (X : Stand p l e R s m args below meth c T locs cells slots) (hx : p.tables.exec = Jvm.exec) (hZ : Z.Warmed39 s.vm) (eT : T.heap = h) {a : Addr} {n : Nat} {P : Nat → Value → Prop} (A : OwnArr Z h a .byte n P) {j : Int32} {x : Int32} (h0 : 0 ≤ j.toInt) (h1 : j.toInt < n) (P' : Nat → Value → Prop) (hP : ∀ i w, i < n → (i = j.toNatClampNeg → w = (.int (nar .byte x))) → (i ≠ j.toNatClampNeg → P i w) → P' i w) (hd : decode c.code pc = .ok (.bastore, 1)) (hp : pc + 1 = pc')
    (g : ∀ T' h', Stand p l e R s m args below meth c T' (locs ++ [⟨a, j.toNatClampNeg⟩]) cells slots → T'.heap = h' → Wr h h' a j.toNatClampNeg (.int (nar .byte x)) → OwnArr Z h' a .byte n P' → OwnGo p e below s Q rc rs (T'.setTop (mkF m pc' Ls st))) : OwnGo p e below s Q rc rs (T.setTop (mkF m pc Ls (.int x :: .int j :: .ref a :: st))) := by
  have A0 := A
  obtain ⟨cl, Ar, S, H⟩ := A
  exact own_bastore X hx hZ eT Ar (own_inb S h0 h1) hd hp fun T' h' X' e' W => g T' h' X' e' W (A0.set W hP)
theorem own_zastoreA (X : Stand p l e R s m args below meth c T locs cells slots) (hx : p.tables.exec = Jvm.exec) (hZ : Z.Warmed39 s.vm) (eT : T.heap = h) {a : Addr} {n : Nat} {P : Nat → Value → Prop} (A : OwnArr Z h a .boolean n P) {j : Int32} {x : Int32} (h0 : 0 ≤ j.toInt) (h1 : j.toInt < n) (P' : Nat → Value → Prop) (hP : ∀ i w, i < n → (i = j.toNatClampNeg → w = (.int (nar .boolean x))) → (i ≠ j.toNatClampNeg → P i w) → P' i w) (hd : decode c.code pc = .ok (.bastore, 1)) (hp : pc + 1 = pc')
    (g : ∀ T' h', Stand p l e R s m args below meth c T' (locs ++ [⟨a, j.toNatClampNeg⟩]) cells slots → T'.heap = h' → Wr h h' a j.toNatClampNeg (.int (nar .boolean x)) → OwnArr Z h' a .boolean n P' → OwnGo p e below s Q rc rs (T'.setTop (mkF m pc' Ls st))) : OwnGo p e below s Q rc rs (T.setTop (mkF m pc Ls (.int x :: .int j :: .ref a :: st))) := by
  have A0 := A
  obtain ⟨cl, Ar, S, H⟩ := A
  exact own_zastore X hx hZ eT Ar (own_inb S h0 h1) hd hp fun T' h' X' e' W => g T' h' X' e' W (A0.set W hP)
theorem own_lastoreA (X : Stand p l e R s m args below meth c T locs cells slots) (hx : p.tables.exec = Jvm.exec) (hZ : Z.Warmed39 s.vm) (eT : T.heap = h) {a : Addr} {n : Nat} {P : Nat → Value → Prop} (A : OwnArr Z h a .long n P) {j : Int32} {x : Int64} (h0 : 0 ≤ j.toInt) (h1 : j.toInt < n) (P' : Nat → Value → Prop) (hP : ∀ i w, i < n → (i = j.toNatClampNeg → w = (.long x)) → (i ≠ j.toNatClampNeg → P i w) → P' i w) (hd : decode c.code pc = .ok (.lastore, 1)) (hp : pc + 1 = pc')
    (g : ∀ T' h', Stand p l e R s m args below meth c T' (locs ++ [⟨a, j.toNatClampNeg⟩]) cells slots → T'.heap = h' → Wr h h' a j.toNatClampNeg (.long x) → OwnArr Z h' a .long n P' → OwnGo p e below s Q rc rs (T'.setTop (mkF m pc' Ls st))) : OwnGo p e below s Q rc rs (T.setTop (mkF m pc Ls (.long x :: .int j :: .ref a :: st))) := by
  have A0 := A
  obtain ⟨cl, Ar, S, H⟩ := A
  exact own_lastore X hx hZ eT Ar (own_inb S h0 h1) hd hp fun T' h' X' e' W => g T' h' X' e' W (A0.set W hP)
theorem own_ialoadA (X : Stand p l e R s m args below meth c T locs cells slots) (hx : p.tables.exec = Jvm.exec) (hZ : Z.Warmed39 s.vm) (eT : T.heap = h) {a : Addr} {n : Nat} {P : Nat → Value → Prop} (A : OwnArr Z h a .int n P) {j : Int32} (h0 : 0 ≤ j.toInt) (h1 : j.toInt < n) (hd : decode c.code pc = .ok (.iaload, 1)) (hp : pc + 1 = pc')
    (g : ∀ v, P j.toNatClampNeg v → OwnGo p e below s Q rc rs (T.setTop (mkF m pc' Ls (v :: st)))) : OwnGo p e below s Q rc rs (T.setTop (mkF m pc Ls (.int j :: .ref a :: st))) := by
  obtain ⟨cl, Ar, S, H⟩ := A
  have hj := own_inb S h0 h1
  obtain ⟨v, q1, q2⟩ := H j.toNatClampNeg (by rw [← S]; exact Nat.lt_of_not_le fun y => hj (Or.inr y))
  exact own_iaload X hx hZ eT Ar hj q1 hd hp (g v q2)
theorem own_caloadA (X : Stand p l e R s m args below meth c T locs cells slots) (hx : p.tables.exec = Jvm.exec) (hZ : Z.Warmed39 s.vm) (eT : T.heap = h) {a : Addr} {n : Nat} {P : Nat → Value → Prop} (A : OwnArr Z h a .char n P) {j : Int32} (h0 : 0 ≤ j.toInt) (h1 : j.toInt < n) (hd : decode c.code pc = .ok (.caload, 1)) (hp : pc + 1 = pc')
    (g : ∀ v, P j.toNatClampNeg v → OwnGo p e below s Q rc rs (T.setTop (mkF m pc' Ls (v :: st)))) : OwnGo p e below s Q rc rs (T.setTop (mkF m pc Ls (.int j :: .ref a :: st))) := by
  obtain ⟨cl, Ar, S, H⟩ := A
  have hj := own_inb S h0 h1
  obtain ⟨v, q1, q2⟩ := H j.toNatClampNeg (by rw [← S]; exact Nat.lt_of_not_le fun y => hj (Or.inr y))
  exact own_caload X hx hZ eT Ar hj q1 hd hp (g v q2)
theorem own_laloadA (X : Stand p l e R s m args below meth c T locs cells slots) (hx : p.tables.exec = Jvm.exec) (hZ : Z.Warmed39 s.vm) (eT : T.heap = h) {a : Addr} {n : Nat} {P : Nat → Value → Prop} (A : OwnArr Z h a .long n P) {j : Int32} (h0 : 0 ≤ j.toInt) (h1 : j.toInt < n) (hd : decode c.code pc = .ok (.laload, 1)) (hp : pc + 1 = pc')
    (g : ∀ v, P j.toNatClampNeg v → OwnGo p e below s Q rc rs (T.setTop (mkF m pc' Ls (v :: st)))) : OwnGo p e below s Q rc rs (T.setTop (mkF m pc Ls (.int j :: .ref a :: st))) := by
  obtain ⟨cl, Ar, S, H⟩ := A
  have hj := own_inb S h0 h1
  obtain ⟨v, q1, q2⟩ := H j.toNatClampNeg (by rw [← S]; exact Nat.lt_of_not_le fun y => hj (Or.inr y))
  exact own_laload X hx hZ eT Ar hj q1 hd hp (g v q2)
theorem own_baloadA (X : Stand p l e R s m args below meth c T locs cells slots) (hx : p.tables.exec = Jvm.exec) (hZ : Z.Warmed39 s.vm) (eT : T.heap = h) {a : Addr} {n : Nat} {P : Nat → Value → Prop} (A : OwnArr Z h a .byte n P) {j : Int32} (h0 : 0 ≤ j.toInt) (h1 : j.toInt < n) (hd : decode c.code pc = .ok (.baload, 1)) (hp : pc + 1 = pc')
    (g : ∀ v, P j.toNatClampNeg v → OwnGo p e below s Q rc rs (T.setTop (mkF m pc' Ls (v :: st)))) : OwnGo p e below s Q rc rs (T.setTop (mkF m pc Ls (.int j :: .ref a :: st))) := by
  obtain ⟨cl, Ar, S, H⟩ := A
  have hj := own_inb S h0 h1
  obtain ⟨v, q1, q2⟩ := H j.toNatClampNeg (by rw [← S]; exact Nat.lt_of_not_le fun y => hj (Or.inr y))
  exact own_baload X hx hZ eT Ar hj q1 hd hp (g v q2)
theorem own_zaloadA (X : Stand p l e R s m args below meth c T locs cells slots) (hx : p.tables.exec = Jvm.exec) (hZ : Z.Warmed39 s.vm) (eT : T.heap = h) {a : Addr} {n : Nat} {P : Nat → Value → Prop} (A : OwnArr Z h a .boolean n P) {j : Int32} (h0 : 0 ≤ j.toInt) (h1 : j.toInt < n) (hd : decode c.code pc = .ok (.baload, 1)) (hp : pc + 1 = pc')
    (g : ∀ v, P j.toNatClampNeg v → OwnGo p e below s Q rc rs (T.setTop (mkF m pc' Ls (v :: st)))) : OwnGo p e below s Q rc rs (T.setTop (mkF m pc Ls (.int j :: .ref a :: st))) := by
  obtain ⟨cl, Ar, S, H⟩ := A
  have hj := own_inb S h0 h1
  obtain ⟨v, q1, q2⟩ := H j.toNatClampNeg (by rw [← S]; exact Nat.lt_of_not_le fun y => hj (Or.inr y))
  exact own_zaload X hx hZ eT Ar hj q1 hd hp (g v q2)
theorem own_lengthA (X : Stand p l e R s m args below meth c T locs cells slots) (hx : p.tables.exec = Jvm.exec) (hZ : Z.Warmed39 s.vm) (eT : T.heap = h) {a : Addr} {n : Nat} {P : Nat → Value → Prop} {ty : FieldType} {z : Int32} (A : OwnArr Z h a ty n P) (hz : z.toInt = n) (hd : decode c.code pc = .ok (.arraylength, 1)) (hp : pc + 1 = pc')
    (g : OwnGo p e below s Q rc rs (T.setTop (mkF m pc' Ls (.int z :: st)))) : OwnGo p e below s Q rc rs (T.setTop (mkF m pc Ls (.ref a :: st))) := by
  obtain ⟨cl, Ar, S, H⟩ := A
  exact own_arraylength X hx hZ eT Ar (by rw [S]; exact own_len hz) hd hp g
end OwnKit
theorem d_rangeLo_0 : decode method_3_code 0 = .ok (.iload_n 0, 1) := by decide +kernel
theorem d_rangeLo_1 : decode method_3_code 1 = .ok (.ifCond .ne 6, 3) := by decide +kernel
theorem d_rangeLo_7 : decode method_3_code 7 = .ok (.iload_n 0, 1) := by decide +kernel
theorem d_rangeLo_8 : decode method_3_code 8 = .ok (.iconst 1, 1) := by decide +kernel
theorem d_rangeLo_9 : decode method_3_code 9 = .ok (.if_icmp .ne 6, 3) := by decide +kernel
theorem d_rangeLo_15 : decode method_3_code 15 = .ok (.iload_n 0, 1) := by decide +kernel
theorem d_rangeLo_16 : decode method_3_code 16 = .ok (.iconst 2, 1) := by decide +kernel
theorem d_rangeLo_17 : decode method_3_code 17 = .ok (.if_icmp .ne 6, 3) := by decide +kernel
theorem d_rangeLo_23 : decode method_3_code 23 = .ok (.iload_n 0, 1) := by decide +kernel
theorem d_rangeLo_24 : decode method_3_code 24 = .ok (.iconst 3, 1) := by decide +kernel
theorem d_rangeLo_25 : decode method_3_code 25 = .ok (.if_icmp .ne 7, 3) := by decide +kernel
theorem d_rangeLo_32 : decode method_3_code 32 = .ok (.iload_n 0, 1) := by decide +kernel
theorem d_rangeLo_33 : decode method_3_code 33 = .ok (.iconst 4, 1) := by decide +kernel
theorem d_rangeLo_34 : decode method_3_code 34 = .ok (.if_icmp .ne 7, 3) := by decide +kernel
theorem d_rangeLo_41 : decode method_3_code 41 = .ok (.iload_n 0, 1) := by decide +kernel
theorem d_rangeLo_42 : decode method_3_code 42 = .ok (.iconst 5, 1) := by decide +kernel
theorem d_rangeLo_43 : decode method_3_code 43 = .ok (.if_icmp .ne 7, 3) := by decide +kernel
theorem d_rangeLo_50 : decode method_3_code 50 = .ok (.iload_n 0, 1) := by decide +kernel
theorem d_rangeLo_51 : decode method_3_code 51 = .ok (.bipush 6, 2) := by decide +kernel
theorem d_rangeLo_53 : decode method_3_code 53 = .ok (.if_icmp .ne 7, 3) := by decide +kernel
theorem d_rangeLo_60 : decode method_3_code 60 = .ok (.iload_n 0, 1) := by decide +kernel
theorem d_rangeLo_61 : decode method_3_code 61 = .ok (.bipush 7, 2) := by decide +kernel
theorem d_rangeLo_63 : decode method_3_code 63 = .ok (.if_icmp .ne 7, 3) := by decide +kernel
theorem d_rangeLo_70 : decode method_3_code 70 = .ok (.iload_n 0, 1) := by decide +kernel
theorem d_rangeLo_71 : decode method_3_code 71 = .ok (.bipush 8, 2) := by decide +kernel
theorem d_rangeLo_73 : decode method_3_code 73 = .ok (.if_icmp .ne 7, 3) := by decide +kernel
theorem d_rangeLo_80 : decode method_3_code 80 = .ok (.iload_n 0, 1) := by decide +kernel
theorem d_rangeLo_81 : decode method_3_code 81 = .ok (.bipush 9, 2) := by decide +kernel
theorem d_rangeLo_83 : decode method_3_code 83 = .ok (.if_icmp .ne 7, 3) := by decide +kernel
theorem d_rangeLo_90 : decode method_3_code 90 = .ok (.iload_n 0, 1) := by decide +kernel
theorem d_rangeLo_91 : decode method_3_code 91 = .ok (.bipush 10, 2) := by decide +kernel
theorem d_rangeLo_93 : decode method_3_code 93 = .ok (.if_icmp .ne 7, 3) := by decide +kernel
theorem d_rangeLo_100 : decode method_3_code 100 = .ok (.iload_n 0, 1) := by decide +kernel
theorem d_rangeLo_101 : decode method_3_code 101 = .ok (.bipush 11, 2) := by decide +kernel
theorem d_rangeLo_103 : decode method_3_code 103 = .ok (.if_icmp .ne 7, 3) := by decide +kernel
theorem d_rangeLo_110 : decode method_3_code 110 = .ok (.iload_n 0, 1) := by decide +kernel
theorem d_rangeLo_111 : decode method_3_code 111 = .ok (.bipush 12, 2) := by decide +kernel
theorem d_rangeLo_113 : decode method_3_code 113 = .ok (.if_icmp .ne 6, 3) := by decide +kernel
theorem d_rangeLo_119 : decode method_3_code 119 = .ok (.iload_n 0, 1) := by decide +kernel
theorem d_rangeLo_120 : decode method_3_code 120 = .ok (.bipush 13, 2) := by decide +kernel
theorem d_rangeLo_122 : decode method_3_code 122 = .ok (.if_icmp .ne 6, 3) := by decide +kernel
theorem d_rangeLo_128 : decode method_3_code 128 = .ok (.ldc 32, 2) := by decide +kernel
theorem d_rangeLo_130 : decode method_3_code 130 = .ok (.ireturn, 1) := by decide +kernel
theorem d_rangeLo_125 : decode method_3_code 125 = .ok (.ldc 31, 2) := by decide +kernel
theorem d_rangeLo_127 : decode method_3_code 127 = .ok (.ireturn, 1) := by decide +kernel
theorem d_rangeLo_116 : decode method_3_code 116 = .ok (.ldc 30, 2) := by decide +kernel
theorem d_rangeLo_118 : decode method_3_code 118 = .ok (.ireturn, 1) := by decide +kernel
theorem d_rangeLo_106 : decode method_3_code 106 = .ok (.sipush 12289, 3) := by decide +kernel
theorem d_rangeLo_109 : decode method_3_code 109 = .ok (.ireturn, 1) := by decide +kernel
theorem d_rangeLo_96 : decode method_3_code 96 = .ok (.sipush 11264, 3) := by decide +kernel
theorem d_rangeLo_99 : decode method_3_code 99 = .ok (.ireturn, 1) := by decide +kernel
theorem d_rangeLo_86 : decode method_3_code 86 = .ok (.sipush 8304, 3) := by decide +kernel
theorem d_rangeLo_89 : decode method_3_code 89 = .ok (.ireturn, 1) := by decide +kernel
theorem d_rangeLo_76 : decode method_3_code 76 = .ok (.sipush 8204, 3) := by decide +kernel
theorem d_rangeLo_79 : decode method_3_code 79 = .ok (.ireturn, 1) := by decide +kernel
theorem d_rangeLo_66 : decode method_3_code 66 = .ok (.sipush 895, 3) := by decide +kernel
theorem d_rangeLo_69 : decode method_3_code 69 = .ok (.ireturn, 1) := by decide +kernel
theorem d_rangeLo_56 : decode method_3_code 56 = .ok (.sipush 880, 3) := by decide +kernel
theorem d_rangeLo_59 : decode method_3_code 59 = .ok (.ireturn, 1) := by decide +kernel
theorem d_rangeLo_46 : decode method_3_code 46 = .ok (.sipush 248, 3) := by decide +kernel
theorem d_rangeLo_49 : decode method_3_code 49 = .ok (.ireturn, 1) := by decide +kernel
theorem d_rangeLo_37 : decode method_3_code 37 = .ok (.sipush 216, 3) := by decide +kernel
theorem d_rangeLo_40 : decode method_3_code 40 = .ok (.ireturn, 1) := by decide +kernel
theorem d_rangeLo_28 : decode method_3_code 28 = .ok (.sipush 192, 3) := by decide +kernel
theorem d_rangeLo_31 : decode method_3_code 31 = .ok (.ireturn, 1) := by decide +kernel
theorem d_rangeLo_20 : decode method_3_code 20 = .ok (.bipush 97, 2) := by decide +kernel
theorem d_rangeLo_22 : decode method_3_code 22 = .ok (.ireturn, 1) := by decide +kernel
theorem d_rangeLo_12 : decode method_3_code 12 = .ok (.bipush 95, 2) := by decide +kernel
theorem d_rangeLo_14 : decode method_3_code 14 = .ok (.ireturn, 1) := by decide +kernel
theorem d_rangeLo_4 : decode method_3_code 4 = .ok (.bipush 65, 2) := by decide +kernel
theorem d_rangeLo_6 : decode method_3_code 6 = .ok (.ireturn, 1) := by decide +kernel
theorem ef_rangeLo (m : MethodId) (x0 : Int32) : entryFrame m #[(.int x0)] 1 = mkF m 0 #[.val (.int x0)] [] := by first | (simp [entryFrame, mkF, argsToLocals, Value.category]; done) | rfl
theorem pn_com_example_lehti_lehti_xdm_XmlCharactersIsNcNameStartCharPinLaw : plainName "com/example/lehti/lehti/xdm/XmlCharactersIsNcNameStartCharPinLaw" = true := by first | (simp [plainName, overriddenIn]; done) | decide +kernel
theorem d_rangeHi_0 : decode method_4_code 0 = .ok (.iload_n 0, 1) := by decide +kernel
theorem d_rangeHi_1 : decode method_4_code 1 = .ok (.ifCond .ne 6, 3) := by decide +kernel
theorem d_rangeHi_7 : decode method_4_code 7 = .ok (.iload_n 0, 1) := by decide +kernel
theorem d_rangeHi_8 : decode method_4_code 8 = .ok (.iconst 1, 1) := by decide +kernel
theorem d_rangeHi_9 : decode method_4_code 9 = .ok (.if_icmp .ne 6, 3) := by decide +kernel
theorem d_rangeHi_15 : decode method_4_code 15 = .ok (.iload_n 0, 1) := by decide +kernel
theorem d_rangeHi_16 : decode method_4_code 16 = .ok (.iconst 2, 1) := by decide +kernel
theorem d_rangeHi_17 : decode method_4_code 17 = .ok (.if_icmp .ne 6, 3) := by decide +kernel
theorem d_rangeHi_23 : decode method_4_code 23 = .ok (.iload_n 0, 1) := by decide +kernel
theorem d_rangeHi_24 : decode method_4_code 24 = .ok (.iconst 3, 1) := by decide +kernel
theorem d_rangeHi_25 : decode method_4_code 25 = .ok (.if_icmp .ne 7, 3) := by decide +kernel
theorem d_rangeHi_32 : decode method_4_code 32 = .ok (.iload_n 0, 1) := by decide +kernel
theorem d_rangeHi_33 : decode method_4_code 33 = .ok (.iconst 4, 1) := by decide +kernel
theorem d_rangeHi_34 : decode method_4_code 34 = .ok (.if_icmp .ne 7, 3) := by decide +kernel
theorem d_rangeHi_41 : decode method_4_code 41 = .ok (.iload_n 0, 1) := by decide +kernel
theorem d_rangeHi_42 : decode method_4_code 42 = .ok (.iconst 5, 1) := by decide +kernel
theorem d_rangeHi_43 : decode method_4_code 43 = .ok (.if_icmp .ne 7, 3) := by decide +kernel
theorem d_rangeHi_50 : decode method_4_code 50 = .ok (.iload_n 0, 1) := by decide +kernel
theorem d_rangeHi_51 : decode method_4_code 51 = .ok (.bipush 6, 2) := by decide +kernel
theorem d_rangeHi_53 : decode method_4_code 53 = .ok (.if_icmp .ne 7, 3) := by decide +kernel
theorem d_rangeHi_60 : decode method_4_code 60 = .ok (.iload_n 0, 1) := by decide +kernel
theorem d_rangeHi_61 : decode method_4_code 61 = .ok (.bipush 7, 2) := by decide +kernel
theorem d_rangeHi_63 : decode method_4_code 63 = .ok (.if_icmp .ne 7, 3) := by decide +kernel
theorem d_rangeHi_70 : decode method_4_code 70 = .ok (.iload_n 0, 1) := by decide +kernel
theorem d_rangeHi_71 : decode method_4_code 71 = .ok (.bipush 8, 2) := by decide +kernel
theorem d_rangeHi_73 : decode method_4_code 73 = .ok (.if_icmp .ne 7, 3) := by decide +kernel
theorem d_rangeHi_80 : decode method_4_code 80 = .ok (.iload_n 0, 1) := by decide +kernel
theorem d_rangeHi_81 : decode method_4_code 81 = .ok (.bipush 9, 2) := by decide +kernel
theorem d_rangeHi_83 : decode method_4_code 83 = .ok (.if_icmp .ne 7, 3) := by decide +kernel
theorem d_rangeHi_90 : decode method_4_code 90 = .ok (.iload_n 0, 1) := by decide +kernel
theorem d_rangeHi_91 : decode method_4_code 91 = .ok (.bipush 10, 2) := by decide +kernel
theorem d_rangeHi_93 : decode method_4_code 93 = .ok (.if_icmp .ne 7, 3) := by decide +kernel
theorem d_rangeHi_100 : decode method_4_code 100 = .ok (.iload_n 0, 1) := by decide +kernel
theorem d_rangeHi_101 : decode method_4_code 101 = .ok (.bipush 11, 2) := by decide +kernel
theorem d_rangeHi_103 : decode method_4_code 103 = .ok (.if_icmp .ne 6, 3) := by decide +kernel
theorem d_rangeHi_109 : decode method_4_code 109 = .ok (.iload_n 0, 1) := by decide +kernel
theorem d_rangeHi_110 : decode method_4_code 110 = .ok (.bipush 12, 2) := by decide +kernel
theorem d_rangeHi_112 : decode method_4_code 112 = .ok (.if_icmp .ne 6, 3) := by decide +kernel
theorem d_rangeHi_118 : decode method_4_code 118 = .ok (.iload_n 0, 1) := by decide +kernel
theorem d_rangeHi_119 : decode method_4_code 119 = .ok (.bipush 13, 2) := by decide +kernel
theorem d_rangeHi_121 : decode method_4_code 121 = .ok (.if_icmp .ne 6, 3) := by decide +kernel
theorem d_rangeHi_127 : decode method_4_code 127 = .ok (.ldc 36, 2) := by decide +kernel
theorem d_rangeHi_129 : decode method_4_code 129 = .ok (.ireturn, 1) := by decide +kernel
theorem d_rangeHi_124 : decode method_4_code 124 = .ok (.ldc 35, 2) := by decide +kernel
theorem d_rangeHi_126 : decode method_4_code 126 = .ok (.ireturn, 1) := by decide +kernel
theorem d_rangeHi_115 : decode method_4_code 115 = .ok (.ldc 34, 2) := by decide +kernel
theorem d_rangeHi_117 : decode method_4_code 117 = .ok (.ireturn, 1) := by decide +kernel
theorem d_rangeHi_106 : decode method_4_code 106 = .ok (.ldc 33, 2) := by decide +kernel
theorem d_rangeHi_108 : decode method_4_code 108 = .ok (.ireturn, 1) := by decide +kernel
theorem d_rangeHi_96 : decode method_4_code 96 = .ok (.sipush 12271, 3) := by decide +kernel
theorem d_rangeHi_99 : decode method_4_code 99 = .ok (.ireturn, 1) := by decide +kernel
theorem d_rangeHi_86 : decode method_4_code 86 = .ok (.sipush 8591, 3) := by decide +kernel
theorem d_rangeHi_89 : decode method_4_code 89 = .ok (.ireturn, 1) := by decide +kernel
theorem d_rangeHi_76 : decode method_4_code 76 = .ok (.sipush 8205, 3) := by decide +kernel
theorem d_rangeHi_79 : decode method_4_code 79 = .ok (.ireturn, 1) := by decide +kernel
theorem d_rangeHi_66 : decode method_4_code 66 = .ok (.sipush 8191, 3) := by decide +kernel
theorem d_rangeHi_69 : decode method_4_code 69 = .ok (.ireturn, 1) := by decide +kernel
theorem d_rangeHi_56 : decode method_4_code 56 = .ok (.sipush 893, 3) := by decide +kernel
theorem d_rangeHi_59 : decode method_4_code 59 = .ok (.ireturn, 1) := by decide +kernel
theorem d_rangeHi_46 : decode method_4_code 46 = .ok (.sipush 767, 3) := by decide +kernel
theorem d_rangeHi_49 : decode method_4_code 49 = .ok (.ireturn, 1) := by decide +kernel
theorem d_rangeHi_37 : decode method_4_code 37 = .ok (.sipush 246, 3) := by decide +kernel
theorem d_rangeHi_40 : decode method_4_code 40 = .ok (.ireturn, 1) := by decide +kernel
theorem d_rangeHi_28 : decode method_4_code 28 = .ok (.sipush 214, 3) := by decide +kernel
theorem d_rangeHi_31 : decode method_4_code 31 = .ok (.ireturn, 1) := by decide +kernel
theorem d_rangeHi_20 : decode method_4_code 20 = .ok (.bipush 122, 2) := by decide +kernel
theorem d_rangeHi_22 : decode method_4_code 22 = .ok (.ireturn, 1) := by decide +kernel
theorem d_rangeHi_12 : decode method_4_code 12 = .ok (.bipush 95, 2) := by decide +kernel
theorem d_rangeHi_14 : decode method_4_code 14 = .ok (.ireturn, 1) := by decide +kernel
theorem d_rangeHi_4 : decode method_4_code 4 = .ok (.bipush 90, 2) := by decide +kernel
theorem d_rangeHi_6 : decode method_4_code 6 = .ok (.ireturn, 1) := by decide +kernel
theorem ef_rangeHi (m : MethodId) (x0 : Int32) : entryFrame m #[(.int x0)] 1 = mkF m 0 #[.val (.int x0)] [] := by first | (simp [entryFrame, mkF, argsToLocals, Value.category]; done) | rfl
theorem d_isNcNameStartChar_179 : decode prog_168_method_5_code 179 = .ok (.iload_n 0, 1) := by decide +kernel
theorem d_isNcNameStartChar_180 : decode prog_168_method_5_code 180 = .ok (.ldc 10, 2) := by decide +kernel
theorem d_isNcNameStartChar_182 : decode prog_168_method_5_code 182 = .ok (.if_icmp .lt 13, 3) := by decide +kernel
theorem d_isNcNameStartChar_195 : decode prog_168_method_5_code 195 = .ok (.iconst 0, 1) := by decide +kernel
theorem d_isNcNameStartChar_196 : decode prog_168_method_5_code 196 = .ok (.ireturn, 1) := by decide +kernel
theorem d_isNcNameStartChar_185 : decode prog_168_method_5_code 185 = .ok (.iload_n 0, 1) := by decide +kernel
theorem d_isNcNameStartChar_186 : decode prog_168_method_5_code 186 = .ok (.ldc 43, 2) := by decide +kernel
theorem d_isNcNameStartChar_188 : decode prog_168_method_5_code 188 = .ok (.if_icmp .gt 7, 3) := by decide +kernel
theorem d_isNcNameStartChar_191 : decode prog_168_method_5_code 191 = .ok (.iconst 1, 1) := by decide +kernel
theorem d_isNcNameStartChar_192 : decode prog_168_method_5_code 192 = .ok (.goto 4, 3) := by decide +kernel
theorem d_isNcNameStartChar_167 : decode prog_168_method_5_code 167 = .ok (.iload_n 0, 1) := by decide +kernel
theorem d_isNcNameStartChar_168 : decode prog_168_method_5_code 168 = .ok (.ldc 42, 2) := by decide +kernel
theorem d_isNcNameStartChar_170 : decode prog_168_method_5_code 170 = .ok (.if_icmp .lt 9, 3) := by decide +kernel
theorem d_isNcNameStartChar_173 : decode prog_168_method_5_code 173 = .ok (.iload_n 0, 1) := by decide +kernel
theorem d_isNcNameStartChar_174 : decode prog_168_method_5_code 174 = .ok (.ldc 9, 2) := by decide +kernel
theorem d_isNcNameStartChar_176 : decode prog_168_method_5_code 176 = .ok (.if_icmp .le 15, 3) := by decide +kernel
theorem d_isNcNameStartChar_155 : decode prog_168_method_5_code 155 = .ok (.iload_n 0, 1) := by decide +kernel
theorem d_isNcNameStartChar_156 : decode prog_168_method_5_code 156 = .ok (.ldc 40, 2) := by decide +kernel
theorem d_isNcNameStartChar_158 : decode prog_168_method_5_code 158 = .ok (.if_icmp .lt 9, 3) := by decide +kernel
theorem d_isNcNameStartChar_161 : decode prog_168_method_5_code 161 = .ok (.iload_n 0, 1) := by decide +kernel
theorem d_isNcNameStartChar_162 : decode prog_168_method_5_code 162 = .ok (.ldc 41, 2) := by decide +kernel
theorem d_isNcNameStartChar_164 : decode prog_168_method_5_code 164 = .ok (.if_icmp .le 27, 3) := by decide +kernel
theorem d_isNcNameStartChar_142 : decode prog_168_method_5_code 142 = .ok (.iload_n 0, 1) := by decide +kernel
theorem d_isNcNameStartChar_143 : decode prog_168_method_5_code 143 = .ok (.sipush 12289, 3) := by decide +kernel
theorem d_isNcNameStartChar_146 : decode prog_168_method_5_code 146 = .ok (.if_icmp .lt 9, 3) := by decide +kernel
theorem d_isNcNameStartChar_149 : decode prog_168_method_5_code 149 = .ok (.iload_n 0, 1) := by decide +kernel
theorem d_isNcNameStartChar_150 : decode prog_168_method_5_code 150 = .ok (.ldc 7, 2) := by decide +kernel
theorem d_isNcNameStartChar_152 : decode prog_168_method_5_code 152 = .ok (.if_icmp .le 39, 3) := by decide +kernel
theorem d_isNcNameStartChar_128 : decode prog_168_method_5_code 128 = .ok (.iload_n 0, 1) := by decide +kernel
theorem d_isNcNameStartChar_129 : decode prog_168_method_5_code 129 = .ok (.sipush 11264, 3) := by decide +kernel
theorem d_isNcNameStartChar_132 : decode prog_168_method_5_code 132 = .ok (.if_icmp .lt 10, 3) := by decide +kernel
theorem d_isNcNameStartChar_135 : decode prog_168_method_5_code 135 = .ok (.iload_n 0, 1) := by decide +kernel
theorem d_isNcNameStartChar_136 : decode prog_168_method_5_code 136 = .ok (.sipush 12271, 3) := by decide +kernel
theorem d_isNcNameStartChar_139 : decode prog_168_method_5_code 139 = .ok (.if_icmp .le 52, 3) := by decide +kernel
theorem d_isNcNameStartChar_114 : decode prog_168_method_5_code 114 = .ok (.iload_n 0, 1) := by decide +kernel
theorem d_isNcNameStartChar_115 : decode prog_168_method_5_code 115 = .ok (.sipush 8304, 3) := by decide +kernel
theorem d_isNcNameStartChar_118 : decode prog_168_method_5_code 118 = .ok (.if_icmp .lt 10, 3) := by decide +kernel
theorem d_isNcNameStartChar_121 : decode prog_168_method_5_code 121 = .ok (.iload_n 0, 1) := by decide +kernel
theorem d_isNcNameStartChar_122 : decode prog_168_method_5_code 122 = .ok (.sipush 8591, 3) := by decide +kernel
theorem d_isNcNameStartChar_125 : decode prog_168_method_5_code 125 = .ok (.if_icmp .le 66, 3) := by decide +kernel
theorem d_isNcNameStartChar_100 : decode prog_168_method_5_code 100 = .ok (.iload_n 0, 1) := by decide +kernel
theorem d_isNcNameStartChar_101 : decode prog_168_method_5_code 101 = .ok (.sipush 8204, 3) := by decide +kernel
theorem d_isNcNameStartChar_104 : decode prog_168_method_5_code 104 = .ok (.if_icmp .lt 10, 3) := by decide +kernel
theorem d_isNcNameStartChar_107 : decode prog_168_method_5_code 107 = .ok (.iload_n 0, 1) := by decide +kernel
theorem d_isNcNameStartChar_108 : decode prog_168_method_5_code 108 = .ok (.sipush 8205, 3) := by decide +kernel
theorem d_isNcNameStartChar_111 : decode prog_168_method_5_code 111 = .ok (.if_icmp .le 80, 3) := by decide +kernel
theorem d_isNcNameStartChar_86 : decode prog_168_method_5_code 86 = .ok (.iload_n 0, 1) := by decide +kernel
theorem d_isNcNameStartChar_87 : decode prog_168_method_5_code 87 = .ok (.sipush 895, 3) := by decide +kernel
theorem d_isNcNameStartChar_90 : decode prog_168_method_5_code 90 = .ok (.if_icmp .lt 10, 3) := by decide +kernel
theorem d_isNcNameStartChar_93 : decode prog_168_method_5_code 93 = .ok (.iload_n 0, 1) := by decide +kernel
theorem d_isNcNameStartChar_94 : decode prog_168_method_5_code 94 = .ok (.sipush 8191, 3) := by decide +kernel
theorem d_isNcNameStartChar_97 : decode prog_168_method_5_code 97 = .ok (.if_icmp .le 94, 3) := by decide +kernel
theorem d_isNcNameStartChar_72 : decode prog_168_method_5_code 72 = .ok (.iload_n 0, 1) := by decide +kernel
theorem d_isNcNameStartChar_73 : decode prog_168_method_5_code 73 = .ok (.sipush 880, 3) := by decide +kernel
theorem d_isNcNameStartChar_76 : decode prog_168_method_5_code 76 = .ok (.if_icmp .lt 10, 3) := by decide +kernel
theorem d_isNcNameStartChar_79 : decode prog_168_method_5_code 79 = .ok (.iload_n 0, 1) := by decide +kernel
theorem d_isNcNameStartChar_80 : decode prog_168_method_5_code 80 = .ok (.sipush 893, 3) := by decide +kernel
theorem d_isNcNameStartChar_83 : decode prog_168_method_5_code 83 = .ok (.if_icmp .le 108, 3) := by decide +kernel
theorem d_isNcNameStartChar_58 : decode prog_168_method_5_code 58 = .ok (.iload_n 0, 1) := by decide +kernel
theorem d_isNcNameStartChar_59 : decode prog_168_method_5_code 59 = .ok (.sipush 248, 3) := by decide +kernel
theorem d_isNcNameStartChar_62 : decode prog_168_method_5_code 62 = .ok (.if_icmp .lt 10, 3) := by decide +kernel
theorem d_isNcNameStartChar_65 : decode prog_168_method_5_code 65 = .ok (.iload_n 0, 1) := by decide +kernel
theorem d_isNcNameStartChar_66 : decode prog_168_method_5_code 66 = .ok (.sipush 767, 3) := by decide +kernel
theorem d_isNcNameStartChar_69 : decode prog_168_method_5_code 69 = .ok (.if_icmp .le 122, 3) := by decide +kernel
theorem d_isNcNameStartChar_44 : decode prog_168_method_5_code 44 = .ok (.iload_n 0, 1) := by decide +kernel
theorem d_isNcNameStartChar_45 : decode prog_168_method_5_code 45 = .ok (.sipush 216, 3) := by decide +kernel
theorem d_isNcNameStartChar_48 : decode prog_168_method_5_code 48 = .ok (.if_icmp .lt 10, 3) := by decide +kernel
theorem d_isNcNameStartChar_51 : decode prog_168_method_5_code 51 = .ok (.iload_n 0, 1) := by decide +kernel
theorem d_isNcNameStartChar_52 : decode prog_168_method_5_code 52 = .ok (.sipush 246, 3) := by decide +kernel
theorem d_isNcNameStartChar_55 : decode prog_168_method_5_code 55 = .ok (.if_icmp .le 136, 3) := by decide +kernel
theorem d_isNcNameStartChar_30 : decode prog_168_method_5_code 30 = .ok (.iload_n 0, 1) := by decide +kernel
theorem d_isNcNameStartChar_31 : decode prog_168_method_5_code 31 = .ok (.sipush 192, 3) := by decide +kernel
theorem d_isNcNameStartChar_34 : decode prog_168_method_5_code 34 = .ok (.if_icmp .lt 10, 3) := by decide +kernel
theorem d_isNcNameStartChar_37 : decode prog_168_method_5_code 37 = .ok (.iload_n 0, 1) := by decide +kernel
theorem d_isNcNameStartChar_38 : decode prog_168_method_5_code 38 = .ok (.sipush 214, 3) := by decide +kernel
theorem d_isNcNameStartChar_41 : decode prog_168_method_5_code 41 = .ok (.if_icmp .le 150, 3) := by decide +kernel
theorem d_isNcNameStartChar_24 : decode prog_168_method_5_code 24 = .ok (.iload_n 0, 1) := by decide +kernel
theorem d_isNcNameStartChar_25 : decode prog_168_method_5_code 25 = .ok (.bipush 95, 2) := by decide +kernel
theorem d_isNcNameStartChar_27 : decode prog_168_method_5_code 27 = .ok (.if_icmp .eq 164, 3) := by decide +kernel
theorem d_isNcNameStartChar_12 : decode prog_168_method_5_code 12 = .ok (.iload_n 0, 1) := by decide +kernel
theorem d_isNcNameStartChar_13 : decode prog_168_method_5_code 13 = .ok (.bipush 65, 2) := by decide +kernel
theorem d_isNcNameStartChar_15 : decode prog_168_method_5_code 15 = .ok (.if_icmp .lt 9, 3) := by decide +kernel
theorem d_isNcNameStartChar_18 : decode prog_168_method_5_code 18 = .ok (.iload_n 0, 1) := by decide +kernel
theorem d_isNcNameStartChar_19 : decode prog_168_method_5_code 19 = .ok (.bipush 90, 2) := by decide +kernel
theorem d_isNcNameStartChar_21 : decode prog_168_method_5_code 21 = .ok (.if_icmp .le 170, 3) := by decide +kernel
theorem d_isNcNameStartChar_0 : decode prog_168_method_5_code 0 = .ok (.iload_n 0, 1) := by decide +kernel
theorem d_isNcNameStartChar_1 : decode prog_168_method_5_code 1 = .ok (.bipush 97, 2) := by decide +kernel
theorem d_isNcNameStartChar_3 : decode prog_168_method_5_code 3 = .ok (.if_icmp .lt 9, 3) := by decide +kernel
theorem d_isNcNameStartChar_6 : decode prog_168_method_5_code 6 = .ok (.iload_n 0, 1) := by decide +kernel
theorem d_isNcNameStartChar_7 : decode prog_168_method_5_code 7 = .ok (.bipush 122, 2) := by decide +kernel
theorem d_isNcNameStartChar_9 : decode prog_168_method_5_code 9 = .ok (.if_icmp .le 182, 3) := by decide +kernel
theorem ef_isNcNameStartChar (m : MethodId) (x0 : Int32) : entryFrame m #[(.int x0)] 1 = mkF m 0 #[.val (.int x0)] [] := by first | (simp [entryFrame, mkF, argsToLocals, Value.category]; done) | rfl
theorem pn_com_example_lehti_lehti_xdm_XmlCharacters : plainName "com/example/lehti/lehti/xdm/XmlCharacters" = true := by first | (simp [plainName, overriddenIn]; done) | decide +kernel
theorem pd__I_I : parseMethodDescriptor "(I)I" = some ⟨[.int], some .int⟩ := by decide +kernel
theorem pd__I_Z : parseMethodDescriptor "(I)Z" = some ⟨[.int], some .boolean⟩ := by decide +kernel
theorem ef_law (m : MethodId) (x0 : Int32) (x1 : Int32) : entryFrame m #[(.int x0), (.int x1)] maxLocals = mkF m 0 #[.val (.int x0), .val (.int x1), .unset, .unset, .unset, .unset, .unset, .unset, .unset, .unset, .unset, .unset, .unset] [] := by first | (simp [entryFrame, mkF, argsToLocals, Value.category, maxLocals]; done) | rfl
def own_lo (i : Int32) : Int32 := if i = 0 then 65 else if i = 1 then 95 else if i = 2 then 97 else if i = 3 then 192 else if i = 4 then 216 else if i = 5 then 248 else if i = 6 then 880 else if i = 7 then 895 else if i = 8 then 8204 else if i = 9 then 8304 else if i = 10 then 11264 else if i = 11 then 12289 else if i = 12 then 63744 else if i = 13 then 65008 else 65536
def own_hi (i : Int32) : Int32 := if i = 0 then 90 else if i = 1 then 95 else if i = 2 then 122 else if i = 3 then 214 else if i = 4 then 246 else if i = 5 then 767 else if i = 6 then 893 else if i = 7 then 8191 else if i = 8 then 8205 else if i = 9 then 8591 else if i = 10 then 12271 else if i = 11 then 55295 else if i = 12 then 64975 else if i = 13 then 65533 else 983039
theorem own_eq95 (c : Int32) : (c = 95) = (c.toInt = 95) := propext ⟨fun q => by rw [q]; decide, fun q => Int32.toInt_inj.mp (by rw [q]; decide)⟩
def own_nc179 (c : Int32) : Int32 := if c < 65536 then 0 else if 983039 < c then 0 else 1
theorem own_nc179_s (c : Int32) : ((65536 ≤ c.toInt ∧ c.toInt ≤ 983039) → own_nc179 c = 1) ∧ (¬ ((65536 ≤ c.toInt ∧ c.toInt ≤ 983039)) → own_nc179 c = 0) := by
  simp only [own_nc179, own_eq95, Int32.lt_iff_toInt_lt, Int32.reduceToInt]
  generalize c.toInt = t at *
  constructor <;> intro q <;> (repeat' split) <;> first | rfl | omega
def own_nc167 (c : Int32) : Int32 := if c < 65008 then own_nc179 c else if 65533 < c then own_nc179 c else 1
theorem own_nc167_s (c : Int32) : ((65008 ≤ c.toInt ∧ c.toInt ≤ 65533) ∨ (65536 ≤ c.toInt ∧ c.toInt ≤ 983039) → own_nc167 c = 1) ∧ (¬ ((65008 ≤ c.toInt ∧ c.toInt ≤ 65533) ∨ (65536 ≤ c.toInt ∧ c.toInt ≤ 983039)) → own_nc167 c = 0) := by
  obtain ⟨h1, h2⟩ := own_nc179_s c
  simp only [own_nc167, own_eq95, Int32.lt_iff_toInt_lt, Int32.reduceToInt]
  generalize own_nc179 c = r at *
  generalize c.toInt = t at *
  constructor <;> intro q <;> (repeat' split) <;> first | rfl | omega | exact h1 (by omega) | exact h2 (by omega)
def own_nc155 (c : Int32) : Int32 := if c < 63744 then own_nc167 c else if 64975 < c then own_nc167 c else 1
theorem own_nc155_s (c : Int32) : ((63744 ≤ c.toInt ∧ c.toInt ≤ 64975) ∨ (65008 ≤ c.toInt ∧ c.toInt ≤ 65533) ∨ (65536 ≤ c.toInt ∧ c.toInt ≤ 983039) → own_nc155 c = 1) ∧ (¬ ((63744 ≤ c.toInt ∧ c.toInt ≤ 64975) ∨ (65008 ≤ c.toInt ∧ c.toInt ≤ 65533) ∨ (65536 ≤ c.toInt ∧ c.toInt ≤ 983039)) → own_nc155 c = 0) := by
  obtain ⟨h1, h2⟩ := own_nc167_s c
  simp only [own_nc155, own_eq95, Int32.lt_iff_toInt_lt, Int32.reduceToInt]
  generalize own_nc167 c = r at *
  generalize c.toInt = t at *
  constructor <;> intro q <;> (repeat' split) <;> first | rfl | omega | exact h1 (by omega) | exact h2 (by omega)
def own_nc142 (c : Int32) : Int32 := if c < 12289 then own_nc155 c else if 55295 < c then own_nc155 c else 1
theorem own_nc142_s (c : Int32) : ((12289 ≤ c.toInt ∧ c.toInt ≤ 55295) ∨ (63744 ≤ c.toInt ∧ c.toInt ≤ 64975) ∨ (65008 ≤ c.toInt ∧ c.toInt ≤ 65533) ∨ (65536 ≤ c.toInt ∧ c.toInt ≤ 983039) → own_nc142 c = 1) ∧ (¬ ((12289 ≤ c.toInt ∧ c.toInt ≤ 55295) ∨ (63744 ≤ c.toInt ∧ c.toInt ≤ 64975) ∨ (65008 ≤ c.toInt ∧ c.toInt ≤ 65533) ∨ (65536 ≤ c.toInt ∧ c.toInt ≤ 983039)) → own_nc142 c = 0) := by
  obtain ⟨h1, h2⟩ := own_nc155_s c
  simp only [own_nc142, own_eq95, Int32.lt_iff_toInt_lt, Int32.reduceToInt]
  generalize own_nc155 c = r at *
  generalize c.toInt = t at *
  constructor <;> intro q <;> (repeat' split) <;> first | rfl | omega | exact h1 (by omega) | exact h2 (by omega)
def own_nc128 (c : Int32) : Int32 := if c < 11264 then own_nc142 c else if 12271 < c then own_nc142 c else 1
theorem own_nc128_s (c : Int32) : ((11264 ≤ c.toInt ∧ c.toInt ≤ 12271) ∨ (12289 ≤ c.toInt ∧ c.toInt ≤ 55295) ∨ (63744 ≤ c.toInt ∧ c.toInt ≤ 64975) ∨ (65008 ≤ c.toInt ∧ c.toInt ≤ 65533) ∨ (65536 ≤ c.toInt ∧ c.toInt ≤ 983039) → own_nc128 c = 1) ∧ (¬ ((11264 ≤ c.toInt ∧ c.toInt ≤ 12271) ∨ (12289 ≤ c.toInt ∧ c.toInt ≤ 55295) ∨ (63744 ≤ c.toInt ∧ c.toInt ≤ 64975) ∨ (65008 ≤ c.toInt ∧ c.toInt ≤ 65533) ∨ (65536 ≤ c.toInt ∧ c.toInt ≤ 983039)) → own_nc128 c = 0) := by
  obtain ⟨h1, h2⟩ := own_nc142_s c
  simp only [own_nc128, own_eq95, Int32.lt_iff_toInt_lt, Int32.reduceToInt]
  generalize own_nc142 c = r at *
  generalize c.toInt = t at *
  constructor <;> intro q <;> (repeat' split) <;> first | rfl | omega | exact h1 (by omega) | exact h2 (by omega)
def own_nc114 (c : Int32) : Int32 := if c < 8304 then own_nc128 c else if 8591 < c then own_nc128 c else 1
theorem own_nc114_s (c : Int32) : ((8304 ≤ c.toInt ∧ c.toInt ≤ 8591) ∨ (11264 ≤ c.toInt ∧ c.toInt ≤ 12271) ∨ (12289 ≤ c.toInt ∧ c.toInt ≤ 55295) ∨ (63744 ≤ c.toInt ∧ c.toInt ≤ 64975) ∨ (65008 ≤ c.toInt ∧ c.toInt ≤ 65533) ∨ (65536 ≤ c.toInt ∧ c.toInt ≤ 983039) → own_nc114 c = 1) ∧ (¬ ((8304 ≤ c.toInt ∧ c.toInt ≤ 8591) ∨ (11264 ≤ c.toInt ∧ c.toInt ≤ 12271) ∨ (12289 ≤ c.toInt ∧ c.toInt ≤ 55295) ∨ (63744 ≤ c.toInt ∧ c.toInt ≤ 64975) ∨ (65008 ≤ c.toInt ∧ c.toInt ≤ 65533) ∨ (65536 ≤ c.toInt ∧ c.toInt ≤ 983039)) → own_nc114 c = 0) := by
  obtain ⟨h1, h2⟩ := own_nc128_s c
  simp only [own_nc114, own_eq95, Int32.lt_iff_toInt_lt, Int32.reduceToInt]
  generalize own_nc128 c = r at *
  generalize c.toInt = t at *
  constructor <;> intro q <;> (repeat' split) <;> first | rfl | omega | exact h1 (by omega) | exact h2 (by omega)
def own_nc100 (c : Int32) : Int32 := if c < 8204 then own_nc114 c else if 8205 < c then own_nc114 c else 1
theorem own_nc100_s (c : Int32) : ((8204 ≤ c.toInt ∧ c.toInt ≤ 8205) ∨ (8304 ≤ c.toInt ∧ c.toInt ≤ 8591) ∨ (11264 ≤ c.toInt ∧ c.toInt ≤ 12271) ∨ (12289 ≤ c.toInt ∧ c.toInt ≤ 55295) ∨ (63744 ≤ c.toInt ∧ c.toInt ≤ 64975) ∨ (65008 ≤ c.toInt ∧ c.toInt ≤ 65533) ∨ (65536 ≤ c.toInt ∧ c.toInt ≤ 983039) → own_nc100 c = 1) ∧ (¬ ((8204 ≤ c.toInt ∧ c.toInt ≤ 8205) ∨ (8304 ≤ c.toInt ∧ c.toInt ≤ 8591) ∨ (11264 ≤ c.toInt ∧ c.toInt ≤ 12271) ∨ (12289 ≤ c.toInt ∧ c.toInt ≤ 55295) ∨ (63744 ≤ c.toInt ∧ c.toInt ≤ 64975) ∨ (65008 ≤ c.toInt ∧ c.toInt ≤ 65533) ∨ (65536 ≤ c.toInt ∧ c.toInt ≤ 983039)) → own_nc100 c = 0) := by
  obtain ⟨h1, h2⟩ := own_nc114_s c
  simp only [own_nc100, own_eq95, Int32.lt_iff_toInt_lt, Int32.reduceToInt]
  generalize own_nc114 c = r at *
  generalize c.toInt = t at *
  constructor <;> intro q <;> (repeat' split) <;> first | rfl | omega | exact h1 (by omega) | exact h2 (by omega)
def own_nc86 (c : Int32) : Int32 := if c < 895 then own_nc100 c else if 8191 < c then own_nc100 c else 1
theorem own_nc86_s (c : Int32) : ((895 ≤ c.toInt ∧ c.toInt ≤ 8191) ∨ (8204 ≤ c.toInt ∧ c.toInt ≤ 8205) ∨ (8304 ≤ c.toInt ∧ c.toInt ≤ 8591) ∨ (11264 ≤ c.toInt ∧ c.toInt ≤ 12271) ∨ (12289 ≤ c.toInt ∧ c.toInt ≤ 55295) ∨ (63744 ≤ c.toInt ∧ c.toInt ≤ 64975) ∨ (65008 ≤ c.toInt ∧ c.toInt ≤ 65533) ∨ (65536 ≤ c.toInt ∧ c.toInt ≤ 983039) → own_nc86 c = 1) ∧ (¬ ((895 ≤ c.toInt ∧ c.toInt ≤ 8191) ∨ (8204 ≤ c.toInt ∧ c.toInt ≤ 8205) ∨ (8304 ≤ c.toInt ∧ c.toInt ≤ 8591) ∨ (11264 ≤ c.toInt ∧ c.toInt ≤ 12271) ∨ (12289 ≤ c.toInt ∧ c.toInt ≤ 55295) ∨ (63744 ≤ c.toInt ∧ c.toInt ≤ 64975) ∨ (65008 ≤ c.toInt ∧ c.toInt ≤ 65533) ∨ (65536 ≤ c.toInt ∧ c.toInt ≤ 983039)) → own_nc86 c = 0) := by
  obtain ⟨h1, h2⟩ := own_nc100_s c
  simp only [own_nc86, own_eq95, Int32.lt_iff_toInt_lt, Int32.reduceToInt]
  generalize own_nc100 c = r at *
  generalize c.toInt = t at *
  constructor <;> intro q <;> (repeat' split) <;> first | rfl | omega | exact h1 (by omega) | exact h2 (by omega)
def own_nc72 (c : Int32) : Int32 := if c < 880 then own_nc86 c else if 893 < c then own_nc86 c else 1
theorem own_nc72_s (c : Int32) : ((880 ≤ c.toInt ∧ c.toInt ≤ 893) ∨ (895 ≤ c.toInt ∧ c.toInt ≤ 8191) ∨ (8204 ≤ c.toInt ∧ c.toInt ≤ 8205) ∨ (8304 ≤ c.toInt ∧ c.toInt ≤ 8591) ∨ (11264 ≤ c.toInt ∧ c.toInt ≤ 12271) ∨ (12289 ≤ c.toInt ∧ c.toInt ≤ 55295) ∨ (63744 ≤ c.toInt ∧ c.toInt ≤ 64975) ∨ (65008 ≤ c.toInt ∧ c.toInt ≤ 65533) ∨ (65536 ≤ c.toInt ∧ c.toInt ≤ 983039) → own_nc72 c = 1) ∧ (¬ ((880 ≤ c.toInt ∧ c.toInt ≤ 893) ∨ (895 ≤ c.toInt ∧ c.toInt ≤ 8191) ∨ (8204 ≤ c.toInt ∧ c.toInt ≤ 8205) ∨ (8304 ≤ c.toInt ∧ c.toInt ≤ 8591) ∨ (11264 ≤ c.toInt ∧ c.toInt ≤ 12271) ∨ (12289 ≤ c.toInt ∧ c.toInt ≤ 55295) ∨ (63744 ≤ c.toInt ∧ c.toInt ≤ 64975) ∨ (65008 ≤ c.toInt ∧ c.toInt ≤ 65533) ∨ (65536 ≤ c.toInt ∧ c.toInt ≤ 983039)) → own_nc72 c = 0) := by
  obtain ⟨h1, h2⟩ := own_nc86_s c
  simp only [own_nc72, own_eq95, Int32.lt_iff_toInt_lt, Int32.reduceToInt]
  generalize own_nc86 c = r at *
  generalize c.toInt = t at *
  constructor <;> intro q <;> (repeat' split) <;> first | rfl | omega | exact h1 (by omega) | exact h2 (by omega)
def own_nc58 (c : Int32) : Int32 := if c < 248 then own_nc72 c else if 767 < c then own_nc72 c else 1
theorem own_nc58_s (c : Int32) : ((248 ≤ c.toInt ∧ c.toInt ≤ 767) ∨ (880 ≤ c.toInt ∧ c.toInt ≤ 893) ∨ (895 ≤ c.toInt ∧ c.toInt ≤ 8191) ∨ (8204 ≤ c.toInt ∧ c.toInt ≤ 8205) ∨ (8304 ≤ c.toInt ∧ c.toInt ≤ 8591) ∨ (11264 ≤ c.toInt ∧ c.toInt ≤ 12271) ∨ (12289 ≤ c.toInt ∧ c.toInt ≤ 55295) ∨ (63744 ≤ c.toInt ∧ c.toInt ≤ 64975) ∨ (65008 ≤ c.toInt ∧ c.toInt ≤ 65533) ∨ (65536 ≤ c.toInt ∧ c.toInt ≤ 983039) → own_nc58 c = 1) ∧ (¬ ((248 ≤ c.toInt ∧ c.toInt ≤ 767) ∨ (880 ≤ c.toInt ∧ c.toInt ≤ 893) ∨ (895 ≤ c.toInt ∧ c.toInt ≤ 8191) ∨ (8204 ≤ c.toInt ∧ c.toInt ≤ 8205) ∨ (8304 ≤ c.toInt ∧ c.toInt ≤ 8591) ∨ (11264 ≤ c.toInt ∧ c.toInt ≤ 12271) ∨ (12289 ≤ c.toInt ∧ c.toInt ≤ 55295) ∨ (63744 ≤ c.toInt ∧ c.toInt ≤ 64975) ∨ (65008 ≤ c.toInt ∧ c.toInt ≤ 65533) ∨ (65536 ≤ c.toInt ∧ c.toInt ≤ 983039)) → own_nc58 c = 0) := by
  obtain ⟨h1, h2⟩ := own_nc72_s c
  simp only [own_nc58, own_eq95, Int32.lt_iff_toInt_lt, Int32.reduceToInt]
  generalize own_nc72 c = r at *
  generalize c.toInt = t at *
  constructor <;> intro q <;> (repeat' split) <;> first | rfl | omega | exact h1 (by omega) | exact h2 (by omega)
def own_nc44 (c : Int32) : Int32 := if c < 216 then own_nc58 c else if 246 < c then own_nc58 c else 1
theorem own_nc44_s (c : Int32) : ((216 ≤ c.toInt ∧ c.toInt ≤ 246) ∨ (248 ≤ c.toInt ∧ c.toInt ≤ 767) ∨ (880 ≤ c.toInt ∧ c.toInt ≤ 893) ∨ (895 ≤ c.toInt ∧ c.toInt ≤ 8191) ∨ (8204 ≤ c.toInt ∧ c.toInt ≤ 8205) ∨ (8304 ≤ c.toInt ∧ c.toInt ≤ 8591) ∨ (11264 ≤ c.toInt ∧ c.toInt ≤ 12271) ∨ (12289 ≤ c.toInt ∧ c.toInt ≤ 55295) ∨ (63744 ≤ c.toInt ∧ c.toInt ≤ 64975) ∨ (65008 ≤ c.toInt ∧ c.toInt ≤ 65533) ∨ (65536 ≤ c.toInt ∧ c.toInt ≤ 983039) → own_nc44 c = 1) ∧ (¬ ((216 ≤ c.toInt ∧ c.toInt ≤ 246) ∨ (248 ≤ c.toInt ∧ c.toInt ≤ 767) ∨ (880 ≤ c.toInt ∧ c.toInt ≤ 893) ∨ (895 ≤ c.toInt ∧ c.toInt ≤ 8191) ∨ (8204 ≤ c.toInt ∧ c.toInt ≤ 8205) ∨ (8304 ≤ c.toInt ∧ c.toInt ≤ 8591) ∨ (11264 ≤ c.toInt ∧ c.toInt ≤ 12271) ∨ (12289 ≤ c.toInt ∧ c.toInt ≤ 55295) ∨ (63744 ≤ c.toInt ∧ c.toInt ≤ 64975) ∨ (65008 ≤ c.toInt ∧ c.toInt ≤ 65533) ∨ (65536 ≤ c.toInt ∧ c.toInt ≤ 983039)) → own_nc44 c = 0) := by
  obtain ⟨h1, h2⟩ := own_nc58_s c
  simp only [own_nc44, own_eq95, Int32.lt_iff_toInt_lt, Int32.reduceToInt]
  generalize own_nc58 c = r at *
  generalize c.toInt = t at *
  constructor <;> intro q <;> (repeat' split) <;> first | rfl | omega | exact h1 (by omega) | exact h2 (by omega)
def own_nc30 (c : Int32) : Int32 := if c < 192 then own_nc44 c else if 214 < c then own_nc44 c else 1
theorem own_nc30_s (c : Int32) : ((192 ≤ c.toInt ∧ c.toInt ≤ 214) ∨ (216 ≤ c.toInt ∧ c.toInt ≤ 246) ∨ (248 ≤ c.toInt ∧ c.toInt ≤ 767) ∨ (880 ≤ c.toInt ∧ c.toInt ≤ 893) ∨ (895 ≤ c.toInt ∧ c.toInt ≤ 8191) ∨ (8204 ≤ c.toInt ∧ c.toInt ≤ 8205) ∨ (8304 ≤ c.toInt ∧ c.toInt ≤ 8591) ∨ (11264 ≤ c.toInt ∧ c.toInt ≤ 12271) ∨ (12289 ≤ c.toInt ∧ c.toInt ≤ 55295) ∨ (63744 ≤ c.toInt ∧ c.toInt ≤ 64975) ∨ (65008 ≤ c.toInt ∧ c.toInt ≤ 65533) ∨ (65536 ≤ c.toInt ∧ c.toInt ≤ 983039) → own_nc30 c = 1) ∧ (¬ ((192 ≤ c.toInt ∧ c.toInt ≤ 214) ∨ (216 ≤ c.toInt ∧ c.toInt ≤ 246) ∨ (248 ≤ c.toInt ∧ c.toInt ≤ 767) ∨ (880 ≤ c.toInt ∧ c.toInt ≤ 893) ∨ (895 ≤ c.toInt ∧ c.toInt ≤ 8191) ∨ (8204 ≤ c.toInt ∧ c.toInt ≤ 8205) ∨ (8304 ≤ c.toInt ∧ c.toInt ≤ 8591) ∨ (11264 ≤ c.toInt ∧ c.toInt ≤ 12271) ∨ (12289 ≤ c.toInt ∧ c.toInt ≤ 55295) ∨ (63744 ≤ c.toInt ∧ c.toInt ≤ 64975) ∨ (65008 ≤ c.toInt ∧ c.toInt ≤ 65533) ∨ (65536 ≤ c.toInt ∧ c.toInt ≤ 983039)) → own_nc30 c = 0) := by
  obtain ⟨h1, h2⟩ := own_nc44_s c
  simp only [own_nc30, own_eq95, Int32.lt_iff_toInt_lt, Int32.reduceToInt]
  generalize own_nc44 c = r at *
  generalize c.toInt = t at *
  constructor <;> intro q <;> (repeat' split) <;> first | rfl | omega | exact h1 (by omega) | exact h2 (by omega)
def own_nc24 (c : Int32) : Int32 := if c = 95 then 1 else own_nc30 c
theorem own_nc24_s (c : Int32) : ((95 ≤ c.toInt ∧ c.toInt ≤ 95) ∨ (192 ≤ c.toInt ∧ c.toInt ≤ 214) ∨ (216 ≤ c.toInt ∧ c.toInt ≤ 246) ∨ (248 ≤ c.toInt ∧ c.toInt ≤ 767) ∨ (880 ≤ c.toInt ∧ c.toInt ≤ 893) ∨ (895 ≤ c.toInt ∧ c.toInt ≤ 8191) ∨ (8204 ≤ c.toInt ∧ c.toInt ≤ 8205) ∨ (8304 ≤ c.toInt ∧ c.toInt ≤ 8591) ∨ (11264 ≤ c.toInt ∧ c.toInt ≤ 12271) ∨ (12289 ≤ c.toInt ∧ c.toInt ≤ 55295) ∨ (63744 ≤ c.toInt ∧ c.toInt ≤ 64975) ∨ (65008 ≤ c.toInt ∧ c.toInt ≤ 65533) ∨ (65536 ≤ c.toInt ∧ c.toInt ≤ 983039) → own_nc24 c = 1) ∧ (¬ ((95 ≤ c.toInt ∧ c.toInt ≤ 95) ∨ (192 ≤ c.toInt ∧ c.toInt ≤ 214) ∨ (216 ≤ c.toInt ∧ c.toInt ≤ 246) ∨ (248 ≤ c.toInt ∧ c.toInt ≤ 767) ∨ (880 ≤ c.toInt ∧ c.toInt ≤ 893) ∨ (895 ≤ c.toInt ∧ c.toInt ≤ 8191) ∨ (8204 ≤ c.toInt ∧ c.toInt ≤ 8205) ∨ (8304 ≤ c.toInt ∧ c.toInt ≤ 8591) ∨ (11264 ≤ c.toInt ∧ c.toInt ≤ 12271) ∨ (12289 ≤ c.toInt ∧ c.toInt ≤ 55295) ∨ (63744 ≤ c.toInt ∧ c.toInt ≤ 64975) ∨ (65008 ≤ c.toInt ∧ c.toInt ≤ 65533) ∨ (65536 ≤ c.toInt ∧ c.toInt ≤ 983039)) → own_nc24 c = 0) := by
  obtain ⟨h1, h2⟩ := own_nc30_s c
  simp only [own_nc24, own_eq95, Int32.lt_iff_toInt_lt, Int32.reduceToInt]
  generalize own_nc30 c = r at *
  generalize c.toInt = t at *
  constructor <;> intro q <;> (repeat' split) <;> first | rfl | omega | exact h1 (by omega) | exact h2 (by omega)
def own_nc12 (c : Int32) : Int32 := if c < 65 then own_nc24 c else if 90 < c then own_nc24 c else 1
theorem own_nc12_s (c : Int32) : ((65 ≤ c.toInt ∧ c.toInt ≤ 90) ∨ (95 ≤ c.toInt ∧ c.toInt ≤ 95) ∨ (192 ≤ c.toInt ∧ c.toInt ≤ 214) ∨ (216 ≤ c.toInt ∧ c.toInt ≤ 246) ∨ (248 ≤ c.toInt ∧ c.toInt ≤ 767) ∨ (880 ≤ c.toInt ∧ c.toInt ≤ 893) ∨ (895 ≤ c.toInt ∧ c.toInt ≤ 8191) ∨ (8204 ≤ c.toInt ∧ c.toInt ≤ 8205) ∨ (8304 ≤ c.toInt ∧ c.toInt ≤ 8591) ∨ (11264 ≤ c.toInt ∧ c.toInt ≤ 12271) ∨ (12289 ≤ c.toInt ∧ c.toInt ≤ 55295) ∨ (63744 ≤ c.toInt ∧ c.toInt ≤ 64975) ∨ (65008 ≤ c.toInt ∧ c.toInt ≤ 65533) ∨ (65536 ≤ c.toInt ∧ c.toInt ≤ 983039) → own_nc12 c = 1) ∧ (¬ ((65 ≤ c.toInt ∧ c.toInt ≤ 90) ∨ (95 ≤ c.toInt ∧ c.toInt ≤ 95) ∨ (192 ≤ c.toInt ∧ c.toInt ≤ 214) ∨ (216 ≤ c.toInt ∧ c.toInt ≤ 246) ∨ (248 ≤ c.toInt ∧ c.toInt ≤ 767) ∨ (880 ≤ c.toInt ∧ c.toInt ≤ 893) ∨ (895 ≤ c.toInt ∧ c.toInt ≤ 8191) ∨ (8204 ≤ c.toInt ∧ c.toInt ≤ 8205) ∨ (8304 ≤ c.toInt ∧ c.toInt ≤ 8591) ∨ (11264 ≤ c.toInt ∧ c.toInt ≤ 12271) ∨ (12289 ≤ c.toInt ∧ c.toInt ≤ 55295) ∨ (63744 ≤ c.toInt ∧ c.toInt ≤ 64975) ∨ (65008 ≤ c.toInt ∧ c.toInt ≤ 65533) ∨ (65536 ≤ c.toInt ∧ c.toInt ≤ 983039)) → own_nc12 c = 0) := by
  obtain ⟨h1, h2⟩ := own_nc24_s c
  simp only [own_nc12, own_eq95, Int32.lt_iff_toInt_lt, Int32.reduceToInt]
  generalize own_nc24 c = r at *
  generalize c.toInt = t at *
  constructor <;> intro q <;> (repeat' split) <;> first | rfl | omega | exact h1 (by omega) | exact h2 (by omega)
def own_nc (c : Int32) : Int32 := if c < 97 then own_nc12 c else if 122 < c then own_nc12 c else 1
theorem own_nc_s (c : Int32) : ((97 ≤ c.toInt ∧ c.toInt ≤ 122) ∨ (65 ≤ c.toInt ∧ c.toInt ≤ 90) ∨ (95 ≤ c.toInt ∧ c.toInt ≤ 95) ∨ (192 ≤ c.toInt ∧ c.toInt ≤ 214) ∨ (216 ≤ c.toInt ∧ c.toInt ≤ 246) ∨ (248 ≤ c.toInt ∧ c.toInt ≤ 767) ∨ (880 ≤ c.toInt ∧ c.toInt ≤ 893) ∨ (895 ≤ c.toInt ∧ c.toInt ≤ 8191) ∨ (8204 ≤ c.toInt ∧ c.toInt ≤ 8205) ∨ (8304 ≤ c.toInt ∧ c.toInt ≤ 8591) ∨ (11264 ≤ c.toInt ∧ c.toInt ≤ 12271) ∨ (12289 ≤ c.toInt ∧ c.toInt ≤ 55295) ∨ (63744 ≤ c.toInt ∧ c.toInt ≤ 64975) ∨ (65008 ≤ c.toInt ∧ c.toInt ≤ 65533) ∨ (65536 ≤ c.toInt ∧ c.toInt ≤ 983039) → own_nc c = 1) ∧ (¬ ((97 ≤ c.toInt ∧ c.toInt ≤ 122) ∨ (65 ≤ c.toInt ∧ c.toInt ≤ 90) ∨ (95 ≤ c.toInt ∧ c.toInt ≤ 95) ∨ (192 ≤ c.toInt ∧ c.toInt ≤ 214) ∨ (216 ≤ c.toInt ∧ c.toInt ≤ 246) ∨ (248 ≤ c.toInt ∧ c.toInt ≤ 767) ∨ (880 ≤ c.toInt ∧ c.toInt ≤ 893) ∨ (895 ≤ c.toInt ∧ c.toInt ≤ 8191) ∨ (8204 ≤ c.toInt ∧ c.toInt ≤ 8205) ∨ (8304 ≤ c.toInt ∧ c.toInt ≤ 8591) ∨ (11264 ≤ c.toInt ∧ c.toInt ≤ 12271) ∨ (12289 ≤ c.toInt ∧ c.toInt ≤ 55295) ∨ (63744 ≤ c.toInt ∧ c.toInt ≤ 64975) ∨ (65008 ≤ c.toInt ∧ c.toInt ≤ 65533) ∨ (65536 ≤ c.toInt ∧ c.toInt ≤ 983039)) → own_nc c = 0) := by
  obtain ⟨h1, h2⟩ := own_nc12_s c
  simp only [own_nc, own_eq95, Int32.lt_iff_toInt_lt, Int32.reduceToInt]
  generalize own_nc12 c = r at *
  generalize c.toInt = t at *
  constructor <;> intro q <;> (repeat' split) <;> first | rfl | omega | exact h1 (by omega) | exact h2 (by omega)
def own_ok (lo hi : Int64) (inr : Int32) : Prop := -2147483648 ≤ lo.toInt ∧ lo.toInt ≤ hi.toInt ∧ hi.toInt ≤ 2147483647 ∧ ∀ c : Int32, lo.toInt ≤ c.toInt → c.toInt ≤ hi.toInt → own_nc c = inr
theorem own_ofNat (v : Int32) (n : Nat) (h : v.toInt = n) : v = Int32.ofNat n := by
  apply Int32.toInt_inj.mp
  have r := rng32 v
  rw [Int32.toInt_ofNat_of_lt (by omega)]
  exact h
theorem own_in (i : Int32) (h0 : 0 ≤ i.toInt) (h1 : i.toInt < 15) : own_ok (own_lo i).toInt64 (own_hi i).toInt64 1 := by
  obtain ⟨n, hn⟩ : ∃ n : Nat, i.toInt = n := ⟨i.toInt.toNat, by omega⟩
  rw [own_ofNat i n hn]
  have hc : n = 0 ∨ n = 1 ∨ n = 2 ∨ n = 3 ∨ n = 4 ∨ n = 5 ∨ n = 6 ∨ n = 7 ∨ n = 8 ∨ n = 9 ∨ n = 10 ∨ n = 11 ∨ n = 12 ∨ n = 13 ∨ n = 14 := by omega
  rcases hc with rfl | rfl | rfl | rfl | rfl | rfl | rfl | rfl | rfl | rfl | rfl | rfl | rfl | rfl | rfl
  · have e1 : (own_lo (Int32.ofNat 0)).toInt64.toInt = 65 := by decide
    have e2 : (own_hi (Int32.ofNat 0)).toInt64.toInt = 90 := by decide
    exact ⟨by omega, by omega, by omega, fun c q1 q2 => (own_nc_s c).1 (by omega)⟩
  · have e1 : (own_lo (Int32.ofNat 1)).toInt64.toInt = 95 := by decide
    have e2 : (own_hi (Int32.ofNat 1)).toInt64.toInt = 95 := by decide
    exact ⟨by omega, by omega, by omega, fun c q1 q2 => (own_nc_s c).1 (by omega)⟩
  · have e1 : (own_lo (Int32.ofNat 2)).toInt64.toInt = 97 := by decide
    have e2 : (own_hi (Int32.ofNat 2)).toInt64.toInt = 122 := by decide
    exact ⟨by omega, by omega, by omega, fun c q1 q2 => (own_nc_s c).1 (by omega)⟩
  · have e1 : (own_lo (Int32.ofNat 3)).toInt64.toInt = 192 := by decide
    have e2 : (own_hi (Int32.ofNat 3)).toInt64.toInt = 214 := by decide
    exact ⟨by omega, by omega, by omega, fun c q1 q2 => (own_nc_s c).1 (by omega)⟩
  · have e1 : (own_lo (Int32.ofNat 4)).toInt64.toInt = 216 := by decide
    have e2 : (own_hi (Int32.ofNat 4)).toInt64.toInt = 246 := by decide
    exact ⟨by omega, by omega, by omega, fun c q1 q2 => (own_nc_s c).1 (by omega)⟩
  · have e1 : (own_lo (Int32.ofNat 5)).toInt64.toInt = 248 := by decide
    have e2 : (own_hi (Int32.ofNat 5)).toInt64.toInt = 767 := by decide
    exact ⟨by omega, by omega, by omega, fun c q1 q2 => (own_nc_s c).1 (by omega)⟩
  · have e1 : (own_lo (Int32.ofNat 6)).toInt64.toInt = 880 := by decide
    have e2 : (own_hi (Int32.ofNat 6)).toInt64.toInt = 893 := by decide
    exact ⟨by omega, by omega, by omega, fun c q1 q2 => (own_nc_s c).1 (by omega)⟩
  · have e1 : (own_lo (Int32.ofNat 7)).toInt64.toInt = 895 := by decide
    have e2 : (own_hi (Int32.ofNat 7)).toInt64.toInt = 8191 := by decide
    exact ⟨by omega, by omega, by omega, fun c q1 q2 => (own_nc_s c).1 (by omega)⟩
  · have e1 : (own_lo (Int32.ofNat 8)).toInt64.toInt = 8204 := by decide
    have e2 : (own_hi (Int32.ofNat 8)).toInt64.toInt = 8205 := by decide
    exact ⟨by omega, by omega, by omega, fun c q1 q2 => (own_nc_s c).1 (by omega)⟩
  · have e1 : (own_lo (Int32.ofNat 9)).toInt64.toInt = 8304 := by decide
    have e2 : (own_hi (Int32.ofNat 9)).toInt64.toInt = 8591 := by decide
    exact ⟨by omega, by omega, by omega, fun c q1 q2 => (own_nc_s c).1 (by omega)⟩
  · have e1 : (own_lo (Int32.ofNat 10)).toInt64.toInt = 11264 := by decide
    have e2 : (own_hi (Int32.ofNat 10)).toInt64.toInt = 12271 := by decide
    exact ⟨by omega, by omega, by omega, fun c q1 q2 => (own_nc_s c).1 (by omega)⟩
  · have e1 : (own_lo (Int32.ofNat 11)).toInt64.toInt = 12289 := by decide
    have e2 : (own_hi (Int32.ofNat 11)).toInt64.toInt = 55295 := by decide
    exact ⟨by omega, by omega, by omega, fun c q1 q2 => (own_nc_s c).1 (by omega)⟩
  · have e1 : (own_lo (Int32.ofNat 12)).toInt64.toInt = 63744 := by decide
    have e2 : (own_hi (Int32.ofNat 12)).toInt64.toInt = 64975 := by decide
    exact ⟨by omega, by omega, by omega, fun c q1 q2 => (own_nc_s c).1 (by omega)⟩
  · have e1 : (own_lo (Int32.ofNat 13)).toInt64.toInt = 65008 := by decide
    have e2 : (own_hi (Int32.ofNat 13)).toInt64.toInt = 65533 := by decide
    exact ⟨by omega, by omega, by omega, fun c q1 q2 => (own_nc_s c).1 (by omega)⟩
  · have e1 : (own_lo (Int32.ofNat 14)).toInt64.toInt = 65536 := by decide
    have e2 : (own_hi (Int32.ofNat 14)).toInt64.toInt = 983039 := by decide
    exact ⟨by omega, by omega, by omega, fun c q1 q2 => (own_nc_s c).1 (by omega)⟩
theorem own_out (i : Int32) (h0 : 0 ≤ i.toInt) (h1 : i.toInt < 16) : own_ok (if i = 0 then (-2147483648 : Int64) else (own_hi (i - 1)).toInt64 + 1) (if i = 15 then (2147483647 : Int64) else (own_lo i).toInt64 - 1) 0 := by
  obtain ⟨n, hn⟩ : ∃ n : Nat, i.toInt = n := ⟨i.toInt.toNat, by omega⟩
  rw [own_ofNat i n hn]
  have hc : n = 0 ∨ n = 1 ∨ n = 2 ∨ n = 3 ∨ n = 4 ∨ n = 5 ∨ n = 6 ∨ n = 7 ∨ n = 8 ∨ n = 9 ∨ n = 10 ∨ n = 11 ∨ n = 12 ∨ n = 13 ∨ n = 14 ∨ n = 15 := by omega
  rcases hc with rfl | rfl | rfl | rfl | rfl | rfl | rfl | rfl | rfl | rfl | rfl | rfl | rfl | rfl | rfl | rfl
  · have e1 : (if Int32.ofNat 0 = 0 then (-2147483648 : Int64) else (own_hi (Int32.ofNat 0 - 1)).toInt64 + 1).toInt = -2147483648 := by decide
    have e2 : (if Int32.ofNat 0 = 15 then (2147483647 : Int64) else (own_lo (Int32.ofNat 0)).toInt64 - 1).toInt = 64 := by decide
    exact ⟨by omega, by omega, by omega, fun c q1 q2 => (own_nc_s c).2 (by omega)⟩
  · have e1 : (if Int32.ofNat 1 = 0 then (-2147483648 : Int64) else (own_hi (Int32.ofNat 1 - 1)).toInt64 + 1).toInt = 91 := by decide
    have e2 : (if Int32.ofNat 1 = 15 then (2147483647 : Int64) else (own_lo (Int32.ofNat 1)).toInt64 - 1).toInt = 94 := by decide
    exact ⟨by omega, by omega, by omega, fun c q1 q2 => (own_nc_s c).2 (by omega)⟩
  · have e1 : (if Int32.ofNat 2 = 0 then (-2147483648 : Int64) else (own_hi (Int32.ofNat 2 - 1)).toInt64 + 1).toInt = 96 := by decide
    have e2 : (if Int32.ofNat 2 = 15 then (2147483647 : Int64) else (own_lo (Int32.ofNat 2)).toInt64 - 1).toInt = 96 := by decide
    exact ⟨by omega, by omega, by omega, fun c q1 q2 => (own_nc_s c).2 (by omega)⟩
  · have e1 : (if Int32.ofNat 3 = 0 then (-2147483648 : Int64) else (own_hi (Int32.ofNat 3 - 1)).toInt64 + 1).toInt = 123 := by decide
    have e2 : (if Int32.ofNat 3 = 15 then (2147483647 : Int64) else (own_lo (Int32.ofNat 3)).toInt64 - 1).toInt = 191 := by decide
    exact ⟨by omega, by omega, by omega, fun c q1 q2 => (own_nc_s c).2 (by omega)⟩
  · have e1 : (if Int32.ofNat 4 = 0 then (-2147483648 : Int64) else (own_hi (Int32.ofNat 4 - 1)).toInt64 + 1).toInt = 215 := by decide
    have e2 : (if Int32.ofNat 4 = 15 then (2147483647 : Int64) else (own_lo (Int32.ofNat 4)).toInt64 - 1).toInt = 215 := by decide
    exact ⟨by omega, by omega, by omega, fun c q1 q2 => (own_nc_s c).2 (by omega)⟩
  · have e1 : (if Int32.ofNat 5 = 0 then (-2147483648 : Int64) else (own_hi (Int32.ofNat 5 - 1)).toInt64 + 1).toInt = 247 := by decide
    have e2 : (if Int32.ofNat 5 = 15 then (2147483647 : Int64) else (own_lo (Int32.ofNat 5)).toInt64 - 1).toInt = 247 := by decide
    exact ⟨by omega, by omega, by omega, fun c q1 q2 => (own_nc_s c).2 (by omega)⟩
  · have e1 : (if Int32.ofNat 6 = 0 then (-2147483648 : Int64) else (own_hi (Int32.ofNat 6 - 1)).toInt64 + 1).toInt = 768 := by decide
    have e2 : (if Int32.ofNat 6 = 15 then (2147483647 : Int64) else (own_lo (Int32.ofNat 6)).toInt64 - 1).toInt = 879 := by decide
    exact ⟨by omega, by omega, by omega, fun c q1 q2 => (own_nc_s c).2 (by omega)⟩
  · have e1 : (if Int32.ofNat 7 = 0 then (-2147483648 : Int64) else (own_hi (Int32.ofNat 7 - 1)).toInt64 + 1).toInt = 894 := by decide
    have e2 : (if Int32.ofNat 7 = 15 then (2147483647 : Int64) else (own_lo (Int32.ofNat 7)).toInt64 - 1).toInt = 894 := by decide
    exact ⟨by omega, by omega, by omega, fun c q1 q2 => (own_nc_s c).2 (by omega)⟩
  · have e1 : (if Int32.ofNat 8 = 0 then (-2147483648 : Int64) else (own_hi (Int32.ofNat 8 - 1)).toInt64 + 1).toInt = 8192 := by decide
    have e2 : (if Int32.ofNat 8 = 15 then (2147483647 : Int64) else (own_lo (Int32.ofNat 8)).toInt64 - 1).toInt = 8203 := by decide
    exact ⟨by omega, by omega, by omega, fun c q1 q2 => (own_nc_s c).2 (by omega)⟩
  · have e1 : (if Int32.ofNat 9 = 0 then (-2147483648 : Int64) else (own_hi (Int32.ofNat 9 - 1)).toInt64 + 1).toInt = 8206 := by decide
    have e2 : (if Int32.ofNat 9 = 15 then (2147483647 : Int64) else (own_lo (Int32.ofNat 9)).toInt64 - 1).toInt = 8303 := by decide
    exact ⟨by omega, by omega, by omega, fun c q1 q2 => (own_nc_s c).2 (by omega)⟩
  · have e1 : (if Int32.ofNat 10 = 0 then (-2147483648 : Int64) else (own_hi (Int32.ofNat 10 - 1)).toInt64 + 1).toInt = 8592 := by decide
    have e2 : (if Int32.ofNat 10 = 15 then (2147483647 : Int64) else (own_lo (Int32.ofNat 10)).toInt64 - 1).toInt = 11263 := by decide
    exact ⟨by omega, by omega, by omega, fun c q1 q2 => (own_nc_s c).2 (by omega)⟩
  · have e1 : (if Int32.ofNat 11 = 0 then (-2147483648 : Int64) else (own_hi (Int32.ofNat 11 - 1)).toInt64 + 1).toInt = 12272 := by decide
    have e2 : (if Int32.ofNat 11 = 15 then (2147483647 : Int64) else (own_lo (Int32.ofNat 11)).toInt64 - 1).toInt = 12288 := by decide
    exact ⟨by omega, by omega, by omega, fun c q1 q2 => (own_nc_s c).2 (by omega)⟩
  · have e1 : (if Int32.ofNat 12 = 0 then (-2147483648 : Int64) else (own_hi (Int32.ofNat 12 - 1)).toInt64 + 1).toInt = 55296 := by decide
    have e2 : (if Int32.ofNat 12 = 15 then (2147483647 : Int64) else (own_lo (Int32.ofNat 12)).toInt64 - 1).toInt = 63743 := by decide
    exact ⟨by omega, by omega, by omega, fun c q1 q2 => (own_nc_s c).2 (by omega)⟩
  · have e1 : (if Int32.ofNat 13 = 0 then (-2147483648 : Int64) else (own_hi (Int32.ofNat 13 - 1)).toInt64 + 1).toInt = 64976 := by decide
    have e2 : (if Int32.ofNat 13 = 15 then (2147483647 : Int64) else (own_lo (Int32.ofNat 13)).toInt64 - 1).toInt = 65007 := by decide
    exact ⟨by omega, by omega, by omega, fun c q1 q2 => (own_nc_s c).2 (by omega)⟩
  · have e1 : (if Int32.ofNat 14 = 0 then (-2147483648 : Int64) else (own_hi (Int32.ofNat 14 - 1)).toInt64 + 1).toInt = 65534 := by decide
    have e2 : (if Int32.ofNat 14 = 15 then (2147483647 : Int64) else (own_lo (Int32.ofNat 14)).toInt64 - 1).toInt = 65535 := by decide
    exact ⟨by omega, by omega, by omega, fun c q1 q2 => (own_nc_s c).2 (by omega)⟩
  · have e1 : (if Int32.ofNat 15 = 0 then (-2147483648 : Int64) else (own_hi (Int32.ofNat 15 - 1)).toInt64 + 1).toInt = 983040 := by decide
    have e2 : (if Int32.ofNat 15 = 15 then (2147483647 : Int64) else (own_lo (Int32.ofNat 15)).toInt64 - 1).toInt = 2147483647 := by decide
    exact ⟨by omega, by omega, by omega, fun c q1 q2 => (own_nc_s c).2 (by omega)⟩
theorem own_width {lo hi : Int64} (a : -2147483648 ≤ lo.toInt) (b : lo.toInt ≤ hi.toInt) (d : hi.toInt ≤ 2147483647) : (hi - lo + 1).toInt = hi.toInt - lo.toInt + 1 := by
  have h1 := c_lsub hi lo
  have h2 := c_ladd (hi - lo) 1
  have r1 := rng64 (hi - lo)
  have r2 := rng64 (hi - lo + 1)
  have l1 : (1 : Int64).toInt = 1 := by decide
  omega
theorem own_wd0 {wd : Int64} (h : 0 < wd.toInt) : wd ≠ 0 := by
  rintro rfl
  have : (0 : Int64).toInt = 0 := by decide
  omega
theorem own_pick {lo hi wd : Int64} (off : Int32) (a : -2147483648 ≤ lo.toInt) (b : lo.toInt ≤ hi.toInt) (d : hi.toInt ≤ 2147483647) (hw : wd.toInt = hi.toInt - lo.toInt + 1) : lo.toInt ≤ ((lo + (off.toInt64 &&& 4294967295) % wd).toInt32).toInt ∧ ((lo + (off.toInt64 &&& 4294967295) % wd).toInt32).toInt ≤ hi.toInt := by
  have mk := c_maskL off.toInt64 4294967295 32 (by decide) (by decide)
  generalize off.toInt64 &&& 4294967295 = u at *
  have e : (u % wd).toInt = u.toInt % wd.toInt := by rw [Int64.toInt_mod, Int.tmod_eq_emod_of_nonneg (by omega)]
  have e0 := Int.emod_nonneg u.toInt (show wd.toInt ≠ 0 by omega)
  have e1 := Int.emod_lt_of_pos u.toInt (show 0 < wd.toInt by omega)
  have a1 := c_ladd lo (u % wd)
  have a2 := rng64 (lo + u % wd)
  have a3 := c_l2i (lo + u % wd)
  have a4 := rng32 (lo + u % wd).toInt32
  omega
theorem own_sel (k : Int32) : 0 ≤ (XT.ushr k 1).toInt := by
  have u : (XT.ushr k 1).toInt = k.toInt % 4294967296 / (2 ^ 1 : Nat) := c_iushr k 1 1 (by decide) (by decide)
  omega
theorem own_r15 {v : Int32} (h : 0 ≤ v.toInt) : 0 ≤ (v % 15).toInt ∧ (v % 15).toInt < 15 := by
  have r := (c_irem v 15 15 (by decide)).1 h
  omega
theorem own_r16 {v : Int32} (h : 0 ≤ v.toInt) : 0 ≤ (v % 16).toInt ∧ (v % 16).toInt < 16 := by
  have r := (c_irem v 16 16 (by decide)).1 h
  omega

set_option maxRecDepth 65536 in
set_option maxHeartbeats 40000000 in
theorem rm_rangeLo {l : Launch} {Z : State} {a0 : Array Value} {h : Heap} (hw : ∀ d ∈ tables_1, d.before a0 Z = true) (i : Int32) : OwnPure l Z (⟨"com/example/lehti/lehti/xdm/XmlCharactersIsNcNameStartCharPinLaw", "rangeLo", "(I)I"⟩ : MethodName) method_3_code 1 (some .int) #[(.int i)] (.int (own_lo i)) h :=
 own_met (Q := fun ov oh oL => ov = some (.int (own_lo i)) ∧ oh = h ∧ oL = []) (rm := ownR0) (plainFor_of_name pn_com_example_lehti_lehti_xdm_XmlCharactersIsNcNameStartCharPinLaw) (fun m => ef_rangeLo m i) fun p e s m below meth c T hx hZ hby hml hown hnm hret hlk X eT => by
  refine own_iloadN X hx (hb hby d_rangeLo_0) rfl (pc' := 1) rfl ?_
  refine own_if_ne X hx (hb hby d_rangeLo_1) (pc1 := 4) (pc2 := 7) rfl (by decide) (fun hc1 => ?_) (fun hc1 => ?_)
  · refine own_iloadN X hx (hb hby d_rangeLo_7) rfl (pc' := 8) rfl ?_
    refine own_iconst X hx (hb hby d_rangeLo_8) (z := (1 : Int32)) rfl (pc' := 9) rfl ?_
    refine own_icmp_ne X hx (hb hby d_rangeLo_9) (pc1 := 12) (pc2 := 15) rfl (by decide) (fun hc9 => ?_) (fun hc9 => ?_)
    · refine own_iloadN X hx (hb hby d_rangeLo_15) rfl (pc' := 16) rfl ?_
      refine own_iconst X hx (hb hby d_rangeLo_16) (z := (2 : Int32)) rfl (pc' := 17) rfl ?_
      refine own_icmp_ne X hx (hb hby d_rangeLo_17) (pc1 := 20) (pc2 := 23) rfl (by decide) (fun hc17 => ?_) (fun hc17 => ?_)
      · refine own_iloadN X hx (hb hby d_rangeLo_23) rfl (pc' := 24) rfl ?_
        refine own_iconst X hx (hb hby d_rangeLo_24) (z := (3 : Int32)) rfl (pc' := 25) rfl ?_
        refine own_icmp_ne X hx (hb hby d_rangeLo_25) (pc1 := 28) (pc2 := 32) rfl (by decide) (fun hc25 => ?_) (fun hc25 => ?_)
        · refine own_iloadN X hx (hb hby d_rangeLo_32) rfl (pc' := 33) rfl ?_
          refine own_iconst X hx (hb hby d_rangeLo_33) (z := (4 : Int32)) rfl (pc' := 34) rfl ?_
          refine own_icmp_ne X hx (hb hby d_rangeLo_34) (pc1 := 37) (pc2 := 41) rfl (by decide) (fun hc34 => ?_) (fun hc34 => ?_)
          · refine own_iloadN X hx (hb hby d_rangeLo_41) rfl (pc' := 42) rfl ?_
            refine own_iconst X hx (hb hby d_rangeLo_42) (z := (5 : Int32)) rfl (pc' := 43) rfl ?_
            refine own_icmp_ne X hx (hb hby d_rangeLo_43) (pc1 := 46) (pc2 := 50) rfl (by decide) (fun hc43 => ?_) (fun hc43 => ?_)
            · refine own_iloadN X hx (hb hby d_rangeLo_50) rfl (pc' := 51) rfl ?_
              refine own_bipush X hx (hb hby d_rangeLo_51) (z := (6 : Int32)) rfl (pc' := 53) rfl ?_
              refine own_icmp_ne X hx (hb hby d_rangeLo_53) (pc1 := 56) (pc2 := 60) rfl (by decide) (fun hc53 => ?_) (fun hc53 => ?_)
              · refine own_iloadN X hx (hb hby d_rangeLo_60) rfl (pc' := 61) rfl ?_
                refine own_bipush X hx (hb hby d_rangeLo_61) (z := (7 : Int32)) rfl (pc' := 63) rfl ?_
                refine own_icmp_ne X hx (hb hby d_rangeLo_63) (pc1 := 66) (pc2 := 70) rfl (by decide) (fun hc63 => ?_) (fun hc63 => ?_)
                · refine own_iloadN X hx (hb hby d_rangeLo_70) rfl (pc' := 71) rfl ?_
                  refine own_bipush X hx (hb hby d_rangeLo_71) (z := (8 : Int32)) rfl (pc' := 73) rfl ?_
                  refine own_icmp_ne X hx (hb hby d_rangeLo_73) (pc1 := 76) (pc2 := 80) rfl (by decide) (fun hc73 => ?_) (fun hc73 => ?_)
                  · refine own_iloadN X hx (hb hby d_rangeLo_80) rfl (pc' := 81) rfl ?_
                    refine own_bipush X hx (hb hby d_rangeLo_81) (z := (9 : Int32)) rfl (pc' := 83) rfl ?_
                    refine own_icmp_ne X hx (hb hby d_rangeLo_83) (pc1 := 86) (pc2 := 90) rfl (by decide) (fun hc83 => ?_) (fun hc83 => ?_)
                    · refine own_iloadN X hx (hb hby d_rangeLo_90) rfl (pc' := 91) rfl ?_
                      refine own_bipush X hx (hb hby d_rangeLo_91) (z := (10 : Int32)) rfl (pc' := 93) rfl ?_
                      refine own_icmp_ne X hx (hb hby d_rangeLo_93) (pc1 := 96) (pc2 := 100) rfl (by decide) (fun hc93 => ?_) (fun hc93 => ?_)
                      · refine own_iloadN X hx (hb hby d_rangeLo_100) rfl (pc' := 101) rfl ?_
                        refine own_bipush X hx (hb hby d_rangeLo_101) (z := (11 : Int32)) rfl (pc' := 103) rfl ?_
                        refine own_icmp_ne X hx (hb hby d_rangeLo_103) (pc1 := 106) (pc2 := 110) rfl (by decide) (fun hc103 => ?_) (fun hc103 => ?_)
                        · refine own_iloadN X hx (hb hby d_rangeLo_110) rfl (pc' := 111) rfl ?_
                          refine own_bipush X hx (hb hby d_rangeLo_111) (z := (12 : Int32)) rfl (pc' := 113) rfl ?_
                          refine own_icmp_ne X hx (hb hby d_rangeLo_113) (pc1 := 116) (pc2 := 119) rfl (by decide) (fun hc113 => ?_) (fun hc113 => ?_)
                          · refine own_iloadN X hx (hb hby d_rangeLo_119) rfl (pc' := 120) rfl ?_
                            refine own_bipush X hx (hb hby d_rangeLo_120) (z := (13 : Int32)) rfl (pc' := 122) rfl ?_
                            refine own_icmp_ne X hx (hb hby d_rangeLo_122) (pc1 := 125) (pc2 := 128) rfl (by decide) (fun hc122 => ?_) (fun hc122 => ?_)
                            · refine own_ldcI X hx hZ hown (v := (65536 : Int32)) (hw _ (List.mem_of_getElem? (i := 23) rfl)) (hb hby d_rangeLo_128) (pc' := 130) rfl ?_
                              exact own_retI X hx eT hret hlk (Nat.le_refl _) (Nat.le_refl _) (hb hby d_rangeLo_130) ⟨by simp [own_lo, hc1, hc9, hc17, hc25, hc34, hc43, hc53, hc63, hc73, hc83, hc93, hc103, hc113, hc122], rfl, rfl⟩
                            · refine own_ldcI X hx hZ hown (v := (65008 : Int32)) (hw _ (List.mem_of_getElem? (i := 27) rfl)) (hb hby d_rangeLo_125) (pc' := 127) rfl ?_
                              exact own_retI X hx eT hret hlk (Nat.le_refl _) (Nat.le_refl _) (hb hby d_rangeLo_127) ⟨by simp [own_lo, hc1, hc9, hc17, hc25, hc34, hc43, hc53, hc63, hc73, hc83, hc93, hc103, hc113, hc122], rfl, rfl⟩
                          · refine own_ldcI X hx hZ hown (v := (63744 : Int32)) (hw _ (List.mem_of_getElem? (i := 25) rfl)) (hb hby d_rangeLo_116) (pc' := 118) rfl ?_
                            exact own_retI X hx eT hret hlk (Nat.le_refl _) (Nat.le_refl _) (hb hby d_rangeLo_118) ⟨by simp [own_lo, hc1, hc9, hc17, hc25, hc34, hc43, hc53, hc63, hc73, hc83, hc93, hc103, hc113], rfl, rfl⟩
                        · refine own_sipush X hx (hb hby d_rangeLo_106) (z := (12289 : Int32)) rfl (pc' := 109) rfl ?_
                          exact own_retI X hx eT hret hlk (Nat.le_refl _) (Nat.le_refl _) (hb hby d_rangeLo_109) ⟨by simp [own_lo, hc1, hc9, hc17, hc25, hc34, hc43, hc53, hc63, hc73, hc83, hc93, hc103], rfl, rfl⟩
                      · refine own_sipush X hx (hb hby d_rangeLo_96) (z := (11264 : Int32)) rfl (pc' := 99) rfl ?_
                        exact own_retI X hx eT hret hlk (Nat.le_refl _) (Nat.le_refl _) (hb hby d_rangeLo_99) ⟨by simp [own_lo, hc1, hc9, hc17, hc25, hc34, hc43, hc53, hc63, hc73, hc83, hc93], rfl, rfl⟩
                    · refine own_sipush X hx (hb hby d_rangeLo_86) (z := (8304 : Int32)) rfl (pc' := 89) rfl ?_
                      exact own_retI X hx eT hret hlk (Nat.le_refl _) (Nat.le_refl _) (hb hby d_rangeLo_89) ⟨by simp [own_lo, hc1, hc9, hc17, hc25, hc34, hc43, hc53, hc63, hc73, hc83], rfl, rfl⟩
                  · refine own_sipush X hx (hb hby d_rangeLo_76) (z := (8204 : Int32)) rfl (pc' := 79) rfl ?_
                    exact own_retI X hx eT hret hlk (Nat.le_refl _) (Nat.le_refl _) (hb hby d_rangeLo_79) ⟨by simp [own_lo, hc1, hc9, hc17, hc25, hc34, hc43, hc53, hc63, hc73], rfl, rfl⟩
                · refine own_sipush X hx (hb hby d_rangeLo_66) (z := (895 : Int32)) rfl (pc' := 69) rfl ?_
                  exact own_retI X hx eT hret hlk (Nat.le_refl _) (Nat.le_refl _) (hb hby d_rangeLo_69) ⟨by simp [own_lo, hc1, hc9, hc17, hc25, hc34, hc43, hc53, hc63], rfl, rfl⟩
              · refine own_sipush X hx (hb hby d_rangeLo_56) (z := (880 : Int32)) rfl (pc' := 59) rfl ?_
                exact own_retI X hx eT hret hlk (Nat.le_refl _) (Nat.le_refl _) (hb hby d_rangeLo_59) ⟨by simp [own_lo, hc1, hc9, hc17, hc25, hc34, hc43, hc53], rfl, rfl⟩
            · refine own_sipush X hx (hb hby d_rangeLo_46) (z := (248 : Int32)) rfl (pc' := 49) rfl ?_
              exact own_retI X hx eT hret hlk (Nat.le_refl _) (Nat.le_refl _) (hb hby d_rangeLo_49) ⟨by simp [own_lo, hc1, hc9, hc17, hc25, hc34, hc43], rfl, rfl⟩
          · refine own_sipush X hx (hb hby d_rangeLo_37) (z := (216 : Int32)) rfl (pc' := 40) rfl ?_
            exact own_retI X hx eT hret hlk (Nat.le_refl _) (Nat.le_refl _) (hb hby d_rangeLo_40) ⟨by simp [own_lo, hc1, hc9, hc17, hc25, hc34], rfl, rfl⟩
        · refine own_sipush X hx (hb hby d_rangeLo_28) (z := (192 : Int32)) rfl (pc' := 31) rfl ?_
          exact own_retI X hx eT hret hlk (Nat.le_refl _) (Nat.le_refl _) (hb hby d_rangeLo_31) ⟨by simp [own_lo, hc1, hc9, hc17, hc25], rfl, rfl⟩
      · refine own_bipush X hx (hb hby d_rangeLo_20) (z := (97 : Int32)) rfl (pc' := 22) rfl ?_
        exact own_retI X hx eT hret hlk (Nat.le_refl _) (Nat.le_refl _) (hb hby d_rangeLo_22) ⟨by simp [own_lo, hc1, hc9, hc17], rfl, rfl⟩
    · refine own_bipush X hx (hb hby d_rangeLo_12) (z := (95 : Int32)) rfl (pc' := 14) rfl ?_
      exact own_retI X hx eT hret hlk (Nat.le_refl _) (Nat.le_refl _) (hb hby d_rangeLo_14) ⟨by simp [own_lo, hc1, hc9], rfl, rfl⟩
  · refine own_bipush X hx (hb hby d_rangeLo_4) (z := (65 : Int32)) rfl (pc' := 6) rfl ?_
    exact own_retI X hx eT hret hlk (Nat.le_refl _) (Nat.le_refl _) (hb hby d_rangeLo_6) ⟨by simp [own_lo, hc1], rfl, rfl⟩
set_option maxRecDepth 65536 in
set_option maxHeartbeats 40000000 in
theorem rm_rangeHi {l : Launch} {Z : State} {a0 : Array Value} {h : Heap} (hw : ∀ d ∈ tables_1, d.before a0 Z = true) (i : Int32) : OwnPure l Z (⟨"com/example/lehti/lehti/xdm/XmlCharactersIsNcNameStartCharPinLaw", "rangeHi", "(I)I"⟩ : MethodName) method_4_code 1 (some .int) #[(.int i)] (.int (own_hi i)) h :=
 own_met (Q := fun ov oh oL => ov = some (.int (own_hi i)) ∧ oh = h ∧ oL = []) (rm := ownR0) (plainFor_of_name pn_com_example_lehti_lehti_xdm_XmlCharactersIsNcNameStartCharPinLaw) (fun m => ef_rangeHi m i) fun p e s m below meth c T hx hZ hby hml hown hnm hret hlk X eT => by
  refine own_iloadN X hx (hb hby d_rangeHi_0) rfl (pc' := 1) rfl ?_
  refine own_if_ne X hx (hb hby d_rangeHi_1) (pc1 := 4) (pc2 := 7) rfl (by decide) (fun hc1 => ?_) (fun hc1 => ?_)
  · refine own_iloadN X hx (hb hby d_rangeHi_7) rfl (pc' := 8) rfl ?_
    refine own_iconst X hx (hb hby d_rangeHi_8) (z := (1 : Int32)) rfl (pc' := 9) rfl ?_
    refine own_icmp_ne X hx (hb hby d_rangeHi_9) (pc1 := 12) (pc2 := 15) rfl (by decide) (fun hc9 => ?_) (fun hc9 => ?_)
    · refine own_iloadN X hx (hb hby d_rangeHi_15) rfl (pc' := 16) rfl ?_
      refine own_iconst X hx (hb hby d_rangeHi_16) (z := (2 : Int32)) rfl (pc' := 17) rfl ?_
      refine own_icmp_ne X hx (hb hby d_rangeHi_17) (pc1 := 20) (pc2 := 23) rfl (by decide) (fun hc17 => ?_) (fun hc17 => ?_)
      · refine own_iloadN X hx (hb hby d_rangeHi_23) rfl (pc' := 24) rfl ?_
        refine own_iconst X hx (hb hby d_rangeHi_24) (z := (3 : Int32)) rfl (pc' := 25) rfl ?_
        refine own_icmp_ne X hx (hb hby d_rangeHi_25) (pc1 := 28) (pc2 := 32) rfl (by decide) (fun hc25 => ?_) (fun hc25 => ?_)
        · refine own_iloadN X hx (hb hby d_rangeHi_32) rfl (pc' := 33) rfl ?_
          refine own_iconst X hx (hb hby d_rangeHi_33) (z := (4 : Int32)) rfl (pc' := 34) rfl ?_
          refine own_icmp_ne X hx (hb hby d_rangeHi_34) (pc1 := 37) (pc2 := 41) rfl (by decide) (fun hc34 => ?_) (fun hc34 => ?_)
          · refine own_iloadN X hx (hb hby d_rangeHi_41) rfl (pc' := 42) rfl ?_
            refine own_iconst X hx (hb hby d_rangeHi_42) (z := (5 : Int32)) rfl (pc' := 43) rfl ?_
            refine own_icmp_ne X hx (hb hby d_rangeHi_43) (pc1 := 46) (pc2 := 50) rfl (by decide) (fun hc43 => ?_) (fun hc43 => ?_)
            · refine own_iloadN X hx (hb hby d_rangeHi_50) rfl (pc' := 51) rfl ?_
              refine own_bipush X hx (hb hby d_rangeHi_51) (z := (6 : Int32)) rfl (pc' := 53) rfl ?_
              refine own_icmp_ne X hx (hb hby d_rangeHi_53) (pc1 := 56) (pc2 := 60) rfl (by decide) (fun hc53 => ?_) (fun hc53 => ?_)
              · refine own_iloadN X hx (hb hby d_rangeHi_60) rfl (pc' := 61) rfl ?_
                refine own_bipush X hx (hb hby d_rangeHi_61) (z := (7 : Int32)) rfl (pc' := 63) rfl ?_
                refine own_icmp_ne X hx (hb hby d_rangeHi_63) (pc1 := 66) (pc2 := 70) rfl (by decide) (fun hc63 => ?_) (fun hc63 => ?_)
                · refine own_iloadN X hx (hb hby d_rangeHi_70) rfl (pc' := 71) rfl ?_
                  refine own_bipush X hx (hb hby d_rangeHi_71) (z := (8 : Int32)) rfl (pc' := 73) rfl ?_
                  refine own_icmp_ne X hx (hb hby d_rangeHi_73) (pc1 := 76) (pc2 := 80) rfl (by decide) (fun hc73 => ?_) (fun hc73 => ?_)
                  · refine own_iloadN X hx (hb hby d_rangeHi_80) rfl (pc' := 81) rfl ?_
                    refine own_bipush X hx (hb hby d_rangeHi_81) (z := (9 : Int32)) rfl (pc' := 83) rfl ?_
                    refine own_icmp_ne X hx (hb hby d_rangeHi_83) (pc1 := 86) (pc2 := 90) rfl (by decide) (fun hc83 => ?_) (fun hc83 => ?_)
                    · refine own_iloadN X hx (hb hby d_rangeHi_90) rfl (pc' := 91) rfl ?_
                      refine own_bipush X hx (hb hby d_rangeHi_91) (z := (10 : Int32)) rfl (pc' := 93) rfl ?_
                      refine own_icmp_ne X hx (hb hby d_rangeHi_93) (pc1 := 96) (pc2 := 100) rfl (by decide) (fun hc93 => ?_) (fun hc93 => ?_)
                      · refine own_iloadN X hx (hb hby d_rangeHi_100) rfl (pc' := 101) rfl ?_
                        refine own_bipush X hx (hb hby d_rangeHi_101) (z := (11 : Int32)) rfl (pc' := 103) rfl ?_
                        refine own_icmp_ne X hx (hb hby d_rangeHi_103) (pc1 := 106) (pc2 := 109) rfl (by decide) (fun hc103 => ?_) (fun hc103 => ?_)
                        · refine own_iloadN X hx (hb hby d_rangeHi_109) rfl (pc' := 110) rfl ?_
                          refine own_bipush X hx (hb hby d_rangeHi_110) (z := (12 : Int32)) rfl (pc' := 112) rfl ?_
                          refine own_icmp_ne X hx (hb hby d_rangeHi_112) (pc1 := 115) (pc2 := 118) rfl (by decide) (fun hc112 => ?_) (fun hc112 => ?_)
                          · refine own_iloadN X hx (hb hby d_rangeHi_118) rfl (pc' := 119) rfl ?_
                            refine own_bipush X hx (hb hby d_rangeHi_119) (z := (13 : Int32)) rfl (pc' := 121) rfl ?_
                            refine own_icmp_ne X hx (hb hby d_rangeHi_121) (pc1 := 124) (pc2 := 127) rfl (by decide) (fun hc121 => ?_) (fun hc121 => ?_)
                            · refine own_ldcI X hx hZ hown (v := (983039 : Int32)) (hw _ (List.mem_of_getElem? (i := 15) rfl)) (hb hby d_rangeHi_127) (pc' := 129) rfl ?_
                              exact own_retI X hx eT hret hlk (Nat.le_refl _) (Nat.le_refl _) (hb hby d_rangeHi_129) ⟨by simp [own_hi, hc1, hc9, hc17, hc25, hc34, hc43, hc53, hc63, hc73, hc83, hc93, hc103, hc112, hc121], rfl, rfl⟩
                            · refine own_ldcI X hx hZ hown (v := (65533 : Int32)) (hw _ (List.mem_of_getElem? (i := 22) rfl)) (hb hby d_rangeHi_124) (pc' := 126) rfl ?_
                              exact own_retI X hx eT hret hlk (Nat.le_refl _) (Nat.le_refl _) (hb hby d_rangeHi_126) ⟨by simp [own_hi, hc1, hc9, hc17, hc25, hc34, hc43, hc53, hc63, hc73, hc83, hc93, hc103, hc112, hc121], rfl, rfl⟩
                          · refine own_ldcI X hx hZ hown (v := (64975 : Int32)) (hw _ (List.mem_of_getElem? (i := 26) rfl)) (hb hby d_rangeHi_115) (pc' := 117) rfl ?_
                            exact own_retI X hx eT hret hlk (Nat.le_refl _) (Nat.le_refl _) (hb hby d_rangeHi_117) ⟨by simp [own_hi, hc1, hc9, hc17, hc25, hc34, hc43, hc53, hc63, hc73, hc83, hc93, hc103, hc112], rfl, rfl⟩
                        · refine own_ldcI X hx hZ hown (v := (55295 : Int32)) (hw _ (List.mem_of_getElem? (i := 24) rfl)) (hb hby d_rangeHi_106) (pc' := 108) rfl ?_
                          exact own_retI X hx eT hret hlk (Nat.le_refl _) (Nat.le_refl _) (hb hby d_rangeHi_108) ⟨by simp [own_hi, hc1, hc9, hc17, hc25, hc34, hc43, hc53, hc63, hc73, hc83, hc93, hc103], rfl, rfl⟩
                      · refine own_sipush X hx (hb hby d_rangeHi_96) (z := (12271 : Int32)) rfl (pc' := 99) rfl ?_
                        exact own_retI X hx eT hret hlk (Nat.le_refl _) (Nat.le_refl _) (hb hby d_rangeHi_99) ⟨by simp [own_hi, hc1, hc9, hc17, hc25, hc34, hc43, hc53, hc63, hc73, hc83, hc93], rfl, rfl⟩
                    · refine own_sipush X hx (hb hby d_rangeHi_86) (z := (8591 : Int32)) rfl (pc' := 89) rfl ?_
                      exact own_retI X hx eT hret hlk (Nat.le_refl _) (Nat.le_refl _) (hb hby d_rangeHi_89) ⟨by simp [own_hi, hc1, hc9, hc17, hc25, hc34, hc43, hc53, hc63, hc73, hc83], rfl, rfl⟩
                  · refine own_sipush X hx (hb hby d_rangeHi_76) (z := (8205 : Int32)) rfl (pc' := 79) rfl ?_
                    exact own_retI X hx eT hret hlk (Nat.le_refl _) (Nat.le_refl _) (hb hby d_rangeHi_79) ⟨by simp [own_hi, hc1, hc9, hc17, hc25, hc34, hc43, hc53, hc63, hc73], rfl, rfl⟩
                · refine own_sipush X hx (hb hby d_rangeHi_66) (z := (8191 : Int32)) rfl (pc' := 69) rfl ?_
                  exact own_retI X hx eT hret hlk (Nat.le_refl _) (Nat.le_refl _) (hb hby d_rangeHi_69) ⟨by simp [own_hi, hc1, hc9, hc17, hc25, hc34, hc43, hc53, hc63], rfl, rfl⟩
              · refine own_sipush X hx (hb hby d_rangeHi_56) (z := (893 : Int32)) rfl (pc' := 59) rfl ?_
                exact own_retI X hx eT hret hlk (Nat.le_refl _) (Nat.le_refl _) (hb hby d_rangeHi_59) ⟨by simp [own_hi, hc1, hc9, hc17, hc25, hc34, hc43, hc53], rfl, rfl⟩
            · refine own_sipush X hx (hb hby d_rangeHi_46) (z := (767 : Int32)) rfl (pc' := 49) rfl ?_
              exact own_retI X hx eT hret hlk (Nat.le_refl _) (Nat.le_refl _) (hb hby d_rangeHi_49) ⟨by simp [own_hi, hc1, hc9, hc17, hc25, hc34, hc43], rfl, rfl⟩
          · refine own_sipush X hx (hb hby d_rangeHi_37) (z := (246 : Int32)) rfl (pc' := 40) rfl ?_
            exact own_retI X hx eT hret hlk (Nat.le_refl _) (Nat.le_refl _) (hb hby d_rangeHi_40) ⟨by simp [own_hi, hc1, hc9, hc17, hc25, hc34], rfl, rfl⟩
        · refine own_sipush X hx (hb hby d_rangeHi_28) (z := (214 : Int32)) rfl (pc' := 31) rfl ?_
          exact own_retI X hx eT hret hlk (Nat.le_refl _) (Nat.le_refl _) (hb hby d_rangeHi_31) ⟨by simp [own_hi, hc1, hc9, hc17, hc25], rfl, rfl⟩
      · refine own_bipush X hx (hb hby d_rangeHi_20) (z := (122 : Int32)) rfl (pc' := 22) rfl ?_
        exact own_retI X hx eT hret hlk (Nat.le_refl _) (Nat.le_refl _) (hb hby d_rangeHi_22) ⟨by simp [own_hi, hc1, hc9, hc17], rfl, rfl⟩
    · refine own_bipush X hx (hb hby d_rangeHi_12) (z := (95 : Int32)) rfl (pc' := 14) rfl ?_
      exact own_retI X hx eT hret hlk (Nat.le_refl _) (Nat.le_refl _) (hb hby d_rangeHi_14) ⟨by simp [own_hi, hc1, hc9], rfl, rfl⟩
  · refine own_bipush X hx (hb hby d_rangeHi_4) (z := (90 : Int32)) rfl (pc' := 6) rfl ?_
    exact own_retI X hx eT hret hlk (Nat.le_refl _) (Nat.le_refl _) (hb hby d_rangeHi_6) ⟨by simp [own_hi, hc1], rfl, rfl⟩
set_option maxRecDepth 65536 in
set_option maxHeartbeats 40000000 in
theorem rm_isNcNameStartChar {l : Launch} {Z : State} {a0 : Array Value} {h : Heap} (hw : ∀ d ∈ tables_1, d.before a0 Z = true) (cq : Int32) : OwnPure l Z (⟨"com/example/lehti/lehti/xdm/XmlCharacters", "isNcNameStartChar", "(I)Z"⟩ : MethodName) prog_168_method_5_code 1 (some .boolean) #[(.int cq)] (.int (own_nc cq)) h :=
 own_met (Q := fun ov oh oL => ov = some (.int (own_nc cq)) ∧ oh = h ∧ oL = []) (rm := ownR0) (plainFor_of_name pn_com_example_lehti_lehti_xdm_XmlCharacters) (fun m => ef_isNcNameStartChar m cq) fun p e s m below meth c T hx hZ hby hml hown hnm hret hlk X eT => by
  have j179 (hj : own_nc cq = own_nc179 cq) : OwnGo p e below s (fun ov oh oL => ov = some (.int (own_nc cq)) ∧ oh = h ∧ oL = []) ownR0.cells ownR0.slots (T.setTop (mkF m 179 #[.val (.int cq)] [])) := by
    refine own_iloadN X hx (hb hby d_isNcNameStartChar_179) rfl (pc' := 180) rfl ?_
    refine own_ldcI X hx hZ hown (v := (65536 : Int32)) (hw _ (List.mem_of_getElem? (i := 14) rfl)) (hb hby d_isNcNameStartChar_180) (pc' := 182) rfl ?_
    refine own_icmp_lt X hx (hb hby d_isNcNameStartChar_182) (pc1 := 185) (pc2 := 195) rfl (by decide) (fun hc182 => ?_) (fun hc182 => ?_)
    · refine own_iconst X hx (hb hby d_isNcNameStartChar_195) (z := (0 : Int32)) rfl (pc' := 196) rfl ?_
      exact own_retZ X hx eT hret hlk (Nat.le_refl _) (Nat.le_refl _) (hb hby d_isNcNameStartChar_196) ⟨by rw [hj, show own_nc179 cq = (0 : Int32) from by simp [own_nc179, hc182]]; rfl, rfl, rfl⟩
    · refine own_iloadN X hx (hb hby d_isNcNameStartChar_185) rfl (pc' := 186) rfl ?_
      refine own_ldcI X hx hZ hown (v := (983039 : Int32)) (hw _ (List.mem_of_getElem? (i := 20) rfl)) (hb hby d_isNcNameStartChar_186) (pc' := 188) rfl ?_
      refine own_icmp_gt X hx (hb hby d_isNcNameStartChar_188) (pc1 := 191) (pc2 := 195) rfl (by decide) (fun hc188 => ?_) (fun hc188 => ?_)
      · refine own_iconst X hx (hb hby d_isNcNameStartChar_195) (z := (0 : Int32)) rfl (pc' := 196) rfl ?_
        exact own_retZ X hx eT hret hlk (Nat.le_refl _) (Nat.le_refl _) (hb hby d_isNcNameStartChar_196) ⟨by rw [hj, show own_nc179 cq = (0 : Int32) from by simp [own_nc179, hc182, hc188]]; rfl, rfl, rfl⟩
      · refine own_iconst X hx (hb hby d_isNcNameStartChar_191) (z := (1 : Int32)) rfl (pc' := 192) rfl ?_
        refine own_goto X hx (hb hby d_isNcNameStartChar_192) (pc' := 196) (by decide) ?_
        exact own_retZ X hx eT hret hlk (Nat.le_refl _) (Nat.le_refl _) (hb hby d_isNcNameStartChar_196) ⟨by rw [hj, show own_nc179 cq = (1 : Int32) from by simp [own_nc179, hc182, hc188]]; rfl, rfl, rfl⟩
  have j167 (hj : own_nc cq = own_nc167 cq) : OwnGo p e below s (fun ov oh oL => ov = some (.int (own_nc cq)) ∧ oh = h ∧ oL = []) ownR0.cells ownR0.slots (T.setTop (mkF m 167 #[.val (.int cq)] [])) := by
    refine own_iloadN X hx (hb hby d_isNcNameStartChar_167) rfl (pc' := 168) rfl ?_
    refine own_ldcI X hx hZ hown (v := (65008 : Int32)) (hw _ (List.mem_of_getElem? (i := 13) rfl)) (hb hby d_isNcNameStartChar_168) (pc' := 170) rfl ?_
    refine own_icmp_lt X hx (hb hby d_isNcNameStartChar_170) (pc1 := 173) (pc2 := 179) rfl (by decide) (fun hc170 => ?_) (fun hc170 => ?_)
    · exact j179 (hj.trans (by simp [own_nc167, hc170]))
    · refine own_iloadN X hx (hb hby d_isNcNameStartChar_173) rfl (pc' := 174) rfl ?_
      refine own_ldcI X hx hZ hown (v := (65533 : Int32)) (hw _ (List.mem_of_getElem? (i := 19) rfl)) (hb hby d_isNcNameStartChar_174) (pc' := 176) rfl ?_
      refine own_icmp_le X hx (hb hby d_isNcNameStartChar_176) (pc1 := 179) (pc2 := 191) rfl (by decide) (fun hc176 => ?_) (fun hc176 => ?_)
      · refine own_iconst X hx (hb hby d_isNcNameStartChar_191) (z := (1 : Int32)) rfl (pc' := 192) rfl ?_
        refine own_goto X hx (hb hby d_isNcNameStartChar_192) (pc' := 196) (by decide) ?_
        exact own_retZ X hx eT hret hlk (Nat.le_refl _) (Nat.le_refl _) (hb hby d_isNcNameStartChar_196) ⟨by rw [hj, show own_nc167 cq = (1 : Int32) from by simp [own_nc167, hc170, hc176]]; rfl, rfl, rfl⟩
      · exact j179 (hj.trans (by simp [own_nc167, hc170, hc176]))
  have j155 (hj : own_nc cq = own_nc155 cq) : OwnGo p e below s (fun ov oh oL => ov = some (.int (own_nc cq)) ∧ oh = h ∧ oL = []) ownR0.cells ownR0.slots (T.setTop (mkF m 155 #[.val (.int cq)] [])) := by
    refine own_iloadN X hx (hb hby d_isNcNameStartChar_155) rfl (pc' := 156) rfl ?_
    refine own_ldcI X hx hZ hown (v := (63744 : Int32)) (hw _ (List.mem_of_getElem? (i := 12) rfl)) (hb hby d_isNcNameStartChar_156) (pc' := 158) rfl ?_
    refine own_icmp_lt X hx (hb hby d_isNcNameStartChar_158) (pc1 := 161) (pc2 := 167) rfl (by decide) (fun hc158 => ?_) (fun hc158 => ?_)
    · exact j167 (hj.trans (by simp [own_nc155, hc158]))
    · refine own_iloadN X hx (hb hby d_isNcNameStartChar_161) rfl (pc' := 162) rfl ?_
      refine own_ldcI X hx hZ hown (v := (64975 : Int32)) (hw _ (List.mem_of_getElem? (i := 18) rfl)) (hb hby d_isNcNameStartChar_162) (pc' := 164) rfl ?_
      refine own_icmp_le X hx (hb hby d_isNcNameStartChar_164) (pc1 := 167) (pc2 := 191) rfl (by decide) (fun hc164 => ?_) (fun hc164 => ?_)
      · refine own_iconst X hx (hb hby d_isNcNameStartChar_191) (z := (1 : Int32)) rfl (pc' := 192) rfl ?_
        refine own_goto X hx (hb hby d_isNcNameStartChar_192) (pc' := 196) (by decide) ?_
        exact own_retZ X hx eT hret hlk (Nat.le_refl _) (Nat.le_refl _) (hb hby d_isNcNameStartChar_196) ⟨by rw [hj, show own_nc155 cq = (1 : Int32) from by simp [own_nc155, hc158, hc164]]; rfl, rfl, rfl⟩
      · exact j167 (hj.trans (by simp [own_nc155, hc158, hc164]))
  have j142 (hj : own_nc cq = own_nc142 cq) : OwnGo p e below s (fun ov oh oL => ov = some (.int (own_nc cq)) ∧ oh = h ∧ oL = []) ownR0.cells ownR0.slots (T.setTop (mkF m 142 #[.val (.int cq)] [])) := by
    refine own_iloadN X hx (hb hby d_isNcNameStartChar_142) rfl (pc' := 143) rfl ?_
    refine own_sipush X hx (hb hby d_isNcNameStartChar_143) (z := (12289 : Int32)) rfl (pc' := 146) rfl ?_
    refine own_icmp_lt X hx (hb hby d_isNcNameStartChar_146) (pc1 := 149) (pc2 := 155) rfl (by decide) (fun hc146 => ?_) (fun hc146 => ?_)
    · exact j155 (hj.trans (by simp [own_nc142, hc146]))
    · refine own_iloadN X hx (hb hby d_isNcNameStartChar_149) rfl (pc' := 150) rfl ?_
      refine own_ldcI X hx hZ hown (v := (55295 : Int32)) (hw _ (List.mem_of_getElem? (i := 17) rfl)) (hb hby d_isNcNameStartChar_150) (pc' := 152) rfl ?_
      refine own_icmp_le X hx (hb hby d_isNcNameStartChar_152) (pc1 := 155) (pc2 := 191) rfl (by decide) (fun hc152 => ?_) (fun hc152 => ?_)
      · refine own_iconst X hx (hb hby d_isNcNameStartChar_191) (z := (1 : Int32)) rfl (pc' := 192) rfl ?_
        refine own_goto X hx (hb hby d_isNcNameStartChar_192) (pc' := 196) (by decide) ?_
        exact own_retZ X hx eT hret hlk (Nat.le_refl _) (Nat.le_refl _) (hb hby d_isNcNameStartChar_196) ⟨by rw [hj, show own_nc142 cq = (1 : Int32) from by simp [own_nc142, hc146, hc152]]; rfl, rfl, rfl⟩
      · exact j155 (hj.trans (by simp [own_nc142, hc146, hc152]))
  have j128 (hj : own_nc cq = own_nc128 cq) : OwnGo p e below s (fun ov oh oL => ov = some (.int (own_nc cq)) ∧ oh = h ∧ oL = []) ownR0.cells ownR0.slots (T.setTop (mkF m 128 #[.val (.int cq)] [])) := by
    refine own_iloadN X hx (hb hby d_isNcNameStartChar_128) rfl (pc' := 129) rfl ?_
    refine own_sipush X hx (hb hby d_isNcNameStartChar_129) (z := (11264 : Int32)) rfl (pc' := 132) rfl ?_
    refine own_icmp_lt X hx (hb hby d_isNcNameStartChar_132) (pc1 := 135) (pc2 := 142) rfl (by decide) (fun hc132 => ?_) (fun hc132 => ?_)
    · exact j142 (hj.trans (by simp [own_nc128, hc132]))
    · refine own_iloadN X hx (hb hby d_isNcNameStartChar_135) rfl (pc' := 136) rfl ?_
      refine own_sipush X hx (hb hby d_isNcNameStartChar_136) (z := (12271 : Int32)) rfl (pc' := 139) rfl ?_
      refine own_icmp_le X hx (hb hby d_isNcNameStartChar_139) (pc1 := 142) (pc2 := 191) rfl (by decide) (fun hc139 => ?_) (fun hc139 => ?_)
      · refine own_iconst X hx (hb hby d_isNcNameStartChar_191) (z := (1 : Int32)) rfl (pc' := 192) rfl ?_
        refine own_goto X hx (hb hby d_isNcNameStartChar_192) (pc' := 196) (by decide) ?_
        exact own_retZ X hx eT hret hlk (Nat.le_refl _) (Nat.le_refl _) (hb hby d_isNcNameStartChar_196) ⟨by rw [hj, show own_nc128 cq = (1 : Int32) from by simp [own_nc128, hc132, hc139]]; rfl, rfl, rfl⟩
      · exact j142 (hj.trans (by simp [own_nc128, hc132, hc139]))
  have j114 (hj : own_nc cq = own_nc114 cq) : OwnGo p e below s (fun ov oh oL => ov = some (.int (own_nc cq)) ∧ oh = h ∧ oL = []) ownR0.cells ownR0.slots (T.setTop (mkF m 114 #[.val (.int cq)] [])) := by
    refine own_iloadN X hx (hb hby d_isNcNameStartChar_114) rfl (pc' := 115) rfl ?_
    refine own_sipush X hx (hb hby d_isNcNameStartChar_115) (z := (8304 : Int32)) rfl (pc' := 118) rfl ?_
    refine own_icmp_lt X hx (hb hby d_isNcNameStartChar_118) (pc1 := 121) (pc2 := 128) rfl (by decide) (fun hc118 => ?_) (fun hc118 => ?_)
    · exact j128 (hj.trans (by simp [own_nc114, hc118]))
    · refine own_iloadN X hx (hb hby d_isNcNameStartChar_121) rfl (pc' := 122) rfl ?_
      refine own_sipush X hx (hb hby d_isNcNameStartChar_122) (z := (8591 : Int32)) rfl (pc' := 125) rfl ?_
      refine own_icmp_le X hx (hb hby d_isNcNameStartChar_125) (pc1 := 128) (pc2 := 191) rfl (by decide) (fun hc125 => ?_) (fun hc125 => ?_)
      · refine own_iconst X hx (hb hby d_isNcNameStartChar_191) (z := (1 : Int32)) rfl (pc' := 192) rfl ?_
        refine own_goto X hx (hb hby d_isNcNameStartChar_192) (pc' := 196) (by decide) ?_
        exact own_retZ X hx eT hret hlk (Nat.le_refl _) (Nat.le_refl _) (hb hby d_isNcNameStartChar_196) ⟨by rw [hj, show own_nc114 cq = (1 : Int32) from by simp [own_nc114, hc118, hc125]]; rfl, rfl, rfl⟩
      · exact j128 (hj.trans (by simp [own_nc114, hc118, hc125]))
  have j100 (hj : own_nc cq = own_nc100 cq) : OwnGo p e below s (fun ov oh oL => ov = some (.int (own_nc cq)) ∧ oh = h ∧ oL = []) ownR0.cells ownR0.slots (T.setTop (mkF m 100 #[.val (.int cq)] [])) := by
    refine own_iloadN X hx (hb hby d_isNcNameStartChar_100) rfl (pc' := 101) rfl ?_
    refine own_sipush X hx (hb hby d_isNcNameStartChar_101) (z := (8204 : Int32)) rfl (pc' := 104) rfl ?_
    refine own_icmp_lt X hx (hb hby d_isNcNameStartChar_104) (pc1 := 107) (pc2 := 114) rfl (by decide) (fun hc104 => ?_) (fun hc104 => ?_)
    · exact j114 (hj.trans (by simp [own_nc100, hc104]))
    · refine own_iloadN X hx (hb hby d_isNcNameStartChar_107) rfl (pc' := 108) rfl ?_
      refine own_sipush X hx (hb hby d_isNcNameStartChar_108) (z := (8205 : Int32)) rfl (pc' := 111) rfl ?_
      refine own_icmp_le X hx (hb hby d_isNcNameStartChar_111) (pc1 := 114) (pc2 := 191) rfl (by decide) (fun hc111 => ?_) (fun hc111 => ?_)
      · refine own_iconst X hx (hb hby d_isNcNameStartChar_191) (z := (1 : Int32)) rfl (pc' := 192) rfl ?_
        refine own_goto X hx (hb hby d_isNcNameStartChar_192) (pc' := 196) (by decide) ?_
        exact own_retZ X hx eT hret hlk (Nat.le_refl _) (Nat.le_refl _) (hb hby d_isNcNameStartChar_196) ⟨by rw [hj, show own_nc100 cq = (1 : Int32) from by simp [own_nc100, hc104, hc111]]; rfl, rfl, rfl⟩
      · exact j114 (hj.trans (by simp [own_nc100, hc104, hc111]))
  have j86 (hj : own_nc cq = own_nc86 cq) : OwnGo p e below s (fun ov oh oL => ov = some (.int (own_nc cq)) ∧ oh = h ∧ oL = []) ownR0.cells ownR0.slots (T.setTop (mkF m 86 #[.val (.int cq)] [])) := by
    refine own_iloadN X hx (hb hby d_isNcNameStartChar_86) rfl (pc' := 87) rfl ?_
    refine own_sipush X hx (hb hby d_isNcNameStartChar_87) (z := (895 : Int32)) rfl (pc' := 90) rfl ?_
    refine own_icmp_lt X hx (hb hby d_isNcNameStartChar_90) (pc1 := 93) (pc2 := 100) rfl (by decide) (fun hc90 => ?_) (fun hc90 => ?_)
    · exact j100 (hj.trans (by simp [own_nc86, hc90]))
    · refine own_iloadN X hx (hb hby d_isNcNameStartChar_93) rfl (pc' := 94) rfl ?_
      refine own_sipush X hx (hb hby d_isNcNameStartChar_94) (z := (8191 : Int32)) rfl (pc' := 97) rfl ?_
      refine own_icmp_le X hx (hb hby d_isNcNameStartChar_97) (pc1 := 100) (pc2 := 191) rfl (by decide) (fun hc97 => ?_) (fun hc97 => ?_)
      · refine own_iconst X hx (hb hby d_isNcNameStartChar_191) (z := (1 : Int32)) rfl (pc' := 192) rfl ?_
        refine own_goto X hx (hb hby d_isNcNameStartChar_192) (pc' := 196) (by decide) ?_
        exact own_retZ X hx eT hret hlk (Nat.le_refl _) (Nat.le_refl _) (hb hby d_isNcNameStartChar_196) ⟨by rw [hj, show own_nc86 cq = (1 : Int32) from by simp [own_nc86, hc90, hc97]]; rfl, rfl, rfl⟩
      · exact j100 (hj.trans (by simp [own_nc86, hc90, hc97]))
  have j72 (hj : own_nc cq = own_nc72 cq) : OwnGo p e below s (fun ov oh oL => ov = some (.int (own_nc cq)) ∧ oh = h ∧ oL = []) ownR0.cells ownR0.slots (T.setTop (mkF m 72 #[.val (.int cq)] [])) := by
    refine own_iloadN X hx (hb hby d_isNcNameStartChar_72) rfl (pc' := 73) rfl ?_
    refine own_sipush X hx (hb hby d_isNcNameStartChar_73) (z := (880 : Int32)) rfl (pc' := 76) rfl ?_
    refine own_icmp_lt X hx (hb hby d_isNcNameStartChar_76) (pc1 := 79) (pc2 := 86) rfl (by decide) (fun hc76 => ?_) (fun hc76 => ?_)
    · exact j86 (hj.trans (by simp [own_nc72, hc76]))
    · refine own_iloadN X hx (hb hby d_isNcNameStartChar_79) rfl (pc' := 80) rfl ?_
      refine own_sipush X hx (hb hby d_isNcNameStartChar_80) (z := (893 : Int32)) rfl (pc' := 83) rfl ?_
      refine own_icmp_le X hx (hb hby d_isNcNameStartChar_83) (pc1 := 86) (pc2 := 191) rfl (by decide) (fun hc83 => ?_) (fun hc83 => ?_)
      · refine own_iconst X hx (hb hby d_isNcNameStartChar_191) (z := (1 : Int32)) rfl (pc' := 192) rfl ?_
        refine own_goto X hx (hb hby d_isNcNameStartChar_192) (pc' := 196) (by decide) ?_
        exact own_retZ X hx eT hret hlk (Nat.le_refl _) (Nat.le_refl _) (hb hby d_isNcNameStartChar_196) ⟨by rw [hj, show own_nc72 cq = (1 : Int32) from by simp [own_nc72, hc76, hc83]]; rfl, rfl, rfl⟩
      · exact j86 (hj.trans (by simp [own_nc72, hc76, hc83]))
  have j58 (hj : own_nc cq = own_nc58 cq) : OwnGo p e below s (fun ov oh oL => ov = some (.int (own_nc cq)) ∧ oh = h ∧ oL = []) ownR0.cells ownR0.slots (T.setTop (mkF m 58 #[.val (.int cq)] [])) := by
    refine own_iloadN X hx (hb hby d_isNcNameStartChar_58) rfl (pc' := 59) rfl ?_
    refine own_sipush X hx (hb hby d_isNcNameStartChar_59) (z := (248 : Int32)) rfl (pc' := 62) rfl ?_
    refine own_icmp_lt X hx (hb hby d_isNcNameStartChar_62) (pc1 := 65) (pc2 := 72) rfl (by decide) (fun hc62 => ?_) (fun hc62 => ?_)
    · exact j72 (hj.trans (by simp [own_nc58, hc62]))
    · refine own_iloadN X hx (hb hby d_isNcNameStartChar_65) rfl (pc' := 66) rfl ?_
      refine own_sipush X hx (hb hby d_isNcNameStartChar_66) (z := (767 : Int32)) rfl (pc' := 69) rfl ?_
      refine own_icmp_le X hx (hb hby d_isNcNameStartChar_69) (pc1 := 72) (pc2 := 191) rfl (by decide) (fun hc69 => ?_) (fun hc69 => ?_)
      · refine own_iconst X hx (hb hby d_isNcNameStartChar_191) (z := (1 : Int32)) rfl (pc' := 192) rfl ?_
        refine own_goto X hx (hb hby d_isNcNameStartChar_192) (pc' := 196) (by decide) ?_
        exact own_retZ X hx eT hret hlk (Nat.le_refl _) (Nat.le_refl _) (hb hby d_isNcNameStartChar_196) ⟨by rw [hj, show own_nc58 cq = (1 : Int32) from by simp [own_nc58, hc62, hc69]]; rfl, rfl, rfl⟩
      · exact j72 (hj.trans (by simp [own_nc58, hc62, hc69]))
  have j44 (hj : own_nc cq = own_nc44 cq) : OwnGo p e below s (fun ov oh oL => ov = some (.int (own_nc cq)) ∧ oh = h ∧ oL = []) ownR0.cells ownR0.slots (T.setTop (mkF m 44 #[.val (.int cq)] [])) := by
    refine own_iloadN X hx (hb hby d_isNcNameStartChar_44) rfl (pc' := 45) rfl ?_
    refine own_sipush X hx (hb hby d_isNcNameStartChar_45) (z := (216 : Int32)) rfl (pc' := 48) rfl ?_
    refine own_icmp_lt X hx (hb hby d_isNcNameStartChar_48) (pc1 := 51) (pc2 := 58) rfl (by decide) (fun hc48 => ?_) (fun hc48 => ?_)
    · exact j58 (hj.trans (by simp [own_nc44, hc48]))
    · refine own_iloadN X hx (hb hby d_isNcNameStartChar_51) rfl (pc' := 52) rfl ?_
      refine own_sipush X hx (hb hby d_isNcNameStartChar_52) (z := (246 : Int32)) rfl (pc' := 55) rfl ?_
      refine own_icmp_le X hx (hb hby d_isNcNameStartChar_55) (pc1 := 58) (pc2 := 191) rfl (by decide) (fun hc55 => ?_) (fun hc55 => ?_)
      · refine own_iconst X hx (hb hby d_isNcNameStartChar_191) (z := (1 : Int32)) rfl (pc' := 192) rfl ?_
        refine own_goto X hx (hb hby d_isNcNameStartChar_192) (pc' := 196) (by decide) ?_
        exact own_retZ X hx eT hret hlk (Nat.le_refl _) (Nat.le_refl _) (hb hby d_isNcNameStartChar_196) ⟨by rw [hj, show own_nc44 cq = (1 : Int32) from by simp [own_nc44, hc48, hc55]]; rfl, rfl, rfl⟩
      · exact j58 (hj.trans (by simp [own_nc44, hc48, hc55]))
  have j30 (hj : own_nc cq = own_nc30 cq) : OwnGo p e below s (fun ov oh oL => ov = some (.int (own_nc cq)) ∧ oh = h ∧ oL = []) ownR0.cells ownR0.slots (T.setTop (mkF m 30 #[.val (.int cq)] [])) := by
    refine own_iloadN X hx (hb hby d_isNcNameStartChar_30) rfl (pc' := 31) rfl ?_
    refine own_sipush X hx (hb hby d_isNcNameStartChar_31) (z := (192 : Int32)) rfl (pc' := 34) rfl ?_
    refine own_icmp_lt X hx (hb hby d_isNcNameStartChar_34) (pc1 := 37) (pc2 := 44) rfl (by decide) (fun hc34 => ?_) (fun hc34 => ?_)
    · exact j44 (hj.trans (by simp [own_nc30, hc34]))
    · refine own_iloadN X hx (hb hby d_isNcNameStartChar_37) rfl (pc' := 38) rfl ?_
      refine own_sipush X hx (hb hby d_isNcNameStartChar_38) (z := (214 : Int32)) rfl (pc' := 41) rfl ?_
      refine own_icmp_le X hx (hb hby d_isNcNameStartChar_41) (pc1 := 44) (pc2 := 191) rfl (by decide) (fun hc41 => ?_) (fun hc41 => ?_)
      · refine own_iconst X hx (hb hby d_isNcNameStartChar_191) (z := (1 : Int32)) rfl (pc' := 192) rfl ?_
        refine own_goto X hx (hb hby d_isNcNameStartChar_192) (pc' := 196) (by decide) ?_
        exact own_retZ X hx eT hret hlk (Nat.le_refl _) (Nat.le_refl _) (hb hby d_isNcNameStartChar_196) ⟨by rw [hj, show own_nc30 cq = (1 : Int32) from by simp [own_nc30, hc34, hc41]]; rfl, rfl, rfl⟩
      · exact j44 (hj.trans (by simp [own_nc30, hc34, hc41]))
  have j24 (hj : own_nc cq = own_nc24 cq) : OwnGo p e below s (fun ov oh oL => ov = some (.int (own_nc cq)) ∧ oh = h ∧ oL = []) ownR0.cells ownR0.slots (T.setTop (mkF m 24 #[.val (.int cq)] [])) := by
    refine own_iloadN X hx (hb hby d_isNcNameStartChar_24) rfl (pc' := 25) rfl ?_
    refine own_bipush X hx (hb hby d_isNcNameStartChar_25) (z := (95 : Int32)) rfl (pc' := 27) rfl ?_
    refine own_icmp_eq X hx (hb hby d_isNcNameStartChar_27) (pc1 := 30) (pc2 := 191) rfl (by decide) (fun hc27 => ?_) (fun hc27 => ?_)
    · refine own_iconst X hx (hb hby d_isNcNameStartChar_191) (z := (1 : Int32)) rfl (pc' := 192) rfl ?_
      refine own_goto X hx (hb hby d_isNcNameStartChar_192) (pc' := 196) (by decide) ?_
      exact own_retZ X hx eT hret hlk (Nat.le_refl _) (Nat.le_refl _) (hb hby d_isNcNameStartChar_196) ⟨by rw [hj, show own_nc24 cq = (1 : Int32) from by simp [own_nc24, hc27]]; rfl, rfl, rfl⟩
    · exact j30 (hj.trans (by simp [own_nc24, hc27]))
  have j12 (hj : own_nc cq = own_nc12 cq) : OwnGo p e below s (fun ov oh oL => ov = some (.int (own_nc cq)) ∧ oh = h ∧ oL = []) ownR0.cells ownR0.slots (T.setTop (mkF m 12 #[.val (.int cq)] [])) := by
    refine own_iloadN X hx (hb hby d_isNcNameStartChar_12) rfl (pc' := 13) rfl ?_
    refine own_bipush X hx (hb hby d_isNcNameStartChar_13) (z := (65 : Int32)) rfl (pc' := 15) rfl ?_
    refine own_icmp_lt X hx (hb hby d_isNcNameStartChar_15) (pc1 := 18) (pc2 := 24) rfl (by decide) (fun hc15 => ?_) (fun hc15 => ?_)
    · exact j24 (hj.trans (by simp [own_nc12, hc15]))
    · refine own_iloadN X hx (hb hby d_isNcNameStartChar_18) rfl (pc' := 19) rfl ?_
      refine own_bipush X hx (hb hby d_isNcNameStartChar_19) (z := (90 : Int32)) rfl (pc' := 21) rfl ?_
      refine own_icmp_le X hx (hb hby d_isNcNameStartChar_21) (pc1 := 24) (pc2 := 191) rfl (by decide) (fun hc21 => ?_) (fun hc21 => ?_)
      · refine own_iconst X hx (hb hby d_isNcNameStartChar_191) (z := (1 : Int32)) rfl (pc' := 192) rfl ?_
        refine own_goto X hx (hb hby d_isNcNameStartChar_192) (pc' := 196) (by decide) ?_
        exact own_retZ X hx eT hret hlk (Nat.le_refl _) (Nat.le_refl _) (hb hby d_isNcNameStartChar_196) ⟨by rw [hj, show own_nc12 cq = (1 : Int32) from by simp [own_nc12, hc15, hc21]]; rfl, rfl, rfl⟩
      · exact j24 (hj.trans (by simp [own_nc12, hc15, hc21]))
  have hj : own_nc cq = own_nc cq := rfl
  refine own_iloadN X hx (hb hby d_isNcNameStartChar_0) rfl (pc' := 1) rfl ?_
  refine own_bipush X hx (hb hby d_isNcNameStartChar_1) (z := (97 : Int32)) rfl (pc' := 3) rfl ?_
  refine own_icmp_lt X hx (hb hby d_isNcNameStartChar_3) (pc1 := 6) (pc2 := 12) rfl (by decide) (fun hc3 => ?_) (fun hc3 => ?_)
  · exact j12 (hj.trans (by simp [own_nc, hc3]))
  · refine own_iloadN X hx (hb hby d_isNcNameStartChar_6) rfl (pc' := 7) rfl ?_
    refine own_bipush X hx (hb hby d_isNcNameStartChar_7) (z := (122 : Int32)) rfl (pc' := 9) rfl ?_
    refine own_icmp_le X hx (hb hby d_isNcNameStartChar_9) (pc1 := 12) (pc2 := 191) rfl (by decide) (fun hc9 => ?_) (fun hc9 => ?_)
    · refine own_iconst X hx (hb hby d_isNcNameStartChar_191) (z := (1 : Int32)) rfl (pc' := 192) rfl ?_
      refine own_goto X hx (hb hby d_isNcNameStartChar_192) (pc' := 196) (by decide) ?_
      exact own_retZ X hx eT hret hlk (Nat.le_refl _) (Nat.le_refl _) (hb hby d_isNcNameStartChar_196) ⟨by rw [hj, show own_nc cq = (1 : Int32) from by simp [own_nc, hc3, hc9]]; rfl, rfl, rfl⟩
    · exact j12 (hj.trans (by simp [own_nc, hc3, hc9]))
set_option maxRecDepth 65536 in
set_option maxHeartbeats 40000000 in
theorem rm_law (l : Launch) (Z : State) (a0 : Array Value) (hw : ∀ d ∈ tables_1, d.before a0 Z = true) (ws : List Jvm.Cond) (k : Int32) (off : Int32) (h0 : Heap) (n0 : Nat) (hn0 : n0 ≤ h0.size) :
    MetFree l x (head1 (Jvm.Cond.code x code maxLocals ret :: ws) room_1) (fun a U => a = #[(.int k), (.int off)] ∧ Z.Warmed39 U.vm ∧ U.heap = h0) (fun _ _ _ _ _ => True) (fun _ U o U' => ∃ v L, o = .returned v ∧ (v = some (.int 1) ∧ Fr n0 L) ∧ FrameEnd U o U' L room_1.cells room_1.slots) :=
 own_met (Q := fun v _ L => v = some (.int 1) ∧ Fr n0 L) (plainFor_of_name pn_com_example_lehti_lehti_xdm_XmlCharactersIsNcNameStartCharPinLaw) (fun m => ef_law m k off) fun p e s m below meth c T hx hZ hby hml hown hnm hret hlk X eT => by
  have tail : ∀ (T : State), Stand p l e room_1 s m #[.int k, .int off] below meth c T [] 0 0 → T.heap = h0 → ∀ (lo hi : Int64) (inr sel ii : Int32), own_ok lo hi inr → OwnGo p e below s (fun v _ L => v = some (.int 1) ∧ Fr n0 L) room_1.cells room_1.slots (T.setTop (mkF m 97 #[.val (.int k), .val (.int off), .val (.int inr), .val (.int sel), .val (.long lo), .second, .val (.long hi), .second, .val (.int ii), .unset, .unset, .unset, .unset] [])) := by
    rintro T X eT lo hi inr sel ii ⟨o1, o2, o3, o4⟩
    refine own_lload X hx (hb hby at_97) rfl (pc' := 99) rfl ?_
    refine own_lload X hx (hb hby at_99) rfl (pc' := 101) rfl ?_
    refine own_lsub X hx (hb hby at_101) (pc' := 102) rfl ?_
    refine own_lconst X hx (hb hby at_102) (z := (1 : Int64)) rfl (pc' := 103) rfl ?_
    refine own_ladd X hx (hb hby at_103) (pc' := 104) rfl ?_
    generalize hwd : ((hi - lo) + (1 : Int64)) = wd
    refine own_lstore X hx (hb hby at_104) (Ls' := #[.val (.int k), .val (.int off), .val (.int inr), .val (.int sel), .val (.long lo), .second, .val (.long hi), .second, .val (.long wd), .second, .unset, .unset, .unset]) rfl (pc' := 106) rfl ?_
    have hw1 : wd.toInt = hi.toInt - lo.toInt + 1 := by rw [← hwd]; exact own_width o1 o2 o3
    refine own_iloadN X hx (hb hby at_106) rfl (pc' := 107) rfl ?_
    refine own_i2l X hx (hb hby at_107) (pc' := 108) rfl ?_
    refine own_ldcJ X hx hZ hown (v := (4294967295 : Int64)) (hw _ (List.mem_of_getElem? (i := 7) rfl)) (hb hby at_108) (pc' := 111) rfl ?_
    refine own_land X hx (hb hby at_111) (pc' := 112) rfl ?_
    refine own_lload X hx (hb hby at_112) rfl (pc' := 114) rfl ?_
    refine own_lrem X hx (hb hby at_114) (own_wd0 (by omega)) (pc' := 115) rfl ?_
    refine own_lstore X hx (hb hby at_115) (Ls' := #[.val (.int k), .val (.int off), .val (.int inr), .val (.int sel), .val (.long lo), .second, .val (.long hi), .second, .val (.long wd), .second, .val (.long (((off.toInt64) &&& (4294967295 : Int64)) % wd)), .second, .unset]) rfl (pc' := 117) rfl ?_
    refine own_lload X hx (hb hby at_117) rfl (pc' := 119) rfl ?_
    refine own_lload X hx (hb hby at_119) rfl (pc' := 121) rfl ?_
    refine own_ladd X hx (hb hby at_121) (pc' := 122) rfl ?_
    refine own_l2i X hx (hb hby at_122) (pc' := 123) rfl ?_
    generalize hcc : ((lo + (((off.toInt64) &&& (4294967295 : Int64)) % wd)).toInt32) = cc
    refine own_istore X hx (hb hby at_123) (Ls' := #[.val (.int k), .val (.int off), .val (.int inr), .val (.int sel), .val (.long lo), .second, .val (.long hi), .second, .val (.long wd), .second, .val (.long (((off.toInt64) &&& (4294967295 : Int64)) % wd)), .second, .val (.int cc)]) rfl (pc' := 125) rfl ?_
    have hp1 : lo.toInt ≤ cc.toInt ∧ cc.toInt ≤ hi.toInt := by rw [← hcc]; exact own_pick off o1 o2 o3 hw1
    refine own_iload X hx (hb hby at_125) rfl (pc' := 127) rfl ?_
    refine own_pureS X hx hZ hown (y := (⟨"com/example/lehti/lehti/xdm/XmlCharacters", "isNcNameStartChar", "(I)Z"⟩ : MethodName)) (argsL := [(.int cc)]) (st := []) (W := 0) (z := (.int (own_nc cc))) (hw _ (List.mem_of_getElem? (i := 8) rfl)) (hw _ (List.mem_of_getElem? (i := 9) rfl)) (hw _ (List.mem_of_getElem? (i := 10) rfl)) (hw _ (List.mem_of_getElem? (i := 11) rfl)) eT (rm_isNcNameStartChar hw cc) (hb hby at_127) rfl (lenOf pd__I_Z rfl) (by rw [hml]; rfl) (by decide) (by decide) (by decide) (by decide) (Nat.le_of_eq rfl) (by decide) (pc' := 130) rfl fun T X eT => ?_
    refine own_iloadN X hx (hb hby at_130) rfl (pc' := 131) rfl ?_
    refine own_icmp_ne X hx (hb hby at_131) (pc1 := 134) (pc2 := 138) rfl (by decide) (fun hc131 => absurd (o4 cc hp1.1 hp1.2) hc131) (fun hc131 => ?_)
    refine own_iconst X hx (hb hby at_134) (z := (1 : Int32)) rfl (pc' := 135) rfl ?_
    refine own_goto X hx (hb hby at_135) (pc' := 139) (by decide) ?_
    exact own_retZ X hx eT hret hlk (by decide) (by decide) (hb hby at_139) ⟨rfl, Fr.nil n0⟩
  refine own_iloadN X hx (hb hby at_0) rfl (pc' := 1) rfl ?_
  refine own_iconst X hx (hb hby at_1) (z := (1 : Int32)) rfl (pc' := 2) rfl ?_
  refine own_iand X hx (hb hby at_2) (pc' := 3) rfl ?_
  refine own_if_ne X hx (hb hby at_3) (pc1 := 6) (pc2 := 10) rfl (by decide) (fun hc3 => ?_) (fun hc3 => ?_)
  · refine own_iconst X hx (hb hby at_10) (z := (0 : Int32)) rfl (pc' := 11) rfl ?_
    refine own_istoreN X hx (hb hby at_11) (Ls' := #[.val (.int k), .val (.int off), .val (.int (0 : Int32)), .unset, .unset, .unset, .unset, .unset, .unset, .unset, .unset, .unset, .unset]) rfl (pc' := 12) rfl ?_
    refine own_iloadN X hx (hb hby at_12) rfl (pc' := 13) rfl ?_
    refine own_iconst X hx (hb hby at_13) (z := (1 : Int32)) rfl (pc' := 14) rfl ?_
    refine own_iushr X hx (hb hby at_14) (pc' := 15) rfl ?_
    generalize hsel : (XT.ushr k (1 : Int32)) = sel
    refine own_istoreN X hx (hb hby at_15) (Ls' := #[.val (.int k), .val (.int off), .val (.int (0 : Int32)), .val (.int sel), .unset, .unset, .unset, .unset, .unset, .unset, .unset, .unset, .unset]) rfl (pc' := 16) rfl ?_
    have hs0 : 0 ≤ sel.toInt := by rw [← hsel]; exact own_sel k
    refine own_iloadN X hx (hb hby at_16) rfl (pc' := 17) rfl ?_
    refine own_if_eq X hx (hb hby at_17) (pc1 := 20) (pc2 := 45) rfl (by decide) (fun hc17 => ?_) (fun hc17 => absurd hc17 (by decide))
    refine own_iloadN X hx (hb hby at_45) rfl (pc' := 46) rfl ?_
    refine own_bipush X hx (hb hby at_46) (z := (16 : Int32)) rfl (pc' := 48) rfl ?_
    refine own_irem X hx (hb hby at_48) (by decide) (pc' := 49) rfl ?_
    generalize hii : (sel % (16 : Int32)) = ii
    refine own_istore X hx (hb hby at_49) (Ls' := #[.val (.int k), .val (.int off), .val (.int (0 : Int32)), .val (.int sel), .unset, .unset, .unset, .unset, .val (.int ii), .unset, .unset, .unset, .unset]) rfl (pc' := 51) rfl ?_
    have hb0 : 0 ≤ ii.toInt ∧ ii.toInt < 16 := by rw [← hii]; exact own_r16 hs0
    refine own_iload X hx (hb hby at_51) rfl (pc' := 53) rfl ?_
    refine own_if_ne X hx (hb hby at_53) (pc1 := 56) (pc2 := 62) rfl (by decide) (fun hc53 => ?_) (fun hc53 => ?_)
    · refine own_iload X hx (hb hby at_62) rfl (pc' := 64) rfl ?_
      refine own_iconst X hx (hb hby at_64) (z := (1 : Int32)) rfl (pc' := 65) rfl ?_
      refine own_isub X hx (hb hby at_65) (pc' := 66) rfl ?_
      refine own_pureS X hx hZ hown (y := (⟨"com/example/lehti/lehti/xdm/XmlCharactersIsNcNameStartCharPinLaw", "rangeHi", "(I)I"⟩ : MethodName)) (argsL := [(.int (ii - (1 : Int32)))]) (st := []) (W := 0) (z := (.int (own_hi (ii - 1)))) (hw _ (List.mem_of_getElem? (i := 4) rfl)) (hw _ (List.mem_of_getElem? (i := 5) rfl)) (hw _ (List.mem_of_getElem? (i := 2) rfl)) (hw _ (List.mem_of_getElem? (i := 6) rfl)) eT (rm_rangeHi hw (ii - 1)) (hb hby at_66) rfl (lenOf pd__I_I rfl) (by rw [hml]; rfl) (by decide) (by decide) (by decide) (by decide) (Nat.le_of_eq rfl) (by decide) (pc' := 69) rfl fun T X eT => ?_
      refine own_i2l X hx (hb hby at_69) (pc' := 70) rfl ?_
      refine own_lconst X hx (hb hby at_70) (z := (1 : Int64)) rfl (pc' := 71) rfl ?_
      refine own_ladd X hx (hb hby at_71) (pc' := 72) rfl ?_
      refine own_lstore X hx (hb hby at_72) (Ls' := #[.val (.int k), .val (.int off), .val (.int (0 : Int32)), .val (.int sel), .val (.long (((own_hi (ii - 1)).toInt64) + (1 : Int64))), .second, .unset, .unset, .val (.int ii), .unset, .unset, .unset, .unset]) rfl (pc' := 74) rfl ?_
      refine own_iload X hx (hb hby at_74) rfl (pc' := 76) rfl ?_
      refine own_bipush X hx (hb hby at_76) (z := (15 : Int32)) rfl (pc' := 78) rfl ?_
      refine own_icmp_ne X hx (hb hby at_78) (pc1 := 81) (pc2 := 87) rfl (by decide) (fun hc78 => ?_) (fun hc78 => ?_)
      · refine own_iload X hx (hb hby at_87) rfl (pc' := 89) rfl ?_
        refine own_pureS X hx hZ hown (y := (⟨"com/example/lehti/lehti/xdm/XmlCharactersIsNcNameStartCharPinLaw", "rangeLo", "(I)I"⟩ : MethodName)) (argsL := [(.int ii)]) (st := []) (W := 0) (z := (.int (own_lo ii))) (hw _ (List.mem_of_getElem? (i := 0) rfl)) (hw _ (List.mem_of_getElem? (i := 1) rfl)) (hw _ (List.mem_of_getElem? (i := 2) rfl)) (hw _ (List.mem_of_getElem? (i := 3) rfl)) eT (rm_rangeLo hw ii) (hb hby at_89) rfl (lenOf pd__I_I rfl) (by rw [hml]; rfl) (by decide) (by decide) (by decide) (by decide) (Nat.le_of_eq rfl) (by decide) (pc' := 92) rfl fun T X eT => ?_
        refine own_i2l X hx (hb hby at_92) (pc' := 93) rfl ?_
        refine own_lconst X hx (hb hby at_93) (z := (1 : Int64)) rfl (pc' := 94) rfl ?_
        refine own_lsub X hx (hb hby at_94) (pc' := 95) rfl ?_
        refine own_lstore X hx (hb hby at_95) (Ls' := #[.val (.int k), .val (.int off), .val (.int (0 : Int32)), .val (.int sel), .val (.long (((own_hi (ii - 1)).toInt64) + (1 : Int64))), .second, .val (.long (((own_lo ii).toInt64) - (1 : Int64))), .second, .val (.int ii), .unset, .unset, .unset, .unset]) rfl (pc' := 97) rfl ?_
        exact tail T X eT (((own_hi (ii - 1)).toInt64) + (1 : Int64)) (((own_lo ii).toInt64) - (1 : Int64)) (0 : Int32) sel ii (by have q := own_out ii hb0.1 hb0.2; rw [if_neg hc53, if_neg hc78] at q; exact q)
      · refine own_ldcJ X hx hZ hown (v := (2147483647 : Int64)) (hw _ (List.mem_of_getElem? (i := 16) rfl)) (hb hby at_81) (pc' := 84) rfl ?_
        refine own_goto X hx (hb hby at_84) (pc' := 95) (by decide) ?_
        refine own_lstore X hx (hb hby at_95) (Ls' := #[.val (.int k), .val (.int off), .val (.int (0 : Int32)), .val (.int sel), .val (.long (((own_hi (ii - 1)).toInt64) + (1 : Int64))), .second, .val (.long (2147483647 : Int64)), .second, .val (.int ii), .unset, .unset, .unset, .unset]) rfl (pc' := 97) rfl ?_
        exact tail T X eT (((own_hi (ii - 1)).toInt64) + (1 : Int64)) (2147483647 : Int64) (0 : Int32) sel ii (by have q := own_out ii hb0.1 hb0.2; rw [if_neg hc53, if_pos hc78] at q; exact q)
    · refine own_ldcJ X hx hZ hown (v := (-2147483648 : Int64)) (hw _ (List.mem_of_getElem? (i := 21) rfl)) (hb hby at_56) (pc' := 59) rfl ?_
      refine own_goto X hx (hb hby at_59) (pc' := 72) (by decide) ?_
      refine own_lstore X hx (hb hby at_72) (Ls' := #[.val (.int k), .val (.int off), .val (.int (0 : Int32)), .val (.int sel), .val (.long (-2147483648 : Int64)), .second, .unset, .unset, .val (.int ii), .unset, .unset, .unset, .unset]) rfl (pc' := 74) rfl ?_
      refine own_iload X hx (hb hby at_74) rfl (pc' := 76) rfl ?_
      refine own_bipush X hx (hb hby at_76) (z := (15 : Int32)) rfl (pc' := 78) rfl ?_
      refine own_icmp_ne X hx (hb hby at_78) (pc1 := 81) (pc2 := 87) rfl (by decide) (fun hc78 => ?_) (fun hc78 => ?_)
      · refine own_iload X hx (hb hby at_87) rfl (pc' := 89) rfl ?_
        refine own_pureS X hx hZ hown (y := (⟨"com/example/lehti/lehti/xdm/XmlCharactersIsNcNameStartCharPinLaw", "rangeLo", "(I)I"⟩ : MethodName)) (argsL := [(.int ii)]) (st := []) (W := 0) (z := (.int (own_lo ii))) (hw _ (List.mem_of_getElem? (i := 0) rfl)) (hw _ (List.mem_of_getElem? (i := 1) rfl)) (hw _ (List.mem_of_getElem? (i := 2) rfl)) (hw _ (List.mem_of_getElem? (i := 3) rfl)) eT (rm_rangeLo hw ii) (hb hby at_89) rfl (lenOf pd__I_I rfl) (by rw [hml]; rfl) (by decide) (by decide) (by decide) (by decide) (Nat.le_of_eq rfl) (by decide) (pc' := 92) rfl fun T X eT => ?_
        refine own_i2l X hx (hb hby at_92) (pc' := 93) rfl ?_
        refine own_lconst X hx (hb hby at_93) (z := (1 : Int64)) rfl (pc' := 94) rfl ?_
        refine own_lsub X hx (hb hby at_94) (pc' := 95) rfl ?_
        refine own_lstore X hx (hb hby at_95) (Ls' := #[.val (.int k), .val (.int off), .val (.int (0 : Int32)), .val (.int sel), .val (.long (-2147483648 : Int64)), .second, .val (.long (((own_lo ii).toInt64) - (1 : Int64))), .second, .val (.int ii), .unset, .unset, .unset, .unset]) rfl (pc' := 97) rfl ?_
        exact tail T X eT (-2147483648 : Int64) (((own_lo ii).toInt64) - (1 : Int64)) (0 : Int32) sel ii (by have q := own_out ii hb0.1 hb0.2; rw [if_pos hc53, if_neg hc78] at q; exact q)
      · refine own_ldcJ X hx hZ hown (v := (2147483647 : Int64)) (hw _ (List.mem_of_getElem? (i := 16) rfl)) (hb hby at_81) (pc' := 84) rfl ?_
        refine own_goto X hx (hb hby at_84) (pc' := 95) (by decide) ?_
        refine own_lstore X hx (hb hby at_95) (Ls' := #[.val (.int k), .val (.int off), .val (.int (0 : Int32)), .val (.int sel), .val (.long (-2147483648 : Int64)), .second, .val (.long (2147483647 : Int64)), .second, .val (.int ii), .unset, .unset, .unset, .unset]) rfl (pc' := 97) rfl ?_
        exact tail T X eT (-2147483648 : Int64) (2147483647 : Int64) (0 : Int32) sel ii (by have q := own_out ii hb0.1 hb0.2; rw [if_pos hc53, if_pos hc78] at q; exact q)
  · refine own_iconst X hx (hb hby at_6) (z := (1 : Int32)) rfl (pc' := 7) rfl ?_
    refine own_goto X hx (hb hby at_7) (pc' := 11) (by decide) ?_
    refine own_istoreN X hx (hb hby at_11) (Ls' := #[.val (.int k), .val (.int off), .val (.int (1 : Int32)), .unset, .unset, .unset, .unset, .unset, .unset, .unset, .unset, .unset, .unset]) rfl (pc' := 12) rfl ?_
    refine own_iloadN X hx (hb hby at_12) rfl (pc' := 13) rfl ?_
    refine own_iconst X hx (hb hby at_13) (z := (1 : Int32)) rfl (pc' := 14) rfl ?_
    refine own_iushr X hx (hb hby at_14) (pc' := 15) rfl ?_
    generalize hsel : (XT.ushr k (1 : Int32)) = sel
    refine own_istoreN X hx (hb hby at_15) (Ls' := #[.val (.int k), .val (.int off), .val (.int (1 : Int32)), .val (.int sel), .unset, .unset, .unset, .unset, .unset, .unset, .unset, .unset, .unset]) rfl (pc' := 16) rfl ?_
    have hs0 : 0 ≤ sel.toInt := by rw [← hsel]; exact own_sel k
    refine own_iloadN X hx (hb hby at_16) rfl (pc' := 17) rfl ?_
    refine own_if_eq X hx (hb hby at_17) (pc1 := 20) (pc2 := 45) rfl (by decide) (fun hc17 => absurd hc17 (by decide)) (fun hc17 => ?_)
    refine own_iloadN X hx (hb hby at_20) rfl (pc' := 21) rfl ?_
    refine own_bipush X hx (hb hby at_21) (z := (15 : Int32)) rfl (pc' := 23) rfl ?_
    refine own_irem X hx (hb hby at_23) (by decide) (pc' := 24) rfl ?_
    generalize hii : (sel % (15 : Int32)) = ii
    refine own_istore X hx (hb hby at_24) (Ls' := #[.val (.int k), .val (.int off), .val (.int (1 : Int32)), .val (.int sel), .unset, .unset, .unset, .unset, .val (.int ii), .unset, .unset, .unset, .unset]) rfl (pc' := 26) rfl ?_
    have hb0 : 0 ≤ ii.toInt ∧ ii.toInt < 15 := by rw [← hii]; exact own_r15 hs0
    refine own_iload X hx (hb hby at_26) rfl (pc' := 28) rfl ?_
    refine own_pureS X hx hZ hown (y := (⟨"com/example/lehti/lehti/xdm/XmlCharactersIsNcNameStartCharPinLaw", "rangeLo", "(I)I"⟩ : MethodName)) (argsL := [(.int ii)]) (st := []) (W := 0) (z := (.int (own_lo ii))) (hw _ (List.mem_of_getElem? (i := 0) rfl)) (hw _ (List.mem_of_getElem? (i := 1) rfl)) (hw _ (List.mem_of_getElem? (i := 2) rfl)) (hw _ (List.mem_of_getElem? (i := 3) rfl)) eT (rm_rangeLo hw ii) (hb hby at_28) rfl (lenOf pd__I_I rfl) (by rw [hml]; rfl) (by decide) (by decide) (by decide) (by decide) (Nat.le_of_eq rfl) (by decide) (pc' := 31) rfl fun T X eT => ?_
    refine own_i2l X hx (hb hby at_31) (pc' := 32) rfl ?_
    refine own_lstore X hx (hb hby at_32) (Ls' := #[.val (.int k), .val (.int off), .val (.int (1 : Int32)), .val (.int sel), .val (.long ((own_lo ii).toInt64)), .second, .unset, .unset, .val (.int ii), .unset, .unset, .unset, .unset]) rfl (pc' := 34) rfl ?_
    refine own_iload X hx (hb hby at_34) rfl (pc' := 36) rfl ?_
    refine own_pureS X hx hZ hown (y := (⟨"com/example/lehti/lehti/xdm/XmlCharactersIsNcNameStartCharPinLaw", "rangeHi", "(I)I"⟩ : MethodName)) (argsL := [(.int ii)]) (st := []) (W := 0) (z := (.int (own_hi ii))) (hw _ (List.mem_of_getElem? (i := 4) rfl)) (hw _ (List.mem_of_getElem? (i := 5) rfl)) (hw _ (List.mem_of_getElem? (i := 2) rfl)) (hw _ (List.mem_of_getElem? (i := 6) rfl)) eT (rm_rangeHi hw ii) (hb hby at_36) rfl (lenOf pd__I_I rfl) (by rw [hml]; rfl) (by decide) (by decide) (by decide) (by decide) (Nat.le_of_eq rfl) (by decide) (pc' := 39) rfl fun T X eT => ?_
    refine own_i2l X hx (hb hby at_39) (pc' := 40) rfl ?_
    refine own_lstore X hx (hb hby at_40) (Ls' := #[.val (.int k), .val (.int off), .val (.int (1 : Int32)), .val (.int sel), .val (.long ((own_lo ii).toInt64)), .second, .val (.long ((own_hi ii).toInt64)), .second, .val (.int ii), .unset, .unset, .unset, .unset]) rfl (pc' := 42) rfl ?_
    refine own_goto X hx (hb hby at_42) (pc' := 97) (by decide) ?_
    exact tail T X eT ((own_lo ii).toInt64) ((own_hi ii).toInt64) (1 : Int32) sel ii (own_in ii hb0.1 hb0.2)
set_option maxRecDepth 65536 in
set_option maxHeartbeats 40000000 in
theorem comes_1 {Post : Tables → Env → Array Value → State → Outcome → State → Prop} (hpost : ∀ tb e args s v u, (limb_1_1.after args s (.returned v) u = true ∧ limb_1_2.after args s (.returned v) u = true) → FrameEnd s (.returned v) u (Jvm.fieldLocs frame_1_writes args s ++ Jvm.arrayLocs frame_1_arrays args s ++ Jvm.staticLocs frame_1_statics s) 0 0 → Post tb e args s (.returned v) u) :
    ArmFor flags0 classFile x code maxLocals ret World_1 tables_1 room_1 Calls_1 rest_1 Pre_1 Post := by
  intro l hfl _ _ p e ha hc hk s m args below hf hA hF happ hP
  obtain ⟨hcalls, hrest, hpre⟩ := hP
  obtain ⟨-, -, -, hnamed, -, -, -, hat⟩ := (Spec.applies_iff hf).mp happ
  obtain ⟨hg, hn⟩ := and_e (Cond.before_iff.mp (show (Jvm.Cond.and given_1 narrow_1).before args s = true from hpre))
  obtain ⟨hcount, g0⟩ := and_e hg
  obtain ⟨v0, g1⟩ := and_e g0
  obtain ⟨w0, w1, rfl⟩ : ∃ w0 w1 : Value, args = #[w0, w1] := by
    have hs : args.size = 2 := by simpa [Cond.value, given_1] using hcount
    obtain ⟨L⟩ := args
    match L, hs with
    | [w0, w1], _ => exact ⟨w0, w1, rfl⟩
  have hw := fun d (hd : d ∈ tables_1) => atoms_spec (ws := Jvm.Cond.code x code maxLocals ret :: tables_1) hat d (List.mem_cons_of_mem _ hd)
  obtain ⟨i0, ei0⟩ := is_v v0
  obtain rfl : w0 = (.int i0) := Option.some.inj ei0
  obtain ⟨i1, ei1⟩ := is_v g1
  obtain rfl : w1 = (.int i1) := Option.some.inj ei1
  obtain ⟨n, o, h1, h2, h3, _, L, rfl, ⟨rfl, N⟩, hq⟩ := rm_law l s _ hw tables_1 i0 i1 s.heap s.heap.size (Nat.le_refl _) p e ha hc hk s m _ below hf ((Spec.applies_iff_loose hf).mp happ).1 ⟨rfl, State.Warmed39.refl s, rfl⟩ trivial
  refine ⟨n, _, h1, h2, h3, hpost _ _ _ _ _ _ ⟨Cond.after_iff.mpr rfl, Cond.after_iff.mpr (eq_i res_at (Term.int_eval (1)) rfl)⟩ ⟨hq.1, hq.2.1, (hq.2.2.sift fun y hy => Or.inr (N y hy)).mono (by decide) (by decide)⟩⟩
theorem main_1_1 : Claimed_1_1 := comes_1 fun _ _ _ _ _ _ h hF => ⟨h.1, hF⟩
theorem main_1_2 : Claimed_1_2 := comes_1 fun _ _ _ _ _ _ h hF => ⟨h.2, hF⟩
end Jvm.Pilot.@@N@@
namespace Jvm.Pilot.@@N@@
open Jvm Jvm.ClassFile Sem Op Lib Jvm.Free Jvm.Stand Jvm.Pilot.@@N@@.Jvm.D
/-! MADE BY PROGRAM (witnessworld.py) out of the Statement's table words and the real class files: 9 classes; the members and pool entries that the words name. The judged class is class 1, her method 1. -/
namespace start1
open Jvm.ClassFile
def u (s : String) : CpInfo := .utf8 (stringToUtf16 s)
/-- a pool by its gaps: so many unusable entries, then the entry; so many at the end -/
def gap : Nat → List CpInfo → List CpInfo
  | 0, r => r
  | n + 1, r => .unusable :: gap n r
def poolList (es : List (Nat × CpInfo)) (last : Nat) : List CpInfo := es.foldr (fun e r => gap e.1 (e.2 :: r)) (gap last [])
def pool (es : List (Nat × CpInfo)) (last : Nat) : Array CpInfo := ⟨poolList es last⟩
def fileOf (pool : Array CpInfo) (this : Nat) (attrs : Array Attribute := #[]) (ms : Array MethodInfo := #[]) (fl : Nat := 33) (sup : Nat := 0) (ifs : Array Nat := #[]) (fds : Array FieldInfo := #[]) : ClassFile where
  minorVersion := 0
  majorVersion := 65
  constantPool := pool
  accessFlags := fl
  thisClass := this
  superClass := sup
  interfaces := ifs
  fields := fds
  methods := ms
  attributes := attrs
def plain (name : String) (sup : Option ClassId) : Class where
  name := name
  kind := .ordinary
  loader := none
  accessFlags := 33
  super := sup
  interfaces := #[]
  cf := none
  fields := #[]
  methods := #[]
  instanceTypes := #[]
  staticTypes := #[]
  resolved := #[]
  callSites := []
  init := .initialized
  statics := none
  mirror := none

def pool0 : Array CpInfo := pool [(5, u "<init>"), (0, u "()V"), (1, .class_ 10), (1, u "java/lang/Object")] 113

def k0m0 : Method := { name := "<init>", desc := "()V", sig := { parameters := [], returnType := none }, accessFlags := 1, code := none }
/-- java/lang/Object -/
def k0 : Class := { plain "java/lang/Object" none with
  accessFlags := 33
  interfaces := #[]
  cf := some (fileOf pool0 8 #[] #[{ accessFlags := 1, nameIndex := 5, descriptorIndex := 6, attributes := #[] }] 33 0 #[] #[])
  fields := #[]
  methods := #[k0m0]
  instanceTypes := #[]
  staticTypes := #[]
  resolved := Array.replicate 124 none
  statics := none }

def pool1 : Array CpInfo := pool [(2, .class_ 4), (1, u "java/lang/Object"), (0, u "<init>"), (0, u "()V"), (0, .methodref 8 9), (0, .class_ 10), (0, .nameAndType 11 12), (0, u "com/example/lehti/lehti/xdm/XmlCharactersIsNcNameStartCharPinLaw"), (0, u "rangeLo"), (0, u "(I)I"), (0, .methodref 8 14), (0, .nameAndType 15 12), (0, u "rangeHi"), (2, .long 18446744071562067968), (1, .long 2147483647), (1, .long 4294967295), (1, .methodref 25 26), (0, .class_ 27), (0, .nameAndType 28 29), (0, u "com/example/lehti/lehti/xdm/XmlCharacters"), (0, u "isNcNameStartChar"), (0, u "(I)Z"), (0, .integer 63744), (0, .integer 65008), (0, .integer 65536), (0, .integer 55295), (0, .integer 64975), (0, .integer 65533), (0, .integer 983039), (2, u "law"), (0, u "(II)Z")] 3

def k1m0 : Method := { name := "<init>", desc := "()V", sig := { parameters := [], returnType := none }, accessFlags := 2, code := none }
def k1c1 : Code := { maxStack := 4, maxLocals := 13, code := code, exceptionTable := #[], attributes := #[] }
def k1m1 : Method := { name := "law", desc := "(II)Z", sig := { parameters := [.int, .int], returnType := some .boolean }, accessFlags := 9, code := some k1c1 }
def k1c2 : Code := { maxStack := 2, maxLocals := 1, code := method_3_code, exceptionTable := #[], attributes := #[] }
def k1m2 : Method := { name := "rangeLo", desc := "(I)I", sig := { parameters := [.int], returnType := some .int }, accessFlags := 10, code := some k1c2 }
def k1c3 : Code := { maxStack := 2, maxLocals := 1, code := method_4_code, exceptionTable := #[], attributes := #[] }
def k1m3 : Method := { name := "rangeHi", desc := "(I)I", sig := { parameters := [.int], returnType := some .int }, accessFlags := 10, code := some k1c3 }
/-- com/example/lehti/lehti/xdm/XmlCharactersIsNcNameStartCharPinLaw -/
def k1 : Class := { plain "com/example/lehti/lehti/xdm/XmlCharactersIsNcNameStartCharPinLaw" (some 0) with
  accessFlags := 49
  interfaces := #[]
  cf := some (fileOf pool1 8 #[] #[{ accessFlags := 2, nameIndex := 5, descriptorIndex := 6, attributes := #[] }, { accessFlags := 9, nameIndex := 39, descriptorIndex := 40, attributes := #[] }, { accessFlags := 10, nameIndex := 11, descriptorIndex := 12, attributes := #[] }, { accessFlags := 10, nameIndex := 15, descriptorIndex := 12, attributes := #[] }] 49 2 #[] #[])
  fields := #[]
  methods := #[k1m0, k1m1, k1m2, k1m3]
  instanceTypes := #[]
  staticTypes := #[]
  resolved := Array.replicate 44 none
  statics := none }

def pool2 : Array CpInfo := pool [(2, .class_ 4), (1, u "java/lang/Object"), (0, u "<init>"), (0, u "()V"), (0, .integer 55295), (1, .integer 65533), (0, .integer 65536), (12, .class_ 25), (1, u "com/example/lehti/lehti/xdm/XmlCharacters"), (0, u "isNcNameStartChar"), (0, u "(I)Z"), (12, .integer 63744), (0, .integer 64975), (0, .integer 65008), (0, .integer 983039)] 31

def k2m0 : Method := { name := "<init>", desc := "()V", sig := { parameters := [], returnType := none }, accessFlags := 2, code := none }
def k2c1 : Code := { maxStack := 2, maxLocals := 1, code := prog_168_method_5_code, exceptionTable := #[], attributes := #[] }
def k2m1 : Method := { name := "isNcNameStartChar", desc := "(I)Z", sig := { parameters := [.int], returnType := some .boolean }, accessFlags := 9, code := some k2c1 }
/-- com/example/lehti/lehti/xdm/XmlCharacters -/
def k2 : Class := { plain "com/example/lehti/lehti/xdm/XmlCharacters" (some 0) with
  accessFlags := 49
  interfaces := #[]
  cf := some (fileOf pool2 23 #[] #[{ accessFlags := 2, nameIndex := 5, descriptorIndex := 6, attributes := #[] }, { accessFlags := 9, nameIndex := 26, descriptorIndex := 27, attributes := #[] }] 49 2 #[] #[])
  fields := #[]
  methods := #[k2m0, k2m1]
  instanceTypes := #[]
  staticTypes := #[]
  resolved := Array.replicate 75 none
  statics := none }

def pool3 : Array CpInfo := pool [(1, u "java/lang/Cloneable"), (0, .class_ 1), (0, u "java/lang/Object"), (0, .class_ 3)] 3

/-- java/lang/Cloneable -/
def k3 : Class := { plain "java/lang/Cloneable" (some 0) with
  accessFlags := 1537
  interfaces := #[]
  cf := some (fileOf pool3 2 #[] #[] 1537 4 #[] #[])
  fields := #[]
  methods := #[]
  instanceTypes := #[]
  staticTypes := #[]
  resolved := Array.replicate 8 none
  statics := none }

def pool4 : Array CpInfo := pool [(1, u "java/io/Serializable"), (0, .class_ 1), (0, u "java/lang/Object"), (0, .class_ 3)] 3

/-- java/io/Serializable -/
def k4 : Class := { plain "java/io/Serializable" (some 0) with
  accessFlags := 1537
  interfaces := #[]
  cf := some (fileOf pool4 2 #[] #[] 1537 4 #[] #[])
  fields := #[]
  methods := #[]
  instanceTypes := #[]
  staticTypes := #[]
  resolved := Array.replicate 8 none
  statics := none }

/-- the primitive byte -/
def k5 : Class := { plain "byte" none with kind := .primitive 'B', accessFlags := 0x411 }
/-- [B -/
def k6 : Class := { plain "[B" (some 0) with kind := .array 5 .byte, interfaces := #[3, 4], accessFlags := 1041 }

/-- the primitive int -/
def k7 : Class := { plain "int" none with kind := .primitive 'I', accessFlags := 0x411 }
/-- [I -/
def k8 : Class := { plain "[I" (some 0) with kind := .array 7 .int, interfaces := #[3, 4], accessFlags := 1041 }

def heap : Heap := #[]
def classes : Array Class := #[k0, k1, k2, k3, k4, k5, k6, k7, k8]
def interned : List (Array UInt16 × Addr) := []
def slotsUsed : Nat := 0
def theMethod : MethodId := ⟨1, 1⟩
def args0 : Array Value := #[.int 5, .int 7]
def aboutOver (below : List Frame) : State where
  vm := { classes := classes, interned := interned.toArray }
  heap := heap
  slotsUsed := slotsUsed
  threads := #[{ frames := .invoking theMethod args0 :: below }]
def below0 : List Frame := [.native { method := ⟨0, 0⟩, args := #[] }]
def about1 : State := aboutOver below0
def p0 : Program := .bare "" "" ""
def e0 : Env := launch0.env 0 0 0
theorem w_frames : about1.frames = Frame.invoking theMethod args0 :: below0 := rfl
set_option maxRecDepth 65536 in
theorem w_args : argsFit about1.vm theMethod args0 = true := by decide +kernel
set_option maxRecDepth 65536 in
theorem w_heap : heapFits about1 = true := by decide +kernel
set_option maxRecDepth 65536 in
theorem w_runnable : about1.curStatus? = some .runnable := by decide +kernel
set_option maxRecDepth 65536 in
theorem w_alone : about1.alone = true := by decide +kernel
set_option maxRecDepth 65536 in
theorem w_named : about1.methodNamed? x = some theMethod := by decide +kernel
set_option maxRecDepth 65536 in
theorem w_hears : about1.hears theMethod below0 = true := by decide +kernel
set_option maxRecDepth 65536 in
theorem w_ripe : about1.ripe theMethod args0 below0 = true := by decide +kernel
theorem w_running : about1.status = .running := rfl
set_option maxRecDepth 65536 in
theorem w_room : about1.hasRoom e0.platform room_1 = true :=
  launch0.hasRoom_least _ room_1 (by decide +kernel) (by decide +kernel) (by decide +kernel) (by decide +kernel) (by decide +kernel) (by decide +kernel)
theorem allAtoms_all (ts : List Jvm.Cond) (a : Array Jvm.Value) (st : Jvm.State) : (allAtoms ts).before a st = ts.all (fun c => c.before a st) := by
  induction ts with
  | nil => rfl
  | cons c t ih =>
    show (Jvm.Cond.and c (allAtoms t)).before a st = _
    rw [Jvm.Cond.before_and, ih, List.all_cons]
def words1 : List Jvm.Cond := Jvm.Cond.code x code maxLocals ret :: tables_1
/-- a 'code' word, met by the world's own term for the bytes: nothing is compared byte by byte -/
theorem code_word {y : MethodName} {bytes : ByteArray} {mx : Nat} {rt : Option FieldType} {a : Array Value} {s : State} {m : MethodId} {meth : Method} {c : Code} (h1 : s.methodNamed? y = some m) (h2 : s.vm.method? m = some meth) (h3 : meth.code = some c) (h4 : c.code = bytes)
    (h5 : (c.maxLocals == mx && c.exceptionTable.isEmpty && decide (c.maxStack ≤ mostOperands) && decide (meth.sig.returnType = rt) && !meth.locks && decide (parseMethodDescriptor y.desc = some meth.sig)) = true) : (Jvm.Cond.code y bytes mx rt).before a s = true := by
  simp only [Bool.and_eq_true, beq_iff_eq, Bool.not_eq_true', decide_eq_true_eq] at h5
  obtain ⟨⟨⟨⟨⟨g1, g2⟩, g3⟩, g4⟩, g5⟩, g6⟩ := h5
  simp [Cond.before, Cond.holds, Cond.value, h1, h2, h3, h4, g1, g2, g3, g4, g5, g6]
def isCode : Jvm.Cond → Bool
  | .code _ _ _ _ => true
  | _ => false
theorem all_split {L : List Jvm.Cond} {P : Jvm.Cond → Bool} (h1 : L.all (fun c => isCode c || P c) = true) (h2 : ∀ c ∈ L.filter isCode, P c = true) : L.all P = true := by
  refine List.all_eq_true.mpr fun c hc => ?_
  have h := List.all_eq_true.mp h1 c hc
  rcases Bool.eq_false_or_eq_true (isCode c) with hi | hi
  · exact h2 c (List.mem_filter.mpr ⟨hc, hi⟩)
  · simpa [hi] using h
set_option maxRecDepth 65536 in
theorem w_c0 : (Jvm.Cond.code x code maxLocals ret).before args0 about1 = true := code_word (m := ⟨1, 1⟩) (meth := k1m1) (c := k1c1) (by decide +kernel) rfl rfl rfl (by decide +kernel)
set_option maxRecDepth 65536 in
theorem w_c1 : (Jvm.Cond.code ({ cls := "com/example/lehti/lehti/xdm/XmlCharactersIsNcNameStartCharPinLaw", name := "rangeLo", desc := "(I)I" } : Jvm.MethodName) method_3_code (1 : Nat) (Option.some Jvm.ClassFile.FieldType.int)).before args0 about1 = true := code_word (m := ⟨1, 2⟩) (meth := k1m2) (c := k1c2) (by decide +kernel) rfl rfl rfl (by decide +kernel)
set_option maxRecDepth 65536 in
theorem w_c2 : (Jvm.Cond.code ({ cls := "com/example/lehti/lehti/xdm/XmlCharactersIsNcNameStartCharPinLaw", name := "rangeHi", desc := "(I)I" } : Jvm.MethodName) method_4_code (1 : Nat) (Option.some Jvm.ClassFile.FieldType.int)).before args0 about1 = true := code_word (m := ⟨1, 3⟩) (meth := k1m3) (c := k1c3) (by decide +kernel) rfl rfl rfl (by decide +kernel)
set_option maxRecDepth 65536 in
theorem w_c3 : (Jvm.Cond.code ({ cls := "com/example/lehti/lehti/xdm/XmlCharacters", name := "isNcNameStartChar", desc := "(I)Z" } : Jvm.MethodName) prog_168_method_5_code (1 : Nat) (Option.some Jvm.ClassFile.FieldType.boolean)).before args0 about1 = true := code_word (m := ⟨2, 1⟩) (meth := k2m1) (c := k2c1) (by decide +kernel) rfl rfl rfl (by decide +kernel)
def codes1 : List Jvm.Cond := [Jvm.Cond.code x code maxLocals ret, Jvm.Cond.code ({ cls := "com/example/lehti/lehti/xdm/XmlCharactersIsNcNameStartCharPinLaw", name := "rangeLo", desc := "(I)I" } : Jvm.MethodName) method_3_code (1 : Nat) (Option.some Jvm.ClassFile.FieldType.int), Jvm.Cond.code ({ cls := "com/example/lehti/lehti/xdm/XmlCharactersIsNcNameStartCharPinLaw", name := "rangeHi", desc := "(I)I" } : Jvm.MethodName) method_4_code (1 : Nat) (Option.some Jvm.ClassFile.FieldType.int), Jvm.Cond.code ({ cls := "com/example/lehti/lehti/xdm/XmlCharacters", name := "isNcNameStartChar", desc := "(I)Z" } : Jvm.MethodName) prog_168_method_5_code (1 : Nat) (Option.some Jvm.ClassFile.FieldType.boolean)]
set_option maxRecDepth 65536 in
theorem codes_eq : words1.filter isCode = codes1 := rfl
theorem w_codes : ∀ c ∈ words1.filter isCode, c.before args0 about1 = true := by
  rw [codes_eq]
  intro c hc
  simp only [codes1, List.mem_cons, List.not_mem_nil, or_false] at hc
  rcases hc with rfl | rfl | rfl | rfl
  · exact w_c0
  · exact w_c1
  · exact w_c2
  · exact w_c3
set_option maxRecDepth 65536 in
theorem w_t1 : (words1.take 24).all (fun c => isCode c || c.before args0 about1) = true := by decide +kernel
set_option maxRecDepth 65536 in
theorem w_t2 : (words1.drop 24).all (fun c => isCode c || c.before args0 about1) = true := by decide +kernel
theorem w_tables : (allAtoms (Jvm.Cond.code x code maxLocals ret :: tables_1)).before args0 about1 = true := by
  rw [allAtoms_all]
  show words1.all (fun c => c.before args0 about1) = true
  refine all_split ?_ w_codes
  rw [← List.take_append_drop 24 words1, List.all_append, w_t1, w_t2]
  rfl
set_option maxRecDepth 65536 in
theorem w_case : (Jvm.Cond.and given_1 narrow_1).before args0 about1 = true := by decide +kernel
theorem w_applies : (headSpec (Jvm.Cond.code x code maxLocals ret :: tables_1) room_1).applies x e0.platform about1 = true :=
  (Spec.applies_iff w_frames).mpr ⟨w_running, w_runnable, w_alone, w_named, w_hears, w_ripe, w_room, w_tables⟩
theorem atStart : AtStart classFile x code maxLocals ret World_1 tables_1 room_1 Calls_1 rest_1 Pre_1 launch0 p0 e0 about1 theMethod args0 below0 :=
  ⟨lists_1, trivial, launch0.admits_env _ _ _, launch0.least_env, fairChoices_fair.cas, fairChoices_fair.clock, w_frames, w_args, w_heap, w_applies, trivial, trivial, w_case⟩
end start1
theorem witness_1 : WitnessClaimed_1 := ⟨start1.p0, start1.e0, start1.about1, start1.theMethod, start1.args0, start1.below0, start1.atStart⟩
end Jvm.Pilot.@@N@@
