import JvmDerived
import JvmDerived.Pilot.@@N@@Statement
import JvmDerived.Pilot.@@N@@Code
set_option linter.unusedVariables false
set_option linter.unusedSimpArgs false
namespace Jvm.Pilot.@@N@@
open Jvm Jvm.ClassFile Sem Op Lib Jvm.Free Jvm.Stand Jvm.LawKit Jvm.RoadKit Bundle Jvm.Pilot.@@N@@.Jvm.D
section OwnKit
variable {p : Program} {l : Launch} {e : Env} {R : Room} {s : State} {m : MethodId} {args : Array Value} {below : List Frame} {meth : Method} {c : Code} {T : State} {locs : List Loc} {cells slots : Nat} {Z : State} {a0 : Array Value} {h : Heap} {Q : Option Value → Heap → List Loc → Prop} {rc rs : Nat} {pc pc' : Nat} {Ls Ls' : Array Slot} {st : List Value} {own : String} {index : Nat}
/-- from the state S the body comes to its end as Q says, with at most rc new cells and rs new slots -/
def OwnGo (p : Program) (e : Env) (below : List Frame) (s : State) (Q : Option Value → Heap → List Loc → Prop) (rc rs : Nat) (S : State) : Prop :=
  ∃ t o, Steps p.tables e below S t ∧ t.status = .running ∧ Ended t below o ∧ ∃ v L, o = .returned v ∧ Q v t.heap L ∧ FrameEnd s o t L rc rs
theorem own_step {S S' : State} (k : ∀ t, Steps p.tables e below S' t → Steps p.tables e below S t) (g : OwnGo p e below s Q rc rs S') : OwnGo p e below s Q rc rs S := by
  obtain ⟨t, o, h1, r⟩ := g
  exact ⟨t, o, k t h1, r⟩
theorem own_cast {g g' : JFrame} (q : g = g') (k : OwnGo p e below s Q rc rs (T.setTop g')) : OwnGo p e below s Q rc rs (T.setTop g) := q ▸ k
theorem own_met {y : MethodName} {bytes : ByteArray} {maxL : Nat} {ret : Option FieldType} {rm : Room} {ws : List Jvm.Cond} {as' : Array Value} (hpl : plainFor y = true) (ef : ∀ m, entryFrame m as' maxL = mkF m 0 Ls [])
    (body : ∀ (p : Program) (e : Env) (s : State) (m : MethodId) (below : List Frame) (meth : Method) (c : Code) (T : State), p.tables.exec = Jvm.exec → Z.Warmed39 s.vm → c.code = bytes → c.maxLocals = maxL → s.vm.findClass y.cls = some m.cls → meth.name = y.name → meth.sig.returnType = ret → meth.locks = false → Stand p l e rm s m as' below meth c T [] 0 0 → T.heap = h → OwnGo p e below s Q rm.cells rm.slots (T.setTop (mkF m 0 Ls []))) :
    MetFree l y (head1 (Jvm.Cond.code y bytes maxL ret :: ws) rm) (fun a U => a = as' ∧ Z.Warmed39 U.vm ∧ U.heap = h) (fun _ _ _ _ _ => True) (fun _ U o U' => ∃ v L, o = .returned v ∧ Q v U'.heap L ∧ FrameEnd U o U' L rm.cells rm.slots) := by
  refine MetFree.of_bodySF hpl hisR ?_
  intro p e s m args below meth c s₁ Bd hml0 hP hK
  obtain ⟨rfl, hZ, hh⟩ := hP
  have X0 : Stand p l e rm s m args below meth c s₁ [] 0 0 := Stand.of_body Bd
  have e0 : s₁.heap = h := by rw [← hh, Bd.state]; rfl
  have q := body p e s m below meth c s₁ Bd.exec hZ Bd.bytes hml0 (findClass_of_methodNamed Bd.named) (name_of_methodNamed Bd.named Bd.method).1 Bd.returns Bd.notSynchronized X0 e0
  rw [← ef m] at q
  exact q

theorem own_iloadN (X : Stand p l e R s m args below meth c T locs cells slots) (hx : p.tables.exec = Jvm.exec) {k : Fin 4} {v : Int32} (hd : decode c.code pc = .ok (.iload_n k, 1)) (hl : Ls[k.val]? = some (.val (.int v))) (hp : pc + 1 = pc') (g : OwnGo p e below s Q rc rs (T.setTop (mkF m pc' Ls (.int v :: st)))) : OwnGo p e below s Q rc rs (T.setTop (mkF m pc Ls st)) := by
  subst hp
  exact own_step (fun _ k => XS.iloadN X.here hx rfl hd hl k) g
theorem own_lloadN (X : Stand p l e R s m args below meth c T locs cells slots) (hx : p.tables.exec = Jvm.exec) {k : Fin 4} {v : Int64} (hd : decode c.code pc = .ok (.lload_n k, 1)) (hl : Ls[k.val]? = some (.val (.long v))) (hp : pc + 1 = pc') (g : OwnGo p e below s Q rc rs (T.setTop (mkF m pc' Ls (.long v :: st)))) : OwnGo p e below s Q rc rs (T.setTop (mkF m pc Ls st)) := by
  subst hp
  exact own_step (fun _ k => XS.lloadN X.here hx rfl hd hl k) g
theorem own_aloadN (X : Stand p l e R s m args below meth c T locs cells slots) (hx : p.tables.exec = Jvm.exec) {k : Fin 4} {v : Value} (hd : decode c.code pc = .ok (.aload_n k, 1)) (hl : Ls[k.val]? = some (.val v)) (hv : v.isRef = true) (hp : pc + 1 = pc') (g : OwnGo p e below s Q rc rs (T.setTop (mkF m pc' Ls (v :: st)))) : OwnGo p e below s Q rc rs (T.setTop (mkF m pc Ls st)) := by
  subst hp
  exact own_step (fun _ k => XS.aloadN X.here hx rfl hd hl hv k) g
theorem own_istoreN (X : Stand p l e R s m args below meth c T locs cells slots) (hx : p.tables.exec = Jvm.exec) {k : Fin 4} {v : Int32} (hd : decode c.code pc = .ok (.istore_n k, 1)) (hl : storeLocals Ls k.val (.int v) = some Ls') (hp : pc + 1 = pc') (g : OwnGo p e below s Q rc rs (T.setTop (mkF m pc' Ls' st))) : OwnGo p e below s Q rc rs (T.setTop (mkF m pc Ls (.int v :: st))) := by
  subst hp
  exact own_step (fun _ k => XS.istoreN X.here hx rfl hd rfl hl k) g
theorem own_lstoreN (X : Stand p l e R s m args below meth c T locs cells slots) (hx : p.tables.exec = Jvm.exec) {k : Fin 4} {v : Int64} (hd : decode c.code pc = .ok (.lstore_n k, 1)) (hl : storeLocals Ls k.val (.long v) = some Ls') (hp : pc + 1 = pc') (g : OwnGo p e below s Q rc rs (T.setTop (mkF m pc' Ls' st))) : OwnGo p e below s Q rc rs (T.setTop (mkF m pc Ls (.long v :: st))) := by
  subst hp
  exact own_step (fun _ k => XS.lstoreN X.here hx rfl hd rfl hl k) g
theorem own_astoreN (X : Stand p l e R s m args below meth c T locs cells slots) (hx : p.tables.exec = Jvm.exec) {k : Fin 4} {v : Value} (hd : decode c.code pc = .ok (.astore_n k, 1)) (hv : v.isRef = true) (hl : storeLocals Ls k.val v = some Ls') (hp : pc + 1 = pc') (g : OwnGo p e below s Q rc rs (T.setTop (mkF m pc' Ls' st))) : OwnGo p e below s Q rc rs (T.setTop (mkF m pc Ls (v :: st))) := by
  subst hp
  exact own_step (fun _ k => XS.astoreN X.here hx rfl hd rfl hv hl k) g
theorem own_iload (X : Stand p l e R s m args below meth c T locs cells slots) (hx : p.tables.exec = Jvm.exec) {k : Nat} {v : Int32} (hd : decode c.code pc = .ok (.iload k, 2)) (hl : Ls[k]? = some (.val (.int v))) (hp : pc + 2 = pc') (g : OwnGo p e below s Q rc rs (T.setTop (mkF m pc' Ls (.int v :: st)))) : OwnGo p e below s Q rc rs (T.setTop (mkF m pc Ls st)) := by
  subst hp
  exact own_step (fun _ k => XS.iload X.here hx rfl hd hl k) g
theorem own_lload (X : Stand p l e R s m args below meth c T locs cells slots) (hx : p.tables.exec = Jvm.exec) {k : Nat} {v : Int64} (hd : decode c.code pc = .ok (.lload k, 2)) (hl : Ls[k]? = some (.val (.long v))) (hp : pc + 2 = pc') (g : OwnGo p e below s Q rc rs (T.setTop (mkF m pc' Ls (.long v :: st)))) : OwnGo p e below s Q rc rs (T.setTop (mkF m pc Ls st)) := by
  subst hp
  exact own_step (fun _ k => XS.lload X.here hx rfl hd hl k) g
theorem own_aload (X : Stand p l e R s m args below meth c T locs cells slots) (hx : p.tables.exec = Jvm.exec) {k : Nat} {v : Value} (hd : decode c.code pc = .ok (.aload k, 2)) (hl : Ls[k]? = some (.val v)) (hv : v.isRef = true) (hp : pc + 2 = pc') (g : OwnGo p e below s Q rc rs (T.setTop (mkF m pc' Ls (v :: st)))) : OwnGo p e below s Q rc rs (T.setTop (mkF m pc Ls st)) := by
  subst hp
  exact own_step (fun _ k => XS.aload X.here hx rfl hd hl hv k) g
theorem own_istore (X : Stand p l e R s m args below meth c T locs cells slots) (hx : p.tables.exec = Jvm.exec) {k : Nat} {v : Int32} (hd : decode c.code pc = .ok (.istore k, 2)) (hl : storeLocals Ls k (.int v) = some Ls') (hp : pc + 2 = pc') (g : OwnGo p e below s Q rc rs (T.setTop (mkF m pc' Ls' st))) : OwnGo p e below s Q rc rs (T.setTop (mkF m pc Ls (.int v :: st))) := by
  subst hp
  exact own_step (fun _ k => XS.istore X.here hx rfl hd rfl hl k) g
theorem own_lstore (X : Stand p l e R s m args below meth c T locs cells slots) (hx : p.tables.exec = Jvm.exec) {k : Nat} {v : Int64} (hd : decode c.code pc = .ok (.lstore k, 2)) (hl : storeLocals Ls k (.long v) = some Ls') (hp : pc + 2 = pc') (g : OwnGo p e below s Q rc rs (T.setTop (mkF m pc' Ls' st))) : OwnGo p e below s Q rc rs (T.setTop (mkF m pc Ls (.long v :: st))) := by
  subst hp
  exact own_step (fun _ k => XS.lstore X.here hx rfl hd rfl hl k) g
theorem own_astore (X : Stand p l e R s m args below meth c T locs cells slots) (hx : p.tables.exec = Jvm.exec) {k : Nat} {v : Value} (hd : decode c.code pc = .ok (.astore k, 2)) (hv : v.isRef = true) (hl : storeLocals Ls k v = some Ls') (hp : pc + 2 = pc') (g : OwnGo p e below s Q rc rs (T.setTop (mkF m pc' Ls' st))) : OwnGo p e below s Q rc rs (T.setTop (mkF m pc Ls (v :: st))) := by
  subst hp
  exact own_step (fun _ k => XS.astore X.here hx rfl hd rfl hv hl k) g
theorem own_iconst (X : Stand p l e R s m args below meth c T locs cells slots) (hx : p.tables.exec = Jvm.exec) {i : Int} {z : Int32} (hd : decode c.code pc = .ok (.iconst i, 1)) (hz : Int32.ofInt i = z) (hp : pc + 1 = pc') (g : OwnGo p e below s Q rc rs (T.setTop (mkF m pc' Ls (.int z :: st)))) : OwnGo p e below s Q rc rs (T.setTop (mkF m pc Ls st)) := by
  subst hp hz
  exact own_step (fun _ k => XS.iconst X.here hx rfl hd k) g
theorem own_bipush (X : Stand p l e R s m args below meth c T locs cells slots) (hx : p.tables.exec = Jvm.exec) {i : Int} {z : Int32} (hd : decode c.code pc = .ok (.bipush i, 2)) (hz : (Int8.ofInt i).toInt32 = z) (hp : pc + 2 = pc') (g : OwnGo p e below s Q rc rs (T.setTop (mkF m pc' Ls (.int z :: st)))) : OwnGo p e below s Q rc rs (T.setTop (mkF m pc Ls st)) := by
  subst hp hz
  exact own_step (fun _ k => XS.bipush X.here hx rfl hd k) g
theorem own_sipush (X : Stand p l e R s m args below meth c T locs cells slots) (hx : p.tables.exec = Jvm.exec) {i : Int} {z : Int32} (hd : decode c.code pc = .ok (.sipush i, 3)) (hz : (Int16.ofInt i).toInt32 = z) (hp : pc + 3 = pc') (g : OwnGo p e below s Q rc rs (T.setTop (mkF m pc' Ls (.int z :: st)))) : OwnGo p e below s Q rc rs (T.setTop (mkF m pc Ls st)) := by
  subst hp hz
  exact own_step (fun _ k => XS.sipush X.here hx rfl hd k) g
theorem own_lconst (X : Stand p l e R s m args below meth c T locs cells slots) (hx : p.tables.exec = Jvm.exec) {i : Fin 2} {z : Int64} (hd : decode c.code pc = .ok (.lconst i, 1)) (hz : Int64.ofNat i = z) (hp : pc + 1 = pc') (g : OwnGo p e below s Q rc rs (T.setTop (mkF m pc' Ls (.long z :: st)))) : OwnGo p e below s Q rc rs (T.setTop (mkF m pc Ls st)) := by
  subst hp hz
  exact own_step (fun _ k => XS.lconst X.here hx rfl hd k) g
theorem own_iadd (X : Stand p l e R s m args below meth c T locs cells slots) (hx : p.tables.exec = Jvm.exec) {x y : Int32} (hd : decode c.code pc = .ok (.iadd, 1))  (hp : pc + 1 = pc') (g : OwnGo p e below s Q rc rs (T.setTop (mkF m pc' Ls (.int (x + y) :: st)))) : OwnGo p e below s Q rc rs (T.setTop (mkF m pc Ls (.int y :: .int x :: st))) := by
  subst hp
  exact own_step (fun _ k => XS.iadd X.here hx rfl hd rfl k) g
theorem own_isub (X : Stand p l e R s m args below meth c T locs cells slots) (hx : p.tables.exec = Jvm.exec) {x y : Int32} (hd : decode c.code pc = .ok (.isub, 1))  (hp : pc + 1 = pc') (g : OwnGo p e below s Q rc rs (T.setTop (mkF m pc' Ls (.int (x - y) :: st)))) : OwnGo p e below s Q rc rs (T.setTop (mkF m pc Ls (.int y :: .int x :: st))) := by
  subst hp
  exact own_step (fun _ k => XS.isub X.here hx rfl hd rfl k) g
theorem own_imul (X : Stand p l e R s m args below meth c T locs cells slots) (hx : p.tables.exec = Jvm.exec) {x y : Int32} (hd : decode c.code pc = .ok (.imul, 1))  (hp : pc + 1 = pc') (g : OwnGo p e below s Q rc rs (T.setTop (mkF m pc' Ls (.int (x * y) :: st)))) : OwnGo p e below s Q rc rs (T.setTop (mkF m pc Ls (.int y :: .int x :: st))) := by
  subst hp
  exact own_step (fun _ k => XS.imul X.here hx rfl hd rfl k) g
theorem own_iand (X : Stand p l e R s m args below meth c T locs cells slots) (hx : p.tables.exec = Jvm.exec) {x y : Int32} (hd : decode c.code pc = .ok (.iand, 1))  (hp : pc + 1 = pc') (g : OwnGo p e below s Q rc rs (T.setTop (mkF m pc' Ls (.int (x &&& y) :: st)))) : OwnGo p e below s Q rc rs (T.setTop (mkF m pc Ls (.int y :: .int x :: st))) := by
  subst hp
  exact own_step (fun _ k => XS.iand X.here hx rfl hd rfl k) g
theorem own_iushr (X : Stand p l e R s m args below meth c T locs cells slots) (hx : p.tables.exec = Jvm.exec) {x y : Int32} (hd : decode c.code pc = .ok (.iushr, 1))  (hp : pc + 1 = pc') (g : OwnGo p e below s Q rc rs (T.setTop (mkF m pc' Ls (.int (XT.ushr x y) :: st)))) : OwnGo p e below s Q rc rs (T.setTop (mkF m pc Ls (.int y :: .int x :: st))) := by
  subst hp
  exact own_step (fun _ k => XT.iushr X.here hx rfl hd rfl k) g
theorem own_ladd (X : Stand p l e R s m args below meth c T locs cells slots) (hx : p.tables.exec = Jvm.exec) {x y : Int64} (hd : decode c.code pc = .ok (.ladd, 1))  (hp : pc + 1 = pc') (g : OwnGo p e below s Q rc rs (T.setTop (mkF m pc' Ls (.long (x + y) :: st)))) : OwnGo p e below s Q rc rs (T.setTop (mkF m pc Ls (.long y :: .long x :: st))) := by
  subst hp
  exact own_step (fun _ k => XS.ladd X.here hx rfl hd rfl k) g
theorem own_lsub (X : Stand p l e R s m args below meth c T locs cells slots) (hx : p.tables.exec = Jvm.exec) {x y : Int64} (hd : decode c.code pc = .ok (.lsub, 1))  (hp : pc + 1 = pc') (g : OwnGo p e below s Q rc rs (T.setTop (mkF m pc' Ls (.long (x - y) :: st)))) : OwnGo p e below s Q rc rs (T.setTop (mkF m pc Ls (.long y :: .long x :: st))) := by
  subst hp
  exact own_step (fun _ k => XS.lsub X.here hx rfl hd rfl k) g
theorem own_land (X : Stand p l e R s m args below meth c T locs cells slots) (hx : p.tables.exec = Jvm.exec) {x y : Int64} (hd : decode c.code pc = .ok (.land, 1))  (hp : pc + 1 = pc') (g : OwnGo p e below s Q rc rs (T.setTop (mkF m pc' Ls (.long (x &&& y) :: st)))) : OwnGo p e below s Q rc rs (T.setTop (mkF m pc Ls (.long y :: .long x :: st))) := by
  subst hp
  exact own_step (fun _ k => XS.land X.here hx rfl hd rfl k) g
theorem own_lushr (X : Stand p l e R s m args below meth c T locs cells slots) (hx : p.tables.exec = Jvm.exec) {x : Int64} {y : Int32} (hd : decode c.code pc = .ok (.lushr, 1))  (hp : pc + 1 = pc') (g : OwnGo p e below s Q rc rs (T.setTop (mkF m pc' Ls (.long (XT.ushrL x y) :: st)))) : OwnGo p e below s Q rc rs (T.setTop (mkF m pc Ls (.int y :: .long x :: st))) := by
  subst hp
  exact own_step (fun _ k => XT.lushr X.here hx rfl hd rfl k) g
theorem own_lcmp (X : Stand p l e R s m args below meth c T locs cells slots) (hx : p.tables.exec = Jvm.exec) {x y : Int64} (hd : decode c.code pc = .ok (.lcmp, 1))  (hp : pc + 1 = pc') (g : OwnGo p e below s Q rc rs (T.setTop (mkF m pc' Ls (.int (XT.cmpL x y) :: st)))) : OwnGo p e below s Q rc rs (T.setTop (mkF m pc Ls (.long y :: .long x :: st))) := by
  subst hp
  exact own_step (fun _ k => XT.lcmp X.here hx rfl hd rfl k) g
theorem own_irem (X : Stand p l e R s m args below meth c T locs cells slots) (hx : p.tables.exec = Jvm.exec) {x y : Int32} (hd : decode c.code pc = .ok (.irem, 1)) (hy : y ≠ 0) (hp : pc + 1 = pc') (g : OwnGo p e below s Q rc rs (T.setTop (mkF m pc' Ls (.int (x % y) :: st)))) : OwnGo p e below s Q rc rs (T.setTop (mkF m pc Ls (.int y :: .int x :: st))) := by
  subst hp
  exact own_step (fun _ k => iremM X hx rfl hd rfl hy k) g
theorem own_idiv (X : Stand p l e R s m args below meth c T locs cells slots) (hx : p.tables.exec = Jvm.exec) {x y : Int32} (hd : decode c.code pc = .ok (.idiv, 1)) (hy : y ≠ 0) (hp : pc + 1 = pc') (g : OwnGo p e below s Q rc rs (T.setTop (mkF m pc' Ls (.int (x / y) :: st)))) : OwnGo p e below s Q rc rs (T.setTop (mkF m pc Ls (.int y :: .int x :: st))) := by
  subst hp
  exact own_step (fun _ k => XS.idiv X.here hx rfl hd rfl hy k) g
theorem own_lrem (X : Stand p l e R s m args below meth c T locs cells slots) (hx : p.tables.exec = Jvm.exec) {x y : Int64} (hd : decode c.code pc = .ok (.lrem, 1)) (hy : y ≠ 0) (hp : pc + 1 = pc') (g : OwnGo p e below s Q rc rs (T.setTop (mkF m pc' Ls (.long (x % y) :: st)))) : OwnGo p e below s Q rc rs (T.setTop (mkF m pc Ls (.long y :: .long x :: st))) := by
  subst hp
  exact own_step (fun _ k => XS.lrem X.here hx rfl hd rfl hy (by rw [lrem_mod]; exact k)) g
theorem own_i2l (X : Stand p l e R s m args below meth c T locs cells slots) (hx : p.tables.exec = Jvm.exec) {x : Int32} (hd : decode c.code pc = .ok (.i2l, 1))  (hp : pc + 1 = pc') (g : OwnGo p e below s Q rc rs (T.setTop (mkF m pc' Ls (.long x.toInt64 :: st)))) : OwnGo p e below s Q rc rs (T.setTop (mkF m pc Ls (.int x :: st))) := by
  subst hp
  exact own_step (fun _ k => XS.i2l X.here hx rfl hd rfl k) g
theorem own_l2i (X : Stand p l e R s m args below meth c T locs cells slots) (hx : p.tables.exec = Jvm.exec) {x : Int64} (hd : decode c.code pc = .ok (.l2i, 1))  (hp : pc + 1 = pc') (g : OwnGo p e below s Q rc rs (T.setTop (mkF m pc' Ls (.int x.toInt32 :: st)))) : OwnGo p e below s Q rc rs (T.setTop (mkF m pc Ls (.long x :: st))) := by
  subst hp
  exact own_step (fun _ k => XS.l2i X.here hx rfl hd rfl k) g
theorem own_i2b (X : Stand p l e R s m args below meth c T locs cells slots) (hx : p.tables.exec = Jvm.exec) {x : Int32} (hd : decode c.code pc = .ok (.i2b, 1))  (hp : pc + 1 = pc') (g : OwnGo p e below s Q rc rs (T.setTop (mkF m pc' Ls (.int x.toInt8.toInt32 :: st)))) : OwnGo p e below s Q rc rs (T.setTop (mkF m pc Ls (.int x :: st))) := by
  subst hp
  exact own_step (fun _ k => XS.i2b X.here hx rfl hd rfl k) g
theorem own_i2c (X : Stand p l e R s m args below meth c T locs cells slots) (hx : p.tables.exec = Jvm.exec) {x : Int32} (hd : decode c.code pc = .ok (.i2c, 1))  (hp : pc + 1 = pc') (g : OwnGo p e below s Q rc rs (T.setTop (mkF m pc' Ls (.int x.toUInt32.toUInt16.toUInt32.toInt32 :: st)))) : OwnGo p e below s Q rc rs (T.setTop (mkF m pc Ls (.int x :: st))) := by
  subst hp
  exact own_step (fun _ k => XS.i2c X.here hx rfl hd rfl k) g
theorem own_dup (X : Stand p l e R s m args below meth c T locs cells slots) (hx : p.tables.exec = Jvm.exec) {x : Value} (hd : decode c.code pc = .ok (.dup, 1)) (hc : x.category = 1) (hp : pc + 1 = pc') (g : OwnGo p e below s Q rc rs (T.setTop (mkF m pc' Ls (x :: x :: st)))) : OwnGo p e below s Q rc rs (T.setTop (mkF m pc Ls (x :: st))) := by
  subst hp
  exact own_step (fun _ k => XS.dup X.here hx rfl hd rfl hc k) g
theorem own_aconst_null (X : Stand p l e R s m args below meth c T locs cells slots) (hx : p.tables.exec = Jvm.exec)  (hd : decode c.code pc = .ok (.aconst_null, 1))  (hp : pc + 1 = pc') (g : OwnGo p e below s Q rc rs (T.setTop (mkF m pc' Ls (.null :: st)))) : OwnGo p e below s Q rc rs (T.setTop (mkF m pc Ls st)) := by
  subst hp
  exact own_step (fun _ k => XS.aconstNull X.here hx rfl hd k) g
theorem own_iinc (X : Stand p l e R s m args below meth c T locs cells slots) (hx : p.tables.exec = Jvm.exec) {k : Nat} {cst : Int} {x z : Int32} (hd : decode c.code pc = .ok (.iinc k cst, 3)) (hl : Ls[k]? = some (.val (.int x))) (hz : x + Int32.ofInt cst = z) (hl' : storeLocals Ls k (.int z) = some Ls') (hp : pc + 3 = pc') (g : OwnGo p e below s Q rc rs (T.setTop (mkF m pc' Ls' st))) : OwnGo p e below s Q rc rs (T.setTop (mkF m pc Ls st)) := by
  subst hp hz
  exact own_step (fun _ k => XS.iinc X.here hx rfl hd hl hl' k) g
theorem own_ldcI (X : Stand p l e R s m args below meth c T locs cells slots) (hx : p.tables.exec = Jvm.exec) (hZ : Z.Warmed39 s.vm) (hown : s.vm.findClass own = some m.cls) {v : Int32} (w : (Cond.constant own index v).before a0 Z = true) (hd : decode c.code pc = .ok (.ldc index, 2))  (hp : pc + 2 = pc') (g : OwnGo p e below s Q rc rs (T.setTop (mkF m pc' Ls (.int v :: st)))) : OwnGo p e below s Q rc rs (T.setTop (mkF m pc Ls st)) := by
  subst hp
  exact own_step (fun _ k => X.ldcInt hx hown (mvT hZ w) (g := mkF m pc Ls st) rfl hd _ k) g
theorem own_ldcJ (X : Stand p l e R s m args below meth c T locs cells slots) (hx : p.tables.exec = Jvm.exec) (hZ : Z.Warmed39 s.vm) (hown : s.vm.findClass own = some m.cls) {v : Int64} (w : (Cond.constantLong own index v).before a0 Z = true) (hd : decode c.code pc = .ok (.ldc2_w index, 3))  (hp : pc + 3 = pc') (g : OwnGo p e below s Q rc rs (T.setTop (mkF m pc' Ls (.long v :: st)))) : OwnGo p e below s Q rc rs (T.setTop (mkF m pc Ls st)) := by
  subst hp
  exact own_step (fun _ k => X.ldc2Long hx hown (mvT hZ w) (g := mkF m pc Ls st) rfl hd _ k) g
theorem own_goto (X : Stand p l e R s m args below meth c T locs cells slots) (hx : p.tables.exec = Jvm.exec) {o : Int} (hd : decode c.code pc = .ok (.goto o, 3)) (hp : (pc : Int) + o = (pc' : Int)) (g : OwnGo p e below s Q rc rs (T.setTop (mkF m pc' Ls st))) : OwnGo p e below s Q rc rs (T.setTop (mkF m pc Ls st)) :=
  own_step (fun _ k => XS.goto X.here hx rfl (pc0 := pc) rfl hd (by omega) (by omega) k) g
theorem own_icmp_lt (X : Stand p l e R s m args below meth c T locs cells slots) (hx : p.tables.exec = Jvm.exec) {x y : Int32} {o : Int} {pc1 pc2 : Nat} (hd : decode c.code pc = .ok (.if_icmp .lt o, 3)) (h1 : pc + 3 = pc1) (h2 : (pc : Int) + o = (pc2 : Int)) (gT : x < y → OwnGo p e below s Q rc rs (T.setTop (mkF m pc2 Ls st))) (gF : ¬ x < y → OwnGo p e below s Q rc rs (T.setTop (mkF m pc1 Ls st))) : OwnGo p e below s Q rc rs (T.setTop (mkF m pc Ls (.int y :: .int x :: st))) := by
  subst h1
  by_cases q : x < y
  · exact own_step (fun _ k => XS.icmpYes X.here hx rfl (pc0 := pc) rfl hd rfl (tlt q).1 (by omega) (by omega) k) (gT q)
  · exact own_step (fun _ k => XS.icmpNo X.here hx rfl hd rfl (flt q).1 k) (gF q)
theorem own_if_lt (X : Stand p l e R s m args below meth c T locs cells slots) (hx : p.tables.exec = Jvm.exec) {x : Int32} {o : Int} {pc1 pc2 : Nat} (hd : decode c.code pc = .ok (.ifCond .lt o, 3)) (h1 : pc + 3 = pc1) (h2 : (pc : Int) + o = (pc2 : Int)) (gT : x < 0 → OwnGo p e below s Q rc rs (T.setTop (mkF m pc2 Ls st))) (gF : ¬ x < 0 → OwnGo p e below s Q rc rs (T.setTop (mkF m pc1 Ls st))) : OwnGo p e below s Q rc rs (T.setTop (mkF m pc Ls (.int x :: st))) := by
  subst h1
  by_cases q : x < 0
  · exact own_step (fun _ k => XS.ifYes X.here hx rfl (pc0 := pc) rfl hd rfl ((if0 _ _).trans (tlt q).1) (by omega) (by omega) k) (gT q)
  · exact own_step (fun _ k => XS.ifNo X.here hx rfl hd rfl ((if0 _ _).trans (flt q).1) k) (gF q)
theorem own_icmp_ge (X : Stand p l e R s m args below meth c T locs cells slots) (hx : p.tables.exec = Jvm.exec) {x y : Int32} {o : Int} {pc1 pc2 : Nat} (hd : decode c.code pc = .ok (.if_icmp .ge o, 3)) (h1 : pc + 3 = pc1) (h2 : (pc : Int) + o = (pc2 : Int)) (gT : ¬ x < y → OwnGo p e below s Q rc rs (T.setTop (mkF m pc2 Ls st))) (gF : x < y → OwnGo p e below s Q rc rs (T.setTop (mkF m pc1 Ls st))) : OwnGo p e below s Q rc rs (T.setTop (mkF m pc Ls (.int y :: .int x :: st))) := by
  subst h1
  by_cases q : x < y
  · exact own_step (fun _ k => XS.icmpNo X.here hx rfl hd rfl (tlt q).2.1 k) (gF q)
  · exact own_step (fun _ k => XS.icmpYes X.here hx rfl (pc0 := pc) rfl hd rfl (flt q).2.1 (by omega) (by omega) k) (gT q)
theorem own_if_ge (X : Stand p l e R s m args below meth c T locs cells slots) (hx : p.tables.exec = Jvm.exec) {x : Int32} {o : Int} {pc1 pc2 : Nat} (hd : decode c.code pc = .ok (.ifCond .ge o, 3)) (h1 : pc + 3 = pc1) (h2 : (pc : Int) + o = (pc2 : Int)) (gT : ¬ x < 0 → OwnGo p e below s Q rc rs (T.setTop (mkF m pc2 Ls st))) (gF : x < 0 → OwnGo p e below s Q rc rs (T.setTop (mkF m pc1 Ls st))) : OwnGo p e below s Q rc rs (T.setTop (mkF m pc Ls (.int x :: st))) := by
  subst h1
  by_cases q : x < 0
  · exact own_step (fun _ k => XS.ifNo X.here hx rfl hd rfl ((if0 _ _).trans (tlt q).2.1) k) (gF q)
  · exact own_step (fun _ k => XS.ifYes X.here hx rfl (pc0 := pc) rfl hd rfl ((if0 _ _).trans (flt q).2.1) (by omega) (by omega) k) (gT q)
theorem own_icmp_gt (X : Stand p l e R s m args below meth c T locs cells slots) (hx : p.tables.exec = Jvm.exec) {x y : Int32} {o : Int} {pc1 pc2 : Nat} (hd : decode c.code pc = .ok (.if_icmp .gt o, 3)) (h1 : pc + 3 = pc1) (h2 : (pc : Int) + o = (pc2 : Int)) (gT : y < x → OwnGo p e below s Q rc rs (T.setTop (mkF m pc2 Ls st))) (gF : ¬ y < x → OwnGo p e below s Q rc rs (T.setTop (mkF m pc1 Ls st))) : OwnGo p e below s Q rc rs (T.setTop (mkF m pc Ls (.int y :: .int x :: st))) := by
  subst h1
  by_cases q : y < x
  · exact own_step (fun _ k => XS.icmpYes X.here hx rfl (pc0 := pc) rfl hd rfl (tlt q).2.2.1 (by omega) (by omega) k) (gT q)
  · exact own_step (fun _ k => XS.icmpNo X.here hx rfl hd rfl (flt q).2.2.1 k) (gF q)
theorem own_if_gt (X : Stand p l e R s m args below meth c T locs cells slots) (hx : p.tables.exec = Jvm.exec) {x : Int32} {o : Int} {pc1 pc2 : Nat} (hd : decode c.code pc = .ok (.ifCond .gt o, 3)) (h1 : pc + 3 = pc1) (h2 : (pc : Int) + o = (pc2 : Int)) (gT : 0 < x → OwnGo p e below s Q rc rs (T.setTop (mkF m pc2 Ls st))) (gF : ¬ 0 < x → OwnGo p e below s Q rc rs (T.setTop (mkF m pc1 Ls st))) : OwnGo p e below s Q rc rs (T.setTop (mkF m pc Ls (.int x :: st))) := by
  subst h1
  by_cases q : 0 < x
  · exact own_step (fun _ k => XS.ifYes X.here hx rfl (pc0 := pc) rfl hd rfl ((if0 _ _).trans (tlt q).2.2.1) (by omega) (by omega) k) (gT q)
  · exact own_step (fun _ k => XS.ifNo X.here hx rfl hd rfl ((if0 _ _).trans (flt q).2.2.1) k) (gF q)
theorem own_icmp_le (X : Stand p l e R s m args below meth c T locs cells slots) (hx : p.tables.exec = Jvm.exec) {x y : Int32} {o : Int} {pc1 pc2 : Nat} (hd : decode c.code pc = .ok (.if_icmp .le o, 3)) (h1 : pc + 3 = pc1) (h2 : (pc : Int) + o = (pc2 : Int)) (gT : ¬ y < x → OwnGo p e below s Q rc rs (T.setTop (mkF m pc2 Ls st))) (gF : y < x → OwnGo p e below s Q rc rs (T.setTop (mkF m pc1 Ls st))) : OwnGo p e below s Q rc rs (T.setTop (mkF m pc Ls (.int y :: .int x :: st))) := by
  subst h1
  by_cases q : y < x
  · exact own_step (fun _ k => XS.icmpNo X.here hx rfl hd rfl (tlt q).2.2.2 k) (gF q)
  · exact own_step (fun _ k => XS.icmpYes X.here hx rfl (pc0 := pc) rfl hd rfl (flt q).2.2.2 (by omega) (by omega) k) (gT q)
theorem own_if_le (X : Stand p l e R s m args below meth c T locs cells slots) (hx : p.tables.exec = Jvm.exec) {x : Int32} {o : Int} {pc1 pc2 : Nat} (hd : decode c.code pc = .ok (.ifCond .le o, 3)) (h1 : pc + 3 = pc1) (h2 : (pc : Int) + o = (pc2 : Int)) (gT : ¬ 0 < x → OwnGo p e below s Q rc rs (T.setTop (mkF m pc2 Ls st))) (gF : 0 < x → OwnGo p e below s Q rc rs (T.setTop (mkF m pc1 Ls st))) : OwnGo p e below s Q rc rs (T.setTop (mkF m pc Ls (.int x :: st))) := by
  subst h1
  by_cases q : 0 < x
  · exact own_step (fun _ k => XS.ifNo X.here hx rfl hd rfl ((if0 _ _).trans (tlt q).2.2.2) k) (gF q)
  · exact own_step (fun _ k => XS.ifYes X.here hx rfl (pc0 := pc) rfl hd rfl ((if0 _ _).trans (flt q).2.2.2) (by omega) (by omega) k) (gT q)
theorem own_icmp_eq (X : Stand p l e R s m args below meth c T locs cells slots) (hx : p.tables.exec = Jvm.exec) {x y : Int32} {o : Int} {pc1 pc2 : Nat} (hd : decode c.code pc = .ok (.if_icmp .eq o, 3)) (h1 : pc + 3 = pc1) (h2 : (pc : Int) + o = (pc2 : Int)) (gT : x = y → OwnGo p e below s Q rc rs (T.setTop (mkF m pc2 Ls st))) (gF : ¬ x = y → OwnGo p e below s Q rc rs (T.setTop (mkF m pc1 Ls st))) : OwnGo p e below s Q rc rs (T.setTop (mkF m pc Ls (.int y :: .int x :: st))) := by
  subst h1
  by_cases q : x = y
  · exact own_step (fun _ k => XS.icmpYes X.here hx rfl (pc0 := pc) rfl hd rfl (teq q).1 (by omega) (by omega) k) (gT q)
  · exact own_step (fun _ k => XS.icmpNo X.here hx rfl hd rfl (feq q).1 k) (gF q)
theorem own_if_eq (X : Stand p l e R s m args below meth c T locs cells slots) (hx : p.tables.exec = Jvm.exec) {x : Int32} {o : Int} {pc1 pc2 : Nat} (hd : decode c.code pc = .ok (.ifCond .eq o, 3)) (h1 : pc + 3 = pc1) (h2 : (pc : Int) + o = (pc2 : Int)) (gT : x = 0 → OwnGo p e below s Q rc rs (T.setTop (mkF m pc2 Ls st))) (gF : ¬ x = 0 → OwnGo p e below s Q rc rs (T.setTop (mkF m pc1 Ls st))) : OwnGo p e below s Q rc rs (T.setTop (mkF m pc Ls (.int x :: st))) := by
  subst h1
  by_cases q : x = 0
  · exact own_step (fun _ k => XS.ifYes X.here hx rfl (pc0 := pc) rfl hd rfl ((if0 _ _).trans (teq q).1) (by omega) (by omega) k) (gT q)
  · exact own_step (fun _ k => XS.ifNo X.here hx rfl hd rfl ((if0 _ _).trans (feq q).1) k) (gF q)
theorem own_icmp_ne (X : Stand p l e R s m args below meth c T locs cells slots) (hx : p.tables.exec = Jvm.exec) {x y : Int32} {o : Int} {pc1 pc2 : Nat} (hd : decode c.code pc = .ok (.if_icmp .ne o, 3)) (h1 : pc + 3 = pc1) (h2 : (pc : Int) + o = (pc2 : Int)) (gT : ¬ x = y → OwnGo p e below s Q rc rs (T.setTop (mkF m pc2 Ls st))) (gF : x = y → OwnGo p e below s Q rc rs (T.setTop (mkF m pc1 Ls st))) : OwnGo p e below s Q rc rs (T.setTop (mkF m pc Ls (.int y :: .int x :: st))) := by
  subst h1
  by_cases q : x = y
  · exact own_step (fun _ k => XS.icmpNo X.here hx rfl hd rfl (teq q).2 k) (gF q)
  · exact own_step (fun _ k => XS.icmpYes X.here hx rfl (pc0 := pc) rfl hd rfl (feq q).2 (by omega) (by omega) k) (gT q)
theorem own_if_ne (X : Stand p l e R s m args below meth c T locs cells slots) (hx : p.tables.exec = Jvm.exec) {x : Int32} {o : Int} {pc1 pc2 : Nat} (hd : decode c.code pc = .ok (.ifCond .ne o, 3)) (h1 : pc + 3 = pc1) (h2 : (pc : Int) + o = (pc2 : Int)) (gT : ¬ x = 0 → OwnGo p e below s Q rc rs (T.setTop (mkF m pc2 Ls st))) (gF : x = 0 → OwnGo p e below s Q rc rs (T.setTop (mkF m pc1 Ls st))) : OwnGo p e below s Q rc rs (T.setTop (mkF m pc Ls (.int x :: st))) := by
  subst h1
  by_cases q : x = 0
  · exact own_step (fun _ k => XS.ifNo X.here hx rfl hd rfl ((if0 _ _).trans (teq q).2) k) (gF q)
  · exact own_step (fun _ k => XS.ifYes X.here hx rfl (pc0 := pc) rfl hd rfl ((if0 _ _).trans (feq q).2) (by omega) (by omega) k) (gT q)
theorem own_ifnullY (X : Stand p l e R s m args below meth c T locs cells slots) (hx : p.tables.exec = Jvm.exec) {o : Int} {pc2 : Nat} (hd : decode c.code pc = .ok (.ifnull o, 3)) (h2 : (pc : Int) + o = (pc2 : Int)) (g : OwnGo p e below s Q rc rs (T.setTop (mkF m pc2 Ls st))) : OwnGo p e below s Q rc rs (T.setTop (mkF m pc Ls (.null :: st))) :=
  own_step (fun _ k => XS.ifnullYes X.here hx rfl (pc0 := pc) rfl hd rfl (by omega) (by omega) k) g
theorem own_ifnullN (X : Stand p l e R s m args below meth c T locs cells slots) (hx : p.tables.exec = Jvm.exec) {o : Int} {b : Addr} (hd : decode c.code pc = .ok (.ifnull o, 3))  (hp : pc + 3 = pc') (g : OwnGo p e below s Q rc rs (T.setTop (mkF m pc' Ls st))) : OwnGo p e below s Q rc rs (T.setTop (mkF m pc Ls (.ref b :: st))) := by
  subst hp
  exact own_step (fun _ k => XS.ifnullNo X.here hx rfl hd rfl k) g
theorem own_retI (X : Stand p l e R s m args below meth c T locs cells slots) (hx : p.tables.exec = Jvm.exec) (eT : T.heap = h) {z : Int32} (hret : meth.sig.returnType = some .int) (hlk : meth.locks = false) (hc : cells ≤ rc) (hs : slots ≤ rs) (hd : decode c.code pc = .ok (.ireturn, 1)) (hQ : Q (some (.int z)) h locs) : OwnGo p e below s Q rc rs (T.setTop (mkF m pc Ls (.int z :: st))) := by
  subst eT
  obtain ⟨fs, hr, hrun, hended, hW, hsame⟩ := X.leave (v := some (.int z)) (fun h => by rw [hret] at h; cases h) hlk
  exact ⟨_, _, retOut X hx hret rfl (Or.inl ⟨rfl, Or.inl rfl, _, rfl⟩) hd hr, hrun, hended, _, _, rfl, hQ, ⟨_, rfl⟩, hW, hsame.mono hc hs⟩
theorem own_retZ (X : Stand p l e R s m args below meth c T locs cells slots) (hx : p.tables.exec = Jvm.exec) (eT : T.heap = h) {z : Int32} (hret : meth.sig.returnType = some .boolean) (hlk : meth.locks = false) (hc : cells ≤ rc) (hs : slots ≤ rs) (hd : decode c.code pc = .ok (.ireturn, 1)) (hQ : Q (some (.int (nar .boolean z))) h locs) : OwnGo p e below s Q rc rs (T.setTop (mkF m pc Ls (.int z :: st))) := by
  subst eT
  obtain ⟨fs, hr, hrun, hended, hW, hsame⟩ := X.leave (v := some (.int (nar .boolean z))) (fun h => by rw [hret] at h; cases h) hlk
  exact ⟨_, _, retN X hx (t := .boolean) hret (by simp) hd hr, hrun, hended, _, _, rfl, hQ, ⟨_, rfl⟩, hW, hsame.mono hc hs⟩
theorem own_retJ (X : Stand p l e R s m args below meth c T locs cells slots) (hx : p.tables.exec = Jvm.exec) (eT : T.heap = h) {z : Int64} (hret : meth.sig.returnType = some .long) (hlk : meth.locks = false) (hc : cells ≤ rc) (hs : slots ≤ rs) (hd : decode c.code pc = .ok (.lreturn, 1)) (hQ : Q (some (.long z)) h locs) : OwnGo p e below s Q rc rs (T.setTop (mkF m pc Ls (.long z :: st))) := by
  subst eT
  obtain ⟨fs, hr, hrun, hended, hW, hsame⟩ := X.leave (v := some (.long z)) (fun h => by rw [hret] at h; cases h) hlk
  exact ⟨_, _, retOut X hx hret rfl (Or.inr (Or.inl ⟨rfl, rfl, _, rfl⟩)) hd hr, hrun, hended, _, _, rfl, hQ, ⟨_, rfl⟩, hW, hsame.mono hc hs⟩
theorem own_retA (X : Stand p l e R s m args below meth c T locs cells slots) (hx : p.tables.exec = Jvm.exec) (eT : T.heap = h) {z : Addr} {t : FieldType} (ht : t.isReference = true) (hret : meth.sig.returnType = some t) (hlk : meth.locks = false) (hc : cells ≤ rc) (hs : slots ≤ rs) (hd : decode c.code pc = .ok (.areturn, 1)) (hQ : Q (some (.ref z)) h locs) : OwnGo p e below s Q rc rs (T.setTop (mkF m pc Ls (.ref z :: st))) := by
  subst eT
  obtain ⟨fs, hr, hrun, hended, hW, hsame⟩ := X.leave (v := some (.ref z)) (fun h => by rw [hret] at h; cases h) hlk
  exact ⟨_, _, retOut X hx hret (by cases t <;> first | rfl | cases ht) (Or.inr (Or.inr (Or.inr (Or.inr ⟨rfl, ht, rfl⟩)))) hd hr, hrun, hended, _, _, rfl, hQ, ⟨_, rfl⟩, hW, hsame.mono hc hs⟩
theorem own_retV (X : Stand p l e R s m args below meth c T locs cells slots) (hx : p.tables.exec = Jvm.exec) (eT : T.heap = h)  (hret : meth.sig.returnType = none) (hlk : meth.locks = false) (hc : cells ≤ rc) (hs : slots ≤ rs) (hd : decode c.code pc = .ok (.return_, 1)) (hQ : Q (none) h locs) : OwnGo p e below s Q rc rs (T.setTop (mkF m pc Ls [])) := by
  subst eT
  obtain ⟨fs, hr, hrun, hended, hW, hsame⟩ := X.leave (v := none) (fun _ => rfl) hlk
  exact ⟨_, _, X.returnOut hx hret hd hr, hrun, hended, _, _, rfl, hQ, ⟨_, rfl⟩, hW, hsame.mono hc hs⟩
theorem own_getF (X : Stand p l e R s m args below meth c T locs cells slots) (hx : p.tables.exec = Jvm.exec) (hZ : Z.Warmed39 s.vm) (hown : s.vm.findClass own = some m.cls) {n d O : String} (w : (Cond.fieldLink own index O n d).before a0 Z = true) (eT : T.heap = h) {a : Addr} {v : Value} (F : Fld Z h a O n d v) (hd : decode c.code pc = .ok (.getfield index, 3))  (hp : pc + 3 = pc')
    (g : ∀ T', Stand p l e R s m args below meth c T' locs cells slots → T'.heap = h → OwnGo p e below s Q rc rs (T'.setTop (mkF m pc' Ls (v :: st)))) : OwnGo p e below s Q rc rs (T.setTop (mkF m pc Ls (.ref a :: st))) := by
  subst hp
  obtain ⟨T', X', e', k⟩ := getF X hx hZ hown (host := "") (Or.inl w) Via.refl eT F (g := mkF m pc Ls (.ref a :: st)) rfl rfl hd
  exact own_step k (g T' X' e')
theorem own_putF (X : Stand p l e R s m args below meth c T locs cells slots) (hx : p.tables.exec = Jvm.exec) (hZ : Z.Warmed39 s.vm) (hown : s.vm.findClass own = some m.cls) {n d O C : String} {kk : Nat} {ty : FieldType} (w : (Cond.fieldLink own index O n d).before a0 Z = true) (eT : T.heap = h) {a : Addr} {v v' old : Value} (F : Fld Z h a O n d old) (E : Exa Z h a C) (L : (Cond.lays C O n d).before a0 Z = true ∨ ((Cond.laysFinal C O n d).before a0 Z = true ∧ own = O ∧ meth.name = "<init>")) (wi : (Cond.instantiable C kk).before a0 Z = true) (hty : parseFieldDescriptor d = some ty) (hn : narrow ty v = v') (hf : fits ty v' = true) (hd : decode c.code pc = .ok (.putfield index, 3))  (hp : pc + 3 = pc')
    (g : ∀ T' h', Stand p l e R s m args below meth c T' (locs ++ [⟨a, Jvm.RoadKit.slotOf Z O n d⟩]) cells slots → T'.heap = h' → Wr h h' a (Jvm.RoadKit.slotOf Z O n d) v' → OwnGo p e below s Q rc rs (T'.setTop (mkF m pc' Ls st))) : OwnGo p e below s Q rc rs (T.setTop (mkF m pc Ls (v :: .ref a :: st))) := by
  subst hp
  obtain ⟨T', h', X', e', W, k⟩ := putFN X hx hZ hown w Via.refl eT F E L wi hty hn hf (g := mkF m pc Ls (v :: .ref a :: st)) rfl rfl hd
  exact own_step k (g T' h' X' e' W)
theorem own_newO (X : Stand p l e R s m args below meth c T locs cells slots) (hx : p.tables.exec = Jvm.exec) (hZ : Z.Warmed39 s.vm) (hown : s.vm.findClass own = some m.cls) {C : String} {n : Nat} (w : (Cond.classLink own index C).before a0 Z = true) (wi : (Cond.instantiable C n).before a0 Z = true) (wz : (Cond.initialized C).before a0 Z = true) (eT : T.heap = h) (hc : cells + 1 ≤ R.cells) (hl : slots + n ≤ R.slots) (hd : decode c.code pc = .ok (.new index, 3))  (hp : pc + 3 = pc')
    (g : ∀ T' h' b, b = h.size → Stand p l e R s m args below meth c T' locs (cells + 1) (slots + n) → T'.heap = h' → Ext h h' → Exa Z h' b C → (∀ {O nm d : String} {ty : FieldType}, Laid Z a0 C O nm d → parseFieldDescriptor d = some ty → Fld Z h' b O nm d (defaultValue ty)) → OwnGo p e below s Q rc rs (T'.setTop (mkF m pc' Ls (.ref b :: st)))) : OwnGo p e below s Q rc rs (T.setTop (mkF m pc Ls st)) := by
  subst hp
  obtain ⟨T', h', X', e', E', A', D', -, k⟩ := newO X hx hZ hown w wi wz eT (g := mkF m pc Ls st) rfl hd hc hl
  exact own_step k (g T' h' _ rfl X' e' E' A' (fun {_ _ _ _} => D'))
theorem own_newP (X : Stand p l e R s m args below meth c T locs cells slots) (hx : p.tables.exec = Jvm.exec) (hZ : Z.Warmed39 s.vm) {aty : ArrayType} (w : (Cond.arrayClass (newarray.typeOf aty)).before a0 Z = true) (eT : T.heap = h) {n : Int32} (hn : ¬ n < 0) {cap : Nat} (hcap : n.toNatClampNeg ≤ cap) (hb : cap * 8 ≤ 536870912) (hc : cells + 1 ≤ R.cells) (hl : slots + cap ≤ R.slots) {ad : String} (had : "[" ++ (newarray.typeOf aty).toString = ad) (hd : decode c.code pc = .ok (.newarray aty, 2))  (hp : pc + 2 = pc')
    (g : ∀ T' h' b k, b = h.size → Stand p l e R s m args below meth c T' locs (cells + 1) (slots + cap) → T'.heap = h' → Ext h h' → Arr Z h' b (newA k (newarray.typeOf aty) n) (newarray.typeOf aty) → Exa Z h' b ad → OwnGo p e below s Q rc rs (T'.setTop (mkF m pc' Ls (.ref b :: st)))) : OwnGo p e below s Q rc rs (T.setTop (mkF m pc Ls (.int n :: st))) := by
  subst hp
  obtain ⟨T', h', k', X', e', E', A', B', k⟩ := newPE X hx hZ w eT (g := mkF m pc Ls (.int n :: st)) rfl hd rfl hn hcap hb hc hl had
  exact own_step k (g T' h' _ k' rfl X' e' E' A' B')
theorem own_newR (X : Stand p l e R s m args below meth c T locs cells slots) (hx : p.tables.exec = Jvm.exec) (hZ : Z.Warmed39 s.vm) (hown : s.vm.findClass own = some m.cls) {C : String} (w1 : (Cond.classLink own index C).before a0 Z = true) (w2 : (Cond.arrayOver (.object C)).before a0 Z = true) (eT : T.heap = h) {n : Int32} (hn : ¬ n < 0) {cap : Nat} (hcap : n.toNatClampNeg ≤ cap) (hb : cap * 8 ≤ 536870912) (hc : cells + 1 ≤ R.cells) (hl : slots + cap ≤ R.slots) (hd : decode c.code pc = .ok (.anewarray index, 3))  (hp : pc + 3 = pc')
    (g : ∀ T' h' b, b = h.size → Stand p l e R s m args below meth c T' locs (cells + 1) (slots + cap) → T'.heap = h' → Ext h h' → OwnGo p e below s Q rc rs (T'.setTop (mkF m pc' Ls (.ref b :: st)))) : OwnGo p e below s Q rc rs (T.setTop (mkF m pc Ls (.int n :: st))) := by
  subst hp
  obtain ⟨T', h', k', X', e', E', A', -, k⟩ := newR X hx hZ hown w1 w2 eT (g := mkF m pc Ls (.int n :: st)) rfl hd rfl hn hcap hb hc hl
  exact own_step k (g T' h' _ rfl X' e' E')
theorem own_iastore (X : Stand p l e R s m args below meth c T locs cells slots) (hx : p.tables.exec = Jvm.exec) (hZ : Z.Warmed39 s.vm) (eT : T.heap = h) {a : Addr} {cl : Cell} (A : Arr Z h a cl .int) {j : Int32} {x : Int32} (hj : ¬ (j < 0 ∨ cl.slots.size ≤ j.toNatClampNeg)) (hd : decode c.code pc = .ok (.iastore, 1))  (hp : pc + 1 = pc')
    (g : ∀ T' h', Stand p l e R s m args below meth c T' (locs ++ [⟨a, j.toNatClampNeg⟩]) cells slots → T'.heap = h' → Wr h h' a j.toNatClampNeg (.int x) → OwnGo p e below s Q rc rs (T'.setTop (mkF m pc' Ls st))) : OwnGo p e below s Q rc rs (T.setTop (mkF m pc Ls (.int x :: .int j :: .ref a :: st))) := by
  subst hp
  obtain ⟨T', h', X', e', W, k⟩ := stI X hx hZ eT A hj (g := mkF m pc Ls (.int x :: .int j :: .ref a :: st)) rfl rfl hd
  exact own_step k (g T' h' X' e' W)
theorem own_castore (X : Stand p l e R s m args below meth c T locs cells slots) (hx : p.tables.exec = Jvm.exec) (hZ : Z.Warmed39 s.vm) (eT : T.heap = h) {a : Addr} {cl : Cell} (A : Arr Z h a cl .char) {j : Int32} {x : Int32} (hj : ¬ (j < 0 ∨ cl.slots.size ≤ j.toNatClampNeg)) (hd : decode c.code pc = .ok (.castore, 1))  (hp : pc + 1 = pc')
    (g : ∀ T' h', Stand p l e R s m args below meth c T' (locs ++ [⟨a, j.toNatClampNeg⟩]) cells slots → T'.heap = h' → Wr h h' a j.toNatClampNeg (.int (nar .char x)) → OwnGo p e below s Q rc rs (T'.setTop (mkF m pc' Ls st))) : OwnGo p e below s Q rc rs (T.setTop (mkF m pc Ls (.int x :: .int j :: .ref a :: st))) := by
  subst hp
  obtain ⟨T', h', X', e', W, k⟩ := stC X hx hZ eT A hj (g := mkF m pc Ls (.int x :: .int j :: .ref a :: st)) rfl rfl hd
  exact own_step k (g T' h' X' e' W)
theorem own_bastore (X : Stand p l e R s m args below meth c T locs cells slots) (hx : p.tables.exec = Jvm.exec) (hZ : Z.Warmed39 s.vm) (eT : T.heap = h) {a : Addr} {cl : Cell} (A : Arr Z h a cl .byte) {j : Int32} {x : Int32} (hj : ¬ (j < 0 ∨ cl.slots.size ≤ j.toNatClampNeg)) (hd : decode c.code pc = .ok (.bastore, 1))  (hp : pc + 1 = pc')
    (g : ∀ T' h', Stand p l e R s m args below meth c T' (locs ++ [⟨a, j.toNatClampNeg⟩]) cells slots → T'.heap = h' → Wr h h' a j.toNatClampNeg (.int (nar .byte x)) → OwnGo p e below s Q rc rs (T'.setTop (mkF m pc' Ls st))) : OwnGo p e below s Q rc rs (T.setTop (mkF m pc Ls (.int x :: .int j :: .ref a :: st))) := by
  subst hp
  obtain ⟨T', h', X', e', W, k⟩ := stB X hx hZ eT A hj (g := mkF m pc Ls (.int x :: .int j :: .ref a :: st)) rfl rfl hd
  exact own_step k (g T' h' X' e' W)
theorem own_zastore (X : Stand p l e R s m args below meth c T locs cells slots) (hx : p.tables.exec = Jvm.exec) (hZ : Z.Warmed39 s.vm) (eT : T.heap = h) {a : Addr} {cl : Cell} (A : Arr Z h a cl .boolean) {j : Int32} {x : Int32} (hj : ¬ (j < 0 ∨ cl.slots.size ≤ j.toNatClampNeg)) (hd : decode c.code pc = .ok (.bastore, 1))  (hp : pc + 1 = pc')
    (g : ∀ T' h', Stand p l e R s m args below meth c T' (locs ++ [⟨a, j.toNatClampNeg⟩]) cells slots → T'.heap = h' → Wr h h' a j.toNatClampNeg (.int (nar .boolean x)) → OwnGo p e below s Q rc rs (T'.setTop (mkF m pc' Ls st))) : OwnGo p e below s Q rc rs (T.setTop (mkF m pc Ls (.int x :: .int j :: .ref a :: st))) := by
  subst hp
  obtain ⟨T', h', X', e', W, k⟩ := stZ X hx hZ eT A hj (g := mkF m pc Ls (.int x :: .int j :: .ref a :: st)) rfl rfl hd
  exact own_step k (g T' h' X' e' W)
theorem own_lastore (X : Stand p l e R s m args below meth c T locs cells slots) (hx : p.tables.exec = Jvm.exec) (hZ : Z.Warmed39 s.vm) (eT : T.heap = h) {a : Addr} {cl : Cell} (A : Arr Z h a cl .long) {j : Int32} {x : Int64} (hj : ¬ (j < 0 ∨ cl.slots.size ≤ j.toNatClampNeg)) (hd : decode c.code pc = .ok (.lastore, 1))  (hp : pc + 1 = pc')
    (g : ∀ T' h', Stand p l e R s m args below meth c T' (locs ++ [⟨a, j.toNatClampNeg⟩]) cells slots → T'.heap = h' → Wr h h' a j.toNatClampNeg (.long x) → OwnGo p e below s Q rc rs (T'.setTop (mkF m pc' Ls st))) : OwnGo p e below s Q rc rs (T.setTop (mkF m pc Ls (.long x :: .int j :: .ref a :: st))) := by
  subst hp
  obtain ⟨T', h', X', e', W, k⟩ := stJ X hx hZ eT A hj (g := mkF m pc Ls (.long x :: .int j :: .ref a :: st)) rfl rfl hd
  exact own_step k (g T' h' X' e' W)
theorem own_iaload (X : Stand p l e R s m args below meth c T locs cells slots) (hx : p.tables.exec = Jvm.exec) (hZ : Z.Warmed39 s.vm) (eT : T.heap = h) {a : Addr} {cl : Cell} {v : Value} (A : Arr Z h a cl .int) {j : Int32} (hj : ¬ (j < 0 ∨ cl.slots.size ≤ j.toNatClampNeg)) (hv : cl.slots[j.toNatClampNeg]? = some v) (hd : decode c.code pc = .ok (.iaload, 1))  (hp : pc + 1 = pc') (g : OwnGo p e below s Q rc rs (T.setTop (mkF m pc' Ls (v :: st)))) : OwnGo p e below s Q rc rs (T.setTop (mkF m pc Ls (.int j :: .ref a :: st))) := by
  subst hp
  exact own_step (fun _ k => X.iaload hx (j := j) (v := v) (by rw [eT]; exact A.1) (State.isArrayOf_alike hZ.alike A.2.1) A.2.2 hj hv (g := mkF m pc Ls (.int j :: .ref a :: st)) rfl rfl hd _ k) g
theorem own_caload (X : Stand p l e R s m args below meth c T locs cells slots) (hx : p.tables.exec = Jvm.exec) (hZ : Z.Warmed39 s.vm) (eT : T.heap = h) {a : Addr} {cl : Cell} {v : Value} (A : Arr Z h a cl .char) {j : Int32} (hj : ¬ (j < 0 ∨ cl.slots.size ≤ j.toNatClampNeg)) (hv : cl.slots[j.toNatClampNeg]? = some v) (hd : decode c.code pc = .ok (.caload, 1))  (hp : pc + 1 = pc') (g : OwnGo p e below s Q rc rs (T.setTop (mkF m pc' Ls (v :: st)))) : OwnGo p e below s Q rc rs (T.setTop (mkF m pc Ls (.int j :: .ref a :: st))) := by
  subst hp
  exact own_step (fun _ k => X.caload hx (j := j) (v := v) (by rw [eT]; exact A.1) (State.isArrayOf_alike hZ.alike A.2.1) A.2.2 hj hv (g := mkF m pc Ls (.int j :: .ref a :: st)) rfl rfl hd _ k) g
theorem own_laload (X : Stand p l e R s m args below meth c T locs cells slots) (hx : p.tables.exec = Jvm.exec) (hZ : Z.Warmed39 s.vm) (eT : T.heap = h) {a : Addr} {cl : Cell} {v : Value} (A : Arr Z h a cl .long) {j : Int32} (hj : ¬ (j < 0 ∨ cl.slots.size ≤ j.toNatClampNeg)) (hv : cl.slots[j.toNatClampNeg]? = some v) (hd : decode c.code pc = .ok (.laload, 1))  (hp : pc + 1 = pc') (g : OwnGo p e below s Q rc rs (T.setTop (mkF m pc' Ls (v :: st)))) : OwnGo p e below s Q rc rs (T.setTop (mkF m pc Ls (.int j :: .ref a :: st))) := by
  subst hp
  exact own_step (fun _ k => X.laload hx (j := j) (v := v) (by rw [eT]; exact A.1) (State.isArrayOf_alike hZ.alike A.2.1) A.2.2 hj hv (g := mkF m pc Ls (.int j :: .ref a :: st)) rfl rfl hd _ k) g
theorem own_baload (X : Stand p l e R s m args below meth c T locs cells slots) (hx : p.tables.exec = Jvm.exec) (hZ : Z.Warmed39 s.vm) (eT : T.heap = h) {a : Addr} {cl : Cell} {v : Value} (A : Arr Z h a cl .byte) {j : Int32} (hj : ¬ (j < 0 ∨ cl.slots.size ≤ j.toNatClampNeg)) (hv : cl.slots[j.toNatClampNeg]? = some v) (hd : decode c.code pc = .ok (.baload, 1))  (hp : pc + 1 = pc') (g : OwnGo p e below s Q rc rs (T.setTop (mkF m pc' Ls (v :: st)))) : OwnGo p e below s Q rc rs (T.setTop (mkF m pc Ls (.int j :: .ref a :: st))) := by
  subst hp
  exact own_step (fun _ k => X.baloadBytes hx (j := j) (v := v) (by rw [eT]; exact A.1) (State.isArrayOf_alike hZ.alike A.2.1) A.2.2 hj hv (g := mkF m pc Ls (.int j :: .ref a :: st)) rfl rfl hd _ k) g
theorem own_zaload (X : Stand p l e R s m args below meth c T locs cells slots) (hx : p.tables.exec = Jvm.exec) (hZ : Z.Warmed39 s.vm) (eT : T.heap = h) {a : Addr} {cl : Cell} {v : Value} (A : Arr Z h a cl .boolean) {j : Int32} (hj : ¬ (j < 0 ∨ cl.slots.size ≤ j.toNatClampNeg)) (hv : cl.slots[j.toNatClampNeg]? = some v) (hd : decode c.code pc = .ok (.baload, 1))  (hp : pc + 1 = pc') (g : OwnGo p e below s Q rc rs (T.setTop (mkF m pc' Ls (v :: st)))) : OwnGo p e below s Q rc rs (T.setTop (mkF m pc Ls (.int j :: .ref a :: st))) := by
  subst hp
  exact own_step (fun _ k => X.baloadBooleans hx (j := j) (v := v) (by rw [eT]; exact A.1) (State.isArrayOf_alike hZ.alike A.2.1) A.2.2 hj hv (g := mkF m pc Ls (.int j :: .ref a :: st)) rfl rfl hd _ k) g
theorem own_arraylength (X : Stand p l e R s m args below meth c T locs cells slots) (hx : p.tables.exec = Jvm.exec) (hZ : Z.Warmed39 s.vm) (eT : T.heap = h) {a : Addr} {cl : Cell} {ty : FieldType} {z : Int32} (A : Arr Z h a cl ty) (hz : cl.slots.size.toInt32 = z) (hd : decode c.code pc = .ok (.arraylength, 1))  (hp : pc + 1 = pc') (g : OwnGo p e below s Q rc rs (T.setTop (mkF m pc' Ls (.int z :: st)))) : OwnGo p e below s Q rc rs (T.setTop (mkF m pc Ls (.ref a :: st))) := by
  subst hp hz
  exact own_step (fun _ k => X.arraylength hx (by rw [eT]; exact A.1) (State.isArrayOf_alike hZ.alike A.2.1) (g := mkF m pc Ls (.ref a :: st)) rfl rfl hd _ k) g
/-- the contract of a body: called with as' at a heap h, it ends as Q says -/
def OwnMet (l : Launch) (Z : State) (y : MethodName) (bytes : ByteArray) (maxL : Nat) (ret : Option FieldType) (as' : Array Value) (rm : Room) (Q : Option Value → Heap → List Loc → Prop) (h : Heap) : Prop := MetFree l y (head1 [Jvm.Cond.code y bytes maxL ret] rm) (fun a U => a = as' ∧ Z.Warmed39 U.vm ∧ U.heap = h) (fun _ _ _ _ _ => True) (fun _ U o U' => ∃ v L, o = .returned v ∧ Q v U'.heap L ∧ FrameEnd U o U' L rm.cells rm.slots)
theorem own_callS (X : Stand p l e R s m args below meth c T locs cells slots) (hx : p.tables.exec = Jvm.exec) (hZ : Z.Warmed39 s.vm) (hown : s.vm.findClass own = some m.cls) {y : MethodName} {bytes : ByteArray} {maxL : Nat} {ret : Option FieldType} {rm : Room} {argsL : List Value} {Qc : Option Value → Heap → List Loc → Prop} {W : Nat} {stk : List Value} (w1 : (Cond.methodLink own index y).before a0 Z = true) (w2 : (Cond.static y).before a0 Z = true) (w3 : (Cond.initialized y.cls).before a0 Z = true) (w4 : (Jvm.Cond.code y bytes maxL ret).before a0 Z = true) (eT : T.heap = h) (hM : OwnMet l Z y bytes maxL ret argsL.toArray rm Qc h) (hd : decode c.code pc = .ok (.invokestatic index, 3)) (hst : stk = argsL.reverse ++ st) (hlen : ∀ sig, parseMethodDescriptor y.desc = some sig → argsL.length = sig.parameters.length) (hsz : Ls.size = c.maxLocals) (hf : rm.frames + 1 ≤ R.frames) (hl : W + (maxL + 11) + rm.locals ≤ R.locals) (hc : cells + rm.cells ≤ R.cells) (hsl : slots + rm.slots ≤ R.slots) (hW : (st.map fun v => v.category).sum ≤ W) (hy : y.cls ≠ "java/lang/invoke/MethodHandle" ∧ y.cls ≠ "java/lang/invoke/VarHandle") (hp : pc + 3 = pc')
    (g : ∀ T' v L, Stand p l e R s m args below meth c T' (locs ++ L) (cells + rm.cells) (slots + rm.slots) → Qc v T'.heap L → OwnGo p e below s Q rc rs (T'.setTop (mkF m pc' Ls (v.toList ++ st)))) : OwnGo p e below s Q rc rs (T.setTop (mkF m pc Ls stk)) := by
  subst hp
  obtain ⟨v, vm1, ⟨T', L', k', n'⟩, -, X', ⟨Lc, hQ, l1, y1, z1⟩, k⟩ := Jvm.LawKit.callS X hx hown (mvT hZ w1) (mvT hZ w2) (mvT hZ w3) (mvT hZ w4) hy (backOf (Q := Qc) (W := W) hM hZ w4 w3 hf hl) (g := mkF m pc Ls stk) rfl hsz (argsL := argsL) (rest := st) hlen hst (by show 2 * 0 + _ ≤ _; omega) hd (fun _ _ => ⟨rfl, eT, hc, hsl⟩)
  exact by
    dsimp only [Pt.U, Pt.locs, Pt.cells, Pt.slots] at X' l1 y1 z1 k hQ
    subst l1 y1 z1
    exact own_step k (g T' v Lc X' hQ)
theorem own_callC (X : Stand p l e R s m args below meth c T locs cells slots) (hx : p.tables.exec = Jvm.exec) (hZ : Z.Warmed39 s.vm) (hown : s.vm.findClass own = some m.cls) {y : MethodName} {bytes : ByteArray} {maxL : Nat} {rm : Room} {argsL : List Value} {Qc : Option Value → Heap → List Loc → Prop} {W : Nat} {stk : List Value} {a : Addr} (hi : y.name = "<init>") (w1 : (Cond.methodLink own index y).before a0 Z = true) (w2 : (Cond.instanceMethod y).before a0 Z = true) (w3 : (Cond.initialized y.cls).before a0 Z = true) (w4 : (Jvm.Cond.code y bytes maxL none).before a0 Z = true) (eT : T.heap = h) (hM : OwnMet l Z y bytes maxL none (.ref a :: argsL).toArray rm Qc h) (hd : decode c.code pc = .ok (.invokespecial index, 3)) (hst : stk = argsL.reverse ++ .ref a :: st) (hlen : ∀ sig, parseMethodDescriptor y.desc = some sig → argsL.length = sig.parameters.length) (hsz : Ls.size = c.maxLocals) (hf : rm.frames + 1 ≤ R.frames) (hl : W + (maxL + 11) + rm.locals ≤ R.locals) (hc : cells + rm.cells ≤ R.cells) (hsl : slots + rm.slots ≤ R.slots) (hW : (st.map fun v => v.category).sum ≤ W) (hy : y.cls ≠ "java/lang/invoke/MethodHandle" ∧ y.cls ≠ "java/lang/invoke/VarHandle") (hp : pc + 3 = pc')
    (g : ∀ T' v L, Stand p l e R s m args below meth c T' (locs ++ L) (cells + rm.cells) (slots + rm.slots) → Qc v T'.heap L → OwnGo p e below s Q rc rs (T'.setTop (mkF m pc' Ls (v.toList ++ st)))) : OwnGo p e below s Q rc rs (T.setTop (mkF m pc Ls stk)) := by
  subst hp
  obtain ⟨v, vm1, ⟨T', L', k', n'⟩, -, X', ⟨Lc, hQ, l1, y1, z1⟩, k⟩ := X.specialBack hx hi hown (mvT hZ w1) (mvT hZ w2) (mvT hZ w4) hy (backOf (Q := Qc) (W := W) hM hZ w4 w3 hf hl) (g := mkF m pc Ls stk) rfl hsz (Steps.refl _) (a := a) (argsL := argsL) (rest := st) hlen hst (by show 2 * 0 + _ ≤ _; omega) hd (fun _ _ => ⟨rfl, eT, hc, hsl⟩)
  exact by
    dsimp only [Pt.U, Pt.locs, Pt.cells, Pt.slots] at X' l1 y1 z1 k hQ
    subst l1 y1 z1
    exact own_step (fun _ q => k.trans q) (g T' v Lc X' hQ)
theorem own_callV (X : Stand p l e R s m args below meth c T locs cells slots) (hx : p.tables.exec = Jvm.exec) (hZ : Z.Warmed39 s.vm) (hown : s.vm.findClass own = some m.cls) {y : MethodName} {bytes : ByteArray} {maxL : Nat} {ret : Option FieldType} {rm : Room} {argsL : List Value} {Qc : Option Value → Heap → List Loc → Prop} {W : Nat} {stk : List Value} {a : Addr} {C : String} (w1 : (Cond.methodLink own index y).before a0 Z = true) (w2 : (Cond.declares y).before a0 Z = true) (w5 : (Cond.selects C y y).before a0 Z = true) (w6 : (Cond.instanceMethod y).before a0 Z = true) (w3 : (Cond.initialized y.cls).before a0 Z = true) (w4 : (Jvm.Cond.code y bytes maxL ret).before a0 Z = true) (eT : T.heap = h) (E : Exa Z h a C) (hM : OwnMet l Z y bytes maxL ret (.ref a :: argsL).toArray rm Qc h) (hd : decode c.code pc = .ok (.invokevirtual index, 3)) (hst : stk = argsL.reverse ++ .ref a :: st) (hlen : ∀ sig, parseMethodDescriptor y.desc = some sig → argsL.length = sig.parameters.length) (hsz : Ls.size = c.maxLocals) (hf : rm.frames + 1 ≤ R.frames) (hl : W + (maxL + 11) + rm.locals ≤ R.locals) (hc : cells + rm.cells ≤ R.cells) (hsl : slots + rm.slots ≤ R.slots) (hW : (st.map fun v => v.category).sum ≤ W) (hy : y.cls ≠ "java/lang/invoke/MethodHandle" ∧ y.cls ≠ "java/lang/invoke/VarHandle") (hp : pc + 3 = pc')
    (g : ∀ T' v L, Stand p l e R s m args below meth c T' (locs ++ L) (cells + rm.cells) (slots + rm.slots) → Qc v T'.heap L → OwnGo p e below s Q rc rs (T'.setTop (mkF m pc' Ls (v.toList ++ st)))) : OwnGo p e below s Q rc rs (T.setTop (mkF m pc Ls stk)) := by
  subst hp
  obtain ⟨cB, kB, q1, q2, q3⟩ := isOf hZ eT E
  obtain ⟨v, vm1, ⟨T', L', k', n'⟩, -, X', ⟨Lc, hQ, l1, y1, z1⟩, k⟩ := X.virtualBack hx hown (mvT hZ w1) (mvT hZ w2) (notFace_of_selects (args := #[]) (mvT hZ w5)) (mvT hZ w5) (mvT hZ w6) hy (backOf (Q := Qc) (W := W) hM hZ w4 w3 hf hl) q1 q3 (g := mkF m pc Ls stk) rfl hsz (Steps.refl _) (argsL := argsL) (rest := st) hlen hst (by show 2 * 0 + _ ≤ _; omega) hd (fun _ _ => ⟨rfl, eT, hc, hsl⟩)
  exact by
    dsimp only [Pt.U, Pt.locs, Pt.cells, Pt.slots] at X' l1 y1 z1 k hQ
    subst l1 y1 z1
    exact own_step (fun _ q => k.trans q) (g T' v Lc X' hQ)
abbrev ownR0 : Room := { frames := 0, cells := 0, slots := 0, locals := 0 }
/-- returns z and changes nothing -/
abbrev OwnPure (l : Launch) (Z : State) (y : MethodName) (bytes : ByteArray) (maxL : Nat) (ret : Option FieldType) (as' : Array Value) (z : Value) (h : Heap) : Prop := OwnMet l Z y bytes maxL ret as' ownR0 (fun v h' L => v = some z ∧ h' = h ∧ L = []) h
theorem own_pureS (X : Stand p l e R s m args below meth c T locs cells slots) (hx : p.tables.exec = Jvm.exec) (hZ : Z.Warmed39 s.vm) (hown : s.vm.findClass own = some m.cls) {y : MethodName} {bytes : ByteArray} {maxL : Nat} {ret : Option FieldType} {argsL : List Value} {z : Value} {W : Nat} {stk : List Value} (w1 : (Cond.methodLink own index y).before a0 Z = true) (w2 : (Cond.static y).before a0 Z = true) (w3 : (Cond.initialized y.cls).before a0 Z = true) (w4 : (Jvm.Cond.code y bytes maxL ret).before a0 Z = true) (eT : T.heap = h) (hM : OwnPure l Z y bytes maxL ret argsL.toArray z h) (hd : decode c.code pc = .ok (.invokestatic index, 3)) (hst : stk = argsL.reverse ++ st) (hlen : ∀ sig, parseMethodDescriptor y.desc = some sig → argsL.length = sig.parameters.length) (hsz : Ls.size = c.maxLocals) (hf : 1 ≤ R.frames) (hl : W + (maxL + 11) ≤ R.locals) (hc : cells ≤ R.cells) (hsl : slots ≤ R.slots) (hW : (st.map fun v => v.category).sum ≤ W) (hy : y.cls ≠ "java/lang/invoke/MethodHandle" ∧ y.cls ≠ "java/lang/invoke/VarHandle") (hp : pc + 3 = pc')
    (g : ∀ T', Stand p l e R s m args below meth c T' locs cells slots → T'.heap = h → OwnGo p e below s Q rc rs (T'.setTop (mkF m pc' Ls (z :: st)))) : OwnGo p e below s Q rc rs (T.setTop (mkF m pc Ls stk)) := by
  refine own_callS (rm := ownR0) (Qc := fun v h' L => v = some z ∧ h' = h ∧ L = []) X hx hZ hown w1 w2 w3 w4 eT hM hd hst hlen hsz hf hl hc hsl hW hy hp ?_
  rintro T' v L X' ⟨rfl, h1, rfl⟩
  exact g T' (by simpa using X') h1
theorem own_pureV (X : Stand p l e R s m args below meth c T locs cells slots) (hx : p.tables.exec = Jvm.exec) (hZ : Z.Warmed39 s.vm) (hown : s.vm.findClass own = some m.cls) {y : MethodName} {bytes : ByteArray} {maxL : Nat} {ret : Option FieldType} {argsL : List Value} {z : Value} {W : Nat} {stk : List Value} {a : Addr} {C : String} (w1 : (Cond.methodLink own index y).before a0 Z = true) (w2 : (Cond.declares y).before a0 Z = true) (w5 : (Cond.selects C y y).before a0 Z = true) (w6 : (Cond.instanceMethod y).before a0 Z = true) (w3 : (Cond.initialized y.cls).before a0 Z = true) (w4 : (Jvm.Cond.code y bytes maxL ret).before a0 Z = true) (eT : T.heap = h) (E : Exa Z h a C) (hM : OwnPure l Z y bytes maxL ret (.ref a :: argsL).toArray z h) (hd : decode c.code pc = .ok (.invokevirtual index, 3)) (hst : stk = argsL.reverse ++ .ref a :: st) (hlen : ∀ sig, parseMethodDescriptor y.desc = some sig → argsL.length = sig.parameters.length) (hsz : Ls.size = c.maxLocals) (hf : 1 ≤ R.frames) (hl : W + (maxL + 11) ≤ R.locals) (hc : cells ≤ R.cells) (hsl : slots ≤ R.slots) (hW : (st.map fun v => v.category).sum ≤ W) (hy : y.cls ≠ "java/lang/invoke/MethodHandle" ∧ y.cls ≠ "java/lang/invoke/VarHandle") (hp : pc + 3 = pc')
    (g : ∀ T', Stand p l e R s m args below meth c T' locs cells slots → T'.heap = h → OwnGo p e below s Q rc rs (T'.setTop (mkF m pc' Ls (z :: st)))) : OwnGo p e below s Q rc rs (T.setTop (mkF m pc Ls stk)) := by
  refine own_callV (rm := ownR0) (Qc := fun v h' L => v = some z ∧ h' = h ∧ L = []) X hx hZ hown w1 w2 w5 w6 w3 w4 eT E hM hd hst hlen hsz hf hl hc hsl hW hy hp ?_
  rintro T' v L X' ⟨rfl, h1, rfl⟩
  exact g T' (by simpa using X') h1
/-- the array at a: n places of kind ty, the j-th holds a value with P j -/
def OwnArr (Z : State) (h : Heap) (a : Addr) (ty : FieldType) (n : Nat) (P : Nat → Value → Prop) : Prop := ∃ cl : Cell, Arr Z h a cl ty ∧ cl.slots.size = n ∧ ∀ j, j < n → ∃ v, cl.slots[j]? = some v ∧ P j v
theorem OwnArr.lt {a : Addr} {ty : FieldType} {n : Nat} {P : Nat → Value → Prop} (A : OwnArr Z h a ty n P) : a < h.size := by obtain ⟨cl, A, -⟩ := A; exact A.lt
theorem OwnArr.ext {h' : Heap} {a : Addr} {ty : FieldType} {n : Nat} {P : Nat → Value → Prop} (A : OwnArr Z h a ty n P) (E : Ext h h') : OwnArr Z h' a ty n P := by obtain ⟨cl, A, r⟩ := A; exact ⟨cl, A.ext E, r⟩
theorem OwnArr.other {h' : Heap} {a b : Addr} {sl : Nat} {v : Value} {ty : FieldType} {n : Nat} {P : Nat → Value → Prop} (A : OwnArr Z h b ty n P) (W : Wr h h' a sl v) (q : b ≠ a) : OwnArr Z h' b ty n P := by obtain ⟨cl, A, r⟩ := A; exact ⟨cl, A.other W q, r⟩
theorem OwnArr.keep {h' : Heap} {ws : List Addr} {a : Addr} {ty : FieldType} {n : Nat} {P : Nat → Value → Prop} (A : OwnArr Z h a ty n P) (K : Keep h h' ws) (q : a ∉ ws) : OwnArr Z h' a ty n P := by obtain ⟨cl, A, r⟩ := A; exact ⟨cl, ⟨K.2.1 a cl A.1 q, A.2⟩, r⟩
theorem OwnArr.mono {a : Addr} {ty : FieldType} {n : Nat} {P P' : Nat → Value → Prop} (A : OwnArr Z h a ty n P) (q : ∀ j v, j < n → P j v → P' j v) : OwnArr Z h a ty n P' := by
  obtain ⟨cl, A, S, H⟩ := A
  exact ⟨cl, A, S, fun j hj => by obtain ⟨v, h1, h2⟩ := H j hj; exact ⟨v, h1, q j v hj h2⟩⟩
theorem OwnArr.new {a : Addr} {k : ClassId} {ty : FieldType} {z : Int32} {n : Nat} (A : Arr Z h a (newA k ty z) ty) (hz : z.toNatClampNeg = n) : OwnArr Z h a ty n (fun _ v => v = defaultValue ty) := by
  subst hz
  refine ⟨_, A, sz_new _ _ _, fun j hj => ⟨_, ?_, rfl⟩⟩
  simp [newA, hj]
theorem OwnArr.set {h' : Heap} {a : Addr} {sl : Nat} {v : Value} {ty : FieldType} {n : Nat} {P P' : Nat → Value → Prop} (A : OwnArr Z h a ty n P) (W : Wr h h' a sl v) (q : ∀ i w, i < n → (i = sl → w = v) → (i ≠ sl → P i w) → P' i w) : OwnArr Z h' a ty n P' := by
  obtain ⟨cl, A, S, H⟩ := A
  refine ⟨_, A.same W, by rw [sz_set]; exact S, fun j hj => ?_⟩
  by_cases e : j = sl
  · subst e
    exact ⟨v, by simp [Cell.setSlot, S, hj], q j v hj (fun _ => rfl) (fun y => absurd rfl y)⟩
  · obtain ⟨w, h1, h2⟩ := H j hj
    refine ⟨w, ?_, q j w hj (fun y => absurd y e) (fun _ => h2)⟩
    simp only [Cell.setSlot]; rw [Array.getElem?_setIfInBounds_ne (fun y => e y.symm)]; exact h1
theorem own_inb {cl : Cell} {n : Nat} {j : Int32} (S : cl.slots.size = n) (h0 : 0 ≤ j.toInt) (h1 : j.toInt < n) : ¬ (j < 0 ∨ cl.slots.size ≤ j.toNatClampNeg) := by
  have l0 : (0 : Int32).toInt = 0 := by decide
  rw [Int32.lt_iff_toInt_lt, l0, S, Int32.toNatClampNeg]
  omega
theorem own_len {n : Nat} {z : Int32} (hz : z.toInt = n) : n.toInt32 = z := by
  have h0 : ¬ z < 0 := by
    have l0 : (0 : Int32).toInt = 0 := by decide
    rw [Int32.lt_iff_toInt_lt, l0]; omega
  have e : z.toNatClampNeg = n := by rw [Int32.toNatClampNeg]; omega
  rw [← e]
  exact (back32 h0).1
theorem own_iastoreA (X : Stand p l e R s m args below meth c T locs cells slots) (hx : p.tables.exec = Jvm.exec) (hZ : Z.Warmed39 s.vm) (eT : T.heap = h) {a : Addr} {n : Nat} {P : Nat → Value → Prop} (A : OwnArr Z h a .int n P) {j : Int32} {x : Int32} (h0 : 0 ≤ j.toInt) (h1 : j.toInt < n) (P' : Nat → Value → Prop) (hP : ∀ i w, i < n → (i = j.toNatClampNeg → w = (.int x)) → (i ≠ j.toNatClampNeg → P i w) → P' i w) (hd : decode c.code pc = .ok (.iastore, 1)) (hp : pc + 1 = pc')
    (g : ∀ T' h', Stand p l e R s m args below meth c T' (locs ++ [⟨a, j.toNatClampNeg⟩]) cells slots → T'.heap = h' → Wr h h' a j.toNatClampNeg (.int x) → OwnArr Z h' a .int n P' → OwnGo p e below s Q rc rs (T'.setTop (mkF m pc' Ls st))) : OwnGo p e below s Q rc rs (T.setTop (mkF m pc Ls (.int x :: .int j :: .ref a :: st))) := by
  have A0 := A
  obtain ⟨cl, Ar, S, H⟩ := A
  exact own_iastore X hx hZ eT Ar (own_inb S h0 h1) hd hp fun T' h' X' e' W => g T' h' X' e' W (A0.set W hP)
theorem own_castoreA (X : Stand p l e R s m args below meth c T locs cells slots) (hx : p.tables.exec = Jvm.exec) (hZ : Z.Warmed39 s.vm) (eT : T.heap = h) {a : Addr} {n : Nat} {P : Nat → Value → Prop} (A : OwnArr Z h a .char n P) {j : Int32} {x : Int32} (h0 : 0 ≤ j.toInt) (h1 : j.toInt < n) (P' : Nat → Value → Prop) (hP : ∀ i w, i < n → (i = j.toNatClampNeg → w = (.int (nar .char x))) → (i ≠ j.toNatClampNeg → P i w) → P' i w) (hd : decode c.code pc = .ok (.castore, 1)) (hp : pc + 1 = pc')
    (g : ∀ T' h', Stand p l e R s m args below meth c T' (locs ++ [⟨a, j.toNatClampNeg⟩]) cells slots → T'.heap = h' → Wr h h' a j.toNatClampNeg (.int (nar .char x)) → OwnArr Z h' a .char n P' → OwnGo p e below s Q rc rs (T'.setTop (mkF m pc' Ls st))) : OwnGo p e below s Q rc rs (T.setTop (mkF m pc Ls (.int x :: .int j :: .ref a :: st))) := by
  have A0 := A
  obtain ⟨cl, Ar, S, H⟩ := A
  exact own_castore X hx hZ eT Ar (own_inb S h0 h1) hd hp fun T' h' X' e' W => g T' h' X' e' W (A0.set W hP)
theorem own_bastoreA (X : Stand p l e R s m args below meth c T locs cells slots) (hx : p.tables.exec = Jvm.exec) (hZ : Z.Warmed39 s.vm) (eT : T.heap = h) {a : Addr} {n : Nat} {P : Nat → Value → Prop} (A : OwnArr Z h a .byte n P) {j : Int32} {x : Int32} (h0 : 0 ≤ j.toInt) (h1 : j.toInt < n) (P' : Nat → Value → Prop) (hP : ∀ i w, i < n → (i = j.toNatClampNeg → w = (.int (nar .byte x))) → (i ≠ j.toNatClampNeg → P i w) → P' i w) (hd : decode c.code pc = .ok (.bastore, 1)) (hp : pc + 1 = pc')
    (g : ∀ T' h', Stand p l e R s m args below meth c T' (locs ++ [⟨a, j.toNatClampNeg⟩]) cells slots → T'.heap = h' → Wr h h' a j.toNatClampNeg (.int (nar .byte x)) → OwnArr Z h' a .byte n P' → OwnGo p e below s Q rc rs (T'.setTop (mkF m pc' Ls st))) : OwnGo p e below s Q rc rs (T.setTop (mkF m pc Ls (.int x :: .int j :: .ref a :: st))) := by
  have A0 := A
  obtain ⟨cl, Ar, S, H⟩ := A
  exact own_bastore X hx hZ eT Ar (own_inb S h0 h1) hd hp fun T' h' X' e' W => g T' h' X' e' W (A0.set W hP)
theorem own_zastoreA (X : Stand p l e R s m args below meth c T locs cells slots) (hx : p.tables.exec = Jvm.exec) (hZ : Z.Warmed39 s.vm) (eT : T.heap = h) {a : Addr} {n : Nat} {P : Nat → Value → Prop} (A : OwnArr Z h a .boolean n P) {j : Int32} {x : Int32} (h0 : 0 ≤ j.toInt) (h1 : j.toInt < n) (P' : Nat → Value → Prop) (hP : ∀ i w, i < n → (i = j.toNatClampNeg → w = (.int (nar .boolean x))) → (i ≠ j.toNatClampNeg → P i w) → P' i w) (hd : decode c.code pc = .ok (.bastore, 1)) (hp : pc + 1 = pc')
    (g : ∀ T' h', Stand p l e R s m args below meth c T' (locs ++ [⟨a, j.toNatClampNeg⟩]) cells slots → T'.heap = h' → Wr h h' a j.toNatClampNeg (.int (nar .boolean x)) → OwnArr Z h' a .boolean n P' → OwnGo p e below s Q rc rs (T'.setTop (mkF m pc' Ls st))) : OwnGo p e below s Q rc rs (T.setTop (mkF m pc Ls (.int x :: .int j :: .ref a :: st))) := by
  have A0 := A
  obtain ⟨cl, Ar, S, H⟩ := A
  exact own_zastore X hx hZ eT Ar (own_inb S h0 h1) hd hp fun T' h' X' e' W => g T' h' X' e' W (A0.set W hP)
theorem own_lastoreA (X : Stand p l e R s m args below meth c T locs cells slots) (hx : p.tables.exec = Jvm.exec) (hZ : Z.Warmed39 s.vm) (eT : T.heap = h) {a : Addr} {n : Nat} {P : Nat → Value → Prop} (A : OwnArr Z h a .long n P) {j : Int32} {x : Int64} (h0 : 0 ≤ j.toInt) (h1 : j.toInt < n) (P' : Nat → Value → Prop) (hP : ∀ i w, i < n → (i = j.toNatClampNeg → w = (.long x)) → (i ≠ j.toNatClampNeg → P i w) → P' i w) (hd : decode c.code pc = .ok (.lastore, 1)) (hp : pc + 1 = pc')
    (g : ∀ T' h', Stand p l e R s m args below meth c T' (locs ++ [⟨a, j.toNatClampNeg⟩]) cells slots → T'.heap = h' → Wr h h' a j.toNatClampNeg (.long x) → OwnArr Z h' a .long n P' → OwnGo p e below s Q rc rs (T'.setTop (mkF m pc' Ls st))) : OwnGo p e below s Q rc rs (T.setTop (mkF m pc Ls (.long x :: .int j :: .ref a :: st))) := by
  have A0 := A
  obtain ⟨cl, Ar, S, H⟩ := A
  exact own_lastore X hx hZ eT Ar (own_inb S h0 h1) hd hp fun T' h' X' e' W => g T' h' X' e' W (A0.set W hP)
theorem own_ialoadA (X : Stand p l e R s m args below meth c T locs cells slots) (hx : p.tables.exec = Jvm.exec) (hZ : Z.Warmed39 s.vm) (eT : T.heap = h) {a : Addr} {n : Nat} {P : Nat → Value → Prop} (A : OwnArr Z h a .int n P) {j : Int32} (h0 : 0 ≤ j.toInt) (h1 : j.toInt < n) (hd : decode c.code pc = .ok (.iaload, 1)) (hp : pc + 1 = pc')
    (g : ∀ v, P j.toNatClampNeg v → OwnGo p e below s Q rc rs (T.setTop (mkF m pc' Ls (v :: st)))) : OwnGo p e below s Q rc rs (T.setTop (mkF m pc Ls (.int j :: .ref a :: st))) := by
  obtain ⟨cl, Ar, S, H⟩ := A
  have hj := own_inb S h0 h1
  obtain ⟨v, q1, q2⟩ := H j.toNatClampNeg (by rw [← S]; exact Nat.lt_of_not_le fun y => hj (Or.inr y))
  exact own_iaload X hx hZ eT Ar hj q1 hd hp (g v q2)
theorem own_caloadA (X : Stand p l e R s m args below meth c T locs cells slots) (hx : p.tables.exec = Jvm.exec) (hZ : Z.Warmed39 s.vm) (eT : T.heap = h) {a : Addr} {n : Nat} {P : Nat → Value → Prop} (A : OwnArr Z h a .char n P) {j : Int32} (h0 : 0 ≤ j.toInt) (h1 : j.toInt < n) (hd : decode c.code pc = .ok (.caload, 1)) (hp : pc + 1 = pc')
    (g : ∀ v, P j.toNatClampNeg v → OwnGo p e below s Q rc rs (T.setTop (mkF m pc' Ls (v :: st)))) : OwnGo p e below s Q rc rs (T.setTop (mkF m pc Ls (.int j :: .ref a :: st))) := by
  obtain ⟨cl, Ar, S, H⟩ := A
  have hj := own_inb S h0 h1
  obtain ⟨v, q1, q2⟩ := H j.toNatClampNeg (by rw [← S]; exact Nat.lt_of_not_le fun y => hj (Or.inr y))
  exact own_caload X hx hZ eT Ar hj q1 hd hp (g v q2)
theorem own_laloadA (X : Stand p l e R s m args below meth c T locs cells slots) (hx : p.tables.exec = Jvm.exec) (hZ : Z.Warmed39 s.vm) (eT : T.heap = h) {a : Addr} {n : Nat} {P : Nat → Value → Prop} (A : OwnArr Z h a .long n P) {j : Int32} (h0 : 0 ≤ j.toInt) (h1 : j.toInt < n) (hd : decode c.code pc = .ok (.laload, 1)) (hp : pc + 1 = pc')
    (g : ∀ v, P j.toNatClampNeg v → OwnGo p e below s Q rc rs (T.setTop (mkF m pc' Ls (v :: st)))) : OwnGo p e below s Q rc rs (T.setTop (mkF m pc Ls (.int j :: .ref a :: st))) := by
  obtain ⟨cl, Ar, S, H⟩ := A
  have hj := own_inb S h0 h1
  obtain ⟨v, q1, q2⟩ := H j.toNatClampNeg (by rw [← S]; exact Nat.lt_of_not_le fun y => hj (Or.inr y))
  exact own_laload X hx hZ eT Ar hj q1 hd hp (g v q2)
theorem own_baloadA (X : Stand p l e R s m args below meth c T locs cells slots) (hx : p.tables.exec = Jvm.exec) (hZ : Z.Warmed39 s.vm) (eT : T.heap = h) {a : Addr} {n : Nat} {P : Nat → Value → Prop} (A : OwnArr Z h a .byte n P) {j : Int32} (h0 : 0 ≤ j.toInt) (h1 : j.toInt < n) (hd : decode c.code pc = .ok (.baload, 1)) (hp : pc + 1 = pc')
    (g : ∀ v, P j.toNatClampNeg v → OwnGo p e below s Q rc rs (T.setTop (mkF m pc' Ls (v :: st)))) : OwnGo p e below s Q rc rs (T.setTop (mkF m pc Ls (.int j :: .ref a :: st))) := by
  obtain ⟨cl, Ar, S, H⟩ := A
  have hj := own_inb S h0 h1
  obtain ⟨v, q1, q2⟩ := H j.toNatClampNeg (by rw [← S]; exact Nat.lt_of_not_le fun y => hj (Or.inr y))
  exact own_baload X hx hZ eT Ar hj q1 hd hp (g v q2)
theorem own_zaloadA (X : Stand p l e R s m args below meth c T locs cells slots) (hx : p.tables.exec = Jvm.exec) (hZ : Z.Warmed39 s.vm) (eT : T.heap = h) {a : Addr} {n : Nat} {P : Nat → Value → Prop} (A : OwnArr Z h a .boolean n P) {j : Int32} (h0 : 0 ≤ j.toInt) (h1 : j.toInt < n) (hd : decode c.code pc = .ok (.baload, 1)) (hp : pc + 1 = pc')
    (g : ∀ v, P j.toNatClampNeg v → OwnGo p e below s Q rc rs (T.setTop (mkF m pc' Ls (v :: st)))) : OwnGo p e below s Q rc rs (T.setTop (mkF m pc Ls (.int j :: .ref a :: st))) := by
  obtain ⟨cl, Ar, S, H⟩ := A
  have hj := own_inb S h0 h1
  obtain ⟨v, q1, q2⟩ := H j.toNatClampNeg (by rw [← S]; exact Nat.lt_of_not_le fun y => hj (Or.inr y))
  exact own_zaload X hx hZ eT Ar hj q1 hd hp (g v q2)
theorem own_lengthA (X : Stand p l e R s m args below meth c T locs cells slots) (hx : p.tables.exec = Jvm.exec) (hZ : Z.Warmed39 s.vm) (eT : T.heap = h) {a : Addr} {n : Nat} {P : Nat → Value → Prop} {ty : FieldType} {z : Int32} (A : OwnArr Z h a ty n P) (hz : z.toInt = n) (hd : decode c.code pc = .ok (.arraylength, 1)) (hp : pc + 1 = pc')
    (g : OwnGo p e below s Q rc rs (T.setTop (mkF m pc' Ls (.int z :: st)))) : OwnGo p e below s Q rc rs (T.setTop (mkF m pc Ls (.ref a :: st))) := by
  obtain ⟨cl, Ar, S, H⟩ := A
  exact own_arraylength X hx hZ eT Ar (by rw [S]; exact own_len hz) hd hp g
end OwnKit
theorem d_pick_0 : decode method_3_code 0 = .ok (.iload_n 0, 1) := by decide +kernel
theorem d_pick_1 : decode method_3_code 1 = .ok (.iload_n 1, 1) := by decide +kernel
theorem d_pick_2 : decode method_3_code 2 = .ok (.iushr, 1) := by decide +kernel
theorem d_pick_3 : decode method_3_code 3 = .ok (.iconst 1, 1) := by decide +kernel
theorem d_pick_4 : decode method_3_code 4 = .ok (.iand, 1) := by decide +kernel
theorem d_pick_5 : decode method_3_code 5 = .ok (.ifCond .ne 7, 3) := by decide +kernel
theorem d_pick_12 : decode method_3_code 12 = .ok (.lload 4, 2) := by decide +kernel
theorem d_pick_14 : decode method_3_code 14 = .ok (.lreturn, 1) := by decide +kernel
theorem d_pick_8 : decode method_3_code 8 = .ok (.lload_n 2, 1) := by decide +kernel
theorem d_pick_9 : decode method_3_code 9 = .ok (.goto 5, 3) := by decide +kernel
theorem ef_pick (m : MethodId) (x0 : Int32) (x1 : Int32) (x2 : Int64) (x3 : Int64) : entryFrame m #[(.int x0), (.int x1), (.long x2), (.long x3)] 6 = mkF m 0 #[.val (.int x0), .val (.int x1), .val (.long x2), .second, .val (.long x3), .second] [] := by first | (simp [entryFrame, mkF, argsToLocals, Value.category]; done) | rfl
theorem pn_com_example_lehti_lehti_engine_collation_CollationUnitsMatchesPinLaw : plainName "com/example/lehti/lehti/engine/collation/CollationUnitsMatchesPinLaw" = true := by first | (simp [plainName, overriddenIn]; done) | decide +kernel
theorem d_init_0 : decode prog_20_method_1_code 0 = .ok (.aload_n 0, 1) := by decide +kernel
theorem d_init_1 : decode prog_20_method_1_code 1 = .ok (.invokespecial 1, 3) := by decide +kernel
theorem d_init_4 : decode prog_20_method_1_code 4 = .ok (.aload_n 0, 1) := by decide +kernel
theorem d_init_5 : decode prog_20_method_1_code 5 = .ok (.bipush 16, 2) := by decide +kernel
theorem d_init_7 : decode prog_20_method_1_code 7 = .ok (.newarray .long, 2) := by decide +kernel
theorem d_init_9 : decode prog_20_method_1_code 9 = .ok (.putfield 7, 3) := by decide +kernel
theorem d_init_12 : decode prog_20_method_1_code 12 = .ok (.aload_n 0, 1) := by decide +kernel
theorem d_init_13 : decode prog_20_method_1_code 13 = .ok (.bipush 16, 2) := by decide +kernel
theorem d_init_15 : decode prog_20_method_1_code 15 = .ok (.newarray .int, 2) := by decide +kernel
theorem d_init_17 : decode prog_20_method_1_code 17 = .ok (.putfield 13, 3) := by decide +kernel
theorem d_init_20 : decode prog_20_method_1_code 20 = .ok (.aload_n 0, 1) := by decide +kernel
theorem d_init_21 : decode prog_20_method_1_code 21 = .ok (.bipush 16, 2) := by decide +kernel
theorem d_init_23 : decode prog_20_method_1_code 23 = .ok (.newarray .int, 2) := by decide +kernel
theorem d_init_25 : decode prog_20_method_1_code 25 = .ok (.putfield 17, 3) := by decide +kernel
theorem d_init_28 : decode prog_20_method_1_code 28 = .ok (.return_, 1) := by decide +kernel
theorem ef_init (m : MethodId) (x0 : Addr) : entryFrame m #[(.ref x0)] 1 = mkF m 0 #[.val (.ref x0)] [] := by first | (simp [entryFrame, mkF, argsToLocals, Value.category]; done) | rfl
theorem pn_com_example_lehti_lehti_engine_collation_CollationUnits : plainName "com/example/lehti/lehti/engine/collation/CollationUnits" = true := by first | (simp [plainName, overriddenIn]; done) | decide +kernel
theorem d_add_0 : decode prog_20_method_3_code 0 = .ok (.aload_n 0, 1) := by decide +kernel
theorem d_add_1 : decode prog_20_method_3_code 1 = .ok (.getfield 20, 3) := by decide +kernel
theorem d_add_4 : decode prog_20_method_3_code 4 = .ok (.aload_n 0, 1) := by decide +kernel
theorem d_add_5 : decode prog_20_method_3_code 5 = .ok (.getfield 7, 3) := by decide +kernel
theorem d_add_8 : decode prog_20_method_3_code 8 = .ok (.arraylength, 1) := by decide +kernel
theorem d_add_9 : decode prog_20_method_3_code 9 = .ok (.if_icmp .ne 50, 3) := by decide +kernel
theorem d_add_59 : decode prog_20_method_3_code 59 = .ok (.aload_n 0, 1) := by decide +kernel
theorem d_add_60 : decode prog_20_method_3_code 60 = .ok (.getfield 7, 3) := by decide +kernel
theorem d_add_63 : decode prog_20_method_3_code 63 = .ok (.aload_n 0, 1) := by decide +kernel
theorem d_add_64 : decode prog_20_method_3_code 64 = .ok (.getfield 20, 3) := by decide +kernel
theorem d_add_67 : decode prog_20_method_3_code 67 = .ok (.lload_n 1, 1) := by decide +kernel
theorem d_add_68 : decode prog_20_method_3_code 68 = .ok (.lastore, 1) := by decide +kernel
theorem d_add_69 : decode prog_20_method_3_code 69 = .ok (.aload_n 0, 1) := by decide +kernel
theorem d_add_70 : decode prog_20_method_3_code 70 = .ok (.getfield 13, 3) := by decide +kernel
theorem d_add_73 : decode prog_20_method_3_code 73 = .ok (.aload_n 0, 1) := by decide +kernel
theorem d_add_74 : decode prog_20_method_3_code 74 = .ok (.getfield 20, 3) := by decide +kernel
theorem d_add_77 : decode prog_20_method_3_code 77 = .ok (.iload_n 3, 1) := by decide +kernel
theorem d_add_78 : decode prog_20_method_3_code 78 = .ok (.iastore, 1) := by decide +kernel
theorem d_add_79 : decode prog_20_method_3_code 79 = .ok (.aload_n 0, 1) := by decide +kernel
theorem d_add_80 : decode prog_20_method_3_code 80 = .ok (.getfield 17, 3) := by decide +kernel
theorem d_add_83 : decode prog_20_method_3_code 83 = .ok (.aload_n 0, 1) := by decide +kernel
theorem d_add_84 : decode prog_20_method_3_code 84 = .ok (.getfield 20, 3) := by decide +kernel
theorem d_add_87 : decode prog_20_method_3_code 87 = .ok (.iload 4, 2) := by decide +kernel
theorem d_add_89 : decode prog_20_method_3_code 89 = .ok (.iastore, 1) := by decide +kernel
theorem d_add_90 : decode prog_20_method_3_code 90 = .ok (.aload_n 0, 1) := by decide +kernel
theorem d_add_91 : decode prog_20_method_3_code 91 = .ok (.dup, 1) := by decide +kernel
theorem d_add_92 : decode prog_20_method_3_code 92 = .ok (.getfield 20, 3) := by decide +kernel
theorem d_add_95 : decode prog_20_method_3_code 95 = .ok (.iconst 1, 1) := by decide +kernel
theorem d_add_96 : decode prog_20_method_3_code 96 = .ok (.iadd, 1) := by decide +kernel
theorem d_add_97 : decode prog_20_method_3_code 97 = .ok (.putfield 20, 3) := by decide +kernel
theorem d_add_100 : decode prog_20_method_3_code 100 = .ok (.return_, 1) := by decide +kernel
theorem ef_add (m : MethodId) (x0 : Addr) (x1 : Int64) (x2 : Int32) (x3 : Int32) : entryFrame m #[(.ref x0), (.long x1), (.int x2), (.int x3)] 6 = mkF m 0 #[.val (.ref x0), .val (.long x1), .second, .val (.int x2), .val (.int x3), .unset] [] := by first | (simp [entryFrame, mkF, argsToLocals, Value.category]; done) | rfl
theorem ef_matches (m : MethodId) (x0 : Addr) (x1 : Addr) (x2 : Int32) : entryFrame m #[(.ref x0), (.ref x1), (.int x2)] 5 = mkF m 0 #[.val (.ref x0), .val (.ref x1), .val (.int x2), .unset, .unset] [] := by first | (simp [entryFrame, mkF, argsToLocals, Value.category]; done) | rfl
theorem d_matches_22 : decode prog_20_method_4_code 22 = .ok (.iload_n 3, 1) := by decide +kernel
theorem d_matches_23 : decode prog_20_method_4_code 23 = .ok (.ifCond .eq 44, 3) := by decide +kernel
theorem d_matches_67 : decode prog_20_method_4_code 67 = .ok (.iload_n 3, 1) := by decide +kernel
theorem d_matches_68 : decode prog_20_method_4_code 68 = .ok (.ireturn, 1) := by decide +kernel
theorem d_matches_26 : decode prog_20_method_4_code 26 = .ok (.iload 4, 2) := by decide +kernel
theorem d_matches_28 : decode prog_20_method_4_code 28 = .ok (.aload_n 1, 1) := by decide +kernel
theorem d_matches_29 : decode prog_20_method_4_code 29 = .ok (.getfield 20, 3) := by decide +kernel
theorem d_matches_32 : decode prog_20_method_4_code 32 = .ok (.if_icmp .ge 35, 3) := by decide +kernel
theorem d_matches_35 : decode prog_20_method_4_code 35 = .ok (.aload_n 0, 1) := by decide +kernel
theorem d_matches_36 : decode prog_20_method_4_code 36 = .ok (.getfield 7, 3) := by decide +kernel
theorem d_matches_39 : decode prog_20_method_4_code 39 = .ok (.iload_n 2, 1) := by decide +kernel
theorem d_matches_40 : decode prog_20_method_4_code 40 = .ok (.iload 4, 2) := by decide +kernel
theorem d_matches_42 : decode prog_20_method_4_code 42 = .ok (.iadd, 1) := by decide +kernel
theorem d_matches_43 : decode prog_20_method_4_code 43 = .ok (.laload, 1) := by decide +kernel
theorem d_matches_44 : decode prog_20_method_4_code 44 = .ok (.aload_n 1, 1) := by decide +kernel
theorem d_matches_45 : decode prog_20_method_4_code 45 = .ok (.getfield 7, 3) := by decide +kernel
theorem d_matches_48 : decode prog_20_method_4_code 48 = .ok (.iload 4, 2) := by decide +kernel
theorem d_matches_50 : decode prog_20_method_4_code 50 = .ok (.laload, 1) := by decide +kernel
theorem d_matches_51 : decode prog_20_method_4_code 51 = .ok (.lcmp, 1) := by decide +kernel
theorem d_matches_52 : decode prog_20_method_4_code 52 = .ok (.ifCond .ne 7, 3) := by decide +kernel
theorem d_matches_59 : decode prog_20_method_4_code 59 = .ok (.iconst 0, 1) := by decide +kernel
theorem d_matches_60 : decode prog_20_method_4_code 60 = .ok (.istore_n 3, 1) := by decide +kernel
theorem d_matches_61 : decode prog_20_method_4_code 61 = .ok (.iinc 4 1, 3) := by decide +kernel
theorem d_matches_64 : decode prog_20_method_4_code 64 = .ok (.goto (-42), 3) := by decide +kernel
theorem d_matches_55 : decode prog_20_method_4_code 55 = .ok (.iconst 1, 1) := by decide +kernel
theorem d_matches_56 : decode prog_20_method_4_code 56 = .ok (.goto 4, 3) := by decide +kernel
theorem d_matches_0 : decode prog_20_method_4_code 0 = .ok (.iload_n 2, 1) := by decide +kernel
theorem d_matches_1 : decode prog_20_method_4_code 1 = .ok (.aload_n 1, 1) := by decide +kernel
theorem d_matches_2 : decode prog_20_method_4_code 2 = .ok (.getfield 20, 3) := by decide +kernel
theorem d_matches_5 : decode prog_20_method_4_code 5 = .ok (.iadd, 1) := by decide +kernel
theorem d_matches_6 : decode prog_20_method_4_code 6 = .ok (.aload_n 0, 1) := by decide +kernel
theorem d_matches_7 : decode prog_20_method_4_code 7 = .ok (.getfield 20, 3) := by decide +kernel
theorem d_matches_10 : decode prog_20_method_4_code 10 = .ok (.if_icmp .gt 7, 3) := by decide +kernel
theorem d_matches_17 : decode prog_20_method_4_code 17 = .ok (.iconst 0, 1) := by decide +kernel
theorem d_matches_18 : decode prog_20_method_4_code 18 = .ok (.istore_n 3, 1) := by decide +kernel
theorem d_matches_19 : decode prog_20_method_4_code 19 = .ok (.iconst 0, 1) := by decide +kernel
theorem d_matches_20 : decode prog_20_method_4_code 20 = .ok (.istore 4, 2) := by decide +kernel
theorem d_matches_13 : decode prog_20_method_4_code 13 = .ok (.iconst 1, 1) := by decide +kernel
theorem d_matches_14 : decode prog_20_method_4_code 14 = .ok (.goto 4, 3) := by decide +kernel
theorem pd__Lcom_example_lehti_lehti_engine_collation_CollationUnits_I_Z : parseMethodDescriptor "(Lcom/example/lehti/lehti/engine/collation/CollationUnits;I)Z" = some ⟨[(.object "com/example/lehti/lehti/engine/collation/CollationUnits"), .int], some .boolean⟩ := by decide +kernel
theorem pd__JII_V : parseMethodDescriptor "(JII)V" = some ⟨[.long, .int, .int], none⟩ := by decide +kernel
theorem pd___V : parseMethodDescriptor "()V" = some ⟨[], none⟩ := by decide +kernel
theorem pd__IIJJ_J : parseMethodDescriptor "(IIJJ)J" = some ⟨[.int, .int, .long, .long], some .long⟩ := by decide +kernel
theorem ef_law (m : MethodId) (x0 : Int64) (x1 : Int64) (x2 : Int32) (x3 : Int32) : entryFrame m #[(.long x0), (.long x1), (.int x2), (.int x3)] maxLocals = mkF m 0 #[.val (.long x0), .second, .val (.long x1), .second, .val (.int x2), .val (.int x3), .unset, .unset, .unset, .unset, .unset, .unset, .unset, .unset, .unset, .unset, .unset, .unset, .unset, .unset, .unset, .unset, .unset, .unset, .unset, .unset] [] := by first | (simp [entryFrame, mkF, argsToLocals, Value.category, maxLocals]; done) | rfl
def own_W (f : Nat → Int64) (cnt j : Nat) (v : Value) : Prop := ∃ x : Int64, v = .long x ∧ (j < cnt → x = f j)
def own_any (_ : Nat) (_ : Value) : Prop := True
/-- a CollationUnits with cnt weights f -/
def own_CU (Z : State) (lb : Nat) (h : Heap) (a wt ss es : Addr) (cnt : Nat) (cc : Int32) (f : Nat → Int64) : Prop := (lb ≤ a ∧ lb ≤ wt ∧ lb ≤ ss ∧ lb ≤ es ∧ wt ≠ a ∧ ss ≠ a ∧ es ≠ a ∧ wt ≠ ss ∧ wt ≠ es ∧ ss ≠ es) ∧ Exa Z h a "com/example/lehti/lehti/engine/collation/CollationUnits" ∧ Fld Z h a "com/example/lehti/lehti/engine/collation/CollationUnits" "weights" "[J" (.ref wt) ∧ Fld Z h a "com/example/lehti/lehti/engine/collation/CollationUnits" "starts" "[I" (.ref ss) ∧ Fld Z h a "com/example/lehti/lehti/engine/collation/CollationUnits" "ends" "[I" (.ref es) ∧ Fld Z h a "com/example/lehti/lehti/engine/collation/CollationUnits" "count" "I" (.int cc) ∧ cc.toInt = cnt ∧ OwnArr Z h wt .long 16 (own_W f cnt) ∧ OwnArr Z h ss .int 16 own_any ∧ OwnArr Z h es .int 16 own_any
theorem own_CU.keep {Z : State} {lb : Nat} {h h' : Heap} {a wt ss es : Addr} {cnt : Nat} {cc : Int32} {f : Nat → Int64} {ws : List Addr} (K : own_CU Z lb h a wt ss es cnt cc f) (k : Keep h h' ws) (q : ∀ x ∈ ws, a < x ∧ wt < x ∧ ss < x ∧ es < x) : own_CU Z lb h' a wt ss es cnt cc f := by
  obtain ⟨g, E, F1, F2, F3, F4, hc, A1, A2, A3⟩ := K
  have na : a ∉ ws := fun y => Nat.lt_irrefl _ (q _ y).1
  have nw : wt ∉ ws := fun y => Nat.lt_irrefl _ (q _ y).2.1
  have ns : ss ∉ ws := fun y => Nat.lt_irrefl _ (q _ y).2.2.1
  have ne : es ∉ ws := fun y => Nat.lt_irrefl _ (q _ y).2.2.2
  exact ⟨g, E.keep k, F1.keep k na, F2.keep k na, F3.keep k na, F4.keep k na, hc, A1.keep k nw, A2.keep k ns, A3.keep k ne⟩
theorem own_CU.ext {Z : State} {lb : Nat} {h h' : Heap} {a wt ss es : Addr} {cnt : Nat} {cc : Int32} {f : Nat → Int64} (K : own_CU Z lb h a wt ss es cnt cc f) (E : Ext h h') : own_CU Z lb h' a wt ss es cnt cc f := K.keep ((Keep.refl h []).ext E) (fun x q => nomatch q)
def own_P (f g : Nat → Int64) (at_ n m : Nat) : Prop := at_ + m ≤ n ∧ ∀ j, j < m → f (at_ + j) = g j
theorem own_nb {o : Int32} (h : o = 0 ∨ o = 1) : nar .boolean o = o := by rcases h with rfl | rfl <;> rfl
theorem own_ltI {x y : Int32} (h : x < y) : x.toInt < y.toInt := Int32.lt_iff_toInt_lt.mp h
theorem own_geI {x y : Int32} (h : ¬ x < y) : y.toInt ≤ x.toInt := by rw [Int32.lt_iff_toInt_lt] at h; omega
theorem own_inc {i : Int32} {k : Nat} (h : i.toInt = k) (hk : k ≤ 1000) : (i + 1).toInt = (k + 1 : Nat) := by
  have q := c_iadd i 1
  have r := rng32 (i + 1)
  have l1 : (1 : Int32).toInt = 1 := by decide
  omega
theorem own_add {x y : Int32} {k j : Nat} (h : x.toInt = k) (h' : y.toInt = j) (hk : k + j ≤ 1000) : (x + y).toInt = (k + j : Nat) := by
  have q := c_iadd x y
  have r := rng32 (x + y)
  omega
theorem own_clamp {i : Int32} {k : Nat} (h : i.toInt = k) : i.toNatClampNeg = k := by rw [Int32.toNatClampNeg]; omega
theorem own_cmp0 {x y : Int64} : XT.cmpL x y = 0 ↔ x = y := by
  unfold XT.cmpL
  by_cases h1 : y < x
  · rw [if_pos h1]
    refine ⟨fun q => absurd q (by decide), fun q => ?_⟩
    subst q
    exact absurd h1 (Int64.lt_irrefl)
  · rw [if_neg h1]
    by_cases h2 : x = y
    · simp [h2]
    · rw [if_neg h2]
      exact ⟨fun q => absurd q (by decide), fun q => absurd q h2⟩
def own_tw (t0 t1 t2 : Int64) (j : Nat) : Int64 := if j = 0 then t0 else if j = 1 then t1 else t2
theorem own_P3 {f : Nat → Int64} {p0 p1 p2 : Int64} {at_ n m : Nat} (hm : m ≤ 3) : own_P f (own_tw p0 p1 p2) at_ n m ↔ at_ + m ≤ n ∧ (m < 1 ∨ f at_ = p0) ∧ (m < 2 ∨ f (at_ + 1) = p1) ∧ (m < 3 ∨ f (at_ + 2) = p2) := by
  constructor
  · rintro ⟨h1, h2⟩
    refine ⟨h1, ?_, ?_, ?_⟩
    · by_cases q : m < 1
      · exact Or.inl q
      · exact Or.inr (h2 0 (by omega))
    · by_cases q : m < 2
      · exact Or.inl q
      · exact Or.inr (h2 1 (by omega))
    · by_cases q : m < 3
      · exact Or.inl q
      · exact Or.inr (h2 2 (by omega))
  · rintro ⟨h1, h2, h3, h4⟩
    refine ⟨h1, fun j hj => ?_⟩
    have hc : j = 0 ∨ j = 1 ∨ j = 2 := by omega
    rcases hc with rfl | rfl | rfl
    · exact h2.resolve_left (by omega)
    · exact h3.resolve_left (by omega)
    · exact h4.resolve_left (by omega)
theorem own_m3 (x : Int32) : 0 ≤ (x &&& 3).toInt ∧ (x &&& 3).toInt ≤ 3 := by
  have q := c_mask x 3 2 (by decide) (by decide)
  omega
theorem own_m5 (x : Int32) : 0 ≤ ((x &&& 7) % 5).toInt ∧ ((x &&& 7) % 5).toInt ≤ 4 := by
  have q := c_mask x 7 3 (by decide) (by decide)
  have r := (c_irem (x &&& 7) 5 5 (by decide)).1 (by omega)
  omega
theorem own_n16 {x : Int32} (h : x.toInt ≤ 8) : ¬ x = 16 := by
  rintro rfl
  have : (16 : Int32).toInt = 16 := by decide
  omega
def own_pick (bits k : Int32) (u v : Int64) : Int64 := if XT.ushr bits k &&& 1 = 0 then u else v

set_option maxRecDepth 65536 in
set_option maxHeartbeats 40000000 in
theorem rm_pick {l : Launch} {Z : State} {a0 : Array Value} {h : Heap} (hw : ∀ d ∈ tables_1, d.before a0 Z = true) (bits : Int32) (k : Int32) (u : Int64) (v : Int64) : OwnPure l Z (⟨"com/example/lehti/lehti/engine/collation/CollationUnitsMatchesPinLaw", "pick", "(IIJJ)J"⟩ : MethodName) method_3_code 6 (some .long) #[(.int bits), (.int k), (.long u), (.long v)] (.long (own_pick bits k u v)) h :=
 own_met (Q := fun ov oh oL => ov = some (.long (own_pick bits k u v)) ∧ oh = h ∧ oL = []) (rm := ownR0) (plainFor_of_name pn_com_example_lehti_lehti_engine_collation_CollationUnitsMatchesPinLaw) (fun m => ef_pick m bits k u v) fun p e s m below meth c T hx hZ hby hml hown hnm hret hlk X eT => by
  refine own_iloadN X hx (hb hby d_pick_0) rfl (pc' := 1) rfl ?_
  refine own_iloadN X hx (hb hby d_pick_1) rfl (pc' := 2) rfl ?_
  refine own_iushr X hx (hb hby d_pick_2) (pc' := 3) rfl ?_
  refine own_iconst X hx (hb hby d_pick_3) (z := (1 : Int32)) rfl (pc' := 4) rfl ?_
  refine own_iand X hx (hb hby d_pick_4) (pc' := 5) rfl ?_
  refine own_if_ne X hx (hb hby d_pick_5) (pc1 := 8) (pc2 := 12) rfl (by decide) (fun hc5 => ?_) (fun hc5 => ?_)
  · refine own_lload X hx (hb hby d_pick_12) rfl (pc' := 14) rfl ?_
    exact own_retJ X hx eT hret hlk (Nat.le_refl _) (Nat.le_refl _) (hb hby d_pick_14) ⟨by simp [own_pick, hc5], rfl, rfl⟩
  · refine own_lloadN X hx (hb hby d_pick_8) rfl (pc' := 9) rfl ?_
    refine own_goto X hx (hb hby d_pick_9) (pc' := 14) (by decide) ?_
    exact own_retJ X hx eT hret hlk (Nat.le_refl _) (Nat.le_refl _) (hb hby d_pick_14) ⟨by simp [own_pick, hc5], rfl, rfl⟩
set_option maxRecDepth 65536 in
set_option maxHeartbeats 40000000 in
theorem rm_init {l : Launch} {Z : State} {a0 : Array Value} {h : Heap} (hw : ∀ d ∈ tables_1, d.before a0 Z = true) (a : Addr) (n0 lb : Nat) (f : Nat → Int64) (hlb : n0 ≤ lb) (ga : lb ≤ a) (E_a : Exa Z h a "com/example/lehti/lehti/engine/collation/CollationUnits") (F_weights : Fld Z h a "com/example/lehti/lehti/engine/collation/CollationUnits" "weights" "[J" .null) (F_starts : Fld Z h a "com/example/lehti/lehti/engine/collation/CollationUnits" "starts" "[I" .null) (F_ends : Fld Z h a "com/example/lehti/lehti/engine/collation/CollationUnits" "ends" "[I" .null) (F_count : Fld Z h a "com/example/lehti/lehti/engine/collation/CollationUnits" "count" "I" (.int 0)) :
    OwnMet l Z (⟨"com/example/lehti/lehti/engine/collation/CollationUnits", "<init>", "()V"⟩ : MethodName) prog_20_method_1_code 1 none #[(.ref a)] ({ frames := 1, cells := 3, slots := 48, locals := 12 } : Room) (fun v h' L => v = none ∧ Fr n0 L ∧ Keep h h' [a] ∧ ∃ wt ss es, own_CU Z lb h' a wt ss es 0 0 f) h :=
 own_met (Q := fun v h' L => v = none ∧ Fr n0 L ∧ Keep h h' [a] ∧ ∃ wt ss es, own_CU Z lb h' a wt ss es 0 0 f) (rm := ({ frames := 1, cells := 3, slots := 48, locals := 12 } : Room)) (plainFor_of_name pn_com_example_lehti_lehti_engine_collation_CollationUnits) (fun m => ef_init m a) fun p e s m below meth c T hx hZ hby hml hown hnm hret hlk X eT => by
  have N := Fr.nil n0
  have K := Keep.refl h [a]
  refine own_aloadN X hx (hb hby d_init_0) rfl rfl (pc' := 1) rfl ?_
  obtain ⟨T, X, eT, kI⟩ := Jvm.RoadKit.initO X hx hZ hown (hw _ (List.mem_of_getElem? (i := 10) rfl)) (hw _ (List.mem_of_getElem? (i := 11) rfl)) (hw _ (List.mem_of_getElem? (i := 12) rfl)) eT (g := mkF m 1 #[.val (.ref a)] [(.ref a)]) rfl (by rw [hml]; rfl) rfl (hb hby d_init_1) (by decide) (W := 0) (by show 2 * 0 + _ ≤ _; exact Nat.le_of_eq rfl) (by decide)
  refine own_step kI ?_
  show OwnGo p e below s _ _ _ (T.setTop (mkF m 4 #[.val (.ref a)] []))
  refine own_aloadN X hx (hb hby d_init_4) rfl rfl (pc' := 5) rfl ?_
  refine own_bipush X hx (hb hby d_init_5) (z := (16 : Int32)) rfl (pc' := 7) rfl ?_
  refine own_newP X hx hZ (aty := .long) (hw _ (List.mem_of_getElem? (i := 13) rfl)) eT (n := (16 : Int32)) (by decide) (cap := 16) (by decide) (by decide) (by decide) (by decide) (ad := "[J") (by decide) (hb hby d_init_7) (pc' := 9) rfl fun T h1 wt k hbs X eT E A EA => ?_
  have ne_wt : wt ≠ a := by rw [hbs]; exact Nat.ne_of_gt E_a.lt
  have g_wt : lb ≤ wt := by rw [hbs]; exact Nat.le_trans ga (Nat.le_of_lt E_a.lt)
  replace E_a := E_a.ext E
  replace K := K.ext E
  replace F_weights := F_weights.ext E
  replace F_starts := F_starts.ext E
  replace F_ends := F_ends.ext E
  replace F_count := F_count.ext E
  have A_wt : OwnArr Z h1 wt .long 16 (own_W f 0) := (OwnArr.new (ty := .long) A (by decide)).mono fun _ _ _ q => ⟨0, q, fun y => absurd y (Nat.not_lt_zero _)⟩
  refine own_putF X hx hZ hown (hw _ (List.mem_of_getElem? (i := 14) rfl)) eT F_weights E_a (Or.inl (hw _ (List.mem_of_getElem? (i := 15) rfl))) (hw _ (List.mem_of_getElem? (i := 5) rfl)) (ty := (.array .long)) (by decide) rfl rfl (hb hby d_init_9) (pc' := 12) rfl fun T h1 X eT W => ?_
  replace F_weights := F_weights.same W
  replace F_starts := F_starts.other W (Or.inr (slot_ne (Or.inl (hw _ (List.mem_of_getElem? (i := 18) rfl))) (Or.inl (hw _ (List.mem_of_getElem? (i := 15) rfl))) (by decide) (t := (.array .int)) (t' := (.array .long)) (by decide) (by decide)))
  replace F_ends := F_ends.other W (Or.inr (slot_ne (Or.inl (hw _ (List.mem_of_getElem? (i := 20) rfl))) (Or.inl (hw _ (List.mem_of_getElem? (i := 15) rfl))) (by decide) (t := (.array .int)) (t' := (.array .long)) (by decide) (by decide)))
  replace F_count := F_count.other W (Or.inr (slot_ne (Or.inl (hw _ (List.mem_of_getElem? (i := 27) rfl))) (Or.inl (hw _ (List.mem_of_getElem? (i := 15) rfl))) (by decide) (t := .int) (t' := (.array .long)) (by decide) (by decide)))
  replace E_a := E_a.wr W
  replace K := K.wr W (Or.inl (List.mem_of_getElem? (i := 0) rfl))
  replace A_wt := A_wt.other W ne_wt
  replace N := Fr.snoc X N (Nat.le_trans hlb ga)
  refine own_aloadN X hx (hb hby d_init_12) rfl rfl (pc' := 13) rfl ?_
  refine own_bipush X hx (hb hby d_init_13) (z := (16 : Int32)) rfl (pc' := 15) rfl ?_
  refine own_newP X hx hZ (aty := .int) (hw _ (List.mem_of_getElem? (i := 16) rfl)) eT (n := (16 : Int32)) (by decide) (cap := 16) (by decide) (by decide) (by decide) (by decide) (ad := "[I") (by decide) (hb hby d_init_15) (pc' := 17) rfl fun T h1 ss k hbs X eT E A EA => ?_
  have ne_ss : ss ≠ a := by rw [hbs]; exact Nat.ne_of_gt E_a.lt
  have g_ss : lb ≤ ss := by rw [hbs]; exact Nat.le_trans ga (Nat.le_of_lt E_a.lt)
  have ne_wt_ss : wt ≠ ss := by rw [hbs]; exact Nat.ne_of_lt A_wt.lt
  replace E_a := E_a.ext E
  replace K := K.ext E
  replace F_weights := F_weights.ext E
  replace F_starts := F_starts.ext E
  replace F_ends := F_ends.ext E
  replace F_count := F_count.ext E
  replace A_wt := A_wt.ext E
  have A_ss : OwnArr Z h1 ss .int 16 (own_any) := (OwnArr.new (ty := .int) A (by decide)).mono fun _ _ _ q => trivial
  refine own_putF X hx hZ hown (hw _ (List.mem_of_getElem? (i := 17) rfl)) eT F_starts E_a (Or.inl (hw _ (List.mem_of_getElem? (i := 18) rfl))) (hw _ (List.mem_of_getElem? (i := 5) rfl)) (ty := (.array .int)) (by decide) rfl rfl (hb hby d_init_17) (pc' := 20) rfl fun T h1 X eT W => ?_
  replace F_weights := F_weights.other W (Or.inr (slot_ne (Or.inl (hw _ (List.mem_of_getElem? (i := 15) rfl))) (Or.inl (hw _ (List.mem_of_getElem? (i := 18) rfl))) (by decide) (t := (.array .long)) (t' := (.array .int)) (by decide) (by decide)))
  replace F_starts := F_starts.same W
  replace F_ends := F_ends.other W (Or.inr (slot_ne (Or.inl (hw _ (List.mem_of_getElem? (i := 20) rfl))) (Or.inl (hw _ (List.mem_of_getElem? (i := 18) rfl))) (by decide) (t := (.array .int)) (t' := (.array .int)) (by decide) (by decide)))
  replace F_count := F_count.other W (Or.inr (slot_ne (Or.inl (hw _ (List.mem_of_getElem? (i := 27) rfl))) (Or.inl (hw _ (List.mem_of_getElem? (i := 18) rfl))) (by decide) (t := .int) (t' := (.array .int)) (by decide) (by decide)))
  replace E_a := E_a.wr W
  replace K := K.wr W (Or.inl (List.mem_of_getElem? (i := 0) rfl))
  replace A_wt := A_wt.other W ne_wt
  replace A_ss := A_ss.other W ne_ss
  replace N := Fr.snoc X N (Nat.le_trans hlb ga)
  refine own_aloadN X hx (hb hby d_init_20) rfl rfl (pc' := 21) rfl ?_
  refine own_bipush X hx (hb hby d_init_21) (z := (16 : Int32)) rfl (pc' := 23) rfl ?_
  refine own_newP X hx hZ (aty := .int) (hw _ (List.mem_of_getElem? (i := 16) rfl)) eT (n := (16 : Int32)) (by decide) (cap := 16) (by decide) (by decide) (by decide) (by decide) (ad := "[I") (by decide) (hb hby d_init_23) (pc' := 25) rfl fun T h1 es k hbs X eT E A EA => ?_
  have ne_es : es ≠ a := by rw [hbs]; exact Nat.ne_of_gt E_a.lt
  have g_es : lb ≤ es := by rw [hbs]; exact Nat.le_trans ga (Nat.le_of_lt E_a.lt)
  have ne_wt_es : wt ≠ es := by rw [hbs]; exact Nat.ne_of_lt A_wt.lt
  have ne_ss_es : ss ≠ es := by rw [hbs]; exact Nat.ne_of_lt A_ss.lt
  replace E_a := E_a.ext E
  replace K := K.ext E
  replace F_weights := F_weights.ext E
  replace F_starts := F_starts.ext E
  replace F_ends := F_ends.ext E
  replace F_count := F_count.ext E
  replace A_wt := A_wt.ext E
  replace A_ss := A_ss.ext E
  have A_es : OwnArr Z h1 es .int 16 (own_any) := (OwnArr.new (ty := .int) A (by decide)).mono fun _ _ _ q => trivial
  refine own_putF X hx hZ hown (hw _ (List.mem_of_getElem? (i := 19) rfl)) eT F_ends E_a (Or.inl (hw _ (List.mem_of_getElem? (i := 20) rfl))) (hw _ (List.mem_of_getElem? (i := 5) rfl)) (ty := (.array .int)) (by decide) rfl rfl (hb hby d_init_25) (pc' := 28) rfl fun T h1 X eT W => ?_
  replace F_weights := F_weights.other W (Or.inr (slot_ne (Or.inl (hw _ (List.mem_of_getElem? (i := 15) rfl))) (Or.inl (hw _ (List.mem_of_getElem? (i := 20) rfl))) (by decide) (t := (.array .long)) (t' := (.array .int)) (by decide) (by decide)))
  replace F_starts := F_starts.other W (Or.inr (slot_ne (Or.inl (hw _ (List.mem_of_getElem? (i := 18) rfl))) (Or.inl (hw _ (List.mem_of_getElem? (i := 20) rfl))) (by decide) (t := (.array .int)) (t' := (.array .int)) (by decide) (by decide)))
  replace F_ends := F_ends.same W
  replace F_count := F_count.other W (Or.inr (slot_ne (Or.inl (hw _ (List.mem_of_getElem? (i := 27) rfl))) (Or.inl (hw _ (List.mem_of_getElem? (i := 20) rfl))) (by decide) (t := .int) (t' := (.array .int)) (by decide) (by decide)))
  replace E_a := E_a.wr W
  replace K := K.wr W (Or.inl (List.mem_of_getElem? (i := 0) rfl))
  replace A_wt := A_wt.other W ne_wt
  replace A_ss := A_ss.other W ne_ss
  replace A_es := A_es.other W ne_es
  replace N := Fr.snoc X N (Nat.le_trans hlb ga)
  exact own_retV X hx eT hret hlk (by decide) (by decide) (hb hby d_init_28) ⟨rfl, N, K, wt, ss, es, ⟨ga, g_wt, g_ss, g_es, ne_wt, ne_ss, ne_es, ne_wt_ss, ne_wt_es, ne_ss_es⟩, E_a, F_weights, F_starts, F_ends, F_count, rfl, A_wt, A_ss, A_es⟩
set_option maxRecDepth 65536 in
set_option maxHeartbeats 40000000 in
theorem rm_add {l : Launch} {Z : State} {a0 : Array Value} {h : Heap} (hw : ∀ d ∈ tables_1, d.before a0 Z = true) (a wt ss es : Addr) (n0 lb cnt : Nat) (cc : Int32) (f : Nat → Int64) (x1 : Int64) (sx ex : Int32) (hlb : n0 ≤ lb) (hcn : cnt ≤ 8) (hx1 : x1 = f cnt) (KU : own_CU Z lb h a wt ss es cnt cc f) :
    OwnMet l Z (⟨"com/example/lehti/lehti/engine/collation/CollationUnits", "add", "(JII)V"⟩ : MethodName) prog_20_method_3_code 6 none #[(.ref a), (.long x1), (.int sx), (.int ex)] ({ frames := 0, cells := 0, slots := 0, locals := 0 } : Room) (fun v h' L => v = none ∧ Fr n0 L ∧ Keep h h' [a, wt, ss, es] ∧ own_CU Z lb h' a wt ss es (cnt + 1) (cc + 1) f) h :=
 own_met (Q := fun v h' L => v = none ∧ Fr n0 L ∧ Keep h h' [a, wt, ss, es] ∧ own_CU Z lb h' a wt ss es (cnt + 1) (cc + 1) f) (rm := ({ frames := 0, cells := 0, slots := 0, locals := 0 } : Room)) (plainFor_of_name pn_com_example_lehti_lehti_engine_collation_CollationUnits) (fun m => ef_add m a x1 sx ex) fun p e s m below meth c T hx hZ hby hml hown hnm hret hlk X eT => by
  have N := Fr.nil n0
  have K := Keep.refl h [a, wt, ss, es]
  obtain ⟨⟨ga, g_wt, g_ss, g_es, ne_wt, ne_ss, ne_es, ne_wt_ss, ne_wt_es, ne_ss_es⟩, E_a, F_weights, F_starts, F_ends, F_count, hcc, A_wt, A_ss, A_es⟩ := KU
  refine own_aloadN X hx (hb hby d_add_0) rfl rfl (pc' := 1) rfl ?_
  refine own_getF X hx hZ hown (hw _ (List.mem_of_getElem? (i := 26) rfl)) eT F_count (hb hby d_add_1) (pc' := 4) rfl fun T X eT => ?_
  refine own_aloadN X hx (hb hby d_add_4) rfl rfl (pc' := 5) rfl ?_
  refine own_getF X hx hZ hown (hw _ (List.mem_of_getElem? (i := 14) rfl)) eT F_weights (hb hby d_add_5) (pc' := 8) rfl fun T X eT => ?_
  refine own_lengthA X hx hZ eT A_wt (z := (16 : Int32)) (by decide) (hb hby d_add_8) (pc' := 9) rfl ?_
  refine own_icmp_ne X hx (hb hby d_add_9) (pc1 := 12) (pc2 := 59) rfl (by decide) (fun hc9 => ?_) (fun hc9 => absurd hc9 (own_n16 (by omega)))
  refine own_aloadN X hx (hb hby d_add_59) rfl rfl (pc' := 60) rfl ?_
  refine own_getF X hx hZ hown (hw _ (List.mem_of_getElem? (i := 14) rfl)) eT F_weights (hb hby d_add_60) (pc' := 63) rfl fun T X eT => ?_
  refine own_aloadN X hx (hb hby d_add_63) rfl rfl (pc' := 64) rfl ?_
  refine own_getF X hx hZ hown (hw _ (List.mem_of_getElem? (i := 26) rfl)) eT F_count (hb hby d_add_64) (pc' := 67) rfl fun T X eT => ?_
  refine own_lloadN X hx (hb hby d_add_67) rfl (pc' := 68) rfl ?_
  refine own_lastoreA X hx hZ eT A_wt (by omega) (by omega) (own_W f (cnt + 1)) (fun j w _ q1 q2 => by
      by_cases q : j = cc.toNatClampNeg
      · refine ⟨x1, q1 q, fun _ => ?_⟩
        rw [q, own_clamp hcc]; exact hx1
      · obtain ⟨y, y1, y2⟩ := q2 q
        rw [own_clamp hcc] at q
        exact ⟨y, y1, fun hj => y2 (by omega)⟩) (hb hby d_add_68) (pc' := 69) rfl fun T h1 X eT W A_wt => ?_
  replace F_weights := F_weights.other W (Or.inl ne_wt.symm)
  replace F_starts := F_starts.other W (Or.inl ne_wt.symm)
  replace F_ends := F_ends.other W (Or.inl ne_wt.symm)
  replace F_count := F_count.other W (Or.inl ne_wt.symm)
  replace A_ss := A_ss.other W ne_wt_ss.symm
  replace A_es := A_es.other W ne_wt_es.symm
  replace E_a := E_a.wr W
  replace K := K.wr W (Or.inl (List.mem_of_getElem? (i := 1) rfl))
  replace N := Fr.snoc X N (Nat.le_trans hlb g_wt)
  refine own_aloadN X hx (hb hby d_add_69) rfl rfl (pc' := 70) rfl ?_
  refine own_getF X hx hZ hown (hw _ (List.mem_of_getElem? (i := 17) rfl)) eT F_starts (hb hby d_add_70) (pc' := 73) rfl fun T X eT => ?_
  refine own_aloadN X hx (hb hby d_add_73) rfl rfl (pc' := 74) rfl ?_
  refine own_getF X hx hZ hown (hw _ (List.mem_of_getElem? (i := 26) rfl)) eT F_count (hb hby d_add_74) (pc' := 77) rfl fun T X eT => ?_
  refine own_iloadN X hx (hb hby d_add_77) rfl (pc' := 78) rfl ?_
  refine own_iastoreA X hx hZ eT A_ss (by omega) (by omega) own_any (fun _ _ _ _ _ => trivial) (hb hby d_add_78) (pc' := 79) rfl fun T h1 X eT W A_ss => ?_
  replace F_weights := F_weights.other W (Or.inl ne_ss.symm)
  replace F_starts := F_starts.other W (Or.inl ne_ss.symm)
  replace F_ends := F_ends.other W (Or.inl ne_ss.symm)
  replace F_count := F_count.other W (Or.inl ne_ss.symm)
  replace A_wt := A_wt.other W ne_wt_ss
  replace A_es := A_es.other W ne_ss_es.symm
  replace E_a := E_a.wr W
  replace K := K.wr W (Or.inl (List.mem_of_getElem? (i := 2) rfl))
  replace N := Fr.snoc X N (Nat.le_trans hlb g_ss)
  refine own_aloadN X hx (hb hby d_add_79) rfl rfl (pc' := 80) rfl ?_
  refine own_getF X hx hZ hown (hw _ (List.mem_of_getElem? (i := 19) rfl)) eT F_ends (hb hby d_add_80) (pc' := 83) rfl fun T X eT => ?_
  refine own_aloadN X hx (hb hby d_add_83) rfl rfl (pc' := 84) rfl ?_
  refine own_getF X hx hZ hown (hw _ (List.mem_of_getElem? (i := 26) rfl)) eT F_count (hb hby d_add_84) (pc' := 87) rfl fun T X eT => ?_
  refine own_iload X hx (hb hby d_add_87) rfl (pc' := 89) rfl ?_
  refine own_iastoreA X hx hZ eT A_es (by omega) (by omega) own_any (fun _ _ _ _ _ => trivial) (hb hby d_add_89) (pc' := 90) rfl fun T h1 X eT W A_es => ?_
  replace F_weights := F_weights.other W (Or.inl ne_es.symm)
  replace F_starts := F_starts.other W (Or.inl ne_es.symm)
  replace F_ends := F_ends.other W (Or.inl ne_es.symm)
  replace F_count := F_count.other W (Or.inl ne_es.symm)
  replace A_wt := A_wt.other W ne_wt_es
  replace A_ss := A_ss.other W ne_ss_es
  replace E_a := E_a.wr W
  replace K := K.wr W (Or.inl (List.mem_of_getElem? (i := 3) rfl))
  replace N := Fr.snoc X N (Nat.le_trans hlb g_es)
  refine own_aloadN X hx (hb hby d_add_90) rfl rfl (pc' := 91) rfl ?_
  refine own_dup X hx (hb hby d_add_91) rfl (pc' := 92) rfl ?_
  refine own_getF X hx hZ hown (hw _ (List.mem_of_getElem? (i := 26) rfl)) eT F_count (hb hby d_add_92) (pc' := 95) rfl fun T X eT => ?_
  refine own_iconst X hx (hb hby d_add_95) (z := (1 : Int32)) rfl (pc' := 96) rfl ?_
  refine own_iadd X hx (hb hby d_add_96) (pc' := 97) rfl ?_
  refine own_putF X hx hZ hown (hw _ (List.mem_of_getElem? (i := 26) rfl)) eT F_count E_a (Or.inl (hw _ (List.mem_of_getElem? (i := 27) rfl))) (hw _ (List.mem_of_getElem? (i := 5) rfl)) (ty := .int) (by decide) rfl rfl (hb hby d_add_97) (pc' := 100) rfl fun T h1 X eT W => ?_
  replace F_weights := F_weights.other W (Or.inr (slot_ne (Or.inl (hw _ (List.mem_of_getElem? (i := 15) rfl))) (Or.inl (hw _ (List.mem_of_getElem? (i := 27) rfl))) (by decide) (t := (.array .long)) (t' := .int) (by decide) (by decide)))
  replace F_starts := F_starts.other W (Or.inr (slot_ne (Or.inl (hw _ (List.mem_of_getElem? (i := 18) rfl))) (Or.inl (hw _ (List.mem_of_getElem? (i := 27) rfl))) (by decide) (t := (.array .int)) (t' := .int) (by decide) (by decide)))
  replace F_ends := F_ends.other W (Or.inr (slot_ne (Or.inl (hw _ (List.mem_of_getElem? (i := 20) rfl))) (Or.inl (hw _ (List.mem_of_getElem? (i := 27) rfl))) (by decide) (t := (.array .int)) (t' := .int) (by decide) (by decide)))
  replace F_count := F_count.same W
  replace E_a := E_a.wr W
  replace K := K.wr W (Or.inl (List.mem_of_getElem? (i := 0) rfl))
  replace A_wt := A_wt.other W ne_wt
  replace A_ss := A_ss.other W ne_ss
  replace A_es := A_es.other W ne_es
  replace N := Fr.snoc X N (Nat.le_trans hlb ga)
  exact own_retV X hx eT hret hlk (by decide) (by decide) (hb hby d_add_100) ⟨rfl, N, K, ⟨ga, g_wt, g_ss, g_es, ne_wt, ne_ss, ne_es, ne_wt_ss, ne_wt_es, ne_ss_es⟩, E_a, F_weights, F_starts, F_ends, F_count, own_inc hcc (by omega), A_wt, A_ss, A_es⟩
set_option maxRecDepth 65536 in
set_option maxHeartbeats 40000000 in
theorem rm_matches {l : Launch} {Z : State} {a0 : Array Value} {h : Heap} (hw : ∀ d ∈ tables_1, d.before a0 Z = true) (a wt ss es a' wt' ss' es' : Addr) (lb lb' n' m' at_ : Nat) (cc cc' ax R1 : Int32) (f g : Nat → Int64) (hax : ax.toInt = at_) (hat : at_ ≤ 8) (hn8 : n' ≤ 8) (hm8 : m' ≤ 8) (K1 : own_CU Z lb h a wt ss es n' cc f) (K2 : own_CU Z lb' h a' wt' ss' es' m' cc' g) (hR1 : own_P f g at_ n' m' → R1 = 1) (hR0 : ¬ own_P f g at_ n' m' → R1 = 0) : OwnPure l Z (⟨"com/example/lehti/lehti/engine/collation/CollationUnits", "matches", "(Lcom/example/lehti/lehti/engine/collation/CollationUnits;I)Z"⟩ : MethodName) prog_20_method_4_code 5 (some .boolean) #[.ref a, .ref a', .int ax] (.int R1) h :=
 own_met (Q := fun v h' L => v = some (.int R1) ∧ h' = h ∧ L = []) (rm := ownR0) (plainFor_of_name pn_com_example_lehti_lehti_engine_collation_CollationUnits) (fun m => ef_matches m a a' ax) fun p e s m below meth c T hx hZ hby hml hown hnm hret hlk X eT => by
  obtain ⟨⟨ga, g_wt, g_ss, g_es, ne_wt, ne_ss, ne_es, ne_wt_ss, ne_wt_es, ne_ss_es⟩, E_a, F_weights, F_starts, F_ends, F_count, hcc, A_wt, A_ss, A_es⟩ := K1
  obtain ⟨-, E_a', F_weights', -, -, F_count', hcc', A_wt', -, -⟩ := K2
  have hsum := own_add hax hcc' (by omega)
  have loop : ∀ (r k : Nat) (T : State) (i sm : Int32), Stand p l e ownR0 s m #[.ref a, .ref a', .int ax] below meth c T [] 0 0 → T.heap = h → i.toInt = k → k ≤ m' → m' - k = r → (sm = 0 ∨ sm = 1) → (sm = 1 → at_ + m' ≤ n' ∧ ∀ j, j < k → f (at_ + j) = g j) → (sm = 0 → ¬ own_P f g at_ n' m') → OwnGo p e below s (fun v h' L => v = some (.int R1) ∧ h' = h ∧ L = []) ownR0.cells ownR0.slots (T.setTop (mkF m 22 #[.val (.ref a), .val (.ref a'), .val (.int ax), .val (.int sm), .val (.int i)] [])) := by
    intro r
    induction r using Nat.strongRecOn with
    | _ r ih =>
      intro k T i sm X eT hi hk hr hsm hs1 hs0
      refine own_iloadN X hx (hb hby d_matches_22) rfl (pc' := 23) rfl ?_
      refine own_if_eq X hx (hb hby d_matches_23) (pc1 := 26) (pc2 := 67) rfl (by decide) (fun hc23 => ?_) (fun hc23 => ?_)
      · skip
        refine own_iloadN X hx (hb hby d_matches_67) rfl (pc' := 68) rfl ?_
        exact own_retZ X hx eT hret hlk (by decide) (by decide) (hb hby d_matches_68) ⟨by rw [own_nb hsm, hc23, hR0 (hs0 hc23)], rfl, rfl⟩
      · refine own_iload X hx (hb hby d_matches_26) rfl (pc' := 28) rfl ?_
        refine own_aloadN X hx (hb hby d_matches_28) rfl rfl (pc' := 29) rfl ?_
        refine own_getF X hx hZ hown (hw _ (List.mem_of_getElem? (i := 26) rfl)) eT F_count' (hb hby d_matches_29) (pc' := 32) rfl fun T X eT => ?_
        refine own_icmp_ge X hx (hb hby d_matches_32) (pc1 := 35) (pc2 := 67) rfl (by decide) (fun hc32 => ?_) (fun hc32 => ?_)
        · skip
          refine own_iloadN X hx (hb hby d_matches_67) rfl (pc' := 68) rfl ?_
          have hge := own_geI hc32
          have hsm1 : sm = 1 := hsm.resolve_left hc23
          exact own_retZ X hx eT hret hlk (by decide) (by decide) (hb hby d_matches_68) ⟨by rw [own_nb hsm, hsm1, hR1 ⟨(hs1 hsm1).1, fun j hj => (hs1 hsm1).2 j (by omega)⟩], rfl, rfl⟩
        · have hlt := own_ltI hc32
          have hsm1 : sm = 1 := hsm.resolve_left hc23
          have hai := own_add hax hi (by omega)
          have hle := (hs1 hsm1).1
          refine own_aloadN X hx (hb hby d_matches_35) rfl rfl (pc' := 36) rfl ?_
          refine own_getF X hx hZ hown (hw _ (List.mem_of_getElem? (i := 14) rfl)) eT F_weights (hb hby d_matches_36) (pc' := 39) rfl fun T X eT => ?_
          refine own_iloadN X hx (hb hby d_matches_39) rfl (pc' := 40) rfl ?_
          refine own_iload X hx (hb hby d_matches_40) rfl (pc' := 42) rfl ?_
          refine own_iadd X hx (hb hby d_matches_42) (pc' := 43) rfl ?_
          refine own_laloadA X hx hZ eT A_wt (by omega) (by omega) (hb hby d_matches_43) (pc' := 44) rfl fun v hv => ?_
          obtain ⟨u1, rfl, hu1⟩ := hv
          replace hu1 : u1 = f (at_ + k) := by rw [hu1 (by rw [own_clamp hai]; omega), own_clamp hai]
          refine own_aloadN X hx (hb hby d_matches_44) rfl rfl (pc' := 45) rfl ?_
          refine own_getF X hx hZ hown (hw _ (List.mem_of_getElem? (i := 14) rfl)) eT F_weights' (hb hby d_matches_45) (pc' := 48) rfl fun T X eT => ?_
          refine own_iload X hx (hb hby d_matches_48) rfl (pc' := 50) rfl ?_
          refine own_laloadA X hx hZ eT A_wt' (by omega) (by omega) (hb hby d_matches_50) (pc' := 51) rfl fun v hv => ?_
          obtain ⟨u2, rfl, hu2⟩ := hv
          replace hu2 : u2 = g k := by rw [hu2 (by rw [own_clamp hi]; omega), own_clamp hi]
          refine own_lcmp X hx (hb hby d_matches_51) (pc' := 52) rfl ?_
          refine own_if_ne X hx (hb hby d_matches_52) (pc1 := 55) (pc2 := 59) rfl (by decide) (fun hc52 => ?_) (fun hc52 => ?_)
          · refine own_iconst X hx (hb hby d_matches_59) (z := (0 : Int32)) rfl (pc' := 60) rfl ?_
            refine own_istoreN X hx (hb hby d_matches_60) (Ls' := #[.val (.ref a), .val (.ref a'), .val (.int ax), .val (.int (0 : Int32)), .val (.int i)]) rfl (pc' := 61) rfl ?_
            refine own_iinc X hx (hb hby d_matches_61) rfl (z := (i + (1 : Int32))) rfl (Ls' := #[.val (.ref a), .val (.ref a'), .val (.int ax), .val (.int (0 : Int32)), .val (.int (i + (1 : Int32)))]) rfl (pc' := 64) rfl ?_
            refine own_goto X hx (hb hby d_matches_64) (pc' := 22) (by decide) ?_
            have hq : ¬ u1 = u2 := fun y => hc52 (own_cmp0.mpr y)
            exact ih _ (by omega) (k + 1) T (i + 1) 0 X eT (own_inc hi (by omega)) (by omega) rfl (Or.inl rfl) (fun y => absurd y (by decide)) (fun _ y => hq (by rw [hu1, hu2]; exact y.2 k (by omega)))
          · refine own_iconst X hx (hb hby d_matches_55) (z := (1 : Int32)) rfl (pc' := 56) rfl ?_
            refine own_goto X hx (hb hby d_matches_56) (pc' := 60) (by decide) ?_
            refine own_istoreN X hx (hb hby d_matches_60) (Ls' := #[.val (.ref a), .val (.ref a'), .val (.int ax), .val (.int (1 : Int32)), .val (.int i)]) rfl (pc' := 61) rfl ?_
            refine own_iinc X hx (hb hby d_matches_61) rfl (z := (i + (1 : Int32))) rfl (Ls' := #[.val (.ref a), .val (.ref a'), .val (.int ax), .val (.int (1 : Int32)), .val (.int (i + (1 : Int32)))]) rfl (pc' := 64) rfl ?_
            refine own_goto X hx (hb hby d_matches_64) (pc' := 22) (by decide) ?_
            have hq := own_cmp0.mp hc52
            exact ih _ (by omega) (k + 1) T (i + 1) 1 X eT (own_inc hi (by omega)) (by omega) rfl (Or.inr rfl) (fun _ => ⟨hle, fun j hj => by
                by_cases y : j = k
                · subst y; rw [← hu1, ← hu2]; exact hq
                · exact (hs1 hsm1).2 j (by omega)⟩) (fun y => absurd y (by decide))
  refine own_iloadN X hx (hb hby d_matches_0) rfl (pc' := 1) rfl ?_
  refine own_aloadN X hx (hb hby d_matches_1) rfl rfl (pc' := 2) rfl ?_
  refine own_getF X hx hZ hown (hw _ (List.mem_of_getElem? (i := 26) rfl)) eT F_count' (hb hby d_matches_2) (pc' := 5) rfl fun T X eT => ?_
  refine own_iadd X hx (hb hby d_matches_5) (pc' := 6) rfl ?_
  refine own_aloadN X hx (hb hby d_matches_6) rfl rfl (pc' := 7) rfl ?_
  refine own_getF X hx hZ hown (hw _ (List.mem_of_getElem? (i := 26) rfl)) eT F_count (hb hby d_matches_7) (pc' := 10) rfl fun T X eT => ?_
  refine own_icmp_gt X hx (hb hby d_matches_10) (pc1 := 13) (pc2 := 17) rfl (by decide) (fun hc10 => ?_) (fun hc10 => ?_)
  · refine own_iconst X hx (hb hby d_matches_17) (z := (0 : Int32)) rfl (pc' := 18) rfl ?_
    refine own_istoreN X hx (hb hby d_matches_18) (Ls' := #[.val (.ref a), .val (.ref a'), .val (.int ax), .val (.int (0 : Int32)), .unset]) rfl (pc' := 19) rfl ?_
    refine own_iconst X hx (hb hby d_matches_19) (z := (0 : Int32)) rfl (pc' := 20) rfl ?_
    refine own_istore X hx (hb hby d_matches_20) (Ls' := #[.val (.ref a), .val (.ref a'), .val (.int ax), .val (.int (0 : Int32)), .val (.int (0 : Int32))]) rfl (pc' := 22) rfl ?_
    have hq := own_ltI hc10
    exact loop _ 0 T 0 0 X eT rfl (Nat.zero_le _) rfl (Or.inl rfl) (fun y => absurd y (by decide)) (fun _ y => by have := y.1; omega)
  · refine own_iconst X hx (hb hby d_matches_13) (z := (1 : Int32)) rfl (pc' := 14) rfl ?_
    refine own_goto X hx (hb hby d_matches_14) (pc' := 18) (by decide) ?_
    refine own_istoreN X hx (hb hby d_matches_18) (Ls' := #[.val (.ref a), .val (.ref a'), .val (.int ax), .val (.int (1 : Int32)), .unset]) rfl (pc' := 19) rfl ?_
    refine own_iconst X hx (hb hby d_matches_19) (z := (0 : Int32)) rfl (pc' := 20) rfl ?_
    refine own_istore X hx (hb hby d_matches_20) (Ls' := #[.val (.ref a), .val (.ref a'), .val (.int ax), .val (.int (1 : Int32)), .val (.int (0 : Int32))]) rfl (pc' := 22) rfl ?_
    have hq := own_geI hc10
    exact loop _ 0 T 0 1 X eT rfl (Nat.zero_le _) rfl (Or.inr rfl) (fun _ => ⟨by omega, fun j hj => absurd hj (Nat.not_lt_zero _)⟩) (fun y => absurd y (by decide))
set_option maxRecDepth 65536 in
set_option maxHeartbeats 40000000 in
theorem rm_law (l : Launch) (Z : State) (a0 : Array Value) (hw : ∀ d ∈ tables_1, d.before a0 Z = true) (ws : List Jvm.Cond) (aa : Int64) (bb : Int64) (sh : Int32) (bits : Int32) (h0 : Heap) (n0 : Nat) (hn0 : n0 ≤ h0.size) :
    MetFree l x (head1 (Jvm.Cond.code x code maxLocals ret :: ws) room_1) (fun a U => a = #[(.long aa), (.long bb), (.int sh), (.int bits)] ∧ Z.Warmed39 U.vm ∧ U.heap = h0) (fun _ _ _ _ _ => True) (fun _ U o U' => ∃ v L, o = .returned v ∧ (v = some (.int 1) ∧ Fr n0 L) ∧ FrameEnd U o U' L room_1.cells room_1.slots) :=
 own_met (Q := fun v _ L => v = some (.int 1) ∧ Fr n0 L) (plainFor_of_name pn_com_example_lehti_lehti_engine_collation_CollationUnitsMatchesPinLaw) (fun m => ef_law m aa bb sh bits) fun p e s m below meth c T hx hZ hby hml hown hnm hret hlk X eT => by
  refine own_iload X hx (hb hby at_0) rfl (pc' := 2) rfl ?_
  refine own_iconst X hx (hb hby at_2) (z := (3 : Int32)) rfl (pc' := 3) rfl ?_
  refine own_iand X hx (hb hby at_3) (pc' := 4) rfl ?_
  generalize hnn : (sh &&& (3 : Int32)) = nn
  refine own_istore X hx (hb hby at_4) (Ls' := #[.val (.long aa), .second, .val (.long bb), .second, .val (.int sh), .val (.int bits), .val (.int nn), .unset, .unset, .unset, .unset, .unset, .unset, .unset, .unset, .unset, .unset, .unset, .unset, .unset, .unset, .unset, .unset, .unset, .unset, .unset]) rfl (pc' := 6) rfl ?_
  replace hnn : 0 ≤ nn.toInt ∧ nn.toInt ≤ 3 := by rw [← hnn]; exact own_m3 _
  refine own_iload X hx (hb hby at_6) rfl (pc' := 8) rfl ?_
  refine own_iconst X hx (hb hby at_8) (z := (2 : Int32)) rfl (pc' := 9) rfl ?_
  refine own_iushr X hx (hb hby at_9) (pc' := 10) rfl ?_
  refine own_iconst X hx (hb hby at_10) (z := (3 : Int32)) rfl (pc' := 11) rfl ?_
  refine own_iand X hx (hb hby at_11) (pc' := 12) rfl ?_
  generalize hmm : ((XT.ushr sh (2 : Int32)) &&& (3 : Int32)) = mm
  refine own_istore X hx (hb hby at_12) (Ls' := #[.val (.long aa), .second, .val (.long bb), .second, .val (.int sh), .val (.int bits), .val (.int nn), .val (.int mm), .unset, .unset, .unset, .unset, .unset, .unset, .unset, .unset, .unset, .unset, .unset, .unset, .unset, .unset, .unset, .unset, .unset, .unset]) rfl (pc' := 14) rfl ?_
  replace hmm : 0 ≤ mm.toInt ∧ mm.toInt ≤ 3 := by rw [← hmm]; exact own_m3 _
  refine own_iload X hx (hb hby at_14) rfl (pc' := 16) rfl ?_
  refine own_iconst X hx (hb hby at_16) (z := (4 : Int32)) rfl (pc' := 17) rfl ?_
  refine own_iushr X hx (hb hby at_17) (pc' := 18) rfl ?_
  refine own_bipush X hx (hb hby at_18) (z := (7 : Int32)) rfl (pc' := 20) rfl ?_
  refine own_iand X hx (hb hby at_20) (pc' := 21) rfl ?_
  refine own_iconst X hx (hb hby at_21) (z := (5 : Int32)) rfl (pc' := 22) rfl ?_
  refine own_irem X hx (hb hby at_22) (by decide) (pc' := 23) rfl ?_
  generalize hax : (((XT.ushr sh (4 : Int32)) &&& (7 : Int32)) % (5 : Int32)) = ax
  refine own_istore X hx (hb hby at_23) (Ls' := #[.val (.long aa), .second, .val (.long bb), .second, .val (.int sh), .val (.int bits), .val (.int nn), .val (.int mm), .val (.int ax), .unset, .unset, .unset, .unset, .unset, .unset, .unset, .unset, .unset, .unset, .unset, .unset, .unset, .unset, .unset, .unset, .unset]) rfl (pc' := 25) rfl ?_
  replace hax : 0 ≤ ax.toInt ∧ ax.toInt ≤ 4 := by rw [← hax]; exact own_m5 _
  refine own_iload X hx (hb hby at_25) rfl (pc' := 27) rfl ?_
  refine own_iconst X hx (hb hby at_27) (z := (0 : Int32)) rfl (pc' := 28) rfl ?_
  refine own_lloadN X hx (hb hby at_28) rfl (pc' := 29) rfl ?_
  refine own_lloadN X hx (hb hby at_29) rfl (pc' := 30) rfl ?_
  refine own_pureS X hx hZ hown (y := (⟨"com/example/lehti/lehti/engine/collation/CollationUnitsMatchesPinLaw", "pick", "(IIJJ)J"⟩ : MethodName)) (argsL := [(.int bits), (.int (0 : Int32)), (.long aa), (.long bb)]) (st := []) (W := 0) (z := (.long (own_pick bits 0 aa bb))) (hw _ (List.mem_of_getElem? (i := 0) rfl)) (hw _ (List.mem_of_getElem? (i := 1) rfl)) (hw _ (List.mem_of_getElem? (i := 2) rfl)) (hw _ (List.mem_of_getElem? (i := 3) rfl)) eT (rm_pick hw bits 0 aa bb) (hb hby at_30) rfl (lenOf pd__IIJJ_J rfl) (by rw [hml]; rfl) (by decide) (by decide) (by decide) (by decide) (Nat.le_of_eq rfl) (by decide) (pc' := 33) rfl fun T X eT => ?_
  generalize ht0 : (own_pick bits 0 aa bb) = t0
  refine own_lstore X hx (hb hby at_33) (Ls' := #[.val (.long aa), .second, .val (.long bb), .second, .val (.int sh), .val (.int bits), .val (.int nn), .val (.int mm), .val (.int ax), .val (.long t0), .second, .unset, .unset, .unset, .unset, .unset, .unset, .unset, .unset, .unset, .unset, .unset, .unset, .unset, .unset, .unset]) rfl (pc' := 35) rfl ?_
  refine own_iload X hx (hb hby at_35) rfl (pc' := 37) rfl ?_
  refine own_iconst X hx (hb hby at_37) (z := (1 : Int32)) rfl (pc' := 38) rfl ?_
  refine own_lloadN X hx (hb hby at_38) rfl (pc' := 39) rfl ?_
  refine own_lloadN X hx (hb hby at_39) rfl (pc' := 40) rfl ?_
  refine own_pureS X hx hZ hown (y := (⟨"com/example/lehti/lehti/engine/collation/CollationUnitsMatchesPinLaw", "pick", "(IIJJ)J"⟩ : MethodName)) (argsL := [(.int bits), (.int (1 : Int32)), (.long aa), (.long bb)]) (st := []) (W := 0) (z := (.long (own_pick bits 1 aa bb))) (hw _ (List.mem_of_getElem? (i := 0) rfl)) (hw _ (List.mem_of_getElem? (i := 1) rfl)) (hw _ (List.mem_of_getElem? (i := 2) rfl)) (hw _ (List.mem_of_getElem? (i := 3) rfl)) eT (rm_pick hw bits 1 aa bb) (hb hby at_40) rfl (lenOf pd__IIJJ_J rfl) (by rw [hml]; rfl) (by decide) (by decide) (by decide) (by decide) (Nat.le_of_eq rfl) (by decide) (pc' := 43) rfl fun T X eT => ?_
  generalize ht1 : (own_pick bits 1 aa bb) = t1
  refine own_lstore X hx (hb hby at_43) (Ls' := #[.val (.long aa), .second, .val (.long bb), .second, .val (.int sh), .val (.int bits), .val (.int nn), .val (.int mm), .val (.int ax), .val (.long t0), .second, .val (.long t1), .second, .unset, .unset, .unset, .unset, .unset, .unset, .unset, .unset, .unset, .unset, .unset, .unset, .unset]) rfl (pc' := 45) rfl ?_
  refine own_iload X hx (hb hby at_45) rfl (pc' := 47) rfl ?_
  refine own_iconst X hx (hb hby at_47) (z := (2 : Int32)) rfl (pc' := 48) rfl ?_
  refine own_lloadN X hx (hb hby at_48) rfl (pc' := 49) rfl ?_
  refine own_lloadN X hx (hb hby at_49) rfl (pc' := 50) rfl ?_
  refine own_pureS X hx hZ hown (y := (⟨"com/example/lehti/lehti/engine/collation/CollationUnitsMatchesPinLaw", "pick", "(IIJJ)J"⟩ : MethodName)) (argsL := [(.int bits), (.int (2 : Int32)), (.long aa), (.long bb)]) (st := []) (W := 0) (z := (.long (own_pick bits 2 aa bb))) (hw _ (List.mem_of_getElem? (i := 0) rfl)) (hw _ (List.mem_of_getElem? (i := 1) rfl)) (hw _ (List.mem_of_getElem? (i := 2) rfl)) (hw _ (List.mem_of_getElem? (i := 3) rfl)) eT (rm_pick hw bits 2 aa bb) (hb hby at_50) rfl (lenOf pd__IIJJ_J rfl) (by rw [hml]; rfl) (by decide) (by decide) (by decide) (by decide) (Nat.le_of_eq rfl) (by decide) (pc' := 53) rfl fun T X eT => ?_
  generalize ht2 : (own_pick bits 2 aa bb) = t2
  refine own_lstore X hx (hb hby at_53) (Ls' := #[.val (.long aa), .second, .val (.long bb), .second, .val (.int sh), .val (.int bits), .val (.int nn), .val (.int mm), .val (.int ax), .val (.long t0), .second, .val (.long t1), .second, .val (.long t2), .second, .unset, .unset, .unset, .unset, .unset, .unset, .unset, .unset, .unset, .unset, .unset]) rfl (pc' := 55) rfl ?_
  refine own_iload X hx (hb hby at_55) rfl (pc' := 57) rfl ?_
  refine own_iconst X hx (hb hby at_57) (z := (3 : Int32)) rfl (pc' := 58) rfl ?_
  refine own_lloadN X hx (hb hby at_58) rfl (pc' := 59) rfl ?_
  refine own_lloadN X hx (hb hby at_59) rfl (pc' := 60) rfl ?_
  refine own_pureS X hx hZ hown (y := (⟨"com/example/lehti/lehti/engine/collation/CollationUnitsMatchesPinLaw", "pick", "(IIJJ)J"⟩ : MethodName)) (argsL := [(.int bits), (.int (3 : Int32)), (.long aa), (.long bb)]) (st := []) (W := 0) (z := (.long (own_pick bits 3 aa bb))) (hw _ (List.mem_of_getElem? (i := 0) rfl)) (hw _ (List.mem_of_getElem? (i := 1) rfl)) (hw _ (List.mem_of_getElem? (i := 2) rfl)) (hw _ (List.mem_of_getElem? (i := 3) rfl)) eT (rm_pick hw bits 3 aa bb) (hb hby at_60) rfl (lenOf pd__IIJJ_J rfl) (by rw [hml]; rfl) (by decide) (by decide) (by decide) (by decide) (Nat.le_of_eq rfl) (by decide) (pc' := 63) rfl fun T X eT => ?_
  generalize hp0 : (own_pick bits 3 aa bb) = p0
  refine own_lstore X hx (hb hby at_63) (Ls' := #[.val (.long aa), .second, .val (.long bb), .second, .val (.int sh), .val (.int bits), .val (.int nn), .val (.int mm), .val (.int ax), .val (.long t0), .second, .val (.long t1), .second, .val (.long t2), .second, .val (.long p0), .second, .unset, .unset, .unset, .unset, .unset, .unset, .unset, .unset, .unset]) rfl (pc' := 65) rfl ?_
  refine own_iload X hx (hb hby at_65) rfl (pc' := 67) rfl ?_
  refine own_iconst X hx (hb hby at_67) (z := (4 : Int32)) rfl (pc' := 68) rfl ?_
  refine own_lloadN X hx (hb hby at_68) rfl (pc' := 69) rfl ?_
  refine own_lloadN X hx (hb hby at_69) rfl (pc' := 70) rfl ?_
  refine own_pureS X hx hZ hown (y := (⟨"com/example/lehti/lehti/engine/collation/CollationUnitsMatchesPinLaw", "pick", "(IIJJ)J"⟩ : MethodName)) (argsL := [(.int bits), (.int (4 : Int32)), (.long aa), (.long bb)]) (st := []) (W := 0) (z := (.long (own_pick bits 4 aa bb))) (hw _ (List.mem_of_getElem? (i := 0) rfl)) (hw _ (List.mem_of_getElem? (i := 1) rfl)) (hw _ (List.mem_of_getElem? (i := 2) rfl)) (hw _ (List.mem_of_getElem? (i := 3) rfl)) eT (rm_pick hw bits 4 aa bb) (hb hby at_70) rfl (lenOf pd__IIJJ_J rfl) (by rw [hml]; rfl) (by decide) (by decide) (by decide) (by decide) (Nat.le_of_eq rfl) (by decide) (pc' := 73) rfl fun T X eT => ?_
  generalize hp1 : (own_pick bits 4 aa bb) = p1
  refine own_lstore X hx (hb hby at_73) (Ls' := #[.val (.long aa), .second, .val (.long bb), .second, .val (.int sh), .val (.int bits), .val (.int nn), .val (.int mm), .val (.int ax), .val (.long t0), .second, .val (.long t1), .second, .val (.long t2), .second, .val (.long p0), .second, .val (.long p1), .second, .unset, .unset, .unset, .unset, .unset, .unset, .unset]) rfl (pc' := 75) rfl ?_
  refine own_iload X hx (hb hby at_75) rfl (pc' := 77) rfl ?_
  refine own_iconst X hx (hb hby at_77) (z := (5 : Int32)) rfl (pc' := 78) rfl ?_
  refine own_lloadN X hx (hb hby at_78) rfl (pc' := 79) rfl ?_
  refine own_lloadN X hx (hb hby at_79) rfl (pc' := 80) rfl ?_
  refine own_pureS X hx hZ hown (y := (⟨"com/example/lehti/lehti/engine/collation/CollationUnitsMatchesPinLaw", "pick", "(IIJJ)J"⟩ : MethodName)) (argsL := [(.int bits), (.int (5 : Int32)), (.long aa), (.long bb)]) (st := []) (W := 0) (z := (.long (own_pick bits 5 aa bb))) (hw _ (List.mem_of_getElem? (i := 0) rfl)) (hw _ (List.mem_of_getElem? (i := 1) rfl)) (hw _ (List.mem_of_getElem? (i := 2) rfl)) (hw _ (List.mem_of_getElem? (i := 3) rfl)) eT (rm_pick hw bits 5 aa bb) (hb hby at_80) rfl (lenOf pd__IIJJ_J rfl) (by rw [hml]; rfl) (by decide) (by decide) (by decide) (by decide) (Nat.le_of_eq rfl) (by decide) (pc' := 83) rfl fun T X eT => ?_
  generalize hp2 : (own_pick bits 5 aa bb) = p2
  refine own_lstore X hx (hb hby at_83) (Ls' := #[.val (.long aa), .second, .val (.long bb), .second, .val (.int sh), .val (.int bits), .val (.int nn), .val (.int mm), .val (.int ax), .val (.long t0), .second, .val (.long t1), .second, .val (.long t2), .second, .val (.long p0), .second, .val (.long p1), .second, .val (.long p2), .second, .unset, .unset, .unset, .unset, .unset]) rfl (pc' := 85) rfl ?_
  have j191 : ∀ (T : State) (lc : List Loc) (h1 : Heap) (cc cc' : Int32) (a wt ss es : Addr) (a' wt' ss' es' : Addr) (lb' : Nat), Stand p l e room_1 s m #[(.long aa), (.long bb), (.int sh), (.int bits)] below meth c T lc 8 104 → T.heap = h1 → Fr n0 lc → (a < lb' ∧ wt < lb' ∧ ss < lb' ∧ es < lb') → n0 ≤ lb' → own_CU Z n0 h1 a wt ss es nn.toInt.toNat cc (own_tw t0 t1 t2) → own_CU Z lb' h1 a' wt' ss' es' mm.toInt.toNat cc' (own_tw p0 p1 p2) → OwnGo p e below s (fun v _ L => v = some (.int 1) ∧ Fr n0 L) room_1.cells room_1.slots (T.setTop (mkF m 191 #[.val (.long aa), .second, .val (.long bb), .second, .val (.int sh), .val (.int bits), .val (.int nn), .val (.int mm), .val (.int ax), .val (.long t0), .second, .val (.long t1), .second, .val (.long t2), .second, .val (.long p0), .second, .val (.long p1), .second, .val (.long p2), .second, .val (.ref a), .val (.ref a'), .unset, .unset, .unset] [])) := by
    intro T lc h1 cc cc' a wt ss es a' wt' ss' es' lb' X eT N hlt hlb K1 K2
    obtain ⟨r1, hR1, hR0⟩ : ∃ r1 : Int32, (own_P (own_tw t0 t1 t2) (own_tw p0 p1 p2) ax.toInt.toNat nn.toInt.toNat mm.toInt.toNat → r1 = 1) ∧ (¬ own_P (own_tw t0 t1 t2) (own_tw p0 p1 p2) ax.toInt.toNat nn.toInt.toNat mm.toInt.toNat → r1 = 0) := by
      by_cases hP : own_P (own_tw t0 t1 t2) (own_tw p0 p1 p2) ax.toInt.toNat nn.toInt.toNat mm.toInt.toNat
      · exact ⟨1, fun _ => rfl, fun y => absurd hP y⟩
      · exact ⟨0, fun y => absurd y hP, fun _ => rfl⟩
    have hsum : (ax + mm).toInt = (ax.toInt.toNat + mm.toInt.toNat : Nat) := own_add (by omega) (by omega) (by omega)
    refine own_aload X hx (hb hby at_191) rfl rfl (pc' := 193) rfl ?_
    refine own_aload X hx (hb hby at_193) rfl rfl (pc' := 195) rfl ?_
    refine own_iload X hx (hb hby at_195) rfl (pc' := 197) rfl ?_
    refine own_pureV X hx hZ hown (y := (⟨"com/example/lehti/lehti/engine/collation/CollationUnits", "matches", "(Lcom/example/lehti/lehti/engine/collation/CollationUnits;I)Z"⟩ : MethodName)) (argsL := [(.ref a'), (.int ax)]) (st := []) (W := 0) (z := (.int r1)) (a := a) (C := "com/example/lehti/lehti/engine/collation/CollationUnits") (hw _ (List.mem_of_getElem? (i := 21) rfl)) (hw _ (List.mem_of_getElem? (i := 22) rfl)) (hw _ (List.mem_of_getElem? (i := 24) rfl)) (hw _ (List.mem_of_getElem? (i := 23) rfl)) (hw _ (List.mem_of_getElem? (i := 6) rfl)) (hw _ (List.mem_of_getElem? (i := 25) rfl)) eT K1.2.1 (rm_matches hw a wt ss es a' wt' ss' es' n0 lb' nn.toInt.toNat mm.toInt.toNat ax.toInt.toNat _ _ ax r1 (own_tw t0 t1 t2) (own_tw p0 p1 p2) (by omega) (by omega) (by omega) (by omega) K1 K2 hR1 hR0) (hb hby at_197) rfl (lenOf pd__Lcom_example_lehti_lehti_engine_collation_CollationUnits_I_Z rfl) (by rw [hml]; rfl) (by decide) (by decide) (by decide) (by decide) (Nat.le_of_eq rfl) (by decide) (pc' := 200) rfl fun T X eT => ?_
    refine own_istore X hx (hb hby at_200) (Ls' := #[.val (.long aa), .second, .val (.long bb), .second, .val (.int sh), .val (.int bits), .val (.int nn), .val (.int mm), .val (.int ax), .val (.long t0), .second, .val (.long t1), .second, .val (.long t2), .second, .val (.long p0), .second, .val (.long p1), .second, .val (.long p2), .second, .val (.ref a), .val (.ref a'), .val (.int r1), .unset, .unset]) rfl (pc' := 202) rfl ?_
    refine own_iconst X hx (hb hby at_202) (z := (3 : Int32)) rfl (pc' := 203) rfl ?_
    refine own_newP X hx hZ (aty := .long) (hw _ (List.mem_of_getElem? (i := 13) rfl)) eT (n := (3 : Int32)) (by decide) (cap := 3) (by decide) (by decide) (by decide) (by decide) (ad := "[J") (by decide) (hb hby at_203) (pc' := 205) rfl fun T h2 b k hbs X eT E A EA => ?_
    have gb : n0 ≤ b := by rw [hbs]; exact Nat.le_trans K1.1.1 (Nat.le_of_lt K1.2.1.lt)
    replace A : OwnArr Z h2 b .long 3 own_any := (OwnArr.new (ty := .long) A (by decide)).mono fun _ _ _ _ => trivial
    refine own_dup X hx (hb hby at_205) rfl (pc' := 206) rfl ?_
    refine own_iconst X hx (hb hby at_206) (z := (0 : Int32)) rfl (pc' := 207) rfl ?_
    refine own_lload X hx (hb hby at_207) rfl (pc' := 209) rfl ?_
    refine own_lastoreA X hx hZ eT A (by decide) (by decide) (fun j v => j = 0 → v = .long t0) (fun j w hj q1 q2 y => q1 (by rw [y]; rfl)) (hb hby at_209) (pc' := 210) rfl fun T h2 X eT W A => ?_
    replace N := Fr.snoc X N gb
    refine own_dup X hx (hb hby at_210) rfl (pc' := 211) rfl ?_
    refine own_iconst X hx (hb hby at_211) (z := (1 : Int32)) rfl (pc' := 212) rfl ?_
    refine own_lload X hx (hb hby at_212) rfl (pc' := 214) rfl ?_
    refine own_lastoreA X hx hZ eT A (by decide) (by decide) (fun j v => (j = 0 → v = .long t0) ∧ (j = 1 → v = .long t1)) (fun j w hj q1 q2 => ⟨fun y => q2 (by rw [y]; decide) y, fun y => q1 (by rw [y]; rfl)⟩) (hb hby at_214) (pc' := 215) rfl fun T h2 X eT W A => ?_
    replace N := Fr.snoc X N gb
    refine own_dup X hx (hb hby at_215) rfl (pc' := 216) rfl ?_
    refine own_iconst X hx (hb hby at_216) (z := (2 : Int32)) rfl (pc' := 217) rfl ?_
    refine own_lload X hx (hb hby at_217) rfl (pc' := 219) rfl ?_
    refine own_lastoreA X hx hZ eT A (by decide) (by decide) (fun j v => v = .long (own_tw t0 t1 t2 j)) (fun j w hj q1 q2 => by
        have hc : j = 0 ∨ j = 1 ∨ j = 2 := by omega
        rcases hc with rfl | rfl | rfl
        · exact (q2 (by decide)).1 rfl
        · exact (q2 (by decide)).2 rfl
        · exact q1 rfl) (hb hby at_219) (pc' := 220) rfl fun T h2 X eT W A => ?_
    replace N := Fr.snoc X N gb
    refine own_astore X hx (hb hby at_220) rfl (Ls' := #[.val (.long aa), .second, .val (.long bb), .second, .val (.int sh), .val (.int bits), .val (.int nn), .val (.int mm), .val (.int ax), .val (.long t0), .second, .val (.long t1), .second, .val (.long t2), .second, .val (.long p0), .second, .val (.long p1), .second, .val (.long p2), .second, .val (.ref a), .val (.ref a'), .val (.int r1), .val (.ref b), .unset]) rfl (pc' := 222) rfl ?_
    refine own_iload X hx (hb hby at_222) rfl (pc' := 224) rfl ?_
    refine own_iload X hx (hb hby at_224) rfl (pc' := 226) rfl ?_
    refine own_iadd X hx (hb hby at_226) (pc' := 227) rfl ?_
    refine own_iload X hx (hb hby at_227) rfl (pc' := 229) rfl ?_
    refine own_icmp_gt X hx (hb hby at_229) (pc1 := 232) (pc2 := 291) rfl (by decide) (fun hc229 => ?_) (fun hc229 => ?_)
    · refine own_iconst X hx (hb hby at_291) (z := (0 : Int32)) rfl (pc' := 292) rfl ?_
      refine own_istore X hx (hb hby at_292) (Ls' := #[.val (.long aa), .second, .val (.long bb), .second, .val (.int sh), .val (.int bits), .val (.int nn), .val (.int mm), .val (.int ax), .val (.long t0), .second, .val (.long t1), .second, .val (.long t2), .second, .val (.long p0), .second, .val (.long p1), .second, .val (.long p2), .second, .val (.ref a), .val (.ref a'), .val (.int r1), .val (.ref b), .val (.int (0 : Int32))]) rfl (pc' := 294) rfl ?_
      refine own_iload X hx (hb hby at_294) rfl (pc' := 296) rfl ?_
      refine own_iload X hx (hb hby at_296) rfl (pc' := 298) rfl ?_
      refine own_icmp_ne X hx (hb hby at_298) (pc1 := 301) (pc2 := 305) rfl (by decide) (fun hc298 => absurd (hR0 (fun y => by have y1 := y.1; have y2 := own_ltI hc229; rw [hsum] at y2; omega)) hc298) (fun hc298 => ?_)
      refine own_iconst X hx (hb hby at_301) (z := (1 : Int32)) rfl (pc' := 302) rfl ?_
      refine own_goto X hx (hb hby at_302) (pc' := 306) (by decide) ?_
      exact own_retZ X hx eT hret hlk (by decide) (by decide) (hb hby at_306) ⟨rfl, N⟩
    · have hle := own_geI hc229
      rw [hsum] at hle
      refine own_iload X hx (hb hby at_232) rfl (pc' := 234) rfl ?_
      refine own_iconst X hx (hb hby at_234) (z := (1 : Int32)) rfl (pc' := 235) rfl ?_
      refine own_icmp_lt X hx (hb hby at_235) (pc1 := 238) (pc2 := 249) rfl (by decide) (fun hc235 => ?_) (fun hc235 => ?_)
      · refine own_iload X hx (hb hby at_249) rfl (pc' := 251) rfl ?_
        refine own_iconst X hx (hb hby at_251) (z := (2 : Int32)) rfl (pc' := 252) rfl ?_
        refine own_icmp_lt X hx (hb hby at_252) (pc1 := 255) (pc2 := 268) rfl (by decide) (fun hc252 => ?_) (fun hc252 => ?_)
        · refine own_iload X hx (hb hby at_268) rfl (pc' := 270) rfl ?_
          refine own_iconst X hx (hb hby at_270) (z := (3 : Int32)) rfl (pc' := 271) rfl ?_
          refine own_icmp_lt X hx (hb hby at_271) (pc1 := 274) (pc2 := 287) rfl (by decide) (fun hc271 => ?_) (fun hc271 => ?_)
          · refine own_iconst X hx (hb hby at_287) (z := (1 : Int32)) rfl (pc' := 288) rfl ?_
            refine own_goto X hx (hb hby at_288) (pc' := 292) (by decide) ?_
            refine own_istore X hx (hb hby at_292) (Ls' := #[.val (.long aa), .second, .val (.long bb), .second, .val (.int sh), .val (.int bits), .val (.int nn), .val (.int mm), .val (.int ax), .val (.long t0), .second, .val (.long t1), .second, .val (.long t2), .second, .val (.long p0), .second, .val (.long p1), .second, .val (.long p2), .second, .val (.ref a), .val (.ref a'), .val (.int r1), .val (.ref b), .val (.int (1 : Int32))]) rfl (pc' := 294) rfl ?_
            refine own_iload X hx (hb hby at_294) rfl (pc' := 296) rfl ?_
            refine own_iload X hx (hb hby at_296) rfl (pc' := 298) rfl ?_
            refine own_icmp_ne X hx (hb hby at_298) (pc1 := 301) (pc2 := 305) rfl (by decide) (fun hc298 => absurd (hR1 (own_P3 (by omega) |>.mpr ⟨by omega, Or.inl (by have y := own_ltI hc235; rw [show (1 : Int32).toInt = 1 by decide] at y; omega), Or.inl (by have y := own_ltI hc252; rw [show (2 : Int32).toInt = 2 by decide] at y; omega), Or.inl (by have y := own_ltI hc271; rw [show (3 : Int32).toInt = 3 by decide] at y; omega)⟩)) hc298) (fun hc298 => ?_)
            refine own_iconst X hx (hb hby at_301) (z := (1 : Int32)) rfl (pc' := 302) rfl ?_
            refine own_goto X hx (hb hby at_302) (pc' := 306) (by decide) ?_
            exact own_retZ X hx eT hret hlk (by decide) (by decide) (hb hby at_306) ⟨rfl, N⟩
          · refine own_aload X hx (hb hby at_274) rfl rfl (pc' := 276) rfl ?_
            refine own_iload X hx (hb hby at_276) rfl (pc' := 278) rfl ?_
            refine own_iconst X hx (hb hby at_278) (z := (2 : Int32)) rfl (pc' := 279) rfl ?_
            refine own_iadd X hx (hb hby at_279) (pc' := 280) rfl ?_
            have hg2 := own_geI hc271
            rw [show (3 : Int32).toInt = 3 by decide] at hg2
            have hx2 : (ax + (2 : Int32)).toInt = (ax.toInt.toNat + 2 : Nat) := own_add (k := ax.toInt.toNat) (by omega) (by decide) (by omega)
            refine own_laloadA X hx hZ eT A (by omega) (by omega) (hb hby at_280) (pc' := 281) rfl fun v hv => ?_
            obtain rfl : v = .long (own_tw t0 t1 t2 (ax.toInt.toNat + 2)) := by rw [hv, own_clamp (k := ax.toInt.toNat + 2) (by omega)]
            refine own_lload X hx (hb hby at_281) rfl (pc' := 283) rfl ?_
            refine own_lcmp X hx (hb hby at_283) (pc' := 284) rfl ?_
            refine own_if_ne X hx (hb hby at_284) (pc1 := 287) (pc2 := 291) rfl (by decide) (fun hc284 => ?_) (fun hc284 => ?_)
            · refine own_iconst X hx (hb hby at_291) (z := (0 : Int32)) rfl (pc' := 292) rfl ?_
              refine own_istore X hx (hb hby at_292) (Ls' := #[.val (.long aa), .second, .val (.long bb), .second, .val (.int sh), .val (.int bits), .val (.int nn), .val (.int mm), .val (.int ax), .val (.long t0), .second, .val (.long t1), .second, .val (.long t2), .second, .val (.long p0), .second, .val (.long p1), .second, .val (.long p2), .second, .val (.ref a), .val (.ref a'), .val (.int r1), .val (.ref b), .val (.int (0 : Int32))]) rfl (pc' := 294) rfl ?_
              refine own_iload X hx (hb hby at_294) rfl (pc' := 296) rfl ?_
              refine own_iload X hx (hb hby at_296) rfl (pc' := 298) rfl ?_
              refine own_icmp_ne X hx (hb hby at_298) (pc1 := 301) (pc2 := 305) rfl (by decide) (fun hc298 => absurd (hR0 (fun y => by have y1 := (own_P3 (by omega) |>.mp y).2.2.2; rcases y1 with z | z; omega; exact hc284 (own_cmp0.mpr z))) hc298) (fun hc298 => ?_)
              refine own_iconst X hx (hb hby at_301) (z := (1 : Int32)) rfl (pc' := 302) rfl ?_
              refine own_goto X hx (hb hby at_302) (pc' := 306) (by decide) ?_
              exact own_retZ X hx eT hret hlk (by decide) (by decide) (hb hby at_306) ⟨rfl, N⟩
            · refine own_iconst X hx (hb hby at_287) (z := (1 : Int32)) rfl (pc' := 288) rfl ?_
              refine own_goto X hx (hb hby at_288) (pc' := 292) (by decide) ?_
              refine own_istore X hx (hb hby at_292) (Ls' := #[.val (.long aa), .second, .val (.long bb), .second, .val (.int sh), .val (.int bits), .val (.int nn), .val (.int mm), .val (.int ax), .val (.long t0), .second, .val (.long t1), .second, .val (.long t2), .second, .val (.long p0), .second, .val (.long p1), .second, .val (.long p2), .second, .val (.ref a), .val (.ref a'), .val (.int r1), .val (.ref b), .val (.int (1 : Int32))]) rfl (pc' := 294) rfl ?_
              refine own_iload X hx (hb hby at_294) rfl (pc' := 296) rfl ?_
              refine own_iload X hx (hb hby at_296) rfl (pc' := 298) rfl ?_
              refine own_icmp_ne X hx (hb hby at_298) (pc1 := 301) (pc2 := 305) rfl (by decide) (fun hc298 => absurd (hR1 (own_P3 (by omega) |>.mpr ⟨by omega, Or.inl (by have y := own_ltI hc235; rw [show (1 : Int32).toInt = 1 by decide] at y; omega), Or.inl (by have y := own_ltI hc252; rw [show (2 : Int32).toInt = 2 by decide] at y; omega), Or.inr (own_cmp0.mp hc284)⟩)) hc298) (fun hc298 => ?_)
              refine own_iconst X hx (hb hby at_301) (z := (1 : Int32)) rfl (pc' := 302) rfl ?_
              refine own_goto X hx (hb hby at_302) (pc' := 306) (by decide) ?_
              exact own_retZ X hx eT hret hlk (by decide) (by decide) (hb hby at_306) ⟨rfl, N⟩
        · refine own_aload X hx (hb hby at_255) rfl rfl (pc' := 257) rfl ?_
          refine own_iload X hx (hb hby at_257) rfl (pc' := 259) rfl ?_
          refine own_iconst X hx (hb hby at_259) (z := (1 : Int32)) rfl (pc' := 260) rfl ?_
          refine own_iadd X hx (hb hby at_260) (pc' := 261) rfl ?_
          have hg1 := own_geI hc252
          rw [show (2 : Int32).toInt = 2 by decide] at hg1
          have hx1 : (ax + (1 : Int32)).toInt = (ax.toInt.toNat + 1 : Nat) := own_add (k := ax.toInt.toNat) (by omega) (by decide) (by omega)
          refine own_laloadA X hx hZ eT A (by omega) (by omega) (hb hby at_261) (pc' := 262) rfl fun v hv => ?_
          obtain rfl : v = .long (own_tw t0 t1 t2 (ax.toInt.toNat + 1)) := by rw [hv, own_clamp (k := ax.toInt.toNat + 1) (by omega)]
          refine own_lload X hx (hb hby at_262) rfl (pc' := 264) rfl ?_
          refine own_lcmp X hx (hb hby at_264) (pc' := 265) rfl ?_
          refine own_if_ne X hx (hb hby at_265) (pc1 := 268) (pc2 := 291) rfl (by decide) (fun hc265 => ?_) (fun hc265 => ?_)
          · refine own_iconst X hx (hb hby at_291) (z := (0 : Int32)) rfl (pc' := 292) rfl ?_
            refine own_istore X hx (hb hby at_292) (Ls' := #[.val (.long aa), .second, .val (.long bb), .second, .val (.int sh), .val (.int bits), .val (.int nn), .val (.int mm), .val (.int ax), .val (.long t0), .second, .val (.long t1), .second, .val (.long t2), .second, .val (.long p0), .second, .val (.long p1), .second, .val (.long p2), .second, .val (.ref a), .val (.ref a'), .val (.int r1), .val (.ref b), .val (.int (0 : Int32))]) rfl (pc' := 294) rfl ?_
            refine own_iload X hx (hb hby at_294) rfl (pc' := 296) rfl ?_
            refine own_iload X hx (hb hby at_296) rfl (pc' := 298) rfl ?_
            refine own_icmp_ne X hx (hb hby at_298) (pc1 := 301) (pc2 := 305) rfl (by decide) (fun hc298 => absurd (hR0 (fun y => by have y1 := (own_P3 (by omega) |>.mp y).2.2.1; rcases y1 with z | z; omega; exact hc265 (own_cmp0.mpr z))) hc298) (fun hc298 => ?_)
            refine own_iconst X hx (hb hby at_301) (z := (1 : Int32)) rfl (pc' := 302) rfl ?_
            refine own_goto X hx (hb hby at_302) (pc' := 306) (by decide) ?_
            exact own_retZ X hx eT hret hlk (by decide) (by decide) (hb hby at_306) ⟨rfl, N⟩
          · refine own_iload X hx (hb hby at_268) rfl (pc' := 270) rfl ?_
            refine own_iconst X hx (hb hby at_270) (z := (3 : Int32)) rfl (pc' := 271) rfl ?_
            refine own_icmp_lt X hx (hb hby at_271) (pc1 := 274) (pc2 := 287) rfl (by decide) (fun hc271 => ?_) (fun hc271 => ?_)
            · refine own_iconst X hx (hb hby at_287) (z := (1 : Int32)) rfl (pc' := 288) rfl ?_
              refine own_goto X hx (hb hby at_288) (pc' := 292) (by decide) ?_
              refine own_istore X hx (hb hby at_292) (Ls' := #[.val (.long aa), .second, .val (.long bb), .second, .val (.int sh), .val (.int bits), .val (.int nn), .val (.int mm), .val (.int ax), .val (.long t0), .second, .val (.long t1), .second, .val (.long t2), .second, .val (.long p0), .second, .val (.long p1), .second, .val (.long p2), .second, .val (.ref a), .val (.ref a'), .val (.int r1), .val (.ref b), .val (.int (1 : Int32))]) rfl (pc' := 294) rfl ?_
              refine own_iload X hx (hb hby at_294) rfl (pc' := 296) rfl ?_
              refine own_iload X hx (hb hby at_296) rfl (pc' := 298) rfl ?_
              refine own_icmp_ne X hx (hb hby at_298) (pc1 := 301) (pc2 := 305) rfl (by decide) (fun hc298 => absurd (hR1 (own_P3 (by omega) |>.mpr ⟨by omega, Or.inl (by have y := own_ltI hc235; rw [show (1 : Int32).toInt = 1 by decide] at y; omega), Or.inr (own_cmp0.mp hc265), Or.inl (by have y := own_ltI hc271; rw [show (3 : Int32).toInt = 3 by decide] at y; omega)⟩)) hc298) (fun hc298 => ?_)
              refine own_iconst X hx (hb hby at_301) (z := (1 : Int32)) rfl (pc' := 302) rfl ?_
              refine own_goto X hx (hb hby at_302) (pc' := 306) (by decide) ?_
              exact own_retZ X hx eT hret hlk (by decide) (by decide) (hb hby at_306) ⟨rfl, N⟩
            · refine own_aload X hx (hb hby at_274) rfl rfl (pc' := 276) rfl ?_
              refine own_iload X hx (hb hby at_276) rfl (pc' := 278) rfl ?_
              refine own_iconst X hx (hb hby at_278) (z := (2 : Int32)) rfl (pc' := 279) rfl ?_
              refine own_iadd X hx (hb hby at_279) (pc' := 280) rfl ?_
              have hg2 := own_geI hc271
              rw [show (3 : Int32).toInt = 3 by decide] at hg2
              have hx2 : (ax + (2 : Int32)).toInt = (ax.toInt.toNat + 2 : Nat) := own_add (k := ax.toInt.toNat) (by omega) (by decide) (by omega)
              refine own_laloadA X hx hZ eT A (by omega) (by omega) (hb hby at_280) (pc' := 281) rfl fun v hv => ?_
              obtain rfl : v = .long (own_tw t0 t1 t2 (ax.toInt.toNat + 2)) := by rw [hv, own_clamp (k := ax.toInt.toNat + 2) (by omega)]
              refine own_lload X hx (hb hby at_281) rfl (pc' := 283) rfl ?_
              refine own_lcmp X hx (hb hby at_283) (pc' := 284) rfl ?_
              refine own_if_ne X hx (hb hby at_284) (pc1 := 287) (pc2 := 291) rfl (by decide) (fun hc284 => ?_) (fun hc284 => ?_)
              · refine own_iconst X hx (hb hby at_291) (z := (0 : Int32)) rfl (pc' := 292) rfl ?_
                refine own_istore X hx (hb hby at_292) (Ls' := #[.val (.long aa), .second, .val (.long bb), .second, .val (.int sh), .val (.int bits), .val (.int nn), .val (.int mm), .val (.int ax), .val (.long t0), .second, .val (.long t1), .second, .val (.long t2), .second, .val (.long p0), .second, .val (.long p1), .second, .val (.long p2), .second, .val (.ref a), .val (.ref a'), .val (.int r1), .val (.ref b), .val (.int (0 : Int32))]) rfl (pc' := 294) rfl ?_
                refine own_iload X hx (hb hby at_294) rfl (pc' := 296) rfl ?_
                refine own_iload X hx (hb hby at_296) rfl (pc' := 298) rfl ?_
                refine own_icmp_ne X hx (hb hby at_298) (pc1 := 301) (pc2 := 305) rfl (by decide) (fun hc298 => absurd (hR0 (fun y => by have y1 := (own_P3 (by omega) |>.mp y).2.2.2; rcases y1 with z | z; omega; exact hc284 (own_cmp0.mpr z))) hc298) (fun hc298 => ?_)
                refine own_iconst X hx (hb hby at_301) (z := (1 : Int32)) rfl (pc' := 302) rfl ?_
                refine own_goto X hx (hb hby at_302) (pc' := 306) (by decide) ?_
                exact own_retZ X hx eT hret hlk (by decide) (by decide) (hb hby at_306) ⟨rfl, N⟩
              · refine own_iconst X hx (hb hby at_287) (z := (1 : Int32)) rfl (pc' := 288) rfl ?_
                refine own_goto X hx (hb hby at_288) (pc' := 292) (by decide) ?_
                refine own_istore X hx (hb hby at_292) (Ls' := #[.val (.long aa), .second, .val (.long bb), .second, .val (.int sh), .val (.int bits), .val (.int nn), .val (.int mm), .val (.int ax), .val (.long t0), .second, .val (.long t1), .second, .val (.long t2), .second, .val (.long p0), .second, .val (.long p1), .second, .val (.long p2), .second, .val (.ref a), .val (.ref a'), .val (.int r1), .val (.ref b), .val (.int (1 : Int32))]) rfl (pc' := 294) rfl ?_
                refine own_iload X hx (hb hby at_294) rfl (pc' := 296) rfl ?_
                refine own_iload X hx (hb hby at_296) rfl (pc' := 298) rfl ?_
                refine own_icmp_ne X hx (hb hby at_298) (pc1 := 301) (pc2 := 305) rfl (by decide) (fun hc298 => absurd (hR1 (own_P3 (by omega) |>.mpr ⟨by omega, Or.inl (by have y := own_ltI hc235; rw [show (1 : Int32).toInt = 1 by decide] at y; omega), Or.inr (own_cmp0.mp hc265), Or.inr (own_cmp0.mp hc284)⟩)) hc298) (fun hc298 => ?_)
                refine own_iconst X hx (hb hby at_301) (z := (1 : Int32)) rfl (pc' := 302) rfl ?_
                refine own_goto X hx (hb hby at_302) (pc' := 306) (by decide) ?_
                exact own_retZ X hx eT hret hlk (by decide) (by decide) (hb hby at_306) ⟨rfl, N⟩
      · refine own_aload X hx (hb hby at_238) rfl rfl (pc' := 240) rfl ?_
        refine own_iload X hx (hb hby at_240) rfl (pc' := 242) rfl ?_
        have hg0 := own_geI hc235
        rw [show (1 : Int32).toInt = 1 by decide] at hg0
        refine own_laloadA X hx hZ eT A (by omega) (by omega) (hb hby at_242) (pc' := 243) rfl fun v hv => ?_
        obtain rfl : v = .long (own_tw t0 t1 t2 (ax.toInt.toNat + 0)) := by rw [hv, own_clamp (k := ax.toInt.toNat + 0) (by omega)]
        refine own_lload X hx (hb hby at_243) rfl (pc' := 245) rfl ?_
        refine own_lcmp X hx (hb hby at_245) (pc' := 246) rfl ?_
        refine own_if_ne X hx (hb hby at_246) (pc1 := 249) (pc2 := 291) rfl (by decide) (fun hc246 => ?_) (fun hc246 => ?_)
        · refine own_iconst X hx (hb hby at_291) (z := (0 : Int32)) rfl (pc' := 292) rfl ?_
          refine own_istore X hx (hb hby at_292) (Ls' := #[.val (.long aa), .second, .val (.long bb), .second, .val (.int sh), .val (.int bits), .val (.int nn), .val (.int mm), .val (.int ax), .val (.long t0), .second, .val (.long t1), .second, .val (.long t2), .second, .val (.long p0), .second, .val (.long p1), .second, .val (.long p2), .second, .val (.ref a), .val (.ref a'), .val (.int r1), .val (.ref b), .val (.int (0 : Int32))]) rfl (pc' := 294) rfl ?_
          refine own_iload X hx (hb hby at_294) rfl (pc' := 296) rfl ?_
          refine own_iload X hx (hb hby at_296) rfl (pc' := 298) rfl ?_
          refine own_icmp_ne X hx (hb hby at_298) (pc1 := 301) (pc2 := 305) rfl (by decide) (fun hc298 => absurd (hR0 (fun y => by have y1 := (own_P3 (by omega) |>.mp y).2.1; rcases y1 with z | z; omega; exact hc246 (own_cmp0.mpr z))) hc298) (fun hc298 => ?_)
          refine own_iconst X hx (hb hby at_301) (z := (1 : Int32)) rfl (pc' := 302) rfl ?_
          refine own_goto X hx (hb hby at_302) (pc' := 306) (by decide) ?_
          exact own_retZ X hx eT hret hlk (by decide) (by decide) (hb hby at_306) ⟨rfl, N⟩
        · refine own_iload X hx (hb hby at_249) rfl (pc' := 251) rfl ?_
          refine own_iconst X hx (hb hby at_251) (z := (2 : Int32)) rfl (pc' := 252) rfl ?_
          refine own_icmp_lt X hx (hb hby at_252) (pc1 := 255) (pc2 := 268) rfl (by decide) (fun hc252 => ?_) (fun hc252 => ?_)
          · refine own_iload X hx (hb hby at_268) rfl (pc' := 270) rfl ?_
            refine own_iconst X hx (hb hby at_270) (z := (3 : Int32)) rfl (pc' := 271) rfl ?_
            refine own_icmp_lt X hx (hb hby at_271) (pc1 := 274) (pc2 := 287) rfl (by decide) (fun hc271 => ?_) (fun hc271 => ?_)
            · refine own_iconst X hx (hb hby at_287) (z := (1 : Int32)) rfl (pc' := 288) rfl ?_
              refine own_goto X hx (hb hby at_288) (pc' := 292) (by decide) ?_
              refine own_istore X hx (hb hby at_292) (Ls' := #[.val (.long aa), .second, .val (.long bb), .second, .val (.int sh), .val (.int bits), .val (.int nn), .val (.int mm), .val (.int ax), .val (.long t0), .second, .val (.long t1), .second, .val (.long t2), .second, .val (.long p0), .second, .val (.long p1), .second, .val (.long p2), .second, .val (.ref a), .val (.ref a'), .val (.int r1), .val (.ref b), .val (.int (1 : Int32))]) rfl (pc' := 294) rfl ?_
              refine own_iload X hx (hb hby at_294) rfl (pc' := 296) rfl ?_
              refine own_iload X hx (hb hby at_296) rfl (pc' := 298) rfl ?_
              refine own_icmp_ne X hx (hb hby at_298) (pc1 := 301) (pc2 := 305) rfl (by decide) (fun hc298 => absurd (hR1 (own_P3 (by omega) |>.mpr ⟨by omega, Or.inr (own_cmp0.mp hc246), Or.inl (by have y := own_ltI hc252; rw [show (2 : Int32).toInt = 2 by decide] at y; omega), Or.inl (by have y := own_ltI hc271; rw [show (3 : Int32).toInt = 3 by decide] at y; omega)⟩)) hc298) (fun hc298 => ?_)
              refine own_iconst X hx (hb hby at_301) (z := (1 : Int32)) rfl (pc' := 302) rfl ?_
              refine own_goto X hx (hb hby at_302) (pc' := 306) (by decide) ?_
              exact own_retZ X hx eT hret hlk (by decide) (by decide) (hb hby at_306) ⟨rfl, N⟩
            · refine own_aload X hx (hb hby at_274) rfl rfl (pc' := 276) rfl ?_
              refine own_iload X hx (hb hby at_276) rfl (pc' := 278) rfl ?_
              refine own_iconst X hx (hb hby at_278) (z := (2 : Int32)) rfl (pc' := 279) rfl ?_
              refine own_iadd X hx (hb hby at_279) (pc' := 280) rfl ?_
              have hg2 := own_geI hc271
              rw [show (3 : Int32).toInt = 3 by decide] at hg2
              have hx2 : (ax + (2 : Int32)).toInt = (ax.toInt.toNat + 2 : Nat) := own_add (k := ax.toInt.toNat) (by omega) (by decide) (by omega)
              refine own_laloadA X hx hZ eT A (by omega) (by omega) (hb hby at_280) (pc' := 281) rfl fun v hv => ?_
              obtain rfl : v = .long (own_tw t0 t1 t2 (ax.toInt.toNat + 2)) := by rw [hv, own_clamp (k := ax.toInt.toNat + 2) (by omega)]
              refine own_lload X hx (hb hby at_281) rfl (pc' := 283) rfl ?_
              refine own_lcmp X hx (hb hby at_283) (pc' := 284) rfl ?_
              refine own_if_ne X hx (hb hby at_284) (pc1 := 287) (pc2 := 291) rfl (by decide) (fun hc284 => ?_) (fun hc284 => ?_)
              · refine own_iconst X hx (hb hby at_291) (z := (0 : Int32)) rfl (pc' := 292) rfl ?_
                refine own_istore X hx (hb hby at_292) (Ls' := #[.val (.long aa), .second, .val (.long bb), .second, .val (.int sh), .val (.int bits), .val (.int nn), .val (.int mm), .val (.int ax), .val (.long t0), .second, .val (.long t1), .second, .val (.long t2), .second, .val (.long p0), .second, .val (.long p1), .second, .val (.long p2), .second, .val (.ref a), .val (.ref a'), .val (.int r1), .val (.ref b), .val (.int (0 : Int32))]) rfl (pc' := 294) rfl ?_
                refine own_iload X hx (hb hby at_294) rfl (pc' := 296) rfl ?_
                refine own_iload X hx (hb hby at_296) rfl (pc' := 298) rfl ?_
                refine own_icmp_ne X hx (hb hby at_298) (pc1 := 301) (pc2 := 305) rfl (by decide) (fun hc298 => absurd (hR0 (fun y => by have y1 := (own_P3 (by omega) |>.mp y).2.2.2; rcases y1 with z | z; omega; exact hc284 (own_cmp0.mpr z))) hc298) (fun hc298 => ?_)
                refine own_iconst X hx (hb hby at_301) (z := (1 : Int32)) rfl (pc' := 302) rfl ?_
                refine own_goto X hx (hb hby at_302) (pc' := 306) (by decide) ?_
                exact own_retZ X hx eT hret hlk (by decide) (by decide) (hb hby at_306) ⟨rfl, N⟩
              · refine own_iconst X hx (hb hby at_287) (z := (1 : Int32)) rfl (pc' := 288) rfl ?_
                refine own_goto X hx (hb hby at_288) (pc' := 292) (by decide) ?_
                refine own_istore X hx (hb hby at_292) (Ls' := #[.val (.long aa), .second, .val (.long bb), .second, .val (.int sh), .val (.int bits), .val (.int nn), .val (.int mm), .val (.int ax), .val (.long t0), .second, .val (.long t1), .second, .val (.long t2), .second, .val (.long p0), .second, .val (.long p1), .second, .val (.long p2), .second, .val (.ref a), .val (.ref a'), .val (.int r1), .val (.ref b), .val (.int (1 : Int32))]) rfl (pc' := 294) rfl ?_
                refine own_iload X hx (hb hby at_294) rfl (pc' := 296) rfl ?_
                refine own_iload X hx (hb hby at_296) rfl (pc' := 298) rfl ?_
                refine own_icmp_ne X hx (hb hby at_298) (pc1 := 301) (pc2 := 305) rfl (by decide) (fun hc298 => absurd (hR1 (own_P3 (by omega) |>.mpr ⟨by omega, Or.inr (own_cmp0.mp hc246), Or.inl (by have y := own_ltI hc252; rw [show (2 : Int32).toInt = 2 by decide] at y; omega), Or.inr (own_cmp0.mp hc284)⟩)) hc298) (fun hc298 => ?_)
                refine own_iconst X hx (hb hby at_301) (z := (1 : Int32)) rfl (pc' := 302) rfl ?_
                refine own_goto X hx (hb hby at_302) (pc' := 306) (by decide) ?_
                exact own_retZ X hx eT hret hlk (by decide) (by decide) (hb hby at_306) ⟨rfl, N⟩
          · refine own_aload X hx (hb hby at_255) rfl rfl (pc' := 257) rfl ?_
            refine own_iload X hx (hb hby at_257) rfl (pc' := 259) rfl ?_
            refine own_iconst X hx (hb hby at_259) (z := (1 : Int32)) rfl (pc' := 260) rfl ?_
            refine own_iadd X hx (hb hby at_260) (pc' := 261) rfl ?_
            have hg1 := own_geI hc252
            rw [show (2 : Int32).toInt = 2 by decide] at hg1
            have hx1 : (ax + (1 : Int32)).toInt = (ax.toInt.toNat + 1 : Nat) := own_add (k := ax.toInt.toNat) (by omega) (by decide) (by omega)
            refine own_laloadA X hx hZ eT A (by omega) (by omega) (hb hby at_261) (pc' := 262) rfl fun v hv => ?_
            obtain rfl : v = .long (own_tw t0 t1 t2 (ax.toInt.toNat + 1)) := by rw [hv, own_clamp (k := ax.toInt.toNat + 1) (by omega)]
            refine own_lload X hx (hb hby at_262) rfl (pc' := 264) rfl ?_
            refine own_lcmp X hx (hb hby at_264) (pc' := 265) rfl ?_
            refine own_if_ne X hx (hb hby at_265) (pc1 := 268) (pc2 := 291) rfl (by decide) (fun hc265 => ?_) (fun hc265 => ?_)
            · refine own_iconst X hx (hb hby at_291) (z := (0 : Int32)) rfl (pc' := 292) rfl ?_
              refine own_istore X hx (hb hby at_292) (Ls' := #[.val (.long aa), .second, .val (.long bb), .second, .val (.int sh), .val (.int bits), .val (.int nn), .val (.int mm), .val (.int ax), .val (.long t0), .second, .val (.long t1), .second, .val (.long t2), .second, .val (.long p0), .second, .val (.long p1), .second, .val (.long p2), .second, .val (.ref a), .val (.ref a'), .val (.int r1), .val (.ref b), .val (.int (0 : Int32))]) rfl (pc' := 294) rfl ?_
              refine own_iload X hx (hb hby at_294) rfl (pc' := 296) rfl ?_
              refine own_iload X hx (hb hby at_296) rfl (pc' := 298) rfl ?_
              refine own_icmp_ne X hx (hb hby at_298) (pc1 := 301) (pc2 := 305) rfl (by decide) (fun hc298 => absurd (hR0 (fun y => by have y1 := (own_P3 (by omega) |>.mp y).2.2.1; rcases y1 with z | z; omega; exact hc265 (own_cmp0.mpr z))) hc298) (fun hc298 => ?_)
              refine own_iconst X hx (hb hby at_301) (z := (1 : Int32)) rfl (pc' := 302) rfl ?_
              refine own_goto X hx (hb hby at_302) (pc' := 306) (by decide) ?_
              exact own_retZ X hx eT hret hlk (by decide) (by decide) (hb hby at_306) ⟨rfl, N⟩
            · refine own_iload X hx (hb hby at_268) rfl (pc' := 270) rfl ?_
              refine own_iconst X hx (hb hby at_270) (z := (3 : Int32)) rfl (pc' := 271) rfl ?_
              refine own_icmp_lt X hx (hb hby at_271) (pc1 := 274) (pc2 := 287) rfl (by decide) (fun hc271 => ?_) (fun hc271 => ?_)
              · refine own_iconst X hx (hb hby at_287) (z := (1 : Int32)) rfl (pc' := 288) rfl ?_
                refine own_goto X hx (hb hby at_288) (pc' := 292) (by decide) ?_
                refine own_istore X hx (hb hby at_292) (Ls' := #[.val (.long aa), .second, .val (.long bb), .second, .val (.int sh), .val (.int bits), .val (.int nn), .val (.int mm), .val (.int ax), .val (.long t0), .second, .val (.long t1), .second, .val (.long t2), .second, .val (.long p0), .second, .val (.long p1), .second, .val (.long p2), .second, .val (.ref a), .val (.ref a'), .val (.int r1), .val (.ref b), .val (.int (1 : Int32))]) rfl (pc' := 294) rfl ?_
                refine own_iload X hx (hb hby at_294) rfl (pc' := 296) rfl ?_
                refine own_iload X hx (hb hby at_296) rfl (pc' := 298) rfl ?_
                refine own_icmp_ne X hx (hb hby at_298) (pc1 := 301) (pc2 := 305) rfl (by decide) (fun hc298 => absurd (hR1 (own_P3 (by omega) |>.mpr ⟨by omega, Or.inr (own_cmp0.mp hc246), Or.inr (own_cmp0.mp hc265), Or.inl (by have y := own_ltI hc271; rw [show (3 : Int32).toInt = 3 by decide] at y; omega)⟩)) hc298) (fun hc298 => ?_)
                refine own_iconst X hx (hb hby at_301) (z := (1 : Int32)) rfl (pc' := 302) rfl ?_
                refine own_goto X hx (hb hby at_302) (pc' := 306) (by decide) ?_
                exact own_retZ X hx eT hret hlk (by decide) (by decide) (hb hby at_306) ⟨rfl, N⟩
              · refine own_aload X hx (hb hby at_274) rfl rfl (pc' := 276) rfl ?_
                refine own_iload X hx (hb hby at_276) rfl (pc' := 278) rfl ?_
                refine own_iconst X hx (hb hby at_278) (z := (2 : Int32)) rfl (pc' := 279) rfl ?_
                refine own_iadd X hx (hb hby at_279) (pc' := 280) rfl ?_
                have hg2 := own_geI hc271
                rw [show (3 : Int32).toInt = 3 by decide] at hg2
                have hx2 : (ax + (2 : Int32)).toInt = (ax.toInt.toNat + 2 : Nat) := own_add (k := ax.toInt.toNat) (by omega) (by decide) (by omega)
                refine own_laloadA X hx hZ eT A (by omega) (by omega) (hb hby at_280) (pc' := 281) rfl fun v hv => ?_
                obtain rfl : v = .long (own_tw t0 t1 t2 (ax.toInt.toNat + 2)) := by rw [hv, own_clamp (k := ax.toInt.toNat + 2) (by omega)]
                refine own_lload X hx (hb hby at_281) rfl (pc' := 283) rfl ?_
                refine own_lcmp X hx (hb hby at_283) (pc' := 284) rfl ?_
                refine own_if_ne X hx (hb hby at_284) (pc1 := 287) (pc2 := 291) rfl (by decide) (fun hc284 => ?_) (fun hc284 => ?_)
                · refine own_iconst X hx (hb hby at_291) (z := (0 : Int32)) rfl (pc' := 292) rfl ?_
                  refine own_istore X hx (hb hby at_292) (Ls' := #[.val (.long aa), .second, .val (.long bb), .second, .val (.int sh), .val (.int bits), .val (.int nn), .val (.int mm), .val (.int ax), .val (.long t0), .second, .val (.long t1), .second, .val (.long t2), .second, .val (.long p0), .second, .val (.long p1), .second, .val (.long p2), .second, .val (.ref a), .val (.ref a'), .val (.int r1), .val (.ref b), .val (.int (0 : Int32))]) rfl (pc' := 294) rfl ?_
                  refine own_iload X hx (hb hby at_294) rfl (pc' := 296) rfl ?_
                  refine own_iload X hx (hb hby at_296) rfl (pc' := 298) rfl ?_
                  refine own_icmp_ne X hx (hb hby at_298) (pc1 := 301) (pc2 := 305) rfl (by decide) (fun hc298 => absurd (hR0 (fun y => by have y1 := (own_P3 (by omega) |>.mp y).2.2.2; rcases y1 with z | z; omega; exact hc284 (own_cmp0.mpr z))) hc298) (fun hc298 => ?_)
                  refine own_iconst X hx (hb hby at_301) (z := (1 : Int32)) rfl (pc' := 302) rfl ?_
                  refine own_goto X hx (hb hby at_302) (pc' := 306) (by decide) ?_
                  exact own_retZ X hx eT hret hlk (by decide) (by decide) (hb hby at_306) ⟨rfl, N⟩
                · refine own_iconst X hx (hb hby at_287) (z := (1 : Int32)) rfl (pc' := 288) rfl ?_
                  refine own_goto X hx (hb hby at_288) (pc' := 292) (by decide) ?_
                  refine own_istore X hx (hb hby at_292) (Ls' := #[.val (.long aa), .second, .val (.long bb), .second, .val (.int sh), .val (.int bits), .val (.int nn), .val (.int mm), .val (.int ax), .val (.long t0), .second, .val (.long t1), .second, .val (.long t2), .second, .val (.long p0), .second, .val (.long p1), .second, .val (.long p2), .second, .val (.ref a), .val (.ref a'), .val (.int r1), .val (.ref b), .val (.int (1 : Int32))]) rfl (pc' := 294) rfl ?_
                  refine own_iload X hx (hb hby at_294) rfl (pc' := 296) rfl ?_
                  refine own_iload X hx (hb hby at_296) rfl (pc' := 298) rfl ?_
                  refine own_icmp_ne X hx (hb hby at_298) (pc1 := 301) (pc2 := 305) rfl (by decide) (fun hc298 => absurd (hR1 (own_P3 (by omega) |>.mpr ⟨by omega, Or.inr (own_cmp0.mp hc246), Or.inr (own_cmp0.mp hc265), Or.inr (own_cmp0.mp hc284)⟩)) hc298) (fun hc298 => ?_)
                  refine own_iconst X hx (hb hby at_301) (z := (1 : Int32)) rfl (pc' := 302) rfl ?_
                  refine own_goto X hx (hb hby at_302) (pc' := 306) (by decide) ?_
                  exact own_retZ X hx eT hret hlk (by decide) (by decide) (hb hby at_306) ⟨rfl, N⟩
  have j176 : ∀ (T : State) (lc : List Loc) (h1 : Heap) (cc cc' : Int32) (a wt ss es : Addr) (a' wt' ss' es' : Addr) (lb' : Nat), Stand p l e room_1 s m #[(.long aa), (.long bb), (.int sh), (.int bits)] below meth c T lc 8 104 → T.heap = h1 → Fr n0 lc → (a < lb' ∧ wt < lb' ∧ ss < lb' ∧ es < lb') → n0 ≤ lb' → own_CU Z n0 h1 a wt ss es nn.toInt.toNat cc (own_tw t0 t1 t2) → own_CU Z lb' h1 a' wt' ss' es' (min mm.toInt.toNat 2) cc' (own_tw p0 p1 p2) → OwnGo p e below s (fun v _ L => v = some (.int 1) ∧ Fr n0 L) room_1.cells room_1.slots (T.setTop (mkF m 176 #[.val (.long aa), .second, .val (.long bb), .second, .val (.int sh), .val (.int bits), .val (.int nn), .val (.int mm), .val (.int ax), .val (.long t0), .second, .val (.long t1), .second, .val (.long t2), .second, .val (.long p0), .second, .val (.long p1), .second, .val (.long p2), .second, .val (.ref a), .val (.ref a'), .unset, .unset, .unset] [])) := by
    intro T lc h1 cc cc' a wt ss es a' wt' ss' es' lb' X eT N hlt hlb K1 K2
    have hg2 : ∀ x ∈ [a', wt', ss', es'], lb' ≤ x := by
      intro x q
      simp only [List.mem_cons, List.not_mem_nil, or_false] at q
      obtain ⟨⟨g1, g2, g3, g4, -⟩, -⟩ := K2
      rcases q with rfl | rfl | rfl | rfl <;> assumption
    refine own_iload X hx (hb hby at_176) rfl (pc' := 178) rfl ?_
    refine own_iconst X hx (hb hby at_178) (z := (2 : Int32)) rfl (pc' := 179) rfl ?_
    refine own_icmp_le X hx (hb hby at_179) (pc1 := 182) (pc2 := 191) rfl (by decide) (fun hc179 => ?_) (fun hc179 => ?_)
    · have hk := own_geI hc179
      rw [show (2 : Int32).toInt = 2 by decide] at hk
      rw [Nat.min_eq_left (by omega)] at K2
      exact j191 T lc h1 cc cc' a wt ss es a' wt' ss' es' lb' X eT N hlt hlb K1 K2
    · refine own_aload X hx (hb hby at_182) rfl rfl (pc' := 184) rfl ?_
      refine own_lload X hx (hb hby at_184) rfl (pc' := 186) rfl ?_
      refine own_iconst X hx (hb hby at_186) (z := (2 : Int32)) rfl (pc' := 187) rfl ?_
      refine own_iconst X hx (hb hby at_187) (z := (3 : Int32)) rfl (pc' := 188) rfl ?_
      have hk := own_ltI hc179
      rw [show (2 : Int32).toInt = 2 by decide] at hk
      rw [Nat.min_eq_right (by omega)] at K2
      refine own_callV X hx hZ hown (y := (⟨"com/example/lehti/lehti/engine/collation/CollationUnits", "add", "(JII)V"⟩ : MethodName)) (argsL := [(.long p2), (.int (2 : Int32)), (.int (3 : Int32))]) (st := []) (W := 0) (a := a') (C := "com/example/lehti/lehti/engine/collation/CollationUnits") (hw _ (List.mem_of_getElem? (i := 28) rfl)) (hw _ (List.mem_of_getElem? (i := 29) rfl)) (hw _ (List.mem_of_getElem? (i := 31) rfl)) (hw _ (List.mem_of_getElem? (i := 30) rfl)) (hw _ (List.mem_of_getElem? (i := 6) rfl)) (hw _ (List.mem_of_getElem? (i := 32) rfl)) eT K2.2.1 (rm_add hw a' wt' ss' es' n0 lb' 2 cc' (own_tw p0 p1 p2) p2 2 3 hlb (by decide) rfl K2) (hb hby at_188) rfl (lenOf pd__JII_V rfl) (by rw [hml]; rfl) (by decide) (by decide) (by decide) (by decide) (Nat.le_of_eq rfl) (by decide) (pc' := 191) rfl ?_
      rintro T _ L X ⟨rfl, N1, kp, K2⟩
      replace N := Fr.app N N1
      replace K1 := K1.keep kp (fun x q => ⟨Nat.lt_of_lt_of_le hlt.1 (hg2 x q), Nat.lt_of_lt_of_le hlt.2.1 (hg2 x q), Nat.lt_of_lt_of_le hlt.2.2.1 (hg2 x q), Nat.lt_of_lt_of_le hlt.2.2.2 (hg2 x q)⟩)
      generalize hT : T.heap = h1 at K1 K2
      replace eT := hT
      exact j191 T _ h1 cc _ a wt ss es a' wt' ss' es' lb' X eT N hlt hlb K1 (by rw [show mm.toInt.toNat = 3 by omega]; exact K2)
  have j161 : ∀ (T : State) (lc : List Loc) (h1 : Heap) (cc cc' : Int32) (a wt ss es : Addr) (a' wt' ss' es' : Addr) (lb' : Nat), Stand p l e room_1 s m #[(.long aa), (.long bb), (.int sh), (.int bits)] below meth c T lc 8 104 → T.heap = h1 → Fr n0 lc → (a < lb' ∧ wt < lb' ∧ ss < lb' ∧ es < lb') → n0 ≤ lb' → own_CU Z n0 h1 a wt ss es nn.toInt.toNat cc (own_tw t0 t1 t2) → own_CU Z lb' h1 a' wt' ss' es' (min mm.toInt.toNat 1) cc' (own_tw p0 p1 p2) → OwnGo p e below s (fun v _ L => v = some (.int 1) ∧ Fr n0 L) room_1.cells room_1.slots (T.setTop (mkF m 161 #[.val (.long aa), .second, .val (.long bb), .second, .val (.int sh), .val (.int bits), .val (.int nn), .val (.int mm), .val (.int ax), .val (.long t0), .second, .val (.long t1), .second, .val (.long t2), .second, .val (.long p0), .second, .val (.long p1), .second, .val (.long p2), .second, .val (.ref a), .val (.ref a'), .unset, .unset, .unset] [])) := by
    intro T lc h1 cc cc' a wt ss es a' wt' ss' es' lb' X eT N hlt hlb K1 K2
    have hg2 : ∀ x ∈ [a', wt', ss', es'], lb' ≤ x := by
      intro x q
      simp only [List.mem_cons, List.not_mem_nil, or_false] at q
      obtain ⟨⟨g1, g2, g3, g4, -⟩, -⟩ := K2
      rcases q with rfl | rfl | rfl | rfl <;> assumption
    refine own_iload X hx (hb hby at_161) rfl (pc' := 163) rfl ?_
    refine own_iconst X hx (hb hby at_163) (z := (1 : Int32)) rfl (pc' := 164) rfl ?_
    refine own_icmp_le X hx (hb hby at_164) (pc1 := 167) (pc2 := 176) rfl (by decide) (fun hc164 => ?_) (fun hc164 => ?_)
    · have hk := own_geI hc164
      rw [show (1 : Int32).toInt = 1 by decide] at hk
      rw [Nat.min_eq_left (by omega)] at K2
      exact j176 T lc h1 cc cc' a wt ss es a' wt' ss' es' lb' X eT N hlt hlb K1 (by rw [Nat.min_eq_left (by omega)]; exact K2)
    · refine own_aload X hx (hb hby at_167) rfl rfl (pc' := 169) rfl ?_
      refine own_lload X hx (hb hby at_169) rfl (pc' := 171) rfl ?_
      refine own_iconst X hx (hb hby at_171) (z := (1 : Int32)) rfl (pc' := 172) rfl ?_
      refine own_iconst X hx (hb hby at_172) (z := (2 : Int32)) rfl (pc' := 173) rfl ?_
      have hk := own_ltI hc164
      rw [show (1 : Int32).toInt = 1 by decide] at hk
      rw [Nat.min_eq_right (by omega)] at K2
      refine own_callV X hx hZ hown (y := (⟨"com/example/lehti/lehti/engine/collation/CollationUnits", "add", "(JII)V"⟩ : MethodName)) (argsL := [(.long p1), (.int (1 : Int32)), (.int (2 : Int32))]) (st := []) (W := 0) (a := a') (C := "com/example/lehti/lehti/engine/collation/CollationUnits") (hw _ (List.mem_of_getElem? (i := 28) rfl)) (hw _ (List.mem_of_getElem? (i := 29) rfl)) (hw _ (List.mem_of_getElem? (i := 31) rfl)) (hw _ (List.mem_of_getElem? (i := 30) rfl)) (hw _ (List.mem_of_getElem? (i := 6) rfl)) (hw _ (List.mem_of_getElem? (i := 32) rfl)) eT K2.2.1 (rm_add hw a' wt' ss' es' n0 lb' 1 cc' (own_tw p0 p1 p2) p1 1 2 hlb (by decide) rfl K2) (hb hby at_173) rfl (lenOf pd__JII_V rfl) (by rw [hml]; rfl) (by decide) (by decide) (by decide) (by decide) (Nat.le_of_eq rfl) (by decide) (pc' := 176) rfl ?_
      rintro T _ L X ⟨rfl, N1, kp, K2⟩
      replace N := Fr.app N N1
      replace K1 := K1.keep kp (fun x q => ⟨Nat.lt_of_lt_of_le hlt.1 (hg2 x q), Nat.lt_of_lt_of_le hlt.2.1 (hg2 x q), Nat.lt_of_lt_of_le hlt.2.2.1 (hg2 x q), Nat.lt_of_lt_of_le hlt.2.2.2 (hg2 x q)⟩)
      generalize hT : T.heap = h1 at K1 K2
      replace eT := hT
      exact j176 T _ h1 cc _ a wt ss es a' wt' ss' es' lb' X eT N hlt hlb K1 (by rw [Nat.min_eq_right (by omega)]; exact K2)
  have j147 : ∀ (T : State) (lc : List Loc) (h1 : Heap) (cc cc' : Int32) (a wt ss es : Addr) (a' wt' ss' es' : Addr) (lb' : Nat), Stand p l e room_1 s m #[(.long aa), (.long bb), (.int sh), (.int bits)] below meth c T lc 8 104 → T.heap = h1 → Fr n0 lc → (a < lb' ∧ wt < lb' ∧ ss < lb' ∧ es < lb') → n0 ≤ lb' → own_CU Z n0 h1 a wt ss es nn.toInt.toNat cc (own_tw t0 t1 t2) → own_CU Z lb' h1 a' wt' ss' es' (min mm.toInt.toNat 0) cc' (own_tw p0 p1 p2) → OwnGo p e below s (fun v _ L => v = some (.int 1) ∧ Fr n0 L) room_1.cells room_1.slots (T.setTop (mkF m 147 #[.val (.long aa), .second, .val (.long bb), .second, .val (.int sh), .val (.int bits), .val (.int nn), .val (.int mm), .val (.int ax), .val (.long t0), .second, .val (.long t1), .second, .val (.long t2), .second, .val (.long p0), .second, .val (.long p1), .second, .val (.long p2), .second, .val (.ref a), .val (.ref a'), .unset, .unset, .unset] [])) := by
    intro T lc h1 cc cc' a wt ss es a' wt' ss' es' lb' X eT N hlt hlb K1 K2
    have hg2 : ∀ x ∈ [a', wt', ss', es'], lb' ≤ x := by
      intro x q
      simp only [List.mem_cons, List.not_mem_nil, or_false] at q
      obtain ⟨⟨g1, g2, g3, g4, -⟩, -⟩ := K2
      rcases q with rfl | rfl | rfl | rfl <;> assumption
    refine own_iload X hx (hb hby at_147) rfl (pc' := 149) rfl ?_
    refine own_if_le X hx (hb hby at_149) (pc1 := 152) (pc2 := 161) rfl (by decide) (fun hc149 => ?_) (fun hc149 => ?_)
    · have hk := own_geI hc149
      rw [show (0 : Int32).toInt = 0 by decide] at hk
      rw [Nat.min_eq_left (by omega)] at K2
      exact j161 T lc h1 cc cc' a wt ss es a' wt' ss' es' lb' X eT N hlt hlb K1 (by rw [Nat.min_eq_left (by omega)]; exact K2)
    · refine own_aload X hx (hb hby at_152) rfl rfl (pc' := 154) rfl ?_
      refine own_lload X hx (hb hby at_154) rfl (pc' := 156) rfl ?_
      refine own_iconst X hx (hb hby at_156) (z := (0 : Int32)) rfl (pc' := 157) rfl ?_
      refine own_iconst X hx (hb hby at_157) (z := (1 : Int32)) rfl (pc' := 158) rfl ?_
      have hk := own_ltI hc149
      rw [show (0 : Int32).toInt = 0 by decide] at hk
      rw [Nat.min_eq_right (by omega)] at K2
      refine own_callV X hx hZ hown (y := (⟨"com/example/lehti/lehti/engine/collation/CollationUnits", "add", "(JII)V"⟩ : MethodName)) (argsL := [(.long p0), (.int (0 : Int32)), (.int (1 : Int32))]) (st := []) (W := 0) (a := a') (C := "com/example/lehti/lehti/engine/collation/CollationUnits") (hw _ (List.mem_of_getElem? (i := 28) rfl)) (hw _ (List.mem_of_getElem? (i := 29) rfl)) (hw _ (List.mem_of_getElem? (i := 31) rfl)) (hw _ (List.mem_of_getElem? (i := 30) rfl)) (hw _ (List.mem_of_getElem? (i := 6) rfl)) (hw _ (List.mem_of_getElem? (i := 32) rfl)) eT K2.2.1 (rm_add hw a' wt' ss' es' n0 lb' 0 cc' (own_tw p0 p1 p2) p0 0 1 hlb (by decide) rfl K2) (hb hby at_158) rfl (lenOf pd__JII_V rfl) (by rw [hml]; rfl) (by decide) (by decide) (by decide) (by decide) (Nat.le_of_eq rfl) (by decide) (pc' := 161) rfl ?_
      rintro T _ L X ⟨rfl, N1, kp, K2⟩
      replace N := Fr.app N N1
      replace K1 := K1.keep kp (fun x q => ⟨Nat.lt_of_lt_of_le hlt.1 (hg2 x q), Nat.lt_of_lt_of_le hlt.2.1 (hg2 x q), Nat.lt_of_lt_of_le hlt.2.2.1 (hg2 x q), Nat.lt_of_lt_of_le hlt.2.2.2 (hg2 x q)⟩)
      generalize hT : T.heap = h1 at K1 K2
      replace eT := hT
      exact j161 T _ h1 cc _ a wt ss es a' wt' ss' es' lb' X eT N hlt hlb K1 (by rw [Nat.min_eq_right (by omega)]; exact K2)
  have j138 : ∀ (T : State) (lc : List Loc) (h1 : Heap) (cc : Int32) (a wt ss es : Addr), Stand p l e room_1 s m #[(.long aa), (.long bb), (.int sh), (.int bits)] below meth c T lc 4 52 → T.heap = h1 → Fr n0 lc → own_CU Z n0 h1 a wt ss es nn.toInt.toNat cc (own_tw t0 t1 t2) → OwnGo p e below s (fun v _ L => v = some (.int 1) ∧ Fr n0 L) room_1.cells room_1.slots (T.setTop (mkF m 138 #[.val (.long aa), .second, .val (.long bb), .second, .val (.int sh), .val (.int bits), .val (.int nn), .val (.int mm), .val (.int ax), .val (.long t0), .second, .val (.long t1), .second, .val (.long t2), .second, .val (.long p0), .second, .val (.long p1), .second, .val (.long p2), .second, .val (.ref a), .unset, .unset, .unset, .unset] [])) := by
    intro T lc h1 cc a wt ss es X eT N K1
    refine own_newO X hx hZ hown (hw _ (List.mem_of_getElem? (i := 4) rfl)) (hw _ (List.mem_of_getElem? (i := 5) rfl)) (hw _ (List.mem_of_getElem? (i := 6) rfl)) eT (by decide) (by decide) (hb hby at_138) (pc' := 141) rfl fun T h1 a' hbs X eT E E_a D => ?_
    have hlt : a < a' ∧ wt < a' ∧ ss < a' ∧ es < a' := by
      obtain ⟨-, y1, -, -, -, -, -, y2, y3, y4⟩ := K1
      rw [hbs]
      exact ⟨y1.lt, y2.lt, y3.lt, y4.lt⟩
    have hlb : n0 ≤ a' := Nat.le_trans K1.1.1 (Nat.le_of_lt hlt.1)
    replace K1 := K1.ext E
    refine own_dup X hx (hb hby at_141) rfl (pc' := 142) rfl ?_
    refine own_callC X hx hZ hown (y := (⟨"com/example/lehti/lehti/engine/collation/CollationUnits", "<init>", "()V"⟩ : MethodName)) (argsL := []) (st := [(.ref a')]) (W := 1) (a := a') rfl (hw _ (List.mem_of_getElem? (i := 7) rfl)) (hw _ (List.mem_of_getElem? (i := 8) rfl)) (hw _ (List.mem_of_getElem? (i := 6) rfl)) (hw _ (List.mem_of_getElem? (i := 9) rfl)) eT (rm_init hw a' n0 a' (own_tw p0 p1 p2) hlb (Nat.le_refl _) E_a (D (Or.inl (hw _ (List.mem_of_getElem? (i := 15) rfl))) (ty := (.array .long)) (by decide)) (D (Or.inl (hw _ (List.mem_of_getElem? (i := 18) rfl))) (ty := (.array .int)) (by decide)) (D (Or.inl (hw _ (List.mem_of_getElem? (i := 20) rfl))) (ty := (.array .int)) (by decide)) (D (Or.inl (hw _ (List.mem_of_getElem? (i := 27) rfl))) (ty := .int) (by decide))) (hb hby at_142) rfl (lenOf pd___V rfl) (by rw [hml]; rfl) (by decide) (by decide) (by decide) (by decide) (Nat.le_of_eq rfl) (by decide) (pc' := 145) rfl ?_
    rintro T _ L X ⟨rfl, N1, kp, wt', ss', es', K2⟩
    replace N := Fr.app N N1
    replace K1 := K1.keep kp (fun x q => by
        obtain rfl : x = a' := by simpa using q
        exact hlt)
    generalize hT : T.heap = h1 at K1 K2
    replace eT := hT
    refine own_astore X hx (hb hby at_145) rfl (Ls' := #[.val (.long aa), .second, .val (.long bb), .second, .val (.int sh), .val (.int bits), .val (.int nn), .val (.int mm), .val (.int ax), .val (.long t0), .second, .val (.long t1), .second, .val (.long t2), .second, .val (.long p0), .second, .val (.long p1), .second, .val (.long p2), .second, .val (.ref a), .val (.ref a'), .unset, .unset, .unset]) rfl (pc' := 147) rfl ?_
    exact j147 T _ h1 cc 0 a wt ss es a' wt' ss' es' a' X eT N hlt hlb K1 (by rw [Nat.min_eq_right (by omega)]; exact K2)
  have j123 : ∀ (T : State) (lc : List Loc) (h1 : Heap) (cc : Int32) (a wt ss es : Addr), Stand p l e room_1 s m #[(.long aa), (.long bb), (.int sh), (.int bits)] below meth c T lc 4 52 → T.heap = h1 → Fr n0 lc → own_CU Z n0 h1 a wt ss es (min nn.toInt.toNat 2) cc (own_tw t0 t1 t2) → OwnGo p e below s (fun v _ L => v = some (.int 1) ∧ Fr n0 L) room_1.cells room_1.slots (T.setTop (mkF m 123 #[.val (.long aa), .second, .val (.long bb), .second, .val (.int sh), .val (.int bits), .val (.int nn), .val (.int mm), .val (.int ax), .val (.long t0), .second, .val (.long t1), .second, .val (.long t2), .second, .val (.long p0), .second, .val (.long p1), .second, .val (.long p2), .second, .val (.ref a), .unset, .unset, .unset, .unset] [])) := by
    intro T lc h1 cc a wt ss es X eT N K1
    refine own_iload X hx (hb hby at_123) rfl (pc' := 125) rfl ?_
    refine own_iconst X hx (hb hby at_125) (z := (2 : Int32)) rfl (pc' := 126) rfl ?_
    refine own_icmp_le X hx (hb hby at_126) (pc1 := 129) (pc2 := 138) rfl (by decide) (fun hc126 => ?_) (fun hc126 => ?_)
    · have hk := own_geI hc126
      rw [show (2 : Int32).toInt = 2 by decide] at hk
      rw [Nat.min_eq_left (by omega)] at K1
      exact j138 T lc h1 cc a wt ss es X eT N K1
    · refine own_aload X hx (hb hby at_129) rfl rfl (pc' := 131) rfl ?_
      refine own_lload X hx (hb hby at_131) rfl (pc' := 133) rfl ?_
      refine own_iconst X hx (hb hby at_133) (z := (2 : Int32)) rfl (pc' := 134) rfl ?_
      refine own_iconst X hx (hb hby at_134) (z := (3 : Int32)) rfl (pc' := 135) rfl ?_
      have hk := own_ltI hc126
      rw [show (2 : Int32).toInt = 2 by decide] at hk
      rw [Nat.min_eq_right (by omega)] at K1
      refine own_callV X hx hZ hown (y := (⟨"com/example/lehti/lehti/engine/collation/CollationUnits", "add", "(JII)V"⟩ : MethodName)) (argsL := [(.long t2), (.int (2 : Int32)), (.int (3 : Int32))]) (st := []) (W := 0) (a := a) (C := "com/example/lehti/lehti/engine/collation/CollationUnits") (hw _ (List.mem_of_getElem? (i := 28) rfl)) (hw _ (List.mem_of_getElem? (i := 29) rfl)) (hw _ (List.mem_of_getElem? (i := 31) rfl)) (hw _ (List.mem_of_getElem? (i := 30) rfl)) (hw _ (List.mem_of_getElem? (i := 6) rfl)) (hw _ (List.mem_of_getElem? (i := 32) rfl)) eT K1.2.1 (rm_add hw a wt ss es n0 n0 2 cc (own_tw t0 t1 t2) t2 2 3 (Nat.le_refl _) (by decide) rfl K1) (hb hby at_135) rfl (lenOf pd__JII_V rfl) (by rw [hml]; rfl) (by decide) (by decide) (by decide) (by decide) (Nat.le_of_eq rfl) (by decide) (pc' := 138) rfl ?_
      rintro T _ L X ⟨rfl, N1, -, K1⟩
      replace N := Fr.app N N1
      generalize hT : T.heap = h1 at K1
      replace eT := hT
      exact j138 T _ h1 _ a wt ss es X eT N (by rw [show nn.toInt.toNat = 3 by omega]; exact K1)
  have j108 : ∀ (T : State) (lc : List Loc) (h1 : Heap) (cc : Int32) (a wt ss es : Addr), Stand p l e room_1 s m #[(.long aa), (.long bb), (.int sh), (.int bits)] below meth c T lc 4 52 → T.heap = h1 → Fr n0 lc → own_CU Z n0 h1 a wt ss es (min nn.toInt.toNat 1) cc (own_tw t0 t1 t2) → OwnGo p e below s (fun v _ L => v = some (.int 1) ∧ Fr n0 L) room_1.cells room_1.slots (T.setTop (mkF m 108 #[.val (.long aa), .second, .val (.long bb), .second, .val (.int sh), .val (.int bits), .val (.int nn), .val (.int mm), .val (.int ax), .val (.long t0), .second, .val (.long t1), .second, .val (.long t2), .second, .val (.long p0), .second, .val (.long p1), .second, .val (.long p2), .second, .val (.ref a), .unset, .unset, .unset, .unset] [])) := by
    intro T lc h1 cc a wt ss es X eT N K1
    refine own_iload X hx (hb hby at_108) rfl (pc' := 110) rfl ?_
    refine own_iconst X hx (hb hby at_110) (z := (1 : Int32)) rfl (pc' := 111) rfl ?_
    refine own_icmp_le X hx (hb hby at_111) (pc1 := 114) (pc2 := 123) rfl (by decide) (fun hc111 => ?_) (fun hc111 => ?_)
    · have hk := own_geI hc111
      rw [show (1 : Int32).toInt = 1 by decide] at hk
      rw [Nat.min_eq_left (by omega)] at K1
      exact j123 T lc h1 cc a wt ss es X eT N (by rw [Nat.min_eq_left (by omega)]; exact K1)
    · refine own_aload X hx (hb hby at_114) rfl rfl (pc' := 116) rfl ?_
      refine own_lload X hx (hb hby at_116) rfl (pc' := 118) rfl ?_
      refine own_iconst X hx (hb hby at_118) (z := (1 : Int32)) rfl (pc' := 119) rfl ?_
      refine own_iconst X hx (hb hby at_119) (z := (2 : Int32)) rfl (pc' := 120) rfl ?_
      have hk := own_ltI hc111
      rw [show (1 : Int32).toInt = 1 by decide] at hk
      rw [Nat.min_eq_right (by omega)] at K1
      refine own_callV X hx hZ hown (y := (⟨"com/example/lehti/lehti/engine/collation/CollationUnits", "add", "(JII)V"⟩ : MethodName)) (argsL := [(.long t1), (.int (1 : Int32)), (.int (2 : Int32))]) (st := []) (W := 0) (a := a) (C := "com/example/lehti/lehti/engine/collation/CollationUnits") (hw _ (List.mem_of_getElem? (i := 28) rfl)) (hw _ (List.mem_of_getElem? (i := 29) rfl)) (hw _ (List.mem_of_getElem? (i := 31) rfl)) (hw _ (List.mem_of_getElem? (i := 30) rfl)) (hw _ (List.mem_of_getElem? (i := 6) rfl)) (hw _ (List.mem_of_getElem? (i := 32) rfl)) eT K1.2.1 (rm_add hw a wt ss es n0 n0 1 cc (own_tw t0 t1 t2) t1 1 2 (Nat.le_refl _) (by decide) rfl K1) (hb hby at_120) rfl (lenOf pd__JII_V rfl) (by rw [hml]; rfl) (by decide) (by decide) (by decide) (by decide) (Nat.le_of_eq rfl) (by decide) (pc' := 123) rfl ?_
      rintro T _ L X ⟨rfl, N1, -, K1⟩
      replace N := Fr.app N N1
      generalize hT : T.heap = h1 at K1
      replace eT := hT
      exact j123 T _ h1 _ a wt ss es X eT N (by rw [Nat.min_eq_right (by omega)]; exact K1)
  have j94 : ∀ (T : State) (lc : List Loc) (h1 : Heap) (cc : Int32) (a wt ss es : Addr), Stand p l e room_1 s m #[(.long aa), (.long bb), (.int sh), (.int bits)] below meth c T lc 4 52 → T.heap = h1 → Fr n0 lc → own_CU Z n0 h1 a wt ss es (min nn.toInt.toNat 0) cc (own_tw t0 t1 t2) → OwnGo p e below s (fun v _ L => v = some (.int 1) ∧ Fr n0 L) room_1.cells room_1.slots (T.setTop (mkF m 94 #[.val (.long aa), .second, .val (.long bb), .second, .val (.int sh), .val (.int bits), .val (.int nn), .val (.int mm), .val (.int ax), .val (.long t0), .second, .val (.long t1), .second, .val (.long t2), .second, .val (.long p0), .second, .val (.long p1), .second, .val (.long p2), .second, .val (.ref a), .unset, .unset, .unset, .unset] [])) := by
    intro T lc h1 cc a wt ss es X eT N K1
    refine own_iload X hx (hb hby at_94) rfl (pc' := 96) rfl ?_
    refine own_if_le X hx (hb hby at_96) (pc1 := 99) (pc2 := 108) rfl (by decide) (fun hc96 => ?_) (fun hc96 => ?_)
    · have hk := own_geI hc96
      rw [show (0 : Int32).toInt = 0 by decide] at hk
      rw [Nat.min_eq_left (by omega)] at K1
      exact j108 T lc h1 cc a wt ss es X eT N (by rw [Nat.min_eq_left (by omega)]; exact K1)
    · refine own_aload X hx (hb hby at_99) rfl rfl (pc' := 101) rfl ?_
      refine own_lload X hx (hb hby at_101) rfl (pc' := 103) rfl ?_
      refine own_iconst X hx (hb hby at_103) (z := (0 : Int32)) rfl (pc' := 104) rfl ?_
      refine own_iconst X hx (hb hby at_104) (z := (1 : Int32)) rfl (pc' := 105) rfl ?_
      have hk := own_ltI hc96
      rw [show (0 : Int32).toInt = 0 by decide] at hk
      rw [Nat.min_eq_right (by omega)] at K1
      refine own_callV X hx hZ hown (y := (⟨"com/example/lehti/lehti/engine/collation/CollationUnits", "add", "(JII)V"⟩ : MethodName)) (argsL := [(.long t0), (.int (0 : Int32)), (.int (1 : Int32))]) (st := []) (W := 0) (a := a) (C := "com/example/lehti/lehti/engine/collation/CollationUnits") (hw _ (List.mem_of_getElem? (i := 28) rfl)) (hw _ (List.mem_of_getElem? (i := 29) rfl)) (hw _ (List.mem_of_getElem? (i := 31) rfl)) (hw _ (List.mem_of_getElem? (i := 30) rfl)) (hw _ (List.mem_of_getElem? (i := 6) rfl)) (hw _ (List.mem_of_getElem? (i := 32) rfl)) eT K1.2.1 (rm_add hw a wt ss es n0 n0 0 cc (own_tw t0 t1 t2) t0 0 1 (Nat.le_refl _) (by decide) rfl K1) (hb hby at_105) rfl (lenOf pd__JII_V rfl) (by rw [hml]; rfl) (by decide) (by decide) (by decide) (by decide) (Nat.le_of_eq rfl) (by decide) (pc' := 108) rfl ?_
      rintro T _ L X ⟨rfl, N1, -, K1⟩
      replace N := Fr.app N N1
      generalize hT : T.heap = h1 at K1
      replace eT := hT
      exact j108 T _ h1 _ a wt ss es X eT N (by rw [Nat.min_eq_right (by omega)]; exact K1)
  have N := Fr.nil n0
  refine own_newO X hx hZ hown (hw _ (List.mem_of_getElem? (i := 4) rfl)) (hw _ (List.mem_of_getElem? (i := 5) rfl)) (hw _ (List.mem_of_getElem? (i := 6) rfl)) eT (by decide) (by decide) (hb hby at_85) (pc' := 88) rfl fun T h1 a hbs X eT E E_a D => ?_
  have ga : n0 ≤ a := by rw [hbs]; exact hn0
  refine own_dup X hx (hb hby at_88) rfl (pc' := 89) rfl ?_
  refine own_callC X hx hZ hown (y := (⟨"com/example/lehti/lehti/engine/collation/CollationUnits", "<init>", "()V"⟩ : MethodName)) (argsL := []) (st := [(.ref a)]) (W := 1) (a := a) rfl (hw _ (List.mem_of_getElem? (i := 7) rfl)) (hw _ (List.mem_of_getElem? (i := 8) rfl)) (hw _ (List.mem_of_getElem? (i := 6) rfl)) (hw _ (List.mem_of_getElem? (i := 9) rfl)) eT (rm_init hw a n0 n0 (own_tw t0 t1 t2) (Nat.le_refl _) ga E_a (D (Or.inl (hw _ (List.mem_of_getElem? (i := 15) rfl))) (ty := (.array .long)) (by decide)) (D (Or.inl (hw _ (List.mem_of_getElem? (i := 18) rfl))) (ty := (.array .int)) (by decide)) (D (Or.inl (hw _ (List.mem_of_getElem? (i := 20) rfl))) (ty := (.array .int)) (by decide)) (D (Or.inl (hw _ (List.mem_of_getElem? (i := 27) rfl))) (ty := .int) (by decide))) (hb hby at_89) rfl (lenOf pd___V rfl) (by rw [hml]; rfl) (by decide) (by decide) (by decide) (by decide) (Nat.le_of_eq rfl) (by decide) (pc' := 92) rfl ?_
  rintro T _ L X ⟨rfl, N1, kp, wt, ss, es, K1⟩
  replace N := Fr.app N N1
  generalize hT : T.heap = h1 at K1
  replace eT := hT
  refine own_astore X hx (hb hby at_92) rfl (Ls' := #[.val (.long aa), .second, .val (.long bb), .second, .val (.int sh), .val (.int bits), .val (.int nn), .val (.int mm), .val (.int ax), .val (.long t0), .second, .val (.long t1), .second, .val (.long t2), .second, .val (.long p0), .second, .val (.long p1), .second, .val (.long p2), .second, .val (.ref a), .unset, .unset, .unset, .unset]) rfl (pc' := 94) rfl ?_
  exact j94 T _ h1 0 a wt ss es X eT N (by rw [Nat.min_eq_right (by omega)]; exact K1)
set_option maxRecDepth 65536 in
set_option maxHeartbeats 40000000 in
theorem comes_1 {Post : Tables → Env → Array Value → State → Outcome → State → Prop} (hpost : ∀ tb e args s v u, (limb_1_1.after args s (.returned v) u = true ∧ limb_1_2.after args s (.returned v) u = true) → FrameEnd s (.returned v) u (Jvm.fieldLocs frame_1_writes args s ++ Jvm.arrayLocs frame_1_arrays args s ++ Jvm.staticLocs frame_1_statics s) 32 320 → Post tb e args s (.returned v) u) :
    ArmFor flags0 classFile x code maxLocals ret World_1 tables_1 room_1 Calls_1 rest_1 Pre_1 Post := by
  intro l hfl _ _ p e ha hc hk s m args below hf hA hF happ hP
  obtain ⟨hcalls, hrest, hpre⟩ := hP
  obtain ⟨-, -, -, hnamed, -, -, -, hat⟩ := (Spec.applies_iff hf).mp happ
  obtain ⟨hg, hn⟩ := and_e (Cond.before_iff.mp (show (Jvm.Cond.and given_1 narrow_1).before args s = true from hpre))
  obtain ⟨hcount, g0⟩ := and_e hg
  obtain ⟨v0, g1⟩ := and_e g0
  obtain ⟨v1, g2⟩ := and_e g1
  obtain ⟨v2, g3⟩ := and_e g2
  obtain ⟨w0, w1, w2, w3, rfl⟩ : ∃ w0 w1 w2 w3 : Value, args = #[w0, w1, w2, w3] := by
    have hs : args.size = 4 := by simpa [Cond.value, given_1] using hcount
    obtain ⟨L⟩ := args
    match L, hs with
    | [w0, w1, w2, w3], _ => exact ⟨w0, w1, w2, w3, rfl⟩
  have hw := fun d (hd : d ∈ tables_1) => atoms_spec (ws := Jvm.Cond.code x code maxLocals ret :: tables_1) hat d (List.mem_cons_of_mem _ hd)
  obtain ⟨i0, ei0⟩ := isL_v v0
  obtain rfl : w0 = (.long i0) := Option.some.inj ei0
  obtain ⟨i1, ei1⟩ := isL_v v1
  obtain rfl : w1 = (.long i1) := Option.some.inj ei1
  obtain ⟨i2, ei2⟩ := is_v v2
  obtain rfl : w2 = (.int i2) := Option.some.inj ei2
  obtain ⟨i3, ei3⟩ := is_v g3
  obtain rfl : w3 = (.int i3) := Option.some.inj ei3
  obtain ⟨n, o, h1, h2, h3, _, L, rfl, ⟨rfl, N⟩, hq⟩ := rm_law l s _ hw tables_1 i0 i1 i2 i3 s.heap s.heap.size (Nat.le_refl _) p e ha hc hk s m _ below hf ((Spec.applies_iff_loose hf).mp happ).1 ⟨rfl, State.Warmed39.refl s, rfl⟩ trivial
  refine ⟨n, _, h1, h2, h3, hpost _ _ _ _ _ _ ⟨Cond.after_iff.mpr rfl, Cond.after_iff.mpr (eq_i res_at (Term.int_eval (1)) rfl)⟩ ⟨hq.1, hq.2.1, (hq.2.2.sift fun y hy => Or.inr (N y hy)).mono (by decide) (by decide)⟩⟩
theorem main_1_1 : Claimed_1_1 := comes_1 fun _ _ _ _ _ _ h hF => ⟨h.1, hF⟩
theorem main_1_2 : Claimed_1_2 := comes_1 fun _ _ _ _ _ _ h hF => ⟨h.2, hF⟩
end Jvm.Pilot.@@N@@
namespace Jvm.Pilot.@@N@@
open Jvm Jvm.ClassFile Sem Op Lib Jvm.Free Jvm.Stand Jvm.Pilot.@@N@@.Jvm.D
/-! MADE BY PROGRAM (witnessworld.py) out of the Statement's table words and the real class files: 11 classes; the members and pool entries that the words name. The judged class is class 1, her method 1. -/
namespace start1
open Jvm.ClassFile
def u (s : String) : CpInfo := .utf8 (stringToUtf16 s)
/-- a pool by its gaps: so many unusable entries, then the entry; so many at the end -/
def gap : Nat → List CpInfo → List CpInfo
  | 0, r => r
  | n + 1, r => .unusable :: gap n r
def poolList (es : List (Nat × CpInfo)) (last : Nat) : List CpInfo := es.foldr (fun e r => gap e.1 (e.2 :: r)) (gap last [])
def pool (es : List (Nat × CpInfo)) (last : Nat) : Array CpInfo := ⟨poolList es last⟩
def fileOf (pool : Array CpInfo) (this : Nat) (attrs : Array Attribute := #[]) (ms : Array MethodInfo := #[]) (fl : Nat := 33) (sup : Nat := 0) (ifs : Array Nat := #[]) (fds : Array FieldInfo := #[]) : ClassFile where
  minorVersion := 0
  majorVersion := 65
  constantPool := pool
  accessFlags := fl
  thisClass := this
  superClass := sup
  interfaces := ifs
  fields := fds
  methods := ms
  attributes := attrs
def plain (name : String) (sup : Option ClassId) : Class where
  name := name
  kind := .ordinary
  loader := none
  accessFlags := 33
  super := sup
  interfaces := #[]
  cf := none
  fields := #[]
  methods := #[]
  instanceTypes := #[]
  staticTypes := #[]
  resolved := #[]
  callSites := []
  init := .initialized
  statics := none
  mirror := none

def pool0 : Array CpInfo := pool [(5, u "<init>"), (0, u "()V"), (1, .class_ 10), (1, u "java/lang/Object")] 113

def k0c0 : Code := { maxStack := 0, maxLocals := 1, code := object_method_1_code, exceptionTable := #[], attributes := #[] }
def k0m0 : Method := { name := "<init>", desc := "()V", sig := { parameters := [], returnType := none }, accessFlags := 1, code := some k0c0 }
/-- java/lang/Object -/
def k0 : Class := { plain "java/lang/Object" none with
  accessFlags := 33
  interfaces := #[]
  cf := some (fileOf pool0 8 #[] #[{ accessFlags := 1, nameIndex := 5, descriptorIndex := 6, attributes := #[] }] 33 0 #[] #[])
  fields := #[]
  methods := #[k0m0]
  instanceTypes := #[]
  staticTypes := #[]
  resolved := Array.replicate 124 none
  statics := none }

def pool1 : Array CpInfo := pool [(2, .class_ 4), (0, .nameAndType 5 6), (0, u "java/lang/Object"), (0, u "<init>"), (0, u "()V"), (0, .methodref 8 9), (0, .class_ 10), (0, .nameAndType 11 12), (0, u "com/example/lehti/lehti/engine/collation/CollationUnitsMatchesPinLaw"), (0, u "pick"), (0, u "(IIJJ)J"), (0, .class_ 14), (0, u "com/example/lehti/lehti/engine/collation/CollationUnits"), (0, .methodref 13 3), (0, .methodref 13 17), (0, .nameAndType 18 19), (0, u "add"), (0, u "(JII)V"), (0, .methodref 13 21), (0, .nameAndType 22 23), (0, u "matches"), (0, u "(Lcom/example/lehti/lehti/engine/collation/CollationUnits;I)Z"), (2, u "law"), (0, u "(JJII)Z")] 5

def k1m0 : Method := { name := "<init>", desc := "()V", sig := { parameters := [], returnType := none }, accessFlags := 1, code := none }
def k1c1 : Code := { maxStack := 6, maxLocals := 26, code := code, exceptionTable := #[], attributes := #[] }
def k1m1 : Method := { name := "law", desc := "(JJII)Z", sig := { parameters := [.long, .long, .int, .int], returnType := some .boolean }, accessFlags := 9, code := some k1c1 }
def k1c2 : Code := { maxStack := 2, maxLocals := 6, code := method_3_code, exceptionTable := #[], attributes := #[] }
def k1m2 : Method := { name := "pick", desc := "(IIJJ)J", sig := { parameters := [.int, .int, .long, .long], returnType := some .long }, accessFlags := 10, code := some k1c2 }
/-- com/example/lehti/lehti/engine/collation/CollationUnitsMatchesPinLaw -/
def k1 : Class := { plain "com/example/lehti/lehti/engine/collation/CollationUnitsMatchesPinLaw" (some 0) with
  accessFlags := 49
  interfaces := #[]
  cf := some (fileOf pool1 8 #[] #[{ accessFlags := 1, nameIndex := 5, descriptorIndex := 6, attributes := #[] }, { accessFlags := 9, nameIndex := 26, descriptorIndex := 27, attributes := #[] }, { accessFlags := 10, nameIndex := 11, descriptorIndex := 12, attributes := #[] }] 49 2 #[] #[])
  fields := #[]
  methods := #[k1m0, k1m1, k1m2]
  instanceTypes := #[]
  staticTypes := #[]
  resolved := Array.replicate 33 none
  statics := none }

def pool2 : Array CpInfo := pool [(1, .methodref 2 3), (0, .class_ 4), (0, .nameAndType 5 6), (0, u "java/lang/Object"), (0, u "<init>"), (0, u "()V"), (0, .fieldref 8 9), (0, .class_ 10), (0, .nameAndType 11 12), (0, u "com/example/lehti/lehti/engine/collation/CollationUnits"), (0, u "weights"), (0, u "[J"), (0, .fieldref 8 14), (0, .nameAndType 15 16), (0, u "starts"), (0, u "[I"), (0, .fieldref 8 18), (0, .nameAndType 19 16), (0, u "ends"), (0, .fieldref 8 21), (0, .nameAndType 22 23), (0, u "count"), (0, u "I"), (17, u "add"), (0, u "(JII)V"), (1, u "matches"), (0, u "(Lcom/example/lehti/lehti/engine/collation/CollationUnits;I)Z")] 4

def k2c0 : Code := { maxStack := 2, maxLocals := 1, code := prog_20_method_1_code, exceptionTable := #[], attributes := #[] }
def k2m0 : Method := { name := "<init>", desc := "()V", sig := { parameters := [], returnType := none }, accessFlags := 0, code := some k2c0 }
def k2c1 : Code := { maxStack := 4, maxLocals := 6, code := prog_20_method_3_code, exceptionTable := #[], attributes := #[] }
def k2m1 : Method := { name := "add", desc := "(JII)V", sig := { parameters := [.long, .int, .int], returnType := none }, accessFlags := 0, code := some k2c1 }
def k2c2 : Code := { maxStack := 4, maxLocals := 5, code := prog_20_method_4_code, exceptionTable := #[], attributes := #[] }
def k2m2 : Method := { name := "matches", desc := "(Lcom/example/lehti/lehti/engine/collation/CollationUnits;I)Z", sig := { parameters := [(.object "com/example/lehti/lehti/engine/collation/CollationUnits"), .int], returnType := some .boolean }, accessFlags := 0, code := some k2c2 }
/-- com/example/lehti/lehti/engine/collation/CollationUnits -/
def k2 : Class := { plain "com/example/lehti/lehti/engine/collation/CollationUnits" (some 0) with
  accessFlags := 48
  interfaces := #[]
  cf := some (fileOf pool2 8 #[] #[{ accessFlags := 0, nameIndex := 5, descriptorIndex := 6, attributes := #[] }, { accessFlags := 0, nameIndex := 41, descriptorIndex := 42, attributes := #[] }, { accessFlags := 0, nameIndex := 44, descriptorIndex := 45, attributes := #[] }] 48 2 #[] #[{ accessFlags := 2, nameIndex := 11, descriptorIndex := 12, attributes := #[] }, { accessFlags := 2, nameIndex := 15, descriptorIndex := 16, attributes := #[] }, { accessFlags := 2, nameIndex := 19, descriptorIndex := 16, attributes := #[] }, { accessFlags := 2, nameIndex := 22, descriptorIndex := 23, attributes := #[] }])
  fields := #[{ name := "weights", type := (.array .long), accessFlags := 2, slot := 0, constantValue := 0 }, { name := "starts", type := (.array .int), accessFlags := 2, slot := 1, constantValue := 0 }, { name := "ends", type := (.array .int), accessFlags := 2, slot := 2, constantValue := 0 }, { name := "count", type := .int, accessFlags := 2, slot := 3, constantValue := 0 }]
  methods := #[k2m0, k2m1, k2m2]
  instanceTypes := #[(.array .long), (.array .int), (.array .int), .int]
  staticTypes := #[]
  resolved := Array.replicate 50 none
  statics := none }

def pool3 : Array CpInfo := pool [(1, u "java/lang/Cloneable"), (0, .class_ 1), (0, u "java/lang/Object"), (0, .class_ 3)] 3

/-- java/lang/Cloneable -/
def k3 : Class := { plain "java/lang/Cloneable" (some 0) with
  accessFlags := 1537
  interfaces := #[]
  cf := some (fileOf pool3 2 #[] #[] 1537 4 #[] #[])
  fields := #[]
  methods := #[]
  instanceTypes := #[]
  staticTypes := #[]
  resolved := Array.replicate 8 none
  statics := none }

def pool4 : Array CpInfo := pool [(1, u "java/io/Serializable"), (0, .class_ 1), (0, u "java/lang/Object"), (0, .class_ 3)] 3

/-- java/io/Serializable -/
def k4 : Class := { plain "java/io/Serializable" (some 0) with
  accessFlags := 1537
  interfaces := #[]
  cf := some (fileOf pool4 2 #[] #[] 1537 4 #[] #[])
  fields := #[]
  methods := #[]
  instanceTypes := #[]
  staticTypes := #[]
  resolved := Array.replicate 8 none
  statics := none }

/-- the primitive byte -/
def k5 : Class := { plain "byte" none with kind := .primitive 'B', accessFlags := 0x411 }
/-- [B -/
def k6 : Class := { plain "[B" (some 0) with kind := .array 5 .byte, interfaces := #[3, 4], accessFlags := 1041 }

/-- the primitive int -/
def k7 : Class := { plain "int" none with kind := .primitive 'I', accessFlags := 0x411 }
/-- [I -/
def k8 : Class := { plain "[I" (some 0) with kind := .array 7 .int, interfaces := #[3, 4], accessFlags := 1041 }

/-- the primitive long -/
def k9 : Class := { plain "long" none with kind := .primitive 'J', accessFlags := 0x411 }
/-- [J -/
def k10 : Class := { plain "[J" (some 0) with kind := .array 9 .long, interfaces := #[3, 4], accessFlags := 1041 }

def heap : Heap := #[]
def classes : Array Class := #[k0, k1, k2, k3, k4, k5, k6, k7, k8, k9, k10]
def interned : List (Array UInt16 × Addr) := []
def slotsUsed : Nat := 0
def theMethod : MethodId := ⟨1, 1⟩
def args0 : Array Value := #[.long 5, .long 6, .int 7, .int 3]
def aboutOver (below : List Frame) : State where
  vm := { classes := classes, interned := interned.toArray }
  heap := heap
  slotsUsed := slotsUsed
  threads := #[{ frames := .invoking theMethod args0 :: below }]
def below0 : List Frame := [.native { method := ⟨0, 0⟩, args := #[] }]
def about1 : State := aboutOver below0
def p0 : Program := .bare "" "" ""
def e0 : Env := launch0.env 0 0 0
theorem w_frames : about1.frames = Frame.invoking theMethod args0 :: below0 := rfl
set_option maxRecDepth 65536 in
theorem w_args : argsFit about1.vm theMethod args0 = true := by decide +kernel
set_option maxRecDepth 65536 in
theorem w_heap : heapFits about1 = true := by decide +kernel
set_option maxRecDepth 65536 in
theorem w_runnable : about1.curStatus? = some .runnable := by decide +kernel
set_option maxRecDepth 65536 in
theorem w_alone : about1.alone = true := by decide +kernel
set_option maxRecDepth 65536 in
theorem w_named : about1.methodNamed? x = some theMethod := by decide +kernel
set_option maxRecDepth 65536 in
theorem w_hears : about1.hears theMethod below0 = true := by decide +kernel
set_option maxRecDepth 65536 in
theorem w_ripe : about1.ripe theMethod args0 below0 = true := by decide +kernel
theorem w_running : about1.status = .running := rfl
set_option maxRecDepth 65536 in
theorem w_room : about1.hasRoom e0.platform room_1 = true :=
  launch0.hasRoom_least _ room_1 (by decide +kernel) (by decide +kernel) (by decide +kernel) (by decide +kernel) (by decide +kernel) (by decide +kernel)
theorem allAtoms_all (ts : List Jvm.Cond) (a : Array Jvm.Value) (st : Jvm.State) : (allAtoms ts).before a st = ts.all (fun c => c.before a st) := by
  induction ts with
  | nil => rfl
  | cons c t ih =>
    show (Jvm.Cond.and c (allAtoms t)).before a st = _
    rw [Jvm.Cond.before_and, ih, List.all_cons]
def words1 : List Jvm.Cond := Jvm.Cond.code x code maxLocals ret :: tables_1
/-- a 'code' word, met by the world's own term for the bytes: nothing is compared byte by byte -/
theorem code_word {y : MethodName} {bytes : ByteArray} {mx : Nat} {rt : Option FieldType} {a : Array Value} {s : State} {m : MethodId} {meth : Method} {c : Code} (h1 : s.methodNamed? y = some m) (h2 : s.vm.method? m = some meth) (h3 : meth.code = some c) (h4 : c.code = bytes)
    (h5 : (c.maxLocals == mx && c.exceptionTable.isEmpty && decide (c.maxStack ≤ mostOperands) && decide (meth.sig.returnType = rt) && !meth.locks && decide (parseMethodDescriptor y.desc = some meth.sig)) = true) : (Jvm.Cond.code y bytes mx rt).before a s = true := by
  simp only [Bool.and_eq_true, beq_iff_eq, Bool.not_eq_true', decide_eq_true_eq] at h5
  obtain ⟨⟨⟨⟨⟨g1, g2⟩, g3⟩, g4⟩, g5⟩, g6⟩ := h5
  simp [Cond.before, Cond.holds, Cond.value, h1, h2, h3, h4, g1, g2, g3, g4, g5, g6]
def isCode : Jvm.Cond → Bool
  | .code _ _ _ _ => true
  | _ => false
theorem all_split {L : List Jvm.Cond} {P : Jvm.Cond → Bool} (h1 : L.all (fun c => isCode c || P c) = true) (h2 : ∀ c ∈ L.filter isCode, P c = true) : L.all P = true := by
  refine List.all_eq_true.mpr fun c hc => ?_
  have h := List.all_eq_true.mp h1 c hc
  rcases Bool.eq_false_or_eq_true (isCode c) with hi | hi
  · exact h2 c (List.mem_filter.mpr ⟨hc, hi⟩)
  · simpa [hi] using h
set_option maxRecDepth 65536 in
theorem w_c0 : (Jvm.Cond.code x code maxLocals ret).before args0 about1 = true := code_word (m := ⟨1, 1⟩) (meth := k1m1) (c := k1c1) (by decide +kernel) rfl rfl rfl (by decide +kernel)
set_option maxRecDepth 65536 in
theorem w_c1 : (Jvm.Cond.code ({ cls := "com/example/lehti/lehti/engine/collation/CollationUnitsMatchesPinLaw", name := "pick", desc := "(IIJJ)J" } : Jvm.MethodName) method_3_code (6 : Nat) (Option.some Jvm.ClassFile.FieldType.long)).before args0 about1 = true := code_word (m := ⟨1, 2⟩) (meth := k1m2) (c := k1c2) (by decide +kernel) rfl rfl rfl (by decide +kernel)
set_option maxRecDepth 65536 in
theorem w_c2 : (Jvm.Cond.code ({ cls := "com/example/lehti/lehti/engine/collation/CollationUnits", name := "<init>", desc := "()V" } : Jvm.MethodName) prog_20_method_1_code (1 : Nat) (Option.none : Option Jvm.ClassFile.FieldType)).before args0 about1 = true := code_word (m := ⟨2, 0⟩) (meth := k2m0) (c := k2c0) (by decide +kernel) rfl rfl rfl (by decide +kernel)
set_option maxRecDepth 65536 in
theorem w_c3 : (Jvm.Cond.code ({ cls := "java/lang/Object", name := "<init>", desc := "()V" } : Jvm.MethodName) object_method_1_code (1 : Nat) (Option.none : Option Jvm.ClassFile.FieldType)).before args0 about1 = true := code_word (m := ⟨0, 0⟩) (meth := k0m0) (c := k0c0) (by decide +kernel) rfl rfl rfl (by decide +kernel)
set_option maxRecDepth 65536 in
theorem w_c4 : (Jvm.Cond.code ({ cls := "com/example/lehti/lehti/engine/collation/CollationUnits", name := "matches", desc := "(Lcom/example/lehti/lehti/engine/collation/CollationUnits;I)Z" } : Jvm.MethodName) prog_20_method_4_code (5 : Nat) (Option.some Jvm.ClassFile.FieldType.boolean)).before args0 about1 = true := code_word (m := ⟨2, 2⟩) (meth := k2m2) (c := k2c2) (by decide +kernel) rfl rfl rfl (by decide +kernel)
set_option maxRecDepth 65536 in
theorem w_c5 : (Jvm.Cond.code ({ cls := "com/example/lehti/lehti/engine/collation/CollationUnits", name := "add", desc := "(JII)V" } : Jvm.MethodName) prog_20_method_3_code (6 : Nat) (Option.none : Option Jvm.ClassFile.FieldType)).before args0 about1 = true := code_word (m := ⟨2, 1⟩) (meth := k2m1) (c := k2c1) (by decide +kernel) rfl rfl rfl (by decide +kernel)
def codes1 : List Jvm.Cond := [Jvm.Cond.code x code maxLocals ret, Jvm.Cond.code ({ cls := "com/example/lehti/lehti/engine/collation/CollationUnitsMatchesPinLaw", name := "pick", desc := "(IIJJ)J" } : Jvm.MethodName) method_3_code (6 : Nat) (Option.some Jvm.ClassFile.FieldType.long), Jvm.Cond.code ({ cls := "com/example/lehti/lehti/engine/collation/CollationUnits", name := "<init>", desc := "()V" } : Jvm.MethodName) prog_20_method_1_code (1 : Nat) (Option.none : Option Jvm.ClassFile.FieldType), Jvm.Cond.code ({ cls := "java/lang/Object", name := "<init>", desc := "()V" } : Jvm.MethodName) object_method_1_code (1 : Nat) (Option.none : Option Jvm.ClassFile.FieldType), Jvm.Cond.code ({ cls := "com/example/lehti/lehti/engine/collation/CollationUnits", name := "matches", desc := "(Lcom/example/lehti/lehti/engine/collation/CollationUnits;I)Z" } : Jvm.MethodName) prog_20_method_4_code (5 : Nat) (Option.some Jvm.ClassFile.FieldType.boolean), Jvm.Cond.code ({ cls := "com/example/lehti/lehti/engine/collation/CollationUnits", name := "add", desc := "(JII)V" } : Jvm.MethodName) prog_20_method_3_code (6 : Nat) (Option.none : Option Jvm.ClassFile.FieldType)]
set_option maxRecDepth 65536 in
theorem codes_eq : words1.filter isCode = codes1 := rfl
theorem w_codes : ∀ c ∈ words1.filter isCode, c.before args0 about1 = true := by
  rw [codes_eq]
  intro c hc
  simp only [codes1, List.mem_cons, List.not_mem_nil, or_false] at hc
  rcases hc with rfl | rfl | rfl | rfl | rfl | rfl
  · exact w_c0
  · exact w_c1
  · exact w_c2
  · exact w_c3
  · exact w_c4
  · exact w_c5
set_option maxRecDepth 65536 in
theorem w_t1 : (words1.take 24).all (fun c => isCode c || c.before args0 about1) = true := by decide +kernel
set_option maxRecDepth 65536 in
theorem w_t2 : (words1.drop 24).all (fun c => isCode c || c.before args0 about1) = true := by decide +kernel
theorem w_tables : (allAtoms (Jvm.Cond.code x code maxLocals ret :: tables_1)).before args0 about1 = true := by
  rw [allAtoms_all]
  show words1.all (fun c => c.before args0 about1) = true
  refine all_split ?_ w_codes
  rw [← List.take_append_drop 24 words1, List.all_append, w_t1, w_t2]
  rfl
set_option maxRecDepth 65536 in
theorem w_case : (Jvm.Cond.and given_1 narrow_1).before args0 about1 = true := by decide +kernel
theorem w_applies : (headSpec (Jvm.Cond.code x code maxLocals ret :: tables_1) room_1).applies x e0.platform about1 = true :=
  (Spec.applies_iff w_frames).mpr ⟨w_running, w_runnable, w_alone, w_named, w_hears, w_ripe, w_room, w_tables⟩
theorem atStart : AtStart classFile x code maxLocals ret World_1 tables_1 room_1 Calls_1 rest_1 Pre_1 launch0 p0 e0 about1 theMethod args0 below0 :=
  ⟨lists_1, trivial, launch0.admits_env _ _ _, launch0.least_env, fairChoices_fair.cas, fairChoices_fair.clock, w_frames, w_args, w_heap, w_applies, trivial, trivial, w_case⟩
end start1
theorem witness_1 : WitnessClaimed_1 := ⟨start1.p0, start1.e0, start1.about1, start1.theMethod, start1.args0, start1.below0, start1.atStart⟩
end Jvm.Pilot.@@N@@
