import JvmDerived
import JvmDerived.Pilot.@@N@@Statement
import JvmDerived.Pilot.@@N@@Code
set_option linter.unusedVariables false
set_option linter.unusedSimpArgs false
namespace Jvm.Pilot.@@N@@
open Jvm Jvm.ClassFile Sem Op Lib Jvm.Free Jvm.Stand Jvm.LawKit Jvm.RoadKit Bundle Jvm.Pilot.@@N@@.Jvm.D
section OwnKit
variable {p : Program} {l : Launch} {e : Env} {R : Room} {s : State} {m : MethodId} {args : Array Value} {below : List Frame} {meth : Method} {c : Code} {T : State} {locs : List Loc} {cells slots : Nat} {Z : State} {a0 : Array Value} {h : Heap} {Q : Option Value → Heap → List Loc → Prop} {rc rs : Nat} {pc pc' : Nat} {Ls Ls' : Array Slot} {st : List Value} {own : String} {index : Nat}
/-- from the state S the body comes to its end as Q says, with at most rc new cells and rs new slots -/
def OwnGo (p : Program) (e : Env) (below : List Frame) (s : State) (Q : Option Value → Heap → List Loc → Prop) (rc rs : Nat) (S : State) : Prop :=
  ∃ t o, Steps p.tables e below S t ∧ t.status = .running ∧ Ended t below o ∧ ∃ v L, o = .returned v ∧ Q v t.heap L ∧ FrameEnd s o t L rc rs
theorem own_step {S S' : State} (k : ∀ t, Steps p.tables e below S' t → Steps p.tables e below S t) (g : OwnGo p e below s Q rc rs S') : OwnGo p e below s Q rc rs S := by
  obtain ⟨t, o, h1, r⟩ := g
  exact ⟨t, o, k t h1, r⟩
theorem own_cast {g g' : JFrame} (q : g = g') (k : OwnGo p e below s Q rc rs (T.setTop g')) : OwnGo p e below s Q rc rs (T.setTop g) := q ▸ k
theorem own_met {y : MethodName} {bytes : ByteArray} {maxL : Nat} {ret : Option FieldType} {rm : Room} {ws : List Jvm.Cond} {as' : Array Value} (hpl : plainFor y = true) (ef : ∀ m, entryFrame m as' maxL = mkF m 0 Ls [])
    (body : ∀ (p : Program) (e : Env) (s : State) (m : MethodId) (below : List Frame) (meth : Method) (c : Code) (T : State), p.tables.exec = Jvm.exec → Z.Warmed39 s.vm → c.code = bytes → c.maxLocals = maxL → s.vm.findClass y.cls = some m.cls → meth.name = y.name → meth.sig.returnType = ret → meth.locks = false → Stand p l e rm s m as' below meth c T [] 0 0 → T.heap = h → OwnGo p e below s Q rm.cells rm.slots (T.setTop (mkF m 0 Ls []))) :
    MetFree l y (head1 (Jvm.Cond.code y bytes maxL ret :: ws) rm) (fun a U => a = as' ∧ Z.Warmed39 U.vm ∧ U.heap = h) (fun _ _ _ _ _ => True) (fun _ U o U' => ∃ v L, o = .returned v ∧ Q v U'.heap L ∧ FrameEnd U o U' L rm.cells rm.slots) := by
  refine MetFree.of_bodySF hpl hisR ?_
  intro p e s m args below meth c s₁ Bd hml0 hP hK
  obtain ⟨rfl, hZ, hh⟩ := hP
  have X0 : Stand p l e rm s m args below meth c s₁ [] 0 0 := Stand.of_body Bd
  have e0 : s₁.heap = h := by rw [← hh, Bd.state]; rfl
  have q := body p e s m below meth c s₁ Bd.exec hZ Bd.bytes hml0 (findClass_of_methodNamed Bd.named) (name_of_methodNamed Bd.named Bd.method).1 Bd.returns Bd.notSynchronized X0 e0
  rw [← ef m] at q
  exact q

theorem own_iloadN (X : Stand p l e R s m args below meth c T locs cells slots) (hx : p.tables.exec = Jvm.exec) {k : Fin 4} {v : Int32} (hd : decode c.code pc = .ok (.iload_n k, 1)) (hl : Ls[k.val]? = some (.val (.int v))) (hp : pc + 1 = pc') (g : OwnGo p e below s Q rc rs (T.setTop (mkF m pc' Ls (.int v :: st)))) : OwnGo p e below s Q rc rs (T.setTop (mkF m pc Ls st)) := by
  subst hp
  exact own_step (fun _ k => XS.iloadN X.here hx rfl hd hl k) g
theorem own_lloadN (X : Stand p l e R s m args below meth c T locs cells slots) (hx : p.tables.exec = Jvm.exec) {k : Fin 4} {v : Int64} (hd : decode c.code pc = .ok (.lload_n k, 1)) (hl : Ls[k.val]? = some (.val (.long v))) (hp : pc + 1 = pc') (g : OwnGo p e below s Q rc rs (T.setTop (mkF m pc' Ls (.long v :: st)))) : OwnGo p e below s Q rc rs (T.setTop (mkF m pc Ls st)) := by
  subst hp
  exact own_step (fun _ k => XS.lloadN X.here hx rfl hd hl k) g
theorem own_aloadN (X : Stand p l e R s m args below meth c T locs cells slots) (hx : p.tables.exec = Jvm.exec) {k : Fin 4} {v : Value} (hd : decode c.code pc = .ok (.aload_n k, 1)) (hl : Ls[k.val]? = some (.val v)) (hv : v.isRef = true) (hp : pc + 1 = pc') (g : OwnGo p e below s Q rc rs (T.setTop (mkF m pc' Ls (v :: st)))) : OwnGo p e below s Q rc rs (T.setTop (mkF m pc Ls st)) := by
  subst hp
  exact own_step (fun _ k => XS.aloadN X.here hx rfl hd hl hv k) g
theorem own_istoreN (X : Stand p l e R s m args below meth c T locs cells slots) (hx : p.tables.exec = Jvm.exec) {k : Fin 4} {v : Int32} (hd : decode c.code pc = .ok (.istore_n k, 1)) (hl : storeLocals Ls k.val (.int v) = some Ls') (hp : pc + 1 = pc') (g : OwnGo p e below s Q rc rs (T.setTop (mkF m pc' Ls' st))) : OwnGo p e below s Q rc rs (T.setTop (mkF m pc Ls (.int v :: st))) := by
  subst hp
  exact own_step (fun _ k => XS.istoreN X.here hx rfl hd rfl hl k) g
theorem own_lstoreN (X : Stand p l e R s m args below meth c T locs cells slots) (hx : p.tables.exec = Jvm.exec) {k : Fin 4} {v : Int64} (hd : decode c.code pc = .ok (.lstore_n k, 1)) (hl : storeLocals Ls k.val (.long v) = some Ls') (hp : pc + 1 = pc') (g : OwnGo p e below s Q rc rs (T.setTop (mkF m pc' Ls' st))) : OwnGo p e below s Q rc rs (T.setTop (mkF m pc Ls (.long v :: st))) := by
  subst hp
  exact own_step (fun _ k => XS.lstoreN X.here hx rfl hd rfl hl k) g
theorem own_astoreN (X : Stand p l e R s m args below meth c T locs cells slots) (hx : p.tables.exec = Jvm.exec) {k : Fin 4} {v : Value} (hd : decode c.code pc = .ok (.astore_n k, 1)) (hv : v.isRef = true) (hl : storeLocals Ls k.val v = some Ls') (hp : pc + 1 = pc') (g : OwnGo p e below s Q rc rs (T.setTop (mkF m pc' Ls' st))) : OwnGo p e below s Q rc rs (T.setTop (mkF m pc Ls (v :: st))) := by
  subst hp
  exact own_step (fun _ k => XS.astoreN X.here hx rfl hd rfl hv hl k) g
theorem own_iload (X : Stand p l e R s m args below meth c T locs cells slots) (hx : p.tables.exec = Jvm.exec) {k : Nat} {v : Int32} (hd : decode c.code pc = .ok (.iload k, 2)) (hl : Ls[k]? = some (.val (.int v))) (hp : pc + 2 = pc') (g : OwnGo p e below s Q rc rs (T.setTop (mkF m pc' Ls (.int v :: st)))) : OwnGo p e below s Q rc rs (T.setTop (mkF m pc Ls st)) := by
  subst hp
  exact own_step (fun _ k => XS.iload X.here hx rfl hd hl k) g
theorem own_lload (X : Stand p l e R s m args below meth c T locs cells slots) (hx : p.tables.exec = Jvm.exec) {k : Nat} {v : Int64} (hd : decode c.code pc = .ok (.lload k, 2)) (hl : Ls[k]? = some (.val (.long v))) (hp : pc + 2 = pc') (g : OwnGo p e below s Q rc rs (T.setTop (mkF m pc' Ls (.long v :: st)))) : OwnGo p e below s Q rc rs (T.setTop (mkF m pc Ls st)) := by
  subst hp
  exact own_step (fun _ k => XS.lload X.here hx rfl hd hl k) g
theorem own_aload (X : Stand p l e R s m args below meth c T locs cells slots) (hx : p.tables.exec = Jvm.exec) {k : Nat} {v : Value} (hd : decode c.code pc = .ok (.aload k, 2)) (hl : Ls[k]? = some (.val v)) (hv : v.isRef = true) (hp : pc + 2 = pc') (g : OwnGo p e below s Q rc rs (T.setTop (mkF m pc' Ls (v :: st)))) : OwnGo p e below s Q rc rs (T.setTop (mkF m pc Ls st)) := by
  subst hp
  exact own_step (fun _ k => XS.aload X.here hx rfl hd hl hv k) g
theorem own_istore (X : Stand p l e R s m args below meth c T locs cells slots) (hx : p.tables.exec = Jvm.exec) {k : Nat} {v : Int32} (hd : decode c.code pc = .ok (.istore k, 2)) (hl : storeLocals Ls k (.int v) = some Ls') (hp : pc + 2 = pc') (g : OwnGo p e below s Q rc rs (T.setTop (mkF m pc' Ls' st))) : OwnGo p e below s Q rc rs (T.setTop (mkF m pc Ls (.int v :: st))) := by
  subst hp
  exact own_step (fun _ k => XS.istore X.here hx rfl hd rfl hl k) g
theorem own_lstore (X : Stand p l e R s m args below meth c T locs cells slots) (hx : p.tables.exec = Jvm.exec) {k : Nat} {v : Int64} (hd : decode c.code pc = .ok (.lstore k, 2)) (hl : storeLocals Ls k (.long v) = some Ls') (hp : pc + 2 = pc') (g : OwnGo p e below s Q rc rs (T.setTop (mkF m pc' Ls' st))) : OwnGo p e below s Q rc rs (T.setTop (mkF m pc Ls (.long v :: st))) := by
  subst hp
  exact own_step (fun _ k => XS.lstore X.here hx rfl hd rfl hl k) g
theorem own_astore (X : Stand p l e R s m args below meth c T locs cells slots) (hx : p.tables.exec = Jvm.exec) {k : Nat} {v : Value} (hd : decode c.code pc = .ok (.astore k, 2)) (hv : v.isRef = true) (hl : storeLocals Ls k v = some Ls') (hp : pc + 2 = pc') (g : OwnGo p e below s Q rc rs (T.setTop (mkF m pc' Ls' st))) : OwnGo p e below s Q rc rs (T.setTop (mkF m pc Ls (v :: st))) := by
  subst hp
  exact own_step (fun _ k => XS.astore X.here hx rfl hd rfl hv hl k) g
theorem own_iconst (X : Stand p l e R s m args below meth c T locs cells slots) (hx : p.tables.exec = Jvm.exec) {i : Int} {z : Int32} (hd : decode c.code pc = .ok (.iconst i, 1)) (hz : Int32.ofInt i = z) (hp : pc + 1 = pc') (g : OwnGo p e below s Q rc rs (T.setTop (mkF m pc' Ls (.int z :: st)))) : OwnGo p e below s Q rc rs (T.setTop (mkF m pc Ls st)) := by
  subst hp hz
  exact own_step (fun _ k => XS.iconst X.here hx rfl hd k) g
theorem own_bipush (X : Stand p l e R s m args below meth c T locs cells slots) (hx : p.tables.exec = Jvm.exec) {i : Int} {z : Int32} (hd : decode c.code pc = .ok (.bipush i, 2)) (hz : (Int8.ofInt i).toInt32 = z) (hp : pc + 2 = pc') (g : OwnGo p e below s Q rc rs (T.setTop (mkF m pc' Ls (.int z :: st)))) : OwnGo p e below s Q rc rs (T.setTop (mkF m pc Ls st)) := by
  subst hp hz
  exact own_step (fun _ k => XS.bipush X.here hx rfl hd k) g
theorem own_sipush (X : Stand p l e R s m args below meth c T locs cells slots) (hx : p.tables.exec = Jvm.exec) {i : Int} {z : Int32} (hd : decode c.code pc = .ok (.sipush i, 3)) (hz : (Int16.ofInt i).toInt32 = z) (hp : pc + 3 = pc') (g : OwnGo p e below s Q rc rs (T.setTop (mkF m pc' Ls (.int z :: st)))) : OwnGo p e below s Q rc rs (T.setTop (mkF m pc Ls st)) := by
  subst hp hz
  exact own_step (fun _ k => XS.sipush X.here hx rfl hd k) g
theorem own_lconst (X : Stand p l e R s m args below meth c T locs cells slots) (hx : p.tables.exec = Jvm.exec) {i : Fin 2} {z : Int64} (hd : decode c.code pc = .ok (.lconst i, 1)) (hz : Int64.ofNat i = z) (hp : pc + 1 = pc') (g : OwnGo p e below s Q rc rs (T.setTop (mkF m pc' Ls (.long z :: st)))) : OwnGo p e below s Q rc rs (T.setTop (mkF m pc Ls st)) := by
  subst hp hz
  exact own_step (fun _ k => XS.lconst X.here hx rfl hd k) g
theorem own_iadd (X : Stand p l e R s m args below meth c T locs cells slots) (hx : p.tables.exec = Jvm.exec) {x y : Int32} (hd : decode c.code pc = .ok (.iadd, 1))  (hp : pc + 1 = pc') (g : OwnGo p e below s Q rc rs (T.setTop (mkF m pc' Ls (.int (x + y) :: st)))) : OwnGo p e below s Q rc rs (T.setTop (mkF m pc Ls (.int y :: .int x :: st))) := by
  subst hp
  exact own_step (fun _ k => XS.iadd X.here hx rfl hd rfl k) g
theorem own_isub (X : Stand p l e R s m args below meth c T locs cells slots) (hx : p.tables.exec = Jvm.exec) {x y : Int32} (hd : decode c.code pc = .ok (.isub, 1))  (hp : pc + 1 = pc') (g : OwnGo p e below s Q rc rs (T.setTop (mkF m pc' Ls (.int (x - y) :: st)))) : OwnGo p e below s Q rc rs (T.setTop (mkF m pc Ls (.int y :: .int x :: st))) := by
  subst hp
  exact own_step (fun _ k => XS.isub X.here hx rfl hd rfl k) g
theorem own_imul (X : Stand p l e R s m args below meth c T locs cells slots) (hx : p.tables.exec = Jvm.exec) {x y : Int32} (hd : decode c.code pc = .ok (.imul, 1))  (hp : pc + 1 = pc') (g : OwnGo p e below s Q rc rs (T.setTop (mkF m pc' Ls (.int (x * y) :: st)))) : OwnGo p e below s Q rc rs (T.setTop (mkF m pc Ls (.int y :: .int x :: st))) := by
  subst hp
  exact own_step (fun _ k => XS.imul X.here hx rfl hd rfl k) g
theorem own_iand (X : Stand p l e R s m args below meth c T locs cells slots) (hx : p.tables.exec = Jvm.exec) {x y : Int32} (hd : decode c.code pc = .ok (.iand, 1))  (hp : pc + 1 = pc') (g : OwnGo p e below s Q rc rs (T.setTop (mkF m pc' Ls (.int (x &&& y) :: st)))) : OwnGo p e below s Q rc rs (T.setTop (mkF m pc Ls (.int y :: .int x :: st))) := by
  subst hp
  exact own_step (fun _ k => XS.iand X.here hx rfl hd rfl k) g
theorem own_iushr (X : Stand p l e R s m args below meth c T locs cells slots) (hx : p.tables.exec = Jvm.exec) {x y : Int32} (hd : decode c.code pc = .ok (.iushr, 1))  (hp : pc + 1 = pc') (g : OwnGo p e below s Q rc rs (T.setTop (mkF m pc' Ls (.int (XT.ushr x y) :: st)))) : OwnGo p e below s Q rc rs (T.setTop (mkF m pc Ls (.int y :: .int x :: st))) := by
  subst hp
  exact own_step (fun _ k => XT.iushr X.here hx rfl hd rfl k) g
theorem own_ladd (X : Stand p l e R s m args below meth c T locs cells slots) (hx : p.tables.exec = Jvm.exec) {x y : Int64} (hd : decode c.code pc = .ok (.ladd, 1))  (hp : pc + 1 = pc') (g : OwnGo p e below s Q rc rs (T.setTop (mkF m pc' Ls (.long (x + y) :: st)))) : OwnGo p e below s Q rc rs (T.setTop (mkF m pc Ls (.long y :: .long x :: st))) := by
  subst hp
  exact own_step (fun _ k => XS.ladd X.here hx rfl hd rfl k) g
theorem own_lsub (X : Stand p l e R s m args below meth c T locs cells slots) (hx : p.tables.exec = Jvm.exec) {x y : Int64} (hd : decode c.code pc = .ok (.lsub, 1))  (hp : pc + 1 = pc') (g : OwnGo p e below s Q rc rs (T.setTop (mkF m pc' Ls (.long (x - y) :: st)))) : OwnGo p e below s Q rc rs (T.setTop (mkF m pc Ls (.long y :: .long x :: st))) := by
  subst hp
  exact own_step (fun _ k => XS.lsub X.here hx rfl hd rfl k) g
theorem own_land (X : Stand p l e R s m args below meth c T locs cells slots) (hx : p.tables.exec = Jvm.exec) {x y : Int64} (hd : decode c.code pc = .ok (.land, 1))  (hp : pc + 1 = pc') (g : OwnGo p e below s Q rc rs (T.setTop (mkF m pc' Ls (.long (x &&& y) :: st)))) : OwnGo p e below s Q rc rs (T.setTop (mkF m pc Ls (.long y :: .long x :: st))) := by
  subst hp
  exact own_step (fun _ k => XS.land X.here hx rfl hd rfl k) g
theorem own_lushr (X : Stand p l e R s m args below meth c T locs cells slots) (hx : p.tables.exec = Jvm.exec) {x : Int64} {y : Int32} (hd : decode c.code pc = .ok (.lushr, 1))  (hp : pc + 1 = pc') (g : OwnGo p e below s Q rc rs (T.setTop (mkF m pc' Ls (.long (XT.ushrL x y) :: st)))) : OwnGo p e below s Q rc rs (T.setTop (mkF m pc Ls (.int y :: .long x :: st))) := by
  subst hp
  exact own_step (fun _ k => XT.lushr X.here hx rfl hd rfl k) g
theorem own_lcmp (X : Stand p l e R s m args below meth c T locs cells slots) (hx : p.tables.exec = Jvm.exec) {x y : Int64} (hd : decode c.code pc = .ok (.lcmp, 1))  (hp : pc + 1 = pc') (g : OwnGo p e below s Q rc rs (T.setTop (mkF m pc' Ls (.int (XT.cmpL x y) :: st)))) : OwnGo p e below s Q rc rs (T.setTop (mkF m pc Ls (.long y :: .long x :: st))) := by
  subst hp
  exact own_step (fun _ k => XT.lcmp X.here hx rfl hd rfl k) g
theorem own_irem (X : Stand p l e R s m args below meth c T locs cells slots) (hx : p.tables.exec = Jvm.exec) {x y : Int32} (hd : decode c.code pc = .ok (.irem, 1)) (hy : y ≠ 0) (hp : pc + 1 = pc') (g : OwnGo p e below s Q rc rs (T.setTop (mkF m pc' Ls (.int (x % y) :: st)))) : OwnGo p e below s Q rc rs (T.setTop (mkF m pc Ls (.int y :: .int x :: st))) := by
  subst hp
  exact own_step (fun _ k => iremM X hx rfl hd rfl hy k) g
theorem own_idiv (X : Stand p l e R s m args below meth c T locs cells slots) (hx : p.tables.exec = Jvm.exec) {x y : Int32} (hd : decode c.code pc = .ok (.idiv, 1)) (hy : y ≠ 0) (hp : pc + 1 = pc') (g : OwnGo p e below s Q rc rs (T.setTop (mkF m pc' Ls (.int (x / y) :: st)))) : OwnGo p e below s Q rc rs (T.setTop (mkF m pc Ls (.int y :: .int x :: st))) := by
  subst hp
  exact own_step (fun _ k => XS.idiv X.here hx rfl hd rfl hy k) g
theorem own_lrem (X : Stand p l e R s m args below meth c T locs cells slots) (hx : p.tables.exec = Jvm.exec) {x y : Int64} (hd : decode c.code pc = .ok (.lrem, 1)) (hy : y ≠ 0) (hp : pc + 1 = pc') (g : OwnGo p e below s Q rc rs (T.setTop (mkF m pc' Ls (.long (x % y) :: st)))) : OwnGo p e below s Q rc rs (T.setTop (mkF m pc Ls (.long y :: .long x :: st))) := by
  subst hp
  exact own_step (fun _ k => XS.lrem X.here hx rfl hd rfl hy (by rw [lrem_mod]; exact k)) g
theorem own_i2l (X : Stand p l e R s m args below meth c T locs cells slots) (hx : p.tables.exec = Jvm.exec) {x : Int32} (hd : decode c.code pc = .ok (.i2l, 1))  (hp : pc + 1 = pc') (g : OwnGo p e below s Q rc rs (T.setTop (mkF m pc' Ls (.long x.toInt64 :: st)))) : OwnGo p e below s Q rc rs (T.setTop (mkF m pc Ls (.int x :: st))) := by
  subst hp
  exact own_step (fun _ k => XS.i2l X.here hx rfl hd rfl k) g
theorem own_l2i (X : Stand p l e R s m args below meth c T locs cells slots) (hx : p.tables.exec = Jvm.exec) {x : Int64} (hd : decode c.code pc = .ok (.l2i, 1))  (hp : pc + 1 = pc') (g : OwnGo p e below s Q rc rs (T.setTop (mkF m pc' Ls (.int x.toInt32 :: st)))) : OwnGo p e below s Q rc rs (T.setTop (mkF m pc Ls (.long x :: st))) := by
  subst hp
  exact own_step (fun _ k => XS.l2i X.here hx rfl hd rfl k) g
theorem own_i2b (X : Stand p l e R s m args below meth c T locs cells slots) (hx : p.tables.exec = Jvm.exec) {x : Int32} (hd : decode c.code pc = .ok (.i2b, 1))  (hp : pc + 1 = pc') (g : OwnGo p e below s Q rc rs (T.setTop (mkF m pc' Ls (.int x.toInt8.toInt32 :: st)))) : OwnGo p e below s Q rc rs (T.setTop (mkF m pc Ls (.int x :: st))) := by
  subst hp
  exact own_step (fun _ k => XS.i2b X.here hx rfl hd rfl k) g
theorem own_i2c (X : Stand p l e R s m args below meth c T locs cells slots) (hx : p.tables.exec = Jvm.exec) {x : Int32} (hd : decode c.code pc = .ok (.i2c, 1))  (hp : pc + 1 = pc') (g : OwnGo p e below s Q rc rs (T.setTop (mkF m pc' Ls (.int x.toUInt32.toUInt16.toUInt32.toInt32 :: st)))) : OwnGo p e below s Q rc rs (T.setTop (mkF m pc Ls (.int x :: st))) := by
  subst hp
  exact own_step (fun _ k => XS.i2c X.here hx rfl hd rfl k) g
theorem own_dup (X : Stand p l e R s m args below meth c T locs cells slots) (hx : p.tables.exec = Jvm.exec) {x : Value} (hd : decode c.code pc = .ok (.dup, 1)) (hc : x.category = 1) (hp : pc + 1 = pc') (g : OwnGo p e below s Q rc rs (T.setTop (mkF m pc' Ls (x :: x :: st)))) : OwnGo p e below s Q rc rs (T.setTop (mkF m pc Ls (x :: st))) := by
  subst hp
  exact own_step (fun _ k => XS.dup X.here hx rfl hd rfl hc k) g
theorem own_aconst_null (X : Stand p l e R s m args below meth c T locs cells slots) (hx : p.tables.exec = Jvm.exec)  (hd : decode c.code pc = .ok (.aconst_null, 1))  (hp : pc + 1 = pc') (g : OwnGo p e below s Q rc rs (T.setTop (mkF m pc' Ls (.null :: st)))) : OwnGo p e below s Q rc rs (T.setTop (mkF m pc Ls st)) := by
  subst hp
  exact own_step (fun _ k => XS.aconstNull X.here hx rfl hd k) g
theorem own_iinc (X : Stand p l e R s m args below meth c T locs cells slots) (hx : p.tables.exec = Jvm.exec) {k : Nat} {cst : Int} {x z : Int32} (hd : decode c.code pc = .ok (.iinc k cst, 3)) (hl : Ls[k]? = some (.val (.int x))) (hz : x + Int32.ofInt cst = z) (hl' : storeLocals Ls k (.int z) = some Ls') (hp : pc + 3 = pc') (g : OwnGo p e below s Q rc rs (T.setTop (mkF m pc' Ls' st))) : OwnGo p e below s Q rc rs (T.setTop (mkF m pc Ls st)) := by
  subst hp hz
  exact own_step (fun _ k => XS.iinc X.here hx rfl hd hl hl' k) g
theorem own_ldcI (X : Stand p l e R s m args below meth c T locs cells slots) (hx : p.tables.exec = Jvm.exec) (hZ : Z.Warmed39 s.vm) (hown : s.vm.findClass own = some m.cls) {v : Int32} (w : (Cond.constant own index v).before a0 Z = true) (hd : decode c.code pc = .ok (.ldc index, 2))  (hp : pc + 2 = pc') (g : OwnGo p e below s Q rc rs (T.setTop (mkF m pc' Ls (.int v :: st)))) : OwnGo p e below s Q rc rs (T.setTop (mkF m pc Ls st)) := by
  subst hp
  exact own_step (fun _ k => X.ldcInt hx hown (mvT hZ w) (g := mkF m pc Ls st) rfl hd _ k) g
theorem own_ldcJ (X : Stand p l e R s m args below meth c T locs cells slots) (hx : p.tables.exec = Jvm.exec) (hZ : Z.Warmed39 s.vm) (hown : s.vm.findClass own = some m.cls) {v : Int64} (w : (Cond.constantLong own index v).before a0 Z = true) (hd : decode c.code pc = .ok (.ldc2_w index, 3))  (hp : pc + 3 = pc') (g : OwnGo p e below s Q rc rs (T.setTop (mkF m pc' Ls (.long v :: st)))) : OwnGo p e below s Q rc rs (T.setTop (mkF m pc Ls st)) := by
  subst hp
  exact own_step (fun _ k => X.ldc2Long hx hown (mvT hZ w) (g := mkF m pc Ls st) rfl hd _ k) g
theorem own_goto (X : Stand p l e R s m args below meth c T locs cells slots) (hx : p.tables.exec = Jvm.exec) {o : Int} (hd : decode c.code pc = .ok (.goto o, 3)) (hp : (pc : Int) + o = (pc' : Int)) (g : OwnGo p e below s Q rc rs (T.setTop (mkF m pc' Ls st))) : OwnGo p e below s Q rc rs (T.setTop (mkF m pc Ls st)) :=
  own_step (fun _ k => XS.goto X.here hx rfl (pc0 := pc) rfl hd (by omega) (by omega) k) g
theorem own_icmp_lt (X : Stand p l e R s m args below meth c T locs cells slots) (hx : p.tables.exec = Jvm.exec) {x y : Int32} {o : Int} {pc1 pc2 : Nat} (hd : decode c.code pc = .ok (.if_icmp .lt o, 3)) (h1 : pc + 3 = pc1) (h2 : (pc : Int) + o = (pc2 : Int)) (gT : x < y → OwnGo p e below s Q rc rs (T.setTop (mkF m pc2 Ls st))) (gF : ¬ x < y → OwnGo p e below s Q rc rs (T.setTop (mkF m pc1 Ls st))) : OwnGo p e below s Q rc rs (T.setTop (mkF m pc Ls (.int y :: .int x :: st))) := by
  subst h1
  by_cases q : x < y
  · exact own_step (fun _ k => XS.icmpYes X.here hx rfl (pc0 := pc) rfl hd rfl (tlt q).1 (by omega) (by omega) k) (gT q)
  · exact own_step (fun _ k => XS.icmpNo X.here hx rfl hd rfl (flt q).1 k) (gF q)
theorem own_if_lt (X : Stand p l e R s m args below meth c T locs cells slots) (hx : p.tables.exec = Jvm.exec) {x : Int32} {o : Int} {pc1 pc2 : Nat} (hd : decode c.code pc = .ok (.ifCond .lt o, 3)) (h1 : pc + 3 = pc1) (h2 : (pc : Int) + o = (pc2 : Int)) (gT : x < 0 → OwnGo p e below s Q rc rs (T.setTop (mkF m pc2 Ls st))) (gF : ¬ x < 0 → OwnGo p e below s Q rc rs (T.setTop (mkF m pc1 Ls st))) : OwnGo p e below s Q rc rs (T.setTop (mkF m pc Ls (.int x :: st))) := by
  subst h1
  by_cases q : x < 0
  · exact own_step (fun _ k => XS.ifYes X.here hx rfl (pc0 := pc) rfl hd rfl ((if0 _ _).trans (tlt q).1) (by omega) (by omega) k) (gT q)
  · exact own_step (fun _ k => XS.ifNo X.here hx rfl hd rfl ((if0 _ _).trans (flt q).1) k) (gF q)
theorem own_icmp_ge (X : Stand p l e R s m args below meth c T locs cells slots) (hx : p.tables.exec = Jvm.exec) {x y : Int32} {o : Int} {pc1 pc2 : Nat} (hd : decode c.code pc = .ok (.if_icmp .ge o, 3)) (h1 : pc + 3 = pc1) (h2 : (pc : Int) + o = (pc2 : Int)) (gT : ¬ x < y → OwnGo p e below s Q rc rs (T.setTop (mkF m pc2 Ls st))) (gF : x < y → OwnGo p e below s Q rc rs (T.setTop (mkF m pc1 Ls st))) : OwnGo p e below s Q rc rs (T.setTop (mkF m pc Ls (.int y :: .int x :: st))) := by
  subst h1
  by_cases q : x < y
  · exact own_step (fun _ k => XS.icmpNo X.here hx rfl hd rfl (tlt q).2.1 k) (gF q)
  · exact own_step (fun _ k => XS.icmpYes X.here hx rfl (pc0 := pc) rfl hd rfl (flt q).2.1 (by omega) (by omega) k) (gT q)
theorem own_if_ge (X : Stand p l e R s m args below meth c T locs cells slots) (hx : p.tables.exec = Jvm.exec) {x : Int32} {o : Int} {pc1 pc2 : Nat} (hd : decode c.code pc = .ok (.ifCond .ge o, 3)) (h1 : pc + 3 = pc1) (h2 : (pc : Int) + o = (pc2 : Int)) (gT : ¬ x < 0 → OwnGo p e below s Q rc rs (T.setTop (mkF m pc2 Ls st))) (gF : x < 0 → OwnGo p e below s Q rc rs (T.setTop (mkF m pc1 Ls st))) : OwnGo p e below s Q rc rs (T.setTop (mkF m pc Ls (.int x :: st))) := by
  subst h1
  by_cases q : x < 0
  · exact own_step (fun _ k => XS.ifNo X.here hx rfl hd rfl ((if0 _ _).trans (tlt q).2.1) k) (gF q)
  · exact own_step (fun _ k => XS.ifYes X.here hx rfl (pc0 := pc) rfl hd rfl ((if0 _ _).trans (flt q).2.1) (by omega) (by omega) k) (gT q)
theorem own_icmp_gt (X : Stand p l e R s m args below meth c T locs cells slots) (hx : p.tables.exec = Jvm.exec) {x y : Int32} {o : Int} {pc1 pc2 : Nat} (hd : decode c.code pc = .ok (.if_icmp .gt o, 3)) (h1 : pc + 3 = pc1) (h2 : (pc : Int) + o = (pc2 : Int)) (gT : y < x → OwnGo p e below s Q rc rs (T.setTop (mkF m pc2 Ls st))) (gF : ¬ y < x → OwnGo p e below s Q rc rs (T.setTop (mkF m pc1 Ls st))) : OwnGo p e below s Q rc rs (T.setTop (mkF m pc Ls (.int y :: .int x :: st))) := by
  subst h1
  by_cases q : y < x
  · exact own_step (fun _ k => XS.icmpYes X.here hx rfl (pc0 := pc) rfl hd rfl (tlt q).2.2.1 (by omega) (by omega) k) (gT q)
  · exact own_step (fun _ k => XS.icmpNo X.here hx rfl hd rfl (flt q).2.2.1 k) (gF q)
theorem own_if_gt (X : Stand p l e R s m args below meth c T locs cells slots) (hx : p.tables.exec = Jvm.exec) {x : Int32} {o : Int} {pc1 pc2 : Nat} (hd : decode c.code pc = .ok (.ifCond .gt o, 3)) (h1 : pc + 3 = pc1) (h2 : (pc : Int) + o = (pc2 : Int)) (gT : 0 < x → OwnGo p e below s Q rc rs (T.setTop (mkF m pc2 Ls st))) (gF : ¬ 0 < x → OwnGo p e below s Q rc rs (T.setTop (mkF m pc1 Ls st))) : OwnGo p e below s Q rc rs (T.setTop (mkF m pc Ls (.int x :: st))) := by
  subst h1
  by_cases q : 0 < x
  · exact own_step (fun _ k => XS.ifYes X.here hx rfl (pc0 := pc) rfl hd rfl ((if0 _ _).trans (tlt q).2.2.1) (by omega) (by omega) k) (gT q)
  · exact own_step (fun _ k => XS.ifNo X.here hx rfl hd rfl ((if0 _ _).trans (flt q).2.2.1) k) (gF q)
theorem own_icmp_le (X : Stand p l e R s m args below meth c T locs cells slots) (hx : p.tables.exec = Jvm.exec) {x y : Int32} {o : Int} {pc1 pc2 : Nat} (hd : decode c.code pc = .ok (.if_icmp .le o, 3)) (h1 : pc + 3 = pc1) (h2 : (pc : Int) + o = (pc2 : Int)) (gT : ¬ y < x → OwnGo p e below s Q rc rs (T.setTop (mkF m pc2 Ls st))) (gF : y < x → OwnGo p e below s Q rc rs (T.setTop (mkF m pc1 Ls st))) : OwnGo p e below s Q rc rs (T.setTop (mkF m pc Ls (.int y :: .int x :: st))) := by
  subst h1
  by_cases q : y < x
  · exact own_step (fun _ k => XS.icmpNo X.here hx rfl hd rfl (tlt q).2.2.2 k) (gF q)
  · exact own_step (fun _ k => XS.icmpYes X.here hx rfl (pc0 := pc) rfl hd rfl (flt q).2.2.2 (by omega) (by omega) k) (gT q)
theorem own_if_le (X : Stand p l e R s m args below meth c T locs cells slots) (hx : p.tables.exec = Jvm.exec) {x : Int32} {o : Int} {pc1 pc2 : Nat} (hd : decode c.code pc = .ok (.ifCond .le o, 3)) (h1 : pc + 3 = pc1) (h2 : (pc : Int) + o = (pc2 : Int)) (gT : ¬ 0 < x → OwnGo p e below s Q rc rs (T.setTop (mkF m pc2 Ls st))) (gF : 0 < x → OwnGo p e below s Q rc rs (T.setTop (mkF m pc1 Ls st))) : OwnGo p e below s Q rc rs (T.setTop (mkF m pc Ls (.int x :: st))) := by
  subst h1
  by_cases q : 0 < x
  · exact own_step (fun _ k => XS.ifNo X.here hx rfl hd rfl ((if0 _ _).trans (tlt q).2.2.2) k) (gF q)
  · exact own_step (fun _ k => XS.ifYes X.here hx rfl (pc0 := pc) rfl hd rfl ((if0 _ _).trans (flt q).2.2.2) (by omega) (by omega) k) (gT q)
theorem own_icmp_eq (X : Stand p l e R s m args below meth c T locs cells slots) (hx : p.tables.exec = Jvm.exec) {x y : Int32} {o : Int} {pc1 pc2 : Nat} (hd : decode c.code pc = .ok (.if_icmp .eq o, 3)) (h1 : pc + 3 = pc1) (h2 : (pc : Int) + o = (pc2 : Int)) (gT : x = y → OwnGo p e below s Q rc rs (T.setTop (mkF m pc2 Ls st))) (gF : ¬ x = y → OwnGo p e below s Q rc rs (T.setTop (mkF m pc1 Ls st))) : OwnGo p e below s Q rc rs (T.setTop (mkF m pc Ls (.int y :: .int x :: st))) := by
  subst h1
  by_cases q : x = y
  · exact own_step (fun _ k => XS.icmpYes X.here hx rfl (pc0 := pc) rfl hd rfl (teq q).1 (by omega) (by omega) k) (gT q)
  · exact own_step (fun _ k => XS.icmpNo X.here hx rfl hd rfl (feq q).1 k) (gF q)
theorem own_if_eq (X : Stand p l e R s m args below meth c T locs cells slots) (hx : p.tables.exec = Jvm.exec) {x : Int32} {o : Int} {pc1 pc2 : Nat} (hd : decode c.code pc = .ok (.ifCond .eq o, 3)) (h1 : pc + 3 = pc1) (h2 : (pc : Int) + o = (pc2 : Int)) (gT : x = 0 → OwnGo p e below s Q rc rs (T.setTop (mkF m pc2 Ls st))) (gF : ¬ x = 0 → OwnGo p e below s Q rc rs (T.setTop (mkF m pc1 Ls st))) : OwnGo p e below s Q rc rs (T.setTop (mkF m pc Ls (.int x :: st))) := by
  subst h1
  by_cases q : x = 0
  · exact own_step (fun _ k => XS.ifYes X.here hx rfl (pc0 := pc) rfl hd rfl ((if0 _ _).trans (teq q).1) (by omega) (by omega) k) (gT q)
  · exact own_step (fun _ k => XS.ifNo X.here hx rfl hd rfl ((if0 _ _).trans (feq q).1) k) (gF q)
theorem own_icmp_ne (X : Stand p l e R s m args below meth c T locs cells slots) (hx : p.tables.exec = Jvm.exec) {x y : Int32} {o : Int} {pc1 pc2 : Nat} (hd : decode c.code pc = .ok (.if_icmp .ne o, 3)) (h1 : pc + 3 = pc1) (h2 : (pc : Int) + o = (pc2 : Int)) (gT : ¬ x = y → OwnGo p e below s Q rc rs (T.setTop (mkF m pc2 Ls st))) (gF : x = y → OwnGo p e below s Q rc rs (T.setTop (mkF m pc1 Ls st))) : OwnGo p e below s Q rc rs (T.setTop (mkF m pc Ls (.int y :: .int x :: st))) := by
  subst h1
  by_cases q : x = y
  · exact own_step (fun _ k => XS.icmpNo X.here hx rfl hd rfl (teq q).2 k) (gF q)
  · exact own_step (fun _ k => XS.icmpYes X.here hx rfl (pc0 := pc) rfl hd rfl (feq q).2 (by omega) (by omega) k) (gT q)
theorem own_if_ne (X : Stand p l e R s m args below meth c T locs cells slots) (hx : p.tables.exec = Jvm.exec) {x : Int32} {o : Int} {pc1 pc2 : Nat} (hd : decode c.code pc = .ok (.ifCond .ne o, 3)) (h1 : pc + 3 = pc1) (h2 : (pc : Int) + o = (pc2 : Int)) (gT : ¬ x = 0 → OwnGo p e below s Q rc rs (T.setTop (mkF m pc2 Ls st))) (gF : x = 0 → OwnGo p e below s Q rc rs (T.setTop (mkF m pc1 Ls st))) : OwnGo p e below s Q rc rs (T.setTop (mkF m pc Ls (.int x :: st))) := by
  subst h1
  by_cases q : x = 0
  · exact own_step (fun _ k => XS.ifNo X.here hx rfl hd rfl ((if0 _ _).trans (teq q).2) k) (gF q)
  · exact own_step (fun _ k => XS.ifYes X.here hx rfl (pc0 := pc) rfl hd rfl ((if0 _ _).trans (feq q).2) (by omega) (by omega) k) (gT q)
theorem own_ifnullY (X : Stand p l e R s m args below meth c T locs cells slots) (hx : p.tables.exec = Jvm.exec) {o : Int} {pc2 : Nat} (hd : decode c.code pc = .ok (.ifnull o, 3)) (h2 : (pc : Int) + o = (pc2 : Int)) (g : OwnGo p e below s Q rc rs (T.setTop (mkF m pc2 Ls st))) : OwnGo p e below s Q rc rs (T.setTop (mkF m pc Ls (.null :: st))) :=
  own_step (fun _ k => XS.ifnullYes X.here hx rfl (pc0 := pc) rfl hd rfl (by omega) (by omega) k) g
theorem own_ifnullN (X : Stand p l e R s m args below meth c T locs cells slots) (hx : p.tables.exec = Jvm.exec) {o : Int} {b : Addr} (hd : decode c.code pc = .ok (.ifnull o, 3))  (hp : pc + 3 = pc') (g : OwnGo p e below s Q rc rs (T.setTop (mkF m pc' Ls st))) : OwnGo p e below s Q rc rs (T.setTop (mkF m pc Ls (.ref b :: st))) := by
  subst hp
  exact own_step (fun _ k => XS.ifnullNo X.here hx rfl hd rfl k) g
theorem own_retI (X : Stand p l e R s m args below meth c T locs cells slots) (hx : p.tables.exec = Jvm.exec) (eT : T.heap = h) {z : Int32} (hret : meth.sig.returnType = some .int) (hlk : meth.locks = false) (hc : cells ≤ rc) (hs : slots ≤ rs) (hd : decode c.code pc = .ok (.ireturn, 1)) (hQ : Q (some (.int z)) h locs) : OwnGo p e below s Q rc rs (T.setTop (mkF m pc Ls (.int z :: st))) := by
  subst eT
  obtain ⟨fs, hr, hrun, hended, hW, hsame⟩ := X.leave (v := some (.int z)) (fun h => by rw [hret] at h; cases h) hlk
  exact ⟨_, _, retOut X hx hret rfl (Or.inl ⟨rfl, Or.inl rfl, _, rfl⟩) hd hr, hrun, hended, _, _, rfl, hQ, ⟨_, rfl⟩, hW, hsame.mono hc hs⟩
theorem own_retZ (X : Stand p l e R s m args below meth c T locs cells slots) (hx : p.tables.exec = Jvm.exec) (eT : T.heap = h) {z : Int32} (hret : meth.sig.returnType = some .boolean) (hlk : meth.locks = false) (hc : cells ≤ rc) (hs : slots ≤ rs) (hd : decode c.code pc = .ok (.ireturn, 1)) (hQ : Q (some (.int (nar .boolean z))) h locs) : OwnGo p e below s Q rc rs (T.setTop (mkF m pc Ls (.int z :: st))) := by
  subst eT
  obtain ⟨fs, hr, hrun, hended, hW, hsame⟩ := X.leave (v := some (.int (nar .boolean z))) (fun h => by rw [hret] at h; cases h) hlk
  exact ⟨_, _, retN X hx (t := .boolean) hret (by simp) hd hr, hrun, hended, _, _, rfl, hQ, ⟨_, rfl⟩, hW, hsame.mono hc hs⟩
theorem own_retJ (X : Stand p l e R s m args below meth c T locs cells slots) (hx : p.tables.exec = Jvm.exec) (eT : T.heap = h) {z : Int64} (hret : meth.sig.returnType = some .long) (hlk : meth.locks = false) (hc : cells ≤ rc) (hs : slots ≤ rs) (hd : decode c.code pc = .ok (.lreturn, 1)) (hQ : Q (some (.long z)) h locs) : OwnGo p e below s Q rc rs (T.setTop (mkF m pc Ls (.long z :: st))) := by
  subst eT
  obtain ⟨fs, hr, hrun, hended, hW, hsame⟩ := X.leave (v := some (.long z)) (fun h => by rw [hret] at h; cases h) hlk
  exact ⟨_, _, retOut X hx hret rfl (Or.inr (Or.inl ⟨rfl, rfl, _, rfl⟩)) hd hr, hrun, hended, _, _, rfl, hQ, ⟨_, rfl⟩, hW, hsame.mono hc hs⟩
theorem own_retA (X : Stand p l e R s m args below meth c T locs cells slots) (hx : p.tables.exec = Jvm.exec) (eT : T.heap = h) {z : Addr} {t : FieldType} (ht : t.isReference = true) (hret : meth.sig.returnType = some t) (hlk : meth.locks = false) (hc : cells ≤ rc) (hs : slots ≤ rs) (hd : decode c.code pc = .ok (.areturn, 1)) (hQ : Q (some (.ref z)) h locs) : OwnGo p e below s Q rc rs (T.setTop (mkF m pc Ls (.ref z :: st))) := by
  subst eT
  obtain ⟨fs, hr, hrun, hended, hW, hsame⟩ := X.leave (v := some (.ref z)) (fun h => by rw [hret] at h; cases h) hlk
  exact ⟨_, _, retOut X hx hret (by cases t <;> first | rfl | cases ht) (Or.inr (Or.inr (Or.inr (Or.inr ⟨rfl, ht, rfl⟩)))) hd hr, hrun, hended, _, _, rfl, hQ, ⟨_, rfl⟩, hW, hsame.mono hc hs⟩
theorem own_retV (X : Stand p l e R s m args below meth c T locs cells slots) (hx : p.tables.exec = Jvm.exec) (eT : T.heap = h)  (hret : meth.sig.returnType = none) (hlk : meth.locks = false) (hc : cells ≤ rc) (hs : slots ≤ rs) (hd : decode c.code pc = .ok (.return_, 1)) (hQ : Q (none) h locs) : OwnGo p e below s Q rc rs (T.setTop (mkF m pc Ls [])) := by
  subst eT
  obtain ⟨fs, hr, hrun, hended, hW, hsame⟩ := X.leave (v := none) (fun _ => rfl) hlk
  exact ⟨_, _, X.returnOut hx hret hd hr, hrun, hended, _, _, rfl, hQ, ⟨_, rfl⟩, hW, hsame.mono hc hs⟩
theorem own_getF (X : Stand p l e R s m args below meth c T locs cells slots) (hx : p.tables.exec = Jvm.exec) (hZ : Z.Warmed39 s.vm) (hown : s.vm.findClass own = some m.cls) {n d O : String} (w : (Cond.fieldLink own index O n d).before a0 Z = true) (eT : T.heap = h) {a : Addr} {v : Value} (F : Fld Z h a O n d v) (hd : decode c.code pc = .ok (.getfield index, 3))  (hp : pc + 3 = pc')
    (g : ∀ T', Stand p l e R s m args below meth c T' locs cells slots → T'.heap = h → OwnGo p e below s Q rc rs (T'.setTop (mkF m pc' Ls (v :: st)))) : OwnGo p e below s Q rc rs (T.setTop (mkF m pc Ls (.ref a :: st))) := by
  subst hp
  obtain ⟨T', X', e', k⟩ := getF X hx hZ hown (host := "") (Or.inl w) Via.refl eT F (g := mkF m pc Ls (.ref a :: st)) rfl rfl hd
  exact own_step k (g T' X' e')
theorem own_putF (X : Stand p l e R s m args below meth c T locs cells slots) (hx : p.tables.exec = Jvm.exec) (hZ : Z.Warmed39 s.vm) (hown : s.vm.findClass own = some m.cls) {n d O C : String} {kk : Nat} {ty : FieldType} (w : (Cond.fieldLink own index O n d).before a0 Z = true) (eT : T.heap = h) {a : Addr} {v v' old : Value} (F : Fld Z h a O n d old) (E : Exa Z h a C) (L : (Cond.lays C O n d).before a0 Z = true ∨ ((Cond.laysFinal C O n d).before a0 Z = true ∧ own = O ∧ meth.name = "<init>")) (wi : (Cond.instantiable C kk).before a0 Z = true) (hty : parseFieldDescriptor d = some ty) (hn : narrow ty v = v') (hf : fits ty v' = true) (hd : decode c.code pc = .ok (.putfield index, 3))  (hp : pc + 3 = pc')
    (g : ∀ T' h', Stand p l e R s m args below meth c T' (locs ++ [⟨a, Jvm.RoadKit.slotOf Z O n d⟩]) cells slots → T'.heap = h' → Wr h h' a (Jvm.RoadKit.slotOf Z O n d) v' → OwnGo p e below s Q rc rs (T'.setTop (mkF m pc' Ls st))) : OwnGo p e below s Q rc rs (T.setTop (mkF m pc Ls (v :: .ref a :: st))) := by
  subst hp
  obtain ⟨T', h', X', e', W, k⟩ := putFN X hx hZ hown w Via.refl eT F E L wi hty hn hf (g := mkF m pc Ls (v :: .ref a :: st)) rfl rfl hd
  exact own_step k (g T' h' X' e' W)
theorem own_newO (X : Stand p l e R s m args below meth c T locs cells slots) (hx : p.tables.exec = Jvm.exec) (hZ : Z.Warmed39 s.vm) (hown : s.vm.findClass own = some m.cls) {C : String} {n : Nat} (w : (Cond.classLink own index C).before a0 Z = true) (wi : (Cond.instantiable C n).before a0 Z = true) (wz : (Cond.initialized C).before a0 Z = true) (eT : T.heap = h) (hc : cells + 1 ≤ R.cells) (hl : slots + n ≤ R.slots) (hd : decode c.code pc = .ok (.new index, 3))  (hp : pc + 3 = pc')
    (g : ∀ T' h' b, b = h.size → Stand p l e R s m args below meth c T' locs (cells + 1) (slots + n) → T'.heap = h' → Ext h h' → Exa Z h' b C → (∀ {O nm d : String} {ty : FieldType}, Laid Z a0 C O nm d → parseFieldDescriptor d = some ty → Fld Z h' b O nm d (defaultValue ty)) → OwnGo p e below s Q rc rs (T'.setTop (mkF m pc' Ls (.ref b :: st)))) : OwnGo p e below s Q rc rs (T.setTop (mkF m pc Ls st)) := by
  subst hp
  obtain ⟨T', h', X', e', E', A', D', -, k⟩ := newO X hx hZ hown w wi wz eT (g := mkF m pc Ls st) rfl hd hc hl
  exact own_step k (g T' h' _ rfl X' e' E' A' (fun {_ _ _ _} => D'))
theorem own_newP (X : Stand p l e R s m args below meth c T locs cells slots) (hx : p.tables.exec = Jvm.exec) (hZ : Z.Warmed39 s.vm) {aty : ArrayType} (w : (Cond.arrayClass (newarray.typeOf aty)).before a0 Z = true) (eT : T.heap = h) {n : Int32} (hn : ¬ n < 0) {cap : Nat} (hcap : n.toNatClampNeg ≤ cap) (hb : cap * 8 ≤ 536870912) (hc : cells + 1 ≤ R.cells) (hl : slots + cap ≤ R.slots) {ad : String} (had : "[" ++ (newarray.typeOf aty).toString = ad) (hd : decode c.code pc = .ok (.newarray aty, 2))  (hp : pc + 2 = pc')
    (g : ∀ T' h' b k, b = h.size → Stand p l e R s m args below meth c T' locs (cells + 1) (slots + cap) → T'.heap = h' → Ext h h' → Arr Z h' b (newA k (newarray.typeOf aty) n) (newarray.typeOf aty) → Exa Z h' b ad → OwnGo p e below s Q rc rs (T'.setTop (mkF m pc' Ls (.ref b :: st)))) : OwnGo p e below s Q rc rs (T.setTop (mkF m pc Ls (.int n :: st))) := by
  subst hp
  obtain ⟨T', h', k', X', e', E', A', B', k⟩ := newPE X hx hZ w eT (g := mkF m pc Ls (.int n :: st)) rfl hd rfl hn hcap hb hc hl had
  exact own_step k (g T' h' _ k' rfl X' e' E' A' B')
theorem own_newR (X : Stand p l e R s m args below meth c T locs cells slots) (hx : p.tables.exec = Jvm.exec) (hZ : Z.Warmed39 s.vm) (hown : s.vm.findClass own = some m.cls) {C : String} (w1 : (Cond.classLink own index C).before a0 Z = true) (w2 : (Cond.arrayOver (.object C)).before a0 Z = true) (eT : T.heap = h) {n : Int32} (hn : ¬ n < 0) {cap : Nat} (hcap : n.toNatClampNeg ≤ cap) (hb : cap * 8 ≤ 536870912) (hc : cells + 1 ≤ R.cells) (hl : slots + cap ≤ R.slots) (hd : decode c.code pc = .ok (.anewarray index, 3))  (hp : pc + 3 = pc')
    (g : ∀ T' h' b, b = h.size → Stand p l e R s m args below meth c T' locs (cells + 1) (slots + cap) → T'.heap = h' → Ext h h' → OwnGo p e below s Q rc rs (T'.setTop (mkF m pc' Ls (.ref b :: st)))) : OwnGo p e below s Q rc rs (T.setTop (mkF m pc Ls (.int n :: st))) := by
  subst hp
  obtain ⟨T', h', k', X', e', E', A', -, k⟩ := newR X hx hZ hown w1 w2 eT (g := mkF m pc Ls (.int n :: st)) rfl hd rfl hn hcap hb hc hl
  exact own_step k (g T' h' _ rfl X' e' E')
theorem own_iastore (X : Stand p l e R s m args below meth c T locs cells slots) (hx : p.tables.exec = Jvm.exec) (hZ : Z.Warmed39 s.vm) (eT : T.heap = h) {a : Addr} {cl : Cell} (A : Arr Z h a cl .int) {j : Int32} {x : Int32} (hj : ¬ (j < 0 ∨ cl.slots.size ≤ j.toNatClampNeg)) (hd : decode c.code pc = .ok (.iastore, 1))  (hp : pc + 1 = pc')
    (g : ∀ T' h', Stand p l e R s m args below meth c T' (locs ++ [⟨a, j.toNatClampNeg⟩]) cells slots → T'.heap = h' → Wr h h' a j.toNatClampNeg (.int x) → OwnGo p e below s Q rc rs (T'.setTop (mkF m pc' Ls st))) : OwnGo p e below s Q rc rs (T.setTop (mkF m pc Ls (.int x :: .int j :: .ref a :: st))) := by
  subst hp
  obtain ⟨T', h', X', e', W, k⟩ := stI X hx hZ eT A hj (g := mkF m pc Ls (.int x :: .int j :: .ref a :: st)) rfl rfl hd
  exact own_step k (g T' h' X' e' W)
theorem own_castore (X : Stand p l e R s m args below meth c T locs cells slots) (hx : p.tables.exec = Jvm.exec) (hZ : Z.Warmed39 s.vm) (eT : T.heap = h) {a : Addr} {cl : Cell} (A : Arr Z h a cl .char) {j : Int32} {x : Int32} (hj : ¬ (j < 0 ∨ cl.slots.size ≤ j.toNatClampNeg)) (hd : decode c.code pc = .ok (.castore, 1))  (hp : pc + 1 = pc')
    (g : ∀ T' h', Stand p l e R s m args below meth c T' (locs ++ [⟨a, j.toNatClampNeg⟩]) cells slots → T'.heap = h' → Wr h h' a j.toNatClampNeg (.int (nar .char x)) → OwnGo p e below s Q rc rs (T'.setTop (mkF m pc' Ls st))) : OwnGo p e below s Q rc rs (T.setTop (mkF m pc Ls (.int x :: .int j :: .ref a :: st))) := by
  subst hp
  obtain ⟨T', h', X', e', W, k⟩ := stC X hx hZ eT A hj (g := mkF m pc Ls (.int x :: .int j :: .ref a :: st)) rfl rfl hd
  exact own_step k (g T' h' X' e' W)
theorem own_bastore (X : Stand p l e R s m args below meth c T locs cells slots) (hx : p.tables.exec = Jvm.exec) (hZ : Z.Warmed39 s.vm) (eT : T.heap = h) {a : Addr} {cl : Cell} (A : Arr Z h a cl .byte) {j : Int32} {x : Int32} (hj : ¬ (j < 0 ∨ cl.slots.size ≤ j.toNatClampNeg)) (hd : decode c.code pc = .ok (.bastore, 1))  (hp : pc + 1 = pc')
    (g : ∀ T' h', Stand p l e R s m args below meth c T' (locs ++ [⟨a, j.toNatClampNeg⟩]) cells slots → T'.heap = h' → Wr h h' a j.toNatClampNeg (.int (nar .byte x)) → OwnGo p e below s Q rc rs (T'.setTop (mkF m pc' Ls st))) : OwnGo p e below s Q rc rs (T.setTop (mkF m pc Ls (.int x :: .int j :: .ref a :: st))) := by
  subst hp
  obtain ⟨T', h', X', e', W, k⟩ := stB X hx hZ eT A hj (g := mkF m pc Ls (.int x :: .int j :: .ref a :: st)) rfl rfl hd
  exact own_step k (g T' h' X' e' W)
theorem own_zastore (X : Stand p l e R s m args below meth c T locs cells slots) (hx : p.tables.exec = Jvm.exec) (hZ : Z.Warmed39 s.vm) (eT : T.heap = h) {a : Addr} {cl : Cell} (A : Arr Z h a cl .boolean) {j : Int32} {x : Int32} (hj : ¬ (j < 0 ∨ cl.slots.size ≤ j.toNatClampNeg)) (hd : decode c.code pc = .ok (.bastore, 1))  (hp : pc + 1 = pc')
    (g : ∀ T' h', Stand p l e R s m args below meth c T' (locs ++ [⟨a, j.toNatClampNeg⟩]) cells slots → T'.heap = h' → Wr h h' a j.toNatClampNeg (.int (nar .boolean x)) → OwnGo p e below s Q rc rs (T'.setTop (mkF m pc' Ls st))) : OwnGo p e below s Q rc rs (T.setTop (mkF m pc Ls (.int x :: .int j :: .ref a :: st))) := by
  subst hp
  obtain ⟨T', h', X', e', W, k⟩ := stZ X hx hZ eT A hj (g := mkF m pc Ls (.int x :: .int j :: .ref a :: st)) rfl rfl hd
  exact own_step k (g T' h' X' e' W)
theorem own_lastore (X : Stand p l e R s m args below meth c T locs cells slots) (hx : p.tables.exec = Jvm.exec) (hZ : Z.Warmed39 s.vm) (eT : T.heap = h) {a : Addr} {cl : Cell} (A : Arr Z h a cl .long) {j : Int32} {x : Int64} (hj : ¬ (j < 0 ∨ cl.slots.size ≤ j.toNatClampNeg)) (hd : decode c.code pc = .ok (.lastore, 1))  (hp : pc + 1 = pc')
    (g : ∀ T' h', Stand p l e R s m args below meth c T' (locs ++ [⟨a, j.toNatClampNeg⟩]) cells slots → T'.heap = h' → Wr h h' a j.toNatClampNeg (.long x) → OwnGo p e below s Q rc rs (T'.setTop (mkF m pc' Ls st))) : OwnGo p e below s Q rc rs (T.setTop (mkF m pc Ls (.long x :: .int j :: .ref a :: st))) := by
  subst hp
  obtain ⟨T', h', X', e', W, k⟩ := stJ X hx hZ eT A hj (g := mkF m pc Ls (.long x :: .int j :: .ref a :: st)) rfl rfl hd
  exact own_step k (g T' h' X' e' W)
theorem own_iaload (X : Stand p l e R s m args below meth c T locs cells slots) (hx : p.tables.exec = Jvm.exec) (hZ : Z.Warmed39 s.vm) (eT : T.heap = h) {a : Addr} {cl : Cell} {v : Value} (A : Arr Z h a cl .int) {j : Int32} (hj : ¬ (j < 0 ∨ cl.slots.size ≤ j.toNatClampNeg)) (hv : cl.slots[j.toNatClampNeg]? = some v) (hd : decode c.code pc = .ok (.iaload, 1))  (hp : pc + 1 = pc') (g : OwnGo p e below s Q rc rs (T.setTop (mkF m pc' Ls (v :: st)))) : OwnGo p e below s Q rc rs (T.setTop (mkF m pc Ls (.int j :: .ref a :: st))) := by
  subst hp
  exact own_step (fun _ k => X.iaload hx (j := j) (v := v) (by rw [eT]; exact A.1) (State.isArrayOf_alike hZ.alike A.2.1) A.2.2 hj hv (g := mkF m pc Ls (.int j :: .ref a :: st)) rfl rfl hd _ k) g
theorem own_caload (X : Stand p l e R s m args below meth c T locs cells slots) (hx : p.tables.exec = Jvm.exec) (hZ : Z.Warmed39 s.vm) (eT : T.heap = h) {a : Addr} {cl : Cell} {v : Value} (A : Arr Z h a cl .char) {j : Int32} (hj : ¬ (j < 0 ∨ cl.slots.size ≤ j.toNatClampNeg)) (hv : cl.slots[j.toNatClampNeg]? = some v) (hd : decode c.code pc = .ok (.caload, 1))  (hp : pc + 1 = pc') (g : OwnGo p e below s Q rc rs (T.setTop (mkF m pc' Ls (v :: st)))) : OwnGo p e below s Q rc rs (T.setTop (mkF m pc Ls (.int j :: .ref a :: st))) := by
  subst hp
  exact own_step (fun _ k => X.caload hx (j := j) (v := v) (by rw [eT]; exact A.1) (State.isArrayOf_alike hZ.alike A.2.1) A.2.2 hj hv (g := mkF m pc Ls (.int j :: .ref a :: st)) rfl rfl hd _ k) g
theorem own_laload (X : Stand p l e R s m args below meth c T locs cells slots) (hx : p.tables.exec = Jvm.exec) (hZ : Z.Warmed39 s.vm) (eT : T.heap = h) {a : Addr} {cl : Cell} {v : Value} (A : Arr Z h a cl .long) {j : Int32} (hj : ¬ (j < 0 ∨ cl.slots.size ≤ j.toNatClampNeg)) (hv : cl.slots[j.toNatClampNeg]? = some v) (hd : decode c.code pc = .ok (.laload, 1))  (hp : pc + 1 = pc') (g : OwnGo p e below s Q rc rs (T.setTop (mkF m pc' Ls (v :: st)))) : OwnGo p e below s Q rc rs (T.setTop (mkF m pc Ls (.int j :: .ref a :: st))) := by
  subst hp
  exact own_step (fun _ k => X.laload hx (j := j) (v := v) (by rw [eT]; exact A.1) (State.isArrayOf_alike hZ.alike A.2.1) A.2.2 hj hv (g := mkF m pc Ls (.int j :: .ref a :: st)) rfl rfl hd _ k) g
theorem own_baload (X : Stand p l e R s m args below meth c T locs cells slots) (hx : p.tables.exec = Jvm.exec) (hZ : Z.Warmed39 s.vm) (eT : T.heap = h) {a : Addr} {cl : Cell} {v : Value} (A : Arr Z h a cl .byte) {j : Int32} (hj : ¬ (j < 0 ∨ cl.slots.size ≤ j.toNatClampNeg)) (hv : cl.slots[j.toNatClampNeg]? = some v) (hd : decode c.code pc = .ok (.baload, 1))  (hp : pc + 1 = pc') (g : OwnGo p e below s Q rc rs (T.setTop (mkF m pc' Ls (v :: st)))) : OwnGo p e below s Q rc rs (T.setTop (mkF m pc Ls (.int j :: .ref a :: st))) := by
  subst hp
  exact own_step (fun _ k => X.baloadBytes hx (j := j) (v := v) (by rw [eT]; exact A.1) (State.isArrayOf_alike hZ.alike A.2.1) A.2.2 hj hv (g := mkF m pc Ls (.int j :: .ref a :: st)) rfl rfl hd _ k) g
theorem own_zaload (X : Stand p l e R s m args below meth c T locs cells slots) (hx : p.tables.exec = Jvm.exec) (hZ : Z.Warmed39 s.vm) (eT : T.heap = h) {a : Addr} {cl : Cell} {v : Value} (A : Arr Z h a cl .boolean) {j : Int32} (hj : ¬ (j < 0 ∨ cl.slots.size ≤ j.toNatClampNeg)) (hv : cl.slots[j.toNatClampNeg]? = some v) (hd : decode c.code pc = .ok (.baload, 1))  (hp : pc + 1 = pc') (g : OwnGo p e below s Q rc rs (T.setTop (mkF m pc' Ls (v :: st)))) : OwnGo p e below s Q rc rs (T.setTop (mkF m pc Ls (.int j :: .ref a :: st))) := by
  subst hp
  exact own_step (fun _ k => X.baloadBooleans hx (j := j) (v := v) (by rw [eT]; exact A.1) (State.isArrayOf_alike hZ.alike A.2.1) A.2.2 hj hv (g := mkF m pc Ls (.int j :: .ref a :: st)) rfl rfl hd _ k) g
theorem own_arraylength (X : Stand p l e R s m args below meth c T locs cells slots) (hx : p.tables.exec = Jvm.exec) (hZ : Z.Warmed39 s.vm) (eT : T.heap = h) {a : Addr} {cl : Cell} {ty : FieldType} {z : Int32} (A : Arr Z h a cl ty) (hz : cl.slots.size.toInt32 = z) (hd : decode c.code pc = .ok (.arraylength, 1))  (hp : pc + 1 = pc') (g : OwnGo p e below s Q rc rs (T.setTop (mkF m pc' Ls (.int z :: st)))) : OwnGo p e below s Q rc rs (T.setTop (mkF m pc Ls (.ref a :: st))) := by
  subst hp hz
  exact own_step (fun _ k => X.arraylength hx (by rw [eT]; exact A.1) (State.isArrayOf_alike hZ.alike A.2.1) (g := mkF m pc Ls (.ref a :: st)) rfl rfl hd _ k) g
/-- the contract of a body: called with as' at a heap h, it ends as Q says -/
def OwnMet (l : Launch) (Z : State) (y : MethodName) (bytes : ByteArray) (maxL : Nat) (ret : Option FieldType) (as' : Array Value) (rm : Room) (Q : Option Value → Heap → List Loc → Prop) (h : Heap) : Prop := MetFree l y (head1 [Jvm.Cond.code y bytes maxL ret] rm) (fun a U => a = as' ∧ Z.Warmed39 U.vm ∧ U.heap = h) (fun _ _ _ _ _ => True) (fun _ U o U' => ∃ v L, o = .returned v ∧ Q v U'.heap L ∧ FrameEnd U o U' L rm.cells rm.slots)
theorem own_callS (X : Stand p l e R s m args below meth c T locs cells slots) (hx : p.tables.exec = Jvm.exec) (hZ : Z.Warmed39 s.vm) (hown : s.vm.findClass own = some m.cls) {y : MethodName} {bytes : ByteArray} {maxL : Nat} {ret : Option FieldType} {rm : Room} {argsL : List Value} {Qc : Option Value → Heap → List Loc → Prop} {W : Nat} {stk : List Value} (w1 : (Cond.methodLink own index y).before a0 Z = true) (w2 : (Cond.static y).before a0 Z = true) (w3 : (Cond.initialized y.cls).before a0 Z = true) (w4 : (Jvm.Cond.code y bytes maxL ret).before a0 Z = true) (eT : T.heap = h) (hM : OwnMet l Z y bytes maxL ret argsL.toArray rm Qc h) (hd : decode c.code pc = .ok (.invokestatic index, 3)) (hst : stk = argsL.reverse ++ st) (hlen : ∀ sig, parseMethodDescriptor y.desc = some sig → argsL.length = sig.parameters.length) (hsz : Ls.size = c.maxLocals) (hf : rm.frames + 1 ≤ R.frames) (hl : W + (maxL + 11) + rm.locals ≤ R.locals) (hc : cells + rm.cells ≤ R.cells) (hsl : slots + rm.slots ≤ R.slots) (hW : (st.map fun v => v.category).sum ≤ W) (hy : y.cls ≠ "java/lang/invoke/MethodHandle" ∧ y.cls ≠ "java/lang/invoke/VarHandle") (hp : pc + 3 = pc')
    (g : ∀ T' v L, Stand p l e R s m args below meth c T' (locs ++ L) (cells + rm.cells) (slots + rm.slots) → Qc v T'.heap L → OwnGo p e below s Q rc rs (T'.setTop (mkF m pc' Ls (v.toList ++ st)))) : OwnGo p e below s Q rc rs (T.setTop (mkF m pc Ls stk)) := by
  subst hp
  obtain ⟨v, vm1, ⟨T', L', k', n'⟩, -, X', ⟨Lc, hQ, l1, y1, z1⟩, k⟩ := Jvm.LawKit.callS X hx hown (mvT hZ w1) (mvT hZ w2) (mvT hZ w3) (mvT hZ w4) hy (backOf (Q := Qc) (W := W) hM hZ w4 w3 hf hl) (g := mkF m pc Ls stk) rfl hsz (argsL := argsL) (rest := st) hlen hst (by show 2 * 0 + _ ≤ _; omega) hd (fun _ _ => ⟨rfl, eT, hc, hsl⟩)
  exact by
    dsimp only [Pt.U, Pt.locs, Pt.cells, Pt.slots] at X' l1 y1 z1 k hQ
    subst l1 y1 z1
    exact own_step k (g T' v Lc X' hQ)
theorem own_callC (X : Stand p l e R s m args below meth c T locs cells slots) (hx : p.tables.exec = Jvm.exec) (hZ : Z.Warmed39 s.vm) (hown : s.vm.findClass own = some m.cls) {y : MethodName} {bytes : ByteArray} {maxL : Nat} {rm : Room} {argsL : List Value} {Qc : Option Value → Heap → List Loc → Prop} {W : Nat} {stk : List Value} {a : Addr} (hi : y.name = "<init>") (w1 : (Cond.methodLink own index y).before a0 Z = true) (w2 : (Cond.instanceMethod y).before a0 Z = true) (w3 : (Cond.initialized y.cls).before a0 Z = true) (w4 : (Jvm.Cond.code y bytes maxL none).before a0 Z = true) (eT : T.heap = h) (hM : OwnMet l Z y bytes maxL none (.ref a :: argsL).toArray rm Qc h) (hd : decode c.code pc = .ok (.invokespecial index, 3)) (hst : stk = argsL.reverse ++ .ref a :: st) (hlen : ∀ sig, parseMethodDescriptor y.desc = some sig → argsL.length = sig.parameters.length) (hsz : Ls.size = c.maxLocals) (hf : rm.frames + 1 ≤ R.frames) (hl : W + (maxL + 11) + rm.locals ≤ R.locals) (hc : cells + rm.cells ≤ R.cells) (hsl : slots + rm.slots ≤ R.slots) (hW : (st.map fun v => v.category).sum ≤ W) (hy : y.cls ≠ "java/lang/invoke/MethodHandle" ∧ y.cls ≠ "java/lang/invoke/VarHandle") (hp : pc + 3 = pc')
    (g : ∀ T' v L, Stand p l e R s m args below meth c T' (locs ++ L) (cells + rm.cells) (slots + rm.slots) → Qc v T'.heap L → OwnGo p e below s Q rc rs (T'.setTop (mkF m pc' Ls (v.toList ++ st)))) : OwnGo p e below s Q rc rs (T.setTop (mkF m pc Ls stk)) := by
  subst hp
  obtain ⟨v, vm1, ⟨T', L', k', n'⟩, -, X', ⟨Lc, hQ, l1, y1, z1⟩, k⟩ := X.specialBack hx hi hown (mvT hZ w1) (mvT hZ w2) (mvT hZ w4) hy (backOf (Q := Qc) (W := W) hM hZ w4 w3 hf hl) (g := mkF m pc Ls stk) rfl hsz (Steps.refl _) (a := a) (argsL := argsL) (rest := st) hlen hst (by show 2 * 0 + _ ≤ _; omega) hd (fun _ _ => ⟨rfl, eT, hc, hsl⟩)
  exact by
    dsimp only [Pt.U, Pt.locs, Pt.cells, Pt.slots] at X' l1 y1 z1 k hQ
    subst l1 y1 z1
    exact own_step (fun _ q => k.trans q) (g T' v Lc X' hQ)
theorem own_callV (X : Stand p l e R s m args below meth c T locs cells slots) (hx : p.tables.exec = Jvm.exec) (hZ : Z.Warmed39 s.vm) (hown : s.vm.findClass own = some m.cls) {y : MethodName} {bytes : ByteArray} {maxL : Nat} {ret : Option FieldType} {rm : Room} {argsL : List Value} {Qc : Option Value → Heap → List Loc → Prop} {W : Nat} {stk : List Value} {a : Addr} {C : String} (w1 : (Cond.methodLink own index y).before a0 Z = true) (w2 : (Cond.declares y).before a0 Z = true) (w5 : (Cond.selects C y y).before a0 Z = true) (w6 : (Cond.instanceMethod y).before a0 Z = true) (w3 : (Cond.initialized y.cls).before a0 Z = true) (w4 : (Jvm.Cond.code y bytes maxL ret).before a0 Z = true) (eT : T.heap = h) (E : Exa Z h a C) (hM : OwnMet l Z y bytes maxL ret (.ref a :: argsL).toArray rm Qc h) (hd : decode c.code pc = .ok (.invokevirtual index, 3)) (hst : stk = argsL.reverse ++ .ref a :: st) (hlen : ∀ sig, parseMethodDescriptor y.desc = some sig → argsL.length = sig.parameters.length) (hsz : Ls.size = c.maxLocals) (hf : rm.frames + 1 ≤ R.frames) (hl : W + (maxL + 11) + rm.locals ≤ R.locals) (hc : cells + rm.cells ≤ R.cells) (hsl : slots + rm.slots ≤ R.slots) (hW : (st.map fun v => v.category).sum ≤ W) (hy : y.cls ≠ "java/lang/invoke/MethodHandle" ∧ y.cls ≠ "java/lang/invoke/VarHandle") (hp : pc + 3 = pc')
    (g : ∀ T' v L, Stand p l e R s m args below meth c T' (locs ++ L) (cells + rm.cells) (slots + rm.slots) → Qc v T'.heap L → OwnGo p e below s Q rc rs (T'.setTop (mkF m pc' Ls (v.toList ++ st)))) : OwnGo p e below s Q rc rs (T.setTop (mkF m pc Ls stk)) := by
  subst hp
  obtain ⟨cB, kB, q1, q2, q3⟩ := isOf hZ eT E
  obtain ⟨v, vm1, ⟨T', L', k', n'⟩, -, X', ⟨Lc, hQ, l1, y1, z1⟩, k⟩ := X.virtualBack hx hown (mvT hZ w1) (mvT hZ w2) (notFace_of_selects (args := #[]) (mvT hZ w5)) (mvT hZ w5) (mvT hZ w6) hy (backOf (Q := Qc) (W := W) hM hZ w4 w3 hf hl) q1 q3 (g := mkF m pc Ls stk) rfl hsz (Steps.refl _) (argsL := argsL) (rest := st) hlen hst (by show 2 * 0 + _ ≤ _; omega) hd (fun _ _ => ⟨rfl, eT, hc, hsl⟩)
  exact by
    dsimp only [Pt.U, Pt.locs, Pt.cells, Pt.slots] at X' l1 y1 z1 k hQ
    subst l1 y1 z1
    exact own_step (fun _ q => k.trans q) (g T' v Lc X' hQ)
abbrev ownR0 : Room := { frames := 0, cells := 0, slots := 0, locals := 0 }
/-- returns z and changes nothing -/
abbrev OwnPure (l : Launch) (Z : State) (y : MethodName) (bytes : ByteArray) (maxL : Nat) (ret : Option FieldType) (as' : Array Value) (z : Value) (h : Heap) : Prop := OwnMet l Z y bytes maxL ret as' ownR0 (fun v h' L => v = some z ∧ h' = h ∧ L = []) h
theorem own_pureS (X : Stand p l e R s m args below meth c T locs cells slots) (hx : p.tables.exec = Jvm.exec) (hZ : Z.Warmed39 s.vm) (hown : s.vm.findClass own = some m.cls) {y : MethodName} {bytes : ByteArray} {maxL : Nat} {ret : Option FieldType} {argsL : List Value} {z : Value} {W : Nat} {stk : List Value} (w1 : (Cond.methodLink own index y).before a0 Z = true) (w2 : (Cond.static y).before a0 Z = true) (w3 : (Cond.initialized y.cls).before a0 Z = true) (w4 : (Jvm.Cond.code y bytes maxL ret).before a0 Z = true) (eT : T.heap = h) (hM : OwnPure l Z y bytes maxL ret argsL.toArray z h) (hd : decode c.code pc = .ok (.invokestatic index, 3)) (hst : stk = argsL.reverse ++ st) (hlen : ∀ sig, parseMethodDescriptor y.desc = some sig → argsL.length = sig.parameters.length) (hsz : Ls.size = c.maxLocals) (hf : 1 ≤ R.frames) (hl : W + (maxL + 11) ≤ R.locals) (hc : cells ≤ R.cells) (hsl : slots ≤ R.slots) (hW : (st.map fun v => v.category).sum ≤ W) (hy : y.cls ≠ "java/lang/invoke/MethodHandle" ∧ y.cls ≠ "java/lang/invoke/VarHandle") (hp : pc + 3 = pc')
    (g : ∀ T', Stand p l e R s m args below meth c T' locs cells slots → T'.heap = h → OwnGo p e below s Q rc rs (T'.setTop (mkF m pc' Ls (z :: st)))) : OwnGo p e below s Q rc rs (T.setTop (mkF m pc Ls stk)) := by
  refine own_callS (rm := ownR0) (Qc := fun v h' L => v = some z ∧ h' = h ∧ L = []) X hx hZ hown w1 w2 w3 w4 eT hM hd hst hlen hsz hf hl hc hsl hW hy hp ?_
  rintro T' v L X' ⟨rfl, h1, rfl⟩
  exact g T' (by simpa using X') h1
theorem own_pureV (X : Stand p l e R s m args below meth c T locs cells slots) (hx : p.tables.exec = Jvm.exec) (hZ : Z.Warmed39 s.vm) (hown : s.vm.findClass own = some m.cls) {y : MethodName} {bytes : ByteArray} {maxL : Nat} {ret : Option FieldType} {argsL : List Value} {z : Value} {W : Nat} {stk : List Value} {a : Addr} {C : String} (w1 : (Cond.methodLink own index y).before a0 Z = true) (w2 : (Cond.declares y).before a0 Z = true) (w5 : (Cond.selects C y y).before a0 Z = true) (w6 : (Cond.instanceMethod y).before a0 Z = true) (w3 : (Cond.initialized y.cls).before a0 Z = true) (w4 : (Jvm.Cond.code y bytes maxL ret).before a0 Z = true) (eT : T.heap = h) (E : Exa Z h a C) (hM : OwnPure l Z y bytes maxL ret (.ref a :: argsL).toArray z h) (hd : decode c.code pc = .ok (.invokevirtual index, 3)) (hst : stk = argsL.reverse ++ .ref a :: st) (hlen : ∀ sig, parseMethodDescriptor y.desc = some sig → argsL.length = sig.parameters.length) (hsz : Ls.size = c.maxLocals) (hf : 1 ≤ R.frames) (hl : W + (maxL + 11) ≤ R.locals) (hc : cells ≤ R.cells) (hsl : slots ≤ R.slots) (hW : (st.map fun v => v.category).sum ≤ W) (hy : y.cls ≠ "java/lang/invoke/MethodHandle" ∧ y.cls ≠ "java/lang/invoke/VarHandle") (hp : pc + 3 = pc')
    (g : ∀ T', Stand p l e R s m args below meth c T' locs cells slots → T'.heap = h → OwnGo p e below s Q rc rs (T'.setTop (mkF m pc' Ls (z :: st)))) : OwnGo p e below s Q rc rs (T.setTop (mkF m pc Ls stk)) := by
  refine own_callV (rm := ownR0) (Qc := fun v h' L => v = some z ∧ h' = h ∧ L = []) X hx hZ hown w1 w2 w5 w6 w3 w4 eT E hM hd hst hlen hsz hf hl hc hsl hW hy hp ?_
  rintro T' v L X' ⟨rfl, h1, rfl⟩
  exact g T' (by simpa using X') h1
/-- the array at a: n places of kind ty, the j-th holds a value with P j -/
def OwnArr (Z : State) (h : Heap) (a : Addr) (ty : FieldType) (n : Nat) (P : Nat → Value → Prop) : Prop := ∃ cl : Cell, Arr Z h a cl ty ∧ cl.slots.size = n ∧ ∀ j, j < n → ∃ v, cl.slots[j]? = some v ∧ P j v
theorem OwnArr.lt {a : Addr} {ty : FieldType} {n : Nat} {P : Nat → Value → Prop} (A : OwnArr Z h a ty n P) : a < h.size := by obtain ⟨cl, A, -⟩ := A; exact A.lt
theorem OwnArr.ext {h' : Heap} {a : Addr} {ty : FieldType} {n : Nat} {P : Nat → Value → Prop} (A : OwnArr Z h a ty n P) (E : Ext h h') : OwnArr Z h' a ty n P := by obtain ⟨cl, A, r⟩ := A; exact ⟨cl, A.ext E, r⟩
theorem OwnArr.other {h' : Heap} {a b : Addr} {sl : Nat} {v : Value} {ty : FieldType} {n : Nat} {P : Nat → Value → Prop} (A : OwnArr Z h b ty n P) (W : Wr h h' a sl v) (q : b ≠ a) : OwnArr Z h' b ty n P := by obtain ⟨cl, A, r⟩ := A; exact ⟨cl, A.other W q, r⟩
theorem OwnArr.keep {h' : Heap} {ws : List Addr} {a : Addr} {ty : FieldType} {n : Nat} {P : Nat → Value → Prop} (A : OwnArr Z h a ty n P) (K : Keep h h' ws) (q : a ∉ ws) : OwnArr Z h' a ty n P := by obtain ⟨cl, A, r⟩ := A; exact ⟨cl, ⟨K.2.1 a cl A.1 q, A.2⟩, r⟩
theorem OwnArr.mono {a : Addr} {ty : FieldType} {n : Nat} {P P' : Nat → Value → Prop} (A : OwnArr Z h a ty n P) (q : ∀ j v, j < n → P j v → P' j v) : OwnArr Z h a ty n P' := by
  obtain ⟨cl, A, S, H⟩ := A
  exact ⟨cl, A, S, fun j hj => by obtain ⟨v, h1, h2⟩ := H j hj; exact ⟨v, h1, q j v hj h2⟩⟩
theorem OwnArr.new {a : Addr} {k : ClassId} {ty : FieldType} {z : Int32} {n : Nat} (A : Arr Z h a (newA k ty z) ty) (hz : z.toNatClampNeg = n) : OwnArr Z h a ty n (fun _ v => v = defaultValue ty) := by
  subst hz
  refine ⟨_, A, sz_new _ _ _, fun j hj => ⟨_, ?_, rfl⟩⟩
  simp [newA, hj]
theorem OwnArr.set {h' : Heap} {a : Addr} {sl : Nat} {v : Value} {ty : FieldType} {n : Nat} {P P' : Nat → Value → Prop} (A : OwnArr Z h a ty n P) (W : Wr h h' a sl v) (q : ∀ i w, i < n → (i = sl → w = v) → (i ≠ sl → P i w) → P' i w) : OwnArr Z h' a ty n P' := by
  obtain ⟨cl, A, S, H⟩ := A
  refine ⟨_, A.same W, by rw [sz_set]; exact S, fun j hj => ?_⟩
  by_cases e : j = sl
  · subst e
    exact ⟨v, by simp [Cell.setSlot, S, hj], q j v hj (fun _ => rfl) (fun y => absurd rfl y)⟩
  · obtain ⟨w, h1, h2⟩ := H j hj
    refine ⟨w, ?_, q j w hj (fun y => absurd y e) (fun _ => h2)⟩
    simp only [Cell.setSlot]; rw [Array.getElem?_setIfInBounds_ne (fun y => e y.symm)]; exact h1
theorem own_inb {cl : Cell} {n : Nat} {j : Int32} (S : cl.slots.size = n) (h0 : 0 ≤ j.toInt) (h1 : j.toInt < n) : ¬ (j < 0 ∨ cl.slots.size ≤ j.toNatClampNeg) := by
  have l0 : (0 : Int32).toInt = 0 := by decide
  rw [Int32.lt_iff_toInt_lt, l0, S, Int32.toNatClampNeg]
  omega
theorem own_len {n : Nat} {z : Int32} (hz : z.toInt = n) : n.toInt32 = z := by
  have h0 : ¬ z < 0 := by
    have l0 : (0 : Int32).toInt = 0 := by decide
    rw [Int32.lt_iff_toInt_lt, l0]; omega
  have e : z.toNatClampNeg = n := by rw [Int32.toNatClampNeg]; omega
  rw [← e]
  exact (back32 h0).1
theorem own_iastoreA (X : Stand p l e R s m args below meth c T locs cells slots) (hx : p.tables.exec = Jvm.exec) (hZ : Z.Warmed39 s.vm) (eT : T.heap = h) {a : Addr} {n : Nat} {P : Nat → Value → Prop} (A : OwnArr Z h a .int n P) {j : Int32} {x : Int32} (h0 : 0 ≤ j.toInt) (h1 : j.toInt < n) (P' : Nat → Value → Prop) (hP : ∀ i w, i < n → (i = j.toNatClampNeg → w = (.int x)) → (i ≠ j.toNatClampNeg → P i w) → P' i w) (hd : decode c.code pc = .ok (.iastore, 1)) (hp : pc + 1 = pc')
    (g : ∀ T' h', Stand p l e R s m args below meth c T' (locs ++ [⟨a, j.toNatClampNeg⟩]) cells slots → T'.heap = h' → Wr h h' a j.toNatClampNeg (.int x) → OwnArr Z h' a .int n P' → OwnGo p e below s Q rc rs (T'.setTop (mkF m pc' Ls st))) : OwnGo p e below s Q rc rs (T.setTop (mkF m pc Ls (.int x :: .int j :: .ref a :: st))) := by
  have A0 := A
  obtain ⟨cl, Ar, S, H⟩ := A
  exact own_iastore X hx hZ eT Ar (own_inb S h0 h1) hd hp fun T' h' X' e' W => g T' h' X' e' W (A0.set W hP)
theorem own_castoreA (X : Stand p l e R s m args below meth c T locs cells slots) (hx : p.tables.exec = Jvm.exec) (hZ : Z.Warmed39 s.vm) (eT : T.heap = h) {a : Addr} {n : Nat} {P : Nat → Value → Prop} (A : OwnArr Z h a .char n P) {j : Int32} {x : Int32} (h0 : 0 ≤ j.toInt) (h1 : j.toInt < n) (P' : Nat → Value → Prop) (hP : ∀ i w, i < n → (i = j.toNatClampNeg → w = (.int (nar .char x))) → (i ≠ j.toNatClampNeg → P i w) → P' i w) (hd : decode c.code pc = .ok (.castore, 1)) (hp : pc + 1 = pc')
    (g : ∀ T' h', Stand p l e R s m args below meth c T' (locs ++ [⟨a, j.toNatClampNeg⟩]) cells slots → T'.heap = h' → Wr h h' a j.toNatClampNeg (.int (nar .char x)) → OwnArr Z h' a .char n P' → OwnGo p e below s Q rc rs (T'.setTop (mkF m pc' Ls st))) : OwnGo p e below s Q rc rs (T.setTop (mkF m pc Ls (.int x :: .int j :: .ref a :: st))) := by
  have A0 := A
  obtain ⟨cl, Ar, S, H⟩ := A
  exact own_castore X hx hZ eT Ar (own_inb S h0 h1) hd hp fun T' h' X' e' W => g T' h' X' e' W (A0.set W hP)
theorem own_bastoreA (X : Stand p l e R s m args below meth c T locs cells slots) (hx : p.tables.exec = Jvm.exec) (hZ : Z.Warmed39 s.vm) (eT : T.heap = h) {a : Addr} {n : Nat} {P : Nat → Value → Prop} (A : OwnArr Z h a .byte n P) {j : Int32} {x : Int32} (h0 : 0 ≤ j.toInt) (h1 : j.toInt < n) (P' : Nat → Value → Prop) (hP : ∀ i w, i < n → (i = j.toNatClampNeg → w = (.int (nar .byte x))) → (i ≠ j.toNatClampNeg → P i w) → P' i w) (hd : decode c.code pc = .ok (.bastore, 1)) (hp : pc + 1 = pc')
    (g : ∀ T' h', Stand p l e R s m args below meth c T' (locs ++ [⟨a, j.toNatClampNeg⟩]) cells slots → T'.heap = h' → Wr h h' a j.toNatClampNeg (.int (nar .byte x)) → OwnArr Z h' a .byte n P' → OwnGo p e below s Q rc rs (T'.setTop (mkF m pc' Ls st))) : OwnGo p e below s Q rc rs (T.setTop (mkF m pc Ls (.int x :: .int j :: .ref a :: st))) := by
  have A0 := A
  obtain ⟨cl, Ar, S, H⟩ := A
  exact own_bastore X hx hZ eT Ar (own_inb S h0 h1) hd hp fun T' h' X' e' W => g T' h' X' e' W (A0.set W hP)
theorem own_zastoreA (X : Stand p l e R s m args below meth c T locs cells slots) (hx : p.tables.exec = Jvm.exec) (hZ : Z.Warmed39 s.vm) (eT : T.heap = h) {a : Addr} {n : Nat} {P : Nat → Value → Prop} (A : OwnArr Z h a .boolean n P) {j : Int32} {x : Int32} (h0 : 0 ≤ j.toInt) (h1 : j.toInt < n) (P' : Nat → Value → Prop) (hP : ∀ i w, i < n → (i = j.toNatClampNeg → w = (.int (nar .boolean x))) → (i ≠ j.toNatClampNeg → P i w) → P' i w) (hd : decode c.code pc = .ok (.bastore, 1)) (hp : pc + 1 = pc')
    (g : ∀ T' h', Stand p l e R s m args below meth c T' (locs ++ [⟨a, j.toNatClampNeg⟩]) cells slots → T'.heap = h' → Wr h h' a j.toNatClampNeg (.int (nar .boolean x)) → OwnArr Z h' a .boolean n P' → OwnGo p e below s Q rc rs (T'.setTop (mkF m pc' Ls st))) : OwnGo p e below s Q rc rs (T.setTop (mkF m pc Ls (.int x :: .int j :: .ref a :: st))) := by
  have A0 := A
  obtain ⟨cl, Ar, S, H⟩ := A
  exact own_zastore X hx hZ eT Ar (own_inb S h0 h1) hd hp fun T' h' X' e' W => g T' h' X' e' W (A0.set W hP)
theorem own_lastoreA (X : Stand p l e R s m args below meth c T locs cells slots) (hx : p.tables.exec = Jvm.exec) (hZ : Z.Warmed39 s.vm) (eT : T.heap = h) {a : Addr} {n : Nat} {P : Nat → Value → Prop} (A : OwnArr Z h a .long n P) {j : Int32} {x : Int64} (h0 : 0 ≤ j.toInt) (h1 : j.toInt < n) (P' : Nat → Value → Prop) (hP : ∀ i w, i < n → (i = j.toNatClampNeg → w = (.long x)) → (i ≠ j.toNatClampNeg → P i w) → P' i w) (hd : decode c.code pc = .ok (.lastore, 1)) (hp : pc + 1 = pc')
    (g : ∀ T' h', Stand p l e R s m args below meth c T' (locs ++ [⟨a, j.toNatClampNeg⟩]) cells slots → T'.heap = h' → Wr h h' a j.toNatClampNeg (.long x) → OwnArr Z h' a .long n P' → OwnGo p e below s Q rc rs (T'.setTop (mkF m pc' Ls st))) : OwnGo p e below s Q rc rs (T.setTop (mkF m pc Ls (.long x :: .int j :: .ref a :: st))) := by
  have A0 := A
  obtain ⟨cl, Ar, S, H⟩ := A
  exact own_lastore X hx hZ eT Ar (own_inb S h0 h1) hd hp fun T' h' X' e' W => g T' h' X' e' W (A0.set W hP)
theorem own_ialoadA (X : Stand p l e R s m args below meth c T locs cells slots) (hx : p.tables.exec = Jvm.exec) (hZ : Z.Warmed39 s.vm) (eT : T.heap = h) {a : Addr} {n : Nat} {P : Nat → Value → Prop} (A : OwnArr Z h a .int n P) {j : Int32} (h0 : 0 ≤ j.toInt) (h1 : j.toInt < n) (hd : decode c.code pc = .ok (.iaload, 1)) (hp : pc + 1 = pc')
    (g : ∀ v, P j.toNatClampNeg v → OwnGo p e below s Q rc rs (T.setTop (mkF m pc' Ls (v :: st)))) : OwnGo p e below s Q rc rs (T.setTop (mkF m pc Ls (.int j :: .ref a :: st))) := by
  obtain ⟨cl, Ar, S, H⟩ := A
  have hj := own_inb S h0 h1
  obtain ⟨v, q1, q2⟩ := H j.toNatClampNeg (by rw [← S]; exact Nat.lt_of_not_le fun y => hj (Or.inr y))
  exact own_iaload X hx hZ eT Ar hj q1 hd hp (g v q2)
theorem own_caloadA (X : Stand p l e R s m args below meth c T locs cells slots) (hx : p.tables.exec = Jvm.exec) (hZ : Z.Warmed39 s.vm) (eT : T.heap = h) {a : Addr} {n : Nat} {P : Nat → Value → Prop} (A : OwnArr Z h a .char n P) {j : Int32} (h0 : 0 ≤ j.toInt) (h1 : j.toInt < n) (hd : decode c.code pc = .ok (.caload, 1)) (hp : pc + 1 = pc')
    (g : ∀ v, P j.toNatClampNeg v → OwnGo p e below s Q rc rs (T.setTop (mkF m pc' Ls (v :: st)))) : OwnGo p e below s Q rc rs (T.setTop (mkF m pc Ls (.int j :: .ref a :: st))) := by
  obtain ⟨cl, Ar, S, H⟩ := A
  have hj := own_inb S h0 h1
  obtain ⟨v, q1, q2⟩ := H j.toNatClampNeg (by rw [← S]; exact Nat.lt_of_not_le fun y => hj (Or.inr y))
  exact own_caload X hx hZ eT Ar hj q1 hd hp (g v q2)
theorem own_laloadA (X : Stand p l e R s m args below meth c T locs cells slots) (hx : p.tables.exec = Jvm.exec) (hZ : Z.Warmed39 s.vm) (eT : T.heap = h) {a : Addr} {n : Nat} {P : Nat → Value → Prop} (A : OwnArr Z h a .long n P) {j : Int32} (h0 : 0 ≤ j.toInt) (h1 : j.toInt < n) (hd : decode c.code pc = .ok (.laload, 1)) (hp : pc + 1 = pc')
    (g : ∀ v, P j.toNatClampNeg v → OwnGo p e below s Q rc rs (T.setTop (mkF m pc' Ls (v :: st)))) : OwnGo p e below s Q rc rs (T.setTop (mkF m pc Ls (.int j :: .ref a :: st))) := by
  obtain ⟨cl, Ar, S, H⟩ := A
  have hj := own_inb S h0 h1
  obtain ⟨v, q1, q2⟩ := H j.toNatClampNeg (by rw [← S]; exact Nat.lt_of_not_le fun y => hj (Or.inr y))
  exact own_laload X hx hZ eT Ar hj q1 hd hp (g v q2)
theorem own_baloadA (X : Stand p l e R s m args below meth c T locs cells slots) (hx : p.tables.exec = Jvm.exec) (hZ : Z.Warmed39 s.vm) (eT : T.heap = h) {a : Addr} {n : Nat} {P : Nat → Value → Prop} (A : OwnArr Z h a .byte n P) {j : Int32} (h0 : 0 ≤ j.toInt) (h1 : j.toInt < n) (hd : decode c.code pc = .ok (.baload, 1)) (hp : pc + 1 = pc')
    (g : ∀ v, P j.toNatClampNeg v → OwnGo p e below s Q rc rs (T.setTop (mkF m pc' Ls (v :: st)))) : OwnGo p e below s Q rc rs (T.setTop (mkF m pc Ls (.int j :: .ref a :: st))) := by
  obtain ⟨cl, Ar, S, H⟩ := A
  have hj := own_inb S h0 h1
  obtain ⟨v, q1, q2⟩ := H j.toNatClampNeg (by rw [← S]; exact Nat.lt_of_not_le fun y => hj (Or.inr y))
  exact own_baload X hx hZ eT Ar hj q1 hd hp (g v q2)
theorem own_zaloadA (X : Stand p l e R s m args below meth c T locs cells slots) (hx : p.tables.exec = Jvm.exec) (hZ : Z.Warmed39 s.vm) (eT : T.heap = h) {a : Addr} {n : Nat} {P : Nat → Value → Prop} (A : OwnArr Z h a .boolean n P) {j : Int32} (h0 : 0 ≤ j.toInt) (h1 : j.toInt < n) (hd : decode c.code pc = .ok (.baload, 1)) (hp : pc + 1 = pc')
    (g : ∀ v, P j.toNatClampNeg v → OwnGo p e below s Q rc rs (T.setTop (mkF m pc' Ls (v :: st)))) : OwnGo p e below s Q rc rs (T.setTop (mkF m pc Ls (.int j :: .ref a :: st))) := by
  obtain ⟨cl, Ar, S, H⟩ := A
  have hj := own_inb S h0 h1
  obtain ⟨v, q1, q2⟩ := H j.toNatClampNeg (by rw [← S]; exact Nat.lt_of_not_le fun y => hj (Or.inr y))
  exact own_zaload X hx hZ eT Ar hj q1 hd hp (g v q2)
theorem own_lengthA (X : Stand p l e R s m args below meth c T locs cells slots) (hx : p.tables.exec = Jvm.exec) (hZ : Z.Warmed39 s.vm) (eT : T.heap = h) {a : Addr} {n : Nat} {P : Nat → Value → Prop} {ty : FieldType} {z : Int32} (A : OwnArr Z h a ty n P) (hz : z.toInt = n) (hd : decode c.code pc = .ok (.arraylength, 1)) (hp : pc + 1 = pc')
    (g : OwnGo p e below s Q rc rs (T.setTop (mkF m pc' Ls (.int z :: st)))) : OwnGo p e below s Q rc rs (T.setTop (mkF m pc Ls (.ref a :: st))) := by
  obtain ⟨cl, Ar, S, H⟩ := A
  exact own_arraylength X hx hZ eT Ar (by rw [S]; exact own_len hz) hd hp g
end OwnKit
theorem d_daysInMonth_0 : decode prog_42_method_6_code 0 = .ok (.iload_n 1, 1) := by decide +kernel
theorem d_daysInMonth_1 : decode prog_42_method_6_code 1 = .ok (.iconst 2, 1) := by decide +kernel
theorem d_daysInMonth_2 : decode prog_42_method_6_code 2 = .ok (.if_icmp .ne 41, 3) := by decide +kernel
theorem d_daysInMonth_43 : decode prog_42_method_6_code 43 = .ok (.iload_n 1, 1) := by decide +kernel
theorem d_daysInMonth_44 : decode prog_42_method_6_code 44 = .ok (.iconst 4, 1) := by decide +kernel
theorem d_daysInMonth_45 : decode prog_42_method_6_code 45 = .ok (.if_icmp .eq 21, 3) := by decide +kernel
theorem d_daysInMonth_66 : decode prog_42_method_6_code 66 = .ok (.bipush 30, 2) := by decide +kernel
theorem d_daysInMonth_68 : decode prog_42_method_6_code 68 = .ok (.istore_n 2, 1) := by decide +kernel
theorem d_daysInMonth_69 : decode prog_42_method_6_code 69 = .ok (.goto 6, 3) := by decide +kernel
theorem d_daysInMonth_75 : decode prog_42_method_6_code 75 = .ok (.iload_n 2, 1) := by decide +kernel
theorem d_daysInMonth_76 : decode prog_42_method_6_code 76 = .ok (.ireturn, 1) := by decide +kernel
theorem d_daysInMonth_48 : decode prog_42_method_6_code 48 = .ok (.iload_n 1, 1) := by decide +kernel
theorem d_daysInMonth_49 : decode prog_42_method_6_code 49 = .ok (.bipush 6, 2) := by decide +kernel
theorem d_daysInMonth_51 : decode prog_42_method_6_code 51 = .ok (.if_icmp .eq 15, 3) := by decide +kernel
theorem d_daysInMonth_54 : decode prog_42_method_6_code 54 = .ok (.iload_n 1, 1) := by decide +kernel
theorem d_daysInMonth_55 : decode prog_42_method_6_code 55 = .ok (.bipush 9, 2) := by decide +kernel
theorem d_daysInMonth_57 : decode prog_42_method_6_code 57 = .ok (.if_icmp .eq 9, 3) := by decide +kernel
theorem d_daysInMonth_60 : decode prog_42_method_6_code 60 = .ok (.iload_n 1, 1) := by decide +kernel
theorem d_daysInMonth_61 : decode prog_42_method_6_code 61 = .ok (.bipush 11, 2) := by decide +kernel
theorem d_daysInMonth_63 : decode prog_42_method_6_code 63 = .ok (.if_icmp .ne 9, 3) := by decide +kernel
theorem d_daysInMonth_72 : decode prog_42_method_6_code 72 = .ok (.bipush 31, 2) := by decide +kernel
theorem d_daysInMonth_74 : decode prog_42_method_6_code 74 = .ok (.istore_n 2, 1) := by decide +kernel
theorem d_daysInMonth_5 : decode prog_42_method_6_code 5 = .ok (.iload_n 0, 1) := by decide +kernel
theorem d_daysInMonth_6 : decode prog_42_method_6_code 6 = .ok (.ifCond .eq 16, 3) := by decide +kernel
theorem d_daysInMonth_22 : decode prog_42_method_6_code 22 = .ok (.iconst 1, 1) := by decide +kernel
theorem d_daysInMonth_23 : decode prog_42_method_6_code 23 = .ok (.goto 4, 3) := by decide +kernel
theorem d_daysInMonth_27 : decode prog_42_method_6_code 27 = .ok (.istore_n 3, 1) := by decide +kernel
theorem d_daysInMonth_28 : decode prog_42_method_6_code 28 = .ok (.iload_n 3, 1) := by decide +kernel
theorem d_daysInMonth_29 : decode prog_42_method_6_code 29 = .ok (.ifCond .eq 8, 3) := by decide +kernel
theorem d_daysInMonth_32 : decode prog_42_method_6_code 32 = .ok (.bipush 29, 2) := by decide +kernel
theorem d_daysInMonth_34 : decode prog_42_method_6_code 34 = .ok (.goto 5, 3) := by decide +kernel
theorem d_daysInMonth_39 : decode prog_42_method_6_code 39 = .ok (.istore_n 2, 1) := by decide +kernel
theorem d_daysInMonth_40 : decode prog_42_method_6_code 40 = .ok (.goto 35, 3) := by decide +kernel
theorem d_daysInMonth_9 : decode prog_42_method_6_code 9 = .ok (.iload_n 0, 1) := by decide +kernel
theorem d_daysInMonth_10 : decode prog_42_method_6_code 10 = .ok (.iconst 4, 1) := by decide +kernel
theorem d_daysInMonth_11 : decode prog_42_method_6_code 11 = .ok (.irem, 1) := by decide +kernel
theorem d_daysInMonth_12 : decode prog_42_method_6_code 12 = .ok (.ifCond .ne 14, 3) := by decide +kernel
theorem d_daysInMonth_26 : decode prog_42_method_6_code 26 = .ok (.iconst 0, 1) := by decide +kernel
theorem d_daysInMonth_37 : decode prog_42_method_6_code 37 = .ok (.bipush 28, 2) := by decide +kernel
theorem d_daysInMonth_15 : decode prog_42_method_6_code 15 = .ok (.iload_n 0, 1) := by decide +kernel
theorem d_daysInMonth_16 : decode prog_42_method_6_code 16 = .ok (.bipush 100, 2) := by decide +kernel
theorem d_daysInMonth_18 : decode prog_42_method_6_code 18 = .ok (.irem, 1) := by decide +kernel
theorem d_daysInMonth_19 : decode prog_42_method_6_code 19 = .ok (.ifCond .eq 7, 3) := by decide +kernel
theorem ef_daysInMonth (m : MethodId) (x0 : Int32) (x1 : Int32) : entryFrame m #[(.int x0), (.int x1)] 4 = mkF m 0 #[.val (.int x0), .val (.int x1), .unset, .unset] [] := by first | (simp [entryFrame, mkF, argsToLocals, Value.category]; done) | rfl
theorem pn_com_example_blois_blois_DateTimeValue : plainName "com/example/blois/blois/DateTimeValue" = true := by first | (simp [plainName, overriddenIn]; done) | decide +kernel
theorem pd__II_I : parseMethodDescriptor "(II)I" = some ⟨[.int, .int], some .int⟩ := by decide +kernel
theorem ef_law (m : MethodId) (x0 : Int32) (x1 : Int32) : entryFrame m #[(.int x0), (.int x1)] maxLocals = mkF m 0 #[.val (.int x0), .val (.int x1), .unset, .unset, .unset, .unset, .unset] [] := by first | (simp [entryFrame, mkF, argsToLocals, Value.category, maxLocals]; done) | rfl
theorem pn_com_example_blois_blois_DateTimeValueDaysInMonthPinLaw : plainName "com/example/blois/blois/DateTimeValueDaysInMonthPinLaw" = true := by first | (simp [plainName, overriddenIn]; done) | decide +kernel
def own_days (y mo : Int32) : Int32 := if mo = 2 then (if y = 0 then 29 else if ¬ y % 4 = 0 then 28 else if y % 100 = 0 then 28 else 29) else if mo = 4 then 30 else if mo = 6 then 30 else if mo = 9 then 30 else if mo = 11 then 30 else 31
def own_exp (y mo : Int32) : Int32 := if mo = 2 then (if ¬ y &&& 3 = 0 then 28 else if y = 100 then 28 else if y = 200 then 28 else if y = 300 then 28 else 29) else 30 + ((mo + mo / 8) &&& 1)
theorem own_all : ∀ (a : Fin 400) (b : Fin 12), own_days (Int32.ofNat a.val) (Int32.ofNat (b.val + 1)) = own_exp (Int32.ofNat a.val) (Int32.ofNat (b.val + 1)) := by decide +kernel
theorem own_ofNat (v : Int32) (n : Nat) (h : v.toInt = n) : v = Int32.ofNat n := by
  apply Int32.toInt_inj.mp
  have r := rng32 v
  rw [Int32.toInt_ofNat_of_lt (by omega)]
  exact h
theorem own_same (y k : Int32) : own_days ((y &&& 2147483647) % 400) ((k &&& 2147483647) % 12 + 1) = own_exp ((y &&& 2147483647) % 400) ((k &&& 2147483647) % 12 + 1) := by
  have m1 := c_mask y 2147483647 31 (by decide) (by decide)
  have m2 := c_mask k 2147483647 31 (by decide) (by decide)
  generalize y &&& 2147483647 = u at *
  generalize k &&& 2147483647 = v at *
  have r1 := (c_irem u 400 400 (by decide)).1 (by omega)
  have r2 := (c_irem v 12 12 (by decide)).1 (by omega)
  have r3 := c_iadd (v % 12) 1
  have r4 := rng32 (v % 12 + 1)
  have l1 : (1 : Int32).toInt = 1 := by decide
  obtain ⟨a, ha⟩ : ∃ a : Nat, (u % 400).toInt = a := ⟨(u % 400).toInt.toNat, by omega⟩
  obtain ⟨b, hb⟩ : ∃ b : Nat, (v % 12 + 1).toInt = (b + 1 : Nat) := ⟨((v % 12 + 1).toInt - 1).toNat, by omega⟩
  have e1 := own_ofNat _ _ ha
  have e2 := own_ofNat _ _ hb
  rw [e1, e2]
  exact own_all ⟨a, by omega⟩ ⟨b, by omega⟩

set_option maxRecDepth 65536 in
set_option maxHeartbeats 40000000 in
theorem rm_daysInMonth {l : Launch} {Z : State} {a0 : Array Value} {h : Heap} (hw : ∀ d ∈ tables_1, d.before a0 Z = true) (y : Int32) (mo : Int32) : OwnPure l Z (⟨"com/example/blois/blois/DateTimeValue", "daysInMonth", "(II)I"⟩ : MethodName) prog_42_method_6_code 4 (some .int) #[(.int y), (.int mo)] (.int (own_days y mo)) h :=
 own_met (Q := fun ov oh oL => ov = some (.int (own_days y mo)) ∧ oh = h ∧ oL = []) (rm := ownR0) (plainFor_of_name pn_com_example_blois_blois_DateTimeValue) (fun m => ef_daysInMonth m y mo) fun p e s m below meth c T hx hZ hby hml hown hnm hret hlk X eT => by
  refine own_iloadN X hx (hb hby d_daysInMonth_0) rfl (pc' := 1) rfl ?_
  refine own_iconst X hx (hb hby d_daysInMonth_1) (z := (2 : Int32)) rfl (pc' := 2) rfl ?_
  refine own_icmp_ne X hx (hb hby d_daysInMonth_2) (pc1 := 5) (pc2 := 43) rfl (by decide) (fun hc2 => ?_) (fun hc2 => ?_)
  · refine own_iloadN X hx (hb hby d_daysInMonth_43) rfl (pc' := 44) rfl ?_
    refine own_iconst X hx (hb hby d_daysInMonth_44) (z := (4 : Int32)) rfl (pc' := 45) rfl ?_
    refine own_icmp_eq X hx (hb hby d_daysInMonth_45) (pc1 := 48) (pc2 := 66) rfl (by decide) (fun hc45 => ?_) (fun hc45 => ?_)
    · refine own_bipush X hx (hb hby d_daysInMonth_66) (z := (30 : Int32)) rfl (pc' := 68) rfl ?_
      refine own_istoreN X hx (hb hby d_daysInMonth_68) (Ls' := #[.val (.int y), .val (.int mo), .val (.int (30 : Int32)), .unset]) rfl (pc' := 69) rfl ?_
      refine own_goto X hx (hb hby d_daysInMonth_69) (pc' := 75) (by decide) ?_
      refine own_iloadN X hx (hb hby d_daysInMonth_75) rfl (pc' := 76) rfl ?_
      exact own_retI X hx eT hret hlk (Nat.le_refl _) (Nat.le_refl _) (hb hby d_daysInMonth_76) ⟨by simp [own_days, hc2, hc45], rfl, rfl⟩
    · refine own_iloadN X hx (hb hby d_daysInMonth_48) rfl (pc' := 49) rfl ?_
      refine own_bipush X hx (hb hby d_daysInMonth_49) (z := (6 : Int32)) rfl (pc' := 51) rfl ?_
      refine own_icmp_eq X hx (hb hby d_daysInMonth_51) (pc1 := 54) (pc2 := 66) rfl (by decide) (fun hc51 => ?_) (fun hc51 => ?_)
      · refine own_bipush X hx (hb hby d_daysInMonth_66) (z := (30 : Int32)) rfl (pc' := 68) rfl ?_
        refine own_istoreN X hx (hb hby d_daysInMonth_68) (Ls' := #[.val (.int y), .val (.int mo), .val (.int (30 : Int32)), .unset]) rfl (pc' := 69) rfl ?_
        refine own_goto X hx (hb hby d_daysInMonth_69) (pc' := 75) (by decide) ?_
        refine own_iloadN X hx (hb hby d_daysInMonth_75) rfl (pc' := 76) rfl ?_
        exact own_retI X hx eT hret hlk (Nat.le_refl _) (Nat.le_refl _) (hb hby d_daysInMonth_76) ⟨by simp [own_days, hc2, hc45, hc51], rfl, rfl⟩
      · refine own_iloadN X hx (hb hby d_daysInMonth_54) rfl (pc' := 55) rfl ?_
        refine own_bipush X hx (hb hby d_daysInMonth_55) (z := (9 : Int32)) rfl (pc' := 57) rfl ?_
        refine own_icmp_eq X hx (hb hby d_daysInMonth_57) (pc1 := 60) (pc2 := 66) rfl (by decide) (fun hc57 => ?_) (fun hc57 => ?_)
        · refine own_bipush X hx (hb hby d_daysInMonth_66) (z := (30 : Int32)) rfl (pc' := 68) rfl ?_
          refine own_istoreN X hx (hb hby d_daysInMonth_68) (Ls' := #[.val (.int y), .val (.int mo), .val (.int (30 : Int32)), .unset]) rfl (pc' := 69) rfl ?_
          refine own_goto X hx (hb hby d_daysInMonth_69) (pc' := 75) (by decide) ?_
          refine own_iloadN X hx (hb hby d_daysInMonth_75) rfl (pc' := 76) rfl ?_
          exact own_retI X hx eT hret hlk (Nat.le_refl _) (Nat.le_refl _) (hb hby d_daysInMonth_76) ⟨by simp [own_days, hc2, hc45, hc51, hc57], rfl, rfl⟩
        · refine own_iloadN X hx (hb hby d_daysInMonth_60) rfl (pc' := 61) rfl ?_
          refine own_bipush X hx (hb hby d_daysInMonth_61) (z := (11 : Int32)) rfl (pc' := 63) rfl ?_
          refine own_icmp_ne X hx (hb hby d_daysInMonth_63) (pc1 := 66) (pc2 := 72) rfl (by decide) (fun hc63 => ?_) (fun hc63 => ?_)
          · refine own_bipush X hx (hb hby d_daysInMonth_72) (z := (31 : Int32)) rfl (pc' := 74) rfl ?_
            refine own_istoreN X hx (hb hby d_daysInMonth_74) (Ls' := #[.val (.int y), .val (.int mo), .val (.int (31 : Int32)), .unset]) rfl (pc' := 75) rfl ?_
            refine own_iloadN X hx (hb hby d_daysInMonth_75) rfl (pc' := 76) rfl ?_
            exact own_retI X hx eT hret hlk (Nat.le_refl _) (Nat.le_refl _) (hb hby d_daysInMonth_76) ⟨by simp [own_days, hc2, hc45, hc51, hc57, hc63], rfl, rfl⟩
          · refine own_bipush X hx (hb hby d_daysInMonth_66) (z := (30 : Int32)) rfl (pc' := 68) rfl ?_
            refine own_istoreN X hx (hb hby d_daysInMonth_68) (Ls' := #[.val (.int y), .val (.int mo), .val (.int (30 : Int32)), .unset]) rfl (pc' := 69) rfl ?_
            refine own_goto X hx (hb hby d_daysInMonth_69) (pc' := 75) (by decide) ?_
            refine own_iloadN X hx (hb hby d_daysInMonth_75) rfl (pc' := 76) rfl ?_
            exact own_retI X hx eT hret hlk (Nat.le_refl _) (Nat.le_refl _) (hb hby d_daysInMonth_76) ⟨by simp [own_days, hc2, hc45, hc51, hc57, hc63], rfl, rfl⟩
  · refine own_iloadN X hx (hb hby d_daysInMonth_5) rfl (pc' := 6) rfl ?_
    refine own_if_eq X hx (hb hby d_daysInMonth_6) (pc1 := 9) (pc2 := 22) rfl (by decide) (fun hc6 => ?_) (fun hc6 => ?_)
    · refine own_iconst X hx (hb hby d_daysInMonth_22) (z := (1 : Int32)) rfl (pc' := 23) rfl ?_
      refine own_goto X hx (hb hby d_daysInMonth_23) (pc' := 27) (by decide) ?_
      refine own_istoreN X hx (hb hby d_daysInMonth_27) (Ls' := #[.val (.int y), .val (.int mo), .unset, .val (.int (1 : Int32))]) rfl (pc' := 28) rfl ?_
      refine own_iloadN X hx (hb hby d_daysInMonth_28) rfl (pc' := 29) rfl ?_
      refine own_if_eq X hx (hb hby d_daysInMonth_29) (pc1 := 32) (pc2 := 37) rfl (by decide) (fun hc29 => absurd hc29 (by decide)) (fun hc29 => ?_)
      refine own_bipush X hx (hb hby d_daysInMonth_32) (z := (29 : Int32)) rfl (pc' := 34) rfl ?_
      refine own_goto X hx (hb hby d_daysInMonth_34) (pc' := 39) (by decide) ?_
      refine own_istoreN X hx (hb hby d_daysInMonth_39) (Ls' := #[.val (.int y), .val (.int mo), .val (.int (29 : Int32)), .val (.int (1 : Int32))]) rfl (pc' := 40) rfl ?_
      refine own_goto X hx (hb hby d_daysInMonth_40) (pc' := 75) (by decide) ?_
      refine own_iloadN X hx (hb hby d_daysInMonth_75) rfl (pc' := 76) rfl ?_
      exact own_retI X hx eT hret hlk (Nat.le_refl _) (Nat.le_refl _) (hb hby d_daysInMonth_76) ⟨by simp [own_days, hc2, hc6], rfl, rfl⟩
    · refine own_iloadN X hx (hb hby d_daysInMonth_9) rfl (pc' := 10) rfl ?_
      refine own_iconst X hx (hb hby d_daysInMonth_10) (z := (4 : Int32)) rfl (pc' := 11) rfl ?_
      refine own_irem X hx (hb hby d_daysInMonth_11) (by decide) (pc' := 12) rfl ?_
      refine own_if_ne X hx (hb hby d_daysInMonth_12) (pc1 := 15) (pc2 := 26) rfl (by decide) (fun hc12 => ?_) (fun hc12 => ?_)
      · refine own_iconst X hx (hb hby d_daysInMonth_26) (z := (0 : Int32)) rfl (pc' := 27) rfl ?_
        refine own_istoreN X hx (hb hby d_daysInMonth_27) (Ls' := #[.val (.int y), .val (.int mo), .unset, .val (.int (0 : Int32))]) rfl (pc' := 28) rfl ?_
        refine own_iloadN X hx (hb hby d_daysInMonth_28) rfl (pc' := 29) rfl ?_
        refine own_if_eq X hx (hb hby d_daysInMonth_29) (pc1 := 32) (pc2 := 37) rfl (by decide) (fun hc29 => ?_) (fun hc29 => absurd hc29 (by decide))
        refine own_bipush X hx (hb hby d_daysInMonth_37) (z := (28 : Int32)) rfl (pc' := 39) rfl ?_
        refine own_istoreN X hx (hb hby d_daysInMonth_39) (Ls' := #[.val (.int y), .val (.int mo), .val (.int (28 : Int32)), .val (.int (0 : Int32))]) rfl (pc' := 40) rfl ?_
        refine own_goto X hx (hb hby d_daysInMonth_40) (pc' := 75) (by decide) ?_
        refine own_iloadN X hx (hb hby d_daysInMonth_75) rfl (pc' := 76) rfl ?_
        exact own_retI X hx eT hret hlk (Nat.le_refl _) (Nat.le_refl _) (hb hby d_daysInMonth_76) ⟨by simp [own_days, hc2, hc6, hc12], rfl, rfl⟩
      · refine own_iloadN X hx (hb hby d_daysInMonth_15) rfl (pc' := 16) rfl ?_
        refine own_bipush X hx (hb hby d_daysInMonth_16) (z := (100 : Int32)) rfl (pc' := 18) rfl ?_
        refine own_irem X hx (hb hby d_daysInMonth_18) (by decide) (pc' := 19) rfl ?_
        refine own_if_eq X hx (hb hby d_daysInMonth_19) (pc1 := 22) (pc2 := 26) rfl (by decide) (fun hc19 => ?_) (fun hc19 => ?_)
        · refine own_iconst X hx (hb hby d_daysInMonth_26) (z := (0 : Int32)) rfl (pc' := 27) rfl ?_
          refine own_istoreN X hx (hb hby d_daysInMonth_27) (Ls' := #[.val (.int y), .val (.int mo), .unset, .val (.int (0 : Int32))]) rfl (pc' := 28) rfl ?_
          refine own_iloadN X hx (hb hby d_daysInMonth_28) rfl (pc' := 29) rfl ?_
          refine own_if_eq X hx (hb hby d_daysInMonth_29) (pc1 := 32) (pc2 := 37) rfl (by decide) (fun hc29 => ?_) (fun hc29 => absurd hc29 (by decide))
          refine own_bipush X hx (hb hby d_daysInMonth_37) (z := (28 : Int32)) rfl (pc' := 39) rfl ?_
          refine own_istoreN X hx (hb hby d_daysInMonth_39) (Ls' := #[.val (.int y), .val (.int mo), .val (.int (28 : Int32)), .val (.int (0 : Int32))]) rfl (pc' := 40) rfl ?_
          refine own_goto X hx (hb hby d_daysInMonth_40) (pc' := 75) (by decide) ?_
          refine own_iloadN X hx (hb hby d_daysInMonth_75) rfl (pc' := 76) rfl ?_
          exact own_retI X hx eT hret hlk (Nat.le_refl _) (Nat.le_refl _) (hb hby d_daysInMonth_76) ⟨by simp [own_days, hc2, hc6, hc12, hc19], rfl, rfl⟩
        · refine own_iconst X hx (hb hby d_daysInMonth_22) (z := (1 : Int32)) rfl (pc' := 23) rfl ?_
          refine own_goto X hx (hb hby d_daysInMonth_23) (pc' := 27) (by decide) ?_
          refine own_istoreN X hx (hb hby d_daysInMonth_27) (Ls' := #[.val (.int y), .val (.int mo), .unset, .val (.int (1 : Int32))]) rfl (pc' := 28) rfl ?_
          refine own_iloadN X hx (hb hby d_daysInMonth_28) rfl (pc' := 29) rfl ?_
          refine own_if_eq X hx (hb hby d_daysInMonth_29) (pc1 := 32) (pc2 := 37) rfl (by decide) (fun hc29 => absurd hc29 (by decide)) (fun hc29 => ?_)
          refine own_bipush X hx (hb hby d_daysInMonth_32) (z := (29 : Int32)) rfl (pc' := 34) rfl ?_
          refine own_goto X hx (hb hby d_daysInMonth_34) (pc' := 39) (by decide) ?_
          refine own_istoreN X hx (hb hby d_daysInMonth_39) (Ls' := #[.val (.int y), .val (.int mo), .val (.int (29 : Int32)), .val (.int (1 : Int32))]) rfl (pc' := 40) rfl ?_
          refine own_goto X hx (hb hby d_daysInMonth_40) (pc' := 75) (by decide) ?_
          refine own_iloadN X hx (hb hby d_daysInMonth_75) rfl (pc' := 76) rfl ?_
          exact own_retI X hx eT hret hlk (Nat.le_refl _) (Nat.le_refl _) (hb hby d_daysInMonth_76) ⟨by simp [own_days, hc2, hc6, hc12, hc19], rfl, rfl⟩
set_option maxRecDepth 65536 in
set_option maxHeartbeats 40000000 in
theorem rm_law (l : Launch) (Z : State) (a0 : Array Value) (hw : ∀ d ∈ tables_1, d.before a0 Z = true) (ws : List Jvm.Cond) (y : Int32) (k : Int32) (h0 : Heap) (n0 : Nat) (hn0 : n0 ≤ h0.size) :
    MetFree l x (head1 (Jvm.Cond.code x code maxLocals ret :: ws) room_1) (fun a U => a = #[(.int y), (.int k)] ∧ Z.Warmed39 U.vm ∧ U.heap = h0) (fun _ _ _ _ _ => True) (fun _ U o U' => ∃ v L, o = .returned v ∧ (v = some (.int 1) ∧ Fr n0 L) ∧ FrameEnd U o U' L room_1.cells room_1.slots) :=
 own_met (Q := fun v _ L => v = some (.int 1) ∧ Fr n0 L) (plainFor_of_name pn_com_example_blois_blois_DateTimeValueDaysInMonthPinLaw) (fun m => ef_law m y k) fun p e s m below meth c T hx hZ hby hml hown hnm hret hlk X eT => by
  refine own_iloadN X hx (hb hby at_0) rfl (pc' := 1) rfl ?_
  refine own_ldcI X hx hZ hown (v := (2147483647 : Int32)) (hw _ (List.mem_of_getElem? (i := 0) rfl)) (hb hby at_1) (pc' := 3) rfl ?_
  refine own_iand X hx (hb hby at_3) (pc' := 4) rfl ?_
  refine own_sipush X hx (hb hby at_4) (z := (400 : Int32)) rfl (pc' := 7) rfl ?_
  refine own_irem X hx (hb hby at_7) (by decide) (pc' := 8) rfl ?_
  generalize hyr : ((y &&& (2147483647 : Int32)) % (400 : Int32)) = yr
  refine own_istoreN X hx (hb hby at_8) (Ls' := #[.val (.int y), .val (.int k), .val (.int yr), .unset, .unset, .unset, .unset]) rfl (pc' := 9) rfl ?_
  refine own_iloadN X hx (hb hby at_9) rfl (pc' := 10) rfl ?_
  refine own_ldcI X hx hZ hown (v := (2147483647 : Int32)) (hw _ (List.mem_of_getElem? (i := 0) rfl)) (hb hby at_10) (pc' := 12) rfl ?_
  refine own_iand X hx (hb hby at_12) (pc' := 13) rfl ?_
  refine own_bipush X hx (hb hby at_13) (z := (12 : Int32)) rfl (pc' := 15) rfl ?_
  refine own_irem X hx (hb hby at_15) (by decide) (pc' := 16) rfl ?_
  refine own_iconst X hx (hb hby at_16) (z := (1 : Int32)) rfl (pc' := 17) rfl ?_
  refine own_iadd X hx (hb hby at_17) (pc' := 18) rfl ?_
  generalize hmo : (((k &&& (2147483647 : Int32)) % (12 : Int32)) + (1 : Int32)) = mo
  refine own_istoreN X hx (hb hby at_18) (Ls' := #[.val (.int y), .val (.int k), .val (.int yr), .val (.int mo), .unset, .unset, .unset]) rfl (pc' := 19) rfl ?_
  have hS : own_days yr mo = own_exp yr mo := by rw [← hyr, ← hmo]; exact own_same y k
  have tail : ∀ (z : Int32) (s5 s6 : Slot), own_exp yr mo = z → OwnGo p e below s (fun v _ L => v = some (.int 1) ∧ Fr n0 L) room_1.cells room_1.slots (T.setTop (mkF m 99 #[.val (.int y), .val (.int k), .val (.int yr), .val (.int mo), .val (.int z), s5, s6] [])) := by
    intro z s5 s6 hz
    refine own_iloadN X hx (hb hby at_99) rfl (pc' := 100) rfl ?_
    refine own_iloadN X hx (hb hby at_100) rfl (pc' := 101) rfl ?_
    refine own_pureS X hx hZ hown (y := (⟨"com/example/blois/blois/DateTimeValue", "daysInMonth", "(II)I"⟩ : MethodName)) (argsL := [(.int yr), (.int mo)]) (st := []) (W := 0) (z := (.int (own_days yr mo))) (hw _ (List.mem_of_getElem? (i := 1) rfl)) (hw _ (List.mem_of_getElem? (i := 2) rfl)) (hw _ (List.mem_of_getElem? (i := 3) rfl)) (hw _ (List.mem_of_getElem? (i := 4) rfl)) eT (rm_daysInMonth hw yr mo) (hb hby at_101) rfl (lenOf pd__II_I rfl) (by rw [hml]; rfl) (by decide) (by decide) (by decide) (by decide) (Nat.le_of_eq rfl) (by decide) (pc' := 104) rfl fun T X eT => ?_
    refine own_iload X hx (hb hby at_104) rfl (pc' := 106) rfl ?_
    refine own_icmp_ne X hx (hb hby at_106) (pc1 := 109) (pc2 := 113) rfl (by decide) (fun hc106 => absurd (hS.trans hz) hc106) (fun hc106 => ?_)
    refine own_iconst X hx (hb hby at_109) (z := (1 : Int32)) rfl (pc' := 110) rfl ?_
    refine own_goto X hx (hb hby at_110) (pc' := 114) (by decide) ?_
    exact own_retZ X hx eT hret hlk (by decide) (by decide) (hb hby at_114) ⟨rfl, Fr.nil n0⟩
  refine own_iloadN X hx (hb hby at_19) rfl (pc' := 20) rfl ?_
  refine own_iconst X hx (hb hby at_20) (z := (2 : Int32)) rfl (pc' := 21) rfl ?_
  refine own_icmp_ne X hx (hb hby at_21) (pc1 := 24) (pc2 := 86) rfl (by decide) (fun hc21 => ?_) (fun hc21 => ?_)
  · refine own_bipush X hx (hb hby at_86) (z := (30 : Int32)) rfl (pc' := 88) rfl ?_
    refine own_iloadN X hx (hb hby at_88) rfl (pc' := 89) rfl ?_
    refine own_iloadN X hx (hb hby at_89) rfl (pc' := 90) rfl ?_
    refine own_bipush X hx (hb hby at_90) (z := (8 : Int32)) rfl (pc' := 92) rfl ?_
    refine own_idiv X hx (hb hby at_92) (by decide) (pc' := 93) rfl ?_
    refine own_iadd X hx (hb hby at_93) (pc' := 94) rfl ?_
    refine own_iconst X hx (hb hby at_94) (z := (1 : Int32)) rfl (pc' := 95) rfl ?_
    refine own_iand X hx (hb hby at_95) (pc' := 96) rfl ?_
    refine own_iadd X hx (hb hby at_96) (pc' := 97) rfl ?_
    refine own_istore X hx (hb hby at_97) (Ls' := #[.val (.int y), .val (.int k), .val (.int yr), .val (.int mo), .val (.int ((30 : Int32) + ((mo + (mo / (8 : Int32))) &&& (1 : Int32)))), .unset, .unset]) rfl (pc' := 99) rfl ?_
    exact tail ((30 : Int32) + ((mo + (mo / (8 : Int32))) &&& (1 : Int32))) .unset .unset (by simp [own_exp, hc21])
  · refine own_iloadN X hx (hb hby at_24) rfl (pc' := 25) rfl ?_
    refine own_bipush X hx (hb hby at_25) (z := (100 : Int32)) rfl (pc' := 27) rfl ?_
    refine own_icmp_eq X hx (hb hby at_27) (pc1 := 30) (pc2 := 44) rfl (by decide) (fun hc27 => ?_) (fun hc27 => ?_)
    · refine own_iconst X hx (hb hby at_44) (z := (1 : Int32)) rfl (pc' := 45) rfl ?_
      refine own_goto X hx (hb hby at_45) (pc' := 49) (by decide) ?_
      refine own_istore X hx (hb hby at_49) (Ls' := #[.val (.int y), .val (.int k), .val (.int yr), .val (.int mo), .unset, .val (.int (1 : Int32)), .unset]) rfl (pc' := 51) rfl ?_
      refine own_iloadN X hx (hb hby at_51) rfl (pc' := 52) rfl ?_
      refine own_iconst X hx (hb hby at_52) (z := (3 : Int32)) rfl (pc' := 53) rfl ?_
      refine own_iand X hx (hb hby at_53) (pc' := 54) rfl ?_
      refine own_if_ne X hx (hb hby at_54) (pc1 := 57) (pc2 := 66) rfl (by decide) (fun hc54 => ?_) (fun hc54 => ?_)
      · refine own_iconst X hx (hb hby at_66) (z := (0 : Int32)) rfl (pc' := 67) rfl ?_
        refine own_istore X hx (hb hby at_67) (Ls' := #[.val (.int y), .val (.int k), .val (.int yr), .val (.int mo), .unset, .val (.int (1 : Int32)), .val (.int (0 : Int32))]) rfl (pc' := 69) rfl ?_
        refine own_iload X hx (hb hby at_69) rfl (pc' := 71) rfl ?_
        refine own_if_eq X hx (hb hby at_71) (pc1 := 74) (pc2 := 79) rfl (by decide) (fun hc71 => ?_) (fun hc71 => absurd hc71 (by decide))
        refine own_bipush X hx (hb hby at_79) (z := (28 : Int32)) rfl (pc' := 81) rfl ?_
        refine own_istore X hx (hb hby at_81) (Ls' := #[.val (.int y), .val (.int k), .val (.int yr), .val (.int mo), .val (.int (28 : Int32)), .val (.int (1 : Int32)), .val (.int (0 : Int32))]) rfl (pc' := 83) rfl ?_
        refine own_goto X hx (hb hby at_83) (pc' := 99) (by decide) ?_
        exact tail (28 : Int32) (.val (.int (1 : Int32))) (.val (.int (0 : Int32))) (by simp [own_exp, hc21, hc27, hc54])
      · refine own_iload X hx (hb hby at_57) rfl (pc' := 59) rfl ?_
        refine own_if_ne X hx (hb hby at_59) (pc1 := 62) (pc2 := 66) rfl (by decide) (fun hc59 => ?_) (fun hc59 => absurd hc59 (by decide))
        refine own_iconst X hx (hb hby at_66) (z := (0 : Int32)) rfl (pc' := 67) rfl ?_
        refine own_istore X hx (hb hby at_67) (Ls' := #[.val (.int y), .val (.int k), .val (.int yr), .val (.int mo), .unset, .val (.int (1 : Int32)), .val (.int (0 : Int32))]) rfl (pc' := 69) rfl ?_
        refine own_iload X hx (hb hby at_69) rfl (pc' := 71) rfl ?_
        refine own_if_eq X hx (hb hby at_71) (pc1 := 74) (pc2 := 79) rfl (by decide) (fun hc71 => ?_) (fun hc71 => absurd hc71 (by decide))
        refine own_bipush X hx (hb hby at_79) (z := (28 : Int32)) rfl (pc' := 81) rfl ?_
        refine own_istore X hx (hb hby at_81) (Ls' := #[.val (.int y), .val (.int k), .val (.int yr), .val (.int mo), .val (.int (28 : Int32)), .val (.int (1 : Int32)), .val (.int (0 : Int32))]) rfl (pc' := 83) rfl ?_
        refine own_goto X hx (hb hby at_83) (pc' := 99) (by decide) ?_
        exact tail (28 : Int32) (.val (.int (1 : Int32))) (.val (.int (0 : Int32))) (by simp [own_exp, hc21, hc27, hc54])
    · refine own_iloadN X hx (hb hby at_30) rfl (pc' := 31) rfl ?_
      refine own_sipush X hx (hb hby at_31) (z := (200 : Int32)) rfl (pc' := 34) rfl ?_
      refine own_icmp_eq X hx (hb hby at_34) (pc1 := 37) (pc2 := 44) rfl (by decide) (fun hc34 => ?_) (fun hc34 => ?_)
      · refine own_iconst X hx (hb hby at_44) (z := (1 : Int32)) rfl (pc' := 45) rfl ?_
        refine own_goto X hx (hb hby at_45) (pc' := 49) (by decide) ?_
        refine own_istore X hx (hb hby at_49) (Ls' := #[.val (.int y), .val (.int k), .val (.int yr), .val (.int mo), .unset, .val (.int (1 : Int32)), .unset]) rfl (pc' := 51) rfl ?_
        refine own_iloadN X hx (hb hby at_51) rfl (pc' := 52) rfl ?_
        refine own_iconst X hx (hb hby at_52) (z := (3 : Int32)) rfl (pc' := 53) rfl ?_
        refine own_iand X hx (hb hby at_53) (pc' := 54) rfl ?_
        refine own_if_ne X hx (hb hby at_54) (pc1 := 57) (pc2 := 66) rfl (by decide) (fun hc54 => ?_) (fun hc54 => ?_)
        · refine own_iconst X hx (hb hby at_66) (z := (0 : Int32)) rfl (pc' := 67) rfl ?_
          refine own_istore X hx (hb hby at_67) (Ls' := #[.val (.int y), .val (.int k), .val (.int yr), .val (.int mo), .unset, .val (.int (1 : Int32)), .val (.int (0 : Int32))]) rfl (pc' := 69) rfl ?_
          refine own_iload X hx (hb hby at_69) rfl (pc' := 71) rfl ?_
          refine own_if_eq X hx (hb hby at_71) (pc1 := 74) (pc2 := 79) rfl (by decide) (fun hc71 => ?_) (fun hc71 => absurd hc71 (by decide))
          refine own_bipush X hx (hb hby at_79) (z := (28 : Int32)) rfl (pc' := 81) rfl ?_
          refine own_istore X hx (hb hby at_81) (Ls' := #[.val (.int y), .val (.int k), .val (.int yr), .val (.int mo), .val (.int (28 : Int32)), .val (.int (1 : Int32)), .val (.int (0 : Int32))]) rfl (pc' := 83) rfl ?_
          refine own_goto X hx (hb hby at_83) (pc' := 99) (by decide) ?_
          exact tail (28 : Int32) (.val (.int (1 : Int32))) (.val (.int (0 : Int32))) (by simp [own_exp, hc21, hc27, hc34, hc54])
        · refine own_iload X hx (hb hby at_57) rfl (pc' := 59) rfl ?_
          refine own_if_ne X hx (hb hby at_59) (pc1 := 62) (pc2 := 66) rfl (by decide) (fun hc59 => ?_) (fun hc59 => absurd hc59 (by decide))
          refine own_iconst X hx (hb hby at_66) (z := (0 : Int32)) rfl (pc' := 67) rfl ?_
          refine own_istore X hx (hb hby at_67) (Ls' := #[.val (.int y), .val (.int k), .val (.int yr), .val (.int mo), .unset, .val (.int (1 : Int32)), .val (.int (0 : Int32))]) rfl (pc' := 69) rfl ?_
          refine own_iload X hx (hb hby at_69) rfl (pc' := 71) rfl ?_
          refine own_if_eq X hx (hb hby at_71) (pc1 := 74) (pc2 := 79) rfl (by decide) (fun hc71 => ?_) (fun hc71 => absurd hc71 (by decide))
          refine own_bipush X hx (hb hby at_79) (z := (28 : Int32)) rfl (pc' := 81) rfl ?_
          refine own_istore X hx (hb hby at_81) (Ls' := #[.val (.int y), .val (.int k), .val (.int yr), .val (.int mo), .val (.int (28 : Int32)), .val (.int (1 : Int32)), .val (.int (0 : Int32))]) rfl (pc' := 83) rfl ?_
          refine own_goto X hx (hb hby at_83) (pc' := 99) (by decide) ?_
          exact tail (28 : Int32) (.val (.int (1 : Int32))) (.val (.int (0 : Int32))) (by simp [own_exp, hc21, hc27, hc34, hc54])
      · refine own_iloadN X hx (hb hby at_37) rfl (pc' := 38) rfl ?_
        refine own_sipush X hx (hb hby at_38) (z := (300 : Int32)) rfl (pc' := 41) rfl ?_
        refine own_icmp_ne X hx (hb hby at_41) (pc1 := 44) (pc2 := 48) rfl (by decide) (fun hc41 => ?_) (fun hc41 => ?_)
        · refine own_iconst X hx (hb hby at_48) (z := (0 : Int32)) rfl (pc' := 49) rfl ?_
          refine own_istore X hx (hb hby at_49) (Ls' := #[.val (.int y), .val (.int k), .val (.int yr), .val (.int mo), .unset, .val (.int (0 : Int32)), .unset]) rfl (pc' := 51) rfl ?_
          refine own_iloadN X hx (hb hby at_51) rfl (pc' := 52) rfl ?_
          refine own_iconst X hx (hb hby at_52) (z := (3 : Int32)) rfl (pc' := 53) rfl ?_
          refine own_iand X hx (hb hby at_53) (pc' := 54) rfl ?_
          refine own_if_ne X hx (hb hby at_54) (pc1 := 57) (pc2 := 66) rfl (by decide) (fun hc54 => ?_) (fun hc54 => ?_)
          · refine own_iconst X hx (hb hby at_66) (z := (0 : Int32)) rfl (pc' := 67) rfl ?_
            refine own_istore X hx (hb hby at_67) (Ls' := #[.val (.int y), .val (.int k), .val (.int yr), .val (.int mo), .unset, .val (.int (0 : Int32)), .val (.int (0 : Int32))]) rfl (pc' := 69) rfl ?_
            refine own_iload X hx (hb hby at_69) rfl (pc' := 71) rfl ?_
            refine own_if_eq X hx (hb hby at_71) (pc1 := 74) (pc2 := 79) rfl (by decide) (fun hc71 => ?_) (fun hc71 => absurd hc71 (by decide))
            refine own_bipush X hx (hb hby at_79) (z := (28 : Int32)) rfl (pc' := 81) rfl ?_
            refine own_istore X hx (hb hby at_81) (Ls' := #[.val (.int y), .val (.int k), .val (.int yr), .val (.int mo), .val (.int (28 : Int32)), .val (.int (0 : Int32)), .val (.int (0 : Int32))]) rfl (pc' := 83) rfl ?_
            refine own_goto X hx (hb hby at_83) (pc' := 99) (by decide) ?_
            exact tail (28 : Int32) (.val (.int (0 : Int32))) (.val (.int (0 : Int32))) (by simp [own_exp, hc21, hc27, hc34, hc41, hc54])
          · refine own_iload X hx (hb hby at_57) rfl (pc' := 59) rfl ?_
            refine own_if_ne X hx (hb hby at_59) (pc1 := 62) (pc2 := 66) rfl (by decide) (fun hc59 => absurd hc59 (by decide)) (fun hc59 => ?_)
            refine own_iconst X hx (hb hby at_62) (z := (1 : Int32)) rfl (pc' := 63) rfl ?_
            refine own_goto X hx (hb hby at_63) (pc' := 67) (by decide) ?_
            refine own_istore X hx (hb hby at_67) (Ls' := #[.val (.int y), .val (.int k), .val (.int yr), .val (.int mo), .unset, .val (.int (0 : Int32)), .val (.int (1 : Int32))]) rfl (pc' := 69) rfl ?_
            refine own_iload X hx (hb hby at_69) rfl (pc' := 71) rfl ?_
            refine own_if_eq X hx (hb hby at_71) (pc1 := 74) (pc2 := 79) rfl (by decide) (fun hc71 => absurd hc71 (by decide)) (fun hc71 => ?_)
            refine own_bipush X hx (hb hby at_74) (z := (29 : Int32)) rfl (pc' := 76) rfl ?_
            refine own_goto X hx (hb hby at_76) (pc' := 81) (by decide) ?_
            refine own_istore X hx (hb hby at_81) (Ls' := #[.val (.int y), .val (.int k), .val (.int yr), .val (.int mo), .val (.int (29 : Int32)), .val (.int (0 : Int32)), .val (.int (1 : Int32))]) rfl (pc' := 83) rfl ?_
            refine own_goto X hx (hb hby at_83) (pc' := 99) (by decide) ?_
            exact tail (29 : Int32) (.val (.int (0 : Int32))) (.val (.int (1 : Int32))) (by simp [own_exp, hc21, hc27, hc34, hc41, hc54])
        · refine own_iconst X hx (hb hby at_44) (z := (1 : Int32)) rfl (pc' := 45) rfl ?_
          refine own_goto X hx (hb hby at_45) (pc' := 49) (by decide) ?_
          refine own_istore X hx (hb hby at_49) (Ls' := #[.val (.int y), .val (.int k), .val (.int yr), .val (.int mo), .unset, .val (.int (1 : Int32)), .unset]) rfl (pc' := 51) rfl ?_
          refine own_iloadN X hx (hb hby at_51) rfl (pc' := 52) rfl ?_
          refine own_iconst X hx (hb hby at_52) (z := (3 : Int32)) rfl (pc' := 53) rfl ?_
          refine own_iand X hx (hb hby at_53) (pc' := 54) rfl ?_
          refine own_if_ne X hx (hb hby at_54) (pc1 := 57) (pc2 := 66) rfl (by decide) (fun hc54 => ?_) (fun hc54 => ?_)
          · refine own_iconst X hx (hb hby at_66) (z := (0 : Int32)) rfl (pc' := 67) rfl ?_
            refine own_istore X hx (hb hby at_67) (Ls' := #[.val (.int y), .val (.int k), .val (.int yr), .val (.int mo), .unset, .val (.int (1 : Int32)), .val (.int (0 : Int32))]) rfl (pc' := 69) rfl ?_
            refine own_iload X hx (hb hby at_69) rfl (pc' := 71) rfl ?_
            refine own_if_eq X hx (hb hby at_71) (pc1 := 74) (pc2 := 79) rfl (by decide) (fun hc71 => ?_) (fun hc71 => absurd hc71 (by decide))
            refine own_bipush X hx (hb hby at_79) (z := (28 : Int32)) rfl (pc' := 81) rfl ?_
            refine own_istore X hx (hb hby at_81) (Ls' := #[.val (.int y), .val (.int k), .val (.int yr), .val (.int mo), .val (.int (28 : Int32)), .val (.int (1 : Int32)), .val (.int (0 : Int32))]) rfl (pc' := 83) rfl ?_
            refine own_goto X hx (hb hby at_83) (pc' := 99) (by decide) ?_
            exact tail (28 : Int32) (.val (.int (1 : Int32))) (.val (.int (0 : Int32))) (by simp [own_exp, hc21, hc27, hc34, hc41, hc54])
          · refine own_iload X hx (hb hby at_57) rfl (pc' := 59) rfl ?_
            refine own_if_ne X hx (hb hby at_59) (pc1 := 62) (pc2 := 66) rfl (by decide) (fun hc59 => ?_) (fun hc59 => absurd hc59 (by decide))
            refine own_iconst X hx (hb hby at_66) (z := (0 : Int32)) rfl (pc' := 67) rfl ?_
            refine own_istore X hx (hb hby at_67) (Ls' := #[.val (.int y), .val (.int k), .val (.int yr), .val (.int mo), .unset, .val (.int (1 : Int32)), .val (.int (0 : Int32))]) rfl (pc' := 69) rfl ?_
            refine own_iload X hx (hb hby at_69) rfl (pc' := 71) rfl ?_
            refine own_if_eq X hx (hb hby at_71) (pc1 := 74) (pc2 := 79) rfl (by decide) (fun hc71 => ?_) (fun hc71 => absurd hc71 (by decide))
            refine own_bipush X hx (hb hby at_79) (z := (28 : Int32)) rfl (pc' := 81) rfl ?_
            refine own_istore X hx (hb hby at_81) (Ls' := #[.val (.int y), .val (.int k), .val (.int yr), .val (.int mo), .val (.int (28 : Int32)), .val (.int (1 : Int32)), .val (.int (0 : Int32))]) rfl (pc' := 83) rfl ?_
            refine own_goto X hx (hb hby at_83) (pc' := 99) (by decide) ?_
            exact tail (28 : Int32) (.val (.int (1 : Int32))) (.val (.int (0 : Int32))) (by simp [own_exp, hc21, hc27, hc34, hc41, hc54])
set_option maxRecDepth 65536 in
set_option maxHeartbeats 40000000 in
theorem comes_1 {Post : Tables → Env → Array Value → State → Outcome → State → Prop} (hpost : ∀ tb e args s v u, (limb_1_1.after args s (.returned v) u = true ∧ limb_1_2.after args s (.returned v) u = true) → FrameEnd s (.returned v) u (Jvm.fieldLocs frame_1_writes args s ++ Jvm.arrayLocs frame_1_arrays args s ++ Jvm.staticLocs frame_1_statics s) 0 0 → Post tb e args s (.returned v) u) :
    ArmFor flags0 classFile x code maxLocals ret World_1 tables_1 room_1 Calls_1 rest_1 Pre_1 Post := by
  intro l hfl _ _ p e ha hc hk s m args below hf hA hF happ hP
  obtain ⟨hcalls, hrest, hpre⟩ := hP
  obtain ⟨-, -, -, hnamed, -, -, -, hat⟩ := (Spec.applies_iff hf).mp happ
  obtain ⟨hg, hn⟩ := and_e (Cond.before_iff.mp (show (Jvm.Cond.and given_1 narrow_1).before args s = true from hpre))
  obtain ⟨hcount, g0⟩ := and_e hg
  obtain ⟨v0, g1⟩ := and_e g0
  obtain ⟨w0, w1, rfl⟩ : ∃ w0 w1 : Value, args = #[w0, w1] := by
    have hs : args.size = 2 := by simpa [Cond.value, given_1] using hcount
    obtain ⟨L⟩ := args
    match L, hs with
    | [w0, w1], _ => exact ⟨w0, w1, rfl⟩
  have hw := fun d (hd : d ∈ tables_1) => atoms_spec (ws := Jvm.Cond.code x code maxLocals ret :: tables_1) hat d (List.mem_cons_of_mem _ hd)
  obtain ⟨i0, ei0⟩ := is_v v0
  obtain rfl : w0 = (.int i0) := Option.some.inj ei0
  obtain ⟨i1, ei1⟩ := is_v g1
  obtain rfl : w1 = (.int i1) := Option.some.inj ei1
  obtain ⟨n, o, h1, h2, h3, _, L, rfl, ⟨rfl, N⟩, hq⟩ := rm_law l s _ hw tables_1 i0 i1 s.heap s.heap.size (Nat.le_refl _) p e ha hc hk s m _ below hf ((Spec.applies_iff_loose hf).mp happ).1 ⟨rfl, State.Warmed39.refl s, rfl⟩ trivial
  refine ⟨n, _, h1, h2, h3, hpost _ _ _ _ _ _ ⟨Cond.after_iff.mpr rfl, Cond.after_iff.mpr (eq_i res_at (Term.int_eval (1)) rfl)⟩ ⟨hq.1, hq.2.1, (hq.2.2.sift fun y hy => Or.inr (N y hy)).mono (by decide) (by decide)⟩⟩
theorem main_1_1 : Claimed_1_1 := comes_1 fun _ _ _ _ _ _ h hF => ⟨h.1, hF⟩
theorem main_1_2 : Claimed_1_2 := comes_1 fun _ _ _ _ _ _ h hF => ⟨h.2, hF⟩
end Jvm.Pilot.@@N@@
namespace Jvm.Pilot.@@N@@
open Jvm Jvm.ClassFile Sem Op Lib Jvm.Free Jvm.Stand Jvm.Pilot.@@N@@.Jvm.D
/-! MADE BY PROGRAM (witnessworld.py) out of the Statement's table words and the real class files: 9 classes; the members and pool entries that the words name. The judged class is class 1, her method 1. -/
namespace start1
open Jvm.ClassFile
def u (s : String) : CpInfo := .utf8 (stringToUtf16 s)
/-- a pool by its gaps: so many unusable entries, then the entry; so many at the end -/
def gap : Nat → List CpInfo → List CpInfo
  | 0, r => r
  | n + 1, r => .unusable :: gap n r
def poolList (es : List (Nat × CpInfo)) (last : Nat) : List CpInfo := es.foldr (fun e r => gap e.1 (e.2 :: r)) (gap last [])
def pool (es : List (Nat × CpInfo)) (last : Nat) : Array CpInfo := ⟨poolList es last⟩
def fileOf (pool : Array CpInfo) (this : Nat) (attrs : Array Attribute := #[]) (ms : Array MethodInfo := #[]) (fl : Nat := 33) (sup : Nat := 0) (ifs : Array Nat := #[]) (fds : Array FieldInfo := #[]) : ClassFile where
  minorVersion := 0
  majorVersion := 65
  constantPool := pool
  accessFlags := fl
  thisClass := this
  superClass := sup
  interfaces := ifs
  fields := fds
  methods := ms
  attributes := attrs
def plain (name : String) (sup : Option ClassId) : Class where
  name := name
  kind := .ordinary
  loader := none
  accessFlags := 33
  super := sup
  interfaces := #[]
  cf := none
  fields := #[]
  methods := #[]
  instanceTypes := #[]
  staticTypes := #[]
  resolved := #[]
  callSites := []
  init := .initialized
  statics := none
  mirror := none

def pool0 : Array CpInfo := pool [(5, u "<init>"), (0, u "()V"), (1, .class_ 10), (1, u "java/lang/Object")] 113

def k0m0 : Method := { name := "<init>", desc := "()V", sig := { parameters := [], returnType := none }, accessFlags := 1, code := none }
/-- java/lang/Object -/
def k0 : Class := { plain "java/lang/Object" none with
  accessFlags := 33
  interfaces := #[]
  cf := some (fileOf pool0 8 #[] #[{ accessFlags := 1, nameIndex := 5, descriptorIndex := 6, attributes := #[] }] 33 0 #[] #[])
  fields := #[]
  methods := #[k0m0]
  instanceTypes := #[]
  staticTypes := #[]
  resolved := Array.replicate 124 none
  statics := none }

def pool1 : Array CpInfo := pool [(2, .class_ 4), (1, u "java/lang/Object"), (0, u "<init>"), (0, u "()V"), (0, .integer 2147483647), (0, .methodref 9 10), (0, .class_ 11), (0, .nameAndType 12 13), (0, u "com/example/blois/blois/DateTimeValue"), (0, u "daysInMonth"), (0, u "(II)I"), (0, .class_ 15), (0, u "com/example/blois/blois/DateTimeValueDaysInMonthPinLaw"), (2, u "law"), (0, u "(II)Z")] 3

def k1m0 : Method := { name := "<init>", desc := "()V", sig := { parameters := [], returnType := none }, accessFlags := 1, code := none }
def k1c1 : Code := { maxStack := 4, maxLocals := 7, code := code, exceptionTable := #[], attributes := #[] }
def k1m1 : Method := { name := "law", desc := "(II)Z", sig := { parameters := [.int, .int], returnType := some .boolean }, accessFlags := 9, code := some k1c1 }
/-- com/example/blois/blois/DateTimeValueDaysInMonthPinLaw -/
def k1 : Class := { plain "com/example/blois/blois/DateTimeValueDaysInMonthPinLaw" (some 0) with
  accessFlags := 49
  interfaces := #[]
  cf := some (fileOf pool1 14 #[] #[{ accessFlags := 1, nameIndex := 5, descriptorIndex := 6, attributes := #[] }, { accessFlags := 9, nameIndex := 18, descriptorIndex := 19, attributes := #[] }] 49 2 #[] #[])
  fields := #[]
  methods := #[k1m0, k1m1]
  instanceTypes := #[]
  staticTypes := #[]
  resolved := Array.replicate 23 none
  statics := none }

def pool2 : Array CpInfo := pool [(4, .class_ 6), (1, u "java/lang/Object"), (3, .class_ 12), (1, u "com/example/blois/blois/DateTimeValue"), (0, u "year"), (0, u "J"), (2, u "month"), (0, u "I"), (2, u "day"), (2, u "hour"), (2, u "minute"), (2, u "second"), (2, u "fraction"), (0, u "Ljava/lang/String;"), (2, u "zoned"), (0, u "Z"), (0, .class_ 40), (0, u "com/example/blois/blois/DateTimeValue$Reader"), (6, .class_ 49), (1, u "com/example/blois/blois/DateTimeValue$Form"), (56, u "daysInMonth"), (0, u "(II)I"), (94, u "YEAR"), (1, u "NO_ZONE")] 39

def k2c0 : Code := { maxStack := 2, maxLocals := 4, code := prog_42_method_6_code, exceptionTable := #[], attributes := #[] }
def k2m0 : Method := { name := "daysInMonth", desc := "(II)I", sig := { parameters := [.int, .int], returnType := some .int }, accessFlags := 8, code := some k2c0 }
/-- com/example/blois/blois/DateTimeValue -/
def k2 : Class := { plain "com/example/blois/blois/DateTimeValue" (some 0) with
  accessFlags := 32
  interfaces := #[]
  cf := some (fileOf pool2 10 #[.nestMembers #[39, 47]] #[{ accessFlags := 8, nameIndex := 106, descriptorIndex := 107, attributes := #[] }] 32 4 #[] #[{ accessFlags := 26, nameIndex := 202, descriptorIndex := 14, attributes := #[] }, { accessFlags := 26, nameIndex := 204, descriptorIndex := 18, attributes := #[] }, { accessFlags := 18, nameIndex := 13, descriptorIndex := 14, attributes := #[] }, { accessFlags := 18, nameIndex := 17, descriptorIndex := 18, attributes := #[] }, { accessFlags := 18, nameIndex := 21, descriptorIndex := 18, attributes := #[] }, { accessFlags := 18, nameIndex := 24, descriptorIndex := 18, attributes := #[] }, { accessFlags := 18, nameIndex := 27, descriptorIndex := 18, attributes := #[] }, { accessFlags := 18, nameIndex := 30, descriptorIndex := 18, attributes := #[] }, { accessFlags := 18, nameIndex := 33, descriptorIndex := 34, attributes := #[] }, { accessFlags := 18, nameIndex := 37, descriptorIndex := 38, attributes := #[] }])
  fields := #[{ name := "YEAR", type := .long, accessFlags := 26, slot := 0, constantValue := 0 }, { name := "NO_ZONE", type := .int, accessFlags := 26, slot := 1, constantValue := 0 }, { name := "year", type := .long, accessFlags := 18, slot := 0, constantValue := 0 }, { name := "month", type := .int, accessFlags := 18, slot := 1, constantValue := 0 }, { name := "day", type := .int, accessFlags := 18, slot := 2, constantValue := 0 }, { name := "hour", type := .int, accessFlags := 18, slot := 3, constantValue := 0 }, { name := "minute", type := .int, accessFlags := 18, slot := 4, constantValue := 0 }, { name := "second", type := .int, accessFlags := 18, slot := 5, constantValue := 0 }, { name := "fraction", type := (.object "java/lang/String"), accessFlags := 18, slot := 6, constantValue := 0 }, { name := "zoned", type := .boolean, accessFlags := 18, slot := 7, constantValue := 0 }]
  methods := #[k2m0]
  instanceTypes := #[.long, .int, .int, .int, .int, .int, (.object "java/lang/String"), .boolean]
  staticTypes := #[.long, .int]
  resolved := Array.replicate 244 none
  statics := none }

def pool3 : Array CpInfo := pool [(1, u "java/lang/Cloneable"), (0, .class_ 1), (0, u "java/lang/Object"), (0, .class_ 3)] 3

/-- java/lang/Cloneable -/
def k3 : Class := { plain "java/lang/Cloneable" (some 0) with
  accessFlags := 1537
  interfaces := #[]
  cf := some (fileOf pool3 2 #[] #[] 1537 4 #[] #[])
  fields := #[]
  methods := #[]
  instanceTypes := #[]
  staticTypes := #[]
  resolved := Array.replicate 8 none
  statics := none }

def pool4 : Array CpInfo := pool [(1, u "java/io/Serializable"), (0, .class_ 1), (0, u "java/lang/Object"), (0, .class_ 3)] 3

/-- java/io/Serializable -/
def k4 : Class := { plain "java/io/Serializable" (some 0) with
  accessFlags := 1537
  interfaces := #[]
  cf := some (fileOf pool4 2 #[] #[] 1537 4 #[] #[])
  fields := #[]
  methods := #[]
  instanceTypes := #[]
  staticTypes := #[]
  resolved := Array.replicate 8 none
  statics := none }

/-- the primitive byte -/
def k5 : Class := { plain "byte" none with kind := .primitive 'B', accessFlags := 0x411 }
/-- [B -/
def k6 : Class := { plain "[B" (some 0) with kind := .array 5 .byte, interfaces := #[3, 4], accessFlags := 1041 }

/-- the primitive int -/
def k7 : Class := { plain "int" none with kind := .primitive 'I', accessFlags := 0x411 }
/-- [I -/
def k8 : Class := { plain "[I" (some 0) with kind := .array 7 .int, interfaces := #[3, 4], accessFlags := 1041 }

def heap : Heap := #[]
def classes : Array Class := #[k0, k1, k2, k3, k4, k5, k6, k7, k8]
def interned : List (Array UInt16 × Addr) := []
def slotsUsed : Nat := 0
def theMethod : MethodId := ⟨1, 1⟩
def args0 : Array Value := #[.int 5, .int 7]
def aboutOver (below : List Frame) : State where
  vm := { classes := classes, interned := interned.toArray }
  heap := heap
  slotsUsed := slotsUsed
  threads := #[{ frames := .invoking theMethod args0 :: below }]
def below0 : List Frame := [.native { method := ⟨0, 0⟩, args := #[] }]
def about1 : State := aboutOver below0
def p0 : Program := .bare "" "" ""
def e0 : Env := launch0.env 0 0 0
theorem w_frames : about1.frames = Frame.invoking theMethod args0 :: below0 := rfl
set_option maxRecDepth 65536 in
theorem w_args : argsFit about1.vm theMethod args0 = true := by decide +kernel
set_option maxRecDepth 65536 in
theorem w_heap : heapFits about1 = true := by decide +kernel
set_option maxRecDepth 65536 in
theorem w_runnable : about1.curStatus? = some .runnable := by decide +kernel
set_option maxRecDepth 65536 in
theorem w_alone : about1.alone = true := by decide +kernel
set_option maxRecDepth 65536 in
theorem w_named : about1.methodNamed? x = some theMethod := by decide +kernel
set_option maxRecDepth 65536 in
theorem w_hears : about1.hears theMethod below0 = true := by decide +kernel
set_option maxRecDepth 65536 in
theorem w_ripe : about1.ripe theMethod args0 below0 = true := by decide +kernel
theorem w_running : about1.status = .running := rfl
set_option maxRecDepth 65536 in
theorem w_room : about1.hasRoom e0.platform room_1 = true :=
  launch0.hasRoom_least _ room_1 (by decide +kernel) (by decide +kernel) (by decide +kernel) (by decide +kernel) (by decide +kernel) (by decide +kernel)
theorem allAtoms_all (ts : List Jvm.Cond) (a : Array Jvm.Value) (st : Jvm.State) : (allAtoms ts).before a st = ts.all (fun c => c.before a st) := by
  induction ts with
  | nil => rfl
  | cons c t ih =>
    show (Jvm.Cond.and c (allAtoms t)).before a st = _
    rw [Jvm.Cond.before_and, ih, List.all_cons]
def words1 : List Jvm.Cond := Jvm.Cond.code x code maxLocals ret :: tables_1
/-- a 'code' word, met by the world's own term for the bytes: nothing is compared byte by byte -/
theorem code_word {y : MethodName} {bytes : ByteArray} {mx : Nat} {rt : Option FieldType} {a : Array Value} {s : State} {m : MethodId} {meth : Method} {c : Code} (h1 : s.methodNamed? y = some m) (h2 : s.vm.method? m = some meth) (h3 : meth.code = some c) (h4 : c.code = bytes)
    (h5 : (c.maxLocals == mx && c.exceptionTable.isEmpty && decide (c.maxStack ≤ mostOperands) && decide (meth.sig.returnType = rt) && !meth.locks && decide (parseMethodDescriptor y.desc = some meth.sig)) = true) : (Jvm.Cond.code y bytes mx rt).before a s = true := by
  simp only [Bool.and_eq_true, beq_iff_eq, Bool.not_eq_true', decide_eq_true_eq] at h5
  obtain ⟨⟨⟨⟨⟨g1, g2⟩, g3⟩, g4⟩, g5⟩, g6⟩ := h5
  simp [Cond.before, Cond.holds, Cond.value, h1, h2, h3, h4, g1, g2, g3, g4, g5, g6]
def isCode : Jvm.Cond → Bool
  | .code _ _ _ _ => true
  | _ => false
theorem all_split {L : List Jvm.Cond} {P : Jvm.Cond → Bool} (h1 : L.all (fun c => isCode c || P c) = true) (h2 : ∀ c ∈ L.filter isCode, P c = true) : L.all P = true := by
  refine List.all_eq_true.mpr fun c hc => ?_
  have h := List.all_eq_true.mp h1 c hc
  rcases Bool.eq_false_or_eq_true (isCode c) with hi | hi
  · exact h2 c (List.mem_filter.mpr ⟨hc, hi⟩)
  · simpa [hi] using h
set_option maxRecDepth 65536 in
theorem w_c0 : (Jvm.Cond.code x code maxLocals ret).before args0 about1 = true := code_word (m := ⟨1, 1⟩) (meth := k1m1) (c := k1c1) (by decide +kernel) rfl rfl rfl (by decide +kernel)
set_option maxRecDepth 65536 in
theorem w_c1 : (Jvm.Cond.code ({ cls := "com/example/blois/blois/DateTimeValue", name := "daysInMonth", desc := "(II)I" } : Jvm.MethodName) prog_42_method_6_code (4 : Nat) (Option.some Jvm.ClassFile.FieldType.int)).before args0 about1 = true := code_word (m := ⟨2, 0⟩) (meth := k2m0) (c := k2c0) (by decide +kernel) rfl rfl rfl (by decide +kernel)
def codes1 : List Jvm.Cond := [Jvm.Cond.code x code maxLocals ret, Jvm.Cond.code ({ cls := "com/example/blois/blois/DateTimeValue", name := "daysInMonth", desc := "(II)I" } : Jvm.MethodName) prog_42_method_6_code (4 : Nat) (Option.some Jvm.ClassFile.FieldType.int)]
set_option maxRecDepth 65536 in
theorem codes_eq : words1.filter isCode = codes1 := rfl
theorem w_codes : ∀ c ∈ words1.filter isCode, c.before args0 about1 = true := by
  rw [codes_eq]
  intro c hc
  simp only [codes1, List.mem_cons, List.not_mem_nil, or_false] at hc
  rcases hc with rfl | rfl
  · exact w_c0
  · exact w_c1
set_option maxRecDepth 65536 in
theorem w_t1 : words1.all (fun c => isCode c || c.before args0 about1) = true := by decide +kernel
theorem w_tables : (allAtoms (Jvm.Cond.code x code maxLocals ret :: tables_1)).before args0 about1 = true := by
  rw [allAtoms_all]
  show words1.all (fun c => c.before args0 about1) = true
  refine all_split ?_ w_codes
  rw [w_t1]
set_option maxRecDepth 65536 in
theorem w_case : (Jvm.Cond.and given_1 narrow_1).before args0 about1 = true := by decide +kernel
theorem w_applies : (headSpec (Jvm.Cond.code x code maxLocals ret :: tables_1) room_1).applies x e0.platform about1 = true :=
  (Spec.applies_iff w_frames).mpr ⟨w_running, w_runnable, w_alone, w_named, w_hears, w_ripe, w_room, w_tables⟩
theorem atStart : AtStart classFile x code maxLocals ret World_1 tables_1 room_1 Calls_1 rest_1 Pre_1 launch0 p0 e0 about1 theMethod args0 below0 :=
  ⟨lists_1, trivial, launch0.admits_env _ _ _, launch0.least_env, fairChoices_fair.cas, fairChoices_fair.clock, w_frames, w_args, w_heap, w_applies, trivial, trivial, w_case⟩
end start1
theorem witness_1 : WitnessClaimed_1 := ⟨start1.p0, start1.e0, start1.about1, start1.theMethod, start1.args0, start1.below0, start1.atStart⟩
end Jvm.Pilot.@@N@@
