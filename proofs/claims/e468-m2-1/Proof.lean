import JvmDerived
import JvmDerived.Pilot.@@N@@Statement
import JvmDerived.Pilot.@@N@@Code
set_option linter.unusedVariables false
set_option linter.unusedSimpArgs false
namespace Jvm.Pilot.@@N@@
open Jvm Jvm.ClassFile Sem Op Lib Jvm.Free Jvm.Stand Jvm.LawKit Jvm.RoadKit Bundle Jvm.Pilot.@@N@@.Jvm.D
section OwnKit
variable {p : Program} {l : Launch} {e : Env} {R : Room} {s : State} {m : MethodId} {args : Array Value} {below : List Frame} {meth : Method} {c : Code} {T : State} {locs : List Loc} {cells slots : Nat} {Z : State} {a0 : Array Value} {h : Heap} {Q : Option Value → Heap → List Loc → Prop} {rc rs : Nat} {pc pc' : Nat} {Ls Ls' : Array Slot} {st : List Value} {own : String} {index : Nat}
/-- from the state S the body comes to its end as Q says, with at most rc new cells and rs new slots -/
def OwnGo (p : Program) (e : Env) (below : List Frame) (s : State) (Q : Option Value → Heap → List Loc → Prop) (rc rs : Nat) (S : State) : Prop :=
  ∃ t o, Steps p.tables e below S t ∧ t.status = .running ∧ Ended t below o ∧ ∃ v L, o = .returned v ∧ Q v t.heap L ∧ FrameEnd s o t L rc rs
theorem own_step {S S' : State} (k : ∀ t, Steps p.tables e below S' t → Steps p.tables e below S t) (g : OwnGo p e below s Q rc rs S') : OwnGo p e below s Q rc rs S := by
  obtain ⟨t, o, h1, r⟩ := g
  exact ⟨t, o, k t h1, r⟩
theorem own_cast {g g' : JFrame} (q : g = g') (k : OwnGo p e below s Q rc rs (T.setTop g')) : OwnGo p e below s Q rc rs (T.setTop g) := q ▸ k
theorem own_met {y : MethodName} {bytes : ByteArray} {maxL : Nat} {ret : Option FieldType} {rm : Room} {ws : List Jvm.Cond} {as' : Array Value} (hpl : plainFor y = true) (ef : ∀ m, entryFrame m as' maxL = mkF m 0 Ls [])
    (body : ∀ (p : Program) (e : Env) (s : State) (m : MethodId) (below : List Frame) (meth : Method) (c : Code) (T : State), p.tables.exec = Jvm.exec → Z.Warmed39 s.vm → c.code = bytes → c.maxLocals = maxL → s.vm.findClass y.cls = some m.cls → meth.name = y.name → meth.sig.returnType = ret → meth.locks = false → Stand p l e rm s m as' below meth c T [] 0 0 → T.heap = h → OwnGo p e below s Q rm.cells rm.slots (T.setTop (mkF m 0 Ls []))) :
    MetFree l y (head1 (Jvm.Cond.code y bytes maxL ret :: ws) rm) (fun a U => a = as' ∧ Z.Warmed39 U.vm ∧ U.heap = h) (fun _ _ _ _ _ => True) (fun _ U o U' => ∃ v L, o = .returned v ∧ Q v U'.heap L ∧ FrameEnd U o U' L rm.cells rm.slots) := by
  refine MetFree.of_bodySF hpl hisR ?_
  intro p e s m args below meth c s₁ Bd hml0 hP hK
  obtain ⟨rfl, hZ, hh⟩ := hP
  have X0 : Stand p l e rm s m args below meth c s₁ [] 0 0 := Stand.of_body Bd
  have e0 : s₁.heap = h := by rw [← hh, Bd.state]; rfl
  have q := body p e s m below meth c s₁ Bd.exec hZ Bd.bytes hml0 (findClass_of_methodNamed Bd.named) (name_of_methodNamed Bd.named Bd.method).1 Bd.returns Bd.notSynchronized X0 e0
  rw [← ef m] at q
  exact q

theorem own_iloadN (X : Stand p l e R s m args below meth c T locs cells slots) (hx : p.tables.exec = Jvm.exec) {k : Fin 4} {v : Int32} (hd : decode c.code pc = .ok (.iload_n k, 1)) (hl : Ls[k.val]? = some (.val (.int v))) (hp : pc + 1 = pc') (g : OwnGo p e below s Q rc rs (T.setTop (mkF m pc' Ls (.int v :: st)))) : OwnGo p e below s Q rc rs (T.setTop (mkF m pc Ls st)) := by
  subst hp
  exact own_step (fun _ k => XS.iloadN X.here hx rfl hd hl k) g
theorem own_lloadN (X : Stand p l e R s m args below meth c T locs cells slots) (hx : p.tables.exec = Jvm.exec) {k : Fin 4} {v : Int64} (hd : decode c.code pc = .ok (.lload_n k, 1)) (hl : Ls[k.val]? = some (.val (.long v))) (hp : pc + 1 = pc') (g : OwnGo p e below s Q rc rs (T.setTop (mkF m pc' Ls (.long v :: st)))) : OwnGo p e below s Q rc rs (T.setTop (mkF m pc Ls st)) := by
  subst hp
  exact own_step (fun _ k => XS.lloadN X.here hx rfl hd hl k) g
theorem own_aloadN (X : Stand p l e R s m args below meth c T locs cells slots) (hx : p.tables.exec = Jvm.exec) {k : Fin 4} {v : Value} (hd : decode c.code pc = .ok (.aload_n k, 1)) (hl : Ls[k.val]? = some (.val v)) (hv : v.isRef = true) (hp : pc + 1 = pc') (g : OwnGo p e below s Q rc rs (T.setTop (mkF m pc' Ls (v :: st)))) : OwnGo p e below s Q rc rs (T.setTop (mkF m pc Ls st)) := by
  subst hp
  exact own_step (fun _ k => XS.aloadN X.here hx rfl hd hl hv k) g
theorem own_istoreN (X : Stand p l e R s m args below meth c T locs cells slots) (hx : p.tables.exec = Jvm.exec) {k : Fin 4} {v : Int32} (hd : decode c.code pc = .ok (.istore_n k, 1)) (hl : storeLocals Ls k.val (.int v) = some Ls') (hp : pc + 1 = pc') (g : OwnGo p e below s Q rc rs (T.setTop (mkF m pc' Ls' st))) : OwnGo p e below s Q rc rs (T.setTop (mkF m pc Ls (.int v :: st))) := by
  subst hp
  exact own_step (fun _ k => XS.istoreN X.here hx rfl hd rfl hl k) g
theorem own_lstoreN (X : Stand p l e R s m args below meth c T locs cells slots) (hx : p.tables.exec = Jvm.exec) {k : Fin 4} {v : Int64} (hd : decode c.code pc = .ok (.lstore_n k, 1)) (hl : storeLocals Ls k.val (.long v) = some Ls') (hp : pc + 1 = pc') (g : OwnGo p e below s Q rc rs (T.setTop (mkF m pc' Ls' st))) : OwnGo p e below s Q rc rs (T.setTop (mkF m pc Ls (.long v :: st))) := by
  subst hp
  exact own_step (fun _ k => XS.lstoreN X.here hx rfl hd rfl hl k) g
theorem own_astoreN (X : Stand p l e R s m args below meth c T locs cells slots) (hx : p.tables.exec = Jvm.exec) {k : Fin 4} {v : Value} (hd : decode c.code pc = .ok (.astore_n k, 1)) (hv : v.isRef = true) (hl : storeLocals Ls k.val v = some Ls') (hp : pc + 1 = pc') (g : OwnGo p e below s Q rc rs (T.setTop (mkF m pc' Ls' st))) : OwnGo p e below s Q rc rs (T.setTop (mkF m pc Ls (v :: st))) := by
  subst hp
  exact own_step (fun _ k => XS.astoreN X.here hx rfl hd rfl hv hl k) g
theorem own_iload (X : Stand p l e R s m args below meth c T locs cells slots) (hx : p.tables.exec = Jvm.exec) {k : Nat} {v : Int32} (hd : decode c.code pc = .ok (.iload k, 2)) (hl : Ls[k]? = some (.val (.int v))) (hp : pc + 2 = pc') (g : OwnGo p e below s Q rc rs (T.setTop (mkF m pc' Ls (.int v :: st)))) : OwnGo p e below s Q rc rs (T.setTop (mkF m pc Ls st)) := by
  subst hp
  exact own_step (fun _ k => XS.iload X.here hx rfl hd hl k) g
theorem own_lload (X : Stand p l e R s m args below meth c T locs cells slots) (hx : p.tables.exec = Jvm.exec) {k : Nat} {v : Int64} (hd : decode c.code pc = .ok (.lload k, 2)) (hl : Ls[k]? = some (.val (.long v))) (hp : pc + 2 = pc') (g : OwnGo p e below s Q rc rs (T.setTop (mkF m pc' Ls (.long v :: st)))) : OwnGo p e below s Q rc rs (T.setTop (mkF m pc Ls st)) := by
  subst hp
  exact own_step (fun _ k => XS.lload X.here hx rfl hd hl k) g
theorem own_aload (X : Stand p l e R s m args below meth c T locs cells slots) (hx : p.tables.exec = Jvm.exec) {k : Nat} {v : Value} (hd : decode c.code pc = .ok (.aload k, 2)) (hl : Ls[k]? = some (.val v)) (hv : v.isRef = true) (hp : pc + 2 = pc') (g : OwnGo p e below s Q rc rs (T.setTop (mkF m pc' Ls (v :: st)))) : OwnGo p e below s Q rc rs (T.setTop (mkF m pc Ls st)) := by
  subst hp
  exact own_step (fun _ k => XS.aload X.here hx rfl hd hl hv k) g
theorem own_istore (X : Stand p l e R s m args below meth c T locs cells slots) (hx : p.tables.exec = Jvm.exec) {k : Nat} {v : Int32} (hd : decode c.code pc = .ok (.istore k, 2)) (hl : storeLocals Ls k (.int v) = some Ls') (hp : pc + 2 = pc') (g : OwnGo p e below s Q rc rs (T.setTop (mkF m pc' Ls' st))) : OwnGo p e below s Q rc rs (T.setTop (mkF m pc Ls (.int v :: st))) := by
  subst hp
  exact own_step (fun _ k => XS.istore X.here hx rfl hd rfl hl k) g
theorem own_lstore (X : Stand p l e R s m args below meth c T locs cells slots) (hx : p.tables.exec = Jvm.exec) {k : Nat} {v : Int64} (hd : decode c.code pc = .ok (.lstore k, 2)) (hl : storeLocals Ls k (.long v) = some Ls') (hp : pc + 2 = pc') (g : OwnGo p e below s Q rc rs (T.setTop (mkF m pc' Ls' st))) : OwnGo p e below s Q rc rs (T.setTop (mkF m pc Ls (.long v :: st))) := by
  subst hp
  exact own_step (fun _ k => XS.lstore X.here hx rfl hd rfl hl k) g
theorem own_astore (X : Stand p l e R s m args below meth c T locs cells slots) (hx : p.tables.exec = Jvm.exec) {k : Nat} {v : Value} (hd : decode c.code pc = .ok (.astore k, 2)) (hv : v.isRef = true) (hl : storeLocals Ls k v = some Ls') (hp : pc + 2 = pc') (g : OwnGo p e below s Q rc rs (T.setTop (mkF m pc' Ls' st))) : OwnGo p e below s Q rc rs (T.setTop (mkF m pc Ls (v :: st))) := by
  subst hp
  exact own_step (fun _ k => XS.astore X.here hx rfl hd rfl hv hl k) g
theorem own_iconst (X : Stand p l e R s m args below meth c T locs cells slots) (hx : p.tables.exec = Jvm.exec) {i : Int} {z : Int32} (hd : decode c.code pc = .ok (.iconst i, 1)) (hz : Int32.ofInt i = z) (hp : pc + 1 = pc') (g : OwnGo p e below s Q rc rs (T.setTop (mkF m pc' Ls (.int z :: st)))) : OwnGo p e below s Q rc rs (T.setTop (mkF m pc Ls st)) := by
  subst hp hz
  exact own_step (fun _ k => XS.iconst X.here hx rfl hd k) g
theorem own_bipush (X : Stand p l e R s m args below meth c T locs cells slots) (hx : p.tables.exec = Jvm.exec) {i : Int} {z : Int32} (hd : decode c.code pc = .ok (.bipush i, 2)) (hz : (Int8.ofInt i).toInt32 = z) (hp : pc + 2 = pc') (g : OwnGo p e below s Q rc rs (T.setTop (mkF m pc' Ls (.int z :: st)))) : OwnGo p e below s Q rc rs (T.setTop (mkF m pc Ls st)) := by
  subst hp hz
  exact own_step (fun _ k => XS.bipush X.here hx rfl hd k) g
theorem own_sipush (X : Stand p l e R s m args below meth c T locs cells slots) (hx : p.tables.exec = Jvm.exec) {i : Int} {z : Int32} (hd : decode c.code pc = .ok (.sipush i, 3)) (hz : (Int16.ofInt i).toInt32 = z) (hp : pc + 3 = pc') (g : OwnGo p e below s Q rc rs (T.setTop (mkF m pc' Ls (.int z :: st)))) : OwnGo p e below s Q rc rs (T.setTop (mkF m pc Ls st)) := by
  subst hp hz
  exact own_step (fun _ k => XS.sipush X.here hx rfl hd k) g
theorem own_lconst (X : Stand p l e R s m args below meth c T locs cells slots) (hx : p.tables.exec = Jvm.exec) {i : Fin 2} {z : Int64} (hd : decode c.code pc = .ok (.lconst i, 1)) (hz : Int64.ofNat i = z) (hp : pc + 1 = pc') (g : OwnGo p e below s Q rc rs (T.setTop (mkF m pc' Ls (.long z :: st)))) : OwnGo p e below s Q rc rs (T.setTop (mkF m pc Ls st)) := by
  subst hp hz
  exact own_step (fun _ k => XS.lconst X.here hx rfl hd k) g
theorem own_iadd (X : Stand p l e R s m args below meth c T locs cells slots) (hx : p.tables.exec = Jvm.exec) {x y : Int32} (hd : decode c.code pc = .ok (.iadd, 1))  (hp : pc + 1 = pc') (g : OwnGo p e below s Q rc rs (T.setTop (mkF m pc' Ls (.int (x + y) :: st)))) : OwnGo p e below s Q rc rs (T.setTop (mkF m pc Ls (.int y :: .int x :: st))) := by
  subst hp
  exact own_step (fun _ k => XS.iadd X.here hx rfl hd rfl k) g
theorem own_isub (X : Stand p l e R s m args below meth c T locs cells slots) (hx : p.tables.exec = Jvm.exec) {x y : Int32} (hd : decode c.code pc = .ok (.isub, 1))  (hp : pc + 1 = pc') (g : OwnGo p e below s Q rc rs (T.setTop (mkF m pc' Ls (.int (x - y) :: st)))) : OwnGo p e below s Q rc rs (T.setTop (mkF m pc Ls (.int y :: .int x :: st))) := by
  subst hp
  exact own_step (fun _ k => XS.isub X.here hx rfl hd rfl k) g
theorem own_imul (X : Stand p l e R s m args below meth c T locs cells slots) (hx : p.tables.exec = Jvm.exec) {x y : Int32} (hd : decode c.code pc = .ok (.imul, 1))  (hp : pc + 1 = pc') (g : OwnGo p e below s Q rc rs (T.setTop (mkF m pc' Ls (.int (x * y) :: st)))) : OwnGo p e below s Q rc rs (T.setTop (mkF m pc Ls (.int y :: .int x :: st))) := by
  subst hp
  exact own_step (fun _ k => XS.imul X.here hx rfl hd rfl k) g
theorem own_iand (X : Stand p l e R s m args below meth c T locs cells slots) (hx : p.tables.exec = Jvm.exec) {x y : Int32} (hd : decode c.code pc = .ok (.iand, 1))  (hp : pc + 1 = pc') (g : OwnGo p e below s Q rc rs (T.setTop (mkF m pc' Ls (.int (x &&& y) :: st)))) : OwnGo p e below s Q rc rs (T.setTop (mkF m pc Ls (.int y :: .int x :: st))) := by
  subst hp
  exact own_step (fun _ k => XS.iand X.here hx rfl hd rfl k) g
theorem own_iushr (X : Stand p l e R s m args below meth c T locs cells slots) (hx : p.tables.exec = Jvm.exec) {x y : Int32} (hd : decode c.code pc = .ok (.iushr, 1))  (hp : pc + 1 = pc') (g : OwnGo p e below s Q rc rs (T.setTop (mkF m pc' Ls (.int (XT.ushr x y) :: st)))) : OwnGo p e below s Q rc rs (T.setTop (mkF m pc Ls (.int y :: .int x :: st))) := by
  subst hp
  exact own_step (fun _ k => XT.iushr X.here hx rfl hd rfl k) g
theorem own_ladd (X : Stand p l e R s m args below meth c T locs cells slots) (hx : p.tables.exec = Jvm.exec) {x y : Int64} (hd : decode c.code pc = .ok (.ladd, 1))  (hp : pc + 1 = pc') (g : OwnGo p e below s Q rc rs (T.setTop (mkF m pc' Ls (.long (x + y) :: st)))) : OwnGo p e below s Q rc rs (T.setTop (mkF m pc Ls (.long y :: .long x :: st))) := by
  subst hp
  exact own_step (fun _ k => XS.ladd X.here hx rfl hd rfl k) g
theorem own_lsub (X : Stand p l e R s m args below meth c T locs cells slots) (hx : p.tables.exec = Jvm.exec) {x y : Int64} (hd : decode c.code pc = .ok (.lsub, 1))  (hp : pc + 1 = pc') (g : OwnGo p e below s Q rc rs (T.setTop (mkF m pc' Ls (.long (x - y) :: st)))) : OwnGo p e below s Q rc rs (T.setTop (mkF m pc Ls (.long y :: .long x :: st))) := by
  subst hp
  exact own_step (fun _ k => XS.lsub X.here hx rfl hd rfl k) g
theorem own_land (X : Stand p l e R s m args below meth c T locs cells slots) (hx : p.tables.exec = Jvm.exec) {x y : Int64} (hd : decode c.code pc = .ok (.land, 1))  (hp : pc + 1 = pc') (g : OwnGo p e below s Q rc rs (T.setTop (mkF m pc' Ls (.long (x &&& y) :: st)))) : OwnGo p e below s Q rc rs (T.setTop (mkF m pc Ls (.long y :: .long x :: st))) := by
  subst hp
  exact own_step (fun _ k => XS.land X.here hx rfl hd rfl k) g
theorem own_lushr (X : Stand p l e R s m args below meth c T locs cells slots) (hx : p.tables.exec = Jvm.exec) {x : Int64} {y : Int32} (hd : decode c.code pc = .ok (.lushr, 1))  (hp : pc + 1 = pc') (g : OwnGo p e below s Q rc rs (T.setTop (mkF m pc' Ls (.long (XT.ushrL x y) :: st)))) : OwnGo p e below s Q rc rs (T.setTop (mkF m pc Ls (.int y :: .long x :: st))) := by
  subst hp
  exact own_step (fun _ k => XT.lushr X.here hx rfl hd rfl k) g
theorem own_lcmp (X : Stand p l e R s m args below meth c T locs cells slots) (hx : p.tables.exec = Jvm.exec) {x y : Int64} (hd : decode c.code pc = .ok (.lcmp, 1))  (hp : pc + 1 = pc') (g : OwnGo p e below s Q rc rs (T.setTop (mkF m pc' Ls (.int (XT.cmpL x y) :: st)))) : OwnGo p e below s Q rc rs (T.setTop (mkF m pc Ls (.long y :: .long x :: st))) := by
  subst hp
  exact own_step (fun _ k => XT.lcmp X.here hx rfl hd rfl k) g
theorem own_irem (X : Stand p l e R s m args below meth c T locs cells slots) (hx : p.tables.exec = Jvm.exec) {x y : Int32} (hd : decode c.code pc = .ok (.irem, 1)) (hy : y ≠ 0) (hp : pc + 1 = pc') (g : OwnGo p e below s Q rc rs (T.setTop (mkF m pc' Ls (.int (x % y) :: st)))) : OwnGo p e below s Q rc rs (T.setTop (mkF m pc Ls (.int y :: .int x :: st))) := by
  subst hp
  exact own_step (fun _ k => iremM X hx rfl hd rfl hy k) g
theorem own_idiv (X : Stand p l e R s m args below meth c T locs cells slots) (hx : p.tables.exec = Jvm.exec) {x y : Int32} (hd : decode c.code pc = .ok (.idiv, 1)) (hy : y ≠ 0) (hp : pc + 1 = pc') (g : OwnGo p e below s Q rc rs (T.setTop (mkF m pc' Ls (.int (x / y) :: st)))) : OwnGo p e below s Q rc rs (T.setTop (mkF m pc Ls (.int y :: .int x :: st))) := by
  subst hp
  exact own_step (fun _ k => XS.idiv X.here hx rfl hd rfl hy k) g
theorem own_lrem (X : Stand p l e R s m args below meth c T locs cells slots) (hx : p.tables.exec = Jvm.exec) {x y : Int64} (hd : decode c.code pc = .ok (.lrem, 1)) (hy : y ≠ 0) (hp : pc + 1 = pc') (g : OwnGo p e below s Q rc rs (T.setTop (mkF m pc' Ls (.long (x % y) :: st)))) : OwnGo p e below s Q rc rs (T.setTop (mkF m pc Ls (.long y :: .long x :: st))) := by
  subst hp
  exact own_step (fun _ k => XS.lrem X.here hx rfl hd rfl hy (by rw [lrem_mod]; exact k)) g
theorem own_i2l (X : Stand p l e R s m args below meth c T locs cells slots) (hx : p.tables.exec = Jvm.exec) {x : Int32} (hd : decode c.code pc = .ok (.i2l, 1))  (hp : pc + 1 = pc') (g : OwnGo p e below s Q rc rs (T.setTop (mkF m pc' Ls (.long x.toInt64 :: st)))) : OwnGo p e below s Q rc rs (T.setTop (mkF m pc Ls (.int x :: st))) := by
  subst hp
  exact own_step (fun _ k => XS.i2l X.here hx rfl hd rfl k) g
theorem own_l2i (X : Stand p l e R s m args below meth c T locs cells slots) (hx : p.tables.exec = Jvm.exec) {x : Int64} (hd : decode c.code pc = .ok (.l2i, 1))  (hp : pc + 1 = pc') (g : OwnGo p e below s Q rc rs (T.setTop (mkF m pc' Ls (.int x.toInt32 :: st)))) : OwnGo p e below s Q rc rs (T.setTop (mkF m pc Ls (.long x :: st))) := by
  subst hp
  exact own_step (fun _ k => XS.l2i X.here hx rfl hd rfl k) g
theorem own_i2b (X : Stand p l e R s m args below meth c T locs cells slots) (hx : p.tables.exec = Jvm.exec) {x : Int32} (hd : decode c.code pc = .ok (.i2b, 1))  (hp : pc + 1 = pc') (g : OwnGo p e below s Q rc rs (T.setTop (mkF m pc' Ls (.int x.toInt8.toInt32 :: st)))) : OwnGo p e below s Q rc rs (T.setTop (mkF m pc Ls (.int x :: st))) := by
  subst hp
  exact own_step (fun _ k => XS.i2b X.here hx rfl hd rfl k) g
theorem own_i2c (X : Stand p l e R s m args below meth c T locs cells slots) (hx : p.tables.exec = Jvm.exec) {x : Int32} (hd : decode c.code pc = .ok (.i2c, 1))  (hp : pc + 1 = pc') (g : OwnGo p e below s Q rc rs (T.setTop (mkF m pc' Ls (.int x.toUInt32.toUInt16.toUInt32.toInt32 :: st)))) : OwnGo p e below s Q rc rs (T.setTop (mkF m pc Ls (.int x :: st))) := by
  subst hp
  exact own_step (fun _ k => XS.i2c X.here hx rfl hd rfl k) g
theorem own_dup (X : Stand p l e R s m args below meth c T locs cells slots) (hx : p.tables.exec = Jvm.exec) {x : Value} (hd : decode c.code pc = .ok (.dup, 1)) (hc : x.category = 1) (hp : pc + 1 = pc') (g : OwnGo p e below s Q rc rs (T.setTop (mkF m pc' Ls (x :: x :: st)))) : OwnGo p e below s Q rc rs (T.setTop (mkF m pc Ls (x :: st))) := by
  subst hp
  exact own_step (fun _ k => XS.dup X.here hx rfl hd rfl hc k) g
theorem own_aconst_null (X : Stand p l e R s m args below meth c T locs cells slots) (hx : p.tables.exec = Jvm.exec)  (hd : decode c.code pc = .ok (.aconst_null, 1))  (hp : pc + 1 = pc') (g : OwnGo p e below s Q rc rs (T.setTop (mkF m pc' Ls (.null :: st)))) : OwnGo p e below s Q rc rs (T.setTop (mkF m pc Ls st)) := by
  subst hp
  exact own_step (fun _ k => XS.aconstNull X.here hx rfl hd k) g
theorem own_iinc (X : Stand p l e R s m args below meth c T locs cells slots) (hx : p.tables.exec = Jvm.exec) {k : Nat} {cst : Int} {x z : Int32} (hd : decode c.code pc = .ok (.iinc k cst, 3)) (hl : Ls[k]? = some (.val (.int x))) (hz : x + Int32.ofInt cst = z) (hl' : storeLocals Ls k (.int z) = some Ls') (hp : pc + 3 = pc') (g : OwnGo p e below s Q rc rs (T.setTop (mkF m pc' Ls' st))) : OwnGo p e below s Q rc rs (T.setTop (mkF m pc Ls st)) := by
  subst hp hz
  exact own_step (fun _ k => XS.iinc X.here hx rfl hd hl hl' k) g
theorem own_ldcI (X : Stand p l e R s m args below meth c T locs cells slots) (hx : p.tables.exec = Jvm.exec) (hZ : Z.Warmed39 s.vm) (hown : s.vm.findClass own = some m.cls) {v : Int32} (w : (Cond.constant own index v).before a0 Z = true) (hd : decode c.code pc = .ok (.ldc index, 2))  (hp : pc + 2 = pc') (g : OwnGo p e below s Q rc rs (T.setTop (mkF m pc' Ls (.int v :: st)))) : OwnGo p e below s Q rc rs (T.setTop (mkF m pc Ls st)) := by
  subst hp
  exact own_step (fun _ k => X.ldcInt hx hown (mvT hZ w) (g := mkF m pc Ls st) rfl hd _ k) g
theorem own_ldcJ (X : Stand p l e R s m args below meth c T locs cells slots) (hx : p.tables.exec = Jvm.exec) (hZ : Z.Warmed39 s.vm) (hown : s.vm.findClass own = some m.cls) {v : Int64} (w : (Cond.constantLong own index v).before a0 Z = true) (hd : decode c.code pc = .ok (.ldc2_w index, 3))  (hp : pc + 3 = pc') (g : OwnGo p e below s Q rc rs (T.setTop (mkF m pc' Ls (.long v :: st)))) : OwnGo p e below s Q rc rs (T.setTop (mkF m pc Ls st)) := by
  subst hp
  exact own_step (fun _ k => X.ldc2Long hx hown (mvT hZ w) (g := mkF m pc Ls st) rfl hd _ k) g
theorem own_goto (X : Stand p l e R s m args below meth c T locs cells slots) (hx : p.tables.exec = Jvm.exec) {o : Int} (hd : decode c.code pc = .ok (.goto o, 3)) (hp : (pc : Int) + o = (pc' : Int)) (g : OwnGo p e below s Q rc rs (T.setTop (mkF m pc' Ls st))) : OwnGo p e below s Q rc rs (T.setTop (mkF m pc Ls st)) :=
  own_step (fun _ k => XS.goto X.here hx rfl (pc0 := pc) rfl hd (by omega) (by omega) k) g
theorem own_icmp_lt (X : Stand p l e R s m args below meth c T locs cells slots) (hx : p.tables.exec = Jvm.exec) {x y : Int32} {o : Int} {pc1 pc2 : Nat} (hd : decode c.code pc = .ok (.if_icmp .lt o, 3)) (h1 : pc + 3 = pc1) (h2 : (pc : Int) + o = (pc2 : Int)) (gT : x < y → OwnGo p e below s Q rc rs (T.setTop (mkF m pc2 Ls st))) (gF : ¬ x < y → OwnGo p e below s Q rc rs (T.setTop (mkF m pc1 Ls st))) : OwnGo p e below s Q rc rs (T.setTop (mkF m pc Ls (.int y :: .int x :: st))) := by
  subst h1
  by_cases q : x < y
  · exact own_step (fun _ k => XS.icmpYes X.here hx rfl (pc0 := pc) rfl hd rfl (tlt q).1 (by omega) (by omega) k) (gT q)
  · exact own_step (fun _ k => XS.icmpNo X.here hx rfl hd rfl (flt q).1 k) (gF q)
theorem own_if_lt (X : Stand p l e R s m args below meth c T locs cells slots) (hx : p.tables.exec = Jvm.exec) {x : Int32} {o : Int} {pc1 pc2 : Nat} (hd : decode c.code pc = .ok (.ifCond .lt o, 3)) (h1 : pc + 3 = pc1) (h2 : (pc : Int) + o = (pc2 : Int)) (gT : x < 0 → OwnGo p e below s Q rc rs (T.setTop (mkF m pc2 Ls st))) (gF : ¬ x < 0 → OwnGo p e below s Q rc rs (T.setTop (mkF m pc1 Ls st))) : OwnGo p e below s Q rc rs (T.setTop (mkF m pc Ls (.int x :: st))) := by
  subst h1
  by_cases q : x < 0
  · exact own_step (fun _ k => XS.ifYes X.here hx rfl (pc0 := pc) rfl hd rfl ((if0 _ _).trans (tlt q).1) (by omega) (by omega) k) (gT q)
  · exact own_step (fun _ k => XS.ifNo X.here hx rfl hd rfl ((if0 _ _).trans (flt q).1) k) (gF q)
theorem own_icmp_ge (X : Stand p l e R s m args below meth c T locs cells slots) (hx : p.tables.exec = Jvm.exec) {x y : Int32} {o : Int} {pc1 pc2 : Nat} (hd : decode c.code pc = .ok (.if_icmp .ge o, 3)) (h1 : pc + 3 = pc1) (h2 : (pc : Int) + o = (pc2 : Int)) (gT : ¬ x < y → OwnGo p e below s Q rc rs (T.setTop (mkF m pc2 Ls st))) (gF : x < y → OwnGo p e below s Q rc rs (T.setTop (mkF m pc1 Ls st))) : OwnGo p e below s Q rc rs (T.setTop (mkF m pc Ls (.int y :: .int x :: st))) := by
  subst h1
  by_cases q : x < y
  · exact own_step (fun _ k => XS.icmpNo X.here hx rfl hd rfl (tlt q).2.1 k) (gF q)
  · exact own_step (fun _ k => XS.icmpYes X.here hx rfl (pc0 := pc) rfl hd rfl (flt q).2.1 (by omega) (by omega) k) (gT q)
theorem own_if_ge (X : Stand p l e R s m args below meth c T locs cells slots) (hx : p.tables.exec = Jvm.exec) {x : Int32} {o : Int} {pc1 pc2 : Nat} (hd : decode c.code pc = .ok (.ifCond .ge o, 3)) (h1 : pc + 3 = pc1) (h2 : (pc : Int) + o = (pc2 : Int)) (gT : ¬ x < 0 → OwnGo p e below s Q rc rs (T.setTop (mkF m pc2 Ls st))) (gF : x < 0 → OwnGo p e below s Q rc rs (T.setTop (mkF m pc1 Ls st))) : OwnGo p e below s Q rc rs (T.setTop (mkF m pc Ls (.int x :: st))) := by
  subst h1
  by_cases q : x < 0
  · exact own_step (fun _ k => XS.ifNo X.here hx rfl hd rfl ((if0 _ _).trans (tlt q).2.1) k) (gF q)
  · exact own_step (fun _ k => XS.ifYes X.here hx rfl (pc0 := pc) rfl hd rfl ((if0 _ _).trans (flt q).2.1) (by omega) (by omega) k) (gT q)
theorem own_icmp_gt (X : Stand p l e R s m args below meth c T locs cells slots) (hx : p.tables.exec = Jvm.exec) {x y : Int32} {o : Int} {pc1 pc2 : Nat} (hd : decode c.code pc = .ok (.if_icmp .gt o, 3)) (h1 : pc + 3 = pc1) (h2 : (pc : Int) + o = (pc2 : Int)) (gT : y < x → OwnGo p e below s Q rc rs (T.setTop (mkF m pc2 Ls st))) (gF : ¬ y < x → OwnGo p e below s Q rc rs (T.setTop (mkF m pc1 Ls st))) : OwnGo p e below s Q rc rs (T.setTop (mkF m pc Ls (.int y :: .int x :: st))) := by
  subst h1
  by_cases q : y < x
  · exact own_step (fun _ k => XS.icmpYes X.here hx rfl (pc0 := pc) rfl hd rfl (tlt q).2.2.1 (by omega) (by omega) k) (gT q)
  · exact own_step (fun _ k => XS.icmpNo X.here hx rfl hd rfl (flt q).2.2.1 k) (gF q)
theorem own_if_gt (X : Stand p l e R s m args below meth c T locs cells slots) (hx : p.tables.exec = Jvm.exec) {x : Int32} {o : Int} {pc1 pc2 : Nat} (hd : decode c.code pc = .ok (.ifCond .gt o, 3)) (h1 : pc + 3 = pc1) (h2 : (pc : Int) + o = (pc2 : Int)) (gT : 0 < x → OwnGo p e below s Q rc rs (T.setTop (mkF m pc2 Ls st))) (gF : ¬ 0 < x → OwnGo p e below s Q rc rs (T.setTop (mkF m pc1 Ls st))) : OwnGo p e below s Q rc rs (T.setTop (mkF m pc Ls (.int x :: st))) := by
  subst h1
  by_cases q : 0 < x
  · exact own_step (fun _ k => XS.ifYes X.here hx rfl (pc0 := pc) rfl hd rfl ((if0 _ _).trans (tlt q).2.2.1) (by omega) (by omega) k) (gT q)
  · exact own_step (fun _ k => XS.ifNo X.here hx rfl hd rfl ((if0 _ _).trans (flt q).2.2.1) k) (gF q)
theorem own_icmp_le (X : Stand p l e R s m args below meth c T locs cells slots) (hx : p.tables.exec = Jvm.exec) {x y : Int32} {o : Int} {pc1 pc2 : Nat} (hd : decode c.code pc = .ok (.if_icmp .le o, 3)) (h1 : pc + 3 = pc1) (h2 : (pc : Int) + o = (pc2 : Int)) (gT : ¬ y < x → OwnGo p e below s Q rc rs (T.setTop (mkF m pc2 Ls st))) (gF : y < x → OwnGo p e below s Q rc rs (T.setTop (mkF m pc1 Ls st))) : OwnGo p e below s Q rc rs (T.setTop (mkF m pc Ls (.int y :: .int x :: st))) := by
  subst h1
  by_cases q : y < x
  · exact own_step (fun _ k => XS.icmpNo X.here hx rfl hd rfl (tlt q).2.2.2 k) (gF q)
  · exact own_step (fun _ k => XS.icmpYes X.here hx rfl (pc0 := pc) rfl hd rfl (flt q).2.2.2 (by omega) (by omega) k) (gT q)
theorem own_if_le (X : Stand p l e R s m args below meth c T locs cells slots) (hx : p.tables.exec = Jvm.exec) {x : Int32} {o : Int} {pc1 pc2 : Nat} (hd : decode c.code pc = .ok (.ifCond .le o, 3)) (h1 : pc + 3 = pc1) (h2 : (pc : Int) + o = (pc2 : Int)) (gT : ¬ 0 < x → OwnGo p e below s Q rc rs (T.setTop (mkF m pc2 Ls st))) (gF : 0 < x → OwnGo p e below s Q rc rs (T.setTop (mkF m pc1 Ls st))) : OwnGo p e below s Q rc rs (T.setTop (mkF m pc Ls (.int x :: st))) := by
  subst h1
  by_cases q : 0 < x
  · exact own_step (fun _ k => XS.ifNo X.here hx rfl hd rfl ((if0 _ _).trans (tlt q).2.2.2) k) (gF q)
  · exact own_step (fun _ k => XS.ifYes X.here hx rfl (pc0 := pc) rfl hd rfl ((if0 _ _).trans (flt q).2.2.2) (by omega) (by omega) k) (gT q)
theorem own_icmp_eq (X : Stand p l e R s m args below meth c T locs cells slots) (hx : p.tables.exec = Jvm.exec) {x y : Int32} {o : Int} {pc1 pc2 : Nat} (hd : decode c.code pc = .ok (.if_icmp .eq o, 3)) (h1 : pc + 3 = pc1) (h2 : (pc : Int) + o = (pc2 : Int)) (gT : x = y → OwnGo p e below s Q rc rs (T.setTop (mkF m pc2 Ls st))) (gF : ¬ x = y → OwnGo p e below s Q rc rs (T.setTop (mkF m pc1 Ls st))) : OwnGo p e below s Q rc rs (T.setTop (mkF m pc Ls (.int y :: .int x :: st))) := by
  subst h1
  by_cases q : x = y
  · exact own_step (fun _ k => XS.icmpYes X.here hx rfl (pc0 := pc) rfl hd rfl (teq q).1 (by omega) (by omega) k) (gT q)
  · exact own_step (fun _ k => XS.icmpNo X.here hx rfl hd rfl (feq q).1 k) (gF q)
theorem own_if_eq (X : Stand p l e R s m args below meth c T locs cells slots) (hx : p.tables.exec = Jvm.exec) {x : Int32} {o : Int} {pc1 pc2 : Nat} (hd : decode c.code pc = .ok (.ifCond .eq o, 3)) (h1 : pc + 3 = pc1) (h2 : (pc : Int) + o = (pc2 : Int)) (gT : x = 0 → OwnGo p e below s Q rc rs (T.setTop (mkF m pc2 Ls st))) (gF : ¬ x = 0 → OwnGo p e below s Q rc rs (T.setTop (mkF m pc1 Ls st))) : OwnGo p e below s Q rc rs (T.setTop (mkF m pc Ls (.int x :: st))) := by
  subst h1
  by_cases q : x = 0
  · exact own_step (fun _ k => XS.ifYes X.here hx rfl (pc0 := pc) rfl hd rfl ((if0 _ _).trans (teq q).1) (by omega) (by omega) k) (gT q)
  · exact own_step (fun _ k => XS.ifNo X.here hx rfl hd rfl ((if0 _ _).trans (feq q).1) k) (gF q)
theorem own_icmp_ne (X : Stand p l e R s m args below meth c T locs cells slots) (hx : p.tables.exec = Jvm.exec) {x y : Int32} {o : Int} {pc1 pc2 : Nat} (hd : decode c.code pc = .ok (.if_icmp .ne o, 3)) (h1 : pc + 3 = pc1) (h2 : (pc : Int) + o = (pc2 : Int)) (gT : ¬ x = y → OwnGo p e below s Q rc rs (T.setTop (mkF m pc2 Ls st))) (gF : x = y → OwnGo p e below s Q rc rs (T.setTop (mkF m pc1 Ls st))) : OwnGo p e below s Q rc rs (T.setTop (mkF m pc Ls (.int y :: .int x :: st))) := by
  subst h1
  by_cases q : x = y
  · exact own_step (fun _ k => XS.icmpNo X.here hx rfl hd rfl (teq q).2 k) (gF q)
  · exact own_step (fun _ k => XS.icmpYes X.here hx rfl (pc0 := pc) rfl hd rfl (feq q).2 (by omega) (by omega) k) (gT q)
theorem own_if_ne (X : Stand p l e R s m args below meth c T locs cells slots) (hx : p.tables.exec = Jvm.exec) {x : Int32} {o : Int} {pc1 pc2 : Nat} (hd : decode c.code pc = .ok (.ifCond .ne o, 3)) (h1 : pc + 3 = pc1) (h2 : (pc : Int) + o = (pc2 : Int)) (gT : ¬ x = 0 → OwnGo p e below s Q rc rs (T.setTop (mkF m pc2 Ls st))) (gF : x = 0 → OwnGo p e below s Q rc rs (T.setTop (mkF m pc1 Ls st))) : OwnGo p e below s Q rc rs (T.setTop (mkF m pc Ls (.int x :: st))) := by
  subst h1
  by_cases q : x = 0
  · exact own_step (fun _ k => XS.ifNo X.here hx rfl hd rfl ((if0 _ _).trans (teq q).2) k) (gF q)
  · exact own_step (fun _ k => XS.ifYes X.here hx rfl (pc0 := pc) rfl hd rfl ((if0 _ _).trans (feq q).2) (by omega) (by omega) k) (gT q)
theorem own_ifnullY (X : Stand p l e R s m args below meth c T locs cells slots) (hx : p.tables.exec = Jvm.exec) {o : Int} {pc2 : Nat} (hd : decode c.code pc = .ok (.ifnull o, 3)) (h2 : (pc : Int) + o = (pc2 : Int)) (g : OwnGo p e below s Q rc rs (T.setTop (mkF m pc2 Ls st))) : OwnGo p e below s Q rc rs (T.setTop (mkF m pc Ls (.null :: st))) :=
  own_step (fun _ k => XS.ifnullYes X.here hx rfl (pc0 := pc) rfl hd rfl (by omega) (by omega) k) g
theorem own_ifnullN (X : Stand p l e R s m args below meth c T locs cells slots) (hx : p.tables.exec = Jvm.exec) {o : Int} {b : Addr} (hd : decode c.code pc = .ok (.ifnull o, 3))  (hp : pc + 3 = pc') (g : OwnGo p e below s Q rc rs (T.setTop (mkF m pc' Ls st))) : OwnGo p e below s Q rc rs (T.setTop (mkF m pc Ls (.ref b :: st))) := by
  subst hp
  exact own_step (fun _ k => XS.ifnullNo X.here hx rfl hd rfl k) g
theorem own_retI (X : Stand p l e R s m args below meth c T locs cells slots) (hx : p.tables.exec = Jvm.exec) (eT : T.heap = h) {z : Int32} (hret : meth.sig.returnType = some .int) (hlk : meth.locks = false) (hc : cells ≤ rc) (hs : slots ≤ rs) (hd : decode c.code pc = .ok (.ireturn, 1)) (hQ : Q (some (.int z)) h locs) : OwnGo p e below s Q rc rs (T.setTop (mkF m pc Ls (.int z :: st))) := by
  subst eT
  obtain ⟨fs, hr, hrun, hended, hW, hsame⟩ := X.leave (v := some (.int z)) (fun h => by rw [hret] at h; cases h) hlk
  exact ⟨_, _, retOut X hx hret rfl (Or.inl ⟨rfl, Or.inl rfl, _, rfl⟩) hd hr, hrun, hended, _, _, rfl, hQ, ⟨_, rfl⟩, hW, hsame.mono hc hs⟩
theorem own_retZ (X : Stand p l e R s m args below meth c T locs cells slots) (hx : p.tables.exec = Jvm.exec) (eT : T.heap = h) {z : Int32} (hret : meth.sig.returnType = some .boolean) (hlk : meth.locks = false) (hc : cells ≤ rc) (hs : slots ≤ rs) (hd : decode c.code pc = .ok (.ireturn, 1)) (hQ : Q (some (.int (nar .boolean z))) h locs) : OwnGo p e below s Q rc rs (T.setTop (mkF m pc Ls (.int z :: st))) := by
  subst eT
  obtain ⟨fs, hr, hrun, hended, hW, hsame⟩ := X.leave (v := some (.int (nar .boolean z))) (fun h => by rw [hret] at h; cases h) hlk
  exact ⟨_, _, retN X hx (t := .boolean) hret (by simp) hd hr, hrun, hended, _, _, rfl, hQ, ⟨_, rfl⟩, hW, hsame.mono hc hs⟩
theorem own_retJ (X : Stand p l e R s m args below meth c T locs cells slots) (hx : p.tables.exec = Jvm.exec) (eT : T.heap = h) {z : Int64} (hret : meth.sig.returnType = some .long) (hlk : meth.locks = false) (hc : cells ≤ rc) (hs : slots ≤ rs) (hd : decode c.code pc = .ok (.lreturn, 1)) (hQ : Q (some (.long z)) h locs) : OwnGo p e below s Q rc rs (T.setTop (mkF m pc Ls (.long z :: st))) := by
  subst eT
  obtain ⟨fs, hr, hrun, hended, hW, hsame⟩ := X.leave (v := some (.long z)) (fun h => by rw [hret] at h; cases h) hlk
  exact ⟨_, _, retOut X hx hret rfl (Or.inr (Or.inl ⟨rfl, rfl, _, rfl⟩)) hd hr, hrun, hended, _, _, rfl, hQ, ⟨_, rfl⟩, hW, hsame.mono hc hs⟩
theorem own_retA (X : Stand p l e R s m args below meth c T locs cells slots) (hx : p.tables.exec = Jvm.exec) (eT : T.heap = h) {z : Addr} {t : FieldType} (ht : t.isReference = true) (hret : meth.sig.returnType = some t) (hlk : meth.locks = false) (hc : cells ≤ rc) (hs : slots ≤ rs) (hd : decode c.code pc = .ok (.areturn, 1)) (hQ : Q (some (.ref z)) h locs) : OwnGo p e below s Q rc rs (T.setTop (mkF m pc Ls (.ref z :: st))) := by
  subst eT
  obtain ⟨fs, hr, hrun, hended, hW, hsame⟩ := X.leave (v := some (.ref z)) (fun h => by rw [hret] at h; cases h) hlk
  exact ⟨_, _, retOut X hx hret (by cases t <;> first | rfl | cases ht) (Or.inr (Or.inr (Or.inr (Or.inr ⟨rfl, ht, rfl⟩)))) hd hr, hrun, hended, _, _, rfl, hQ, ⟨_, rfl⟩, hW, hsame.mono hc hs⟩
theorem own_retV (X : Stand p l e R s m args below meth c T locs cells slots) (hx : p.tables.exec = Jvm.exec) (eT : T.heap = h)  (hret : meth.sig.returnType = none) (hlk : meth.locks = false) (hc : cells ≤ rc) (hs : slots ≤ rs) (hd : decode c.code pc = .ok (.return_, 1)) (hQ : Q (none) h locs) : OwnGo p e below s Q rc rs (T.setTop (mkF m pc Ls [])) := by
  subst eT
  obtain ⟨fs, hr, hrun, hended, hW, hsame⟩ := X.leave (v := none) (fun _ => rfl) hlk
  exact ⟨_, _, X.returnOut hx hret hd hr, hrun, hended, _, _, rfl, hQ, ⟨_, rfl⟩, hW, hsame.mono hc hs⟩
theorem own_getF (X : Stand p l e R s m args below meth c T locs cells slots) (hx : p.tables.exec = Jvm.exec) (hZ : Z.Warmed39 s.vm) (hown : s.vm.findClass own = some m.cls) {n d O : String} (w : (Cond.fieldLink own index O n d).before a0 Z = true) (eT : T.heap = h) {a : Addr} {v : Value} (F : Fld Z h a O n d v) (hd : decode c.code pc = .ok (.getfield index, 3))  (hp : pc + 3 = pc')
    (g : ∀ T', Stand p l e R s m args below meth c T' locs cells slots → T'.heap = h → OwnGo p e below s Q rc rs (T'.setTop (mkF m pc' Ls (v :: st)))) : OwnGo p e below s Q rc rs (T.setTop (mkF m pc Ls (.ref a :: st))) := by
  subst hp
  obtain ⟨T', X', e', k⟩ := getF X hx hZ hown (host := "") (Or.inl w) Via.refl eT F (g := mkF m pc Ls (.ref a :: st)) rfl rfl hd
  exact own_step k (g T' X' e')
theorem own_putF (X : Stand p l e R s m args below meth c T locs cells slots) (hx : p.tables.exec = Jvm.exec) (hZ : Z.Warmed39 s.vm) (hown : s.vm.findClass own = some m.cls) {n d O C : String} {kk : Nat} {ty : FieldType} (w : (Cond.fieldLink own index O n d).before a0 Z = true) (eT : T.heap = h) {a : Addr} {v v' old : Value} (F : Fld Z h a O n d old) (E : Exa Z h a C) (L : (Cond.lays C O n d).before a0 Z = true ∨ ((Cond.laysFinal C O n d).before a0 Z = true ∧ own = O ∧ meth.name = "<init>")) (wi : (Cond.instantiable C kk).before a0 Z = true) (hty : parseFieldDescriptor d = some ty) (hn : narrow ty v = v') (hf : fits ty v' = true) (hd : decode c.code pc = .ok (.putfield index, 3))  (hp : pc + 3 = pc')
    (g : ∀ T' h', Stand p l e R s m args below meth c T' (locs ++ [⟨a, Jvm.RoadKit.slotOf Z O n d⟩]) cells slots → T'.heap = h' → Wr h h' a (Jvm.RoadKit.slotOf Z O n d) v' → OwnGo p e below s Q rc rs (T'.setTop (mkF m pc' Ls st))) : OwnGo p e below s Q rc rs (T.setTop (mkF m pc Ls (v :: .ref a :: st))) := by
  subst hp
  obtain ⟨T', h', X', e', W, k⟩ := putFN X hx hZ hown w Via.refl eT F E L wi hty hn hf (g := mkF m pc Ls (v :: .ref a :: st)) rfl rfl hd
  exact own_step k (g T' h' X' e' W)
theorem own_newO (X : Stand p l e R s m args below meth c T locs cells slots) (hx : p.tables.exec = Jvm.exec) (hZ : Z.Warmed39 s.vm) (hown : s.vm.findClass own = some m.cls) {C : String} {n : Nat} (w : (Cond.classLink own index C).before a0 Z = true) (wi : (Cond.instantiable C n).before a0 Z = true) (wz : (Cond.initialized C).before a0 Z = true) (eT : T.heap = h) (hc : cells + 1 ≤ R.cells) (hl : slots + n ≤ R.slots) (hd : decode c.code pc = .ok (.new index, 3))  (hp : pc + 3 = pc')
    (g : ∀ T' h' b, b = h.size → Stand p l e R s m args below meth c T' locs (cells + 1) (slots + n) → T'.heap = h' → Ext h h' → Exa Z h' b C → (∀ {O nm d : String} {ty : FieldType}, Laid Z a0 C O nm d → parseFieldDescriptor d = some ty → Fld Z h' b O nm d (defaultValue ty)) → OwnGo p e below s Q rc rs (T'.setTop (mkF m pc' Ls (.ref b :: st)))) : OwnGo p e below s Q rc rs (T.setTop (mkF m pc Ls st)) := by
  subst hp
  obtain ⟨T', h', X', e', E', A', D', -, k⟩ := newO X hx hZ hown w wi wz eT (g := mkF m pc Ls st) rfl hd hc hl
  exact own_step k (g T' h' _ rfl X' e' E' A' (fun {_ _ _ _} => D'))
theorem own_newP (X : Stand p l e R s m args below meth c T locs cells slots) (hx : p.tables.exec = Jvm.exec) (hZ : Z.Warmed39 s.vm) {aty : ArrayType} (w : (Cond.arrayClass (newarray.typeOf aty)).before a0 Z = true) (eT : T.heap = h) {n : Int32} (hn : ¬ n < 0) {cap : Nat} (hcap : n.toNatClampNeg ≤ cap) (hb : cap * 8 ≤ 536870912) (hc : cells + 1 ≤ R.cells) (hl : slots + cap ≤ R.slots) {ad : String} (had : "[" ++ (newarray.typeOf aty).toString = ad) (hd : decode c.code pc = .ok (.newarray aty, 2))  (hp : pc + 2 = pc')
    (g : ∀ T' h' b k, b = h.size → Stand p l e R s m args below meth c T' locs (cells + 1) (slots + cap) → T'.heap = h' → Ext h h' → Arr Z h' b (newA k (newarray.typeOf aty) n) (newarray.typeOf aty) → Exa Z h' b ad → OwnGo p e below s Q rc rs (T'.setTop (mkF m pc' Ls (.ref b :: st)))) : OwnGo p e below s Q rc rs (T.setTop (mkF m pc Ls (.int n :: st))) := by
  subst hp
  obtain ⟨T', h', k', X', e', E', A', B', k⟩ := newPE X hx hZ w eT (g := mkF m pc Ls (.int n :: st)) rfl hd rfl hn hcap hb hc hl had
  exact own_step k (g T' h' _ k' rfl X' e' E' A' B')
theorem own_newR (X : Stand p l e R s m args below meth c T locs cells slots) (hx : p.tables.exec = Jvm.exec) (hZ : Z.Warmed39 s.vm) (hown : s.vm.findClass own = some m.cls) {C : String} (w1 : (Cond.classLink own index C).before a0 Z = true) (w2 : (Cond.arrayOver (.object C)).before a0 Z = true) (eT : T.heap = h) {n : Int32} (hn : ¬ n < 0) {cap : Nat} (hcap : n.toNatClampNeg ≤ cap) (hb : cap * 8 ≤ 536870912) (hc : cells + 1 ≤ R.cells) (hl : slots + cap ≤ R.slots) (hd : decode c.code pc = .ok (.anewarray index, 3))  (hp : pc + 3 = pc')
    (g : ∀ T' h' b, b = h.size → Stand p l e R s m args below meth c T' locs (cells + 1) (slots + cap) → T'.heap = h' → Ext h h' → OwnGo p e below s Q rc rs (T'.setTop (mkF m pc' Ls (.ref b :: st)))) : OwnGo p e below s Q rc rs (T.setTop (mkF m pc Ls (.int n :: st))) := by
  subst hp
  obtain ⟨T', h', k', X', e', E', A', -, k⟩ := newR X hx hZ hown w1 w2 eT (g := mkF m pc Ls (.int n :: st)) rfl hd rfl hn hcap hb hc hl
  exact own_step k (g T' h' _ rfl X' e' E')
theorem own_iastore (X : Stand p l e R s m args below meth c T locs cells slots) (hx : p.tables.exec = Jvm.exec) (hZ : Z.Warmed39 s.vm) (eT : T.heap = h) {a : Addr} {cl : Cell} (A : Arr Z h a cl .int) {j : Int32} {x : Int32} (hj : ¬ (j < 0 ∨ cl.slots.size ≤ j.toNatClampNeg)) (hd : decode c.code pc = .ok (.iastore, 1))  (hp : pc + 1 = pc')
    (g : ∀ T' h', Stand p l e R s m args below meth c T' (locs ++ [⟨a, j.toNatClampNeg⟩]) cells slots → T'.heap = h' → Wr h h' a j.toNatClampNeg (.int x) → OwnGo p e below s Q rc rs (T'.setTop (mkF m pc' Ls st))) : OwnGo p e below s Q rc rs (T.setTop (mkF m pc Ls (.int x :: .int j :: .ref a :: st))) := by
  subst hp
  obtain ⟨T', h', X', e', W, k⟩ := stI X hx hZ eT A hj (g := mkF m pc Ls (.int x :: .int j :: .ref a :: st)) rfl rfl hd
  exact own_step k (g T' h' X' e' W)
theorem own_castore (X : Stand p l e R s m args below meth c T locs cells slots) (hx : p.tables.exec = Jvm.exec) (hZ : Z.Warmed39 s.vm) (eT : T.heap = h) {a : Addr} {cl : Cell} (A : Arr Z h a cl .char) {j : Int32} {x : Int32} (hj : ¬ (j < 0 ∨ cl.slots.size ≤ j.toNatClampNeg)) (hd : decode c.code pc = .ok (.castore, 1))  (hp : pc + 1 = pc')
    (g : ∀ T' h', Stand p l e R s m args below meth c T' (locs ++ [⟨a, j.toNatClampNeg⟩]) cells slots → T'.heap = h' → Wr h h' a j.toNatClampNeg (.int (nar .char x)) → OwnGo p e below s Q rc rs (T'.setTop (mkF m pc' Ls st))) : OwnGo p e below s Q rc rs (T.setTop (mkF m pc Ls (.int x :: .int j :: .ref a :: st))) := by
  subst hp
  obtain ⟨T', h', X', e', W, k⟩ := stC X hx hZ eT A hj (g := mkF m pc Ls (.int x :: .int j :: .ref a :: st)) rfl rfl hd
  exact own_step k (g T' h' X' e' W)
theorem own_bastore (X : Stand p l e R s m args below meth c T locs cells slots) (hx : p.tables.exec = Jvm.exec) (hZ : Z.Warmed39 s.vm) (eT : T.heap = h) {a : Addr} {cl : Cell} (A : Arr Z h a cl .byte) {j : Int32} {x : Int32} (hj : ¬ (j < 0 ∨ cl.slots.size ≤ j.toNatClampNeg)) (hd : decode c.code pc = .ok (.bastore, 1))  (hp : pc + 1 = pc')
    (g : ∀ T' h', Stand p l e R s m args below meth c T' (locs ++ [⟨a, j.toNatClampNeg⟩]) cells slots → T'.heap = h' → Wr h h' a j.toNatClampNeg (.int (nar .byte x)) → OwnGo p e below s Q rc rs (T'.setTop (mkF m pc' Ls st))) : OwnGo p e below s Q rc rs (T.setTop (mkF m pc Ls (.int x :: .int j :: .ref a :: st))) := by
  subst hp
  obtain ⟨T', h', X', e', W, k⟩ := stB X hx hZ eT A hj (g := mkF m pc Ls (.int x :: .int j :: .ref a :: st)) rfl rfl hd
  exact own_step k (g T' h' X' e' W)
theorem own_zastore (X : Stand p l e R s m args below meth c T locs cells slots) (hx : p.tables.exec = Jvm.exec) (hZ : Z.Warmed39 s.vm) (eT : T.heap = h) {a : Addr} {cl : Cell} (A : Arr Z h a cl .boolean) {j : Int32} {x : Int32} (hj : ¬ (j < 0 ∨ cl.slots.size ≤ j.toNatClampNeg)) (hd : decode c.code pc = .ok (.bastore, 1))  (hp : pc + 1 = pc')
    (g : ∀ T' h', Stand p l e R s m args below meth c T' (locs ++ [⟨a, j.toNatClampNeg⟩]) cells slots → T'.heap = h' → Wr h h' a j.toNatClampNeg (.int (nar .boolean x)) → OwnGo p e below s Q rc rs (T'.setTop (mkF m pc' Ls st))) : OwnGo p e below s Q rc rs (T.setTop (mkF m pc Ls (.int x :: .int j :: .ref a :: st))) := by
  subst hp
  obtain ⟨T', h', X', e', W, k⟩ := stZ X hx hZ eT A hj (g := mkF m pc Ls (.int x :: .int j :: .ref a :: st)) rfl rfl hd
  exact own_step k (g T' h' X' e' W)
theorem own_lastore (X : Stand p l e R s m args below meth c T locs cells slots) (hx : p.tables.exec = Jvm.exec) (hZ : Z.Warmed39 s.vm) (eT : T.heap = h) {a : Addr} {cl : Cell} (A : Arr Z h a cl .long) {j : Int32} {x : Int64} (hj : ¬ (j < 0 ∨ cl.slots.size ≤ j.toNatClampNeg)) (hd : decode c.code pc = .ok (.lastore, 1))  (hp : pc + 1 = pc')
    (g : ∀ T' h', Stand p l e R s m args below meth c T' (locs ++ [⟨a, j.toNatClampNeg⟩]) cells slots → T'.heap = h' → Wr h h' a j.toNatClampNeg (.long x) → OwnGo p e below s Q rc rs (T'.setTop (mkF m pc' Ls st))) : OwnGo p e below s Q rc rs (T.setTop (mkF m pc Ls (.long x :: .int j :: .ref a :: st))) := by
  subst hp
  obtain ⟨T', h', X', e', W, k⟩ := stJ X hx hZ eT A hj (g := mkF m pc Ls (.long x :: .int j :: .ref a :: st)) rfl rfl hd
  exact own_step k (g T' h' X' e' W)
theorem own_iaload (X : Stand p l e R s m args below meth c T locs cells slots) (hx : p.tables.exec = Jvm.exec) (hZ : Z.Warmed39 s.vm) (eT : T.heap = h) {a : Addr} {cl : Cell} {v : Value} (A : Arr Z h a cl .int) {j : Int32} (hj : ¬ (j < 0 ∨ cl.slots.size ≤ j.toNatClampNeg)) (hv : cl.slots[j.toNatClampNeg]? = some v) (hd : decode c.code pc = .ok (.iaload, 1))  (hp : pc + 1 = pc') (g : OwnGo p e below s Q rc rs (T.setTop (mkF m pc' Ls (v :: st)))) : OwnGo p e below s Q rc rs (T.setTop (mkF m pc Ls (.int j :: .ref a :: st))) := by
  subst hp
  exact own_step (fun _ k => X.iaload hx (j := j) (v := v) (by rw [eT]; exact A.1) (State.isArrayOf_alike hZ.alike A.2.1) A.2.2 hj hv (g := mkF m pc Ls (.int j :: .ref a :: st)) rfl rfl hd _ k) g
theorem own_caload (X : Stand p l e R s m args below meth c T locs cells slots) (hx : p.tables.exec = Jvm.exec) (hZ : Z.Warmed39 s.vm) (eT : T.heap = h) {a : Addr} {cl : Cell} {v : Value} (A : Arr Z h a cl .char) {j : Int32} (hj : ¬ (j < 0 ∨ cl.slots.size ≤ j.toNatClampNeg)) (hv : cl.slots[j.toNatClampNeg]? = some v) (hd : decode c.code pc = .ok (.caload, 1))  (hp : pc + 1 = pc') (g : OwnGo p e below s Q rc rs (T.setTop (mkF m pc' Ls (v :: st)))) : OwnGo p e below s Q rc rs (T.setTop (mkF m pc Ls (.int j :: .ref a :: st))) := by
  subst hp
  exact own_step (fun _ k => X.caload hx (j := j) (v := v) (by rw [eT]; exact A.1) (State.isArrayOf_alike hZ.alike A.2.1) A.2.2 hj hv (g := mkF m pc Ls (.int j :: .ref a :: st)) rfl rfl hd _ k) g
theorem own_laload (X : Stand p l e R s m args below meth c T locs cells slots) (hx : p.tables.exec = Jvm.exec) (hZ : Z.Warmed39 s.vm) (eT : T.heap = h) {a : Addr} {cl : Cell} {v : Value} (A : Arr Z h a cl .long) {j : Int32} (hj : ¬ (j < 0 ∨ cl.slots.size ≤ j.toNatClampNeg)) (hv : cl.slots[j.toNatClampNeg]? = some v) (hd : decode c.code pc = .ok (.laload, 1))  (hp : pc + 1 = pc') (g : OwnGo p e below s Q rc rs (T.setTop (mkF m pc' Ls (v :: st)))) : OwnGo p e below s Q rc rs (T.setTop (mkF m pc Ls (.int j :: .ref a :: st))) := by
  subst hp
  exact own_step (fun _ k => X.laload hx (j := j) (v := v) (by rw [eT]; exact A.1) (State.isArrayOf_alike hZ.alike A.2.1) A.2.2 hj hv (g := mkF m pc Ls (.int j :: .ref a :: st)) rfl rfl hd _ k) g
theorem own_baload (X : Stand p l e R s m args below meth c T locs cells slots) (hx : p.tables.exec = Jvm.exec) (hZ : Z.Warmed39 s.vm) (eT : T.heap = h) {a : Addr} {cl : Cell} {v : Value} (A : Arr Z h a cl .byte) {j : Int32} (hj : ¬ (j < 0 ∨ cl.slots.size ≤ j.toNatClampNeg)) (hv : cl.slots[j.toNatClampNeg]? = some v) (hd : decode c.code pc = .ok (.baload, 1))  (hp : pc + 1 = pc') (g : OwnGo p e below s Q rc rs (T.setTop (mkF m pc' Ls (v :: st)))) : OwnGo p e below s Q rc rs (T.setTop (mkF m pc Ls (.int j :: .ref a :: st))) := by
  subst hp
  exact own_step (fun _ k => X.baloadBytes hx (j := j) (v := v) (by rw [eT]; exact A.1) (State.isArrayOf_alike hZ.alike A.2.1) A.2.2 hj hv (g := mkF m pc Ls (.int j :: .ref a :: st)) rfl rfl hd _ k) g
theorem own_zaload (X : Stand p l e R s m args below meth c T locs cells slots) (hx : p.tables.exec = Jvm.exec) (hZ : Z.Warmed39 s.vm) (eT : T.heap = h) {a : Addr} {cl : Cell} {v : Value} (A : Arr Z h a cl .boolean) {j : Int32} (hj : ¬ (j < 0 ∨ cl.slots.size ≤ j.toNatClampNeg)) (hv : cl.slots[j.toNatClampNeg]? = some v) (hd : decode c.code pc = .ok (.baload, 1))  (hp : pc + 1 = pc') (g : OwnGo p e below s Q rc rs (T.setTop (mkF m pc' Ls (v :: st)))) : OwnGo p e below s Q rc rs (T.setTop (mkF m pc Ls (.int j :: .ref a :: st))) := by
  subst hp
  exact own_step (fun _ k => X.baloadBooleans hx (j := j) (v := v) (by rw [eT]; exact A.1) (State.isArrayOf_alike hZ.alike A.2.1) A.2.2 hj hv (g := mkF m pc Ls (.int j :: .ref a :: st)) rfl rfl hd _ k) g
theorem own_arraylength (X : Stand p l e R s m args below meth c T locs cells slots) (hx : p.tables.exec = Jvm.exec) (hZ : Z.Warmed39 s.vm) (eT : T.heap = h) {a : Addr} {cl : Cell} {ty : FieldType} {z : Int32} (A : Arr Z h a cl ty) (hz : cl.slots.size.toInt32 = z) (hd : decode c.code pc = .ok (.arraylength, 1))  (hp : pc + 1 = pc') (g : OwnGo p e below s Q rc rs (T.setTop (mkF m pc' Ls (.int z :: st)))) : OwnGo p e below s Q rc rs (T.setTop (mkF m pc Ls (.ref a :: st))) := by
  subst hp hz
  exact own_step (fun _ k => X.arraylength hx (by rw [eT]; exact A.1) (State.isArrayOf_alike hZ.alike A.2.1) (g := mkF m pc Ls (.ref a :: st)) rfl rfl hd _ k) g
/-- the contract of a body: called with as' at a heap h, it ends as Q says -/
def OwnMet (l : Launch) (Z : State) (y : MethodName) (bytes : ByteArray) (maxL : Nat) (ret : Option FieldType) (as' : Array Value) (rm : Room) (Q : Option Value → Heap → List Loc → Prop) (h : Heap) : Prop := MetFree l y (head1 [Jvm.Cond.code y bytes maxL ret] rm) (fun a U => a = as' ∧ Z.Warmed39 U.vm ∧ U.heap = h) (fun _ _ _ _ _ => True) (fun _ U o U' => ∃ v L, o = .returned v ∧ Q v U'.heap L ∧ FrameEnd U o U' L rm.cells rm.slots)
theorem own_callS (X : Stand p l e R s m args below meth c T locs cells slots) (hx : p.tables.exec = Jvm.exec) (hZ : Z.Warmed39 s.vm) (hown : s.vm.findClass own = some m.cls) {y : MethodName} {bytes : ByteArray} {maxL : Nat} {ret : Option FieldType} {rm : Room} {argsL : List Value} {Qc : Option Value → Heap → List Loc → Prop} {W : Nat} {stk : List Value} (w1 : (Cond.methodLink own index y).before a0 Z = true) (w2 : (Cond.static y).before a0 Z = true) (w3 : (Cond.initialized y.cls).before a0 Z = true) (w4 : (Jvm.Cond.code y bytes maxL ret).before a0 Z = true) (eT : T.heap = h) (hM : OwnMet l Z y bytes maxL ret argsL.toArray rm Qc h) (hd : decode c.code pc = .ok (.invokestatic index, 3)) (hst : stk = argsL.reverse ++ st) (hlen : ∀ sig, parseMethodDescriptor y.desc = some sig → argsL.length = sig.parameters.length) (hsz : Ls.size = c.maxLocals) (hf : rm.frames + 1 ≤ R.frames) (hl : W + (maxL + 11) + rm.locals ≤ R.locals) (hc : cells + rm.cells ≤ R.cells) (hsl : slots + rm.slots ≤ R.slots) (hW : (st.map fun v => v.category).sum ≤ W) (hy : y.cls ≠ "java/lang/invoke/MethodHandle" ∧ y.cls ≠ "java/lang/invoke/VarHandle") (hp : pc + 3 = pc')
    (g : ∀ T' v L, Stand p l e R s m args below meth c T' (locs ++ L) (cells + rm.cells) (slots + rm.slots) → Qc v T'.heap L → OwnGo p e below s Q rc rs (T'.setTop (mkF m pc' Ls (v.toList ++ st)))) : OwnGo p e below s Q rc rs (T.setTop (mkF m pc Ls stk)) := by
  subst hp
  obtain ⟨v, vm1, ⟨T', L', k', n'⟩, -, X', ⟨Lc, hQ, l1, y1, z1⟩, k⟩ := Jvm.LawKit.callS X hx hown (mvT hZ w1) (mvT hZ w2) (mvT hZ w3) (mvT hZ w4) hy (backOf (Q := Qc) (W := W) hM hZ w4 w3 hf hl) (g := mkF m pc Ls stk) rfl hsz (argsL := argsL) (rest := st) hlen hst (by show 2 * 0 + _ ≤ _; omega) hd (fun _ _ => ⟨rfl, eT, hc, hsl⟩)
  exact by
    dsimp only [Pt.U, Pt.locs, Pt.cells, Pt.slots] at X' l1 y1 z1 k hQ
    subst l1 y1 z1
    exact own_step k (g T' v Lc X' hQ)
theorem own_callC (X : Stand p l e R s m args below meth c T locs cells slots) (hx : p.tables.exec = Jvm.exec) (hZ : Z.Warmed39 s.vm) (hown : s.vm.findClass own = some m.cls) {y : MethodName} {bytes : ByteArray} {maxL : Nat} {rm : Room} {argsL : List Value} {Qc : Option Value → Heap → List Loc → Prop} {W : Nat} {stk : List Value} {a : Addr} (hi : y.name = "<init>") (w1 : (Cond.methodLink own index y).before a0 Z = true) (w2 : (Cond.instanceMethod y).before a0 Z = true) (w3 : (Cond.initialized y.cls).before a0 Z = true) (w4 : (Jvm.Cond.code y bytes maxL none).before a0 Z = true) (eT : T.heap = h) (hM : OwnMet l Z y bytes maxL none (.ref a :: argsL).toArray rm Qc h) (hd : decode c.code pc = .ok (.invokespecial index, 3)) (hst : stk = argsL.reverse ++ .ref a :: st) (hlen : ∀ sig, parseMethodDescriptor y.desc = some sig → argsL.length = sig.parameters.length) (hsz : Ls.size = c.maxLocals) (hf : rm.frames + 1 ≤ R.frames) (hl : W + (maxL + 11) + rm.locals ≤ R.locals) (hc : cells + rm.cells ≤ R.cells) (hsl : slots + rm.slots ≤ R.slots) (hW : (st.map fun v => v.category).sum ≤ W) (hy : y.cls ≠ "java/lang/invoke/MethodHandle" ∧ y.cls ≠ "java/lang/invoke/VarHandle") (hp : pc + 3 = pc')
    (g : ∀ T' v L, Stand p l e R s m args below meth c T' (locs ++ L) (cells + rm.cells) (slots + rm.slots) → Qc v T'.heap L → OwnGo p e below s Q rc rs (T'.setTop (mkF m pc' Ls (v.toList ++ st)))) : OwnGo p e below s Q rc rs (T.setTop (mkF m pc Ls stk)) := by
  subst hp
  obtain ⟨v, vm1, ⟨T', L', k', n'⟩, -, X', ⟨Lc, hQ, l1, y1, z1⟩, k⟩ := X.specialBack hx hi hown (mvT hZ w1) (mvT hZ w2) (mvT hZ w4) hy (backOf (Q := Qc) (W := W) hM hZ w4 w3 hf hl) (g := mkF m pc Ls stk) rfl hsz (Steps.refl _) (a := a) (argsL := argsL) (rest := st) hlen hst (by show 2 * 0 + _ ≤ _; omega) hd (fun _ _ => ⟨rfl, eT, hc, hsl⟩)
  exact by
    dsimp only [Pt.U, Pt.locs, Pt.cells, Pt.slots] at X' l1 y1 z1 k hQ
    subst l1 y1 z1
    exact own_step (fun _ q => k.trans q) (g T' v Lc X' hQ)
theorem own_callV (X : Stand p l e R s m args below meth c T locs cells slots) (hx : p.tables.exec = Jvm.exec) (hZ : Z.Warmed39 s.vm) (hown : s.vm.findClass own = some m.cls) {y : MethodName} {bytes : ByteArray} {maxL : Nat} {ret : Option FieldType} {rm : Room} {argsL : List Value} {Qc : Option Value → Heap → List Loc → Prop} {W : Nat} {stk : List Value} {a : Addr} {C : String} (w1 : (Cond.methodLink own index y).before a0 Z = true) (w2 : (Cond.declares y).before a0 Z = true) (w5 : (Cond.selects C y y).before a0 Z = true) (w6 : (Cond.instanceMethod y).before a0 Z = true) (w3 : (Cond.initialized y.cls).before a0 Z = true) (w4 : (Jvm.Cond.code y bytes maxL ret).before a0 Z = true) (eT : T.heap = h) (E : Exa Z h a C) (hM : OwnMet l Z y bytes maxL ret (.ref a :: argsL).toArray rm Qc h) (hd : decode c.code pc = .ok (.invokevirtual index, 3)) (hst : stk = argsL.reverse ++ .ref a :: st) (hlen : ∀ sig, parseMethodDescriptor y.desc = some sig → argsL.length = sig.parameters.length) (hsz : Ls.size = c.maxLocals) (hf : rm.frames + 1 ≤ R.frames) (hl : W + (maxL + 11) + rm.locals ≤ R.locals) (hc : cells + rm.cells ≤ R.cells) (hsl : slots + rm.slots ≤ R.slots) (hW : (st.map fun v => v.category).sum ≤ W) (hy : y.cls ≠ "java/lang/invoke/MethodHandle" ∧ y.cls ≠ "java/lang/invoke/VarHandle") (hp : pc + 3 = pc')
    (g : ∀ T' v L, Stand p l e R s m args below meth c T' (locs ++ L) (cells + rm.cells) (slots + rm.slots) → Qc v T'.heap L → OwnGo p e below s Q rc rs (T'.setTop (mkF m pc' Ls (v.toList ++ st)))) : OwnGo p e below s Q rc rs (T.setTop (mkF m pc Ls stk)) := by
  subst hp
  obtain ⟨cB, kB, q1, q2, q3⟩ := isOf hZ eT E
  obtain ⟨v, vm1, ⟨T', L', k', n'⟩, -, X', ⟨Lc, hQ, l1, y1, z1⟩, k⟩ := X.virtualBack hx hown (mvT hZ w1) (mvT hZ w2) (notFace_of_selects (args := #[]) (mvT hZ w5)) (mvT hZ w5) (mvT hZ w6) hy (backOf (Q := Qc) (W := W) hM hZ w4 w3 hf hl) q1 q3 (g := mkF m pc Ls stk) rfl hsz (Steps.refl _) (argsL := argsL) (rest := st) hlen hst (by show 2 * 0 + _ ≤ _; omega) hd (fun _ _ => ⟨rfl, eT, hc, hsl⟩)
  exact by
    dsimp only [Pt.U, Pt.locs, Pt.cells, Pt.slots] at X' l1 y1 z1 k hQ
    subst l1 y1 z1
    exact own_step (fun _ q => k.trans q) (g T' v Lc X' hQ)
abbrev ownR0 : Room := { frames := 0, cells := 0, slots := 0, locals := 0 }
/-- returns z and changes nothing -/
abbrev OwnPure (l : Launch) (Z : State) (y : MethodName) (bytes : ByteArray) (maxL : Nat) (ret : Option FieldType) (as' : Array Value) (z : Value) (h : Heap) : Prop := OwnMet l Z y bytes maxL ret as' ownR0 (fun v h' L => v = some z ∧ h' = h ∧ L = []) h
theorem own_pureS (X : Stand p l e R s m args below meth c T locs cells slots) (hx : p.tables.exec = Jvm.exec) (hZ : Z.Warmed39 s.vm) (hown : s.vm.findClass own = some m.cls) {y : MethodName} {bytes : ByteArray} {maxL : Nat} {ret : Option FieldType} {argsL : List Value} {z : Value} {W : Nat} {stk : List Value} (w1 : (Cond.methodLink own index y).before a0 Z = true) (w2 : (Cond.static y).before a0 Z = true) (w3 : (Cond.initialized y.cls).before a0 Z = true) (w4 : (Jvm.Cond.code y bytes maxL ret).before a0 Z = true) (eT : T.heap = h) (hM : OwnPure l Z y bytes maxL ret argsL.toArray z h) (hd : decode c.code pc = .ok (.invokestatic index, 3)) (hst : stk = argsL.reverse ++ st) (hlen : ∀ sig, parseMethodDescriptor y.desc = some sig → argsL.length = sig.parameters.length) (hsz : Ls.size = c.maxLocals) (hf : 1 ≤ R.frames) (hl : W + (maxL + 11) ≤ R.locals) (hc : cells ≤ R.cells) (hsl : slots ≤ R.slots) (hW : (st.map fun v => v.category).sum ≤ W) (hy : y.cls ≠ "java/lang/invoke/MethodHandle" ∧ y.cls ≠ "java/lang/invoke/VarHandle") (hp : pc + 3 = pc')
    (g : ∀ T', Stand p l e R s m args below meth c T' locs cells slots → T'.heap = h → OwnGo p e below s Q rc rs (T'.setTop (mkF m pc' Ls (z :: st)))) : OwnGo p e below s Q rc rs (T.setTop (mkF m pc Ls stk)) := by
  refine own_callS (rm := ownR0) (Qc := fun v h' L => v = some z ∧ h' = h ∧ L = []) X hx hZ hown w1 w2 w3 w4 eT hM hd hst hlen hsz hf hl hc hsl hW hy hp ?_
  rintro T' v L X' ⟨rfl, h1, rfl⟩
  exact g T' (by simpa using X') h1
theorem own_pureV (X : Stand p l e R s m args below meth c T locs cells slots) (hx : p.tables.exec = Jvm.exec) (hZ : Z.Warmed39 s.vm) (hown : s.vm.findClass own = some m.cls) {y : MethodName} {bytes : ByteArray} {maxL : Nat} {ret : Option FieldType} {argsL : List Value} {z : Value} {W : Nat} {stk : List Value} {a : Addr} {C : String} (w1 : (Cond.methodLink own index y).before a0 Z = true) (w2 : (Cond.declares y).before a0 Z = true) (w5 : (Cond.selects C y y).before a0 Z = true) (w6 : (Cond.instanceMethod y).before a0 Z = true) (w3 : (Cond.initialized y.cls).before a0 Z = true) (w4 : (Jvm.Cond.code y bytes maxL ret).before a0 Z = true) (eT : T.heap = h) (E : Exa Z h a C) (hM : OwnPure l Z y bytes maxL ret (.ref a :: argsL).toArray z h) (hd : decode c.code pc = .ok (.invokevirtual index, 3)) (hst : stk = argsL.reverse ++ .ref a :: st) (hlen : ∀ sig, parseMethodDescriptor y.desc = some sig → argsL.length = sig.parameters.length) (hsz : Ls.size = c.maxLocals) (hf : 1 ≤ R.frames) (hl : W + (maxL + 11) ≤ R.locals) (hc : cells ≤ R.cells) (hsl : slots ≤ R.slots) (hW : (st.map fun v => v.category).sum ≤ W) (hy : y.cls ≠ "java/lang/invoke/MethodHandle" ∧ y.cls ≠ "java/lang/invoke/VarHandle") (hp : pc + 3 = pc')
    (g : ∀ T', Stand p l e R s m args below meth c T' locs cells slots → T'.heap = h → OwnGo p e below s Q rc rs (T'.setTop (mkF m pc' Ls (z :: st)))) : OwnGo p e below s Q rc rs (T.setTop (mkF m pc Ls stk)) := by
  refine own_callV (rm := ownR0) (Qc := fun v h' L => v = some z ∧ h' = h ∧ L = []) X hx hZ hown w1 w2 w5 w6 w3 w4 eT E hM hd hst hlen hsz hf hl hc hsl hW hy hp ?_
  rintro T' v L X' ⟨rfl, h1, rfl⟩
  exact g T' (by simpa using X') h1
/-- the array at a: n places of kind ty, the j-th holds a value with P j -/
def OwnArr (Z : State) (h : Heap) (a : Addr) (ty : FieldType) (n : Nat) (P : Nat → Value → Prop) : Prop := ∃ cl : Cell, Arr Z h a cl ty ∧ cl.slots.size = n ∧ ∀ j, j < n → ∃ v, cl.slots[j]? = some v ∧ P j v
theorem OwnArr.lt {a : Addr} {ty : FieldType} {n : Nat} {P : Nat → Value → Prop} (A : OwnArr Z h a ty n P) : a < h.size := by obtain ⟨cl, A, -⟩ := A; exact A.lt
theorem OwnArr.ext {h' : Heap} {a : Addr} {ty : FieldType} {n : Nat} {P : Nat → Value → Prop} (A : OwnArr Z h a ty n P) (E : Ext h h') : OwnArr Z h' a ty n P := by obtain ⟨cl, A, r⟩ := A; exact ⟨cl, A.ext E, r⟩
theorem OwnArr.other {h' : Heap} {a b : Addr} {sl : Nat} {v : Value} {ty : FieldType} {n : Nat} {P : Nat → Value → Prop} (A : OwnArr Z h b ty n P) (W : Wr h h' a sl v) (q : b ≠ a) : OwnArr Z h' b ty n P := by obtain ⟨cl, A, r⟩ := A; exact ⟨cl, A.other W q, r⟩
theorem OwnArr.keep {h' : Heap} {ws : List Addr} {a : Addr} {ty : FieldType} {n : Nat} {P : Nat → Value → Prop} (A : OwnArr Z h a ty n P) (K : Keep h h' ws) (q : a ∉ ws) : OwnArr Z h' a ty n P := by obtain ⟨cl, A, r⟩ := A; exact ⟨cl, ⟨K.2.1 a cl A.1 q, A.2⟩, r⟩
theorem OwnArr.mono {a : Addr} {ty : FieldType} {n : Nat} {P P' : Nat → Value → Prop} (A : OwnArr Z h a ty n P) (q : ∀ j v, j < n → P j v → P' j v) : OwnArr Z h a ty n P' := by
  obtain ⟨cl, A, S, H⟩ := A
  exact ⟨cl, A, S, fun j hj => by obtain ⟨v, h1, h2⟩ := H j hj; exact ⟨v, h1, q j v hj h2⟩⟩
theorem OwnArr.new {a : Addr} {k : ClassId} {ty : FieldType} {z : Int32} {n : Nat} (A : Arr Z h a (newA k ty z) ty) (hz : z.toNatClampNeg = n) : OwnArr Z h a ty n (fun _ v => v = defaultValue ty) := by
  subst hz
  refine ⟨_, A, sz_new _ _ _, fun j hj => ⟨_, ?_, rfl⟩⟩
  simp [newA, hj]
theorem OwnArr.set {h' : Heap} {a : Addr} {sl : Nat} {v : Value} {ty : FieldType} {n : Nat} {P P' : Nat → Value → Prop} (A : OwnArr Z h a ty n P) (W : Wr h h' a sl v) (q : ∀ i w, i < n → (i = sl → w = v) → (i ≠ sl → P i w) → P' i w) : OwnArr Z h' a ty n P' := by
  obtain ⟨cl, A, S, H⟩ := A
  refine ⟨_, A.same W, by rw [sz_set]; exact S, fun j hj => ?_⟩
  by_cases e : j = sl
  · subst e
    exact ⟨v, by simp [Cell.setSlot, S, hj], q j v hj (fun _ => rfl) (fun y => absurd rfl y)⟩
  · obtain ⟨w, h1, h2⟩ := H j hj
    refine ⟨w, ?_, q j w hj (fun y => absurd y e) (fun _ => h2)⟩
    simp only [Cell.setSlot]; rw [Array.getElem?_setIfInBounds_ne (fun y => e y.symm)]; exact h1
theorem own_inb {cl : Cell} {n : Nat} {j : Int32} (S : cl.slots.size = n) (h0 : 0 ≤ j.toInt) (h1 : j.toInt < n) : ¬ (j < 0 ∨ cl.slots.size ≤ j.toNatClampNeg) := by
  have l0 : (0 : Int32).toInt = 0 := by decide
  rw [Int32.lt_iff_toInt_lt, l0, S, Int32.toNatClampNeg]
  omega
theorem own_len {n : Nat} {z : Int32} (hz : z.toInt = n) : n.toInt32 = z := by
  have h0 : ¬ z < 0 := by
    have l0 : (0 : Int32).toInt = 0 := by decide
    rw [Int32.lt_iff_toInt_lt, l0]; omega
  have e : z.toNatClampNeg = n := by rw [Int32.toNatClampNeg]; omega
  rw [← e]
  exact (back32 h0).1
theorem own_iastoreA (X : Stand p l e R s m args below meth c T locs cells slots) (hx : p.tables.exec = Jvm.exec) (hZ : Z.Warmed39 s.vm) (eT : T.heap = h) {a : Addr} {n : Nat} {P : Nat → Value → Prop} (A : OwnArr Z h a .int n P) {j : Int32} {x : Int32} (h0 : 0 ≤ j.toInt) (h1 : j.toInt < n) (P' : Nat → Value → Prop) (hP : ∀ i w, i < n → (i = j.toNatClampNeg → w = (.int x)) → (i ≠ j.toNatClampNeg → P i w) → P' i w) (hd : decode c.code pc = .ok (.iastore, 1)) (hp : pc + 1 = pc')
    (g : ∀ T' h', Stand p l e R s m args below meth c T' (locs ++ [⟨a, j.toNatClampNeg⟩]) cells slots → T'.heap = h' → Wr h h' a j.toNatClampNeg (.int x) → OwnArr Z h' a .int n P' → OwnGo p e below s Q rc rs (T'.setTop (mkF m pc' Ls st))) : OwnGo p e below s Q rc rs (T.setTop (mkF m pc Ls (.int x :: .int j :: .ref a :: st))) := by
  have A0 := A
  obtain ⟨cl, Ar, S, H⟩ := A
  exact own_iastore X hx hZ eT Ar (own_inb S h0 h1) hd hp fun T' h' X' e' W => g T' h' X' e' W (A0.set W hP)
theorem own_castoreA (X : Stand p l e R s m args below meth c T locs cells slots) (hx : p.tables.exec = Jvm.exec) (hZ : Z.Warmed39 s.vm) (eT : T.heap = h) {a : Addr} {n : Nat} {P : Nat → Value → Prop} (A : OwnArr Z h a .char n P) {j : Int32} {x : Int32} (h0 : 0 ≤ j.toInt) (h1 : j.toInt < n) (P' : Nat → Value → Prop) (hP : ∀ i w, i < n → (i = j.toNatClampNeg → w = (.int (nar .char x))) → (i ≠ j.toNatClampNeg → P i w) → P' i w) (hd : decode c.code pc = .ok (.castore, 1)) (hp : pc + 1 = pc')
    (g : ∀ T' h', Stand p l e R s m args below meth c T' (locs ++ [⟨a, j.toNatClampNeg⟩]) cells slots → T'.heap = h' → Wr h h' a j.toNatClampNeg (.int (nar .char x)) → OwnArr Z h' a .char n P' → OwnGo p e below s Q rc rs (T'.setTop (mkF m pc' Ls st))) : OwnGo p e below s Q rc rs (T.setTop (mkF m pc Ls (.int x :: .int j :: .ref a :: st))) := by
  have A0 := A
  obtain ⟨cl, Ar, S, H⟩ := A
  exact own_castore X hx hZ eT Ar (own_inb S h0 h1) hd hp fun T' h' X' e' W => g T' h' X' e' W (A0.set W hP)
theorem own_bastoreA (X : Stand p l e R s m args below meth c T locs cells slots) (hx : p.tables.exec = Jvm.exec) (hZ : Z.Warmed39 s.vm) (eT : T.heap = h) {a : Addr} {n : Nat} {P : Nat → Value → Prop} (A : OwnArr Z h a .byte n P) {j : Int32} {x : Int32} (h0 : 0 ≤ j.toInt) (h1 : j.toInt < n) (P' : Nat → Value → Prop) (hP : ∀ i w, i < n → (i = j.toNatClampNeg → w = (.int (nar .byte x))) → (i ≠ j.toNatClampNeg → P i w) → P' i w) (hd : decode c.code pc = .ok (.bastore, 1)) (hp : pc + 1 = pc')
    (g : ∀ T' h', Stand p l e R s m args below meth c T' (locs ++ [⟨a, j.toNatClampNeg⟩]) cells slots → T'.heap = h' → Wr h h' a j.toNatClampNeg (.int (nar .byte x)) → OwnArr Z h' a .byte n P' → OwnGo p e below s Q rc rs (T'.setTop (mkF m pc' Ls st))) : OwnGo p e below s Q rc rs (T.setTop (mkF m pc Ls (.int x :: .int j :: .ref a :: st))) := by
  have A0 := A
  obtain ⟨cl, Ar, S, H⟩ := A
  exact own_bastore X hx hZ eT Ar (own_inb S h0 h1) hd hp fun T' h' X' e' W => g T' h' X' e' W (A0.set W hP)
theorem own_zastoreA (X : Stand p l e R s m args below meth c T locs cells slots) (hx : p.tables.exec = Jvm.exec) (hZ : Z.Warmed39 s.vm) (eT : T.heap = h) {a : Addr} {n : Nat} {P : Nat → Value → Prop} (A : OwnArr Z h a .boolean n P) {j : Int32} {x : Int32} (h0 : 0 ≤ j.toInt) (h1 : j.toInt < n) (P' : Nat → Value → Prop) (hP : ∀ i w, i < n → (i = j.toNatClampNeg → w = (.int (nar .boolean x))) → (i ≠ j.toNatClampNeg → P i w) → P' i w) (hd : decode c.code pc = .ok (.bastore, 1)) (hp : pc + 1 = pc')
    (g : ∀ T' h', Stand p l e R s m args below meth c T' (locs ++ [⟨a, j.toNatClampNeg⟩]) cells slots → T'.heap = h' → Wr h h' a j.toNatClampNeg (.int (nar .boolean x)) → OwnArr Z h' a .boolean n P' → OwnGo p e below s Q rc rs (T'.setTop (mkF m pc' Ls st))) : OwnGo p e below s Q rc rs (T.setTop (mkF m pc Ls (.int x :: .int j :: .ref a :: st))) := by
  have A0 := A
  obtain ⟨cl, Ar, S, H⟩ := A
  exact own_zastore X hx hZ eT Ar (own_inb S h0 h1) hd hp fun T' h' X' e' W => g T' h' X' e' W (A0.set W hP)
theorem own_lastoreA (X : Stand p l e R s m args below meth c T locs cells slots) (hx : p.tables.exec = Jvm.exec) (hZ : Z.Warmed39 s.vm) (eT : T.heap = h) {a : Addr} {n : Nat} {P : Nat → Value → Prop} (A : OwnArr Z h a .long n P) {j : Int32} {x : Int64} (h0 : 0 ≤ j.toInt) (h1 : j.toInt < n) (P' : Nat → Value → Prop) (hP : ∀ i w, i < n → (i = j.toNatClampNeg → w = (.long x)) → (i ≠ j.toNatClampNeg → P i w) → P' i w) (hd : decode c.code pc = .ok (.lastore, 1)) (hp : pc + 1 = pc')
    (g : ∀ T' h', Stand p l e R s m args below meth c T' (locs ++ [⟨a, j.toNatClampNeg⟩]) cells slots → T'.heap = h' → Wr h h' a j.toNatClampNeg (.long x) → OwnArr Z h' a .long n P' → OwnGo p e below s Q rc rs (T'.setTop (mkF m pc' Ls st))) : OwnGo p e below s Q rc rs (T.setTop (mkF m pc Ls (.long x :: .int j :: .ref a :: st))) := by
  have A0 := A
  obtain ⟨cl, Ar, S, H⟩ := A
  exact own_lastore X hx hZ eT Ar (own_inb S h0 h1) hd hp fun T' h' X' e' W => g T' h' X' e' W (A0.set W hP)
theorem own_ialoadA (X : Stand p l e R s m args below meth c T locs cells slots) (hx : p.tables.exec = Jvm.exec) (hZ : Z.Warmed39 s.vm) (eT : T.heap = h) {a : Addr} {n : Nat} {P : Nat → Value → Prop} (A : OwnArr Z h a .int n P) {j : Int32} (h0 : 0 ≤ j.toInt) (h1 : j.toInt < n) (hd : decode c.code pc = .ok (.iaload, 1)) (hp : pc + 1 = pc')
    (g : ∀ v, P j.toNatClampNeg v → OwnGo p e below s Q rc rs (T.setTop (mkF m pc' Ls (v :: st)))) : OwnGo p e below s Q rc rs (T.setTop (mkF m pc Ls (.int j :: .ref a :: st))) := by
  obtain ⟨cl, Ar, S, H⟩ := A
  have hj := own_inb S h0 h1
  obtain ⟨v, q1, q2⟩ := H j.toNatClampNeg (by rw [← S]; exact Nat.lt_of_not_le fun y => hj (Or.inr y))
  exact own_iaload X hx hZ eT Ar hj q1 hd hp (g v q2)
theorem own_caloadA (X : Stand p l e R s m args below meth c T locs cells slots) (hx : p.tables.exec = Jvm.exec) (hZ : Z.Warmed39 s.vm) (eT : T.heap = h) {a : Addr} {n : Nat} {P : Nat → Value → Prop} (A : OwnArr Z h a .char n P) {j : Int32} (h0 : 0 ≤ j.toInt) (h1 : j.toInt < n) (hd : decode c.code pc = .ok (.caload, 1)) (hp : pc + 1 = pc')
    (g : ∀ v, P j.toNatClampNeg v → OwnGo p e below s Q rc rs (T.setTop (mkF m pc' Ls (v :: st)))) : OwnGo p e below s Q rc rs (T.setTop (mkF m pc Ls (.int j :: .ref a :: st))) := by
  obtain ⟨cl, Ar, S, H⟩ := A
  have hj := own_inb S h0 h1
  obtain ⟨v, q1, q2⟩ := H j.toNatClampNeg (by rw [← S]; exact Nat.lt_of_not_le fun y => hj (Or.inr y))
  exact own_caload X hx hZ eT Ar hj q1 hd hp (g v q2)
theorem own_laloadA (X : Stand p l e R s m args below meth c T locs cells slots) (hx : p.tables.exec = Jvm.exec) (hZ : Z.Warmed39 s.vm) (eT : T.heap = h) {a : Addr} {n : Nat} {P : Nat → Value → Prop} (A : OwnArr Z h a .long n P) {j : Int32} (h0 : 0 ≤ j.toInt) (h1 : j.toInt < n) (hd : decode c.code pc = .ok (.laload, 1)) (hp : pc + 1 = pc')
    (g : ∀ v, P j.toNatClampNeg v → OwnGo p e below s Q rc rs (T.setTop (mkF m pc' Ls (v :: st)))) : OwnGo p e below s Q rc rs (T.setTop (mkF m pc Ls (.int j :: .ref a :: st))) := by
  obtain ⟨cl, Ar, S, H⟩ := A
  have hj := own_inb S h0 h1
  obtain ⟨v, q1, q2⟩ := H j.toNatClampNeg (by rw [← S]; exact Nat.lt_of_not_le fun y => hj (Or.inr y))
  exact own_laload X hx hZ eT Ar hj q1 hd hp (g v q2)
theorem own_baloadA (X : Stand p l e R s m args below meth c T locs cells slots) (hx : p.tables.exec = Jvm.exec) (hZ : Z.Warmed39 s.vm) (eT : T.heap = h) {a : Addr} {n : Nat} {P : Nat → Value → Prop} (A : OwnArr Z h a .byte n P) {j : Int32} (h0 : 0 ≤ j.toInt) (h1 : j.toInt < n) (hd : decode c.code pc = .ok (.baload, 1)) (hp : pc + 1 = pc')
    (g : ∀ v, P j.toNatClampNeg v → OwnGo p e below s Q rc rs (T.setTop (mkF m pc' Ls (v :: st)))) : OwnGo p e below s Q rc rs (T.setTop (mkF m pc Ls (.int j :: .ref a :: st))) := by
  obtain ⟨cl, Ar, S, H⟩ := A
  have hj := own_inb S h0 h1
  obtain ⟨v, q1, q2⟩ := H j.toNatClampNeg (by rw [← S]; exact Nat.lt_of_not_le fun y => hj (Or.inr y))
  exact own_baload X hx hZ eT Ar hj q1 hd hp (g v q2)
theorem own_zaloadA (X : Stand p l e R s m args below meth c T locs cells slots) (hx : p.tables.exec = Jvm.exec) (hZ : Z.Warmed39 s.vm) (eT : T.heap = h) {a : Addr} {n : Nat} {P : Nat → Value → Prop} (A : OwnArr Z h a .boolean n P) {j : Int32} (h0 : 0 ≤ j.toInt) (h1 : j.toInt < n) (hd : decode c.code pc = .ok (.baload, 1)) (hp : pc + 1 = pc')
    (g : ∀ v, P j.toNatClampNeg v → OwnGo p e below s Q rc rs (T.setTop (mkF m pc' Ls (v :: st)))) : OwnGo p e below s Q rc rs (T.setTop (mkF m pc Ls (.int j :: .ref a :: st))) := by
  obtain ⟨cl, Ar, S, H⟩ := A
  have hj := own_inb S h0 h1
  obtain ⟨v, q1, q2⟩ := H j.toNatClampNeg (by rw [← S]; exact Nat.lt_of_not_le fun y => hj (Or.inr y))
  exact own_zaload X hx hZ eT Ar hj q1 hd hp (g v q2)
theorem own_lengthA (X : Stand p l e R s m args below meth c T locs cells slots) (hx : p.tables.exec = Jvm.exec) (hZ : Z.Warmed39 s.vm) (eT : T.heap = h) {a : Addr} {n : Nat} {P : Nat → Value → Prop} {ty : FieldType} {z : Int32} (A : OwnArr Z h a ty n P) (hz : z.toInt = n) (hd : decode c.code pc = .ok (.arraylength, 1)) (hp : pc + 1 = pc')
    (g : OwnGo p e below s Q rc rs (T.setTop (mkF m pc' Ls (.int z :: st)))) : OwnGo p e below s Q rc rs (T.setTop (mkF m pc Ls (.ref a :: st))) := by
  obtain ⟨cl, Ar, S, H⟩ := A
  exact own_arraylength X hx hZ eT Ar (by rw [S]; exact own_len hz) hd hp g
end OwnKit
theorem d_step_0 : decode method_3_code 0 = .ok (.bipush 31, 2) := by decide +kernel
theorem d_step_2 : decode method_3_code 2 = .ok (.iload_n 0, 1) := by decide +kernel
theorem d_step_3 : decode method_3_code 3 = .ok (.imul, 1) := by decide +kernel
theorem d_step_4 : decode method_3_code 4 = .ok (.iload_n 1, 1) := by decide +kernel
theorem d_step_5 : decode method_3_code 5 = .ok (.sipush 255, 3) := by decide +kernel
theorem d_step_8 : decode method_3_code 8 = .ok (.iand, 1) := by decide +kernel
theorem d_step_9 : decode method_3_code 9 = .ok (.iadd, 1) := by decide +kernel
theorem d_step_10 : decode method_3_code 10 = .ok (.ireturn, 1) := by decide +kernel
theorem ef_step (m : MethodId) (x0 : Int32) (x1 : Int32) : entryFrame m #[(.int x0), (.int x1)] 2 = mkF m 0 #[.val (.int x0), .val (.int x1)] [] := by first | (simp [entryFrame, mkF, argsToLocals, Value.category]; done) | rfl
theorem pn_com_example_blois_blois_KeySequencesCodePinLaw : plainName "com/example/blois/blois/KeySequencesCodePinLaw" = true := by first | (simp [plainName, overriddenIn]; done) | decide +kernel
theorem d_code_10 : decode prog_114_method_12_code 10 = .ok (.iload 5, 2) := by decide +kernel
theorem d_code_12 : decode prog_114_method_12_code 12 = .ok (.iconst 1, 1) := by decide +kernel
theorem d_code_13 : decode prog_114_method_12_code 13 = .ok (.iadd, 1) := by decide +kernel
theorem d_code_14 : decode prog_114_method_12_code 14 = .ok (.iload 4, 2) := by decide +kernel
theorem d_code_16 : decode prog_114_method_12_code 16 = .ok (.if_icmp .ge 38, 3) := by decide +kernel
theorem d_code_54 : decode prog_114_method_12_code 54 = .ok (.iload 5, 2) := by decide +kernel
theorem d_code_56 : decode prog_114_method_12_code 56 = .ok (.iload 4, 2) := by decide +kernel
theorem d_code_58 : decode prog_114_method_12_code 58 = .ok (.if_icmp .ge 17, 3) := by decide +kernel
theorem d_code_75 : decode prog_114_method_12_code 75 = .ok (.iload_n 3, 1) := by decide +kernel
theorem d_code_76 : decode prog_114_method_12_code 76 = .ok (.ireturn, 1) := by decide +kernel
theorem d_code_61 : decode prog_114_method_12_code 61 = .ok (.bipush 31, 2) := by decide +kernel
theorem d_code_63 : decode prog_114_method_12_code 63 = .ok (.iload_n 3, 1) := by decide +kernel
theorem d_code_64 : decode prog_114_method_12_code 64 = .ok (.imul, 1) := by decide +kernel
theorem d_code_65 : decode prog_114_method_12_code 65 = .ok (.aload_n 0, 1) := by decide +kernel
theorem d_code_66 : decode prog_114_method_12_code 66 = .ok (.iload 5, 2) := by decide +kernel
theorem d_code_68 : decode prog_114_method_12_code 68 = .ok (.baload, 1) := by decide +kernel
theorem d_code_69 : decode prog_114_method_12_code 69 = .ok (.sipush 255, 3) := by decide +kernel
theorem d_code_72 : decode prog_114_method_12_code 72 = .ok (.iand, 1) := by decide +kernel
theorem d_code_73 : decode prog_114_method_12_code 73 = .ok (.iadd, 1) := by decide +kernel
theorem d_code_74 : decode prog_114_method_12_code 74 = .ok (.istore_n 3, 1) := by decide +kernel
theorem d_code_19 : decode prog_114_method_12_code 19 = .ok (.sipush 961, 3) := by decide +kernel
theorem d_code_22 : decode prog_114_method_12_code 22 = .ok (.iload_n 3, 1) := by decide +kernel
theorem d_code_23 : decode prog_114_method_12_code 23 = .ok (.imul, 1) := by decide +kernel
theorem d_code_24 : decode prog_114_method_12_code 24 = .ok (.bipush 31, 2) := by decide +kernel
theorem d_code_26 : decode prog_114_method_12_code 26 = .ok (.aload_n 0, 1) := by decide +kernel
theorem d_code_27 : decode prog_114_method_12_code 27 = .ok (.iload 5, 2) := by decide +kernel
theorem d_code_29 : decode prog_114_method_12_code 29 = .ok (.baload, 1) := by decide +kernel
theorem d_code_30 : decode prog_114_method_12_code 30 = .ok (.sipush 255, 3) := by decide +kernel
theorem d_code_33 : decode prog_114_method_12_code 33 = .ok (.iand, 1) := by decide +kernel
theorem d_code_34 : decode prog_114_method_12_code 34 = .ok (.imul, 1) := by decide +kernel
theorem d_code_35 : decode prog_114_method_12_code 35 = .ok (.iadd, 1) := by decide +kernel
theorem d_code_36 : decode prog_114_method_12_code 36 = .ok (.aload_n 0, 1) := by decide +kernel
theorem d_code_37 : decode prog_114_method_12_code 37 = .ok (.iload 5, 2) := by decide +kernel
theorem d_code_39 : decode prog_114_method_12_code 39 = .ok (.iconst 1, 1) := by decide +kernel
theorem d_code_40 : decode prog_114_method_12_code 40 = .ok (.iadd, 1) := by decide +kernel
theorem d_code_41 : decode prog_114_method_12_code 41 = .ok (.baload, 1) := by decide +kernel
theorem d_code_42 : decode prog_114_method_12_code 42 = .ok (.sipush 255, 3) := by decide +kernel
theorem d_code_45 : decode prog_114_method_12_code 45 = .ok (.iand, 1) := by decide +kernel
theorem d_code_46 : decode prog_114_method_12_code 46 = .ok (.iadd, 1) := by decide +kernel
theorem d_code_47 : decode prog_114_method_12_code 47 = .ok (.istore_n 3, 1) := by decide +kernel
theorem d_code_48 : decode prog_114_method_12_code 48 = .ok (.iinc 5 2, 3) := by decide +kernel
theorem d_code_51 : decode prog_114_method_12_code 51 = .ok (.goto (-41), 3) := by decide +kernel
theorem d_code_0 : decode prog_114_method_12_code 0 = .ok (.iconst 0, 1) := by decide +kernel
theorem d_code_1 : decode prog_114_method_12_code 1 = .ok (.istore_n 3, 1) := by decide +kernel
theorem d_code_2 : decode prog_114_method_12_code 2 = .ok (.iload_n 1, 1) := by decide +kernel
theorem d_code_3 : decode prog_114_method_12_code 3 = .ok (.iload_n 2, 1) := by decide +kernel
theorem d_code_4 : decode prog_114_method_12_code 4 = .ok (.iadd, 1) := by decide +kernel
theorem d_code_5 : decode prog_114_method_12_code 5 = .ok (.istore 4, 2) := by decide +kernel
theorem d_code_7 : decode prog_114_method_12_code 7 = .ok (.iload_n 1, 1) := by decide +kernel
theorem d_code_8 : decode prog_114_method_12_code 8 = .ok (.istore 5, 2) := by decide +kernel
theorem ef_code (m : MethodId) (x0 : Addr) (x1 : Int32) (x2 : Int32) : entryFrame m #[(.ref x0), (.int x1), (.int x2)] 6 = mkF m 0 #[.val (.ref x0), .val (.int x1), .val (.int x2), .unset, .unset, .unset] [] := by first | (simp [entryFrame, mkF, argsToLocals, Value.category]; done) | rfl
theorem pn_com_example_blois_blois_KeySequences : plainName "com/example/blois/blois/KeySequences" = true := by first | (simp [plainName, overriddenIn]; done) | decide +kernel
theorem pd___BII_I : parseMethodDescriptor "([BII)I" = some ⟨[(.array .byte), .int, .int], some .int⟩ := by decide +kernel
theorem pd__IB_I : parseMethodDescriptor "(IB)I" = some ⟨[.int, .byte], some .int⟩ := by decide +kernel
theorem ef_law (m : MethodId) (x0 : Int64) (x1 : Int32) : entryFrame m #[(.long x0), (.int x1)] maxLocals = mkF m 0 #[.val (.long x0), .second, .val (.int x1), .unset, .unset, .unset, .unset] [] := by first | (simp [entryFrame, mkF, argsToLocals, Value.category, maxLocals]; done) | rfl
def own_H (f : Nat → Int32) (st : Nat) : Nat → Int32
  | 0 => 0
  | k + 1 => 31 * own_H f st k + (f (st + k) &&& 255)
theorem own_H2 (f : Nat → Int32) (st k : Nat) : 961 * own_H f st k + 31 * (f (st + k) &&& 255) + (f (st + (k + 1)) &&& 255) = own_H f st (k + 2) := by
  show _ = 31 * (31 * own_H f st k + (f (st + k) &&& 255)) + (f (st + (k + 1)) &&& 255)
  rw [Int32.mul_add, ← Int32.mul_assoc]
  rfl
def own_isI (_ : Nat) (v : Value) : Prop := ∃ x, v = .int x
theorem own_isI_set {n sl : Nat} {v : Value} (hv : ∃ x, v = .int x) : ∀ i w, i < n → (i = sl → w = v) → (i ≠ sl → own_isI i w) → own_isI i w := by
  intro i w _ q1 q2
  by_cases q : i = sl
  · rw [q1 q]; exact hv
  · exact q2 q
theorem own_pickf {Z : State} {h : Heap} {a : Addr} {ty : FieldType} {n : Nat} (A : OwnArr Z h a ty n own_isI) : ∃ f : Nat → Int32, OwnArr Z h a ty n (fun j v => v = .int (f j)) := by
  obtain ⟨cl, A, S, H⟩ := A
  refine ⟨fun j => match cl.slots[j]? with | some (.int x) => x | _ => 0, cl, A, S, fun j hj => ?_⟩
  obtain ⟨v, h1, x, rfl⟩ := H j hj
  exact ⟨_, h1, by simp [h1]⟩
theorem own_and3 (x : Int32) : 0 ≤ (x &&& 3).toInt ∧ (x &&& 3).toInt ≤ 3 := by
  have q := c_mask x 3 2 (by decide) (by decide)
  omega
theorem own_sub8 {st : Int32} (h : 0 ≤ st.toInt ∧ st.toInt ≤ 3) : (8 - st).toInt = 8 - st.toInt := by
  have q := c_isub 8 st
  have r := rng32 (8 - st)
  have l8 : (8 : Int32).toInt = 8 := by decide
  omega
theorem own_nz {v : Int32} (h : 0 < v.toInt) : v ≠ 0 := by
  rintro rfl
  have : (0 : Int32).toInt = 0 := by decide
  omega
theorem own_ln (x : Int32) {st : Int32} (h : 0 ≤ st.toInt ∧ st.toInt ≤ 3) : 0 ≤ ((XT.ushr x 2 &&& 7) % (8 - st)).toInt ∧ st.toInt + ((XT.ushr x 2 &&& 7) % (8 - st)).toInt ≤ 7 := by
  have e := own_sub8 h
  have q := c_mask (XT.ushr x 2) 7 3 (by decide) (by decide)
  have r := (c_iremV (XT.ushr x 2 &&& 7) (8 - st)).1 (by omega) (by omega)
  omega
theorem own_gt {k v : Int32} {n : Nat} (e : k.toInt = n) (h : k < v) : n < v.toInt.toNat := by
  rw [Int32.lt_iff_toInt_lt] at h
  omega
theorem own_ngt {k v : Int32} {n : Nat} (e : k.toInt = n) (h : ¬ k < v) : v.toInt.toNat ≤ n := by
  rw [Int32.lt_iff_toInt_lt] at h
  omega
theorem own_addl {st k : Int32} {n : Nat} (h : 0 ≤ st.toInt ∧ st.toInt ≤ 7) (e : k.toInt = n) (hn : n ≤ 8) : (st + k).toInt = st.toInt + n := by
  have q := c_iadd st k
  have r := rng32 (st + k)
  omega

set_option maxRecDepth 65536 in
set_option maxHeartbeats 40000000 in
theorem rm_step {l : Launch} {Z : State} {a0 : Array Value} {h : Heap} (hw : ∀ d ∈ tables_1, d.before a0 Z = true) (u : Int32) (b : Int32) : OwnPure l Z (⟨"com/example/blois/blois/KeySequencesCodePinLaw", "step", "(IB)I"⟩ : MethodName) method_3_code 2 (some .int) #[(.int u), (.int b)] (.int (31 * u + (b &&& 255))) h :=
 own_met (Q := fun ov oh oL => ov = some (.int (31 * u + (b &&& 255))) ∧ oh = h ∧ oL = []) (rm := ownR0) (plainFor_of_name pn_com_example_blois_blois_KeySequencesCodePinLaw) (fun m => ef_step m u b) fun p e s m below meth c T hx hZ hby hml hown hnm hret hlk X eT => by
  refine own_bipush X hx (hb hby d_step_0) (z := (31 : Int32)) rfl (pc' := 2) rfl ?_
  refine own_iloadN X hx (hb hby d_step_2) rfl (pc' := 3) rfl ?_
  refine own_imul X hx (hb hby d_step_3) (pc' := 4) rfl ?_
  refine own_iloadN X hx (hb hby d_step_4) rfl (pc' := 5) rfl ?_
  refine own_sipush X hx (hb hby d_step_5) (z := (255 : Int32)) rfl (pc' := 8) rfl ?_
  refine own_iand X hx (hb hby d_step_8) (pc' := 9) rfl ?_
  refine own_iadd X hx (hb hby d_step_9) (pc' := 10) rfl ?_
  exact own_retI X hx eT hret hlk (Nat.le_refl _) (Nat.le_refl _) (hb hby d_step_10) ⟨rfl, rfl, rfl⟩
set_option maxRecDepth 65536 in
set_option maxHeartbeats 40000000 in
theorem rm_code {l : Launch} {Z : State} {a0 : Array Value} {h : Heap} (hw : ∀ d ∈ tables_1, d.before a0 Z = true) (b : Addr) (st ln : Int32) (f : Nat → Int32) (A : OwnArr Z h b .byte 7 (fun j v => v = .int (f j))) (h0 : 0 ≤ st.toInt) (h1 : 0 ≤ ln.toInt) (h2 : st.toInt + ln.toInt ≤ 7) : OwnPure l Z (⟨"com/example/blois/blois/KeySequences", "code", "([BII)I"⟩ : MethodName) prog_114_method_12_code 6 (some .int) #[.ref b, .int st, .int ln] (.int (own_H f st.toInt.toNat ln.toInt.toNat)) h :=
 own_met (Q := fun v h' L => v = some (.int (own_H f st.toInt.toNat ln.toInt.toNat)) ∧ h' = h ∧ L = []) (rm := ownR0) (plainFor_of_name pn_com_example_blois_blois_KeySequences) (fun m => ef_code m b st ln) fun p e s m below meth c T hx hZ hby hml hown hnm hret hlk X eT => by
  refine own_iconst X hx (hb hby d_code_0) (z := (0 : Int32)) rfl (pc' := 1) rfl ?_
  refine own_istoreN X hx (hb hby d_code_1) (Ls' := #[.val (.ref b), .val (.int st), .val (.int ln), .val (.int (0 : Int32)), .unset, .unset]) rfl (pc' := 2) rfl ?_
  refine own_iloadN X hx (hb hby d_code_2) rfl (pc' := 3) rfl ?_
  refine own_iloadN X hx (hb hby d_code_3) rfl (pc' := 4) rfl ?_
  refine own_iadd X hx (hb hby d_code_4) (pc' := 5) rfl ?_
  generalize hen : (st + ln) = en
  refine own_istore X hx (hb hby d_code_5) (Ls' := #[.val (.ref b), .val (.int st), .val (.int ln), .val (.int (0 : Int32)), .val (.int en), .unset]) rfl (pc' := 7) rfl ?_
  refine own_iloadN X hx (hb hby d_code_7) rfl (pc' := 8) rfl ?_
  refine own_istore X hx (hb hby d_code_8) (Ls' := #[.val (.ref b), .val (.int st), .val (.int ln), .val (.int (0 : Int32)), .val (.int en), .val (.int st)]) rfl (pc' := 10) rfl ?_
  have hen1 : en.toInt = st.toInt + ln.toInt := by
    rw [← hen]
    have q := c_iadd st ln
    have r := rng32 (st + ln)
    omega
  have loop : ∀ (n k : Nat) (i hh : Int32), k ≤ ln.toInt.toNat → ln.toInt.toNat - k = n → i.toInt = st.toInt + k → hh = own_H f st.toInt.toNat k → OwnGo p e below s (fun v h' L => v = some (.int (own_H f st.toInt.toNat ln.toInt.toNat)) ∧ h' = h ∧ L = []) ownR0.cells ownR0.slots (T.setTop (mkF m 10 #[.val (.ref b), .val (.int st), .val (.int ln), .val (.int hh), .val (.int en), .val (.int i)] [])) := by
    intro n
    induction n using Nat.strongRecOn with
    | _ n ih =>
      intro k i hh hk hn hi hhh
      have hi1 : (i + 1).toInt = i.toInt + 1 := own_addl (n := 1) (by omega) (by decide) (by decide)
      have hnc : i.toNatClampNeg = st.toInt.toNat + k := by rw [Int32.toNatClampNeg]; omega
      refine own_iload X hx (hb hby d_code_10) rfl (pc' := 12) rfl ?_
      refine own_iconst X hx (hb hby d_code_12) (z := (1 : Int32)) rfl (pc' := 13) rfl ?_
      refine own_iadd X hx (hb hby d_code_13) (pc' := 14) rfl ?_
      refine own_iload X hx (hb hby d_code_14) rfl (pc' := 16) rfl ?_
      refine own_icmp_ge X hx (hb hby d_code_16) (pc1 := 19) (pc2 := 54) rfl (by decide) (fun hc16 => ?_) (fun hc16 => ?_)
      · have hge : en.toInt ≤ i.toInt + 1 := by rw [Int32.lt_iff_toInt_lt] at hc16; omega
        refine own_iload X hx (hb hby d_code_54) rfl (pc' := 56) rfl ?_
        refine own_iload X hx (hb hby d_code_56) rfl (pc' := 58) rfl ?_
        refine own_icmp_ge X hx (hb hby d_code_58) (pc1 := 61) (pc2 := 75) rfl (by decide) (fun hc58 => ?_) (fun hc58 => ?_)
        · have hge2 : en.toInt ≤ i.toInt := by rw [Int32.lt_iff_toInt_lt] at hc58; omega
          refine own_iloadN X hx (hb hby d_code_75) rfl (pc' := 76) rfl ?_
          exact own_retI X hx eT hret hlk (Nat.le_refl _) (Nat.le_refl _) (hb hby d_code_76) ⟨by rw [hhh, show k = ln.toInt.toNat by omega], rfl, rfl⟩
        · have hlt : i.toInt < en.toInt := by rw [Int32.lt_iff_toInt_lt] at hc58; omega
          refine own_bipush X hx (hb hby d_code_61) (z := (31 : Int32)) rfl (pc' := 63) rfl ?_
          refine own_iloadN X hx (hb hby d_code_63) rfl (pc' := 64) rfl ?_
          refine own_imul X hx (hb hby d_code_64) (pc' := 65) rfl ?_
          refine own_aloadN X hx (hb hby d_code_65) rfl rfl (pc' := 66) rfl ?_
          refine own_iload X hx (hb hby d_code_66) rfl (pc' := 68) rfl ?_
          refine own_baloadA X hx hZ eT A (by omega) (by omega) (hb hby d_code_68) (pc' := 69) rfl fun v hv => ?_
          subst hv
          refine own_sipush X hx (hb hby d_code_69) (z := (255 : Int32)) rfl (pc' := 72) rfl ?_
          refine own_iand X hx (hb hby d_code_72) (pc' := 73) rfl ?_
          refine own_iadd X hx (hb hby d_code_73) (pc' := 74) rfl ?_
          refine own_istoreN X hx (hb hby d_code_74) (Ls' := #[.val (.ref b), .val (.int st), .val (.int ln), .val (.int (((31 : Int32) * hh) + ((f i.toNatClampNeg) &&& (255 : Int32)))), .val (.int en), .val (.int i)]) rfl (pc' := 75) rfl ?_
          skip
          refine own_iloadN X hx (hb hby d_code_75) rfl (pc' := 76) rfl ?_
          exact own_retI X hx eT hret hlk (Nat.le_refl _) (Nat.le_refl _) (hb hby d_code_76) ⟨by rw [show ln.toInt.toNat = k + 1 by omega, hhh, hnc]; rfl, rfl, rfl⟩
      · have hlt : i.toInt + 1 < en.toInt := by rw [Int32.lt_iff_toInt_lt] at hc16; omega
        refine own_sipush X hx (hb hby d_code_19) (z := (961 : Int32)) rfl (pc' := 22) rfl ?_
        refine own_iloadN X hx (hb hby d_code_22) rfl (pc' := 23) rfl ?_
        refine own_imul X hx (hb hby d_code_23) (pc' := 24) rfl ?_
        refine own_bipush X hx (hb hby d_code_24) (z := (31 : Int32)) rfl (pc' := 26) rfl ?_
        refine own_aloadN X hx (hb hby d_code_26) rfl rfl (pc' := 27) rfl ?_
        refine own_iload X hx (hb hby d_code_27) rfl (pc' := 29) rfl ?_
        refine own_baloadA X hx hZ eT A (by omega) (by omega) (hb hby d_code_29) (pc' := 30) rfl fun v hv => ?_
        subst hv
        refine own_sipush X hx (hb hby d_code_30) (z := (255 : Int32)) rfl (pc' := 33) rfl ?_
        refine own_iand X hx (hb hby d_code_33) (pc' := 34) rfl ?_
        refine own_imul X hx (hb hby d_code_34) (pc' := 35) rfl ?_
        refine own_iadd X hx (hb hby d_code_35) (pc' := 36) rfl ?_
        refine own_aloadN X hx (hb hby d_code_36) rfl rfl (pc' := 37) rfl ?_
        refine own_iload X hx (hb hby d_code_37) rfl (pc' := 39) rfl ?_
        refine own_iconst X hx (hb hby d_code_39) (z := (1 : Int32)) rfl (pc' := 40) rfl ?_
        refine own_iadd X hx (hb hby d_code_40) (pc' := 41) rfl ?_
        refine own_baloadA X hx hZ eT A (by omega) (by omega) (hb hby d_code_41) (pc' := 42) rfl fun v hv => ?_
        subst hv
        refine own_sipush X hx (hb hby d_code_42) (z := (255 : Int32)) rfl (pc' := 45) rfl ?_
        refine own_iand X hx (hb hby d_code_45) (pc' := 46) rfl ?_
        refine own_iadd X hx (hb hby d_code_46) (pc' := 47) rfl ?_
        refine own_istoreN X hx (hb hby d_code_47) (Ls' := #[.val (.ref b), .val (.int st), .val (.int ln), .val (.int ((((961 : Int32) * hh) + ((31 : Int32) * ((f i.toNatClampNeg) &&& (255 : Int32)))) + ((f (i + (1 : Int32)).toNatClampNeg) &&& (255 : Int32)))), .val (.int en), .val (.int i)]) rfl (pc' := 48) rfl ?_
        refine own_iinc X hx (hb hby d_code_48) rfl (z := (i + (2 : Int32))) rfl (Ls' := #[.val (.ref b), .val (.int st), .val (.int ln), .val (.int ((((961 : Int32) * hh) + ((31 : Int32) * ((f i.toNatClampNeg) &&& (255 : Int32)))) + ((f (i + (1 : Int32)).toNatClampNeg) &&& (255 : Int32)))), .val (.int en), .val (.int (i + (2 : Int32)))]) rfl (pc' := 51) rfl ?_
        refine own_goto X hx (hb hby d_code_51) (pc' := 10) (by decide) ?_
        have hi2 : (i + 2).toInt = i.toInt + 2 := own_addl (n := 2) (by omega) (by decide) (by decide)
        have hnc1 : (i + 1).toNatClampNeg = st.toInt.toNat + (k + 1) := by rw [Int32.toNatClampNeg]; omega
        exact ih _ (by omega) (k + 2) (i + 2) _ (by omega) rfl (by omega) (by rw [hhh, hnc, hnc1]; exact own_H2 f _ k)
  exact loop _ 0 st 0 (by omega) rfl (by omega) rfl
set_option maxRecDepth 65536 in
set_option maxHeartbeats 40000000 in
theorem rm_law (l : Launch) (Z : State) (a0 : Array Value) (hw : ∀ d ∈ tables_1, d.before a0 Z = true) (ws : List Jvm.Cond) (aa : Int64) (sx : Int32) (h0 : Heap) (n0 : Nat) (hn0 : n0 ≤ h0.size) :
    MetFree l x (head1 (Jvm.Cond.code x code maxLocals ret :: ws) room_1) (fun a U => a = #[(.long aa), (.int sx)] ∧ Z.Warmed39 U.vm ∧ U.heap = h0) (fun _ _ _ _ _ => True) (fun _ U o U' => ∃ v L, o = .returned v ∧ (v = some (.int 1) ∧ Fr n0 L) ∧ FrameEnd U o U' L room_1.cells room_1.slots) :=
 own_met (Q := fun v _ L => v = some (.int 1) ∧ Fr n0 L) (plainFor_of_name pn_com_example_blois_blois_KeySequencesCodePinLaw) (fun m => ef_law m aa sx) fun p e s m below meth c T hx hZ hby hml hown hnm hret hlk X eT => by
  refine own_bipush X hx (hb hby at_0) (z := (7 : Int32)) rfl (pc' := 2) rfl ?_
  have N := Fr.nil n0
  refine own_newP X hx hZ (aty := .byte) (hw _ (List.mem_of_getElem? (i := 0) rfl)) eT (n := (7 : Int32)) (by decide) (cap := 7) (by decide) (by decide) (by decide) (by decide) (ad := "[B") (by decide) (hb hby at_2) (pc' := 4) rfl fun T h1 b k hbs X eT E A _ => ?_
  replace A : OwnArr Z h1 b .byte 7 own_isI := (OwnArr.new (ty := .byte) A (by decide)).mono fun _ _ _ q => ⟨0, q⟩
  have ga : n0 ≤ b := by rw [hbs]; exact hn0
  refine own_astoreN X hx (hb hby at_4) rfl (Ls' := #[.val (.long aa), .second, .val (.int sx), .val (.ref b), .unset, .unset, .unset]) rfl (pc' := 5) rfl ?_
  refine own_aloadN X hx (hb hby at_5) rfl rfl (pc' := 6) rfl ?_
  refine own_iconst X hx (hb hby at_6) (z := (0 : Int32)) rfl (pc' := 7) rfl ?_
  refine own_lloadN X hx (hb hby at_7) rfl (pc' := 8) rfl ?_
  refine own_l2i X hx (hb hby at_8) (pc' := 9) rfl ?_
  refine own_i2b X hx (hb hby at_9) (pc' := 10) rfl ?_
  refine own_bastoreA X hx hZ eT A (by decide) (by decide) own_isI (own_isI_set ⟨_, rfl⟩) (hb hby at_10) (pc' := 11) rfl fun T h1 X eT W A => ?_
  replace N := Fr.snoc X N ga
  refine own_aloadN X hx (hb hby at_11) rfl rfl (pc' := 12) rfl ?_
  refine own_iconst X hx (hb hby at_12) (z := (1 : Int32)) rfl (pc' := 13) rfl ?_
  refine own_lloadN X hx (hb hby at_13) rfl (pc' := 14) rfl ?_
  refine own_bipush X hx (hb hby at_14) (z := (8 : Int32)) rfl (pc' := 16) rfl ?_
  refine own_lushr X hx (hb hby at_16) (pc' := 17) rfl ?_
  refine own_l2i X hx (hb hby at_17) (pc' := 18) rfl ?_
  refine own_i2b X hx (hb hby at_18) (pc' := 19) rfl ?_
  refine own_bastoreA X hx hZ eT A (by decide) (by decide) own_isI (own_isI_set ⟨_, rfl⟩) (hb hby at_19) (pc' := 20) rfl fun T h1 X eT W A => ?_
  replace N := Fr.snoc X N ga
  refine own_aloadN X hx (hb hby at_20) rfl rfl (pc' := 21) rfl ?_
  refine own_iconst X hx (hb hby at_21) (z := (2 : Int32)) rfl (pc' := 22) rfl ?_
  refine own_lloadN X hx (hb hby at_22) rfl (pc' := 23) rfl ?_
  refine own_bipush X hx (hb hby at_23) (z := (16 : Int32)) rfl (pc' := 25) rfl ?_
  refine own_lushr X hx (hb hby at_25) (pc' := 26) rfl ?_
  refine own_l2i X hx (hb hby at_26) (pc' := 27) rfl ?_
  refine own_i2b X hx (hb hby at_27) (pc' := 28) rfl ?_
  refine own_bastoreA X hx hZ eT A (by decide) (by decide) own_isI (own_isI_set ⟨_, rfl⟩) (hb hby at_28) (pc' := 29) rfl fun T h1 X eT W A => ?_
  replace N := Fr.snoc X N ga
  refine own_aloadN X hx (hb hby at_29) rfl rfl (pc' := 30) rfl ?_
  refine own_iconst X hx (hb hby at_30) (z := (3 : Int32)) rfl (pc' := 31) rfl ?_
  refine own_lloadN X hx (hb hby at_31) rfl (pc' := 32) rfl ?_
  refine own_bipush X hx (hb hby at_32) (z := (24 : Int32)) rfl (pc' := 34) rfl ?_
  refine own_lushr X hx (hb hby at_34) (pc' := 35) rfl ?_
  refine own_l2i X hx (hb hby at_35) (pc' := 36) rfl ?_
  refine own_i2b X hx (hb hby at_36) (pc' := 37) rfl ?_
  refine own_bastoreA X hx hZ eT A (by decide) (by decide) own_isI (own_isI_set ⟨_, rfl⟩) (hb hby at_37) (pc' := 38) rfl fun T h1 X eT W A => ?_
  replace N := Fr.snoc X N ga
  refine own_aloadN X hx (hb hby at_38) rfl rfl (pc' := 39) rfl ?_
  refine own_iconst X hx (hb hby at_39) (z := (4 : Int32)) rfl (pc' := 40) rfl ?_
  refine own_lloadN X hx (hb hby at_40) rfl (pc' := 41) rfl ?_
  refine own_bipush X hx (hb hby at_41) (z := (32 : Int32)) rfl (pc' := 43) rfl ?_
  refine own_lushr X hx (hb hby at_43) (pc' := 44) rfl ?_
  refine own_l2i X hx (hb hby at_44) (pc' := 45) rfl ?_
  refine own_i2b X hx (hb hby at_45) (pc' := 46) rfl ?_
  refine own_bastoreA X hx hZ eT A (by decide) (by decide) own_isI (own_isI_set ⟨_, rfl⟩) (hb hby at_46) (pc' := 47) rfl fun T h1 X eT W A => ?_
  replace N := Fr.snoc X N ga
  refine own_aloadN X hx (hb hby at_47) rfl rfl (pc' := 48) rfl ?_
  refine own_iconst X hx (hb hby at_48) (z := (5 : Int32)) rfl (pc' := 49) rfl ?_
  refine own_lloadN X hx (hb hby at_49) rfl (pc' := 50) rfl ?_
  refine own_bipush X hx (hb hby at_50) (z := (40 : Int32)) rfl (pc' := 52) rfl ?_
  refine own_lushr X hx (hb hby at_52) (pc' := 53) rfl ?_
  refine own_l2i X hx (hb hby at_53) (pc' := 54) rfl ?_
  refine own_i2b X hx (hb hby at_54) (pc' := 55) rfl ?_
  refine own_bastoreA X hx hZ eT A (by decide) (by decide) own_isI (own_isI_set ⟨_, rfl⟩) (hb hby at_55) (pc' := 56) rfl fun T h1 X eT W A => ?_
  replace N := Fr.snoc X N ga
  refine own_aloadN X hx (hb hby at_56) rfl rfl (pc' := 57) rfl ?_
  refine own_bipush X hx (hb hby at_57) (z := (6 : Int32)) rfl (pc' := 59) rfl ?_
  refine own_lloadN X hx (hb hby at_59) rfl (pc' := 60) rfl ?_
  refine own_bipush X hx (hb hby at_60) (z := (48 : Int32)) rfl (pc' := 62) rfl ?_
  refine own_lushr X hx (hb hby at_62) (pc' := 63) rfl ?_
  refine own_l2i X hx (hb hby at_63) (pc' := 64) rfl ?_
  refine own_i2b X hx (hb hby at_64) (pc' := 65) rfl ?_
  refine own_bastoreA X hx hZ eT A (by decide) (by decide) own_isI (own_isI_set ⟨_, rfl⟩) (hb hby at_65) (pc' := 66) rfl fun T h1 X eT W A => ?_
  replace N := Fr.snoc X N ga
  refine own_iloadN X hx (hb hby at_66) rfl (pc' := 67) rfl ?_
  refine own_iconst X hx (hb hby at_67) (z := (3 : Int32)) rfl (pc' := 68) rfl ?_
  refine own_iand X hx (hb hby at_68) (pc' := 69) rfl ?_
  generalize hst : (sx &&& (3 : Int32)) = st
  refine own_istore X hx (hb hby at_69) (Ls' := #[.val (.long aa), .second, .val (.int sx), .val (.ref b), .val (.int st), .unset, .unset]) rfl (pc' := 71) rfl ?_
  have hs1 : 0 ≤ st.toInt ∧ st.toInt ≤ 3 := by rw [← hst]; exact own_and3 sx
  refine own_iloadN X hx (hb hby at_71) rfl (pc' := 72) rfl ?_
  refine own_iconst X hx (hb hby at_72) (z := (2 : Int32)) rfl (pc' := 73) rfl ?_
  refine own_iushr X hx (hb hby at_73) (pc' := 74) rfl ?_
  refine own_bipush X hx (hb hby at_74) (z := (7 : Int32)) rfl (pc' := 76) rfl ?_
  refine own_iand X hx (hb hby at_76) (pc' := 77) rfl ?_
  refine own_bipush X hx (hb hby at_77) (z := (8 : Int32)) rfl (pc' := 79) rfl ?_
  refine own_iload X hx (hb hby at_79) rfl (pc' := 81) rfl ?_
  refine own_isub X hx (hb hby at_81) (pc' := 82) rfl ?_
  refine own_irem X hx (hb hby at_82) (own_nz (by rw [own_sub8 hs1]; omega)) (pc' := 83) rfl ?_
  generalize hln : (((XT.ushr sx (2 : Int32)) &&& (7 : Int32)) % ((8 : Int32) - st)) = ln
  refine own_istore X hx (hb hby at_83) (Ls' := #[.val (.long aa), .second, .val (.int sx), .val (.ref b), .val (.int st), .val (.int ln), .unset]) rfl (pc' := 85) rfl ?_
  have hl1 : 0 ≤ ln.toInt ∧ st.toInt + ln.toInt ≤ 7 := by rw [← hln]; exact own_ln sx hs1
  refine own_iconst X hx (hb hby at_85) (z := (0 : Int32)) rfl (pc' := 86) rfl ?_
  refine own_istore X hx (hb hby at_86) (Ls' := #[.val (.long aa), .second, .val (.int sx), .val (.ref b), .val (.int st), .val (.int ln), .val (.int (0 : Int32))]) rfl (pc' := 88) rfl ?_
  obtain ⟨f, A⟩ := own_pickf A
  have j7 : ∀ (T : State) (lc : List Loc), Stand p l e room_1 s m #[.long aa, .int sx] below meth c T lc 1 7 → T.heap = h1 → Fr n0 lc → ∀ z : Int32, z = own_H f st.toInt.toNat (min ln.toInt.toNat 7) → OwnGo p e below s (fun v _ L => v = some (.int 1) ∧ Fr n0 L) room_1.cells room_1.slots (T.setTop (mkF m 220 #[.val (.long aa), .second, .val (.int sx), .val (.ref b), .val (.int st), .val (.int ln), .val (.int z)] [])) := by
    intro T lc X eT N z hz
    refine own_aloadN X hx (hb hby at_220) rfl rfl (pc' := 221) rfl ?_
    refine own_iload X hx (hb hby at_221) rfl (pc' := 223) rfl ?_
    refine own_iload X hx (hb hby at_223) rfl (pc' := 225) rfl ?_
    refine own_pureS X hx hZ hown (y := (⟨"com/example/blois/blois/KeySequences", "code", "([BII)I"⟩ : MethodName)) (argsL := [(.ref b), (.int st), (.int ln)]) (st := []) (W := 0) (z := (.int (own_H f st.toInt.toNat ln.toInt.toNat))) (hw _ (List.mem_of_getElem? (i := 1) rfl)) (hw _ (List.mem_of_getElem? (i := 2) rfl)) (hw _ (List.mem_of_getElem? (i := 3) rfl)) (hw _ (List.mem_of_getElem? (i := 4) rfl)) eT (rm_code hw b st ln f A hs1.1 hl1.1 hl1.2) (hb hby at_225) rfl (lenOf pd___BII_I rfl) (by rw [hml]; rfl) (by decide) (by decide) (by decide) (by decide) (Nat.le_of_eq rfl) (by decide) (pc' := 228) rfl fun T X eT => ?_
    refine own_iload X hx (hb hby at_228) rfl (pc' := 230) rfl ?_
    refine own_icmp_ne X hx (hb hby at_230) (pc1 := 233) (pc2 := 237) rfl (by decide) (fun hc230 => absurd (by rw [hz, Nat.min_eq_left (by omega)]) hc230) (fun hc230 => ?_)
    refine own_iconst X hx (hb hby at_233) (z := (1 : Int32)) rfl (pc' := 234) rfl ?_
    refine own_goto X hx (hb hby at_234) (pc' := 238) (by decide) ?_
    exact own_retZ X hx eT hret hlk (by decide) (by decide) (hb hby at_238) ⟨rfl, N⟩
  have j6 : ∀ (T : State) (lc : List Loc), Stand p l e room_1 s m #[.long aa, .int sx] below meth c T lc 1 7 → T.heap = h1 → Fr n0 lc → ∀ z : Int32, z = own_H f st.toInt.toNat (min ln.toInt.toNat 6) → OwnGo p e below s (fun v _ L => v = some (.int 1) ∧ Fr n0 L) room_1.cells room_1.slots (T.setTop (mkF m 199 #[.val (.long aa), .second, .val (.int sx), .val (.ref b), .val (.int st), .val (.int ln), .val (.int z)] [])) := by
    intro T lc X eT N z hz
    refine own_iload X hx (hb hby at_199) rfl (pc' := 201) rfl ?_
    refine own_bipush X hx (hb hby at_201) (z := (6 : Int32)) rfl (pc' := 203) rfl ?_
    refine own_icmp_le X hx (hb hby at_203) (pc1 := 206) (pc2 := 220) rfl (by decide) (fun hc203 => ?_) (fun hc203 => ?_)
    · have hk := own_ngt (n := 6) (by decide) hc203
      exact j7 T lc X eT N z (by rw [hz, Nat.min_eq_left hk, Nat.min_eq_left (by omega)])
    · refine own_iload X hx (hb hby at_206) rfl (pc' := 208) rfl ?_
      refine own_aloadN X hx (hb hby at_208) rfl rfl (pc' := 209) rfl ?_
      refine own_iload X hx (hb hby at_209) rfl (pc' := 211) rfl ?_
      refine own_bipush X hx (hb hby at_211) (z := (6 : Int32)) rfl (pc' := 213) rfl ?_
      refine own_iadd X hx (hb hby at_213) (pc' := 214) rfl ?_
      have hk := own_gt (n := 6) (by decide) hc203
      have hi1 : (st + (6 : Int32)).toInt = st.toInt + 6 := own_addl (n := 6) (by omega) (by decide) (by decide)
      refine own_baloadA X hx hZ eT A (by omega) (by omega) (hb hby at_214) (pc' := 215) rfl fun v hv => ?_
      subst hv
      refine own_pureS X hx hZ hown (y := (⟨"com/example/blois/blois/KeySequencesCodePinLaw", "step", "(IB)I"⟩ : MethodName)) (argsL := [(.int z), (.int (f (st + (6 : Int32)).toNatClampNeg))]) (st := []) (W := 0) (z := (.int (31 * z + (f (st + (6 : Int32)).toNatClampNeg &&& 255)))) (hw _ (List.mem_of_getElem? (i := 5) rfl)) (hw _ (List.mem_of_getElem? (i := 6) rfl)) (hw _ (List.mem_of_getElem? (i := 7) rfl)) (hw _ (List.mem_of_getElem? (i := 8) rfl)) eT (rm_step hw z (f (st + (6 : Int32)).toNatClampNeg)) (hb hby at_215) rfl (lenOf pd__IB_I rfl) (by rw [hml]; rfl) (by decide) (by decide) (by decide) (by decide) (Nat.le_of_eq rfl) (by decide) (pc' := 218) rfl fun T X eT => ?_
      refine own_istore X hx (hb hby at_218) (Ls' := #[.val (.long aa), .second, .val (.int sx), .val (.ref b), .val (.int st), .val (.int ln), .val (.int (31 * z + (f (st + (6 : Int32)).toNatClampNeg &&& 255)))]) rfl (pc' := 220) rfl ?_
      exact j7 T lc X eT N _ (by rw [hz, Nat.min_eq_right (by omega), Nat.min_eq_right (by omega), show (st + (6 : Int32)).toNatClampNeg = st.toInt.toNat + 6 by rw [Int32.toNatClampNeg]; omega]; rfl)
  have j5 : ∀ (T : State) (lc : List Loc), Stand p l e room_1 s m #[.long aa, .int sx] below meth c T lc 1 7 → T.heap = h1 → Fr n0 lc → ∀ z : Int32, z = own_H f st.toInt.toNat (min ln.toInt.toNat 5) → OwnGo p e below s (fun v _ L => v = some (.int 1) ∧ Fr n0 L) room_1.cells room_1.slots (T.setTop (mkF m 180 #[.val (.long aa), .second, .val (.int sx), .val (.ref b), .val (.int st), .val (.int ln), .val (.int z)] [])) := by
    intro T lc X eT N z hz
    refine own_iload X hx (hb hby at_180) rfl (pc' := 182) rfl ?_
    refine own_iconst X hx (hb hby at_182) (z := (5 : Int32)) rfl (pc' := 183) rfl ?_
    refine own_icmp_le X hx (hb hby at_183) (pc1 := 186) (pc2 := 199) rfl (by decide) (fun hc183 => ?_) (fun hc183 => ?_)
    · have hk := own_ngt (n := 5) (by decide) hc183
      exact j6 T lc X eT N z (by rw [hz, Nat.min_eq_left hk, Nat.min_eq_left (by omega)])
    · refine own_iload X hx (hb hby at_186) rfl (pc' := 188) rfl ?_
      refine own_aloadN X hx (hb hby at_188) rfl rfl (pc' := 189) rfl ?_
      refine own_iload X hx (hb hby at_189) rfl (pc' := 191) rfl ?_
      refine own_iconst X hx (hb hby at_191) (z := (5 : Int32)) rfl (pc' := 192) rfl ?_
      refine own_iadd X hx (hb hby at_192) (pc' := 193) rfl ?_
      have hk := own_gt (n := 5) (by decide) hc183
      have hi1 : (st + (5 : Int32)).toInt = st.toInt + 5 := own_addl (n := 5) (by omega) (by decide) (by decide)
      refine own_baloadA X hx hZ eT A (by omega) (by omega) (hb hby at_193) (pc' := 194) rfl fun v hv => ?_
      subst hv
      refine own_pureS X hx hZ hown (y := (⟨"com/example/blois/blois/KeySequencesCodePinLaw", "step", "(IB)I"⟩ : MethodName)) (argsL := [(.int z), (.int (f (st + (5 : Int32)).toNatClampNeg))]) (st := []) (W := 0) (z := (.int (31 * z + (f (st + (5 : Int32)).toNatClampNeg &&& 255)))) (hw _ (List.mem_of_getElem? (i := 5) rfl)) (hw _ (List.mem_of_getElem? (i := 6) rfl)) (hw _ (List.mem_of_getElem? (i := 7) rfl)) (hw _ (List.mem_of_getElem? (i := 8) rfl)) eT (rm_step hw z (f (st + (5 : Int32)).toNatClampNeg)) (hb hby at_194) rfl (lenOf pd__IB_I rfl) (by rw [hml]; rfl) (by decide) (by decide) (by decide) (by decide) (Nat.le_of_eq rfl) (by decide) (pc' := 197) rfl fun T X eT => ?_
      refine own_istore X hx (hb hby at_197) (Ls' := #[.val (.long aa), .second, .val (.int sx), .val (.ref b), .val (.int st), .val (.int ln), .val (.int (31 * z + (f (st + (5 : Int32)).toNatClampNeg &&& 255)))]) rfl (pc' := 199) rfl ?_
      exact j6 T lc X eT N _ (by rw [hz, Nat.min_eq_right (by omega), Nat.min_eq_right (by omega), show (st + (5 : Int32)).toNatClampNeg = st.toInt.toNat + 5 by rw [Int32.toNatClampNeg]; omega]; rfl)
  have j4 : ∀ (T : State) (lc : List Loc), Stand p l e room_1 s m #[.long aa, .int sx] below meth c T lc 1 7 → T.heap = h1 → Fr n0 lc → ∀ z : Int32, z = own_H f st.toInt.toNat (min ln.toInt.toNat 4) → OwnGo p e below s (fun v _ L => v = some (.int 1) ∧ Fr n0 L) room_1.cells room_1.slots (T.setTop (mkF m 161 #[.val (.long aa), .second, .val (.int sx), .val (.ref b), .val (.int st), .val (.int ln), .val (.int z)] [])) := by
    intro T lc X eT N z hz
    refine own_iload X hx (hb hby at_161) rfl (pc' := 163) rfl ?_
    refine own_iconst X hx (hb hby at_163) (z := (4 : Int32)) rfl (pc' := 164) rfl ?_
    refine own_icmp_le X hx (hb hby at_164) (pc1 := 167) (pc2 := 180) rfl (by decide) (fun hc164 => ?_) (fun hc164 => ?_)
    · have hk := own_ngt (n := 4) (by decide) hc164
      exact j5 T lc X eT N z (by rw [hz, Nat.min_eq_left hk, Nat.min_eq_left (by omega)])
    · refine own_iload X hx (hb hby at_167) rfl (pc' := 169) rfl ?_
      refine own_aloadN X hx (hb hby at_169) rfl rfl (pc' := 170) rfl ?_
      refine own_iload X hx (hb hby at_170) rfl (pc' := 172) rfl ?_
      refine own_iconst X hx (hb hby at_172) (z := (4 : Int32)) rfl (pc' := 173) rfl ?_
      refine own_iadd X hx (hb hby at_173) (pc' := 174) rfl ?_
      have hk := own_gt (n := 4) (by decide) hc164
      have hi1 : (st + (4 : Int32)).toInt = st.toInt + 4 := own_addl (n := 4) (by omega) (by decide) (by decide)
      refine own_baloadA X hx hZ eT A (by omega) (by omega) (hb hby at_174) (pc' := 175) rfl fun v hv => ?_
      subst hv
      refine own_pureS X hx hZ hown (y := (⟨"com/example/blois/blois/KeySequencesCodePinLaw", "step", "(IB)I"⟩ : MethodName)) (argsL := [(.int z), (.int (f (st + (4 : Int32)).toNatClampNeg))]) (st := []) (W := 0) (z := (.int (31 * z + (f (st + (4 : Int32)).toNatClampNeg &&& 255)))) (hw _ (List.mem_of_getElem? (i := 5) rfl)) (hw _ (List.mem_of_getElem? (i := 6) rfl)) (hw _ (List.mem_of_getElem? (i := 7) rfl)) (hw _ (List.mem_of_getElem? (i := 8) rfl)) eT (rm_step hw z (f (st + (4 : Int32)).toNatClampNeg)) (hb hby at_175) rfl (lenOf pd__IB_I rfl) (by rw [hml]; rfl) (by decide) (by decide) (by decide) (by decide) (Nat.le_of_eq rfl) (by decide) (pc' := 178) rfl fun T X eT => ?_
      refine own_istore X hx (hb hby at_178) (Ls' := #[.val (.long aa), .second, .val (.int sx), .val (.ref b), .val (.int st), .val (.int ln), .val (.int (31 * z + (f (st + (4 : Int32)).toNatClampNeg &&& 255)))]) rfl (pc' := 180) rfl ?_
      exact j5 T lc X eT N _ (by rw [hz, Nat.min_eq_right (by omega), Nat.min_eq_right (by omega), show (st + (4 : Int32)).toNatClampNeg = st.toInt.toNat + 4 by rw [Int32.toNatClampNeg]; omega]; rfl)
  have j3 : ∀ (T : State) (lc : List Loc), Stand p l e room_1 s m #[.long aa, .int sx] below meth c T lc 1 7 → T.heap = h1 → Fr n0 lc → ∀ z : Int32, z = own_H f st.toInt.toNat (min ln.toInt.toNat 3) → OwnGo p e below s (fun v _ L => v = some (.int 1) ∧ Fr n0 L) room_1.cells room_1.slots (T.setTop (mkF m 142 #[.val (.long aa), .second, .val (.int sx), .val (.ref b), .val (.int st), .val (.int ln), .val (.int z)] [])) := by
    intro T lc X eT N z hz
    refine own_iload X hx (hb hby at_142) rfl (pc' := 144) rfl ?_
    refine own_iconst X hx (hb hby at_144) (z := (3 : Int32)) rfl (pc' := 145) rfl ?_
    refine own_icmp_le X hx (hb hby at_145) (pc1 := 148) (pc2 := 161) rfl (by decide) (fun hc145 => ?_) (fun hc145 => ?_)
    · have hk := own_ngt (n := 3) (by decide) hc145
      exact j4 T lc X eT N z (by rw [hz, Nat.min_eq_left hk, Nat.min_eq_left (by omega)])
    · refine own_iload X hx (hb hby at_148) rfl (pc' := 150) rfl ?_
      refine own_aloadN X hx (hb hby at_150) rfl rfl (pc' := 151) rfl ?_
      refine own_iload X hx (hb hby at_151) rfl (pc' := 153) rfl ?_
      refine own_iconst X hx (hb hby at_153) (z := (3 : Int32)) rfl (pc' := 154) rfl ?_
      refine own_iadd X hx (hb hby at_154) (pc' := 155) rfl ?_
      have hk := own_gt (n := 3) (by decide) hc145
      have hi1 : (st + (3 : Int32)).toInt = st.toInt + 3 := own_addl (n := 3) (by omega) (by decide) (by decide)
      refine own_baloadA X hx hZ eT A (by omega) (by omega) (hb hby at_155) (pc' := 156) rfl fun v hv => ?_
      subst hv
      refine own_pureS X hx hZ hown (y := (⟨"com/example/blois/blois/KeySequencesCodePinLaw", "step", "(IB)I"⟩ : MethodName)) (argsL := [(.int z), (.int (f (st + (3 : Int32)).toNatClampNeg))]) (st := []) (W := 0) (z := (.int (31 * z + (f (st + (3 : Int32)).toNatClampNeg &&& 255)))) (hw _ (List.mem_of_getElem? (i := 5) rfl)) (hw _ (List.mem_of_getElem? (i := 6) rfl)) (hw _ (List.mem_of_getElem? (i := 7) rfl)) (hw _ (List.mem_of_getElem? (i := 8) rfl)) eT (rm_step hw z (f (st + (3 : Int32)).toNatClampNeg)) (hb hby at_156) rfl (lenOf pd__IB_I rfl) (by rw [hml]; rfl) (by decide) (by decide) (by decide) (by decide) (Nat.le_of_eq rfl) (by decide) (pc' := 159) rfl fun T X eT => ?_
      refine own_istore X hx (hb hby at_159) (Ls' := #[.val (.long aa), .second, .val (.int sx), .val (.ref b), .val (.int st), .val (.int ln), .val (.int (31 * z + (f (st + (3 : Int32)).toNatClampNeg &&& 255)))]) rfl (pc' := 161) rfl ?_
      exact j4 T lc X eT N _ (by rw [hz, Nat.min_eq_right (by omega), Nat.min_eq_right (by omega), show (st + (3 : Int32)).toNatClampNeg = st.toInt.toNat + 3 by rw [Int32.toNatClampNeg]; omega]; rfl)
  have j2 : ∀ (T : State) (lc : List Loc), Stand p l e room_1 s m #[.long aa, .int sx] below meth c T lc 1 7 → T.heap = h1 → Fr n0 lc → ∀ z : Int32, z = own_H f st.toInt.toNat (min ln.toInt.toNat 2) → OwnGo p e below s (fun v _ L => v = some (.int 1) ∧ Fr n0 L) room_1.cells room_1.slots (T.setTop (mkF m 123 #[.val (.long aa), .second, .val (.int sx), .val (.ref b), .val (.int st), .val (.int ln), .val (.int z)] [])) := by
    intro T lc X eT N z hz
    refine own_iload X hx (hb hby at_123) rfl (pc' := 125) rfl ?_
    refine own_iconst X hx (hb hby at_125) (z := (2 : Int32)) rfl (pc' := 126) rfl ?_
    refine own_icmp_le X hx (hb hby at_126) (pc1 := 129) (pc2 := 142) rfl (by decide) (fun hc126 => ?_) (fun hc126 => ?_)
    · have hk := own_ngt (n := 2) (by decide) hc126
      exact j3 T lc X eT N z (by rw [hz, Nat.min_eq_left hk, Nat.min_eq_left (by omega)])
    · refine own_iload X hx (hb hby at_129) rfl (pc' := 131) rfl ?_
      refine own_aloadN X hx (hb hby at_131) rfl rfl (pc' := 132) rfl ?_
      refine own_iload X hx (hb hby at_132) rfl (pc' := 134) rfl ?_
      refine own_iconst X hx (hb hby at_134) (z := (2 : Int32)) rfl (pc' := 135) rfl ?_
      refine own_iadd X hx (hb hby at_135) (pc' := 136) rfl ?_
      have hk := own_gt (n := 2) (by decide) hc126
      have hi1 : (st + (2 : Int32)).toInt = st.toInt + 2 := own_addl (n := 2) (by omega) (by decide) (by decide)
      refine own_baloadA X hx hZ eT A (by omega) (by omega) (hb hby at_136) (pc' := 137) rfl fun v hv => ?_
      subst hv
      refine own_pureS X hx hZ hown (y := (⟨"com/example/blois/blois/KeySequencesCodePinLaw", "step", "(IB)I"⟩ : MethodName)) (argsL := [(.int z), (.int (f (st + (2 : Int32)).toNatClampNeg))]) (st := []) (W := 0) (z := (.int (31 * z + (f (st + (2 : Int32)).toNatClampNeg &&& 255)))) (hw _ (List.mem_of_getElem? (i := 5) rfl)) (hw _ (List.mem_of_getElem? (i := 6) rfl)) (hw _ (List.mem_of_getElem? (i := 7) rfl)) (hw _ (List.mem_of_getElem? (i := 8) rfl)) eT (rm_step hw z (f (st + (2 : Int32)).toNatClampNeg)) (hb hby at_137) rfl (lenOf pd__IB_I rfl) (by rw [hml]; rfl) (by decide) (by decide) (by decide) (by decide) (Nat.le_of_eq rfl) (by decide) (pc' := 140) rfl fun T X eT => ?_
      refine own_istore X hx (hb hby at_140) (Ls' := #[.val (.long aa), .second, .val (.int sx), .val (.ref b), .val (.int st), .val (.int ln), .val (.int (31 * z + (f (st + (2 : Int32)).toNatClampNeg &&& 255)))]) rfl (pc' := 142) rfl ?_
      exact j3 T lc X eT N _ (by rw [hz, Nat.min_eq_right (by omega), Nat.min_eq_right (by omega), show (st + (2 : Int32)).toNatClampNeg = st.toInt.toNat + 2 by rw [Int32.toNatClampNeg]; omega]; rfl)
  have j1 : ∀ (T : State) (lc : List Loc), Stand p l e room_1 s m #[.long aa, .int sx] below meth c T lc 1 7 → T.heap = h1 → Fr n0 lc → ∀ z : Int32, z = own_H f st.toInt.toNat (min ln.toInt.toNat 1) → OwnGo p e below s (fun v _ L => v = some (.int 1) ∧ Fr n0 L) room_1.cells room_1.slots (T.setTop (mkF m 104 #[.val (.long aa), .second, .val (.int sx), .val (.ref b), .val (.int st), .val (.int ln), .val (.int z)] [])) := by
    intro T lc X eT N z hz
    refine own_iload X hx (hb hby at_104) rfl (pc' := 106) rfl ?_
    refine own_iconst X hx (hb hby at_106) (z := (1 : Int32)) rfl (pc' := 107) rfl ?_
    refine own_icmp_le X hx (hb hby at_107) (pc1 := 110) (pc2 := 123) rfl (by decide) (fun hc107 => ?_) (fun hc107 => ?_)
    · have hk := own_ngt (n := 1) (by decide) hc107
      exact j2 T lc X eT N z (by rw [hz, Nat.min_eq_left hk, Nat.min_eq_left (by omega)])
    · refine own_iload X hx (hb hby at_110) rfl (pc' := 112) rfl ?_
      refine own_aloadN X hx (hb hby at_112) rfl rfl (pc' := 113) rfl ?_
      refine own_iload X hx (hb hby at_113) rfl (pc' := 115) rfl ?_
      refine own_iconst X hx (hb hby at_115) (z := (1 : Int32)) rfl (pc' := 116) rfl ?_
      refine own_iadd X hx (hb hby at_116) (pc' := 117) rfl ?_
      have hk := own_gt (n := 1) (by decide) hc107
      have hi1 : (st + (1 : Int32)).toInt = st.toInt + 1 := own_addl (n := 1) (by omega) (by decide) (by decide)
      refine own_baloadA X hx hZ eT A (by omega) (by omega) (hb hby at_117) (pc' := 118) rfl fun v hv => ?_
      subst hv
      refine own_pureS X hx hZ hown (y := (⟨"com/example/blois/blois/KeySequencesCodePinLaw", "step", "(IB)I"⟩ : MethodName)) (argsL := [(.int z), (.int (f (st + (1 : Int32)).toNatClampNeg))]) (st := []) (W := 0) (z := (.int (31 * z + (f (st + (1 : Int32)).toNatClampNeg &&& 255)))) (hw _ (List.mem_of_getElem? (i := 5) rfl)) (hw _ (List.mem_of_getElem? (i := 6) rfl)) (hw _ (List.mem_of_getElem? (i := 7) rfl)) (hw _ (List.mem_of_getElem? (i := 8) rfl)) eT (rm_step hw z (f (st + (1 : Int32)).toNatClampNeg)) (hb hby at_118) rfl (lenOf pd__IB_I rfl) (by rw [hml]; rfl) (by decide) (by decide) (by decide) (by decide) (Nat.le_of_eq rfl) (by decide) (pc' := 121) rfl fun T X eT => ?_
      refine own_istore X hx (hb hby at_121) (Ls' := #[.val (.long aa), .second, .val (.int sx), .val (.ref b), .val (.int st), .val (.int ln), .val (.int (31 * z + (f (st + (1 : Int32)).toNatClampNeg &&& 255)))]) rfl (pc' := 123) rfl ?_
      exact j2 T lc X eT N _ (by rw [hz, Nat.min_eq_right (by omega), Nat.min_eq_right (by omega), show (st + (1 : Int32)).toNatClampNeg = st.toInt.toNat + 1 by rw [Int32.toNatClampNeg]; omega]; rfl)
  have j0 : ∀ (T : State) (lc : List Loc), Stand p l e room_1 s m #[.long aa, .int sx] below meth c T lc 1 7 → T.heap = h1 → Fr n0 lc → ∀ z : Int32, z = own_H f st.toInt.toNat (min ln.toInt.toNat 0) → OwnGo p e below s (fun v _ L => v = some (.int 1) ∧ Fr n0 L) room_1.cells room_1.slots (T.setTop (mkF m 88 #[.val (.long aa), .second, .val (.int sx), .val (.ref b), .val (.int st), .val (.int ln), .val (.int z)] [])) := by
    intro T lc X eT N z hz
    refine own_iload X hx (hb hby at_88) rfl (pc' := 90) rfl ?_
    refine own_if_le X hx (hb hby at_90) (pc1 := 93) (pc2 := 104) rfl (by decide) (fun hc90 => ?_) (fun hc90 => ?_)
    · have hk := own_ngt (n := 0) (by decide) hc90
      exact j1 T lc X eT N z (by rw [hz, Nat.min_eq_left hk, Nat.min_eq_left (by omega)])
    · refine own_iload X hx (hb hby at_93) rfl (pc' := 95) rfl ?_
      refine own_aloadN X hx (hb hby at_95) rfl rfl (pc' := 96) rfl ?_
      refine own_iload X hx (hb hby at_96) rfl (pc' := 98) rfl ?_
      have hk := own_gt (n := 0) (by decide) hc90
      refine own_baloadA X hx hZ eT A (by omega) (by omega) (hb hby at_98) (pc' := 99) rfl fun v hv => ?_
      subst hv
      refine own_pureS X hx hZ hown (y := (⟨"com/example/blois/blois/KeySequencesCodePinLaw", "step", "(IB)I"⟩ : MethodName)) (argsL := [(.int z), (.int (f st.toNatClampNeg))]) (st := []) (W := 0) (z := (.int (31 * z + (f st.toNatClampNeg &&& 255)))) (hw _ (List.mem_of_getElem? (i := 5) rfl)) (hw _ (List.mem_of_getElem? (i := 6) rfl)) (hw _ (List.mem_of_getElem? (i := 7) rfl)) (hw _ (List.mem_of_getElem? (i := 8) rfl)) eT (rm_step hw z (f st.toNatClampNeg)) (hb hby at_99) rfl (lenOf pd__IB_I rfl) (by rw [hml]; rfl) (by decide) (by decide) (by decide) (by decide) (Nat.le_of_eq rfl) (by decide) (pc' := 102) rfl fun T X eT => ?_
      refine own_istore X hx (hb hby at_102) (Ls' := #[.val (.long aa), .second, .val (.int sx), .val (.ref b), .val (.int st), .val (.int ln), .val (.int (31 * z + (f st.toNatClampNeg &&& 255)))]) rfl (pc' := 104) rfl ?_
      exact j1 T lc X eT N _ (by rw [hz, Nat.min_eq_right (by omega), Nat.min_eq_right (by omega), show st.toNatClampNeg = st.toInt.toNat + 0 by rw [Int32.toNatClampNeg]; omega]; rfl)
  exact j0 T _ X eT N 0 (by rw [Nat.min_eq_right (by omega)]; rfl)
set_option maxRecDepth 65536 in
set_option maxHeartbeats 40000000 in
theorem comes_1 {Post : Tables → Env → Array Value → State → Outcome → State → Prop} (hpost : ∀ tb e args s v u, (limb_1_1.after args s (.returned v) u = true ∧ limb_1_2.after args s (.returned v) u = true) → FrameEnd s (.returned v) u (Jvm.fieldLocs frame_1_writes args s ++ Jvm.arrayLocs frame_1_arrays args s ++ Jvm.staticLocs frame_1_statics s) 16 128 → Post tb e args s (.returned v) u) :
    ArmFor flags0 classFile x code maxLocals ret World_1 tables_1 room_1 Calls_1 rest_1 Pre_1 Post := by
  intro l hfl _ _ p e ha hc hk s m args below hf hA hF happ hP
  obtain ⟨hcalls, hrest, hpre⟩ := hP
  obtain ⟨-, -, -, hnamed, -, -, -, hat⟩ := (Spec.applies_iff hf).mp happ
  obtain ⟨hg, hn⟩ := and_e (Cond.before_iff.mp (show (Jvm.Cond.and given_1 narrow_1).before args s = true from hpre))
  obtain ⟨hcount, g0⟩ := and_e hg
  obtain ⟨v0, g1⟩ := and_e g0
  obtain ⟨w0, w1, rfl⟩ : ∃ w0 w1 : Value, args = #[w0, w1] := by
    have hs : args.size = 2 := by simpa [Cond.value, given_1] using hcount
    obtain ⟨L⟩ := args
    match L, hs with
    | [w0, w1], _ => exact ⟨w0, w1, rfl⟩
  have hw := fun d (hd : d ∈ tables_1) => atoms_spec (ws := Jvm.Cond.code x code maxLocals ret :: tables_1) hat d (List.mem_cons_of_mem _ hd)
  obtain ⟨i0, ei0⟩ := isL_v v0
  obtain rfl : w0 = (.long i0) := Option.some.inj ei0
  obtain ⟨i1, ei1⟩ := is_v g1
  obtain rfl : w1 = (.int i1) := Option.some.inj ei1
  obtain ⟨n, o, h1, h2, h3, _, L, rfl, ⟨rfl, N⟩, hq⟩ := rm_law l s _ hw tables_1 i0 i1 s.heap s.heap.size (Nat.le_refl _) p e ha hc hk s m _ below hf ((Spec.applies_iff_loose hf).mp happ).1 ⟨rfl, State.Warmed39.refl s, rfl⟩ trivial
  refine ⟨n, _, h1, h2, h3, hpost _ _ _ _ _ _ ⟨Cond.after_iff.mpr rfl, Cond.after_iff.mpr (eq_i res_at (Term.int_eval (1)) rfl)⟩ ⟨hq.1, hq.2.1, (hq.2.2.sift fun y hy => Or.inr (N y hy)).mono (by decide) (by decide)⟩⟩
theorem main_1_1 : Claimed_1_1 := comes_1 fun _ _ _ _ _ _ h hF => ⟨h.1, hF⟩
theorem main_1_2 : Claimed_1_2 := comes_1 fun _ _ _ _ _ _ h hF => ⟨h.2, hF⟩
end Jvm.Pilot.@@N@@
namespace Jvm.Pilot.@@N@@
open Jvm Jvm.ClassFile Sem Op Lib Jvm.Free Jvm.Stand Jvm.Pilot.@@N@@.Jvm.D
/-! MADE BY PROGRAM (witnessworld.py) out of the Statement's table words and the real class files: 9 classes; the members and pool entries that the words name. The judged class is class 1, her method 1. -/
namespace start1
open Jvm.ClassFile
def u (s : String) : CpInfo := .utf8 (stringToUtf16 s)
/-- a pool by its gaps: so many unusable entries, then the entry; so many at the end -/
def gap : Nat → List CpInfo → List CpInfo
  | 0, r => r
  | n + 1, r => .unusable :: gap n r
def poolList (es : List (Nat × CpInfo)) (last : Nat) : List CpInfo := es.foldr (fun e r => gap e.1 (e.2 :: r)) (gap last [])
def pool (es : List (Nat × CpInfo)) (last : Nat) : Array CpInfo := ⟨poolList es last⟩
def fileOf (pool : Array CpInfo) (this : Nat) (attrs : Array Attribute := #[]) (ms : Array MethodInfo := #[]) (fl : Nat := 33) (sup : Nat := 0) (ifs : Array Nat := #[]) (fds : Array FieldInfo := #[]) : ClassFile where
  minorVersion := 0
  majorVersion := 65
  constantPool := pool
  accessFlags := fl
  thisClass := this
  superClass := sup
  interfaces := ifs
  fields := fds
  methods := ms
  attributes := attrs
def plain (name : String) (sup : Option ClassId) : Class where
  name := name
  kind := .ordinary
  loader := none
  accessFlags := 33
  super := sup
  interfaces := #[]
  cf := none
  fields := #[]
  methods := #[]
  instanceTypes := #[]
  staticTypes := #[]
  resolved := #[]
  callSites := []
  init := .initialized
  statics := none
  mirror := none

def pool0 : Array CpInfo := pool [(5, u "<init>"), (0, u "()V"), (1, .class_ 10), (1, u "java/lang/Object")] 113

def k0m0 : Method := { name := "<init>", desc := "()V", sig := { parameters := [], returnType := none }, accessFlags := 1, code := none }
/-- java/lang/Object -/
def k0 : Class := { plain "java/lang/Object" none with
  accessFlags := 33
  interfaces := #[]
  cf := some (fileOf pool0 8 #[] #[{ accessFlags := 1, nameIndex := 5, descriptorIndex := 6, attributes := #[] }] 33 0 #[] #[])
  fields := #[]
  methods := #[k0m0]
  instanceTypes := #[]
  staticTypes := #[]
  resolved := Array.replicate 124 none
  statics := none }

def pool1 : Array CpInfo := pool [(2, .class_ 4), (1, u "java/lang/Object"), (0, u "<init>"), (0, u "()V"), (0, .methodref 8 9), (0, .class_ 10), (0, .nameAndType 11 12), (0, u "com/example/blois/blois/KeySequencesCodePinLaw"), (0, u "step"), (0, u "(IB)I"), (0, .methodref 14 15), (0, .class_ 16), (0, .nameAndType 17 18), (0, u "com/example/blois/blois/KeySequences"), (0, u "code"), (0, u "([BII)I"), (2, u "law"), (0, u "(JI)Z")] 5

def k1m0 : Method := { name := "<init>", desc := "()V", sig := { parameters := [], returnType := none }, accessFlags := 1, code := none }
def k1c1 : Code := { maxStack := 5, maxLocals := 7, code := code, exceptionTable := #[], attributes := #[] }
def k1m1 : Method := { name := "law", desc := "(JI)Z", sig := { parameters := [.long, .int], returnType := some .boolean }, accessFlags := 9, code := some k1c1 }
def k1c2 : Code := { maxStack := 3, maxLocals := 2, code := method_3_code, exceptionTable := #[], attributes := #[] }
def k1m2 : Method := { name := "step", desc := "(IB)I", sig := { parameters := [.int, .byte], returnType := some .int }, accessFlags := 10, code := some k1c2 }
/-- com/example/blois/blois/KeySequencesCodePinLaw -/
def k1 : Class := { plain "com/example/blois/blois/KeySequencesCodePinLaw" (some 0) with
  accessFlags := 49
  interfaces := #[]
  cf := some (fileOf pool1 8 #[] #[{ accessFlags := 1, nameIndex := 5, descriptorIndex := 6, attributes := #[] }, { accessFlags := 9, nameIndex := 21, descriptorIndex := 22, attributes := #[] }, { accessFlags := 10, nameIndex := 11, descriptorIndex := 12, attributes := #[] }] 49 2 #[] #[])
  fields := #[]
  methods := #[k1m0, k1m1, k1m2]
  instanceTypes := #[]
  staticTypes := #[]
  resolved := Array.replicate 28 none
  statics := none }

def pool2 : Array CpInfo := pool [(2, .class_ 4), (1, u "java/lang/Object"), (0, u "<init>"), (0, u "()V"), (1, .class_ 10), (1, u "com/example/blois/blois/KeySequences"), (0, u "slots"), (0, u "[J"), (2, u "ends"), (0, u "[I"), (2, u "text"), (0, u "[B"), (63, u "count"), (0, u "I"), (39, u "([BII)I"), (26, u "sequences"), (0, u "[Ljava/lang/Object;"), (15, u "code")] 32

def k2m0 : Method := { name := "<init>", desc := "()V", sig := { parameters := [], returnType := none }, accessFlags := 0, code := none }
def k2c1 : Code := { maxStack := 4, maxLocals := 6, code := prog_114_method_12_code, exceptionTable := #[], attributes := #[] }
def k2m1 : Method := { name := "code", desc := "([BII)I", sig := { parameters := [(.array .byte), .int, .int], returnType := some .int }, accessFlags := 8, code := some k2c1 }
/-- com/example/blois/blois/KeySequences -/
def k2 : Class := { plain "com/example/blois/blois/KeySequences" (some 0) with
  accessFlags := 32
  interfaces := #[]
  cf := some (fileOf pool2 8 #[] #[{ accessFlags := 0, nameIndex := 5, descriptorIndex := 6, attributes := #[] }, { accessFlags := 8, nameIndex := 169, descriptorIndex := 125, attributes := #[] }] 32 2 #[] #[{ accessFlags := 2, nameIndex := 11, descriptorIndex := 12, attributes := #[] }, { accessFlags := 2, nameIndex := 84, descriptorIndex := 85, attributes := #[] }, { accessFlags := 2, nameIndex := 152, descriptorIndex := 153, attributes := #[] }, { accessFlags := 2, nameIndex := 15, descriptorIndex := 16, attributes := #[] }, { accessFlags := 2, nameIndex := 19, descriptorIndex := 20, attributes := #[] }])
  fields := #[{ name := "slots", type := (.array .long), accessFlags := 2, slot := 0, constantValue := 0 }, { name := "count", type := .int, accessFlags := 2, slot := 1, constantValue := 0 }, { name := "sequences", type := (.array (.object "java/lang/Object")), accessFlags := 2, slot := 2, constantValue := 0 }, { name := "ends", type := (.array .int), accessFlags := 2, slot := 3, constantValue := 0 }, { name := "text", type := (.array .byte), accessFlags := 2, slot := 4, constantValue := 0 }]
  methods := #[k2m0, k2m1]
  instanceTypes := #[(.array .long), .int, (.array (.object "java/lang/Object")), (.array .int), (.array .byte)]
  staticTypes := #[]
  resolved := Array.replicate 202 none
  statics := none }

def pool3 : Array CpInfo := pool [(1, u "java/lang/Cloneable"), (0, .class_ 1), (0, u "java/lang/Object"), (0, .class_ 3)] 3

/-- java/lang/Cloneable -/
def k3 : Class := { plain "java/lang/Cloneable" (some 0) with
  accessFlags := 1537
  interfaces := #[]
  cf := some (fileOf pool3 2 #[] #[] 1537 4 #[] #[])
  fields := #[]
  methods := #[]
  instanceTypes := #[]
  staticTypes := #[]
  resolved := Array.replicate 8 none
  statics := none }

def pool4 : Array CpInfo := pool [(1, u "java/io/Serializable"), (0, .class_ 1), (0, u "java/lang/Object"), (0, .class_ 3)] 3

/-- java/io/Serializable -/
def k4 : Class := { plain "java/io/Serializable" (some 0) with
  accessFlags := 1537
  interfaces := #[]
  cf := some (fileOf pool4 2 #[] #[] 1537 4 #[] #[])
  fields := #[]
  methods := #[]
  instanceTypes := #[]
  staticTypes := #[]
  resolved := Array.replicate 8 none
  statics := none }

/-- the primitive byte -/
def k5 : Class := { plain "byte" none with kind := .primitive 'B', accessFlags := 0x411 }
/-- [B -/
def k6 : Class := { plain "[B" (some 0) with kind := .array 5 .byte, interfaces := #[3, 4], accessFlags := 1041 }

/-- the primitive int -/
def k7 : Class := { plain "int" none with kind := .primitive 'I', accessFlags := 0x411 }
/-- [I -/
def k8 : Class := { plain "[I" (some 0) with kind := .array 7 .int, interfaces := #[3, 4], accessFlags := 1041 }

def heap : Heap := #[]
def classes : Array Class := #[k0, k1, k2, k3, k4, k5, k6, k7, k8]
def interned : List (Array UInt16 × Addr) := []
def slotsUsed : Nat := 0
def theMethod : MethodId := ⟨1, 1⟩
def args0 : Array Value := #[.long 5, .int 7]
def aboutOver (below : List Frame) : State where
  vm := { classes := classes, interned := interned.toArray }
  heap := heap
  slotsUsed := slotsUsed
  threads := #[{ frames := .invoking theMethod args0 :: below }]
def below0 : List Frame := [.native { method := ⟨0, 0⟩, args := #[] }]
def about1 : State := aboutOver below0
def p0 : Program := .bare "" "" ""
def e0 : Env := launch0.env 0 0 0
theorem w_frames : about1.frames = Frame.invoking theMethod args0 :: below0 := rfl
set_option maxRecDepth 65536 in
theorem w_args : argsFit about1.vm theMethod args0 = true := by decide +kernel
set_option maxRecDepth 65536 in
theorem w_heap : heapFits about1 = true := by decide +kernel
set_option maxRecDepth 65536 in
theorem w_runnable : about1.curStatus? = some .runnable := by decide +kernel
set_option maxRecDepth 65536 in
theorem w_alone : about1.alone = true := by decide +kernel
set_option maxRecDepth 65536 in
theorem w_named : about1.methodNamed? x = some theMethod := by decide +kernel
set_option maxRecDepth 65536 in
theorem w_hears : about1.hears theMethod below0 = true := by decide +kernel
set_option maxRecDepth 65536 in
theorem w_ripe : about1.ripe theMethod args0 below0 = true := by decide +kernel
theorem w_running : about1.status = .running := rfl
set_option maxRecDepth 65536 in
theorem w_room : about1.hasRoom e0.platform room_1 = true :=
  launch0.hasRoom_least _ room_1 (by decide +kernel) (by decide +kernel) (by decide +kernel) (by decide +kernel) (by decide +kernel) (by decide +kernel)
theorem allAtoms_all (ts : List Jvm.Cond) (a : Array Jvm.Value) (st : Jvm.State) : (allAtoms ts).before a st = ts.all (fun c => c.before a st) := by
  induction ts with
  | nil => rfl
  | cons c t ih =>
    show (Jvm.Cond.and c (allAtoms t)).before a st = _
    rw [Jvm.Cond.before_and, ih, List.all_cons]
def words1 : List Jvm.Cond := Jvm.Cond.code x code maxLocals ret :: tables_1
/-- a 'code' word, met by the world's own term for the bytes: nothing is compared byte by byte -/
theorem code_word {y : MethodName} {bytes : ByteArray} {mx : Nat} {rt : Option FieldType} {a : Array Value} {s : State} {m : MethodId} {meth : Method} {c : Code} (h1 : s.methodNamed? y = some m) (h2 : s.vm.method? m = some meth) (h3 : meth.code = some c) (h4 : c.code = bytes)
    (h5 : (c.maxLocals == mx && c.exceptionTable.isEmpty && decide (c.maxStack ≤ mostOperands) && decide (meth.sig.returnType = rt) && !meth.locks && decide (parseMethodDescriptor y.desc = some meth.sig)) = true) : (Jvm.Cond.code y bytes mx rt).before a s = true := by
  simp only [Bool.and_eq_true, beq_iff_eq, Bool.not_eq_true', decide_eq_true_eq] at h5
  obtain ⟨⟨⟨⟨⟨g1, g2⟩, g3⟩, g4⟩, g5⟩, g6⟩ := h5
  simp [Cond.before, Cond.holds, Cond.value, h1, h2, h3, h4, g1, g2, g3, g4, g5, g6]
def isCode : Jvm.Cond → Bool
  | .code _ _ _ _ => true
  | _ => false
theorem all_split {L : List Jvm.Cond} {P : Jvm.Cond → Bool} (h1 : L.all (fun c => isCode c || P c) = true) (h2 : ∀ c ∈ L.filter isCode, P c = true) : L.all P = true := by
  refine List.all_eq_true.mpr fun c hc => ?_
  have h := List.all_eq_true.mp h1 c hc
  rcases Bool.eq_false_or_eq_true (isCode c) with hi | hi
  · exact h2 c (List.mem_filter.mpr ⟨hc, hi⟩)
  · simpa [hi] using h
set_option maxRecDepth 65536 in
theorem w_c0 : (Jvm.Cond.code x code maxLocals ret).before args0 about1 = true := code_word (m := ⟨1, 1⟩) (meth := k1m1) (c := k1c1) (by decide +kernel) rfl rfl rfl (by decide +kernel)
set_option maxRecDepth 65536 in
theorem w_c1 : (Jvm.Cond.code ({ cls := "com/example/blois/blois/KeySequences", name := "code", desc := "([BII)I" } : Jvm.MethodName) prog_114_method_12_code (6 : Nat) (Option.some Jvm.ClassFile.FieldType.int)).before args0 about1 = true := code_word (m := ⟨2, 1⟩) (meth := k2m1) (c := k2c1) (by decide +kernel) rfl rfl rfl (by decide +kernel)
set_option maxRecDepth 65536 in
theorem w_c2 : (Jvm.Cond.code ({ cls := "com/example/blois/blois/KeySequencesCodePinLaw", name := "step", desc := "(IB)I" } : Jvm.MethodName) method_3_code (2 : Nat) (Option.some Jvm.ClassFile.FieldType.int)).before args0 about1 = true := code_word (m := ⟨1, 2⟩) (meth := k1m2) (c := k1c2) (by decide +kernel) rfl rfl rfl (by decide +kernel)
def codes1 : List Jvm.Cond := [Jvm.Cond.code x code maxLocals ret, Jvm.Cond.code ({ cls := "com/example/blois/blois/KeySequences", name := "code", desc := "([BII)I" } : Jvm.MethodName) prog_114_method_12_code (6 : Nat) (Option.some Jvm.ClassFile.FieldType.int), Jvm.Cond.code ({ cls := "com/example/blois/blois/KeySequencesCodePinLaw", name := "step", desc := "(IB)I" } : Jvm.MethodName) method_3_code (2 : Nat) (Option.some Jvm.ClassFile.FieldType.int)]
set_option maxRecDepth 65536 in
theorem codes_eq : words1.filter isCode = codes1 := rfl
theorem w_codes : ∀ c ∈ words1.filter isCode, c.before args0 about1 = true := by
  rw [codes_eq]
  intro c hc
  simp only [codes1, List.mem_cons, List.not_mem_nil, or_false] at hc
  rcases hc with rfl | rfl | rfl
  · exact w_c0
  · exact w_c1
  · exact w_c2
set_option maxRecDepth 65536 in
theorem w_t1 : words1.all (fun c => isCode c || c.before args0 about1) = true := by decide +kernel
theorem w_tables : (allAtoms (Jvm.Cond.code x code maxLocals ret :: tables_1)).before args0 about1 = true := by
  rw [allAtoms_all]
  show words1.all (fun c => c.before args0 about1) = true
  refine all_split ?_ w_codes
  rw [w_t1]
set_option maxRecDepth 65536 in
theorem w_case : (Jvm.Cond.and given_1 narrow_1).before args0 about1 = true := by decide +kernel
theorem w_applies : (headSpec (Jvm.Cond.code x code maxLocals ret :: tables_1) room_1).applies x e0.platform about1 = true :=
  (Spec.applies_iff w_frames).mpr ⟨w_running, w_runnable, w_alone, w_named, w_hears, w_ripe, w_room, w_tables⟩
theorem atStart : AtStart classFile x code maxLocals ret World_1 tables_1 room_1 Calls_1 rest_1 Pre_1 launch0 p0 e0 about1 theMethod args0 below0 :=
  ⟨lists_1, trivial, launch0.admits_env _ _ _, launch0.least_env, fairChoices_fair.cas, fairChoices_fair.clock, w_frames, w_args, w_heap, w_applies, trivial, trivial, w_case⟩
end start1
theorem witness_1 : WitnessClaimed_1 := ⟨start1.p0, start1.e0, start1.about1, start1.theMethod, start1.args0, start1.below0, start1.atStart⟩
end Jvm.Pilot.@@N@@
