import JvmDerived
import JvmDerived.Pilot.@@N@@Statement
import JvmDerived.Pilot.@@N@@Code
set_option linter.unusedVariables false
set_option linter.unusedSimpArgs false
namespace Jvm.Pilot.@@N@@
open Jvm Jvm.ClassFile Sem Op Lib Jvm.Free Jvm.Stand Jvm.LawKit Jvm.RoadKit Bundle Jvm.Pilot.@@N@@.Jvm.D
section OwnKit
variable {p : Program} {l : Launch} {e : Env} {R : Room} {s : State} {m : MethodId} {args : Array Value} {below : List Frame} {meth : Method} {c : Code} {T : State} {locs : List Loc} {cells slots : Nat} {Z : State} {a0 : Array Value} {h : Heap} {Q : Option Value → Heap → List Loc → Prop} {rc rs : Nat} {pc pc' : Nat} {Ls Ls' : Array Slot} {st : List Value} {own : String} {index : Nat}
/-- from the state S the body comes to its end as Q says, with at most rc new cells and rs new slots -/
def OwnGo (p : Program) (e : Env) (below : List Frame) (s : State) (Q : Option Value → Heap → List Loc → Prop) (rc rs : Nat) (S : State) : Prop :=
  ∃ t o, Steps p.tables e below S t ∧ t.status = .running ∧ Ended t below o ∧ ∃ v L, o = .returned v ∧ Q v t.heap L ∧ FrameEnd s o t L rc rs
theorem own_step {S S' : State} (k : ∀ t, Steps p.tables e below S' t → Steps p.tables e below S t) (g : OwnGo p e below s Q rc rs S') : OwnGo p e below s Q rc rs S := by
  obtain ⟨t, o, h1, r⟩ := g
  exact ⟨t, o, k t h1, r⟩
theorem own_cast {g g' : JFrame} (q : g = g') (k : OwnGo p e below s Q rc rs (T.setTop g')) : OwnGo p e below s Q rc rs (T.setTop g) := q ▸ k
theorem own_met {y : MethodName} {bytes : ByteArray} {maxL : Nat} {ret : Option FieldType} {rm : Room} {ws : List Jvm.Cond} {as' : Array Value} (hpl : plainFor y = true) (ef : ∀ m, entryFrame m as' maxL = mkF m 0 Ls [])
    (body : ∀ (p : Program) (e : Env) (s : State) (m : MethodId) (below : List Frame) (meth : Method) (c : Code) (T : State), p.tables.exec = Jvm.exec → Z.Warmed39 s.vm → c.code = bytes → c.maxLocals = maxL → s.vm.findClass y.cls = some m.cls → meth.name = y.name → meth.sig.returnType = ret → meth.locks = false → Stand p l e rm s m as' below meth c T [] 0 0 → T.heap = h → OwnGo p e below s Q rm.cells rm.slots (T.setTop (mkF m 0 Ls []))) :
    MetFree l y (head1 (Jvm.Cond.code y bytes maxL ret :: ws) rm) (fun a U => a = as' ∧ Z.Warmed39 U.vm ∧ U.heap = h) (fun _ _ _ _ _ => True) (fun _ U o U' => ∃ v L, o = .returned v ∧ Q v U'.heap L ∧ FrameEnd U o U' L rm.cells rm.slots) := by
  refine MetFree.of_bodySF hpl hisR ?_
  intro p e s m args below meth c s₁ Bd hml0 hP hK
  obtain ⟨rfl, hZ, hh⟩ := hP
  have X0 : Stand p l e rm s m args below meth c s₁ [] 0 0 := Stand.of_body Bd
  have e0 : s₁.heap = h := by rw [← hh, Bd.state]; rfl
  have q := body p e s m below meth c s₁ Bd.exec hZ Bd.bytes hml0 (findClass_of_methodNamed Bd.named) (name_of_methodNamed Bd.named Bd.method).1 Bd.returns Bd.notSynchronized X0 e0
  rw [← ef m] at q
  exact q

theorem own_iloadN (X : Stand p l e R s m args below meth c T locs cells slots) (hx : p.tables.exec = Jvm.exec) {k : Fin 4} {v : Int32} (hd : decode c.code pc = .ok (.iload_n k, 1)) (hl : Ls[k.val]? = some (.val (.int v))) (hp : pc + 1 = pc') (g : OwnGo p e below s Q rc rs (T.setTop (mkF m pc' Ls (.int v :: st)))) : OwnGo p e below s Q rc rs (T.setTop (mkF m pc Ls st)) := by
  subst hp
  exact own_step (fun _ k => XS.iloadN X.here hx rfl hd hl k) g
theorem own_lloadN (X : Stand p l e R s m args below meth c T locs cells slots) (hx : p.tables.exec = Jvm.exec) {k : Fin 4} {v : Int64} (hd : decode c.code pc = .ok (.lload_n k, 1)) (hl : Ls[k.val]? = some (.val (.long v))) (hp : pc + 1 = pc') (g : OwnGo p e below s Q rc rs (T.setTop (mkF m pc' Ls (.long v :: st)))) : OwnGo p e below s Q rc rs (T.setTop (mkF m pc Ls st)) := by
  subst hp
  exact own_step (fun _ k => XS.lloadN X.here hx rfl hd hl k) g
theorem own_aloadN (X : Stand p l e R s m args below meth c T locs cells slots) (hx : p.tables.exec = Jvm.exec) {k : Fin 4} {v : Value} (hd : decode c.code pc = .ok (.aload_n k, 1)) (hl : Ls[k.val]? = some (.val v)) (hv : v.isRef = true) (hp : pc + 1 = pc') (g : OwnGo p e below s Q rc rs (T.setTop (mkF m pc' Ls (v :: st)))) : OwnGo p e below s Q rc rs (T.setTop (mkF m pc Ls st)) := by
  subst hp
  exact own_step (fun _ k => XS.aloadN X.here hx rfl hd hl hv k) g
theorem own_istoreN (X : Stand p l e R s m args below meth c T locs cells slots) (hx : p.tables.exec = Jvm.exec) {k : Fin 4} {v : Int32} (hd : decode c.code pc = .ok (.istore_n k, 1)) (hl : storeLocals Ls k.val (.int v) = some Ls') (hp : pc + 1 = pc') (g : OwnGo p e below s Q rc rs (T.setTop (mkF m pc' Ls' st))) : OwnGo p e below s Q rc rs (T.setTop (mkF m pc Ls (.int v :: st))) := by
  subst hp
  exact own_step (fun _ k => XS.istoreN X.here hx rfl hd rfl hl k) g
theorem own_lstoreN (X : Stand p l e R s m args below meth c T locs cells slots) (hx : p.tables.exec = Jvm.exec) {k : Fin 4} {v : Int64} (hd : decode c.code pc = .ok (.lstore_n k, 1)) (hl : storeLocals Ls k.val (.long v) = some Ls') (hp : pc + 1 = pc') (g : OwnGo p e below s Q rc rs (T.setTop (mkF m pc' Ls' st))) : OwnGo p e below s Q rc rs (T.setTop (mkF m pc Ls (.long v :: st))) := by
  subst hp
  exact own_step (fun _ k => XS.lstoreN X.here hx rfl hd rfl hl k) g
theorem own_astoreN (X : Stand p l e R s m args below meth c T locs cells slots) (hx : p.tables.exec = Jvm.exec) {k : Fin 4} {v : Value} (hd : decode c.code pc = .ok (.astore_n k, 1)) (hv : v.isRef = true) (hl : storeLocals Ls k.val v = some Ls') (hp : pc + 1 = pc') (g : OwnGo p e below s Q rc rs (T.setTop (mkF m pc' Ls' st))) : OwnGo p e below s Q rc rs (T.setTop (mkF m pc Ls (v :: st))) := by
  subst hp
  exact own_step (fun _ k => XS.astoreN X.here hx rfl hd rfl hv hl k) g
theorem own_iload (X : Stand p l e R s m args below meth c T locs cells slots) (hx : p.tables.exec = Jvm.exec) {k : Nat} {v : Int32} (hd : decode c.code pc = .ok (.iload k, 2)) (hl : Ls[k]? = some (.val (.int v))) (hp : pc + 2 = pc') (g : OwnGo p e below s Q rc rs (T.setTop (mkF m pc' Ls (.int v :: st)))) : OwnGo p e below s Q rc rs (T.setTop (mkF m pc Ls st)) := by
  subst hp
  exact own_step (fun _ k => XS.iload X.here hx rfl hd hl k) g
theorem own_lload (X : Stand p l e R s m args below meth c T locs cells slots) (hx : p.tables.exec = Jvm.exec) {k : Nat} {v : Int64} (hd : decode c.code pc = .ok (.lload k, 2)) (hl : Ls[k]? = some (.val (.long v))) (hp : pc + 2 = pc') (g : OwnGo p e below s Q rc rs (T.setTop (mkF m pc' Ls (.long v :: st)))) : OwnGo p e below s Q rc rs (T.setTop (mkF m pc Ls st)) := by
  subst hp
  exact own_step (fun _ k => XS.lload X.here hx rfl hd hl k) g
theorem own_aload (X : Stand p l e R s m args below meth c T locs cells slots) (hx : p.tables.exec = Jvm.exec) {k : Nat} {v : Value} (hd : decode c.code pc = .ok (.aload k, 2)) (hl : Ls[k]? = some (.val v)) (hv : v.isRef = true) (hp : pc + 2 = pc') (g : OwnGo p e below s Q rc rs (T.setTop (mkF m pc' Ls (v :: st)))) : OwnGo p e below s Q rc rs (T.setTop (mkF m pc Ls st)) := by
  subst hp
  exact own_step (fun _ k => XS.aload X.here hx rfl hd hl hv k) g
theorem own_istore (X : Stand p l e R s m args below meth c T locs cells slots) (hx : p.tables.exec = Jvm.exec) {k : Nat} {v : Int32} (hd : decode c.code pc = .ok (.istore k, 2)) (hl : storeLocals Ls k (.int v) = some Ls') (hp : pc + 2 = pc') (g : OwnGo p e below s Q rc rs (T.setTop (mkF m pc' Ls' st))) : OwnGo p e below s Q rc rs (T.setTop (mkF m pc Ls (.int v :: st))) := by
  subst hp
  exact own_step (fun _ k => XS.istore X.here hx rfl hd rfl hl k) g
theorem own_lstore (X : Stand p l e R s m args below meth c T locs cells slots) (hx : p.tables.exec = Jvm.exec) {k : Nat} {v : Int64} (hd : decode c.code pc = .ok (.lstore k, 2)) (hl : storeLocals Ls k (.long v) = some Ls') (hp : pc + 2 = pc') (g : OwnGo p e below s Q rc rs (T.setTop (mkF m pc' Ls' st))) : OwnGo p e below s Q rc rs (T.setTop (mkF m pc Ls (.long v :: st))) := by
  subst hp
  exact own_step (fun _ k => XS.lstore X.here hx rfl hd rfl hl k) g
theorem own_astore (X : Stand p l e R s m args below meth c T locs cells slots) (hx : p.tables.exec = Jvm.exec) {k : Nat} {v : Value} (hd : decode c.code pc = .ok (.astore k, 2)) (hv : v.isRef = true) (hl : storeLocals Ls k v = some Ls') (hp : pc + 2 = pc') (g : OwnGo p e below s Q rc rs (T.setTop (mkF m pc' Ls' st))) : OwnGo p e below s Q rc rs (T.setTop (mkF m pc Ls (v :: st))) := by
  subst hp
  exact own_step (fun _ k => XS.astore X.here hx rfl hd rfl hv hl k) g
theorem own_iconst (X : Stand p l e R s m args below meth c T locs cells slots) (hx : p.tables.exec = Jvm.exec) {i : Int} {z : Int32} (hd : decode c.code pc = .ok (.iconst i, 1)) (hz : Int32.ofInt i = z) (hp : pc + 1 = pc') (g : OwnGo p e below s Q rc rs (T.setTop (mkF m pc' Ls (.int z :: st)))) : OwnGo p e below s Q rc rs (T.setTop (mkF m pc Ls st)) := by
  subst hp hz
  exact own_step (fun _ k => XS.iconst X.here hx rfl hd k) g
theorem own_bipush (X : Stand p l e R s m args below meth c T locs cells slots) (hx : p.tables.exec = Jvm.exec) {i : Int} {z : Int32} (hd : decode c.code pc = .ok (.bipush i, 2)) (hz : (Int8.ofInt i).toInt32 = z) (hp : pc + 2 = pc') (g : OwnGo p e below s Q rc rs (T.setTop (mkF m pc' Ls (.int z :: st)))) : OwnGo p e below s Q rc rs (T.setTop (mkF m pc Ls st)) := by
  subst hp hz
  exact own_step (fun _ k => XS.bipush X.here hx rfl hd k) g
theorem own_sipush (X : Stand p l e R s m args below meth c T locs cells slots) (hx : p.tables.exec = Jvm.exec) {i : Int} {z : Int32} (hd : decode c.code pc = .ok (.sipush i, 3)) (hz : (Int16.ofInt i).toInt32 = z) (hp : pc + 3 = pc') (g : OwnGo p e below s Q rc rs (T.setTop (mkF m pc' Ls (.int z :: st)))) : OwnGo p e below s Q rc rs (T.setTop (mkF m pc Ls st)) := by
  subst hp hz
  exact own_step (fun _ k => XS.sipush X.here hx rfl hd k) g
theorem own_lconst (X : Stand p l e R s m args below meth c T locs cells slots) (hx : p.tables.exec = Jvm.exec) {i : Fin 2} {z : Int64} (hd : decode c.code pc = .ok (.lconst i, 1)) (hz : Int64.ofNat i = z) (hp : pc + 1 = pc') (g : OwnGo p e below s Q rc rs (T.setTop (mkF m pc' Ls (.long z :: st)))) : OwnGo p e below s Q rc rs (T.setTop (mkF m pc Ls st)) := by
  subst hp hz
  exact own_step (fun _ k => XS.lconst X.here hx rfl hd k) g
theorem own_iadd (X : Stand p l e R s m args below meth c T locs cells slots) (hx : p.tables.exec = Jvm.exec) {x y : Int32} (hd : decode c.code pc = .ok (.iadd, 1))  (hp : pc + 1 = pc') (g : OwnGo p e below s Q rc rs (T.setTop (mkF m pc' Ls (.int (x + y) :: st)))) : OwnGo p e below s Q rc rs (T.setTop (mkF m pc Ls (.int y :: .int x :: st))) := by
  subst hp
  exact own_step (fun _ k => XS.iadd X.here hx rfl hd rfl k) g
theorem own_isub (X : Stand p l e R s m args below meth c T locs cells slots) (hx : p.tables.exec = Jvm.exec) {x y : Int32} (hd : decode c.code pc = .ok (.isub, 1))  (hp : pc + 1 = pc') (g : OwnGo p e below s Q rc rs (T.setTop (mkF m pc' Ls (.int (x - y) :: st)))) : OwnGo p e below s Q rc rs (T.setTop (mkF m pc Ls (.int y :: .int x :: st))) := by
  subst hp
  exact own_step (fun _ k => XS.isub X.here hx rfl hd rfl k) g
theorem own_imul (X : Stand p l e R s m args below meth c T locs cells slots) (hx : p.tables.exec = Jvm.exec) {x y : Int32} (hd : decode c.code pc = .ok (.imul, 1))  (hp : pc + 1 = pc') (g : OwnGo p e below s Q rc rs (T.setTop (mkF m pc' Ls (.int (x * y) :: st)))) : OwnGo p e below s Q rc rs (T.setTop (mkF m pc Ls (.int y :: .int x :: st))) := by
  subst hp
  exact own_step (fun _ k => XS.imul X.here hx rfl hd rfl k) g
theorem own_iand (X : Stand p l e R s m args below meth c T locs cells slots) (hx : p.tables.exec = Jvm.exec) {x y : Int32} (hd : decode c.code pc = .ok (.iand, 1))  (hp : pc + 1 = pc') (g : OwnGo p e below s Q rc rs (T.setTop (mkF m pc' Ls (.int (x &&& y) :: st)))) : OwnGo p e below s Q rc rs (T.setTop (mkF m pc Ls (.int y :: .int x :: st))) := by
  subst hp
  exact own_step (fun _ k => XS.iand X.here hx rfl hd rfl k) g
theorem own_iushr (X : Stand p l e R s m args below meth c T locs cells slots) (hx : p.tables.exec = Jvm.exec) {x y : Int32} (hd : decode c.code pc = .ok (.iushr, 1))  (hp : pc + 1 = pc') (g : OwnGo p e below s Q rc rs (T.setTop (mkF m pc' Ls (.int (XT.ushr x y) :: st)))) : OwnGo p e below s Q rc rs (T.setTop (mkF m pc Ls (.int y :: .int x :: st))) := by
  subst hp
  exact own_step (fun _ k => XT.iushr X.here hx rfl hd rfl k) g
theorem own_ladd (X : Stand p l e R s m args below meth c T locs cells slots) (hx : p.tables.exec = Jvm.exec) {x y : Int64} (hd : decode c.code pc = .ok (.ladd, 1))  (hp : pc + 1 = pc') (g : OwnGo p e below s Q rc rs (T.setTop (mkF m pc' Ls (.long (x + y) :: st)))) : OwnGo p e below s Q rc rs (T.setTop (mkF m pc Ls (.long y :: .long x :: st))) := by
  subst hp
  exact own_step (fun _ k => XS.ladd X.here hx rfl hd rfl k) g
theorem own_lsub (X : Stand p l e R s m args below meth c T locs cells slots) (hx : p.tables.exec = Jvm.exec) {x y : Int64} (hd : decode c.code pc = .ok (.lsub, 1))  (hp : pc + 1 = pc') (g : OwnGo p e below s Q rc rs (T.setTop (mkF m pc' Ls (.long (x - y) :: st)))) : OwnGo p e below s Q rc rs (T.setTop (mkF m pc Ls (.long y :: .long x :: st))) := by
  subst hp
  exact own_step (fun _ k => XS.lsub X.here hx rfl hd rfl k) g
theorem own_land (X : Stand p l e R s m args below meth c T locs cells slots) (hx : p.tables.exec = Jvm.exec) {x y : Int64} (hd : decode c.code pc = .ok (.land, 1))  (hp : pc + 1 = pc') (g : OwnGo p e below s Q rc rs (T.setTop (mkF m pc' Ls (.long (x &&& y) :: st)))) : OwnGo p e below s Q rc rs (T.setTop (mkF m pc Ls (.long y :: .long x :: st))) := by
  subst hp
  exact own_step (fun _ k => XS.land X.here hx rfl hd rfl k) g
theorem own_lushr (X : Stand p l e R s m args below meth c T locs cells slots) (hx : p.tables.exec = Jvm.exec) {x : Int64} {y : Int32} (hd : decode c.code pc = .ok (.lushr, 1))  (hp : pc + 1 = pc') (g : OwnGo p e below s Q rc rs (T.setTop (mkF m pc' Ls (.long (XT.ushrL x y) :: st)))) : OwnGo p e below s Q rc rs (T.setTop (mkF m pc Ls (.int y :: .long x :: st))) := by
  subst hp
  exact own_step (fun _ k => XT.lushr X.here hx rfl hd rfl k) g
theorem own_lcmp (X : Stand p l e R s m args below meth c T locs cells slots) (hx : p.tables.exec = Jvm.exec) {x y : Int64} (hd : decode c.code pc = .ok (.lcmp, 1))  (hp : pc + 1 = pc') (g : OwnGo p e below s Q rc rs (T.setTop (mkF m pc' Ls (.int (XT.cmpL x y) :: st)))) : OwnGo p e below s Q rc rs (T.setTop (mkF m pc Ls (.long y :: .long x :: st))) := by
  subst hp
  exact own_step (fun _ k => XT.lcmp X.here hx rfl hd rfl k) g
theorem own_irem (X : Stand p l e R s m args below meth c T locs cells slots) (hx : p.tables.exec = Jvm.exec) {x y : Int32} (hd : decode c.code pc = .ok (.irem, 1)) (hy : y ≠ 0) (hp : pc + 1 = pc') (g : OwnGo p e below s Q rc rs (T.setTop (mkF m pc' Ls (.int (x % y) :: st)))) : OwnGo p e below s Q rc rs (T.setTop (mkF m pc Ls (.int y :: .int x :: st))) := by
  subst hp
  exact own_step (fun _ k => iremM X hx rfl hd rfl hy k) g
theorem own_idiv (X : Stand p l e R s m args below meth c T locs cells slots) (hx : p.tables.exec = Jvm.exec) {x y : Int32} (hd : decode c.code pc = .ok (.idiv, 1)) (hy : y ≠ 0) (hp : pc + 1 = pc') (g : OwnGo p e below s Q rc rs (T.setTop (mkF m pc' Ls (.int (x / y) :: st)))) : OwnGo p e below s Q rc rs (T.setTop (mkF m pc Ls (.int y :: .int x :: st))) := by
  subst hp
  exact own_step (fun _ k => XS.idiv X.here hx rfl hd rfl hy k) g
theorem own_lrem (X : Stand p l e R s m args below meth c T locs cells slots) (hx : p.tables.exec = Jvm.exec) {x y : Int64} (hd : decode c.code pc = .ok (.lrem, 1)) (hy : y ≠ 0) (hp : pc + 1 = pc') (g : OwnGo p e below s Q rc rs (T.setTop (mkF m pc' Ls (.long (x % y) :: st)))) : OwnGo p e below s Q rc rs (T.setTop (mkF m pc Ls (.long y :: .long x :: st))) := by
  subst hp
  exact own_step (fun _ k => XS.lrem X.here hx rfl hd rfl hy (by rw [lrem_mod]; exact k)) g
theorem own_i2l (X : Stand p l e R s m args below meth c T locs cells slots) (hx : p.tables.exec = Jvm.exec) {x : Int32} (hd : decode c.code pc = .ok (.i2l, 1))  (hp : pc + 1 = pc') (g : OwnGo p e below s Q rc rs (T.setTop (mkF m pc' Ls (.long x.toInt64 :: st)))) : OwnGo p e below s Q rc rs (T.setTop (mkF m pc Ls (.int x :: st))) := by
  subst hp
  exact own_step (fun _ k => XS.i2l X.here hx rfl hd rfl k) g
theorem own_l2i (X : Stand p l e R s m args below meth c T locs cells slots) (hx : p.tables.exec = Jvm.exec) {x : Int64} (hd : decode c.code pc = .ok (.l2i, 1))  (hp : pc + 1 = pc') (g : OwnGo p e below s Q rc rs (T.setTop (mkF m pc' Ls (.int x.toInt32 :: st)))) : OwnGo p e below s Q rc rs (T.setTop (mkF m pc Ls (.long x :: st))) := by
  subst hp
  exact own_step (fun _ k => XS.l2i X.here hx rfl hd rfl k) g
theorem own_i2b (X : Stand p l e R s m args below meth c T locs cells slots) (hx : p.tables.exec = Jvm.exec) {x : Int32} (hd : decode c.code pc = .ok (.i2b, 1))  (hp : pc + 1 = pc') (g : OwnGo p e below s Q rc rs (T.setTop (mkF m pc' Ls (.int x.toInt8.toInt32 :: st)))) : OwnGo p e below s Q rc rs (T.setTop (mkF m pc Ls (.int x :: st))) := by
  subst hp
  exact own_step (fun _ k => XS.i2b X.here hx rfl hd rfl k) g
theorem own_i2c (X : Stand p l e R s m args below meth c T locs cells slots) (hx : p.tables.exec = Jvm.exec) {x : Int32} (hd : decode c.code pc = .ok (.i2c, 1))  (hp : pc + 1 = pc') (g : OwnGo p e below s Q rc rs (T.setTop (mkF m pc' Ls (.int x.toUInt32.toUInt16.toUInt32.toInt32 :: st)))) : OwnGo p e below s Q rc rs (T.setTop (mkF m pc Ls (.int x :: st))) := by
  subst hp
  exact own_step (fun _ k => XS.i2c X.here hx rfl hd rfl k) g
theorem own_dup (X : Stand p l e R s m args below meth c T locs cells slots) (hx : p.tables.exec = Jvm.exec) {x : Value} (hd : decode c.code pc = .ok (.dup, 1)) (hc : x.category = 1) (hp : pc + 1 = pc') (g : OwnGo p e below s Q rc rs (T.setTop (mkF m pc' Ls (x :: x :: st)))) : OwnGo p e below s Q rc rs (T.setTop (mkF m pc Ls (x :: st))) := by
  subst hp
  exact own_step (fun _ k => XS.dup X.here hx rfl hd rfl hc k) g
theorem own_aconst_null (X : Stand p l e R s m args below meth c T locs cells slots) (hx : p.tables.exec = Jvm.exec)  (hd : decode c.code pc = .ok (.aconst_null, 1))  (hp : pc + 1 = pc') (g : OwnGo p e below s Q rc rs (T.setTop (mkF m pc' Ls (.null :: st)))) : OwnGo p e below s Q rc rs (T.setTop (mkF m pc Ls st)) := by
  subst hp
  exact own_step (fun _ k => XS.aconstNull X.here hx rfl hd k) g
theorem own_iinc (X : Stand p l e R s m args below meth c T locs cells slots) (hx : p.tables.exec = Jvm.exec) {k : Nat} {cst : Int} {x z : Int32} (hd : decode c.code pc = .ok (.iinc k cst, 3)) (hl : Ls[k]? = some (.val (.int x))) (hz : x + Int32.ofInt cst = z) (hl' : storeLocals Ls k (.int z) = some Ls') (hp : pc + 3 = pc') (g : OwnGo p e below s Q rc rs (T.setTop (mkF m pc' Ls' st))) : OwnGo p e below s Q rc rs (T.setTop (mkF m pc Ls st)) := by
  subst hp hz
  exact own_step (fun _ k => XS.iinc X.here hx rfl hd hl hl' k) g
theorem own_ldcI (X : Stand p l e R s m args below meth c T locs cells slots) (hx : p.tables.exec = Jvm.exec) (hZ : Z.Warmed39 s.vm) (hown : s.vm.findClass own = some m.cls) {v : Int32} (w : (Cond.constant own index v).before a0 Z = true) (hd : decode c.code pc = .ok (.ldc index, 2))  (hp : pc + 2 = pc') (g : OwnGo p e below s Q rc rs (T.setTop (mkF m pc' Ls (.int v :: st)))) : OwnGo p e below s Q rc rs (T.setTop (mkF m pc Ls st)) := by
  subst hp
  exact own_step (fun _ k => X.ldcInt hx hown (mvT hZ w) (g := mkF m pc Ls st) rfl hd _ k) g
theorem own_ldcJ (X : Stand p l e R s m args below meth c T locs cells slots) (hx : p.tables.exec = Jvm.exec) (hZ : Z.Warmed39 s.vm) (hown : s.vm.findClass own = some m.cls) {v : Int64} (w : (Cond.constantLong own index v).before a0 Z = true) (hd : decode c.code pc = .ok (.ldc2_w index, 3))  (hp : pc + 3 = pc') (g : OwnGo p e below s Q rc rs (T.setTop (mkF m pc' Ls (.long v :: st)))) : OwnGo p e below s Q rc rs (T.setTop (mkF m pc Ls st)) := by
  subst hp
  exact own_step (fun _ k => X.ldc2Long hx hown (mvT hZ w) (g := mkF m pc Ls st) rfl hd _ k) g
theorem own_goto (X : Stand p l e R s m args below meth c T locs cells slots) (hx : p.tables.exec = Jvm.exec) {o : Int} (hd : decode c.code pc = .ok (.goto o, 3)) (hp : (pc : Int) + o = (pc' : Int)) (g : OwnGo p e below s Q rc rs (T.setTop (mkF m pc' Ls st))) : OwnGo p e below s Q rc rs (T.setTop (mkF m pc Ls st)) :=
  own_step (fun _ k => XS.goto X.here hx rfl (pc0 := pc) rfl hd (by omega) (by omega) k) g
theorem own_icmp_lt (X : Stand p l e R s m args below meth c T locs cells slots) (hx : p.tables.exec = Jvm.exec) {x y : Int32} {o : Int} {pc1 pc2 : Nat} (hd : decode c.code pc = .ok (.if_icmp .lt o, 3)) (h1 : pc + 3 = pc1) (h2 : (pc : Int) + o = (pc2 : Int)) (gT : x < y → OwnGo p e below s Q rc rs (T.setTop (mkF m pc2 Ls st))) (gF : ¬ x < y → OwnGo p e below s Q rc rs (T.setTop (mkF m pc1 Ls st))) : OwnGo p e below s Q rc rs (T.setTop (mkF m pc Ls (.int y :: .int x :: st))) := by
  subst h1
  by_cases q : x < y
  · exact own_step (fun _ k => XS.icmpYes X.here hx rfl (pc0 := pc) rfl hd rfl (tlt q).1 (by omega) (by omega) k) (gT q)
  · exact own_step (fun _ k => XS.icmpNo X.here hx rfl hd rfl (flt q).1 k) (gF q)
theorem own_if_lt (X : Stand p l e R s m args below meth c T locs cells slots) (hx : p.tables.exec = Jvm.exec) {x : Int32} {o : Int} {pc1 pc2 : Nat} (hd : decode c.code pc = .ok (.ifCond .lt o, 3)) (h1 : pc + 3 = pc1) (h2 : (pc : Int) + o = (pc2 : Int)) (gT : x < 0 → OwnGo p e below s Q rc rs (T.setTop (mkF m pc2 Ls st))) (gF : ¬ x < 0 → OwnGo p e below s Q rc rs (T.setTop (mkF m pc1 Ls st))) : OwnGo p e below s Q rc rs (T.setTop (mkF m pc Ls (.int x :: st))) := by
  subst h1
  by_cases q : x < 0
  · exact own_step (fun _ k => XS.ifYes X.here hx rfl (pc0 := pc) rfl hd rfl ((if0 _ _).trans (tlt q).1) (by omega) (by omega) k) (gT q)
  · exact own_step (fun _ k => XS.ifNo X.here hx rfl hd rfl ((if0 _ _).trans (flt q).1) k) (gF q)
theorem own_icmp_ge (X : Stand p l e R s m args below meth c T locs cells slots) (hx : p.tables.exec = Jvm.exec) {x y : Int32} {o : Int} {pc1 pc2 : Nat} (hd : decode c.code pc = .ok (.if_icmp .ge o, 3)) (h1 : pc + 3 = pc1) (h2 : (pc : Int) + o = (pc2 : Int)) (gT : ¬ x < y → OwnGo p e below s Q rc rs (T.setTop (mkF m pc2 Ls st))) (gF : x < y → OwnGo p e below s Q rc rs (T.setTop (mkF m pc1 Ls st))) : OwnGo p e below s Q rc rs (T.setTop (mkF m pc Ls (.int y :: .int x :: st))) := by
  subst h1
  by_cases q : x < y
  · exact own_step (fun _ k => XS.icmpNo X.here hx rfl hd rfl (tlt q).2.1 k) (gF q)
  · exact own_step (fun _ k => XS.icmpYes X.here hx rfl (pc0 := pc) rfl hd rfl (flt q).2.1 (by omega) (by omega) k) (gT q)
theorem own_if_ge (X : Stand p l e R s m args below meth c T locs cells slots) (hx : p.tables.exec = Jvm.exec) {x : Int32} {o : Int} {pc1 pc2 : Nat} (hd : decode c.code pc = .ok (.ifCond .ge o, 3)) (h1 : pc + 3 = pc1) (h2 : (pc : Int) + o = (pc2 : Int)) (gT : ¬ x < 0 → OwnGo p e below s Q rc rs (T.setTop (mkF m pc2 Ls st))) (gF : x < 0 → OwnGo p e below s Q rc rs (T.setTop (mkF m pc1 Ls st))) : OwnGo p e below s Q rc rs (T.setTop (mkF m pc Ls (.int x :: st))) := by
  subst h1
  by_cases q : x < 0
  · exact own_step (fun _ k => XS.ifNo X.here hx rfl hd rfl ((if0 _ _).trans (tlt q).2.1) k) (gF q)
  · exact own_step (fun _ k => XS.ifYes X.here hx rfl (pc0 := pc) rfl hd rfl ((if0 _ _).trans (flt q).2.1) (by omega) (by omega) k) (gT q)
theorem own_icmp_gt (X : Stand p l e R s m args below meth c T locs cells slots) (hx : p.tables.exec = Jvm.exec) {x y : Int32} {o : Int} {pc1 pc2 : Nat} (hd : decode c.code pc = .ok (.if_icmp .gt o, 3)) (h1 : pc + 3 = pc1) (h2 : (pc : Int) + o = (pc2 : Int)) (gT : y < x → OwnGo p e below s Q rc rs (T.setTop (mkF m pc2 Ls st))) (gF : ¬ y < x → OwnGo p e below s Q rc rs (T.setTop (mkF m pc1 Ls st))) : OwnGo p e below s Q rc rs (T.setTop (mkF m pc Ls (.int y :: .int x :: st))) := by
  subst h1
  by_cases q : y < x
  · exact own_step (fun _ k => XS.icmpYes X.here hx rfl (pc0 := pc) rfl hd rfl (tlt q).2.2.1 (by omega) (by omega) k) (gT q)
  · exact own_step (fun _ k => XS.icmpNo X.here hx rfl hd rfl (flt q).2.2.1 k) (gF q)
theorem own_if_gt (X : Stand p l e R s m args below meth c T locs cells slots) (hx : p.tables.exec = Jvm.exec) {x : Int32} {o : Int} {pc1 pc2 : Nat} (hd : decode c.code pc = .ok (.ifCond .gt o, 3)) (h1 : pc + 3 = pc1) (h2 : (pc : Int) + o = (pc2 : Int)) (gT : 0 < x → OwnGo p e below s Q rc rs (T.setTop (mkF m pc2 Ls st))) (gF : ¬ 0 < x → OwnGo p e below s Q rc rs (T.setTop (mkF m pc1 Ls st))) : OwnGo p e below s Q rc rs (T.setTop (mkF m pc Ls (.int x :: st))) := by
  subst h1
  by_cases q : 0 < x
  · exact own_step (fun _ k => XS.ifYes X.here hx rfl (pc0 := pc) rfl hd rfl ((if0 _ _).trans (tlt q).2.2.1) (by omega) (by omega) k) (gT q)
  · exact own_step (fun _ k => XS.ifNo X.here hx rfl hd rfl ((if0 _ _).trans (flt q).2.2.1) k) (gF q)
theorem own_icmp_le (X : Stand p l e R s m args below meth c T locs cells slots) (hx : p.tables.exec = Jvm.exec) {x y : Int32} {o : Int} {pc1 pc2 : Nat} (hd : decode c.code pc = .ok (.if_icmp .le o, 3)) (h1 : pc + 3 = pc1) (h2 : (pc : Int) + o = (pc2 : Int)) (gT : ¬ y < x → OwnGo p e below s Q rc rs (T.setTop (mkF m pc2 Ls st))) (gF : y < x → OwnGo p e below s Q rc rs (T.setTop (mkF m pc1 Ls st))) : OwnGo p e below s Q rc rs (T.setTop (mkF m pc Ls (.int y :: .int x :: st))) := by
  subst h1
  by_cases q : y < x
  · exact own_step (fun _ k => XS.icmpNo X.here hx rfl hd rfl (tlt q).2.2.2 k) (gF q)
  · exact own_step (fun _ k => XS.icmpYes X.here hx rfl (pc0 := pc) rfl hd rfl (flt q).2.2.2 (by omega) (by omega) k) (gT q)
theorem own_if_le (X : Stand p l e R s m args below meth c T locs cells slots) (hx : p.tables.exec = Jvm.exec) {x : Int32} {o : Int} {pc1 pc2 : Nat} (hd : decode c.code pc = .ok (.ifCond .le o, 3)) (h1 : pc + 3 = pc1) (h2 : (pc : Int) + o = (pc2 : Int)) (gT : ¬ 0 < x → OwnGo p e below s Q rc rs (T.setTop (mkF m pc2 Ls st))) (gF : 0 < x → OwnGo p e below s Q rc rs (T.setTop (mkF m pc1 Ls st))) : OwnGo p e below s Q rc rs (T.setTop (mkF m pc Ls (.int x :: st))) := by
  subst h1
  by_cases q : 0 < x
  · exact own_step (fun _ k => XS.ifNo X.here hx rfl hd rfl ((if0 _ _).trans (tlt q).2.2.2) k) (gF q)
  · exact own_step (fun _ k => XS.ifYes X.here hx rfl (pc0 := pc) rfl hd rfl ((if0 _ _).trans (flt q).2.2.2) (by omega) (by omega) k) (gT q)
theorem own_icmp_eq (X : Stand p l e R s m args below meth c T locs cells slots) (hx : p.tables.exec = Jvm.exec) {x y : Int32} {o : Int} {pc1 pc2 : Nat} (hd : decode c.code pc = .ok (.if_icmp .eq o, 3)) (h1 : pc + 3 = pc1) (h2 : (pc : Int) + o = (pc2 : Int)) (gT : x = y → OwnGo p e below s Q rc rs (T.setTop (mkF m pc2 Ls st))) (gF : ¬ x = y → OwnGo p e below s Q rc rs (T.setTop (mkF m pc1 Ls st))) : OwnGo p e below s Q rc rs (T.setTop (mkF m pc Ls (.int y :: .int x :: st))) := by
  subst h1
  by_cases q : x = y
  · exact own_step (fun _ k => XS.icmpYes X.here hx rfl (pc0 := pc) rfl hd rfl (teq q).1 (by omega) (by omega) k) (gT q)
  · exact own_step (fun _ k => XS.icmpNo X.here hx rfl hd rfl (feq q).1 k) (gF q)
theorem own_if_eq (X : Stand p l e R s m args below meth c T locs cells slots) (hx : p.tables.exec = Jvm.exec) {x : Int32} {o : Int} {pc1 pc2 : Nat} (hd : decode c.code pc = .ok (.ifCond .eq o, 3)) (h1 : pc + 3 = pc1) (h2 : (pc : Int) + o = (pc2 : Int)) (gT : x = 0 → OwnGo p e below s Q rc rs (T.setTop (mkF m pc2 Ls st))) (gF : ¬ x = 0 → OwnGo p e below s Q rc rs (T.setTop (mkF m pc1 Ls st))) : OwnGo p e below s Q rc rs (T.setTop (mkF m pc Ls (.int x :: st))) := by
  subst h1
  by_cases q : x = 0
  · exact own_step (fun _ k => XS.ifYes X.here hx rfl (pc0 := pc) rfl hd rfl ((if0 _ _).trans (teq q).1) (by omega) (by omega) k) (gT q)
  · exact own_step (fun _ k => XS.ifNo X.here hx rfl hd rfl ((if0 _ _).trans (feq q).1) k) (gF q)
theorem own_icmp_ne (X : Stand p l e R s m args below meth c T locs cells slots) (hx : p.tables.exec = Jvm.exec) {x y : Int32} {o : Int} {pc1 pc2 : Nat} (hd : decode c.code pc = .ok (.if_icmp .ne o, 3)) (h1 : pc + 3 = pc1) (h2 : (pc : Int) + o = (pc2 : Int)) (gT : ¬ x = y → OwnGo p e below s Q rc rs (T.setTop (mkF m pc2 Ls st))) (gF : x = y → OwnGo p e below s Q rc rs (T.setTop (mkF m pc1 Ls st))) : OwnGo p e below s Q rc rs (T.setTop (mkF m pc Ls (.int y :: .int x :: st))) := by
  subst h1
  by_cases q : x = y
  · exact own_step (fun _ k => XS.icmpNo X.here hx rfl hd rfl (teq q).2 k) (gF q)
  · exact own_step (fun _ k => XS.icmpYes X.here hx rfl (pc0 := pc) rfl hd rfl (feq q).2 (by omega) (by omega) k) (gT q)
theorem own_if_ne (X : Stand p l e R s m args below meth c T locs cells slots) (hx : p.tables.exec = Jvm.exec) {x : Int32} {o : Int} {pc1 pc2 : Nat} (hd : decode c.code pc = .ok (.ifCond .ne o, 3)) (h1 : pc + 3 = pc1) (h2 : (pc : Int) + o = (pc2 : Int)) (gT : ¬ x = 0 → OwnGo p e below s Q rc rs (T.setTop (mkF m pc2 Ls st))) (gF : x = 0 → OwnGo p e below s Q rc rs (T.setTop (mkF m pc1 Ls st))) : OwnGo p e below s Q rc rs (T.setTop (mkF m pc Ls (.int x :: st))) := by
  subst h1
  by_cases q : x = 0
  · exact own_step (fun _ k => XS.ifNo X.here hx rfl hd rfl ((if0 _ _).trans (teq q).2) k) (gF q)
  · exact own_step (fun _ k => XS.ifYes X.here hx rfl (pc0 := pc) rfl hd rfl ((if0 _ _).trans (feq q).2) (by omega) (by omega) k) (gT q)
theorem own_ifnullY (X : Stand p l e R s m args below meth c T locs cells slots) (hx : p.tables.exec = Jvm.exec) {o : Int} {pc2 : Nat} (hd : decode c.code pc = .ok (.ifnull o, 3)) (h2 : (pc : Int) + o = (pc2 : Int)) (g : OwnGo p e below s Q rc rs (T.setTop (mkF m pc2 Ls st))) : OwnGo p e below s Q rc rs (T.setTop (mkF m pc Ls (.null :: st))) :=
  own_step (fun _ k => XS.ifnullYes X.here hx rfl (pc0 := pc) rfl hd rfl (by omega) (by omega) k) g
theorem own_ifnullN (X : Stand p l e R s m args below meth c T locs cells slots) (hx : p.tables.exec = Jvm.exec) {o : Int} {b : Addr} (hd : decode c.code pc = .ok (.ifnull o, 3))  (hp : pc + 3 = pc') (g : OwnGo p e below s Q rc rs (T.setTop (mkF m pc' Ls st))) : OwnGo p e below s Q rc rs (T.setTop (mkF m pc Ls (.ref b :: st))) := by
  subst hp
  exact own_step (fun _ k => XS.ifnullNo X.here hx rfl hd rfl k) g
theorem own_retI (X : Stand p l e R s m args below meth c T locs cells slots) (hx : p.tables.exec = Jvm.exec) (eT : T.heap = h) {z : Int32} (hret : meth.sig.returnType = some .int) (hlk : meth.locks = false) (hc : cells ≤ rc) (hs : slots ≤ rs) (hd : decode c.code pc = .ok (.ireturn, 1)) (hQ : Q (some (.int z)) h locs) : OwnGo p e below s Q rc rs (T.setTop (mkF m pc Ls (.int z :: st))) := by
  subst eT
  obtain ⟨fs, hr, hrun, hended, hW, hsame⟩ := X.leave (v := some (.int z)) (fun h => by rw [hret] at h; cases h) hlk
  exact ⟨_, _, retOut X hx hret rfl (Or.inl ⟨rfl, Or.inl rfl, _, rfl⟩) hd hr, hrun, hended, _, _, rfl, hQ, ⟨_, rfl⟩, hW, hsame.mono hc hs⟩
theorem own_retZ (X : Stand p l e R s m args below meth c T locs cells slots) (hx : p.tables.exec = Jvm.exec) (eT : T.heap = h) {z : Int32} (hret : meth.sig.returnType = some .boolean) (hlk : meth.locks = false) (hc : cells ≤ rc) (hs : slots ≤ rs) (hd : decode c.code pc = .ok (.ireturn, 1)) (hQ : Q (some (.int (nar .boolean z))) h locs) : OwnGo p e below s Q rc rs (T.setTop (mkF m pc Ls (.int z :: st))) := by
  subst eT
  obtain ⟨fs, hr, hrun, hended, hW, hsame⟩ := X.leave (v := some (.int (nar .boolean z))) (fun h => by rw [hret] at h; cases h) hlk
  exact ⟨_, _, retN X hx (t := .boolean) hret (by simp) hd hr, hrun, hended, _, _, rfl, hQ, ⟨_, rfl⟩, hW, hsame.mono hc hs⟩
theorem own_retJ (X : Stand p l e R s m args below meth c T locs cells slots) (hx : p.tables.exec = Jvm.exec) (eT : T.heap = h) {z : Int64} (hret : meth.sig.returnType = some .long) (hlk : meth.locks = false) (hc : cells ≤ rc) (hs : slots ≤ rs) (hd : decode c.code pc = .ok (.lreturn, 1)) (hQ : Q (some (.long z)) h locs) : OwnGo p e below s Q rc rs (T.setTop (mkF m pc Ls (.long z :: st))) := by
  subst eT
  obtain ⟨fs, hr, hrun, hended, hW, hsame⟩ := X.leave (v := some (.long z)) (fun h => by rw [hret] at h; cases h) hlk
  exact ⟨_, _, retOut X hx hret rfl (Or.inr (Or.inl ⟨rfl, rfl, _, rfl⟩)) hd hr, hrun, hended, _, _, rfl, hQ, ⟨_, rfl⟩, hW, hsame.mono hc hs⟩
theorem own_retA (X : Stand p l e R s m args below meth c T locs cells slots) (hx : p.tables.exec = Jvm.exec) (eT : T.heap = h) {z : Addr} {t : FieldType} (ht : t.isReference = true) (hret : meth.sig.returnType = some t) (hlk : meth.locks = false) (hc : cells ≤ rc) (hs : slots ≤ rs) (hd : decode c.code pc = .ok (.areturn, 1)) (hQ : Q (some (.ref z)) h locs) : OwnGo p e below s Q rc rs (T.setTop (mkF m pc Ls (.ref z :: st))) := by
  subst eT
  obtain ⟨fs, hr, hrun, hended, hW, hsame⟩ := X.leave (v := some (.ref z)) (fun h => by rw [hret] at h; cases h) hlk
  exact ⟨_, _, retOut X hx hret (by cases t <;> first | rfl | cases ht) (Or.inr (Or.inr (Or.inr (Or.inr ⟨rfl, ht, rfl⟩)))) hd hr, hrun, hended, _, _, rfl, hQ, ⟨_, rfl⟩, hW, hsame.mono hc hs⟩
theorem own_retV (X : Stand p l e R s m args below meth c T locs cells slots) (hx : p.tables.exec = Jvm.exec) (eT : T.heap = h)  (hret : meth.sig.returnType = none) (hlk : meth.locks = false) (hc : cells ≤ rc) (hs : slots ≤ rs) (hd : decode c.code pc = .ok (.return_, 1)) (hQ : Q (none) h locs) : OwnGo p e below s Q rc rs (T.setTop (mkF m pc Ls [])) := by
  subst eT
  obtain ⟨fs, hr, hrun, hended, hW, hsame⟩ := X.leave (v := none) (fun _ => rfl) hlk
  exact ⟨_, _, X.returnOut hx hret hd hr, hrun, hended, _, _, rfl, hQ, ⟨_, rfl⟩, hW, hsame.mono hc hs⟩
theorem own_getF (X : Stand p l e R s m args below meth c T locs cells slots) (hx : p.tables.exec = Jvm.exec) (hZ : Z.Warmed39 s.vm) (hown : s.vm.findClass own = some m.cls) {n d O : String} (w : (Cond.fieldLink own index O n d).before a0 Z = true) (eT : T.heap = h) {a : Addr} {v : Value} (F : Fld Z h a O n d v) (hd : decode c.code pc = .ok (.getfield index, 3))  (hp : pc + 3 = pc')
    (g : ∀ T', Stand p l e R s m args below meth c T' locs cells slots → T'.heap = h → OwnGo p e below s Q rc rs (T'.setTop (mkF m pc' Ls (v :: st)))) : OwnGo p e below s Q rc rs (T.setTop (mkF m pc Ls (.ref a :: st))) := by
  subst hp
  obtain ⟨T', X', e', k⟩ := getF X hx hZ hown (host := "") (Or.inl w) Via.refl eT F (g := mkF m pc Ls (.ref a :: st)) rfl rfl hd
  exact own_step k (g T' X' e')
theorem own_putF (X : Stand p l e R s m args below meth c T locs cells slots) (hx : p.tables.exec = Jvm.exec) (hZ : Z.Warmed39 s.vm) (hown : s.vm.findClass own = some m.cls) {n d O C : String} {kk : Nat} {ty : FieldType} (w : (Cond.fieldLink own index O n d).before a0 Z = true) (eT : T.heap = h) {a : Addr} {v v' old : Value} (F : Fld Z h a O n d old) (E : Exa Z h a C) (L : (Cond.lays C O n d).before a0 Z = true ∨ ((Cond.laysFinal C O n d).before a0 Z = true ∧ own = O ∧ meth.name = "<init>")) (wi : (Cond.instantiable C kk).before a0 Z = true) (hty : parseFieldDescriptor d = some ty) (hn : narrow ty v = v') (hf : fits ty v' = true) (hd : decode c.code pc = .ok (.putfield index, 3))  (hp : pc + 3 = pc')
    (g : ∀ T' h', Stand p l e R s m args below meth c T' (locs ++ [⟨a, Jvm.RoadKit.slotOf Z O n d⟩]) cells slots → T'.heap = h' → Wr h h' a (Jvm.RoadKit.slotOf Z O n d) v' → OwnGo p e below s Q rc rs (T'.setTop (mkF m pc' Ls st))) : OwnGo p e below s Q rc rs (T.setTop (mkF m pc Ls (v :: .ref a :: st))) := by
  subst hp
  obtain ⟨T', h', X', e', W, k⟩ := putFN X hx hZ hown w Via.refl eT F E L wi hty hn hf (g := mkF m pc Ls (v :: .ref a :: st)) rfl rfl hd
  exact own_step k (g T' h' X' e' W)
theorem own_newO (X : Stand p l e R s m args below meth c T locs cells slots) (hx : p.tables.exec = Jvm.exec) (hZ : Z.Warmed39 s.vm) (hown : s.vm.findClass own = some m.cls) {C : String} {n : Nat} (w : (Cond.classLink own index C).before a0 Z = true) (wi : (Cond.instantiable C n).before a0 Z = true) (wz : (Cond.initialized C).before a0 Z = true) (eT : T.heap = h) (hc : cells + 1 ≤ R.cells) (hl : slots + n ≤ R.slots) (hd : decode c.code pc = .ok (.new index, 3))  (hp : pc + 3 = pc')
    (g : ∀ T' h' b, b = h.size → Stand p l e R s m args below meth c T' locs (cells + 1) (slots + n) → T'.heap = h' → Ext h h' → Exa Z h' b C → (∀ {O nm d : String} {ty : FieldType}, Laid Z a0 C O nm d → parseFieldDescriptor d = some ty → Fld Z h' b O nm d (defaultValue ty)) → OwnGo p e below s Q rc rs (T'.setTop (mkF m pc' Ls (.ref b :: st)))) : OwnGo p e below s Q rc rs (T.setTop (mkF m pc Ls st)) := by
  subst hp
  obtain ⟨T', h', X', e', E', A', D', -, k⟩ := newO X hx hZ hown w wi wz eT (g := mkF m pc Ls st) rfl hd hc hl
  exact own_step k (g T' h' _ rfl X' e' E' A' (fun {_ _ _ _} => D'))
theorem own_newP (X : Stand p l e R s m args below meth c T locs cells slots) (hx : p.tables.exec = Jvm.exec) (hZ : Z.Warmed39 s.vm) {aty : ArrayType} (w : (Cond.arrayClass (newarray.typeOf aty)).before a0 Z = true) (eT : T.heap = h) {n : Int32} (hn : ¬ n < 0) {cap : Nat} (hcap : n.toNatClampNeg ≤ cap) (hb : cap * 8 ≤ 536870912) (hc : cells + 1 ≤ R.cells) (hl : slots + cap ≤ R.slots) {ad : String} (had : "[" ++ (newarray.typeOf aty).toString = ad) (hd : decode c.code pc = .ok (.newarray aty, 2))  (hp : pc + 2 = pc')
    (g : ∀ T' h' b k, b = h.size → Stand p l e R s m args below meth c T' locs (cells + 1) (slots + cap) → T'.heap = h' → Ext h h' → Arr Z h' b (newA k (newarray.typeOf aty) n) (newarray.typeOf aty) → Exa Z h' b ad → OwnGo p e below s Q rc rs (T'.setTop (mkF m pc' Ls (.ref b :: st)))) : OwnGo p e below s Q rc rs (T.setTop (mkF m pc Ls (.int n :: st))) := by
  subst hp
  obtain ⟨T', h', k', X', e', E', A', B', k⟩ := newPE X hx hZ w eT (g := mkF m pc Ls (.int n :: st)) rfl hd rfl hn hcap hb hc hl had
  exact own_step k (g T' h' _ k' rfl X' e' E' A' B')
theorem own_newR (X : Stand p l e R s m args below meth c T locs cells slots) (hx : p.tables.exec = Jvm.exec) (hZ : Z.Warmed39 s.vm) (hown : s.vm.findClass own = some m.cls) {C : String} (w1 : (Cond.classLink own index C).before a0 Z = true) (w2 : (Cond.arrayOver (.object C)).before a0 Z = true) (eT : T.heap = h) {n : Int32} (hn : ¬ n < 0) {cap : Nat} (hcap : n.toNatClampNeg ≤ cap) (hb : cap * 8 ≤ 536870912) (hc : cells + 1 ≤ R.cells) (hl : slots + cap ≤ R.slots) (hd : decode c.code pc = .ok (.anewarray index, 3))  (hp : pc + 3 = pc')
    (g : ∀ T' h' b, b = h.size → Stand p l e R s m args below meth c T' locs (cells + 1) (slots + cap) → T'.heap = h' → Ext h h' → OwnGo p e below s Q rc rs (T'.setTop (mkF m pc' Ls (.ref b :: st)))) : OwnGo p e below s Q rc rs (T.setTop (mkF m pc Ls (.int n :: st))) := by
  subst hp
  obtain ⟨T', h', k', X', e', E', A', -, k⟩ := newR X hx hZ hown w1 w2 eT (g := mkF m pc Ls (.int n :: st)) rfl hd rfl hn hcap hb hc hl
  exact own_step k (g T' h' _ rfl X' e' E')
theorem own_iastore (X : Stand p l e R s m args below meth c T locs cells slots) (hx : p.tables.exec = Jvm.exec) (hZ : Z.Warmed39 s.vm) (eT : T.heap = h) {a : Addr} {cl : Cell} (A : Arr Z h a cl .int) {j : Int32} {x : Int32} (hj : ¬ (j < 0 ∨ cl.slots.size ≤ j.toNatClampNeg)) (hd : decode c.code pc = .ok (.iastore, 1))  (hp : pc + 1 = pc')
    (g : ∀ T' h', Stand p l e R s m args below meth c T' (locs ++ [⟨a, j.toNatClampNeg⟩]) cells slots → T'.heap = h' → Wr h h' a j.toNatClampNeg (.int x) → OwnGo p e below s Q rc rs (T'.setTop (mkF m pc' Ls st))) : OwnGo p e below s Q rc rs (T.setTop (mkF m pc Ls (.int x :: .int j :: .ref a :: st))) := by
  subst hp
  obtain ⟨T', h', X', e', W, k⟩ := stI X hx hZ eT A hj (g := mkF m pc Ls (.int x :: .int j :: .ref a :: st)) rfl rfl hd
  exact own_step k (g T' h' X' e' W)
theorem own_castore (X : Stand p l e R s m args below meth c T locs cells slots) (hx : p.tables.exec = Jvm.exec) (hZ : Z.Warmed39 s.vm) (eT : T.heap = h) {a : Addr} {cl : Cell} (A : Arr Z h a cl .char) {j : Int32} {x : Int32} (hj : ¬ (j < 0 ∨ cl.slots.size ≤ j.toNatClampNeg)) (hd : decode c.code pc = .ok (.castore, 1))  (hp : pc + 1 = pc')
    (g : ∀ T' h', Stand p l e R s m args below meth c T' (locs ++ [⟨a, j.toNatClampNeg⟩]) cells slots → T'.heap = h' → Wr h h' a j.toNatClampNeg (.int (nar .char x)) → OwnGo p e below s Q rc rs (T'.setTop (mkF m pc' Ls st))) : OwnGo p e below s Q rc rs (T.setTop (mkF m pc Ls (.int x :: .int j :: .ref a :: st))) := by
  subst hp
  obtain ⟨T', h', X', e', W, k⟩ := stC X hx hZ eT A hj (g := mkF m pc Ls (.int x :: .int j :: .ref a :: st)) rfl rfl hd
  exact own_step k (g T' h' X' e' W)
theorem own_bastore (X : Stand p l e R s m args below meth c T locs cells slots) (hx : p.tables.exec = Jvm.exec) (hZ : Z.Warmed39 s.vm) (eT : T.heap = h) {a : Addr} {cl : Cell} (A : Arr Z h a cl .byte) {j : Int32} {x : Int32} (hj : ¬ (j < 0 ∨ cl.slots.size ≤ j.toNatClampNeg)) (hd : decode c.code pc = .ok (.bastore, 1))  (hp : pc + 1 = pc')
    (g : ∀ T' h', Stand p l e R s m args below meth c T' (locs ++ [⟨a, j.toNatClampNeg⟩]) cells slots → T'.heap = h' → Wr h h' a j.toNatClampNeg (.int (nar .byte x)) → OwnGo p e below s Q rc rs (T'.setTop (mkF m pc' Ls st))) : OwnGo p e below s Q rc rs (T.setTop (mkF m pc Ls (.int x :: .int j :: .ref a :: st))) := by
  subst hp
  obtain ⟨T', h', X', e', W, k⟩ := stB X hx hZ eT A hj (g := mkF m pc Ls (.int x :: .int j :: .ref a :: st)) rfl rfl hd
  exact own_step k (g T' h' X' e' W)
theorem own_zastore (X : Stand p l e R s m args below meth c T locs cells slots) (hx : p.tables.exec = Jvm.exec) (hZ : Z.Warmed39 s.vm) (eT : T.heap = h) {a : Addr} {cl : Cell} (A : Arr Z h a cl .boolean) {j : Int32} {x : Int32} (hj : ¬ (j < 0 ∨ cl.slots.size ≤ j.toNatClampNeg)) (hd : decode c.code pc = .ok (.bastore, 1))  (hp : pc + 1 = pc')
    (g : ∀ T' h', Stand p l e R s m args below meth c T' (locs ++ [⟨a, j.toNatClampNeg⟩]) cells slots → T'.heap = h' → Wr h h' a j.toNatClampNeg (.int (nar .boolean x)) → OwnGo p e below s Q rc rs (T'.setTop (mkF m pc' Ls st))) : OwnGo p e below s Q rc rs (T.setTop (mkF m pc Ls (.int x :: .int j :: .ref a :: st))) := by
  subst hp
  obtain ⟨T', h', X', e', W, k⟩ := stZ X hx hZ eT A hj (g := mkF m pc Ls (.int x :: .int j :: .ref a :: st)) rfl rfl hd
  exact own_step k (g T' h' X' e' W)
theorem own_lastore (X : Stand p l e R s m args below meth c T locs cells slots) (hx : p.tables.exec = Jvm.exec) (hZ : Z.Warmed39 s.vm) (eT : T.heap = h) {a : Addr} {cl : Cell} (A : Arr Z h a cl .long) {j : Int32} {x : Int64} (hj : ¬ (j < 0 ∨ cl.slots.size ≤ j.toNatClampNeg)) (hd : decode c.code pc = .ok (.lastore, 1))  (hp : pc + 1 = pc')
    (g : ∀ T' h', Stand p l e R s m args below meth c T' (locs ++ [⟨a, j.toNatClampNeg⟩]) cells slots → T'.heap = h' → Wr h h' a j.toNatClampNeg (.long x) → OwnGo p e below s Q rc rs (T'.setTop (mkF m pc' Ls st))) : OwnGo p e below s Q rc rs (T.setTop (mkF m pc Ls (.long x :: .int j :: .ref a :: st))) := by
  subst hp
  obtain ⟨T', h', X', e', W, k⟩ := stJ X hx hZ eT A hj (g := mkF m pc Ls (.long x :: .int j :: .ref a :: st)) rfl rfl hd
  exact own_step k (g T' h' X' e' W)
theorem own_iaload (X : Stand p l e R s m args below meth c T locs cells slots) (hx : p.tables.exec = Jvm.exec) (hZ : Z.Warmed39 s.vm) (eT : T.heap = h) {a : Addr} {cl : Cell} {v : Value} (A : Arr Z h a cl .int) {j : Int32} (hj : ¬ (j < 0 ∨ cl.slots.size ≤ j.toNatClampNeg)) (hv : cl.slots[j.toNatClampNeg]? = some v) (hd : decode c.code pc = .ok (.iaload, 1))  (hp : pc + 1 = pc') (g : OwnGo p e below s Q rc rs (T.setTop (mkF m pc' Ls (v :: st)))) : OwnGo p e below s Q rc rs (T.setTop (mkF m pc Ls (.int j :: .ref a :: st))) := by
  subst hp
  exact own_step (fun _ k => X.iaload hx (j := j) (v := v) (by rw [eT]; exact A.1) (State.isArrayOf_alike hZ.alike A.2.1) A.2.2 hj hv (g := mkF m pc Ls (.int j :: .ref a :: st)) rfl rfl hd _ k) g
theorem own_caload (X : Stand p l e R s m args below meth c T locs cells slots) (hx : p.tables.exec = Jvm.exec) (hZ : Z.Warmed39 s.vm) (eT : T.heap = h) {a : Addr} {cl : Cell} {v : Value} (A : Arr Z h a cl .char) {j : Int32} (hj : ¬ (j < 0 ∨ cl.slots.size ≤ j.toNatClampNeg)) (hv : cl.slots[j.toNatClampNeg]? = some v) (hd : decode c.code pc = .ok (.caload, 1))  (hp : pc + 1 = pc') (g : OwnGo p e below s Q rc rs (T.setTop (mkF m pc' Ls (v :: st)))) : OwnGo p e below s Q rc rs (T.setTop (mkF m pc Ls (.int j :: .ref a :: st))) := by
  subst hp
  exact own_step (fun _ k => X.caload hx (j := j) (v := v) (by rw [eT]; exact A.1) (State.isArrayOf_alike hZ.alike A.2.1) A.2.2 hj hv (g := mkF m pc Ls (.int j :: .ref a :: st)) rfl rfl hd _ k) g
theorem own_laload (X : Stand p l e R s m args below meth c T locs cells slots) (hx : p.tables.exec = Jvm.exec) (hZ : Z.Warmed39 s.vm) (eT : T.heap = h) {a : Addr} {cl : Cell} {v : Value} (A : Arr Z h a cl .long) {j : Int32} (hj : ¬ (j < 0 ∨ cl.slots.size ≤ j.toNatClampNeg)) (hv : cl.slots[j.toNatClampNeg]? = some v) (hd : decode c.code pc = .ok (.laload, 1))  (hp : pc + 1 = pc') (g : OwnGo p e below s Q rc rs (T.setTop (mkF m pc' Ls (v :: st)))) : OwnGo p e below s Q rc rs (T.setTop (mkF m pc Ls (.int j :: .ref a :: st))) := by
  subst hp
  exact own_step (fun _ k => X.laload hx (j := j) (v := v) (by rw [eT]; exact A.1) (State.isArrayOf_alike hZ.alike A.2.1) A.2.2 hj hv (g := mkF m pc Ls (.int j :: .ref a :: st)) rfl rfl hd _ k) g
theorem own_baload (X : Stand p l e R s m args below meth c T locs cells slots) (hx : p.tables.exec = Jvm.exec) (hZ : Z.Warmed39 s.vm) (eT : T.heap = h) {a : Addr} {cl : Cell} {v : Value} (A : Arr Z h a cl .byte) {j : Int32} (hj : ¬ (j < 0 ∨ cl.slots.size ≤ j.toNatClampNeg)) (hv : cl.slots[j.toNatClampNeg]? = some v) (hd : decode c.code pc = .ok (.baload, 1))  (hp : pc + 1 = pc') (g : OwnGo p e below s Q rc rs (T.setTop (mkF m pc' Ls (v :: st)))) : OwnGo p e below s Q rc rs (T.setTop (mkF m pc Ls (.int j :: .ref a :: st))) := by
  subst hp
  exact own_step (fun _ k => X.baloadBytes hx (j := j) (v := v) (by rw [eT]; exact A.1) (State.isArrayOf_alike hZ.alike A.2.1) A.2.2 hj hv (g := mkF m pc Ls (.int j :: .ref a :: st)) rfl rfl hd _ k) g
theorem own_zaload (X : Stand p l e R s m args below meth c T locs cells slots) (hx : p.tables.exec = Jvm.exec) (hZ : Z.Warmed39 s.vm) (eT : T.heap = h) {a : Addr} {cl : Cell} {v : Value} (A : Arr Z h a cl .boolean) {j : Int32} (hj : ¬ (j < 0 ∨ cl.slots.size ≤ j.toNatClampNeg)) (hv : cl.slots[j.toNatClampNeg]? = some v) (hd : decode c.code pc = .ok (.baload, 1))  (hp : pc + 1 = pc') (g : OwnGo p e below s Q rc rs (T.setTop (mkF m pc' Ls (v :: st)))) : OwnGo p e below s Q rc rs (T.setTop (mkF m pc Ls (.int j :: .ref a :: st))) := by
  subst hp
  exact own_step (fun _ k => X.baloadBooleans hx (j := j) (v := v) (by rw [eT]; exact A.1) (State.isArrayOf_alike hZ.alike A.2.1) A.2.2 hj hv (g := mkF m pc Ls (.int j :: .ref a :: st)) rfl rfl hd _ k) g
theorem own_arraylength (X : Stand p l e R s m args below meth c T locs cells slots) (hx : p.tables.exec = Jvm.exec) (hZ : Z.Warmed39 s.vm) (eT : T.heap = h) {a : Addr} {cl : Cell} {ty : FieldType} {z : Int32} (A : Arr Z h a cl ty) (hz : cl.slots.size.toInt32 = z) (hd : decode c.code pc = .ok (.arraylength, 1))  (hp : pc + 1 = pc') (g : OwnGo p e below s Q rc rs (T.setTop (mkF m pc' Ls (.int z :: st)))) : OwnGo p e below s Q rc rs (T.setTop (mkF m pc Ls (.ref a :: st))) := by
  subst hp hz
  exact own_step (fun _ k => X.arraylength hx (by rw [eT]; exact A.1) (State.isArrayOf_alike hZ.alike A.2.1) (g := mkF m pc Ls (.ref a :: st)) rfl rfl hd _ k) g
/-- the contract of a body: called with as' at a heap h, it ends as Q says -/
def OwnMet (l : Launch) (Z : State) (y : MethodName) (bytes : ByteArray) (maxL : Nat) (ret : Option FieldType) (as' : Array Value) (rm : Room) (Q : Option Value → Heap → List Loc → Prop) (h : Heap) : Prop := MetFree l y (head1 [Jvm.Cond.code y bytes maxL ret] rm) (fun a U => a = as' ∧ Z.Warmed39 U.vm ∧ U.heap = h) (fun _ _ _ _ _ => True) (fun _ U o U' => ∃ v L, o = .returned v ∧ Q v U'.heap L ∧ FrameEnd U o U' L rm.cells rm.slots)
theorem own_callS (X : Stand p l e R s m args below meth c T locs cells slots) (hx : p.tables.exec = Jvm.exec) (hZ : Z.Warmed39 s.vm) (hown : s.vm.findClass own = some m.cls) {y : MethodName} {bytes : ByteArray} {maxL : Nat} {ret : Option FieldType} {rm : Room} {argsL : List Value} {Qc : Option Value → Heap → List Loc → Prop} {W : Nat} {stk : List Value} (w1 : (Cond.methodLink own index y).before a0 Z = true) (w2 : (Cond.static y).before a0 Z = true) (w3 : (Cond.initialized y.cls).before a0 Z = true) (w4 : (Jvm.Cond.code y bytes maxL ret).before a0 Z = true) (eT : T.heap = h) (hM : OwnMet l Z y bytes maxL ret argsL.toArray rm Qc h) (hd : decode c.code pc = .ok (.invokestatic index, 3)) (hst : stk = argsL.reverse ++ st) (hlen : ∀ sig, parseMethodDescriptor y.desc = some sig → argsL.length = sig.parameters.length) (hsz : Ls.size = c.maxLocals) (hf : rm.frames + 1 ≤ R.frames) (hl : W + (maxL + 11) + rm.locals ≤ R.locals) (hc : cells + rm.cells ≤ R.cells) (hsl : slots + rm.slots ≤ R.slots) (hW : (st.map fun v => v.category).sum ≤ W) (hy : y.cls ≠ "java/lang/invoke/MethodHandle" ∧ y.cls ≠ "java/lang/invoke/VarHandle") (hp : pc + 3 = pc')
    (g : ∀ T' v L, Stand p l e R s m args below meth c T' (locs ++ L) (cells + rm.cells) (slots + rm.slots) → Qc v T'.heap L → OwnGo p e below s Q rc rs (T'.setTop (mkF m pc' Ls (v.toList ++ st)))) : OwnGo p e below s Q rc rs (T.setTop (mkF m pc Ls stk)) := by
  subst hp
  obtain ⟨v, vm1, ⟨T', L', k', n'⟩, -, X', ⟨Lc, hQ, l1, y1, z1⟩, k⟩ := Jvm.LawKit.callS X hx hown (mvT hZ w1) (mvT hZ w2) (mvT hZ w3) (mvT hZ w4) hy (backOf (Q := Qc) (W := W) hM hZ w4 w3 hf hl) (g := mkF m pc Ls stk) rfl hsz (argsL := argsL) (rest := st) hlen hst (by show 2 * 0 + _ ≤ _; omega) hd (fun _ _ => ⟨rfl, eT, hc, hsl⟩)
  exact by
    dsimp only [Pt.U, Pt.locs, Pt.cells, Pt.slots] at X' l1 y1 z1 k hQ
    subst l1 y1 z1
    exact own_step k (g T' v Lc X' hQ)
theorem own_callC (X : Stand p l e R s m args below meth c T locs cells slots) (hx : p.tables.exec = Jvm.exec) (hZ : Z.Warmed39 s.vm) (hown : s.vm.findClass own = some m.cls) {y : MethodName} {bytes : ByteArray} {maxL : Nat} {rm : Room} {argsL : List Value} {Qc : Option Value → Heap → List Loc → Prop} {W : Nat} {stk : List Value} {a : Addr} (hi : y.name = "<init>") (w1 : (Cond.methodLink own index y).before a0 Z = true) (w2 : (Cond.instanceMethod y).before a0 Z = true) (w3 : (Cond.initialized y.cls).before a0 Z = true) (w4 : (Jvm.Cond.code y bytes maxL none).before a0 Z = true) (eT : T.heap = h) (hM : OwnMet l Z y bytes maxL none (.ref a :: argsL).toArray rm Qc h) (hd : decode c.code pc = .ok (.invokespecial index, 3)) (hst : stk = argsL.reverse ++ .ref a :: st) (hlen : ∀ sig, parseMethodDescriptor y.desc = some sig → argsL.length = sig.parameters.length) (hsz : Ls.size = c.maxLocals) (hf : rm.frames + 1 ≤ R.frames) (hl : W + (maxL + 11) + rm.locals ≤ R.locals) (hc : cells + rm.cells ≤ R.cells) (hsl : slots + rm.slots ≤ R.slots) (hW : (st.map fun v => v.category).sum ≤ W) (hy : y.cls ≠ "java/lang/invoke/MethodHandle" ∧ y.cls ≠ "java/lang/invoke/VarHandle") (hp : pc + 3 = pc')
    (g : ∀ T' v L, Stand p l e R s m args below meth c T' (locs ++ L) (cells + rm.cells) (slots + rm.slots) → Qc v T'.heap L → OwnGo p e below s Q rc rs (T'.setTop (mkF m pc' Ls (v.toList ++ st)))) : OwnGo p e below s Q rc rs (T.setTop (mkF m pc Ls stk)) := by
  subst hp
  obtain ⟨v, vm1, ⟨T', L', k', n'⟩, -, X', ⟨Lc, hQ, l1, y1, z1⟩, k⟩ := X.specialBack hx hi hown (mvT hZ w1) (mvT hZ w2) (mvT hZ w4) hy (backOf (Q := Qc) (W := W) hM hZ w4 w3 hf hl) (g := mkF m pc Ls stk) rfl hsz (Steps.refl _) (a := a) (argsL := argsL) (rest := st) hlen hst (by show 2 * 0 + _ ≤ _; omega) hd (fun _ _ => ⟨rfl, eT, hc, hsl⟩)
  exact by
    dsimp only [Pt.U, Pt.locs, Pt.cells, Pt.slots] at X' l1 y1 z1 k hQ
    subst l1 y1 z1
    exact own_step (fun _ q => k.trans q) (g T' v Lc X' hQ)
theorem own_callV (X : Stand p l e R s m args below meth c T locs cells slots) (hx : p.tables.exec = Jvm.exec) (hZ : Z.Warmed39 s.vm) (hown : s.vm.findClass own = some m.cls) {y : MethodName} {bytes : ByteArray} {maxL : Nat} {ret : Option FieldType} {rm : Room} {argsL : List Value} {Qc : Option Value → Heap → List Loc → Prop} {W : Nat} {stk : List Value} {a : Addr} {C : String} (w1 : (Cond.methodLink own index y).before a0 Z = true) (w2 : (Cond.declares y).before a0 Z = true) (w5 : (Cond.selects C y y).before a0 Z = true) (w6 : (Cond.instanceMethod y).before a0 Z = true) (w3 : (Cond.initialized y.cls).before a0 Z = true) (w4 : (Jvm.Cond.code y bytes maxL ret).before a0 Z = true) (eT : T.heap = h) (E : Exa Z h a C) (hM : OwnMet l Z y bytes maxL ret (.ref a :: argsL).toArray rm Qc h) (hd : decode c.code pc = .ok (.invokevirtual index, 3)) (hst : stk = argsL.reverse ++ .ref a :: st) (hlen : ∀ sig, parseMethodDescriptor y.desc = some sig → argsL.length = sig.parameters.length) (hsz : Ls.size = c.maxLocals) (hf : rm.frames + 1 ≤ R.frames) (hl : W + (maxL + 11) + rm.locals ≤ R.locals) (hc : cells + rm.cells ≤ R.cells) (hsl : slots + rm.slots ≤ R.slots) (hW : (st.map fun v => v.category).sum ≤ W) (hy : y.cls ≠ "java/lang/invoke/MethodHandle" ∧ y.cls ≠ "java/lang/invoke/VarHandle") (hp : pc + 3 = pc')
    (g : ∀ T' v L, Stand p l e R s m args below meth c T' (locs ++ L) (cells + rm.cells) (slots + rm.slots) → Qc v T'.heap L → OwnGo p e below s Q rc rs (T'.setTop (mkF m pc' Ls (v.toList ++ st)))) : OwnGo p e below s Q rc rs (T.setTop (mkF m pc Ls stk)) := by
  subst hp
  obtain ⟨cB, kB, q1, q2, q3⟩ := isOf hZ eT E
  obtain ⟨v, vm1, ⟨T', L', k', n'⟩, -, X', ⟨Lc, hQ, l1, y1, z1⟩, k⟩ := X.virtualBack hx hown (mvT hZ w1) (mvT hZ w2) (notFace_of_selects (args := #[]) (mvT hZ w5)) (mvT hZ w5) (mvT hZ w6) hy (backOf (Q := Qc) (W := W) hM hZ w4 w3 hf hl) q1 q3 (g := mkF m pc Ls stk) rfl hsz (Steps.refl _) (argsL := argsL) (rest := st) hlen hst (by show 2 * 0 + _ ≤ _; omega) hd (fun _ _ => ⟨rfl, eT, hc, hsl⟩)
  exact by
    dsimp only [Pt.U, Pt.locs, Pt.cells, Pt.slots] at X' l1 y1 z1 k hQ
    subst l1 y1 z1
    exact own_step (fun _ q => k.trans q) (g T' v Lc X' hQ)
abbrev ownR0 : Room := { frames := 0, cells := 0, slots := 0, locals := 0 }
/-- returns z and changes nothing -/
abbrev OwnPure (l : Launch) (Z : State) (y : MethodName) (bytes : ByteArray) (maxL : Nat) (ret : Option FieldType) (as' : Array Value) (z : Value) (h : Heap) : Prop := OwnMet l Z y bytes maxL ret as' ownR0 (fun v h' L => v = some z ∧ h' = h ∧ L = []) h
theorem own_pureS (X : Stand p l e R s m args below meth c T locs cells slots) (hx : p.tables.exec = Jvm.exec) (hZ : Z.Warmed39 s.vm) (hown : s.vm.findClass own = some m.cls) {y : MethodName} {bytes : ByteArray} {maxL : Nat} {ret : Option FieldType} {argsL : List Value} {z : Value} {W : Nat} {stk : List Value} (w1 : (Cond.methodLink own index y).before a0 Z = true) (w2 : (Cond.static y).before a0 Z = true) (w3 : (Cond.initialized y.cls).before a0 Z = true) (w4 : (Jvm.Cond.code y bytes maxL ret).before a0 Z = true) (eT : T.heap = h) (hM : OwnPure l Z y bytes maxL ret argsL.toArray z h) (hd : decode c.code pc = .ok (.invokestatic index, 3)) (hst : stk = argsL.reverse ++ st) (hlen : ∀ sig, parseMethodDescriptor y.desc = some sig → argsL.length = sig.parameters.length) (hsz : Ls.size = c.maxLocals) (hf : 1 ≤ R.frames) (hl : W + (maxL + 11) ≤ R.locals) (hc : cells ≤ R.cells) (hsl : slots ≤ R.slots) (hW : (st.map fun v => v.category).sum ≤ W) (hy : y.cls ≠ "java/lang/invoke/MethodHandle" ∧ y.cls ≠ "java/lang/invoke/VarHandle") (hp : pc + 3 = pc')
    (g : ∀ T', Stand p l e R s m args below meth c T' locs cells slots → T'.heap = h → OwnGo p e below s Q rc rs (T'.setTop (mkF m pc' Ls (z :: st)))) : OwnGo p e below s Q rc rs (T.setTop (mkF m pc Ls stk)) := by
  refine own_callS (rm := ownR0) (Qc := fun v h' L => v = some z ∧ h' = h ∧ L = []) X hx hZ hown w1 w2 w3 w4 eT hM hd hst hlen hsz hf hl hc hsl hW hy hp ?_
  rintro T' v L X' ⟨rfl, h1, rfl⟩
  exact g T' (by simpa using X') h1
theorem own_pureV (X : Stand p l e R s m args below meth c T locs cells slots) (hx : p.tables.exec = Jvm.exec) (hZ : Z.Warmed39 s.vm) (hown : s.vm.findClass own = some m.cls) {y : MethodName} {bytes : ByteArray} {maxL : Nat} {ret : Option FieldType} {argsL : List Value} {z : Value} {W : Nat} {stk : List Value} {a : Addr} {C : String} (w1 : (Cond.methodLink own index y).before a0 Z = true) (w2 : (Cond.declares y).before a0 Z = true) (w5 : (Cond.selects C y y).before a0 Z = true) (w6 : (Cond.instanceMethod y).before a0 Z = true) (w3 : (Cond.initialized y.cls).before a0 Z = true) (w4 : (Jvm.Cond.code y bytes maxL ret).before a0 Z = true) (eT : T.heap = h) (E : Exa Z h a C) (hM : OwnPure l Z y bytes maxL ret (.ref a :: argsL).toArray z h) (hd : decode c.code pc = .ok (.invokevirtual index, 3)) (hst : stk = argsL.reverse ++ .ref a :: st) (hlen : ∀ sig, parseMethodDescriptor y.desc = some sig → argsL.length = sig.parameters.length) (hsz : Ls.size = c.maxLocals) (hf : 1 ≤ R.frames) (hl : W + (maxL + 11) ≤ R.locals) (hc : cells ≤ R.cells) (hsl : slots ≤ R.slots) (hW : (st.map fun v => v.category).sum ≤ W) (hy : y.cls ≠ "java/lang/invoke/MethodHandle" ∧ y.cls ≠ "java/lang/invoke/VarHandle") (hp : pc + 3 = pc')
    (g : ∀ T', Stand p l e R s m args below meth c T' locs cells slots → T'.heap = h → OwnGo p e below s Q rc rs (T'.setTop (mkF m pc' Ls (z :: st)))) : OwnGo p e below s Q rc rs (T.setTop (mkF m pc Ls stk)) := by
  refine own_callV (rm := ownR0) (Qc := fun v h' L => v = some z ∧ h' = h ∧ L = []) X hx hZ hown w1 w2 w5 w6 w3 w4 eT E hM hd hst hlen hsz hf hl hc hsl hW hy hp ?_
  rintro T' v L X' ⟨rfl, h1, rfl⟩
  exact g T' (by simpa using X') h1
/-- the array at a: n places of kind ty, the j-th holds a value with P j -/
def OwnArr (Z : State) (h : Heap) (a : Addr) (ty : FieldType) (n : Nat) (P : Nat → Value → Prop) : Prop := ∃ cl : Cell, Arr Z h a cl ty ∧ cl.slots.size = n ∧ ∀ j, j < n → ∃ v, cl.slots[j]? = some v ∧ P j v
theorem OwnArr.lt {a : Addr} {ty : FieldType} {n : Nat} {P : Nat → Value → Prop} (A : OwnArr Z h a ty n P) : a < h.size := by obtain ⟨cl, A, -⟩ := A; exact A.lt
theorem OwnArr.ext {h' : Heap} {a : Addr} {ty : FieldType} {n : Nat} {P : Nat → Value → Prop} (A : OwnArr Z h a ty n P) (E : Ext h h') : OwnArr Z h' a ty n P := by obtain ⟨cl, A, r⟩ := A; exact ⟨cl, A.ext E, r⟩
theorem OwnArr.other {h' : Heap} {a b : Addr} {sl : Nat} {v : Value} {ty : FieldType} {n : Nat} {P : Nat → Value → Prop} (A : OwnArr Z h b ty n P) (W : Wr h h' a sl v) (q : b ≠ a) : OwnArr Z h' b ty n P := by obtain ⟨cl, A, r⟩ := A; exact ⟨cl, A.other W q, r⟩
theorem OwnArr.keep {h' : Heap} {ws : List Addr} {a : Addr} {ty : FieldType} {n : Nat} {P : Nat → Value → Prop} (A : OwnArr Z h a ty n P) (K : Keep h h' ws) (q : a ∉ ws) : OwnArr Z h' a ty n P := by obtain ⟨cl, A, r⟩ := A; exact ⟨cl, ⟨K.2.1 a cl A.1 q, A.2⟩, r⟩
theorem OwnArr.mono {a : Addr} {ty : FieldType} {n : Nat} {P P' : Nat → Value → Prop} (A : OwnArr Z h a ty n P) (q : ∀ j v, j < n → P j v → P' j v) : OwnArr Z h a ty n P' := by
  obtain ⟨cl, A, S, H⟩ := A
  exact ⟨cl, A, S, fun j hj => by obtain ⟨v, h1, h2⟩ := H j hj; exact ⟨v, h1, q j v hj h2⟩⟩
theorem OwnArr.new {a : Addr} {k : ClassId} {ty : FieldType} {z : Int32} {n : Nat} (A : Arr Z h a (newA k ty z) ty) (hz : z.toNatClampNeg = n) : OwnArr Z h a ty n (fun _ v => v = defaultValue ty) := by
  subst hz
  refine ⟨_, A, sz_new _ _ _, fun j hj => ⟨_, ?_, rfl⟩⟩
  simp [newA, hj]
theorem OwnArr.set {h' : Heap} {a : Addr} {sl : Nat} {v : Value} {ty : FieldType} {n : Nat} {P P' : Nat → Value → Prop} (A : OwnArr Z h a ty n P) (W : Wr h h' a sl v) (q : ∀ i w, i < n → (i = sl → w = v) → (i ≠ sl → P i w) → P' i w) : OwnArr Z h' a ty n P' := by
  obtain ⟨cl, A, S, H⟩ := A
  refine ⟨_, A.same W, by rw [sz_set]; exact S, fun j hj => ?_⟩
  by_cases e : j = sl
  · subst e
    exact ⟨v, by simp [Cell.setSlot, S, hj], q j v hj (fun _ => rfl) (fun y => absurd rfl y)⟩
  · obtain ⟨w, h1, h2⟩ := H j hj
    refine ⟨w, ?_, q j w hj (fun y => absurd y e) (fun _ => h2)⟩
    simp only [Cell.setSlot]; rw [Array.getElem?_setIfInBounds_ne (fun y => e y.symm)]; exact h1
theorem own_inb {cl : Cell} {n : Nat} {j : Int32} (S : cl.slots.size = n) (h0 : 0 ≤ j.toInt) (h1 : j.toInt < n) : ¬ (j < 0 ∨ cl.slots.size ≤ j.toNatClampNeg) := by
  have l0 : (0 : Int32).toInt = 0 := by decide
  rw [Int32.lt_iff_toInt_lt, l0, S, Int32.toNatClampNeg]
  omega
theorem own_len {n : Nat} {z : Int32} (hz : z.toInt = n) : n.toInt32 = z := by
  have h0 : ¬ z < 0 := by
    have l0 : (0 : Int32).toInt = 0 := by decide
    rw [Int32.lt_iff_toInt_lt, l0]; omega
  have e : z.toNatClampNeg = n := by rw [Int32.toNatClampNeg]; omega
  rw [← e]
  exact (back32 h0).1
theorem own_iastoreA (X : Stand p l e R s m args below meth c T locs cells slots) (hx : p.tables.exec = Jvm.exec) (hZ : Z.Warmed39 s.vm) (eT : T.heap = h) {a : Addr} {n : Nat} {P : Nat → Value → Prop} (A : OwnArr Z h a .int n P) {j : Int32} {x : Int32} (h0 : 0 ≤ j.toInt) (h1 : j.toInt < n) (P' : Nat → Value → Prop) (hP : ∀ i w, i < n → (i = j.toNatClampNeg → w = (.int x)) → (i ≠ j.toNatClampNeg → P i w) → P' i w) (hd : decode c.code pc = .ok (.iastore, 1)) (hp : pc + 1 = pc')
    (g : ∀ T' h', Stand p l e R s m args below meth c T' (locs ++ [⟨a, j.toNatClampNeg⟩]) cells slots → T'.heap = h' → Wr h h' a j.toNatClampNeg (.int x) → OwnArr Z h' a .int n P' → OwnGo p e below s Q rc rs (T'.setTop (mkF m pc' Ls st))) : OwnGo p e below s Q rc rs (T.setTop (mkF m pc Ls (.int x :: .int j :: .ref a :: st))) := by
  have A0 := A
  obtain ⟨cl, Ar, S, H⟩ := A
  exact own_iastore X hx hZ eT Ar (own_inb S h0 h1) hd hp fun T' h' X' e' W => g T' h' X' e' W (A0.set W hP)
theorem own_castoreA (X : Stand p l e R s m args below meth c T locs cells slots) (hx : p.tables.exec = Jvm.exec) (hZ : Z.Warmed39 s.vm) (eT : T.heap = h) {a : Addr} {n : Nat} {P : Nat → Value → Prop} (A : OwnArr Z h a .char n P) {j : Int32} {x : Int32} (h0 : 0 ≤ j.toInt) (h1 : j.toInt < n) (P' : Nat → Value → Prop) (hP : ∀ i w, i < n → (i = j.toNatClampNeg → w = (.int (nar .char x))) → (i ≠ j.toNatClampNeg → P i w) → P' i w) (hd : decode c.code pc = .ok (.castore, 1)) (hp : pc + 1 = pc')
    (g : ∀ T' h', Stand p l e R s m args below meth c T' (locs ++ [⟨a, j.toNatClampNeg⟩]) cells slots → T'.heap = h' → Wr h h' a j.toNatClampNeg (.int (nar .char x)) → OwnArr Z h' a .char n P' → OwnGo p e below s Q rc rs (T'.setTop (mkF m pc' Ls st))) : OwnGo p e below s Q rc rs (T.setTop (mkF m pc Ls (.int x :: .int j :: .ref a :: st))) := by
  have A0 := A
  obtain ⟨cl, Ar, S, H⟩ := A
  exact own_castore X hx hZ eT Ar (own_inb S h0 h1) hd hp fun T' h' X' e' W => g T' h' X' e' W (A0.set W hP)
theorem own_bastoreA (X : Stand p l e R s m args below meth c T locs cells slots) (hx : p.tables.exec = Jvm.exec) (hZ : Z.Warmed39 s.vm) (eT : T.heap = h) {a : Addr} {n : Nat} {P : Nat → Value → Prop} (A : OwnArr Z h a .byte n P) {j : Int32} {x : Int32} (h0 : 0 ≤ j.toInt) (h1 : j.toInt < n) (P' : Nat → Value → Prop) (hP : ∀ i w, i < n → (i = j.toNatClampNeg → w = (.int (nar .byte x))) → (i ≠ j.toNatClampNeg → P i w) → P' i w) (hd : decode c.code pc = .ok (.bastore, 1)) (hp : pc + 1 = pc')
    (g : ∀ T' h', Stand p l e R s m args below meth c T' (locs ++ [⟨a, j.toNatClampNeg⟩]) cells slots → T'.heap = h' → Wr h h' a j.toNatClampNeg (.int (nar .byte x)) → OwnArr Z h' a .byte n P' → OwnGo p e below s Q rc rs (T'.setTop (mkF m pc' Ls st))) : OwnGo p e below s Q rc rs (T.setTop (mkF m pc Ls (.int x :: .int j :: .ref a :: st))) := by
  have A0 := A
  obtain ⟨cl, Ar, S, H⟩ := A
  exact own_bastore X hx hZ eT Ar (own_inb S h0 h1) hd hp fun T' h' X' e' W => g T' h' X' e' W (A0.set W hP)
theorem own_zastoreA (X : Stand p l e R s m args below meth c T locs cells slots) (hx : p.tables.exec = Jvm.exec) (hZ : Z.Warmed39 s.vm) (eT : T.heap = h) {a : Addr} {n : Nat} {P : Nat → Value → Prop} (A : OwnArr Z h a .boolean n P) {j : Int32} {x : Int32} (h0 : 0 ≤ j.toInt) (h1 : j.toInt < n) (P' : Nat → Value → Prop) (hP : ∀ i w, i < n → (i = j.toNatClampNeg → w = (.int (nar .boolean x))) → (i ≠ j.toNatClampNeg → P i w) → P' i w) (hd : decode c.code pc = .ok (.bastore, 1)) (hp : pc + 1 = pc')
    (g : ∀ T' h', Stand p l e R s m args below meth c T' (locs ++ [⟨a, j.toNatClampNeg⟩]) cells slots → T'.heap = h' → Wr h h' a j.toNatClampNeg (.int (nar .boolean x)) → OwnArr Z h' a .boolean n P' → OwnGo p e below s Q rc rs (T'.setTop (mkF m pc' Ls st))) : OwnGo p e below s Q rc rs (T.setTop (mkF m pc Ls (.int x :: .int j :: .ref a :: st))) := by
  have A0 := A
  obtain ⟨cl, Ar, S, H⟩ := A
  exact own_zastore X hx hZ eT Ar (own_inb S h0 h1) hd hp fun T' h' X' e' W => g T' h' X' e' W (A0.set W hP)
theorem own_lastoreA (X : Stand p l e R s m args below meth c T locs cells slots) (hx : p.tables.exec = Jvm.exec) (hZ : Z.Warmed39 s.vm) (eT : T.heap = h) {a : Addr} {n : Nat} {P : Nat → Value → Prop} (A : OwnArr Z h a .long n P) {j : Int32} {x : Int64} (h0 : 0 ≤ j.toInt) (h1 : j.toInt < n) (P' : Nat → Value → Prop) (hP : ∀ i w, i < n → (i = j.toNatClampNeg → w = (.long x)) → (i ≠ j.toNatClampNeg → P i w) → P' i w) (hd : decode c.code pc = .ok (.lastore, 1)) (hp : pc + 1 = pc')
    (g : ∀ T' h', Stand p l e R s m args below meth c T' (locs ++ [⟨a, j.toNatClampNeg⟩]) cells slots → T'.heap = h' → Wr h h' a j.toNatClampNeg (.long x) → OwnArr Z h' a .long n P' → OwnGo p e below s Q rc rs (T'.setTop (mkF m pc' Ls st))) : OwnGo p e below s Q rc rs (T.setTop (mkF m pc Ls (.long x :: .int j :: .ref a :: st))) := by
  have A0 := A
  obtain ⟨cl, Ar, S, H⟩ := A
  exact own_lastore X hx hZ eT Ar (own_inb S h0 h1) hd hp fun T' h' X' e' W => g T' h' X' e' W (A0.set W hP)
theorem own_ialoadA (X : Stand p l e R s m args below meth c T locs cells slots) (hx : p.tables.exec = Jvm.exec) (hZ : Z.Warmed39 s.vm) (eT : T.heap = h) {a : Addr} {n : Nat} {P : Nat → Value → Prop} (A : OwnArr Z h a .int n P) {j : Int32} (h0 : 0 ≤ j.toInt) (h1 : j.toInt < n) (hd : decode c.code pc = .ok (.iaload, 1)) (hp : pc + 1 = pc')
    (g : ∀ v, P j.toNatClampNeg v → OwnGo p e below s Q rc rs (T.setTop (mkF m pc' Ls (v :: st)))) : OwnGo p e below s Q rc rs (T.setTop (mkF m pc Ls (.int j :: .ref a :: st))) := by
  obtain ⟨cl, Ar, S, H⟩ := A
  have hj := own_inb S h0 h1
  obtain ⟨v, q1, q2⟩ := H j.toNatClampNeg (by rw [← S]; exact Nat.lt_of_not_le fun y => hj (Or.inr y))
  exact own_iaload X hx hZ eT Ar hj q1 hd hp (g v q2)
theorem own_caloadA (X : Stand p l e R s m args below meth c T locs cells slots) (hx : p.tables.exec = Jvm.exec) (hZ : Z.Warmed39 s.vm) (eT : T.heap = h) {a : Addr} {n : Nat} {P : Nat → Value → Prop} (A : OwnArr Z h a .char n P) {j : Int32} (h0 : 0 ≤ j.toInt) (h1 : j.toInt < n) (hd : decode c.code pc = .ok (.caload, 1)) (hp : pc + 1 = pc')
    (g : ∀ v, P j.toNatClampNeg v → OwnGo p e below s Q rc rs (T.setTop (mkF m pc' Ls (v :: st)))) : OwnGo p e below s Q rc rs (T.setTop (mkF m pc Ls (.int j :: .ref a :: st))) := by
  obtain ⟨cl, Ar, S, H⟩ := A
  have hj := own_inb S h0 h1
  obtain ⟨v, q1, q2⟩ := H j.toNatClampNeg (by rw [← S]; exact Nat.lt_of_not_le fun y => hj (Or.inr y))
  exact own_caload X hx hZ eT Ar hj q1 hd hp (g v q2)
theorem own_laloadA (X : Stand p l e R s m args below meth c T locs cells slots) (hx : p.tables.exec = Jvm.exec) (hZ : Z.Warmed39 s.vm) (eT : T.heap = h) {a : Addr} {n : Nat} {P : Nat → Value → Prop} (A : OwnArr Z h a .long n P) {j : Int32} (h0 : 0 ≤ j.toInt) (h1 : j.toInt < n) (hd : decode c.code pc = .ok (.laload, 1)) (hp : pc + 1 = pc')
    (g : ∀ v, P j.toNatClampNeg v → OwnGo p e below s Q rc rs (T.setTop (mkF m pc' Ls (v :: st)))) : OwnGo p e below s Q rc rs (T.setTop (mkF m pc Ls (.int j :: .ref a :: st))) := by
  obtain ⟨cl, Ar, S, H⟩ := A
  have hj := own_inb S h0 h1
  obtain ⟨v, q1, q2⟩ := H j.toNatClampNeg (by rw [← S]; exact Nat.lt_of_not_le fun y => hj (Or.inr y))
  exact own_laload X hx hZ eT Ar hj q1 hd hp (g v q2)
theorem own_baloadA (X : Stand p l e R s m args below meth c T locs cells slots) (hx : p.tables.exec = Jvm.exec) (hZ : Z.Warmed39 s.vm) (eT : T.heap = h) {a : Addr} {n : Nat} {P : Nat → Value → Prop} (A : OwnArr Z h a .byte n P) {j : Int32} (h0 : 0 ≤ j.toInt) (h1 : j.toInt < n) (hd : decode c.code pc = .ok (.baload, 1)) (hp : pc + 1 = pc')
    (g : ∀ v, P j.toNatClampNeg v → OwnGo p e below s Q rc rs (T.setTop (mkF m pc' Ls (v :: st)))) : OwnGo p e below s Q rc rs (T.setTop (mkF m pc Ls (.int j :: .ref a :: st))) := by
  obtain ⟨cl, Ar, S, H⟩ := A
  have hj := own_inb S h0 h1
  obtain ⟨v, q1, q2⟩ := H j.toNatClampNeg (by rw [← S]; exact Nat.lt_of_not_le fun y => hj (Or.inr y))
  exact own_baload X hx hZ eT Ar hj q1 hd hp (g v q2)
theorem own_zaloadA (X : Stand p l e R s m args below meth c T locs cells slots) (hx : p.tables.exec = Jvm.exec) (hZ : Z.Warmed39 s.vm) (eT : T.heap = h) {a : Addr} {n : Nat} {P : Nat → Value → Prop} (A : OwnArr Z h a .boolean n P) {j : Int32} (h0 : 0 ≤ j.toInt) (h1 : j.toInt < n) (hd : decode c.code pc = .ok (.baload, 1)) (hp : pc + 1 = pc')
    (g : ∀ v, P j.toNatClampNeg v → OwnGo p e below s Q rc rs (T.setTop (mkF m pc' Ls (v :: st)))) : OwnGo p e below s Q rc rs (T.setTop (mkF m pc Ls (.int j :: .ref a :: st))) := by
  obtain ⟨cl, Ar, S, H⟩ := A
  have hj := own_inb S h0 h1
  obtain ⟨v, q1, q2⟩ := H j.toNatClampNeg (by rw [← S]; exact Nat.lt_of_not_le fun y => hj (Or.inr y))
  exact own_zaload X hx hZ eT Ar hj q1 hd hp (g v q2)
theorem own_lengthA (X : Stand p l e R s m args below meth c T locs cells slots) (hx : p.tables.exec = Jvm.exec) (hZ : Z.Warmed39 s.vm) (eT : T.heap = h) {a : Addr} {n : Nat} {P : Nat → Value → Prop} {ty : FieldType} {z : Int32} (A : OwnArr Z h a ty n P) (hz : z.toInt = n) (hd : decode c.code pc = .ok (.arraylength, 1)) (hp : pc + 1 = pc')
    (g : OwnGo p e below s Q rc rs (T.setTop (mkF m pc' Ls (.int z :: st)))) : OwnGo p e below s Q rc rs (T.setTop (mkF m pc Ls (.ref a :: st))) := by
  obtain ⟨cl, Ar, S, H⟩ := A
  exact own_arraylength X hx hZ eT Ar (by rw [S]; exact own_len hz) hd hp g
end OwnKit
theorem d_init_0 : decode prog_112_method_1_code 0 = .ok (.aload_n 0, 1) := by decide +kernel
theorem d_init_1 : decode prog_112_method_1_code 1 = .ok (.invokespecial 1, 3) := by decide +kernel
theorem d_init_4 : decode prog_112_method_1_code 4 = .ok (.aload_n 0, 1) := by decide +kernel
theorem d_init_5 : decode prog_112_method_1_code 5 = .ok (.iconst 4, 1) := by decide +kernel
theorem d_init_6 : decode prog_112_method_1_code 6 = .ok (.newarray .int, 2) := by decide +kernel
theorem d_init_8 : decode prog_112_method_1_code 8 = .ok (.putfield 7, 3) := by decide +kernel
theorem d_init_11 : decode prog_112_method_1_code 11 = .ok (.aload_n 0, 1) := by decide +kernel
theorem d_init_12 : decode prog_112_method_1_code 12 = .ok (.iconst 4, 1) := by decide +kernel
theorem d_init_13 : decode prog_112_method_1_code 13 = .ok (.newarray .int, 2) := by decide +kernel
theorem d_init_15 : decode prog_112_method_1_code 15 = .ok (.putfield 13, 3) := by decide +kernel
theorem d_init_18 : decode prog_112_method_1_code 18 = .ok (.aload_n 0, 1) := by decide +kernel
theorem d_init_19 : decode prog_112_method_1_code 19 = .ok (.iconst 4, 1) := by decide +kernel
theorem d_init_20 : decode prog_112_method_1_code 20 = .ok (.newarray .boolean, 2) := by decide +kernel
theorem d_init_22 : decode prog_112_method_1_code 22 = .ok (.putfield 16, 3) := by decide +kernel
theorem d_init_25 : decode prog_112_method_1_code 25 = .ok (.aload_n 0, 1) := by decide +kernel
theorem d_init_26 : decode prog_112_method_1_code 26 = .ok (.iconst 4, 1) := by decide +kernel
theorem d_init_27 : decode prog_112_method_1_code 27 = .ok (.newarray .int, 2) := by decide +kernel
theorem d_init_29 : decode prog_112_method_1_code 29 = .ok (.putfield 20, 3) := by decide +kernel
theorem d_init_32 : decode prog_112_method_1_code 32 = .ok (.aload_n 0, 1) := by decide +kernel
theorem d_init_33 : decode prog_112_method_1_code 33 = .ok (.iconst 4, 1) := by decide +kernel
theorem d_init_34 : decode prog_112_method_1_code 34 = .ok (.anewarray 23, 3) := by decide +kernel
theorem d_init_37 : decode prog_112_method_1_code 37 = .ok (.putfield 25, 3) := by decide +kernel
theorem d_init_40 : decode prog_112_method_1_code 40 = .ok (.aload_n 0, 1) := by decide +kernel
theorem d_init_41 : decode prog_112_method_1_code 41 = .ok (.iconst 4, 1) := by decide +kernel
theorem d_init_42 : decode prog_112_method_1_code 42 = .ok (.newarray .boolean, 2) := by decide +kernel
theorem d_init_44 : decode prog_112_method_1_code 44 = .ok (.putfield 29, 3) := by decide +kernel
theorem d_init_47 : decode prog_112_method_1_code 47 = .ok (.aload_n 0, 1) := by decide +kernel
theorem d_init_48 : decode prog_112_method_1_code 48 = .ok (.iconst 4, 1) := by decide +kernel
theorem d_init_49 : decode prog_112_method_1_code 49 = .ok (.newarray .boolean, 2) := by decide +kernel
theorem d_init_51 : decode prog_112_method_1_code 51 = .ok (.putfield 32, 3) := by decide +kernel
theorem d_init_54 : decode prog_112_method_1_code 54 = .ok (.aload_n 0, 1) := by decide +kernel
theorem d_init_55 : decode prog_112_method_1_code 55 = .ok (.iconst 4, 1) := by decide +kernel
theorem d_init_56 : decode prog_112_method_1_code 56 = .ok (.anewarray 35, 3) := by decide +kernel
theorem d_init_59 : decode prog_112_method_1_code 59 = .ok (.putfield 37, 3) := by decide +kernel
theorem d_init_62 : decode prog_112_method_1_code 62 = .ok (.return_, 1) := by decide +kernel
theorem ef_init (m : MethodId) (x0 : Addr) : entryFrame m #[(.ref x0)] 1 = mkF m 0 #[.val (.ref x0)] [] := by first | (simp [entryFrame, mkF, argsToLocals, Value.category]; done) | rfl
theorem pn_com_example_blois_blois_KeyPlan : plainName "com/example/blois/blois/KeyPlan" = true := by first | (simp [plainName, overriddenIn]; done) | decide +kernel
theorem d_opens_0 : decode prog_112_method_6_code 0 = .ok (.aload_n 0, 1) := by decide +kernel
theorem d_opens_1 : decode prog_112_method_6_code 1 = .ok (.getfield 66, 3) := by decide +kernel
theorem d_opens_4 : decode prog_112_method_6_code 4 = .ok (.ifCond .ne 8, 3) := by decide +kernel
theorem d_opens_12 : decode prog_112_method_6_code 12 = .ok (.return_, 1) := by decide +kernel
theorem d_opens_7 : decode prog_112_method_6_code 7 = .ok (.aload_n 0, 1) := by decide +kernel
theorem d_opens_8 : decode prog_112_method_6_code 8 = .ok (.iload_n 1, 1) := by decide +kernel
theorem d_opens_9 : decode prog_112_method_6_code 9 = .ok (.putfield 70, 3) := by decide +kernel
theorem ef_opens (m : MethodId) (x0 : Addr) (x1 : Int32) : entryFrame m #[(.ref x0), (.int x1)] 2 = mkF m 0 #[.val (.ref x0), .val (.int x1)] [] := by first | (simp [entryFrame, mkF, argsToLocals, Value.category]; done) | rfl
theorem d_fields_0 : decode prog_112_method_14_code 0 = .ok (.aload_n 0, 1) := by decide +kernel
theorem d_fields_1 : decode prog_112_method_14_code 1 = .ok (.getfield 66, 3) := by decide +kernel
theorem d_fields_4 : decode prog_112_method_14_code 4 = .ok (.ifCond .ne 13, 3) := by decide +kernel
theorem d_fields_17 : decode prog_112_method_14_code 17 = .ok (.return_, 1) := by decide +kernel
theorem d_fields_7 : decode prog_112_method_14_code 7 = .ok (.aload_n 0, 1) := by decide +kernel
theorem d_fields_8 : decode prog_112_method_14_code 8 = .ok (.iload_n 1, 1) := by decide +kernel
theorem d_fields_9 : decode prog_112_method_14_code 9 = .ok (.putfield 128, 3) := by decide +kernel
theorem d_fields_12 : decode prog_112_method_14_code 12 = .ok (.aload_n 0, 1) := by decide +kernel
theorem d_fields_13 : decode prog_112_method_14_code 13 = .ok (.iload_n 2, 1) := by decide +kernel
theorem d_fields_14 : decode prog_112_method_14_code 14 = .ok (.putfield 131, 3) := by decide +kernel
theorem ef_fields (m : MethodId) (x0 : Addr) (x1 : Int32) (x2 : Int32) : entryFrame m #[(.ref x0), (.int x1), (.int x2)] 3 = mkF m 0 #[.val (.ref x0), .val (.int x1), .val (.int x2)] [] := by first | (simp [entryFrame, mkF, argsToLocals, Value.category]; done) | rfl
theorem d_made_0 : decode prog_112_method_5_code 0 = .ok (.aload_n 0, 1) := by decide +kernel
theorem d_made_1 : decode prog_112_method_5_code 1 = .ok (.iconst 1, 1) := by decide +kernel
theorem d_made_2 : decode prog_112_method_5_code 2 = .ok (.putfield 66, 3) := by decide +kernel
theorem d_made_5 : decode prog_112_method_5_code 5 = .ok (.return_, 1) := by decide +kernel
theorem ef_made (m : MethodId) (x0 : Addr) : entryFrame m #[(.ref x0)] 1 = mkF m 0 #[.val (.ref x0)] [] := by first | (simp [entryFrame, mkF, argsToLocals, Value.category]; done) | rfl
theorem d_needsAttributesAlone_22 : decode prog_112_method_18_code 22 = .ok (.iload_n 2, 1) := by decide +kernel
theorem d_needsAttributesAlone_23 : decode prog_112_method_18_code 23 = .ok (.aload_n 0, 1) := by decide +kernel
theorem d_needsAttributesAlone_24 : decode prog_112_method_18_code 24 = .ok (.getfield 131, 3) := by decide +kernel
theorem d_needsAttributesAlone_27 : decode prog_112_method_18_code 27 = .ok (.if_icmp .ge 45, 3) := by decide +kernel
theorem d_needsAttributesAlone_72 : decode prog_112_method_18_code 72 = .ok (.iload_n 1, 1) := by decide +kernel
theorem d_needsAttributesAlone_73 : decode prog_112_method_18_code 73 = .ok (.ireturn, 1) := by decide +kernel
theorem d_needsAttributesAlone_30 : decode prog_112_method_18_code 30 = .ok (.iload_n 1, 1) := by decide +kernel
theorem d_needsAttributesAlone_31 : decode prog_112_method_18_code 31 = .ok (.ifCond .eq 41, 3) := by decide +kernel
theorem d_needsAttributesAlone_34 : decode prog_112_method_18_code 34 = .ok (.aload_n 0, 1) := by decide +kernel
theorem d_needsAttributesAlone_35 : decode prog_112_method_18_code 35 = .ok (.getfield 29, 3) := by decide +kernel
theorem d_needsAttributesAlone_38 : decode prog_112_method_18_code 38 = .ok (.iload_n 2, 1) := by decide +kernel
theorem d_needsAttributesAlone_39 : decode prog_112_method_18_code 39 = .ok (.baload, 1) := by decide +kernel
theorem d_needsAttributesAlone_40 : decode prog_112_method_18_code 40 = .ok (.ifCond .ne 24, 3) := by decide +kernel
theorem d_needsAttributesAlone_43 : decode prog_112_method_18_code 43 = .ok (.iload_n 2, 1) := by decide +kernel
theorem d_needsAttributesAlone_44 : decode prog_112_method_18_code 44 = .ok (.aload_n 0, 1) := by decide +kernel
theorem d_needsAttributesAlone_45 : decode prog_112_method_18_code 45 = .ok (.getfield 128, 3) := by decide +kernel
theorem d_needsAttributesAlone_48 : decode prog_112_method_18_code 48 = .ok (.if_icmp .ge 12, 3) := by decide +kernel
theorem d_needsAttributesAlone_60 : decode prog_112_method_18_code 60 = .ok (.iconst 1, 1) := by decide +kernel
theorem d_needsAttributesAlone_61 : decode prog_112_method_18_code 61 = .ok (.goto 4, 3) := by decide +kernel
theorem d_needsAttributesAlone_65 : decode prog_112_method_18_code 65 = .ok (.istore_n 1, 1) := by decide +kernel
theorem d_needsAttributesAlone_66 : decode prog_112_method_18_code 66 = .ok (.iinc 2 1, 3) := by decide +kernel
theorem d_needsAttributesAlone_69 : decode prog_112_method_18_code 69 = .ok (.goto (-47), 3) := by decide +kernel
theorem d_needsAttributesAlone_51 : decode prog_112_method_18_code 51 = .ok (.aload_n 0, 1) := by decide +kernel
theorem d_needsAttributesAlone_52 : decode prog_112_method_18_code 52 = .ok (.getfield 32, 3) := by decide +kernel
theorem d_needsAttributesAlone_55 : decode prog_112_method_18_code 55 = .ok (.iload_n 2, 1) := by decide +kernel
theorem d_needsAttributesAlone_56 : decode prog_112_method_18_code 56 = .ok (.baload, 1) := by decide +kernel
theorem d_needsAttributesAlone_57 : decode prog_112_method_18_code 57 = .ok (.ifCond .ne 7, 3) := by decide +kernel
theorem d_needsAttributesAlone_0 : decode prog_112_method_18_code 0 = .ok (.aload_n 0, 1) := by decide +kernel
theorem d_needsAttributesAlone_1 : decode prog_112_method_18_code 1 = .ok (.getfield 66, 3) := by decide +kernel
theorem d_needsAttributesAlone_4 : decode prog_112_method_18_code 4 = .ok (.ifCond .eq 14, 3) := by decide +kernel
theorem d_needsAttributesAlone_18 : decode prog_112_method_18_code 18 = .ok (.iconst 0, 1) := by decide +kernel
theorem d_needsAttributesAlone_19 : decode prog_112_method_18_code 19 = .ok (.istore_n 1, 1) := by decide +kernel
theorem d_needsAttributesAlone_20 : decode prog_112_method_18_code 20 = .ok (.iconst 0, 1) := by decide +kernel
theorem d_needsAttributesAlone_21 : decode prog_112_method_18_code 21 = .ok (.istore_n 2, 1) := by decide +kernel
theorem d_needsAttributesAlone_7 : decode prog_112_method_18_code 7 = .ok (.aload_n 0, 1) := by decide +kernel
theorem d_needsAttributesAlone_8 : decode prog_112_method_18_code 8 = .ok (.getfield 70, 3) := by decide +kernel
theorem d_needsAttributesAlone_11 : decode prog_112_method_18_code 11 = .ok (.ifCond .ne 7, 3) := by decide +kernel
theorem d_needsAttributesAlone_14 : decode prog_112_method_18_code 14 = .ok (.iconst 1, 1) := by decide +kernel
theorem d_needsAttributesAlone_15 : decode prog_112_method_18_code 15 = .ok (.goto 4, 3) := by decide +kernel
theorem ef_needsAttributesAlone (m : MethodId) (x0 : Addr) : entryFrame m #[(.ref x0)] 3 = mkF m 0 #[.val (.ref x0), .unset, .unset] [] := by first | (simp [entryFrame, mkF, argsToLocals, Value.category]; done) | rfl
theorem pd___Z : parseMethodDescriptor "()Z" = some ⟨[], some .boolean⟩ := by decide +kernel
theorem pd__Z_V : parseMethodDescriptor "(Z)V" = some ⟨[.boolean], none⟩ := by decide +kernel
theorem pd__II_V : parseMethodDescriptor "(II)V" = some ⟨[.int, .int], none⟩ := by decide +kernel
theorem pd___V : parseMethodDescriptor "()V" = some ⟨[], none⟩ := by decide +kernel
theorem ef_law (m : MethodId) (x0 : Int32) (x1 : Int32) (x2 : Int32) (x3 : Int32) (x4 : Int32) : entryFrame m #[(.int x0), (.int x1), (.int x2), (.int x3), (.int x4)] maxLocals = mkF m 0 #[.val (.int x0), .val (.int x1), .val (.int x2), .val (.int x3), .val (.int x4), .unset, .unset, .unset, .unset, .unset, .unset, .unset, .unset, .unset, .unset] [] := by first | (simp [entryFrame, mkF, argsToLocals, Value.category, maxLocals]; done) | rfl
theorem pn_com_example_blois_blois_KeyPlanNeedsAttributesAlonePinLaw : plainName "com/example/blois/blois/KeyPlanNeedsAttributesAlonePinLaw" = true := by first | (simp [plainName, overriddenIn]; done) | decide +kernel
def own_z (_ : Nat) (v : Value) : Prop := v = .int 0
/-- a KeyPlan whose two tables of booleans are all false -/
def own_KP (Z : State) (n0 : Nat) (h : Heap) (a : Addr) (md op ow pr : Int32) : Prop := n0 ≤ a ∧ Exa Z h a "com/example/blois/blois/KeyPlan" ∧ Fld Z h a "com/example/blois/blois/KeyPlan" "made" "Z" (.int md) ∧ Fld Z h a "com/example/blois/blois/KeyPlan" "opens" "Z" (.int op) ∧ Fld Z h a "com/example/blois/blois/KeyPlan" "own" "I" (.int ow) ∧ Fld Z h a "com/example/blois/blois/KeyPlan" "pairs" "I" (.int pr) ∧ ∃ eb ab : Addr, eb ≠ a ∧ ab ≠ a ∧ Fld Z h a "com/example/blois/blois/KeyPlan" "elements" "[Z" (.ref eb) ∧ Fld Z h a "com/example/blois/blois/KeyPlan" "attributes" "[Z" (.ref ab) ∧ OwnArr Z h eb .boolean 4 own_z ∧ OwnArr Z h ab .boolean 4 own_z
def own_na (md op : Int32) : Int32 := if md = 0 then 0 else if op = 0 then 1 else 0
theorem own_nb {o : Int32} (h : o = 0 ∨ o = 1) : nar .boolean o = o := by rcases h with rfl | rfl <;> rfl
theorem own_na01 (md op : Int32) : own_na md op = 0 ∨ own_na md op = 1 := by
  unfold own_na
  by_cases h : md = 0
  · simp [h]
  · by_cases h2 : op = 0 <;> simp [h, h2]
theorem own_r5 (x : Int32) : 0 ≤ ((x &&& 2147483647) % 5).toInt ∧ ((x &&& 2147483647) % 5).toInt ≤ 4 := by
  have m1 := c_mask x 2147483647 31 (by decide) (by decide)
  have r := (c_irem (x &&& 2147483647) 5 5 (by decide)).1 (by omega)
  omega
theorem own_ltI {x y : Int32} (h : x < y) : x.toInt < y.toInt := Int32.lt_iff_toInt_lt.mp h
theorem own_geI {x y : Int32} (h : ¬ x < y) : y.toInt ≤ x.toInt := by rw [Int32.lt_iff_toInt_lt] at h; omega
theorem own_inc {i : Int32} {k : Nat} (h : i.toInt = k) (hk : k ≤ 1000) : (i + 1).toInt = (k + 1 : Nat) := by
  have q := c_iadd i 1
  have r := rng32 (i + 1)
  have l1 : (1 : Int32).toInt = 1 := by decide
  omega
theorem own_KP_made {Z : State} {a0 : Array Value} (hw : ∀ d ∈ tables_1, d.before a0 Z = true) {n0 : Nat} {h h' : Heap} {a : Addr} {md op ow pr v : Int32} (K : own_KP Z n0 h a md op ow pr) (W : Wr h h' a (Jvm.RoadKit.slotOf Z "com/example/blois/blois/KeyPlan" "made" "Z") (.int v)) : own_KP Z n0 h' a v op ow pr := by
  obtain ⟨g, E, F_made, F_opens, F_own, F_pairs, eb, ab, q1, q2, F_el, F_at, A1, A2⟩ := K
  exact ⟨g, E.wr W, (F_made.same W), (F_opens.other W (Or.inr (slot_ne (Or.inl (hw _ (List.mem_of_getElem? (i := 40) rfl))) (Or.inl (hw _ (List.mem_of_getElem? (i := 38) rfl))) (by decide) (t := .boolean) (t' := .boolean) (by decide) (by decide)))), (F_own.other W (Or.inr (slot_ne (Or.inl (hw _ (List.mem_of_getElem? (i := 47) rfl))) (Or.inl (hw _ (List.mem_of_getElem? (i := 38) rfl))) (by decide) (t := .int) (t' := .boolean) (by decide) (by decide)))), (F_pairs.other W (Or.inr (slot_ne (Or.inl (hw _ (List.mem_of_getElem? (i := 49) rfl))) (Or.inl (hw _ (List.mem_of_getElem? (i := 38) rfl))) (by decide) (t := .int) (t' := .boolean) (by decide) (by decide)))), eb, ab, q1, q2, F_el.other W (Or.inr (slot_ne (Or.inl (hw _ (List.mem_of_getElem? (i := 25) rfl))) (Or.inl (hw _ (List.mem_of_getElem? (i := 38) rfl))) (by decide) (t := (.array .boolean)) (t' := .boolean) (by decide) (by decide))), F_at.other W (Or.inr (slot_ne (Or.inl (hw _ (List.mem_of_getElem? (i := 27) rfl))) (Or.inl (hw _ (List.mem_of_getElem? (i := 38) rfl))) (by decide) (t := (.array .boolean)) (t' := .boolean) (by decide) (by decide))), A1.other W q1, A2.other W q2⟩
theorem own_KP_opens {Z : State} {a0 : Array Value} (hw : ∀ d ∈ tables_1, d.before a0 Z = true) {n0 : Nat} {h h' : Heap} {a : Addr} {md op ow pr v : Int32} (K : own_KP Z n0 h a md op ow pr) (W : Wr h h' a (Jvm.RoadKit.slotOf Z "com/example/blois/blois/KeyPlan" "opens" "Z") (.int v)) : own_KP Z n0 h' a md v ow pr := by
  obtain ⟨g, E, F_made, F_opens, F_own, F_pairs, eb, ab, q1, q2, F_el, F_at, A1, A2⟩ := K
  exact ⟨g, E.wr W, (F_made.other W (Or.inr (slot_ne (Or.inl (hw _ (List.mem_of_getElem? (i := 38) rfl))) (Or.inl (hw _ (List.mem_of_getElem? (i := 40) rfl))) (by decide) (t := .boolean) (t' := .boolean) (by decide) (by decide)))), (F_opens.same W), (F_own.other W (Or.inr (slot_ne (Or.inl (hw _ (List.mem_of_getElem? (i := 47) rfl))) (Or.inl (hw _ (List.mem_of_getElem? (i := 40) rfl))) (by decide) (t := .int) (t' := .boolean) (by decide) (by decide)))), (F_pairs.other W (Or.inr (slot_ne (Or.inl (hw _ (List.mem_of_getElem? (i := 49) rfl))) (Or.inl (hw _ (List.mem_of_getElem? (i := 40) rfl))) (by decide) (t := .int) (t' := .boolean) (by decide) (by decide)))), eb, ab, q1, q2, F_el.other W (Or.inr (slot_ne (Or.inl (hw _ (List.mem_of_getElem? (i := 25) rfl))) (Or.inl (hw _ (List.mem_of_getElem? (i := 40) rfl))) (by decide) (t := (.array .boolean)) (t' := .boolean) (by decide) (by decide))), F_at.other W (Or.inr (slot_ne (Or.inl (hw _ (List.mem_of_getElem? (i := 27) rfl))) (Or.inl (hw _ (List.mem_of_getElem? (i := 40) rfl))) (by decide) (t := (.array .boolean)) (t' := .boolean) (by decide) (by decide))), A1.other W q1, A2.other W q2⟩
theorem own_KP_own {Z : State} {a0 : Array Value} (hw : ∀ d ∈ tables_1, d.before a0 Z = true) {n0 : Nat} {h h' : Heap} {a : Addr} {md op ow pr v : Int32} (K : own_KP Z n0 h a md op ow pr) (W : Wr h h' a (Jvm.RoadKit.slotOf Z "com/example/blois/blois/KeyPlan" "own" "I") (.int v)) : own_KP Z n0 h' a md op v pr := by
  obtain ⟨g, E, F_made, F_opens, F_own, F_pairs, eb, ab, q1, q2, F_el, F_at, A1, A2⟩ := K
  exact ⟨g, E.wr W, (F_made.other W (Or.inr (slot_ne (Or.inl (hw _ (List.mem_of_getElem? (i := 38) rfl))) (Or.inl (hw _ (List.mem_of_getElem? (i := 47) rfl))) (by decide) (t := .boolean) (t' := .int) (by decide) (by decide)))), (F_opens.other W (Or.inr (slot_ne (Or.inl (hw _ (List.mem_of_getElem? (i := 40) rfl))) (Or.inl (hw _ (List.mem_of_getElem? (i := 47) rfl))) (by decide) (t := .boolean) (t' := .int) (by decide) (by decide)))), (F_own.same W), (F_pairs.other W (Or.inr (slot_ne (Or.inl (hw _ (List.mem_of_getElem? (i := 49) rfl))) (Or.inl (hw _ (List.mem_of_getElem? (i := 47) rfl))) (by decide) (t := .int) (t' := .int) (by decide) (by decide)))), eb, ab, q1, q2, F_el.other W (Or.inr (slot_ne (Or.inl (hw _ (List.mem_of_getElem? (i := 25) rfl))) (Or.inl (hw _ (List.mem_of_getElem? (i := 47) rfl))) (by decide) (t := (.array .boolean)) (t' := .int) (by decide) (by decide))), F_at.other W (Or.inr (slot_ne (Or.inl (hw _ (List.mem_of_getElem? (i := 27) rfl))) (Or.inl (hw _ (List.mem_of_getElem? (i := 47) rfl))) (by decide) (t := (.array .boolean)) (t' := .int) (by decide) (by decide))), A1.other W q1, A2.other W q2⟩
theorem own_KP_pairs {Z : State} {a0 : Array Value} (hw : ∀ d ∈ tables_1, d.before a0 Z = true) {n0 : Nat} {h h' : Heap} {a : Addr} {md op ow pr v : Int32} (K : own_KP Z n0 h a md op ow pr) (W : Wr h h' a (Jvm.RoadKit.slotOf Z "com/example/blois/blois/KeyPlan" "pairs" "I") (.int v)) : own_KP Z n0 h' a md op ow v := by
  obtain ⟨g, E, F_made, F_opens, F_own, F_pairs, eb, ab, q1, q2, F_el, F_at, A1, A2⟩ := K
  exact ⟨g, E.wr W, (F_made.other W (Or.inr (slot_ne (Or.inl (hw _ (List.mem_of_getElem? (i := 38) rfl))) (Or.inl (hw _ (List.mem_of_getElem? (i := 49) rfl))) (by decide) (t := .boolean) (t' := .int) (by decide) (by decide)))), (F_opens.other W (Or.inr (slot_ne (Or.inl (hw _ (List.mem_of_getElem? (i := 40) rfl))) (Or.inl (hw _ (List.mem_of_getElem? (i := 49) rfl))) (by decide) (t := .boolean) (t' := .int) (by decide) (by decide)))), (F_own.other W (Or.inr (slot_ne (Or.inl (hw _ (List.mem_of_getElem? (i := 47) rfl))) (Or.inl (hw _ (List.mem_of_getElem? (i := 49) rfl))) (by decide) (t := .int) (t' := .int) (by decide) (by decide)))), (F_pairs.same W), eb, ab, q1, q2, F_el.other W (Or.inr (slot_ne (Or.inl (hw _ (List.mem_of_getElem? (i := 25) rfl))) (Or.inl (hw _ (List.mem_of_getElem? (i := 49) rfl))) (by decide) (t := (.array .boolean)) (t' := .int) (by decide) (by decide))), F_at.other W (Or.inr (slot_ne (Or.inl (hw _ (List.mem_of_getElem? (i := 27) rfl))) (Or.inl (hw _ (List.mem_of_getElem? (i := 49) rfl))) (by decide) (t := (.array .boolean)) (t' := .int) (by decide) (by decide))), A1.other W q1, A2.other W q2⟩

set_option maxRecDepth 65536 in
set_option maxHeartbeats 40000000 in
theorem rm_init {l : Launch} {Z : State} {a0 : Array Value} {h : Heap} (hw : ∀ d ∈ tables_1, d.before a0 Z = true) (a : Addr) (n0 : Nat) (ga : n0 ≤ a) (E_a : Exa Z h a "com/example/blois/blois/KeyPlan") (F_scopeReaches : Fld Z h a "com/example/blois/blois/KeyPlan" "scopeReaches" "[I" .null) (F_fieldReaches : Fld Z h a "com/example/blois/blois/KeyPlan" "fieldReaches" "[I" .null) (F_fieldsDescend : Fld Z h a "com/example/blois/blois/KeyPlan" "fieldsDescend" "[Z" .null) (F_into : Fld Z h a "com/example/blois/blois/KeyPlan" "into" "[I" .null) (F_owners : Fld Z h a "com/example/blois/blois/KeyPlan" "owners" "[Lcom/example/blois/blois/IdentityConstraint;" .null) (F_elements : Fld Z h a "com/example/blois/blois/KeyPlan" "elements" "[Z" .null) (F_attributes : Fld Z h a "com/example/blois/blois/KeyPlan" "attributes" "[Z" .null) (F_sieves : Fld Z h a "com/example/blois/blois/KeyPlan" "sieves" "[Lcom/example/blois/blois/AttributeSieve;" .null) (F_made : Fld Z h a "com/example/blois/blois/KeyPlan" "made" "Z" (.int 0)) (F_opens : Fld Z h a "com/example/blois/blois/KeyPlan" "opens" "Z" (.int 0)) (F_own : Fld Z h a "com/example/blois/blois/KeyPlan" "own" "I" (.int 0)) (F_pairs : Fld Z h a "com/example/blois/blois/KeyPlan" "pairs" "I" (.int 0)) :
    OwnMet l Z (⟨"com/example/blois/blois/KeyPlan", "<init>", "()V"⟩ : MethodName) prog_112_method_1_code 1 none #[(.ref a)] ({ frames := 1, cells := 8, slots := 32, locals := 12 } : Room) (fun v h' L => v = none ∧ Fr n0 L ∧ own_KP Z n0 h' a 0 0 0 0) h :=
 own_met (Q := fun v h' L => v = none ∧ Fr n0 L ∧ own_KP Z n0 h' a 0 0 0 0) (rm := ({ frames := 1, cells := 8, slots := 32, locals := 12 } : Room)) (plainFor_of_name pn_com_example_blois_blois_KeyPlan) (fun m => ef_init m a) fun p e s m below meth c T hx hZ hby hml hown hnm hret hlk X eT => by
  have N := Fr.nil n0
  refine own_aloadN X hx (hb hby d_init_0) rfl rfl (pc' := 1) rfl ?_
  obtain ⟨T, X, eT, kI⟩ := Jvm.RoadKit.initO X hx hZ hown (hw _ (List.mem_of_getElem? (i := 7) rfl)) (hw _ (List.mem_of_getElem? (i := 8) rfl)) (hw _ (List.mem_of_getElem? (i := 9) rfl)) eT (g := mkF m 1 #[.val (.ref a)] [(.ref a)]) rfl (by rw [hml]; rfl) rfl (hb hby d_init_1) (by decide) (W := 0) (by show 2 * 0 + _ ≤ _; exact Nat.le_of_eq rfl) (by decide)
  refine own_step kI ?_
  show OwnGo p e below s _ _ _ (T.setTop (mkF m 4 #[.val (.ref a)] []))
  refine own_aloadN X hx (hb hby d_init_4) rfl rfl (pc' := 5) rfl ?_
  refine own_iconst X hx (hb hby d_init_5) (z := (4 : Int32)) rfl (pc' := 6) rfl ?_
  refine own_newP X hx hZ (aty := .int) (hw _ (List.mem_of_getElem? (i := 10) rfl)) eT (n := (4 : Int32)) (by decide) (cap := 4) (by decide) (by decide) (by decide) (by decide) (ad := "[I") (by decide) (hb hby d_init_6) (pc' := 8) rfl fun T h1 b6 k hbs X eT E A EA => ?_
  replace E_a := E_a.ext E
  replace F_scopeReaches := F_scopeReaches.ext E
  replace F_fieldReaches := F_fieldReaches.ext E
  replace F_fieldsDescend := F_fieldsDescend.ext E
  replace F_into := F_into.ext E
  replace F_owners := F_owners.ext E
  replace F_elements := F_elements.ext E
  replace F_attributes := F_attributes.ext E
  replace F_sieves := F_sieves.ext E
  replace F_made := F_made.ext E
  replace F_opens := F_opens.ext E
  replace F_own := F_own.ext E
  replace F_pairs := F_pairs.ext E
  refine own_putF X hx hZ hown (hw _ (List.mem_of_getElem? (i := 11) rfl)) eT F_scopeReaches E_a (Or.inl (hw _ (List.mem_of_getElem? (i := 12) rfl))) (hw _ (List.mem_of_getElem? (i := 2) rfl)) (ty := (.array .int)) (by decide) rfl rfl (hb hby d_init_8) (pc' := 11) rfl fun T h1 X eT W => ?_
  replace F_fieldReaches := F_fieldReaches.other W (Or.inr (slot_ne (Or.inl (hw _ (List.mem_of_getElem? (i := 14) rfl))) (Or.inl (hw _ (List.mem_of_getElem? (i := 12) rfl))) (by decide) (t := (.array .int)) (t' := (.array .int)) (by decide) (by decide)))
  replace F_fieldsDescend := F_fieldsDescend.other W (Or.inr (slot_ne (Or.inl (hw _ (List.mem_of_getElem? (i := 17) rfl))) (Or.inl (hw _ (List.mem_of_getElem? (i := 12) rfl))) (by decide) (t := (.array .boolean)) (t' := (.array .int)) (by decide) (by decide)))
  replace F_into := F_into.other W (Or.inr (slot_ne (Or.inl (hw _ (List.mem_of_getElem? (i := 19) rfl))) (Or.inl (hw _ (List.mem_of_getElem? (i := 12) rfl))) (by decide) (t := (.array .int)) (t' := (.array .int)) (by decide) (by decide)))
  replace F_owners := F_owners.other W (Or.inr (slot_ne (Or.inl (hw _ (List.mem_of_getElem? (i := 23) rfl))) (Or.inl (hw _ (List.mem_of_getElem? (i := 12) rfl))) (by decide) (t := (.array (.object "com/example/blois/blois/IdentityConstraint"))) (t' := (.array .int)) (by decide) (by decide)))
  replace F_elements := F_elements.other W (Or.inr (slot_ne (Or.inl (hw _ (List.mem_of_getElem? (i := 25) rfl))) (Or.inl (hw _ (List.mem_of_getElem? (i := 12) rfl))) (by decide) (t := (.array .boolean)) (t' := (.array .int)) (by decide) (by decide)))
  replace F_attributes := F_attributes.other W (Or.inr (slot_ne (Or.inl (hw _ (List.mem_of_getElem? (i := 27) rfl))) (Or.inl (hw _ (List.mem_of_getElem? (i := 12) rfl))) (by decide) (t := (.array .boolean)) (t' := (.array .int)) (by decide) (by decide)))
  replace F_sieves := F_sieves.other W (Or.inr (slot_ne (Or.inl (hw _ (List.mem_of_getElem? (i := 31) rfl))) (Or.inl (hw _ (List.mem_of_getElem? (i := 12) rfl))) (by decide) (t := (.array (.object "com/example/blois/blois/AttributeSieve"))) (t' := (.array .int)) (by decide) (by decide)))
  replace F_made := F_made.other W (Or.inr (slot_ne (Or.inl (hw _ (List.mem_of_getElem? (i := 38) rfl))) (Or.inl (hw _ (List.mem_of_getElem? (i := 12) rfl))) (by decide) (t := .boolean) (t' := (.array .int)) (by decide) (by decide)))
  replace F_opens := F_opens.other W (Or.inr (slot_ne (Or.inl (hw _ (List.mem_of_getElem? (i := 40) rfl))) (Or.inl (hw _ (List.mem_of_getElem? (i := 12) rfl))) (by decide) (t := .boolean) (t' := (.array .int)) (by decide) (by decide)))
  replace F_own := F_own.other W (Or.inr (slot_ne (Or.inl (hw _ (List.mem_of_getElem? (i := 47) rfl))) (Or.inl (hw _ (List.mem_of_getElem? (i := 12) rfl))) (by decide) (t := .int) (t' := (.array .int)) (by decide) (by decide)))
  replace F_pairs := F_pairs.other W (Or.inr (slot_ne (Or.inl (hw _ (List.mem_of_getElem? (i := 49) rfl))) (Or.inl (hw _ (List.mem_of_getElem? (i := 12) rfl))) (by decide) (t := .int) (t' := (.array .int)) (by decide) (by decide)))
  replace E_a := E_a.wr W
  replace N := Fr.snoc X N ga
  refine own_aloadN X hx (hb hby d_init_11) rfl rfl (pc' := 12) rfl ?_
  refine own_iconst X hx (hb hby d_init_12) (z := (4 : Int32)) rfl (pc' := 13) rfl ?_
  refine own_newP X hx hZ (aty := .int) (hw _ (List.mem_of_getElem? (i := 10) rfl)) eT (n := (4 : Int32)) (by decide) (cap := 4) (by decide) (by decide) (by decide) (by decide) (ad := "[I") (by decide) (hb hby d_init_13) (pc' := 15) rfl fun T h1 b13 k hbs X eT E A EA => ?_
  replace E_a := E_a.ext E
  replace F_fieldReaches := F_fieldReaches.ext E
  replace F_fieldsDescend := F_fieldsDescend.ext E
  replace F_into := F_into.ext E
  replace F_owners := F_owners.ext E
  replace F_elements := F_elements.ext E
  replace F_attributes := F_attributes.ext E
  replace F_sieves := F_sieves.ext E
  replace F_made := F_made.ext E
  replace F_opens := F_opens.ext E
  replace F_own := F_own.ext E
  replace F_pairs := F_pairs.ext E
  refine own_putF X hx hZ hown (hw _ (List.mem_of_getElem? (i := 13) rfl)) eT F_fieldReaches E_a (Or.inl (hw _ (List.mem_of_getElem? (i := 14) rfl))) (hw _ (List.mem_of_getElem? (i := 2) rfl)) (ty := (.array .int)) (by decide) rfl rfl (hb hby d_init_15) (pc' := 18) rfl fun T h1 X eT W => ?_
  replace F_fieldsDescend := F_fieldsDescend.other W (Or.inr (slot_ne (Or.inl (hw _ (List.mem_of_getElem? (i := 17) rfl))) (Or.inl (hw _ (List.mem_of_getElem? (i := 14) rfl))) (by decide) (t := (.array .boolean)) (t' := (.array .int)) (by decide) (by decide)))
  replace F_into := F_into.other W (Or.inr (slot_ne (Or.inl (hw _ (List.mem_of_getElem? (i := 19) rfl))) (Or.inl (hw _ (List.mem_of_getElem? (i := 14) rfl))) (by decide) (t := (.array .int)) (t' := (.array .int)) (by decide) (by decide)))
  replace F_owners := F_owners.other W (Or.inr (slot_ne (Or.inl (hw _ (List.mem_of_getElem? (i := 23) rfl))) (Or.inl (hw _ (List.mem_of_getElem? (i := 14) rfl))) (by decide) (t := (.array (.object "com/example/blois/blois/IdentityConstraint"))) (t' := (.array .int)) (by decide) (by decide)))
  replace F_elements := F_elements.other W (Or.inr (slot_ne (Or.inl (hw _ (List.mem_of_getElem? (i := 25) rfl))) (Or.inl (hw _ (List.mem_of_getElem? (i := 14) rfl))) (by decide) (t := (.array .boolean)) (t' := (.array .int)) (by decide) (by decide)))
  replace F_attributes := F_attributes.other W (Or.inr (slot_ne (Or.inl (hw _ (List.mem_of_getElem? (i := 27) rfl))) (Or.inl (hw _ (List.mem_of_getElem? (i := 14) rfl))) (by decide) (t := (.array .boolean)) (t' := (.array .int)) (by decide) (by decide)))
  replace F_sieves := F_sieves.other W (Or.inr (slot_ne (Or.inl (hw _ (List.mem_of_getElem? (i := 31) rfl))) (Or.inl (hw _ (List.mem_of_getElem? (i := 14) rfl))) (by decide) (t := (.array (.object "com/example/blois/blois/AttributeSieve"))) (t' := (.array .int)) (by decide) (by decide)))
  replace F_made := F_made.other W (Or.inr (slot_ne (Or.inl (hw _ (List.mem_of_getElem? (i := 38) rfl))) (Or.inl (hw _ (List.mem_of_getElem? (i := 14) rfl))) (by decide) (t := .boolean) (t' := (.array .int)) (by decide) (by decide)))
  replace F_opens := F_opens.other W (Or.inr (slot_ne (Or.inl (hw _ (List.mem_of_getElem? (i := 40) rfl))) (Or.inl (hw _ (List.mem_of_getElem? (i := 14) rfl))) (by decide) (t := .boolean) (t' := (.array .int)) (by decide) (by decide)))
  replace F_own := F_own.other W (Or.inr (slot_ne (Or.inl (hw _ (List.mem_of_getElem? (i := 47) rfl))) (Or.inl (hw _ (List.mem_of_getElem? (i := 14) rfl))) (by decide) (t := .int) (t' := (.array .int)) (by decide) (by decide)))
  replace F_pairs := F_pairs.other W (Or.inr (slot_ne (Or.inl (hw _ (List.mem_of_getElem? (i := 49) rfl))) (Or.inl (hw _ (List.mem_of_getElem? (i := 14) rfl))) (by decide) (t := .int) (t' := (.array .int)) (by decide) (by decide)))
  replace E_a := E_a.wr W
  replace N := Fr.snoc X N ga
  refine own_aloadN X hx (hb hby d_init_18) rfl rfl (pc' := 19) rfl ?_
  refine own_iconst X hx (hb hby d_init_19) (z := (4 : Int32)) rfl (pc' := 20) rfl ?_
  refine own_newP X hx hZ (aty := .boolean) (hw _ (List.mem_of_getElem? (i := 15) rfl)) eT (n := (4 : Int32)) (by decide) (cap := 4) (by decide) (by decide) (by decide) (by decide) (ad := "[Z") (by decide) (hb hby d_init_20) (pc' := 22) rfl fun T h1 b20 k hbs X eT E A EA => ?_
  replace E_a := E_a.ext E
  replace F_fieldsDescend := F_fieldsDescend.ext E
  replace F_into := F_into.ext E
  replace F_owners := F_owners.ext E
  replace F_elements := F_elements.ext E
  replace F_attributes := F_attributes.ext E
  replace F_sieves := F_sieves.ext E
  replace F_made := F_made.ext E
  replace F_opens := F_opens.ext E
  replace F_own := F_own.ext E
  replace F_pairs := F_pairs.ext E
  refine own_putF X hx hZ hown (hw _ (List.mem_of_getElem? (i := 16) rfl)) eT F_fieldsDescend E_a (Or.inl (hw _ (List.mem_of_getElem? (i := 17) rfl))) (hw _ (List.mem_of_getElem? (i := 2) rfl)) (ty := (.array .boolean)) (by decide) rfl rfl (hb hby d_init_22) (pc' := 25) rfl fun T h1 X eT W => ?_
  replace F_into := F_into.other W (Or.inr (slot_ne (Or.inl (hw _ (List.mem_of_getElem? (i := 19) rfl))) (Or.inl (hw _ (List.mem_of_getElem? (i := 17) rfl))) (by decide) (t := (.array .int)) (t' := (.array .boolean)) (by decide) (by decide)))
  replace F_owners := F_owners.other W (Or.inr (slot_ne (Or.inl (hw _ (List.mem_of_getElem? (i := 23) rfl))) (Or.inl (hw _ (List.mem_of_getElem? (i := 17) rfl))) (by decide) (t := (.array (.object "com/example/blois/blois/IdentityConstraint"))) (t' := (.array .boolean)) (by decide) (by decide)))
  replace F_elements := F_elements.other W (Or.inr (slot_ne (Or.inl (hw _ (List.mem_of_getElem? (i := 25) rfl))) (Or.inl (hw _ (List.mem_of_getElem? (i := 17) rfl))) (by decide) (t := (.array .boolean)) (t' := (.array .boolean)) (by decide) (by decide)))
  replace F_attributes := F_attributes.other W (Or.inr (slot_ne (Or.inl (hw _ (List.mem_of_getElem? (i := 27) rfl))) (Or.inl (hw _ (List.mem_of_getElem? (i := 17) rfl))) (by decide) (t := (.array .boolean)) (t' := (.array .boolean)) (by decide) (by decide)))
  replace F_sieves := F_sieves.other W (Or.inr (slot_ne (Or.inl (hw _ (List.mem_of_getElem? (i := 31) rfl))) (Or.inl (hw _ (List.mem_of_getElem? (i := 17) rfl))) (by decide) (t := (.array (.object "com/example/blois/blois/AttributeSieve"))) (t' := (.array .boolean)) (by decide) (by decide)))
  replace F_made := F_made.other W (Or.inr (slot_ne (Or.inl (hw _ (List.mem_of_getElem? (i := 38) rfl))) (Or.inl (hw _ (List.mem_of_getElem? (i := 17) rfl))) (by decide) (t := .boolean) (t' := (.array .boolean)) (by decide) (by decide)))
  replace F_opens := F_opens.other W (Or.inr (slot_ne (Or.inl (hw _ (List.mem_of_getElem? (i := 40) rfl))) (Or.inl (hw _ (List.mem_of_getElem? (i := 17) rfl))) (by decide) (t := .boolean) (t' := (.array .boolean)) (by decide) (by decide)))
  replace F_own := F_own.other W (Or.inr (slot_ne (Or.inl (hw _ (List.mem_of_getElem? (i := 47) rfl))) (Or.inl (hw _ (List.mem_of_getElem? (i := 17) rfl))) (by decide) (t := .int) (t' := (.array .boolean)) (by decide) (by decide)))
  replace F_pairs := F_pairs.other W (Or.inr (slot_ne (Or.inl (hw _ (List.mem_of_getElem? (i := 49) rfl))) (Or.inl (hw _ (List.mem_of_getElem? (i := 17) rfl))) (by decide) (t := .int) (t' := (.array .boolean)) (by decide) (by decide)))
  replace E_a := E_a.wr W
  replace N := Fr.snoc X N ga
  refine own_aloadN X hx (hb hby d_init_25) rfl rfl (pc' := 26) rfl ?_
  refine own_iconst X hx (hb hby d_init_26) (z := (4 : Int32)) rfl (pc' := 27) rfl ?_
  refine own_newP X hx hZ (aty := .int) (hw _ (List.mem_of_getElem? (i := 10) rfl)) eT (n := (4 : Int32)) (by decide) (cap := 4) (by decide) (by decide) (by decide) (by decide) (ad := "[I") (by decide) (hb hby d_init_27) (pc' := 29) rfl fun T h1 b27 k hbs X eT E A EA => ?_
  replace E_a := E_a.ext E
  replace F_into := F_into.ext E
  replace F_owners := F_owners.ext E
  replace F_elements := F_elements.ext E
  replace F_attributes := F_attributes.ext E
  replace F_sieves := F_sieves.ext E
  replace F_made := F_made.ext E
  replace F_opens := F_opens.ext E
  replace F_own := F_own.ext E
  replace F_pairs := F_pairs.ext E
  refine own_putF X hx hZ hown (hw _ (List.mem_of_getElem? (i := 18) rfl)) eT F_into E_a (Or.inl (hw _ (List.mem_of_getElem? (i := 19) rfl))) (hw _ (List.mem_of_getElem? (i := 2) rfl)) (ty := (.array .int)) (by decide) rfl rfl (hb hby d_init_29) (pc' := 32) rfl fun T h1 X eT W => ?_
  replace F_owners := F_owners.other W (Or.inr (slot_ne (Or.inl (hw _ (List.mem_of_getElem? (i := 23) rfl))) (Or.inl (hw _ (List.mem_of_getElem? (i := 19) rfl))) (by decide) (t := (.array (.object "com/example/blois/blois/IdentityConstraint"))) (t' := (.array .int)) (by decide) (by decide)))
  replace F_elements := F_elements.other W (Or.inr (slot_ne (Or.inl (hw _ (List.mem_of_getElem? (i := 25) rfl))) (Or.inl (hw _ (List.mem_of_getElem? (i := 19) rfl))) (by decide) (t := (.array .boolean)) (t' := (.array .int)) (by decide) (by decide)))
  replace F_attributes := F_attributes.other W (Or.inr (slot_ne (Or.inl (hw _ (List.mem_of_getElem? (i := 27) rfl))) (Or.inl (hw _ (List.mem_of_getElem? (i := 19) rfl))) (by decide) (t := (.array .boolean)) (t' := (.array .int)) (by decide) (by decide)))
  replace F_sieves := F_sieves.other W (Or.inr (slot_ne (Or.inl (hw _ (List.mem_of_getElem? (i := 31) rfl))) (Or.inl (hw _ (List.mem_of_getElem? (i := 19) rfl))) (by decide) (t := (.array (.object "com/example/blois/blois/AttributeSieve"))) (t' := (.array .int)) (by decide) (by decide)))
  replace F_made := F_made.other W (Or.inr (slot_ne (Or.inl (hw _ (List.mem_of_getElem? (i := 38) rfl))) (Or.inl (hw _ (List.mem_of_getElem? (i := 19) rfl))) (by decide) (t := .boolean) (t' := (.array .int)) (by decide) (by decide)))
  replace F_opens := F_opens.other W (Or.inr (slot_ne (Or.inl (hw _ (List.mem_of_getElem? (i := 40) rfl))) (Or.inl (hw _ (List.mem_of_getElem? (i := 19) rfl))) (by decide) (t := .boolean) (t' := (.array .int)) (by decide) (by decide)))
  replace F_own := F_own.other W (Or.inr (slot_ne (Or.inl (hw _ (List.mem_of_getElem? (i := 47) rfl))) (Or.inl (hw _ (List.mem_of_getElem? (i := 19) rfl))) (by decide) (t := .int) (t' := (.array .int)) (by decide) (by decide)))
  replace F_pairs := F_pairs.other W (Or.inr (slot_ne (Or.inl (hw _ (List.mem_of_getElem? (i := 49) rfl))) (Or.inl (hw _ (List.mem_of_getElem? (i := 19) rfl))) (by decide) (t := .int) (t' := (.array .int)) (by decide) (by decide)))
  replace E_a := E_a.wr W
  replace N := Fr.snoc X N ga
  refine own_aloadN X hx (hb hby d_init_32) rfl rfl (pc' := 33) rfl ?_
  refine own_iconst X hx (hb hby d_init_33) (z := (4 : Int32)) rfl (pc' := 34) rfl ?_
  refine own_newR X hx hZ hown (hw _ (List.mem_of_getElem? (i := 20) rfl)) (hw _ (List.mem_of_getElem? (i := 21) rfl)) eT (n := (4 : Int32)) (by decide) (cap := 4) (by decide) (by decide) (by decide) (by decide) (hb hby d_init_34) (pc' := 37) rfl fun T h1 b34 hbs X eT E => ?_
  replace E_a := E_a.ext E
  replace F_owners := F_owners.ext E
  replace F_elements := F_elements.ext E
  replace F_attributes := F_attributes.ext E
  replace F_sieves := F_sieves.ext E
  replace F_made := F_made.ext E
  replace F_opens := F_opens.ext E
  replace F_own := F_own.ext E
  replace F_pairs := F_pairs.ext E
  refine own_putF X hx hZ hown (hw _ (List.mem_of_getElem? (i := 22) rfl)) eT F_owners E_a (Or.inl (hw _ (List.mem_of_getElem? (i := 23) rfl))) (hw _ (List.mem_of_getElem? (i := 2) rfl)) (ty := (.array (.object "com/example/blois/blois/IdentityConstraint"))) (by decide) rfl rfl (hb hby d_init_37) (pc' := 40) rfl fun T h1 X eT W => ?_
  replace F_elements := F_elements.other W (Or.inr (slot_ne (Or.inl (hw _ (List.mem_of_getElem? (i := 25) rfl))) (Or.inl (hw _ (List.mem_of_getElem? (i := 23) rfl))) (by decide) (t := (.array .boolean)) (t' := (.array (.object "com/example/blois/blois/IdentityConstraint"))) (by decide) (by decide)))
  replace F_attributes := F_attributes.other W (Or.inr (slot_ne (Or.inl (hw _ (List.mem_of_getElem? (i := 27) rfl))) (Or.inl (hw _ (List.mem_of_getElem? (i := 23) rfl))) (by decide) (t := (.array .boolean)) (t' := (.array (.object "com/example/blois/blois/IdentityConstraint"))) (by decide) (by decide)))
  replace F_sieves := F_sieves.other W (Or.inr (slot_ne (Or.inl (hw _ (List.mem_of_getElem? (i := 31) rfl))) (Or.inl (hw _ (List.mem_of_getElem? (i := 23) rfl))) (by decide) (t := (.array (.object "com/example/blois/blois/AttributeSieve"))) (t' := (.array (.object "com/example/blois/blois/IdentityConstraint"))) (by decide) (by decide)))
  replace F_made := F_made.other W (Or.inr (slot_ne (Or.inl (hw _ (List.mem_of_getElem? (i := 38) rfl))) (Or.inl (hw _ (List.mem_of_getElem? (i := 23) rfl))) (by decide) (t := .boolean) (t' := (.array (.object "com/example/blois/blois/IdentityConstraint"))) (by decide) (by decide)))
  replace F_opens := F_opens.other W (Or.inr (slot_ne (Or.inl (hw _ (List.mem_of_getElem? (i := 40) rfl))) (Or.inl (hw _ (List.mem_of_getElem? (i := 23) rfl))) (by decide) (t := .boolean) (t' := (.array (.object "com/example/blois/blois/IdentityConstraint"))) (by decide) (by decide)))
  replace F_own := F_own.other W (Or.inr (slot_ne (Or.inl (hw _ (List.mem_of_getElem? (i := 47) rfl))) (Or.inl (hw _ (List.mem_of_getElem? (i := 23) rfl))) (by decide) (t := .int) (t' := (.array (.object "com/example/blois/blois/IdentityConstraint"))) (by decide) (by decide)))
  replace F_pairs := F_pairs.other W (Or.inr (slot_ne (Or.inl (hw _ (List.mem_of_getElem? (i := 49) rfl))) (Or.inl (hw _ (List.mem_of_getElem? (i := 23) rfl))) (by decide) (t := .int) (t' := (.array (.object "com/example/blois/blois/IdentityConstraint"))) (by decide) (by decide)))
  replace E_a := E_a.wr W
  replace N := Fr.snoc X N ga
  refine own_aloadN X hx (hb hby d_init_40) rfl rfl (pc' := 41) rfl ?_
  refine own_iconst X hx (hb hby d_init_41) (z := (4 : Int32)) rfl (pc' := 42) rfl ?_
  refine own_newP X hx hZ (aty := .boolean) (hw _ (List.mem_of_getElem? (i := 15) rfl)) eT (n := (4 : Int32)) (by decide) (cap := 4) (by decide) (by decide) (by decide) (by decide) (ad := "[Z") (by decide) (hb hby d_init_42) (pc' := 44) rfl fun T h1 b42 k hbs X eT E A EA => ?_
  have ne_elements : b42 ≠ a := by rw [hbs]; exact Nat.ne_of_gt F_made.lt
  replace E_a := E_a.ext E
  replace F_elements := F_elements.ext E
  replace F_attributes := F_attributes.ext E
  replace F_sieves := F_sieves.ext E
  replace F_made := F_made.ext E
  replace F_opens := F_opens.ext E
  replace F_own := F_own.ext E
  replace F_pairs := F_pairs.ext E
  have A_elements : OwnArr Z h1 b42 .boolean 4 own_z := (OwnArr.new (ty := .boolean) A (by decide)).mono fun _ _ _ q => q
  refine own_putF X hx hZ hown (hw _ (List.mem_of_getElem? (i := 24) rfl)) eT F_elements E_a (Or.inl (hw _ (List.mem_of_getElem? (i := 25) rfl))) (hw _ (List.mem_of_getElem? (i := 2) rfl)) (ty := (.array .boolean)) (by decide) rfl rfl (hb hby d_init_44) (pc' := 47) rfl fun T h1 X eT W => ?_
  replace F_elements := F_elements.same W
  replace F_attributes := F_attributes.other W (Or.inr (slot_ne (Or.inl (hw _ (List.mem_of_getElem? (i := 27) rfl))) (Or.inl (hw _ (List.mem_of_getElem? (i := 25) rfl))) (by decide) (t := (.array .boolean)) (t' := (.array .boolean)) (by decide) (by decide)))
  replace F_sieves := F_sieves.other W (Or.inr (slot_ne (Or.inl (hw _ (List.mem_of_getElem? (i := 31) rfl))) (Or.inl (hw _ (List.mem_of_getElem? (i := 25) rfl))) (by decide) (t := (.array (.object "com/example/blois/blois/AttributeSieve"))) (t' := (.array .boolean)) (by decide) (by decide)))
  replace F_made := F_made.other W (Or.inr (slot_ne (Or.inl (hw _ (List.mem_of_getElem? (i := 38) rfl))) (Or.inl (hw _ (List.mem_of_getElem? (i := 25) rfl))) (by decide) (t := .boolean) (t' := (.array .boolean)) (by decide) (by decide)))
  replace F_opens := F_opens.other W (Or.inr (slot_ne (Or.inl (hw _ (List.mem_of_getElem? (i := 40) rfl))) (Or.inl (hw _ (List.mem_of_getElem? (i := 25) rfl))) (by decide) (t := .boolean) (t' := (.array .boolean)) (by decide) (by decide)))
  replace F_own := F_own.other W (Or.inr (slot_ne (Or.inl (hw _ (List.mem_of_getElem? (i := 47) rfl))) (Or.inl (hw _ (List.mem_of_getElem? (i := 25) rfl))) (by decide) (t := .int) (t' := (.array .boolean)) (by decide) (by decide)))
  replace F_pairs := F_pairs.other W (Or.inr (slot_ne (Or.inl (hw _ (List.mem_of_getElem? (i := 49) rfl))) (Or.inl (hw _ (List.mem_of_getElem? (i := 25) rfl))) (by decide) (t := .int) (t' := (.array .boolean)) (by decide) (by decide)))
  replace E_a := E_a.wr W
  replace A_elements := A_elements.other W ne_elements
  replace N := Fr.snoc X N ga
  refine own_aloadN X hx (hb hby d_init_47) rfl rfl (pc' := 48) rfl ?_
  refine own_iconst X hx (hb hby d_init_48) (z := (4 : Int32)) rfl (pc' := 49) rfl ?_
  refine own_newP X hx hZ (aty := .boolean) (hw _ (List.mem_of_getElem? (i := 15) rfl)) eT (n := (4 : Int32)) (by decide) (cap := 4) (by decide) (by decide) (by decide) (by decide) (ad := "[Z") (by decide) (hb hby d_init_49) (pc' := 51) rfl fun T h1 b49 k hbs X eT E A EA => ?_
  have ne_attributes : b49 ≠ a := by rw [hbs]; exact Nat.ne_of_gt F_made.lt
  replace E_a := E_a.ext E
  replace F_elements := F_elements.ext E
  replace F_attributes := F_attributes.ext E
  replace F_sieves := F_sieves.ext E
  replace F_made := F_made.ext E
  replace F_opens := F_opens.ext E
  replace F_own := F_own.ext E
  replace F_pairs := F_pairs.ext E
  replace A_elements := A_elements.ext E
  have A_attributes : OwnArr Z h1 b49 .boolean 4 own_z := (OwnArr.new (ty := .boolean) A (by decide)).mono fun _ _ _ q => q
  refine own_putF X hx hZ hown (hw _ (List.mem_of_getElem? (i := 26) rfl)) eT F_attributes E_a (Or.inl (hw _ (List.mem_of_getElem? (i := 27) rfl))) (hw _ (List.mem_of_getElem? (i := 2) rfl)) (ty := (.array .boolean)) (by decide) rfl rfl (hb hby d_init_51) (pc' := 54) rfl fun T h1 X eT W => ?_
  replace F_elements := F_elements.other W (Or.inr (slot_ne (Or.inl (hw _ (List.mem_of_getElem? (i := 25) rfl))) (Or.inl (hw _ (List.mem_of_getElem? (i := 27) rfl))) (by decide) (t := (.array .boolean)) (t' := (.array .boolean)) (by decide) (by decide)))
  replace F_attributes := F_attributes.same W
  replace F_sieves := F_sieves.other W (Or.inr (slot_ne (Or.inl (hw _ (List.mem_of_getElem? (i := 31) rfl))) (Or.inl (hw _ (List.mem_of_getElem? (i := 27) rfl))) (by decide) (t := (.array (.object "com/example/blois/blois/AttributeSieve"))) (t' := (.array .boolean)) (by decide) (by decide)))
  replace F_made := F_made.other W (Or.inr (slot_ne (Or.inl (hw _ (List.mem_of_getElem? (i := 38) rfl))) (Or.inl (hw _ (List.mem_of_getElem? (i := 27) rfl))) (by decide) (t := .boolean) (t' := (.array .boolean)) (by decide) (by decide)))
  replace F_opens := F_opens.other W (Or.inr (slot_ne (Or.inl (hw _ (List.mem_of_getElem? (i := 40) rfl))) (Or.inl (hw _ (List.mem_of_getElem? (i := 27) rfl))) (by decide) (t := .boolean) (t' := (.array .boolean)) (by decide) (by decide)))
  replace F_own := F_own.other W (Or.inr (slot_ne (Or.inl (hw _ (List.mem_of_getElem? (i := 47) rfl))) (Or.inl (hw _ (List.mem_of_getElem? (i := 27) rfl))) (by decide) (t := .int) (t' := (.array .boolean)) (by decide) (by decide)))
  replace F_pairs := F_pairs.other W (Or.inr (slot_ne (Or.inl (hw _ (List.mem_of_getElem? (i := 49) rfl))) (Or.inl (hw _ (List.mem_of_getElem? (i := 27) rfl))) (by decide) (t := .int) (t' := (.array .boolean)) (by decide) (by decide)))
  replace E_a := E_a.wr W
  replace A_elements := A_elements.other W ne_elements
  replace A_attributes := A_attributes.other W ne_attributes
  replace N := Fr.snoc X N ga
  refine own_aloadN X hx (hb hby d_init_54) rfl rfl (pc' := 55) rfl ?_
  refine own_iconst X hx (hb hby d_init_55) (z := (4 : Int32)) rfl (pc' := 56) rfl ?_
  refine own_newR X hx hZ hown (hw _ (List.mem_of_getElem? (i := 28) rfl)) (hw _ (List.mem_of_getElem? (i := 29) rfl)) eT (n := (4 : Int32)) (by decide) (cap := 4) (by decide) (by decide) (by decide) (by decide) (hb hby d_init_56) (pc' := 59) rfl fun T h1 b56 hbs X eT E => ?_
  replace E_a := E_a.ext E
  replace F_elements := F_elements.ext E
  replace F_attributes := F_attributes.ext E
  replace F_sieves := F_sieves.ext E
  replace F_made := F_made.ext E
  replace F_opens := F_opens.ext E
  replace F_own := F_own.ext E
  replace F_pairs := F_pairs.ext E
  replace A_elements := A_elements.ext E
  replace A_attributes := A_attributes.ext E
  refine own_putF X hx hZ hown (hw _ (List.mem_of_getElem? (i := 30) rfl)) eT F_sieves E_a (Or.inl (hw _ (List.mem_of_getElem? (i := 31) rfl))) (hw _ (List.mem_of_getElem? (i := 2) rfl)) (ty := (.array (.object "com/example/blois/blois/AttributeSieve"))) (by decide) rfl rfl (hb hby d_init_59) (pc' := 62) rfl fun T h1 X eT W => ?_
  replace F_elements := F_elements.other W (Or.inr (slot_ne (Or.inl (hw _ (List.mem_of_getElem? (i := 25) rfl))) (Or.inl (hw _ (List.mem_of_getElem? (i := 31) rfl))) (by decide) (t := (.array .boolean)) (t' := (.array (.object "com/example/blois/blois/AttributeSieve"))) (by decide) (by decide)))
  replace F_attributes := F_attributes.other W (Or.inr (slot_ne (Or.inl (hw _ (List.mem_of_getElem? (i := 27) rfl))) (Or.inl (hw _ (List.mem_of_getElem? (i := 31) rfl))) (by decide) (t := (.array .boolean)) (t' := (.array (.object "com/example/blois/blois/AttributeSieve"))) (by decide) (by decide)))
  replace F_made := F_made.other W (Or.inr (slot_ne (Or.inl (hw _ (List.mem_of_getElem? (i := 38) rfl))) (Or.inl (hw _ (List.mem_of_getElem? (i := 31) rfl))) (by decide) (t := .boolean) (t' := (.array (.object "com/example/blois/blois/AttributeSieve"))) (by decide) (by decide)))
  replace F_opens := F_opens.other W (Or.inr (slot_ne (Or.inl (hw _ (List.mem_of_getElem? (i := 40) rfl))) (Or.inl (hw _ (List.mem_of_getElem? (i := 31) rfl))) (by decide) (t := .boolean) (t' := (.array (.object "com/example/blois/blois/AttributeSieve"))) (by decide) (by decide)))
  replace F_own := F_own.other W (Or.inr (slot_ne (Or.inl (hw _ (List.mem_of_getElem? (i := 47) rfl))) (Or.inl (hw _ (List.mem_of_getElem? (i := 31) rfl))) (by decide) (t := .int) (t' := (.array (.object "com/example/blois/blois/AttributeSieve"))) (by decide) (by decide)))
  replace F_pairs := F_pairs.other W (Or.inr (slot_ne (Or.inl (hw _ (List.mem_of_getElem? (i := 49) rfl))) (Or.inl (hw _ (List.mem_of_getElem? (i := 31) rfl))) (by decide) (t := .int) (t' := (.array (.object "com/example/blois/blois/AttributeSieve"))) (by decide) (by decide)))
  replace E_a := E_a.wr W
  replace A_elements := A_elements.other W ne_elements
  replace A_attributes := A_attributes.other W ne_attributes
  replace N := Fr.snoc X N ga
  exact own_retV X hx eT hret hlk (by decide) (by decide) (hb hby d_init_62) ⟨rfl, N, ga, E_a, F_made, F_opens, F_own, F_pairs, b42, b49, ne_elements, ne_attributes, F_elements, F_attributes, A_elements, A_attributes⟩
set_option maxRecDepth 65536 in
set_option maxHeartbeats 40000000 in
theorem rm_opens {l : Launch} {Z : State} {a0 : Array Value} {h : Heap} (hw : ∀ d ∈ tables_1, d.before a0 Z = true) (a : Addr) (n0 : Nat) (md op ow pr o : Int32) (K : own_KP Z n0 h a md op ow pr) :
    OwnMet l Z (⟨"com/example/blois/blois/KeyPlan", "opens", "(Z)V"⟩ : MethodName) prog_112_method_6_code 2 none #[(.ref a), (.int o)] ({ frames := 0, cells := 0, slots := 0, locals := 0 } : Room) (fun v h' L => v = none ∧ Fr n0 L ∧ own_KP Z n0 h' a md (if md = 0 then nar .boolean o else op) ow pr) h :=
 own_met (Q := fun v h' L => v = none ∧ Fr n0 L ∧ own_KP Z n0 h' a md (if md = 0 then nar .boolean o else op) ow pr) (rm := ({ frames := 0, cells := 0, slots := 0, locals := 0 } : Room)) (plainFor_of_name pn_com_example_blois_blois_KeyPlan) (fun m => ef_opens m a o) fun p e s m below meth c T hx hZ hby hml hown hnm hret hlk X eT => by
  have N := Fr.nil n0
  refine own_aloadN X hx (hb hby d_opens_0) rfl rfl (pc' := 1) rfl ?_
  refine own_getF X hx hZ hown (hw _ (List.mem_of_getElem? (i := 37) rfl)) eT K.2.2.1 (hb hby d_opens_1) (pc' := 4) rfl fun T X eT => ?_
  refine own_if_ne X hx (hb hby d_opens_4) (pc1 := 7) (pc2 := 12) rfl (by decide) (fun hc4 => ?_) (fun hc4 => ?_)
  · exact own_retV X hx eT hret hlk (by decide) (by decide) (hb hby d_opens_12) ⟨rfl, N, by simp only [if_neg hc4]; exact K⟩
  · refine own_aloadN X hx (hb hby d_opens_7) rfl rfl (pc' := 8) rfl ?_
    refine own_iloadN X hx (hb hby d_opens_8) rfl (pc' := 9) rfl ?_
    refine own_putF X hx hZ hown (hw _ (List.mem_of_getElem? (i := 39) rfl)) eT K.2.2.2.1 K.2.1 (Or.inl (hw _ (List.mem_of_getElem? (i := 40) rfl))) (hw _ (List.mem_of_getElem? (i := 2) rfl)) (ty := .boolean) (by decide) (v' := (.int (nar .boolean o))) rfl (fits_nar_bool _) (hb hby d_opens_9) (pc' := 12) rfl fun T h1 X eT W => ?_
    replace K := own_KP_opens hw K W
    replace N := Fr.snoc X N K.1
    exact own_retV X hx eT hret hlk (by decide) (by decide) (hb hby d_opens_12) ⟨rfl, N, by simp only [if_pos hc4]; exact K⟩
set_option maxRecDepth 65536 in
set_option maxHeartbeats 40000000 in
theorem rm_fields {l : Launch} {Z : State} {a0 : Array Value} {h : Heap} (hw : ∀ d ∈ tables_1, d.before a0 Z = true) (a : Addr) (n0 : Nat) (md op ow pr ow' pr' : Int32) (K : own_KP Z n0 h a md op ow pr) :
    OwnMet l Z (⟨"com/example/blois/blois/KeyPlan", "fields", "(II)V"⟩ : MethodName) prog_112_method_14_code 3 none #[(.ref a), (.int ow'), (.int pr')] ({ frames := 0, cells := 0, slots := 0, locals := 0 } : Room) (fun v h' L => v = none ∧ Fr n0 L ∧ own_KP Z n0 h' a md op (if md = 0 then ow' else ow) (if md = 0 then pr' else pr)) h :=
 own_met (Q := fun v h' L => v = none ∧ Fr n0 L ∧ own_KP Z n0 h' a md op (if md = 0 then ow' else ow) (if md = 0 then pr' else pr)) (rm := ({ frames := 0, cells := 0, slots := 0, locals := 0 } : Room)) (plainFor_of_name pn_com_example_blois_blois_KeyPlan) (fun m => ef_fields m a ow' pr') fun p e s m below meth c T hx hZ hby hml hown hnm hret hlk X eT => by
  have N := Fr.nil n0
  refine own_aloadN X hx (hb hby d_fields_0) rfl rfl (pc' := 1) rfl ?_
  refine own_getF X hx hZ hown (hw _ (List.mem_of_getElem? (i := 37) rfl)) eT K.2.2.1 (hb hby d_fields_1) (pc' := 4) rfl fun T X eT => ?_
  refine own_if_ne X hx (hb hby d_fields_4) (pc1 := 7) (pc2 := 17) rfl (by decide) (fun hc4 => ?_) (fun hc4 => ?_)
  · exact own_retV X hx eT hret hlk (by decide) (by decide) (hb hby d_fields_17) ⟨rfl, N, by simp only [if_neg hc4]; exact K⟩
  · refine own_aloadN X hx (hb hby d_fields_7) rfl rfl (pc' := 8) rfl ?_
    refine own_iloadN X hx (hb hby d_fields_8) rfl (pc' := 9) rfl ?_
    refine own_putF X hx hZ hown (hw _ (List.mem_of_getElem? (i := 46) rfl)) eT K.2.2.2.2.1 K.2.1 (Or.inl (hw _ (List.mem_of_getElem? (i := 47) rfl))) (hw _ (List.mem_of_getElem? (i := 2) rfl)) (ty := .int) (by decide) (v' := (.int ow')) rfl rfl (hb hby d_fields_9) (pc' := 12) rfl fun T h1 X eT W => ?_
    replace K := own_KP_own hw K W
    replace N := Fr.snoc X N K.1
    refine own_aloadN X hx (hb hby d_fields_12) rfl rfl (pc' := 13) rfl ?_
    refine own_iloadN X hx (hb hby d_fields_13) rfl (pc' := 14) rfl ?_
    refine own_putF X hx hZ hown (hw _ (List.mem_of_getElem? (i := 48) rfl)) eT K.2.2.2.2.2.1 K.2.1 (Or.inl (hw _ (List.mem_of_getElem? (i := 49) rfl))) (hw _ (List.mem_of_getElem? (i := 2) rfl)) (ty := .int) (by decide) (v' := (.int pr')) rfl rfl (hb hby d_fields_14) (pc' := 17) rfl fun T h1 X eT W => ?_
    replace K := own_KP_pairs hw K W
    replace N := Fr.snoc X N K.1
    exact own_retV X hx eT hret hlk (by decide) (by decide) (hb hby d_fields_17) ⟨rfl, N, by simp only [if_pos hc4]; exact K⟩
set_option maxRecDepth 65536 in
set_option maxHeartbeats 40000000 in
theorem rm_made {l : Launch} {Z : State} {a0 : Array Value} {h : Heap} (hw : ∀ d ∈ tables_1, d.before a0 Z = true) (a : Addr) (n0 : Nat) (md op ow pr : Int32) (K : own_KP Z n0 h a md op ow pr) :
    OwnMet l Z (⟨"com/example/blois/blois/KeyPlan", "made", "()V"⟩ : MethodName) prog_112_method_5_code 1 none #[(.ref a)] ({ frames := 0, cells := 0, slots := 0, locals := 0 } : Room) (fun v h' L => v = none ∧ Fr n0 L ∧ own_KP Z n0 h' a 1 op ow pr) h :=
 own_met (Q := fun v h' L => v = none ∧ Fr n0 L ∧ own_KP Z n0 h' a 1 op ow pr) (rm := ({ frames := 0, cells := 0, slots := 0, locals := 0 } : Room)) (plainFor_of_name pn_com_example_blois_blois_KeyPlan) (fun m => ef_made m a) fun p e s m below meth c T hx hZ hby hml hown hnm hret hlk X eT => by
  have N := Fr.nil n0
  refine own_aloadN X hx (hb hby d_made_0) rfl rfl (pc' := 1) rfl ?_
  refine own_iconst X hx (hb hby d_made_1) (z := (1 : Int32)) rfl (pc' := 2) rfl ?_
  refine own_putF X hx hZ hown (hw _ (List.mem_of_getElem? (i := 37) rfl)) eT K.2.2.1 K.2.1 (Or.inl (hw _ (List.mem_of_getElem? (i := 38) rfl))) (hw _ (List.mem_of_getElem? (i := 2) rfl)) (ty := .boolean) (by decide) (v' := (.int (nar .boolean 1))) rfl (fits_nar_bool _) (hb hby d_made_2) (pc' := 5) rfl fun T h1 X eT W => ?_
  replace K := own_KP_made hw K W
  replace N := Fr.snoc X N K.1
  exact own_retV X hx eT hret hlk (by decide) (by decide) (hb hby d_made_5) ⟨rfl, N, K⟩
set_option maxRecDepth 65536 in
set_option maxHeartbeats 40000000 in
theorem rm_needs {l : Launch} {Z : State} {a0 : Array Value} {h : Heap} (hw : ∀ d ∈ tables_1, d.before a0 Z = true) (a : Addr) (n0 : Nat) (md op ow pr : Int32) (K : own_KP Z n0 h a md op ow pr) (hpr : pr.toInt ≤ 4) : OwnPure l Z (⟨"com/example/blois/blois/KeyPlan", "needsAttributesAlone", "()Z"⟩ : MethodName) prog_112_method_18_code 3 (some .boolean) #[.ref a] (.int (own_na md op)) h :=
 own_met (Q := fun v h' L => v = some (.int (own_na md op)) ∧ h' = h ∧ L = []) (rm := ownR0) (plainFor_of_name pn_com_example_blois_blois_KeyPlan) (fun m => ef_needsAttributesAlone m a) fun p e s m below meth c T hx hZ hby hml hown hnm hret hlk X eT => by
  obtain ⟨eb, ab, q1, q2, F_el, F_at, A1, A2⟩ := K.2.2.2.2.2.2
  have loop : ∀ (n k : Nat) (T : State) (i z : Int32), Stand p l e ownR0 s m #[.ref a] below meth c T [] 0 0 → T.heap = h → i.toInt = k → (pr.toInt - k).toNat = n → z = own_na md op → OwnGo p e below s (fun v h' L => v = some (.int (own_na md op)) ∧ h' = h ∧ L = []) ownR0.cells ownR0.slots (T.setTop (mkF m 22 #[.val (.ref a), .val (.int z), .val (.int i)] [])) := by
    intro n
    induction n using Nat.strongRecOn with
    | _ n ih =>
      intro k T i z X eT hi hn hz
      refine own_iloadN X hx (hb hby d_needsAttributesAlone_22) rfl (pc' := 23) rfl ?_
      refine own_aloadN X hx (hb hby d_needsAttributesAlone_23) rfl rfl (pc' := 24) rfl ?_
      refine own_getF X hx hZ hown (hw _ (List.mem_of_getElem? (i := 48) rfl)) eT K.2.2.2.2.2.1 (hb hby d_needsAttributesAlone_24) (pc' := 27) rfl fun T X eT => ?_
      refine own_icmp_ge X hx (hb hby d_needsAttributesAlone_27) (pc1 := 30) (pc2 := 72) rfl (by decide) (fun hc27 => ?_) (fun hc27 => ?_)
      · refine own_iloadN X hx (hb hby d_needsAttributesAlone_72) rfl (pc' := 73) rfl ?_
        exact own_retZ X hx eT hret hlk (by decide) (by decide) (hb hby d_needsAttributesAlone_73) ⟨by rw [hz, own_nb (own_na01 md op)], rfl, rfl⟩
      · have hlt := own_ltI hc27
        refine own_iloadN X hx (hb hby d_needsAttributesAlone_30) rfl (pc' := 31) rfl ?_
        refine own_if_eq X hx (hb hby d_needsAttributesAlone_31) (pc1 := 34) (pc2 := 72) rfl (by decide) (fun hc31 => ?_) (fun hc31 => ?_)
        · refine own_iloadN X hx (hb hby d_needsAttributesAlone_72) rfl (pc' := 73) rfl ?_
          exact own_retZ X hx eT hret hlk (by decide) (by decide) (hb hby d_needsAttributesAlone_73) ⟨by rw [hz, own_nb (own_na01 md op)], rfl, rfl⟩
        · refine own_aloadN X hx (hb hby d_needsAttributesAlone_34) rfl rfl (pc' := 35) rfl ?_
          refine own_getF X hx hZ hown (hw _ (List.mem_of_getElem? (i := 24) rfl)) eT F_el (hb hby d_needsAttributesAlone_35) (pc' := 38) rfl fun T X eT => ?_
          refine own_iloadN X hx (hb hby d_needsAttributesAlone_38) rfl (pc' := 39) rfl ?_
          refine own_zaloadA X hx hZ eT A1 (by omega) (by omega) (hb hby d_needsAttributesAlone_39) (pc' := 40) rfl fun v hv => ?_
          obtain rfl : v = .int 0 := hv
          refine own_if_ne X hx (hb hby d_needsAttributesAlone_40) (pc1 := 43) (pc2 := 64) rfl (by decide) (fun hc40 => absurd hc40 (by decide)) (fun hc40 => ?_)
          refine own_iloadN X hx (hb hby d_needsAttributesAlone_43) rfl (pc' := 44) rfl ?_
          refine own_aloadN X hx (hb hby d_needsAttributesAlone_44) rfl rfl (pc' := 45) rfl ?_
          refine own_getF X hx hZ hown (hw _ (List.mem_of_getElem? (i := 46) rfl)) eT K.2.2.2.2.1 (hb hby d_needsAttributesAlone_45) (pc' := 48) rfl fun T X eT => ?_
          refine own_icmp_ge X hx (hb hby d_needsAttributesAlone_48) (pc1 := 51) (pc2 := 60) rfl (by decide) (fun hc48 => ?_) (fun hc48 => ?_)
          · refine own_iconst X hx (hb hby d_needsAttributesAlone_60) (z := (1 : Int32)) rfl (pc' := 61) rfl ?_
            refine own_goto X hx (hb hby d_needsAttributesAlone_61) (pc' := 65) (by decide) ?_
            refine own_istoreN X hx (hb hby d_needsAttributesAlone_65) (Ls' := #[.val (.ref a), .val (.int (1 : Int32)), .val (.int i)]) rfl (pc' := 66) rfl ?_
            refine own_iinc X hx (hb hby d_needsAttributesAlone_66) rfl (z := (i + (1 : Int32))) rfl (Ls' := #[.val (.ref a), .val (.int (1 : Int32)), .val (.int (i + (1 : Int32)))]) rfl (pc' := 69) rfl ?_
            refine own_goto X hx (hb hby d_needsAttributesAlone_69) (pc' := 22) (by decide) ?_
            exact ih _ (by omega) (k + 1) T (i + 1) 1 X eT (own_inc hi (by omega)) rfl (by rcases own_na01 md op with q | q; exact absurd (hz.trans q) hc31; exact q.symm)
          · refine own_aloadN X hx (hb hby d_needsAttributesAlone_51) rfl rfl (pc' := 52) rfl ?_
            refine own_getF X hx hZ hown (hw _ (List.mem_of_getElem? (i := 26) rfl)) eT F_at (hb hby d_needsAttributesAlone_52) (pc' := 55) rfl fun T X eT => ?_
            refine own_iloadN X hx (hb hby d_needsAttributesAlone_55) rfl (pc' := 56) rfl ?_
            refine own_zaloadA X hx hZ eT A2 (by omega) (by omega) (hb hby d_needsAttributesAlone_56) (pc' := 57) rfl fun v hv => ?_
            obtain rfl : v = .int 0 := hv
            refine own_if_ne X hx (hb hby d_needsAttributesAlone_57) (pc1 := 60) (pc2 := 64) rfl (by decide) (fun hc57 => absurd hc57 (by decide)) (fun hc57 => ?_)
            refine own_iconst X hx (hb hby d_needsAttributesAlone_60) (z := (1 : Int32)) rfl (pc' := 61) rfl ?_
            refine own_goto X hx (hb hby d_needsAttributesAlone_61) (pc' := 65) (by decide) ?_
            refine own_istoreN X hx (hb hby d_needsAttributesAlone_65) (Ls' := #[.val (.ref a), .val (.int (1 : Int32)), .val (.int i)]) rfl (pc' := 66) rfl ?_
            refine own_iinc X hx (hb hby d_needsAttributesAlone_66) rfl (z := (i + (1 : Int32))) rfl (Ls' := #[.val (.ref a), .val (.int (1 : Int32)), .val (.int (i + (1 : Int32)))]) rfl (pc' := 69) rfl ?_
            refine own_goto X hx (hb hby d_needsAttributesAlone_69) (pc' := 22) (by decide) ?_
            exact ih _ (by omega) (k + 1) T (i + 1) 1 X eT (own_inc hi (by omega)) rfl (by rcases own_na01 md op with q | q; exact absurd (hz.trans q) hc31; exact q.symm)
  refine own_aloadN X hx (hb hby d_needsAttributesAlone_0) rfl rfl (pc' := 1) rfl ?_
  refine own_getF X hx hZ hown (hw _ (List.mem_of_getElem? (i := 37) rfl)) eT K.2.2.1 (hb hby d_needsAttributesAlone_1) (pc' := 4) rfl fun T X eT => ?_
  refine own_if_eq X hx (hb hby d_needsAttributesAlone_4) (pc1 := 7) (pc2 := 18) rfl (by decide) (fun hc4 => ?_) (fun hc4 => ?_)
  · refine own_iconst X hx (hb hby d_needsAttributesAlone_18) (z := (0 : Int32)) rfl (pc' := 19) rfl ?_
    refine own_istoreN X hx (hb hby d_needsAttributesAlone_19) (Ls' := #[.val (.ref a), .val (.int (0 : Int32)), .unset]) rfl (pc' := 20) rfl ?_
    refine own_iconst X hx (hb hby d_needsAttributesAlone_20) (z := (0 : Int32)) rfl (pc' := 21) rfl ?_
    refine own_istoreN X hx (hb hby d_needsAttributesAlone_21) (Ls' := #[.val (.ref a), .val (.int (0 : Int32)), .val (.int (0 : Int32))]) rfl (pc' := 22) rfl ?_
    exact loop _ 0 T 0 (0 : Int32) X eT rfl rfl (by simp [own_na, hc4])
  · refine own_aloadN X hx (hb hby d_needsAttributesAlone_7) rfl rfl (pc' := 8) rfl ?_
    refine own_getF X hx hZ hown (hw _ (List.mem_of_getElem? (i := 39) rfl)) eT K.2.2.2.1 (hb hby d_needsAttributesAlone_8) (pc' := 11) rfl fun T X eT => ?_
    refine own_if_ne X hx (hb hby d_needsAttributesAlone_11) (pc1 := 14) (pc2 := 18) rfl (by decide) (fun hc11 => ?_) (fun hc11 => ?_)
    · refine own_iconst X hx (hb hby d_needsAttributesAlone_18) (z := (0 : Int32)) rfl (pc' := 19) rfl ?_
      refine own_istoreN X hx (hb hby d_needsAttributesAlone_19) (Ls' := #[.val (.ref a), .val (.int (0 : Int32)), .unset]) rfl (pc' := 20) rfl ?_
      refine own_iconst X hx (hb hby d_needsAttributesAlone_20) (z := (0 : Int32)) rfl (pc' := 21) rfl ?_
      refine own_istoreN X hx (hb hby d_needsAttributesAlone_21) (Ls' := #[.val (.ref a), .val (.int (0 : Int32)), .val (.int (0 : Int32))]) rfl (pc' := 22) rfl ?_
      exact loop _ 0 T 0 (0 : Int32) X eT rfl rfl (by simp [own_na, hc4, hc11])
    · refine own_iconst X hx (hb hby d_needsAttributesAlone_14) (z := (1 : Int32)) rfl (pc' := 15) rfl ?_
      refine own_goto X hx (hb hby d_needsAttributesAlone_15) (pc' := 19) (by decide) ?_
      refine own_istoreN X hx (hb hby d_needsAttributesAlone_19) (Ls' := #[.val (.ref a), .val (.int (1 : Int32)), .unset]) rfl (pc' := 20) rfl ?_
      refine own_iconst X hx (hb hby d_needsAttributesAlone_20) (z := (0 : Int32)) rfl (pc' := 21) rfl ?_
      refine own_istoreN X hx (hb hby d_needsAttributesAlone_21) (Ls' := #[.val (.ref a), .val (.int (1 : Int32)), .val (.int (0 : Int32))]) rfl (pc' := 22) rfl ?_
      exact loop _ 0 T 0 (1 : Int32) X eT rfl rfl (by simp [own_na, hc4, hc11])
set_option maxRecDepth 65536 in
set_option maxHeartbeats 40000000 in
theorem rm_law (l : Launch) (Z : State) (a0 : Array Value) (hw : ∀ d ∈ tables_1, d.before a0 Z = true) (ws : List Jvm.Cond) (fl : Int32) (ow1 : Int32) (pr1 : Int32) (ow2 : Int32) (pr2 : Int32) (h0 : Heap) (n0 : Nat) (hn0 : n0 ≤ h0.size) :
    MetFree l x (head1 (Jvm.Cond.code x code maxLocals ret :: ws) room_1) (fun a U => a = #[(.int fl), (.int ow1), (.int pr1), (.int ow2), (.int pr2)] ∧ Z.Warmed39 U.vm ∧ U.heap = h0) (fun _ _ _ _ _ => True) (fun _ U o U' => ∃ v L, o = .returned v ∧ (v = some (.int 1) ∧ Fr n0 L) ∧ FrameEnd U o U' L room_1.cells room_1.slots) :=
 own_met (Q := fun v _ L => v = some (.int 1) ∧ Fr n0 L) (plainFor_of_name pn_com_example_blois_blois_KeyPlanNeedsAttributesAlonePinLaw) (fun m => ef_law m fl ow1 pr1 ow2 pr2) fun p e s m below meth c T hx hZ hby hml hown hnm hret hlk X eT => by
  have j131 : ∀ (T : State) (lc : List Loc) (h1 : Heap) (o1 dm o2 sc p1 p2 be md op ow pr : Int32) (a : Addr), Stand p l e room_1 s m #[(.int fl), (.int ow1), (.int pr1), (.int ow2), (.int pr2)] below meth c T lc 9 50 → T.heap = h1 → Fr n0 lc → own_KP Z n0 h1 a md op ow pr → pr.toInt ≤ 4 → be = 0 → md = (if dm = 0 then 0 else 1) → op = (if md = 0 ∧ ¬ sc = 0 then o2 else o1) → OwnGo p e below s (fun v _ L => v = some (.int 1) ∧ Fr n0 L) room_1.cells room_1.slots (T.setTop (mkF m 131 #[.val (.int fl), .val (.int ow1), .val (.int pr1), .val (.int ow2), .val (.int pr2), .val (.int o1), .val (.int dm), .val (.int o2), .val (.int sc), .val (.int p1), .val (.int p2), .val (.ref a), .val (.int be), .unset, .unset] [])) := by
    intro T lc h1 o1 dm o2 sc p1 p2 be md op ow pr a X eT N K hpr hbe hmd hop
    refine own_iload X hx (hb hby at_131) rfl (pc' := 133) rfl ?_
    refine own_if_ne X hx (hb hby at_133) (pc1 := 136) (pc2 := 141) rfl (by decide) (fun hc133 => ?_) (fun hc133 => ?_)
    · refine own_iload X hx (hb hby at_141) rfl (pc' := 143) rfl ?_
      refine own_goto X hx (hb hby at_143) (pc' := 148) (by decide) ?_
      refine own_istore X hx (hb hby at_148) (Ls' := #[.val (.int fl), .val (.int ow1), .val (.int pr1), .val (.int ow2), .val (.int pr2), .val (.int o1), .val (.int dm), .val (.int o2), .val (.int sc), .val (.int p1), .val (.int p2), .val (.ref a), .val (.int be), .val (.int o1), .unset]) rfl (pc' := 150) rfl ?_
      refine own_iload X hx (hb hby at_150) rfl (pc' := 152) rfl ?_
      refine own_if_eq X hx (hb hby at_152) (pc1 := 155) (pc2 := 164) rfl (by decide) (fun hc152 => absurd hc152 hc133) (fun hc152 => ?_)
      refine own_iload X hx (hb hby at_155) rfl (pc' := 157) rfl ?_
      refine own_if_ne X hx (hb hby at_157) (pc1 := 160) (pc2 := 164) rfl (by decide) (fun hc157 => ?_) (fun hc157 => ?_)
      · refine own_iconst X hx (hb hby at_164) (z := (0 : Int32)) rfl (pc' := 165) rfl ?_
        refine own_istore X hx (hb hby at_165) (Ls' := #[.val (.int fl), .val (.int ow1), .val (.int pr1), .val (.int ow2), .val (.int pr2), .val (.int o1), .val (.int dm), .val (.int o2), .val (.int sc), .val (.int p1), .val (.int p2), .val (.ref a), .val (.int be), .val (.int o1), .val (.int (0 : Int32))]) rfl (pc' := 167) rfl ?_
        refine own_iload X hx (hb hby at_167) rfl (pc' := 169) rfl ?_
        refine own_if_ne X hx (hb hby at_169) (pc1 := 172) (pc2 := 186) rfl (by decide) (fun hc169 => absurd hbe hc169) (fun hc169 => ?_)
        refine own_aload X hx (hb hby at_172) rfl rfl (pc' := 174) rfl ?_
        refine own_pureV X hx hZ hown (y := (⟨"com/example/blois/blois/KeyPlan", "needsAttributesAlone", "()Z"⟩ : MethodName)) (argsL := []) (st := []) (W := 0) (z := (.int (own_na md op))) (a := a) (C := "com/example/blois/blois/KeyPlan") (hw _ (List.mem_of_getElem? (i := 50) rfl)) (hw _ (List.mem_of_getElem? (i := 51) rfl)) (hw _ (List.mem_of_getElem? (i := 53) rfl)) (hw _ (List.mem_of_getElem? (i := 52) rfl)) (hw _ (List.mem_of_getElem? (i := 3) rfl)) (hw _ (List.mem_of_getElem? (i := 54) rfl)) eT K.2.1 (rm_needs hw a n0 md op ow pr K hpr) (hb hby at_174) rfl (lenOf pd___Z rfl) (by rw [hml]; rfl) (by decide) (by decide) (by decide) (by decide) (Nat.le_of_eq rfl) (by decide) (pc' := 177) rfl fun T X eT => ?_
        refine own_iload X hx (hb hby at_177) rfl (pc' := 179) rfl ?_
        refine own_icmp_ne X hx (hb hby at_179) (pc1 := 182) (pc2 := 186) rfl (by decide) (fun hc179 => absurd (by simp only [own_na, hmd, hop]; simp [hc133, hc152, hc157]) hc179) (fun hc179 => ?_)
        refine own_iconst X hx (hb hby at_182) (z := (1 : Int32)) rfl (pc' := 183) rfl ?_
        refine own_goto X hx (hb hby at_183) (pc' := 187) (by decide) ?_
        exact own_retZ X hx eT hret hlk (by decide) (by decide) (hb hby at_187) ⟨rfl, N⟩
      · refine own_iconst X hx (hb hby at_160) (z := (1 : Int32)) rfl (pc' := 161) rfl ?_
        refine own_goto X hx (hb hby at_161) (pc' := 165) (by decide) ?_
        refine own_istore X hx (hb hby at_165) (Ls' := #[.val (.int fl), .val (.int ow1), .val (.int pr1), .val (.int ow2), .val (.int pr2), .val (.int o1), .val (.int dm), .val (.int o2), .val (.int sc), .val (.int p1), .val (.int p2), .val (.ref a), .val (.int be), .val (.int o1), .val (.int (1 : Int32))]) rfl (pc' := 167) rfl ?_
        refine own_iload X hx (hb hby at_167) rfl (pc' := 169) rfl ?_
        refine own_if_ne X hx (hb hby at_169) (pc1 := 172) (pc2 := 186) rfl (by decide) (fun hc169 => absurd hbe hc169) (fun hc169 => ?_)
        refine own_aload X hx (hb hby at_172) rfl rfl (pc' := 174) rfl ?_
        refine own_pureV X hx hZ hown (y := (⟨"com/example/blois/blois/KeyPlan", "needsAttributesAlone", "()Z"⟩ : MethodName)) (argsL := []) (st := []) (W := 0) (z := (.int (own_na md op))) (a := a) (C := "com/example/blois/blois/KeyPlan") (hw _ (List.mem_of_getElem? (i := 50) rfl)) (hw _ (List.mem_of_getElem? (i := 51) rfl)) (hw _ (List.mem_of_getElem? (i := 53) rfl)) (hw _ (List.mem_of_getElem? (i := 52) rfl)) (hw _ (List.mem_of_getElem? (i := 3) rfl)) (hw _ (List.mem_of_getElem? (i := 54) rfl)) eT K.2.1 (rm_needs hw a n0 md op ow pr K hpr) (hb hby at_174) rfl (lenOf pd___Z rfl) (by rw [hml]; rfl) (by decide) (by decide) (by decide) (by decide) (Nat.le_of_eq rfl) (by decide) (pc' := 177) rfl fun T X eT => ?_
        refine own_iload X hx (hb hby at_177) rfl (pc' := 179) rfl ?_
        refine own_icmp_ne X hx (hb hby at_179) (pc1 := 182) (pc2 := 186) rfl (by decide) (fun hc179 => absurd (by simp only [own_na, hmd, hop]; simp [hc133, hc152, hc157]) hc179) (fun hc179 => ?_)
        refine own_iconst X hx (hb hby at_182) (z := (1 : Int32)) rfl (pc' := 183) rfl ?_
        refine own_goto X hx (hb hby at_183) (pc' := 187) (by decide) ?_
        exact own_retZ X hx eT hret hlk (by decide) (by decide) (hb hby at_187) ⟨rfl, N⟩
    · refine own_iload X hx (hb hby at_136) rfl (pc' := 138) rfl ?_
      refine own_if_ne X hx (hb hby at_138) (pc1 := 141) (pc2 := 146) rfl (by decide) (fun hc138 => ?_) (fun hc138 => ?_)
      · refine own_iload X hx (hb hby at_146) rfl (pc' := 148) rfl ?_
        refine own_istore X hx (hb hby at_148) (Ls' := #[.val (.int fl), .val (.int ow1), .val (.int pr1), .val (.int ow2), .val (.int pr2), .val (.int o1), .val (.int dm), .val (.int o2), .val (.int sc), .val (.int p1), .val (.int p2), .val (.ref a), .val (.int be), .val (.int o2), .unset]) rfl (pc' := 150) rfl ?_
        refine own_iload X hx (hb hby at_150) rfl (pc' := 152) rfl ?_
        refine own_if_eq X hx (hb hby at_152) (pc1 := 155) (pc2 := 164) rfl (by decide) (fun hc152 => ?_) (fun hc152 => absurd hc133 hc152)
        refine own_iconst X hx (hb hby at_164) (z := (0 : Int32)) rfl (pc' := 165) rfl ?_
        refine own_istore X hx (hb hby at_165) (Ls' := #[.val (.int fl), .val (.int ow1), .val (.int pr1), .val (.int ow2), .val (.int pr2), .val (.int o1), .val (.int dm), .val (.int o2), .val (.int sc), .val (.int p1), .val (.int p2), .val (.ref a), .val (.int be), .val (.int o2), .val (.int (0 : Int32))]) rfl (pc' := 167) rfl ?_
        refine own_iload X hx (hb hby at_167) rfl (pc' := 169) rfl ?_
        refine own_if_ne X hx (hb hby at_169) (pc1 := 172) (pc2 := 186) rfl (by decide) (fun hc169 => absurd hbe hc169) (fun hc169 => ?_)
        refine own_aload X hx (hb hby at_172) rfl rfl (pc' := 174) rfl ?_
        refine own_pureV X hx hZ hown (y := (⟨"com/example/blois/blois/KeyPlan", "needsAttributesAlone", "()Z"⟩ : MethodName)) (argsL := []) (st := []) (W := 0) (z := (.int (own_na md op))) (a := a) (C := "com/example/blois/blois/KeyPlan") (hw _ (List.mem_of_getElem? (i := 50) rfl)) (hw _ (List.mem_of_getElem? (i := 51) rfl)) (hw _ (List.mem_of_getElem? (i := 53) rfl)) (hw _ (List.mem_of_getElem? (i := 52) rfl)) (hw _ (List.mem_of_getElem? (i := 3) rfl)) (hw _ (List.mem_of_getElem? (i := 54) rfl)) eT K.2.1 (rm_needs hw a n0 md op ow pr K hpr) (hb hby at_174) rfl (lenOf pd___Z rfl) (by rw [hml]; rfl) (by decide) (by decide) (by decide) (by decide) (Nat.le_of_eq rfl) (by decide) (pc' := 177) rfl fun T X eT => ?_
        refine own_iload X hx (hb hby at_177) rfl (pc' := 179) rfl ?_
        refine own_icmp_ne X hx (hb hby at_179) (pc1 := 182) (pc2 := 186) rfl (by decide) (fun hc179 => absurd (by simp only [own_na, hmd, hop]; simp [hc133, hc138, hc152]) hc179) (fun hc179 => ?_)
        refine own_iconst X hx (hb hby at_182) (z := (1 : Int32)) rfl (pc' := 183) rfl ?_
        refine own_goto X hx (hb hby at_183) (pc' := 187) (by decide) ?_
        exact own_retZ X hx eT hret hlk (by decide) (by decide) (hb hby at_187) ⟨rfl, N⟩
      · refine own_iload X hx (hb hby at_141) rfl (pc' := 143) rfl ?_
        refine own_goto X hx (hb hby at_143) (pc' := 148) (by decide) ?_
        refine own_istore X hx (hb hby at_148) (Ls' := #[.val (.int fl), .val (.int ow1), .val (.int pr1), .val (.int ow2), .val (.int pr2), .val (.int o1), .val (.int dm), .val (.int o2), .val (.int sc), .val (.int p1), .val (.int p2), .val (.ref a), .val (.int be), .val (.int o1), .unset]) rfl (pc' := 150) rfl ?_
        refine own_iload X hx (hb hby at_150) rfl (pc' := 152) rfl ?_
        refine own_if_eq X hx (hb hby at_152) (pc1 := 155) (pc2 := 164) rfl (by decide) (fun hc152 => ?_) (fun hc152 => absurd hc133 hc152)
        refine own_iconst X hx (hb hby at_164) (z := (0 : Int32)) rfl (pc' := 165) rfl ?_
        refine own_istore X hx (hb hby at_165) (Ls' := #[.val (.int fl), .val (.int ow1), .val (.int pr1), .val (.int ow2), .val (.int pr2), .val (.int o1), .val (.int dm), .val (.int o2), .val (.int sc), .val (.int p1), .val (.int p2), .val (.ref a), .val (.int be), .val (.int o1), .val (.int (0 : Int32))]) rfl (pc' := 167) rfl ?_
        refine own_iload X hx (hb hby at_167) rfl (pc' := 169) rfl ?_
        refine own_if_ne X hx (hb hby at_169) (pc1 := 172) (pc2 := 186) rfl (by decide) (fun hc169 => absurd hbe hc169) (fun hc169 => ?_)
        refine own_aload X hx (hb hby at_172) rfl rfl (pc' := 174) rfl ?_
        refine own_pureV X hx hZ hown (y := (⟨"com/example/blois/blois/KeyPlan", "needsAttributesAlone", "()Z"⟩ : MethodName)) (argsL := []) (st := []) (W := 0) (z := (.int (own_na md op))) (a := a) (C := "com/example/blois/blois/KeyPlan") (hw _ (List.mem_of_getElem? (i := 50) rfl)) (hw _ (List.mem_of_getElem? (i := 51) rfl)) (hw _ (List.mem_of_getElem? (i := 53) rfl)) (hw _ (List.mem_of_getElem? (i := 52) rfl)) (hw _ (List.mem_of_getElem? (i := 3) rfl)) (hw _ (List.mem_of_getElem? (i := 54) rfl)) eT K.2.1 (rm_needs hw a n0 md op ow pr K hpr) (hb hby at_174) rfl (lenOf pd___Z rfl) (by rw [hml]; rfl) (by decide) (by decide) (by decide) (by decide) (Nat.le_of_eq rfl) (by decide) (pc' := 177) rfl fun T X eT => ?_
        refine own_iload X hx (hb hby at_177) rfl (pc' := 179) rfl ?_
        refine own_icmp_ne X hx (hb hby at_179) (pc1 := 182) (pc2 := 186) rfl (by decide) (fun hc179 => absurd (by simp only [own_na, hmd, hop]; simp [hc133, hc138, hc152]) hc179) (fun hc179 => ?_)
        refine own_iconst X hx (hb hby at_182) (z := (1 : Int32)) rfl (pc' := 183) rfl ?_
        refine own_goto X hx (hb hby at_183) (pc' := 187) (by decide) ?_
        exact own_retZ X hx eT hret hlk (by decide) (by decide) (hb hby at_187) ⟨rfl, N⟩
  have j111 : ∀ (T : State) (lc : List Loc) (h1 : Heap) (o1 dm o2 sc p1 p2 be md : Int32) (a : Addr), Stand p l e room_1 s m #[(.int fl), (.int ow1), (.int pr1), (.int ow2), (.int pr2)] below meth c T lc 9 50 → T.heap = h1 → Fr n0 lc → own_KP Z n0 h1 a md o1 ow1 p1 → (o2 = 0 ∨ o2 = 1) → p1.toInt ≤ 4 → p2.toInt ≤ 4 → be = 0 → md = (if dm = 0 then 0 else 1) → OwnGo p e below s (fun v _ L => v = some (.int 1) ∧ Fr n0 L) room_1.cells room_1.slots (T.setTop (mkF m 111 #[.val (.int fl), .val (.int ow1), .val (.int pr1), .val (.int ow2), .val (.int pr2), .val (.int o1), .val (.int dm), .val (.int o2), .val (.int sc), .val (.int p1), .val (.int p2), .val (.ref a), .val (.int be), .unset, .unset] [])) := by
    intro T lc h1 o1 dm o2 sc p1 p2 be md a X eT N K ho2 hp1 hp2 hbe hmd
    refine own_iload X hx (hb hby at_111) rfl (pc' := 113) rfl ?_
    refine own_if_eq X hx (hb hby at_113) (pc1 := 116) (pc2 := 131) rfl (by decide) (fun hc113 => ?_) (fun hc113 => ?_)
    · exact j131 T lc h1 o1 dm o2 sc p1 p2 be md o1 ow1 p1 a X eT N K hp1 hbe hmd (by rw [if_neg]; intro q; exact q.2 hc113)
    · refine own_aload X hx (hb hby at_116) rfl rfl (pc' := 118) rfl ?_
      refine own_iload X hx (hb hby at_118) rfl (pc' := 120) rfl ?_
      refine own_callV X hx hZ hown (y := (⟨"com/example/blois/blois/KeyPlan", "opens", "(Z)V"⟩ : MethodName)) (argsL := [(.int o2)]) (st := []) (W := 0) (a := a) (C := "com/example/blois/blois/KeyPlan") (hw _ (List.mem_of_getElem? (i := 32) rfl)) (hw _ (List.mem_of_getElem? (i := 33) rfl)) (hw _ (List.mem_of_getElem? (i := 35) rfl)) (hw _ (List.mem_of_getElem? (i := 34) rfl)) (hw _ (List.mem_of_getElem? (i := 3) rfl)) (hw _ (List.mem_of_getElem? (i := 36) rfl)) eT K.2.1 (rm_opens hw a n0 md o1 ow1 p1 o2 K) (hb hby at_120) rfl (lenOf pd__Z_V rfl) (by rw [hml]; rfl) (by decide) (by decide) (by decide) (by decide) (Nat.le_of_eq rfl) (by decide) (pc' := 123) rfl ?_
      rintro T _ L X ⟨rfl, N1, K⟩
      replace N := Fr.app N N1
      generalize hT : T.heap = h1 at K
      replace eT := hT
      refine own_aload X hx (hb hby at_123) rfl rfl (pc' := 125) rfl ?_
      refine own_iloadN X hx (hb hby at_125) rfl (pc' := 126) rfl ?_
      refine own_iload X hx (hb hby at_126) rfl (pc' := 128) rfl ?_
      refine own_callV X hx hZ hown (y := (⟨"com/example/blois/blois/KeyPlan", "fields", "(II)V"⟩ : MethodName)) (argsL := [(.int ow2), (.int p2)]) (st := []) (W := 0) (a := a) (C := "com/example/blois/blois/KeyPlan") (hw _ (List.mem_of_getElem? (i := 41) rfl)) (hw _ (List.mem_of_getElem? (i := 42) rfl)) (hw _ (List.mem_of_getElem? (i := 44) rfl)) (hw _ (List.mem_of_getElem? (i := 43) rfl)) (hw _ (List.mem_of_getElem? (i := 3) rfl)) (hw _ (List.mem_of_getElem? (i := 45) rfl)) eT K.2.1 (rm_fields hw a n0 md _ ow1 p1 ow2 p2 K) (hb hby at_128) rfl (lenOf pd__II_V rfl) (by rw [hml]; rfl) (by decide) (by decide) (by decide) (by decide) (Nat.le_of_eq rfl) (by decide) (pc' := 131) rfl ?_
      rintro T _ L X ⟨rfl, N1, K⟩
      replace N := Fr.app N N1
      generalize hT : T.heap = h1 at K
      replace eT := hT
      exact j131 T _ h1 o1 dm o2 sc p1 p2 be md _ _ _ a X eT N K (by split <;> assumption) hbe hmd (by rw [own_nb ho2]; by_cases q : md = 0 <;> simp [q, hc113])
  have j51 : ∀ (o1 dm o2 sc : Int32), (o1 = 0 ∨ o1 = 1) → (o2 = 0 ∨ o2 = 1) → OwnGo p e below s (fun v _ L => v = some (.int 1) ∧ Fr n0 L) room_1.cells room_1.slots (T.setTop (mkF m 51 #[.val (.int fl), .val (.int ow1), .val (.int pr1), .val (.int ow2), .val (.int pr2), .val (.int o1), .val (.int dm), .val (.int o2), .unset, .unset, .unset, .unset, .unset, .unset, .unset] [.int sc])) := by
    intro o1 dm o2 sc ho1 ho2
    refine own_istore X hx (hb hby at_51) (Ls' := #[.val (.int fl), .val (.int ow1), .val (.int pr1), .val (.int ow2), .val (.int pr2), .val (.int o1), .val (.int dm), .val (.int o2), .val (.int sc), .unset, .unset, .unset, .unset, .unset, .unset]) rfl (pc' := 53) rfl ?_
    refine own_iloadN X hx (hb hby at_53) rfl (pc' := 54) rfl ?_
    refine own_ldcI X hx hZ hown (v := (2147483647 : Int32)) (hw _ (List.mem_of_getElem? (i := 0) rfl)) (hb hby at_54) (pc' := 56) rfl ?_
    refine own_iand X hx (hb hby at_56) (pc' := 57) rfl ?_
    refine own_iconst X hx (hb hby at_57) (z := (5 : Int32)) rfl (pc' := 58) rfl ?_
    refine own_irem X hx (hb hby at_58) (by decide) (pc' := 59) rfl ?_
    generalize hp1 : ((pr1 &&& (2147483647 : Int32)) % (5 : Int32)) = p1
    refine own_istore X hx (hb hby at_59) (Ls' := #[.val (.int fl), .val (.int ow1), .val (.int pr1), .val (.int ow2), .val (.int pr2), .val (.int o1), .val (.int dm), .val (.int o2), .val (.int sc), .val (.int p1), .unset, .unset, .unset, .unset, .unset]) rfl (pc' := 61) rfl ?_
    replace hp1 : p1.toInt ≤ 4 := by rw [← hp1]; exact (own_r5 pr1).2
    refine own_iload X hx (hb hby at_61) rfl (pc' := 63) rfl ?_
    refine own_ldcI X hx hZ hown (v := (2147483647 : Int32)) (hw _ (List.mem_of_getElem? (i := 0) rfl)) (hb hby at_63) (pc' := 65) rfl ?_
    refine own_iand X hx (hb hby at_65) (pc' := 66) rfl ?_
    refine own_iconst X hx (hb hby at_66) (z := (5 : Int32)) rfl (pc' := 67) rfl ?_
    refine own_irem X hx (hb hby at_67) (by decide) (pc' := 68) rfl ?_
    generalize hp2 : ((pr2 &&& (2147483647 : Int32)) % (5 : Int32)) = p2
    refine own_istore X hx (hb hby at_68) (Ls' := #[.val (.int fl), .val (.int ow1), .val (.int pr1), .val (.int ow2), .val (.int pr2), .val (.int o1), .val (.int dm), .val (.int o2), .val (.int sc), .val (.int p1), .val (.int p2), .unset, .unset, .unset, .unset]) rfl (pc' := 70) rfl ?_
    replace hp2 : p2.toInt ≤ 4 := by rw [← hp2]; exact (own_r5 pr2).2
    have N := Fr.nil n0
    refine own_newO X hx hZ hown (hw _ (List.mem_of_getElem? (i := 1) rfl)) (hw _ (List.mem_of_getElem? (i := 2) rfl)) (hw _ (List.mem_of_getElem? (i := 3) rfl)) eT (by decide) (by decide) (hb hby at_70) (pc' := 73) rfl fun T h1 a hbs X eT E E_a D => ?_
    have ga : n0 ≤ a := by rw [hbs]; exact hn0
    refine own_dup X hx (hb hby at_73) rfl (pc' := 74) rfl ?_
    refine own_callC X hx hZ hown (y := (⟨"com/example/blois/blois/KeyPlan", "<init>", "()V"⟩ : MethodName)) (argsL := []) (st := [(.ref a)]) (W := 1) (a := a) rfl (hw _ (List.mem_of_getElem? (i := 4) rfl)) (hw _ (List.mem_of_getElem? (i := 5) rfl)) (hw _ (List.mem_of_getElem? (i := 3) rfl)) (hw _ (List.mem_of_getElem? (i := 6) rfl)) eT (rm_init hw a n0 ga E_a (D (Or.inl (hw _ (List.mem_of_getElem? (i := 12) rfl))) (ty := (.array .int)) (by decide)) (D (Or.inl (hw _ (List.mem_of_getElem? (i := 14) rfl))) (ty := (.array .int)) (by decide)) (D (Or.inl (hw _ (List.mem_of_getElem? (i := 17) rfl))) (ty := (.array .boolean)) (by decide)) (D (Or.inl (hw _ (List.mem_of_getElem? (i := 19) rfl))) (ty := (.array .int)) (by decide)) (D (Or.inl (hw _ (List.mem_of_getElem? (i := 23) rfl))) (ty := (.array (.object "com/example/blois/blois/IdentityConstraint"))) (by decide)) (D (Or.inl (hw _ (List.mem_of_getElem? (i := 25) rfl))) (ty := (.array .boolean)) (by decide)) (D (Or.inl (hw _ (List.mem_of_getElem? (i := 27) rfl))) (ty := (.array .boolean)) (by decide)) (D (Or.inl (hw _ (List.mem_of_getElem? (i := 31) rfl))) (ty := (.array (.object "com/example/blois/blois/AttributeSieve"))) (by decide)) (D (Or.inl (hw _ (List.mem_of_getElem? (i := 38) rfl))) (ty := .boolean) (by decide)) (D (Or.inl (hw _ (List.mem_of_getElem? (i := 40) rfl))) (ty := .boolean) (by decide)) (D (Or.inl (hw _ (List.mem_of_getElem? (i := 47) rfl))) (ty := .int) (by decide)) (D (Or.inl (hw _ (List.mem_of_getElem? (i := 49) rfl))) (ty := .int) (by decide))) (hb hby at_74) rfl (lenOf pd___V rfl) (by rw [hml]; rfl) (by decide) (by decide) (by decide) (by decide) (Nat.le_of_eq rfl) (by decide) (pc' := 77) rfl ?_
    rintro T _ L X ⟨rfl, N1, K⟩
    replace N := Fr.app N N1
    generalize hT : T.heap = h1 at K
    replace eT := hT
    refine own_astore X hx (hb hby at_77) rfl (Ls' := #[.val (.int fl), .val (.int ow1), .val (.int pr1), .val (.int ow2), .val (.int pr2), .val (.int o1), .val (.int dm), .val (.int o2), .val (.int sc), .val (.int p1), .val (.int p2), .val (.ref a), .unset, .unset, .unset]) rfl (pc' := 79) rfl ?_
    refine own_aload X hx (hb hby at_79) rfl rfl (pc' := 81) rfl ?_
    refine own_iload X hx (hb hby at_81) rfl (pc' := 83) rfl ?_
    refine own_callV X hx hZ hown (y := (⟨"com/example/blois/blois/KeyPlan", "opens", "(Z)V"⟩ : MethodName)) (argsL := [(.int o1)]) (st := []) (W := 0) (a := a) (C := "com/example/blois/blois/KeyPlan") (hw _ (List.mem_of_getElem? (i := 32) rfl)) (hw _ (List.mem_of_getElem? (i := 33) rfl)) (hw _ (List.mem_of_getElem? (i := 35) rfl)) (hw _ (List.mem_of_getElem? (i := 34) rfl)) (hw _ (List.mem_of_getElem? (i := 3) rfl)) (hw _ (List.mem_of_getElem? (i := 36) rfl)) eT K.2.1 (rm_opens hw a n0 0 0 0 0 o1 K) (hb hby at_83) rfl (lenOf pd__Z_V rfl) (by rw [hml]; rfl) (by decide) (by decide) (by decide) (by decide) (Nat.le_of_eq rfl) (by decide) (pc' := 86) rfl ?_
    rintro T _ L X ⟨rfl, N1, K⟩
    replace N := Fr.app N N1
    rw [if_pos rfl, own_nb ho1] at K
    generalize hT : T.heap = h1 at K
    replace eT := hT
    refine own_aload X hx (hb hby at_86) rfl rfl (pc' := 88) rfl ?_
    refine own_iloadN X hx (hb hby at_88) rfl (pc' := 89) rfl ?_
    refine own_iload X hx (hb hby at_89) rfl (pc' := 91) rfl ?_
    refine own_callV X hx hZ hown (y := (⟨"com/example/blois/blois/KeyPlan", "fields", "(II)V"⟩ : MethodName)) (argsL := [(.int ow1), (.int p1)]) (st := []) (W := 0) (a := a) (C := "com/example/blois/blois/KeyPlan") (hw _ (List.mem_of_getElem? (i := 41) rfl)) (hw _ (List.mem_of_getElem? (i := 42) rfl)) (hw _ (List.mem_of_getElem? (i := 44) rfl)) (hw _ (List.mem_of_getElem? (i := 43) rfl)) (hw _ (List.mem_of_getElem? (i := 3) rfl)) (hw _ (List.mem_of_getElem? (i := 45) rfl)) eT K.2.1 (rm_fields hw a n0 0 o1 0 0 ow1 p1 K) (hb hby at_91) rfl (lenOf pd__II_V rfl) (by rw [hml]; rfl) (by decide) (by decide) (by decide) (by decide) (Nat.le_of_eq rfl) (by decide) (pc' := 94) rfl ?_
    rintro T _ L X ⟨rfl, N1, K⟩
    replace N := Fr.app N N1
    rw [if_pos rfl, if_pos rfl] at K
    generalize hT : T.heap = h1 at K
    replace eT := hT
    refine own_aload X hx (hb hby at_94) rfl rfl (pc' := 96) rfl ?_
    refine own_pureV X hx hZ hown (y := (⟨"com/example/blois/blois/KeyPlan", "needsAttributesAlone", "()Z"⟩ : MethodName)) (argsL := []) (st := []) (W := 0) (z := (.int (own_na 0 o1))) (a := a) (C := "com/example/blois/blois/KeyPlan") (hw _ (List.mem_of_getElem? (i := 50) rfl)) (hw _ (List.mem_of_getElem? (i := 51) rfl)) (hw _ (List.mem_of_getElem? (i := 53) rfl)) (hw _ (List.mem_of_getElem? (i := 52) rfl)) (hw _ (List.mem_of_getElem? (i := 3) rfl)) (hw _ (List.mem_of_getElem? (i := 54) rfl)) eT K.2.1 (rm_needs hw a n0 0 o1 ow1 p1 K hp1) (hb hby at_96) rfl (lenOf pd___Z rfl) (by rw [hml]; rfl) (by decide) (by decide) (by decide) (by decide) (Nat.le_of_eq rfl) (by decide) (pc' := 99) rfl fun T X eT => ?_
    refine own_istore X hx (hb hby at_99) (Ls' := #[.val (.int fl), .val (.int ow1), .val (.int pr1), .val (.int ow2), .val (.int pr2), .val (.int o1), .val (.int dm), .val (.int o2), .val (.int sc), .val (.int p1), .val (.int p2), .val (.ref a), .val (.int (own_na 0 o1)), .unset, .unset]) rfl (pc' := 101) rfl ?_
    refine own_iload X hx (hb hby at_101) rfl (pc' := 103) rfl ?_
    refine own_if_eq X hx (hb hby at_103) (pc1 := 106) (pc2 := 111) rfl (by decide) (fun hc103 => ?_) (fun hc103 => ?_)
    · exact j111 T _ h1 o1 dm o2 sc p1 p2 _ _ a X eT N K ho2 hp1 hp2 (by simp [own_na]) (by simp [hc103])
    · refine own_aload X hx (hb hby at_106) rfl rfl (pc' := 108) rfl ?_
      refine own_callV X hx hZ hown (y := (⟨"com/example/blois/blois/KeyPlan", "made", "()V"⟩ : MethodName)) (argsL := []) (st := []) (W := 0) (a := a) (C := "com/example/blois/blois/KeyPlan") (hw _ (List.mem_of_getElem? (i := 55) rfl)) (hw _ (List.mem_of_getElem? (i := 56) rfl)) (hw _ (List.mem_of_getElem? (i := 58) rfl)) (hw _ (List.mem_of_getElem? (i := 57) rfl)) (hw _ (List.mem_of_getElem? (i := 3) rfl)) (hw _ (List.mem_of_getElem? (i := 59) rfl)) eT K.2.1 (rm_made hw a n0 0 o1 ow1 p1 K) (hb hby at_108) rfl (lenOf pd___V rfl) (by rw [hml]; rfl) (by decide) (by decide) (by decide) (by decide) (Nat.le_of_eq rfl) (by decide) (pc' := 111) rfl ?_
      rintro T _ L X ⟨rfl, N1, K⟩
      replace N := Fr.app N N1
      generalize hT : T.heap = h1 at K
      replace eT := hT
      exact j111 T _ h1 o1 dm o2 sc p1 p2 _ _ a X eT N K ho2 hp1 hp2 (by simp [own_na]) (by simp [hc103])
  have j37 : ∀ (o1 dm o2 : Int32), (o1 = 0 ∨ o1 = 1) → (o2 = 0 ∨ o2 = 1) → OwnGo p e below s (fun v _ L => v = some (.int 1) ∧ Fr n0 L) room_1.cells room_1.slots (T.setTop (mkF m 37 #[.val (.int fl), .val (.int ow1), .val (.int pr1), .val (.int ow2), .val (.int pr2), .val (.int o1), .val (.int dm), .unset, .unset, .unset, .unset, .unset, .unset, .unset, .unset] [.int o2])) := by
    intro o1 dm o2 ho1 ho2
    refine own_istore X hx (hb hby at_37) (Ls' := #[.val (.int fl), .val (.int ow1), .val (.int pr1), .val (.int ow2), .val (.int pr2), .val (.int o1), .val (.int dm), .val (.int o2), .unset, .unset, .unset, .unset, .unset, .unset, .unset]) rfl (pc' := 39) rfl ?_
    refine own_iloadN X hx (hb hby at_39) rfl (pc' := 40) rfl ?_
    refine own_bipush X hx (hb hby at_40) (z := (8 : Int32)) rfl (pc' := 42) rfl ?_
    refine own_iand X hx (hb hby at_42) (pc' := 43) rfl ?_
    refine own_if_eq X hx (hb hby at_43) (pc1 := 46) (pc2 := 50) rfl (by decide) (fun hc43 => ?_) (fun hc43 => ?_)
    · refine own_iconst X hx (hb hby at_50) (z := (0 : Int32)) rfl (pc' := 51) rfl ?_
      exact j51 o1 dm o2 (0 : Int32) ho1 ho2
    · refine own_iconst X hx (hb hby at_46) (z := (1 : Int32)) rfl (pc' := 47) rfl ?_
      refine own_goto X hx (hb hby at_47) (pc' := 51) (by decide) ?_
      exact j51 o1 dm o2 (1 : Int32) ho1 ho2
  have j24 : ∀ (o1 dm : Int32), (o1 = 0 ∨ o1 = 1) → OwnGo p e below s (fun v _ L => v = some (.int 1) ∧ Fr n0 L) room_1.cells room_1.slots (T.setTop (mkF m 24 #[.val (.int fl), .val (.int ow1), .val (.int pr1), .val (.int ow2), .val (.int pr2), .val (.int o1), .unset, .unset, .unset, .unset, .unset, .unset, .unset, .unset, .unset] [.int dm])) := by
    intro o1 dm ho1
    refine own_istore X hx (hb hby at_24) (Ls' := #[.val (.int fl), .val (.int ow1), .val (.int pr1), .val (.int ow2), .val (.int pr2), .val (.int o1), .val (.int dm), .unset, .unset, .unset, .unset, .unset, .unset, .unset, .unset]) rfl (pc' := 26) rfl ?_
    refine own_iloadN X hx (hb hby at_26) rfl (pc' := 27) rfl ?_
    refine own_iconst X hx (hb hby at_27) (z := (4 : Int32)) rfl (pc' := 28) rfl ?_
    refine own_iand X hx (hb hby at_28) (pc' := 29) rfl ?_
    refine own_if_eq X hx (hb hby at_29) (pc1 := 32) (pc2 := 36) rfl (by decide) (fun hc29 => ?_) (fun hc29 => ?_)
    · refine own_iconst X hx (hb hby at_36) (z := (0 : Int32)) rfl (pc' := 37) rfl ?_
      exact j37 o1 dm (0 : Int32) ho1 (Or.inl rfl)
    · refine own_iconst X hx (hb hby at_32) (z := (1 : Int32)) rfl (pc' := 33) rfl ?_
      refine own_goto X hx (hb hby at_33) (pc' := 37) (by decide) ?_
      exact j37 o1 dm (1 : Int32) ho1 (Or.inr rfl)
  have j11 : ∀ (o1 : Int32), (o1 = 0 ∨ o1 = 1) → OwnGo p e below s (fun v _ L => v = some (.int 1) ∧ Fr n0 L) room_1.cells room_1.slots (T.setTop (mkF m 11 #[.val (.int fl), .val (.int ow1), .val (.int pr1), .val (.int ow2), .val (.int pr2), .unset, .unset, .unset, .unset, .unset, .unset, .unset, .unset, .unset, .unset] [.int o1])) := by
    intro o1 ho1
    refine own_istore X hx (hb hby at_11) (Ls' := #[.val (.int fl), .val (.int ow1), .val (.int pr1), .val (.int ow2), .val (.int pr2), .val (.int o1), .unset, .unset, .unset, .unset, .unset, .unset, .unset, .unset, .unset]) rfl (pc' := 13) rfl ?_
    refine own_iloadN X hx (hb hby at_13) rfl (pc' := 14) rfl ?_
    refine own_iconst X hx (hb hby at_14) (z := (2 : Int32)) rfl (pc' := 15) rfl ?_
    refine own_iand X hx (hb hby at_15) (pc' := 16) rfl ?_
    refine own_if_eq X hx (hb hby at_16) (pc1 := 19) (pc2 := 23) rfl (by decide) (fun hc16 => ?_) (fun hc16 => ?_)
    · refine own_iconst X hx (hb hby at_23) (z := (0 : Int32)) rfl (pc' := 24) rfl ?_
      exact j24 o1 (0 : Int32) ho1
    · refine own_iconst X hx (hb hby at_19) (z := (1 : Int32)) rfl (pc' := 20) rfl ?_
      refine own_goto X hx (hb hby at_20) (pc' := 24) (by decide) ?_
      exact j24 o1 (1 : Int32) ho1
  refine own_iloadN X hx (hb hby at_0) rfl (pc' := 1) rfl ?_
  refine own_iconst X hx (hb hby at_1) (z := (1 : Int32)) rfl (pc' := 2) rfl ?_
  refine own_iand X hx (hb hby at_2) (pc' := 3) rfl ?_
  refine own_if_eq X hx (hb hby at_3) (pc1 := 6) (pc2 := 10) rfl (by decide) (fun hc3 => ?_) (fun hc3 => ?_)
  · refine own_iconst X hx (hb hby at_10) (z := (0 : Int32)) rfl (pc' := 11) rfl ?_
    exact j11 (0 : Int32) (Or.inl rfl)
  · refine own_iconst X hx (hb hby at_6) (z := (1 : Int32)) rfl (pc' := 7) rfl ?_
    refine own_goto X hx (hb hby at_7) (pc' := 11) (by decide) ?_
    exact j11 (1 : Int32) (Or.inr rfl)
set_option maxRecDepth 65536 in
set_option maxHeartbeats 40000000 in
theorem comes_1 {Post : Tables → Env → Array Value → State → Outcome → State → Prop} (hpost : ∀ tb e args s v u, (limb_1_1.after args s (.returned v) u = true ∧ limb_1_2.after args s (.returned v) u = true) → FrameEnd s (.returned v) u (Jvm.fieldLocs frame_1_writes args s ++ Jvm.arrayLocs frame_1_arrays args s ++ Jvm.staticLocs frame_1_statics s) 32 192 → Post tb e args s (.returned v) u) :
    ArmFor flags0 classFile x code maxLocals ret World_1 tables_1 room_1 Calls_1 rest_1 Pre_1 Post := by
  intro l hfl _ _ p e ha hc hk s m args below hf hA hF happ hP
  obtain ⟨hcalls, hrest, hpre⟩ := hP
  obtain ⟨-, -, -, hnamed, -, -, -, hat⟩ := (Spec.applies_iff hf).mp happ
  obtain ⟨hg, hn⟩ := and_e (Cond.before_iff.mp (show (Jvm.Cond.and given_1 narrow_1).before args s = true from hpre))
  obtain ⟨hcount, g0⟩ := and_e hg
  obtain ⟨v0, g1⟩ := and_e g0
  obtain ⟨v1, g2⟩ := and_e g1
  obtain ⟨v2, g3⟩ := and_e g2
  obtain ⟨v3, g4⟩ := and_e g3
  obtain ⟨w0, w1, w2, w3, w4, rfl⟩ : ∃ w0 w1 w2 w3 w4 : Value, args = #[w0, w1, w2, w3, w4] := by
    have hs : args.size = 5 := by simpa [Cond.value, given_1] using hcount
    obtain ⟨L⟩ := args
    match L, hs with
    | [w0, w1, w2, w3, w4], _ => exact ⟨w0, w1, w2, w3, w4, rfl⟩
  have hw := fun d (hd : d ∈ tables_1) => atoms_spec (ws := Jvm.Cond.code x code maxLocals ret :: tables_1) hat d (List.mem_cons_of_mem _ hd)
  obtain ⟨i0, ei0⟩ := is_v v0
  obtain rfl : w0 = (.int i0) := Option.some.inj ei0
  obtain ⟨i1, ei1⟩ := is_v v1
  obtain rfl : w1 = (.int i1) := Option.some.inj ei1
  obtain ⟨i2, ei2⟩ := is_v v2
  obtain rfl : w2 = (.int i2) := Option.some.inj ei2
  obtain ⟨i3, ei3⟩ := is_v v3
  obtain rfl : w3 = (.int i3) := Option.some.inj ei3
  obtain ⟨i4, ei4⟩ := is_v g4
  obtain rfl : w4 = (.int i4) := Option.some.inj ei4
  obtain ⟨n, o, h1, h2, h3, _, L, rfl, ⟨rfl, N⟩, hq⟩ := rm_law l s _ hw tables_1 i0 i1 i2 i3 i4 s.heap s.heap.size (Nat.le_refl _) p e ha hc hk s m _ below hf ((Spec.applies_iff_loose hf).mp happ).1 ⟨rfl, State.Warmed39.refl s, rfl⟩ trivial
  refine ⟨n, _, h1, h2, h3, hpost _ _ _ _ _ _ ⟨Cond.after_iff.mpr rfl, Cond.after_iff.mpr (eq_i res_at (Term.int_eval (1)) rfl)⟩ ⟨hq.1, hq.2.1, (hq.2.2.sift fun y hy => Or.inr (N y hy)).mono (by decide) (by decide)⟩⟩
theorem main_1_1 : Claimed_1_1 := comes_1 fun _ _ _ _ _ _ h hF => ⟨h.1, hF⟩
theorem main_1_2 : Claimed_1_2 := comes_1 fun _ _ _ _ _ _ h hF => ⟨h.2, hF⟩
end Jvm.Pilot.@@N@@
namespace Jvm.Pilot.@@N@@
open Jvm Jvm.ClassFile Sem Op Lib Jvm.Free Jvm.Stand Jvm.Pilot.@@N@@.Jvm.D
/-! MADE BY PROGRAM (witnessworld.py) out of the Statement's table words and the real class files: 15 classes; the members and pool entries that the words name. The judged class is class 1, her method 1. -/
namespace start1
open Jvm.ClassFile
def u (s : String) : CpInfo := .utf8 (stringToUtf16 s)
/-- a pool by its gaps: so many unusable entries, then the entry; so many at the end -/
def gap : Nat → List CpInfo → List CpInfo
  | 0, r => r
  | n + 1, r => .unusable :: gap n r
def poolList (es : List (Nat × CpInfo)) (last : Nat) : List CpInfo := es.foldr (fun e r => gap e.1 (e.2 :: r)) (gap last [])
def pool (es : List (Nat × CpInfo)) (last : Nat) : Array CpInfo := ⟨poolList es last⟩
def fileOf (pool : Array CpInfo) (this : Nat) (attrs : Array Attribute := #[]) (ms : Array MethodInfo := #[]) (fl : Nat := 33) (sup : Nat := 0) (ifs : Array Nat := #[]) (fds : Array FieldInfo := #[]) : ClassFile where
  minorVersion := 0
  majorVersion := 65
  constantPool := pool
  accessFlags := fl
  thisClass := this
  superClass := sup
  interfaces := ifs
  fields := fds
  methods := ms
  attributes := attrs
def plain (name : String) (sup : Option ClassId) : Class where
  name := name
  kind := .ordinary
  loader := none
  accessFlags := 33
  super := sup
  interfaces := #[]
  cf := none
  fields := #[]
  methods := #[]
  instanceTypes := #[]
  staticTypes := #[]
  resolved := #[]
  callSites := []
  init := .initialized
  statics := none
  mirror := none

def pool0 : Array CpInfo := pool [(5, u "<init>"), (0, u "()V"), (1, .class_ 10), (1, u "java/lang/Object")] 113

def k0c0 : Code := { maxStack := 0, maxLocals := 1, code := object_method_1_code, exceptionTable := #[], attributes := #[] }
def k0m0 : Method := { name := "<init>", desc := "()V", sig := { parameters := [], returnType := none }, accessFlags := 1, code := some k0c0 }
/-- java/lang/Object -/
def k0 : Class := { plain "java/lang/Object" none with
  accessFlags := 33
  interfaces := #[]
  cf := some (fileOf pool0 8 #[] #[{ accessFlags := 1, nameIndex := 5, descriptorIndex := 6, attributes := #[] }] 33 0 #[] #[])
  fields := #[]
  methods := #[k0m0]
  instanceTypes := #[]
  staticTypes := #[]
  resolved := Array.replicate 124 none
  statics := none }

def pool1 : Array CpInfo := pool [(2, .class_ 4), (0, .nameAndType 5 6), (0, u "java/lang/Object"), (0, u "<init>"), (0, u "()V"), (0, .integer 2147483647), (0, .class_ 9), (0, u "com/example/blois/blois/KeyPlan"), (0, .methodref 8 3), (0, .methodref 8 12), (0, .nameAndType 13 14), (0, u "opens"), (0, u "(Z)V"), (0, .methodref 8 16), (0, .nameAndType 17 18), (0, u "fields"), (0, u "(II)V"), (0, .methodref 8 20), (0, .nameAndType 21 22), (0, u "needsAttributesAlone"), (0, u "()Z"), (0, .methodref 8 24), (0, .nameAndType 25 6), (0, u "made"), (0, .class_ 27), (0, u "com/example/blois/blois/KeyPlanNeedsAttributesAlonePinLaw"), (2, u "law"), (0, u "(IIIII)Z")] 3

def k1m0 : Method := { name := "<init>", desc := "()V", sig := { parameters := [], returnType := none }, accessFlags := 1, code := none }
def k1c1 : Code := { maxStack := 3, maxLocals := 15, code := code, exceptionTable := #[], attributes := #[] }
def k1m1 : Method := { name := "law", desc := "(IIIII)Z", sig := { parameters := [.int, .int, .int, .int, .int], returnType := some .boolean }, accessFlags := 9, code := some k1c1 }
/-- com/example/blois/blois/KeyPlanNeedsAttributesAlonePinLaw -/
def k1 : Class := { plain "com/example/blois/blois/KeyPlanNeedsAttributesAlonePinLaw" (some 0) with
  accessFlags := 49
  interfaces := #[]
  cf := some (fileOf pool1 26 #[] #[{ accessFlags := 1, nameIndex := 5, descriptorIndex := 6, attributes := #[] }, { accessFlags := 9, nameIndex := 30, descriptorIndex := 31, attributes := #[] }] 49 2 #[] #[])
  fields := #[]
  methods := #[k1m0, k1m1]
  instanceTypes := #[]
  staticTypes := #[]
  resolved := Array.replicate 35 none
  statics := none }

def pool2 : Array CpInfo := pool [(1, .methodref 2 3), (0, .class_ 4), (0, .nameAndType 5 6), (0, u "java/lang/Object"), (0, u "<init>"), (0, u "()V"), (0, .fieldref 8 9), (0, .class_ 10), (0, .nameAndType 11 12), (0, u "com/example/blois/blois/KeyPlan"), (0, u "scopeReaches"), (0, u "[I"), (0, .fieldref 8 14), (0, .nameAndType 15 12), (0, u "fieldReaches"), (0, .fieldref 8 17), (0, .nameAndType 18 19), (0, u "fieldsDescend"), (0, u "[Z"), (0, .fieldref 8 21), (0, .nameAndType 22 12), (0, u "into"), (0, .class_ 24), (0, u "com/example/blois/blois/IdentityConstraint"), (0, .fieldref 8 26), (0, .nameAndType 27 28), (0, u "owners"), (0, u "[Lcom/example/blois/blois/IdentityConstraint;"), (0, .fieldref 8 30), (0, .nameAndType 31 19), (0, u "elements"), (0, .fieldref 8 33), (0, .nameAndType 34 19), (0, u "attributes"), (0, .class_ 36), (0, u "com/example/blois/blois/AttributeSieve"), (0, .fieldref 8 38), (0, .nameAndType 39 40), (0, u "sieves"), (0, u "[Lcom/example/blois/blois/AttributeSieve;"), (2, u "name"), (0, u "Ljavax/xml/namespace/QName;"), (8, u "declaration"), (0, u "Lcom/example/blois/blois/ElementDeclaration;"), (2, u "generation"), (0, u "I"), (2, u "children"), (0, u "Lcom/example/blois/blois/KeyPlan$Children;"), (0, .class_ 64), (0, u "com/example/blois/blois/KeyPlan$Children"), (1, .fieldref 8 67), (0, .nameAndType 68 69), (0, u "made"), (0, u "Z"), (0, .fieldref 8 71), (0, .nameAndType 72 69), (0, u "opens"), (30, u "fields"), (20, u "owned"), (3, .fieldref 8 129), (0, .nameAndType 130 58), (0, u "own"), (0, .fieldref 8 132), (0, .nameAndType 133 58), (0, u "pairs"), (10, u "below"), (0, u "Ljava/lang/Boolean;"), (12, u "needsAttributesAlone"), (0, u "()Z"), (16, u "(Z)V"), (11, u "(II)V")] 19

def k2c0 : Code := { maxStack := 2, maxLocals := 1, code := prog_112_method_1_code, exceptionTable := #[], attributes := #[] }
def k2m0 : Method := { name := "<init>", desc := "()V", sig := { parameters := [], returnType := none }, accessFlags := 0, code := some k2c0 }
def k2c1 : Code := { maxStack := 2, maxLocals := 1, code := prog_112_method_5_code, exceptionTable := #[], attributes := #[] }
def k2m1 : Method := { name := "made", desc := "()V", sig := { parameters := [], returnType := none }, accessFlags := 0, code := some k2c1 }
def k2c2 : Code := { maxStack := 2, maxLocals := 2, code := prog_112_method_6_code, exceptionTable := #[], attributes := #[] }
def k2m2 : Method := { name := "opens", desc := "(Z)V", sig := { parameters := [.boolean], returnType := none }, accessFlags := 0, code := some k2c2 }
def k2c3 : Code := { maxStack := 2, maxLocals := 3, code := prog_112_method_14_code, exceptionTable := #[], attributes := #[] }
def k2m3 : Method := { name := "fields", desc := "(II)V", sig := { parameters := [.int, .int], returnType := none }, accessFlags := 0, code := some k2c3 }
def k2c4 : Code := { maxStack := 2, maxLocals := 3, code := prog_112_method_18_code, exceptionTable := #[], attributes := #[] }
def k2m4 : Method := { name := "needsAttributesAlone", desc := "()Z", sig := { parameters := [], returnType := some .boolean }, accessFlags := 0, code := some k2c4 }
/-- com/example/blois/blois/KeyPlan -/
def k2 : Class := { plain "com/example/blois/blois/KeyPlan" (some 0) with
  accessFlags := 32
  interfaces := #[]
  cf := some (fileOf pool2 8 #[.nestMembers #[63]] #[{ accessFlags := 0, nameIndex := 5, descriptorIndex := 6, attributes := #[] }, { accessFlags := 0, nameIndex := 68, descriptorIndex := 6, attributes := #[] }, { accessFlags := 0, nameIndex := 72, descriptorIndex := 176, attributes := #[] }, { accessFlags := 0, nameIndex := 103, descriptorIndex := 188, attributes := #[] }, { accessFlags := 0, nameIndex := 158, descriptorIndex := 159, attributes := #[] }] 32 2 #[] #[{ accessFlags := 2, nameIndex := 43, descriptorIndex := 44, attributes := #[] }, { accessFlags := 2, nameIndex := 53, descriptorIndex := 54, attributes := #[] }, { accessFlags := 2, nameIndex := 57, descriptorIndex := 58, attributes := #[] }, { accessFlags := 2, nameIndex := 68, descriptorIndex := 69, attributes := #[] }, { accessFlags := 2, nameIndex := 72, descriptorIndex := 69, attributes := #[] }, { accessFlags := 2, nameIndex := 11, descriptorIndex := 12, attributes := #[] }, { accessFlags := 2, nameIndex := 15, descriptorIndex := 12, attributes := #[] }, { accessFlags := 2, nameIndex := 18, descriptorIndex := 19, attributes := #[] }, { accessFlags := 2, nameIndex := 22, descriptorIndex := 12, attributes := #[] }, { accessFlags := 2, nameIndex := 27, descriptorIndex := 28, attributes := #[] }, { accessFlags := 2, nameIndex := 124, descriptorIndex := 58, attributes := #[] }, { accessFlags := 2, nameIndex := 31, descriptorIndex := 19, attributes := #[] }, { accessFlags := 2, nameIndex := 34, descriptorIndex := 19, attributes := #[] }, { accessFlags := 2, nameIndex := 39, descriptorIndex := 40, attributes := #[] }, { accessFlags := 2, nameIndex := 130, descriptorIndex := 58, attributes := #[] }, { accessFlags := 2, nameIndex := 133, descriptorIndex := 58, attributes := #[] }, { accessFlags := 2, nameIndex := 144, descriptorIndex := 145, attributes := #[] }, { accessFlags := 2, nameIndex := 61, descriptorIndex := 62, attributes := #[] }])
  fields := #[{ name := "name", type := (.object "javax/xml/namespace/QName"), accessFlags := 2, slot := 0, constantValue := 0 }, { name := "declaration", type := (.object "com/example/blois/blois/ElementDeclaration"), accessFlags := 2, slot := 1, constantValue := 0 }, { name := "generation", type := .int, accessFlags := 2, slot := 2, constantValue := 0 }, { name := "made", type := .boolean, accessFlags := 2, slot := 3, constantValue := 0 }, { name := "opens", type := .boolean, accessFlags := 2, slot := 4, constantValue := 0 }, { name := "scopeReaches", type := (.array .int), accessFlags := 2, slot := 5, constantValue := 0 }, { name := "fieldReaches", type := (.array .int), accessFlags := 2, slot := 6, constantValue := 0 }, { name := "fieldsDescend", type := (.array .boolean), accessFlags := 2, slot := 7, constantValue := 0 }, { name := "into", type := (.array .int), accessFlags := 2, slot := 8, constantValue := 0 }, { name := "owners", type := (.array (.object "com/example/blois/blois/IdentityConstraint")), accessFlags := 2, slot := 9, constantValue := 0 }, { name := "owned", type := .int, accessFlags := 2, slot := 10, constantValue := 0 }, { name := "elements", type := (.array .boolean), accessFlags := 2, slot := 11, constantValue := 0 }, { name := "attributes", type := (.array .boolean), accessFlags := 2, slot := 12, constantValue := 0 }, { name := "sieves", type := (.array (.object "com/example/blois/blois/AttributeSieve")), accessFlags := 2, slot := 13, constantValue := 0 }, { name := "own", type := .int, accessFlags := 2, slot := 14, constantValue := 0 }, { name := "pairs", type := .int, accessFlags := 2, slot := 15, constantValue := 0 }, { name := "below", type := (.object "java/lang/Boolean"), accessFlags := 2, slot := 16, constantValue := 0 }, { name := "children", type := (.object "com/example/blois/blois/KeyPlan$Children"), accessFlags := 2, slot := 17, constantValue := 0 }]
  methods := #[k2m0, k2m1, k2m2, k2m3, k2m4]
  instanceTypes := #[(.object "javax/xml/namespace/QName"), (.object "com/example/blois/blois/ElementDeclaration"), .int, .boolean, .boolean, (.array .int), (.array .int), (.array .boolean), (.array .int), (.array (.object "com/example/blois/blois/IdentityConstraint")), .int, (.array .boolean), (.array .boolean), (.array (.object "com/example/blois/blois/AttributeSieve")), .int, .int, (.object "java/lang/Boolean"), (.object "com/example/blois/blois/KeyPlan$Children")]
  staticTypes := #[]
  resolved := Array.replicate 208 none
  statics := none }

def pool3 : Array CpInfo := pool [(2, .class_ 4), (1, u "java/lang/Object"), (3, .class_ 10), (1, u "com/example/blois/blois/IdentityConstraint"), (0, u "name"), (0, u "Ljavax/xml/namespace/QName;"), (2, u "category"), (0, u "Lcom/example/blois/blois/IdentityConstraint$Category;"), (2, u "index"), (0, u "I"), (2, u "selector"), (0, u "Lcom/example/blois/blois/ConstraintPath;"), (8, u "fields"), (0, u "Ljava/util/List;"), (2, u "context"), (2, u "refer"), (0, u "Lcom/example/blois/blois/IdentityConstraint;"), (96, .class_ 140), (1, u "com/example/blois/blois/IdentityConstraint$Category")] 69

/-- com/example/blois/blois/IdentityConstraint -/
def k3 : Class := { plain "com/example/blois/blois/IdentityConstraint" (some 0) with
  accessFlags := 32
  interfaces := #[]
  cf := some (fileOf pool3 8 #[.nestMembers #[138]] #[] 32 2 #[] #[{ accessFlags := 18, nameIndex := 11, descriptorIndex := 12, attributes := #[] }, { accessFlags := 18, nameIndex := 15, descriptorIndex := 16, attributes := #[] }, { accessFlags := 18, nameIndex := 19, descriptorIndex := 20, attributes := #[] }, { accessFlags := 18, nameIndex := 23, descriptorIndex := 24, attributes := #[] }, { accessFlags := 18, nameIndex := 33, descriptorIndex := 34, attributes := #[] }, { accessFlags := 18, nameIndex := 37, descriptorIndex := 24, attributes := #[] }, { accessFlags := 2, nameIndex := 40, descriptorIndex := 41, attributes := #[] }])
  fields := #[{ name := "name", type := (.object "javax/xml/namespace/QName"), accessFlags := 18, slot := 0, constantValue := 0 }, { name := "category", type := (.object "com/example/blois/blois/IdentityConstraint$Category"), accessFlags := 18, slot := 1, constantValue := 0 }, { name := "index", type := .int, accessFlags := 18, slot := 2, constantValue := 0 }, { name := "selector", type := (.object "com/example/blois/blois/ConstraintPath"), accessFlags := 18, slot := 3, constantValue := 0 }, { name := "fields", type := (.object "java/util/List"), accessFlags := 18, slot := 4, constantValue := 0 }, { name := "context", type := (.object "com/example/blois/blois/ConstraintPath"), accessFlags := 18, slot := 5, constantValue := 0 }, { name := "refer", type := (.object "com/example/blois/blois/IdentityConstraint"), accessFlags := 2, slot := 6, constantValue := 0 }]
  methods := #[]
  instanceTypes := #[(.object "javax/xml/namespace/QName"), (.object "com/example/blois/blois/IdentityConstraint$Category"), .int, (.object "com/example/blois/blois/ConstraintPath"), (.object "java/util/List"), (.object "com/example/blois/blois/ConstraintPath"), (.object "com/example/blois/blois/IdentityConstraint")]
  staticTypes := #[]
  resolved := Array.replicate 210 none
  statics := none }

def pool4 : Array CpInfo := pool [(2, .class_ 4), (1, u "java/lang/Object"), (0, u "<init>"), (0, u "()V"), (0, .class_ 8), (0, u "com/example/blois/blois/AttributeSieve"), (4, u "names"), (0, u "[Ljavax/xml/namespace/QName;"), (0, .class_ 16), (0, u "com/example/blois/blois/AttributeSieve$Selected"), (2, u "selections"), (0, u "[Lcom/example/blois/blois/AttributeSieve$Selected;"), (2, u "type"), (0, u "Lcom/example/blois/blois/TypeDefinition;"), (5, u "count"), (0, u "I"), (58, u "INSTANCE_TYPES"), (0, u "Ljava/util/Map;"), (38, u "FEW")] 20

def k4m0 : Method := { name := "<init>", desc := "()V", sig := { parameters := [], returnType := none }, accessFlags := 0, code := none }
/-- com/example/blois/blois/AttributeSieve -/
def k4 : Class := { plain "com/example/blois/blois/AttributeSieve" (some 0) with
  accessFlags := 32
  interfaces := #[]
  cf := some (fileOf pool4 7 #[.nestMembers #[15]] #[{ accessFlags := 0, nameIndex := 5, descriptorIndex := 6, attributes := #[] }] 32 2 #[] #[{ accessFlags := 26, nameIndex := 130, descriptorIndex := 31, attributes := #[] }, { accessFlags := 26, nameIndex := 90, descriptorIndex := 91, attributes := #[] }, { accessFlags := 18, nameIndex := 13, descriptorIndex := 14, attributes := #[] }, { accessFlags := 18, nameIndex := 19, descriptorIndex := 20, attributes := #[] }, { accessFlags := 2, nameIndex := 30, descriptorIndex := 31, attributes := #[] }, { accessFlags := 2, nameIndex := 23, descriptorIndex := 24, attributes := #[] }])
  fields := #[{ name := "FEW", type := .int, accessFlags := 26, slot := 0, constantValue := 0 }, { name := "INSTANCE_TYPES", type := (.object "java/util/Map"), accessFlags := 26, slot := 1, constantValue := 0 }, { name := "names", type := (.array (.object "javax/xml/namespace/QName")), accessFlags := 18, slot := 0, constantValue := 0 }, { name := "selections", type := (.array (.object "com/example/blois/blois/AttributeSieve$Selected")), accessFlags := 18, slot := 1, constantValue := 0 }, { name := "count", type := .int, accessFlags := 2, slot := 2, constantValue := 0 }, { name := "type", type := (.object "com/example/blois/blois/TypeDefinition"), accessFlags := 2, slot := 3, constantValue := 0 }]
  methods := #[k4m0]
  instanceTypes := #[(.array (.object "javax/xml/namespace/QName")), (.array (.object "com/example/blois/blois/AttributeSieve$Selected")), .int, (.object "com/example/blois/blois/TypeDefinition")]
  staticTypes := #[.int, (.object "java/util/Map")]
  resolved := Array.replicate 151 none
  statics := none }

def pool5 : Array CpInfo := pool [(1, u "java/lang/Cloneable"), (0, .class_ 1), (0, u "java/lang/Object"), (0, .class_ 3)] 3

/-- java/lang/Cloneable -/
def k5 : Class := { plain "java/lang/Cloneable" (some 0) with
  accessFlags := 1537
  interfaces := #[]
  cf := some (fileOf pool5 2 #[] #[] 1537 4 #[] #[])
  fields := #[]
  methods := #[]
  instanceTypes := #[]
  staticTypes := #[]
  resolved := Array.replicate 8 none
  statics := none }

def pool6 : Array CpInfo := pool [(1, u "java/io/Serializable"), (0, .class_ 1), (0, u "java/lang/Object"), (0, .class_ 3)] 3

/-- java/io/Serializable -/
def k6 : Class := { plain "java/io/Serializable" (some 0) with
  accessFlags := 1537
  interfaces := #[]
  cf := some (fileOf pool6 2 #[] #[] 1537 4 #[] #[])
  fields := #[]
  methods := #[]
  instanceTypes := #[]
  staticTypes := #[]
  resolved := Array.replicate 8 none
  statics := none }

/-- the primitive boolean -/
def k7 : Class := { plain "boolean" none with kind := .primitive 'Z', accessFlags := 0x411 }
/-- [Z -/
def k8 : Class := { plain "[Z" (some 0) with kind := .array 7 .boolean, interfaces := #[5, 6], accessFlags := 1041 }

/-- the primitive byte -/
def k9 : Class := { plain "byte" none with kind := .primitive 'B', accessFlags := 0x411 }
/-- [B -/
def k10 : Class := { plain "[B" (some 0) with kind := .array 9 .byte, interfaces := #[5, 6], accessFlags := 1041 }

/-- the primitive int -/
def k11 : Class := { plain "int" none with kind := .primitive 'I', accessFlags := 0x411 }
/-- [I -/
def k12 : Class := { plain "[I" (some 0) with kind := .array 11 .int, interfaces := #[5, 6], accessFlags := 1041 }

/-- [Lcom/example/blois/blois/AttributeSieve; -/
def k13 : Class := { plain "[Lcom/example/blois/blois/AttributeSieve;" (some 0) with kind := .array 4 (.object "com/example/blois/blois/AttributeSieve"), interfaces := #[5, 6], accessFlags := 1041 }

/-- [Lcom/example/blois/blois/IdentityConstraint; -/
def k14 : Class := { plain "[Lcom/example/blois/blois/IdentityConstraint;" (some 0) with kind := .array 3 (.object "com/example/blois/blois/IdentityConstraint"), interfaces := #[5, 6], accessFlags := 1041 }

def heap : Heap := #[]
def classes : Array Class := #[k0, k1, k2, k3, k4, k5, k6, k7, k8, k9, k10, k11, k12, k13, k14]
def interned : List (Array UInt16 × Addr) := []
def slotsUsed : Nat := 0
def theMethod : MethodId := ⟨1, 1⟩
def args0 : Array Value := #[.int 5, .int 7, .int 1, .int 2, .int 3]
def aboutOver (below : List Frame) : State where
  vm := { classes := classes, interned := interned.toArray }
  heap := heap
  slotsUsed := slotsUsed
  threads := #[{ frames := .invoking theMethod args0 :: below }]
def below0 : List Frame := [.native { method := ⟨0, 0⟩, args := #[] }]
def about1 : State := aboutOver below0
def p0 : Program := .bare "" "" ""
def e0 : Env := launch0.env 0 0 0
theorem w_frames : about1.frames = Frame.invoking theMethod args0 :: below0 := rfl
set_option maxRecDepth 65536 in
theorem w_args : argsFit about1.vm theMethod args0 = true := by decide +kernel
set_option maxRecDepth 65536 in
theorem w_heap : heapFits about1 = true := by decide +kernel
set_option maxRecDepth 65536 in
theorem w_runnable : about1.curStatus? = some .runnable := by decide +kernel
set_option maxRecDepth 65536 in
theorem w_alone : about1.alone = true := by decide +kernel
set_option maxRecDepth 65536 in
theorem w_named : about1.methodNamed? x = some theMethod := by decide +kernel
set_option maxRecDepth 65536 in
theorem w_hears : about1.hears theMethod below0 = true := by decide +kernel
set_option maxRecDepth 65536 in
theorem w_ripe : about1.ripe theMethod args0 below0 = true := by decide +kernel
theorem w_running : about1.status = .running := rfl
set_option maxRecDepth 65536 in
theorem w_room : about1.hasRoom e0.platform room_1 = true :=
  launch0.hasRoom_least _ room_1 (by decide +kernel) (by decide +kernel) (by decide +kernel) (by decide +kernel) (by decide +kernel) (by decide +kernel)
theorem allAtoms_all (ts : List Jvm.Cond) (a : Array Jvm.Value) (st : Jvm.State) : (allAtoms ts).before a st = ts.all (fun c => c.before a st) := by
  induction ts with
  | nil => rfl
  | cons c t ih =>
    show (Jvm.Cond.and c (allAtoms t)).before a st = _
    rw [Jvm.Cond.before_and, ih, List.all_cons]
def words1 : List Jvm.Cond := Jvm.Cond.code x code maxLocals ret :: tables_1
/-- a 'code' word, met by the world's own term for the bytes: nothing is compared byte by byte -/
theorem code_word {y : MethodName} {bytes : ByteArray} {mx : Nat} {rt : Option FieldType} {a : Array Value} {s : State} {m : MethodId} {meth : Method} {c : Code} (h1 : s.methodNamed? y = some m) (h2 : s.vm.method? m = some meth) (h3 : meth.code = some c) (h4 : c.code = bytes)
    (h5 : (c.maxLocals == mx && c.exceptionTable.isEmpty && decide (c.maxStack ≤ mostOperands) && decide (meth.sig.returnType = rt) && !meth.locks && decide (parseMethodDescriptor y.desc = some meth.sig)) = true) : (Jvm.Cond.code y bytes mx rt).before a s = true := by
  simp only [Bool.and_eq_true, beq_iff_eq, Bool.not_eq_true', decide_eq_true_eq] at h5
  obtain ⟨⟨⟨⟨⟨g1, g2⟩, g3⟩, g4⟩, g5⟩, g6⟩ := h5
  simp [Cond.before, Cond.holds, Cond.value, h1, h2, h3, h4, g1, g2, g3, g4, g5, g6]
def isCode : Jvm.Cond → Bool
  | .code _ _ _ _ => true
  | _ => false
theorem all_split {L : List Jvm.Cond} {P : Jvm.Cond → Bool} (h1 : L.all (fun c => isCode c || P c) = true) (h2 : ∀ c ∈ L.filter isCode, P c = true) : L.all P = true := by
  refine List.all_eq_true.mpr fun c hc => ?_
  have h := List.all_eq_true.mp h1 c hc
  rcases Bool.eq_false_or_eq_true (isCode c) with hi | hi
  · exact h2 c (List.mem_filter.mpr ⟨hc, hi⟩)
  · simpa [hi] using h
set_option maxRecDepth 65536 in
theorem w_c0 : (Jvm.Cond.code x code maxLocals ret).before args0 about1 = true := code_word (m := ⟨1, 1⟩) (meth := k1m1) (c := k1c1) (by decide +kernel) rfl rfl rfl (by decide +kernel)
set_option maxRecDepth 65536 in
theorem w_c1 : (Jvm.Cond.code ({ cls := "com/example/blois/blois/KeyPlan", name := "<init>", desc := "()V" } : Jvm.MethodName) prog_112_method_1_code (1 : Nat) (Option.none : Option Jvm.ClassFile.FieldType)).before args0 about1 = true := code_word (m := ⟨2, 0⟩) (meth := k2m0) (c := k2c0) (by decide +kernel) rfl rfl rfl (by decide +kernel)
set_option maxRecDepth 65536 in
theorem w_c2 : (Jvm.Cond.code ({ cls := "java/lang/Object", name := "<init>", desc := "()V" } : Jvm.MethodName) object_method_1_code (1 : Nat) (Option.none : Option Jvm.ClassFile.FieldType)).before args0 about1 = true := code_word (m := ⟨0, 0⟩) (meth := k0m0) (c := k0c0) (by decide +kernel) rfl rfl rfl (by decide +kernel)
set_option maxRecDepth 65536 in
theorem w_c3 : (Jvm.Cond.code ({ cls := "com/example/blois/blois/KeyPlan", name := "opens", desc := "(Z)V" } : Jvm.MethodName) prog_112_method_6_code (2 : Nat) (Option.none : Option Jvm.ClassFile.FieldType)).before args0 about1 = true := code_word (m := ⟨2, 2⟩) (meth := k2m2) (c := k2c2) (by decide +kernel) rfl rfl rfl (by decide +kernel)
set_option maxRecDepth 65536 in
theorem w_c4 : (Jvm.Cond.code ({ cls := "com/example/blois/blois/KeyPlan", name := "fields", desc := "(II)V" } : Jvm.MethodName) prog_112_method_14_code (3 : Nat) (Option.none : Option Jvm.ClassFile.FieldType)).before args0 about1 = true := code_word (m := ⟨2, 3⟩) (meth := k2m3) (c := k2c3) (by decide +kernel) rfl rfl rfl (by decide +kernel)
set_option maxRecDepth 65536 in
theorem w_c5 : (Jvm.Cond.code ({ cls := "com/example/blois/blois/KeyPlan", name := "needsAttributesAlone", desc := "()Z" } : Jvm.MethodName) prog_112_method_18_code (3 : Nat) (Option.some Jvm.ClassFile.FieldType.boolean)).before args0 about1 = true := code_word (m := ⟨2, 4⟩) (meth := k2m4) (c := k2c4) (by decide +kernel) rfl rfl rfl (by decide +kernel)
set_option maxRecDepth 65536 in
theorem w_c6 : (Jvm.Cond.code ({ cls := "com/example/blois/blois/KeyPlan", name := "made", desc := "()V" } : Jvm.MethodName) prog_112_method_5_code (1 : Nat) (Option.none : Option Jvm.ClassFile.FieldType)).before args0 about1 = true := code_word (m := ⟨2, 1⟩) (meth := k2m1) (c := k2c1) (by decide +kernel) rfl rfl rfl (by decide +kernel)
def codes1 : List Jvm.Cond := [Jvm.Cond.code x code maxLocals ret, Jvm.Cond.code ({ cls := "com/example/blois/blois/KeyPlan", name := "<init>", desc := "()V" } : Jvm.MethodName) prog_112_method_1_code (1 : Nat) (Option.none : Option Jvm.ClassFile.FieldType), Jvm.Cond.code ({ cls := "java/lang/Object", name := "<init>", desc := "()V" } : Jvm.MethodName) object_method_1_code (1 : Nat) (Option.none : Option Jvm.ClassFile.FieldType), Jvm.Cond.code ({ cls := "com/example/blois/blois/KeyPlan", name := "opens", desc := "(Z)V" } : Jvm.MethodName) prog_112_method_6_code (2 : Nat) (Option.none : Option Jvm.ClassFile.FieldType), Jvm.Cond.code ({ cls := "com/example/blois/blois/KeyPlan", name := "fields", desc := "(II)V" } : Jvm.MethodName) prog_112_method_14_code (3 : Nat) (Option.none : Option Jvm.ClassFile.FieldType), Jvm.Cond.code ({ cls := "com/example/blois/blois/KeyPlan", name := "needsAttributesAlone", desc := "()Z" } : Jvm.MethodName) prog_112_method_18_code (3 : Nat) (Option.some Jvm.ClassFile.FieldType.boolean), Jvm.Cond.code ({ cls := "com/example/blois/blois/KeyPlan", name := "made", desc := "()V" } : Jvm.MethodName) prog_112_method_5_code (1 : Nat) (Option.none : Option Jvm.ClassFile.FieldType)]
set_option maxRecDepth 65536 in
theorem codes_eq : words1.filter isCode = codes1 := rfl
theorem w_codes : ∀ c ∈ words1.filter isCode, c.before args0 about1 = true := by
  rw [codes_eq]
  intro c hc
  simp only [codes1, List.mem_cons, List.not_mem_nil, or_false] at hc
  rcases hc with rfl | rfl | rfl | rfl | rfl | rfl | rfl
  · exact w_c0
  · exact w_c1
  · exact w_c2
  · exact w_c3
  · exact w_c4
  · exact w_c5
  · exact w_c6
set_option maxRecDepth 65536 in
theorem w_t1 : (words1.take 24).all (fun c => isCode c || c.before args0 about1) = true := by decide +kernel
set_option maxRecDepth 65536 in
theorem w_t2 : ((words1.drop 24).take 24).all (fun c => isCode c || c.before args0 about1) = true := by decide +kernel
set_option maxRecDepth 65536 in
theorem w_t3 : ((words1.drop 24).drop 24).all (fun c => isCode c || c.before args0 about1) = true := by decide +kernel
theorem w_tables : (allAtoms (Jvm.Cond.code x code maxLocals ret :: tables_1)).before args0 about1 = true := by
  rw [allAtoms_all]
  show words1.all (fun c => c.before args0 about1) = true
  refine all_split ?_ w_codes
  rw [← List.take_append_drop 24 words1, List.all_append, w_t1, ← List.take_append_drop 24 (words1.drop 24), List.all_append, w_t2, w_t3]
  rfl
set_option maxRecDepth 65536 in
theorem w_case : (Jvm.Cond.and given_1 narrow_1).before args0 about1 = true := by decide +kernel
theorem w_applies : (headSpec (Jvm.Cond.code x code maxLocals ret :: tables_1) room_1).applies x e0.platform about1 = true :=
  (Spec.applies_iff w_frames).mpr ⟨w_running, w_runnable, w_alone, w_named, w_hears, w_ripe, w_room, w_tables⟩
theorem atStart : AtStart classFile x code maxLocals ret World_1 tables_1 room_1 Calls_1 rest_1 Pre_1 launch0 p0 e0 about1 theMethod args0 below0 :=
  ⟨lists_1, trivial, launch0.admits_env _ _ _, launch0.least_env, fairChoices_fair.cas, fairChoices_fair.clock, w_frames, w_args, w_heap, w_applies, trivial, trivial, w_case⟩
end start1
theorem witness_1 : WitnessClaimed_1 := ⟨start1.p0, start1.e0, start1.about1, start1.theMethod, start1.args0, start1.below0, start1.atStart⟩
end Jvm.Pilot.@@N@@
