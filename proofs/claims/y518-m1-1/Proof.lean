import JvmDerived
import JvmDerived.Pilot.@@N@@Statement
import JvmDerived.Pilot.@@N@@Code
set_option linter.unusedVariables false
set_option linter.unusedSimpArgs false
@@BLOCK:NumsL.lean.txt@@
namespace Jvm.Pilot.@@N@@
open Jvm Jvm.ClassFile Sem Op Lib Jvm.Free Jvm.Stand Jvm.LawKit Jvm.RoadKit Bundle Jvm.Pilot.@@N@@.Jvm.D
/-! 1. OWN: a walk in continuation style: 'own_Goes': from this frame the run comes back with an outcome of which Q holds -/
def own_Goes (p : Program) (e : Env) (below : List Frame) (T : State) (F : JFrame) (Q : Outcome → State → Prop) : Prop := ∃ s₂ o, Steps p.tables e below (T.setTop F) s₂ ∧ s₂.status = .running ∧ Ended s₂ below o ∧ Q o s₂
def own_Ret (s : State) (K : Option Value → Heap → List Loc → Prop) (rc rs : Nat) (o : Outcome) (U' : State) : Prop := ∃ v L, o = .returned v ∧ K v U'.heap L ∧ FrameEnd s o U' L rc rs
def own_upd (f : Nat → Value) (k : Nat) (v : Value) : Nat → Value := fun i => if i = k then v else f i
/-- an array of n places at a; place j holds f j -/
def own_Arr (Z : State) (h : Heap) (a : Addr) (ty : FieldType) (n : Nat) (f : Nat → Value) : Prop := ∃ c : Cell, Arr Z h a c ty ∧ c.slots.size = n ∧ n < 2 ^ 31 ∧ ∀ j, j < n → c.slots[j]? = some (f j)
section Own
variable {p : Program} {l : Launch} {e : Env} {R : Room} {s : State} {m : MethodId} {args : Array Value} {below : List Frame} {meth : Method} {c : Code} {T : State} {locs : List Loc} {cells slots : Nat} {Z : State} {a0 : Array Value} {h h' : Heap} {Q : Outcome → State → Prop} {Ls Ls' : Array Slot} {st : List Value} {pc pc' : Nat}
theorem own_step {T' : State} {F F' : JFrame} (k : ∀ t, Steps p.tables e below (T'.setTop F') t → Steps p.tables e below (T.setTop F) t) (q : own_Goes p e below T' F' Q) : own_Goes p e below T F Q := by
  obtain ⟨s2, o, h1, h2⟩ := q
  exact ⟨s2, o, k _ h1, h2⟩
theorem own_body {y : MethodName} {bytes : ByteArray} {maxL : Nat} {rt : Option FieldType} {ws : List Jvm.Cond} {rm : Room} {as : Array Value} {h0 : Heap} {K : Option Value → Heap → List Loc → Prop} (hpl : plainFor y = true)
    (body : ∀ (p : Program) (e : Env) (s : State) (m : MethodId) (below : List Frame) (meth : Method) (c : Code) (s₁ : State), p.tables.exec = Jvm.exec → c.code = bytes → c.maxLocals = maxL → s.vm.findClass y.cls = some m.cls → meth.name = y.name → meth.sig.returnType = rt → meth.locks = false → Z.Warmed39 s.vm →
      Stand p l e rm s m as below meth c s₁ [] 0 0 → s₁.heap = h0 → own_Goes p e below s₁ (entryFrame m as maxL) (own_Ret s K rm.cells rm.slots)) :
    MetFree l y (head1 (Jvm.Cond.code y bytes maxL rt :: ws) rm) (fun a U => a = as ∧ Z.Warmed39 U.vm ∧ U.heap = h0) (fun _ _ _ _ _ => True) (fun _ U o U' => ∃ v L, o = .returned v ∧ K v U'.heap L ∧ FrameEnd U o U' L rm.cells rm.slots) := by
  refine MetFree.of_bodySF hpl hisR ?_
  intro p e s m args below meth c s₁ Bd hml0 hP hK
  obtain ⟨rfl, hZ, hh⟩ := hP
  exact body p e s m below meth c s₁ Bd.exec Bd.bytes hml0 (findClass_of_methodNamed Bd.named) (name_of_methodNamed Bd.named Bd.method).1 Bd.returns Bd.notSynchronized hZ (Stand.of_body Bd) (by rw [← hh, Bd.state]; rfl)
theorem own_iload (X : Stand p l e R s m args below meth c T locs cells slots) (hx : p.tables.exec = Jvm.exec) {k : Nat} {v : Int32} (hp : pc + 2 = pc') (hd : decode c.code pc = .ok (.iload k, 2)) (hl : Ls[k]? = some (.val (.int v))) (k : own_Goes p e below T (mkF m pc' Ls (.int v :: st)) Q) : own_Goes p e below T (mkF m pc Ls st) Q := by
  subst hp; exact own_step (fun _ q => XS.iload X.here hx rfl hd hl q) k
theorem own_iloadN (X : Stand p l e R s m args below meth c T locs cells slots) (hx : p.tables.exec = Jvm.exec) {k : Fin 4} {v : Int32} (hp : pc + 1 = pc') (hd : decode c.code pc = .ok (.iload_n k, 1)) (hl : Ls[k.val]? = some (.val (.int v))) (k : own_Goes p e below T (mkF m pc' Ls (.int v :: st)) Q) : own_Goes p e below T (mkF m pc Ls st) Q := by
  subst hp; exact own_step (fun _ q => XS.iloadN X.here hx rfl hd hl q) k
theorem own_istore (X : Stand p l e R s m args below meth c T locs cells slots) (hx : p.tables.exec = Jvm.exec) {k : Nat} {v : Int32} (hp : pc + 2 = pc') (hd : decode c.code pc = .ok (.istore k, 2)) (hl : storeLocals Ls k (.int v) = some Ls') (k : own_Goes p e below T (mkF m pc' Ls' st) Q) : own_Goes p e below T (mkF m pc Ls (.int v :: st)) Q := by
  subst hp; exact own_step (fun _ q => XS.istore X.here hx rfl hd rfl hl q) k
theorem own_istoreN (X : Stand p l e R s m args below meth c T locs cells slots) (hx : p.tables.exec = Jvm.exec) {k : Fin 4} {v : Int32} (hp : pc + 1 = pc') (hd : decode c.code pc = .ok (.istore_n k, 1)) (hl : storeLocals Ls k.val (.int v) = some Ls') (k : own_Goes p e below T (mkF m pc' Ls' st) Q) : own_Goes p e below T (mkF m pc Ls (.int v :: st)) Q := by
  subst hp; exact own_step (fun _ q => XS.istoreN X.here hx rfl hd rfl hl q) k
theorem own_lload (X : Stand p l e R s m args below meth c T locs cells slots) (hx : p.tables.exec = Jvm.exec) {k : Nat} {v : Int64} (hp : pc + 2 = pc') (hd : decode c.code pc = .ok (.lload k, 2)) (hl : Ls[k]? = some (.val (.long v))) (k : own_Goes p e below T (mkF m pc' Ls (.long v :: st)) Q) : own_Goes p e below T (mkF m pc Ls st) Q := by
  subst hp; exact own_step (fun _ q => XT.lload X.here hx rfl hd hl q) k
theorem own_lloadN (X : Stand p l e R s m args below meth c T locs cells slots) (hx : p.tables.exec = Jvm.exec) {k : Fin 4} {v : Int64} (hp : pc + 1 = pc') (hd : decode c.code pc = .ok (.lload_n k, 1)) (hl : Ls[k.val]? = some (.val (.long v))) (k : own_Goes p e below T (mkF m pc' Ls (.long v :: st)) Q) : own_Goes p e below T (mkF m pc Ls st) Q := by
  subst hp; exact own_step (fun _ q => XT.lloadN X.here hx rfl hd hl q) k
theorem own_lstore (X : Stand p l e R s m args below meth c T locs cells slots) (hx : p.tables.exec = Jvm.exec) {k : Nat} {v : Int64} (hp : pc + 2 = pc') (hd : decode c.code pc = .ok (.lstore k, 2)) (hl : storeLocals Ls k (.long v) = some Ls') (k : own_Goes p e below T (mkF m pc' Ls' st) Q) : own_Goes p e below T (mkF m pc Ls (.long v :: st)) Q := by
  subst hp; exact own_step (fun _ q => XT.lstore X.here hx rfl hd rfl hl q) k
theorem own_lstoreN (X : Stand p l e R s m args below meth c T locs cells slots) (hx : p.tables.exec = Jvm.exec) {k : Fin 4} {v : Int64} (hp : pc + 1 = pc') (hd : decode c.code pc = .ok (.lstore_n k, 1)) (hl : storeLocals Ls k.val (.long v) = some Ls') (k : own_Goes p e below T (mkF m pc' Ls' st) Q) : own_Goes p e below T (mkF m pc Ls (.long v :: st)) Q := by
  subst hp; exact own_step (fun _ q => XT.lstoreN X.here hx rfl hd rfl hl q) k
theorem own_aload (X : Stand p l e R s m args below meth c T locs cells slots) (hx : p.tables.exec = Jvm.exec) {k : Nat} {v : Value} (hp : pc + 2 = pc') (hd : decode c.code pc = .ok (.aload k, 2)) (hl : Ls[k]? = some (.val v)) (hv : v.isRef = true) (k : own_Goes p e below T (mkF m pc' Ls (v :: st)) Q) : own_Goes p e below T (mkF m pc Ls st) Q := by
  subst hp; exact own_step (fun _ q => XS.aload X.here hx rfl hd hl hv q) k
theorem own_aloadN (X : Stand p l e R s m args below meth c T locs cells slots) (hx : p.tables.exec = Jvm.exec) {k : Fin 4} {v : Value} (hp : pc + 1 = pc') (hd : decode c.code pc = .ok (.aload_n k, 1)) (hl : Ls[k.val]? = some (.val v)) (hv : v.isRef = true) (k : own_Goes p e below T (mkF m pc' Ls (v :: st)) Q) : own_Goes p e below T (mkF m pc Ls st) Q := by
  subst hp; exact own_step (fun _ q => XS.aloadN X.here hx rfl hd hl hv q) k
theorem own_astore (X : Stand p l e R s m args below meth c T locs cells slots) (hx : p.tables.exec = Jvm.exec) {k : Nat} {v : Value} (hp : pc + 2 = pc') (hd : decode c.code pc = .ok (.astore k, 2)) (hv : v.isRef = true) (hl : storeLocals Ls k v = some Ls') (k : own_Goes p e below T (mkF m pc' Ls' st) Q) : own_Goes p e below T (mkF m pc Ls (v :: st)) Q := by
  subst hp; exact own_step (fun _ q => XS.astore X.here hx rfl hd rfl hv hl q) k
theorem own_astoreN (X : Stand p l e R s m args below meth c T locs cells slots) (hx : p.tables.exec = Jvm.exec) {k : Fin 4} {v : Value} (hp : pc + 1 = pc') (hd : decode c.code pc = .ok (.astore_n k, 1)) (hv : v.isRef = true) (hl : storeLocals Ls k.val v = some Ls') (k : own_Goes p e below T (mkF m pc' Ls' st) Q) : own_Goes p e below T (mkF m pc Ls (v :: st)) Q := by
  subst hp; exact own_step (fun _ q => XS.astoreN X.here hx rfl hd rfl hv hl q) k
theorem own_iconst (X : Stand p l e R s m args below meth c T locs cells slots) (hx : p.tables.exec = Jvm.exec) {i : Int} {v : Int32} (hp : pc + 1 = pc') (hd : decode c.code pc = .ok (.iconst i, 1)) (hv : Int32.ofInt i = v) (k : own_Goes p e below T (mkF m pc' Ls (.int v :: st)) Q) : own_Goes p e below T (mkF m pc Ls st) Q := by
  subst hp; subst hv; exact own_step (fun _ q => XS.iconst X.here hx rfl hd  q) k
theorem own_bipush (X : Stand p l e R s m args below meth c T locs cells slots) (hx : p.tables.exec = Jvm.exec) {i : Int} {v : Int32} (hp : pc + 2 = pc') (hd : decode c.code pc = .ok (.bipush i, 2)) (hv : (Int8.ofInt i).toInt32 = v) (k : own_Goes p e below T (mkF m pc' Ls (.int v :: st)) Q) : own_Goes p e below T (mkF m pc Ls st) Q := by
  subst hp; subst hv; exact own_step (fun _ q => XS.bipush X.here hx rfl hd  q) k
theorem own_sipush (X : Stand p l e R s m args below meth c T locs cells slots) (hx : p.tables.exec = Jvm.exec) {i : Int} {v : Int32} (hp : pc + 3 = pc') (hd : decode c.code pc = .ok (.sipush i, 3)) (hv : (Int16.ofInt i).toInt32 = v) (k : own_Goes p e below T (mkF m pc' Ls (.int v :: st)) Q) : own_Goes p e below T (mkF m pc Ls st) Q := by
  subst hp; subst hv; exact own_step (fun _ q => XS.sipush X.here hx rfl hd  q) k
theorem own_lconst (X : Stand p l e R s m args below meth c T locs cells slots) (hx : p.tables.exec = Jvm.exec) {i : Fin 2} {v : Int64} (hp : pc + 1 = pc') (hd : decode c.code pc = .ok (.lconst i, 1)) (hv : Int64.ofNat i = v) (k : own_Goes p e below T (mkF m pc' Ls (.long v :: st)) Q) : own_Goes p e below T (mkF m pc Ls st) Q := by
  subst hp; subst hv; exact own_step (fun _ q => XT.lconst X.here hx rfl hd  q) k
theorem own_anull (X : Stand p l e R s m args below meth c T locs cells slots) (hx : p.tables.exec = Jvm.exec)  (hp : pc + 1 = pc') (hd : decode c.code pc = .ok (.aconst_null, 1))  (k : own_Goes p e below T (mkF m pc' Ls (.null :: st)) Q) : own_Goes p e below T (mkF m pc Ls st) Q := by
  subst hp; exact own_step (fun _ q => XS.aconstNull X.here hx rfl hd  q) k
theorem own_iadd (X : Stand p l e R s m args below meth c T locs cells slots) (hx : p.tables.exec = Jvm.exec) {x y v : Int32} (hp : pc + 1 = pc') (hd : decode c.code pc = .ok (.iadd, 1)) (hv : x + y = v) (k : own_Goes p e below T (mkF m pc' Ls (.int v :: st)) Q) : own_Goes p e below T (mkF m pc Ls (.int y :: .int x :: st)) Q := by
  subst hp; subst hv; exact own_step (fun _ q => XS.iadd X.here hx rfl hd rfl q) k
theorem own_isub (X : Stand p l e R s m args below meth c T locs cells slots) (hx : p.tables.exec = Jvm.exec) {x y v : Int32} (hp : pc + 1 = pc') (hd : decode c.code pc = .ok (.isub, 1)) (hv : x - y = v) (k : own_Goes p e below T (mkF m pc' Ls (.int v :: st)) Q) : own_Goes p e below T (mkF m pc Ls (.int y :: .int x :: st)) Q := by
  subst hp; subst hv; exact own_step (fun _ q => XS.isub X.here hx rfl hd rfl q) k
theorem own_imul (X : Stand p l e R s m args below meth c T locs cells slots) (hx : p.tables.exec = Jvm.exec) {x y v : Int32} (hp : pc + 1 = pc') (hd : decode c.code pc = .ok (.imul, 1)) (hv : x * y = v) (k : own_Goes p e below T (mkF m pc' Ls (.int v :: st)) Q) : own_Goes p e below T (mkF m pc Ls (.int y :: .int x :: st)) Q := by
  subst hp; subst hv; exact own_step (fun _ q => XS.imul X.here hx rfl hd rfl q) k
theorem own_iand (X : Stand p l e R s m args below meth c T locs cells slots) (hx : p.tables.exec = Jvm.exec) {x y v : Int32} (hp : pc + 1 = pc') (hd : decode c.code pc = .ok (.iand, 1)) (hv : x &&& y = v) (k : own_Goes p e below T (mkF m pc' Ls (.int v :: st)) Q) : own_Goes p e below T (mkF m pc Ls (.int y :: .int x :: st)) Q := by
  subst hp; subst hv; exact own_step (fun _ q => XS.iand X.here hx rfl hd rfl q) k
theorem own_ior (X : Stand p l e R s m args below meth c T locs cells slots) (hx : p.tables.exec = Jvm.exec) {x y v : Int32} (hp : pc + 1 = pc') (hd : decode c.code pc = .ok (.ior, 1)) (hv : x ||| y = v) (k : own_Goes p e below T (mkF m pc' Ls (.int v :: st)) Q) : own_Goes p e below T (mkF m pc Ls (.int y :: .int x :: st)) Q := by
  subst hp; subst hv; exact own_step (fun _ q => XT.ior X.here hx rfl hd rfl q) k
theorem own_ixor (X : Stand p l e R s m args below meth c T locs cells slots) (hx : p.tables.exec = Jvm.exec) {x y v : Int32} (hp : pc + 1 = pc') (hd : decode c.code pc = .ok (.ixor, 1)) (hv : x ^^^ y = v) (k : own_Goes p e below T (mkF m pc' Ls (.int v :: st)) Q) : own_Goes p e below T (mkF m pc Ls (.int y :: .int x :: st)) Q := by
  subst hp; subst hv; exact own_step (fun _ q => XT.ixor X.here hx rfl hd rfl q) k
theorem own_ishl (X : Stand p l e R s m args below meth c T locs cells slots) (hx : p.tables.exec = Jvm.exec) {x y v : Int32} (hp : pc + 1 = pc') (hd : decode c.code pc = .ok (.ishl, 1)) (hv : x <<< (y &&& 31) = v) (k : own_Goes p e below T (mkF m pc' Ls (.int v :: st)) Q) : own_Goes p e below T (mkF m pc Ls (.int y :: .int x :: st)) Q := by
  subst hp; subst hv; exact own_step (fun _ q => XT.ishl X.here hx rfl hd rfl q) k
theorem own_ishr (X : Stand p l e R s m args below meth c T locs cells slots) (hx : p.tables.exec = Jvm.exec) {x y v : Int32} (hp : pc + 1 = pc') (hd : decode c.code pc = .ok (.ishr, 1)) (hv : x >>> (y &&& 31) = v) (k : own_Goes p e below T (mkF m pc' Ls (.int v :: st)) Q) : own_Goes p e below T (mkF m pc Ls (.int y :: .int x :: st)) Q := by
  subst hp; subst hv; exact own_step (fun _ q => XT.ishr X.here hx rfl hd rfl q) k
theorem own_iushr (X : Stand p l e R s m args below meth c T locs cells slots) (hx : p.tables.exec = Jvm.exec) {x y v : Int32} (hp : pc + 1 = pc') (hd : decode c.code pc = .ok (.iushr, 1)) (hv : XT.ushr x y = v) (k : own_Goes p e below T (mkF m pc' Ls (.int v :: st)) Q) : own_Goes p e below T (mkF m pc Ls (.int y :: .int x :: st)) Q := by
  subst hp; subst hv; exact own_step (fun _ q => XT.iushr X.here hx rfl hd rfl q) k
theorem own_idiv (X : Stand p l e R s m args below meth c T locs cells slots) (hx : p.tables.exec = Jvm.exec) {x y v : Int32} (hp : pc + 1 = pc') (hd : decode c.code pc = .ok (.idiv, 1)) (hy : y ≠ 0) (hv : x / y = v) (k : own_Goes p e below T (mkF m pc' Ls (.int v :: st)) Q) : own_Goes p e below T (mkF m pc Ls (.int y :: .int x :: st)) Q := by
  subst hp; subst hv; exact own_step (fun _ q => XS.idiv X.here hx rfl hd rfl hy q) k
theorem own_irem (X : Stand p l e R s m args below meth c T locs cells slots) (hx : p.tables.exec = Jvm.exec) {x y v : Int32} (hp : pc + 1 = pc') (hd : decode c.code pc = .ok (.irem, 1)) (hy : y ≠ 0) (hv : x % y = v) (k : own_Goes p e below T (mkF m pc' Ls (.int v :: st)) Q) : own_Goes p e below T (mkF m pc Ls (.int y :: .int x :: st)) Q := by
  subst hp; subst hv; exact own_step (fun _ q => iremM X hx rfl hd rfl hy q) k
theorem own_ladd (X : Stand p l e R s m args below meth c T locs cells slots) (hx : p.tables.exec = Jvm.exec) {x y v : Int64} (hp : pc + 1 = pc') (hd : decode c.code pc = .ok (.ladd, 1)) (hv : x + y = v) (k : own_Goes p e below T (mkF m pc' Ls (.long v :: st)) Q) : own_Goes p e below T (mkF m pc Ls (.long y :: .long x :: st)) Q := by
  subst hp; subst hv; exact own_step (fun _ q => XT.ladd X.here hx rfl hd rfl q) k
theorem own_lsub (X : Stand p l e R s m args below meth c T locs cells slots) (hx : p.tables.exec = Jvm.exec) {x y v : Int64} (hp : pc + 1 = pc') (hd : decode c.code pc = .ok (.lsub, 1)) (hv : x - y = v) (k : own_Goes p e below T (mkF m pc' Ls (.long v :: st)) Q) : own_Goes p e below T (mkF m pc Ls (.long y :: .long x :: st)) Q := by
  subst hp; subst hv; exact own_step (fun _ q => XT.lsub X.here hx rfl hd rfl q) k
theorem own_lmul (X : Stand p l e R s m args below meth c T locs cells slots) (hx : p.tables.exec = Jvm.exec) {x y v : Int64} (hp : pc + 1 = pc') (hd : decode c.code pc = .ok (.lmul, 1)) (hv : x * y = v) (k : own_Goes p e below T (mkF m pc' Ls (.long v :: st)) Q) : own_Goes p e below T (mkF m pc Ls (.long y :: .long x :: st)) Q := by
  subst hp; subst hv; exact own_step (fun _ q => XT.lmul X.here hx rfl hd rfl q) k
theorem own_land (X : Stand p l e R s m args below meth c T locs cells slots) (hx : p.tables.exec = Jvm.exec) {x y v : Int64} (hp : pc + 1 = pc') (hd : decode c.code pc = .ok (.land, 1)) (hv : x &&& y = v) (k : own_Goes p e below T (mkF m pc' Ls (.long v :: st)) Q) : own_Goes p e below T (mkF m pc Ls (.long y :: .long x :: st)) Q := by
  subst hp; subst hv; exact own_step (fun _ q => XT.land X.here hx rfl hd rfl q) k
theorem own_lor (X : Stand p l e R s m args below meth c T locs cells slots) (hx : p.tables.exec = Jvm.exec) {x y v : Int64} (hp : pc + 1 = pc') (hd : decode c.code pc = .ok (.lor, 1)) (hv : x ||| y = v) (k : own_Goes p e below T (mkF m pc' Ls (.long v :: st)) Q) : own_Goes p e below T (mkF m pc Ls (.long y :: .long x :: st)) Q := by
  subst hp; subst hv; exact own_step (fun _ q => XT.lor X.here hx rfl hd rfl q) k
theorem own_lxor (X : Stand p l e R s m args below meth c T locs cells slots) (hx : p.tables.exec = Jvm.exec) {x y v : Int64} (hp : pc + 1 = pc') (hd : decode c.code pc = .ok (.lxor, 1)) (hv : x ^^^ y = v) (k : own_Goes p e below T (mkF m pc' Ls (.long v :: st)) Q) : own_Goes p e below T (mkF m pc Ls (.long y :: .long x :: st)) Q := by
  subst hp; subst hv; exact own_step (fun _ q => XT.lxor X.here hx rfl hd rfl q) k
theorem own_ldiv (X : Stand p l e R s m args below meth c T locs cells slots) (hx : p.tables.exec = Jvm.exec) {x y v : Int64} (hp : pc + 1 = pc') (hd : decode c.code pc = .ok (.ldiv, 1)) (hy : y ≠ 0) (hv : x / y = v) (k : own_Goes p e below T (mkF m pc' Ls (.long v :: st)) Q) : own_Goes p e below T (mkF m pc Ls (.long y :: .long x :: st)) Q := by
  subst hp; subst hv; exact own_step (fun _ q => XT.ldiv X.here hx rfl hd rfl hy q) k
theorem own_ineg (X : Stand p l e R s m args below meth c T locs cells slots) (hx : p.tables.exec = Jvm.exec) {x v : Int32} (hp : pc + 1 = pc') (hd : decode c.code pc = .ok (.ineg, 1)) (hv : -x = v) (k : own_Goes p e below T (mkF m pc' Ls (.int v :: st)) Q) : own_Goes p e below T (mkF m pc Ls (.int x :: st)) Q := by
  subst hp; subst hv; exact own_step (fun _ q => XS.ineg X.here hx rfl hd rfl q) k
theorem own_lneg (X : Stand p l e R s m args below meth c T locs cells slots) (hx : p.tables.exec = Jvm.exec) {x v : Int64} (hp : pc + 1 = pc') (hd : decode c.code pc = .ok (.lneg, 1)) (hv : -x = v) (k : own_Goes p e below T (mkF m pc' Ls (.long v :: st)) Q) : own_Goes p e below T (mkF m pc Ls (.long x :: st)) Q := by
  subst hp; subst hv; exact own_step (fun _ q => XT.lneg X.here hx rfl hd rfl q) k
theorem own_i2l (X : Stand p l e R s m args below meth c T locs cells slots) (hx : p.tables.exec = Jvm.exec) {x : Int32} {v : Int64} (hp : pc + 1 = pc') (hd : decode c.code pc = .ok (.i2l, 1)) (hv : x.toInt64 = v) (k : own_Goes p e below T (mkF m pc' Ls (.long v :: st)) Q) : own_Goes p e below T (mkF m pc Ls (.int x :: st)) Q := by
  subst hp; subst hv; exact own_step (fun _ q => XT.i2l X.here hx rfl hd rfl q) k
theorem own_l2i (X : Stand p l e R s m args below meth c T locs cells slots) (hx : p.tables.exec = Jvm.exec) {x : Int64} {v : Int32} (hp : pc + 1 = pc') (hd : decode c.code pc = .ok (.l2i, 1)) (hv : x.toInt32 = v) (k : own_Goes p e below T (mkF m pc' Ls (.int v :: st)) Q) : own_Goes p e below T (mkF m pc Ls (.long x :: st)) Q := by
  subst hp; subst hv; exact own_step (fun _ q => XT.l2i X.here hx rfl hd rfl q) k
theorem own_i2b (X : Stand p l e R s m args below meth c T locs cells slots) (hx : p.tables.exec = Jvm.exec) {x v : Int32} (hp : pc + 1 = pc') (hd : decode c.code pc = .ok (.i2b, 1)) (hv : x.toInt8.toInt32 = v) (k : own_Goes p e below T (mkF m pc' Ls (.int v :: st)) Q) : own_Goes p e below T (mkF m pc Ls (.int x :: st)) Q := by
  subst hp; subst hv; exact own_step (fun _ q => XT.i2b X.here hx rfl hd rfl q) k
theorem own_i2c (X : Stand p l e R s m args below meth c T locs cells slots) (hx : p.tables.exec = Jvm.exec) {x v : Int32} (hp : pc + 1 = pc') (hd : decode c.code pc = .ok (.i2c, 1)) (hv : x.toUInt32.toUInt16.toUInt32.toInt32 = v) (k : own_Goes p e below T (mkF m pc' Ls (.int v :: st)) Q) : own_Goes p e below T (mkF m pc Ls (.int x :: st)) Q := by
  subst hp; subst hv; exact own_step (fun _ q => XT.i2c X.here hx rfl hd rfl q) k
theorem own_i2s (X : Stand p l e R s m args below meth c T locs cells slots) (hx : p.tables.exec = Jvm.exec) {x v : Int32} (hp : pc + 1 = pc') (hd : decode c.code pc = .ok (.i2s, 1)) (hv : x.toInt16.toInt32 = v) (k : own_Goes p e below T (mkF m pc' Ls (.int v :: st)) Q) : own_Goes p e below T (mkF m pc Ls (.int x :: st)) Q := by
  subst hp; subst hv; exact own_step (fun _ q => XT.i2s X.here hx rfl hd rfl q) k
theorem own_lcmp (X : Stand p l e R s m args below meth c T locs cells slots) (hx : p.tables.exec = Jvm.exec) {x y : Int64} (hp : pc + 1 = pc') (hd : decode c.code pc = .ok (.lcmp, 1))  (k : own_Goes p e below T (mkF m pc' Ls (.int (XT.cmpL x y) :: st)) Q) : own_Goes p e below T (mkF m pc Ls (.long y :: .long x :: st)) Q := by
  subst hp; exact own_step (fun _ q => XT.lcmp X.here hx rfl hd rfl q) k
theorem own_iinc (X : Stand p l e R s m args below meth c T locs cells slots) (hx : p.tables.exec = Jvm.exec) {n : Nat} {i : Int} {x v : Int32} (hp : pc + 3 = pc') (hd : decode c.code pc = .ok (.iinc n i, 3)) (hl : Ls[n]? = some (.val (.int x))) (hv : x + Int32.ofInt i = v) (hl' : storeLocals Ls n (.int v) = some Ls') (k : own_Goes p e below T (mkF m pc' Ls' st) Q) : own_Goes p e below T (mkF m pc Ls st) Q := by
  subst hp; subst hv; exact own_step (fun _ q => XS.iinc X.here hx rfl hd hl hl' q) k
theorem own_dup (X : Stand p l e R s m args below meth c T locs cells slots) (hx : p.tables.exec = Jvm.exec) {x : Value} (hp : pc + 1 = pc') (hd : decode c.code pc = .ok (.dup, 1)) (hc : x.category = 1) (k : own_Goes p e below T (mkF m pc' Ls (x :: x :: st)) Q) : own_Goes p e below T (mkF m pc Ls (x :: st)) Q := by
  subst hp; exact own_step (fun _ q => XS.dup X.here hx rfl hd rfl hc q) k
theorem own_pop (X : Stand p l e R s m args below meth c T locs cells slots) (hx : p.tables.exec = Jvm.exec) {x : Value} (hp : pc + 1 = pc') (hd : decode c.code pc = .ok (.pop, 1)) (hc : x.category = 1) (k : own_Goes p e below T (mkF m pc' Ls st) Q) : own_Goes p e below T (mkF m pc Ls (x :: st)) Q := by
  subst hp; exact own_step (fun _ q => XT.pop X.here hx rfl hd rfl hc q) k
theorem own_goto (X : Stand p l e R s m args below meth c T locs cells slots) (hx : p.tables.exec = Jvm.exec) {o : Int} (hd : decode c.code pc = .ok (.goto o, 3)) (ho : 0 ≤ (pc : Int) + o) (hp : ((pc : Int) + o).toNat = pc') (k : own_Goes p e below T (mkF m pc' Ls st) Q) : own_Goes p e below T (mkF m pc Ls st) Q := own_step (fun _ q => XS.goto X.here hx rfl (pc0 := pc) (pc' := pc') rfl hd ho hp q) k
theorem own_ifT (X : Stand p l e R s m args below meth c T locs cells slots) (hx : p.tables.exec = Jvm.exec) {cd : ClassFile.Cond} {x : Int32} {o : Int} (hd : decode c.code pc = .ok (.ifCond cd o, 3)) (hc : ifCond.holds cd x = true) (ho : 0 ≤ (pc : Int) + o) (hp : ((pc : Int) + o).toNat = pc') (k : own_Goes p e below T (mkF m pc' Ls st) Q) : own_Goes p e below T (mkF m pc Ls (.int x :: st)) Q := own_step (fun _ q => XS.ifYes X.here hx rfl (pc0 := pc) (pc' := pc') rfl hd rfl hc ho hp q) k
theorem own_ifF (X : Stand p l e R s m args below meth c T locs cells slots) (hx : p.tables.exec = Jvm.exec) {cd : ClassFile.Cond} {x : Int32} {o : Int} (hp : pc + 3 = pc') (hd : decode c.code pc = .ok (.ifCond cd o, 3)) (hc : ifCond.holds cd x = false) (k : own_Goes p e below T (mkF m pc' Ls st) Q) : own_Goes p e below T (mkF m pc Ls (.int x :: st)) Q := by
  subst hp; exact own_step (fun _ q => XS.ifNo X.here hx rfl hd rfl hc q) k
theorem own_icmpT (X : Stand p l e R s m args below meth c T locs cells slots) (hx : p.tables.exec = Jvm.exec) {cd : ClassFile.Cond} {x y : Int32} {o : Int} (hd : decode c.code pc = .ok (.if_icmp cd o, 3)) (hc : if_icmp.holds cd x y = true) (ho : 0 ≤ (pc : Int) + o) (hp : ((pc : Int) + o).toNat = pc') (k : own_Goes p e below T (mkF m pc' Ls st) Q) : own_Goes p e below T (mkF m pc Ls (.int y :: .int x :: st)) Q := own_step (fun _ q => XS.icmpYes X.here hx rfl (pc0 := pc) (pc' := pc') rfl hd rfl hc ho hp q) k
theorem own_icmpF (X : Stand p l e R s m args below meth c T locs cells slots) (hx : p.tables.exec = Jvm.exec) {cd : ClassFile.Cond} {x y : Int32} {o : Int} (hp : pc + 3 = pc') (hd : decode c.code pc = .ok (.if_icmp cd o, 3)) (hc : if_icmp.holds cd x y = false) (k : own_Goes p e below T (mkF m pc' Ls st) Q) : own_Goes p e below T (mkF m pc Ls (.int y :: .int x :: st)) Q := by
  subst hp; exact own_step (fun _ q => XS.icmpNo X.here hx rfl hd rfl hc q) k
theorem own_acmpT (X : Stand p l e R s m args below meth c T locs cells slots) (hx : p.tables.exec = Jvm.exec) {cd : ClassFile.ACond} {x y : Value} {o : Int} (hd : decode c.code pc = .ok (.if_acmp cd o, 3)) (h1 : x.isRef = true) (h2 : y.isRef = true) (hc : XT.acmp cd x y = true) (ho : 0 ≤ (pc : Int) + o) (hp : ((pc : Int) + o).toNat = pc') (k : own_Goes p e below T (mkF m pc' Ls st) Q) : own_Goes p e below T (mkF m pc Ls (y :: x :: st)) Q := own_step (fun _ q => XT.acmpYes X.here hx rfl (pc0 := pc) (pc' := pc') rfl hd rfl h1 h2 hc ho hp q) k
theorem own_acmpF (X : Stand p l e R s m args below meth c T locs cells slots) (hx : p.tables.exec = Jvm.exec) {cd : ClassFile.ACond} {x y : Value} {o : Int} (hp : pc + 3 = pc') (hd : decode c.code pc = .ok (.if_acmp cd o, 3)) (h1 : x.isRef = true) (h2 : y.isRef = true) (hc : XT.acmp cd x y = false) (k : own_Goes p e below T (mkF m pc' Ls st) Q) : own_Goes p e below T (mkF m pc Ls (y :: x :: st)) Q := by
  subst hp; exact own_step (fun _ q => XT.acmpNo X.here hx rfl hd rfl h1 h2 hc q) k
theorem own_ldc (X : Stand p l e R s m args below meth c T locs cells slots) (hx : p.tables.exec = Jvm.exec) (hZ : Z.Warmed39 s.vm) {own : String} {index : Nat} {v : Int32} (hown : s.vm.findClass own = some m.cls) (w : (Jvm.Cond.constant own index v).before a0 Z = true) (hp : pc + 2 = pc') (hd : decode c.code pc = .ok (.ldc index, 2)) (k : own_Goes p e below T (mkF m pc' Ls (.int v :: st)) Q) : own_Goes p e below T (mkF m pc Ls st) Q := by
  subst hp; exact own_step (fun _ q => X.ldcI hx hown (mvT hZ w) rfl hd q) k
theorem own_ldc2_w (X : Stand p l e R s m args below meth c T locs cells slots) (hx : p.tables.exec = Jvm.exec) (hZ : Z.Warmed39 s.vm) {own : String} {index : Nat} {v : Int64} (hown : s.vm.findClass own = some m.cls) (w : (Jvm.Cond.constantLong own index v).before a0 Z = true) (hp : pc + 3 = pc') (hd : decode c.code pc = .ok (.ldc2_w index, 3)) (k : own_Goes p e below T (mkF m pc' Ls (.long v :: st)) Q) : own_Goes p e below T (mkF m pc Ls st) Q := by
  subst hp; exact own_step (fun _ q => X.ldc2J hx hown (mvT hZ w) rfl hd q) k
theorem own_retW (X : Stand p l e R s m args below meth c T locs cells slots) (hx : p.tables.exec = Jvm.exec) (hlk : meth.locks = false) {w : Option Value} (hv : meth.sig.returnType = none → w = none) {F : JFrame} (run : ∀ fs, (∀ (f : JFrame) (acts : List Action), f.method = m → f.locked = none → f.entered = [] → (doReturn e (T.setTop f) acts w).1 = T.setFrames fs) → Steps p.tables e below (T.setTop F) (T.setFrames fs)) {K : Option Value → Heap → List Loc → Prop} {rc rs : Nat} (hc : cells ≤ rc) (hs : slots ≤ rs) (hQ : K w T.heap locs) : own_Goes p e below T F (own_Ret s K rc rs) := by
  obtain ⟨fs, hr, hrun, hended, hW, hsame⟩ := X.leave (v := w) hv hlk
  exact ⟨_, _, run fs hr, hrun, hended, w, locs, rfl, hQ, ⟨_, rfl⟩, hW, hsame.mono hc hs⟩
theorem own_iret (X : Stand p l e R s m args below meth c T locs cells slots) (hx : p.tables.exec = Jvm.exec) (hlk : meth.locks = false) {z : Int32} (hret : meth.sig.returnType = some .int) (hd : decode c.code pc = .ok (.ireturn, 1)) {K : Option Value → Heap → List Loc → Prop} {rc rs : Nat} (hc : cells ≤ rc) (hs : slots ≤ rs) (hQ : K (some (.int z)) T.heap locs) : own_Goes p e below T (mkF m pc Ls (.int z :: st)) (own_Ret s K rc rs) :=
  own_retW X hx hlk (fun q => by rw [hret] at q; cases q) (fun fs hr => retOut X hx hret rfl (Or.inl ⟨rfl, Or.inl rfl, z, rfl⟩) hd hr) hc hs hQ
theorem own_zret (X : Stand p l e R s m args below meth c T locs cells slots) (hx : p.tables.exec = Jvm.exec) (hlk : meth.locks = false) {z : Int32} {t : FieldType} (hret : meth.sig.returnType = some t) (ht : t = .boolean ∨ t = .byte ∨ t = .char ∨ t = .short) (hd : decode c.code pc = .ok (.ireturn, 1)) {K : Option Value → Heap → List Loc → Prop} {rc rs : Nat} (hc : cells ≤ rc) (hs : slots ≤ rs) (hQ : K (some (.int (nar t z))) T.heap locs) : own_Goes p e below T (mkF m pc Ls (.int z :: st)) (own_Ret s K rc rs) :=
  own_retW X hx hlk (fun q => by rw [hret] at q; cases q) (fun fs hr => retN X hx hret ht hd hr) hc hs hQ
theorem own_lret (X : Stand p l e R s m args below meth c T locs cells slots) (hx : p.tables.exec = Jvm.exec) (hlk : meth.locks = false) {z : Int64} (hret : meth.sig.returnType = some .long) (hd : decode c.code pc = .ok (.lreturn, 1)) {K : Option Value → Heap → List Loc → Prop} {rc rs : Nat} (hc : cells ≤ rc) (hs : slots ≤ rs) (hQ : K (some (.long z)) T.heap locs) : own_Goes p e below T (mkF m pc Ls (.long z :: st)) (own_Ret s K rc rs) :=
  own_retW X hx hlk (fun q => by rw [hret] at q; cases q) (fun fs hr => retOut X hx hret rfl (Or.inr (Or.inl ⟨rfl, rfl, z, rfl⟩)) hd hr) hc hs hQ
theorem own_aret (X : Stand p l e R s m args below meth c T locs cells slots) (hx : p.tables.exec = Jvm.exec) (hlk : meth.locks = false) {z : Value} {t : FieldType} (hret : meth.sig.returnType = some t) (ht : t.isReference = true) (hz : z.isRef = true) (hd : decode c.code pc = .ok (.areturn, 1)) {K : Option Value → Heap → List Loc → Prop} {rc rs : Nat} (hc : cells ≤ rc) (hs : slots ≤ rs) (hQ : K (some z) T.heap locs) : own_Goes p e below T (mkF m pc Ls (z :: st)) (own_Ret s K rc rs) :=
  own_retW X hx hlk (fun q => by rw [hret] at q; cases q) (fun fs hr => retOut X hx hret (by cases t <;> simp [FieldType.isReference] at ht <;> cases z <;> simp [Value.isRef] at hz <;> rfl) (Or.inr (Or.inr (Or.inr (Or.inr ⟨rfl, ht, hz⟩)))) hd hr) hc hs hQ
theorem own_ret (X : Stand p l e R s m args below meth c T locs cells slots) (hx : p.tables.exec = Jvm.exec) (hlk : meth.locks = false) (hret : meth.sig.returnType = none) (hd : decode c.code pc = .ok (.return_, 1)) {K : Option Value → Heap → List Loc → Prop} {rc rs : Nat} (hc : cells ≤ rc) (hs : slots ≤ rs) (hQ : K none T.heap locs) : own_Goes p e below T (mkF m pc Ls []) (own_Ret s K rc rs) :=
  own_retW X hx hlk (fun _ => rfl) (fun fs hr => X.returnOut hx hret hd hr) hc hs hQ
theorem own_dload (X : Stand p l e R s m args below meth c T locs cells slots) (hx : p.tables.exec = Jvm.exec) {k : Nat} {v : UInt64} (hp : pc + 2 = pc') (hd : decode c.code pc = .ok (.dload k, 2)) (hl : Ls[k]? = some (.val (.double v))) (k : own_Goes p e below T (mkF m pc' Ls (.double v :: st)) Q) : own_Goes p e below T (mkF m pc Ls st) Q := by
  subst hp; exact own_step (fun _ q => XS.dload X.here hx rfl hd hl q) k
theorem own_dloadN (X : Stand p l e R s m args below meth c T locs cells slots) (hx : p.tables.exec = Jvm.exec) {k : Fin 4} {v : UInt64} (hp : pc + 1 = pc') (hd : decode c.code pc = .ok (.dload_n k, 1)) (hl : Ls[k.val]? = some (.val (.double v))) (k : own_Goes p e below T (mkF m pc' Ls (.double v :: st)) Q) : own_Goes p e below T (mkF m pc Ls st) Q := by
  subst hp; exact own_step (fun _ q => XS.dloadN X.here hx rfl hd hl q) k
theorem own_dstore (X : Stand p l e R s m args below meth c T locs cells slots) (hx : p.tables.exec = Jvm.exec) {k : Nat} {v : UInt64} (hp : pc + 2 = pc') (hd : decode c.code pc = .ok (.dstore k, 2)) (hl : storeLocals Ls k (.double v) = some Ls') (k : own_Goes p e below T (mkF m pc' Ls' st) Q) : own_Goes p e below T (mkF m pc Ls (.double v :: st)) Q := by
  subst hp; exact own_step (fun _ q => XS.dstore X.here hx rfl hd rfl hl q) k
theorem own_dstoreN (X : Stand p l e R s m args below meth c T locs cells slots) (hx : p.tables.exec = Jvm.exec) {k : Fin 4} {v : UInt64} (hp : pc + 1 = pc') (hd : decode c.code pc = .ok (.dstore_n k, 1)) (hl : storeLocals Ls k.val (.double v) = some Ls') (k : own_Goes p e below T (mkF m pc' Ls' st) Q) : own_Goes p e below T (mkF m pc Ls (.double v :: st)) Q := by
  subst hp; exact own_step (fun _ q => XS.dstoreN X.here hx rfl hd rfl hl q) k
theorem own_dconst0 (X : Stand p l e R s m args below meth c T locs cells slots) (hx : p.tables.exec = Jvm.exec) {v : UInt64} (hp : pc + 1 = pc') (hd : decode c.code pc = .ok (.dconst 0, 1)) (hv : FP.dconst0 = v) (k : own_Goes p e below T (mkF m pc' Ls (.double v :: st)) Q) : own_Goes p e below T (mkF m pc Ls st) Q := by
  subst hp; exact own_step (fun _ q => XS.dconst0 X.here hx rfl hd hv q) k
theorem own_dconst1 (X : Stand p l e R s m args below meth c T locs cells slots) (hx : p.tables.exec = Jvm.exec) {v : UInt64} (hp : pc + 1 = pc') (hd : decode c.code pc = .ok (.dconst 1, 1)) (hv : FP.dconst1 = v) (k : own_Goes p e below T (mkF m pc' Ls (.double v :: st)) Q) : own_Goes p e below T (mkF m pc Ls st) Q := by
  subst hp; exact own_step (fun _ q => XS.dconst1 X.here hx rfl hd hv q) k
theorem own_i2d (X : Stand p l e R s m args below meth c T locs cells slots) (hx : p.tables.exec = Jvm.exec) {x : Int32} {v : UInt64} (hp : pc + 1 = pc') (hd : decode c.code pc = .ok (.i2d, 1)) (hv : FP.i2d x = v) (k : own_Goes p e below T (mkF m pc' Ls (.double v :: st)) Q) : own_Goes p e below T (mkF m pc Ls (.int x :: st)) Q := by
  subst hp; exact own_step (fun _ q => XS.i2dS X.here hx rfl hd rfl hv q) k
theorem own_l2d (X : Stand p l e R s m args below meth c T locs cells slots) (hx : p.tables.exec = Jvm.exec) {x : Int64} {v : UInt64} (hp : pc + 1 = pc') (hd : decode c.code pc = .ok (.l2d, 1)) (hv : FP.l2d x = v) (k : own_Goes p e below T (mkF m pc' Ls (.double v :: st)) Q) : own_Goes p e below T (mkF m pc Ls (.long x :: st)) Q := by
  subst hp; exact own_step (fun _ q => XS.l2dS X.here hx rfl hd rfl hv q) k
theorem own_dneg (X : Stand p l e R s m args below meth c T locs cells slots) (hx : p.tables.exec = Jvm.exec) {x v : UInt64} (hp : pc + 1 = pc') (hd : decode c.code pc = .ok (.dneg, 1)) (hv : FP.dneg x = v) (k : own_Goes p e below T (mkF m pc' Ls (.double v :: st)) Q) : own_Goes p e below T (mkF m pc Ls (.double x :: st)) Q := by
  subst hp; exact own_step (fun _ q => XS.dnegS X.here hx rfl hd rfl hv q) k
theorem own_dcmp (X : Stand p l e R s m args below meth c T locs cells slots) (hx : p.tables.exec = Jvm.exec) {o : CmpOp} {x y : UInt64} {v : Int32} (hp : pc + 1 = pc') (hd : decode c.code pc = .ok (.dcmp o, 1)) (hv : cmpValue (FP.dcmp x y) o = v) (k : own_Goes p e below T (mkF m pc' Ls (.int v :: st)) Q) : own_Goes p e below T (mkF m pc Ls (.double y :: .double x :: st)) Q := by
  subst hp; exact own_step (fun _ q => XS.dcmpS X.here hx rfl hd rfl hv q) k
theorem own_dadd (X : Stand p l e R s m args below meth c T locs cells slots) (hx : p.tables.exec = Jvm.exec) {x y v : UInt64} (hp : pc + 1 = pc') (hd : decode c.code pc = .ok (.dadd, 1)) (hn : Jvm.Free.Fl.NoNaN64 (FP.dadd x y)) (hv : FP.dadd x y = v) (k : own_Goes p e below T (mkF m pc' Ls (.double v :: st)) Q) : own_Goes p e below T (mkF m pc Ls (.double y :: .double x :: st)) Q := by
  subst hp; exact own_step (fun _ q => XS.daddS X.here hx rfl hd rfl hn hv q) k
theorem own_dsub (X : Stand p l e R s m args below meth c T locs cells slots) (hx : p.tables.exec = Jvm.exec) {x y v : UInt64} (hp : pc + 1 = pc') (hd : decode c.code pc = .ok (.dsub, 1)) (hn : Jvm.Free.Fl.NoNaN64 (FP.dsub x y)) (hv : FP.dsub x y = v) (k : own_Goes p e below T (mkF m pc' Ls (.double v :: st)) Q) : own_Goes p e below T (mkF m pc Ls (.double y :: .double x :: st)) Q := by
  subst hp; exact own_step (fun _ q => XS.dsubS X.here hx rfl hd rfl hn hv q) k
theorem own_dmul (X : Stand p l e R s m args below meth c T locs cells slots) (hx : p.tables.exec = Jvm.exec) {x y v : UInt64} (hp : pc + 1 = pc') (hd : decode c.code pc = .ok (.dmul, 1)) (hn : Jvm.Free.Fl.NoNaN64 (FP.dmul x y)) (hv : FP.dmul x y = v) (k : own_Goes p e below T (mkF m pc' Ls (.double v :: st)) Q) : own_Goes p e below T (mkF m pc Ls (.double y :: .double x :: st)) Q := by
  subst hp; exact own_step (fun _ q => XS.dmulS X.here hx rfl hd rfl hn hv q) k
theorem own_ddiv (X : Stand p l e R s m args below meth c T locs cells slots) (hx : p.tables.exec = Jvm.exec) {x y v : UInt64} (hp : pc + 1 = pc') (hd : decode c.code pc = .ok (.ddiv, 1)) (hn : Jvm.Free.Fl.NoNaN64 (FP.ddiv x y)) (hv : FP.ddiv x y = v) (k : own_Goes p e below T (mkF m pc' Ls (.double v :: st)) Q) : own_Goes p e below T (mkF m pc Ls (.double y :: .double x :: st)) Q := by
  subst hp; exact own_step (fun _ q => XS.ddivS X.here hx rfl hd rfl hn hv q) k
theorem own_ldcD (X : Stand p l e R s m args below meth c T locs cells slots) (hx : p.tables.exec = Jvm.exec) (hZ : Z.Warmed39 s.vm) {own : String} {index : Nat} {v : UInt64} (hown : s.vm.findClass own = some m.cls) (w : (Jvm.Cond.constantDouble own index v).before a0 Z = true) (hp : pc + 3 = pc') (hd : decode c.code pc = .ok (.ldc2_w index, 3)) (k : own_Goes p e below T (mkF m pc' Ls (.double v :: st)) Q) : own_Goes p e below T (mkF m pc Ls st) Q := by
  subst hp; exact own_step (fun t q => X.ldc2DoubleC hx hown (mvT hZ w) (g := mkF m pc Ls st) rfl hd t q) k
theorem own_dret (X : Stand p l e R s m args below meth c T locs cells slots) (hx : p.tables.exec = Jvm.exec) (hlk : meth.locks = false) {z : UInt64} (hret : meth.sig.returnType = some .double) (hd : decode c.code pc = .ok (.dreturn, 1)) {K : Option Value → Heap → List Loc → Prop} {rc rs : Nat} (hc : cells ≤ rc) (hs : slots ≤ rs) (hQ : K (some (.double z)) T.heap locs) : own_Goes p e below T (mkF m pc Ls (.double z :: st)) (own_Ret s K rc rs) :=
  own_retW X hx hlk (fun q => by rw [hret] at q; cases q) (fun fs hr => retOut X hx hret rfl (Or.inr (Or.inr (Or.inl ⟨rfl, rfl, z, rfl⟩))) hd hr) hc hs hQ
theorem own_getF (X : Stand p l e R s m args below meth c T locs cells slots) (hx : p.tables.exec = Jvm.exec) (hZ : Z.Warmed39 s.vm) {own R0 O n d host : String} {index : Nat} (hown : s.vm.findClass own = some m.cls) (w : (Jvm.Cond.fieldLink own index R0 n d).before a0 Z = true ∨ (Jvm.Cond.fieldLinkNest own index R0 n d host).before a0 Z = true) (via : Via Z R0 O n d) (eT : T.heap = h) {a : Addr} {v : Value} (F : Fld Z h a O n d v) (hp : pc + 3 = pc') (hd : decode c.code pc = .ok (.getfield index, 3))
    (k : ∀ T', Stand p l e R s m args below meth c T' locs cells slots → T'.heap = h → own_Goes p e below T' (mkF m pc' Ls (v :: st)) Q) : own_Goes p e below T (mkF m pc Ls (.ref a :: st)) Q := by
  subst hp
  obtain ⟨T', X', e', stp⟩ := getF X hx hZ hown w via eT F (g := mkF m pc Ls (.ref a :: st)) rfl rfl hd
  exact own_step stp (k T' X' e')
theorem own_putF (X : Stand p l e R s m args below meth c T locs cells slots) (hx : p.tables.exec = Jvm.exec) (hZ : Z.Warmed39 s.vm) {own R0 O n d host C : String} {index kk : Nat} {ty : FieldType} (hown : s.vm.findClass own = some m.cls) (w : (Jvm.Cond.fieldLink own index R0 n d).before a0 Z = true ∨ (Jvm.Cond.fieldLinkNest own index R0 n d host).before a0 Z = true) (via : Via Z R0 O n d) (eT : T.heap = h) {a : Addr} {v old : Value} (F : Fld Z h a O n d old) (E : Exa Z h a C)
    (L : (Jvm.Cond.lays C O n d).before a0 Z = true ∨ ((Jvm.Cond.laysFinal C O n d).before a0 Z = true ∧ own = O ∧ meth.name = "<init>")) (wi : (Jvm.Cond.instantiable C kk).before a0 Z = true) (hty : parseFieldDescriptor d = some ty) (hn : narrow ty v = v) (hf : fits ty v = true) (hp : pc + 3 = pc') (hd : decode c.code pc = .ok (.putfield index, 3))
    (k : ∀ T' h', Stand p l e R s m args below meth c T' (locs ++ [⟨a, Jvm.RoadKit.slotOf Z O n d⟩]) cells slots → T'.heap = h' → Wr h h' a (Jvm.RoadKit.slotOf Z O n d) v → own_Goes p e below T' (mkF m pc' Ls st) Q) : own_Goes p e below T (mkF m pc Ls (v :: .ref a :: st)) Q := by
  subst hp
  obtain ⟨T', h', X', e', W', stp⟩ := putF X hx hZ hown w via eT F E L wi hty hn hf (g := mkF m pc Ls (v :: .ref a :: st)) rfl rfl hd
  exact own_step stp (k T' h' X' e' W')
theorem own_getS (X : Stand p l e R s m args below meth c T locs cells slots) (hx : p.tables.exec = Jvm.exec) (hZ : Z.Warmed39 s.vm) {own R0 O n d : String} {index : Nat} (hown : s.vm.findClass own = some m.cls) (w : (Jvm.Cond.fieldLink own index R0 n d).before a0 Z = true) (via : Via Z R0 O n d) (eT : T.heap = h) {v : Value} (F : Sta Z h O n d v) (hp : pc + 3 = pc') (hd : decode c.code pc = .ok (.getstatic index, 3))
    (k : ∀ T', Stand p l e R s m args below meth c T' locs cells slots → T'.heap = h → own_Goes p e below T' (mkF m pc' Ls (v :: st)) Q) : own_Goes p e below T (mkF m pc Ls st) Q := by
  subst hp
  obtain ⟨T', X', e', stp⟩ := getS X hx hZ (host := "") hown w via eT F (g := mkF m pc Ls st) rfl hd
  exact own_step stp (k T' X' e')
theorem own_new (X : Stand p l e R s m args below meth c T locs cells slots) (hx : p.tables.exec = Jvm.exec) (hZ : Z.Warmed39 s.vm) {own C : String} {index n : Nat} (hown : s.vm.findClass own = some m.cls) (w : (Jvm.Cond.classLink own index C).before a0 Z = true) (wi : (Jvm.Cond.instantiable C n).before a0 Z = true) (wz : (Jvm.Cond.initialized C).before a0 Z = true) (eT : T.heap = h) (hp : pc + 3 = pc') (hd : decode c.code pc = .ok (.new index, 3)) (hc : cells + 1 ≤ R.cells) (hl : slots + n ≤ R.slots)
    (k : ∀ T' h', Stand p l e R s m args below meth c T' locs (cells + 1) (slots + n) → T'.heap = h' → Ext h h' → Exa Z h' h.size C → (∀ {O nm d : String} {ty : FieldType}, Laid Z a0 C O nm d → parseFieldDescriptor d = some ty → Fld Z h' h.size O nm d (defaultValue ty)) → own_Goes p e below T' (mkF m pc' Ls (.ref h.size :: st)) Q) : own_Goes p e below T (mkF m pc Ls st) Q := by
  subst hp
  obtain ⟨T', h', X', e', E', A', D', -, stp⟩ := newO X hx hZ hown w wi wz eT (g := mkF m pc Ls st) rfl hd hc hl
  exact own_step stp (k T' h' X' e' E' A' D')
theorem own_initO (X : Stand p l e R s m args below meth c T locs cells slots) (hx : p.tables.exec = Jvm.exec) (hZ : Z.Warmed39 s.vm) {own : String} {idx : Nat} (hown : s.vm.findClass own = some m.cls) (w1 : (Jvm.Cond.methodLink own idx Lib.objectInit).before a0 Z = true) (w2 : (Jvm.Cond.instanceMethod Lib.objectInit).before a0 Z = true) (w3 : (Jvm.Cond.code Lib.objectInit ⟨#[0xb1]⟩ 1 none).before a0 Z = true) (eT : T.heap = h) (hsize : Ls.size = c.maxLocals) {a : Addr} (hp : pc + 3 = pc') (hd : decode c.code pc = .ok (.invokespecial idx, 3)) (hf : 1 ≤ R.frames) {W : Nat} (hW : (st.map fun v => v.category).sum ≤ W) (hl : W + 12 ≤ R.locals)
    (k : ∀ T', Stand p l e R s m args below meth c T' locs cells slots → T'.heap = h → own_Goes p e below T' (mkF m pc' Ls st) Q) : own_Goes p e below T (mkF m pc Ls (.ref a :: st)) Q := by
  subst hp
  obtain ⟨T', X', e', stp⟩ := initO X hx hZ hown w1 w2 w3 eT (g := mkF m pc Ls (.ref a :: st)) rfl hsize rfl hd hf (W := W) (by show 2 * 0 + _ ≤ _; omega) hl
  exact own_step stp (k T' X' e')
theorem own_callS (X : Stand p l e R s m args below meth c T locs cells slots) (hx : p.tables.exec = Jvm.exec) (hZ : Z.Warmed39 s.vm) {own : String} {index : Nat} {y : MethodName} {bytes : ByteArray} {maxL : Nat} {rt : Option FieldType} (hown : s.vm.findClass own = some m.cls) (w1 : (Jvm.Cond.methodLink own index y).before a0 Z = true) (w2 : (Jvm.Cond.static y).before a0 Z = true) (w3 : (Jvm.Cond.initialized y.cls).before a0 Z = true) (w4 : (Jvm.Cond.code y bytes maxL rt).before a0 Z = true) (hy : y.cls ≠ "java/lang/invoke/MethodHandle" ∧ y.cls ≠ "java/lang/invoke/VarHandle") {rm : Room} {as' : Array Value} {K : Option Value → Heap → List Loc → Prop} {W : Nat} (hM : MetFree l y (head1 [Jvm.Cond.code y bytes maxL rt] rm) (fun a U => a = as' ∧ Z.Warmed39 U.vm ∧ U.heap = h) (fun _ _ _ _ _ => True) (fun _ U o U' => ∃ v L, o = .returned v ∧ K v U'.heap L ∧ FrameEnd U o U' L rm.cells rm.slots)) (hf : rm.frames + 1 ≤ R.frames) (hl : W + (maxL + 11) + rm.locals ≤ R.locals) (hc : cells + rm.cells ≤ R.cells) (hs : slots + rm.slots ≤ R.slots) (eT : T.heap = h) (hsize : Ls.size = c.maxLocals) {argsL rest : List Value} (has : argsL.toArray = as') (hlen : ∀ sig, parseMethodDescriptor y.desc = some sig → argsL.length = sig.parameters.length) (hst : st = argsL.reverse ++ rest) (hW : (rest.map fun v => v.category).sum ≤ W) (hp : pc + 3 = pc') (hd : decode c.code pc = .ok (.invokestatic index, 3))
    (k : ∀ v T' L, Stand p l e R s m args below meth c T' (locs ++ L) (cells + rm.cells) (slots + rm.slots) → K v T'.heap L → own_Goes p e below T' (mkF m pc' Ls (v.toList ++ rest)) Q) : own_Goes p e below T (mkF m pc Ls st) Q := by
  subst hp
  obtain ⟨v, _, ⟨T', L', k', n'⟩, -, X', ⟨Lc, hQ, l1, y1, z1⟩, stp⟩ := Jvm.LawKit.callS X hx (y := y) hown (mvT hZ w1) (mvT hZ w2) (mvT hZ w3) (mvT hZ w4) hy (backOf (W := W) hM hZ w4 w3 hf hl) (g := mkF m pc Ls st) rfl hsize (argsL := argsL) (rest := rest) hlen hst (by show 2 * 0 + _ ≤ _; omega) hd (fun _ _ => ⟨has, eT, hc, hs⟩)
  dsimp only [Pt.U, Pt.locs, Pt.cells, Pt.slots] at X' l1 y1 z1 stp hQ
  subst l1 y1 z1
  exact own_step stp (k v T' Lc X' hQ)
theorem own_callC (X : Stand p l e R s m args below meth c T locs cells slots) (hx : p.tables.exec = Jvm.exec) (hZ : Z.Warmed39 s.vm) {own : String} {index : Nat} {y : MethodName} {bytes : ByteArray} {maxL : Nat} {a : Addr} (hy1 : y.name = "<init>") (hown : s.vm.findClass own = some m.cls) (w1 : (Jvm.Cond.methodLink own index y).before a0 Z = true) (w2 : (Jvm.Cond.instanceMethod y).before a0 Z = true) (w3 : (Jvm.Cond.initialized y.cls).before a0 Z = true) (w4 : (Jvm.Cond.code y bytes maxL none).before a0 Z = true) (hy : y.cls ≠ "java/lang/invoke/MethodHandle" ∧ y.cls ≠ "java/lang/invoke/VarHandle") {rm : Room} {as' : Array Value} {K : Option Value → Heap → List Loc → Prop} {W : Nat} (hM : MetFree l y (head1 [Jvm.Cond.code y bytes maxL none] rm) (fun a U => a = as' ∧ Z.Warmed39 U.vm ∧ U.heap = h) (fun _ _ _ _ _ => True) (fun _ U o U' => ∃ v L, o = .returned v ∧ K v U'.heap L ∧ FrameEnd U o U' L rm.cells rm.slots)) (hf : rm.frames + 1 ≤ R.frames) (hl : W + (maxL + 11) + rm.locals ≤ R.locals) (hc : cells + rm.cells ≤ R.cells) (hs : slots + rm.slots ≤ R.slots) (eT : T.heap = h) (hsize : Ls.size = c.maxLocals) {argsL rest : List Value} (has : (Value.ref a :: argsL).toArray = as') (hlen : ∀ sig, parseMethodDescriptor y.desc = some sig → argsL.length = sig.parameters.length) (hst : st = argsL.reverse ++ .ref a :: rest) (hW : (rest.map fun v => v.category).sum ≤ W) (hp : pc + 3 = pc') (hd : decode c.code pc = .ok (.invokespecial index, 3))
    (k : ∀ v T' L, Stand p l e R s m args below meth c T' (locs ++ L) (cells + rm.cells) (slots + rm.slots) → K v T'.heap L → own_Goes p e below T' (mkF m pc' Ls (v.toList ++ rest)) Q) : own_Goes p e below T (mkF m pc Ls st) Q := by
  subst hp
  obtain ⟨v, _, ⟨T', L', k', n'⟩, -, X', ⟨Lc, hQ, l1, y1, z1⟩, stp⟩ := X.specialBack hx (y := y) hy1 hown (mvT hZ w1) (mvT hZ w2) (mvT hZ w4) hy (backOf (W := W) hM hZ w4 w3 hf hl) (g := mkF m pc Ls st) rfl hsize (Steps.refl _) (a := a) (argsL := argsL) (rest := rest) hlen hst (by show 2 * 0 + _ ≤ _; omega) hd (fun _ _ => ⟨has, eT, hc, hs⟩)
  dsimp only [Pt.U, Pt.locs, Pt.cells, Pt.slots] at X' l1 y1 z1 stp hQ
  subst l1 y1 z1
  exact own_step (fun _ q => stp.trans q) (k v T' Lc X' hQ)
theorem own_callV (X : Stand p l e R s m args below meth c T locs cells slots) (hx : p.tables.exec = Jvm.exec) (hZ : Z.Warmed39 s.vm) {own C : String} {index : Nat} {y : MethodName} {bytes : ByteArray} {maxL : Nat} {rt : Option FieldType} {a : Addr} (hown : s.vm.findClass own = some m.cls) (w1 : (Jvm.Cond.methodLink own index y).before a0 Z = true) (w2 : (Jvm.Cond.declares y).before a0 Z = true) (w5 : (Jvm.Cond.selects C y y).before a0 Z = true) (w6 : (Jvm.Cond.instanceMethod y).before a0 Z = true) (w3 : (Jvm.Cond.initialized y.cls).before a0 Z = true) (w4 : (Jvm.Cond.code y bytes maxL rt).before a0 Z = true) (E : Exa Z h a C) (hy : y.cls ≠ "java/lang/invoke/MethodHandle" ∧ y.cls ≠ "java/lang/invoke/VarHandle") {rm : Room} {as' : Array Value} {K : Option Value → Heap → List Loc → Prop} {W : Nat} (hM : MetFree l y (head1 [Jvm.Cond.code y bytes maxL rt] rm) (fun a U => a = as' ∧ Z.Warmed39 U.vm ∧ U.heap = h) (fun _ _ _ _ _ => True) (fun _ U o U' => ∃ v L, o = .returned v ∧ K v U'.heap L ∧ FrameEnd U o U' L rm.cells rm.slots)) (hf : rm.frames + 1 ≤ R.frames) (hl : W + (maxL + 11) + rm.locals ≤ R.locals) (hc : cells + rm.cells ≤ R.cells) (hs : slots + rm.slots ≤ R.slots) (eT : T.heap = h) (hsize : Ls.size = c.maxLocals) {argsL rest : List Value} (has : (Value.ref a :: argsL).toArray = as') (hlen : ∀ sig, parseMethodDescriptor y.desc = some sig → argsL.length = sig.parameters.length) (hst : st = argsL.reverse ++ .ref a :: rest) (hW : (rest.map fun v => v.category).sum ≤ W) (hp : pc + 3 = pc') (hd : decode c.code pc = .ok (.invokevirtual index, 3))
    (k : ∀ v T' L, Stand p l e R s m args below meth c T' (locs ++ L) (cells + rm.cells) (slots + rm.slots) → K v T'.heap L → own_Goes p e below T' (mkF m pc' Ls (v.toList ++ rest)) Q) : own_Goes p e below T (mkF m pc Ls st) Q := by
  subst hp
  obtain ⟨cq, kq, qa, qb, qc⟩ := isOf hZ eT E
  obtain ⟨v, _, ⟨T', L', k', n'⟩, -, X', ⟨Lc, hQ, l1, y1, z1⟩, stp⟩ := X.virtualBack hx (y := y) (z := y) hown (mvT hZ w1) (mvT hZ w2) (notFace_of_selects (args := #[]) (mvT hZ w5)) (mvT hZ w5) (mvT hZ w6) hy (backOf (W := W) hM hZ w4 w3 hf hl) qa qc (g := mkF m pc Ls st) rfl hsize (Steps.refl _) (argsL := argsL) (rest := rest) hlen hst (by show 2 * 0 + _ ≤ _; omega) hd (fun _ _ => ⟨has, eT, hc, hs⟩)
  dsimp only [Pt.U, Pt.locs, Pt.cells, Pt.slots] at X' l1 y1 z1 stp hQ
  subst l1 y1 z1
  exact own_step (fun _ q => stp.trans q) (k v T' Lc X' hQ)
theorem own_callP (X : Stand p l e R s m args below meth c T locs cells slots) (hx : p.tables.exec = Jvm.exec) (hZ : Z.Warmed39 s.vm) {own C : String} {index : Nat} {y z z' : MethodName} {bytes : ByteArray} {maxL : Nat} {rt : Option FieldType} {a : Addr} {D : String} (hown : s.vm.findClass own = some m.cls) (w1 : (Jvm.Cond.methodLink own index y).before a0 Z = true) (w6 : (Jvm.Cond.instanceMethod y).before a0 Z = true) (w7 : (Jvm.Cond.privateMethod y).before a0 Z = true) (w5 : (Jvm.Cond.selects C z z').before a0 Z = true) (hcls : z'.cls = y.cls) (w3 : (Jvm.Cond.initialized y.cls).before a0 Z = true) (w4 : (Jvm.Cond.code y bytes maxL rt).before a0 Z = true) (E : Exa Z h a D) (hy : y.cls ≠ "java/lang/invoke/MethodHandle" ∧ y.cls ≠ "java/lang/invoke/VarHandle") {rm : Room} {as' : Array Value} {K : Option Value → Heap → List Loc → Prop} {W : Nat} (hM : MetFree l y (head1 [Jvm.Cond.code y bytes maxL rt] rm) (fun a U => a = as' ∧ Z.Warmed39 U.vm ∧ U.heap = h) (fun _ _ _ _ _ => True) (fun _ U o U' => ∃ v L, o = .returned v ∧ K v U'.heap L ∧ FrameEnd U o U' L rm.cells rm.slots)) (hf : rm.frames + 1 ≤ R.frames) (hl : W + (maxL + 11) + rm.locals ≤ R.locals) (hc : cells + rm.cells ≤ R.cells) (hs : slots + rm.slots ≤ R.slots) (eT : T.heap = h) (hsize : Ls.size = c.maxLocals) {argsL rest : List Value} (has : (Value.ref a :: argsL).toArray = as') (hlen : ∀ sig, parseMethodDescriptor y.desc = some sig → argsL.length = sig.parameters.length) (hst : st = argsL.reverse ++ .ref a :: rest) (hW : (rest.map fun v => v.category).sum ≤ W) (hp : pc + 3 = pc') (hd : decode c.code pc = .ok (.invokevirtual index, 3))
    (k : ∀ v T' L, Stand p l e R s m args below meth c T' (locs ++ L) (cells + rm.cells) (slots + rm.slots) → K v T'.heap L → own_Goes p e below T' (mkF m pc' Ls (v.toList ++ rest)) Q) : own_Goes p e below T (mkF m pc Ls st) Q := by
  subst hp
  have hs5 : (Jvm.Cond.selects C z z').before args s = true := mvT hZ w5
  obtain ⟨c2, r2, m2, -, -, q3, -, kP, hkP, hkPi⟩ := Cond.selects_spec hs5
  have hc2 : s.vm.findClass y.cls = some m2.cls := hcls ▸ findClass_of_methodNamed q3
  have hpriv := Cond.privateMethod_at (mvP hZ w7 (args := #[]))
  have hinst : (Jvm.Cond.instanceMethod y).before args s = true := mvT hZ w6
  have hsel := selects_self_of_private (args := args) hc2 hkP hkPi hpriv hinst hy
  obtain ⟨cq, qc, qc'⟩ := E.cell
  obtain ⟨v, _, ⟨T', L', k', n'⟩, -, X', ⟨Lc, hQ, l1, y1, z1⟩, stp⟩ := X.privateBack hx (y := y) hown (mvT hZ w1) hinst hsel hpriv (mvT hZ w4) hy (backOf (W := W) hM hZ w4 w3 hf hl) (g := mkF m pc Ls st) rfl hsize (Steps.refl _) (a := a) (cell := cq) (by rw [eT]; exact qc) qc' (argsL := argsL) (rest := rest) hlen hst (by show 2 * 0 + _ ≤ _; omega) hd (fun _ _ => ⟨has, eT, hc, hs⟩)
  dsimp only [Pt.U, Pt.locs, Pt.cells, Pt.slots] at X' l1 y1 z1 stp hQ
  subst l1 y1 z1
  exact own_step (fun _ q => stp.trans q) (k v T' Lc X' hQ)
theorem own_in {j : Int32} {k n : Nat} (hj : ¬ j < 0) (hk : j.toNatClampNeg = k) (hn : k < n) {cl : Cell} (hs : cl.slots.size = n) : ¬ (j < 0 ∨ cl.slots.size ≤ j.toNatClampNeg) := by
  rintro (q | q)
  · exact hj q
  · omega
theorem own_Arr.lt {a : Addr} {ty : FieldType} {n : Nat} {f : Nat → Value} (A : own_Arr Z h a ty n f) : a < h.size := by obtain ⟨c, A, -⟩ := A; exact A.lt
theorem own_Arr.ext {a : Addr} {ty : FieldType} {n : Nat} {f : Nat → Value} (E : Ext h h') (A : own_Arr Z h a ty n f) : own_Arr Z h' a ty n f := by obtain ⟨c, A, r⟩ := A; exact ⟨c, A.ext E, r⟩
theorem own_Arr.other {a b : Addr} {ty : FieldType} {n sl : Nat} {v : Value} {f : Nat → Value} (W : Wr h h' a sl v) (A : own_Arr Z h b ty n f) (q : b ≠ a) : own_Arr Z h' b ty n f := by obtain ⟨c, A, r⟩ := A; exact ⟨c, A.other W q, r⟩
theorem own_Arr.keep {a : Addr} {ty : FieldType} {n : Nat} {ws : List Addr} {f : Nat → Value} (K : Keep h h' ws) (A : own_Arr Z h a ty n f) (q : a ∉ ws) : own_Arr Z h' a ty n f := by obtain ⟨c, A, r⟩ := A; exact ⟨c, ⟨K.2.1 a c A.1 q, A.2⟩, r⟩
theorem own_Arr.congr {a : Addr} {ty : FieldType} {n : Nat} {f g : Nat → Value} (A : own_Arr Z h a ty n f) (q : ∀ j, j < n → f j = g j) : own_Arr Z h a ty n g := by
  obtain ⟨c, A, r1, r2, r3⟩ := A
  exact ⟨c, A, r1, r2, fun j hj => by rw [r3 j hj, q j hj]⟩
theorem own_sizWr {a : Addr} {sl n0 : Nat} {v : Value} (W : Wr h h' a sl v) (q : n0 ≤ h.size) : n0 ≤ h'.size := by rw [W.size]; exact q
theorem own_Arr.set {a : Addr} {ty : FieldType} {n k : Nat} {f : Nat → Value} {v : Value} {cl : Cell} (A : Arr Z h a cl ty) (r1 : cl.slots.size = n) (r2 : n < 2 ^ 31) (r3 : ∀ j, j < n → cl.slots[j]? = some (f j)) (hk : k < n) (W : Wr h h' a k v) : own_Arr Z h' a ty n (own_upd f k v) := by
  refine ⟨cl.setSlot k v, Arr.same W A, by rw [sz_set]; exact r1, r2, fun j hj => ?_⟩
  show (cl.slots.setIfInBounds k v)[j]? = _
  rw [Array.getElem?_setIfInBounds]
  by_cases q : k = j
  · subst q; simp [own_upd, r1, hk]
  · have q' : ¬ j = k := fun z => q z.symm
    simp [own_upd, q, q', r3 j hj]
theorem own_newarr (X : Stand p l e R s m args below meth c T locs cells slots) (hx : p.tables.exec = Jvm.exec) (hZ : Z.Warmed39 s.vm) {aty : ArrayType} (w : (Jvm.Cond.arrayClass (newarray.typeOf aty)).before a0 Z = true) (eT : T.heap = h) {n : Int32} (hp : pc + 2 = pc') (hd : decode c.code pc = .ok (.newarray aty, 2)) (hn : ¬ n < 0) {N : Nat} (hN : n.toNatClampNeg = N) {cap : Nat} (hcap : n.toNatClampNeg ≤ cap) (hb : cap * 8 ≤ 536870912) (hc : cells + 1 ≤ R.cells) (hl : slots + cap ≤ R.slots)
    (k : ∀ T' h', Stand p l e R s m args below meth c T' locs (cells + 1) (slots + cap) → T'.heap = h' → Ext h h' → own_Arr Z h' h.size (newarray.typeOf aty) N (fun _ => defaultValue (newarray.typeOf aty)) → own_Goes p e below T' (mkF m pc' Ls (.ref h.size :: st)) Q) : own_Goes p e below T (mkF m pc Ls (.int n :: st)) Q := by
  subst hp
  obtain ⟨T', h', cA, X', e', E', A', stp⟩ := newP X hx hZ w eT (g := mkF m pc Ls (.int n :: st)) rfl hd rfl hn hcap hb hc hl
  refine own_step stp (k T' h' X' e' E' ⟨_, A', by rw [sz_new, hN], by rw [← hN]; exact (back32 hn).2, fun j hj => ?_⟩)
  simp [newA, hN, hj]
theorem own_stI (X : Stand p l e R s m args below meth c T locs cells slots) (hx : p.tables.exec = Jvm.exec) (hZ : Z.Warmed39 s.vm) (eT : T.heap = h) {a : Addr} {n k : Nat} {f : Nat → Value} (A : own_Arr Z h a .int n f) {j : Int32} {x : Int32} (hj : ¬ j < 0) (hk : j.toNatClampNeg = k) (hn : k < n)  (hp : pc + 1 = pc') (hd : decode c.code pc = .ok (.iastore, 1))
    (q : ∀ T' h', Stand p l e R s m args below meth c T' (locs ++ [⟨a, k⟩]) cells slots → T'.heap = h' → Wr h h' a k (.int x) → own_Arr Z h' a .int n (own_upd f k (.int x)) → own_Goes p e below T' (mkF m pc' Ls st) Q) : own_Goes p e below T (mkF m pc Ls (.int x :: .int j :: .ref a :: st)) Q := by
  subst hp
  obtain ⟨cl, A, r1, r2, r3⟩ := A
  obtain ⟨T', h', X', e', W', stp⟩ := stI X hx hZ eT A (own_in hj hk hn r1) (g := mkF m pc Ls (.int x :: .int j :: .ref a :: st)) rfl rfl hd
  subst hk
  exact own_step stp (q T' h' X' e' W' (own_Arr.set A r1 r2 r3 hn W'))
theorem own_stJ (X : Stand p l e R s m args below meth c T locs cells slots) (hx : p.tables.exec = Jvm.exec) (hZ : Z.Warmed39 s.vm) (eT : T.heap = h) {a : Addr} {n k : Nat} {f : Nat → Value} (A : own_Arr Z h a .long n f) {j : Int32} {x : Int64} (hj : ¬ j < 0) (hk : j.toNatClampNeg = k) (hn : k < n)  (hp : pc + 1 = pc') (hd : decode c.code pc = .ok (.lastore, 1))
    (q : ∀ T' h', Stand p l e R s m args below meth c T' (locs ++ [⟨a, k⟩]) cells slots → T'.heap = h' → Wr h h' a k (.long x) → own_Arr Z h' a .long n (own_upd f k (.long x)) → own_Goes p e below T' (mkF m pc' Ls st) Q) : own_Goes p e below T (mkF m pc Ls (.long x :: .int j :: .ref a :: st)) Q := by
  subst hp
  obtain ⟨cl, A, r1, r2, r3⟩ := A
  obtain ⟨T', h', X', e', W', stp⟩ := stJ X hx hZ eT A (own_in hj hk hn r1) (g := mkF m pc Ls (.long x :: .int j :: .ref a :: st)) rfl rfl hd
  subst hk
  exact own_step stp (q T' h' X' e' W' (own_Arr.set A r1 r2 r3 hn W'))
theorem own_stB (X : Stand p l e R s m args below meth c T locs cells slots) (hx : p.tables.exec = Jvm.exec) (hZ : Z.Warmed39 s.vm) (eT : T.heap = h) {a : Addr} {n k : Nat} {f : Nat → Value} (A : own_Arr Z h a .byte n f) {j : Int32} {x y : Int32} (hj : ¬ j < 0) (hk : j.toNatClampNeg = k) (hn : k < n) (hv : nar .byte x = y) (hp : pc + 1 = pc') (hd : decode c.code pc = .ok (.bastore, 1))
    (q : ∀ T' h', Stand p l e R s m args below meth c T' (locs ++ [⟨a, k⟩]) cells slots → T'.heap = h' → Wr h h' a k (.int y) → own_Arr Z h' a .byte n (own_upd f k (.int y)) → own_Goes p e below T' (mkF m pc' Ls st) Q) : own_Goes p e below T (mkF m pc Ls (.int x :: .int j :: .ref a :: st)) Q := by
  subst hp; subst hv
  obtain ⟨cl, A, r1, r2, r3⟩ := A
  obtain ⟨T', h', X', e', W', stp⟩ := stB X hx hZ eT A (own_in hj hk hn r1) (g := mkF m pc Ls (.int x :: .int j :: .ref a :: st)) rfl rfl hd
  subst hk
  exact own_step stp (q T' h' X' e' W' (own_Arr.set A r1 r2 r3 hn W'))
theorem own_stC (X : Stand p l e R s m args below meth c T locs cells slots) (hx : p.tables.exec = Jvm.exec) (hZ : Z.Warmed39 s.vm) (eT : T.heap = h) {a : Addr} {n k : Nat} {f : Nat → Value} (A : own_Arr Z h a .char n f) {j : Int32} {x y : Int32} (hj : ¬ j < 0) (hk : j.toNatClampNeg = k) (hn : k < n) (hv : nar .char x = y) (hp : pc + 1 = pc') (hd : decode c.code pc = .ok (.castore, 1))
    (q : ∀ T' h', Stand p l e R s m args below meth c T' (locs ++ [⟨a, k⟩]) cells slots → T'.heap = h' → Wr h h' a k (.int y) → own_Arr Z h' a .char n (own_upd f k (.int y)) → own_Goes p e below T' (mkF m pc' Ls st) Q) : own_Goes p e below T (mkF m pc Ls (.int x :: .int j :: .ref a :: st)) Q := by
  subst hp; subst hv
  obtain ⟨cl, A, r1, r2, r3⟩ := A
  obtain ⟨T', h', X', e', W', stp⟩ := stC X hx hZ eT A (own_in hj hk hn r1) (g := mkF m pc Ls (.int x :: .int j :: .ref a :: st)) rfl rfl hd
  subst hk
  exact own_step stp (q T' h' X' e' W' (own_Arr.set A r1 r2 r3 hn W'))
theorem own_ldI (X : Stand p l e R s m args below meth c T locs cells slots) (hx : p.tables.exec = Jvm.exec) (hZ : Z.Warmed39 s.vm) (eT : T.heap = h) {a : Addr} {n k : Nat} {f : Nat → Value} (A : own_Arr Z h a .int n f) {j : Int32} (hj : ¬ j < 0) (hk : j.toNatClampNeg = k) (hn : k < n) {v : Value} (hv : f k = v) (hp : pc + 1 = pc') (hd : decode c.code pc = .ok (.iaload, 1)) (q : own_Goes p e below T (mkF m pc' Ls (v :: st)) Q) : own_Goes p e below T (mkF m pc Ls (.int j :: .ref a :: st)) Q := by
  subst hp
  obtain ⟨cl, A, r1, r2, r3⟩ := A
  exact own_step (fun t z => X.iaload hx (j := j) (v := v) (by rw [eT]; exact A.1) (State.isArrayOf_alike hZ.alike A.2.1) A.2.2 (own_in hj hk hn r1) (by rw [hk, r3 k hn, hv]) (g := mkF m pc Ls (.int j :: .ref a :: st)) rfl rfl hd t z) q
theorem own_ldJ (X : Stand p l e R s m args below meth c T locs cells slots) (hx : p.tables.exec = Jvm.exec) (hZ : Z.Warmed39 s.vm) (eT : T.heap = h) {a : Addr} {n k : Nat} {f : Nat → Value} (A : own_Arr Z h a .long n f) {j : Int32} (hj : ¬ j < 0) (hk : j.toNatClampNeg = k) (hn : k < n) {v : Value} (hv : f k = v) (hp : pc + 1 = pc') (hd : decode c.code pc = .ok (.laload, 1)) (q : own_Goes p e below T (mkF m pc' Ls (v :: st)) Q) : own_Goes p e below T (mkF m pc Ls (.int j :: .ref a :: st)) Q := by
  subst hp
  obtain ⟨cl, A, r1, r2, r3⟩ := A
  exact own_step (fun t z => X.laload hx (j := j) (v := v) (by rw [eT]; exact A.1) (State.isArrayOf_alike hZ.alike A.2.1) A.2.2 (own_in hj hk hn r1) (by rw [hk, r3 k hn, hv]) (g := mkF m pc Ls (.int j :: .ref a :: st)) rfl rfl hd t z) q
theorem own_ldB (X : Stand p l e R s m args below meth c T locs cells slots) (hx : p.tables.exec = Jvm.exec) (hZ : Z.Warmed39 s.vm) (eT : T.heap = h) {a : Addr} {n k : Nat} {f : Nat → Value} (A : own_Arr Z h a .byte n f) {j : Int32} (hj : ¬ j < 0) (hk : j.toNatClampNeg = k) (hn : k < n) {v : Value} (hv : f k = v) (hp : pc + 1 = pc') (hd : decode c.code pc = .ok (.baload, 1)) (q : own_Goes p e below T (mkF m pc' Ls (v :: st)) Q) : own_Goes p e below T (mkF m pc Ls (.int j :: .ref a :: st)) Q := by
  subst hp
  obtain ⟨cl, A, r1, r2, r3⟩ := A
  exact own_step (fun t z => X.baloadBytes hx (j := j) (v := v) (by rw [eT]; exact A.1) (State.isArrayOf_alike hZ.alike A.2.1) A.2.2 (own_in hj hk hn r1) (by rw [hk, r3 k hn, hv]) (g := mkF m pc Ls (.int j :: .ref a :: st)) rfl rfl hd t z) q
theorem own_ldC (X : Stand p l e R s m args below meth c T locs cells slots) (hx : p.tables.exec = Jvm.exec) (hZ : Z.Warmed39 s.vm) (eT : T.heap = h) {a : Addr} {n k : Nat} {f : Nat → Value} (A : own_Arr Z h a .char n f) {j : Int32} (hj : ¬ j < 0) (hk : j.toNatClampNeg = k) (hn : k < n) {v : Value} (hv : f k = v) (hp : pc + 1 = pc') (hd : decode c.code pc = .ok (.caload, 1)) (q : own_Goes p e below T (mkF m pc' Ls (v :: st)) Q) : own_Goes p e below T (mkF m pc Ls (.int j :: .ref a :: st)) Q := by
  subst hp
  obtain ⟨cl, A, r1, r2, r3⟩ := A
  exact own_step (fun t z => X.caload hx (j := j) (v := v) (by rw [eT]; exact A.1) (State.isArrayOf_alike hZ.alike A.2.1) A.2.2 (own_in hj hk hn r1) (by rw [hk, r3 k hn, hv]) (g := mkF m pc Ls (.int j :: .ref a :: st)) rfl rfl hd t z) q
theorem own_len (X : Stand p l e R s m args below meth c T locs cells slots) (hx : p.tables.exec = Jvm.exec) (hZ : Z.Warmed39 s.vm) (eT : T.heap = h) {a : Addr} {ty : FieldType} {n : Nat} {f : Nat → Value} (A : own_Arr Z h a ty n f) {v : Int32} (hv : n.toInt32 = v) (hp : pc + 1 = pc') (hd : decode c.code pc = .ok (.arraylength, 1)) (q : own_Goes p e below T (mkF m pc' Ls (.int v :: st)) Q) : own_Goes p e below T (mkF m pc Ls (.ref a :: st)) Q := by
  subst hp; subst hv
  obtain ⟨cl, A, r1, r2, r3⟩ := A
  subst r1
  exact own_step (fun t z => X.arraylength hx (cell := cl) (by rw [eT]; exact A.1) (State.isArrayOf_alike hZ.alike A.2.1) (g := mkF m pc Ls (.ref a :: st)) rfl rfl hd t z) q
theorem own_instY (X : Stand p l e R s m args below meth c T locs cells slots) (hx : p.tables.exec = Jvm.exec) (hZ : Z.Warmed39 s.vm) {own K : String} {index : Nat} (hown : s.vm.findClass own = some m.cls) (w : (Jvm.Cond.classLink own index K).before a0 Z = true) (eT : T.heap = h) {a : Addr} (F : Ins Z h a K true) (hp : pc + 3 = pc') (hd : decode c.code pc = .ok (.instanceof index, 3))
    (k : ∀ T', Stand p l e R s m args below meth c T' locs cells slots → T'.heap = h → own_Goes p e below T' (mkF m pc' Ls (.int 1 :: st)) Q) : own_Goes p e below T (mkF m pc Ls (.ref a :: st)) Q := by
  subst hp
  obtain ⟨T', X', e', stp⟩ := instY X hx hZ hown w eT F (g := mkF m pc Ls (.ref a :: st)) rfl rfl hd
  exact own_step stp (k T' X' e')
theorem own_castY (X : Stand p l e R s m args below meth c T locs cells slots) (hx : p.tables.exec = Jvm.exec) (hZ : Z.Warmed39 s.vm) {own K : String} {index : Nat} (hown : s.vm.findClass own = some m.cls) (w : (Jvm.Cond.classLink own index K).before a0 Z = true) (eT : T.heap = h) {a : Addr} (F : Ins Z h a K true) (hp : pc + 3 = pc') (hd : decode c.code pc = .ok (.checkcast index, 3))
    (k : ∀ T', Stand p l e R s m args below meth c T' locs cells slots → T'.heap = h → own_Goes p e below T' (mkF m pc' Ls (.ref a :: st)) Q) : own_Goes p e below T (mkF m pc Ls (.ref a :: st)) Q := by
  subst hp
  obtain ⟨T', X', e', stp⟩ := castY X hx hZ hown w eT F (g := mkF m pc Ls (.ref a :: st)) rfl rfl hd
  exact own_step stp (k T' X' e')
theorem own_instNo (X : Stand p l e R s m args below meth c T locs cells slots) (hx : p.tables.exec = Jvm.exec) (hZ : Z.Warmed39 s.vm) {own K C : String} {index : Nat} (hown : s.vm.findClass own = some m.cls) (w : (Jvm.Cond.classLink own index K).before a0 Z = true) (eT : T.heap = h) {a : Addr} (E : Exa Z h a C) (F : ∃ c t, Z.vm.findClass C = some c ∧ Z.vm.findClass K = some t ∧ Z.vm.assignable c t = false) (hp : pc + 3 = pc') (hd : decode c.code pc = .ok (.instanceof index, 3))
    (k : ∀ T', Stand p l e R s m args below meth c T' locs cells slots → T'.heap = h → own_Goes p e below T' (mkF m pc' Ls (.int 0 :: st)) Q) : own_Goes p e below T (mkF m pc Ls (.ref a :: st)) Q := by
  subst hp
  obtain ⟨T', X', e', stp⟩ := instNo X hx hZ hown w eT E F (g := mkF m pc Ls (.ref a :: st)) rfl rfl hd
  exact own_step stp (k T' X' e')
theorem own_instNull (X : Stand p l e R s m args below meth c T locs cells slots) (hx : p.tables.exec = Jvm.exec) {index : Nat} (hp : pc + 3 = pc') (hd : decode c.code pc = .ok (.instanceof index, 3)) (k : own_Goes p e below T (mkF m pc' Ls (.int 0 :: st)) Q) : own_Goes p e below T (mkF m pc Ls (.null :: st)) Q := by
  subst hp; exact own_step (fun t q => X.instanceofNull hx (g := mkF m pc Ls (.null :: st)) rfl rfl hd t q) k
theorem own_fitR {v : Value} {C : String} (hv : v.isRef = true) : fits (.object C) v = true := by cases v <;> simp_all [fits, Value.isRef]
end Own
/-! 2. THE BODIES -/
def own_first (p : Int32) : Int32 := if p < (3 : Int32) then 0 else if p < (5 : Int32) then 1 else 2
def own_second (p : Int32) : Int32 := if p = 0 then 1 else if p = (1 : Int32) then 2 else if p = (2 : Int32) then 3 else if p = (3 : Int32) then 2 else 3
theorem ef_rm_first (m : MethodId) (p1 : Int32) : entryFrame m #[(.int p1)] 1 = mkF m 0 #[.val (.int p1)] [] := by first | (simp [entryFrame, mkF, argsToLocals, Value.category]; done) | rfl
def K_rm_first  (Z : State) (h0 : Heap) (n0 : Nat) (p1 : Int32) (v : Option Value) (h : Heap) (L : List Loc) : Prop := v = some (.int (own_first p1)) ∧ Fr n0 L ∧ h = h0
theorem d_method_2_code_0 : decode method_2_code 0 = .ok (.iload_n 0, 1) := by decide +kernel
theorem d_method_2_code_1 : decode method_2_code 1 = .ok (.iconst 3, 1) := by decide +kernel
theorem d_method_2_code_2 : decode method_2_code 2 = .ok (.if_icmp .ge 5, 3) := by decide +kernel
theorem d_method_2_code_5 : decode method_2_code 5 = .ok (.iconst 0, 1) := by decide +kernel
theorem d_method_2_code_6 : decode method_2_code 6 = .ok (.ireturn, 1) := by decide +kernel
theorem d_method_2_code_7 : decode method_2_code 7 = .ok (.iload_n 0, 1) := by decide +kernel
theorem d_method_2_code_8 : decode method_2_code 8 = .ok (.iconst 5, 1) := by decide +kernel
theorem d_method_2_code_9 : decode method_2_code 9 = .ok (.if_icmp .ge 5, 3) := by decide +kernel
theorem d_method_2_code_12 : decode method_2_code 12 = .ok (.iconst 1, 1) := by decide +kernel
theorem d_method_2_code_13 : decode method_2_code 13 = .ok (.ireturn, 1) := by decide +kernel
theorem d_method_2_code_14 : decode method_2_code 14 = .ok (.iconst 2, 1) := by decide +kernel
theorem d_method_2_code_15 : decode method_2_code 15 = .ok (.ireturn, 1) := by decide +kernel
theorem pn_com_example_libdamp_libdamp_graph_GraphSelfLoopCountPinLaw : plainName "com/example/libdamp/libdamp/graph/GraphSelfLoopCountPinLaw" = true := by first | (simp [plainName, overriddenIn]; done) | decide +kernel
set_option maxRecDepth 65536 in
set_option maxHeartbeats 40000000 in
theorem rm_first (l : Launch) (Z : State) (a0 : Array Value) (hw : ∀ d ∈ tables_1, d.before a0 Z = true) (ws : List Jvm.Cond)  (p1 : Int32) (h0 : Heap) (n0 : Nat) (Z0 : n0 ≤ h0.size) :
    MetFree l (⟨"com/example/libdamp/libdamp/graph/GraphSelfLoopCountPinLaw", "first", "(I)I"⟩ : MethodName) (head1 (Jvm.Cond.code (⟨"com/example/libdamp/libdamp/graph/GraphSelfLoopCountPinLaw", "first", "(I)I"⟩ : MethodName) method_2_code 1 (some .int) :: ws) ({ frames := 0, cells := 0, slots := 0, locals := 0 } : Room)) (fun a U => a = #[(.int p1)] ∧ Z.Warmed39 U.vm ∧ U.heap = h0) (fun _ _ _ _ _ => True) (fun _ U o U' => ∃ v L, o = .returned v ∧ (K_rm_first  Z h0 n0 p1) v U'.heap L ∧ FrameEnd U o U' L ({ frames := 0, cells := 0, slots := 0, locals := 0 } : Room).cells ({ frames := 0, cells := 0, slots := 0, locals := 0 } : Room).slots) := by
  refine own_body (plainFor_of_name pn_com_example_libdamp_libdamp_graph_GraphSelfLoopCountPinLaw) ?_
  intro p e s m below meth c s₁ hx hby hml hown hnm hret hlk hZ X0 e0
  have hown : s.vm.findClass "com/example/libdamp/libdamp/graph/GraphSelfLoopCountPinLaw" = some m.cls := hown
  have N0 := Fr.nil n0
  rw [ef_rm_first m p1]
  refine own_iloadN X0 hx (pc' := 1) rfl (hb hby d_method_2_code_0) rfl ?_
  refine own_iconst X0 hx (v := (3 : Int32)) (pc' := 2) rfl (hb hby d_method_2_code_1) rfl ?_
  by_cases c2_1 : p1 < (3 : Int32)
  · refine own_icmpF X0 hx (pc' := 5) rfl (hb hby d_method_2_code_2) (XT.ii_ge_f c2_1) ?_
    refine own_iconst X0 hx (v := (0 : Int32)) (pc' := 6) rfl (hb hby d_method_2_code_5) rfl ?_
    refine own_iret X0 hx hlk hret (hb hby d_method_2_code_6) (by decide) (by decide) ?_
    rw [e0]
    exact ⟨by first | (simp only [own_first, if_pos c2_1]; done) | (simp only [own_first, if_pos c2_1]; rfl), N0, rfl⟩
  · refine own_icmpT X0 hx (pc' := 7) (hb hby d_method_2_code_2) (XT.ii_ge_t c2_1) (by decide) (by decide) ?_
    refine own_iloadN X0 hx (pc' := 8) rfl (hb hby d_method_2_code_7) rfl ?_
    refine own_iconst X0 hx (v := (5 : Int32)) (pc' := 9) rfl (hb hby d_method_2_code_8) rfl ?_
    by_cases c9_2 : p1 < (5 : Int32)
    · refine own_icmpF X0 hx (pc' := 12) rfl (hb hby d_method_2_code_9) (XT.ii_ge_f c9_2) ?_
      refine own_iconst X0 hx (v := (1 : Int32)) (pc' := 13) rfl (hb hby d_method_2_code_12) rfl ?_
      refine own_iret X0 hx hlk hret (hb hby d_method_2_code_13) (by decide) (by decide) ?_
      rw [e0]
      exact ⟨by first | (simp only [own_first, if_neg c2_1, if_pos c9_2]; done) | (simp only [own_first, if_neg c2_1, if_pos c9_2]; rfl), N0, rfl⟩
    · refine own_icmpT X0 hx (pc' := 14) (hb hby d_method_2_code_9) (XT.ii_ge_t c9_2) (by decide) (by decide) ?_
      refine own_iconst X0 hx (v := (2 : Int32)) (pc' := 15) rfl (hb hby d_method_2_code_14) rfl ?_
      refine own_iret X0 hx hlk hret (hb hby d_method_2_code_15) (by decide) (by decide) ?_
      rw [e0]
      exact ⟨by first | (simp only [own_first, if_neg c2_1, if_neg c9_2]; done) | (simp only [own_first, if_neg c2_1, if_neg c9_2]; rfl), N0, rfl⟩
theorem ef_rm_second (m : MethodId) (p1 : Int32) : entryFrame m #[(.int p1)] 1 = mkF m 0 #[.val (.int p1)] [] := by first | (simp [entryFrame, mkF, argsToLocals, Value.category]; done) | rfl
def K_rm_second  (Z : State) (h0 : Heap) (n0 : Nat) (p1 : Int32) (v : Option Value) (h : Heap) (L : List Loc) : Prop := v = some (.int (own_second p1)) ∧ Fr n0 L ∧ h = h0
theorem d_method_3_code_0 : decode method_3_code 0 = .ok (.iload_n 0, 1) := by decide +kernel
theorem d_method_3_code_1 : decode method_3_code 1 = .ok (.ifCond .ne 5, 3) := by decide +kernel
theorem d_method_3_code_4 : decode method_3_code 4 = .ok (.iconst 1, 1) := by decide +kernel
theorem d_method_3_code_5 : decode method_3_code 5 = .ok (.ireturn, 1) := by decide +kernel
theorem d_method_3_code_6 : decode method_3_code 6 = .ok (.iload_n 0, 1) := by decide +kernel
theorem d_method_3_code_7 : decode method_3_code 7 = .ok (.iconst 1, 1) := by decide +kernel
theorem d_method_3_code_8 : decode method_3_code 8 = .ok (.if_icmp .ne 5, 3) := by decide +kernel
theorem d_method_3_code_11 : decode method_3_code 11 = .ok (.iconst 2, 1) := by decide +kernel
theorem d_method_3_code_12 : decode method_3_code 12 = .ok (.ireturn, 1) := by decide +kernel
theorem d_method_3_code_13 : decode method_3_code 13 = .ok (.iload_n 0, 1) := by decide +kernel
theorem d_method_3_code_14 : decode method_3_code 14 = .ok (.iconst 2, 1) := by decide +kernel
theorem d_method_3_code_15 : decode method_3_code 15 = .ok (.if_icmp .ne 5, 3) := by decide +kernel
theorem d_method_3_code_18 : decode method_3_code 18 = .ok (.iconst 3, 1) := by decide +kernel
theorem d_method_3_code_19 : decode method_3_code 19 = .ok (.ireturn, 1) := by decide +kernel
theorem d_method_3_code_20 : decode method_3_code 20 = .ok (.iload_n 0, 1) := by decide +kernel
theorem d_method_3_code_21 : decode method_3_code 21 = .ok (.iconst 3, 1) := by decide +kernel
theorem d_method_3_code_22 : decode method_3_code 22 = .ok (.if_icmp .ne 5, 3) := by decide +kernel
theorem d_method_3_code_25 : decode method_3_code 25 = .ok (.iconst 2, 1) := by decide +kernel
theorem d_method_3_code_26 : decode method_3_code 26 = .ok (.ireturn, 1) := by decide +kernel
theorem d_method_3_code_27 : decode method_3_code 27 = .ok (.iconst 3, 1) := by decide +kernel
theorem d_method_3_code_28 : decode method_3_code 28 = .ok (.ireturn, 1) := by decide +kernel
set_option maxRecDepth 65536 in
set_option maxHeartbeats 40000000 in
theorem rm_second (l : Launch) (Z : State) (a0 : Array Value) (hw : ∀ d ∈ tables_1, d.before a0 Z = true) (ws : List Jvm.Cond)  (p1 : Int32) (h0 : Heap) (n0 : Nat) (Z0 : n0 ≤ h0.size) :
    MetFree l (⟨"com/example/libdamp/libdamp/graph/GraphSelfLoopCountPinLaw", "second", "(I)I"⟩ : MethodName) (head1 (Jvm.Cond.code (⟨"com/example/libdamp/libdamp/graph/GraphSelfLoopCountPinLaw", "second", "(I)I"⟩ : MethodName) method_3_code 1 (some .int) :: ws) ({ frames := 0, cells := 0, slots := 0, locals := 0 } : Room)) (fun a U => a = #[(.int p1)] ∧ Z.Warmed39 U.vm ∧ U.heap = h0) (fun _ _ _ _ _ => True) (fun _ U o U' => ∃ v L, o = .returned v ∧ (K_rm_second  Z h0 n0 p1) v U'.heap L ∧ FrameEnd U o U' L ({ frames := 0, cells := 0, slots := 0, locals := 0 } : Room).cells ({ frames := 0, cells := 0, slots := 0, locals := 0 } : Room).slots) := by
  refine own_body (plainFor_of_name pn_com_example_libdamp_libdamp_graph_GraphSelfLoopCountPinLaw) ?_
  intro p e s m below meth c s₁ hx hby hml hown hnm hret hlk hZ X0 e0
  have hown : s.vm.findClass "com/example/libdamp/libdamp/graph/GraphSelfLoopCountPinLaw" = some m.cls := hown
  have N0 := Fr.nil n0
  rw [ef_rm_second m p1]
  refine own_iloadN X0 hx (pc' := 1) rfl (hb hby d_method_3_code_0) rfl ?_
  by_cases c1_1 : p1 = 0
  · refine own_ifF X0 hx (pc' := 4) rfl (hb hby d_method_3_code_1) (XT.i0_ne_f c1_1) ?_
    refine own_iconst X0 hx (v := (1 : Int32)) (pc' := 5) rfl (hb hby d_method_3_code_4) rfl ?_
    refine own_iret X0 hx hlk hret (hb hby d_method_3_code_5) (by decide) (by decide) ?_
    rw [e0]
    exact ⟨by first | (simp only [own_second, if_pos c1_1]; done) | (simp only [own_second, if_pos c1_1]; rfl), N0, rfl⟩
  · refine own_ifT X0 hx (pc' := 6) (hb hby d_method_3_code_1) (XT.i0_ne_t c1_1) (by decide) (by decide) ?_
    refine own_iloadN X0 hx (pc' := 7) rfl (hb hby d_method_3_code_6) rfl ?_
    refine own_iconst X0 hx (v := (1 : Int32)) (pc' := 8) rfl (hb hby d_method_3_code_7) rfl ?_
    by_cases c8_2 : p1 = (1 : Int32)
    · refine own_icmpF X0 hx (pc' := 11) rfl (hb hby d_method_3_code_8) (XT.ii_ne_f c8_2) ?_
      refine own_iconst X0 hx (v := (2 : Int32)) (pc' := 12) rfl (hb hby d_method_3_code_11) rfl ?_
      refine own_iret X0 hx hlk hret (hb hby d_method_3_code_12) (by decide) (by decide) ?_
      rw [e0]
      exact ⟨by first | (simp only [own_second, if_neg c1_1, if_pos c8_2]; done) | (simp only [own_second, if_neg c1_1, if_pos c8_2]; rfl), N0, rfl⟩
    · refine own_icmpT X0 hx (pc' := 13) (hb hby d_method_3_code_8) (XT.ii_ne_t c8_2) (by decide) (by decide) ?_
      refine own_iloadN X0 hx (pc' := 14) rfl (hb hby d_method_3_code_13) rfl ?_
      refine own_iconst X0 hx (v := (2 : Int32)) (pc' := 15) rfl (hb hby d_method_3_code_14) rfl ?_
      by_cases c15_3 : p1 = (2 : Int32)
      · refine own_icmpF X0 hx (pc' := 18) rfl (hb hby d_method_3_code_15) (XT.ii_ne_f c15_3) ?_
        refine own_iconst X0 hx (v := (3 : Int32)) (pc' := 19) rfl (hb hby d_method_3_code_18) rfl ?_
        refine own_iret X0 hx hlk hret (hb hby d_method_3_code_19) (by decide) (by decide) ?_
        rw [e0]
        exact ⟨by first | (simp only [own_second, if_neg c1_1, if_neg c8_2, if_pos c15_3]; done) | (simp only [own_second, if_neg c1_1, if_neg c8_2, if_pos c15_3]; rfl), N0, rfl⟩
      · refine own_icmpT X0 hx (pc' := 20) (hb hby d_method_3_code_15) (XT.ii_ne_t c15_3) (by decide) (by decide) ?_
        refine own_iloadN X0 hx (pc' := 21) rfl (hb hby d_method_3_code_20) rfl ?_
        refine own_iconst X0 hx (v := (3 : Int32)) (pc' := 22) rfl (hb hby d_method_3_code_21) rfl ?_
        by_cases c22_4 : p1 = (3 : Int32)
        · refine own_icmpF X0 hx (pc' := 25) rfl (hb hby d_method_3_code_22) (XT.ii_ne_f c22_4) ?_
          refine own_iconst X0 hx (v := (2 : Int32)) (pc' := 26) rfl (hb hby d_method_3_code_25) rfl ?_
          refine own_iret X0 hx hlk hret (hb hby d_method_3_code_26) (by decide) (by decide) ?_
          rw [e0]
          exact ⟨by first | (simp only [own_second, if_neg c1_1, if_neg c8_2, if_neg c15_3, if_pos c22_4]; done) | (simp only [own_second, if_neg c1_1, if_neg c8_2, if_neg c15_3, if_pos c22_4]; rfl), N0, rfl⟩
        · refine own_icmpT X0 hx (pc' := 27) (hb hby d_method_3_code_22) (XT.ii_ne_t c22_4) (by decide) (by decide) ?_
          refine own_iconst X0 hx (v := (3 : Int32)) (pc' := 28) rfl (hb hby d_method_3_code_27) rfl ?_
          refine own_iret X0 hx hlk hret (hb hby d_method_3_code_28) (by decide) (by decide) ?_
          rw [e0]
          exact ⟨by first | (simp only [own_second, if_neg c1_1, if_neg c8_2, if_neg c15_3, if_neg c22_4]; done) | (simp only [own_second, if_neg c1_1, if_neg c8_2, if_neg c15_3, if_neg c22_4]; rfl), N0, rfl⟩
theorem ef_rm_graph (m : MethodId) (a1 : Addr) (p2 : Int32) (a3 : Addr) (a4 : Addr) : entryFrame m #[(.ref a1), (.int p2), (.ref a3), (.ref a4)] 4 = mkF m 0 #[.val (.ref a1), .val (.int p2), .val (.ref a3), .val (.ref a4)] [] := by first | (simp [entryFrame, mkF, argsToLocals, Value.category]; done) | rfl
def K_rm_graph  (Z : State) (h0 : Heap) (n0 : Nat) (a1 : Addr) (p2 : Int32) (a3 : Addr) (a4 : Addr) (v : Option Value) (h : Heap) (L : List Loc) : Prop := v = none ∧ Fr n0 L ∧ Keep h0 h [a1] ∧ Exa Z h a1 "com/example/libdamp/libdamp/graph/Graph" ∧ Fld Z h a1 "com/example/libdamp/libdamp/graph/Graph" "nodeCount" "I" (.int p2) ∧ Fld Z h a1 "com/example/libdamp/libdamp/graph/Graph" "firstArcs" "[I" (.ref a3) ∧ Fld Z h a1 "com/example/libdamp/libdamp/graph/Graph" "targets" "[I" (.ref a4)
theorem d_prog_45_method_1_code_0 : decode prog_45_method_1_code 0 = .ok (.aload_n 0, 1) := by decide +kernel
theorem d_prog_45_method_1_code_1 : decode prog_45_method_1_code 1 = .ok (.invokespecial 3, 3) := by decide +kernel
theorem d_prog_45_method_1_code_4 : decode prog_45_method_1_code 4 = .ok (.aload_n 0, 1) := by decide +kernel
theorem d_prog_45_method_1_code_5 : decode prog_45_method_1_code 5 = .ok (.iload_n 1, 1) := by decide +kernel
theorem d_prog_45_method_1_code_6 : decode prog_45_method_1_code 6 = .ok (.putfield 9, 3) := by decide +kernel
theorem d_prog_45_method_1_code_9 : decode prog_45_method_1_code 9 = .ok (.aload_n 0, 1) := by decide +kernel
theorem d_prog_45_method_1_code_10 : decode prog_45_method_1_code 10 = .ok (.aload_n 2, 1) := by decide +kernel
theorem d_prog_45_method_1_code_11 : decode prog_45_method_1_code 11 = .ok (.putfield 15, 3) := by decide +kernel
theorem d_prog_45_method_1_code_14 : decode prog_45_method_1_code 14 = .ok (.aload_n 0, 1) := by decide +kernel
theorem d_prog_45_method_1_code_15 : decode prog_45_method_1_code 15 = .ok (.aload_n 3, 1) := by decide +kernel
theorem d_prog_45_method_1_code_16 : decode prog_45_method_1_code 16 = .ok (.putfield 19, 3) := by decide +kernel
theorem d_prog_45_method_1_code_19 : decode prog_45_method_1_code 19 = .ok (.return_, 1) := by decide +kernel
theorem pn_com_example_libdamp_libdamp_graph_Graph : plainName "com/example/libdamp/libdamp/graph/Graph" = true := by first | (simp [plainName, overriddenIn]; done) | decide +kernel
set_option maxRecDepth 65536 in
set_option maxHeartbeats 40000000 in
theorem rm_graph (l : Launch) (Z : State) (a0 : Array Value) (hw : ∀ d ∈ tables_1, d.before a0 Z = true) (ws : List Jvm.Cond)  (a1 : Addr) (p2 : Int32) (a3 : Addr) (a4 : Addr) (h0 : Heap) (n0 : Nat) (Z0 : n0 ≤ h0.size) (I0 : Exa Z h0 a1 "com/example/libdamp/libdamp/graph/Graph") (I1 : Fld Z h0 a1 "com/example/libdamp/libdamp/graph/Graph" "nodeCount" "I" (.int (0 : Int32))) (I2 : Fld Z h0 a1 "com/example/libdamp/libdamp/graph/Graph" "firstArcs" "[I" .null) (I3 : Fld Z h0 a1 "com/example/libdamp/libdamp/graph/Graph" "targets" "[I" .null) (ge_a1 : n0 ≤ a1) :
    MetFree l (⟨"com/example/libdamp/libdamp/graph/Graph", "<init>", "(I[I[I)V"⟩ : MethodName) (head1 (Jvm.Cond.code (⟨"com/example/libdamp/libdamp/graph/Graph", "<init>", "(I[I[I)V"⟩ : MethodName) prog_45_method_1_code 4 none :: ws) ({ frames := 1, cells := 0, slots := 0, locals := 12 } : Room)) (fun a U => a = #[(.ref a1), (.int p2), (.ref a3), (.ref a4)] ∧ Z.Warmed39 U.vm ∧ U.heap = h0) (fun _ _ _ _ _ => True) (fun _ U o U' => ∃ v L, o = .returned v ∧ (K_rm_graph  Z h0 n0 a1 p2 a3 a4) v U'.heap L ∧ FrameEnd U o U' L ({ frames := 1, cells := 0, slots := 0, locals := 12 } : Room).cells ({ frames := 1, cells := 0, slots := 0, locals := 12 } : Room).slots) := by
  refine own_body (plainFor_of_name pn_com_example_libdamp_libdamp_graph_Graph) ?_
  intro p e s m below meth c s₁ hx hby hml hown hnm hret hlk hZ X0 e0
  have hown : s.vm.findClass "com/example/libdamp/libdamp/graph/Graph" = some m.cls := hown
  have N0 := Fr.nil n0
  rw [ef_rm_graph m a1 p2 a3 a4]
  have K0 := Keep.refl h0 [a1]
  refine own_aloadN X0 hx (pc' := 1) rfl (hb hby d_prog_45_method_1_code_0) rfl rfl ?_
  refine own_initO X0 hx hZ hown (hw _ (List.mem_of_getElem? (i := 15) rfl)) (hw _ (List.mem_of_getElem? (i := 16) rfl)) (hw _ (List.mem_of_getElem? (i := 17) rfl)) e0 (by rw [hml]; rfl) (pc' := 4) rfl (hb hby d_prog_45_method_1_code_1) (by decide) (W := 0) (Nat.le_of_eq rfl) (by decide) ?_
  intro T1 X1 e1
  refine own_aloadN X1 hx (pc' := 5) rfl (hb hby d_prog_45_method_1_code_4) rfl rfl ?_
  refine own_iloadN X1 hx (pc' := 6) rfl (hb hby d_prog_45_method_1_code_5) rfl ?_
  refine own_putF X1 hx hZ hown (host := "") (Or.inl (hw _ (List.mem_of_getElem? (i := 18) rfl))) Via.refl e1 I1 I0 (Or.inr ⟨(hw _ (List.mem_of_getElem? (i := 19) rfl)), rfl, hnm⟩) (hw _ (List.mem_of_getElem? (i := 10) rfl)) (ty := .int) (by decide) rfl rfl (pc' := 9) rfl (hb hby d_prog_45_method_1_code_6) ?_
  intro T2 h2 X2 e2 W2
  have F3 := Fld.same W2 I1
  have S4 := own_sizWr W2 Z0
  have E5 := Exa.wr W2 I0
  have F7 := Fld.other W2 I2 (Or.inr (slot_ne (Or.inr (hw _ (List.mem_of_getElem? (i := 21) rfl))) (Or.inr (hw _ (List.mem_of_getElem? (i := 19) rfl))) (by decide) (t := (.array .int)) (t' := .int) (by decide) (by decide)))
  have F8 := Fld.other W2 I3 (Or.inr (slot_ne (Or.inr (hw _ (List.mem_of_getElem? (i := 23) rfl))) (Or.inr (hw _ (List.mem_of_getElem? (i := 19) rfl))) (by decide) (t := (.array .int)) (t' := .int) (by decide) (by decide)))
  have N2 := Fr.snoc X2 N0 ge_a1
  have K2 := Keep.wr K0 W2 (Or.inl (by simp))
  refine own_aloadN X2 hx (pc' := 10) rfl (hb hby d_prog_45_method_1_code_9) rfl rfl ?_
  refine own_aloadN X2 hx (pc' := 11) rfl (hb hby d_prog_45_method_1_code_10) rfl rfl ?_
  refine own_putF X2 hx hZ hown (host := "") (Or.inl (hw _ (List.mem_of_getElem? (i := 20) rfl))) Via.refl e2 F7 E5 (Or.inr ⟨(hw _ (List.mem_of_getElem? (i := 21) rfl)), rfl, hnm⟩) (hw _ (List.mem_of_getElem? (i := 10) rfl)) (ty := (.array .int)) (by decide) rfl rfl (pc' := 14) rfl (hb hby d_prog_45_method_1_code_11) ?_
  intro T9 h9 X9 e9 W9
  have F10 := Fld.same W9 F7
  have S11 := own_sizWr W9 S4
  have E12 := Exa.wr W9 E5
  have F14 := Fld.other W9 F8 (Or.inr (slot_ne (Or.inr (hw _ (List.mem_of_getElem? (i := 23) rfl))) (Or.inr (hw _ (List.mem_of_getElem? (i := 21) rfl))) (by decide) (t := (.array .int)) (t' := (.array .int)) (by decide) (by decide)))
  have F15 := Fld.other W9 F3 (Or.inr (slot_ne (Or.inr (hw _ (List.mem_of_getElem? (i := 19) rfl))) (Or.inr (hw _ (List.mem_of_getElem? (i := 21) rfl))) (by decide) (t := .int) (t' := (.array .int)) (by decide) (by decide)))
  have N9 := Fr.snoc X9 N2 ge_a1
  have K9 := Keep.wr K2 W9 (Or.inl (by simp))
  refine own_aloadN X9 hx (pc' := 15) rfl (hb hby d_prog_45_method_1_code_14) rfl rfl ?_
  refine own_aloadN X9 hx (pc' := 16) rfl (hb hby d_prog_45_method_1_code_15) rfl rfl ?_
  refine own_putF X9 hx hZ hown (host := "") (Or.inl (hw _ (List.mem_of_getElem? (i := 22) rfl))) Via.refl e9 F14 E12 (Or.inr ⟨(hw _ (List.mem_of_getElem? (i := 23) rfl)), rfl, hnm⟩) (hw _ (List.mem_of_getElem? (i := 10) rfl)) (ty := (.array .int)) (by decide) rfl rfl (pc' := 19) rfl (hb hby d_prog_45_method_1_code_16) ?_
  intro T16 h16 X16 e16 W16
  have F17 := Fld.same W16 F14
  have S18 := own_sizWr W16 S11
  have E19 := Exa.wr W16 E12
  have F21 := Fld.other W16 F15 (Or.inr (slot_ne (Or.inr (hw _ (List.mem_of_getElem? (i := 19) rfl))) (Or.inr (hw _ (List.mem_of_getElem? (i := 23) rfl))) (by decide) (t := .int) (t' := (.array .int)) (by decide) (by decide)))
  have F22 := Fld.other W16 F10 (Or.inr (slot_ne (Or.inr (hw _ (List.mem_of_getElem? (i := 21) rfl))) (Or.inr (hw _ (List.mem_of_getElem? (i := 23) rfl))) (by decide) (t := (.array .int)) (t' := (.array .int)) (by decide) (by decide)))
  have N16 := Fr.snoc X16 N9 ge_a1
  have K16 := Keep.wr K9 W16 (Or.inl (by simp))
  refine own_ret X16 hx hlk hret (hb hby d_prog_45_method_1_code_19) (by decide) (by decide) ?_
  rw [e16]
  exact ⟨rfl, N16, K16, E19, F21, F22, F17⟩
def own_bump (c t u : Int32) : Int32 := if t = u then c + 1 else c
theorem ef_rm_slc (m : MethodId) (a1 : Addr) : entryFrame m #[(.ref a1)] 4 = mkF m 0 #[.val (.ref a1), .unset, .unset, .unset] [] := by first | (simp [entryFrame, mkF, argsToLocals, Value.category]; done) | rfl
def K_rm_slc (b1 : Addr) (b2 : Addr) (f1 : Nat → Value) (f2 : Nat → Value) (t0 : Int32) (t1 : Int32) (t2 : Int32) (t3 : Int32) (t4 : Int32) (t5 : Int32) (Z : State) (h0 : Heap) (n0 : Nat) (a1 : Addr) (v : Option Value) (h : Heap) (L : List Loc) : Prop := v = some (.int (own_bump (own_bump (own_bump (own_bump (own_bump (own_bump (0 : Int32) t0 (0 : Int32)) t1 (0 : Int32)) t2 (2 : Int32)) t3 (2 : Int32)) t4 (3 : Int32)) t5 (3 : Int32))) ∧ Fr n0 L ∧ h = h0
theorem d_prog_45_method_8_code_0 : decode prog_45_method_8_code 0 = .ok (.iconst 0, 1) := by decide +kernel
theorem d_prog_45_method_8_code_1 : decode prog_45_method_8_code 1 = .ok (.istore_n 1, 1) := by decide +kernel
theorem d_prog_45_method_8_code_2 : decode prog_45_method_8_code 2 = .ok (.iconst 0, 1) := by decide +kernel
theorem d_prog_45_method_8_code_3 : decode prog_45_method_8_code 3 = .ok (.istore_n 2, 1) := by decide +kernel
theorem d_prog_45_method_8_code_4 : decode prog_45_method_8_code 4 = .ok (.iload_n 2, 1) := by decide +kernel
theorem d_prog_45_method_8_code_5 : decode prog_45_method_8_code 5 = .ok (.aload_n 0, 1) := by decide +kernel
theorem d_prog_45_method_8_code_6 : decode prog_45_method_8_code 6 = .ok (.getfield 9, 3) := by decide +kernel
theorem d_prog_45_method_8_code_9 : decode prog_45_method_8_code 9 = .ok (.if_icmp .ge 47, 3) := by decide +kernel
theorem d_prog_45_method_8_code_12 : decode prog_45_method_8_code 12 = .ok (.aload_n 0, 1) := by decide +kernel
theorem d_prog_45_method_8_code_13 : decode prog_45_method_8_code 13 = .ok (.getfield 15, 3) := by decide +kernel
theorem d_prog_45_method_8_code_16 : decode prog_45_method_8_code 16 = .ok (.iload_n 2, 1) := by decide +kernel
theorem d_prog_45_method_8_code_17 : decode prog_45_method_8_code 17 = .ok (.iaload, 1) := by decide +kernel
theorem d_prog_45_method_8_code_18 : decode prog_45_method_8_code 18 = .ok (.istore_n 3, 1) := by decide +kernel
theorem d_prog_45_method_8_code_19 : decode prog_45_method_8_code 19 = .ok (.iload_n 3, 1) := by decide +kernel
theorem d_prog_45_method_8_code_20 : decode prog_45_method_8_code 20 = .ok (.aload_n 0, 1) := by decide +kernel
theorem d_prog_45_method_8_code_21 : decode prog_45_method_8_code 21 = .ok (.getfield 15, 3) := by decide +kernel
theorem d_prog_45_method_8_code_24 : decode prog_45_method_8_code 24 = .ok (.iload_n 2, 1) := by decide +kernel
theorem d_prog_45_method_8_code_25 : decode prog_45_method_8_code 25 = .ok (.iconst 1, 1) := by decide +kernel
theorem d_prog_45_method_8_code_26 : decode prog_45_method_8_code 26 = .ok (.iadd, 1) := by decide +kernel
theorem d_prog_45_method_8_code_27 : decode prog_45_method_8_code 27 = .ok (.iaload, 1) := by decide +kernel
theorem d_prog_45_method_8_code_28 : decode prog_45_method_8_code 28 = .ok (.if_icmp .ge 22, 3) := by decide +kernel
theorem d_prog_45_method_8_code_31 : decode prog_45_method_8_code 31 = .ok (.aload_n 0, 1) := by decide +kernel
theorem d_prog_45_method_8_code_32 : decode prog_45_method_8_code 32 = .ok (.getfield 19, 3) := by decide +kernel
theorem d_prog_45_method_8_code_35 : decode prog_45_method_8_code 35 = .ok (.iload_n 3, 1) := by decide +kernel
theorem d_prog_45_method_8_code_36 : decode prog_45_method_8_code 36 = .ok (.iaload, 1) := by decide +kernel
theorem d_prog_45_method_8_code_37 : decode prog_45_method_8_code 37 = .ok (.iload_n 2, 1) := by decide +kernel
theorem d_prog_45_method_8_code_38 : decode prog_45_method_8_code 38 = .ok (.if_icmp .ne 6, 3) := by decide +kernel
theorem d_prog_45_method_8_code_41 : decode prog_45_method_8_code 41 = .ok (.iinc 1 1, 3) := by decide +kernel
theorem d_prog_45_method_8_code_44 : decode prog_45_method_8_code 44 = .ok (.iinc 3 1, 3) := by decide +kernel
theorem d_prog_45_method_8_code_47 : decode prog_45_method_8_code 47 = .ok (.goto (-28), 3) := by decide +kernel
theorem d_prog_45_method_8_code_50 : decode prog_45_method_8_code 50 = .ok (.iinc 2 1, 3) := by decide +kernel
theorem d_prog_45_method_8_code_53 : decode prog_45_method_8_code 53 = .ok (.goto (-49), 3) := by decide +kernel
theorem d_prog_45_method_8_code_56 : decode prog_45_method_8_code 56 = .ok (.iload_n 1, 1) := by decide +kernel
theorem d_prog_45_method_8_code_57 : decode prog_45_method_8_code 57 = .ok (.ireturn, 1) := by decide +kernel
set_option maxRecDepth 65536 in
set_option maxHeartbeats 40000000 in
theorem rm_slc (l : Launch) (Z : State) (a0 : Array Value) (hw : ∀ d ∈ tables_1, d.before a0 Z = true) (ws : List Jvm.Cond) (b1 : Addr) (b2 : Addr) (f1 : Nat → Value) (f2 : Nat → Value) (t0 : Int32) (t1 : Int32) (t2 : Int32) (t3 : Int32) (t4 : Int32) (t5 : Int32) (a1 : Addr) (h0 : Heap) (n0 : Nat) (Z0 : n0 ≤ h0.size) (I0 : Exa Z h0 a1 "com/example/libdamp/libdamp/graph/Graph") (I1 : Fld Z h0 a1 "com/example/libdamp/libdamp/graph/Graph" "nodeCount" "I" (.int (4 : Int32))) (I2 : Fld Z h0 a1 "com/example/libdamp/libdamp/graph/Graph" "firstArcs" "[I" (.ref b1)) (I3 : Fld Z h0 a1 "com/example/libdamp/libdamp/graph/Graph" "targets" "[I" (.ref b2)) (I4 : own_Arr Z h0 b1 .int 5 f1) (I5 : own_Arr Z h0 b2 .int 6 f2) (hf1 : f1 0 = .int (0 : Int32) ∧ f1 1 = .int (2 : Int32) ∧ f1 2 = .int (2 : Int32) ∧ f1 3 = .int (4 : Int32) ∧ f1 4 = .int (6 : Int32)) (hf2 : f2 0 = .int t0 ∧ f2 1 = .int t1 ∧ f2 2 = .int t2 ∧ f2 3 = .int t3 ∧ f2 4 = .int t4 ∧ f2 5 = .int t5) :
    MetFree l (⟨"com/example/libdamp/libdamp/graph/Graph", "selfLoopCount", "()I"⟩ : MethodName) (head1 (Jvm.Cond.code (⟨"com/example/libdamp/libdamp/graph/Graph", "selfLoopCount", "()I"⟩ : MethodName) prog_45_method_8_code 4 (some .int) :: ws) ({ frames := 0, cells := 0, slots := 0, locals := 0 } : Room)) (fun a U => a = #[(.ref a1)] ∧ Z.Warmed39 U.vm ∧ U.heap = h0) (fun _ _ _ _ _ => True) (fun _ U o U' => ∃ v L, o = .returned v ∧ (K_rm_slc b1 b2 f1 f2 t0 t1 t2 t3 t4 t5 Z h0 n0 a1) v U'.heap L ∧ FrameEnd U o U' L ({ frames := 0, cells := 0, slots := 0, locals := 0 } : Room).cells ({ frames := 0, cells := 0, slots := 0, locals := 0 } : Room).slots) := by
  refine own_body (plainFor_of_name pn_com_example_libdamp_libdamp_graph_Graph) ?_
  intro p e s m below meth c s₁ hx hby hml hown hnm hret hlk hZ X0 e0
  have hown : s.vm.findClass "com/example/libdamp/libdamp/graph/Graph" = some m.cls := hown
  have N0 := Fr.nil n0
  rw [ef_rm_slc m a1]
  refine own_iconst X0 hx (v := (0 : Int32)) (pc' := 1) rfl (hb hby d_prog_45_method_8_code_0) rfl ?_
  refine own_istoreN X0 hx (Ls' := #[.val (.ref a1), .val (.int (0 : Int32)), .unset, .unset]) (pc' := 2) rfl (hb hby d_prog_45_method_8_code_1) rfl ?_
  refine own_iconst X0 hx (v := (0 : Int32)) (pc' := 3) rfl (hb hby d_prog_45_method_8_code_2) rfl ?_
  refine own_istoreN X0 hx (Ls' := #[.val (.ref a1), .val (.int (0 : Int32)), .val (.int (0 : Int32)), .unset]) (pc' := 4) rfl (hb hby d_prog_45_method_8_code_3) rfl ?_
  refine own_iloadN X0 hx (pc' := 5) rfl (hb hby d_prog_45_method_8_code_4) rfl ?_
  refine own_aloadN X0 hx (pc' := 6) rfl (hb hby d_prog_45_method_8_code_5) rfl rfl ?_
  refine own_getF X0 hx hZ hown (host := "") (Or.inl (hw _ (List.mem_of_getElem? (i := 18) rfl))) Via.refl e0 I1 (pc' := 9) rfl (hb hby d_prog_45_method_8_code_6) ?_
  intro T1 X1 e1
  refine own_icmpF X1 hx (pc' := 12) rfl (hb hby d_prog_45_method_8_code_9) (XT.ii_ge_f (by decide)) ?_
  refine own_aloadN X1 hx (pc' := 13) rfl (hb hby d_prog_45_method_8_code_12) rfl rfl ?_
  refine own_getF X1 hx hZ hown (host := "") (Or.inl (hw _ (List.mem_of_getElem? (i := 20) rfl))) Via.refl e1 I2 (pc' := 16) rfl (hb hby d_prog_45_method_8_code_13) ?_
  intro T2 X2 e2
  refine own_iloadN X2 hx (pc' := 17) rfl (hb hby d_prog_45_method_8_code_16) rfl ?_
  refine own_ldI X2 hx hZ e2 I4 (k := 0) (by decide) (by decide) (by decide) (v := (.int (0 : Int32))) hf1.1 (pc' := 18) rfl (hb hby d_prog_45_method_8_code_17) ?_
  refine own_istoreN X2 hx (Ls' := #[.val (.ref a1), .val (.int (0 : Int32)), .val (.int (0 : Int32)), .val (.int (0 : Int32))]) (pc' := 19) rfl (hb hby d_prog_45_method_8_code_18) rfl ?_
  refine own_iloadN X2 hx (pc' := 20) rfl (hb hby d_prog_45_method_8_code_19) rfl ?_
  refine own_aloadN X2 hx (pc' := 21) rfl (hb hby d_prog_45_method_8_code_20) rfl rfl ?_
  refine own_getF X2 hx hZ hown (host := "") (Or.inl (hw _ (List.mem_of_getElem? (i := 20) rfl))) Via.refl e2 I2 (pc' := 24) rfl (hb hby d_prog_45_method_8_code_21) ?_
  intro T3 X3 e3
  refine own_iloadN X3 hx (pc' := 25) rfl (hb hby d_prog_45_method_8_code_24) rfl ?_
  refine own_iconst X3 hx (v := (1 : Int32)) (pc' := 26) rfl (hb hby d_prog_45_method_8_code_25) rfl ?_
  refine own_iadd X3 hx (v := (1 : Int32)) (pc' := 27) rfl (hb hby d_prog_45_method_8_code_26) (by decide) ?_
  refine own_ldI X3 hx hZ e3 I4 (k := 1) (by decide) (by decide) (by decide) (v := (.int (2 : Int32))) hf1.2.1 (pc' := 28) rfl (hb hby d_prog_45_method_8_code_27) ?_
  refine own_icmpF X3 hx (pc' := 31) rfl (hb hby d_prog_45_method_8_code_28) (XT.ii_ge_f (by decide)) ?_
  refine own_aloadN X3 hx (pc' := 32) rfl (hb hby d_prog_45_method_8_code_31) rfl rfl ?_
  refine own_getF X3 hx hZ hown (host := "") (Or.inl (hw _ (List.mem_of_getElem? (i := 22) rfl))) Via.refl e3 I3 (pc' := 35) rfl (hb hby d_prog_45_method_8_code_32) ?_
  intro T4 X4 e4
  refine own_iloadN X4 hx (pc' := 36) rfl (hb hby d_prog_45_method_8_code_35) rfl ?_
  refine own_ldI X4 hx hZ e4 I5 (k := 0) (by decide) (by decide) (by decide) (v := (.int t0)) hf2.1 (pc' := 37) rfl (hb hby d_prog_45_method_8_code_36) ?_
  refine own_iloadN X4 hx (pc' := 38) rfl (hb hby d_prog_45_method_8_code_37) rfl ?_
  suffices hj5 : own_Goes p e below T4 (mkF m 44 #[.val (.ref a1), .val (.int (own_bump (0 : Int32) t0 (0 : Int32))), .val (.int (0 : Int32)), .val (.int (0 : Int32))] []) (own_Ret s (K_rm_slc b1 b2 f1 f2 t0 t1 t2 t3 t4 t5 Z h0 n0 a1) ({ frames := 0, cells := 0, slots := 0, locals := 0 } : Room).cells ({ frames := 0, cells := 0, slots := 0, locals := 0 } : Room).slots) by
    by_cases c38_6 : t0 = (0 : Int32)
    · refine own_icmpF X4 hx (pc' := 41) rfl (hb hby d_prog_45_method_8_code_38) (XT.ii_ne_f c38_6) ?_
      refine own_iinc X4 hx (v := (1 : Int32)) (Ls' := #[.val (.ref a1), .val (.int (1 : Int32)), .val (.int (0 : Int32)), .val (.int (0 : Int32))]) (pc' := 44) rfl (hb hby d_prog_45_method_8_code_41) rfl (by decide) rfl ?_
      rw [show (own_bump (0 : Int32) t0 (0 : Int32)) = (1 : Int32) from by first | (simp only [own_bump, if_pos c38_6]; done) | (simp only [own_bump, if_pos c38_6]; rfl)] at hj5
      exact hj5
    · refine own_icmpT X4 hx (pc' := 44) (hb hby d_prog_45_method_8_code_38) (XT.ii_ne_t c38_6) (by decide) (by decide) ?_
      rw [show (own_bump (0 : Int32) t0 (0 : Int32)) = (0 : Int32) from by first | (simp only [own_bump, if_neg c38_6]; done) | (simp only [own_bump, if_neg c38_6]; rfl)] at hj5
      exact hj5
  refine own_iinc X4 hx (v := (1 : Int32)) (Ls' := #[.val (.ref a1), .val (.int (own_bump (0 : Int32) t0 (0 : Int32))), .val (.int (0 : Int32)), .val (.int (1 : Int32))]) (pc' := 47) rfl (hb hby d_prog_45_method_8_code_44) rfl (by decide) rfl ?_
  refine own_goto X4 hx (pc' := 19) (hb hby d_prog_45_method_8_code_47) (by decide) (by decide) ?_
  refine own_iloadN X4 hx (pc' := 20) rfl (hb hby d_prog_45_method_8_code_19) rfl ?_
  refine own_aloadN X4 hx (pc' := 21) rfl (hb hby d_prog_45_method_8_code_20) rfl rfl ?_
  refine own_getF X4 hx hZ hown (host := "") (Or.inl (hw _ (List.mem_of_getElem? (i := 20) rfl))) Via.refl e4 I2 (pc' := 24) rfl (hb hby d_prog_45_method_8_code_21) ?_
  intro T7 X7 e7
  refine own_iloadN X7 hx (pc' := 25) rfl (hb hby d_prog_45_method_8_code_24) rfl ?_
  refine own_iconst X7 hx (v := (1 : Int32)) (pc' := 26) rfl (hb hby d_prog_45_method_8_code_25) rfl ?_
  refine own_iadd X7 hx (v := (1 : Int32)) (pc' := 27) rfl (hb hby d_prog_45_method_8_code_26) (by decide) ?_
  refine own_ldI X7 hx hZ e7 I4 (k := 1) (by decide) (by decide) (by decide) (v := (.int (2 : Int32))) hf1.2.1 (pc' := 28) rfl (hb hby d_prog_45_method_8_code_27) ?_
  refine own_icmpF X7 hx (pc' := 31) rfl (hb hby d_prog_45_method_8_code_28) (XT.ii_ge_f (by decide)) ?_
  refine own_aloadN X7 hx (pc' := 32) rfl (hb hby d_prog_45_method_8_code_31) rfl rfl ?_
  refine own_getF X7 hx hZ hown (host := "") (Or.inl (hw _ (List.mem_of_getElem? (i := 22) rfl))) Via.refl e7 I3 (pc' := 35) rfl (hb hby d_prog_45_method_8_code_32) ?_
  intro T8 X8 e8
  refine own_iloadN X8 hx (pc' := 36) rfl (hb hby d_prog_45_method_8_code_35) rfl ?_
  refine own_ldI X8 hx hZ e8 I5 (k := 1) (by decide) (by decide) (by decide) (v := (.int t1)) hf2.2.1 (pc' := 37) rfl (hb hby d_prog_45_method_8_code_36) ?_
  refine own_iloadN X8 hx (pc' := 38) rfl (hb hby d_prog_45_method_8_code_37) rfl ?_
  suffices hj9 : own_Goes p e below T8 (mkF m 44 #[.val (.ref a1), .val (.int (own_bump (own_bump (0 : Int32) t0 (0 : Int32)) t1 (0 : Int32))), .val (.int (0 : Int32)), .val (.int (1 : Int32))] []) (own_Ret s (K_rm_slc b1 b2 f1 f2 t0 t1 t2 t3 t4 t5 Z h0 n0 a1) ({ frames := 0, cells := 0, slots := 0, locals := 0 } : Room).cells ({ frames := 0, cells := 0, slots := 0, locals := 0 } : Room).slots) by
    by_cases c38_10 : t1 = (0 : Int32)
    · refine own_icmpF X8 hx (pc' := 41) rfl (hb hby d_prog_45_method_8_code_38) (XT.ii_ne_f c38_10) ?_
      refine own_iinc X8 hx (v := ((own_bump (0 : Int32) t0 (0 : Int32)) + (1 : Int32))) (Ls' := #[.val (.ref a1), .val (.int ((own_bump (0 : Int32) t0 (0 : Int32)) + (1 : Int32))), .val (.int (0 : Int32)), .val (.int (1 : Int32))]) (pc' := 44) rfl (hb hby d_prog_45_method_8_code_41) rfl rfl rfl ?_
      rw [show (own_bump (own_bump (0 : Int32) t0 (0 : Int32)) t1 (0 : Int32)) = ((own_bump (0 : Int32) t0 (0 : Int32)) + (1 : Int32)) from by first | (simp only [own_bump, if_pos c38_10]; done) | (simp only [own_bump, if_pos c38_10]; rfl)] at hj9
      exact hj9
    · refine own_icmpT X8 hx (pc' := 44) (hb hby d_prog_45_method_8_code_38) (XT.ii_ne_t c38_10) (by decide) (by decide) ?_
      rw [show (own_bump (own_bump (0 : Int32) t0 (0 : Int32)) t1 (0 : Int32)) = (own_bump (0 : Int32) t0 (0 : Int32)) from by first | (simp only [own_bump, if_neg c38_10]; done) | (simp only [own_bump, if_neg c38_10]; rfl)] at hj9
      exact hj9
  refine own_iinc X8 hx (v := (2 : Int32)) (Ls' := #[.val (.ref a1), .val (.int (own_bump (own_bump (0 : Int32) t0 (0 : Int32)) t1 (0 : Int32))), .val (.int (0 : Int32)), .val (.int (2 : Int32))]) (pc' := 47) rfl (hb hby d_prog_45_method_8_code_44) rfl (by decide) rfl ?_
  refine own_goto X8 hx (pc' := 19) (hb hby d_prog_45_method_8_code_47) (by decide) (by decide) ?_
  refine own_iloadN X8 hx (pc' := 20) rfl (hb hby d_prog_45_method_8_code_19) rfl ?_
  refine own_aloadN X8 hx (pc' := 21) rfl (hb hby d_prog_45_method_8_code_20) rfl rfl ?_
  refine own_getF X8 hx hZ hown (host := "") (Or.inl (hw _ (List.mem_of_getElem? (i := 20) rfl))) Via.refl e8 I2 (pc' := 24) rfl (hb hby d_prog_45_method_8_code_21) ?_
  intro T11 X11 e11
  refine own_iloadN X11 hx (pc' := 25) rfl (hb hby d_prog_45_method_8_code_24) rfl ?_
  refine own_iconst X11 hx (v := (1 : Int32)) (pc' := 26) rfl (hb hby d_prog_45_method_8_code_25) rfl ?_
  refine own_iadd X11 hx (v := (1 : Int32)) (pc' := 27) rfl (hb hby d_prog_45_method_8_code_26) (by decide) ?_
  refine own_ldI X11 hx hZ e11 I4 (k := 1) (by decide) (by decide) (by decide) (v := (.int (2 : Int32))) hf1.2.1 (pc' := 28) rfl (hb hby d_prog_45_method_8_code_27) ?_
  refine own_icmpT X11 hx (pc' := 50) (hb hby d_prog_45_method_8_code_28) (XT.ii_ge_t (by decide)) (by decide) (by decide) ?_
  refine own_iinc X11 hx (v := (1 : Int32)) (Ls' := #[.val (.ref a1), .val (.int (own_bump (own_bump (0 : Int32) t0 (0 : Int32)) t1 (0 : Int32))), .val (.int (1 : Int32)), .val (.int (2 : Int32))]) (pc' := 53) rfl (hb hby d_prog_45_method_8_code_50) rfl (by decide) rfl ?_
  refine own_goto X11 hx (pc' := 4) (hb hby d_prog_45_method_8_code_53) (by decide) (by decide) ?_
  refine own_iloadN X11 hx (pc' := 5) rfl (hb hby d_prog_45_method_8_code_4) rfl ?_
  refine own_aloadN X11 hx (pc' := 6) rfl (hb hby d_prog_45_method_8_code_5) rfl rfl ?_
  refine own_getF X11 hx hZ hown (host := "") (Or.inl (hw _ (List.mem_of_getElem? (i := 18) rfl))) Via.refl e11 I1 (pc' := 9) rfl (hb hby d_prog_45_method_8_code_6) ?_
  intro T12 X12 e12
  refine own_icmpF X12 hx (pc' := 12) rfl (hb hby d_prog_45_method_8_code_9) (XT.ii_ge_f (by decide)) ?_
  refine own_aloadN X12 hx (pc' := 13) rfl (hb hby d_prog_45_method_8_code_12) rfl rfl ?_
  refine own_getF X12 hx hZ hown (host := "") (Or.inl (hw _ (List.mem_of_getElem? (i := 20) rfl))) Via.refl e12 I2 (pc' := 16) rfl (hb hby d_prog_45_method_8_code_13) ?_
  intro T13 X13 e13
  refine own_iloadN X13 hx (pc' := 17) rfl (hb hby d_prog_45_method_8_code_16) rfl ?_
  refine own_ldI X13 hx hZ e13 I4 (k := 1) (by decide) (by decide) (by decide) (v := (.int (2 : Int32))) hf1.2.1 (pc' := 18) rfl (hb hby d_prog_45_method_8_code_17) ?_
  refine own_istoreN X13 hx (Ls' := #[.val (.ref a1), .val (.int (own_bump (own_bump (0 : Int32) t0 (0 : Int32)) t1 (0 : Int32))), .val (.int (1 : Int32)), .val (.int (2 : Int32))]) (pc' := 19) rfl (hb hby d_prog_45_method_8_code_18) rfl ?_
  refine own_iloadN X13 hx (pc' := 20) rfl (hb hby d_prog_45_method_8_code_19) rfl ?_
  refine own_aloadN X13 hx (pc' := 21) rfl (hb hby d_prog_45_method_8_code_20) rfl rfl ?_
  refine own_getF X13 hx hZ hown (host := "") (Or.inl (hw _ (List.mem_of_getElem? (i := 20) rfl))) Via.refl e13 I2 (pc' := 24) rfl (hb hby d_prog_45_method_8_code_21) ?_
  intro T14 X14 e14
  refine own_iloadN X14 hx (pc' := 25) rfl (hb hby d_prog_45_method_8_code_24) rfl ?_
  refine own_iconst X14 hx (v := (1 : Int32)) (pc' := 26) rfl (hb hby d_prog_45_method_8_code_25) rfl ?_
  refine own_iadd X14 hx (v := (2 : Int32)) (pc' := 27) rfl (hb hby d_prog_45_method_8_code_26) (by decide) ?_
  refine own_ldI X14 hx hZ e14 I4 (k := 2) (by decide) (by decide) (by decide) (v := (.int (2 : Int32))) hf1.2.2.1 (pc' := 28) rfl (hb hby d_prog_45_method_8_code_27) ?_
  refine own_icmpT X14 hx (pc' := 50) (hb hby d_prog_45_method_8_code_28) (XT.ii_ge_t (by decide)) (by decide) (by decide) ?_
  refine own_iinc X14 hx (v := (2 : Int32)) (Ls' := #[.val (.ref a1), .val (.int (own_bump (own_bump (0 : Int32) t0 (0 : Int32)) t1 (0 : Int32))), .val (.int (2 : Int32)), .val (.int (2 : Int32))]) (pc' := 53) rfl (hb hby d_prog_45_method_8_code_50) rfl (by decide) rfl ?_
  refine own_goto X14 hx (pc' := 4) (hb hby d_prog_45_method_8_code_53) (by decide) (by decide) ?_
  refine own_iloadN X14 hx (pc' := 5) rfl (hb hby d_prog_45_method_8_code_4) rfl ?_
  refine own_aloadN X14 hx (pc' := 6) rfl (hb hby d_prog_45_method_8_code_5) rfl rfl ?_
  refine own_getF X14 hx hZ hown (host := "") (Or.inl (hw _ (List.mem_of_getElem? (i := 18) rfl))) Via.refl e14 I1 (pc' := 9) rfl (hb hby d_prog_45_method_8_code_6) ?_
  intro T15 X15 e15
  refine own_icmpF X15 hx (pc' := 12) rfl (hb hby d_prog_45_method_8_code_9) (XT.ii_ge_f (by decide)) ?_
  refine own_aloadN X15 hx (pc' := 13) rfl (hb hby d_prog_45_method_8_code_12) rfl rfl ?_
  refine own_getF X15 hx hZ hown (host := "") (Or.inl (hw _ (List.mem_of_getElem? (i := 20) rfl))) Via.refl e15 I2 (pc' := 16) rfl (hb hby d_prog_45_method_8_code_13) ?_
  intro T16 X16 e16
  refine own_iloadN X16 hx (pc' := 17) rfl (hb hby d_prog_45_method_8_code_16) rfl ?_
  refine own_ldI X16 hx hZ e16 I4 (k := 2) (by decide) (by decide) (by decide) (v := (.int (2 : Int32))) hf1.2.2.1 (pc' := 18) rfl (hb hby d_prog_45_method_8_code_17) ?_
  refine own_istoreN X16 hx (Ls' := #[.val (.ref a1), .val (.int (own_bump (own_bump (0 : Int32) t0 (0 : Int32)) t1 (0 : Int32))), .val (.int (2 : Int32)), .val (.int (2 : Int32))]) (pc' := 19) rfl (hb hby d_prog_45_method_8_code_18) rfl ?_
  refine own_iloadN X16 hx (pc' := 20) rfl (hb hby d_prog_45_method_8_code_19) rfl ?_
  refine own_aloadN X16 hx (pc' := 21) rfl (hb hby d_prog_45_method_8_code_20) rfl rfl ?_
  refine own_getF X16 hx hZ hown (host := "") (Or.inl (hw _ (List.mem_of_getElem? (i := 20) rfl))) Via.refl e16 I2 (pc' := 24) rfl (hb hby d_prog_45_method_8_code_21) ?_
  intro T17 X17 e17
  refine own_iloadN X17 hx (pc' := 25) rfl (hb hby d_prog_45_method_8_code_24) rfl ?_
  refine own_iconst X17 hx (v := (1 : Int32)) (pc' := 26) rfl (hb hby d_prog_45_method_8_code_25) rfl ?_
  refine own_iadd X17 hx (v := (3 : Int32)) (pc' := 27) rfl (hb hby d_prog_45_method_8_code_26) (by decide) ?_
  refine own_ldI X17 hx hZ e17 I4 (k := 3) (by decide) (by decide) (by decide) (v := (.int (4 : Int32))) hf1.2.2.2.1 (pc' := 28) rfl (hb hby d_prog_45_method_8_code_27) ?_
  refine own_icmpF X17 hx (pc' := 31) rfl (hb hby d_prog_45_method_8_code_28) (XT.ii_ge_f (by decide)) ?_
  refine own_aloadN X17 hx (pc' := 32) rfl (hb hby d_prog_45_method_8_code_31) rfl rfl ?_
  refine own_getF X17 hx hZ hown (host := "") (Or.inl (hw _ (List.mem_of_getElem? (i := 22) rfl))) Via.refl e17 I3 (pc' := 35) rfl (hb hby d_prog_45_method_8_code_32) ?_
  intro T18 X18 e18
  refine own_iloadN X18 hx (pc' := 36) rfl (hb hby d_prog_45_method_8_code_35) rfl ?_
  refine own_ldI X18 hx hZ e18 I5 (k := 2) (by decide) (by decide) (by decide) (v := (.int t2)) hf2.2.2.1 (pc' := 37) rfl (hb hby d_prog_45_method_8_code_36) ?_
  refine own_iloadN X18 hx (pc' := 38) rfl (hb hby d_prog_45_method_8_code_37) rfl ?_
  suffices hj19 : own_Goes p e below T18 (mkF m 44 #[.val (.ref a1), .val (.int (own_bump (own_bump (own_bump (0 : Int32) t0 (0 : Int32)) t1 (0 : Int32)) t2 (2 : Int32))), .val (.int (2 : Int32)), .val (.int (2 : Int32))] []) (own_Ret s (K_rm_slc b1 b2 f1 f2 t0 t1 t2 t3 t4 t5 Z h0 n0 a1) ({ frames := 0, cells := 0, slots := 0, locals := 0 } : Room).cells ({ frames := 0, cells := 0, slots := 0, locals := 0 } : Room).slots) by
    by_cases c38_20 : t2 = (2 : Int32)
    · refine own_icmpF X18 hx (pc' := 41) rfl (hb hby d_prog_45_method_8_code_38) (XT.ii_ne_f c38_20) ?_
      refine own_iinc X18 hx (v := ((own_bump (own_bump (0 : Int32) t0 (0 : Int32)) t1 (0 : Int32)) + (1 : Int32))) (Ls' := #[.val (.ref a1), .val (.int ((own_bump (own_bump (0 : Int32) t0 (0 : Int32)) t1 (0 : Int32)) + (1 : Int32))), .val (.int (2 : Int32)), .val (.int (2 : Int32))]) (pc' := 44) rfl (hb hby d_prog_45_method_8_code_41) rfl rfl rfl ?_
      rw [show (own_bump (own_bump (own_bump (0 : Int32) t0 (0 : Int32)) t1 (0 : Int32)) t2 (2 : Int32)) = ((own_bump (own_bump (0 : Int32) t0 (0 : Int32)) t1 (0 : Int32)) + (1 : Int32)) from by first | (simp only [own_bump, if_pos c38_20]; done) | (simp only [own_bump, if_pos c38_20]; rfl)] at hj19
      exact hj19
    · refine own_icmpT X18 hx (pc' := 44) (hb hby d_prog_45_method_8_code_38) (XT.ii_ne_t c38_20) (by decide) (by decide) ?_
      rw [show (own_bump (own_bump (own_bump (0 : Int32) t0 (0 : Int32)) t1 (0 : Int32)) t2 (2 : Int32)) = (own_bump (own_bump (0 : Int32) t0 (0 : Int32)) t1 (0 : Int32)) from by first | (simp only [own_bump, if_neg c38_20]; done) | (simp only [own_bump, if_neg c38_20]; rfl)] at hj19
      exact hj19
  refine own_iinc X18 hx (v := (3 : Int32)) (Ls' := #[.val (.ref a1), .val (.int (own_bump (own_bump (own_bump (0 : Int32) t0 (0 : Int32)) t1 (0 : Int32)) t2 (2 : Int32))), .val (.int (2 : Int32)), .val (.int (3 : Int32))]) (pc' := 47) rfl (hb hby d_prog_45_method_8_code_44) rfl (by decide) rfl ?_
  refine own_goto X18 hx (pc' := 19) (hb hby d_prog_45_method_8_code_47) (by decide) (by decide) ?_
  refine own_iloadN X18 hx (pc' := 20) rfl (hb hby d_prog_45_method_8_code_19) rfl ?_
  refine own_aloadN X18 hx (pc' := 21) rfl (hb hby d_prog_45_method_8_code_20) rfl rfl ?_
  refine own_getF X18 hx hZ hown (host := "") (Or.inl (hw _ (List.mem_of_getElem? (i := 20) rfl))) Via.refl e18 I2 (pc' := 24) rfl (hb hby d_prog_45_method_8_code_21) ?_
  intro T21 X21 e21
  refine own_iloadN X21 hx (pc' := 25) rfl (hb hby d_prog_45_method_8_code_24) rfl ?_
  refine own_iconst X21 hx (v := (1 : Int32)) (pc' := 26) rfl (hb hby d_prog_45_method_8_code_25) rfl ?_
  refine own_iadd X21 hx (v := (3 : Int32)) (pc' := 27) rfl (hb hby d_prog_45_method_8_code_26) (by decide) ?_
  refine own_ldI X21 hx hZ e21 I4 (k := 3) (by decide) (by decide) (by decide) (v := (.int (4 : Int32))) hf1.2.2.2.1 (pc' := 28) rfl (hb hby d_prog_45_method_8_code_27) ?_
  refine own_icmpF X21 hx (pc' := 31) rfl (hb hby d_prog_45_method_8_code_28) (XT.ii_ge_f (by decide)) ?_
  refine own_aloadN X21 hx (pc' := 32) rfl (hb hby d_prog_45_method_8_code_31) rfl rfl ?_
  refine own_getF X21 hx hZ hown (host := "") (Or.inl (hw _ (List.mem_of_getElem? (i := 22) rfl))) Via.refl e21 I3 (pc' := 35) rfl (hb hby d_prog_45_method_8_code_32) ?_
  intro T22 X22 e22
  refine own_iloadN X22 hx (pc' := 36) rfl (hb hby d_prog_45_method_8_code_35) rfl ?_
  refine own_ldI X22 hx hZ e22 I5 (k := 3) (by decide) (by decide) (by decide) (v := (.int t3)) hf2.2.2.2.1 (pc' := 37) rfl (hb hby d_prog_45_method_8_code_36) ?_
  refine own_iloadN X22 hx (pc' := 38) rfl (hb hby d_prog_45_method_8_code_37) rfl ?_
  suffices hj23 : own_Goes p e below T22 (mkF m 44 #[.val (.ref a1), .val (.int (own_bump (own_bump (own_bump (own_bump (0 : Int32) t0 (0 : Int32)) t1 (0 : Int32)) t2 (2 : Int32)) t3 (2 : Int32))), .val (.int (2 : Int32)), .val (.int (3 : Int32))] []) (own_Ret s (K_rm_slc b1 b2 f1 f2 t0 t1 t2 t3 t4 t5 Z h0 n0 a1) ({ frames := 0, cells := 0, slots := 0, locals := 0 } : Room).cells ({ frames := 0, cells := 0, slots := 0, locals := 0 } : Room).slots) by
    by_cases c38_24 : t3 = (2 : Int32)
    · refine own_icmpF X22 hx (pc' := 41) rfl (hb hby d_prog_45_method_8_code_38) (XT.ii_ne_f c38_24) ?_
      refine own_iinc X22 hx (v := ((own_bump (own_bump (own_bump (0 : Int32) t0 (0 : Int32)) t1 (0 : Int32)) t2 (2 : Int32)) + (1 : Int32))) (Ls' := #[.val (.ref a1), .val (.int ((own_bump (own_bump (own_bump (0 : Int32) t0 (0 : Int32)) t1 (0 : Int32)) t2 (2 : Int32)) + (1 : Int32))), .val (.int (2 : Int32)), .val (.int (3 : Int32))]) (pc' := 44) rfl (hb hby d_prog_45_method_8_code_41) rfl rfl rfl ?_
      rw [show (own_bump (own_bump (own_bump (own_bump (0 : Int32) t0 (0 : Int32)) t1 (0 : Int32)) t2 (2 : Int32)) t3 (2 : Int32)) = ((own_bump (own_bump (own_bump (0 : Int32) t0 (0 : Int32)) t1 (0 : Int32)) t2 (2 : Int32)) + (1 : Int32)) from by first | (simp only [own_bump, if_pos c38_24]; done) | (simp only [own_bump, if_pos c38_24]; rfl)] at hj23
      exact hj23
    · refine own_icmpT X22 hx (pc' := 44) (hb hby d_prog_45_method_8_code_38) (XT.ii_ne_t c38_24) (by decide) (by decide) ?_
      rw [show (own_bump (own_bump (own_bump (own_bump (0 : Int32) t0 (0 : Int32)) t1 (0 : Int32)) t2 (2 : Int32)) t3 (2 : Int32)) = (own_bump (own_bump (own_bump (0 : Int32) t0 (0 : Int32)) t1 (0 : Int32)) t2 (2 : Int32)) from by first | (simp only [own_bump, if_neg c38_24]; done) | (simp only [own_bump, if_neg c38_24]; rfl)] at hj23
      exact hj23
  refine own_iinc X22 hx (v := (4 : Int32)) (Ls' := #[.val (.ref a1), .val (.int (own_bump (own_bump (own_bump (own_bump (0 : Int32) t0 (0 : Int32)) t1 (0 : Int32)) t2 (2 : Int32)) t3 (2 : Int32))), .val (.int (2 : Int32)), .val (.int (4 : Int32))]) (pc' := 47) rfl (hb hby d_prog_45_method_8_code_44) rfl (by decide) rfl ?_
  refine own_goto X22 hx (pc' := 19) (hb hby d_prog_45_method_8_code_47) (by decide) (by decide) ?_
  refine own_iloadN X22 hx (pc' := 20) rfl (hb hby d_prog_45_method_8_code_19) rfl ?_
  refine own_aloadN X22 hx (pc' := 21) rfl (hb hby d_prog_45_method_8_code_20) rfl rfl ?_
  refine own_getF X22 hx hZ hown (host := "") (Or.inl (hw _ (List.mem_of_getElem? (i := 20) rfl))) Via.refl e22 I2 (pc' := 24) rfl (hb hby d_prog_45_method_8_code_21) ?_
  intro T25 X25 e25
  refine own_iloadN X25 hx (pc' := 25) rfl (hb hby d_prog_45_method_8_code_24) rfl ?_
  refine own_iconst X25 hx (v := (1 : Int32)) (pc' := 26) rfl (hb hby d_prog_45_method_8_code_25) rfl ?_
  refine own_iadd X25 hx (v := (3 : Int32)) (pc' := 27) rfl (hb hby d_prog_45_method_8_code_26) (by decide) ?_
  refine own_ldI X25 hx hZ e25 I4 (k := 3) (by decide) (by decide) (by decide) (v := (.int (4 : Int32))) hf1.2.2.2.1 (pc' := 28) rfl (hb hby d_prog_45_method_8_code_27) ?_
  refine own_icmpT X25 hx (pc' := 50) (hb hby d_prog_45_method_8_code_28) (XT.ii_ge_t (by decide)) (by decide) (by decide) ?_
  refine own_iinc X25 hx (v := (3 : Int32)) (Ls' := #[.val (.ref a1), .val (.int (own_bump (own_bump (own_bump (own_bump (0 : Int32) t0 (0 : Int32)) t1 (0 : Int32)) t2 (2 : Int32)) t3 (2 : Int32))), .val (.int (3 : Int32)), .val (.int (4 : Int32))]) (pc' := 53) rfl (hb hby d_prog_45_method_8_code_50) rfl (by decide) rfl ?_
  refine own_goto X25 hx (pc' := 4) (hb hby d_prog_45_method_8_code_53) (by decide) (by decide) ?_
  refine own_iloadN X25 hx (pc' := 5) rfl (hb hby d_prog_45_method_8_code_4) rfl ?_
  refine own_aloadN X25 hx (pc' := 6) rfl (hb hby d_prog_45_method_8_code_5) rfl rfl ?_
  refine own_getF X25 hx hZ hown (host := "") (Or.inl (hw _ (List.mem_of_getElem? (i := 18) rfl))) Via.refl e25 I1 (pc' := 9) rfl (hb hby d_prog_45_method_8_code_6) ?_
  intro T26 X26 e26
  refine own_icmpF X26 hx (pc' := 12) rfl (hb hby d_prog_45_method_8_code_9) (XT.ii_ge_f (by decide)) ?_
  refine own_aloadN X26 hx (pc' := 13) rfl (hb hby d_prog_45_method_8_code_12) rfl rfl ?_
  refine own_getF X26 hx hZ hown (host := "") (Or.inl (hw _ (List.mem_of_getElem? (i := 20) rfl))) Via.refl e26 I2 (pc' := 16) rfl (hb hby d_prog_45_method_8_code_13) ?_
  intro T27 X27 e27
  refine own_iloadN X27 hx (pc' := 17) rfl (hb hby d_prog_45_method_8_code_16) rfl ?_
  refine own_ldI X27 hx hZ e27 I4 (k := 3) (by decide) (by decide) (by decide) (v := (.int (4 : Int32))) hf1.2.2.2.1 (pc' := 18) rfl (hb hby d_prog_45_method_8_code_17) ?_
  refine own_istoreN X27 hx (Ls' := #[.val (.ref a1), .val (.int (own_bump (own_bump (own_bump (own_bump (0 : Int32) t0 (0 : Int32)) t1 (0 : Int32)) t2 (2 : Int32)) t3 (2 : Int32))), .val (.int (3 : Int32)), .val (.int (4 : Int32))]) (pc' := 19) rfl (hb hby d_prog_45_method_8_code_18) rfl ?_
  refine own_iloadN X27 hx (pc' := 20) rfl (hb hby d_prog_45_method_8_code_19) rfl ?_
  refine own_aloadN X27 hx (pc' := 21) rfl (hb hby d_prog_45_method_8_code_20) rfl rfl ?_
  refine own_getF X27 hx hZ hown (host := "") (Or.inl (hw _ (List.mem_of_getElem? (i := 20) rfl))) Via.refl e27 I2 (pc' := 24) rfl (hb hby d_prog_45_method_8_code_21) ?_
  intro T28 X28 e28
  refine own_iloadN X28 hx (pc' := 25) rfl (hb hby d_prog_45_method_8_code_24) rfl ?_
  refine own_iconst X28 hx (v := (1 : Int32)) (pc' := 26) rfl (hb hby d_prog_45_method_8_code_25) rfl ?_
  refine own_iadd X28 hx (v := (4 : Int32)) (pc' := 27) rfl (hb hby d_prog_45_method_8_code_26) (by decide) ?_
  refine own_ldI X28 hx hZ e28 I4 (k := 4) (by decide) (by decide) (by decide) (v := (.int (6 : Int32))) hf1.2.2.2.2 (pc' := 28) rfl (hb hby d_prog_45_method_8_code_27) ?_
  refine own_icmpF X28 hx (pc' := 31) rfl (hb hby d_prog_45_method_8_code_28) (XT.ii_ge_f (by decide)) ?_
  refine own_aloadN X28 hx (pc' := 32) rfl (hb hby d_prog_45_method_8_code_31) rfl rfl ?_
  refine own_getF X28 hx hZ hown (host := "") (Or.inl (hw _ (List.mem_of_getElem? (i := 22) rfl))) Via.refl e28 I3 (pc' := 35) rfl (hb hby d_prog_45_method_8_code_32) ?_
  intro T29 X29 e29
  refine own_iloadN X29 hx (pc' := 36) rfl (hb hby d_prog_45_method_8_code_35) rfl ?_
  refine own_ldI X29 hx hZ e29 I5 (k := 4) (by decide) (by decide) (by decide) (v := (.int t4)) hf2.2.2.2.2.1 (pc' := 37) rfl (hb hby d_prog_45_method_8_code_36) ?_
  refine own_iloadN X29 hx (pc' := 38) rfl (hb hby d_prog_45_method_8_code_37) rfl ?_
  suffices hj30 : own_Goes p e below T29 (mkF m 44 #[.val (.ref a1), .val (.int (own_bump (own_bump (own_bump (own_bump (own_bump (0 : Int32) t0 (0 : Int32)) t1 (0 : Int32)) t2 (2 : Int32)) t3 (2 : Int32)) t4 (3 : Int32))), .val (.int (3 : Int32)), .val (.int (4 : Int32))] []) (own_Ret s (K_rm_slc b1 b2 f1 f2 t0 t1 t2 t3 t4 t5 Z h0 n0 a1) ({ frames := 0, cells := 0, slots := 0, locals := 0 } : Room).cells ({ frames := 0, cells := 0, slots := 0, locals := 0 } : Room).slots) by
    by_cases c38_31 : t4 = (3 : Int32)
    · refine own_icmpF X29 hx (pc' := 41) rfl (hb hby d_prog_45_method_8_code_38) (XT.ii_ne_f c38_31) ?_
      refine own_iinc X29 hx (v := ((own_bump (own_bump (own_bump (own_bump (0 : Int32) t0 (0 : Int32)) t1 (0 : Int32)) t2 (2 : Int32)) t3 (2 : Int32)) + (1 : Int32))) (Ls' := #[.val (.ref a1), .val (.int ((own_bump (own_bump (own_bump (own_bump (0 : Int32) t0 (0 : Int32)) t1 (0 : Int32)) t2 (2 : Int32)) t3 (2 : Int32)) + (1 : Int32))), .val (.int (3 : Int32)), .val (.int (4 : Int32))]) (pc' := 44) rfl (hb hby d_prog_45_method_8_code_41) rfl rfl rfl ?_
      rw [show (own_bump (own_bump (own_bump (own_bump (own_bump (0 : Int32) t0 (0 : Int32)) t1 (0 : Int32)) t2 (2 : Int32)) t3 (2 : Int32)) t4 (3 : Int32)) = ((own_bump (own_bump (own_bump (own_bump (0 : Int32) t0 (0 : Int32)) t1 (0 : Int32)) t2 (2 : Int32)) t3 (2 : Int32)) + (1 : Int32)) from by first | (simp only [own_bump, if_pos c38_31]; done) | (simp only [own_bump, if_pos c38_31]; rfl)] at hj30
      exact hj30
    · refine own_icmpT X29 hx (pc' := 44) (hb hby d_prog_45_method_8_code_38) (XT.ii_ne_t c38_31) (by decide) (by decide) ?_
      rw [show (own_bump (own_bump (own_bump (own_bump (own_bump (0 : Int32) t0 (0 : Int32)) t1 (0 : Int32)) t2 (2 : Int32)) t3 (2 : Int32)) t4 (3 : Int32)) = (own_bump (own_bump (own_bump (own_bump (0 : Int32) t0 (0 : Int32)) t1 (0 : Int32)) t2 (2 : Int32)) t3 (2 : Int32)) from by first | (simp only [own_bump, if_neg c38_31]; done) | (simp only [own_bump, if_neg c38_31]; rfl)] at hj30
      exact hj30
  refine own_iinc X29 hx (v := (5 : Int32)) (Ls' := #[.val (.ref a1), .val (.int (own_bump (own_bump (own_bump (own_bump (own_bump (0 : Int32) t0 (0 : Int32)) t1 (0 : Int32)) t2 (2 : Int32)) t3 (2 : Int32)) t4 (3 : Int32))), .val (.int (3 : Int32)), .val (.int (5 : Int32))]) (pc' := 47) rfl (hb hby d_prog_45_method_8_code_44) rfl (by decide) rfl ?_
  refine own_goto X29 hx (pc' := 19) (hb hby d_prog_45_method_8_code_47) (by decide) (by decide) ?_
  refine own_iloadN X29 hx (pc' := 20) rfl (hb hby d_prog_45_method_8_code_19) rfl ?_
  refine own_aloadN X29 hx (pc' := 21) rfl (hb hby d_prog_45_method_8_code_20) rfl rfl ?_
  refine own_getF X29 hx hZ hown (host := "") (Or.inl (hw _ (List.mem_of_getElem? (i := 20) rfl))) Via.refl e29 I2 (pc' := 24) rfl (hb hby d_prog_45_method_8_code_21) ?_
  intro T32 X32 e32
  refine own_iloadN X32 hx (pc' := 25) rfl (hb hby d_prog_45_method_8_code_24) rfl ?_
  refine own_iconst X32 hx (v := (1 : Int32)) (pc' := 26) rfl (hb hby d_prog_45_method_8_code_25) rfl ?_
  refine own_iadd X32 hx (v := (4 : Int32)) (pc' := 27) rfl (hb hby d_prog_45_method_8_code_26) (by decide) ?_
  refine own_ldI X32 hx hZ e32 I4 (k := 4) (by decide) (by decide) (by decide) (v := (.int (6 : Int32))) hf1.2.2.2.2 (pc' := 28) rfl (hb hby d_prog_45_method_8_code_27) ?_
  refine own_icmpF X32 hx (pc' := 31) rfl (hb hby d_prog_45_method_8_code_28) (XT.ii_ge_f (by decide)) ?_
  refine own_aloadN X32 hx (pc' := 32) rfl (hb hby d_prog_45_method_8_code_31) rfl rfl ?_
  refine own_getF X32 hx hZ hown (host := "") (Or.inl (hw _ (List.mem_of_getElem? (i := 22) rfl))) Via.refl e32 I3 (pc' := 35) rfl (hb hby d_prog_45_method_8_code_32) ?_
  intro T33 X33 e33
  refine own_iloadN X33 hx (pc' := 36) rfl (hb hby d_prog_45_method_8_code_35) rfl ?_
  refine own_ldI X33 hx hZ e33 I5 (k := 5) (by decide) (by decide) (by decide) (v := (.int t5)) hf2.2.2.2.2.2 (pc' := 37) rfl (hb hby d_prog_45_method_8_code_36) ?_
  refine own_iloadN X33 hx (pc' := 38) rfl (hb hby d_prog_45_method_8_code_37) rfl ?_
  suffices hj34 : own_Goes p e below T33 (mkF m 44 #[.val (.ref a1), .val (.int (own_bump (own_bump (own_bump (own_bump (own_bump (own_bump (0 : Int32) t0 (0 : Int32)) t1 (0 : Int32)) t2 (2 : Int32)) t3 (2 : Int32)) t4 (3 : Int32)) t5 (3 : Int32))), .val (.int (3 : Int32)), .val (.int (5 : Int32))] []) (own_Ret s (K_rm_slc b1 b2 f1 f2 t0 t1 t2 t3 t4 t5 Z h0 n0 a1) ({ frames := 0, cells := 0, slots := 0, locals := 0 } : Room).cells ({ frames := 0, cells := 0, slots := 0, locals := 0 } : Room).slots) by
    by_cases c38_35 : t5 = (3 : Int32)
    · refine own_icmpF X33 hx (pc' := 41) rfl (hb hby d_prog_45_method_8_code_38) (XT.ii_ne_f c38_35) ?_
      refine own_iinc X33 hx (v := ((own_bump (own_bump (own_bump (own_bump (own_bump (0 : Int32) t0 (0 : Int32)) t1 (0 : Int32)) t2 (2 : Int32)) t3 (2 : Int32)) t4 (3 : Int32)) + (1 : Int32))) (Ls' := #[.val (.ref a1), .val (.int ((own_bump (own_bump (own_bump (own_bump (own_bump (0 : Int32) t0 (0 : Int32)) t1 (0 : Int32)) t2 (2 : Int32)) t3 (2 : Int32)) t4 (3 : Int32)) + (1 : Int32))), .val (.int (3 : Int32)), .val (.int (5 : Int32))]) (pc' := 44) rfl (hb hby d_prog_45_method_8_code_41) rfl rfl rfl ?_
      rw [show (own_bump (own_bump (own_bump (own_bump (own_bump (own_bump (0 : Int32) t0 (0 : Int32)) t1 (0 : Int32)) t2 (2 : Int32)) t3 (2 : Int32)) t4 (3 : Int32)) t5 (3 : Int32)) = ((own_bump (own_bump (own_bump (own_bump (own_bump (0 : Int32) t0 (0 : Int32)) t1 (0 : Int32)) t2 (2 : Int32)) t3 (2 : Int32)) t4 (3 : Int32)) + (1 : Int32)) from by first | (simp only [own_bump, if_pos c38_35]; done) | (simp only [own_bump, if_pos c38_35]; rfl)] at hj34
      exact hj34
    · refine own_icmpT X33 hx (pc' := 44) (hb hby d_prog_45_method_8_code_38) (XT.ii_ne_t c38_35) (by decide) (by decide) ?_
      rw [show (own_bump (own_bump (own_bump (own_bump (own_bump (own_bump (0 : Int32) t0 (0 : Int32)) t1 (0 : Int32)) t2 (2 : Int32)) t3 (2 : Int32)) t4 (3 : Int32)) t5 (3 : Int32)) = (own_bump (own_bump (own_bump (own_bump (own_bump (0 : Int32) t0 (0 : Int32)) t1 (0 : Int32)) t2 (2 : Int32)) t3 (2 : Int32)) t4 (3 : Int32)) from by first | (simp only [own_bump, if_neg c38_35]; done) | (simp only [own_bump, if_neg c38_35]; rfl)] at hj34
      exact hj34
  refine own_iinc X33 hx (v := (6 : Int32)) (Ls' := #[.val (.ref a1), .val (.int (own_bump (own_bump (own_bump (own_bump (own_bump (own_bump (0 : Int32) t0 (0 : Int32)) t1 (0 : Int32)) t2 (2 : Int32)) t3 (2 : Int32)) t4 (3 : Int32)) t5 (3 : Int32))), .val (.int (3 : Int32)), .val (.int (6 : Int32))]) (pc' := 47) rfl (hb hby d_prog_45_method_8_code_44) rfl (by decide) rfl ?_
  refine own_goto X33 hx (pc' := 19) (hb hby d_prog_45_method_8_code_47) (by decide) (by decide) ?_
  refine own_iloadN X33 hx (pc' := 20) rfl (hb hby d_prog_45_method_8_code_19) rfl ?_
  refine own_aloadN X33 hx (pc' := 21) rfl (hb hby d_prog_45_method_8_code_20) rfl rfl ?_
  refine own_getF X33 hx hZ hown (host := "") (Or.inl (hw _ (List.mem_of_getElem? (i := 20) rfl))) Via.refl e33 I2 (pc' := 24) rfl (hb hby d_prog_45_method_8_code_21) ?_
  intro T36 X36 e36
  refine own_iloadN X36 hx (pc' := 25) rfl (hb hby d_prog_45_method_8_code_24) rfl ?_
  refine own_iconst X36 hx (v := (1 : Int32)) (pc' := 26) rfl (hb hby d_prog_45_method_8_code_25) rfl ?_
  refine own_iadd X36 hx (v := (4 : Int32)) (pc' := 27) rfl (hb hby d_prog_45_method_8_code_26) (by decide) ?_
  refine own_ldI X36 hx hZ e36 I4 (k := 4) (by decide) (by decide) (by decide) (v := (.int (6 : Int32))) hf1.2.2.2.2 (pc' := 28) rfl (hb hby d_prog_45_method_8_code_27) ?_
  refine own_icmpT X36 hx (pc' := 50) (hb hby d_prog_45_method_8_code_28) (XT.ii_ge_t (by decide)) (by decide) (by decide) ?_
  refine own_iinc X36 hx (v := (4 : Int32)) (Ls' := #[.val (.ref a1), .val (.int (own_bump (own_bump (own_bump (own_bump (own_bump (own_bump (0 : Int32) t0 (0 : Int32)) t1 (0 : Int32)) t2 (2 : Int32)) t3 (2 : Int32)) t4 (3 : Int32)) t5 (3 : Int32))), .val (.int (4 : Int32)), .val (.int (6 : Int32))]) (pc' := 53) rfl (hb hby d_prog_45_method_8_code_50) rfl (by decide) rfl ?_
  refine own_goto X36 hx (pc' := 4) (hb hby d_prog_45_method_8_code_53) (by decide) (by decide) ?_
  refine own_iloadN X36 hx (pc' := 5) rfl (hb hby d_prog_45_method_8_code_4) rfl ?_
  refine own_aloadN X36 hx (pc' := 6) rfl (hb hby d_prog_45_method_8_code_5) rfl rfl ?_
  refine own_getF X36 hx hZ hown (host := "") (Or.inl (hw _ (List.mem_of_getElem? (i := 18) rfl))) Via.refl e36 I1 (pc' := 9) rfl (hb hby d_prog_45_method_8_code_6) ?_
  intro T37 X37 e37
  refine own_icmpT X37 hx (pc' := 56) (hb hby d_prog_45_method_8_code_9) (XT.ii_ge_t (by decide)) (by decide) (by decide) ?_
  refine own_iloadN X37 hx (pc' := 57) rfl (hb hby d_prog_45_method_8_code_56) rfl ?_
  refine own_iret X37 hx hlk hret (hb hby d_prog_45_method_8_code_57) (by decide) (by decide) ?_
  rw [e37]
  exact ⟨rfl, N0, rfl⟩
def own_x0 (p : Int32) : Int32 := if p < (3 : Int32) then 1 else 0
def own_x2 (e p : Int32) : Int32 := if p = (1 : Int32) then e + 1 else if p = (3 : Int32) then e + 1 else if p = (5 : Int32) then e + 1 else e
def own_x3 (e p : Int32) : Int32 := if p = (2 : Int32) then e + 1 else if p = (4 : Int32) then e + 1 else if p = (5 : Int32) then e + 1 else e
theorem own_mod6 (x : Int32) : ((x &&& (2147483647 : Int32)) % (6 : Int32)) = 0 ∨ ((x &&& (2147483647 : Int32)) % (6 : Int32)) = 1 ∨ ((x &&& (2147483647 : Int32)) % (6 : Int32)) = 2 ∨ ((x &&& (2147483647 : Int32)) % (6 : Int32)) = 3 ∨ ((x &&& (2147483647 : Int32)) % (6 : Int32)) = 4 ∨ ((x &&& (2147483647 : Int32)) % (6 : Int32)) = 5 := by
  have e1 : (x &&& 2147483647).toInt = x.toInt % 2 ^ 31 := Jvm.Kit.i32_mask x 2147483647 (k := 31) (by decide) (by decide)
  have e2 : ((x &&& 2147483647) % 6).toInt = (x &&& 2147483647).toInt % (6 : Int32).toInt := Jvm.Kit.i32_rem_nonneg (by omega)
  have e3 : (6 : Int32).toInt = 6 := by decide
  rw [e3] at e2
  have k : ∀ m : Int32, ((x &&& 2147483647) % 6).toInt = m.toInt → ((x &&& 2147483647) % 6) = m := fun m h => Int32.toInt_inj.mp h
  have h : ((x &&& 2147483647) % 6).toInt = 0 ∨ ((x &&& 2147483647) % 6).toInt = 1 ∨ ((x &&& 2147483647) % 6).toInt = 2 ∨ ((x &&& 2147483647) % 6).toInt = 3 ∨ ((x &&& 2147483647) % 6).toInt = 4 ∨ ((x &&& 2147483647) % 6).toInt = 5 := by omega
  rcases h with h | h | h | h | h | h
  · exact Or.inl (k 0 h)
  · exact Or.inr (Or.inl (k 1 h))
  · exact Or.inr (Or.inr (Or.inl (k 2 h)))
  · exact Or.inr (Or.inr (Or.inr (Or.inl (k 3 h))))
  · exact Or.inr (Or.inr (Or.inr (Or.inr (Or.inl (k 4 h)))))
  · exact Or.inr (Or.inr (Or.inr (Or.inr (Or.inr (k 5 h)))))
theorem own_fin {a b c : Int32} (ha : a = 0 ∨ a = 1 ∨ a = 2 ∨ a = 3 ∨ a = 4 ∨ a = 5) (hb : b = 0 ∨ b = 1 ∨ b = 2 ∨ b = 3 ∨ b = 4 ∨ b = 5) (hc : c = 0 ∨ c = 1 ∨ c = 2 ∨ c = 3 ∨ c = 4 ∨ c = 5) :
    (own_bump (own_bump (own_bump (own_bump (own_bump (own_bump (0 : Int32) (own_first a) (0 : Int32)) (own_second a) (0 : Int32)) (own_first b) (2 : Int32)) (own_second b) (2 : Int32)) (own_first c) (3 : Int32)) (own_second c) (3 : Int32)) = own_x3 (own_x2 (own_x0 a) b) c := by
  have h1 : own_bump (own_bump (0 : Int32) (own_first a) (0 : Int32)) (own_second a) (0 : Int32) = own_x0 a := by rcases ha with rfl | rfl | rfl | rfl | rfl | rfl <;> decide
  rw [h1]
  have h0 : own_x0 a = 0 ∨ own_x0 a = 1 := by unfold own_x0; split <;> simp
  generalize own_x0 a = e at h0
  have h2 : own_bump (own_bump e (own_first b) (2 : Int32)) (own_second b) (2 : Int32) = own_x2 e b := by rcases h0 with rfl | rfl <;> rcases hb with rfl | rfl | rfl | rfl | rfl | rfl <;> decide
  rw [h2]
  have h3 : own_x2 e b = 0 ∨ own_x2 e b = 1 ∨ own_x2 e b = 2 := by rcases h0 with rfl | rfl <;> rcases hb with rfl | rfl | rfl | rfl | rfl | rfl <;> decide
  generalize own_x2 e b = f at h3
  rcases h3 with rfl | rfl | rfl <;> rcases hc with rfl | rfl | rfl | rfl | rfl | rfl <;> decide
theorem ef_rm_law (m : MethodId) (p1 : Int32) (p2 : Int32) (p3 : Int32) : entryFrame m #[(.int p1), (.int p2), (.int p3)] maxLocals = mkF m 0 #[.val (.int p1), .val (.int p2), .val (.int p3), .unset, .unset, .unset, .unset, .unset, .unset, .unset] [] := by first | (simp [entryFrame, mkF, argsToLocals, Value.category, maxLocals]; done) | rfl
def K_rm_law  (Z : State) (h0 : Heap) (n0 : Nat) (p1 : Int32) (p2 : Int32) (p3 : Int32) (v : Option Value) (h : Heap) (L : List Loc) : Prop := v = some (.int 1) ∧ Fr n0 L
theorem pd__I_I : parseMethodDescriptor "(I)I" = some ⟨[.int], some .int⟩ := by decide +kernel
theorem pd__I_I_I_V : parseMethodDescriptor "(I[I[I)V" = some ⟨[.int, (.array .int), (.array .int)], none⟩ := by decide +kernel
theorem pd___I : parseMethodDescriptor "()I" = some ⟨[], some .int⟩ := by decide +kernel
set_option maxRecDepth 65536 in
set_option maxHeartbeats 40000000 in
theorem rm_law (l : Launch) (Z : State) (a0 : Array Value) (hw : ∀ d ∈ tables_1, d.before a0 Z = true) (ws : List Jvm.Cond)  (p1 : Int32) (p2 : Int32) (p3 : Int32) (h0 : Heap) (n0 : Nat) (Z0 : n0 ≤ h0.size) :
    MetFree l x (head1 (Jvm.Cond.code x code maxLocals ret :: ws) room_1) (fun a U => a = #[(.int p1), (.int p2), (.int p3)] ∧ Z.Warmed39 U.vm ∧ U.heap = h0) (fun _ _ _ _ _ => True) (fun _ U o U' => ∃ v L, o = .returned v ∧ (K_rm_law  Z h0 n0 p1 p2 p3) v U'.heap L ∧ FrameEnd U o U' L room_1.cells room_1.slots) := by
  refine own_body (plainFor_of_name pn_com_example_libdamp_libdamp_graph_GraphSelfLoopCountPinLaw) ?_
  intro p e s m below meth c s₁ hx hby hml hown hnm hret hlk hZ X0 e0
  have hown : s.vm.findClass "com/example/libdamp/libdamp/graph/GraphSelfLoopCountPinLaw" = some m.cls := hown
  have N0 := Fr.nil n0
  rw [ef_rm_law m p1 p2 p3]
  refine own_iloadN X0 hx (pc' := 1) rfl (hb hby at_0) rfl ?_
  refine own_ldc X0 hx hZ hown (hw _ (List.mem_of_getElem? (i := 0) rfl)) (pc' := 3) rfl (hb hby at_1) ?_
  refine own_iand X0 hx (v := (p1 &&& (2147483647 : Int32))) (pc' := 4) rfl (hb hby at_3) rfl ?_
  refine own_bipush X0 hx (v := (6 : Int32)) (pc' := 6) rfl (hb hby at_4) rfl ?_
  refine own_irem X0 hx (v := ((p1 &&& (2147483647 : Int32)) % (6 : Int32))) (pc' := 7) rfl (hb hby at_6) (by decide) rfl ?_
  have hx0 := own_mod6 p1
  generalize ((p1 &&& (2147483647 : Int32)) % (6 : Int32)) = x0 at hx0 ⊢
  refine own_istoreN X0 hx (Ls' := #[.val (.int p1), .val (.int p2), .val (.int p3), .val (.int x0), .unset, .unset, .unset, .unset, .unset, .unset]) (pc' := 8) rfl (hb hby at_7) rfl ?_
  refine own_iloadN X0 hx (pc' := 9) rfl (hb hby at_8) rfl ?_
  refine own_ldc X0 hx hZ hown (hw _ (List.mem_of_getElem? (i := 0) rfl)) (pc' := 11) rfl (hb hby at_9) ?_
  refine own_iand X0 hx (v := (p2 &&& (2147483647 : Int32))) (pc' := 12) rfl (hb hby at_11) rfl ?_
  refine own_bipush X0 hx (v := (6 : Int32)) (pc' := 14) rfl (hb hby at_12) rfl ?_
  refine own_irem X0 hx (v := ((p2 &&& (2147483647 : Int32)) % (6 : Int32))) (pc' := 15) rfl (hb hby at_14) (by decide) rfl ?_
  have hx2 := own_mod6 p2
  generalize ((p2 &&& (2147483647 : Int32)) % (6 : Int32)) = x2 at hx2 ⊢
  refine own_istore X0 hx (Ls' := #[.val (.int p1), .val (.int p2), .val (.int p3), .val (.int x0), .val (.int x2), .unset, .unset, .unset, .unset, .unset]) (pc' := 17) rfl (hb hby at_15) rfl ?_
  refine own_iloadN X0 hx (pc' := 18) rfl (hb hby at_17) rfl ?_
  refine own_ldc X0 hx hZ hown (hw _ (List.mem_of_getElem? (i := 0) rfl)) (pc' := 20) rfl (hb hby at_18) ?_
  refine own_iand X0 hx (v := (p3 &&& (2147483647 : Int32))) (pc' := 21) rfl (hb hby at_20) rfl ?_
  refine own_bipush X0 hx (v := (6 : Int32)) (pc' := 23) rfl (hb hby at_21) rfl ?_
  refine own_irem X0 hx (v := ((p3 &&& (2147483647 : Int32)) % (6 : Int32))) (pc' := 24) rfl (hb hby at_23) (by decide) rfl ?_
  have hx3 := own_mod6 p3
  generalize ((p3 &&& (2147483647 : Int32)) % (6 : Int32)) = x3 at hx3 ⊢
  refine own_istore X0 hx (Ls' := #[.val (.int p1), .val (.int p2), .val (.int p3), .val (.int x0), .val (.int x2), .val (.int x3), .unset, .unset, .unset, .unset]) (pc' := 26) rfl (hb hby at_24) rfl ?_
  refine own_iconst X0 hx (v := (5 : Int32)) (pc' := 27) rfl (hb hby at_26) rfl ?_
  refine own_newarr X0 hx hZ (aty := .int) (hw _ (List.mem_of_getElem? (i := 1) rfl)) e0 (pc' := 29) rfl (hb hby at_27) (by decide) (N := 5) (by decide) (cap := 5) (by decide) (by decide) (by decide) (by decide) ?_
  intro T1 h1 X1 e1 E1 A1
  obtain ⟨o1, g1⟩ : ∃ z, z = h0.size := ⟨_, rfl⟩
  rw [← g1] at A1 ⊢
  have ge1 : n0 ≤ o1 := g1 ▸ Z0
  have S2 := Nat.le_trans Z0 E1.1
  refine own_dup X1 hx (pc' := 30) rfl (hb hby at_29) rfl ?_
  refine own_iconst X1 hx (v := (0 : Int32)) (pc' := 31) rfl (hb hby at_30) rfl ?_
  refine own_iconst X1 hx (v := (0 : Int32)) (pc' := 32) rfl (hb hby at_31) rfl ?_
  refine own_stI X1 hx hZ e1 A1 (k := 0) (by decide) (by decide) (by decide) (pc' := 33) rfl (hb hby at_32) ?_
  intro T3 h3 X3 e3 W3 A3
  have S4 := own_sizWr W3 S2
  have N3 := Fr.snoc X3 N0 ge1
  refine own_dup X3 hx (pc' := 34) rfl (hb hby at_33) rfl ?_
  refine own_iconst X3 hx (v := (1 : Int32)) (pc' := 35) rfl (hb hby at_34) rfl ?_
  refine own_iconst X3 hx (v := (2 : Int32)) (pc' := 36) rfl (hb hby at_35) rfl ?_
  refine own_stI X3 hx hZ e3 A3 (k := 1) (by decide) (by decide) (by decide) (pc' := 37) rfl (hb hby at_36) ?_
  intro T6 h6 X6 e6 W6 A6
  have S7 := own_sizWr W6 S4
  have N6 := Fr.snoc X6 N3 ge1
  refine own_dup X6 hx (pc' := 38) rfl (hb hby at_37) rfl ?_
  refine own_iconst X6 hx (v := (2 : Int32)) (pc' := 39) rfl (hb hby at_38) rfl ?_
  refine own_iconst X6 hx (v := (2 : Int32)) (pc' := 40) rfl (hb hby at_39) rfl ?_
  refine own_stI X6 hx hZ e6 A6 (k := 2) (by decide) (by decide) (by decide) (pc' := 41) rfl (hb hby at_40) ?_
  intro T9 h9 X9 e9 W9 A9
  have S10 := own_sizWr W9 S7
  have N9 := Fr.snoc X9 N6 ge1
  refine own_dup X9 hx (pc' := 42) rfl (hb hby at_41) rfl ?_
  refine own_iconst X9 hx (v := (3 : Int32)) (pc' := 43) rfl (hb hby at_42) rfl ?_
  refine own_iconst X9 hx (v := (4 : Int32)) (pc' := 44) rfl (hb hby at_43) rfl ?_
  refine own_stI X9 hx hZ e9 A9 (k := 3) (by decide) (by decide) (by decide) (pc' := 45) rfl (hb hby at_44) ?_
  intro T12 h12 X12 e12 W12 A12
  have S13 := own_sizWr W12 S10
  have N12 := Fr.snoc X12 N9 ge1
  refine own_dup X12 hx (pc' := 46) rfl (hb hby at_45) rfl ?_
  refine own_iconst X12 hx (v := (4 : Int32)) (pc' := 47) rfl (hb hby at_46) rfl ?_
  refine own_bipush X12 hx (v := (6 : Int32)) (pc' := 49) rfl (hb hby at_47) rfl ?_
  refine own_stI X12 hx hZ e12 A12 (k := 4) (by decide) (by decide) (by decide) (pc' := 50) rfl (hb hby at_49) ?_
  intro T15 h15 X15 e15 W15 A15
  have S16 := own_sizWr W15 S13
  have N15 := Fr.snoc X15 N12 ge1
  refine own_astore X15 hx (Ls' := #[.val (.int p1), .val (.int p2), .val (.int p3), .val (.int x0), .val (.int x2), .val (.int x3), .val (.ref o1), .unset, .unset, .unset]) (pc' := 52) rfl (hb hby at_50) rfl rfl ?_
  refine own_bipush X15 hx (v := (6 : Int32)) (pc' := 54) rfl (hb hby at_52) rfl ?_
  refine own_newarr X15 hx hZ (aty := .int) (hw _ (List.mem_of_getElem? (i := 1) rfl)) e15 (pc' := 56) rfl (hb hby at_54) (by decide) (N := 6) (by decide) (cap := 6) (by decide) (by decide) (by decide) (by decide) ?_
  intro T18 h18 X18 e18 E18 A18
  obtain ⟨o18, g18⟩ : ∃ z, z = h15.size := ⟨_, rfl⟩
  rw [← g18] at A18 ⊢
  have ne18_o1 : o1 ≠ o18 := Nat.ne_of_lt (g18 ▸ (own_Arr.lt A15))
  have ge18 : n0 ≤ o18 := g18 ▸ S16
  have S19 := Nat.le_trans S16 E18.1
  have A20 := own_Arr.ext E18 A15
  refine own_astore X18 hx (Ls' := #[.val (.int p1), .val (.int p2), .val (.int p3), .val (.int x0), .val (.int x2), .val (.int x3), .val (.ref o1), .val (.ref o18), .unset, .unset]) (pc' := 58) rfl (hb hby at_56) rfl rfl ?_
  refine own_aload X18 hx (pc' := 60) rfl (hb hby at_58) rfl rfl ?_
  refine own_iconst X18 hx (v := (0 : Int32)) (pc' := 61) rfl (hb hby at_60) rfl ?_
  refine own_iloadN X18 hx (pc' := 62) rfl (hb hby at_61) rfl ?_
  refine own_callS X18 hx hZ (y := (⟨"com/example/libdamp/libdamp/graph/GraphSelfLoopCountPinLaw", "first", "(I)I"⟩ : MethodName)) hown (hw _ (List.mem_of_getElem? (i := 2) rfl)) (hw _ (List.mem_of_getElem? (i := 3) rfl)) (hw _ (List.mem_of_getElem? (i := 4) rfl)) (hw _ (List.mem_of_getElem? (i := 5) rfl))  (by decide) (rm_first l Z a0 hw [] x0 h18 n0 S19) (by decide) (W := 2) (by decide) (by decide) (by decide) e18 (by rw [hml]; rfl) (argsL := [(.int x0)]) (rest := [(.int (0 : Int32)), (.ref o18)]) rfl (lenOf pd__I_I rfl) rfl (Nat.le_of_eq rfl) (pc' := 65) rfl (hb hby at_62) ?_
  rintro _ T21 L21 X21 ⟨rfl, N21, e21⟩
  have M21 := Fr.app N15 N21
  show own_Goes p e below T21 (mkF m 65 #[.val (.int p1), .val (.int p2), .val (.int p3), .val (.int x0), .val (.int x2), .val (.int x3), .val (.ref o1), .val (.ref o18), .unset, .unset] [(.int (own_first x0)), (.int (0 : Int32)), (.ref o18)]) (own_Ret s (K_rm_law  Z h0 n0 p1 p2 p3) room_1.cells room_1.slots)
  refine own_stI X21 hx hZ e21 A18 (k := 0) (by decide) (by decide) (by decide) (pc' := 66) rfl (hb hby at_65) ?_
  intro T22 h22 X22 e22 W22 A22
  have S23 := own_sizWr W22 S19
  have A24 := own_Arr.other W22 A20 ne18_o1
  have N22 := Fr.snoc X22 M21 ge18
  refine own_aload X22 hx (pc' := 68) rfl (hb hby at_66) rfl rfl ?_
  refine own_iconst X22 hx (v := (1 : Int32)) (pc' := 69) rfl (hb hby at_68) rfl ?_
  refine own_iloadN X22 hx (pc' := 70) rfl (hb hby at_69) rfl ?_
  refine own_callS X22 hx hZ (y := (⟨"com/example/libdamp/libdamp/graph/GraphSelfLoopCountPinLaw", "second", "(I)I"⟩ : MethodName)) hown (hw _ (List.mem_of_getElem? (i := 6) rfl)) (hw _ (List.mem_of_getElem? (i := 7) rfl)) (hw _ (List.mem_of_getElem? (i := 4) rfl)) (hw _ (List.mem_of_getElem? (i := 8) rfl))  (by decide) (rm_second l Z a0 hw [] x0 h22 n0 S23) (by decide) (W := 2) (by decide) (by decide) (by decide) e22 (by rw [hml]; rfl) (argsL := [(.int x0)]) (rest := [(.int (1 : Int32)), (.ref o18)]) rfl (lenOf pd__I_I rfl) rfl (Nat.le_of_eq rfl) (pc' := 73) rfl (hb hby at_70) ?_
  rintro _ T26 L26 X26 ⟨rfl, N26, e26⟩
  have M26 := Fr.app N22 N26
  show own_Goes p e below T26 (mkF m 73 #[.val (.int p1), .val (.int p2), .val (.int p3), .val (.int x0), .val (.int x2), .val (.int x3), .val (.ref o1), .val (.ref o18), .unset, .unset] [(.int (own_second x0)), (.int (1 : Int32)), (.ref o18)]) (own_Ret s (K_rm_law  Z h0 n0 p1 p2 p3) room_1.cells room_1.slots)
  refine own_stI X26 hx hZ e26 A22 (k := 1) (by decide) (by decide) (by decide) (pc' := 74) rfl (hb hby at_73) ?_
  intro T27 h27 X27 e27 W27 A27
  have S28 := own_sizWr W27 S23
  have A29 := own_Arr.other W27 A24 ne18_o1
  have N27 := Fr.snoc X27 M26 ge18
  refine own_aload X27 hx (pc' := 76) rfl (hb hby at_74) rfl rfl ?_
  refine own_iconst X27 hx (v := (2 : Int32)) (pc' := 77) rfl (hb hby at_76) rfl ?_
  refine own_iload X27 hx (pc' := 79) rfl (hb hby at_77) rfl ?_
  refine own_callS X27 hx hZ (y := (⟨"com/example/libdamp/libdamp/graph/GraphSelfLoopCountPinLaw", "first", "(I)I"⟩ : MethodName)) hown (hw _ (List.mem_of_getElem? (i := 2) rfl)) (hw _ (List.mem_of_getElem? (i := 3) rfl)) (hw _ (List.mem_of_getElem? (i := 4) rfl)) (hw _ (List.mem_of_getElem? (i := 5) rfl))  (by decide) (rm_first l Z a0 hw [] x2 h27 n0 S28) (by decide) (W := 2) (by decide) (by decide) (by decide) e27 (by rw [hml]; rfl) (argsL := [(.int x2)]) (rest := [(.int (2 : Int32)), (.ref o18)]) rfl (lenOf pd__I_I rfl) rfl (Nat.le_of_eq rfl) (pc' := 82) rfl (hb hby at_79) ?_
  rintro _ T31 L31 X31 ⟨rfl, N31, e31⟩
  have M31 := Fr.app N27 N31
  show own_Goes p e below T31 (mkF m 82 #[.val (.int p1), .val (.int p2), .val (.int p3), .val (.int x0), .val (.int x2), .val (.int x3), .val (.ref o1), .val (.ref o18), .unset, .unset] [(.int (own_first x2)), (.int (2 : Int32)), (.ref o18)]) (own_Ret s (K_rm_law  Z h0 n0 p1 p2 p3) room_1.cells room_1.slots)
  refine own_stI X31 hx hZ e31 A27 (k := 2) (by decide) (by decide) (by decide) (pc' := 83) rfl (hb hby at_82) ?_
  intro T32 h32 X32 e32 W32 A32
  have S33 := own_sizWr W32 S28
  have A34 := own_Arr.other W32 A29 ne18_o1
  have N32 := Fr.snoc X32 M31 ge18
  refine own_aload X32 hx (pc' := 85) rfl (hb hby at_83) rfl rfl ?_
  refine own_iconst X32 hx (v := (3 : Int32)) (pc' := 86) rfl (hb hby at_85) rfl ?_
  refine own_iload X32 hx (pc' := 88) rfl (hb hby at_86) rfl ?_
  refine own_callS X32 hx hZ (y := (⟨"com/example/libdamp/libdamp/graph/GraphSelfLoopCountPinLaw", "second", "(I)I"⟩ : MethodName)) hown (hw _ (List.mem_of_getElem? (i := 6) rfl)) (hw _ (List.mem_of_getElem? (i := 7) rfl)) (hw _ (List.mem_of_getElem? (i := 4) rfl)) (hw _ (List.mem_of_getElem? (i := 8) rfl))  (by decide) (rm_second l Z a0 hw [] x2 h32 n0 S33) (by decide) (W := 2) (by decide) (by decide) (by decide) e32 (by rw [hml]; rfl) (argsL := [(.int x2)]) (rest := [(.int (3 : Int32)), (.ref o18)]) rfl (lenOf pd__I_I rfl) rfl (Nat.le_of_eq rfl) (pc' := 91) rfl (hb hby at_88) ?_
  rintro _ T36 L36 X36 ⟨rfl, N36, e36⟩
  have M36 := Fr.app N32 N36
  show own_Goes p e below T36 (mkF m 91 #[.val (.int p1), .val (.int p2), .val (.int p3), .val (.int x0), .val (.int x2), .val (.int x3), .val (.ref o1), .val (.ref o18), .unset, .unset] [(.int (own_second x2)), (.int (3 : Int32)), (.ref o18)]) (own_Ret s (K_rm_law  Z h0 n0 p1 p2 p3) room_1.cells room_1.slots)
  refine own_stI X36 hx hZ e36 A32 (k := 3) (by decide) (by decide) (by decide) (pc' := 92) rfl (hb hby at_91) ?_
  intro T37 h37 X37 e37 W37 A37
  have S38 := own_sizWr W37 S33
  have A39 := own_Arr.other W37 A34 ne18_o1
  have N37 := Fr.snoc X37 M36 ge18
  refine own_aload X37 hx (pc' := 94) rfl (hb hby at_92) rfl rfl ?_
  refine own_iconst X37 hx (v := (4 : Int32)) (pc' := 95) rfl (hb hby at_94) rfl ?_
  refine own_iload X37 hx (pc' := 97) rfl (hb hby at_95) rfl ?_
  refine own_callS X37 hx hZ (y := (⟨"com/example/libdamp/libdamp/graph/GraphSelfLoopCountPinLaw", "first", "(I)I"⟩ : MethodName)) hown (hw _ (List.mem_of_getElem? (i := 2) rfl)) (hw _ (List.mem_of_getElem? (i := 3) rfl)) (hw _ (List.mem_of_getElem? (i := 4) rfl)) (hw _ (List.mem_of_getElem? (i := 5) rfl))  (by decide) (rm_first l Z a0 hw [] x3 h37 n0 S38) (by decide) (W := 2) (by decide) (by decide) (by decide) e37 (by rw [hml]; rfl) (argsL := [(.int x3)]) (rest := [(.int (4 : Int32)), (.ref o18)]) rfl (lenOf pd__I_I rfl) rfl (Nat.le_of_eq rfl) (pc' := 100) rfl (hb hby at_97) ?_
  rintro _ T41 L41 X41 ⟨rfl, N41, e41⟩
  have M41 := Fr.app N37 N41
  show own_Goes p e below T41 (mkF m 100 #[.val (.int p1), .val (.int p2), .val (.int p3), .val (.int x0), .val (.int x2), .val (.int x3), .val (.ref o1), .val (.ref o18), .unset, .unset] [(.int (own_first x3)), (.int (4 : Int32)), (.ref o18)]) (own_Ret s (K_rm_law  Z h0 n0 p1 p2 p3) room_1.cells room_1.slots)
  refine own_stI X41 hx hZ e41 A37 (k := 4) (by decide) (by decide) (by decide) (pc' := 101) rfl (hb hby at_100) ?_
  intro T42 h42 X42 e42 W42 A42
  have S43 := own_sizWr W42 S38
  have A44 := own_Arr.other W42 A39 ne18_o1
  have N42 := Fr.snoc X42 M41 ge18
  refine own_aload X42 hx (pc' := 103) rfl (hb hby at_101) rfl rfl ?_
  refine own_iconst X42 hx (v := (5 : Int32)) (pc' := 104) rfl (hb hby at_103) rfl ?_
  refine own_iload X42 hx (pc' := 106) rfl (hb hby at_104) rfl ?_
  refine own_callS X42 hx hZ (y := (⟨"com/example/libdamp/libdamp/graph/GraphSelfLoopCountPinLaw", "second", "(I)I"⟩ : MethodName)) hown (hw _ (List.mem_of_getElem? (i := 6) rfl)) (hw _ (List.mem_of_getElem? (i := 7) rfl)) (hw _ (List.mem_of_getElem? (i := 4) rfl)) (hw _ (List.mem_of_getElem? (i := 8) rfl))  (by decide) (rm_second l Z a0 hw [] x3 h42 n0 S43) (by decide) (W := 2) (by decide) (by decide) (by decide) e42 (by rw [hml]; rfl) (argsL := [(.int x3)]) (rest := [(.int (5 : Int32)), (.ref o18)]) rfl (lenOf pd__I_I rfl) rfl (Nat.le_of_eq rfl) (pc' := 109) rfl (hb hby at_106) ?_
  rintro _ T46 L46 X46 ⟨rfl, N46, e46⟩
  have M46 := Fr.app N42 N46
  show own_Goes p e below T46 (mkF m 109 #[.val (.int p1), .val (.int p2), .val (.int p3), .val (.int x0), .val (.int x2), .val (.int x3), .val (.ref o1), .val (.ref o18), .unset, .unset] [(.int (own_second x3)), (.int (5 : Int32)), (.ref o18)]) (own_Ret s (K_rm_law  Z h0 n0 p1 p2 p3) room_1.cells room_1.slots)
  refine own_stI X46 hx hZ e46 A42 (k := 5) (by decide) (by decide) (by decide) (pc' := 110) rfl (hb hby at_109) ?_
  intro T47 h47 X47 e47 W47 A47
  have S48 := own_sizWr W47 S43
  have A49 := own_Arr.other W47 A44 ne18_o1
  have N47 := Fr.snoc X47 M46 ge18
  refine own_new X47 hx hZ hown (hw _ (List.mem_of_getElem? (i := 9) rfl)) (hw _ (List.mem_of_getElem? (i := 10) rfl)) (hw _ (List.mem_of_getElem? (i := 11) rfl)) e47 (pc' := 113) rfl (hb hby at_110) (by decide) (by decide) ?_
  intro T51 h51 X51 e51 E51 A51 D51
  obtain ⟨o51, g51⟩ : ∃ z, z = h47.size := ⟨_, rfl⟩
  rw [← g51] at A51 D51 ⊢
  have ne51_o1 : o1 ≠ o51 := Nat.ne_of_lt (g51 ▸ (own_Arr.lt A49))
  have ne51_o18 : o18 ≠ o51 := Nat.ne_of_lt (g51 ▸ (own_Arr.lt A47))
  have ge51 : n0 ≤ o51 := g51 ▸ S48
  have S52 := Nat.le_trans S48 E51.1
  have A53 := own_Arr.ext E51 A49
  have A54 := own_Arr.ext E51 A47
  have F55 : Fld Z h51 o51 "com/example/libdamp/libdamp/graph/Graph" "nodeCount" "I" (.int (0 : Int32)) := D51 (Or.inr (hw _ (List.mem_of_getElem? (i := 19) rfl))) (ty := .int) (by decide)
  have F56 : Fld Z h51 o51 "com/example/libdamp/libdamp/graph/Graph" "firstArcs" "[I" .null := D51 (Or.inr (hw _ (List.mem_of_getElem? (i := 21) rfl))) (ty := (.array .int)) (by decide)
  have F57 : Fld Z h51 o51 "com/example/libdamp/libdamp/graph/Graph" "targets" "[I" .null := D51 (Or.inr (hw _ (List.mem_of_getElem? (i := 23) rfl))) (ty := (.array .int)) (by decide)
  refine own_dup X51 hx (pc' := 114) rfl (hb hby at_113) rfl ?_
  refine own_iconst X51 hx (v := (4 : Int32)) (pc' := 115) rfl (hb hby at_114) rfl ?_
  refine own_aload X51 hx (pc' := 117) rfl (hb hby at_115) rfl rfl ?_
  refine own_aload X51 hx (pc' := 119) rfl (hb hby at_117) rfl rfl ?_
  refine own_callC X51 hx hZ (y := (⟨"com/example/libdamp/libdamp/graph/Graph", "<init>", "(I[I[I)V"⟩ : MethodName)) rfl hown (hw _ (List.mem_of_getElem? (i := 12) rfl)) (hw _ (List.mem_of_getElem? (i := 13) rfl)) (hw _ (List.mem_of_getElem? (i := 11) rfl)) (hw _ (List.mem_of_getElem? (i := 14) rfl))  (by decide) (rm_graph l Z a0 hw [] o51 (4 : Int32) o1 o18 h51 n0 S52 A51 F55 F56 F57 ge51) (by decide) (W := 1) (by decide) (by decide) (by decide) e51 (by rw [hml]; rfl) (argsL := [(.int (4 : Int32)), (.ref o1), (.ref o18)]) (rest := [(.ref o51)]) rfl (lenOf pd__I_I_I_V rfl) rfl (Nat.le_of_eq rfl) (pc' := 122) rfl (hb hby at_119) ?_
  rintro _ T58 L58 X58 ⟨rfl, N58, K58, G58_0, G58_1, G58_2, G58_3⟩
  have M58 := Fr.app N47 N58
  obtain ⟨h58, e58⟩ : ∃ z, T58.heap = z := ⟨_, rfl⟩
  rw [e58] at K58 G58_0 G58_1 G58_2 G58_3
  have S59 := Nat.le_trans S52 K58.1
  have A60 := own_Arr.keep K58 A53 (ninS ne51_o1 nin0)
  have A61 := own_Arr.keep K58 A54 (ninS ne51_o18 nin0)
  have E62 := A51.keep K58
  show own_Goes p e below T58 (mkF m 122 #[.val (.int p1), .val (.int p2), .val (.int p3), .val (.int x0), .val (.int x2), .val (.int x3), .val (.ref o1), .val (.ref o18), .unset, .unset] [(.ref o51)]) (own_Ret s (K_rm_law  Z h0 n0 p1 p2 p3) room_1.cells room_1.slots)
  refine own_astore X58 hx (Ls' := #[.val (.int p1), .val (.int p2), .val (.int p3), .val (.int x0), .val (.int x2), .val (.int x3), .val (.ref o1), .val (.ref o18), .val (.ref o51), .unset]) (pc' := 124) rfl (hb hby at_122) rfl rfl ?_
  refine own_iconst X58 hx (v := (0 : Int32)) (pc' := 125) rfl (hb hby at_124) rfl ?_
  refine own_istore X58 hx (Ls' := #[.val (.int p1), .val (.int p2), .val (.int p3), .val (.int x0), .val (.int x2), .val (.int x3), .val (.ref o1), .val (.ref o18), .val (.ref o51), .val (.int (0 : Int32))]) (pc' := 127) rfl (hb hby at_125) rfl ?_
  suffices hj66 : own_Goes p e below T58 (mkF m 135 #[.val (.int p1), .val (.int p2), .val (.int p3), .val (.int x0), .val (.int x2), .val (.int x3), .val (.ref o1), .val (.ref o18), .val (.ref o51), .val (.int (own_x0 x0))] []) (own_Ret s (K_rm_law  Z h0 n0 p1 p2 p3) room_1.cells room_1.slots) by
    refine own_iloadN X58 hx (pc' := 128) rfl (hb hby at_127) rfl ?_
    refine own_iconst X58 hx (v := (3 : Int32)) (pc' := 129) rfl (hb hby at_128) rfl ?_
    by_cases c129_67 : x0 < (3 : Int32)
    · refine own_icmpF X58 hx (pc' := 132) rfl (hb hby at_129) (XT.ii_ge_f c129_67) ?_
      refine own_iinc X58 hx (v := (1 : Int32)) (Ls' := #[.val (.int p1), .val (.int p2), .val (.int p3), .val (.int x0), .val (.int x2), .val (.int x3), .val (.ref o1), .val (.ref o18), .val (.ref o51), .val (.int (1 : Int32))]) (pc' := 135) rfl (hb hby at_132) rfl (by decide) rfl ?_
      rw [show (own_x0 x0) = (1 : Int32) from by first | (simp only [own_x0, if_pos c129_67]; done) | (simp only [own_x0, if_pos c129_67]; rfl)] at hj66
      exact hj66
    · refine own_icmpT X58 hx (pc' := 135) (hb hby at_129) (XT.ii_ge_t c129_67) (by decide) (by decide) ?_
      rw [show (own_x0 x0) = (0 : Int32) from by first | (simp only [own_x0, if_neg c129_67]; done) | (simp only [own_x0, if_neg c129_67]; rfl)] at hj66
      exact hj66
  suffices hj68 : own_Goes p e below T58 (mkF m 156 #[.val (.int p1), .val (.int p2), .val (.int p3), .val (.int x0), .val (.int x2), .val (.int x3), .val (.ref o1), .val (.ref o18), .val (.ref o51), .val (.int (own_x2 (own_x0 x0) x2))] []) (own_Ret s (K_rm_law  Z h0 n0 p1 p2 p3) room_1.cells room_1.slots) by
    refine own_iload X58 hx (pc' := 137) rfl (hb hby at_135) rfl ?_
    refine own_iconst X58 hx (v := (1 : Int32)) (pc' := 138) rfl (hb hby at_137) rfl ?_
    by_cases c138_69 : x2 = (1 : Int32)
    · refine own_icmpT X58 hx (pc' := 153) (hb hby at_138) (XT.ii_eq_t c138_69) (by decide) (by decide) ?_
      refine own_iinc X58 hx (v := ((own_x0 x0) + (1 : Int32))) (Ls' := #[.val (.int p1), .val (.int p2), .val (.int p3), .val (.int x0), .val (.int x2), .val (.int x3), .val (.ref o1), .val (.ref o18), .val (.ref o51), .val (.int ((own_x0 x0) + (1 : Int32)))]) (pc' := 156) rfl (hb hby at_153) rfl rfl rfl ?_
      rw [show (own_x2 (own_x0 x0) x2) = ((own_x0 x0) + (1 : Int32)) from by first | (simp only [own_x2, if_pos c138_69]; done) | (simp only [own_x2, if_pos c138_69]; rfl)] at hj68
      exact hj68
    · refine own_icmpF X58 hx (pc' := 141) rfl (hb hby at_138) (XT.ii_eq_f c138_69) ?_
      refine own_iload X58 hx (pc' := 143) rfl (hb hby at_141) rfl ?_
      refine own_iconst X58 hx (v := (3 : Int32)) (pc' := 144) rfl (hb hby at_143) rfl ?_
      by_cases c144_70 : x2 = (3 : Int32)
      · refine own_icmpT X58 hx (pc' := 153) (hb hby at_144) (XT.ii_eq_t c144_70) (by decide) (by decide) ?_
        refine own_iinc X58 hx (v := ((own_x0 x0) + (1 : Int32))) (Ls' := #[.val (.int p1), .val (.int p2), .val (.int p3), .val (.int x0), .val (.int x2), .val (.int x3), .val (.ref o1), .val (.ref o18), .val (.ref o51), .val (.int ((own_x0 x0) + (1 : Int32)))]) (pc' := 156) rfl (hb hby at_153) rfl rfl rfl ?_
        rw [show (own_x2 (own_x0 x0) x2) = ((own_x0 x0) + (1 : Int32)) from by first | (simp only [own_x2, if_neg c138_69, if_pos c144_70]; done) | (simp only [own_x2, if_neg c138_69, if_pos c144_70]; rfl)] at hj68
        exact hj68
      · refine own_icmpF X58 hx (pc' := 147) rfl (hb hby at_144) (XT.ii_eq_f c144_70) ?_
        refine own_iload X58 hx (pc' := 149) rfl (hb hby at_147) rfl ?_
        refine own_iconst X58 hx (v := (5 : Int32)) (pc' := 150) rfl (hb hby at_149) rfl ?_
        by_cases c150_71 : x2 = (5 : Int32)
        · refine own_icmpF X58 hx (pc' := 153) rfl (hb hby at_150) (XT.ii_ne_f c150_71) ?_
          refine own_iinc X58 hx (v := ((own_x0 x0) + (1 : Int32))) (Ls' := #[.val (.int p1), .val (.int p2), .val (.int p3), .val (.int x0), .val (.int x2), .val (.int x3), .val (.ref o1), .val (.ref o18), .val (.ref o51), .val (.int ((own_x0 x0) + (1 : Int32)))]) (pc' := 156) rfl (hb hby at_153) rfl rfl rfl ?_
          rw [show (own_x2 (own_x0 x0) x2) = ((own_x0 x0) + (1 : Int32)) from by first | (simp only [own_x2, if_neg c138_69, if_neg c144_70, if_pos c150_71]; done) | (simp only [own_x2, if_neg c138_69, if_neg c144_70, if_pos c150_71]; rfl)] at hj68
          exact hj68
        · refine own_icmpT X58 hx (pc' := 156) (hb hby at_150) (XT.ii_ne_t c150_71) (by decide) (by decide) ?_
          rw [show (own_x2 (own_x0 x0) x2) = (own_x0 x0) from by first | (simp only [own_x2, if_neg c138_69, if_neg c144_70, if_neg c150_71]; done) | (simp only [own_x2, if_neg c138_69, if_neg c144_70, if_neg c150_71]; rfl)] at hj68
          exact hj68
  suffices hj72 : own_Goes p e below T58 (mkF m 177 #[.val (.int p1), .val (.int p2), .val (.int p3), .val (.int x0), .val (.int x2), .val (.int x3), .val (.ref o1), .val (.ref o18), .val (.ref o51), .val (.int (own_x3 (own_x2 (own_x0 x0) x2) x3))] []) (own_Ret s (K_rm_law  Z h0 n0 p1 p2 p3) room_1.cells room_1.slots) by
    refine own_iload X58 hx (pc' := 158) rfl (hb hby at_156) rfl ?_
    refine own_iconst X58 hx (v := (2 : Int32)) (pc' := 159) rfl (hb hby at_158) rfl ?_
    by_cases c159_73 : x3 = (2 : Int32)
    · refine own_icmpT X58 hx (pc' := 174) (hb hby at_159) (XT.ii_eq_t c159_73) (by decide) (by decide) ?_
      refine own_iinc X58 hx (v := ((own_x2 (own_x0 x0) x2) + (1 : Int32))) (Ls' := #[.val (.int p1), .val (.int p2), .val (.int p3), .val (.int x0), .val (.int x2), .val (.int x3), .val (.ref o1), .val (.ref o18), .val (.ref o51), .val (.int ((own_x2 (own_x0 x0) x2) + (1 : Int32)))]) (pc' := 177) rfl (hb hby at_174) rfl rfl rfl ?_
      rw [show (own_x3 (own_x2 (own_x0 x0) x2) x3) = ((own_x2 (own_x0 x0) x2) + (1 : Int32)) from by first | (simp only [own_x3, if_pos c159_73]; done) | (simp only [own_x3, if_pos c159_73]; rfl)] at hj72
      exact hj72
    · refine own_icmpF X58 hx (pc' := 162) rfl (hb hby at_159) (XT.ii_eq_f c159_73) ?_
      refine own_iload X58 hx (pc' := 164) rfl (hb hby at_162) rfl ?_
      refine own_iconst X58 hx (v := (4 : Int32)) (pc' := 165) rfl (hb hby at_164) rfl ?_
      by_cases c165_74 : x3 = (4 : Int32)
      · refine own_icmpT X58 hx (pc' := 174) (hb hby at_165) (XT.ii_eq_t c165_74) (by decide) (by decide) ?_
        refine own_iinc X58 hx (v := ((own_x2 (own_x0 x0) x2) + (1 : Int32))) (Ls' := #[.val (.int p1), .val (.int p2), .val (.int p3), .val (.int x0), .val (.int x2), .val (.int x3), .val (.ref o1), .val (.ref o18), .val (.ref o51), .val (.int ((own_x2 (own_x0 x0) x2) + (1 : Int32)))]) (pc' := 177) rfl (hb hby at_174) rfl rfl rfl ?_
        rw [show (own_x3 (own_x2 (own_x0 x0) x2) x3) = ((own_x2 (own_x0 x0) x2) + (1 : Int32)) from by first | (simp only [own_x3, if_neg c159_73, if_pos c165_74]; done) | (simp only [own_x3, if_neg c159_73, if_pos c165_74]; rfl)] at hj72
        exact hj72
      · refine own_icmpF X58 hx (pc' := 168) rfl (hb hby at_165) (XT.ii_eq_f c165_74) ?_
        refine own_iload X58 hx (pc' := 170) rfl (hb hby at_168) rfl ?_
        refine own_iconst X58 hx (v := (5 : Int32)) (pc' := 171) rfl (hb hby at_170) rfl ?_
        by_cases c171_75 : x3 = (5 : Int32)
        · refine own_icmpF X58 hx (pc' := 174) rfl (hb hby at_171) (XT.ii_ne_f c171_75) ?_
          refine own_iinc X58 hx (v := ((own_x2 (own_x0 x0) x2) + (1 : Int32))) (Ls' := #[.val (.int p1), .val (.int p2), .val (.int p3), .val (.int x0), .val (.int x2), .val (.int x3), .val (.ref o1), .val (.ref o18), .val (.ref o51), .val (.int ((own_x2 (own_x0 x0) x2) + (1 : Int32)))]) (pc' := 177) rfl (hb hby at_174) rfl rfl rfl ?_
          rw [show (own_x3 (own_x2 (own_x0 x0) x2) x3) = ((own_x2 (own_x0 x0) x2) + (1 : Int32)) from by first | (simp only [own_x3, if_neg c159_73, if_neg c165_74, if_pos c171_75]; done) | (simp only [own_x3, if_neg c159_73, if_neg c165_74, if_pos c171_75]; rfl)] at hj72
          exact hj72
        · refine own_icmpT X58 hx (pc' := 177) (hb hby at_171) (XT.ii_ne_t c171_75) (by decide) (by decide) ?_
          rw [show (own_x3 (own_x2 (own_x0 x0) x2) x3) = (own_x2 (own_x0 x0) x2) from by first | (simp only [own_x3, if_neg c159_73, if_neg c165_74, if_neg c171_75]; done) | (simp only [own_x3, if_neg c159_73, if_neg c165_74, if_neg c171_75]; rfl)] at hj72
          exact hj72
  refine own_aload X58 hx (pc' := 179) rfl (hb hby at_177) rfl rfl ?_
  refine own_callV X58 hx hZ (y := (⟨"com/example/libdamp/libdamp/graph/Graph", "selfLoopCount", "()I"⟩ : MethodName)) hown (hw _ (List.mem_of_getElem? (i := 24) rfl)) (hw _ (List.mem_of_getElem? (i := 25) rfl)) (hw _ (List.mem_of_getElem? (i := 27) rfl)) (hw _ (List.mem_of_getElem? (i := 26) rfl)) (hw _ (List.mem_of_getElem? (i := 11) rfl)) (hw _ (List.mem_of_getElem? (i := 28) rfl)) E62  (by decide) (rm_slc l Z a0 hw [] o1 o18 (own_upd (own_upd (own_upd (own_upd (own_upd (fun _ => (.int (0 : Int32))) 0 (.int (0 : Int32))) 1 (.int (2 : Int32))) 2 (.int (2 : Int32))) 3 (.int (4 : Int32))) 4 (.int (6 : Int32))) (own_upd (own_upd (own_upd (own_upd (own_upd (own_upd (fun _ => (.int (0 : Int32))) 0 (.int (own_first x0))) 1 (.int (own_second x0))) 2 (.int (own_first x2))) 3 (.int (own_second x2))) 4 (.int (own_first x3))) 5 (.int (own_second x3))) (own_first x0) (own_second x0) (own_first x2) (own_second x2) (own_first x3) (own_second x3) o51 h58 n0 S59 E62 G58_1 G58_2 G58_3 A60 A61 ⟨rfl, rfl, rfl, rfl, rfl⟩ ⟨rfl, rfl, rfl, rfl, rfl, rfl⟩) (by decide) (W := 0) (by decide) (by decide) (by decide) e58 (by rw [hml]; rfl) (argsL := []) (rest := []) rfl (lenOf pd___I rfl) rfl (Nat.le_of_eq rfl) (pc' := 182) rfl (hb hby at_179) ?_
  rintro _ T76 L76 X76 ⟨rfl, N76, e76⟩
  have M76 := Fr.app M58 N76
  show own_Goes p e below T76 (mkF m 182 #[.val (.int p1), .val (.int p2), .val (.int p3), .val (.int x0), .val (.int x2), .val (.int x3), .val (.ref o1), .val (.ref o18), .val (.ref o51), .val (.int (own_x3 (own_x2 (own_x0 x0) x2) x3))] [(.int (own_bump (own_bump (own_bump (own_bump (own_bump (own_bump (0 : Int32) (own_first x0) (0 : Int32)) (own_second x0) (0 : Int32)) (own_first x2) (2 : Int32)) (own_second x2) (2 : Int32)) (own_first x3) (3 : Int32)) (own_second x3) (3 : Int32)))]) (own_Ret s (K_rm_law  Z h0 n0 p1 p2 p3) room_1.cells room_1.slots)
  refine own_iload X76 hx (pc' := 184) rfl (hb hby at_182) rfl ?_
  refine own_icmpF X76 hx (pc' := 187) rfl (hb hby at_184) (XT.ii_ne_f (own_fin hx0 hx2 hx3)) ?_
  refine own_iconst X76 hx (v := (1 : Int32)) (pc' := 188) rfl (hb hby at_187) rfl ?_
  refine own_goto X76 hx (pc' := 192) (hb hby at_188) (by decide) (by decide) ?_
  refine own_zret X76 hx hlk hret (by simp) (hb hby at_192) (by decide) (by decide) ?_
  rw [e76]
  exact ⟨rfl, M76⟩
set_option maxRecDepth 65536 in
set_option maxHeartbeats 40000000 in
theorem comes_1 {Post : Tables → Env → Array Value → State → Outcome → State → Prop} (hpost : ∀ tb e args s v u, (limb_1_1.after args s (.returned v) u = true ∧ limb_1_2.after args s (.returned v) u = true ∧ True) → FrameEnd s (.returned v) u (Jvm.fieldLocs frame_1_writes args s ++ Jvm.arrayLocs frame_1_arrays args s ++ Jvm.staticLocs frame_1_statics s) 16 128 → Post tb e args s (.returned v) u) :
    ArmFor flags0 classFile x code maxLocals ret World_1 tables_1 room_1 Calls_1 rest_1 Pre_1 Post := by
  intro l hfl _ _ p e ha hc hk s m args below hf hA hF happ hP
  obtain ⟨hcalls, hrest, hpre⟩ := hP
  obtain ⟨-, -, -, hnamed, -, -, -, hat⟩ := (Spec.applies_iff hf).mp happ
  obtain ⟨hg, hn⟩ := and_e (Cond.before_iff.mp (show (Jvm.Cond.and given_1 narrow_1).before args s = true from hpre))
  obtain ⟨h1, hg1⟩ := and_e hg
  obtain ⟨w0, w1, w2, rfl⟩ : ∃ w0 w1 w2 : Value, args = #[w0, w1, w2] := by
    have hs : args.size = 3 := by simpa [Cond.value, given_1] using h1
    obtain ⟨L⟩ := args
    match L, hs with
    | [w0, w1, w2], _ => exact ⟨w0, w1, w2, rfl⟩
  have hw := fun d (hd : d ∈ tables_1) => atoms_spec (ws := Jvm.Cond.code x code maxLocals ret :: tables_1) hat d (List.mem_cons_of_mem _ hd)
  have hfit : Fit s := fun {y c} hc i hi => by
    obtain ⟨ha, rfl⟩ := Array.getElem?_eq_some_iff.mp hc
    have q := List.all_eq_true.mp ((Array.all_eq_true_iff_forall_mem.mp hF) _ (Array.getElem_mem ha)) i (List.mem_range.mpr hi)
    simpa [Array.getElem?_eq_getElem hi] using q
  obtain ⟨q0, hg2⟩ := and_e hg1
  obtain ⟨i0, ee0⟩ := is_v q0
  obtain rfl : w0 = (.int i0) := Option.some.inj ee0
  obtain ⟨q1, hg3⟩ := and_e hg2
  obtain ⟨i1, ee1⟩ := is_v q1
  obtain rfl : w1 = (.int i1) := Option.some.inj ee1
  obtain ⟨i2, ee2⟩ := is_v hg3
  obtain rfl : w2 = (.int i2) := Option.some.inj ee2
  obtain ⟨n, o, h1, h2, h3, _, L, rfl, ⟨rfl, N⟩, hq⟩ := rm_law l s _ hw tables_1  i0 i1 i2 s.heap s.heap.size (Nat.le_refl _) p e ha hc hk s m _ below hf ((Spec.applies_iff_loose hf).mp happ).1 ⟨rfl, State.Warmed39.refl s, rfl⟩ trivial
  refine ⟨n, _, h1, h2, h3, hpost _ _ _ _ _ _ ⟨Cond.after_iff.mpr rfl, Cond.after_iff.mpr (eq_i res_at (Term.int_eval (1)) rfl), trivial⟩ ⟨hq.1, hq.2.1, (hq.2.2.sift fun y hy => Or.inr (N y hy)).mono (by decide) (by decide)⟩⟩
theorem main_1_1 : Claimed_1_1 := comes_1 fun _ _ _ _ _ _ h hF => ⟨h.1, hF⟩
theorem main_1_2 : Claimed_1_2 := comes_1 fun _ _ _ _ _ _ h hF => ⟨h.2.1, hF⟩
end Jvm.Pilot.@@N@@
namespace Jvm.Pilot.@@N@@
open Jvm Jvm.ClassFile Sem Op Lib Jvm.Free Jvm.Stand Jvm.Pilot.@@N@@.Jvm.D
/-! MADE BY PROGRAM (witnessworld.py) out of the Statement's table words and the real class files: 9 classes; the members and pool entries that the words name. The judged class is class 1, her method 3. -/
namespace start1
open Jvm.ClassFile
def u (s : String) : CpInfo := .utf8 (stringToUtf16 s)
/-- a pool by its gaps: so many unusable entries, then the entry; so many at the end -/
def gap : Nat → List CpInfo → List CpInfo
  | 0, r => r
  | n + 1, r => .unusable :: gap n r
def poolList (es : List (Nat × CpInfo)) (last : Nat) : List CpInfo := es.foldr (fun e r => gap e.1 (e.2 :: r)) (gap last [])
def pool (es : List (Nat × CpInfo)) (last : Nat) : Array CpInfo := ⟨poolList es last⟩
def fileOf (pool : Array CpInfo) (this : Nat) (attrs : Array Attribute := #[]) (ms : Array MethodInfo := #[]) (fl : Nat := 33) (sup : Nat := 0) (ifs : Array Nat := #[]) (fds : Array FieldInfo := #[]) : ClassFile where
  minorVersion := 0
  majorVersion := 65
  constantPool := pool
  accessFlags := fl
  thisClass := this
  superClass := sup
  interfaces := ifs
  fields := fds
  methods := ms
  attributes := attrs
def plain (name : String) (sup : Option ClassId) : Class where
  name := name
  kind := .ordinary
  loader := none
  accessFlags := 33
  super := sup
  interfaces := #[]
  cf := none
  fields := #[]
  methods := #[]
  instanceTypes := #[]
  staticTypes := #[]
  resolved := #[]
  callSites := []
  init := .initialized
  statics := none
  mirror := none

def pool0 : Array CpInfo := pool [(5, u "<init>"), (0, u "()V"), (1, .class_ 10), (1, u "java/lang/Object")] 113

def k0c0 : Code := { maxStack := 0, maxLocals := 1, code := object_method_1_code, exceptionTable := #[], attributes := #[] }
def k0m0 : Method := { name := "<init>", desc := "()V", sig := { parameters := [], returnType := none }, accessFlags := 1, code := some k0c0 }
/-- java/lang/Object -/
def k0 : Class := { plain "java/lang/Object" none with
  accessFlags := 33
  interfaces := #[]
  cf := some (fileOf pool0 8 #[] #[{ accessFlags := 1, nameIndex := 5, descriptorIndex := 6, attributes := #[] }] 33 0 #[] #[])
  fields := #[]
  methods := #[k0m0]
  instanceTypes := #[]
  staticTypes := #[]
  resolved := Array.replicate 124 none
  statics := none }

def pool1 : Array CpInfo := pool [(2, .class_ 4), (1, u "java/lang/Object"), (0, u "<init>"), (0, u "()V"), (0, .integer 2147483647), (0, .methodref 9 10), (0, .class_ 11), (0, .nameAndType 12 13), (0, u "com/example/libdamp/libdamp/graph/GraphSelfLoopCountPinLaw"), (0, u "first"), (0, u "(I)I"), (0, .methodref 9 15), (0, .nameAndType 16 13), (0, u "second"), (0, .class_ 18), (0, u "com/example/libdamp/libdamp/graph/Graph"), (0, .methodref 17 20), (0, .nameAndType 5 21), (0, u "(I[I[I)V"), (0, .methodref 17 23), (0, .nameAndType 24 25), (0, u "selfLoopCount"), (0, u "()I"), (3, u "law"), (0, u "(III)Z")] 4

def k1m0 : Method := { name := "<init>", desc := "()V", sig := { parameters := [], returnType := none }, accessFlags := 1, code := none }
def k1c1 : Code := { maxStack := 2, maxLocals := 1, code := method_2_code, exceptionTable := #[], attributes := #[] }
def k1m1 : Method := { name := "first", desc := "(I)I", sig := { parameters := [.int], returnType := some .int }, accessFlags := 10, code := some k1c1 }
def k1c2 : Code := { maxStack := 2, maxLocals := 1, code := method_3_code, exceptionTable := #[], attributes := #[] }
def k1m2 : Method := { name := "second", desc := "(I)I", sig := { parameters := [.int], returnType := some .int }, accessFlags := 10, code := some k1c2 }
def k1c3 : Code := { maxStack := 5, maxLocals := 10, code := code, exceptionTable := #[], attributes := #[] }
def k1m3 : Method := { name := "law", desc := "(III)Z", sig := { parameters := [.int, .int, .int], returnType := some .boolean }, accessFlags := 9, code := some k1c3 }
/-- com/example/libdamp/libdamp/graph/GraphSelfLoopCountPinLaw -/
def k1 : Class := { plain "com/example/libdamp/libdamp/graph/GraphSelfLoopCountPinLaw" (some 0) with
  accessFlags := 49
  interfaces := #[]
  cf := some (fileOf pool1 9 #[] #[{ accessFlags := 1, nameIndex := 5, descriptorIndex := 6, attributes := #[] }, { accessFlags := 10, nameIndex := 12, descriptorIndex := 13, attributes := #[] }, { accessFlags := 10, nameIndex := 16, descriptorIndex := 13, attributes := #[] }, { accessFlags := 9, nameIndex := 29, descriptorIndex := 30, attributes := #[] }] 49 2 #[] #[])
  fields := #[]
  methods := #[k1m0, k1m1, k1m2, k1m3]
  instanceTypes := #[]
  staticTypes := #[]
  resolved := Array.replicate 35 none
  statics := none }

def pool2 : Array CpInfo := pool [(3, .methodref 4 5), (0, .class_ 6), (0, .nameAndType 7 8), (0, u "java/lang/Object"), (0, u "<init>"), (0, u "()V"), (0, .fieldref 10 11), (0, .class_ 12), (0, .nameAndType 13 14), (0, u "com/example/libdamp/libdamp/graph/Graph"), (0, u "nodeCount"), (0, u "I"), (0, .fieldref 10 16), (0, .nameAndType 17 18), (0, u "firstArcs"), (0, u "[I"), (0, .fieldref 10 20), (0, .nameAndType 21 18), (0, u "targets"), (48, u "(I[I[I)V"), (2, u "selfLoopCount"), (0, u "()I"), (0, u "MAX_NODE_COUNT")] 36

def k2c0 : Code := { maxStack := 2, maxLocals := 4, code := prog_45_method_1_code, exceptionTable := #[], attributes := #[] }
def k2m0 : Method := { name := "<init>", desc := "(I[I[I)V", sig := { parameters := [.int, (.array .int), (.array .int)], returnType := none }, accessFlags := 0, code := some k2c0 }
def k2c1 : Code := { maxStack := 4, maxLocals := 4, code := prog_45_method_8_code, exceptionTable := #[], attributes := #[] }
def k2m1 : Method := { name := "selfLoopCount", desc := "()I", sig := { parameters := [], returnType := some .int }, accessFlags := 1, code := some k2c1 }
/-- com/example/libdamp/libdamp/graph/Graph -/
def k2 : Class := { plain "com/example/libdamp/libdamp/graph/Graph" (some 0) with
  accessFlags := 49
  interfaces := #[]
  cf := some (fileOf pool2 10 #[] #[{ accessFlags := 0, nameIndex := 7, descriptorIndex := 70, attributes := #[] }, { accessFlags := 1, nameIndex := 73, descriptorIndex := 74, attributes := #[] }] 49 4 #[] #[{ accessFlags := 25, nameIndex := 75, descriptorIndex := 14, attributes := #[] }, { accessFlags := 18, nameIndex := 13, descriptorIndex := 14, attributes := #[] }, { accessFlags := 18, nameIndex := 17, descriptorIndex := 18, attributes := #[] }, { accessFlags := 18, nameIndex := 21, descriptorIndex := 18, attributes := #[] }])
  fields := #[{ name := "MAX_NODE_COUNT", type := .int, accessFlags := 25, slot := 0, constantValue := 0 }, { name := "nodeCount", type := .int, accessFlags := 18, slot := 0, constantValue := 0 }, { name := "firstArcs", type := (.array .int), accessFlags := 18, slot := 1, constantValue := 0 }, { name := "targets", type := (.array .int), accessFlags := 18, slot := 2, constantValue := 0 }]
  methods := #[k2m0, k2m1]
  instanceTypes := #[.int, (.array .int), (.array .int)]
  staticTypes := #[.int]
  resolved := Array.replicate 112 none
  statics := none }

def pool3 : Array CpInfo := pool [(1, u "java/lang/Cloneable"), (0, .class_ 1), (0, u "java/lang/Object"), (0, .class_ 3)] 3

/-- java/lang/Cloneable -/
def k3 : Class := { plain "java/lang/Cloneable" (some 0) with
  accessFlags := 1537
  interfaces := #[]
  cf := some (fileOf pool3 2 #[] #[] 1537 4 #[] #[])
  fields := #[]
  methods := #[]
  instanceTypes := #[]
  staticTypes := #[]
  resolved := Array.replicate 8 none
  statics := none }

def pool4 : Array CpInfo := pool [(1, u "java/io/Serializable"), (0, .class_ 1), (0, u "java/lang/Object"), (0, .class_ 3)] 3

/-- java/io/Serializable -/
def k4 : Class := { plain "java/io/Serializable" (some 0) with
  accessFlags := 1537
  interfaces := #[]
  cf := some (fileOf pool4 2 #[] #[] 1537 4 #[] #[])
  fields := #[]
  methods := #[]
  instanceTypes := #[]
  staticTypes := #[]
  resolved := Array.replicate 8 none
  statics := none }

/-- the primitive byte -/
def k5 : Class := { plain "byte" none with kind := .primitive 'B', accessFlags := 0x411 }
/-- [B -/
def k6 : Class := { plain "[B" (some 0) with kind := .array 5 .byte, interfaces := #[3, 4], accessFlags := 1041 }

/-- the primitive int -/
def k7 : Class := { plain "int" none with kind := .primitive 'I', accessFlags := 0x411 }
/-- [I -/
def k8 : Class := { plain "[I" (some 0) with kind := .array 7 .int, interfaces := #[3, 4], accessFlags := 1041 }

def heap : Heap := #[]
def classes : Array Class := #[k0, k1, k2, k3, k4, k5, k6, k7, k8]
def interned : List (Array UInt16 × Addr) := []
def slotsUsed : Nat := 0
def theMethod : MethodId := ⟨1, 3⟩
def args0 : Array Value := #[.int 5, .int 7, .int 9]
def aboutOver (below : List Frame) : State where
  vm := { classes := classes, interned := interned.toArray }
  heap := heap
  slotsUsed := slotsUsed
  threads := #[{ frames := .invoking theMethod args0 :: below }]
def below0 : List Frame := [.native { method := ⟨0, 0⟩, args := #[] }]
def about1 : State := aboutOver below0
def p0 : Program := .bare "" "" ""
def e0 : Env := launch0.env 0 0 0
theorem w_frames : about1.frames = Frame.invoking theMethod args0 :: below0 := rfl
set_option maxRecDepth 65536 in
theorem w_args : argsFit about1.vm theMethod args0 = true := by decide +kernel
set_option maxRecDepth 65536 in
theorem w_heap : heapFits about1 = true := by decide +kernel
set_option maxRecDepth 65536 in
theorem w_runnable : about1.curStatus? = some .runnable := by decide +kernel
set_option maxRecDepth 65536 in
theorem w_alone : about1.alone = true := by decide +kernel
set_option maxRecDepth 65536 in
theorem w_named : about1.methodNamed? x = some theMethod := by decide +kernel
set_option maxRecDepth 65536 in
theorem w_hears : about1.hears theMethod below0 = true := by decide +kernel
set_option maxRecDepth 65536 in
theorem w_ripe : about1.ripe theMethod args0 below0 = true := by decide +kernel
theorem w_running : about1.status = .running := rfl
set_option maxRecDepth 65536 in
theorem w_room : about1.hasRoom e0.platform room_1 = true :=
  launch0.hasRoom_least _ room_1 (by decide +kernel) (by decide +kernel) (by decide +kernel) (by decide +kernel) (by decide +kernel) (by decide +kernel)
theorem allAtoms_all (ts : List Jvm.Cond) (a : Array Jvm.Value) (st : Jvm.State) : (allAtoms ts).before a st = ts.all (fun c => c.before a st) := by
  induction ts with
  | nil => rfl
  | cons c t ih =>
    show (Jvm.Cond.and c (allAtoms t)).before a st = _
    rw [Jvm.Cond.before_and, ih, List.all_cons]
def words1 : List Jvm.Cond := Jvm.Cond.code x code maxLocals ret :: tables_1
/-- a 'code' word, met by the world's own term for the bytes: nothing is compared byte by byte -/
theorem code_word {y : MethodName} {bytes : ByteArray} {mx : Nat} {rt : Option FieldType} {a : Array Value} {s : State} {m : MethodId} {meth : Method} {c : Code} (h1 : s.methodNamed? y = some m) (h2 : s.vm.method? m = some meth) (h3 : meth.code = some c) (h4 : c.code = bytes)
    (h5 : (c.maxLocals == mx && c.exceptionTable.isEmpty && decide (c.maxStack ≤ mostOperands) && decide (meth.sig.returnType = rt) && !meth.locks && decide (parseMethodDescriptor y.desc = some meth.sig)) = true) : (Jvm.Cond.code y bytes mx rt).before a s = true := by
  simp only [Bool.and_eq_true, beq_iff_eq, Bool.not_eq_true', decide_eq_true_eq] at h5
  obtain ⟨⟨⟨⟨⟨g1, g2⟩, g3⟩, g4⟩, g5⟩, g6⟩ := h5
  simp [Cond.before, Cond.holds, Cond.value, h1, h2, h3, h4, g1, g2, g3, g4, g5, g6]
def isCode : Jvm.Cond → Bool
  | .code _ _ _ _ => true
  | _ => false
theorem all_split {L : List Jvm.Cond} {P : Jvm.Cond → Bool} (h1 : L.all (fun c => isCode c || P c) = true) (h2 : ∀ c ∈ L.filter isCode, P c = true) : L.all P = true := by
  refine List.all_eq_true.mpr fun c hc => ?_
  have h := List.all_eq_true.mp h1 c hc
  rcases Bool.eq_false_or_eq_true (isCode c) with hi | hi
  · exact h2 c (List.mem_filter.mpr ⟨hc, hi⟩)
  · simpa [hi] using h
set_option maxRecDepth 65536 in
theorem w_c0 : (Jvm.Cond.code x code maxLocals ret).before args0 about1 = true := code_word (m := ⟨1, 3⟩) (meth := k1m3) (c := k1c3) (by decide +kernel) rfl rfl rfl (by decide +kernel)
set_option maxRecDepth 65536 in
theorem w_c1 : (Jvm.Cond.code ({ cls := "com/example/libdamp/libdamp/graph/GraphSelfLoopCountPinLaw", name := "first", desc := "(I)I" } : Jvm.MethodName) method_2_code (1 : Nat) (Option.some Jvm.ClassFile.FieldType.int)).before args0 about1 = true := code_word (m := ⟨1, 1⟩) (meth := k1m1) (c := k1c1) (by decide +kernel) rfl rfl rfl (by decide +kernel)
set_option maxRecDepth 65536 in
theorem w_c2 : (Jvm.Cond.code ({ cls := "com/example/libdamp/libdamp/graph/GraphSelfLoopCountPinLaw", name := "second", desc := "(I)I" } : Jvm.MethodName) method_3_code (1 : Nat) (Option.some Jvm.ClassFile.FieldType.int)).before args0 about1 = true := code_word (m := ⟨1, 2⟩) (meth := k1m2) (c := k1c2) (by decide +kernel) rfl rfl rfl (by decide +kernel)
set_option maxRecDepth 65536 in
theorem w_c3 : (Jvm.Cond.code ({ cls := "com/example/libdamp/libdamp/graph/Graph", name := "<init>", desc := "(I[I[I)V" } : Jvm.MethodName) prog_45_method_1_code (4 : Nat) (Option.none : Option Jvm.ClassFile.FieldType)).before args0 about1 = true := code_word (m := ⟨2, 0⟩) (meth := k2m0) (c := k2c0) (by decide +kernel) rfl rfl rfl (by decide +kernel)
set_option maxRecDepth 65536 in
theorem w_c4 : (Jvm.Cond.code ({ cls := "java/lang/Object", name := "<init>", desc := "()V" } : Jvm.MethodName) object_method_1_code (1 : Nat) (Option.none : Option Jvm.ClassFile.FieldType)).before args0 about1 = true := code_word (m := ⟨0, 0⟩) (meth := k0m0) (c := k0c0) (by decide +kernel) rfl rfl rfl (by decide +kernel)
set_option maxRecDepth 65536 in
theorem w_c5 : (Jvm.Cond.code ({ cls := "com/example/libdamp/libdamp/graph/Graph", name := "selfLoopCount", desc := "()I" } : Jvm.MethodName) prog_45_method_8_code (4 : Nat) (Option.some Jvm.ClassFile.FieldType.int)).before args0 about1 = true := code_word (m := ⟨2, 1⟩) (meth := k2m1) (c := k2c1) (by decide +kernel) rfl rfl rfl (by decide +kernel)
def codes1 : List Jvm.Cond := [Jvm.Cond.code x code maxLocals ret, Jvm.Cond.code ({ cls := "com/example/libdamp/libdamp/graph/GraphSelfLoopCountPinLaw", name := "first", desc := "(I)I" } : Jvm.MethodName) method_2_code (1 : Nat) (Option.some Jvm.ClassFile.FieldType.int), Jvm.Cond.code ({ cls := "com/example/libdamp/libdamp/graph/GraphSelfLoopCountPinLaw", name := "second", desc := "(I)I" } : Jvm.MethodName) method_3_code (1 : Nat) (Option.some Jvm.ClassFile.FieldType.int), Jvm.Cond.code ({ cls := "com/example/libdamp/libdamp/graph/Graph", name := "<init>", desc := "(I[I[I)V" } : Jvm.MethodName) prog_45_method_1_code (4 : Nat) (Option.none : Option Jvm.ClassFile.FieldType), Jvm.Cond.code ({ cls := "java/lang/Object", name := "<init>", desc := "()V" } : Jvm.MethodName) object_method_1_code (1 : Nat) (Option.none : Option Jvm.ClassFile.FieldType), Jvm.Cond.code ({ cls := "com/example/libdamp/libdamp/graph/Graph", name := "selfLoopCount", desc := "()I" } : Jvm.MethodName) prog_45_method_8_code (4 : Nat) (Option.some Jvm.ClassFile.FieldType.int)]
set_option maxRecDepth 65536 in
theorem codes_eq : words1.filter isCode = codes1 := rfl
theorem w_codes : ∀ c ∈ words1.filter isCode, c.before args0 about1 = true := by
  rw [codes_eq]
  intro c hc
  simp only [codes1, List.mem_cons, List.not_mem_nil, or_false] at hc
  rcases hc with rfl | rfl | rfl | rfl | rfl | rfl
  · exact w_c0
  · exact w_c1
  · exact w_c2
  · exact w_c3
  · exact w_c4
  · exact w_c5
set_option maxRecDepth 65536 in
theorem w_t1 : (words1.take 24).all (fun c => isCode c || c.before args0 about1) = true := by decide +kernel
set_option maxRecDepth 65536 in
theorem w_t2 : (words1.drop 24).all (fun c => isCode c || c.before args0 about1) = true := by decide +kernel
theorem w_tables : (allAtoms (Jvm.Cond.code x code maxLocals ret :: tables_1)).before args0 about1 = true := by
  rw [allAtoms_all]
  show words1.all (fun c => c.before args0 about1) = true
  refine all_split ?_ w_codes
  rw [← List.take_append_drop 24 words1, List.all_append, w_t1, w_t2]
  rfl
set_option maxRecDepth 65536 in
theorem w_case : (Jvm.Cond.and given_1 narrow_1).before args0 about1 = true := by decide +kernel
theorem w_applies : (headSpec (Jvm.Cond.code x code maxLocals ret :: tables_1) room_1).applies x e0.platform about1 = true :=
  (Spec.applies_iff w_frames).mpr ⟨w_running, w_runnable, w_alone, w_named, w_hears, w_ripe, w_room, w_tables⟩
theorem atStart : AtStart classFile x code maxLocals ret World_1 tables_1 room_1 Calls_1 rest_1 Pre_1 launch0 p0 e0 about1 theMethod args0 below0 :=
  ⟨lists_1, trivial, launch0.admits_env _ _ _, launch0.least_env, fairChoices_fair.cas, fairChoices_fair.clock, w_frames, w_args, w_heap, w_applies, trivial, trivial, w_case⟩
end start1
theorem witness_1 : WitnessClaimed_1 := ⟨start1.p0, start1.e0, start1.about1, start1.theMethod, start1.args0, start1.below0, start1.atStart⟩
end Jvm.Pilot.@@N@@
