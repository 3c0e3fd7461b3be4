import JvmDerived
import JvmDerived.Pilot.@@N@@Statement
import JvmDerived.Pilot.@@N@@Code
set_option linter.unusedVariables false
set_option linter.unusedSimpArgs false
@@BLOCK:NumsL.lean.txt@@
namespace Jvm.Pilot.@@N@@
open Jvm Jvm.ClassFile Sem Op Lib Jvm.Free Jvm.Stand Jvm.LawKit Jvm.RoadKit Bundle Jvm.Pilot.@@N@@.Jvm.D
/-! 1. OWN: a walk in continuation style: 'own_Goes': from this frame the run comes back with an outcome of which Q holds -/
def own_Goes (p : Program) (e : Env) (below : List Frame) (T : State) (F : JFrame) (Q : Outcome → State → Prop) : Prop := ∃ s₂ o, Steps p.tables e below (T.setTop F) s₂ ∧ s₂.status = .running ∧ Ended s₂ below o ∧ Q o s₂
def own_Ret (s : State) (K : Option Value → Heap → List Loc → Prop) (rc rs : Nat) (o : Outcome) (U' : State) : Prop := ∃ v L, o = .returned v ∧ K v U'.heap L ∧ FrameEnd s o U' L rc rs
def own_upd (f : Nat → Value) (k : Nat) (v : Value) : Nat → Value := fun i => if i = k then v else f i
/-- an array of n places at a; place j holds f j -/
def own_Arr (Z : State) (h : Heap) (a : Addr) (ty : FieldType) (n : Nat) (f : Nat → Value) : Prop := ∃ c : Cell, Arr Z h a c ty ∧ c.slots.size = n ∧ n < 2 ^ 31 ∧ ∀ j, j < n → c.slots[j]? = some (f j)
section Own
variable {p : Program} {l : Launch} {e : Env} {R : Room} {s : State} {m : MethodId} {args : Array Value} {below : List Frame} {meth : Method} {c : Code} {T : State} {locs : List Loc} {cells slots : Nat} {Z : State} {a0 : Array Value} {h h' : Heap} {Q : Outcome → State → Prop} {Ls Ls' : Array Slot} {st : List Value} {pc pc' : Nat}
theorem own_step {T' : State} {F F' : JFrame} (k : ∀ t, Steps p.tables e below (T'.setTop F') t → Steps p.tables e below (T.setTop F) t) (q : own_Goes p e below T' F' Q) : own_Goes p e below T F Q := by
  obtain ⟨s2, o, h1, h2⟩ := q
  exact ⟨s2, o, k _ h1, h2⟩
theorem own_body {y : MethodName} {bytes : ByteArray} {maxL : Nat} {rt : Option FieldType} {ws : List Jvm.Cond} {rm : Room} {as : Array Value} {h0 : Heap} {K : Option Value → Heap → List Loc → Prop} (hpl : plainFor y = true)
    (body : ∀ (p : Program) (e : Env) (s : State) (m : MethodId) (below : List Frame) (meth : Method) (c : Code) (s₁ : State), p.tables.exec = Jvm.exec → c.code = bytes → c.maxLocals = maxL → s.vm.findClass y.cls = some m.cls → meth.name = y.name → meth.sig.returnType = rt → meth.locks = false → Z.Warmed39 s.vm →
      Stand p l e rm s m as below meth c s₁ [] 0 0 → s₁.heap = h0 → own_Goes p e below s₁ (entryFrame m as maxL) (own_Ret s K rm.cells rm.slots)) :
    MetFree l y (head1 (Jvm.Cond.code y bytes maxL rt :: ws) rm) (fun a U => a = as ∧ Z.Warmed39 U.vm ∧ U.heap = h0) (fun _ _ _ _ _ => True) (fun _ U o U' => ∃ v L, o = .returned v ∧ K v U'.heap L ∧ FrameEnd U o U' L rm.cells rm.slots) := by
  refine MetFree.of_bodySF hpl hisR ?_
  intro p e s m args below meth c s₁ Bd hml0 hP hK
  obtain ⟨rfl, hZ, hh⟩ := hP
  exact body p e s m below meth c s₁ Bd.exec Bd.bytes hml0 (findClass_of_methodNamed Bd.named) (name_of_methodNamed Bd.named Bd.method).1 Bd.returns Bd.notSynchronized hZ (Stand.of_body Bd) (by rw [← hh, Bd.state]; rfl)
theorem own_iload (X : Stand p l e R s m args below meth c T locs cells slots) (hx : p.tables.exec = Jvm.exec) {k : Nat} {v : Int32} (hp : pc + 2 = pc') (hd : decode c.code pc = .ok (.iload k, 2)) (hl : Ls[k]? = some (.val (.int v))) (k : own_Goes p e below T (mkF m pc' Ls (.int v :: st)) Q) : own_Goes p e below T (mkF m pc Ls st) Q := by
  subst hp; exact own_step (fun _ q => XS.iload X.here hx rfl hd hl q) k
theorem own_iloadN (X : Stand p l e R s m args below meth c T locs cells slots) (hx : p.tables.exec = Jvm.exec) {k : Fin 4} {v : Int32} (hp : pc + 1 = pc') (hd : decode c.code pc = .ok (.iload_n k, 1)) (hl : Ls[k.val]? = some (.val (.int v))) (k : own_Goes p e below T (mkF m pc' Ls (.int v :: st)) Q) : own_Goes p e below T (mkF m pc Ls st) Q := by
  subst hp; exact own_step (fun _ q => XS.iloadN X.here hx rfl hd hl q) k
theorem own_istore (X : Stand p l e R s m args below meth c T locs cells slots) (hx : p.tables.exec = Jvm.exec) {k : Nat} {v : Int32} (hp : pc + 2 = pc') (hd : decode c.code pc = .ok (.istore k, 2)) (hl : storeLocals Ls k (.int v) = some Ls') (k : own_Goes p e below T (mkF m pc' Ls' st) Q) : own_Goes p e below T (mkF m pc Ls (.int v :: st)) Q := by
  subst hp; exact own_step (fun _ q => XS.istore X.here hx rfl hd rfl hl q) k
theorem own_istoreN (X : Stand p l e R s m args below meth c T locs cells slots) (hx : p.tables.exec = Jvm.exec) {k : Fin 4} {v : Int32} (hp : pc + 1 = pc') (hd : decode c.code pc = .ok (.istore_n k, 1)) (hl : storeLocals Ls k.val (.int v) = some Ls') (k : own_Goes p e below T (mkF m pc' Ls' st) Q) : own_Goes p e below T (mkF m pc Ls (.int v :: st)) Q := by
  subst hp; exact own_step (fun _ q => XS.istoreN X.here hx rfl hd rfl hl q) k
theorem own_lload (X : Stand p l e R s m args below meth c T locs cells slots) (hx : p.tables.exec = Jvm.exec) {k : Nat} {v : Int64} (hp : pc + 2 = pc') (hd : decode c.code pc = .ok (.lload k, 2)) (hl : Ls[k]? = some (.val (.long v))) (k : own_Goes p e below T (mkF m pc' Ls (.long v :: st)) Q) : own_Goes p e below T (mkF m pc Ls st) Q := by
  subst hp; exact own_step (fun _ q => XT.lload X.here hx rfl hd hl q) k
theorem own_lloadN (X : Stand p l e R s m args below meth c T locs cells slots) (hx : p.tables.exec = Jvm.exec) {k : Fin 4} {v : Int64} (hp : pc + 1 = pc') (hd : decode c.code pc = .ok (.lload_n k, 1)) (hl : Ls[k.val]? = some (.val (.long v))) (k : own_Goes p e below T (mkF m pc' Ls (.long v :: st)) Q) : own_Goes p e below T (mkF m pc Ls st) Q := by
  subst hp; exact own_step (fun _ q => XT.lloadN X.here hx rfl hd hl q) k
theorem own_lstore (X : Stand p l e R s m args below meth c T locs cells slots) (hx : p.tables.exec = Jvm.exec) {k : Nat} {v : Int64} (hp : pc + 2 = pc') (hd : decode c.code pc = .ok (.lstore k, 2)) (hl : storeLocals Ls k (.long v) = some Ls') (k : own_Goes p e below T (mkF m pc' Ls' st) Q) : own_Goes p e below T (mkF m pc Ls (.long v :: st)) Q := by
  subst hp; exact own_step (fun _ q => XT.lstore X.here hx rfl hd rfl hl q) k
theorem own_lstoreN (X : Stand p l e R s m args below meth c T locs cells slots) (hx : p.tables.exec = Jvm.exec) {k : Fin 4} {v : Int64} (hp : pc + 1 = pc') (hd : decode c.code pc = .ok (.lstore_n k, 1)) (hl : storeLocals Ls k.val (.long v) = some Ls') (k : own_Goes p e below T (mkF m pc' Ls' st) Q) : own_Goes p e below T (mkF m pc Ls (.long v :: st)) Q := by
  subst hp; exact own_step (fun _ q => XT.lstoreN X.here hx rfl hd rfl hl q) k
theorem own_aload (X : Stand p l e R s m args below meth c T locs cells slots) (hx : p.tables.exec = Jvm.exec) {k : Nat} {v : Value} (hp : pc + 2 = pc') (hd : decode c.code pc = .ok (.aload k, 2)) (hl : Ls[k]? = some (.val v)) (hv : v.isRef = true) (k : own_Goes p e below T (mkF m pc' Ls (v :: st)) Q) : own_Goes p e below T (mkF m pc Ls st) Q := by
  subst hp; exact own_step (fun _ q => XS.aload X.here hx rfl hd hl hv q) k
theorem own_aloadN (X : Stand p l e R s m args below meth c T locs cells slots) (hx : p.tables.exec = Jvm.exec) {k : Fin 4} {v : Value} (hp : pc + 1 = pc') (hd : decode c.code pc = .ok (.aload_n k, 1)) (hl : Ls[k.val]? = some (.val v)) (hv : v.isRef = true) (k : own_Goes p e below T (mkF m pc' Ls (v :: st)) Q) : own_Goes p e below T (mkF m pc Ls st) Q := by
  subst hp; exact own_step (fun _ q => XS.aloadN X.here hx rfl hd hl hv q) k
theorem own_astore (X : Stand p l e R s m args below meth c T locs cells slots) (hx : p.tables.exec = Jvm.exec) {k : Nat} {v : Value} (hp : pc + 2 = pc') (hd : decode c.code pc = .ok (.astore k, 2)) (hv : v.isRef = true) (hl : storeLocals Ls k v = some Ls') (k : own_Goes p e below T (mkF m pc' Ls' st) Q) : own_Goes p e below T (mkF m pc Ls (v :: st)) Q := by
  subst hp; exact own_step (fun _ q => XS.astore X.here hx rfl hd rfl hv hl q) k
theorem own_astoreN (X : Stand p l e R s m args below meth c T locs cells slots) (hx : p.tables.exec = Jvm.exec) {k : Fin 4} {v : Value} (hp : pc + 1 = pc') (hd : decode c.code pc = .ok (.astore_n k, 1)) (hv : v.isRef = true) (hl : storeLocals Ls k.val v = some Ls') (k : own_Goes p e below T (mkF m pc' Ls' st) Q) : own_Goes p e below T (mkF m pc Ls (v :: st)) Q := by
  subst hp; exact own_step (fun _ q => XS.astoreN X.here hx rfl hd rfl hv hl q) k
theorem own_iconst (X : Stand p l e R s m args below meth c T locs cells slots) (hx : p.tables.exec = Jvm.exec) {i : Int} {v : Int32} (hp : pc + 1 = pc') (hd : decode c.code pc = .ok (.iconst i, 1)) (hv : Int32.ofInt i = v) (k : own_Goes p e below T (mkF m pc' Ls (.int v :: st)) Q) : own_Goes p e below T (mkF m pc Ls st) Q := by
  subst hp; subst hv; exact own_step (fun _ q => XS.iconst X.here hx rfl hd  q) k
theorem own_bipush (X : Stand p l e R s m args below meth c T locs cells slots) (hx : p.tables.exec = Jvm.exec) {i : Int} {v : Int32} (hp : pc + 2 = pc') (hd : decode c.code pc = .ok (.bipush i, 2)) (hv : (Int8.ofInt i).toInt32 = v) (k : own_Goes p e below T (mkF m pc' Ls (.int v :: st)) Q) : own_Goes p e below T (mkF m pc Ls st) Q := by
  subst hp; subst hv; exact own_step (fun _ q => XS.bipush X.here hx rfl hd  q) k
theorem own_sipush (X : Stand p l e R s m args below meth c T locs cells slots) (hx : p.tables.exec = Jvm.exec) {i : Int} {v : Int32} (hp : pc + 3 = pc') (hd : decode c.code pc = .ok (.sipush i, 3)) (hv : (Int16.ofInt i).toInt32 = v) (k : own_Goes p e below T (mkF m pc' Ls (.int v :: st)) Q) : own_Goes p e below T (mkF m pc Ls st) Q := by
  subst hp; subst hv; exact own_step (fun _ q => XS.sipush X.here hx rfl hd  q) k
theorem own_lconst (X : Stand p l e R s m args below meth c T locs cells slots) (hx : p.tables.exec = Jvm.exec) {i : Fin 2} {v : Int64} (hp : pc + 1 = pc') (hd : decode c.code pc = .ok (.lconst i, 1)) (hv : Int64.ofNat i = v) (k : own_Goes p e below T (mkF m pc' Ls (.long v :: st)) Q) : own_Goes p e below T (mkF m pc Ls st) Q := by
  subst hp; subst hv; exact own_step (fun _ q => XT.lconst X.here hx rfl hd  q) k
theorem own_anull (X : Stand p l e R s m args below meth c T locs cells slots) (hx : p.tables.exec = Jvm.exec)  (hp : pc + 1 = pc') (hd : decode c.code pc = .ok (.aconst_null, 1))  (k : own_Goes p e below T (mkF m pc' Ls (.null :: st)) Q) : own_Goes p e below T (mkF m pc Ls st) Q := by
  subst hp; exact own_step (fun _ q => XS.aconstNull X.here hx rfl hd  q) k
theorem own_iadd (X : Stand p l e R s m args below meth c T locs cells slots) (hx : p.tables.exec = Jvm.exec) {x y v : Int32} (hp : pc + 1 = pc') (hd : decode c.code pc = .ok (.iadd, 1)) (hv : x + y = v) (k : own_Goes p e below T (mkF m pc' Ls (.int v :: st)) Q) : own_Goes p e below T (mkF m pc Ls (.int y :: .int x :: st)) Q := by
  subst hp; subst hv; exact own_step (fun _ q => XS.iadd X.here hx rfl hd rfl q) k
theorem own_isub (X : Stand p l e R s m args below meth c T locs cells slots) (hx : p.tables.exec = Jvm.exec) {x y v : Int32} (hp : pc + 1 = pc') (hd : decode c.code pc = .ok (.isub, 1)) (hv : x - y = v) (k : own_Goes p e below T (mkF m pc' Ls (.int v :: st)) Q) : own_Goes p e below T (mkF m pc Ls (.int y :: .int x :: st)) Q := by
  subst hp; subst hv; exact own_step (fun _ q => XS.isub X.here hx rfl hd rfl q) k
theorem own_imul (X : Stand p l e R s m args below meth c T locs cells slots) (hx : p.tables.exec = Jvm.exec) {x y v : Int32} (hp : pc + 1 = pc') (hd : decode c.code pc = .ok (.imul, 1)) (hv : x * y = v) (k : own_Goes p e below T (mkF m pc' Ls (.int v :: st)) Q) : own_Goes p e below T (mkF m pc Ls (.int y :: .int x :: st)) Q := by
  subst hp; subst hv; exact own_step (fun _ q => XS.imul X.here hx rfl hd rfl q) k
theorem own_iand (X : Stand p l e R s m args below meth c T locs cells slots) (hx : p.tables.exec = Jvm.exec) {x y v : Int32} (hp : pc + 1 = pc') (hd : decode c.code pc = .ok (.iand, 1)) (hv : x &&& y = v) (k : own_Goes p e below T (mkF m pc' Ls (.int v :: st)) Q) : own_Goes p e below T (mkF m pc Ls (.int y :: .int x :: st)) Q := by
  subst hp; subst hv; exact own_step (fun _ q => XS.iand X.here hx rfl hd rfl q) k
theorem own_ior (X : Stand p l e R s m args below meth c T locs cells slots) (hx : p.tables.exec = Jvm.exec) {x y v : Int32} (hp : pc + 1 = pc') (hd : decode c.code pc = .ok (.ior, 1)) (hv : x ||| y = v) (k : own_Goes p e below T (mkF m pc' Ls (.int v :: st)) Q) : own_Goes p e below T (mkF m pc Ls (.int y :: .int x :: st)) Q := by
  subst hp; subst hv; exact own_step (fun _ q => XT.ior X.here hx rfl hd rfl q) k
theorem own_ixor (X : Stand p l e R s m args below meth c T locs cells slots) (hx : p.tables.exec = Jvm.exec) {x y v : Int32} (hp : pc + 1 = pc') (hd : decode c.code pc = .ok (.ixor, 1)) (hv : x ^^^ y = v) (k : own_Goes p e below T (mkF m pc' Ls (.int v :: st)) Q) : own_Goes p e below T (mkF m pc Ls (.int y :: .int x :: st)) Q := by
  subst hp; subst hv; exact own_step (fun _ q => XT.ixor X.here hx rfl hd rfl q) k
theorem own_ishl (X : Stand p l e R s m args below meth c T locs cells slots) (hx : p.tables.exec = Jvm.exec) {x y v : Int32} (hp : pc + 1 = pc') (hd : decode c.code pc = .ok (.ishl, 1)) (hv : x <<< (y &&& 31) = v) (k : own_Goes p e below T (mkF m pc' Ls (.int v :: st)) Q) : own_Goes p e below T (mkF m pc Ls (.int y :: .int x :: st)) Q := by
  subst hp; subst hv; exact own_step (fun _ q => XT.ishl X.here hx rfl hd rfl q) k
theorem own_ishr (X : Stand p l e R s m args below meth c T locs cells slots) (hx : p.tables.exec = Jvm.exec) {x y v : Int32} (hp : pc + 1 = pc') (hd : decode c.code pc = .ok (.ishr, 1)) (hv : x >>> (y &&& 31) = v) (k : own_Goes p e below T (mkF m pc' Ls (.int v :: st)) Q) : own_Goes p e below T (mkF m pc Ls (.int y :: .int x :: st)) Q := by
  subst hp; subst hv; exact own_step (fun _ q => XT.ishr X.here hx rfl hd rfl q) k
theorem own_iushr (X : Stand p l e R s m args below meth c T locs cells slots) (hx : p.tables.exec = Jvm.exec) {x y v : Int32} (hp : pc + 1 = pc') (hd : decode c.code pc = .ok (.iushr, 1)) (hv : XT.ushr x y = v) (k : own_Goes p e below T (mkF m pc' Ls (.int v :: st)) Q) : own_Goes p e below T (mkF m pc Ls (.int y :: .int x :: st)) Q := by
  subst hp; subst hv; exact own_step (fun _ q => XT.iushr X.here hx rfl hd rfl q) k
theorem own_idiv (X : Stand p l e R s m args below meth c T locs cells slots) (hx : p.tables.exec = Jvm.exec) {x y v : Int32} (hp : pc + 1 = pc') (hd : decode c.code pc = .ok (.idiv, 1)) (hy : y ≠ 0) (hv : x / y = v) (k : own_Goes p e below T (mkF m pc' Ls (.int v :: st)) Q) : own_Goes p e below T (mkF m pc Ls (.int y :: .int x :: st)) Q := by
  subst hp; subst hv; exact own_step (fun _ q => XS.idiv X.here hx rfl hd rfl hy q) k
theorem own_irem (X : Stand p l e R s m args below meth c T locs cells slots) (hx : p.tables.exec = Jvm.exec) {x y v : Int32} (hp : pc + 1 = pc') (hd : decode c.code pc = .ok (.irem, 1)) (hy : y ≠ 0) (hv : x % y = v) (k : own_Goes p e below T (mkF m pc' Ls (.int v :: st)) Q) : own_Goes p e below T (mkF m pc Ls (.int y :: .int x :: st)) Q := by
  subst hp; subst hv; exact own_step (fun _ q => iremM X hx rfl hd rfl hy q) k
theorem own_ladd (X : Stand p l e R s m args below meth c T locs cells slots) (hx : p.tables.exec = Jvm.exec) {x y v : Int64} (hp : pc + 1 = pc') (hd : decode c.code pc = .ok (.ladd, 1)) (hv : x + y = v) (k : own_Goes p e below T (mkF m pc' Ls (.long v :: st)) Q) : own_Goes p e below T (mkF m pc Ls (.long y :: .long x :: st)) Q := by
  subst hp; subst hv; exact own_step (fun _ q => XT.ladd X.here hx rfl hd rfl q) k
theorem own_lsub (X : Stand p l e R s m args below meth c T locs cells slots) (hx : p.tables.exec = Jvm.exec) {x y v : Int64} (hp : pc + 1 = pc') (hd : decode c.code pc = .ok (.lsub, 1)) (hv : x - y = v) (k : own_Goes p e below T (mkF m pc' Ls (.long v :: st)) Q) : own_Goes p e below T (mkF m pc Ls (.long y :: .long x :: st)) Q := by
  subst hp; subst hv; exact own_step (fun _ q => XT.lsub X.here hx rfl hd rfl q) k
theorem own_lmul (X : Stand p l e R s m args below meth c T locs cells slots) (hx : p.tables.exec = Jvm.exec) {x y v : Int64} (hp : pc + 1 = pc') (hd : decode c.code pc = .ok (.lmul, 1)) (hv : x * y = v) (k : own_Goes p e below T (mkF m pc' Ls (.long v :: st)) Q) : own_Goes p e below T (mkF m pc Ls (.long y :: .long x :: st)) Q := by
  subst hp; subst hv; exact own_step (fun _ q => XT.lmul X.here hx rfl hd rfl q) k
theorem own_land (X : Stand p l e R s m args below meth c T locs cells slots) (hx : p.tables.exec = Jvm.exec) {x y v : Int64} (hp : pc + 1 = pc') (hd : decode c.code pc = .ok (.land, 1)) (hv : x &&& y = v) (k : own_Goes p e below T (mkF m pc' Ls (.long v :: st)) Q) : own_Goes p e below T (mkF m pc Ls (.long y :: .long x :: st)) Q := by
  subst hp; subst hv; exact own_step (fun _ q => XT.land X.here hx rfl hd rfl q) k
theorem own_lor (X : Stand p l e R s m args below meth c T locs cells slots) (hx : p.tables.exec = Jvm.exec) {x y v : Int64} (hp : pc + 1 = pc') (hd : decode c.code pc = .ok (.lor, 1)) (hv : x ||| y = v) (k : own_Goes p e below T (mkF m pc' Ls (.long v :: st)) Q) : own_Goes p e below T (mkF m pc Ls (.long y :: .long x :: st)) Q := by
  subst hp; subst hv; exact own_step (fun _ q => XT.lor X.here hx rfl hd rfl q) k
theorem own_lxor (X : Stand p l e R s m args below meth c T locs cells slots) (hx : p.tables.exec = Jvm.exec) {x y v : Int64} (hp : pc + 1 = pc') (hd : decode c.code pc = .ok (.lxor, 1)) (hv : x ^^^ y = v) (k : own_Goes p e below T (mkF m pc' Ls (.long v :: st)) Q) : own_Goes p e below T (mkF m pc Ls (.long y :: .long x :: st)) Q := by
  subst hp; subst hv; exact own_step (fun _ q => XT.lxor X.here hx rfl hd rfl q) k
theorem own_ldiv (X : Stand p l e R s m args below meth c T locs cells slots) (hx : p.tables.exec = Jvm.exec) {x y v : Int64} (hp : pc + 1 = pc') (hd : decode c.code pc = .ok (.ldiv, 1)) (hy : y ≠ 0) (hv : x / y = v) (k : own_Goes p e below T (mkF m pc' Ls (.long v :: st)) Q) : own_Goes p e below T (mkF m pc Ls (.long y :: .long x :: st)) Q := by
  subst hp; subst hv; exact own_step (fun _ q => XT.ldiv X.here hx rfl hd rfl hy q) k
theorem own_ineg (X : Stand p l e R s m args below meth c T locs cells slots) (hx : p.tables.exec = Jvm.exec) {x v : Int32} (hp : pc + 1 = pc') (hd : decode c.code pc = .ok (.ineg, 1)) (hv : -x = v) (k : own_Goes p e below T (mkF m pc' Ls (.int v :: st)) Q) : own_Goes p e below T (mkF m pc Ls (.int x :: st)) Q := by
  subst hp; subst hv; exact own_step (fun _ q => XS.ineg X.here hx rfl hd rfl q) k
theorem own_lneg (X : Stand p l e R s m args below meth c T locs cells slots) (hx : p.tables.exec = Jvm.exec) {x v : Int64} (hp : pc + 1 = pc') (hd : decode c.code pc = .ok (.lneg, 1)) (hv : -x = v) (k : own_Goes p e below T (mkF m pc' Ls (.long v :: st)) Q) : own_Goes p e below T (mkF m pc Ls (.long x :: st)) Q := by
  subst hp; subst hv; exact own_step (fun _ q => XT.lneg X.here hx rfl hd rfl q) k
theorem own_i2l (X : Stand p l e R s m args below meth c T locs cells slots) (hx : p.tables.exec = Jvm.exec) {x : Int32} {v : Int64} (hp : pc + 1 = pc') (hd : decode c.code pc = .ok (.i2l, 1)) (hv : x.toInt64 = v) (k : own_Goes p e below T (mkF m pc' Ls (.long v :: st)) Q) : own_Goes p e below T (mkF m pc Ls (.int x :: st)) Q := by
  subst hp; subst hv; exact own_step (fun _ q => XT.i2l X.here hx rfl hd rfl q) k
theorem own_l2i (X : Stand p l e R s m args below meth c T locs cells slots) (hx : p.tables.exec = Jvm.exec) {x : Int64} {v : Int32} (hp : pc + 1 = pc') (hd : decode c.code pc = .ok (.l2i, 1)) (hv : x.toInt32 = v) (k : own_Goes p e below T (mkF m pc' Ls (.int v :: st)) Q) : own_Goes p e below T (mkF m pc Ls (.long x :: st)) Q := by
  subst hp; subst hv; exact own_step (fun _ q => XT.l2i X.here hx rfl hd rfl q) k
theorem own_i2b (X : Stand p l e R s m args below meth c T locs cells slots) (hx : p.tables.exec = Jvm.exec) {x v : Int32} (hp : pc + 1 = pc') (hd : decode c.code pc = .ok (.i2b, 1)) (hv : x.toInt8.toInt32 = v) (k : own_Goes p e below T (mkF m pc' Ls (.int v :: st)) Q) : own_Goes p e below T (mkF m pc Ls (.int x :: st)) Q := by
  subst hp; subst hv; exact own_step (fun _ q => XT.i2b X.here hx rfl hd rfl q) k
theorem own_i2c (X : Stand p l e R s m args below meth c T locs cells slots) (hx : p.tables.exec = Jvm.exec) {x v : Int32} (hp : pc + 1 = pc') (hd : decode c.code pc = .ok (.i2c, 1)) (hv : x.toUInt32.toUInt16.toUInt32.toInt32 = v) (k : own_Goes p e below T (mkF m pc' Ls (.int v :: st)) Q) : own_Goes p e below T (mkF m pc Ls (.int x :: st)) Q := by
  subst hp; subst hv; exact own_step (fun _ q => XT.i2c X.here hx rfl hd rfl q) k
theorem own_i2s (X : Stand p l e R s m args below meth c T locs cells slots) (hx : p.tables.exec = Jvm.exec) {x v : Int32} (hp : pc + 1 = pc') (hd : decode c.code pc = .ok (.i2s, 1)) (hv : x.toInt16.toInt32 = v) (k : own_Goes p e below T (mkF m pc' Ls (.int v :: st)) Q) : own_Goes p e below T (mkF m pc Ls (.int x :: st)) Q := by
  subst hp; subst hv; exact own_step (fun _ q => XT.i2s X.here hx rfl hd rfl q) k
theorem own_lcmp (X : Stand p l e R s m args below meth c T locs cells slots) (hx : p.tables.exec = Jvm.exec) {x y : Int64} (hp : pc + 1 = pc') (hd : decode c.code pc = .ok (.lcmp, 1))  (k : own_Goes p e below T (mkF m pc' Ls (.int (XT.cmpL x y) :: st)) Q) : own_Goes p e below T (mkF m pc Ls (.long y :: .long x :: st)) Q := by
  subst hp; exact own_step (fun _ q => XT.lcmp X.here hx rfl hd rfl q) k
theorem own_iinc (X : Stand p l e R s m args below meth c T locs cells slots) (hx : p.tables.exec = Jvm.exec) {n : Nat} {i : Int} {x v : Int32} (hp : pc + 3 = pc') (hd : decode c.code pc = .ok (.iinc n i, 3)) (hl : Ls[n]? = some (.val (.int x))) (hv : x + Int32.ofInt i = v) (hl' : storeLocals Ls n (.int v) = some Ls') (k : own_Goes p e below T (mkF m pc' Ls' st) Q) : own_Goes p e below T (mkF m pc Ls st) Q := by
  subst hp; subst hv; exact own_step (fun _ q => XS.iinc X.here hx rfl hd hl hl' q) k
theorem own_dup (X : Stand p l e R s m args below meth c T locs cells slots) (hx : p.tables.exec = Jvm.exec) {x : Value} (hp : pc + 1 = pc') (hd : decode c.code pc = .ok (.dup, 1)) (hc : x.category = 1) (k : own_Goes p e below T (mkF m pc' Ls (x :: x :: st)) Q) : own_Goes p e below T (mkF m pc Ls (x :: st)) Q := by
  subst hp; exact own_step (fun _ q => XS.dup X.here hx rfl hd rfl hc q) k
theorem own_pop (X : Stand p l e R s m args below meth c T locs cells slots) (hx : p.tables.exec = Jvm.exec) {x : Value} (hp : pc + 1 = pc') (hd : decode c.code pc = .ok (.pop, 1)) (hc : x.category = 1) (k : own_Goes p e below T (mkF m pc' Ls st) Q) : own_Goes p e below T (mkF m pc Ls (x :: st)) Q := by
  subst hp; exact own_step (fun _ q => XT.pop X.here hx rfl hd rfl hc q) k
theorem own_goto (X : Stand p l e R s m args below meth c T locs cells slots) (hx : p.tables.exec = Jvm.exec) {o : Int} (hd : decode c.code pc = .ok (.goto o, 3)) (ho : 0 ≤ (pc : Int) + o) (hp : ((pc : Int) + o).toNat = pc') (k : own_Goes p e below T (mkF m pc' Ls st) Q) : own_Goes p e below T (mkF m pc Ls st) Q := own_step (fun _ q => XS.goto X.here hx rfl (pc0 := pc) (pc' := pc') rfl hd ho hp q) k
theorem own_ifT (X : Stand p l e R s m args below meth c T locs cells slots) (hx : p.tables.exec = Jvm.exec) {cd : ClassFile.Cond} {x : Int32} {o : Int} (hd : decode c.code pc = .ok (.ifCond cd o, 3)) (hc : ifCond.holds cd x = true) (ho : 0 ≤ (pc : Int) + o) (hp : ((pc : Int) + o).toNat = pc') (k : own_Goes p e below T (mkF m pc' Ls st) Q) : own_Goes p e below T (mkF m pc Ls (.int x :: st)) Q := own_step (fun _ q => XS.ifYes X.here hx rfl (pc0 := pc) (pc' := pc') rfl hd rfl hc ho hp q) k
theorem own_ifF (X : Stand p l e R s m args below meth c T locs cells slots) (hx : p.tables.exec = Jvm.exec) {cd : ClassFile.Cond} {x : Int32} {o : Int} (hp : pc + 3 = pc') (hd : decode c.code pc = .ok (.ifCond cd o, 3)) (hc : ifCond.holds cd x = false) (k : own_Goes p e below T (mkF m pc' Ls st) Q) : own_Goes p e below T (mkF m pc Ls (.int x :: st)) Q := by
  subst hp; exact own_step (fun _ q => XS.ifNo X.here hx rfl hd rfl hc q) k
theorem own_icmpT (X : Stand p l e R s m args below meth c T locs cells slots) (hx : p.tables.exec = Jvm.exec) {cd : ClassFile.Cond} {x y : Int32} {o : Int} (hd : decode c.code pc = .ok (.if_icmp cd o, 3)) (hc : if_icmp.holds cd x y = true) (ho : 0 ≤ (pc : Int) + o) (hp : ((pc : Int) + o).toNat = pc') (k : own_Goes p e below T (mkF m pc' Ls st) Q) : own_Goes p e below T (mkF m pc Ls (.int y :: .int x :: st)) Q := own_step (fun _ q => XS.icmpYes X.here hx rfl (pc0 := pc) (pc' := pc') rfl hd rfl hc ho hp q) k
theorem own_icmpF (X : Stand p l e R s m args below meth c T locs cells slots) (hx : p.tables.exec = Jvm.exec) {cd : ClassFile.Cond} {x y : Int32} {o : Int} (hp : pc + 3 = pc') (hd : decode c.code pc = .ok (.if_icmp cd o, 3)) (hc : if_icmp.holds cd x y = false) (k : own_Goes p e below T (mkF m pc' Ls st) Q) : own_Goes p e below T (mkF m pc Ls (.int y :: .int x :: st)) Q := by
  subst hp; exact own_step (fun _ q => XS.icmpNo X.here hx rfl hd rfl hc q) k
theorem own_acmpT (X : Stand p l e R s m args below meth c T locs cells slots) (hx : p.tables.exec = Jvm.exec) {cd : ClassFile.ACond} {x y : Value} {o : Int} (hd : decode c.code pc = .ok (.if_acmp cd o, 3)) (h1 : x.isRef = true) (h2 : y.isRef = true) (hc : XT.acmp cd x y = true) (ho : 0 ≤ (pc : Int) + o) (hp : ((pc : Int) + o).toNat = pc') (k : own_Goes p e below T (mkF m pc' Ls st) Q) : own_Goes p e below T (mkF m pc Ls (y :: x :: st)) Q := own_step (fun _ q => XT.acmpYes X.here hx rfl (pc0 := pc) (pc' := pc') rfl hd rfl h1 h2 hc ho hp q) k
theorem own_acmpF (X : Stand p l e R s m args below meth c T locs cells slots) (hx : p.tables.exec = Jvm.exec) {cd : ClassFile.ACond} {x y : Value} {o : Int} (hp : pc + 3 = pc') (hd : decode c.code pc = .ok (.if_acmp cd o, 3)) (h1 : x.isRef = true) (h2 : y.isRef = true) (hc : XT.acmp cd x y = false) (k : own_Goes p e below T (mkF m pc' Ls st) Q) : own_Goes p e below T (mkF m pc Ls (y :: x :: st)) Q := by
  subst hp; exact own_step (fun _ q => XT.acmpNo X.here hx rfl hd rfl h1 h2 hc q) k
theorem own_ldc (X : Stand p l e R s m args below meth c T locs cells slots) (hx : p.tables.exec = Jvm.exec) (hZ : Z.Warmed39 s.vm) {own : String} {index : Nat} {v : Int32} (hown : s.vm.findClass own = some m.cls) (w : (Jvm.Cond.constant own index v).before a0 Z = true) (hp : pc + 2 = pc') (hd : decode c.code pc = .ok (.ldc index, 2)) (k : own_Goes p e below T (mkF m pc' Ls (.int v :: st)) Q) : own_Goes p e below T (mkF m pc Ls st) Q := by
  subst hp; exact own_step (fun _ q => X.ldcI hx hown (mvT hZ w) rfl hd q) k
theorem own_ldc2_w (X : Stand p l e R s m args below meth c T locs cells slots) (hx : p.tables.exec = Jvm.exec) (hZ : Z.Warmed39 s.vm) {own : String} {index : Nat} {v : Int64} (hown : s.vm.findClass own = some m.cls) (w : (Jvm.Cond.constantLong own index v).before a0 Z = true) (hp : pc + 3 = pc') (hd : decode c.code pc = .ok (.ldc2_w index, 3)) (k : own_Goes p e below T (mkF m pc' Ls (.long v :: st)) Q) : own_Goes p e below T (mkF m pc Ls st) Q := by
  subst hp; exact own_step (fun _ q => X.ldc2J hx hown (mvT hZ w) rfl hd q) k
theorem own_retW (X : Stand p l e R s m args below meth c T locs cells slots) (hx : p.tables.exec = Jvm.exec) (hlk : meth.locks = false) {w : Option Value} (hv : meth.sig.returnType = none → w = none) {F : JFrame} (run : ∀ fs, (∀ (f : JFrame) (acts : List Action), f.method = m → f.locked = none → f.entered = [] → (doReturn e (T.setTop f) acts w).1 = T.setFrames fs) → Steps p.tables e below (T.setTop F) (T.setFrames fs)) {K : Option Value → Heap → List Loc → Prop} {rc rs : Nat} (hc : cells ≤ rc) (hs : slots ≤ rs) (hQ : K w T.heap locs) : own_Goes p e below T F (own_Ret s K rc rs) := by
  obtain ⟨fs, hr, hrun, hended, hW, hsame⟩ := X.leave (v := w) hv hlk
  exact ⟨_, _, run fs hr, hrun, hended, w, locs, rfl, hQ, ⟨_, rfl⟩, hW, hsame.mono hc hs⟩
theorem own_iret (X : Stand p l e R s m args below meth c T locs cells slots) (hx : p.tables.exec = Jvm.exec) (hlk : meth.locks = false) {z : Int32} (hret : meth.sig.returnType = some .int) (hd : decode c.code pc = .ok (.ireturn, 1)) {K : Option Value → Heap → List Loc → Prop} {rc rs : Nat} (hc : cells ≤ rc) (hs : slots ≤ rs) (hQ : K (some (.int z)) T.heap locs) : own_Goes p e below T (mkF m pc Ls (.int z :: st)) (own_Ret s K rc rs) :=
  own_retW X hx hlk (fun q => by rw [hret] at q; cases q) (fun fs hr => retOut X hx hret rfl (Or.inl ⟨rfl, Or.inl rfl, z, rfl⟩) hd hr) hc hs hQ
theorem own_zret (X : Stand p l e R s m args below meth c T locs cells slots) (hx : p.tables.exec = Jvm.exec) (hlk : meth.locks = false) {z : Int32} {t : FieldType} (hret : meth.sig.returnType = some t) (ht : t = .boolean ∨ t = .byte ∨ t = .char ∨ t = .short) (hd : decode c.code pc = .ok (.ireturn, 1)) {K : Option Value → Heap → List Loc → Prop} {rc rs : Nat} (hc : cells ≤ rc) (hs : slots ≤ rs) (hQ : K (some (.int (nar t z))) T.heap locs) : own_Goes p e below T (mkF m pc Ls (.int z :: st)) (own_Ret s K rc rs) :=
  own_retW X hx hlk (fun q => by rw [hret] at q; cases q) (fun fs hr => retN X hx hret ht hd hr) hc hs hQ
theorem own_lret (X : Stand p l e R s m args below meth c T locs cells slots) (hx : p.tables.exec = Jvm.exec) (hlk : meth.locks = false) {z : Int64} (hret : meth.sig.returnType = some .long) (hd : decode c.code pc = .ok (.lreturn, 1)) {K : Option Value → Heap → List Loc → Prop} {rc rs : Nat} (hc : cells ≤ rc) (hs : slots ≤ rs) (hQ : K (some (.long z)) T.heap locs) : own_Goes p e below T (mkF m pc Ls (.long z :: st)) (own_Ret s K rc rs) :=
  own_retW X hx hlk (fun q => by rw [hret] at q; cases q) (fun fs hr => retOut X hx hret rfl (Or.inr (Or.inl ⟨rfl, rfl, z, rfl⟩)) hd hr) hc hs hQ
theorem own_aret (X : Stand p l e R s m args below meth c T locs cells slots) (hx : p.tables.exec = Jvm.exec) (hlk : meth.locks = false) {z : Value} {t : FieldType} (hret : meth.sig.returnType = some t) (ht : t.isReference = true) (hz : z.isRef = true) (hd : decode c.code pc = .ok (.areturn, 1)) {K : Option Value → Heap → List Loc → Prop} {rc rs : Nat} (hc : cells ≤ rc) (hs : slots ≤ rs) (hQ : K (some z) T.heap locs) : own_Goes p e below T (mkF m pc Ls (z :: st)) (own_Ret s K rc rs) :=
  own_retW X hx hlk (fun q => by rw [hret] at q; cases q) (fun fs hr => retOut X hx hret (by cases t <;> simp [FieldType.isReference] at ht <;> cases z <;> simp [Value.isRef] at hz <;> rfl) (Or.inr (Or.inr (Or.inr (Or.inr ⟨rfl, ht, hz⟩)))) hd hr) hc hs hQ
theorem own_ret (X : Stand p l e R s m args below meth c T locs cells slots) (hx : p.tables.exec = Jvm.exec) (hlk : meth.locks = false) (hret : meth.sig.returnType = none) (hd : decode c.code pc = .ok (.return_, 1)) {K : Option Value → Heap → List Loc → Prop} {rc rs : Nat} (hc : cells ≤ rc) (hs : slots ≤ rs) (hQ : K none T.heap locs) : own_Goes p e below T (mkF m pc Ls []) (own_Ret s K rc rs) :=
  own_retW X hx hlk (fun _ => rfl) (fun fs hr => X.returnOut hx hret hd hr) hc hs hQ
theorem own_dload (X : Stand p l e R s m args below meth c T locs cells slots) (hx : p.tables.exec = Jvm.exec) {k : Nat} {v : UInt64} (hp : pc + 2 = pc') (hd : decode c.code pc = .ok (.dload k, 2)) (hl : Ls[k]? = some (.val (.double v))) (k : own_Goes p e below T (mkF m pc' Ls (.double v :: st)) Q) : own_Goes p e below T (mkF m pc Ls st) Q := by
  subst hp; exact own_step (fun _ q => XS.dload X.here hx rfl hd hl q) k
theorem own_dloadN (X : Stand p l e R s m args below meth c T locs cells slots) (hx : p.tables.exec = Jvm.exec) {k : Fin 4} {v : UInt64} (hp : pc + 1 = pc') (hd : decode c.code pc = .ok (.dload_n k, 1)) (hl : Ls[k.val]? = some (.val (.double v))) (k : own_Goes p e below T (mkF m pc' Ls (.double v :: st)) Q) : own_Goes p e below T (mkF m pc Ls st) Q := by
  subst hp; exact own_step (fun _ q => XS.dloadN X.here hx rfl hd hl q) k
theorem own_dstore (X : Stand p l e R s m args below meth c T locs cells slots) (hx : p.tables.exec = Jvm.exec) {k : Nat} {v : UInt64} (hp : pc + 2 = pc') (hd : decode c.code pc = .ok (.dstore k, 2)) (hl : storeLocals Ls k (.double v) = some Ls') (k : own_Goes p e below T (mkF m pc' Ls' st) Q) : own_Goes p e below T (mkF m pc Ls (.double v :: st)) Q := by
  subst hp; exact own_step (fun _ q => XS.dstore X.here hx rfl hd rfl hl q) k
theorem own_dstoreN (X : Stand p l e R s m args below meth c T locs cells slots) (hx : p.tables.exec = Jvm.exec) {k : Fin 4} {v : UInt64} (hp : pc + 1 = pc') (hd : decode c.code pc = .ok (.dstore_n k, 1)) (hl : storeLocals Ls k.val (.double v) = some Ls') (k : own_Goes p e below T (mkF m pc' Ls' st) Q) : own_Goes p e below T (mkF m pc Ls (.double v :: st)) Q := by
  subst hp; exact own_step (fun _ q => XS.dstoreN X.here hx rfl hd rfl hl q) k
theorem own_dconst0 (X : Stand p l e R s m args below meth c T locs cells slots) (hx : p.tables.exec = Jvm.exec) {v : UInt64} (hp : pc + 1 = pc') (hd : decode c.code pc = .ok (.dconst 0, 1)) (hv : FP.dconst0 = v) (k : own_Goes p e below T (mkF m pc' Ls (.double v :: st)) Q) : own_Goes p e below T (mkF m pc Ls st) Q := by
  subst hp; exact own_step (fun _ q => XS.dconst0 X.here hx rfl hd hv q) k
theorem own_dconst1 (X : Stand p l e R s m args below meth c T locs cells slots) (hx : p.tables.exec = Jvm.exec) {v : UInt64} (hp : pc + 1 = pc') (hd : decode c.code pc = .ok (.dconst 1, 1)) (hv : FP.dconst1 = v) (k : own_Goes p e below T (mkF m pc' Ls (.double v :: st)) Q) : own_Goes p e below T (mkF m pc Ls st) Q := by
  subst hp; exact own_step (fun _ q => XS.dconst1 X.here hx rfl hd hv q) k
theorem own_i2d (X : Stand p l e R s m args below meth c T locs cells slots) (hx : p.tables.exec = Jvm.exec) {x : Int32} {v : UInt64} (hp : pc + 1 = pc') (hd : decode c.code pc = .ok (.i2d, 1)) (hv : FP.i2d x = v) (k : own_Goes p e below T (mkF m pc' Ls (.double v :: st)) Q) : own_Goes p e below T (mkF m pc Ls (.int x :: st)) Q := by
  subst hp; exact own_step (fun _ q => XS.i2dS X.here hx rfl hd rfl hv q) k
theorem own_l2d (X : Stand p l e R s m args below meth c T locs cells slots) (hx : p.tables.exec = Jvm.exec) {x : Int64} {v : UInt64} (hp : pc + 1 = pc') (hd : decode c.code pc = .ok (.l2d, 1)) (hv : FP.l2d x = v) (k : own_Goes p e below T (mkF m pc' Ls (.double v :: st)) Q) : own_Goes p e below T (mkF m pc Ls (.long x :: st)) Q := by
  subst hp; exact own_step (fun _ q => XS.l2dS X.here hx rfl hd rfl hv q) k
theorem own_dneg (X : Stand p l e R s m args below meth c T locs cells slots) (hx : p.tables.exec = Jvm.exec) {x v : UInt64} (hp : pc + 1 = pc') (hd : decode c.code pc = .ok (.dneg, 1)) (hv : FP.dneg x = v) (k : own_Goes p e below T (mkF m pc' Ls (.double v :: st)) Q) : own_Goes p e below T (mkF m pc Ls (.double x :: st)) Q := by
  subst hp; exact own_step (fun _ q => XS.dnegS X.here hx rfl hd rfl hv q) k
theorem own_dcmp (X : Stand p l e R s m args below meth c T locs cells slots) (hx : p.tables.exec = Jvm.exec) {o : CmpOp} {x y : UInt64} {v : Int32} (hp : pc + 1 = pc') (hd : decode c.code pc = .ok (.dcmp o, 1)) (hv : cmpValue (FP.dcmp x y) o = v) (k : own_Goes p e below T (mkF m pc' Ls (.int v :: st)) Q) : own_Goes p e below T (mkF m pc Ls (.double y :: .double x :: st)) Q := by
  subst hp; exact own_step (fun _ q => XS.dcmpS X.here hx rfl hd rfl hv q) k
theorem own_dadd (X : Stand p l e R s m args below meth c T locs cells slots) (hx : p.tables.exec = Jvm.exec) {x y v : UInt64} (hp : pc + 1 = pc') (hd : decode c.code pc = .ok (.dadd, 1)) (hn : Jvm.Free.Fl.NoNaN64 (FP.dadd x y)) (hv : FP.dadd x y = v) (k : own_Goes p e below T (mkF m pc' Ls (.double v :: st)) Q) : own_Goes p e below T (mkF m pc Ls (.double y :: .double x :: st)) Q := by
  subst hp; exact own_step (fun _ q => XS.daddS X.here hx rfl hd rfl hn hv q) k
theorem own_dsub (X : Stand p l e R s m args below meth c T locs cells slots) (hx : p.tables.exec = Jvm.exec) {x y v : UInt64} (hp : pc + 1 = pc') (hd : decode c.code pc = .ok (.dsub, 1)) (hn : Jvm.Free.Fl.NoNaN64 (FP.dsub x y)) (hv : FP.dsub x y = v) (k : own_Goes p e below T (mkF m pc' Ls (.double v :: st)) Q) : own_Goes p e below T (mkF m pc Ls (.double y :: .double x :: st)) Q := by
  subst hp; exact own_step (fun _ q => XS.dsubS X.here hx rfl hd rfl hn hv q) k
theorem own_dmul (X : Stand p l e R s m args below meth c T locs cells slots) (hx : p.tables.exec = Jvm.exec) {x y v : UInt64} (hp : pc + 1 = pc') (hd : decode c.code pc = .ok (.dmul, 1)) (hn : Jvm.Free.Fl.NoNaN64 (FP.dmul x y)) (hv : FP.dmul x y = v) (k : own_Goes p e below T (mkF m pc' Ls (.double v :: st)) Q) : own_Goes p e below T (mkF m pc Ls (.double y :: .double x :: st)) Q := by
  subst hp; exact own_step (fun _ q => XS.dmulS X.here hx rfl hd rfl hn hv q) k
theorem own_ddiv (X : Stand p l e R s m args below meth c T locs cells slots) (hx : p.tables.exec = Jvm.exec) {x y v : UInt64} (hp : pc + 1 = pc') (hd : decode c.code pc = .ok (.ddiv, 1)) (hn : Jvm.Free.Fl.NoNaN64 (FP.ddiv x y)) (hv : FP.ddiv x y = v) (k : own_Goes p e below T (mkF m pc' Ls (.double v :: st)) Q) : own_Goes p e below T (mkF m pc Ls (.double y :: .double x :: st)) Q := by
  subst hp; exact own_step (fun _ q => XS.ddivS X.here hx rfl hd rfl hn hv q) k
theorem own_ldcD (X : Stand p l e R s m args below meth c T locs cells slots) (hx : p.tables.exec = Jvm.exec) (hZ : Z.Warmed39 s.vm) {own : String} {index : Nat} {v : UInt64} (hown : s.vm.findClass own = some m.cls) (w : (Jvm.Cond.constantDouble own index v).before a0 Z = true) (hp : pc + 3 = pc') (hd : decode c.code pc = .ok (.ldc2_w index, 3)) (k : own_Goes p e below T (mkF m pc' Ls (.double v :: st)) Q) : own_Goes p e below T (mkF m pc Ls st) Q := by
  subst hp; exact own_step (fun t q => X.ldc2DoubleC hx hown (mvT hZ w) (g := mkF m pc Ls st) rfl hd t q) k
theorem own_dret (X : Stand p l e R s m args below meth c T locs cells slots) (hx : p.tables.exec = Jvm.exec) (hlk : meth.locks = false) {z : UInt64} (hret : meth.sig.returnType = some .double) (hd : decode c.code pc = .ok (.dreturn, 1)) {K : Option Value → Heap → List Loc → Prop} {rc rs : Nat} (hc : cells ≤ rc) (hs : slots ≤ rs) (hQ : K (some (.double z)) T.heap locs) : own_Goes p e below T (mkF m pc Ls (.double z :: st)) (own_Ret s K rc rs) :=
  own_retW X hx hlk (fun q => by rw [hret] at q; cases q) (fun fs hr => retOut X hx hret rfl (Or.inr (Or.inr (Or.inl ⟨rfl, rfl, z, rfl⟩))) hd hr) hc hs hQ
theorem own_getF (X : Stand p l e R s m args below meth c T locs cells slots) (hx : p.tables.exec = Jvm.exec) (hZ : Z.Warmed39 s.vm) {own R0 O n d host : String} {index : Nat} (hown : s.vm.findClass own = some m.cls) (w : (Jvm.Cond.fieldLink own index R0 n d).before a0 Z = true ∨ (Jvm.Cond.fieldLinkNest own index R0 n d host).before a0 Z = true) (via : Via Z R0 O n d) (eT : T.heap = h) {a : Addr} {v : Value} (F : Fld Z h a O n d v) (hp : pc + 3 = pc') (hd : decode c.code pc = .ok (.getfield index, 3))
    (k : ∀ T', Stand p l e R s m args below meth c T' locs cells slots → T'.heap = h → own_Goes p e below T' (mkF m pc' Ls (v :: st)) Q) : own_Goes p e below T (mkF m pc Ls (.ref a :: st)) Q := by
  subst hp
  obtain ⟨T', X', e', stp⟩ := getF X hx hZ hown w via eT F (g := mkF m pc Ls (.ref a :: st)) rfl rfl hd
  exact own_step stp (k T' X' e')
theorem own_putF (X : Stand p l e R s m args below meth c T locs cells slots) (hx : p.tables.exec = Jvm.exec) (hZ : Z.Warmed39 s.vm) {own R0 O n d host C : String} {index kk : Nat} {ty : FieldType} (hown : s.vm.findClass own = some m.cls) (w : (Jvm.Cond.fieldLink own index R0 n d).before a0 Z = true ∨ (Jvm.Cond.fieldLinkNest own index R0 n d host).before a0 Z = true) (via : Via Z R0 O n d) (eT : T.heap = h) {a : Addr} {v old : Value} (F : Fld Z h a O n d old) (E : Exa Z h a C)
    (L : (Jvm.Cond.lays C O n d).before a0 Z = true ∨ ((Jvm.Cond.laysFinal C O n d).before a0 Z = true ∧ own = O ∧ meth.name = "<init>")) (wi : (Jvm.Cond.instantiable C kk).before a0 Z = true) (hty : parseFieldDescriptor d = some ty) (hn : narrow ty v = v) (hf : fits ty v = true) (hp : pc + 3 = pc') (hd : decode c.code pc = .ok (.putfield index, 3))
    (k : ∀ T' h', Stand p l e R s m args below meth c T' (locs ++ [⟨a, Jvm.RoadKit.slotOf Z O n d⟩]) cells slots → T'.heap = h' → Wr h h' a (Jvm.RoadKit.slotOf Z O n d) v → own_Goes p e below T' (mkF m pc' Ls st) Q) : own_Goes p e below T (mkF m pc Ls (v :: .ref a :: st)) Q := by
  subst hp
  obtain ⟨T', h', X', e', W', stp⟩ := putF X hx hZ hown w via eT F E L wi hty hn hf (g := mkF m pc Ls (v :: .ref a :: st)) rfl rfl hd
  exact own_step stp (k T' h' X' e' W')
theorem own_getS (X : Stand p l e R s m args below meth c T locs cells slots) (hx : p.tables.exec = Jvm.exec) (hZ : Z.Warmed39 s.vm) {own R0 O n d : String} {index : Nat} (hown : s.vm.findClass own = some m.cls) (w : (Jvm.Cond.fieldLink own index R0 n d).before a0 Z = true) (via : Via Z R0 O n d) (eT : T.heap = h) {v : Value} (F : Sta Z h O n d v) (hp : pc + 3 = pc') (hd : decode c.code pc = .ok (.getstatic index, 3))
    (k : ∀ T', Stand p l e R s m args below meth c T' locs cells slots → T'.heap = h → own_Goes p e below T' (mkF m pc' Ls (v :: st)) Q) : own_Goes p e below T (mkF m pc Ls st) Q := by
  subst hp
  obtain ⟨T', X', e', stp⟩ := getS X hx hZ (host := "") hown w via eT F (g := mkF m pc Ls st) rfl hd
  exact own_step stp (k T' X' e')
theorem own_new (X : Stand p l e R s m args below meth c T locs cells slots) (hx : p.tables.exec = Jvm.exec) (hZ : Z.Warmed39 s.vm) {own C : String} {index n : Nat} (hown : s.vm.findClass own = some m.cls) (w : (Jvm.Cond.classLink own index C).before a0 Z = true) (wi : (Jvm.Cond.instantiable C n).before a0 Z = true) (wz : (Jvm.Cond.initialized C).before a0 Z = true) (eT : T.heap = h) (hp : pc + 3 = pc') (hd : decode c.code pc = .ok (.new index, 3)) (hc : cells + 1 ≤ R.cells) (hl : slots + n ≤ R.slots)
    (k : ∀ T' h', Stand p l e R s m args below meth c T' locs (cells + 1) (slots + n) → T'.heap = h' → Ext h h' → Exa Z h' h.size C → (∀ {O nm d : String} {ty : FieldType}, Laid Z a0 C O nm d → parseFieldDescriptor d = some ty → Fld Z h' h.size O nm d (defaultValue ty)) → own_Goes p e below T' (mkF m pc' Ls (.ref h.size :: st)) Q) : own_Goes p e below T (mkF m pc Ls st) Q := by
  subst hp
  obtain ⟨T', h', X', e', E', A', D', -, stp⟩ := newO X hx hZ hown w wi wz eT (g := mkF m pc Ls st) rfl hd hc hl
  exact own_step stp (k T' h' X' e' E' A' D')
theorem own_initO (X : Stand p l e R s m args below meth c T locs cells slots) (hx : p.tables.exec = Jvm.exec) (hZ : Z.Warmed39 s.vm) {own : String} {idx : Nat} (hown : s.vm.findClass own = some m.cls) (w1 : (Jvm.Cond.methodLink own idx Lib.objectInit).before a0 Z = true) (w2 : (Jvm.Cond.instanceMethod Lib.objectInit).before a0 Z = true) (w3 : (Jvm.Cond.code Lib.objectInit ⟨#[0xb1]⟩ 1 none).before a0 Z = true) (eT : T.heap = h) (hsize : Ls.size = c.maxLocals) {a : Addr} (hp : pc + 3 = pc') (hd : decode c.code pc = .ok (.invokespecial idx, 3)) (hf : 1 ≤ R.frames) {W : Nat} (hW : (st.map fun v => v.category).sum ≤ W) (hl : W + 12 ≤ R.locals)
    (k : ∀ T', Stand p l e R s m args below meth c T' locs cells slots → T'.heap = h → own_Goes p e below T' (mkF m pc' Ls st) Q) : own_Goes p e below T (mkF m pc Ls (.ref a :: st)) Q := by
  subst hp
  obtain ⟨T', X', e', stp⟩ := initO X hx hZ hown w1 w2 w3 eT (g := mkF m pc Ls (.ref a :: st)) rfl hsize rfl hd hf (W := W) (by show 2 * 0 + _ ≤ _; omega) hl
  exact own_step stp (k T' X' e')
theorem own_callS (X : Stand p l e R s m args below meth c T locs cells slots) (hx : p.tables.exec = Jvm.exec) (hZ : Z.Warmed39 s.vm) {own : String} {index : Nat} {y : MethodName} {bytes : ByteArray} {maxL : Nat} {rt : Option FieldType} (hown : s.vm.findClass own = some m.cls) (w1 : (Jvm.Cond.methodLink own index y).before a0 Z = true) (w2 : (Jvm.Cond.static y).before a0 Z = true) (w3 : (Jvm.Cond.initialized y.cls).before a0 Z = true) (w4 : (Jvm.Cond.code y bytes maxL rt).before a0 Z = true) (hy : y.cls ≠ "java/lang/invoke/MethodHandle" ∧ y.cls ≠ "java/lang/invoke/VarHandle") {rm : Room} {as' : Array Value} {K : Option Value → Heap → List Loc → Prop} {W : Nat} (hM : MetFree l y (head1 [Jvm.Cond.code y bytes maxL rt] rm) (fun a U => a = as' ∧ Z.Warmed39 U.vm ∧ U.heap = h) (fun _ _ _ _ _ => True) (fun _ U o U' => ∃ v L, o = .returned v ∧ K v U'.heap L ∧ FrameEnd U o U' L rm.cells rm.slots)) (hf : rm.frames + 1 ≤ R.frames) (hl : W + (maxL + 11) + rm.locals ≤ R.locals) (hc : cells + rm.cells ≤ R.cells) (hs : slots + rm.slots ≤ R.slots) (eT : T.heap = h) (hsize : Ls.size = c.maxLocals) {argsL rest : List Value} (has : argsL.toArray = as') (hlen : ∀ sig, parseMethodDescriptor y.desc = some sig → argsL.length = sig.parameters.length) (hst : st = argsL.reverse ++ rest) (hW : (rest.map fun v => v.category).sum ≤ W) (hp : pc + 3 = pc') (hd : decode c.code pc = .ok (.invokestatic index, 3))
    (k : ∀ v T' L, Stand p l e R s m args below meth c T' (locs ++ L) (cells + rm.cells) (slots + rm.slots) → K v T'.heap L → own_Goes p e below T' (mkF m pc' Ls (v.toList ++ rest)) Q) : own_Goes p e below T (mkF m pc Ls st) Q := by
  subst hp
  obtain ⟨v, _, ⟨T', L', k', n'⟩, -, X', ⟨Lc, hQ, l1, y1, z1⟩, stp⟩ := Jvm.LawKit.callS X hx (y := y) hown (mvT hZ w1) (mvT hZ w2) (mvT hZ w3) (mvT hZ w4) hy (backOf (W := W) hM hZ w4 w3 hf hl) (g := mkF m pc Ls st) rfl hsize (argsL := argsL) (rest := rest) hlen hst (by show 2 * 0 + _ ≤ _; omega) hd (fun _ _ => ⟨has, eT, hc, hs⟩)
  dsimp only [Pt.U, Pt.locs, Pt.cells, Pt.slots] at X' l1 y1 z1 stp hQ
  subst l1 y1 z1
  exact own_step stp (k v T' Lc X' hQ)
theorem own_callC (X : Stand p l e R s m args below meth c T locs cells slots) (hx : p.tables.exec = Jvm.exec) (hZ : Z.Warmed39 s.vm) {own : String} {index : Nat} {y : MethodName} {bytes : ByteArray} {maxL : Nat} {a : Addr} (hy1 : y.name = "<init>") (hown : s.vm.findClass own = some m.cls) (w1 : (Jvm.Cond.methodLink own index y).before a0 Z = true) (w2 : (Jvm.Cond.instanceMethod y).before a0 Z = true) (w3 : (Jvm.Cond.initialized y.cls).before a0 Z = true) (w4 : (Jvm.Cond.code y bytes maxL none).before a0 Z = true) (hy : y.cls ≠ "java/lang/invoke/MethodHandle" ∧ y.cls ≠ "java/lang/invoke/VarHandle") {rm : Room} {as' : Array Value} {K : Option Value → Heap → List Loc → Prop} {W : Nat} (hM : MetFree l y (head1 [Jvm.Cond.code y bytes maxL none] rm) (fun a U => a = as' ∧ Z.Warmed39 U.vm ∧ U.heap = h) (fun _ _ _ _ _ => True) (fun _ U o U' => ∃ v L, o = .returned v ∧ K v U'.heap L ∧ FrameEnd U o U' L rm.cells rm.slots)) (hf : rm.frames + 1 ≤ R.frames) (hl : W + (maxL + 11) + rm.locals ≤ R.locals) (hc : cells + rm.cells ≤ R.cells) (hs : slots + rm.slots ≤ R.slots) (eT : T.heap = h) (hsize : Ls.size = c.maxLocals) {argsL rest : List Value} (has : (Value.ref a :: argsL).toArray = as') (hlen : ∀ sig, parseMethodDescriptor y.desc = some sig → argsL.length = sig.parameters.length) (hst : st = argsL.reverse ++ .ref a :: rest) (hW : (rest.map fun v => v.category).sum ≤ W) (hp : pc + 3 = pc') (hd : decode c.code pc = .ok (.invokespecial index, 3))
    (k : ∀ v T' L, Stand p l e R s m args below meth c T' (locs ++ L) (cells + rm.cells) (slots + rm.slots) → K v T'.heap L → own_Goes p e below T' (mkF m pc' Ls (v.toList ++ rest)) Q) : own_Goes p e below T (mkF m pc Ls st) Q := by
  subst hp
  obtain ⟨v, _, ⟨T', L', k', n'⟩, -, X', ⟨Lc, hQ, l1, y1, z1⟩, stp⟩ := X.specialBack hx (y := y) hy1 hown (mvT hZ w1) (mvT hZ w2) (mvT hZ w4) hy (backOf (W := W) hM hZ w4 w3 hf hl) (g := mkF m pc Ls st) rfl hsize (Steps.refl _) (a := a) (argsL := argsL) (rest := rest) hlen hst (by show 2 * 0 + _ ≤ _; omega) hd (fun _ _ => ⟨has, eT, hc, hs⟩)
  dsimp only [Pt.U, Pt.locs, Pt.cells, Pt.slots] at X' l1 y1 z1 stp hQ
  subst l1 y1 z1
  exact own_step (fun _ q => stp.trans q) (k v T' Lc X' hQ)
theorem own_callV (X : Stand p l e R s m args below meth c T locs cells slots) (hx : p.tables.exec = Jvm.exec) (hZ : Z.Warmed39 s.vm) {own C : String} {index : Nat} {y : MethodName} {bytes : ByteArray} {maxL : Nat} {rt : Option FieldType} {a : Addr} (hown : s.vm.findClass own = some m.cls) (w1 : (Jvm.Cond.methodLink own index y).before a0 Z = true) (w2 : (Jvm.Cond.declares y).before a0 Z = true) (w5 : (Jvm.Cond.selects C y y).before a0 Z = true) (w6 : (Jvm.Cond.instanceMethod y).before a0 Z = true) (w3 : (Jvm.Cond.initialized y.cls).before a0 Z = true) (w4 : (Jvm.Cond.code y bytes maxL rt).before a0 Z = true) (E : Exa Z h a C) (hy : y.cls ≠ "java/lang/invoke/MethodHandle" ∧ y.cls ≠ "java/lang/invoke/VarHandle") {rm : Room} {as' : Array Value} {K : Option Value → Heap → List Loc → Prop} {W : Nat} (hM : MetFree l y (head1 [Jvm.Cond.code y bytes maxL rt] rm) (fun a U => a = as' ∧ Z.Warmed39 U.vm ∧ U.heap = h) (fun _ _ _ _ _ => True) (fun _ U o U' => ∃ v L, o = .returned v ∧ K v U'.heap L ∧ FrameEnd U o U' L rm.cells rm.slots)) (hf : rm.frames + 1 ≤ R.frames) (hl : W + (maxL + 11) + rm.locals ≤ R.locals) (hc : cells + rm.cells ≤ R.cells) (hs : slots + rm.slots ≤ R.slots) (eT : T.heap = h) (hsize : Ls.size = c.maxLocals) {argsL rest : List Value} (has : (Value.ref a :: argsL).toArray = as') (hlen : ∀ sig, parseMethodDescriptor y.desc = some sig → argsL.length = sig.parameters.length) (hst : st = argsL.reverse ++ .ref a :: rest) (hW : (rest.map fun v => v.category).sum ≤ W) (hp : pc + 3 = pc') (hd : decode c.code pc = .ok (.invokevirtual index, 3))
    (k : ∀ v T' L, Stand p l e R s m args below meth c T' (locs ++ L) (cells + rm.cells) (slots + rm.slots) → K v T'.heap L → own_Goes p e below T' (mkF m pc' Ls (v.toList ++ rest)) Q) : own_Goes p e below T (mkF m pc Ls st) Q := by
  subst hp
  obtain ⟨cq, kq, qa, qb, qc⟩ := isOf hZ eT E
  obtain ⟨v, _, ⟨T', L', k', n'⟩, -, X', ⟨Lc, hQ, l1, y1, z1⟩, stp⟩ := X.virtualBack hx (y := y) (z := y) hown (mvT hZ w1) (mvT hZ w2) (notFace_of_selects (args := #[]) (mvT hZ w5)) (mvT hZ w5) (mvT hZ w6) hy (backOf (W := W) hM hZ w4 w3 hf hl) qa qc (g := mkF m pc Ls st) rfl hsize (Steps.refl _) (argsL := argsL) (rest := rest) hlen hst (by show 2 * 0 + _ ≤ _; omega) hd (fun _ _ => ⟨has, eT, hc, hs⟩)
  dsimp only [Pt.U, Pt.locs, Pt.cells, Pt.slots] at X' l1 y1 z1 stp hQ
  subst l1 y1 z1
  exact own_step (fun _ q => stp.trans q) (k v T' Lc X' hQ)
theorem own_callP (X : Stand p l e R s m args below meth c T locs cells slots) (hx : p.tables.exec = Jvm.exec) (hZ : Z.Warmed39 s.vm) {own C : String} {index : Nat} {y z z' : MethodName} {bytes : ByteArray} {maxL : Nat} {rt : Option FieldType} {a : Addr} {D : String} (hown : s.vm.findClass own = some m.cls) (w1 : (Jvm.Cond.methodLink own index y).before a0 Z = true) (w6 : (Jvm.Cond.instanceMethod y).before a0 Z = true) (w7 : (Jvm.Cond.privateMethod y).before a0 Z = true) (w5 : (Jvm.Cond.selects C z z').before a0 Z = true) (hcls : z'.cls = y.cls) (w3 : (Jvm.Cond.initialized y.cls).before a0 Z = true) (w4 : (Jvm.Cond.code y bytes maxL rt).before a0 Z = true) (E : Exa Z h a D) (hy : y.cls ≠ "java/lang/invoke/MethodHandle" ∧ y.cls ≠ "java/lang/invoke/VarHandle") {rm : Room} {as' : Array Value} {K : Option Value → Heap → List Loc → Prop} {W : Nat} (hM : MetFree l y (head1 [Jvm.Cond.code y bytes maxL rt] rm) (fun a U => a = as' ∧ Z.Warmed39 U.vm ∧ U.heap = h) (fun _ _ _ _ _ => True) (fun _ U o U' => ∃ v L, o = .returned v ∧ K v U'.heap L ∧ FrameEnd U o U' L rm.cells rm.slots)) (hf : rm.frames + 1 ≤ R.frames) (hl : W + (maxL + 11) + rm.locals ≤ R.locals) (hc : cells + rm.cells ≤ R.cells) (hs : slots + rm.slots ≤ R.slots) (eT : T.heap = h) (hsize : Ls.size = c.maxLocals) {argsL rest : List Value} (has : (Value.ref a :: argsL).toArray = as') (hlen : ∀ sig, parseMethodDescriptor y.desc = some sig → argsL.length = sig.parameters.length) (hst : st = argsL.reverse ++ .ref a :: rest) (hW : (rest.map fun v => v.category).sum ≤ W) (hp : pc + 3 = pc') (hd : decode c.code pc = .ok (.invokevirtual index, 3))
    (k : ∀ v T' L, Stand p l e R s m args below meth c T' (locs ++ L) (cells + rm.cells) (slots + rm.slots) → K v T'.heap L → own_Goes p e below T' (mkF m pc' Ls (v.toList ++ rest)) Q) : own_Goes p e below T (mkF m pc Ls st) Q := by
  subst hp
  have hs5 : (Jvm.Cond.selects C z z').before args s = true := mvT hZ w5
  obtain ⟨c2, r2, m2, -, -, q3, -, kP, hkP, hkPi⟩ := Cond.selects_spec hs5
  have hc2 : s.vm.findClass y.cls = some m2.cls := hcls ▸ findClass_of_methodNamed q3
  have hpriv := Cond.privateMethod_at (mvP hZ w7 (args := #[]))
  have hinst : (Jvm.Cond.instanceMethod y).before args s = true := mvT hZ w6
  have hsel := selects_self_of_private (args := args) hc2 hkP hkPi hpriv hinst hy
  obtain ⟨cq, qc, qc'⟩ := E.cell
  obtain ⟨v, _, ⟨T', L', k', n'⟩, -, X', ⟨Lc, hQ, l1, y1, z1⟩, stp⟩ := X.privateBack hx (y := y) hown (mvT hZ w1) hinst hsel hpriv (mvT hZ w4) hy (backOf (W := W) hM hZ w4 w3 hf hl) (g := mkF m pc Ls st) rfl hsize (Steps.refl _) (a := a) (cell := cq) (by rw [eT]; exact qc) qc' (argsL := argsL) (rest := rest) hlen hst (by show 2 * 0 + _ ≤ _; omega) hd (fun _ _ => ⟨has, eT, hc, hs⟩)
  dsimp only [Pt.U, Pt.locs, Pt.cells, Pt.slots] at X' l1 y1 z1 stp hQ
  subst l1 y1 z1
  exact own_step (fun _ q => stp.trans q) (k v T' Lc X' hQ)
theorem own_in {j : Int32} {k n : Nat} (hj : ¬ j < 0) (hk : j.toNatClampNeg = k) (hn : k < n) {cl : Cell} (hs : cl.slots.size = n) : ¬ (j < 0 ∨ cl.slots.size ≤ j.toNatClampNeg) := by
  rintro (q | q)
  · exact hj q
  · omega
theorem own_Arr.lt {a : Addr} {ty : FieldType} {n : Nat} {f : Nat → Value} (A : own_Arr Z h a ty n f) : a < h.size := by obtain ⟨c, A, -⟩ := A; exact A.lt
theorem own_Arr.ext {a : Addr} {ty : FieldType} {n : Nat} {f : Nat → Value} (E : Ext h h') (A : own_Arr Z h a ty n f) : own_Arr Z h' a ty n f := by obtain ⟨c, A, r⟩ := A; exact ⟨c, A.ext E, r⟩
theorem own_Arr.other {a b : Addr} {ty : FieldType} {n sl : Nat} {v : Value} {f : Nat → Value} (W : Wr h h' a sl v) (A : own_Arr Z h b ty n f) (q : b ≠ a) : own_Arr Z h' b ty n f := by obtain ⟨c, A, r⟩ := A; exact ⟨c, A.other W q, r⟩
theorem own_Arr.keep {a : Addr} {ty : FieldType} {n : Nat} {ws : List Addr} {f : Nat → Value} (K : Keep h h' ws) (A : own_Arr Z h a ty n f) (q : a ∉ ws) : own_Arr Z h' a ty n f := by obtain ⟨c, A, r⟩ := A; exact ⟨c, ⟨K.2.1 a c A.1 q, A.2⟩, r⟩
theorem own_Arr.congr {a : Addr} {ty : FieldType} {n : Nat} {f g : Nat → Value} (A : own_Arr Z h a ty n f) (q : ∀ j, j < n → f j = g j) : own_Arr Z h a ty n g := by
  obtain ⟨c, A, r1, r2, r3⟩ := A
  exact ⟨c, A, r1, r2, fun j hj => by rw [r3 j hj, q j hj]⟩
theorem own_sizWr {a : Addr} {sl n0 : Nat} {v : Value} (W : Wr h h' a sl v) (q : n0 ≤ h.size) : n0 ≤ h'.size := by rw [W.size]; exact q
theorem own_Arr.set {a : Addr} {ty : FieldType} {n k : Nat} {f : Nat → Value} {v : Value} {cl : Cell} (A : Arr Z h a cl ty) (r1 : cl.slots.size = n) (r2 : n < 2 ^ 31) (r3 : ∀ j, j < n → cl.slots[j]? = some (f j)) (hk : k < n) (W : Wr h h' a k v) : own_Arr Z h' a ty n (own_upd f k v) := by
  refine ⟨cl.setSlot k v, Arr.same W A, by rw [sz_set]; exact r1, r2, fun j hj => ?_⟩
  show (cl.slots.setIfInBounds k v)[j]? = _
  rw [Array.getElem?_setIfInBounds]
  by_cases q : k = j
  · subst q; simp [own_upd, r1, hk]
  · have q' : ¬ j = k := fun z => q z.symm
    simp [own_upd, q, q', r3 j hj]
theorem own_newarr (X : Stand p l e R s m args below meth c T locs cells slots) (hx : p.tables.exec = Jvm.exec) (hZ : Z.Warmed39 s.vm) {aty : ArrayType} (w : (Jvm.Cond.arrayClass (newarray.typeOf aty)).before a0 Z = true) (eT : T.heap = h) {n : Int32} (hp : pc + 2 = pc') (hd : decode c.code pc = .ok (.newarray aty, 2)) (hn : ¬ n < 0) {N : Nat} (hN : n.toNatClampNeg = N) {cap : Nat} (hcap : n.toNatClampNeg ≤ cap) (hb : cap * 8 ≤ 536870912) (hc : cells + 1 ≤ R.cells) (hl : slots + cap ≤ R.slots)
    (k : ∀ T' h', Stand p l e R s m args below meth c T' locs (cells + 1) (slots + cap) → T'.heap = h' → Ext h h' → own_Arr Z h' h.size (newarray.typeOf aty) N (fun _ => defaultValue (newarray.typeOf aty)) → own_Goes p e below T' (mkF m pc' Ls (.ref h.size :: st)) Q) : own_Goes p e below T (mkF m pc Ls (.int n :: st)) Q := by
  subst hp
  obtain ⟨T', h', cA, X', e', E', A', stp⟩ := newP X hx hZ w eT (g := mkF m pc Ls (.int n :: st)) rfl hd rfl hn hcap hb hc hl
  refine own_step stp (k T' h' X' e' E' ⟨_, A', by rw [sz_new, hN], by rw [← hN]; exact (back32 hn).2, fun j hj => ?_⟩)
  simp [newA, hN, hj]
theorem own_stI (X : Stand p l e R s m args below meth c T locs cells slots) (hx : p.tables.exec = Jvm.exec) (hZ : Z.Warmed39 s.vm) (eT : T.heap = h) {a : Addr} {n k : Nat} {f : Nat → Value} (A : own_Arr Z h a .int n f) {j : Int32} {x : Int32} (hj : ¬ j < 0) (hk : j.toNatClampNeg = k) (hn : k < n)  (hp : pc + 1 = pc') (hd : decode c.code pc = .ok (.iastore, 1))
    (q : ∀ T' h', Stand p l e R s m args below meth c T' (locs ++ [⟨a, k⟩]) cells slots → T'.heap = h' → Wr h h' a k (.int x) → own_Arr Z h' a .int n (own_upd f k (.int x)) → own_Goes p e below T' (mkF m pc' Ls st) Q) : own_Goes p e below T (mkF m pc Ls (.int x :: .int j :: .ref a :: st)) Q := by
  subst hp
  obtain ⟨cl, A, r1, r2, r3⟩ := A
  obtain ⟨T', h', X', e', W', stp⟩ := stI X hx hZ eT A (own_in hj hk hn r1) (g := mkF m pc Ls (.int x :: .int j :: .ref a :: st)) rfl rfl hd
  subst hk
  exact own_step stp (q T' h' X' e' W' (own_Arr.set A r1 r2 r3 hn W'))
theorem own_stJ (X : Stand p l e R s m args below meth c T locs cells slots) (hx : p.tables.exec = Jvm.exec) (hZ : Z.Warmed39 s.vm) (eT : T.heap = h) {a : Addr} {n k : Nat} {f : Nat → Value} (A : own_Arr Z h a .long n f) {j : Int32} {x : Int64} (hj : ¬ j < 0) (hk : j.toNatClampNeg = k) (hn : k < n)  (hp : pc + 1 = pc') (hd : decode c.code pc = .ok (.lastore, 1))
    (q : ∀ T' h', Stand p l e R s m args below meth c T' (locs ++ [⟨a, k⟩]) cells slots → T'.heap = h' → Wr h h' a k (.long x) → own_Arr Z h' a .long n (own_upd f k (.long x)) → own_Goes p e below T' (mkF m pc' Ls st) Q) : own_Goes p e below T (mkF m pc Ls (.long x :: .int j :: .ref a :: st)) Q := by
  subst hp
  obtain ⟨cl, A, r1, r2, r3⟩ := A
  obtain ⟨T', h', X', e', W', stp⟩ := stJ X hx hZ eT A (own_in hj hk hn r1) (g := mkF m pc Ls (.long x :: .int j :: .ref a :: st)) rfl rfl hd
  subst hk
  exact own_step stp (q T' h' X' e' W' (own_Arr.set A r1 r2 r3 hn W'))
theorem own_stB (X : Stand p l e R s m args below meth c T locs cells slots) (hx : p.tables.exec = Jvm.exec) (hZ : Z.Warmed39 s.vm) (eT : T.heap = h) {a : Addr} {n k : Nat} {f : Nat → Value} (A : own_Arr Z h a .byte n f) {j : Int32} {x y : Int32} (hj : ¬ j < 0) (hk : j.toNatClampNeg = k) (hn : k < n) (hv : nar .byte x = y) (hp : pc + 1 = pc') (hd : decode c.code pc = .ok (.bastore, 1))
    (q : ∀ T' h', Stand p l e R s m args below meth c T' (locs ++ [⟨a, k⟩]) cells slots → T'.heap = h' → Wr h h' a k (.int y) → own_Arr Z h' a .byte n (own_upd f k (.int y)) → own_Goes p e below T' (mkF m pc' Ls st) Q) : own_Goes p e below T (mkF m pc Ls (.int x :: .int j :: .ref a :: st)) Q := by
  subst hp; subst hv
  obtain ⟨cl, A, r1, r2, r3⟩ := A
  obtain ⟨T', h', X', e', W', stp⟩ := stB X hx hZ eT A (own_in hj hk hn r1) (g := mkF m pc Ls (.int x :: .int j :: .ref a :: st)) rfl rfl hd
  subst hk
  exact own_step stp (q T' h' X' e' W' (own_Arr.set A r1 r2 r3 hn W'))
theorem own_stC (X : Stand p l e R s m args below meth c T locs cells slots) (hx : p.tables.exec = Jvm.exec) (hZ : Z.Warmed39 s.vm) (eT : T.heap = h) {a : Addr} {n k : Nat} {f : Nat → Value} (A : own_Arr Z h a .char n f) {j : Int32} {x y : Int32} (hj : ¬ j < 0) (hk : j.toNatClampNeg = k) (hn : k < n) (hv : nar .char x = y) (hp : pc + 1 = pc') (hd : decode c.code pc = .ok (.castore, 1))
    (q : ∀ T' h', Stand p l e R s m args below meth c T' (locs ++ [⟨a, k⟩]) cells slots → T'.heap = h' → Wr h h' a k (.int y) → own_Arr Z h' a .char n (own_upd f k (.int y)) → own_Goes p e below T' (mkF m pc' Ls st) Q) : own_Goes p e below T (mkF m pc Ls (.int x :: .int j :: .ref a :: st)) Q := by
  subst hp; subst hv
  obtain ⟨cl, A, r1, r2, r3⟩ := A
  obtain ⟨T', h', X', e', W', stp⟩ := stC X hx hZ eT A (own_in hj hk hn r1) (g := mkF m pc Ls (.int x :: .int j :: .ref a :: st)) rfl rfl hd
  subst hk
  exact own_step stp (q T' h' X' e' W' (own_Arr.set A r1 r2 r3 hn W'))
theorem own_ldI (X : Stand p l e R s m args below meth c T locs cells slots) (hx : p.tables.exec = Jvm.exec) (hZ : Z.Warmed39 s.vm) (eT : T.heap = h) {a : Addr} {n k : Nat} {f : Nat → Value} (A : own_Arr Z h a .int n f) {j : Int32} (hj : ¬ j < 0) (hk : j.toNatClampNeg = k) (hn : k < n) {v : Value} (hv : f k = v) (hp : pc + 1 = pc') (hd : decode c.code pc = .ok (.iaload, 1)) (q : own_Goes p e below T (mkF m pc' Ls (v :: st)) Q) : own_Goes p e below T (mkF m pc Ls (.int j :: .ref a :: st)) Q := by
  subst hp
  obtain ⟨cl, A, r1, r2, r3⟩ := A
  exact own_step (fun t z => X.iaload hx (j := j) (v := v) (by rw [eT]; exact A.1) (State.isArrayOf_alike hZ.alike A.2.1) A.2.2 (own_in hj hk hn r1) (by rw [hk, r3 k hn, hv]) (g := mkF m pc Ls (.int j :: .ref a :: st)) rfl rfl hd t z) q
theorem own_ldJ (X : Stand p l e R s m args below meth c T locs cells slots) (hx : p.tables.exec = Jvm.exec) (hZ : Z.Warmed39 s.vm) (eT : T.heap = h) {a : Addr} {n k : Nat} {f : Nat → Value} (A : own_Arr Z h a .long n f) {j : Int32} (hj : ¬ j < 0) (hk : j.toNatClampNeg = k) (hn : k < n) {v : Value} (hv : f k = v) (hp : pc + 1 = pc') (hd : decode c.code pc = .ok (.laload, 1)) (q : own_Goes p e below T (mkF m pc' Ls (v :: st)) Q) : own_Goes p e below T (mkF m pc Ls (.int j :: .ref a :: st)) Q := by
  subst hp
  obtain ⟨cl, A, r1, r2, r3⟩ := A
  exact own_step (fun t z => X.laload hx (j := j) (v := v) (by rw [eT]; exact A.1) (State.isArrayOf_alike hZ.alike A.2.1) A.2.2 (own_in hj hk hn r1) (by rw [hk, r3 k hn, hv]) (g := mkF m pc Ls (.int j :: .ref a :: st)) rfl rfl hd t z) q
theorem own_ldB (X : Stand p l e R s m args below meth c T locs cells slots) (hx : p.tables.exec = Jvm.exec) (hZ : Z.Warmed39 s.vm) (eT : T.heap = h) {a : Addr} {n k : Nat} {f : Nat → Value} (A : own_Arr Z h a .byte n f) {j : Int32} (hj : ¬ j < 0) (hk : j.toNatClampNeg = k) (hn : k < n) {v : Value} (hv : f k = v) (hp : pc + 1 = pc') (hd : decode c.code pc = .ok (.baload, 1)) (q : own_Goes p e below T (mkF m pc' Ls (v :: st)) Q) : own_Goes p e below T (mkF m pc Ls (.int j :: .ref a :: st)) Q := by
  subst hp
  obtain ⟨cl, A, r1, r2, r3⟩ := A
  exact own_step (fun t z => X.baloadBytes hx (j := j) (v := v) (by rw [eT]; exact A.1) (State.isArrayOf_alike hZ.alike A.2.1) A.2.2 (own_in hj hk hn r1) (by rw [hk, r3 k hn, hv]) (g := mkF m pc Ls (.int j :: .ref a :: st)) rfl rfl hd t z) q
theorem own_ldC (X : Stand p l e R s m args below meth c T locs cells slots) (hx : p.tables.exec = Jvm.exec) (hZ : Z.Warmed39 s.vm) (eT : T.heap = h) {a : Addr} {n k : Nat} {f : Nat → Value} (A : own_Arr Z h a .char n f) {j : Int32} (hj : ¬ j < 0) (hk : j.toNatClampNeg = k) (hn : k < n) {v : Value} (hv : f k = v) (hp : pc + 1 = pc') (hd : decode c.code pc = .ok (.caload, 1)) (q : own_Goes p e below T (mkF m pc' Ls (v :: st)) Q) : own_Goes p e below T (mkF m pc Ls (.int j :: .ref a :: st)) Q := by
  subst hp
  obtain ⟨cl, A, r1, r2, r3⟩ := A
  exact own_step (fun t z => X.caload hx (j := j) (v := v) (by rw [eT]; exact A.1) (State.isArrayOf_alike hZ.alike A.2.1) A.2.2 (own_in hj hk hn r1) (by rw [hk, r3 k hn, hv]) (g := mkF m pc Ls (.int j :: .ref a :: st)) rfl rfl hd t z) q
theorem own_alen (X : Stand p l e R s m args below meth c T locs cells slots) (hx : p.tables.exec = Jvm.exec) (hZ : Z.Warmed39 s.vm) (eT : T.heap = h) {a : Addr} {ty : FieldType} {n : Nat} {f : Nat → Value} (A : own_Arr Z h a ty n f) {v : Int32} (hv : n.toInt32 = v) (hp : pc + 1 = pc') (hd : decode c.code pc = .ok (.arraylength, 1)) (q : own_Goes p e below T (mkF m pc' Ls (.int v :: st)) Q) : own_Goes p e below T (mkF m pc Ls (.ref a :: st)) Q := by
  subst hp; subst hv
  obtain ⟨cl, A, r1, r2, r3⟩ := A
  subst r1
  exact own_step (fun t z => X.arraylength hx (cell := cl) (by rw [eT]; exact A.1) (State.isArrayOf_alike hZ.alike A.2.1) (g := mkF m pc Ls (.ref a :: st)) rfl rfl hd t z) q
theorem own_instY (X : Stand p l e R s m args below meth c T locs cells slots) (hx : p.tables.exec = Jvm.exec) (hZ : Z.Warmed39 s.vm) {own K : String} {index : Nat} (hown : s.vm.findClass own = some m.cls) (w : (Jvm.Cond.classLink own index K).before a0 Z = true) (eT : T.heap = h) {a : Addr} (F : Ins Z h a K true) (hp : pc + 3 = pc') (hd : decode c.code pc = .ok (.instanceof index, 3))
    (k : ∀ T', Stand p l e R s m args below meth c T' locs cells slots → T'.heap = h → own_Goes p e below T' (mkF m pc' Ls (.int 1 :: st)) Q) : own_Goes p e below T (mkF m pc Ls (.ref a :: st)) Q := by
  subst hp
  obtain ⟨T', X', e', stp⟩ := instY X hx hZ hown w eT F (g := mkF m pc Ls (.ref a :: st)) rfl rfl hd
  exact own_step stp (k T' X' e')
theorem own_castY (X : Stand p l e R s m args below meth c T locs cells slots) (hx : p.tables.exec = Jvm.exec) (hZ : Z.Warmed39 s.vm) {own K : String} {index : Nat} (hown : s.vm.findClass own = some m.cls) (w : (Jvm.Cond.classLink own index K).before a0 Z = true) (eT : T.heap = h) {a : Addr} (F : Ins Z h a K true) (hp : pc + 3 = pc') (hd : decode c.code pc = .ok (.checkcast index, 3))
    (k : ∀ T', Stand p l e R s m args below meth c T' locs cells slots → T'.heap = h → own_Goes p e below T' (mkF m pc' Ls (.ref a :: st)) Q) : own_Goes p e below T (mkF m pc Ls (.ref a :: st)) Q := by
  subst hp
  obtain ⟨T', X', e', stp⟩ := castY X hx hZ hown w eT F (g := mkF m pc Ls (.ref a :: st)) rfl rfl hd
  exact own_step stp (k T' X' e')
theorem own_instNo (X : Stand p l e R s m args below meth c T locs cells slots) (hx : p.tables.exec = Jvm.exec) (hZ : Z.Warmed39 s.vm) {own K C : String} {index : Nat} (hown : s.vm.findClass own = some m.cls) (w : (Jvm.Cond.classLink own index K).before a0 Z = true) (eT : T.heap = h) {a : Addr} (E : Exa Z h a C) (F : ∃ c t, Z.vm.findClass C = some c ∧ Z.vm.findClass K = some t ∧ Z.vm.assignable c t = false) (hp : pc + 3 = pc') (hd : decode c.code pc = .ok (.instanceof index, 3))
    (k : ∀ T', Stand p l e R s m args below meth c T' locs cells slots → T'.heap = h → own_Goes p e below T' (mkF m pc' Ls (.int 0 :: st)) Q) : own_Goes p e below T (mkF m pc Ls (.ref a :: st)) Q := by
  subst hp
  obtain ⟨T', X', e', stp⟩ := instNo X hx hZ hown w eT E F (g := mkF m pc Ls (.ref a :: st)) rfl rfl hd
  exact own_step stp (k T' X' e')
theorem own_instNull (X : Stand p l e R s m args below meth c T locs cells slots) (hx : p.tables.exec = Jvm.exec) {index : Nat} (hp : pc + 3 = pc') (hd : decode c.code pc = .ok (.instanceof index, 3)) (k : own_Goes p e below T (mkF m pc' Ls (.int 0 :: st)) Q) : own_Goes p e below T (mkF m pc Ls (.null :: st)) Q := by
  subst hp; exact own_step (fun t q => X.instanceofNull hx (g := mkF m pc Ls (.null :: st)) rfl rfl hd t q) k
theorem own_fitR {v : Value} {C : String} (hv : v.isRef = true) : fits (.object C) v = true := by cases v <;> simp_all [fits, Value.isRef]
end Own
/-! 2. THE BODIES -/
open Jvm.Free.Fl Jvm.FP.Core
def own_imax (x y : Int32) : Int32 := if x < y then y else x
def own_lmax (x y : Int64) : Int64 := if x < y then y else x
def own_tail (lm p : Int32) : UInt64 := if p < lm - (1 : Int32) then FP.ddiv (FP.l2d (((lm - p) - (1 : Int32)).toInt64 * (lm - p).toInt64)) (FP.l2d (lm.toInt64 * (lm.toInt64 + (1 : Int64)))) else FP.dconst0
/-- rounding a whole number and its double: the same digits, one place further -/
theorem own_shift {t : Nat} (h : 0 < t) (h2 : t < 2 ^ 63) : ∃ c q, roundRatio b64 false t 1 0 = .fin false c q ∧ roundRatio b64 false (2 * t) 1 0 = .fin false c (q + 1) := by
  have e : roundRatio b64 false (2 * t) 1 0 = roundRatio b64 false t 1 1 := roundRatio_congr (by decide) (by decide) (by
    rw [show ((0 : Int) - 1).toNat = 0 from rfl, show ((1 : Int) - 0).toNat = 1 from rfl]; omega)
  have l1 : 2 ^ t.log2 ≤ t := Nat.log2_self_le (by omega)
  have lb : t.log2 < 63 := (Nat.pow_lt_pow_iff_right (by decide : 1 < 2)).mp (Nat.lt_of_le_of_lt l1 h2)
  have hl : leading t 1 = (t.log2 : Int) := by
    unfold leading
    have e0 : (t.log2 : Int) - ((1 : Nat).log2 : Int) = (t.log2 : Int) := by rw [show (1 : Nat).log2 = 0 from by decide]; omega
    simp only [e0]
    rw [if_pos]
    rw [show ((t.log2 : Int)).toNat = t.log2 by omega, show (-(t.log2 : Int)).toNat = 0 by omega]; omega
  have hq : ∀ z : Int, 0 ≤ z → quantum b64 t 1 z = (t.log2 : Int) + z - 52 := by
    intro z hz; unfold quantum; rw [hl, qmin_b64, show (b64.p : Int) - 1 = 52 from rfl]; omega
  rw [e]
  have u : ∀ z : Int, 0 ≤ z → roundRatio b64 false t 1 z = settle b64 false (nearest (t * 2 ^ (52 - (t.log2 : Int)).toNat) (1 * 2 ^ ((t.log2 : Int) - 52).toNat)) ((t.log2 : Int) + z - 52) := by
    intro z hz
    unfold roundRatio roundAt
    rw [if_neg (by omega), hq z hz]
    unfold unitsNum unitsDen
    rw [show z - ((t.log2 : Int) + z - 52) = 52 - (t.log2 : Int) by omega, show ((t.log2 : Int) + z - 52) - z = (t.log2 : Int) - 52 by omega]
  rw [u 0 (by decide), u 1 (by decide)]
  generalize nearest (t * 2 ^ (52 - (t.log2 : Int)).toNat) (1 * 2 ^ ((t.log2 : Int) - 52).toNat) = N
  have qm : b64.qmax = 971 := by decide
  unfold settle bound
  by_cases hN : N < 2 ^ b64.p
  · rw [if_pos hN, if_pos hN, if_pos (by rw [qm]; omega), if_pos (by rw [qm]; omega)]
    exact ⟨N, _, rfl, by congr 1; omega⟩
  · rw [if_neg hN, if_neg hN, if_pos (by rw [qm]; omega), if_pos (by rw [qm]; omega)]
    exact ⟨b64.tails, _, rfl, by congr 1; omega⟩
theorem own_vl {a : Int64} (h : 0 < a.toInt) : val64 (FP.l2d a) = roundRatio b64 false a.toInt.toNat 1 0 := by
  have := val64_l2d a
  refine Eq.trans this ?_
  show roundRatio b64 (decide (a.toInt < 0)) a.toInt.natAbs 1 0 = _
  rw [decide_eq_false (by omega), show a.toInt.natAbs = a.toInt.toNat by omega]
theorem own_vd (a b : Int64) : val64 (FP.ddiv (FP.l2d a) (FP.l2d b)) = quotient b64 (val64 (FP.l2d a)) (val64 (FP.l2d b)) := val64_ddiv _ _
theorem own_lnn {a b : Int64} (h : ¬ b = 0) : NoNaN64 (FP.ddiv (FP.l2d a) (FP.l2d b)) := Jvm.Free.Fl.ddiv_out (Jvm.Free.Fl.l2d_fin a).noNaN (Jvm.Free.Fl.l2d_fin b) (l2d_nz h)
theorem own_nz {b : Int64} (h : 0 < b.toInt) : ¬ b = 0 := by intro q; rw [q] at h; exact absurd h (by decide)
theorem own_ne {a : UInt64} (h : NoNaN64 a) : val64 a ≠ .nan := (notNaN_iff a).mp (noNaN64_no.mp h)
theorem own_div2 {a b c d : Int64} (ha : a.toInt = 2 * c.toInt) (hb : b.toInt = 2 * d.toInt) (hc : 0 < c.toInt) (hd : 0 < d.toInt) : FP.ddiv (FP.l2d a) (FP.l2d b) = FP.ddiv (FP.l2d c) (FP.l2d d) := by
  have c2 := Int64.toInt_lt c
  have d2 := Int64.toInt_lt d
  refine val64_inj (own_ne (own_lnn (own_nz (by omega)))) ?_
  rw [own_vd, own_vd, own_vl (by omega), own_vl (by omega), own_vl hc, own_vl hd, ha, hb, show (2 * c.toInt).toNat = 2 * c.toInt.toNat by omega, show (2 * d.toInt).toNat = 2 * d.toInt.toNat by omega]
  obtain ⟨m, q, e1, e2⟩ := own_shift (t := c.toInt.toNat) (by omega) (by omega)
  obtain ⟨n, r, f1, f2⟩ := own_shift (t := d.toInt.toNat) (by omega) (by omega)
  rw [e1, e2, f1, f2]
  show (if n = 0 then _ else roundRatio b64 (false != false) m n ((q + 1) - (r + 1))) = (if n = 0 then _ else roundRatio b64 (false != false) m n (q - r))
  rw [show (q + 1) - (r + 1) = q - r by omega]
theorem own_zdiv {d : Int64} (hd : 0 < d.toInt) : FP.ddiv (FP.l2d 0) (FP.l2d d) = FP.dconst0 := by
  have d2 := Int64.toInt_lt d
  refine val64_inj (own_ne (own_lnn (own_nz hd))) ?_
  obtain ⟨n, r, f1, f2⟩ := own_shift (t := d.toInt.toNat) (by omega) (by omega)
  have nn := own_ne (own_lnn (a := 0) (own_nz hd))
  rw [own_vd, own_vl hd, f1, show val64 (FP.l2d 0) = .fin false 0 b64.qmin from by decide +kernel] at nn ⊢
  rw [show val64 FP.dconst0 = .fin false 0 b64.qmin from val64_dconst0]
  by_cases q : n = 0
  · exfalso; apply nn; subst q; rfl
  · show (if n = 0 then _ else roundRatio b64 (false != false) 0 n (b64.qmin - r)) = _
    rw [if_neg q]; rfl
theorem own_even (m : Int) : (m * (m + 1)) % 2 = 0 := by
  rcases Int.emod_two_eq m with h | h <;> rw [Int.mul_emod, Int.add_emod, h] <;> decide
theorem own_tri {x : Int64} (h0 : 0 ≤ x.toInt) (h1 : x.toInt < 2 ^ 31) : (x + (1 : Int64)).toInt = x.toInt + 1 ∧ (x * (x + (1 : Int64))).toInt = 2 * ((x * (x + (1 : Int64))) / (2 : Int64)).toInt ∧ (x * (x + (1 : Int64))).toInt = x.toInt * (x.toInt + 1) ∧ x.toInt * (x.toInt + 1) < 2 ^ 63 ∧ (0 < x.toInt → 0 < x.toInt * (x.toInt + 1)) := by
  have e1 : (1 : Int64).toInt = 1 := rfl
  have e2 : (2 : Int64).toInt = 2 := rfl
  have a : (x + (1 : Int64)).toInt = x.toInt + 1 := by rw [Jvm.Kit.i64_add (by rw [e1]; omega) (by rw [e1]; omega), e1]
  have b : x.toInt * (x.toInt + 1) < 2 ^ 63 := by
    have := Int.mul_le_mul (a := x.toInt) (b := x.toInt + 1) (c := 2 ^ 31) (d := 2 ^ 31) (by omega) (by omega) (by omega) (by omega)
    omega
  have n : 0 ≤ x.toInt * (x.toInt + 1) := Int.mul_nonneg h0 (by omega)
  have m : (x * (x + (1 : Int64))).toInt = x.toInt * (x.toInt + 1) := by rw [Jvm.Kit.i64_mul (by rw [a]; omega) (by rw [a]; omega), a]
  have dv : ((x * (x + (1 : Int64))) / (2 : Int64)).toInt = x.toInt * (x.toInt + 1) / 2 := by
    rw [Jvm.Kit.i64_div (by rw [e2]; omega), e2, m, Int.tdiv_eq_ediv_of_nonneg n]
  have ev := own_even x.toInt
  refine ⟨a, by rw [dv, m]; omega, m, b, fun q => Int.mul_pos q (by omega)⟩
theorem own_lt64 {x y : Int32} : x.toInt64 < y.toInt64 ↔ x < y := by
  rw [Int64.lt_iff_toInt_lt, Int32.lt_iff_toInt_lt, Int32.toInt_toInt64, Int32.toInt_toInt64]
/-- the numbers of the tail -/
theorem own_nums {lm p : Int32} (h1 : 1 ≤ lm.toInt) (h0 : 0 ≤ p.toInt) : (lm - (1 : Int32)).toInt = lm.toInt - 1 ∧ (lm - p).toInt = lm.toInt - p.toInt ∧ ((lm.toInt64 - (1 : Int64)) - p.toInt64).toInt = lm.toInt - 1 - p.toInt ∧ (p < lm - (1 : Int32) ↔ p.toInt < lm.toInt - 1) ∧ (p < lm - (1 : Int32) → ((lm - p) - (1 : Int32)).toInt64 = (lm.toInt64 - (1 : Int64)) - p.toInt64 ∧ (lm - p).toInt64 = ((lm.toInt64 - (1 : Int64)) - p.toInt64) + (1 : Int64)) := by
  have hl := Int32.toInt_lt lm
  have hp := Int32.toInt_lt p
  have e1 : (1 : Int32).toInt = 1 := rfl
  have e3 : (1 : Int64).toInt = 1 := rfl
  have a : (lm - (1 : Int32)).toInt = lm.toInt - 1 := by rw [Jvm.Kit.i32_sub (by rw [e1]; omega) (by rw [e1]; omega), e1]
  have b : (lm - p).toInt = lm.toInt - p.toInt := Jvm.Kit.i32_sub (by omega) (by omega)
  have c0 : (lm.toInt64 - (1 : Int64)).toInt = lm.toInt - 1 := by rw [Jvm.Kit.i64_sub (by rw [e3, Int32.toInt_toInt64]; omega) (by rw [e3, Int32.toInt_toInt64]; omega), e3, Int32.toInt_toInt64]
  have c : ((lm.toInt64 - (1 : Int64)) - p.toInt64).toInt = lm.toInt - 1 - p.toInt := by rw [Jvm.Kit.i64_sub (by rw [c0, Int32.toInt_toInt64]; omega) (by rw [c0, Int32.toInt_toInt64]; omega), c0, Int32.toInt_toInt64]
  have d : p < lm - (1 : Int32) ↔ p.toInt < lm.toInt - 1 := by rw [Int32.lt_iff_toInt_lt, a]
  refine ⟨a, b, c, d, fun q => ?_⟩
  have q := d.mp q
  constructor
  · apply Int64.toInt_inj.mp
    rw [c, Int32.toInt_toInt64, Jvm.Kit.i32_sub (by rw [b, e1]; omega) (by rw [b, e1]; omega), b, e1]; omega
  · apply Int64.toInt_inj.mp
    rw [Jvm.Kit.i64_add (by rw [c, e3]; omega) (by rw [c, e3]; omega), c, e3, Int32.toInt_toInt64, b]; omega
theorem own_pos {lm : Int32} (h : 1 ≤ lm.toInt) : 0 < (lm.toInt64).toInt ∧ (lm.toInt64).toInt < 2 ^ 31 := by
  have := Int32.toInt_lt lm
  rw [Int32.toInt_toInt64]; omega
theorem own_same {lm p : Int32} (h1 : 1 ≤ lm.toInt) (h0 : 0 ≤ p.toInt) :
    FP.ddiv (FP.l2d (((own_lmax (0 : Int64) ((lm.toInt64 - (1 : Int64)) - p.toInt64)) * ((own_lmax (0 : Int64) ((lm.toInt64 - (1 : Int64)) - p.toInt64)) + (1 : Int64))) / (2 : Int64))) (FP.l2d ((lm.toInt64 * (lm.toInt64 + (1 : Int64))) / (2 : Int64))) = own_tail lm p := by
  obtain ⟨-, -, n3, n4, n5⟩ := own_nums h1 h0
  have hp := own_pos h1
  obtain ⟨-, t2, t3, -, t5⟩ := own_tri (Int.le_of_lt hp.1) hp.2
  have t5 := t5 hp.1
  unfold own_tail
  by_cases c : p < lm - (1 : Int32)
  · have c' := n4.mp c
    have hl := Int32.toInt_lt lm
    rw [if_pos c, (n5 c).1, (n5 c).2]
    have mx : own_lmax (0 : Int64) ((lm.toInt64 - (1 : Int64)) - p.toInt64) = (lm.toInt64 - (1 : Int64)) - p.toInt64 := by
      unfold own_lmax; rw [if_pos]; rw [Int64.lt_iff_toInt_lt, n3, show (0 : Int64).toInt = 0 from rfl]; omega
    rw [mx]
    generalize (lm.toInt64 - (1 : Int64)) - p.toInt64 = m at n3 ⊢
    obtain ⟨-, u2, u3, -, u5⟩ := own_tri (x := m) (by omega) (by omega)
    have u5 := u5 (by omega)
    exact (own_div2 u2 t2 (by omega) (by omega)).symm
  · have c' : ¬ p.toInt < lm.toInt - 1 := fun z => c (n4.mpr z)
    rw [if_neg c]
    have mx : own_lmax (0 : Int64) ((lm.toInt64 - (1 : Int64)) - p.toInt64) = 0 := by
      unfold own_lmax; rw [if_neg]; rw [Int64.lt_iff_toInt_lt, n3, show (0 : Int64).toInt = 0 from rfl]; omega
    rw [mx, show ((0 : Int64) * ((0 : Int64) + (1 : Int64))) / (2 : Int64) = 0 from by decide]
    exact own_zdiv (by omega)
theorem own_dnz {lm : Int32} (h1 : 1 ≤ lm.toInt) : ¬ ((lm.toInt64 * (lm.toInt64 + (1 : Int64))) / (2 : Int64)) = 0 := by
  have hp := own_pos h1
  obtain ⟨-, t2, t3, -, t5⟩ := own_tri (Int.le_of_lt hp.1) hp.2
  have t5 := t5 hp.1
  exact own_nz (by omega)
theorem own_dnz2 {lm : Int32} (h1 : 1 ≤ lm.toInt) : ¬ (lm.toInt64 * (lm.toInt64 + (1 : Int64))) = 0 := by
  have hp := own_pos h1
  obtain ⟨-, t2, t3, -, t5⟩ := own_tri (Int.le_of_lt hp.1) hp.2
  have t5 := t5 hp.1
  exact own_nz (by omega)
/-- a finite double of sign +, and small -/
def own_P (a : UInt64) : Prop := a.toNat % 2 ^ 63 < 1089 * 2 ^ 52 ∧ sgn (val64 a) = false
theorem own_sgnq (a b : Int64) (ha : 0 ≤ a.toInt) (hb : 0 ≤ b.toInt) : sgn (val64 (FP.ddiv (FP.l2d a) (FP.l2d b))) = false := by
  obtain ⟨c, q, e1⟩ := l2d_shape a
  obtain ⟨d, r, e2⟩ := l2d_shape b
  rw [decide_eq_false (by omega)] at e1 e2
  rw [own_vd, show val64 (FP.l2d a) = _ from e1, show val64 (FP.l2d b) = _ from e2]
  show sgn (if d = 0 then (if c = 0 then .nan else .inf (false != false)) else roundRatio b64 (false != false) c d (q - r)) = false
  by_cases z : d = 0
  · rw [if_pos z]; by_cases z2 : c = 0
    · rw [if_pos z2]; rfl
    · rw [if_neg z2]; rfl
  · rw [if_neg z, sgn_roundRatio]; rfl
theorem own_PT {lm p : Int32} (h1 : 1 ≤ lm.toInt) (h0 : 0 ≤ p.toInt) : own_P (own_tail lm p) := by
  have hp := own_pos h1
  obtain ⟨-, t2, t3, -, t5⟩ := own_tri (Int.le_of_lt hp.1) hp.2
  have t5 := t5 hp.1
  obtain ⟨-, -, n3, n4, n5⟩ := own_nums h1 h0
  have hl := Int32.toInt_lt lm
  unfold own_tail
  by_cases c : p < lm - (1 : Int32)
  · have c' := n4.mp c
    rw [if_pos c, (n5 c).1, (n5 c).2]
    generalize (lm.toInt64 - (1 : Int64)) - p.toInt64 = m at n3 ⊢
    obtain ⟨-, u2, u3, -, u5⟩ := own_tri (x := m) (by omega) (by omega)
    have u5 := u5 (by omega)
    have bg := Jvm.FP.Core.l2d_big (v := lm.toInt64 * (lm.toInt64 + (1 : Int64))) (by omega)
    refine ⟨?_, own_sgnq _ _ (by omega) (by omega)⟩
    have := Jvm.FP.Core.ddiv_mag (K := 1088) (L := 1023) (Jvm.FP.Core.l2d_mag (m * (m + (1 : Int64)))) bg.1 bg.2 (by decide) (by decide)
    exact this
  · rw [if_neg c]; exact ⟨by decide +kernel, by rw [show val64 FP.dconst0 = .fin false 0 b64.qmin from val64_dconst0]; rfl⟩
theorem own_Pf {a : UInt64} (h : own_P a) : DFin a := fin_of_lt h.1 (by decide)
theorem own_Pz {a : UInt64} (h : own_P a) : 0 ≤ zval b64 (val64 a) := by
  unfold zval; rw [h.2]; exact Int.natCast_nonneg _
theorem own_kv : val64 4391009636686233600 = .fin false (2 ^ 52) (-100) := by decide +kernel
theorem own_Ptol {a : UInt64} (h : own_P a) : own_P (FP.dmul a 4391009636686233600) := by
  refine ⟨?_, ?_⟩
  · have := Jvm.FP.Core.dmul_mag (a := a) (b := 4391009636686233600) (Ka := 1089) (Kb := 976) h.1 (by decide) (by decide) (by decide)
    have e : (FP.dmul a 4391009636686233600).toNat % 2 ^ 63 < (1089 + 976 - 1025 + 3) * 2 ^ 52 := this
    omega
  · obtain ⟨s, c, q, e⟩ := own_Pf h
    have h2 := h.2
    rw [e] at h2
    have h2 : s = false := h2
    subst h2
    have := val64_dmul a 4391009636686233600
    rw [e, own_kv] at this
    rw [show val64 (FP.dmul a 4391009636686233600) = _ from this]
    show sgn (roundRatio b64 (false != false) (c * 2 ^ 52) 1 (q + -100)) = false
    rw [sgn_roundRatio]; rfl
theorem own_nnP {a : UInt64} (h : own_P a) : NoNaN64 a := noNaN64_no.mpr (own_Pf h).notNaN
theorem own_nadd {a b : UInt64} (ha : own_P a) (hb : own_P b) : NoNaN64 (FP.dadd a b) := noNaN64_no.mpr (Jvm.FP.Core.dadd_out (own_Pf ha).notNaN (own_Pf hb))
theorem own_nsub {a b : UInt64} (ha : own_P a) (hb : own_P b) : NoNaN64 (FP.dsub a b) := noNaN64_no.mpr (Jvm.FP.Core.dsub_out (own_Pf ha).notNaN (own_Pf hb))
theorem own_dcz {a b : UInt64} (ha : val64 a ≠ .nan) (hb : val64 b ≠ .nan) : FP.dcmp a b = some (compare (zval b64 (val64 a)) (zval b64 (val64 b))) := order_zval good_b64 (val64_fits a) (val64_fits b) ha hb
theorem own_le {a b : UInt64} (ha : own_P a) (hb : own_P b) (k : CmpOp) : ¬ (0 : Int32) < cmpValue (FP.dcmp a (FP.dadd a b)) k := by
  have z := own_Pz hb
  have q : zval b64 (val64 a) ≤ zval b64 (val64 (FP.dadd a b)) := by
    rw [show val64 (FP.dadd a b) = _ from val64_dadd a b]
    exact sum_ge good_b64 (own_Pf ha) (own_Pf hb) (val64_fits a) (val64_fits b) (val64_fits a) (own_ne (own_nnP ha)) (by omega)
  rw [own_dcz (own_ne (own_nnP ha)) (own_ne (own_nadd ha hb)), compare_ite]
  by_cases c : zval b64 (val64 a) < zval b64 (val64 (FP.dadd a b))
  · rw [if_pos c]; cases k <;> decide
  · rw [if_neg c, if_pos (by omega)]; cases k <;> decide
theorem own_ge {a b : UInt64} (ha : own_P a) (hb : own_P b) (k : CmpOp) : ¬ cmpValue (FP.dcmp a (FP.dsub a b)) k < (0 : Int32) := by
  have z := own_Pz hb
  obtain ⟨s, c, r, e⟩ := own_Pf hb
  have q : zval b64 (val64 (FP.dsub a b)) ≤ zval b64 (val64 a) := by
    rw [show val64 (FP.dsub a b) = _ from val64_dsub a b]
    exact sum_le good_b64 (own_Pf ha) ⟨!s, c, r, by rw [e]; rfl⟩ (val64_fits a) (negate_fits (val64_fits b)) (val64_fits a) (own_ne (own_nnP ha)) (by rw [zval_negate]; omega)
  rw [own_dcz (own_ne (own_nnP ha)) (own_ne (own_nsub ha hb)), compare_ite]
  rw [if_neg (by omega)]
  by_cases c : zval b64 (val64 a) = zval b64 (val64 (FP.dsub a b))
  · rw [if_pos c]; cases k <;> decide
  · rw [if_neg c]; cases k <;> decide
theorem own_nn (a : Int64) : NoNaN64 (FP.l2d a) := (Jvm.Free.Fl.l2d_fin a).noNaN
theorem own_d1 : FP.dconst1 = FP.l2d 1 := by decide +kernel
theorem own_den1 {x : Int64} (h : 0 < x.toInt) (h2 : x.toInt < 2 ^ 31) : FP.dadd (FP.l2d x) FP.dconst1 = FP.l2d (x + (1 : Int64)) := by
  rw [own_d1]; exact dadd_w ⟨by omega, by omega⟩ ⟨by decide, by decide⟩
theorem own_den2 {x : Int64} (h : 0 < x.toInt) (h2 : x.toInt < 2 ^ 31) : FP.dmul (FP.l2d x) (FP.l2d (x + (1 : Int64))) = FP.l2d (x * (x + (1 : Int64))) := by
  obtain ⟨e, -, -, b, b0⟩ := own_tri (Int.le_of_lt h) h2
  have b0 := b0 h
  refine dmul_w ⟨by omega, by omega⟩ ⟨by rw [e]; omega, by rw [e]; omega⟩ (own_nz h) (own_nz (by omega)) (by rw [e]; omega) (by rw [e]; omega)
theorem own_num {lm p : Int32} (h1 : 1 ≤ lm.toInt) (h0 : 0 ≤ p.toInt) (hc : p < lm - (1 : Int32)) : FP.dmul (FP.l2d ((lm - p) - (1 : Int32)).toInt64) (FP.l2d (lm - p).toInt64) = FP.l2d (((lm - p) - (1 : Int32)).toInt64 * (lm - p).toInt64) := by
  obtain ⟨-, -, n3, n4, n5⟩ := own_nums h1 h0
  have c' := n4.mp hc
  have hl := Int32.toInt_lt lm
  rw [(n5 hc).1, (n5 hc).2]
  exact own_den2 (by omega) (by omega)
theorem ef_rm_max (m : MethodId) (p1 : Int32) (p2 : Int32) : entryFrame m #[(.int p1), (.int p2)] 2 = mkF m 0 #[.val (.int p1), .val (.int p2)] [] := by first | (simp [entryFrame, mkF, argsToLocals, Value.category]; done) | rfl
def K_rm_max  (Z : State) (h0 : Heap) (n0 : Nat) (p1 : Int32) (p2 : Int32) (v : Option Value) (h : Heap) (L : List Loc) : Prop := v = some (.int (own_imax p1 p2)) ∧ Fr n0 L ∧ h = h0
theorem d_jdk_29_method_65_code_0 : decode jdk_29_method_65_code 0 = .ok (.iload_n 0, 1) := by decide +kernel
theorem d_jdk_29_method_65_code_1 : decode jdk_29_method_65_code 1 = .ok (.iload_n 1, 1) := by decide +kernel
theorem d_jdk_29_method_65_code_2 : decode jdk_29_method_65_code 2 = .ok (.if_icmp .lt 7, 3) := by decide +kernel
theorem d_jdk_29_method_65_code_9 : decode jdk_29_method_65_code 9 = .ok (.iload_n 1, 1) := by decide +kernel
theorem d_jdk_29_method_65_code_10 : decode jdk_29_method_65_code 10 = .ok (.ireturn, 1) := by decide +kernel
theorem d_jdk_29_method_65_code_5 : decode jdk_29_method_65_code 5 = .ok (.iload_n 0, 1) := by decide +kernel
theorem d_jdk_29_method_65_code_6 : decode jdk_29_method_65_code 6 = .ok (.goto 4, 3) := by decide +kernel
theorem pf_java_lang_Math_max__II_I : plainFor (⟨"java/lang/Math", "max", "(II)I"⟩ : MethodName) = true := by decide +kernel
set_option maxRecDepth 65536 in
set_option maxHeartbeats 40000000 in
theorem rm_max (l : Launch) (Z : State) (a0 : Array Value) (hw : ∀ d ∈ tables_1, d.before a0 Z = true) (ws : List Jvm.Cond)  (p1 : Int32) (p2 : Int32) (h0 : Heap) (n0 : Nat) (Z0 : n0 ≤ h0.size) :
    MetFree l (⟨"java/lang/Math", "max", "(II)I"⟩ : MethodName) (head1 (Jvm.Cond.code (⟨"java/lang/Math", "max", "(II)I"⟩ : MethodName) jdk_29_method_65_code 2 (some .int) :: ws) ({ frames := 0, cells := 0, slots := 0, locals := 0 } : Room)) (fun a U => a = #[(.int p1), (.int p2)] ∧ Z.Warmed39 U.vm ∧ U.heap = h0) (fun _ _ _ _ _ => True) (fun _ U o U' => ∃ v L, o = .returned v ∧ (K_rm_max  Z h0 n0 p1 p2) v U'.heap L ∧ FrameEnd U o U' L ({ frames := 0, cells := 0, slots := 0, locals := 0 } : Room).cells ({ frames := 0, cells := 0, slots := 0, locals := 0 } : Room).slots) := by
  refine own_body pf_java_lang_Math_max__II_I ?_
  intro p e s m below meth c s₁ hx hby hml hown hnm hret hlk hZ X0 e0
  have hown : s.vm.findClass "java/lang/Math" = some m.cls := hown
  have N0 := Fr.nil n0
  rw [ef_rm_max m p1 p2]
  refine own_iloadN X0 hx (pc' := 1) rfl (hb hby d_jdk_29_method_65_code_0) rfl ?_
  refine own_iloadN X0 hx (pc' := 2) rfl (hb hby d_jdk_29_method_65_code_1) rfl ?_
  by_cases c2_1 : p1 < p2
  · refine own_icmpT X0 hx (pc' := 9) (hb hby d_jdk_29_method_65_code_2) (XT.ii_lt_t c2_1) (by decide) (by decide) ?_
    refine own_iloadN X0 hx (pc' := 10) rfl (hb hby d_jdk_29_method_65_code_9) rfl ?_
    refine own_iret X0 hx hlk hret (hb hby d_jdk_29_method_65_code_10) (by decide) (by decide) ?_
    rw [e0]
    exact ⟨by first | (simp only [own_imax, if_pos c2_1]; done) | (simp only [own_imax, if_pos c2_1]; rfl), N0, rfl⟩
  · refine own_icmpF X0 hx (pc' := 5) rfl (hb hby d_jdk_29_method_65_code_2) (XT.ii_lt_f c2_1) ?_
    refine own_iloadN X0 hx (pc' := 6) rfl (hb hby d_jdk_29_method_65_code_5) rfl ?_
    refine own_goto X0 hx (pc' := 10) (hb hby d_jdk_29_method_65_code_6) (by decide) (by decide) ?_
    refine own_iret X0 hx hlk hret (hb hby d_jdk_29_method_65_code_10) (by decide) (by decide) ?_
    rw [e0]
    exact ⟨by first | (simp only [own_imax, if_neg c2_1]; done) | (simp only [own_imax, if_neg c2_1]; rfl), N0, rfl⟩
theorem ef_rm_maxJ (m : MethodId) (p1 : Int64) (p2 : Int64) : entryFrame m #[(.long p1), (.long p2)] 4 = mkF m 0 #[.val (.long p1), .second, .val (.long p2), .second] [] := by first | (simp [entryFrame, mkF, argsToLocals, Value.category]; done) | rfl
def K_rm_maxJ  (Z : State) (h0 : Heap) (n0 : Nat) (p1 : Int64) (p2 : Int64) (v : Option Value) (h : Heap) (L : List Loc) : Prop := v = some (.long (own_lmax p1 p2)) ∧ Fr n0 L ∧ h = h0
theorem d_jdk_29_method_66_code_0 : decode jdk_29_method_66_code 0 = .ok (.lload_n 0, 1) := by decide +kernel
theorem d_jdk_29_method_66_code_1 : decode jdk_29_method_66_code 1 = .ok (.lload_n 2, 1) := by decide +kernel
theorem d_jdk_29_method_66_code_2 : decode jdk_29_method_66_code 2 = .ok (.lcmp, 1) := by decide +kernel
theorem d_jdk_29_method_66_code_3 : decode jdk_29_method_66_code 3 = .ok (.ifCond .lt 7, 3) := by decide +kernel
theorem d_jdk_29_method_66_code_10 : decode jdk_29_method_66_code 10 = .ok (.lload_n 2, 1) := by decide +kernel
theorem d_jdk_29_method_66_code_11 : decode jdk_29_method_66_code 11 = .ok (.lreturn, 1) := by decide +kernel
theorem d_jdk_29_method_66_code_6 : decode jdk_29_method_66_code 6 = .ok (.lload_n 0, 1) := by decide +kernel
theorem d_jdk_29_method_66_code_7 : decode jdk_29_method_66_code 7 = .ok (.goto 4, 3) := by decide +kernel
theorem pf_java_lang_Math_max__JJ_J : plainFor (⟨"java/lang/Math", "max", "(JJ)J"⟩ : MethodName) = true := by decide +kernel
set_option maxRecDepth 65536 in
set_option maxHeartbeats 40000000 in
theorem rm_maxJ (l : Launch) (Z : State) (a0 : Array Value) (hw : ∀ d ∈ tables_1, d.before a0 Z = true) (ws : List Jvm.Cond)  (p1 : Int64) (p2 : Int64) (h0 : Heap) (n0 : Nat) (Z0 : n0 ≤ h0.size) :
    MetFree l (⟨"java/lang/Math", "max", "(JJ)J"⟩ : MethodName) (head1 (Jvm.Cond.code (⟨"java/lang/Math", "max", "(JJ)J"⟩ : MethodName) jdk_29_method_66_code 4 (some .long) :: ws) ({ frames := 0, cells := 0, slots := 0, locals := 0 } : Room)) (fun a U => a = #[(.long p1), (.long p2)] ∧ Z.Warmed39 U.vm ∧ U.heap = h0) (fun _ _ _ _ _ => True) (fun _ U o U' => ∃ v L, o = .returned v ∧ (K_rm_maxJ  Z h0 n0 p1 p2) v U'.heap L ∧ FrameEnd U o U' L ({ frames := 0, cells := 0, slots := 0, locals := 0 } : Room).cells ({ frames := 0, cells := 0, slots := 0, locals := 0 } : Room).slots) := by
  refine own_body pf_java_lang_Math_max__JJ_J ?_
  intro p e s m below meth c s₁ hx hby hml hown hnm hret hlk hZ X0 e0
  have hown : s.vm.findClass "java/lang/Math" = some m.cls := hown
  have N0 := Fr.nil n0
  rw [ef_rm_maxJ m p1 p2]
  refine own_lloadN X0 hx (pc' := 1) rfl (hb hby d_jdk_29_method_66_code_0) rfl ?_
  refine own_lloadN X0 hx (pc' := 2) rfl (hb hby d_jdk_29_method_66_code_1) rfl ?_
  refine own_lcmp X0 hx (pc' := 3) rfl (hb hby d_jdk_29_method_66_code_2) ?_
  by_cases c3_1 : p1 < p2
  · refine own_ifT X0 hx (pc' := 10) (hb hby d_jdk_29_method_66_code_3) (XT.ll_lt_t c3_1) (by decide) (by decide) ?_
    refine own_lloadN X0 hx (pc' := 11) rfl (hb hby d_jdk_29_method_66_code_10) rfl ?_
    refine own_lret X0 hx hlk hret (hb hby d_jdk_29_method_66_code_11) (by decide) (by decide) ?_
    rw [e0]
    exact ⟨by first | (simp only [own_lmax, if_pos c3_1]; done) | (simp only [own_lmax, if_pos c3_1]; rfl), N0, rfl⟩
  · refine own_ifF X0 hx (pc' := 6) rfl (hb hby d_jdk_29_method_66_code_3) (XT.ll_lt_f c3_1) ?_
    refine own_lloadN X0 hx (pc' := 7) rfl (hb hby d_jdk_29_method_66_code_6) rfl ?_
    refine own_goto X0 hx (pc' := 11) (hb hby d_jdk_29_method_66_code_7) (by decide) (by decide) ?_
    refine own_lret X0 hx hlk hret (hb hby d_jdk_29_method_66_code_11) (by decide) (by decide) ?_
    rw [e0]
    exact ⟨by first | (simp only [own_lmax, if_neg c3_1]; done) | (simp only [own_lmax, if_neg c3_1]; rfl), N0, rfl⟩
theorem ef_rm_tri (m : MethodId) (p1 : Int64) : entryFrame m #[(.long p1)] 2 = mkF m 0 #[.val (.long p1), .second] [] := by first | (simp [entryFrame, mkF, argsToLocals, Value.category]; done) | rfl
def K_rm_tri  (Z : State) (h0 : Heap) (n0 : Nat) (p1 : Int64) (v : Option Value) (h : Heap) (L : List Loc) : Prop := v = some (.long ((p1 * (p1 + (1 : Int64))) / (2 : Int64))) ∧ Fr n0 L ∧ h = h0
theorem d_method_2_code_0 : decode method_2_code 0 = .ok (.lload_n 0, 1) := by decide +kernel
theorem d_method_2_code_1 : decode method_2_code 1 = .ok (.lload_n 0, 1) := by decide +kernel
theorem d_method_2_code_2 : decode method_2_code 2 = .ok (.lconst 1, 1) := by decide +kernel
theorem d_method_2_code_3 : decode method_2_code 3 = .ok (.ladd, 1) := by decide +kernel
theorem d_method_2_code_4 : decode method_2_code 4 = .ok (.lmul, 1) := by decide +kernel
theorem d_method_2_code_5 : decode method_2_code 5 = .ok (.ldc2_w 7, 3) := by decide +kernel
theorem d_method_2_code_8 : decode method_2_code 8 = .ok (.ldiv, 1) := by decide +kernel
theorem d_method_2_code_9 : decode method_2_code 9 = .ok (.lreturn, 1) := by decide +kernel
theorem pn_com_example_libdamp_libdamp_core_LinearDampingTailPinLaw : plainName "com/example/libdamp/libdamp/core/LinearDampingTailPinLaw" = true := by first | (simp [plainName, overriddenIn]; done) | decide +kernel
set_option maxRecDepth 65536 in
set_option maxHeartbeats 40000000 in
theorem rm_tri (l : Launch) (Z : State) (a0 : Array Value) (hw : ∀ d ∈ tables_1, d.before a0 Z = true) (ws : List Jvm.Cond)  (p1 : Int64) (h0 : Heap) (n0 : Nat) (Z0 : n0 ≤ h0.size) :
    MetFree l (⟨"com/example/libdamp/libdamp/core/LinearDampingTailPinLaw", "triangle", "(J)J"⟩ : MethodName) (head1 (Jvm.Cond.code (⟨"com/example/libdamp/libdamp/core/LinearDampingTailPinLaw", "triangle", "(J)J"⟩ : MethodName) method_2_code 2 (some .long) :: ws) ({ frames := 0, cells := 0, slots := 0, locals := 0 } : Room)) (fun a U => a = #[(.long p1)] ∧ Z.Warmed39 U.vm ∧ U.heap = h0) (fun _ _ _ _ _ => True) (fun _ U o U' => ∃ v L, o = .returned v ∧ (K_rm_tri  Z h0 n0 p1) v U'.heap L ∧ FrameEnd U o U' L ({ frames := 0, cells := 0, slots := 0, locals := 0 } : Room).cells ({ frames := 0, cells := 0, slots := 0, locals := 0 } : Room).slots) := by
  refine own_body (plainFor_of_name pn_com_example_libdamp_libdamp_core_LinearDampingTailPinLaw) ?_
  intro p e s m below meth c s₁ hx hby hml hown hnm hret hlk hZ X0 e0
  have hown : s.vm.findClass "com/example/libdamp/libdamp/core/LinearDampingTailPinLaw" = some m.cls := hown
  have N0 := Fr.nil n0
  rw [ef_rm_tri m p1]
  refine own_lloadN X0 hx (pc' := 1) rfl (hb hby d_method_2_code_0) rfl ?_
  refine own_lloadN X0 hx (pc' := 2) rfl (hb hby d_method_2_code_1) rfl ?_
  refine own_lconst X0 hx (v := (1 : Int64)) (pc' := 3) rfl (hb hby d_method_2_code_2) rfl ?_
  refine own_ladd X0 hx (v := (p1 + (1 : Int64))) (pc' := 4) rfl (hb hby d_method_2_code_3) rfl ?_
  refine own_lmul X0 hx (v := (p1 * (p1 + (1 : Int64)))) (pc' := 5) rfl (hb hby d_method_2_code_4) rfl ?_
  refine own_ldc2_w X0 hx hZ hown (hw _ (List.mem_of_getElem? (i := 28) rfl)) (pc' := 8) rfl (hb hby d_method_2_code_5) ?_
  refine own_ldiv X0 hx (v := ((p1 * (p1 + (1 : Int64))) / (2 : Int64))) (pc' := 9) rfl (hb hby d_method_2_code_8) (by decide) rfl ?_
  refine own_lret X0 hx hlk hret (hb hby d_method_2_code_9) (by decide) (by decide) ?_
  rw [e0]
  exact ⟨rfl, N0, rfl⟩
theorem ef_rm_ctor (m : MethodId) (a1 : Addr) (p2 : Int32) : entryFrame m #[(.ref a1), (.int p2)] 2 = mkF m 0 #[.val (.ref a1), .val (.int p2)] [] := by first | (simp [entryFrame, mkF, argsToLocals, Value.category]; done) | rfl
def K_rm_ctor  (Z : State) (h0 : Heap) (n0 : Nat) (a1 : Addr) (p2 : Int32) (v : Option Value) (h : Heap) (L : List Loc) : Prop := v = none ∧ Fr n0 L ∧ Keep h0 h [a1] ∧ Exa Z h a1 "com/example/libdamp/libdamp/core/LinearDamping" ∧ Fld Z h a1 "com/example/libdamp/libdamp/core/LinearDamping" "limit" "I" (.int p2)
theorem d_prog_21_method_1_code_0 : decode prog_21_method_1_code 0 = .ok (.aload_n 0, 1) := by decide +kernel
theorem d_prog_21_method_1_code_1 : decode prog_21_method_1_code 1 = .ok (.invokespecial 1, 3) := by decide +kernel
theorem d_prog_21_method_1_code_4 : decode prog_21_method_1_code 4 = .ok (.iload_n 1, 1) := by decide +kernel
theorem d_prog_21_method_1_code_5 : decode prog_21_method_1_code 5 = .ok (.iconst 1, 1) := by decide +kernel
theorem d_prog_21_method_1_code_6 : decode prog_21_method_1_code 6 = .ok (.if_icmp .ge 17, 3) := by decide +kernel
theorem d_prog_21_method_1_code_23 : decode prog_21_method_1_code 23 = .ok (.aload_n 0, 1) := by decide +kernel
theorem d_prog_21_method_1_code_24 : decode prog_21_method_1_code 24 = .ok (.iload_n 1, 1) := by decide +kernel
theorem d_prog_21_method_1_code_25 : decode prog_21_method_1_code 25 = .ok (.putfield 16, 3) := by decide +kernel
theorem d_prog_21_method_1_code_28 : decode prog_21_method_1_code 28 = .ok (.return_, 1) := by decide +kernel
theorem pn_com_example_libdamp_libdamp_core_LinearDamping : plainName "com/example/libdamp/libdamp/core/LinearDamping" = true := by first | (simp [plainName, overriddenIn]; done) | decide +kernel
set_option maxRecDepth 65536 in
set_option maxHeartbeats 40000000 in
theorem rm_ctor (l : Launch) (Z : State) (a0 : Array Value) (hw : ∀ d ∈ tables_1, d.before a0 Z = true) (ws : List Jvm.Cond)  (a1 : Addr) (p2 : Int32) (h0 : Heap) (n0 : Nat) (Z0 : n0 ≤ h0.size) (I0 : Exa Z h0 a1 "com/example/libdamp/libdamp/core/LinearDamping") (I1 : Fld Z h0 a1 "com/example/libdamp/libdamp/core/LinearDamping" "limit" "I" (.int (0 : Int32))) (ge_a1 : n0 ≤ a1) (hl : 1 ≤ p2.toInt) :
    MetFree l (⟨"com/example/libdamp/libdamp/core/LinearDamping", "<init>", "(I)V"⟩ : MethodName) (head1 (Jvm.Cond.code (⟨"com/example/libdamp/libdamp/core/LinearDamping", "<init>", "(I)V"⟩ : MethodName) prog_21_method_1_code 2 none :: ws) ({ frames := 1, cells := 0, slots := 0, locals := 12 } : Room)) (fun a U => a = #[(.ref a1), (.int p2)] ∧ Z.Warmed39 U.vm ∧ U.heap = h0) (fun _ _ _ _ _ => True) (fun _ U o U' => ∃ v L, o = .returned v ∧ (K_rm_ctor  Z h0 n0 a1 p2) v U'.heap L ∧ FrameEnd U o U' L ({ frames := 1, cells := 0, slots := 0, locals := 12 } : Room).cells ({ frames := 1, cells := 0, slots := 0, locals := 12 } : Room).slots) := by
  refine own_body (plainFor_of_name pn_com_example_libdamp_libdamp_core_LinearDamping) ?_
  intro p e s m below meth c s₁ hx hby hml hown hnm hret hlk hZ X0 e0
  have hown : s.vm.findClass "com/example/libdamp/libdamp/core/LinearDamping" = some m.cls := hown
  have N0 := Fr.nil n0
  rw [ef_rm_ctor m a1 p2]
  have K0 := Keep.refl h0 [a1]
  refine own_aloadN X0 hx (pc' := 1) rfl (hb hby d_prog_21_method_1_code_0) rfl rfl ?_
  refine own_initO X0 hx hZ hown (hw _ (List.mem_of_getElem? (i := 11) rfl)) (hw _ (List.mem_of_getElem? (i := 12) rfl)) (hw _ (List.mem_of_getElem? (i := 13) rfl)) e0 (by rw [hml]; rfl) (pc' := 4) rfl (hb hby d_prog_21_method_1_code_1) (by decide) (W := 0) (Nat.le_of_eq rfl) (by decide) ?_
  intro T1 X1 e1
  refine own_iloadN X1 hx (pc' := 5) rfl (hb hby d_prog_21_method_1_code_4) rfl ?_
  refine own_iconst X1 hx (v := (1 : Int32)) (pc' := 6) rfl (hb hby d_prog_21_method_1_code_5) rfl ?_
  refine own_icmpT X1 hx (pc' := 23) (hb hby d_prog_21_method_1_code_6) (XT.ii_ge_t (by rw [Int32.lt_iff_toInt_lt, show (1 : Int32).toInt = 1 from rfl]; omega)) (by decide) (by decide) ?_
  refine own_aloadN X1 hx (pc' := 24) rfl (hb hby d_prog_21_method_1_code_23) rfl rfl ?_
  refine own_iloadN X1 hx (pc' := 25) rfl (hb hby d_prog_21_method_1_code_24) rfl ?_
  refine own_putF X1 hx hZ hown (host := "") (Or.inl (hw _ (List.mem_of_getElem? (i := 14) rfl))) Via.refl e1 I1 I0 (Or.inr ⟨(hw _ (List.mem_of_getElem? (i := 15) rfl)), rfl, hnm⟩) (hw _ (List.mem_of_getElem? (i := 6) rfl)) (ty := .int) (by decide) rfl rfl (pc' := 28) rfl (hb hby d_prog_21_method_1_code_25) ?_
  intro T2 h2 X2 e2 W2
  have F3 := Fld.same W2 I1
  have Siz_4 := own_sizWr W2 Z0
  have Exa_5 := Exa.wr W2 I0
  have N2 := Fr.snoc X2 N0 ge_a1
  have K2 := Keep.wr K0 W2 (Or.inl (by simp))
  refine own_ret X2 hx hlk hret (hb hby d_prog_21_method_1_code_28) (by decide) (by decide) ?_
  rw [e2]
  exact ⟨rfl, N2, K2, Exa_5, F3⟩
theorem ef_rm_tail (m : MethodId) (a1 : Addr) (p2 : Int32) : entryFrame m #[(.ref a1), (.int p2)] 4 = mkF m 0 #[.val (.ref a1), .val (.int p2), .unset, .unset] [] := by first | (simp [entryFrame, mkF, argsToLocals, Value.category]; done) | rfl
def K_rm_tail (lm : Int32) (Z : State) (h0 : Heap) (n0 : Nat) (a1 : Addr) (p2 : Int32) (v : Option Value) (h : Heap) (L : List Loc) : Prop := v = some (.double (own_tail lm p2)) ∧ Fr n0 L ∧ h = h0
theorem d_prog_21_method_5_code_0 : decode prog_21_method_5_code 0 = .ok (.dconst 0, 1) := by decide +kernel
theorem d_prog_21_method_5_code_1 : decode prog_21_method_5_code 1 = .ok (.dstore_n 2, 1) := by decide +kernel
theorem d_prog_21_method_5_code_2 : decode prog_21_method_5_code 2 = .ok (.iload_n 1, 1) := by decide +kernel
theorem d_prog_21_method_5_code_3 : decode prog_21_method_5_code 3 = .ok (.aload_n 0, 1) := by decide +kernel
theorem d_prog_21_method_5_code_4 : decode prog_21_method_5_code 4 = .ok (.getfield 16, 3) := by decide +kernel
theorem d_prog_21_method_5_code_7 : decode prog_21_method_5_code 7 = .ok (.iconst 1, 1) := by decide +kernel
theorem d_prog_21_method_5_code_8 : decode prog_21_method_5_code 8 = .ok (.isub, 1) := by decide +kernel
theorem d_prog_21_method_5_code_9 : decode prog_21_method_5_code 9 = .ok (.if_icmp .ge 35, 3) := by decide +kernel
theorem d_prog_21_method_5_code_12 : decode prog_21_method_5_code 12 = .ok (.aload_n 0, 1) := by decide +kernel
theorem d_prog_21_method_5_code_13 : decode prog_21_method_5_code 13 = .ok (.getfield 16, 3) := by decide +kernel
theorem d_prog_21_method_5_code_16 : decode prog_21_method_5_code 16 = .ok (.iload_n 1, 1) := by decide +kernel
theorem d_prog_21_method_5_code_17 : decode prog_21_method_5_code 17 = .ok (.isub, 1) := by decide +kernel
theorem d_prog_21_method_5_code_18 : decode prog_21_method_5_code 18 = .ok (.iconst 1, 1) := by decide +kernel
theorem d_prog_21_method_5_code_19 : decode prog_21_method_5_code 19 = .ok (.isub, 1) := by decide +kernel
theorem d_prog_21_method_5_code_20 : decode prog_21_method_5_code 20 = .ok (.i2d, 1) := by decide +kernel
theorem d_prog_21_method_5_code_21 : decode prog_21_method_5_code 21 = .ok (.aload_n 0, 1) := by decide +kernel
theorem d_prog_21_method_5_code_22 : decode prog_21_method_5_code 22 = .ok (.getfield 16, 3) := by decide +kernel
theorem d_prog_21_method_5_code_25 : decode prog_21_method_5_code 25 = .ok (.iload_n 1, 1) := by decide +kernel
theorem d_prog_21_method_5_code_26 : decode prog_21_method_5_code 26 = .ok (.isub, 1) := by decide +kernel
theorem d_prog_21_method_5_code_27 : decode prog_21_method_5_code 27 = .ok (.i2d, 1) := by decide +kernel
theorem d_prog_21_method_5_code_28 : decode prog_21_method_5_code 28 = .ok (.dmul, 1) := by decide +kernel
theorem d_prog_21_method_5_code_29 : decode prog_21_method_5_code 29 = .ok (.aload_n 0, 1) := by decide +kernel
theorem d_prog_21_method_5_code_30 : decode prog_21_method_5_code 30 = .ok (.getfield 16, 3) := by decide +kernel
theorem d_prog_21_method_5_code_33 : decode prog_21_method_5_code 33 = .ok (.i2d, 1) := by decide +kernel
theorem d_prog_21_method_5_code_34 : decode prog_21_method_5_code 34 = .ok (.aload_n 0, 1) := by decide +kernel
theorem d_prog_21_method_5_code_35 : decode prog_21_method_5_code 35 = .ok (.getfield 16, 3) := by decide +kernel
theorem d_prog_21_method_5_code_38 : decode prog_21_method_5_code 38 = .ok (.i2d, 1) := by decide +kernel
theorem d_prog_21_method_5_code_39 : decode prog_21_method_5_code 39 = .ok (.dconst 1, 1) := by decide +kernel
theorem d_prog_21_method_5_code_40 : decode prog_21_method_5_code 40 = .ok (.dadd, 1) := by decide +kernel
theorem d_prog_21_method_5_code_41 : decode prog_21_method_5_code 41 = .ok (.dmul, 1) := by decide +kernel
theorem d_prog_21_method_5_code_42 : decode prog_21_method_5_code 42 = .ok (.ddiv, 1) := by decide +kernel
theorem d_prog_21_method_5_code_43 : decode prog_21_method_5_code 43 = .ok (.dstore_n 2, 1) := by decide +kernel
theorem d_prog_21_method_5_code_44 : decode prog_21_method_5_code 44 = .ok (.dload_n 2, 1) := by decide +kernel
theorem d_prog_21_method_5_code_45 : decode prog_21_method_5_code 45 = .ok (.dreturn, 1) := by decide +kernel
set_option maxRecDepth 65536 in
set_option maxHeartbeats 40000000 in
theorem rm_tail (l : Launch) (Z : State) (a0 : Array Value) (hw : ∀ d ∈ tables_1, d.before a0 Z = true) (ws : List Jvm.Cond) (lm : Int32) (a1 : Addr) (p2 : Int32) (h0 : Heap) (n0 : Nat) (Z0 : n0 ≤ h0.size) (I0 : Exa Z h0 a1 "com/example/libdamp/libdamp/core/LinearDamping") (I1 : Fld Z h0 a1 "com/example/libdamp/libdamp/core/LinearDamping" "limit" "I" (.int lm)) (hl : 1 ≤ lm.toInt) (hp0 : 0 ≤ p2.toInt) :
    MetFree l (⟨"com/example/libdamp/libdamp/core/LinearDamping", "tail", "(I)D"⟩ : MethodName) (head1 (Jvm.Cond.code (⟨"com/example/libdamp/libdamp/core/LinearDamping", "tail", "(I)D"⟩ : MethodName) prog_21_method_5_code 4 (some .double) :: ws) ({ frames := 0, cells := 0, slots := 0, locals := 0 } : Room)) (fun a U => a = #[(.ref a1), (.int p2)] ∧ Z.Warmed39 U.vm ∧ U.heap = h0) (fun _ _ _ _ _ => True) (fun _ U o U' => ∃ v L, o = .returned v ∧ (K_rm_tail lm Z h0 n0 a1 p2) v U'.heap L ∧ FrameEnd U o U' L ({ frames := 0, cells := 0, slots := 0, locals := 0 } : Room).cells ({ frames := 0, cells := 0, slots := 0, locals := 0 } : Room).slots) := by
  refine own_body (plainFor_of_name pn_com_example_libdamp_libdamp_core_LinearDamping) ?_
  intro p e s m below meth c s₁ hx hby hml hown hnm hret hlk hZ X0 e0
  have hown : s.vm.findClass "com/example/libdamp/libdamp/core/LinearDamping" = some m.cls := hown
  have N0 := Fr.nil n0
  rw [ef_rm_tail m a1 p2]
  refine own_dconst0 X0 hx (v := FP.dconst0) (pc' := 1) rfl (hb hby d_prog_21_method_5_code_0) rfl ?_
  refine own_dstoreN X0 hx (Ls' := #[.val (.ref a1), .val (.int p2), .val (.double FP.dconst0), .second]) (pc' := 2) rfl (hb hby d_prog_21_method_5_code_1) rfl ?_
  refine own_iloadN X0 hx (pc' := 3) rfl (hb hby d_prog_21_method_5_code_2) rfl ?_
  refine own_aloadN X0 hx (pc' := 4) rfl (hb hby d_prog_21_method_5_code_3) rfl rfl ?_
  refine own_getF X0 hx hZ hown (host := "") (Or.inl (hw _ (List.mem_of_getElem? (i := 14) rfl))) Via.refl e0 I1 (pc' := 7) rfl (hb hby d_prog_21_method_5_code_4) ?_
  intro T1 X1 e1
  refine own_iconst X1 hx (v := (1 : Int32)) (pc' := 8) rfl (hb hby d_prog_21_method_5_code_7) rfl ?_
  refine own_isub X1 hx (v := (lm - (1 : Int32))) (pc' := 9) rfl (hb hby d_prog_21_method_5_code_8) rfl ?_
  by_cases c9_2 : p2 < (lm - (1 : Int32))
  · refine own_icmpF X1 hx (pc' := 12) rfl (hb hby d_prog_21_method_5_code_9) (XT.ii_ge_f c9_2) ?_
    refine own_aloadN X1 hx (pc' := 13) rfl (hb hby d_prog_21_method_5_code_12) rfl rfl ?_
    refine own_getF X1 hx hZ hown (host := "") (Or.inl (hw _ (List.mem_of_getElem? (i := 14) rfl))) Via.refl e1 I1 (pc' := 16) rfl (hb hby d_prog_21_method_5_code_13) ?_
    intro T3 X3 e3
    refine own_iloadN X3 hx (pc' := 17) rfl (hb hby d_prog_21_method_5_code_16) rfl ?_
    refine own_isub X3 hx (v := (lm - p2)) (pc' := 18) rfl (hb hby d_prog_21_method_5_code_17) rfl ?_
    refine own_iconst X3 hx (v := (1 : Int32)) (pc' := 19) rfl (hb hby d_prog_21_method_5_code_18) rfl ?_
    refine own_isub X3 hx (v := ((lm - p2) - (1 : Int32))) (pc' := 20) rfl (hb hby d_prog_21_method_5_code_19) rfl ?_
    refine own_i2d X3 hx (v := (FP.l2d ((lm - p2) - (1 : Int32)).toInt64)) (pc' := 21) rfl (hb hby d_prog_21_method_5_code_20) (i2d_w _) ?_
    refine own_aloadN X3 hx (pc' := 22) rfl (hb hby d_prog_21_method_5_code_21) rfl rfl ?_
    refine own_getF X3 hx hZ hown (host := "") (Or.inl (hw _ (List.mem_of_getElem? (i := 14) rfl))) Via.refl e3 I1 (pc' := 25) rfl (hb hby d_prog_21_method_5_code_22) ?_
    intro T4 X4 e4
    refine own_iloadN X4 hx (pc' := 26) rfl (hb hby d_prog_21_method_5_code_25) rfl ?_
    refine own_isub X4 hx (v := (lm - p2)) (pc' := 27) rfl (hb hby d_prog_21_method_5_code_26) rfl ?_
    refine own_i2d X4 hx (v := (FP.l2d (lm - p2).toInt64)) (pc' := 28) rfl (hb hby d_prog_21_method_5_code_27) (i2d_w _) ?_
    refine own_dmul X4 hx (v := (FP.l2d (((lm - p2) - (1 : Int32)).toInt64 * (lm - p2).toInt64))) (pc' := 29) rfl (hb hby d_prog_21_method_5_code_28) (by rw [own_num hl hp0 c9_2]; exact own_nn _) (own_num hl hp0 c9_2) ?_
    refine own_aloadN X4 hx (pc' := 30) rfl (hb hby d_prog_21_method_5_code_29) rfl rfl ?_
    refine own_getF X4 hx hZ hown (host := "") (Or.inl (hw _ (List.mem_of_getElem? (i := 14) rfl))) Via.refl e4 I1 (pc' := 33) rfl (hb hby d_prog_21_method_5_code_30) ?_
    intro T5 X5 e5
    refine own_i2d X5 hx (v := (FP.l2d lm.toInt64)) (pc' := 34) rfl (hb hby d_prog_21_method_5_code_33) (i2d_w _) ?_
    refine own_aloadN X5 hx (pc' := 35) rfl (hb hby d_prog_21_method_5_code_34) rfl rfl ?_
    refine own_getF X5 hx hZ hown (host := "") (Or.inl (hw _ (List.mem_of_getElem? (i := 14) rfl))) Via.refl e5 I1 (pc' := 38) rfl (hb hby d_prog_21_method_5_code_35) ?_
    intro T6 X6 e6
    refine own_i2d X6 hx (v := (FP.l2d lm.toInt64)) (pc' := 39) rfl (hb hby d_prog_21_method_5_code_38) (i2d_w _) ?_
    refine own_dconst1 X6 hx (v := FP.dconst1) (pc' := 40) rfl (hb hby d_prog_21_method_5_code_39) rfl ?_
    refine own_dadd X6 hx (v := (FP.l2d (lm.toInt64 + (1 : Int64)))) (pc' := 41) rfl (hb hby d_prog_21_method_5_code_40) (by rw [own_den1 (own_pos hl).1 (own_pos hl).2]; exact own_nn _) (own_den1 (own_pos hl).1 (own_pos hl).2) ?_
    refine own_dmul X6 hx (v := (FP.l2d (lm.toInt64 * (lm.toInt64 + (1 : Int64))))) (pc' := 42) rfl (hb hby d_prog_21_method_5_code_41) (by rw [own_den2 (own_pos hl).1 (own_pos hl).2]; exact own_nn _) (own_den2 (own_pos hl).1 (own_pos hl).2) ?_
    refine own_ddiv X6 hx (v := (FP.ddiv (FP.l2d (((lm - p2) - (1 : Int32)).toInt64 * (lm - p2).toInt64)) (FP.l2d (lm.toInt64 * (lm.toInt64 + (1 : Int64)))))) (pc' := 43) rfl (hb hby d_prog_21_method_5_code_42) (own_lnn (own_dnz2 hl)) rfl ?_
    refine own_dstoreN X6 hx (Ls' := #[.val (.ref a1), .val (.int p2), .val (.double (FP.ddiv (FP.l2d (((lm - p2) - (1 : Int32)).toInt64 * (lm - p2).toInt64)) (FP.l2d (lm.toInt64 * (lm.toInt64 + (1 : Int64)))))), .second]) (pc' := 44) rfl (hb hby d_prog_21_method_5_code_43) rfl ?_
    refine own_dloadN X6 hx (pc' := 45) rfl (hb hby d_prog_21_method_5_code_44) rfl ?_
    refine own_dret X6 hx hlk hret (hb hby d_prog_21_method_5_code_45) (by decide) (by decide) ?_
    rw [e6]
    exact ⟨by first | (simp only [own_tail, if_pos c9_2]; done) | (simp only [own_tail, if_pos c9_2]; rfl), N0, rfl⟩
  · refine own_icmpT X1 hx (pc' := 44) (hb hby d_prog_21_method_5_code_9) (XT.ii_ge_t c9_2) (by decide) (by decide) ?_
    refine own_dloadN X1 hx (pc' := 45) rfl (hb hby d_prog_21_method_5_code_44) rfl ?_
    refine own_dret X1 hx hlk hret (hb hby d_prog_21_method_5_code_45) (by decide) (by decide) ?_
    rw [e1]
    exact ⟨by first | (simp only [own_tail, if_neg c9_2]; done) | (simp only [own_tail, if_neg c9_2]; rfl), N0, rfl⟩
theorem own_lim (y : Int32) : 1 ≤ (own_imax (1 : Int32) y).toInt := by
  unfold own_imax
  by_cases c : (1 : Int32) < y
  · rw [if_pos c]; rw [Int32.lt_iff_toInt_lt, show (1 : Int32).toInt = 1 from rfl] at c; omega
  · rw [if_neg c]; decide
theorem own_len1 (x : Int32) : 0 ≤ (x &&& (2147483647 : Int32)).toInt := by
  have e1 : (x &&& 2147483647).toInt = x.toInt % 2 ^ 31 := Jvm.Kit.i32_mask x 2147483647 (k := 31) (by decide) (by decide)
  omega
theorem own_lnz {lm : Int32} (h : 1 ≤ lm.toInt) : lm ≠ 0 := by
  intro q; rw [q] at h; exact absurd h (by decide)
theorem own_len2 {lm : Int32} (h : 1 ≤ lm.toInt) (x : Int32) : 0 ≤ ((x &&& (2147483647 : Int32)) % lm).toInt := by
  have a := own_len1 x
  have q : ((x &&& 2147483647) % lm).toInt = (x &&& 2147483647).toInt % lm.toInt := Jvm.Kit.i32_rem_nonneg a
  have b0 := Int.emod_nonneg (x &&& 2147483647).toInt (show lm.toInt ≠ 0 by omega)
  omega
def own_raw (f l : Int32) : Int32 := if (f &&& (3 : Int32)) = 0 then (l &&& (255 : Int32)) else if (f &&& (3 : Int32)) = (1 : Int32) then (l &&& (67108863 : Int32)) else (l &&& (2147483647 : Int32))
def own_leng (f k lm : Int32) : Int32 := if (f &&& (4 : Int32)) = 0 then (k &&& (2147483647 : Int32)) else ((k &&& (2147483647 : Int32)) % lm)
theorem own_len {lm : Int32} (h : 1 ≤ lm.toInt) (f k : Int32) : 0 ≤ (own_leng f k lm).toInt := by
  unfold own_leng
  by_cases c : (f &&& (4 : Int32)) = 0
  · rw [if_pos c]; exact own_len1 k
  · rw [if_neg c]; exact own_len2 h k
theorem ef_rm_law (m : MethodId) (p1 : Int32) (p2 : Int32) (p3 : Int32) : entryFrame m #[(.int p1), (.int p2), (.int p3)] maxLocals = mkF m 0 #[.val (.int p1), .val (.int p2), .val (.int p3), .unset, .unset, .unset, .unset, .unset, .unset, .unset, .unset, .unset, .unset, .unset, .unset, .unset] [] := by first | (simp [entryFrame, mkF, argsToLocals, Value.category, maxLocals]; done) | rfl
def K_rm_law  (Z : State) (h0 : Heap) (n0 : Nat) (p1 : Int32) (p2 : Int32) (p3 : Int32) (v : Option Value) (h : Heap) (L : List Loc) : Prop := v = some (.int 1) ∧ Fr n0 L
theorem pd__II_I : parseMethodDescriptor "(II)I" = some ⟨[.int, .int], some .int⟩ := by decide +kernel
theorem pd__I_V : parseMethodDescriptor "(I)V" = some ⟨[.int], none⟩ := by decide +kernel
theorem pd__I_D : parseMethodDescriptor "(I)D" = some ⟨[.int], some .double⟩ := by decide +kernel
theorem pd__JJ_J : parseMethodDescriptor "(JJ)J" = some ⟨[.long, .long], some .long⟩ := by decide +kernel
theorem pd__J_J : parseMethodDescriptor "(J)J" = some ⟨[.long], some .long⟩ := by decide +kernel
set_option maxRecDepth 65536 in
set_option maxHeartbeats 40000000 in
theorem rm_law (l : Launch) (Z : State) (a0 : Array Value) (hw : ∀ d ∈ tables_1, d.before a0 Z = true) (ws : List Jvm.Cond)  (p1 : Int32) (p2 : Int32) (p3 : Int32) (h0 : Heap) (n0 : Nat) (Z0 : n0 ≤ h0.size) :
    MetFree l x (head1 (Jvm.Cond.code x code maxLocals ret :: ws) room_1) (fun a U => a = #[(.int p1), (.int p2), (.int p3)] ∧ Z.Warmed39 U.vm ∧ U.heap = h0) (fun _ _ _ _ _ => True) (fun _ U o U' => ∃ v L, o = .returned v ∧ (K_rm_law  Z h0 n0 p1 p2 p3) v U'.heap L ∧ FrameEnd U o U' L room_1.cells room_1.slots) := by
  refine own_body (plainFor_of_name pn_com_example_libdamp_libdamp_core_LinearDampingTailPinLaw) ?_
  intro p e s m below meth c s₁ hx hby hml hown hnm hret hlk hZ X0 e0
  have hown : s.vm.findClass "com/example/libdamp/libdamp/core/LinearDampingTailPinLaw" = some m.cls := hown
  have N0 := Fr.nil n0
  rw [ef_rm_law m p1 p2 p3]
  refine own_iloadN X0 hx (pc' := 1) rfl (hb hby at_0) rfl ?_
  refine own_iconst X0 hx (v := (3 : Int32)) (pc' := 2) rfl (hb hby at_1) rfl ?_
  refine own_iand X0 hx (v := (p3 &&& (3 : Int32))) (pc' := 3) rfl (hb hby at_2) rfl ?_
  refine own_istoreN X0 hx (Ls' := #[.val (.int p1), .val (.int p2), .val (.int p3), .val (.int (p3 &&& (3 : Int32))), .unset, .unset, .unset, .unset, .unset, .unset, .unset, .unset, .unset, .unset, .unset, .unset]) (pc' := 4) rfl (hb hby at_3) rfl ?_
  suffices hj1 : own_Goes p e below s₁ (mkF m 38 #[.val (.int p1), .val (.int p2), .val (.int p3), .val (.int (p3 &&& (3 : Int32))), .val (.int (own_raw p3 p1)), .unset, .unset, .unset, .unset, .unset, .unset, .unset, .unset, .unset, .unset, .unset] []) (own_Ret s (K_rm_law  Z h0 n0 p1 p2 p3) room_1.cells room_1.slots) by
    refine own_iloadN X0 hx (pc' := 5) rfl (hb hby at_4) rfl ?_
    by_cases c5_2 : (p3 &&& (3 : Int32)) = 0
    · refine own_ifF X0 hx (pc' := 8) rfl (hb hby at_5) (XT.i0_ne_f c5_2) ?_
      refine own_iloadN X0 hx (pc' := 9) rfl (hb hby at_8) rfl ?_
      refine own_sipush X0 hx (v := (255 : Int32)) (pc' := 12) rfl (hb hby at_9) rfl ?_
      refine own_iand X0 hx (v := (p1 &&& (255 : Int32))) (pc' := 13) rfl (hb hby at_12) rfl ?_
      refine own_istore X0 hx (Ls' := #[.val (.int p1), .val (.int p2), .val (.int p3), .val (.int (p3 &&& (3 : Int32))), .val (.int (p1 &&& (255 : Int32))), .unset, .unset, .unset, .unset, .unset, .unset, .unset, .unset, .unset, .unset, .unset]) (pc' := 15) rfl (hb hby at_13) rfl ?_
      refine own_goto X0 hx (pc' := 38) (hb hby at_15) (by decide) (by decide) ?_
      rw [show (own_raw p3 p1) = (p1 &&& (255 : Int32)) from by first | (simp only [own_raw, if_pos c5_2]; done) | (simp only [own_raw, if_pos c5_2]; rfl)] at hj1
      exact hj1
    · refine own_ifT X0 hx (pc' := 18) (hb hby at_5) (XT.i0_ne_t c5_2) (by decide) (by decide) ?_
      refine own_iloadN X0 hx (pc' := 19) rfl (hb hby at_18) rfl ?_
      refine own_iconst X0 hx (v := (1 : Int32)) (pc' := 20) rfl (hb hby at_19) rfl ?_
      by_cases c20_3 : (p3 &&& (3 : Int32)) = (1 : Int32)
      · refine own_icmpF X0 hx (pc' := 23) rfl (hb hby at_20) (XT.ii_ne_f c20_3) ?_
        refine own_iloadN X0 hx (pc' := 24) rfl (hb hby at_23) rfl ?_
        refine own_ldc X0 hx hZ hown (hw _ (List.mem_of_getElem? (i := 30) rfl)) (pc' := 26) rfl (hb hby at_24) ?_
        refine own_iand X0 hx (v := (p1 &&& (67108863 : Int32))) (pc' := 27) rfl (hb hby at_26) rfl ?_
        refine own_istore X0 hx (Ls' := #[.val (.int p1), .val (.int p2), .val (.int p3), .val (.int (p3 &&& (3 : Int32))), .val (.int (p1 &&& (67108863 : Int32))), .unset, .unset, .unset, .unset, .unset, .unset, .unset, .unset, .unset, .unset, .unset]) (pc' := 29) rfl (hb hby at_27) rfl ?_
        refine own_goto X0 hx (pc' := 38) (hb hby at_29) (by decide) (by decide) ?_
        rw [show (own_raw p3 p1) = (p1 &&& (67108863 : Int32)) from by first | (simp only [own_raw, if_neg c5_2, if_pos c20_3]; done) | (simp only [own_raw, if_neg c5_2, if_pos c20_3]; rfl)] at hj1
        exact hj1
      · refine own_icmpT X0 hx (pc' := 32) (hb hby at_20) (XT.ii_ne_t c20_3) (by decide) (by decide) ?_
        refine own_iloadN X0 hx (pc' := 33) rfl (hb hby at_32) rfl ?_
        refine own_ldc X0 hx hZ hown (hw _ (List.mem_of_getElem? (i := 0) rfl)) (pc' := 35) rfl (hb hby at_33) ?_
        refine own_iand X0 hx (v := (p1 &&& (2147483647 : Int32))) (pc' := 36) rfl (hb hby at_35) rfl ?_
        refine own_istore X0 hx (Ls' := #[.val (.int p1), .val (.int p2), .val (.int p3), .val (.int (p3 &&& (3 : Int32))), .val (.int (p1 &&& (2147483647 : Int32))), .unset, .unset, .unset, .unset, .unset, .unset, .unset, .unset, .unset, .unset, .unset]) (pc' := 38) rfl (hb hby at_36) rfl ?_
        rw [show (own_raw p3 p1) = (p1 &&& (2147483647 : Int32)) from by first | (simp only [own_raw, if_neg c5_2, if_neg c20_3]; done) | (simp only [own_raw, if_neg c5_2, if_neg c20_3]; rfl)] at hj1
        exact hj1
  refine own_iconst X0 hx (v := (1 : Int32)) (pc' := 39) rfl (hb hby at_38) rfl ?_
  refine own_iload X0 hx (pc' := 41) rfl (hb hby at_39) rfl ?_
  refine own_callS X0 hx hZ (y := (⟨"java/lang/Math", "max", "(II)I"⟩ : MethodName)) hown (hw _ (List.mem_of_getElem? (i := 1) rfl)) (hw _ (List.mem_of_getElem? (i := 2) rfl)) (hw _ (List.mem_of_getElem? (i := 3) rfl)) (hw _ (List.mem_of_getElem? (i := 4) rfl))  (by decide) (rm_max l Z a0 hw [] (1 : Int32) (own_raw p3 p1) h0 n0 Z0) (by decide) (W := 0) (by decide) (by decide) (by decide) e0 (by rw [hml]; rfl) (argsL := [(.int (1 : Int32)), (.int (own_raw p3 p1))]) (rest := []) rfl (lenOf pd__II_I rfl) rfl (Nat.le_of_eq rfl) (pc' := 44) rfl (hb hby at_41) ?_
  rintro _ T4 L4 X4 ⟨rfl, N4, e4⟩
  have M4 := Fr.app N0 N4
  show own_Goes p e below T4 (mkF m 44 #[.val (.int p1), .val (.int p2), .val (.int p3), .val (.int (p3 &&& (3 : Int32))), .val (.int (own_raw p3 p1)), .unset, .unset, .unset, .unset, .unset, .unset, .unset, .unset, .unset, .unset, .unset] [(.int (own_imax (1 : Int32) (own_raw p3 p1)))]) _
  have hlm := own_lim (own_raw p3 p1)
  generalize (own_imax (1 : Int32) (own_raw p3 p1)) = lm at hlm ⊢
  refine own_istore X4 hx (Ls' := #[.val (.int p1), .val (.int p2), .val (.int p3), .val (.int (p3 &&& (3 : Int32))), .val (.int (own_raw p3 p1)), .val (.int lm), .unset, .unset, .unset, .unset, .unset, .unset, .unset, .unset, .unset, .unset]) (pc' := 46) rfl (hb hby at_44) rfl ?_
  suffices hj5 : own_Goes p e below T4 (mkF m 68 #[.val (.int p1), .val (.int p2), .val (.int p3), .val (.int (p3 &&& (3 : Int32))), .val (.int (own_raw p3 p1)), .val (.int lm), .val (.int (own_leng p3 p2 lm)), .unset, .unset, .unset, .unset, .unset, .unset, .unset, .unset, .unset] []) (own_Ret s (K_rm_law  Z h0 n0 p1 p2 p3) room_1.cells room_1.slots) by
    refine own_iloadN X4 hx (pc' := 47) rfl (hb hby at_46) rfl ?_
    refine own_iconst X4 hx (v := (4 : Int32)) (pc' := 48) rfl (hb hby at_47) rfl ?_
    refine own_iand X4 hx (v := (p3 &&& (4 : Int32))) (pc' := 49) rfl (hb hby at_48) rfl ?_
    by_cases c49_6 : (p3 &&& (4 : Int32)) = 0
    · refine own_ifT X4 hx (pc' := 62) (hb hby at_49) (XT.i0_eq_t c49_6) (by decide) (by decide) ?_
      refine own_iloadN X4 hx (pc' := 63) rfl (hb hby at_62) rfl ?_
      refine own_ldc X4 hx hZ hown (hw _ (List.mem_of_getElem? (i := 0) rfl)) (pc' := 65) rfl (hb hby at_63) ?_
      refine own_iand X4 hx (v := (p2 &&& (2147483647 : Int32))) (pc' := 66) rfl (hb hby at_65) rfl ?_
      refine own_istore X4 hx (Ls' := #[.val (.int p1), .val (.int p2), .val (.int p3), .val (.int (p3 &&& (3 : Int32))), .val (.int (own_raw p3 p1)), .val (.int lm), .val (.int (p2 &&& (2147483647 : Int32))), .unset, .unset, .unset, .unset, .unset, .unset, .unset, .unset, .unset]) (pc' := 68) rfl (hb hby at_66) rfl ?_
      rw [show (own_leng p3 p2 lm) = (p2 &&& (2147483647 : Int32)) from by first | (simp only [own_leng, if_pos c49_6]; done) | (simp only [own_leng, if_pos c49_6]; rfl)] at hj5
      exact hj5
    · refine own_ifF X4 hx (pc' := 52) rfl (hb hby at_49) (XT.i0_eq_f c49_6) ?_
      refine own_iloadN X4 hx (pc' := 53) rfl (hb hby at_52) rfl ?_
      refine own_ldc X4 hx hZ hown (hw _ (List.mem_of_getElem? (i := 0) rfl)) (pc' := 55) rfl (hb hby at_53) ?_
      refine own_iand X4 hx (v := (p2 &&& (2147483647 : Int32))) (pc' := 56) rfl (hb hby at_55) rfl ?_
      refine own_iload X4 hx (pc' := 58) rfl (hb hby at_56) rfl ?_
      refine own_irem X4 hx (v := ((p2 &&& (2147483647 : Int32)) % lm)) (pc' := 59) rfl (hb hby at_58) (own_lnz hlm) rfl ?_
      refine own_goto X4 hx (pc' := 66) (hb hby at_59) (by decide) (by decide) ?_
      refine own_istore X4 hx (Ls' := #[.val (.int p1), .val (.int p2), .val (.int p3), .val (.int (p3 &&& (3 : Int32))), .val (.int (own_raw p3 p1)), .val (.int lm), .val (.int ((p2 &&& (2147483647 : Int32)) % lm)), .unset, .unset, .unset, .unset, .unset, .unset, .unset, .unset, .unset]) (pc' := 68) rfl (hb hby at_66) rfl ?_
      rw [show (own_leng p3 p2 lm) = ((p2 &&& (2147483647 : Int32)) % lm) from by first | (simp only [own_leng, if_neg c49_6]; done) | (simp only [own_leng, if_neg c49_6]; rfl)] at hj5
      exact hj5
  have hln := own_len hlm p3 p2
  generalize (own_leng p3 p2 lm) = ln at hln ⊢
  refine own_new X4 hx hZ hown (hw _ (List.mem_of_getElem? (i := 5) rfl)) (hw _ (List.mem_of_getElem? (i := 6) rfl)) (hw _ (List.mem_of_getElem? (i := 7) rfl)) e4 (pc' := 71) rfl (hb hby at_68) (by decide) (by decide) ?_
  intro T7 h7 X7 e7 E7 A7 D7
  obtain ⟨o7, g7⟩ : ∃ z, z = h0.size := ⟨_, rfl⟩
  rw [← g7] at A7 D7 ⊢
  have ge7 : n0 ≤ o7 := g7 ▸ Z0
  have Siz_8 := Nat.le_trans Z0 E7.1
  have F9 : Fld Z h7 o7 "com/example/libdamp/libdamp/core/LinearDamping" "limit" "I" (.int (0 : Int32)) := D7 (Or.inr (hw _ (List.mem_of_getElem? (i := 15) rfl))) (ty := .int) (by decide)
  refine own_dup X7 hx (pc' := 72) rfl (hb hby at_71) rfl ?_
  refine own_iload X7 hx (pc' := 74) rfl (hb hby at_72) rfl ?_
  refine own_callC X7 hx hZ (y := (⟨"com/example/libdamp/libdamp/core/LinearDamping", "<init>", "(I)V"⟩ : MethodName)) rfl hown (hw _ (List.mem_of_getElem? (i := 8) rfl)) (hw _ (List.mem_of_getElem? (i := 9) rfl)) (hw _ (List.mem_of_getElem? (i := 7) rfl)) (hw _ (List.mem_of_getElem? (i := 10) rfl))  (by decide) (rm_ctor l Z a0 hw [] o7 lm h7 n0 Siz_8 A7 F9 ge7 hlm) (by decide) (W := 1) (by decide) (by decide) (by decide) e7 (by rw [hml]; rfl) (argsL := [(.int lm)]) (rest := [(.ref o7)]) rfl (lenOf pd__I_V rfl) rfl (Nat.le_of_eq rfl) (pc' := 77) rfl (hb hby at_74) ?_
  rintro _ T10 L10 X10 ⟨rfl, N10, K10, G10_0, G10_1⟩
  have M10 := Fr.app M4 N10
  obtain ⟨h10, e10⟩ : ∃ z, T10.heap = z := ⟨_, rfl⟩
  rw [e10] at K10 G10_0 G10_1
  have Siz_11 := Nat.le_trans Siz_8 K10.1
  have Exa_12 := A7.keep K10
  show own_Goes p e below T10 (mkF m 77 #[.val (.int p1), .val (.int p2), .val (.int p3), .val (.int (p3 &&& (3 : Int32))), .val (.int (own_raw p3 p1)), .val (.int lm), .val (.int ln), .unset, .unset, .unset, .unset, .unset, .unset, .unset, .unset, .unset] [(.ref o7)]) _
  refine own_astore X10 hx (Ls' := #[.val (.int p1), .val (.int p2), .val (.int p3), .val (.int (p3 &&& (3 : Int32))), .val (.int (own_raw p3 p1)), .val (.int lm), .val (.int ln), .val (.ref o7), .unset, .unset, .unset, .unset, .unset, .unset, .unset, .unset]) (pc' := 79) rfl (hb hby at_77) rfl rfl ?_
  refine own_aload X10 hx (pc' := 81) rfl (hb hby at_79) rfl rfl ?_
  refine own_iload X10 hx (pc' := 83) rfl (hb hby at_81) rfl ?_
  refine own_callV X10 hx hZ (y := (⟨"com/example/libdamp/libdamp/core/LinearDamping", "tail", "(I)D"⟩ : MethodName)) hown (hw _ (List.mem_of_getElem? (i := 16) rfl)) (hw _ (List.mem_of_getElem? (i := 17) rfl)) (hw _ (List.mem_of_getElem? (i := 19) rfl)) (hw _ (List.mem_of_getElem? (i := 18) rfl)) (hw _ (List.mem_of_getElem? (i := 7) rfl)) (hw _ (List.mem_of_getElem? (i := 20) rfl)) Exa_12  (by decide) (rm_tail l Z a0 hw [] lm o7 ln h10 n0 Siz_11 Exa_12 G10_1 hlm hln) (by decide) (W := 0) (by decide) (by decide) (by decide) e10 (by rw [hml]; rfl) (argsL := [(.int ln)]) (rest := []) rfl (lenOf pd__I_D rfl) rfl (Nat.le_of_eq rfl) (pc' := 86) rfl (hb hby at_83) ?_
  rintro _ T14 L14 X14 ⟨rfl, N14, e14⟩
  have M14 := Fr.app M10 N14
  show own_Goes p e below T14 (mkF m 86 #[.val (.int p1), .val (.int p2), .val (.int p3), .val (.int (p3 &&& (3 : Int32))), .val (.int (own_raw p3 p1)), .val (.int lm), .val (.int ln), .val (.ref o7), .unset, .unset, .unset, .unset, .unset, .unset, .unset, .unset] [(.double (own_tail lm ln))]) _
  refine own_dstore X14 hx (Ls' := #[.val (.int p1), .val (.int p2), .val (.int p3), .val (.int (p3 &&& (3 : Int32))), .val (.int (own_raw p3 p1)), .val (.int lm), .val (.int ln), .val (.ref o7), .val (.double (own_tail lm ln)), .second, .unset, .unset, .unset, .unset, .unset, .unset]) (pc' := 88) rfl (hb hby at_86) rfl ?_
  refine own_lconst X14 hx (v := (0 : Int64)) (pc' := 89) rfl (hb hby at_88) rfl ?_
  refine own_iload X14 hx (pc' := 91) rfl (hb hby at_89) rfl ?_
  refine own_i2l X14 hx (v := lm.toInt64) (pc' := 92) rfl (hb hby at_91) rfl ?_
  refine own_lconst X14 hx (v := (1 : Int64)) (pc' := 93) rfl (hb hby at_92) rfl ?_
  refine own_lsub X14 hx (v := (lm.toInt64 - (1 : Int64))) (pc' := 94) rfl (hb hby at_93) rfl ?_
  refine own_iload X14 hx (pc' := 96) rfl (hb hby at_94) rfl ?_
  refine own_i2l X14 hx (v := ln.toInt64) (pc' := 97) rfl (hb hby at_96) rfl ?_
  refine own_lsub X14 hx (v := ((lm.toInt64 - (1 : Int64)) - ln.toInt64)) (pc' := 98) rfl (hb hby at_97) rfl ?_
  refine own_callS X14 hx hZ (y := (⟨"java/lang/Math", "max", "(JJ)J"⟩ : MethodName)) hown (hw _ (List.mem_of_getElem? (i := 21) rfl)) (hw _ (List.mem_of_getElem? (i := 22) rfl)) (hw _ (List.mem_of_getElem? (i := 3) rfl)) (hw _ (List.mem_of_getElem? (i := 23) rfl))  (by decide) (rm_maxJ l Z a0 hw [] (0 : Int64) ((lm.toInt64 - (1 : Int64)) - ln.toInt64) h10 n0 Siz_11) (by decide) (W := 0) (by decide) (by decide) (by decide) e14 (by rw [hml]; rfl) (argsL := [(.long (0 : Int64)), (.long ((lm.toInt64 - (1 : Int64)) - ln.toInt64))]) (rest := []) rfl (lenOf pd__JJ_J rfl) rfl (Nat.le_of_eq rfl) (pc' := 101) rfl (hb hby at_98) ?_
  rintro _ T15 L15 X15 ⟨rfl, N15, e15⟩
  have M15 := Fr.app M14 N15
  show own_Goes p e below T15 (mkF m 101 #[.val (.int p1), .val (.int p2), .val (.int p3), .val (.int (p3 &&& (3 : Int32))), .val (.int (own_raw p3 p1)), .val (.int lm), .val (.int ln), .val (.ref o7), .val (.double (own_tail lm ln)), .second, .unset, .unset, .unset, .unset, .unset, .unset] [(.long (own_lmax (0 : Int64) ((lm.toInt64 - (1 : Int64)) - ln.toInt64)))]) _
  refine own_lstore X15 hx (Ls' := #[.val (.int p1), .val (.int p2), .val (.int p3), .val (.int (p3 &&& (3 : Int32))), .val (.int (own_raw p3 p1)), .val (.int lm), .val (.int ln), .val (.ref o7), .val (.double (own_tail lm ln)), .second, .val (.long (own_lmax (0 : Int64) ((lm.toInt64 - (1 : Int64)) - ln.toInt64))), .second, .unset, .unset, .unset, .unset]) (pc' := 103) rfl (hb hby at_101) rfl ?_
  refine own_lload X15 hx (pc' := 105) rfl (hb hby at_103) rfl ?_
  refine own_callS X15 hx hZ (y := (⟨"com/example/libdamp/libdamp/core/LinearDampingTailPinLaw", "triangle", "(J)J"⟩ : MethodName)) hown (hw _ (List.mem_of_getElem? (i := 24) rfl)) (hw _ (List.mem_of_getElem? (i := 25) rfl)) (hw _ (List.mem_of_getElem? (i := 26) rfl)) (hw _ (List.mem_of_getElem? (i := 27) rfl))  (by decide) (rm_tri l Z a0 hw [] (own_lmax (0 : Int64) ((lm.toInt64 - (1 : Int64)) - ln.toInt64)) h10 n0 Siz_11) (by decide) (W := 0) (by decide) (by decide) (by decide) e15 (by rw [hml]; rfl) (argsL := [(.long (own_lmax (0 : Int64) ((lm.toInt64 - (1 : Int64)) - ln.toInt64)))]) (rest := []) rfl (lenOf pd__J_J rfl) rfl (Nat.le_of_eq rfl) (pc' := 108) rfl (hb hby at_105) ?_
  rintro _ T16 L16 X16 ⟨rfl, N16, e16⟩
  have M16 := Fr.app M15 N16
  show own_Goes p e below T16 (mkF m 108 #[.val (.int p1), .val (.int p2), .val (.int p3), .val (.int (p3 &&& (3 : Int32))), .val (.int (own_raw p3 p1)), .val (.int lm), .val (.int ln), .val (.ref o7), .val (.double (own_tail lm ln)), .second, .val (.long (own_lmax (0 : Int64) ((lm.toInt64 - (1 : Int64)) - ln.toInt64))), .second, .unset, .unset, .unset, .unset] [(.long (((own_lmax (0 : Int64) ((lm.toInt64 - (1 : Int64)) - ln.toInt64)) * ((own_lmax (0 : Int64) ((lm.toInt64 - (1 : Int64)) - ln.toInt64)) + (1 : Int64))) / (2 : Int64)))]) _
  refine own_l2d X16 hx (v := (FP.l2d (((own_lmax (0 : Int64) ((lm.toInt64 - (1 : Int64)) - ln.toInt64)) * ((own_lmax (0 : Int64) ((lm.toInt64 - (1 : Int64)) - ln.toInt64)) + (1 : Int64))) / (2 : Int64)))) (pc' := 109) rfl (hb hby at_108) rfl ?_
  refine own_iload X16 hx (pc' := 111) rfl (hb hby at_109) rfl ?_
  refine own_i2l X16 hx (v := lm.toInt64) (pc' := 112) rfl (hb hby at_111) rfl ?_
  refine own_callS X16 hx hZ (y := (⟨"com/example/libdamp/libdamp/core/LinearDampingTailPinLaw", "triangle", "(J)J"⟩ : MethodName)) hown (hw _ (List.mem_of_getElem? (i := 24) rfl)) (hw _ (List.mem_of_getElem? (i := 25) rfl)) (hw _ (List.mem_of_getElem? (i := 26) rfl)) (hw _ (List.mem_of_getElem? (i := 27) rfl))  (by decide) (rm_tri l Z a0 hw [] lm.toInt64 h10 n0 Siz_11) (by decide) (W := 2) (by decide) (by decide) (by decide) e16 (by rw [hml]; rfl) (argsL := [(.long lm.toInt64)]) (rest := [(.double (FP.l2d (((own_lmax (0 : Int64) ((lm.toInt64 - (1 : Int64)) - ln.toInt64)) * ((own_lmax (0 : Int64) ((lm.toInt64 - (1 : Int64)) - ln.toInt64)) + (1 : Int64))) / (2 : Int64))))]) rfl (lenOf pd__J_J rfl) rfl (Nat.le_of_eq rfl) (pc' := 115) rfl (hb hby at_112) ?_
  rintro _ T17 L17 X17 ⟨rfl, N17, e17⟩
  have M17 := Fr.app M16 N17
  show own_Goes p e below T17 (mkF m 115 #[.val (.int p1), .val (.int p2), .val (.int p3), .val (.int (p3 &&& (3 : Int32))), .val (.int (own_raw p3 p1)), .val (.int lm), .val (.int ln), .val (.ref o7), .val (.double (own_tail lm ln)), .second, .val (.long (own_lmax (0 : Int64) ((lm.toInt64 - (1 : Int64)) - ln.toInt64))), .second, .unset, .unset, .unset, .unset] [(.long ((lm.toInt64 * (lm.toInt64 + (1 : Int64))) / (2 : Int64))), (.double (FP.l2d (((own_lmax (0 : Int64) ((lm.toInt64 - (1 : Int64)) - ln.toInt64)) * ((own_lmax (0 : Int64) ((lm.toInt64 - (1 : Int64)) - ln.toInt64)) + (1 : Int64))) / (2 : Int64))))]) _
  refine own_l2d X17 hx (v := (FP.l2d ((lm.toInt64 * (lm.toInt64 + (1 : Int64))) / (2 : Int64)))) (pc' := 116) rfl (hb hby at_115) rfl ?_
  refine own_ddiv X17 hx (v := (own_tail lm ln)) (pc' := 117) rfl (hb hby at_116) (own_lnn (own_dnz hlm)) (own_same hlm hln) ?_
  refine own_dstore X17 hx (Ls' := #[.val (.int p1), .val (.int p2), .val (.int p3), .val (.int (p3 &&& (3 : Int32))), .val (.int (own_raw p3 p1)), .val (.int lm), .val (.int ln), .val (.ref o7), .val (.double (own_tail lm ln)), .second, .val (.long (own_lmax (0 : Int64) ((lm.toInt64 - (1 : Int64)) - ln.toInt64))), .second, .val (.double (own_tail lm ln)), .second, .unset, .unset]) (pc' := 119) rfl (hb hby at_117) rfl ?_
  have hP := own_PT hlm hln
  generalize (own_tail lm ln) = rr at hP ⊢
  refine own_iload X17 hx (pc' := 121) rfl (hb hby at_119) rfl ?_
  refine own_ldc X17 hx hZ hown (hw _ (List.mem_of_getElem? (i := 29) rfl)) (pc' := 123) rfl (hb hby at_121) ?_
  by_cases c123_18 : (67108864 : Int32) < lm
  · refine own_icmpT X17 hx (pc' := 140) (hb hby at_123) (XT.ii_gt_t c123_18) (by decide) (by decide) ?_
    refine own_dload X17 hx (pc' := 142) rfl (hb hby at_140) rfl ?_
    refine own_ldcD X17 hx hZ hown (hw _ (List.mem_of_getElem? (i := 31) rfl)) (pc' := 145) rfl (hb hby at_142) ?_
    refine own_dmul X17 hx (v := (FP.dmul rr (4391009636686233600 : UInt64))) (pc' := 146) rfl (hb hby at_145) (own_nnP (own_Ptol hP)) rfl ?_
    refine own_dstore X17 hx (Ls' := #[.val (.int p1), .val (.int p2), .val (.int p3), .val (.int (p3 &&& (3 : Int32))), .val (.int (own_raw p3 p1)), .val (.int lm), .val (.int ln), .val (.ref o7), .val (.double rr), .second, .val (.long (own_lmax (0 : Int64) ((lm.toInt64 - (1 : Int64)) - ln.toInt64))), .second, .val (.double rr), .second, .val (.double (FP.dmul rr (4391009636686233600 : UInt64))), .second]) (pc' := 148) rfl (hb hby at_146) rfl ?_
    refine own_dload X17 hx (pc' := 150) rfl (hb hby at_148) rfl ?_
    refine own_dload X17 hx (pc' := 152) rfl (hb hby at_150) rfl ?_
    refine own_dload X17 hx (pc' := 154) rfl (hb hby at_152) rfl ?_
    refine own_dsub X17 hx (v := (FP.dsub rr (FP.dmul rr (4391009636686233600 : UInt64)))) (pc' := 155) rfl (hb hby at_154) (own_nsub hP (own_Ptol hP)) rfl ?_
    refine own_dcmp X17 hx (v := (cmpValue (FP.dcmp rr (FP.dsub rr (FP.dmul rr (4391009636686233600 : UInt64)))) .l)) (pc' := 156) rfl (hb hby at_155) rfl ?_
    refine own_ifF X17 hx (pc' := 159) rfl (hb hby at_156) (XT.i0_lt_f (own_ge hP (own_Ptol hP) _)) ?_
    refine own_dload X17 hx (pc' := 161) rfl (hb hby at_159) rfl ?_
    refine own_dload X17 hx (pc' := 163) rfl (hb hby at_161) rfl ?_
    refine own_dload X17 hx (pc' := 165) rfl (hb hby at_163) rfl ?_
    refine own_dadd X17 hx (v := (FP.dadd rr (FP.dmul rr (4391009636686233600 : UInt64)))) (pc' := 166) rfl (hb hby at_165) (own_nadd hP (own_Ptol hP)) rfl ?_
    refine own_dcmp X17 hx (v := (cmpValue (FP.dcmp rr (FP.dadd rr (FP.dmul rr (4391009636686233600 : UInt64)))) .g)) (pc' := 167) rfl (hb hby at_166) rfl ?_
    refine own_ifF X17 hx (pc' := 170) rfl (hb hby at_167) (XT.i0_gt_f (own_le hP (own_Ptol hP) _)) ?_
    refine own_iconst X17 hx (v := (1 : Int32)) (pc' := 171) rfl (hb hby at_170) rfl ?_
    refine own_goto X17 hx (pc' := 175) (hb hby at_171) (by decide) (by decide) ?_
    refine own_zret X17 hx hlk hret (by simp) (hb hby at_175) (by decide) (by decide) ?_
    rw [e17]
    exact ⟨rfl, M17⟩
  · refine own_icmpF X17 hx (pc' := 126) rfl (hb hby at_123) (XT.ii_gt_f c123_18) ?_
    refine own_dload X17 hx (pc' := 128) rfl (hb hby at_126) rfl ?_
    refine own_dload X17 hx (pc' := 130) rfl (hb hby at_128) rfl ?_
    refine own_dcmp X17 hx (v := (0 : Int32)) (pc' := 131) rfl (hb hby at_130) (dcmpV_self (own_nnP hP) .l) ?_
    refine own_ifF X17 hx (pc' := 134) rfl (hb hby at_131) (XT.i0_ne_f (by decide)) ?_
    refine own_iconst X17 hx (v := (1 : Int32)) (pc' := 135) rfl (hb hby at_134) rfl ?_
    refine own_goto X17 hx (pc' := 139) (hb hby at_135) (by decide) (by decide) ?_
    refine own_zret X17 hx hlk hret (by simp) (hb hby at_139) (by decide) (by decide) ?_
    rw [e17]
    exact ⟨rfl, M17⟩
set_option maxRecDepth 65536 in
set_option maxHeartbeats 40000000 in
theorem comes_1 {Post : Tables → Env → Array Value → State → Outcome → State → Prop} (hpost : ∀ tb e args s v u, (limb_1_1.after args s (.returned v) u = true ∧ limb_1_2.after args s (.returned v) u = true ∧ True) → FrameEnd s (.returned v) u (Jvm.fieldLocs frame_1_writes args s ++ Jvm.arrayLocs frame_1_arrays args s ++ Jvm.staticLocs frame_1_statics s) 16 128 → Post tb e args s (.returned v) u) :
    ArmFor flags0 classFile x code maxLocals ret World_1 tables_1 room_1 Calls_1 rest_1 Pre_1 Post := by
  intro l hfl _ _ p e ha hc hk s m args below hf hA hF happ hP
  obtain ⟨hcalls, hrest, hpre⟩ := hP
  obtain ⟨-, -, -, hnamed, -, -, -, hat⟩ := (Spec.applies_iff hf).mp happ
  obtain ⟨hg, hn⟩ := and_e (Cond.before_iff.mp (show (Jvm.Cond.and given_1 narrow_1).before args s = true from hpre))
  obtain ⟨h1, hg1⟩ := and_e hg
  obtain ⟨w0, w1, w2, rfl⟩ : ∃ w0 w1 w2 : Value, args = #[w0, w1, w2] := by
    have hs : args.size = 3 := by simpa [Cond.value, given_1] using h1
    obtain ⟨L⟩ := args
    match L, hs with
    | [w0, w1, w2], _ => exact ⟨w0, w1, w2, rfl⟩
  have hw := fun d (hd : d ∈ tables_1) => atoms_spec (ws := Jvm.Cond.code x code maxLocals ret :: tables_1) hat d (List.mem_cons_of_mem _ hd)
  have hfit : Fit s := fun {y c} hc i hi => by
    obtain ⟨ha, rfl⟩ := Array.getElem?_eq_some_iff.mp hc
    have q := List.all_eq_true.mp ((Array.all_eq_true_iff_forall_mem.mp hF) _ (Array.getElem_mem ha)) i (List.mem_range.mpr hi)
    simpa [Array.getElem?_eq_getElem hi] using q
  obtain ⟨q0, hg2⟩ := and_e hg1
  obtain ⟨i0, ee0⟩ := is_v q0
  obtain rfl : w0 = (.int i0) := Option.some.inj ee0
  obtain ⟨q1, hg3⟩ := and_e hg2
  obtain ⟨i1, ee1⟩ := is_v q1
  obtain rfl : w1 = (.int i1) := Option.some.inj ee1
  obtain ⟨i2, ee2⟩ := is_v hg3
  obtain rfl : w2 = (.int i2) := Option.some.inj ee2
  obtain ⟨n, o, h1, h2, h3, _, L, rfl, ⟨rfl, N⟩, hq⟩ := rm_law l s _ hw tables_1  i0 i1 i2 s.heap s.heap.size (Nat.le_refl _) p e ha hc hk s m _ below hf ((Spec.applies_iff_loose hf).mp happ).1 ⟨rfl, State.Warmed39.refl s, rfl⟩ trivial
  refine ⟨n, _, h1, h2, h3, hpost _ _ _ _ _ _ ⟨Cond.after_iff.mpr rfl, Cond.after_iff.mpr (eq_i res_at (Term.int_eval (1)) rfl), trivial⟩ ⟨hq.1, hq.2.1, (hq.2.2.sift fun y hy => Or.inr (N y hy)).mono (by decide) (by decide)⟩⟩
theorem main_1_1 : Claimed_1_1 := comes_1 fun _ _ _ _ _ _ h hF => ⟨h.1, hF⟩
theorem main_1_2 : Claimed_1_2 := comes_1 fun _ _ _ _ _ _ h hF => ⟨h.2.1, hF⟩
end Jvm.Pilot.@@N@@
namespace Jvm.Pilot.@@N@@
open Jvm Jvm.ClassFile Sem Op Lib Jvm.Free Jvm.Stand Jvm.Pilot.@@N@@.Jvm.D
/-! MADE BY PROGRAM (witnessworld.py) out of the Statement's table words and the real class files: 11 classes; the members and pool entries that the words name. The judged class is class 1, her method 2. -/
namespace start1
open Jvm.ClassFile
def u (s : String) : CpInfo := .utf8 (stringToUtf16 s)
/-- a pool by its gaps: so many unusable entries, then the entry; so many at the end -/
def gap : Nat → List CpInfo → List CpInfo
  | 0, r => r
  | n + 1, r => .unusable :: gap n r
def poolList (es : List (Nat × CpInfo)) (last : Nat) : List CpInfo := es.foldr (fun e r => gap e.1 (e.2 :: r)) (gap last [])
def pool (es : List (Nat × CpInfo)) (last : Nat) : Array CpInfo := ⟨poolList es last⟩
def fileOf (pool : Array CpInfo) (this : Nat) (attrs : Array Attribute := #[]) (ms : Array MethodInfo := #[]) (fl : Nat := 33) (sup : Nat := 0) (ifs : Array Nat := #[]) (fds : Array FieldInfo := #[]) : ClassFile where
  minorVersion := 0
  majorVersion := 65
  constantPool := pool
  accessFlags := fl
  thisClass := this
  superClass := sup
  interfaces := ifs
  fields := fds
  methods := ms
  attributes := attrs
def plain (name : String) (sup : Option ClassId) : Class where
  name := name
  kind := .ordinary
  loader := none
  accessFlags := 33
  super := sup
  interfaces := #[]
  cf := none
  fields := #[]
  methods := #[]
  instanceTypes := #[]
  staticTypes := #[]
  resolved := #[]
  callSites := []
  init := .initialized
  statics := none
  mirror := none

def pool0 : Array CpInfo := pool [(5, u "<init>"), (0, u "()V"), (1, .class_ 10), (1, u "java/lang/Object")] 113

def k0c0 : Code := { maxStack := 0, maxLocals := 1, code := object_method_1_code, exceptionTable := #[], attributes := #[] }
def k0m0 : Method := { name := "<init>", desc := "()V", sig := { parameters := [], returnType := none }, accessFlags := 1, code := some k0c0 }
/-- java/lang/Object -/
def k0 : Class := { plain "java/lang/Object" none with
  accessFlags := 33
  interfaces := #[]
  cf := some (fileOf pool0 8 #[] #[{ accessFlags := 1, nameIndex := 5, descriptorIndex := 6, attributes := #[] }] 33 0 #[] #[])
  fields := #[]
  methods := #[k0m0]
  instanceTypes := #[]
  staticTypes := #[]
  resolved := Array.replicate 124 none
  statics := none }

def pool1 : Array CpInfo := pool [(2, .class_ 4), (1, u "java/lang/Object"), (0, u "<init>"), (0, u "()V"), (0, .long 2), (1, .integer 67108863), (0, .integer 2147483647), (0, .methodref 12 13), (0, .class_ 14), (0, .nameAndType 15 16), (0, u "java/lang/Math"), (0, u "max"), (0, u "(II)I"), (0, .class_ 18), (0, u "com/example/libdamp/libdamp/core/LinearDamping"), (0, .methodref 17 20), (0, .nameAndType 5 21), (0, u "(I)V"), (0, .methodref 17 23), (0, .nameAndType 24 25), (0, u "tail"), (0, u "(I)D"), (0, .methodref 12 27), (0, .nameAndType 15 28), (0, u "(JJ)J"), (0, .methodref 30 31), (0, .class_ 32), (0, .nameAndType 33 34), (0, u "com/example/libdamp/libdamp/core/LinearDampingTailPinLaw"), (0, u "triangle"), (0, u "(J)J"), (0, .integer 67108864), (0, .double 4391009636686233600), (3, u "law"), (0, u "(III)Z")] 3

def k1m0 : Method := { name := "<init>", desc := "()V", sig := { parameters := [], returnType := none }, accessFlags := 2, code := none }
def k1c1 : Code := { maxStack := 6, maxLocals := 2, code := method_2_code, exceptionTable := #[], attributes := #[] }
def k1m1 : Method := { name := "triangle", desc := "(J)J", sig := { parameters := [.long], returnType := some .long }, accessFlags := 10, code := some k1c1 }
def k1c2 : Code := { maxStack := 6, maxLocals := 16, code := code, exceptionTable := #[], attributes := #[] }
def k1m2 : Method := { name := "law", desc := "(III)Z", sig := { parameters := [.int, .int, .int], returnType := some .boolean }, accessFlags := 9, code := some k1c2 }
/-- com/example/libdamp/libdamp/core/LinearDampingTailPinLaw -/
def k1 : Class := { plain "com/example/libdamp/libdamp/core/LinearDampingTailPinLaw" (some 0) with
  accessFlags := 49
  interfaces := #[]
  cf := some (fileOf pool1 30 #[] #[{ accessFlags := 2, nameIndex := 5, descriptorIndex := 6, attributes := #[] }, { accessFlags := 10, nameIndex := 33, descriptorIndex := 34, attributes := #[] }, { accessFlags := 9, nameIndex := 40, descriptorIndex := 41, attributes := #[] }] 49 2 #[] #[])
  fields := #[]
  methods := #[k1m0, k1m1, k1m2]
  instanceTypes := #[]
  staticTypes := #[]
  resolved := Array.replicate 45 none
  statics := none }

def pool2 : Array CpInfo := pool [(1, .class_ 2), (0, u "java/lang/Math"), (1, .class_ 6), (1, u "java/lang/Object"), (0, u "<init>"), (0, u "()V"), (89, .class_ 100), (1, u "java/lang/Math$RandomNumberGeneratorHolder"), (20, u "(JJ)J"), (50, u "negativeZeroFloatBits"), (0, u "J"), (2, u "negativeZeroDoubleBits"), (21, u "max"), (46, u "$assertionsDisabled"), (0, u "Z"), (88, u "(II)I"), (2, u "twoToTheDoubleScaleDown"), (0, u "D"), (4, u "twoToTheDoubleScaleUp"), (9, u "E"), (3, u "PI"), (2, u "TAU"), (2, u "DEGREES_TO_RADIANS"), (0, u "RADIANS_TO_DEGREES")] 94

def k2m0 : Method := { name := "<init>", desc := "()V", sig := { parameters := [], returnType := none }, accessFlags := 2, code := none }
def k2c1 : Code := { maxStack := 2, maxLocals := 2, code := jdk_29_method_65_code, exceptionTable := #[], attributes := #[] }
def k2m1 : Method := { name := "max", desc := "(II)I", sig := { parameters := [.int, .int], returnType := some .int }, accessFlags := 9, code := some k2c1 }
def k2c2 : Code := { maxStack := 4, maxLocals := 4, code := jdk_29_method_66_code, exceptionTable := #[], attributes := #[] }
def k2m2 : Method := { name := "max", desc := "(JJ)J", sig := { parameters := [.long, .long], returnType := some .long }, accessFlags := 9, code := some k2c2 }
/-- java/lang/Math -/
def k2 : Class := { plain "java/lang/Math" (some 0) with
  accessFlags := 49
  interfaces := #[]
  cf := some (fileOf pool2 1 #[.nestMembers #[98]] #[{ accessFlags := 2, nameIndex := 7, descriptorIndex := 8, attributes := #[] }, { accessFlags := 9, nameIndex := 198, descriptorIndex := 335, attributes := #[] }, { accessFlags := 9, nameIndex := 198, descriptorIndex := 121, attributes := #[] }] 49 4 #[] #[{ accessFlags := 25, nameIndex := 354, descriptorIndex := 339, attributes := #[] }, { accessFlags := 25, nameIndex := 358, descriptorIndex := 339, attributes := #[] }, { accessFlags := 25, nameIndex := 361, descriptorIndex := 339, attributes := #[] }, { accessFlags := 26, nameIndex := 364, descriptorIndex := 339, attributes := #[] }, { accessFlags := 26, nameIndex := 365, descriptorIndex := 339, attributes := #[] }, { accessFlags := 26, nameIndex := 172, descriptorIndex := 173, attributes := #[] }, { accessFlags := 26, nameIndex := 176, descriptorIndex := 173, attributes := #[] }, { accessFlags := 8, nameIndex := 344, descriptorIndex := 339, attributes := #[] }, { accessFlags := 8, nameIndex := 338, descriptorIndex := 339, attributes := #[] }, { accessFlags := 4120, nameIndex := 245, descriptorIndex := 246, attributes := #[] }])
  fields := #[{ name := "E", type := .double, accessFlags := 25, slot := 0, constantValue := 0 }, { name := "PI", type := .double, accessFlags := 25, slot := 1, constantValue := 0 }, { name := "TAU", type := .double, accessFlags := 25, slot := 2, constantValue := 0 }, { name := "DEGREES_TO_RADIANS", type := .double, accessFlags := 26, slot := 3, constantValue := 0 }, { name := "RADIANS_TO_DEGREES", type := .double, accessFlags := 26, slot := 4, constantValue := 0 }, { name := "negativeZeroFloatBits", type := .long, accessFlags := 26, slot := 5, constantValue := 0 }, { name := "negativeZeroDoubleBits", type := .long, accessFlags := 26, slot := 6, constantValue := 0 }, { name := "twoToTheDoubleScaleUp", type := .double, accessFlags := 8, slot := 7, constantValue := 0 }, { name := "twoToTheDoubleScaleDown", type := .double, accessFlags := 8, slot := 8, constantValue := 0 }, { name := "$assertionsDisabled", type := .boolean, accessFlags := 4120, slot := 9, constantValue := 0 }]
  methods := #[k2m0, k2m1, k2m2]
  instanceTypes := #[]
  staticTypes := #[.double, .double, .double, .double, .double, .long, .long, .double, .double, .boolean]
  resolved := Array.replicate 460 none
  statics := none }

def pool3 : Array CpInfo := pool [(1, .class_ 2), (0, u "com/example/libdamp/libdamp/core/DampingFunction"), (0, .class_ 4), (0, u "java/lang/Object")] 11

/-- com/example/libdamp/libdamp/core/DampingFunction -/
def k3 : Class := { plain "com/example/libdamp/libdamp/core/DampingFunction" (some 0) with
  accessFlags := 1537
  interfaces := #[]
  cf := some (fileOf pool3 1 #[] #[] 1537 3 #[] #[])
  fields := #[]
  methods := #[]
  instanceTypes := #[]
  staticTypes := #[]
  resolved := Array.replicate 16 none
  statics := none }

def pool4 : Array CpInfo := pool [(1, .methodref 2 3), (0, .class_ 4), (0, .nameAndType 5 6), (0, u "java/lang/Object"), (0, u "<init>"), (0, u "()V"), (9, .fieldref 17 18), (0, .class_ 19), (0, .nameAndType 20 21), (0, u "com/example/libdamp/libdamp/core/LinearDamping"), (0, u "limit"), (0, u "I"), (14, u "DIGITS"), (0, u "Ljava/util/regex/Pattern;"), (29, u "(I)V"), (23, .class_ 92), (0, u "com/example/libdamp/libdamp/core/DampingFunction"), (0, u "NAME"), (0, u "Ljava/lang/String;"), (10, u "(I)D"), (0, u "tail")] 31

def k4c0 : Code := { maxStack := 3, maxLocals := 2, code := prog_21_method_1_code, exceptionTable := #[], attributes := #[] }
def k4m0 : Method := { name := "<init>", desc := "(I)V", sig := { parameters := [.int], returnType := none }, accessFlags := 1, code := some k4c0 }
def k4c1 : Code := { maxStack := 8, maxLocals := 4, code := prog_21_method_5_code, exceptionTable := #[], attributes := #[] }
def k4m1 : Method := { name := "tail", desc := "(I)D", sig := { parameters := [.int], returnType := some .double }, accessFlags := 1, code := some k4c1 }
/-- com/example/libdamp/libdamp/core/LinearDamping -/
def k4 : Class := { plain "com/example/libdamp/libdamp/core/LinearDamping" (some 0) with
  accessFlags := 49
  interfaces := #[3]
  cf := some (fileOf pool4 17 #[] #[{ accessFlags := 1, nameIndex := 5, descriptorIndex := 67, attributes := #[] }, { accessFlags := 1, nameIndex := 106, descriptorIndex := 105, attributes := #[] }] 49 2 #[91] #[{ accessFlags := 25, nameIndex := 93, descriptorIndex := 94, attributes := #[] }, { accessFlags := 26, nameIndex := 36, descriptorIndex := 37, attributes := #[] }, { accessFlags := 18, nameIndex := 20, descriptorIndex := 21, attributes := #[] }])
  fields := #[{ name := "NAME", type := (.object "java/lang/String"), accessFlags := 25, slot := 0, constantValue := 0 }, { name := "DIGITS", type := (.object "java/util/regex/Pattern"), accessFlags := 26, slot := 1, constantValue := 0 }, { name := "limit", type := .int, accessFlags := 18, slot := 0, constantValue := 0 }]
  methods := #[k4m0, k4m1]
  instanceTypes := #[.int]
  staticTypes := #[(.object "java/lang/String"), (.object "java/util/regex/Pattern")]
  resolved := Array.replicate 138 none
  statics := none }

def pool5 : Array CpInfo := pool [(1, u "java/lang/Cloneable"), (0, .class_ 1), (0, u "java/lang/Object"), (0, .class_ 3)] 3

/-- java/lang/Cloneable -/
def k5 : Class := { plain "java/lang/Cloneable" (some 0) with
  accessFlags := 1537
  interfaces := #[]
  cf := some (fileOf pool5 2 #[] #[] 1537 4 #[] #[])
  fields := #[]
  methods := #[]
  instanceTypes := #[]
  staticTypes := #[]
  resolved := Array.replicate 8 none
  statics := none }

def pool6 : Array CpInfo := pool [(1, u "java/io/Serializable"), (0, .class_ 1), (0, u "java/lang/Object"), (0, .class_ 3)] 3

/-- java/io/Serializable -/
def k6 : Class := { plain "java/io/Serializable" (some 0) with
  accessFlags := 1537
  interfaces := #[]
  cf := some (fileOf pool6 2 #[] #[] 1537 4 #[] #[])
  fields := #[]
  methods := #[]
  instanceTypes := #[]
  staticTypes := #[]
  resolved := Array.replicate 8 none
  statics := none }

/-- the primitive byte -/
def k7 : Class := { plain "byte" none with kind := .primitive 'B', accessFlags := 0x411 }
/-- [B -/
def k8 : Class := { plain "[B" (some 0) with kind := .array 7 .byte, interfaces := #[5, 6], accessFlags := 1041 }

/-- the primitive int -/
def k9 : Class := { plain "int" none with kind := .primitive 'I', accessFlags := 0x411 }
/-- [I -/
def k10 : Class := { plain "[I" (some 0) with kind := .array 9 .int, interfaces := #[5, 6], accessFlags := 1041 }

def heap : Heap := #[]
def classes : Array Class := #[k0, k1, k2, k3, k4, k5, k6, k7, k8, k9, k10]
def interned : List (Array UInt16 × Addr) := []
def slotsUsed : Nat := 0
def theMethod : MethodId := ⟨1, 2⟩
def args0 : Array Value := #[.int 5, .int 7, .int 9]
def aboutOver (below : List Frame) : State where
  vm := { classes := classes, interned := interned.toArray }
  heap := heap
  slotsUsed := slotsUsed
  threads := #[{ frames := .invoking theMethod args0 :: below }]
def below0 : List Frame := [.native { method := ⟨0, 0⟩, args := #[] }]
def about1 : State := aboutOver below0
def p0 : Program := .bare "" "" ""
def e0 : Env := launch0.env 0 0 0
theorem w_frames : about1.frames = Frame.invoking theMethod args0 :: below0 := rfl
set_option maxRecDepth 65536 in
theorem w_args : argsFit about1.vm theMethod args0 = true := by decide +kernel
set_option maxRecDepth 65536 in
theorem w_heap : heapFits about1 = true := by decide +kernel
set_option maxRecDepth 65536 in
theorem w_runnable : about1.curStatus? = some .runnable := by decide +kernel
set_option maxRecDepth 65536 in
theorem w_alone : about1.alone = true := by decide +kernel
set_option maxRecDepth 65536 in
theorem w_named : about1.methodNamed? x = some theMethod := by decide +kernel
set_option maxRecDepth 65536 in
theorem w_hears : about1.hears theMethod below0 = true := by decide +kernel
set_option maxRecDepth 65536 in
theorem w_ripe : about1.ripe theMethod args0 below0 = true := by decide +kernel
theorem w_running : about1.status = .running := rfl
set_option maxRecDepth 65536 in
theorem w_room : about1.hasRoom e0.platform room_1 = true :=
  launch0.hasRoom_least _ room_1 (by decide +kernel) (by decide +kernel) (by decide +kernel) (by decide +kernel) (by decide +kernel) (by decide +kernel)
theorem allAtoms_all (ts : List Jvm.Cond) (a : Array Jvm.Value) (st : Jvm.State) : (allAtoms ts).before a st = ts.all (fun c => c.before a st) := by
  induction ts with
  | nil => rfl
  | cons c t ih =>
    show (Jvm.Cond.and c (allAtoms t)).before a st = _
    rw [Jvm.Cond.before_and, ih, List.all_cons]
def words1 : List Jvm.Cond := Jvm.Cond.code x code maxLocals ret :: tables_1
/-- a 'code' word, met by the world's own term for the bytes: nothing is compared byte by byte -/
theorem code_word {y : MethodName} {bytes : ByteArray} {mx : Nat} {rt : Option FieldType} {a : Array Value} {s : State} {m : MethodId} {meth : Method} {c : Code} (h1 : s.methodNamed? y = some m) (h2 : s.vm.method? m = some meth) (h3 : meth.code = some c) (h4 : c.code = bytes)
    (h5 : (c.maxLocals == mx && c.exceptionTable.isEmpty && decide (c.maxStack ≤ mostOperands) && decide (meth.sig.returnType = rt) && !meth.locks && decide (parseMethodDescriptor y.desc = some meth.sig)) = true) : (Jvm.Cond.code y bytes mx rt).before a s = true := by
  simp only [Bool.and_eq_true, beq_iff_eq, Bool.not_eq_true', decide_eq_true_eq] at h5
  obtain ⟨⟨⟨⟨⟨g1, g2⟩, g3⟩, g4⟩, g5⟩, g6⟩ := h5
  simp [Cond.before, Cond.holds, Cond.value, h1, h2, h3, h4, g1, g2, g3, g4, g5, g6]
def isCode : Jvm.Cond → Bool
  | .code _ _ _ _ => true
  | _ => false
theorem all_split {L : List Jvm.Cond} {P : Jvm.Cond → Bool} (h1 : L.all (fun c => isCode c || P c) = true) (h2 : ∀ c ∈ L.filter isCode, P c = true) : L.all P = true := by
  refine List.all_eq_true.mpr fun c hc => ?_
  have h := List.all_eq_true.mp h1 c hc
  rcases Bool.eq_false_or_eq_true (isCode c) with hi | hi
  · exact h2 c (List.mem_filter.mpr ⟨hc, hi⟩)
  · simpa [hi] using h
set_option maxRecDepth 65536 in
theorem w_c0 : (Jvm.Cond.code x code maxLocals ret).before args0 about1 = true := code_word (m := ⟨1, 2⟩) (meth := k1m2) (c := k1c2) (by decide +kernel) rfl rfl rfl (by decide +kernel)
set_option maxRecDepth 65536 in
theorem w_c1 : (Jvm.Cond.code ({ cls := "java/lang/Math", name := "max", desc := "(II)I" } : Jvm.MethodName) jdk_29_method_65_code (2 : Nat) (Option.some Jvm.ClassFile.FieldType.int)).before args0 about1 = true := code_word (m := ⟨2, 1⟩) (meth := k2m1) (c := k2c1) (by decide +kernel) rfl rfl rfl (by decide +kernel)
set_option maxRecDepth 65536 in
theorem w_c2 : (Jvm.Cond.code ({ cls := "com/example/libdamp/libdamp/core/LinearDamping", name := "<init>", desc := "(I)V" } : Jvm.MethodName) prog_21_method_1_code (2 : Nat) (Option.none : Option Jvm.ClassFile.FieldType)).before args0 about1 = true := code_word (m := ⟨4, 0⟩) (meth := k4m0) (c := k4c0) (by decide +kernel) rfl rfl rfl (by decide +kernel)
set_option maxRecDepth 65536 in
theorem w_c3 : (Jvm.Cond.code ({ cls := "java/lang/Object", name := "<init>", desc := "()V" } : Jvm.MethodName) object_method_1_code (1 : Nat) (Option.none : Option Jvm.ClassFile.FieldType)).before args0 about1 = true := code_word (m := ⟨0, 0⟩) (meth := k0m0) (c := k0c0) (by decide +kernel) rfl rfl rfl (by decide +kernel)
set_option maxRecDepth 65536 in
theorem w_c4 : (Jvm.Cond.code ({ cls := "com/example/libdamp/libdamp/core/LinearDamping", name := "tail", desc := "(I)D" } : Jvm.MethodName) prog_21_method_5_code (4 : Nat) (Option.some Jvm.ClassFile.FieldType.double)).before args0 about1 = true := code_word (m := ⟨4, 1⟩) (meth := k4m1) (c := k4c1) (by decide +kernel) rfl rfl rfl (by decide +kernel)
set_option maxRecDepth 65536 in
theorem w_c5 : (Jvm.Cond.code ({ cls := "java/lang/Math", name := "max", desc := "(JJ)J" } : Jvm.MethodName) jdk_29_method_66_code (4 : Nat) (Option.some Jvm.ClassFile.FieldType.long)).before args0 about1 = true := code_word (m := ⟨2, 2⟩) (meth := k2m2) (c := k2c2) (by decide +kernel) rfl rfl rfl (by decide +kernel)
set_option maxRecDepth 65536 in
theorem w_c6 : (Jvm.Cond.code ({ cls := "com/example/libdamp/libdamp/core/LinearDampingTailPinLaw", name := "triangle", desc := "(J)J" } : Jvm.MethodName) method_2_code (2 : Nat) (Option.some Jvm.ClassFile.FieldType.long)).before args0 about1 = true := code_word (m := ⟨1, 1⟩) (meth := k1m1) (c := k1c1) (by decide +kernel) rfl rfl rfl (by decide +kernel)
def codes1 : List Jvm.Cond := [Jvm.Cond.code x code maxLocals ret, Jvm.Cond.code ({ cls := "java/lang/Math", name := "max", desc := "(II)I" } : Jvm.MethodName) jdk_29_method_65_code (2 : Nat) (Option.some Jvm.ClassFile.FieldType.int), Jvm.Cond.code ({ cls := "com/example/libdamp/libdamp/core/LinearDamping", name := "<init>", desc := "(I)V" } : Jvm.MethodName) prog_21_method_1_code (2 : Nat) (Option.none : Option Jvm.ClassFile.FieldType), Jvm.Cond.code ({ cls := "java/lang/Object", name := "<init>", desc := "()V" } : Jvm.MethodName) object_method_1_code (1 : Nat) (Option.none : Option Jvm.ClassFile.FieldType), Jvm.Cond.code ({ cls := "com/example/libdamp/libdamp/core/LinearDamping", name := "tail", desc := "(I)D" } : Jvm.MethodName) prog_21_method_5_code (4 : Nat) (Option.some Jvm.ClassFile.FieldType.double), Jvm.Cond.code ({ cls := "java/lang/Math", name := "max", desc := "(JJ)J" } : Jvm.MethodName) jdk_29_method_66_code (4 : Nat) (Option.some Jvm.ClassFile.FieldType.long), Jvm.Cond.code ({ cls := "com/example/libdamp/libdamp/core/LinearDampingTailPinLaw", name := "triangle", desc := "(J)J" } : Jvm.MethodName) method_2_code (2 : Nat) (Option.some Jvm.ClassFile.FieldType.long)]
set_option maxRecDepth 65536 in
theorem codes_eq : words1.filter isCode = codes1 := rfl
theorem w_codes : ∀ c ∈ words1.filter isCode, c.before args0 about1 = true := by
  rw [codes_eq]
  intro c hc
  simp only [codes1, List.mem_cons, List.not_mem_nil, or_false] at hc
  rcases hc with rfl | rfl | rfl | rfl | rfl | rfl | rfl
  · exact w_c0
  · exact w_c1
  · exact w_c2
  · exact w_c3
  · exact w_c4
  · exact w_c5
  · exact w_c6
set_option maxRecDepth 65536 in
theorem w_t1 : (words1.take 24).all (fun c => isCode c || c.before args0 about1) = true := by decide +kernel
set_option maxRecDepth 65536 in
theorem w_t2 : (words1.drop 24).all (fun c => isCode c || c.before args0 about1) = true := by decide +kernel
theorem w_tables : (allAtoms (Jvm.Cond.code x code maxLocals ret :: tables_1)).before args0 about1 = true := by
  rw [allAtoms_all]
  show words1.all (fun c => c.before args0 about1) = true
  refine all_split ?_ w_codes
  rw [← List.take_append_drop 24 words1, List.all_append, w_t1, w_t2]
  rfl
set_option maxRecDepth 65536 in
theorem w_case : (Jvm.Cond.and given_1 narrow_1).before args0 about1 = true := by decide +kernel
theorem w_applies : (headSpec (Jvm.Cond.code x code maxLocals ret :: tables_1) room_1).applies x e0.platform about1 = true :=
  (Spec.applies_iff w_frames).mpr ⟨w_running, w_runnable, w_alone, w_named, w_hears, w_ripe, w_room, w_tables⟩
theorem atStart : AtStart classFile x code maxLocals ret World_1 tables_1 room_1 Calls_1 rest_1 Pre_1 launch0 p0 e0 about1 theMethod args0 below0 :=
  ⟨lists_1, trivial, launch0.admits_env _ _ _, launch0.least_env, fairChoices_fair.cas, fairChoices_fair.clock, w_frames, w_args, w_heap, w_applies, trivial, trivial, w_case⟩
end start1
theorem witness_1 : WitnessClaimed_1 := ⟨start1.p0, start1.e0, start1.about1, start1.theMethod, start1.args0, start1.below0, start1.atStart⟩
end Jvm.Pilot.@@N@@
